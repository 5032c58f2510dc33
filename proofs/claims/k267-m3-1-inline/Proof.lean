import JvmDerived
import JvmDerived.Pilot.@@N@@Statement
import JvmDerived.Pilot.@@N@@Code
set_option linter.unusedVariables false
set_option linter.unusedSimpArgs false
namespace Jvm.OwnK
open Jvm Sem ClassFile Op Lib Jvm.Stand Jvm.Free Jvm.LawKit Jvm.RoadKit Bundle
section Base
abbrev sI (x : Int32) : Slot := .val (.int x)
abbrev sR (a : Addr) : Slot := .val (.ref a)
abbrev sU : Slot := .unset
variable {p : Program} {l : Launch} {e : Env} {R : Room} {s : State} {m : MethodId} {args : Array Value} {below : List Frame} {meth : Method} {c : Code} {Z : State} {a0 : Array Value} {EL : List (String × Nat)} {nb : Bool} {own : String} {code : ByteArray} {ml : Nat} {ret : Option FieldType} {nm : String} {vm : Vm} {T : State} {locs : List Loc} {ce sl : Nat} {h : Heap} {Q : Option Value → Vm → Heap → Prop} {ck sk : Nat}
theorem lb {n m : Nat} (h : Nat.ble n m = true) : n ≤ m := Nat.le_of_ble_eq_true h
/-- where a walk stands: the method's own facts; the Stand over the start with the tables at hand; what the heap is; what is booked -/
def OW (p : Program) (l : Launch) (e : Env) (R : Room) (s : State) (m : MethodId) (args : Array Value) (below : List Frame) (meth : Method) (c : Code) (Z : State) (a0 : Array Value) (EL : List (String × Nat)) (nb : Bool) (own : String) (code : ByteArray) (ml : Nat) (ret : Option FieldType) (nm : String)
    (vm : Vm) (T : State) (locs : List Loc) (ce sl : Nat) (h : Heap) : Prop :=
  (p.tables.exec = Jvm.exec ∧ c.code = code ∧ c.maxLocals = ml ∧ meth.sig.returnType = ret ∧ meth.locks = false ∧ meth.name = nm) ∧
  Stand p l e R (s.setVm vm) m args below meth c T locs ce sl ∧ T.heap = h ∧ (∃ k0, s.Since vm k0 ∧ k0 ≤ h.size) ∧ Z.Warmed39 vm ∧ vm.findClass own = some m.cls ∧
  CHr Z EL s.vm s.heap vm h ∧ Fr Z.heap.size locs ∧ Ext Z.heap h ∧ (nb = true → s.WarmedH vm) ∧ EW Z a0 EL
/-- the body comes to its end from here -/
def OG (p : Program) (e : Env) (below : List Frame) (s : State) (Z : State) (EL : List (String × Nat)) (nb : Bool) (Q : Option Value → Vm → Heap → Prop) (ck sk : Nat) (T : State) (g : JFrame) : Prop :=
  ∃ s₂ o, Steps p.tables e below (T.setTop g) s₂ ∧ s₂.status = .running ∧ Ended s₂ below o ∧ ∃ v L, o = .returned v ∧ (Q v s₂.vm s₂.heap ∧ Fr Z.heap.size L ∧ Ext Z.heap s₂.heap) ∧ (nb = true → s.WarmedH s₂.vm) ∧ CHr Z EL s.vm s.heap s₂.vm s₂.heap ∧ ReturnedEndW s o s₂ L ck sk
/-- a method's contract -/
def OC (l : Launch) (Z : State) (EL : List (String × Nat)) (nb : Bool) (ws : List Jvm.Cond) (y : MethodName) (bytes : ByteArray) (ml : Nat) (ret : Option FieldType) (rm : Room) (as' : Array Value) (h : Heap) (sf : List Addr) (Q : Option Value → Vm → Heap → Prop) : Prop :=
  MetFree l y (head1 (Jvm.Cond.code y bytes ml ret :: ws) rm) (fun a U => a = as' ∧ Z.Warmed39 U.vm ∧ U.heap = h ∧ CHv Z EL U.vm h ∧ Ext Z.heap h ∧ ∀ x ∈ sf, Safe Z EL U.vm h x) (fun _ _ _ _ _ => True)
    (fun _ U o U' => ∃ v L, o = .returned v ∧ (Q v U'.vm U'.heap ∧ Fr Z.heap.size L ∧ Ext Z.heap U'.heap) ∧ (nb = true → U.WarmedH U'.vm) ∧ CHr Z EL U.vm U.heap U'.vm U'.heap ∧ ReturnedEndW U o U' L rm.cells rm.slots)
/-- one step of the walk -/
abbrev Lt (p : Program) (e : Env) (below : List Frame) (T : State) (g : JFrame) (T' : State) (g' : JFrame) : Prop := ∀ t, Steps p.tables e below (T'.setTop g') t → Steps p.tables e below (T.setTop g) t
theorem oLift {g g' : JFrame} {T' : State} (st : Lt p e below T g T' g') (k : OG p e below s Z EL nb Q ck sk T' g') : OG p e below s Z EL nb Q ck sk T g := by
  obtain ⟨s₂, o, h1, r⟩ := k
  exact ⟨s₂, o, st _ h1, r⟩
theorem oEq {g g' : JFrame} (q : g = g') (k : OG p e below s Z EL nb Q ck sk T g') : OG p e below s Z EL nb Q ck sk T g := q ▸ k
theorem oEnter {ws : List Jvm.Cond} {y : MethodName} {bytes : ByteArray} {rm : Room} {as' : Array Value} {sf : List Addr} (hp : plainFor y = true) (hEW : EW Z a0 EL)
    (body : ∀ (p : Program) (e : Env) (s : State) (m : MethodId) (below : List Frame) (meth : Method) (c : Code) (T : State), OW p l e rm s m as' below meth c Z a0 EL nb y.cls bytes ml ret y.name s.vm T [] 0 0 h → (∀ x ∈ sf, Safe Z EL s.vm h x) → OG p e below s Z EL nb Q rm.cells rm.slots T (entryFrame m as' ml)) :
    OC l Z EL nb ws y bytes ml ret rm as' h sf Q := by
  refine MetFree.of_bodySF hp hisR ?_
  intro p e s m args below meth c s₁ Bd hml hP hK
  obtain ⟨rfl, hZ, hh, hC, hE, hSf⟩ := hP
  have X0 : Stand p l e rm s m _ below meth c s₁ [] 0 0 := Stand.of_body Bd
  have e0 : s₁.heap = h := by rw [← hh, Bd.state]; rfl
  obtain ⟨s₂, o, h1, h2, h3, v, L, h4, h5, h6, h7, h8⟩ := body p e s m below meth c s₁
    ⟨⟨Bd.exec, Bd.bytes, hml, Bd.returns, BodyLoose.notSynchronized Bd, (name_of_methodNamed Bd.named Bd.method).1⟩, X0, e0, ⟨0, (State.WarmedH.refl s).since _, Nat.zero_le _⟩, hZ, findClass_of_methodNamed Bd.named, by subst hh; exact CHr.refl hC, Fr.nil _, hE, fun _ => State.WarmedH.refl s, hEW⟩ hSf
  exact ⟨s₂, o, h1, h2, h3, v, L, h4, h5, h6, h7, h8⟩
/-! ### the plain steps, by evaluation -/
def oIl : Instr → Nat
  | .bipush _ => 2 | .sipush _ => 3 | .aload _ => 2 | .iload _ => 2 | .istore _ => 2 | .astore _ => 2 | .iinc _ _ => 3 | .goto _ => 3 | _ => 1
def oNx (pc : Nat) : Instr → Nat
  | .goto o => ((pc : Int) + o).toNat
  | i => pc + oIl i
def oOkG (pc : Nat) : Instr → Bool
  | .goto o => decide (0 ≤ (pc : Int) + o)
  | _ => true
def oSeg (code : ByteArray) : Nat → List Instr → Bool
  | _, [] => true
  | pc, i :: is => decide (decode code pc = .ok (i, oIl i)) && (oOkG pc i && oSeg code (oNx pc i) is)
def oOne : Slot → Bool
  | .unset => true
  | .val w => decide (w.category = 1)
  | .second => false
theorem oOne_ok {o : Slot} (h : oOne o = true) : o = .unset ∨ ∃ w, o = .val w ∧ w.category = 1 := by
  cases o with
  | unset => exact Or.inl rfl
  | second => cases h
  | val w => exact Or.inr ⟨w, rfl, of_decide_eq_true h⟩
theorem oCat {v : Value} (h : v.isRef = true) : v.category = 1 := by cases v <;> simp_all [Value.isRef, Value.category]
def oS1 (i : Instr) (ls : Array Slot) (st : List Value) : Option (Array Slot × List Value × Bool) :=
  match i with
  | .aload_n k => match ls[k.val]? with | some (.val v) => some (ls, v :: st, v.isRef) | _ => none
  | .aload k => match ls[k]? with | some (.val v) => some (ls, v :: st, v.isRef) | _ => none
  | .iload_n k => match ls[k.val]? with | some (.val (.int x)) => some (ls, .int x :: st, true) | _ => none
  | .iload k => match ls[k]? with | some (.val (.int x)) => some (ls, .int x :: st, true) | _ => none
  | .iconst i => some (ls, .int (Int32.ofInt i) :: st, true)
  | .bipush i => some (ls, .int (Int8.ofInt i).toInt32 :: st, true)
  | .sipush i => some (ls, .int (Int16.ofInt i).toInt32 :: st, true)
  | .aconst_null => some (ls, .null :: st, true)
  | .goto _ => some (ls, st, true)
  | .istore_n k => match st with | .int x :: rest => (match storeLocals ls k.val (.int x) with | some l' => some (l', rest, true) | none => none) | _ => none
  | .istore k => match st with | .int x :: rest => (match storeLocals ls k (.int x) with | some l' => some (l', rest, true) | none => none) | _ => none
  | .astore_n k => match st with | x :: rest => (match ls[k.val]? with | some o => some (ls.setIfInBounds k.val (.val x), rest, x.isRef && oOne o) | none => none) | _ => none
  | .astore k => match st with | x :: rest => (match ls[k]? with | some o => some (ls.setIfInBounds k (.val x), rest, x.isRef && oOne o) | none => none) | _ => none
  | .iinc k cst => match ls[k]? with | some (.val (.int x)) => (match storeLocals ls k (.int (x + Int32.ofInt cst)) with | some l' => some (l', st, true) | none => none) | _ => none
  | .dup => match st with | x :: rest => some (ls, x :: x :: rest, decide (x.category = 1)) | _ => none
  | .pop => match st with | x :: rest => some (ls, rest, decide (x.category = 1)) | _ => none
  | .dup_x1 => match st with | x :: y :: rest => some (ls, x :: y :: x :: rest, decide (x.category = 1) && decide (y.category = 1)) | _ => none
  | .dup2 => match st with | x :: y :: rest => some (ls, x :: y :: x :: y :: rest, decide (x.category = 1) && decide (y.category = 1)) | _ => none
  | .iadd => match st with | .int y :: .int x :: rest => some (ls, .int (x + y) :: rest, true) | _ => none
  | .isub => match st with | .int y :: .int x :: rest => some (ls, .int (x - y) :: rest, true) | _ => none
  | .imul => match st with | .int y :: .int x :: rest => some (ls, .int (x * y) :: rest, true) | _ => none
  | .idiv => match st with | .int y :: .int x :: rest => some (ls, .int (x / y) :: rest, decide (y ≠ 0)) | _ => none
  | .irem => match st with | .int y :: .int x :: rest => some (ls, .int (x % y) :: rest, decide (y ≠ 0)) | _ => none
  | .iand => match st with | .int y :: .int x :: rest => some (ls, .int (x &&& y) :: rest, true) | _ => none
  | .ior => match st with | .int y :: .int x :: rest => some (ls, .int (x ||| y) :: rest, true) | _ => none
  | .ixor => match st with | .int y :: .int x :: rest => some (ls, .int (x ^^^ y) :: rest, true) | _ => none
  | .ishl => match st with | .int y :: .int x :: rest => some (ls, .int (x <<< (y &&& 31)) :: rest, true) | _ => none
  | .ishr => match st with | .int y :: .int x :: rest => some (ls, .int (x >>> (y &&& 31)) :: rest, true) | _ => none
  | .iushr => match st with | .int y :: .int x :: rest => some (ls, .int (XT.ushr x y) :: rest, true) | _ => none
  | .ineg => match st with | .int x :: rest => some (ls, .int (-x) :: rest, true) | _ => none
  | .i2b => match st with | .int x :: rest => some (ls, .int (x.toInt8.toInt32) :: rest, true) | _ => none
  | .i2c => match st with | .int x :: rest => some (ls, .int (x.toUInt32.toUInt16.toUInt32.toInt32) :: rest, true) | _ => none
  | .i2s => match st with | .int x :: rest => some (ls, .int (x.toInt16.toInt32) :: rest, true) | _ => none
  | .i2l => match st with | .int x :: rest => some (ls, .long x.toInt64 :: rest, true) | _ => none
  | .lsub => match st with | .long y :: .long x :: rest => some (ls, .long (x - y) :: rest, true) | _ => none
  | .lcmp => match st with | .long y :: .long x :: rest => some (ls, .int (XT.cmpL x y) :: rest, true) | _ => none
  | _ => none
def oRun : List Instr → Array Slot → List Value → Option (Array Slot × List Value × Bool)
  | [], ls, st => some (ls, st, true)
  | i :: is, ls, st => match oS1 i ls st with
    | some (ls1, st1, b1) => (match oRun is ls1 st1 with | some (ls2, st2, b2) => some (ls2, st2, b1 && b2) | none => none)
    | none => none
def oNxs : Nat → List Instr → Nat
  | pc, [] => pc
  | pc, i :: is => oNxs (oNx pc i) is
theorem oS1_ok (H : At T m c below) (hx : p.tables.exec = Jvm.exec) {i : Instr} {pc : Nat} {ls ls' : Array Slot} {st st' : List Value} {b : Bool} {t : State} (hd : decode c.code pc = .ok (i, oIl i)) (hg : oOkG pc i = true) (hs : oS1 i ls st = some (ls', st', b)) (hb : b = true)
    (hr : Steps p.tables e below (T.setTop (mkF m (oNx pc i) ls' st')) t) : Steps p.tables e below (T.setTop (mkF m pc ls st)) t := by
  subst hb
  cases i
  case aload_n k =>
    simp only [oS1] at hs
    split at hs
    · rename_i v hv
      simp only [Option.some.injEq, Prod.mk.injEq] at hs
      obtain ⟨rfl, rfl, h3⟩ := hs
      exact XS.aloadN (g := mkF m pc ls _) H hx rfl hd hv h3 hr
    · cases hs
  case aload k =>
    simp only [oS1] at hs
    split at hs
    · rename_i v hv
      simp only [Option.some.injEq, Prod.mk.injEq] at hs
      obtain ⟨rfl, rfl, h3⟩ := hs
      exact XS.aload (g := mkF m pc ls _) H hx rfl hd hv h3 hr
    · cases hs
  case iload_n k =>
    simp only [oS1] at hs
    split at hs
    · rename_i x hv
      simp only [Option.some.injEq, Prod.mk.injEq] at hs
      obtain ⟨rfl, rfl, -⟩ := hs
      exact XS.iloadN (g := mkF m pc ls _) H hx rfl hd hv hr
    · cases hs
  case iload k =>
    simp only [oS1] at hs
    split at hs
    · rename_i x hv
      simp only [Option.some.injEq, Prod.mk.injEq] at hs
      obtain ⟨rfl, rfl, -⟩ := hs
      exact XS.iload (g := mkF m pc ls _) H hx rfl hd hv hr
    · cases hs
  case iconst z =>
    simp only [oS1, Option.some.injEq, Prod.mk.injEq] at hs
    obtain ⟨rfl, rfl, -⟩ := hs
    exact XS.iconst (g := mkF m pc ls _) H hx rfl hd hr
  case bipush z =>
    simp only [oS1, Option.some.injEq, Prod.mk.injEq] at hs
    obtain ⟨rfl, rfl, -⟩ := hs
    exact XS.bipush (g := mkF m pc ls _) H hx rfl hd hr
  case sipush z =>
    simp only [oS1, Option.some.injEq, Prod.mk.injEq] at hs
    obtain ⟨rfl, rfl, -⟩ := hs
    exact XS.sipush (g := mkF m pc ls _) H hx rfl hd hr
  case aconst_null =>
    simp only [oS1, Option.some.injEq, Prod.mk.injEq] at hs
    obtain ⟨rfl, rfl, -⟩ := hs
    exact XS.aconstNull (g := mkF m pc ls _) H hx rfl hd hr
  case goto o =>
    simp only [oS1, Option.some.injEq, Prod.mk.injEq] at hs
    obtain ⟨rfl, rfl, -⟩ := hs
    exact XS.goto (g := mkF m pc ls _) H hx rfl (pc0 := pc) rfl hd (of_decide_eq_true hg) rfl hr
  case astore_n k =>
    simp only [oS1] at hs
    split at hs
    · split at hs
      · rename_i o ho
        simp only [Option.some.injEq, Prod.mk.injEq] at hs
        obtain ⟨rfl, rfl, h3⟩ := hs
        rw [Bool.and_eq_true] at h3
        exact XS.astoreN (g := mkF m pc ls _) H hx rfl hd rfl h3.1 (XS.store1 ho (oOne_ok h3.2) (oCat h3.1)) hr
      · cases hs
    · cases hs
  case astore k =>
    simp only [oS1] at hs
    split at hs
    · split at hs
      · rename_i o ho
        simp only [Option.some.injEq, Prod.mk.injEq] at hs
        obtain ⟨rfl, rfl, h3⟩ := hs
        rw [Bool.and_eq_true] at h3
        exact XS.astore (g := mkF m pc ls _) H hx rfl hd rfl h3.1 (XS.store1 ho (oOne_ok h3.2) (oCat h3.1)) hr
      · cases hs
    · cases hs
  case istore_n k =>
    simp only [oS1] at hs
    split at hs
    · split at hs
      · rename_i l2 hl
        simp only [Option.some.injEq, Prod.mk.injEq] at hs
        obtain ⟨rfl, rfl, h3⟩ := hs
        exact XS.istoreN (g := mkF m pc ls _) H hx rfl hd rfl hl hr
      · cases hs
    · cases hs
  case istore k =>
    simp only [oS1] at hs
    split at hs
    · split at hs
      · rename_i l2 hl
        simp only [Option.some.injEq, Prod.mk.injEq] at hs
        obtain ⟨rfl, rfl, h3⟩ := hs
        exact XS.istore (g := mkF m pc ls _) H hx rfl hd rfl hl hr
      · cases hs
    · cases hs
  case iinc k z =>
    simp only [oS1] at hs
    split at hs
    · rename_i x hv
      split at hs
      · rename_i l2 hl
        simp only [Option.some.injEq, Prod.mk.injEq] at hs
        obtain ⟨rfl, rfl, -⟩ := hs
        exact XS.iinc (g := mkF m pc ls _) H hx rfl hd hv hl hr
      · cases hs
    · cases hs
  case dup =>
    simp only [oS1] at hs
    split at hs
    · simp only [Option.some.injEq, Prod.mk.injEq] at hs
      obtain ⟨rfl, rfl, h3⟩ := hs
      exact XS.dup (g := mkF m pc ls _) H hx rfl hd rfl (of_decide_eq_true h3) hr
    · cases hs
  case pop =>
    simp only [oS1] at hs
    split at hs
    · simp only [Option.some.injEq, Prod.mk.injEq] at hs
      obtain ⟨rfl, rfl, h3⟩ := hs
      exact XT.pop (g := mkF m pc ls _) H hx rfl hd rfl (of_decide_eq_true h3) hr
    · cases hs
  case dup_x1 =>
    simp only [oS1] at hs
    split at hs
    · simp only [Option.some.injEq, Prod.mk.injEq] at hs
      obtain ⟨rfl, rfl, h3⟩ := hs
      rw [Bool.and_eq_true] at h3
      exact XT.dupX1 (g := mkF m pc ls _) H hx rfl hd rfl (of_decide_eq_true h3.1) (of_decide_eq_true h3.2) hr
    · cases hs
  case dup2 =>
    simp only [oS1] at hs
    split at hs
    · simp only [Option.some.injEq, Prod.mk.injEq] at hs
      obtain ⟨rfl, rfl, h3⟩ := hs
      rw [Bool.and_eq_true] at h3
      exact XT.dup2 (g := mkF m pc ls _) H hx rfl hd rfl (of_decide_eq_true h3.1) (of_decide_eq_true h3.2) hr
    · cases hs
  case iadd =>
    simp only [oS1] at hs
    split at hs
    · simp only [Option.some.injEq, Prod.mk.injEq] at hs
      obtain ⟨rfl, rfl, -⟩ := hs
      exact XS.iadd (g := mkF m pc ls _) H hx rfl hd rfl hr
    · cases hs
  case isub =>
    simp only [oS1] at hs
    split at hs
    · simp only [Option.some.injEq, Prod.mk.injEq] at hs
      obtain ⟨rfl, rfl, -⟩ := hs
      exact XS.isub (g := mkF m pc ls _) H hx rfl hd rfl hr
    · cases hs
  case imul =>
    simp only [oS1] at hs
    split at hs
    · simp only [Option.some.injEq, Prod.mk.injEq] at hs
      obtain ⟨rfl, rfl, -⟩ := hs
      exact XS.imul (g := mkF m pc ls _) H hx rfl hd rfl hr
    · cases hs
  case iand =>
    simp only [oS1] at hs
    split at hs
    · simp only [Option.some.injEq, Prod.mk.injEq] at hs
      obtain ⟨rfl, rfl, -⟩ := hs
      exact XS.iand (g := mkF m pc ls _) H hx rfl hd rfl hr
    · cases hs
  case ior =>
    simp only [oS1] at hs
    split at hs
    · simp only [Option.some.injEq, Prod.mk.injEq] at hs
      obtain ⟨rfl, rfl, -⟩ := hs
      exact XT.ior (g := mkF m pc ls _) H hx rfl hd rfl hr
    · cases hs
  case ixor =>
    simp only [oS1] at hs
    split at hs
    · simp only [Option.some.injEq, Prod.mk.injEq] at hs
      obtain ⟨rfl, rfl, -⟩ := hs
      exact XT.ixor (g := mkF m pc ls _) H hx rfl hd rfl hr
    · cases hs
  case ishl =>
    simp only [oS1] at hs
    split at hs
    · simp only [Option.some.injEq, Prod.mk.injEq] at hs
      obtain ⟨rfl, rfl, -⟩ := hs
      exact XT.ishl (g := mkF m pc ls _) H hx rfl hd rfl hr
    · cases hs
  case ishr =>
    simp only [oS1] at hs
    split at hs
    · simp only [Option.some.injEq, Prod.mk.injEq] at hs
      obtain ⟨rfl, rfl, -⟩ := hs
      exact XT.ishr (g := mkF m pc ls _) H hx rfl hd rfl hr
    · cases hs
  case iushr =>
    simp only [oS1] at hs
    split at hs
    · simp only [Option.some.injEq, Prod.mk.injEq] at hs
      obtain ⟨rfl, rfl, -⟩ := hs
      exact XT.iushr (g := mkF m pc ls _) H hx rfl hd rfl hr
    · cases hs
  case ineg =>
    simp only [oS1] at hs
    split at hs
    · simp only [Option.some.injEq, Prod.mk.injEq] at hs
      obtain ⟨rfl, rfl, -⟩ := hs
      exact XS.ineg (g := mkF m pc ls _) H hx rfl hd rfl hr
    · cases hs
  case i2b =>
    simp only [oS1] at hs
    split at hs
    · simp only [Option.some.injEq, Prod.mk.injEq] at hs
      obtain ⟨rfl, rfl, -⟩ := hs
      exact XT.i2b (g := mkF m pc ls _) H hx rfl hd rfl hr
    · cases hs
  case i2c =>
    simp only [oS1] at hs
    split at hs
    · simp only [Option.some.injEq, Prod.mk.injEq] at hs
      obtain ⟨rfl, rfl, -⟩ := hs
      exact XT.i2c (g := mkF m pc ls _) H hx rfl hd rfl hr
    · cases hs
  case i2s =>
    simp only [oS1] at hs
    split at hs
    · simp only [Option.some.injEq, Prod.mk.injEq] at hs
      obtain ⟨rfl, rfl, -⟩ := hs
      exact XT.i2s (g := mkF m pc ls _) H hx rfl hd rfl hr
    · cases hs
  case i2l =>
    simp only [oS1] at hs
    split at hs
    · simp only [Option.some.injEq, Prod.mk.injEq] at hs
      obtain ⟨rfl, rfl, -⟩ := hs
      exact XT.i2l (g := mkF m pc ls _) H hx rfl hd rfl hr
    · cases hs
  case lsub =>
    simp only [oS1] at hs
    split at hs
    · simp only [Option.some.injEq, Prod.mk.injEq] at hs
      obtain ⟨rfl, rfl, -⟩ := hs
      exact XT.lsub (g := mkF m pc ls _) H hx rfl hd rfl hr
    · cases hs
  case lcmp =>
    simp only [oS1] at hs
    split at hs
    · simp only [Option.some.injEq, Prod.mk.injEq] at hs
      obtain ⟨rfl, rfl, -⟩ := hs
      exact XT.lcmp (g := mkF m pc ls _) H hx rfl hd rfl hr
    · cases hs
  case idiv =>
    simp only [oS1] at hs
    split at hs
    · simp only [Option.some.injEq, Prod.mk.injEq] at hs
      obtain ⟨rfl, rfl, h3⟩ := hs
      exact XS.idiv (g := mkF m pc ls _) H hx rfl hd rfl (of_decide_eq_true h3) hr
    · cases hs
  case irem =>
    simp only [oS1] at hs
    split at hs
    · rename_i y x rest
      simp only [Option.some.injEq, Prod.mk.injEq] at hs
      obtain ⟨rfl, rfl, h3⟩ := hs
      refine XS.irem (g := mkF m pc ls _) H hx rfl hd rfl (of_decide_eq_true h3) ?_
      rw [irem_eq_mod x y]
      exact hr
    · cases hs
  all_goals (simp [oS1] at hs)
theorem oGo (W : OW p l e R s m args below meth c Z a0 EL nb own code ml ret nm vm T locs ce sl h) : ∀ (is : List Instr) {pc : Nat} {ls ls' : Array Slot} {st st' : List Value} {b : Bool}, oSeg code pc is = true → oRun is ls st = some (ls', st', b) → b = true → ∀ {pc' : Nat}, oNxs pc is = pc' → OG p e below s Z EL nb Q ck sk T (mkF m pc' ls' st') → OG p e below s Z EL nb Q ck sk T (mkF m pc ls st)
  | [], pc, ls, ls', st, st', b, _, hr, _, pc', hp, k => by
    simp only [oRun, Option.some.injEq, Prod.mk.injEq] at hr
    obtain ⟨rfl, rfl, -⟩ := hr
    subst hp
    exact k
  | i :: is, pc, ls, ls', st, st', b, hg, hr, hb, pc', hp, k => by
    simp only [oRun] at hr
    split at hr
    · rename_i ls1 st1 b1 h1
      split at hr
      · rename_i ls2 st2 b2 h2
        simp only [Option.some.injEq, Prod.mk.injEq] at hr
        obtain ⟨rfl, rfl, rfl⟩ := hr
        rw [Bool.and_eq_true] at hb
        simp only [oSeg, Bool.and_eq_true] at hg
        have hd : decode c.code pc = .ok (i, oIl i) := by rw [W.1.2.1]; exact of_decide_eq_true hg.1
        exact oLift (fun t q => oS1_ok W.2.1.here W.1.1 hd hg.2.1 h1 hb.1 q) (oGo W is hg.2.2 h2 hb.2 hp k)
      · cases hr
    · cases hr
theorem oDec (W : OW p l e R s m args below meth c Z a0 EL nb own code ml ret nm vm T locs ce sl h) {pc : Nat} {r : Except DecodeError (Instr × Nat)} (hd : decode code pc = r) : decode c.code pc = r := by rw [W.1.2.1]; exact hd
/-! ### branches -/
theorem oIfT (W : OW p l e R s m args below meth c Z a0 EL nb own code ml ret nm vm T locs ce sl h) {cd : ClassFile.Cond} {o : Int} {x : Int32} {pc : Nat} {ls : Array Slot} {st : List Value} (hd : decode code pc = .ok (.ifCond cd o, 3)) (hc : ifCond.holds cd x = true) {pc' : Nat} (ho : 0 ≤ (pc : Int) + o) (hp : ((pc : Int) + o).toNat = pc') (k : OG p e below s Z EL nb Q ck sk T (mkF m pc' ls st)) : OG p e below s Z EL nb Q ck sk T (mkF m pc ls (.int x :: st)) :=
  oLift (fun t q => XS.ifYes (g := mkF m pc ls (.int x :: st)) W.2.1.here W.1.1 rfl (pc0 := pc) rfl (oDec W hd) rfl hc ho hp q) k
theorem oIfF (W : OW p l e R s m args below meth c Z a0 EL nb own code ml ret nm vm T locs ce sl h) {cd : ClassFile.Cond} {o : Int} {x : Int32} {pc : Nat} {ls : Array Slot} {st : List Value} (hd : decode code pc = .ok (.ifCond cd o, 3)) (hc : ifCond.holds cd x = false) {pc' : Nat} (hp : pc + 3 = pc') (k : OG p e below s Z EL nb Q ck sk T (mkF m pc' ls st)) : OG p e below s Z EL nb Q ck sk T (mkF m pc ls (.int x :: st)) := by
  subst hp
  exact oLift (fun t q => XS.ifNo (g := mkF m pc ls (.int x :: st)) W.2.1.here W.1.1 rfl (oDec W hd) rfl hc q) k
theorem oIcT (W : OW p l e R s m args below meth c Z a0 EL nb own code ml ret nm vm T locs ce sl h) {cd : ClassFile.Cond} {o : Int} {x y : Int32} {pc : Nat} {ls : Array Slot} {st : List Value} (hd : decode code pc = .ok (.if_icmp cd o, 3)) (hc : if_icmp.holds cd x y = true) {pc' : Nat} (ho : 0 ≤ (pc : Int) + o) (hp : ((pc : Int) + o).toNat = pc') (k : OG p e below s Z EL nb Q ck sk T (mkF m pc' ls st)) : OG p e below s Z EL nb Q ck sk T (mkF m pc ls (.int y :: .int x :: st)) :=
  oLift (fun t q => XS.icmpYes (g := mkF m pc ls (.int y :: .int x :: st)) W.2.1.here W.1.1 rfl (pc0 := pc) rfl (oDec W hd) rfl hc ho hp q) k
theorem oIcF (W : OW p l e R s m args below meth c Z a0 EL nb own code ml ret nm vm T locs ce sl h) {cd : ClassFile.Cond} {o : Int} {x y : Int32} {pc : Nat} {ls : Array Slot} {st : List Value} (hd : decode code pc = .ok (.if_icmp cd o, 3)) (hc : if_icmp.holds cd x y = false) {pc' : Nat} (hp : pc + 3 = pc') (k : OG p e below s Z EL nb Q ck sk T (mkF m pc' ls st)) : OG p e below s Z EL nb Q ck sk T (mkF m pc ls (.int y :: .int x :: st)) := by
  subst hp
  exact oLift (fun t q => XS.icmpNo (g := mkF m pc ls (.int y :: .int x :: st)) W.2.1.here W.1.1 rfl (oDec W hd) rfl hc q) k
theorem oNuT (W : OW p l e R s m args below meth c Z a0 EL nb own code ml ret nm vm T locs ce sl h) {o : Int} {pc : Nat} {ls : Array Slot} {st : List Value} (hd : decode code pc = .ok (.ifnull o, 3)) {pc' : Nat} (ho : 0 ≤ (pc : Int) + o) (hp : ((pc : Int) + o).toNat = pc') (k : OG p e below s Z EL nb Q ck sk T (mkF m pc' ls st)) : OG p e below s Z EL nb Q ck sk T (mkF m pc ls (.null :: st)) :=
  oLift (fun t q => XS.ifnullYes (g := mkF m pc ls (.null :: st)) W.2.1.here W.1.1 rfl (pc0 := pc) rfl (oDec W hd) rfl ho hp q) k
theorem oNuF (W : OW p l e R s m args below meth c Z a0 EL nb own code ml ret nm vm T locs ce sl h) {o : Int} {a : Addr} {pc : Nat} {ls : Array Slot} {st : List Value} (hd : decode code pc = .ok (.ifnull o, 3)) {pc' : Nat} (hp : pc + 3 = pc') (k : OG p e below s Z EL nb Q ck sk T (mkF m pc' ls st)) : OG p e below s Z EL nb Q ck sk T (mkF m pc ls (.ref a :: st)) := by
  subst hp
  exact oLift (fun t q => XS.ifnullNo (g := mkF m pc ls (.ref a :: st)) W.2.1.here W.1.1 rfl (oDec W hd) rfl q) k
theorem oNnT (W : OW p l e R s m args below meth c Z a0 EL nb own code ml ret nm vm T locs ce sl h) {o : Int} {a : Addr} {pc : Nat} {ls : Array Slot} {st : List Value} (hd : decode code pc = .ok (.ifnonnull o, 3)) {pc' : Nat} (ho : 0 ≤ (pc : Int) + o) (hp : ((pc : Int) + o).toNat = pc') (k : OG p e below s Z EL nb Q ck sk T (mkF m pc' ls st)) : OG p e below s Z EL nb Q ck sk T (mkF m pc ls (.ref a :: st)) :=
  oLift (fun t q => XT.ifnonnullYes (g := mkF m pc ls (.ref a :: st)) W.2.1.here W.1.1 rfl (pc0 := pc) rfl (oDec W hd) rfl ho hp q) k
theorem oNnF (W : OW p l e R s m args below meth c Z a0 EL nb own code ml ret nm vm T locs ce sl h) {o : Int} {pc : Nat} {ls : Array Slot} {st : List Value} (hd : decode code pc = .ok (.ifnonnull o, 3)) {pc' : Nat} (hp : pc + 3 = pc') (k : OG p e below s Z EL nb Q ck sk T (mkF m pc' ls st)) : OG p e below s Z EL nb Q ck sk T (mkF m pc ls (.null :: st)) := by
  subst hp
  exact oLift (fun t q => XT.ifnonnullNo (g := mkF m pc ls (.null :: st)) W.2.1.here W.1.1 rfl (oDec W hd) rfl q) k
theorem oAcT (W : OW p l e R s m args below meth c Z a0 EL nb own code ml ret nm vm T locs ce sl h) {cd : ACond} {o : Int} {x y : Value} {pc : Nat} {ls : Array Slot} {st : List Value} (hd : decode code pc = .ok (.if_acmp cd o, 3)) (h1 : x.isRef = true) (h2 : y.isRef = true) (hc : XT.acmp cd x y = true) {pc' : Nat} (ho : 0 ≤ (pc : Int) + o) (hp : ((pc : Int) + o).toNat = pc') (k : OG p e below s Z EL nb Q ck sk T (mkF m pc' ls st)) : OG p e below s Z EL nb Q ck sk T (mkF m pc ls (y :: x :: st)) :=
  oLift (fun t q => XT.acmpYes (g := mkF m pc ls (y :: x :: st)) W.2.1.here W.1.1 rfl (pc0 := pc) rfl (oDec W hd) rfl h1 h2 hc ho hp q) k
theorem oAcF (W : OW p l e R s m args below meth c Z a0 EL nb own code ml ret nm vm T locs ce sl h) {cd : ACond} {o : Int} {x y : Value} {pc : Nat} {ls : Array Slot} {st : List Value} (hd : decode code pc = .ok (.if_acmp cd o, 3)) (h1 : x.isRef = true) (h2 : y.isRef = true) (hc : XT.acmp cd x y = false) {pc' : Nat} (hp : pc + 3 = pc') (k : OG p e below s Z EL nb Q ck sk T (mkF m pc' ls st)) : OG p e below s Z EL nb Q ck sk T (mkF m pc ls (y :: x :: st)) := by
  subst hp
  exact oLift (fun t q => XT.acmpNo (g := mkF m pc ls (y :: x :: st)) W.2.1.here W.1.1 rfl (oDec W hd) rfl h1 h2 hc q) k
/-! ### the end -/
theorem oFin (W : OW p l e R s m args below meth c Z a0 EL nb own code ml ret nm vm T locs ce sl h) {v : Option Value} {g : JFrame} (hv : ret = none → v = none)
    (hstep : ∀ fs, (∀ (f : JFrame) (acts : List Action), f.method = m → f.locked = none → f.entered = [] → (doReturn e (T.setTop f) acts v).1 = T.setFrames fs) → Steps p.tables e below (T.setTop g) (T.setFrames fs)) (hc : ce ≤ ck) (hs : sl ≤ sk) (hq : ∀ vm', CHr Z EL vm h vm' h → Q v vm' h) : OG p e below s Z EL nb Q ck sk T g := by
  obtain ⟨⟨h1, h2, h3, h4, h5, h6⟩, X, eT, ⟨k0, hS, hk⟩, hZ, ho, hC, hF, hE, hn, hEW⟩ := W
  obtain ⟨fs, hr, hrun, hended, r1, r2, r3, r4⟩ := X.leaveW hS (by rw [eT]; exact hk) (v := v) (fun q => hv (by rw [← h4]; exact q)) h5
  refine ⟨T.setFrames fs, _, hstep fs hr, hrun, hended, v, locs, rfl, ⟨?_, hF, ?_⟩, fun q => ?_, ?_, r1, r2, r3, r4.mono hc hs⟩
  · show Q v T.vm T.heap
    rw [eT]; exact hq _ (CHv.at X hZ hEW hC.1)
  · show Ext Z.heap T.heap
    rw [eT]; exact hE
  · exact State.WarmedH.trans (t := s.setVm vm) (hn q) X.warmed
  · show CHr Z EL s.vm s.heap T.vm T.heap
    rw [eT]
    exact hC.trans (CHv.at X hZ hEW hC.1)
theorem oRet0 (W : OW p l e R s m args below meth c Z a0 EL nb own code ml none nm vm T locs ce sl h) {pc : Nat} {ls : Array Slot} (hd : decode code pc = .ok (.return_, 1)) (hc : ce ≤ ck) (hs : sl ≤ sk) (hq : ∀ vm', CHr Z EL vm h vm' h → Q none vm' h) : OG p e below s Z EL nb Q ck sk T (mkF m pc ls []) :=
  oFin W (fun _ => rfl) (fun fs hr => W.2.1.returnOut W.1.1 W.1.2.2.2.1 (oDec W hd) hr) hc hs hq
theorem oRetI (W : OW p l e R s m args below meth c Z a0 EL nb own code ml (some .int) nm vm T locs ce sl h) {pc : Nat} {ls : Array Slot} {z : Int32} {rest : List Value} (hd : decode code pc = .ok (.ireturn, 1)) (hc : ce ≤ ck) (hs : sl ≤ sk) (hq : ∀ vm', CHr Z EL vm h vm' h → Q (some (.int z)) vm' h) : OG p e below s Z EL nb Q ck sk T (mkF m pc ls (.int z :: rest)) :=
  oFin W (fun q => by cases q) (fun fs hr => RoadKit.retOut W.2.1 W.1.1 W.1.2.2.2.1 rfl (Or.inl ⟨rfl, Or.inl rfl, _, rfl⟩) (oDec W hd) hr) hc hs hq
theorem oRetN {t : FieldType} (ht : t = .boolean ∨ t = .byte ∨ t = .char ∨ t = .short) (W : OW p l e R s m args below meth c Z a0 EL nb own code ml (some t) nm vm T locs ce sl h) {pc : Nat} {ls : Array Slot} {z : Int32} {rest : List Value} (hn : nar t z = z) (hd : decode code pc = .ok (.ireturn, 1)) (hc : ce ≤ ck) (hs : sl ≤ sk) (hq : ∀ vm', CHr Z EL vm h vm' h → Q (some (.int z)) vm' h) : OG p e below s Z EL nb Q ck sk T (mkF m pc ls (.int z :: rest)) :=
  oFin W (fun q => by cases q) (fun fs hr => RoadKit.retN W.2.1 W.1.1 W.1.2.2.2.1 ht (oDec W hd) (by rw [hn]; exact hr)) hc hs hq
theorem oRetA {t : FieldType} (ht : t.isReference = true) (W : OW p l e R s m args below meth c Z a0 EL nb own code ml (some t) nm vm T locs ce sl h) {pc : Nat} {ls : Array Slot} {w : Value} {rest : List Value} (hw : w.isRef = true) (hn : narrow t w = w) (hd : decode code pc = .ok (.areturn, 1)) (hc : ce ≤ ck) (hs : sl ≤ sk) (hq : ∀ vm', CHr Z EL vm h vm' h → Q (some w) vm' h) : OG p e below s Z EL nb Q ck sk T (mkF m pc ls (w :: rest)) :=
  oFin W (fun q => by cases q) (fun fs hr => RoadKit.retOut W.2.1 W.1.1 W.1.2.2.2.1 hn (Or.inr (Or.inr (Or.inr (Or.inr ⟨rfl, ht, hw⟩)))) (oDec W hd) hr) hc hs hq
end Base
end Jvm.OwnK
namespace Jvm.OwnK
open Jvm Sem ClassFile Op Lib Jvm.Stand Jvm.Free Jvm.LawKit Jvm.RoadKit Bundle
section Heaps
variable {p : Program} {l : Launch} {e : Env} {R : Room} {s : State} {m : MethodId} {args : Array Value} {below : List Frame} {meth : Method} {c : Code} {Z : State} {a0 : Array Value} {EL : List (String × Nat)} {nb : Bool} {own : String} {code : ByteArray} {ml : Nat} {ret : Option FieldType} {nm : String} {vm : Vm} {T : State} {locs : List Loc} {ce sl : Nat} {h h1 h2 : Heap} {Q : Option Value → Vm → Heap → Prop} {ck sk : Nat} {pc : Nat} {ls : Array Slot} {st : List Value}
theorem exR (h : Heap) : Ext h h := ⟨Nat.le_refl _, fun _ _ q => q⟩
theorem exT (A : Ext h h1) (B : Ext h1 h2) : Ext h h2 := ⟨Nat.le_trans A.1 B.1, fun a c q => B.2 a c (A.2 a c q)⟩
theorem exW {a : Addr} {i : Nat} {v : Value} (A : Ext h h1) (B : Wr h1 h2 a i v) (q : h.size ≤ a) : Ext h h2 := by
  have K := (Keep.refl h ([] : List Addr)).ext A |>.wr B (Or.inr q)
  exact ⟨K.1, fun x c hx => K.2.1 x c hx nin0⟩
theorem exK {ws : List Addr} (A : Ext h h1) (K : Keep h1 h2 ws) (q : ∀ x ∈ ws, h.size ≤ x) : Ext h h2 := by
  have K' := ((Keep.refl h ([] : List Addr)).ext A).trans K (fun x hx => Or.inr (q x hx))
  exact ⟨K'.1, fun x c hx => K'.2.1 x c hx nin0⟩
theorem OW.step (W : OW p l e R s m args below meth c Z a0 EL nb own code ml ret nm vm T locs ce sl h) {T' : State} {locs' : List Loc} {ce' sl' : Nat} {h' : Heap} (X' : Stand p l e R (s.setVm vm) m args below meth c T' locs' ce' sl') (eT : T'.heap = h') (hC : CHr Z EL vm h vm h') (hF : Fr Z.heap.size locs') (hE : Ext Z.heap h') :
    OW p l e R s m args below meth c Z a0 EL nb own code ml ret nm vm T' locs' ce' sl' h' := by
  obtain ⟨g1, X, e0, ⟨k0, hS, hk⟩, hZ, ho, hC0, hF0, hE0, hn, hEW⟩ := W
  exact ⟨g1, X', eT, ⟨k0, hS, Nat.le_trans hk hC.2.1⟩, hZ, ho, hC0.trans hC, hF, hE, hn, hEW⟩
theorem OW.chv (W : OW p l e R s m args below meth c Z a0 EL nb own code ml ret nm vm T locs ce sl h) : CHv Z EL vm h := W.2.2.2.2.2.2.1.1
theorem OW.ext (W : OW p l e R s m args below meth c Z a0 EL nb own code ml ret nm vm T locs ce sl h) : Ext Z.heap h := W.2.2.2.2.2.2.2.2.1
theorem OW.fr (W : OW p l e R s m args below meth c Z a0 EL nb own code ml ret nm vm T locs ce sl h) : Fr Z.heap.size locs := W.2.2.2.2.2.2.2.1
theorem OW.warm (W : OW p l e R s m args below meth c Z a0 EL nb own code ml ret nm vm T locs ce sl h) : Z.Warmed39 vm := W.2.2.2.2.1
theorem OW.owns (W : OW p l e R s m args below meth c Z a0 EL nb own code ml ret nm vm T locs ce sl h) : vm.findClass own = some m.cls := W.2.2.2.2.2.1
theorem OW.heap (W : OW p l e R s m args below meth c Z a0 EL nb own code ml ret nm vm T locs ce sl h) : T.heap = h := W.2.2.1
theorem frS {k : Nat} {L : List Loc} {a : Addr} {i : Nat} (N : Fr k L) (q : k ≤ a) : Fr k (L ++ [⟨a, i⟩]) := N.app fun y hy => by cases List.mem_singleton.mp hy; exact q
/-- new -/
theorem oNew (W : OW p l e R s m args below meth c Z a0 EL nb own code ml ret nm vm T locs ce sl h) {idx n : Nat} {C : String} (w : (Jvm.Cond.classLink own idx C).before a0 Z = true) (wi : (Jvm.Cond.instantiable C n).before a0 Z = true) (wz : (Jvm.Cond.initialized C).before a0 Z = true) (hd : decode code pc = .ok (.new idx, 3)) (hc : ce + 1 ≤ R.cells) (hl : sl + n ≤ R.slots) :
    ∃ T' h' a, OW p l e R s m args below meth c Z a0 EL nb own code ml ret nm vm T' locs (ce + 1) (sl + n) h' ∧ h.size ≤ a ∧ Ext h h' ∧ Exa Z h' a C ∧ (∀ {O nm d : String} {ty : FieldType}, Laid Z a0 C O nm d → parseFieldDescriptor d = some ty → Fld Z h' a O nm d (defaultValue ty)) ∧ Safe Z EL vm h' a ∧ CHr Z EL vm h vm h' ∧
      Lt p e below T (mkF m pc ls st) T' (mkF m (pc + 3) ls (.ref a :: st)) := by
  obtain ⟨T', h', X', eT, E, A, D, -, st'⟩ := RoadKit.newO W.2.1 W.1.1 W.warm W.owns w wi wz W.heap (g := mkF m pc ls st) rfl (oDec W hd) hc hl
  have hC : CHr Z EL vm h vm h' := CHr.ext E W.chv
  exact ⟨T', h', h.size, W.step X' eT hC W.fr (exT W.ext E), Nat.le_refl _, E, A, fun L q => D L q, (Safe.new (Nat.le_refl _)).ext E W.chv, hC, st'⟩
/-- an array with known contents -/
def OA (Z : State) (h : Heap) (a : Addr) (k : ClassId) (ty : FieldType) (vs : List Value) : Prop := ∃ n d, Arv Z h a k ty n vs d ∧ n.toNatClampNeg = vs.length
theorem OA.ext {a : Addr} {k : ClassId} {ty : FieldType} {vs : List Value} (A : OA Z h a k ty vs) (E : Ext h h1) : OA Z h1 a k ty vs := by obtain ⟨n, d, F, q⟩ := A; exact ⟨n, d, F.ext E, q⟩
theorem OA.other {a b : Addr} {k : ClassId} {ty : FieldType} {vs : List Value} {i : Nat} {v : Value} (A : OA Z h b k ty vs) (W : Wr h h1 a i v) (q : b ≠ a) : OA Z h1 b k ty vs := by obtain ⟨n, d, F, r⟩ := A; exact ⟨n, d, F.other W q, r⟩
theorem OA.keep {a : Addr} {k : ClassId} {ty : FieldType} {vs : List Value} {ws : List Addr} (A : OA Z h a k ty vs) (K : Keep h h1 ws) (q : a ∉ ws) : OA Z h1 a k ty vs := by obtain ⟨n, d, F, r⟩ := A; exact ⟨n, d, F.keep K q, r⟩
theorem OA.lt {a : Addr} {k : ClassId} {ty : FieldType} {vs : List Value} (A : OA Z h a k ty vs) : a < h.size := by obtain ⟨n, d, F, -⟩ := A; exact F.lt
theorem OA.get {a : Addr} {k : ClassId} {ty : FieldType} {vs : List Value} (A : OA Z h a k ty vs) {i : Nat} {v : Value} (hv : vs[i]? = some v) : fits ty v = true := by
  obtain ⟨n, d, ⟨cl, -, -, hs, -, -, G⟩, r⟩ := A
  have hi : i < vs.length := (List.getElem?_eq_some_iff.mp hv).1
  have := G i (by rw [hs, r]; exact hi)
  rwa [List.getD_eq_getElem?_getD, hv] at this
theorem OA.ne {a b : Addr} {k : ClassId} {ty : FieldType} {vs : List Value} {C : String} {n : Nat} (A : OA Z h b k ty vs) (E : Exa Z h a C) (w : (Jvm.Cond.instantiable C n).before a0 Z = true) : b ≠ a := by
  obtain ⟨q, d, F, -⟩ := A
  exact Ne.symm (E.neArv F w)
theorem OA.safe {vm : Vm} {a : Addr} {k : ClassId} {ty : FieldType} {vs : List Value} (A : OA Z h a k ty vs) (hal : Z.vm.Alike vm) (ht : ty ≠ .byte) : Safe Z EL vm h a := by
  obtain ⟨n, d, ⟨cl, A1, -⟩, -⟩ := A
  exact Safe.arr hal A1 ht
theorem oJn {g : JFrame} {α : Type} (P : α → Prop) (F : α → JFrame) (k : ∀ r, P r → OG p e below s Z EL nb Q ck sk T (F r)) (u : (∀ r, P r → OG p e below s Z EL nb Q ck sk T (F r)) → OG p e below s Z EL nb Q ck sk T g) : OG p e below s Z EL nb Q ck sk T g := u k
theorem oNewA (W : OW p l e R s m args below meth c Z a0 EL nb own code ml ret nm vm T locs ce sl h) {aty : ArrayType} (w : (Jvm.Cond.arrayClass (newarray.typeOf aty)).before a0 Z = true) (hd : decode code pc = .ok (.newarray aty, 2)) {n : Int32} (hn : ¬ n < 0) {cap : Nat} (hcap : n.toNatClampNeg ≤ cap) (hb : cap * 8 ≤ 536870912) (hc : ce + 1 ≤ R.cells) (hl : sl + cap ≤ R.slots) :
    ∃ T' h' a k, OW p l e R s m args below meth c Z a0 EL nb own code ml ret nm vm T' locs (ce + 1) (sl + cap) h' ∧ h.size ≤ a ∧ Ext h h' ∧ OA Z h' a k (newarray.typeOf aty) (List.replicate n.toNatClampNeg (defaultValue (newarray.typeOf aty))) ∧ Safe Z EL vm h' a ∧ CHr Z EL vm h vm h' ∧
      Lt p e below T (mkF m pc ls (.int n :: st)) T' (mkF m (pc + 2) ls (.ref a :: st)) := by
  obtain ⟨T', h', cA, X', eT, E, A, st'⟩ := RoadKit.newP W.2.1 W.1.1 W.warm w W.heap (g := mkF m pc ls (.int n :: st)) rfl (oDec W hd) rfl hn hcap hb hc hl
  have hC : CHr Z EL vm h vm h' := CHr.ext E W.chv
  have F := (Arv.new A hn).pad (vs' := [] ++ List.replicate n.toNatClampNeg (defaultValue (newarray.typeOf aty))) (pad_rep [] _ _)
  exact ⟨T', h', h.size, cA, W.step X' eT hC W.fr (exT W.ext E), Nat.le_refl _, E, ⟨n, _, F, by simp⟩, (Safe.new (Nat.le_refl _)).ext E W.chv, hC, st'⟩
/-- the array's length and its components -/
theorem oLen (W : OW p l e R s m args below meth c Z a0 EL nb own code ml ret nm vm T locs ce sl h) {a : Addr} {k : ClassId} {ty : FieldType} {vs : List Value} (A : OA Z h a k ty vs) (hd : decode code pc = .ok (.arraylength, 1)) (K : OG p e below s Z EL nb Q ck sk T (mkF m (pc + 1) ls (.int vs.length.toInt32 :: st))) : OG p e below s Z EL nb Q ck sk T (mkF m pc ls (.ref a :: st)) := by
  obtain ⟨n, d, ⟨cl, A1, -, hs, -, -, -⟩, r⟩ := A
  refine oLift (fun t q => W.2.1.arraylength W.1.1 (cell := cl) (by rw [W.heap]; exact A1.1) (State.isArrayOf_alike W.warm.alike A1.2.1) (g := mkF m pc ls (.ref a :: st)) rfl rfl (oDec W hd) t ?_) K
  rw [hs, r]; exact q
theorem oGet (W : OW p l e R s m args below meth c Z a0 EL nb own code ml ret nm vm T locs ce sl h) {a : Addr} {k : ClassId} {ty : FieldType} {vs : List Value} (A : OA Z h a k ty vs) {j : Int32} {v : Value} (hj : ¬ j < 0) (hv : vs[j.toNatClampNeg]? = some v) {i : Instr}
    (hi : (i = .caload ∧ ty = .char) ∨ (i = .baload ∧ ty = .byte) ∨ (i = .iaload ∧ ty = .int) ∨ (i = .aaload ∧ ty.isReference = true)) (hd : decode code pc = .ok (i, 1)) (K : OG p e below s Z EL nb Q ck sk T (mkF m (pc + 1) ls (v :: st))) : OG p e below s Z EL nb Q ck sk T (mkF m pc ls (.int j :: .ref a :: st)) := by
  obtain ⟨n, d, ⟨cl, A1, -, hs, -, H, -⟩, r⟩ := A
  have hlt : j.toNatClampNeg < vs.length := (List.getElem?_eq_some_iff.mp hv).1
  have hin : ¬ (j < 0 ∨ cl.slots.size ≤ j.toNatClampNeg) := fun q => q.elim hj (fun q => by rw [hs, r] at q; omega)
  have hcv : cl.slots[j.toNatClampNeg]? = some v := Has.at H hin (by rw [List.getD_eq_getElem?_getD, hv]; rfl)
  have hA : (s.setVm vm).isArrayOf cl ty := State.isArrayOf_alike W.warm.alike A1.2.1
  have hce : T.heap[a]? = some cl := by rw [W.heap]; exact A1.1
  rcases hi with ⟨rfl, rfl⟩ | ⟨rfl, rfl⟩ | ⟨rfl, rfl⟩ | ⟨rfl, ht⟩
  · exact oLift (fun t q => W.2.1.caload W.1.1 hce hA A1.2.2 hin hcv (g := mkF m pc ls (.int j :: .ref a :: st)) rfl rfl (oDec W hd) t q) K
  · exact oLift (fun t q => W.2.1.baloadBytes W.1.1 hce hA A1.2.2 hin hcv (g := mkF m pc ls (.int j :: .ref a :: st)) rfl rfl (oDec W hd) t q) K
  · exact oLift (fun t q => W.2.1.iaload W.1.1 hce hA A1.2.2 hin hcv (g := mkF m pc ls (.int j :: .ref a :: st)) rfl rfl (oDec W hd) t q) K
  · exact oLift (fun t q => W.2.1.aaload W.1.1 hce hA ht A1.2.2 hin hcv (g := mkF m pc ls (.int j :: .ref a :: st)) rfl rfl (oDec W hd) t q) K
/-- a store into a char[], a byte[], an int[] made since the law began -/
theorem oPut (W : OW p l e R s m args below meth c Z a0 EL nb own code ml ret nm vm T locs ce sl h) {a : Addr} {k : ClassId} {ty : FieldType} {vs : List Value} (A : OA Z h a k ty vs) {j x x' : Int32} (hj : ¬ j < 0) {i : Nat} (hji : j.toNatClampNeg = i) (hlt : i < vs.length) (hfr : Z.heap.size ≤ a) (hS : Safe Z EL vm h a) {ins : Instr}
    (hi : (ins = .castore ∧ ty = .char ∧ nar .char x = x') ∨ (ins = .bastore ∧ ty = .byte ∧ nar .byte x = x') ∨ (ins = .iastore ∧ ty = .int ∧ x = x')) (hd : decode code pc = .ok (ins, 1)) :
    ∃ T' h', OW p l e R s m args below meth c Z a0 EL nb own code ml ret nm vm T' (locs ++ [⟨a, i⟩]) ce sl h' ∧ Wr h h' a i (.int x') ∧ OA Z h' a k ty (vs.set i (.int x')) ∧ CHr Z EL vm h vm h' ∧ Lt p e below T (mkF m pc ls (.int x :: .int j :: .ref a :: st)) T' (mkF m (pc + 1) ls st) := by
  obtain ⟨n, d, ⟨cl, A1, hk, hs, hn, H, G⟩, r⟩ := A
  subst hji
  have hin : ¬ (j < 0 ∨ cl.slots.size ≤ j.toNatClampNeg) := fun q => q.elim hj (fun q => by rw [hs, r] at q; omega)
  have key : ∀ {T' h'}, Stand p l e R (s.setVm vm) m args below meth c T' (locs ++ [⟨a, j.toNatClampNeg⟩]) ce sl → T'.heap = h' → Wr h h' a j.toNatClampNeg (.int x') → fits ty (.int x') = true → Lt p e below T (mkF m pc ls (.int x :: .int j :: .ref a :: st)) T' (mkF m (pc + 1) ls st) →
      ∃ T' h', OW p l e R s m args below meth c Z a0 EL nb own code ml ret nm vm T' (locs ++ [⟨a, j.toNatClampNeg⟩]) ce sl h' ∧ Wr h h' a j.toNatClampNeg (.int x') ∧ OA Z h' a k ty (vs.set j.toNatClampNeg (.int x')) ∧ CHr Z EL vm h vm h' ∧ Lt p e below T (mkF m pc ls (.int x :: .int j :: .ref a :: st)) T' (mkF m (pc + 1) ls st) := by
    intro T' h' X' eT Wr' hf st'
    have hC : CHr Z EL vm h vm h' := CHr.wr Wr' hS W.chv
    exact ⟨T', h', W.step X' eT hC (frS W.fr hfr) (exW W.ext Wr' hfr), Wr', ⟨n, d, Arv.set A1 hk hs hn H G hf Wr' _ rfl hlt, by simpa using r⟩, hC, st'⟩
  rcases hi with ⟨rfl, rfl, rfl⟩ | ⟨rfl, rfl, rfl⟩ | ⟨rfl, rfl, rfl⟩
  · obtain ⟨T', h', X', eT, Wr', st'⟩ := RoadKit.stC W.2.1 W.1.1 W.warm W.heap A1 hin (g := mkF m pc ls (.int x :: .int j :: .ref a :: st)) rfl rfl (oDec W hd)
    exact key X' eT Wr' (fits_nar_char _) st'
  · obtain ⟨T', h', X', eT, Wr', st'⟩ := RoadKit.stB W.2.1 W.1.1 W.warm W.heap A1 hin (g := mkF m pc ls (.int x :: .int j :: .ref a :: st)) rfl rfl (oDec W hd)
    exact key X' eT Wr' (fits_nar_byte _) st'
  · obtain ⟨T', h', X', eT, Wr', st'⟩ := RoadKit.stI W.2.1 W.1.1 W.warm W.heap A1 hin (g := mkF m pc ls (.int x :: .int j :: .ref a :: st)) rfl rfl (oDec W hd)
    exact key X' eT Wr' rfl st'
/-- fields -/
theorem oGetF (W : OW p l e R s m args below meth c Z a0 EL nb own code ml ret nm vm T locs ce sl h) {idx : Nat} {R0 O n d : String} (w : (Jvm.Cond.fieldLink own idx R0 n d).before a0 Z = true) (via : Via Z R0 O n d) {a : Addr} {v : Value} (F : Fld Z h a O n d v) (hd : decode code pc = .ok (.getfield idx, 3)) :
    ∃ T', OW p l e R s m args below meth c Z a0 EL nb own code ml ret nm vm T' locs ce sl h ∧ Lt p e below T (mkF m pc ls (.ref a :: st)) T' (mkF m (pc + 3) ls (v :: st)) := by
  obtain ⟨T', X', eT, st'⟩ := RoadKit.getF W.2.1 W.1.1 W.warm W.owns (host := "") (Or.inl w) via W.heap F (g := mkF m pc ls (.ref a :: st)) rfl rfl (oDec W hd)
  exact ⟨T', W.step X' eT (CHr.refl W.chv) W.fr W.ext, st'⟩
theorem oGetS (W : OW p l e R s m args below meth c Z a0 EL nb own code ml ret nm vm T locs ce sl h) {idx : Nat} {R0 O n d : String} (w : (Jvm.Cond.fieldLink own idx R0 n d).before a0 Z = true) (via : Via Z R0 O n d) {v : Value} (F : Sta Z h O n d v) (hd : decode code pc = .ok (.getstatic idx, 3)) :
    ∃ T', OW p l e R s m args below meth c Z a0 EL nb own code ml ret nm vm T' locs ce sl h ∧ Lt p e below T (mkF m pc ls st) T' (mkF m (pc + 3) ls (v :: st)) := by
  obtain ⟨T', X', eT, st'⟩ := RoadKit.getS (host := "") W.2.1 W.1.1 W.warm W.owns w via W.heap F (g := mkF m pc ls st) rfl (oDec W hd)
  exact ⟨T', W.step X' eT (CHr.refl W.chv) W.fr W.ext, st'⟩
theorem oPutF (W : OW p l e R s m args below meth c Z a0 EL nb own code ml ret nm vm T locs ce sl h) {idx kk : Nat} {R0 O n d C : String} {ty : FieldType} (w : (Jvm.Cond.fieldLink own idx R0 n d).before a0 Z = true) (via : Via Z R0 O n d) {a : Addr} {v old : Value} (F : Fld Z h a O n d old) (E : Exa Z h a C)
    (L : (Jvm.Cond.lays C O n d).before a0 Z = true ∨ ((Jvm.Cond.laysFinal C O n d).before a0 Z = true ∧ own = O ∧ nm = "<init>")) (wi : (Jvm.Cond.instantiable C kk).before a0 Z = true) (hty : parseFieldDescriptor d = some ty) (hn : narrow ty v = v) (hf : fits ty v = true) (hfr : Z.heap.size ≤ a) (hS : Safe Z EL vm h a) (hd : decode code pc = .ok (.putfield idx, 3)) :
    ∃ T' h', OW p l e R s m args below meth c Z a0 EL nb own code ml ret nm vm T' (locs ++ [⟨a, RoadKit.slotOf Z O n d⟩]) ce sl h' ∧ Wr h h' a (RoadKit.slotOf Z O n d) v ∧ Fld Z h' a O n d v ∧ Exa Z h' a C ∧ CHr Z EL vm h vm h' ∧ Lt p e below T (mkF m pc ls (v :: .ref a :: st)) T' (mkF m (pc + 3) ls st) := by
  obtain ⟨T', h', X', eT, Wr', st'⟩ := RoadKit.putF W.2.1 W.1.1 W.warm W.owns (host := "") (Or.inl w) via W.heap F E (L.imp id fun q => ⟨q.1, q.2.1, W.1.2.2.2.2.2.trans q.2.2⟩) wi hty hn hf (g := mkF m pc ls (v :: .ref a :: st)) rfl rfl (oDec W hd)
  have hC : CHr Z EL vm h vm h' := CHr.wr Wr' hS W.chv
  exact ⟨T', h', W.step X' eT hC (frS W.fr hfr) (exW W.ext Wr' hfr), Wr', F.same Wr', E.wr Wr', hC, st'⟩
theorem oCast (W : OW p l e R s m args below meth c Z a0 EL nb own code ml ret nm vm T locs ce sl h) {idx : Nat} {K : String} (w : (Jvm.Cond.classLink own idx K).before a0 Z = true) {a : Addr} (F : Ins Z h a K true) (hd : decode code pc = .ok (.checkcast idx, 3)) :
    ∃ T', OW p l e R s m args below meth c Z a0 EL nb own code ml ret nm vm T' locs ce sl h ∧ Lt p e below T (mkF m pc ls (.ref a :: st)) T' (mkF m (pc + 3) ls (.ref a :: st)) := by
  obtain ⟨T', X', eT, st'⟩ := RoadKit.castY W.2.1 W.1.1 W.warm W.owns w W.heap F (g := mkF m pc ls (.ref a :: st)) rfl rfl (oDec W hd)
  exact ⟨T', W.step X' eT (CHr.refl W.chv) W.fr W.ext, st'⟩
theorem oInst (W : OW p l e R s m args below meth c Z a0 EL nb own code ml ret nm vm T locs ce sl h) {idx : Nat} {K : String} (w : (Jvm.Cond.classLink own idx K).before a0 Z = true) {a : Addr} (F : Ins Z h a K true) (hd : decode code pc = .ok (.instanceof idx, 3)) :
    ∃ T', OW p l e R s m args below meth c Z a0 EL nb own code ml ret nm vm T' locs ce sl h ∧ Lt p e below T (mkF m pc ls (.ref a :: st)) T' (mkF m (pc + 3) ls (.int 1 :: st)) := by
  obtain ⟨T', X', eT, st'⟩ := RoadKit.instY W.2.1 W.1.1 W.warm W.owns w W.heap F (g := mkF m pc ls (.ref a :: st)) rfl rfl (oDec W hd)
  exact ⟨T', W.step X' eT (CHr.refl W.chv) W.fr W.ext, st'⟩
/-- Object.<init> -/
theorem oInit (W : OW p l e R s m args below meth c Z a0 EL nb own code ml ret nm vm T locs ce sl h) {idx : Nat} (w1 : (Jvm.Cond.methodLink own idx Lib.objectInit).before a0 Z = true) (w2 : (Jvm.Cond.instanceMethod Lib.objectInit).before a0 Z = true) (w3 : (Jvm.Cond.code Lib.objectInit ⟨#[0xb1]⟩ 1 none).before a0 Z = true) {a : Addr} (hsz : ls.size = ml) (hd : decode code pc = .ok (.invokespecial idx, 3))
    (hf : 1 ≤ R.frames) {V : Nat} (hW : (st.map fun v => v.category).sum ≤ V) (hl : V + 12 ≤ R.locals) :
    ∃ T', OW p l e R s m args below meth c Z a0 EL nb own code ml ret nm vm T' locs ce sl h ∧ Lt p e below T (mkF m pc ls (.ref a :: st)) T' (mkF m (pc + 3) ls st) := by
  obtain ⟨T', X', eT, st'⟩ := RoadKit.initO W.2.1 W.1.1 W.warm W.owns w1 w2 w3 W.heap (g := mkF m pc ls (.ref a :: st)) rfl (hsz.trans W.1.2.2.1.symm) rfl (oDec W hd) hf (W := V) (by show 2 * 0 + _ ≤ _; omega) hl
  exact ⟨T', W.step X' eT (CHr.refl W.chv) W.fr W.ext, st'⟩
/-- clone() of an array -/
theorem oClone (W : OW p l e R s m args below meth c Z a0 EL nb own code ml ret nm vm T locs ce sl h) {idx : Nat} {ad : String} (w1 : (Jvm.Cond.methodLink own idx ⟨ad, "clone", "()Ljava/lang/Object;"⟩).before a0 Z = true) (w2 : (Jvm.Cond.sameMethod ad "java/lang/Object" "clone" "()Ljava/lang/Object;").before a0 Z = true) (w3 : (Jvm.Cond.native ⟨"java/lang/Object", "clone", "()Ljava/lang/Object;"⟩).before a0 Z = true)
    (w4 : (Jvm.Cond.instanceMethod ⟨"java/lang/Object", "clone", "()Ljava/lang/Object;"⟩).before a0 Z = true) (w5 : (Jvm.Cond.selects ad ⟨ad, "clone", "()Ljava/lang/Object;"⟩ ⟨"java/lang/Object", "clone", "()Ljava/lang/Object;"⟩).before a0 Z = true) (w6 : (Jvm.Cond.castable ad "java/lang/Cloneable").before a0 Z = true)
    {a : Addr} {k : ClassId} {ty : FieldType} {vs : List Value} (A : OA Z h a k ty vs) (E : Exa Z h a ad) (hsz : ls.size = ml) (hd : decode code pc = .ok (.invokevirtual idx, 3)) (hf : 1 ≤ R.frames) {V cap : Nat} (hV : (st.map fun v => v.category).sum ≤ V) (hl : V + 14 ≤ R.locals) (hcap : vs.length ≤ cap) (hc : ce + 1 ≤ R.cells) (hs : sl + cap ≤ R.slots) :
    ∃ T' h' b, OW p l e R s m args below meth c Z a0 EL nb own code ml ret nm vm T' locs (ce + 1) (sl + cap) h' ∧ h.size ≤ b ∧ Ext h h' ∧ OA Z h' b k ty vs ∧ Exa Z h' b ad ∧ CHr Z EL vm h vm h' ∧ Lt p e below T (mkF m pc ls (.ref a :: st)) T' (mkF m (pc + 3) ls (.ref b :: st)) := by
  obtain ⟨n, d, F, r⟩ := A
  obtain ⟨T', h', X', eT, Ex, A', E', st'⟩ := RoadKit.cloneH W.2.1 W.1.1 W.warm W.owns w1 w2 w3 w4 w5 w6 W.heap F.arh E (g := mkF m pc ls (.ref a :: st)) rfl (hsz.trans W.1.2.2.1.symm) rfl (oDec W hd) hf (W := V) (by show 2 * 0 + _ ≤ _; omega) hl (cap := cap) (by rw [r]; exact hcap) hc hs
  have hC : CHr Z EL vm h vm h' := CHr.ext Ex W.chv
  exact ⟨T', h', h.size, W.step X' eT hC W.fr (exT W.ext Ex), Nat.le_refl _, Ex, ⟨n, d, A', r⟩, E', hC, st'⟩
/-- checkcast of null -/
theorem oCastN (W : OW p l e R s m args below meth c Z a0 EL nb own code ml ret nm vm T locs ce sl h) {idx : Nat} (hd : decode code pc = .ok (.checkcast idx, 3)) (K : OG p e below s Z EL nb Q ck sk T (mkF m (pc + 3) ls (.null :: st))) : OG p e below s Z EL nb Q ck sk T (mkF m pc ls (.null :: st)) :=
  oLift (fun t q => W.2.1.checkcastNull W.1.1 (g := mkF m pc ls (.null :: st)) rfl rfl (oDec W hd) t q) K
/-- a component of an array of references, the cell at hand -/
theorem oGetC (W : OW p l e R s m args below meth c Z a0 EL nb own code ml ret nm vm T locs ce sl h) {a : Addr} {cl : Cell} {ty : FieldType} (A : Arr Z h a cl ty) {j : Int32} {v : Value} (hin : ¬ (j < 0 ∨ cl.slots.size ≤ j.toNatClampNeg)) (hv : cl.slots[j.toNatClampNeg]? = some v) (ht : ty.isReference = true) (hd : decode code pc = .ok (.aaload, 1)) (K : OG p e below s Z EL nb Q ck sk T (mkF m (pc + 1) ls (v :: st))) : OG p e below s Z EL nb Q ck sk T (mkF m pc ls (.int j :: .ref a :: st)) :=
  oLift (fun t q => W.2.1.aaload W.1.1 (by rw [W.heap]; exact A.1) (State.isArrayOf_alike W.warm.alike A.2.1) ht A.2.2 hin hv (g := mkF m pc ls (.int j :: .ref a :: st)) rfl rfl (oDec W hd) t q) K
/-- an int constant -/
theorem oLdcI (W : OW p l e R s m args below meth c Z a0 EL nb own code ml ret nm vm T locs ce sl h) {idx : Nat} {v : Int32} (w : (Jvm.Cond.constant own idx v).before a0 Z = true) (hd : decode code pc = .ok (.ldc idx, 2)) (K : OG p e below s Z EL nb Q ck sk T (mkF m (pc + 2) ls (.int v :: st))) : OG p e below s Z EL nb Q ck sk T (mkF m pc ls st) :=
  oLift (fun t q => W.2.1.ldcInt W.1.1 W.owns (mvT W.warm w) (g := mkF m pc ls st) rfl (oDec W hd) t q) K
/-- a String constant, opaque -/
theorem oLdc (W : OW p l e R s m args below meth c Z a0 EL false own code ml ret nm vm T locs ce sl h) {idx : Nat} {text : String} (w : (Jvm.Cond.stringLink own idx text).before a0 Z = true) (wS : ∀ a ∈ Bundle.stringAtoms, a.before a0 Z = true) (hd : decode code pc = .ok (.ldc idx, 2)) {n : Nat} (hn : 4 * text.toList.length ≤ n) (hbig : n ≤ 536870912) (hc : ce + 2 ≤ R.cells) (hl : sl + (n + 4) ≤ R.slots) :
    ∃ a T' h' vm', OW p l e R s m args below meth c Z a0 EL false own code ml ret nm vm' T' locs (ce + 2) (sl + (n + 4)) h' ∧ Ext h h' ∧ CHr Z EL vm h vm' h' ∧ Lt p e below T (mkF m pc ls st) T' (mkF m (pc + 2) ls (.ref a :: st)) := by
  obtain ⟨g1, X, e0, ⟨k0, hS, hk⟩, hZ, ho, hC0, hF0, hE0, hn0, hEW⟩ := id W
  obtain ⟨a, T', h', k1, X', eT, E, hS', hk', hZ', ho', hC, -, st'⟩ := RoadKit.ldcOH X W.1.1 hZ ho w wS e0 hS hk hEW W.chv (g := mkF m pc ls st) rfl (oDec W hd) hn hbig hc hl
  exact ⟨a, T', h', T'.vm, ⟨g1, X', eT, ⟨k1, hS', hk'⟩, hZ', ho', hC0.trans hC, hF0, exT hE0 E, (fun q => by cases q), hEW⟩, E, hC, st'⟩
/-- a String constant of EL, read -/
theorem oLdcC (W : OW p l e R s m args below meth c Z a0 EL false own code ml ret nm vm T locs ce sl h) {idx : Nat} {text : String} (w : (Jvm.Cond.stringLink own idx text).before a0 Z = true) (wS : ∀ a ∈ Bundle.stringAtoms, a.before a0 Z = true) (hm : (own, idx) ∈ EL) {vs : List Value} {z : Int32} (ht : (∀ c ∈ text.toList, c.toNat < 256) ∧ text.toList.map (fun c => Value.int (Jvm.Lit.byteI c.toNat.toUInt16)) = vs) (hz : ¬ z < 0) (hzl : z.toNatClampNeg = vs.length)
    (hd : decode code pc = .ok (.ldc idx, 2)) {n : Nat} (hn : 4 * text.toList.length ≤ n) (hbig : n ≤ 536870912) (hc : ce + 2 ≤ R.cells) (hl : sl + (n + 4) ≤ R.slots) :
    ∃ a b k T' h' vm', OW p l e R s m args below meth c Z a0 EL false own code ml ret nm vm' T' locs (ce + 2) (sl + (n + 4)) h' ∧ Ext h h' ∧ CHr Z EL vm h vm' h' ∧ Exa Z h' a "java/lang/String" ∧ Fld Z h' a "java/lang/String" "coder" "B" (.int 0) ∧ Fld Z h' a "java/lang/String" "value" "[B" (.ref b) ∧ OA Z h' b k .byte vs ∧
      Lt p e below T (mkF m pc ls st) T' (mkF m (pc + 2) ls (.ref a :: st)) := by
  obtain ⟨g1, X, e0, ⟨k0, hS, hk⟩, hZ, ho, hC0, hF0, hE0, hn0, hEW⟩ := id W
  obtain ⟨a, T', h', k1, b, k, X', eT, E, hS', hk', hZ', ho', q1, q2, q3, q4, -, -, hC, -, -, st'⟩ := RoadKit.ldcCH X W.1.1 hZ ho w wS e0 hS hk hEW hm W.chv ht hz hzl (g := mkF m pc ls st) rfl (oDec W hd) hn hbig hc hl
  exact ⟨a, b, k, T', h', T'.vm, ⟨g1, X', eT, ⟨k1, hS', hk'⟩, hZ', ho', hC0.trans hC, hF0, exT hE0 E, (fun q => by cases q), hEW⟩, E, hC, q1, q2, q3, ⟨z, _, q4, hzl⟩, st'⟩
end Heaps
section Calls
variable {p : Program} {l : Launch} {e : Env} {R : Room} {s : State} {m : MethodId} {args : Array Value} {below : List Frame} {meth : Method} {c : Code} {Z : State} {a0 : Array Value} {EL : List (String × Nat)} {nb : Bool} {own : String} {code : ByteArray} {ml : Nat} {ret : Option FieldType} {nm : String} {vm : Vm} {T : State} {locs : List Loc} {ce sl : Nat} {h : Heap} {pc : Nat} {ls : Array Slot} {st : List Value}
  {y : MethodName} {bytes : ByteArray} {maxL : Nat} {ret' : Option FieldType} {rm : Room} {as' : Array Value} {sf : List Addr} {Q' : Option Value → Vm → Heap → Prop}
theorem oBack (W : OW p l e R s m args below meth c Z a0 EL nb own code ml ret nm vm T locs ce sl h) (hM : OC l Z EL nb [] y bytes maxL ret' rm as' h sf Q') (hsf : ∀ x ∈ sf, x < h.size ∧ Safe Z EL vm h x) (wc : (Jvm.Cond.code y bytes maxL ret').before a0 Z = true) (wz : (Jvm.Cond.initialized y.cls).before a0 Z = true) {len V : Nat} (hf : rm.frames + 1 ≤ R.frames) (hl : V + (maxL + 11) + rm.locals ≤ R.locals) :
    BackS l R p e below (s.setVm vm) args y len V (fun A a => a = as' ∧ A.U.heap = h ∧ A.cells + rm.cells ≤ R.cells ∧ A.slots + rm.slots ≤ R.slots)
      (fun A _ v B => ∃ L, (Q' v B.U.vm B.U.heap ∧ Fr Z.heap.size L ∧ Ext Z.heap B.U.heap) ∧ B.locs = A.locs ++ L ∧ B.cells = A.cells + rm.cells ∧ B.slots = A.slots + rm.slots ∧ CHr Z EL vm h B.U.vm B.U.heap ∧ (nb = true → A.U.WarmedH B.U.vm)) :=
  have hZ := W.warm
  have hEL : EW Z a0 EL := W.2.2.2.2.2.2.2.2.2.2
  have H := W.chv
  BackS.of_freeW (bytes := bytes) (maxL := maxL) (ret := ret') (E := fun _ first o t L k n => k = rm.cells ∧ n = rm.slots ∧ (∃ v, o = .returned v ∧ (Q' v t.vm t.heap ∧ Fr Z.heap.size L ∧ Ext Z.heap t.heap)) ∧ CHr Z EL first.vm first.heap t.vm t.heap ∧ (nb = true → first.WarmedH t.vm)) hM hf hl
    (fun m meth c A a Y hp => have hU : Z.Warmed39 A.U.vm := wtrans (s := s.setVm vm) hZ Y.warmed
      ⟨by show (Jvm.Cond.and _ .tt).before a A.U = true; rw [Cond.before_and, mv hU wc]; rfl, mv hU wc, mv hU wz, hp.2.2.1, hp.2.2.2⟩)
    (fun m meth c A a g mk Y hp => ⟨hp.1, wtrans (s := s.setVm vm) hZ Y.warmed, hp.2.1, (CHv.at Y hZ hEL H).1, W.ext, fun x hx => (CHv.at Y hZ hEL H).safe (hsf x hx).1 (hsf x hx).2⟩) (fun _ _ _ _ _ _ _ _ _ => trivial)
    (fun _ _ _ _ ⟨v, L, h1, h2, h2', h3, h4⟩ => ⟨L, _, _, h4, rfl, rfl, ⟨v, h1, h2⟩, h3, h2'⟩)
    (fun m meth c A a g mk v t L k n Y hp _ _ ⟨e1, e2, ⟨v', e3, e4⟩, e5, e6⟩ => by
      cases e3; subst e1 e2
      refine ⟨L, e4, rfl, rfl, rfl, (CHv.at Y hZ hEL H).trans ?_, e6⟩
      rw [← hp.2.1]; exact e5)
theorem oCalled (W : OW p l e R s m args below meth c Z a0 EL nb own code ml ret nm vm T locs ce sl h) {vm₁ : Vm} {B : Pt} {v : Option Value} {g g' : JFrame} (hW : (s.setVm vm).WarmedH vm₁) (X' : Stand p l e R ((s.setVm vm).setVm B.U.vm) m args below meth c B.U B.locs B.cells B.slots) (hS : (s.setVm vm).Since B.U.vm B.U.heap.size)
    (hP : ∃ L, (Q' v B.U.vm B.U.heap ∧ Fr Z.heap.size L ∧ Ext Z.heap B.U.heap) ∧ B.locs = locs ++ L ∧ B.cells = ce + rm.cells ∧ B.slots = sl + rm.slots ∧ CHr Z EL vm h B.U.vm B.U.heap ∧ (nb = true → (T.setVm vm₁).WarmedH B.U.vm)) (st' : Steps p.tables e below (T.setTop g) (B.U.setTop g')) :
    ∃ T' L h' vm', OW p l e R s m args below meth c Z a0 EL nb own code ml ret nm vm' T' (locs ++ L) (ce + rm.cells) (sl + rm.slots) h' ∧ Q' v vm' h' ∧ CHr Z EL vm h vm' h' ∧ Lt p e below T g T' g' := by
  obtain ⟨U, Lc, cc, ss⟩ := B
  obtain ⟨L, ⟨q1, q2, q3⟩, q4, q5, q6, q7, q8⟩ := hP
  dsimp only [Pt.U, Pt.locs, Pt.cells, Pt.slots] at *
  subst q4 q5 q6
  obtain ⟨g1, X, e0, ⟨k0, hS0, hk⟩, hZ, ho, hC0, hF0, hE0, hn0, hEW⟩ := W
  refine ⟨U, L, U.heap, U.vm, ⟨g1, X', rfl, ⟨_, hS0.trans hS (Nat.le_trans hk q7.2.1), Nat.le_refl _⟩, State.Warmed39.trans (t := s.setVm vm) hZ hS.1, (hS.1.alike.findClass _ _).trans ho, hC0.trans q7, hF0.app q2, q3, fun q => ?_, hEW⟩, q1, q7, fun t k => st'.trans k⟩
  exact State.WarmedH.trans (t := T.setVm vm₁) (State.WarmedH.trans (t := s.setVm vm) (hn0 q) hW) (q8 q)
/-- a static method by its contract -/
theorem oCallS (W : OW p l e R s m args below meth c Z a0 EL nb own code ml ret nm vm T locs ce sl h) {idx : Nat} {argsL : List Value} (hM : OC l Z EL nb [] y bytes maxL ret' rm argsL.toArray h sf Q') (hsf : ∀ x ∈ sf, x < h.size ∧ Safe Z EL vm h x) (w1 : (Jvm.Cond.methodLink own idx y).before a0 Z = true) (w2 : (Jvm.Cond.static y).before a0 Z = true) (wz : (Jvm.Cond.initialized y.cls).before a0 Z = true) (wc : (Jvm.Cond.code y bytes maxL ret').before a0 Z = true)
    (hy : y.cls ≠ "java/lang/invoke/MethodHandle" ∧ y.cls ≠ "java/lang/invoke/VarHandle") {na : Nat} (hna : argsL.length = na) (har : XT.arity y.desc = some na) (hsz : ls.size = ml) {stk : List Value} (hst : stk = argsL.reverse ++ st) (hd : decode code pc = .ok (.invokestatic idx, 3))
    {V : Nat} (hV : (st.map fun v => v.category).sum ≤ V) (hf : rm.frames + 1 ≤ R.frames) (hl : V + (maxL + 11) + rm.locals ≤ R.locals) (hc : ce + rm.cells ≤ R.cells) (hs : sl + rm.slots ≤ R.slots) :
    ∃ v T' L h' vm', OW p l e R s m args below meth c Z a0 EL nb own code ml ret nm vm' T' (locs ++ L) (ce + rm.cells) (sl + rm.slots) h' ∧ Q' v vm' h' ∧ CHr Z EL vm h vm' h' ∧ Lt p e below T (mkF m pc ls stk) T' (mkF m (pc + 3) ls (v.toList ++ st)) := by
  obtain ⟨v, vm₁, B, hW, X', hS, hgr, hP, st'⟩ := RoadKit.callSS W.2.1 W.1.1 (y := y) W.owns (mvT W.warm w1) (mvT W.warm w2) (mvT W.warm wz) (mvT W.warm wc) hy (oBack W hM hsf wc wz hf hl) (g := mkF m pc ls stk) rfl (hsz.trans W.1.2.2.1.symm) (argsL := argsL) (rest := st) (XT.arity_len har hna) hst (by show 2 * 0 + _ ≤ _; omega) (oDec W hd) (fun _ _ => ⟨rfl, W.heap, hc, hs⟩)
  exact ⟨v, oCalled W hW X' hS hP st'⟩
/-- a constructor by its contract -/
theorem oCallN (W : OW p l e R s m args below meth c Z a0 EL nb own code ml ret nm vm T locs ce sl h) {idx : Nat} {argsL : List Value} {a : Addr} (hM : OC l Z EL nb [] y bytes maxL none rm (.ref a :: argsL).toArray h sf Q') (hsf : ∀ x ∈ sf, x < h.size ∧ Safe Z EL vm h x) (hy1 : y.name = "<init>") (w1 : (Jvm.Cond.methodLink own idx y).before a0 Z = true) (w2 : (Jvm.Cond.instanceMethod y).before a0 Z = true) (wz : (Jvm.Cond.initialized y.cls).before a0 Z = true) (wc : (Jvm.Cond.code y bytes maxL none).before a0 Z = true)
    (hy : y.cls ≠ "java/lang/invoke/MethodHandle" ∧ y.cls ≠ "java/lang/invoke/VarHandle") {na : Nat} (hna : argsL.length = na) (har : XT.arity y.desc = some na) (hsz : ls.size = ml) {stk : List Value} (hst : stk = argsL.reverse ++ .ref a :: st) (hd : decode code pc = .ok (.invokespecial idx, 3))
    {V : Nat} (hV : (st.map fun v => v.category).sum ≤ V) (hf : rm.frames + 1 ≤ R.frames) (hl : V + (maxL + 11) + rm.locals ≤ R.locals) (hc : ce + rm.cells ≤ R.cells) (hs : sl + rm.slots ≤ R.slots) :
    ∃ v T' L h' vm', OW p l e R s m args below meth c Z a0 EL nb own code ml ret nm vm' T' (locs ++ L) (ce + rm.cells) (sl + rm.slots) h' ∧ Q' v vm' h' ∧ CHr Z EL vm h vm' h' ∧ Lt p e below T (mkF m pc ls stk) T' (mkF m (pc + 3) ls (v.toList ++ st)) := by
  obtain ⟨v, vm₁, B, hW, X', hS, hgr, hP, st'⟩ := W.2.1.specialBackS W.1.1 (y := y) hy1 W.owns (mvT W.warm w1) (mvT W.warm w2) (mvT W.warm wc) hy (oBack W hM hsf wc wz hf hl) (g := mkF m pc ls stk) rfl (hsz.trans W.1.2.2.1.symm) (Steps.refl _) (a := a) (argsL := argsL) (rest := st) (XT.arity_len har hna) hst (by show 2 * 0 + _ ≤ _; omega) (oDec W hd) (fun _ _ => ⟨rfl, W.heap, hc, hs⟩)
  exact ⟨v, oCalled W hW X' hS hP st'⟩
/-- an instance method by its contract -/
theorem oCallV (W : OW p l e R s m args below meth c Z a0 EL nb own code ml ret nm vm T locs ce sl h) {idx : Nat} {x : MethodName} {C : String} {argsL : List Value} {a : Addr} (E : Exa Z h a C) (hM : OC l Z EL nb [] y bytes maxL ret' rm (.ref a :: argsL).toArray h sf Q') (hsf : ∀ x ∈ sf, x < h.size ∧ Safe Z EL vm h x) (w1 : (Jvm.Cond.methodLink own idx x).before a0 Z = true) (w2 : (Jvm.Cond.declares x).before a0 Z = true) (nf : NotFace (s.setVm vm) x) (w3 : (Jvm.Cond.selects C x y).before a0 Z = true) (w4 : (Jvm.Cond.instanceMethod y).before a0 Z = true) (wz : (Jvm.Cond.initialized y.cls).before a0 Z = true) (wc : (Jvm.Cond.code y bytes maxL ret').before a0 Z = true)
    (hy : x.cls ≠ "java/lang/invoke/MethodHandle" ∧ x.cls ≠ "java/lang/invoke/VarHandle") {na : Nat} (hna : argsL.length = na) (har : XT.arity x.desc = some na) (hsz : ls.size = ml) {stk : List Value} (hst : stk = argsL.reverse ++ .ref a :: st) (hd : decode code pc = .ok (.invokevirtual idx, 3))
    {V : Nat} (hV : (st.map fun v => v.category).sum ≤ V) (hf : rm.frames + 1 ≤ R.frames) (hl : V + (maxL + 11) + rm.locals ≤ R.locals) (hc : ce + rm.cells ≤ R.cells) (hs : sl + rm.slots ≤ R.slots) :
    ∃ v T' L h' vm', OW p l e R s m args below meth c Z a0 EL nb own code ml ret nm vm' T' (locs ++ L) (ce + rm.cells) (sl + rm.slots) h' ∧ Q' v vm' h' ∧ CHr Z EL vm h vm' h' ∧ Lt p e below T (mkF m pc ls stk) T' (mkF m (pc + 3) ls (v.toList ++ st)) := by
  obtain ⟨cB, kB, i1, i2, i3⟩ := isOf (s := s.setVm vm) (T := T) W.warm W.heap E
  obtain ⟨v, vm₁, B, hW, X', hS, hgr, hP, st'⟩ := W.2.1.virtualBackS W.1.1 (y := x) (z := y) W.owns (mvT W.warm w1) (mvT W.warm w2) nf (mvT W.warm w3) (mvT W.warm w4) hy (oBack W hM hsf wc wz hf hl) i1 i3 (g := mkF m pc ls stk) rfl (hsz.trans W.1.2.2.1.symm) (Steps.refl _) (argsL := argsL) (rest := st) (XT.arity_len har hna) hst (by show 2 * 0 + _ ≤ _; omega) (oDec W hd) (fun _ _ => ⟨rfl, W.heap, hc, hs⟩)
  exact ⟨v, oCalled W hW X' hS hP st'⟩
end Calls
end Jvm.OwnK
namespace Jvm.OwnK
open Jvm Sem ClassFile Op Lib Jvm.Stand Jvm.Free Jvm.LawKit Jvm.RoadKit Bundle
theorem n_lt {a b : Nat} (ha : a < 2147483648) (hb : b < 2147483648) : Int32.ofNat a < Int32.ofNat b ↔ a < b := by
  rw [Int32.lt_iff_toInt_lt, Int32.toInt_ofNat_small ha, Int32.toInt_ofNat_small hb]; omega
theorem n_nn {a : Nat} (ha : a < 2147483648) : ¬ Int32.ofNat a < 0 := by
  rw [Int32.lt_iff_toInt_lt, Int32.toInt_ofNat_small ha]
  show ¬ ((a : Int) < 0)
  omega
theorem n_cl {a : Nat} (ha : a < 2147483648) : (Int32.ofNat a).toNatClampNeg = a := by
  rw [← Int32.toNat_toInt, Int32.toInt_ofNat_small ha]; rfl
theorem n_in (a : Nat) : Int32.ofNat a + 1 = Int32.ofNat (a + 1) := by rw [Int32.ofNat_add]; rfl
theorem nar_b (x : Int32) : nar .byte x.toInt8.toInt32 = x.toInt8.toInt32 := by
  show x.toInt8.toInt32.toInt8.toInt32 = _
  rw [Int8.toInt8_toInt32]
theorem nar_c (x : Int32) : nar .char x.toUInt32.toUInt16.toUInt32.toInt32 = x.toUInt32.toUInt16.toUInt32.toInt32 := by
  show x.toUInt32.toUInt16.toUInt32.toInt32.toUInt32.toUInt16.toUInt32.toInt32 = _
  rw [UInt32.toUInt32_toInt32, UInt16.toUInt16_toUInt32]
theorem nar_z {x : Int32} (h : x = 0 ∨ x = 1) : nar .boolean x = x := by rcases h with rfl | rfl <;> rfl
/-- a char of 0 to 255 is what i2c makes of it -/
theorem i2c_255 (x : Int32) : (x &&& 255).toUInt32.toUInt16.toUInt32.toInt32 = x &&& 255 := i2c_mask x
theorem m255 (x : Int32) : ¬ (x &&& 255) < 0 ∧ ¬ (255 : Int32) < (x &&& 255) := by
  have h := c_and x 255 (by decide)
  constructor
  · rw [Int32.lt_iff_toInt_lt]; exact Int.not_lt.mpr h.1
  · rw [Int32.lt_iff_toInt_lt]; exact Int.not_lt.mpr h.2
theorem own_nar255 (x : Int32) : nar .char (x &&& 255) = x &&& 255 := i2c_mask x
theorem own_all1 {P : Int32 → Prop} {a : Int32} (ha : P a) : ∀ c ∈ [a], P c := fun c hc => by cases List.mem_singleton.mp hc; exact ha
theorem own_all2 {P : Int32 → Prop} {a b : Int32} (ha : P a) (hb : P b) : ∀ c ∈ [a, b], P c := fun c hc => by
  rcases List.mem_cons.mp hc with rfl | hc
  · exact ha
  · exact own_all1 hb c hc
theorem own_all3 {P : Int32 → Prop} {a b c : Int32} (ha : P a) (hb : P b) (hc : P c) : ∀ x ∈ [a, b, c], P x := fun x hx => by
  rcases List.mem_cons.mp hx with rfl | hx
  · exact ha
  · exact own_all2 hb hc x hx
theorem own_all4 {P : Int32 → Prop} {a b c d : Int32} (ha : P a) (hb : P b) (hc : P c) (hd : P d) : ∀ x ∈ [a, b, c, d], P x := fun x hx => by
  rcases List.mem_cons.mp hx with rfl | hx
  · exact ha
  · exact own_all3 hb hc hd x hx
theorem narC {c : Int32} (h : ¬ c < 0 ∧ ¬ (255 : Int32) < c) : nar .char c = c := by
  have e := c_i2c c
  simp only [Int32.lt_iff_toInt_lt] at h
  have k0 : (0 : Int32).toInt = 0 := rfl
  have k1 : (255 : Int32).toInt = 255 := rfl
  rw [k0, k1] at h
  apply Int32.toInt_inj.mp
  show (c.toUInt32.toUInt16.toUInt32.toInt32).toInt = c.toInt
  omega
theorem shr0 (x : Int32) : x >>> ((0 : Int32) &&& 31) = x := by
  apply Int32.toInt_inj.mp
  rw [c_ishr x 0 0 (by decide)]
  simp
theorem own_len0 {cs : List Int32} (hl : cs.length ≤ 4000) (h : Int32.ofNat cs.length = 0) : cs = [] := by
  have := congrArg Int32.toNatClampNeg h
  rw [n_cl (by omega)] at this
  exact List.length_eq_zero_iff.mp (by simpa using this)
theorem own_ltn {i : Int32} (hi : ¬ i < 0) {n : Nat} (hl : n ≤ 4000) (h : i.toNatClampNeg < n) : i < Int32.ofNat n := by
  have e := (back32 hi).1
  rw [← e]
  exact (n_lt (by omega) (by omega)).mpr h
/-- a byte read back as a char -/
theorem own_lo8c {c : Int32} (h : ¬ c < 0 ∧ ¬ (255 : Int32) < c) : (c.toInt8.toInt32 &&& (255 : Int32)).toUInt32.toUInt16.toUInt32.toInt32 = c := by
  rw [i2c_mask]
  have e := c_i2b c
  have m := c_mask c.toInt8.toInt32 255 8 (by decide) (by decide)
  simp only [Int32.lt_iff_toInt_lt] at h
  have k0 : (0 : Int32).toInt = 0 := rfl
  have k1 : (255 : Int32).toInt = 255 := rfl
  rw [k0, k1] at h
  apply Int32.toInt_inj.mp
  rw [m]
  have k2 : ((2 ^ 8 : Nat) : Int) = 256 := by decide
  rw [k2]
  omega
theorem refNarA {v : Value} (h : v.isRef = true) (t : FieldType) : narrow (.array t) v = v := by cases v <;> simp_all [Value.isRef] <;> rfl
theorem refFitsA {v : Value} (h : v.isRef = true) (t : FieldType) : fits (.array t) v = true := by cases v <;> simp_all [Value.isRef] <;> rfl
theorem refNar {v : Value} (h : v.isRef = true) (C : String) : narrow (.object C) v = v := by cases v <;> simp_all [Value.isRef] <;> rfl
theorem refFits {v : Value} (h : v.isRef = true) (C : String) : fits (.object C) v = true := by cases v <;> simp_all [Value.isRef] <;> rfl
theorem safe0 {Z : State} {vm : Vm} {h : Heap} {x : Addr} : Safe Z [] vm h x := fun ⟨p, hp, _⟩ => by cases hp
theorem refCat {v : Value} (h : v.isRef = true) : v.category = 1 := by cases v <;> simp_all [Value.isRef, Value.category]
theorem own_fold : ∀ (vs : List Value) (acc : Array Slot), (∀ v ∈ vs, v.category = 1) → vs.foldl (fun acc v => if v.category = 2 then (acc.push (.val v)).push .second else acc.push (.val v)) acc = acc ++ (vs.map Slot.val).toArray
  | [], acc, _ => by simp
  | v :: vs, acc, h => by
    have hv : ¬ v.category = 2 := by rw [h v (List.mem_cons_self ..)]; decide
    rw [List.foldl_cons, if_neg hv, own_fold vs _ (fun w hw => h w (List.mem_cons_of_mem _ hw))]
    simp
theorem own_ef {m : MethodId} {vs : List Value} {n : Nat} (h : ∀ v ∈ vs, v.category = 1) : entryFrame m vs.toArray n = mkF m 0 ((vs.map Slot.val).toArray ++ Array.replicate (n - vs.length) .unset) [] := by
  have e := own_fold vs #[] h
  simp only [entryFrame, mkF, argsToLocals, List.foldl_toArray', List.size_toArray]
  rw [e]
  simp
theorem own_isR (a : Addr) : (Value.ref a).isRef = true := rfl
theorem own_isN : Value.null.isRef = true := rfl
theorem own_caR (a : Addr) : (Value.ref a).category = 1 := rfl
theorem own_caN : Value.null.category = 1 := rfl
theorem own_caI (z : Int32) : (Value.int z).category = 1 := rfl
end Jvm.OwnK
namespace Jvm.OwnK
open Jvm Sem ClassFile Op Lib Jvm.Stand Jvm.Free Jvm.LawKit Jvm.RoadKit Bundle
section Start
variable {args : Array Value} {s : State} {a b t u : Term}
/-- what an equation of the sheet says of its first side -/
theorem eqv {y : Value} (h : (Jvm.Cond.eq a b).value args s none s [] = some true) (hb : b.eval args s none [] s = some y) (hy : y.isRef = true ∨ ∃ n, y = .int n) : a.eval args s none [] s = some y := by
  obtain ⟨x, y', h1, h2, -, -⟩ := cmp_v (Or.inl h)
  cases h2.symm.trans hb
  rw [h1]
  rcases hy with hy | ⟨n, rfl⟩
  · cases x <;> cases y <;> simp_all [Cond.value, Value.isRef]
  · cases x <;> simp_all [Cond.value]
/-- an array that stood at the start, its length and its components told by the sheet -/
theorem arrStart (hf : Fit s) {va : Addr} {ty : FieldType} (ht : t.eval args s none [] s = some (.ref va)) (h1 : (Jvm.Cond.arrayOf t ty).value args s none s [] = some true) {n : Nat} (hn : n < 2147483648) (h2 : (Jvm.Cond.eq (.length t) (.int (Int32.ofNat n))).value args s none s [] = some true)
    {vs : List Value} (hl : vs.length = n) (H : ∀ c, s.heap[va]? = some c → HasL c 0 vs) : ∃ k, OA s s.heap va k ty vs := by
  obtain ⟨c, A⟩ := Arr.start ht h1
  have hlen : (Term.length t).eval args s none [] s = some (.int (Int32.ofNat n)) := eqv h2 rfl (Or.inr ⟨_, rfl⟩)
  obtain ⟨sd, SA, hev, harrAt, -⟩ := Term.length_spec hlen
  have e0 : sd = va := by have := hev.symm.trans ht; injection this with q; injection q
  subst e0
  have h31 := SBG.length_lt hev harrAt hlen
  have hA : s.arrayAt? sd = some c := A.fin (U := s) (Vm.Alike.refl _)
  cases harrAt.symm.trans hA
  have e : (Term.length t).eval args s none [] s = some (.int c.slots.size.toInt32) := len_f hev hA h31
  have e2 : c.slots.size.toInt32 = Int32.ofNat n := by have := e.symm.trans hlen; injection this with q; injection q
  exact ⟨c.cls, Int32.ofNat n, .int 0, Arv.start hf A h31 e2 (n_nn hn) (by rw [n_cl hn, hl]) (H c A.1), by rw [n_cl hn, hl]⟩
end Start
end Jvm.OwnK
namespace Jvm.OwnK
open Jvm Sem ClassFile Op Lib Jvm.Stand Jvm.Free Jvm.LawKit Jvm.RoadKit Bundle
section Dig
theorem own_cons {P : Int32 → Prop} {a : Int32} {l : List Int32} (ha : P a) (hl : ∀ c ∈ l, P c) : ∀ c ∈ a :: l, P c := fun c hc => by
  rcases List.mem_cons.mp hc with rfl | hc
  · exact ha
  · exact hl c hc
theorem own_nil {P : Int32 → Prop} : ∀ c ∈ ([] : List Int32), P c := fun _ h => nomatch h
def Dig (c : Int32) : Prop := ¬ c < 48 ∧ ¬ (57 : Int32) < c
theorem Dig.int {c : Int32} (h : Dig c) : 48 ≤ c.toInt ∧ c.toInt ≤ 57 := by
  have h1 := h.1
  have h2 := h.2
  rw [Int32.lt_iff_toInt_lt] at h1 h2
  have k0 : (48 : Int32).toInt = 48 := rfl
  have k1 : (57 : Int32).toInt = 57 := rfl
  rw [k0] at h1; rw [k1] at h2
  omega
theorem Dig.of {c : Int32} (h : 48 ≤ c.toInt ∧ c.toInt ≤ 57) : Dig c := by
  constructor
  · rw [Int32.lt_iff_toInt_lt]; have k0 : (48 : Int32).toInt = 48 := rfl
    rw [k0]; omega
  · rw [Int32.lt_iff_toInt_lt]; have k0 : (57 : Int32).toInt = 57 := rfl
    rw [k0]; omega
theorem Dig.c255 {c : Int32} (h : Dig c) : ¬ c < 0 ∧ ¬ (255 : Int32) < c := by
  have := h.int
  have k0 : (0 : Int32).toInt = 0 := rfl
  have k1 : (255 : Int32).toInt = 255 := rfl
  constructor
  · rw [Int32.lt_iff_toInt_lt, k0]; omega
  · rw [Int32.lt_iff_toInt_lt, k1]; omega
theorem Dig.cases {c : Int32} (h : Dig c) : c = 48 ∨ c = 49 ∨ c = 50 ∨ c = 51 ∨ c = 52 ∨ c = 53 ∨ c = 54 ∨ c = 55 ∨ c = 56 ∨ c = 57 := by
  have := h.int
  have e : ∀ k : Int32, c.toInt = k.toInt → c = k := fun k q => Int32.toInt_inj.mp q
  have : c.toInt = 48 ∨ c.toInt = 49 ∨ c.toInt = 50 ∨ c.toInt = 51 ∨ c.toInt = 52 ∨ c.toInt = 53 ∨ c.toInt = 54 ∨ c.toInt = 55 ∨ c.toInt = 56 ∨ c.toInt = 57 := by omega
  rcases this with q | q | q | q | q | q | q | q | q | q
  · exact Or.inl (e 48 q)
  · exact Or.inr (Or.inl (e 49 q))
  · exact Or.inr (Or.inr (Or.inl (e 50 q)))
  · exact Or.inr (Or.inr (Or.inr (Or.inl (e 51 q))))
  · exact Or.inr (Or.inr (Or.inr (Or.inr (Or.inl (e 52 q)))))
  · exact Or.inr (Or.inr (Or.inr (Or.inr (Or.inr (Or.inl (e 53 q))))))
  · exact Or.inr (Or.inr (Or.inr (Or.inr (Or.inr (Or.inr (Or.inl (e 54 q)))))))
  · exact Or.inr (Or.inr (Or.inr (Or.inr (Or.inr (Or.inr (Or.inr (Or.inl (e 55 q))))))))
  · exact Or.inr (Or.inr (Or.inr (Or.inr (Or.inr (Or.inr (Or.inr (Or.inr (Or.inl (e 56 q)))))))))
  · exact Or.inr (Or.inr (Or.inr (Or.inr (Or.inr (Or.inr (Or.inr (Or.inr (Or.inr (e 57 q)))))))))
theorem Dig.shr {c : Int32} (h : Dig c) : XT.ushr c 8 = 0 := by
  rcases h.cases with rfl | rfl | rfl | rfl | rfl | rfl | rfl | rfl | rfl | rfl <;> rfl
theorem Dig.d {c : Int32} (h : Dig c) : ¬ (c - 48) < 0 ∧ (c - 48) < 10 := by
  rcases h.cases with rfl | rfl | rfl | rfl | rfl | rfl | rfl | rfl | rfl | rfl <;> decide
theorem Dig.sub {c : Int32} (h : Dig c) : (c - 48).toInt = c.toInt - 48 := by
  have e := c_isub c 48
  have := h.int
  have k0 : (48 : Int32).toInt = 48 := rfl
  rw [k0] at e
  have := (c - 48).le_toInt
  have := (c - 48).toInt_lt
  omega
theorem Dig.nat {c : Int32} (h : Dig c) : (c.toNatClampNeg : Int) = c.toInt := by
  have := h.int
  rw [← Int32.toNat_toInt]; omega
/-- the value of decimal digits behind a -/
def dv : List Int32 → Nat → Nat
  | [], a => a
  | c :: cs, a => dv cs (10 * a + (c.toNatClampNeg - 48))
theorem dv_le : ∀ (cs : List Int32) (a : Nat), a ≤ dv cs a
  | [], a => Nat.le_refl _
  | c :: cs, a => Nat.le_trans (by omega) (dv_le cs (10 * a + (c.toNatClampNeg - 48)))
/-- one turn of parseInt's loop, in numbers -/
theorem dv_turn {acc c : Int32} {a N : Nat} {rest : List Int32} (hc : Dig c) (hN : dv (c :: rest) a = N) (hb : N < 2147483648) (ha : acc.toInt = -(a : Int)) :
    ¬ acc < (-2147483647 : Int32) / 10 ∧ ¬ acc * 10 < (-2147483647 : Int32) + (c - 48) ∧ (acc * 10 - (c - 48)).toInt = -((10 * a + (c.toNatClampNeg - 48) : Nat) : Int) := by
  have h1 := dv_le rest (10 * a + (c.toNatClampNeg - 48))
  have h2 : dv rest (10 * a + (c.toNatClampNeg - 48)) = N := hN
  have h3 := hc.sub
  have h4 := hc.int
  have h5 := hc.nat
  have m := c_imul acc 10
  have k10 : (10 : Int32).toInt = 10 := rfl
  rw [k10, ha] at m
  have m1 := (acc * 10).le_toInt
  have m2 := (acc * 10).toInt_lt
  have hm : (acc * 10).toInt = -(10 * (a : Int)) := by omega
  have s := c_isub (acc * 10) (c - 48)
  rw [hm, h3] at s
  have s1 := (acc * 10 - (c - 48)).le_toInt
  have s2 := (acc * 10 - (c - 48)).toInt_lt
  have t := c_iadd (-2147483647) (c - 48)
  have kl : (-2147483647 : Int32).toInt = -2147483647 := rfl
  rw [kl, h3] at t
  have t1 := ((-2147483647 : Int32) + (c - 48)).le_toInt
  have t2 := ((-2147483647 : Int32) + (c - 48)).toInt_lt
  refine ⟨?_, ?_, ?_⟩
  · rw [Int32.lt_iff_toInt_lt, ha]
    have : ((-2147483647 : Int32) / 10).toInt = -214748364 := rfl
    rw [this]; omega
  · rw [Int32.lt_iff_toInt_lt, hm]; omega
  · omega
theorem dv_end {acc : Int32} {a : Nat} (hb : a < 2147483648) (ha : acc.toInt = -(a : Int)) : -acc = Int32.ofNat a := by
  apply Int32.toInt_inj.mp
  rw [Int32.toInt_ofNat_small hb]
  have e := c_ineg acc
  rw [ha] at e
  have := (-acc).le_toInt
  have := (-acc).toInt_lt
  omega
theorem own_sub0 (x : Int32) : x - 0 = x := by
  apply Int32.toInt_inj.mp
  have e := c_isub x 0
  have k0 : (0 : Int32).toInt = 0 := rfl
  rw [k0] at e
  have := (x - 0).le_toInt
  have := (x - 0).toInt_lt
  have := x.le_toInt
  have := x.toInt_lt
  omega
/-- the decimal digit of n at p, as a char -/
def dg (n p : Int32) : Int32 := 48 + n / p % 10
theorem dg_int {n p : Int32} {P : Nat} (hn : ¬ n < 0) (hp : p.toInt = P) (h1 : p ≠ -1) (hP : 0 < P) : (dg n p).toInt = 48 + n.toInt / P % 10 ∧ 0 ≤ n.toInt := by
  have hn0 : 0 ≤ n.toInt := by rw [Int32.lt_iff_toInt_lt] at hn; exact Int.not_lt.mp hn
  have e1 := (c_idiv n p P hp h1).1 hn0
  have q0 : 0 ≤ (n / p).toInt := by rw [e1]; exact Int.ediv_nonneg hn0 (by omega)
  have e2 := (c_irem (n / p) 10 10 rfl).1 q0
  have e3 := c_iadd 48 (n / p % 10)
  have k0 : (48 : Int32).toInt = 48 := rfl
  rw [k0, e2, e1] at e3
  have := (dg n p).le_toInt
  have := (dg n p).toInt_lt
  refine ⟨?_, hn0⟩
  have e4 : ((dg n p).toInt - (48 + n.toInt / P % 10)) % 4294967296 = 0 := e3
  omega
theorem dg_dig {n p : Int32} {P : Nat} (hn : ¬ n < 0) (hp : p.toInt = P) (h1 : p ≠ -1) (hP : 0 < P) : Dig (dg n p) := by
  have e := (dg_int hn hp h1 hP).1
  apply Dig.of; omega
theorem dg_i2c {n p : Int32} {P : Nat} (hn : ¬ n < 0) (hp : p.toInt = P) (h1 : p ≠ -1) (hP : 0 < P) : (48 + n / p % 10).toUInt32.toUInt16.toUInt32.toInt32 = dg n p := by
  have d := (dg_dig hn hp h1 hP).int
  have e := c_i2c (dg n p)
  apply Int32.toInt_inj.mp
  show (dg n p).toUInt32.toUInt16.toUInt32.toInt32.toInt = _
  omega
theorem dv_dg {n p : Int32} (P : Nat) (hn : ¬ n < 0) (hp : p.toInt = P) (h1 : p ≠ -1) (hP : 0 < P) (rest : List Int32) : dv (dg n p :: rest) (n.toNatClampNeg / (P * 10)) = dv rest (n.toNatClampNeg / P) := by
  obtain ⟨e, hn0⟩ := dg_int hn hp h1 hP
  have d := dg_dig hn hp h1 hP
  have d1 := d.nat
  have en : (n.toNatClampNeg : Int) = n.toInt := by rw [← Int32.toNat_toInt]; omega
  show dv rest _ = dv rest _
  have k : (n.toInt / (P : Int)) = ((n.toNatClampNeg / P : Nat) : Int) := by rw [← en]; rfl
  rw [k] at e
  rw [← Nat.div_div_eq_div_mul]
  congr 1
  omega
theorem dg_lead {n p : Int32} {P : Nat} (hn : ¬ n < 0) (hp : p.toInt = P) (h1 : p ≠ -1) (hP : 0 < P) (lo : ¬ n < p) (hi : n.toInt < 10 * (P : Int)) : ¬ dg n p = 48 := by
  obtain ⟨e, hn0⟩ := dg_int hn hp h1 hP
  intro q
  rw [q] at e
  have k0 : (48 : Int32).toInt = 48 := rfl
  rw [k0] at e
  rw [Int32.lt_iff_toInt_lt, hp] at lo
  have a1 : 1 ≤ n.toInt / (P : Int) := (Int.le_ediv_iff_mul_le (by omega)).mpr (by omega)
  have a2 : n.toInt / (P : Int) < 10 := Int.ediv_lt_of_lt_mul (by omega) (by omega)
  omega
/-- the plain decimal form of n -/
def Good (cs : List Int32) (n : Int32) : Prop := (0 < cs.length ∧ cs.length ≤ 10) ∧ (∀ c ∈ cs, Dig c) ∧ (∀ c, cs[0]? = some c → 1 < cs.length → ¬ c = 48) ∧ dv cs 0 = n.toNatClampNeg
variable {args : Array Value} {s : State} {t : Term}
theorem own_isref (h : (Jvm.Cond.isRef t).value args s none s [] = some true) : ∃ v, t.eval args s none [] s = some v ∧ v.isRef = true := by
  simp only [Jvm.Cond.value] at h
  cases q : t.eval args s none [] s with
  | none => simp [q] at h
  | some v => exact ⟨v, rfl, by cases v <;> simp_all [Value.isRef]⟩
theorem hasL_self {c : Cell} : ∀ (r : List Value) (i : Nat), c.slots.toList.drop i = r → HasL c i r
  | [], _, _ => trivial
  | v :: r, i, h => by
    refine ⟨?_, hasL_self r (i + 1) ?_⟩
    · have := congrArg (fun l => l[0]?) h
      simpa [List.getElem?_drop] using this
    · have := congrArg List.tail h
      simpa [List.tail_drop] using this
/-- an array that stood at the start, its length told; what the sheet says of a component -/
theorem arrStart2 (hf : Fit s) {va : Addr} {ty : FieldType} (ht : t.eval args s none [] s = some (.ref va)) (h1 : (Jvm.Cond.arrayOf t ty).value args s none s [] = some true) {n : Nat} (hn : n < 2147483648) (h2 : (Jvm.Cond.eq (.length t) (.int (Int32.ofNat n))).value args s none s [] = some true) :
    ∃ k vs, OA s s.heap va k ty vs ∧ vs.length = n ∧ ∀ (j : Int32) v, (Term.elem t (.int j)).eval args s none [] s = some v → vs[j.toNatClampNeg]? = some v := by
  obtain ⟨c, A⟩ := Arr.start ht h1
  have hlen : (Term.length t).eval args s none [] s = some (.int (Int32.ofNat n)) := eqv h2 rfl (Or.inr ⟨_, rfl⟩)
  obtain ⟨sd, SA, hev, harrAt, -⟩ := Term.length_spec hlen
  have e0 : sd = va := by have := hev.symm.trans ht; injection this with q; injection q
  subst e0
  have h31 := SBG.length_lt hev harrAt hlen
  have hA : s.arrayAt? sd = some c := A.fin (U := s) (Vm.Alike.refl _)
  cases harrAt.symm.trans hA
  have e : (Term.length t).eval args s none [] s = some (.int c.slots.size.toInt32) := len_f hev hA h31
  have e2 : c.slots.size.toInt32 = Int32.ofNat n := by have := e.symm.trans hlen; injection this with q; injection q
  have e3 : c.slots.size = n := by
    have := congrArg Int32.toNatClampNeg e2
    rw [n_cl hn] at this
    rw [← this]; exact (n_cl h31).symm
  obtain ⟨k, O⟩ := arrStart hf ht h1 hn h2 (vs := c.slots.toList) (by simpa using e3) (fun c' hc' => by
    have := hc'.symm.trans A.1
    cases this
    exact hasL_self _ 0 (by simp))
  refine ⟨k, _, O, by simpa using e3, fun j v hv => ?_⟩
  obtain ⟨a, j', cell, q1, q2, q3, -, q5⟩ := Term.elem_spec hv
  cases q1.symm.trans ht
  cases q3.symm.trans hA
  have : j' = j := by have q : some (Value.int j) = some (Value.int j') := q2; injection q with q; injection q with q; exact q.symm
  subst this
  simpa using q5
end Dig
end Jvm.OwnK
namespace Jvm.OwnK
open Jvm Sem ClassFile Op Lib Jvm.Stand Jvm.Free Jvm.LawKit Jvm.RoadKit Bundle
section Copy
variable {p : Program} {l : Launch} {e : Env} {R : Room} {s : State} {m : MethodId} {args : Array Value} {below : List Frame} {meth : Method} {c : Code} {Z : State} {a0 : Array Value} {EL : List (String × Nat)} {nb : Bool} {own : String} {code : ByteArray} {ml : Nat} {ret : Option FieldType} {nm : String} {vm : Vm} {T : State} {locs : List Loc} {ce sl : Nat} {h : Heap} {pc : Nat} {ls : Array Slot} {st : List Value}
abbrev acM : MethodName := ⟨"java/lang/System", "arraycopy", "(Ljava/lang/Object;ILjava/lang/Object;II)V"⟩
/-- what a copy leaves -/
def cpy (ys xs : List Value) (o q n : Nat) : List Value := ys.take q ++ ((xs.drop o).take n ++ ys.drop (q + n))
theorem cpy_len {ys xs : List Value} {o q n : Nat} (h4 : o + n ≤ xs.length) (h5 : q + n ≤ ys.length) : (cpy ys xs o q n).length = ys.length := by
  simp only [cpy, List.length_append, List.length_take, List.length_drop]; omega
theorem cpy_at {ys xs : List Value} {o q n j : Nat} (h4 : o + n ≤ xs.length) (h5 : q + n ≤ ys.length) : (cpy ys xs o q n)[j]? = if q ≤ j ∧ j < q + n then xs[o + (j - q)]? else ys[j]? := by
  have l1 : (ys.take q).length = q := by rw [List.length_take]; omega
  have l2 : ((xs.drop o).take n).length = n := by rw [List.length_take, List.length_drop]; omega
  unfold cpy
  by_cases c1 : j < q
  · rw [if_neg (by omega), List.getElem?_append_left (by omega), List.getElem?_take, if_pos c1]
  · rw [List.getElem?_append_right (by omega), l1]
    by_cases c2 : j < q + n
    · rw [if_pos ⟨by omega, c2⟩, List.getElem?_append_left (by omega), List.getElem?_take, if_pos (by omega), List.getElem?_drop]
    · rw [if_neg (by omega), List.getElem?_append_right (by omega), l2, List.getElem?_drop]
      congr 1; omega
/-- System.arraycopy between two byte arrays, the second made since the law began -/
theorem oCopy (W : OW p l e R s m args below meth c Z a0 EL nb own code ml ret nm vm T locs ce sl h) {idx : Nat} {a b : Addr} {ka kb : ClassId} {xs ys : List Value} (A : OA Z h a ka .byte xs) (B : OA Z h b kb .byte ys) {o q n : Nat} (h4 : o + n ≤ xs.length) (h5 : q + n ≤ ys.length) (hfr : Z.heap.size ≤ b) (hS : Safe Z EL vm h b)
    (w1 : (Jvm.Cond.methodLink own idx acM).before a0 Z = true) (w2 : (Jvm.Cond.native acM).before a0 Z = true) (w3 : (Jvm.Cond.static acM).before a0 Z = true) (w4 : (Jvm.Cond.initialized "java/lang/System").before a0 Z = true)
    (hsz : ls.size = ml) (hd : decode code pc = .ok (.invokestatic idx, 3)) {V : Nat} (hV : (st.map fun v => v.category).sum ≤ V) (hf : 1 ≤ R.frames) (hl : V + 40 ≤ R.locals) :
    ∃ T' h', OW p l e R s m args below meth c Z a0 EL nb own code ml ret nm vm T' (locs ++ copyLocs b q n) ce sl h' ∧ Keep h h' [b] ∧ OA Z h' b kb .byte (cpy ys xs o q n) ∧ CHr Z EL vm h vm h' ∧
      Lt p e below T (mkF m pc ls (.int (Int32.ofNat n) :: .int (Int32.ofNat q) :: .ref b :: .int (Int32.ofNat o) :: .ref a :: st)) T' (mkF m (pc + 3) ls st) := by
  obtain ⟨n1, d1, ⟨cA, A1, hk1, hs1, hn1, H1, G1⟩, r1⟩ := A
  obtain ⟨n2, d2, ⟨cB, B1, hk2, hs2, hn2, H2, G2⟩, r2⟩ := B
  have b1 : cA.slots.size < 2 ^ 31 := by rw [hs1, ← Int32.toNat_toInt]; have := n1.toInt_lt; omega
  have b2 : cB.slots.size < 2 ^ 31 := by rw [hs2, ← Int32.toNat_toInt]; have := n2.toInt_lt; omega
  have eT := W.heap
  have hZ := W.warm
  have hTv : (s.setVm vm).vm.Alike T.vm := W.2.1.warmed.alike
  have XA : XT.Arr .byte a cA T := ⟨by rw [eT]; exact A1.1, State.isArrayOf_alike (hZ.alike.trans hTv) A1.2.1, A1.2.2, b1⟩
  have XB : XT.Arr .byte b cB T := ⟨by rw [eT]; exact B1.1, State.isArrayOf_alike (hZ.alike.trans hTv) B1.2.1, B1.2.2, b2⟩
  have xl : xs.length = cA.slots.size := by rw [← r1, hs1]
  have yl : ys.length = cB.slots.size := by rw [← r2, hs2]
  have gx : ∀ j, j < cA.slots.size → cA.slots[j]? = xs[j]? := fun j hj => by
    rw [H1 j hj, List.getD_eq_getElem?_getD, List.getElem?_eq_getElem (by omega)]; rfl
  have gy : ∀ j, j < cB.slots.size → cB.slots[j]? = ys[j]? := fun j hj => by
    rw [H2 j hj, List.getD_eq_getElem?_getD, List.getElem?_eq_getElem (by omega)]; rfl
  have gd : ∀ j, j < cA.slots.size → cA.slots.getD j .null = xs.getD j d1 := fun j hj => by
    rw [Array.getD_eq_getD_getElem?, H1 j hj]; rfl
  obtain ⟨T', B', X', P, e1, e2, e3, e4, st'⟩ := W.2.1.acopy W.1.1 W.owns (index := idx) (fun w hw => by
      simp only [XT.acW, List.mem_cons, List.not_mem_nil, or_false] at hw
      rcases hw with rfl | rfl | rfl | rfl
      · exact (mvT hZ w1 : (Jvm.Cond.methodLink own idx acM).before args (s.setVm vm) = true)
      · exact (mvT hZ w2 : (Jvm.Cond.native acM).before args (s.setVm vm) = true)
      · exact (mvT hZ w3 : (Jvm.Cond.static acM).before args (s.setVm vm) = true)
      · exact mvT hZ w4) XA XB (by decide) (o := o) (q := q) (n := n) rfl rfl rfl (by omega) (by omega)
    (fun i hi => ⟨by rw [gd _ (by omega)]; exact G1 _ (by omega), fun hr => by cases hr⟩) (g := mkF m pc ls (.int (Int32.ofNat n) :: .int (Int32.ofNat q) :: .ref b :: .int (Int32.ofNat o) :: .ref a :: st)) rfl (hsz.trans W.1.2.2.1.symm) rfl (oDec W hd) (W := V) (by show 2 * 0 + _ ≤ _; omega) hf hl
  have hb : b < h.size := B1.lt
  have K : Keep h T'.heap [b] := by
    refine ⟨by rw [P.2.2, eT]; exact Nat.le_refl _, fun x c' hx hn => ?_, fun x c' hx => ?_⟩
    · rw [P.2.1 x (fun q => hn (by rw [q]; exact List.mem_singleton.mpr rfl)), eT]; exact hx
    · by_cases q : x = b
      · subst q
        cases B1.1.symm.trans hx
        exact ⟨B', P.1, e1, e2, e3⟩
      · exact ⟨c', by rw [P.2.1 x q, eT]; exact hx, rfl, rfl, rfl⟩
  have hC : CHr Z EL vm h vm T'.heap := CHr.keep K (fun x hx => by cases List.mem_singleton.mp hx; exact hS) W.chv
  refine ⟨T', T'.heap, W.step X' rfl hC (W.fr.app fun y hy => ?_) (exK W.ext K (fun x hx => by cases List.mem_singleton.mp hx; exact hfr)), K, ⟨n2, d2, ⟨B', ⟨P.1, ⟨by rw [e2]; exact B1.2.1.1, by rw [e1]; exact B1.2.1.2⟩, by rw [e2]; exact B1.2.2⟩, by rw [e1]; exact hk2, by rw [e3]; exact hs2, hn2, fun j hj => ?_, fun j hj => ?_⟩, by rw [cpy_len h4 h5]; exact r2⟩, hC, st'⟩
  · simp only [copyLocs, List.mem_map] at hy
    obtain ⟨i, -, rfl⟩ := hy
    exact hfr
  · rw [e3] at hj
    rw [List.getD_eq_getElem?_getD, cpy_at h4 h5, e4 j]
    split
    · rename_i hq
      rw [gd _ (by omega), List.getD_eq_getElem?_getD, List.getElem?_eq_getElem (by omega)]; rfl
    · rw [gy j hj, List.getElem?_eq_getElem (by omega)]; rfl
  · rw [e3] at hj
    rw [List.getD_eq_getElem?_getD, cpy_at h4 h5]
    split
    · rename_i hq
      have := G1 (o + (j - q)) (by omega)
      rw [List.getD_eq_getElem?_getD, List.getElem?_eq_getElem (by omega)] at this
      rw [List.getElem?_eq_getElem (by omega)]; exact this
    · have := G2 j hj
      rw [List.getD_eq_getElem?_getD, List.getElem?_eq_getElem (by omega)] at this
      rw [List.getElem?_eq_getElem (by omega)]; exact this
end Copy
end Jvm.OwnK
namespace Jvm.OwnK
open Jvm Sem ClassFile Op Lib Jvm.Stand Jvm.Free Jvm.LawKit Jvm.RoadKit Bundle
section Sup
variable {p : Program} {l : Launch} {e : Env} {R : Room} {s : State} {m : MethodId} {args : Array Value} {below : List Frame} {meth : Method} {c : Code} {Z : State} {a0 : Array Value} {EL : List (String × Nat)} {nb : Bool} {own : String} {code : ByteArray} {ml : Nat} {ret : Option FieldType} {nm : String} {vm : Vm} {T : State} {locs : List Loc} {ce sl : Nat} {h : Heap} {pc : Nat} {ls : Array Slot} {st : List Value}
  {y : MethodName} {bytes : ByteArray} {maxL : Nat} {ret' : Option FieldType} {rm : Room} {as' : Array Value} {sf : List Addr} {Q' : Option Value → Vm → Heap → Prop}
/-- a class that some call lands in is no interface -/
theorem own_class {C : String} {z : MethodName} (w : (Jvm.Cond.selects C z z).before a0 Z = true) : ∃ cid k, Z.vm.findClass z.cls = some cid ∧ Z.vm.classes[cid]? = some k ∧ k.isInterface = false := by
  obtain ⟨c2, r2, m2, q1, q2, q3, q4, kP, hkP, hkPi⟩ := Cond.selects_spec w
  exact ⟨_, kP, findClass_of_methodNamed q3, hkP, hkPi⟩
theorem own_same (hy : y.cls ≠ "java/lang/invoke/MethodHandle" ∧ y.cls ≠ "java/lang/invoke/VarHandle") (wd : (Jvm.Cond.declares y).before a0 Z = true) (F : ∃ cid k, Z.vm.findClass y.cls = some cid ∧ Z.vm.classes[cid]? = some k ∧ k.isInterface = false) : (Jvm.Cond.sameMethod y.cls y.cls y.name y.desc).before a0 Z = true := by
  obtain ⟨r0, r, hn, hrm, -, -⟩ := Cond.declares_spec wd
  obtain ⟨cid, k, h1, h2, h3⟩ := F
  have hf := State.methodFound?_of_named hn hy
  have hn' : Z.methodNamed? ⟨y.cls, y.name, y.desc⟩ = some r0 := hn
  simp [Jvm.Cond.before, Jvm.Cond.holds, Jvm.Cond.value, h1, hf, hn', h2, h3]
/-- NotFace of a method whose class is told so -/
theorem own_nf (F : ∃ cid k, Z.vm.findClass y.cls = some cid ∧ Z.vm.classes[cid]? = some k ∧ k.isInterface = false) : NotFace Z y := fun r0 h0 => by
  obtain ⟨cid, k, h1, h2, h3⟩ := F
  cases (findClass_of_methodNamed h0).symm.trans h1
  exact ⟨k, h2, h3⟩
/-- super.m(..) -/
theorem oCallU (W : OW p l e R s m args below meth c Z a0 EL nb own code ml ret nm vm T locs ce sl h) {idx : Nat} {K : String} {argsL : List Value} {a : Addr} (F : Ins Z h a K true) (hM : OC l Z EL nb [] y bytes maxL ret' rm (.ref a :: argsL).toArray h sf Q') (hsf : ∀ x ∈ sf, x < h.size ∧ Safe Z EL vm h x) (w1 : (Jvm.Cond.methodLink own idx y).before a0 Z = true) (w2 : (Jvm.Cond.sameMethod y.cls y.cls y.name y.desc).before a0 Z = true) (w3 : (Jvm.Cond.instanceMethod y).before a0 Z = true) (w4 : (Jvm.Cond.superclass own y.cls).before a0 Z = true) (hn : y.name ≠ "<init>") (wz : (Jvm.Cond.initialized y.cls).before a0 Z = true) (wc : (Jvm.Cond.code y bytes maxL ret').before a0 Z = true)
    {na : Nat} (hna : argsL.length = na) (har : XT.arity y.desc = some na) (hsz : ls.size = ml) {stk : List Value} (hst : stk = argsL.reverse ++ .ref a :: st) (hd : decode code pc = .ok (.invokespecial idx, 3))
    {V : Nat} (hV : (st.map fun v => v.category).sum ≤ V) (hf : rm.frames + 1 ≤ R.frames) (hl : V + (maxL + 11) + rm.locals ≤ R.locals) (hc : ce + rm.cells ≤ R.cells) (hs : sl + rm.slots ≤ R.slots) :
    ∃ v T' L h' vm', OW p l e R s m args below meth c Z a0 EL nb own code ml ret nm vm' T' (locs ++ L) (ce + rm.cells) (sl + rm.slots) h' ∧ Q' v vm' h' ∧ CHr Z EL vm h vm' h' ∧ Lt p e below T (mkF m pc ls stk) T' (mkF m (pc + 3) ls (v.toList ++ st)) := by
  obtain ⟨v, vm₁, B, hW, X', hS, hgr, hP, st'⟩ := RoadKit.superBackS W.2.1 W.1.1 W.warm (y := y) W.owns w1 w2 w3 w4 hn (oBack W hM hsf wc wz hf hl) W.heap F (g := mkF m pc ls stk) rfl (hsz.trans W.1.2.2.1.symm) wc (argsL := argsL) (rest := st) (XT.arity_len har hna) hst (by show 2 * 0 + _ ≤ _; omega) (oDec W hd) (fun _ _ => ⟨rfl, W.heap, hc, hs⟩)
  exact ⟨v, oCalled W hW X' hS hP st'⟩
end Sup
end Jvm.OwnK
namespace Jvm.OwnK
open Jvm Sem ClassFile Op Lib Jvm.Stand Jvm.Free Jvm.LawKit Jvm.RoadKit Bundle
section Lists
variable {p : Program} {l : Launch} {e : Env} {R : Room} {s : State} {m : MethodId} {args : Array Value} {below : List Frame} {meth : Method} {c : Code} {Z : State} {a0 : Array Value} {EL : List (String × Nat)} {nb : Bool} {own : String} {code : ByteArray} {ml : Nat} {ret : Option FieldType} {nm : String} {vm : Vm} {T : State} {locs : List Loc} {ce sl : Nat} {h : Heap} {pc : Nat} {ls : Array Slot} {st : List Value}
  {y : MethodName} {bytes : ByteArray} {maxL : Nat} {ret' : Option FieldType} {rm : Room} {as' : Array Value} {sf : List Addr} {Q' : Option Value → Vm → Heap → Prop}
/-- a new array of references -/
theorem oNewR (W : OW p l e R s m args below meth c Z a0 EL nb own code ml ret nm vm T locs ce sl h) {idx : Nat} {C : String} (w1 : (Jvm.Cond.classLink own idx C).before a0 Z = true) (w2 : (Jvm.Cond.arrayOver (.object C)).before a0 Z = true) (hd : decode code pc = .ok (.anewarray idx, 3)) {n : Int32} (hn : ¬ n < 0) {cap : Nat} (hcap : n.toNatClampNeg ≤ cap) (hb : cap * 8 ≤ 536870912) (hc : ce + 1 ≤ R.cells) (hl : sl + cap ≤ R.slots) :
    ∃ T' h' a k, OW p l e R s m args below meth c Z a0 EL nb own code ml ret nm vm T' locs (ce + 1) (sl + cap) h' ∧ h.size ≤ a ∧ Ext h h' ∧ OA Z h' a k (.object C) (List.replicate n.toNatClampNeg .null) ∧ Ovr Z k C ∧ CHr Z EL vm h vm h' ∧
      Lt p e below T (mkF m pc ls (.int n :: st)) T' (mkF m (pc + 3) ls (.ref a :: st)) := by
  obtain ⟨T', h', cA, X', eT, E, A, O, st'⟩ := RoadKit.newR W.2.1 W.1.1 W.warm W.owns w1 w2 W.heap (g := mkF m pc ls (.int n :: st)) rfl (oDec W hd) rfl hn hcap hb hc hl
  have hC : CHr Z EL vm h vm h' := CHr.ext E W.chv
  have F := (Arv.new A hn).pad (vs' := [] ++ List.replicate n.toNatClampNeg (defaultValue (.object C))) (pad_rep [] _ _)
  exact ⟨T', h', h.size, cA, W.step X' eT hC W.fr (exT W.ext E), Nat.le_refl _, E, ⟨n, _, F, by simp⟩, O, hC, st'⟩
/-- a store into such an array -/
theorem oPutR (W : OW p l e R s m args below meth c Z a0 EL nb own code ml ret nm vm T locs ce sl h) {a x : Addr} {k : ClassId} {C : String} {vs : List Value} (A : OA Z h a k (.object C) vs) (O : Ovr Z k C) (I : Ins Z h x C true) {j : Int32} (hj : ¬ j < 0) {i : Nat} (hji : j.toNatClampNeg = i) (hlt : i < vs.length) (hfr : Z.heap.size ≤ a) (hd : decode code pc = .ok (.aastore, 1)) :
    ∃ T' h', OW p l e R s m args below meth c Z a0 EL nb own code ml ret nm vm T' (locs ++ [⟨a, i⟩]) ce sl h' ∧ Wr h h' a i (.ref x) ∧ OA Z h' a k (.object C) (vs.set i (.ref x)) ∧ CHr Z EL vm h vm h' ∧ Lt p e below T (mkF m pc ls (.ref x :: .int j :: .ref a :: st)) T' (mkF m (pc + 1) ls st) := by
  have hS : Safe Z EL vm h a := A.safe W.warm.alike (by simp)
  obtain ⟨n, d, ⟨cl, A1, hk, hs, hn, H, G⟩, r⟩ := A
  subst hji
  have hin : ¬ (j < 0 ∨ cl.slots.size ≤ j.toNatClampNeg) := fun q => q.elim hj (fun q => by rw [hs, r] at q; omega)
  obtain ⟨T', h', X', eT, Wr', st'⟩ := RoadKit.stR W.2.1 W.1.1 W.warm W.heap A1 hin rfl (Sto.ofV A1 hk O I) (g := mkF m pc ls (.ref x :: .int j :: .ref a :: st)) rfl rfl (oDec W hd)
  have hC : CHr Z EL vm h vm h' := CHr.wr Wr' hS W.chv
  exact ⟨T', h', W.step X' eT hC (frS W.fr hfr) (exW W.ext Wr' hfr), Wr', ⟨n, d, Arv.set A1 hk hs hn H G rfl Wr' _ rfl hlt, by simpa using r⟩, hC, st'⟩
/-- a call through an interface -/
theorem oCallI (W : OW p l e R s m args below meth c Z a0 EL nb own code ml ret nm vm T locs ce sl h) {idx cnt : Nat} {x : MethodName} {C : String} {argsL : List Value} {a : Addr} (E : Exa Z h a C) (hM : OC l Z EL nb [] y bytes maxL ret' rm (.ref a :: argsL).toArray h sf Q') (hsf : ∀ x ∈ sf, x < h.size ∧ Safe Z EL vm h x) (w1 : (Jvm.Cond.methodLink own idx x).before a0 Z = true) (w2 : (Jvm.Cond.declares x).before a0 Z = true) (wf : (Jvm.Cond.interfaceMethod x.cls x.cls x.name x.desc).before a0 Z = true) (kf : ((Jvm.Cond.interfaceMethod x.cls x.cls x.name x.desc).onTables && (Jvm.Cond.interfaceMethod x.cls x.cls x.name x.desc).keepsFace) = true) (w3 : (Jvm.Cond.selects C x y).before a0 Z = true) (w4 : (Jvm.Cond.instanceMethod y).before a0 Z = true) (wp : (Jvm.Cond.publicMethod y).before a0 Z = true) (wu : (Jvm.Cond.unhidden C x.name x.desc).before a0 Z = true) (wk : (Jvm.Cond.castable C x.cls).before a0 Z = true) (wz : (Jvm.Cond.initialized y.cls).before a0 Z = true) (wc : (Jvm.Cond.code y bytes maxL ret').before a0 Z = true)
    (hy : x.cls ≠ "java/lang/invoke/MethodHandle" ∧ x.cls ≠ "java/lang/invoke/VarHandle") {na : Nat} (hna : argsL.length = na) (har : XT.arity x.desc = some na) (hsz : ls.size = ml) {stk : List Value} (hst : stk = argsL.reverse ++ .ref a :: st) (hd : decode code pc = .ok (.invokeinterface idx cnt, 5))
    {V : Nat} (hV : (st.map fun v => v.category).sum ≤ V) (hf : rm.frames + 1 ≤ R.frames) (hl : V + (maxL + 11) + rm.locals ≤ R.locals) (hc : ce + rm.cells ≤ R.cells) (hs : sl + rm.slots ≤ R.slots) :
    ∃ v T' L h' vm', OW p l e R s m args below meth c Z a0 EL nb own code ml ret nm vm' T' (locs ++ L) (ce + rm.cells) (sl + rm.slots) h' ∧ Q' v vm' h' ∧ CHr Z EL vm h vm' h' ∧ Lt p e below T (mkF m pc ls stk) T' (mkF m (pc + 5) ls (v.toList ++ st)) := by
  obtain ⟨cB, kB, i1, i2, i3⟩ := isOf (s := s.setVm vm) (T := T) W.warm W.heap E
  obtain ⟨v, vm₁, B, hW, X', hS, hgr, hP, st'⟩ := W.2.1.interfaceBackS W.1.1 (xi := x) (y := y) W.owns (mvT W.warm w1) (mvT W.warm w2) (mvT W.warm wf kf) (mvT W.warm w3) (mvT W.warm w4) (mvT W.warm wp) (mvT W.warm wu) (mvT W.warm wk) hy (oBack W hM hsf wc wz hf hl) i1 i2 i3 (g := mkF m pc ls stk) rfl (hsz.trans W.1.2.2.1.symm) (Steps.refl _) (argsL := argsL) (rest := st) (XT.arity_len har hna) hst (by show 2 * 0 + _ ≤ _; omega) (oDec W hd) (fun _ _ => ⟨rfl, W.heap, hc, hs⟩)
  exact ⟨v, oCalled W hW X' hS hP st'⟩
/-- an instance method with a body is declared -/
theorem own_decl {y : MethodName} (wi : (Jvm.Cond.instanceMethod y).before a0 Z = true) (wc : (Jvm.Cond.code y bytes maxL ret').before a0 Z = true) : (Jvm.Cond.declares y).before a0 Z = true := by
  obtain ⟨mk, me, hn, hm, hst, -⟩ := Cond.instanceMethod_spec wi
  obtain ⟨me', c', h1, -, -, -, -, -, -, h8⟩ := Cond.code_spec hn wc
  cases hm.symm.trans h1
  simp [Jvm.Cond.before, Jvm.Cond.holds, Jvm.Cond.value, hn, hm, hst, h8]
end Lists
end Jvm.OwnK
namespace Jvm.OwnK
open Jvm Sem ClassFile Op Lib Jvm.Stand Jvm.Free Jvm.LawKit Jvm.RoadKit Bundle
section Refs
variable {p : Program} {l : Launch} {e : Env} {R : Room} {s : State} {m : MethodId} {args : Array Value} {below : List Frame} {meth : Method} {c : Code} {Z : State} {a0 : Array Value} {EL : List (String × Nat)} {nb : Bool} {own : String} {code : ByteArray} {ml : Nat} {ret : Option FieldType} {nm : String} {vm : Vm} {T : State} {locs : List Loc} {ce sl : Nat} {h : Heap} {pc : Nat} {ls : Array Slot} {st : List Value}
/-- getfield of an entry that is told to be resolved already -/
theorem oGetFR (W : OW p l e R s m args below meth c Z a0 EL nb own code ml ret nm vm T locs ce sl h) {idx : Nat} {R0 O n d : String} (w : (Jvm.Cond.fieldRef own idx R0 n d).before a0 Z = true) (via : Via Z R0 O n d) {a : Addr} {v : Value} (F : Fld Z h a O n d v) (hd : decode code pc = .ok (.getfield idx, 3)) :
    ∃ T', OW p l e R s m args below meth c Z a0 EL nb own code ml ret nm vm T' locs ce sl h ∧ Lt p e below T (mkF m pc ls (.ref a :: st)) T' (mkF m (pc + 3) ls (v :: st)) := by
  obtain ⟨cell, cf, k, i, f, h1, h2, h3, h4, -, -, h7⟩ := F
  have X := W.2.1
  have hZ : Z.Warmed39 T.vm := RoadKit.wtrans (s := s.setVm vm) (U := T) W.warm X.warmed
  obtain ⟨k', hi, -⟩ := State.fieldFound?_setVm (s := Z) hZ.alike (via _ h2)
  have hcur : (Z.setVm T.vm).vm.findClass own = some m.cls := (X.warmed.alike.findClass own none).trans W.owns
  obtain ⟨c2, k2, i2, f2, hj, hr⟩ := Cond.fieldRef_spec hcur (Cond.fieldRef_warmed39 hZ w)
  cases hi.symm.trans hj
  exact ⟨T, W, fun t ht => (Stand.getfieldR X W.1.1 (g := mkF m pc ls (.ref a :: st)) rfl hr h3 rfl (by rw [W.heap]; exact h1) h4 h7 (oDec W hd) (Steps.refl _)).trans ht⟩
theorem oMono (W : OW p l e R s m args below meth c Z a0 EL nb own code ml ret nm vm T locs ce sl h) {ce' sl' : Nat} (hc : ce ≤ ce') (hs : sl ≤ sl') : OW p l e R s m args below meth c Z a0 EL nb own code ml ret nm vm T locs ce' sl' h := ⟨W.1, W.2.1.mono hc hs, W.2.2⟩
end Refs
end Jvm.OwnK
namespace Jvm.Pilot.@@N@@
open Jvm Jvm.ClassFile Sem Op Lib Jvm.Free Jvm.Stand Jvm.LawKit Jvm.RoadKit Bundle Jvm.Pilot.@@N@@.Jvm.D Jvm.OwnK
section OwnStr
abbrev mI1 : MethodName := ⟨"java/lang/String", "<init>", "([C)V"⟩
abbrev mI4 : MethodName := ⟨"java/lang/String", "<init>", "([CIILjava/lang/Void;)V"⟩
abbrev mC3 : MethodName := ⟨"java/lang/StringUTF16", "compress", "([CII)[B"⟩
abbrev mC5 : MethodName := ⟨"java/lang/StringUTF16", "compress", "([CI[BII)I"⟩
abbrev mCL : MethodName := ⟨"java/lang/StringUTF16", "coderFromArrayLen", "([BI)B"⟩
/-- the words on String's constructor -/
def sW : List Jvm.Cond := [.methodLink "java/lang/String" 27 mI4, .instanceMethod mI4, .code mI4 jdk_42_method_149_code 6 none, .methodLink "java/lang/String" 1 ⟨"java/lang/Object", "<init>", "()V"⟩, .instanceMethod ⟨"java/lang/Object", "<init>", "()V"⟩, .code ⟨"java/lang/Object", "<init>", "()V"⟩ object_method_1_code 1 none,
  .fieldLink "java/lang/String" 38 "java/lang/String" "COMPACT_STRINGS" "Z", .methodLink "java/lang/String" 177 mC3, .static mC3, .initialized "java/lang/StringUTF16", .code mC3 jdk_52_method_16_code 6 (some (.array .byte)), .arrayClass .byte,
  .methodLink "java/lang/StringUTF16" 115 mC5, .static mC5, .code mC5 jdk_52_method_21_code 7 (some .int), .methodLink "java/lang/String" 47 mCL, .static mCL, .code mCL jdk_52_method_15_code 2 (some .byte),
  .fieldLink "java/lang/String" 15 "java/lang/String" "coder" "B", .laysFinal "java/lang/String" "java/lang/String" "coder" "B", .fieldLink "java/lang/String" 9 "java/lang/String" "value" "[B", .laysFinal "java/lang/String" "java/lang/String" "value" "[B", .initialized "java/lang/String", .instantiable "java/lang/String" 4, .code mI1 jdk_42_method_3_code 2 none]
theorem sW_in : ∀ d ∈ sW, d ∈ tables_1 := by decide +kernel
/-- a String of Latin-1 chars -/
def Str (Z : State) (h : Heap) (x : Addr) (cs : List Int32) : Prop := ∃ t k, Exa Z h x "java/lang/String" ∧ Fld Z h x "java/lang/String" "coder" "B" (.int 0) ∧ Fld Z h x "java/lang/String" "value" "[B" (.ref t) ∧ OA Z h t k .byte (cs.map fun c => Value.int c.toInt8.toInt32) ∧ ∀ c ∈ cs, ¬ c < 0 ∧ ¬ (255 : Int32) < c
theorem Str.ext {Z : State} {h h' : Heap} {x : Addr} {cs : List Int32} (F : Str Z h x cs) (E : Ext h h') : Str Z h' x cs := by
  obtain ⟨t, k, h1, h2, h3, h4, h5⟩ := F
  exact ⟨t, k, h1.ext E, h2.ext E, h3.ext E, h4.ext E, h5⟩
theorem Str.exa {Z : State} {h : Heap} {x : Addr} {cs : List Int32} (F : Str Z h x cs) : Exa Z h x "java/lang/String" := by obtain ⟨t, k, h1, -⟩ := F; exact h1
variable {l : Launch} {Z : State} {a0 : Array Value} {EL : List (String × Nat)} {nb : Bool} {h0 : Heap}
/-- what every String call leans on -/
def SC (Z : State) (a0 : Array Value) (EL : List (String × Nat)) : Prop := (∀ d ∈ sW, d.before a0 Z = true) ∧ EW Z a0 EL ∧ ∃ z, Sta Z Z.heap "java/lang/String" "COMPACT_STRINGS" "Z" (.int z) ∧ ¬ z = 0
abbrev rm0 : Room := { frames := 0, cells := 0, slots := 0, locals := 0 }
theorem k_CL (hE : EW Z a0 EL) {t : Addr} {k : ClassId} {vs : List Value} {n : Int32} (A : OA Z h0 t k .byte vs) :
    OC l Z EL nb [] mCL jdk_52_method_15_code 2 (some .byte) rm0 #[.ref t, .int n] h0 [] (fun v _ h => v = some (.int (XT.ushr (n - vs.length.toInt32) (31 : Int32)).toInt8.toInt32) ∧ h = h0) := by
  refine oEnter (by decide +kernel) hE ?_
  intro p e s m below meth c T0 W0 _
  refine oEq (g' := mkF m 0 #[.val (.ref t), .val (.int n)] []) (by first | (simp [entryFrame, mkF, argsToLocals, Value.category]; done) | rfl) ?_
  refine oGo W0 [.iload_n 1, .aload_n 0] (by decide +kernel) (ls' := #[.val (.ref t), .val (.int n)]) (st' := [.ref t, .int n]) rfl rfl (pc' := 2) rfl ?_
  refine oLen W0 A (by decide +kernel) ?_
  refine oGo W0 [.isub, .bipush 31, .iushr, .i2b] (by decide +kernel) (ls' := #[.val (.ref t), .val (.int n)]) (st' := [.int (XT.ushr (n - vs.length.toInt32) (31 : Int32)).toInt8.toInt32]) rfl rfl (pc' := 8) rfl ?_
  exact oRetN (by simp) W0 (nar_b _) (by decide +kernel) (lb rfl) (lb rfl) (fun _ _ => ⟨rfl, rfl⟩)
def bigAt : List Int32 → Nat
  | [] => 0
  | c :: cs => if (255 : Int32) < c then 0 else bigAt cs + 1
theorem bigAt_all : ∀ {cs : List Int32}, (∀ c ∈ cs, ¬ (255 : Int32) < c) → bigAt cs = cs.length
  | [], _ => rfl
  | c :: cs, h => by
    rw [bigAt, if_neg (h c (List.mem_cons_self ..)), bigAt_all (fun d hd => h d (List.mem_cons_of_mem _ hd)), List.length_cons]
theorem bigAt_at : ∀ {cs : List Int32} {k : Nat} (hk : k < cs.length), (∀ c ∈ cs.take k, ¬ (255 : Int32) < c) → (255 : Int32) < cs[k] → bigAt cs = k
  | [], k, hk, _, _ => absurd hk (Nat.not_lt_zero _)
  | c :: cs, 0, hk, _, hb => by rw [bigAt, if_pos (by simpa using hb)]
  | c :: cs, k + 1, hk, h, hb => by
    rw [List.take_succ_cons] at h
    rw [bigAt, if_neg (h c (List.mem_cons_self ..)), bigAt_at (k := k) (by simpa using hk) (fun d hd => h d (List.mem_cons_of_mem _ hd)) (by simpa using hb)]
def Q5 (Z : State) (h0 : Heap) (d : Addr) (kd : ClassId) (cs : List Int32) (v : Option Value) (_ : Vm) (h : Heap) : Prop := v = some (.int (Int32.ofNat (bigAt cs))) ∧ Keep h0 h [d] ∧ (bigAt cs = cs.length → OA Z h d kd .byte (cs.map fun c => Value.int c.toInt8.toInt32))
theorem set_step {cs : List Int32} {k r : Nat} (hk : k + (r + 1) = cs.length) (hlt : k < cs.length) :
    ((cs.take k).map (fun c : Int32 => Value.int c.toInt8.toInt32) ++ List.replicate (r + 1) (Value.int 0)).set k (Value.int cs[k].toInt8.toInt32) = (cs.take (k + 1)).map (fun c : Int32 => Value.int c.toInt8.toInt32) ++ List.replicate r (Value.int 0) := by
  have e1 : ((cs.take k).map (fun c : Int32 => Value.int c.toInt8.toInt32)).length = k := by simp; omega
  rw [List.set_append_right _ _ (by omega), e1, Nat.sub_self, List.replicate_succ, List.set_cons_zero, List.take_succ_eq_append_getElem hlt, List.map_append, List.append_assoc]
  rfl
theorem k_C5_loop {p : Program} {e : Env} {R : Room} {s : State} {m : MethodId} {args : Array Value} {below : List Frame} {meth : Method} {c : Code} {nm : String} {ck sk : Nat} {b d : Addr} {kb kd : ClassId} {cs : List Int32} (hl : cs.length < 2147483648) (hbd : b ≠ d) (hdf : Z.heap.size ≤ d) :
    ∀ (r k : Nat), k + r = cs.length → ∀ {vm : Vm} {T : State} {locs : List Loc} {h : Heap} {s6 : Slot}, OW p l e R s m args below meth c Z a0 EL nb "java/lang/StringUTF16" jdk_52_method_21_code 7 (some .int) nm vm T locs 0 0 h → OA Z h b kb .char (cs.map Value.int) →
      OA Z h d kd .byte ((cs.take k).map (fun c : Int32 => Value.int c.toInt8.toInt32) ++ List.replicate r (.int 0)) → Safe Z EL vm h d → Keep h0 h [d] → (∀ c ∈ cs.take k, ¬ (255 : Int32) < c) → (s6 = .unset ∨ ∃ x, s6 = .val (.int x)) →
      OG p e below s Z EL nb (Q5 Z h0 d kd cs) ck sk T (mkF m 3 #[.val (.ref b), .val (.int (Int32.ofNat k)), .val (.ref d), .val (.int (Int32.ofNat k)), .val (.int (Int32.ofNat cs.length)), .val (.int (Int32.ofNat k)), s6] [])
  | 0, k, hk, _, T, locs, h, s6, W, A, B, S, K, hsm, h6 => by
    have hkl : k = cs.length := by omega
    subst hkl
    refine oGo W [.iload 5, .iload 4] (by decide +kernel) (ls' := #[.val (.ref b), .val (.int (Int32.ofNat cs.length)), .val (.ref d), .val (.int (Int32.ofNat cs.length)), .val (.int (Int32.ofNat cs.length)), .val (.int (Int32.ofNat cs.length)), s6]) (st' := [.int (Int32.ofNat cs.length), .int (Int32.ofNat cs.length)]) rfl rfl (pc' := 7) rfl ?_
    refine oIcT W (cd := .ge) (o := 37) (by decide +kernel) (XT.ii_ge_t (fun q => Int32.lt_irrefl q)) (pc' := 44) (by decide) (by decide) ?_
    refine oGo W [.iload 4] (by decide +kernel) (ls' := #[.val (.ref b), .val (.int (Int32.ofNat cs.length)), .val (.ref d), .val (.int (Int32.ofNat cs.length)), .val (.int (Int32.ofNat cs.length)), .val (.int (Int32.ofNat cs.length)), s6]) (st' := [.int (Int32.ofNat cs.length)]) rfl rfl (pc' := 46) rfl ?_
    rw [List.take_length] at hsm B
    have hb := bigAt_all hsm
    exact oRetI W (by decide +kernel) (Nat.zero_le _) (Nat.zero_le _) (fun _ _ => ⟨by rw [hb], K, fun _ => by simpa using B⟩)
  | r + 1, k, hk, _, T, locs, h, s6, W, A, B, S, K, hsm, h6 => by
    have hlt : k < cs.length := by omega
    refine oGo W [.iload 5, .iload 4] (by decide +kernel) (ls' := #[.val (.ref b), .val (.int (Int32.ofNat k)), .val (.ref d), .val (.int (Int32.ofNat k)), .val (.int (Int32.ofNat cs.length)), .val (.int (Int32.ofNat k)), s6]) (st' := [.int (Int32.ofNat cs.length), .int (Int32.ofNat k)]) rfl rfl (pc' := 7) rfl ?_
    refine oIcF W (cd := .ge) (o := 37) (by decide +kernel) (XT.ii_ge_f ((n_lt (by omega) hl).mpr hlt)) (pc' := 10) rfl ?_
    refine oGo W [.aload_n 0, .iload_n 1] (by decide +kernel) (ls' := #[.val (.ref b), .val (.int (Int32.ofNat k)), .val (.ref d), .val (.int (Int32.ofNat k)), .val (.int (Int32.ofNat cs.length)), .val (.int (Int32.ofNat k)), s6]) (st' := [.int (Int32.ofNat k), .ref b]) rfl rfl (pc' := 12) rfl ?_
    refine oGet W A (n_nn (by omega)) (v := .int cs[k]) (by rw [n_cl (by omega)]; simp [hlt]) (Or.inl ⟨rfl, rfl⟩) (by decide +kernel) ?_
    have go6 : OG p e below s Z EL nb (Q5 Z h0 d kd cs) ck sk T (mkF m 20 #[.val (.ref b), .val (.int (Int32.ofNat k)), .val (.ref d), .val (.int (Int32.ofNat k)), .val (.int (Int32.ofNat cs.length)), .val (.int (Int32.ofNat k)), .val (.int cs[k])] [.int (255 : Int32), .int cs[k]]) := by
      by_cases hc : (255 : Int32) < cs[k]
      · refine oIcF W (cd := .le) (o := 6) (by decide +kernel) (XT.ii_le_f hc) (pc' := 23) rfl ?_
        refine oGo W [.iload 5] (by decide +kernel) (ls' := #[.val (.ref b), .val (.int (Int32.ofNat k)), .val (.ref d), .val (.int (Int32.ofNat k)), .val (.int (Int32.ofNat cs.length)), .val (.int (Int32.ofNat k)), .val (.int cs[k])]) (st' := [.int (Int32.ofNat k)]) rfl rfl (pc' := 25) rfl ?_
        have hb := bigAt_at hlt hsm hc
        exact oRetI W (by decide +kernel) (Nat.zero_le _) (Nat.zero_le _) (fun _ _ => ⟨by rw [hb], K, fun q => absurd (hb.symm.trans q) (by omega)⟩)
      · refine oIcT W (cd := .le) (o := 6) (by decide +kernel) (XT.ii_le_t hc) (pc' := 26) (by decide) (by decide) ?_
        refine oGo W [.aload_n 2, .iload_n 3, .iload 6, .i2b] (by decide +kernel) (ls' := #[.val (.ref b), .val (.int (Int32.ofNat k)), .val (.ref d), .val (.int (Int32.ofNat k)), .val (.int (Int32.ofNat cs.length)), .val (.int (Int32.ofNat k)), .val (.int cs[k])]) (st' := [.int (cs[k].toInt8.toInt32), .int (Int32.ofNat k), .ref d]) rfl rfl (pc' := 31) rfl ?_
        obtain ⟨T1, h1, W1, Wr1, B1, C1, st1⟩ := oPut W B (j := Int32.ofNat k) (pc := 31) (ls := #[.val (.ref b), .val (.int (Int32.ofNat k)), .val (.ref d), .val (.int (Int32.ofNat k)), .val (.int (Int32.ofNat cs.length)), .val (.int (Int32.ofNat k)), .val (.int cs[k])]) (st := []) (n_nn (by omega)) (i := k) (n_cl (by omega)) (by simp; omega) hdf S (ins := .bastore) (Or.inr (Or.inl ⟨rfl, rfl, nar_b _⟩)) (by decide +kernel)
        refine oLift st1 ?_
        refine oGo W1 [.iinc 1 1, .iinc 3 1, .iinc 5 1, .goto (-38)] (by decide +kernel) (ls' := #[.val (.ref b), .val (.int (Int32.ofNat k + 1)), .val (.ref d), .val (.int (Int32.ofNat k + 1)), .val (.int (Int32.ofNat cs.length)), .val (.int (Int32.ofNat k + 1)), .val (.int cs[k])]) (st' := []) rfl rfl (pc' := 3) rfl ?_
        rw [n_in]
        rw [set_step hk hlt] at B1
        refine k_C5_loop hl hbd hdf r (k + 1) (by omega) W1 (A.other Wr1 hbd) B1 (C1.safe B.lt S) (K.wr Wr1 (Or.inl (List.mem_singleton.mpr rfl))) ?_ (Or.inr ⟨_, rfl⟩)
        intro c hcm
        rw [List.take_succ_eq_append_getElem hlt, List.mem_append, List.mem_singleton] at hcm
        rcases hcm with hcm | rfl
        · exact hsm c hcm
        · exact hc
    rcases h6 with rfl | ⟨x, rfl⟩
    · exact oGo W [.istore 6, .iload 6, .sipush 255] (by decide +kernel) (ls' := #[.val (.ref b), .val (.int (Int32.ofNat k)), .val (.ref d), .val (.int (Int32.ofNat k)), .val (.int (Int32.ofNat cs.length)), .val (.int (Int32.ofNat k)), .val (.int cs[k])]) (st' := [.int (255 : Int32), .int cs[k]]) rfl rfl (pc' := 20) rfl go6
    · exact oGo W [.istore 6, .iload 6, .sipush 255] (by decide +kernel) (ls' := #[.val (.ref b), .val (.int (Int32.ofNat k)), .val (.ref d), .val (.int (Int32.ofNat k)), .val (.int (Int32.ofNat cs.length)), .val (.int (Int32.ofNat k)), .val (.int cs[k])]) (st' := [.int (255 : Int32), .int cs[k]]) rfl rfl (pc' := 20) rfl go6
theorem k_C5 (hE : EW Z a0 EL) {b d : Addr} {kb kd : ClassId} {cs : List Int32} (hl : cs.length < 2147483648) (hbd : b ≠ d) (hdf : Z.heap.size ≤ d) (A : OA Z h0 b kb .char (cs.map Value.int)) (B : OA Z h0 d kd .byte (List.replicate cs.length (.int 0))) :
    OC l Z EL nb [] mC5 jdk_52_method_21_code 7 (some .int) rm0 #[.ref b, .int 0, .ref d, .int 0, .int (Int32.ofNat cs.length)] h0 [d] (Q5 Z h0 d kd cs) := by
  refine oEnter (by decide +kernel) hE ?_
  intro p e s m below meth c T0 W0 S0
  refine oEq (g' := mkF m 0 #[.val (.ref b), .val (.int 0), .val (.ref d), .val (.int 0), .val (.int (Int32.ofNat cs.length)), .unset, .unset] []) (by first | (simp [entryFrame, mkF, argsToLocals, Value.category]; done) | rfl) ?_
  refine oGo W0 [.iconst 0, .istore 5] (by decide +kernel) (ls' := #[.val (.ref b), .val (.int 0), .val (.ref d), .val (.int 0), .val (.int (Int32.ofNat cs.length)), .val (.int 0), .unset]) (st' := []) rfl rfl (pc' := 3) rfl ?_
  exact k_C5_loop hl hbd hdf cs.length 0 (by omega) W0 A (by simpa using B) (S0 d (List.mem_singleton.mpr rfl)) (Keep.refl _ _) (by simp) (Or.inl rfl)
abbrev rmC3 (n : Nat) : Room := { frames := 1, cells := 1, slots := n, locals := 18 }
theorem k_C3 (K : SC Z a0 EL) {b : Addr} {kb : ClassId} {cs : List Int32} (hl : cs.length ≤ 4000) (A : OA Z h0 b kb .char (cs.map Value.int)) (hsm : ∀ c ∈ cs, ¬ (255 : Int32) < c) :
    OC l Z EL nb [] mC3 jdk_52_method_16_code 6 (some (.array .byte)) (rmC3 cs.length) #[.ref b, .int 0, .int (Int32.ofNat cs.length)] h0 [] (fun v _ h => ∃ d k, v = some (.ref d) ∧ h0.size ≤ d ∧ Ext h0 h ∧ OA Z h d k .byte (cs.map fun c => Value.int c.toInt8.toInt32)) := by
  have hs := K.1
  refine oEnter (by decide +kernel) K.2.1 ?_
  intro p e s m below meth c T0 W0 _
  refine oEq (g' := mkF m 0 #[.val (.ref b), .val (.int 0), .val (.int (Int32.ofNat cs.length)), .unset, .unset, .unset] []) (by first | (simp [entryFrame, mkF, argsToLocals, Value.category]; done) | rfl) ?_
  refine oGo W0 [.iload_n 2] (by decide +kernel) (ls' := #[.val (.ref b), .val (.int 0), .val (.int (Int32.ofNat cs.length)), .unset, .unset, .unset]) (st' := [.int (Int32.ofNat cs.length)]) rfl rfl (pc' := 1) rfl ?_
  have hcl : (Int32.ofNat cs.length).toNatClampNeg = cs.length := n_cl (by omega)
  obtain ⟨T1, h1, d, kd, W1, g1, E1, B1, S1, C1, st1⟩ := oNewA W0 (aty := .byte) (pc := 1) (ls := #[.val (.ref b), .val (.int 0), .val (.int (Int32.ofNat cs.length)), .unset, .unset, .unset]) (st := []) (hs _ (List.mem_of_getElem? (i := 11) rfl)) (by decide +kernel) (n := Int32.ofNat cs.length) (n_nn (by omega)) (cap := cs.length) (by rw [hcl]; exact Nat.le_refl _) (by omega) (lb rfl) (by show 0 + cs.length ≤ cs.length; omega)
  refine oLift st1 ?_
  rw [hcl] at B1
  refine oGo W1 [.astore_n 3, .aload_n 0, .iload_n 1, .aload_n 3, .iconst 0, .iload_n 2] (by decide +kernel) (ls' := #[.val (.ref b), .val (.int 0), .val (.int (Int32.ofNat cs.length)), .val (.ref d), .unset, .unset]) (st' := [.int (Int32.ofNat cs.length), .int 0, .ref d, .int 0, .ref b]) rfl rfl (pc' := 9) rfl ?_
  have hbd : b ≠ d := Nat.ne_of_lt (Nat.lt_of_lt_of_le A.lt g1)
  obtain ⟨v2, T2, L2, h2, vm2, W2, ⟨rfl, K2, B2⟩, C2, st2⟩ := oCallS W1 (idx := 115) (pc := 9) (ls := #[.val (.ref b), .val (.int 0), .val (.int (Int32.ofNat cs.length)), .val (.ref d), .unset, .unset]) (st := []) (argsL := [.ref b, .int 0, .ref d, .int 0, .int (Int32.ofNat cs.length)]) (k_C5 (h0 := h1) K.2.1 (by omega) hbd (Nat.le_trans W0.ext.1 g1) (A.ext E1) B1)
    (fun x hx => by cases List.mem_singleton.mp hx; exact ⟨B1.lt, S1⟩) (hs _ (List.mem_of_getElem? (i := 12) rfl)) (hs _ (List.mem_of_getElem? (i := 13) rfl)) (hs _ (List.mem_of_getElem? (i := 9) rfl)) (hs _ (List.mem_of_getElem? (i := 14) rfl)) (by decide) (na := 5) rfl (by decide +kernel) rfl (stk := [.int (Int32.ofNat cs.length), .int 0, .ref d, .int 0, .ref b]) rfl (by decide +kernel) (V := 0) (lb rfl) (lb rfl) (lb rfl) (lb rfl) (by show 0 + cs.length + 0 ≤ cs.length; omega)
  refine oLift st2 ?_
  have hb := bigAt_all hsm
  rw [hb]
  refine oGo W2 [.istore 4, .iload 4, .iload_n 2] (by decide +kernel) (ls' := #[.val (.ref b), .val (.int 0), .val (.int (Int32.ofNat cs.length)), .val (.ref d), .val (.int (Int32.ofNat cs.length)), .unset]) (st' := [.int (Int32.ofNat cs.length), .int (Int32.ofNat cs.length)]) rfl rfl (pc' := 17) rfl ?_
  refine oIcT W2 (cd := .eq) (o := 40) (by decide +kernel) (XT.ii_eq_t rfl) (pc' := 57) (by decide) (by decide) ?_
  refine oGo W2 [.aload_n 3] (by decide +kernel) (ls' := #[.val (.ref b), .val (.int 0), .val (.int (Int32.ofNat cs.length)), .val (.ref d), .val (.int (Int32.ofNat cs.length)), .unset]) (st' := [.ref d]) rfl rfl (pc' := 58) rfl ?_
  exact oRetA rfl W2 rfl rfl (by decide +kernel) (lb rfl) (by show 0 + cs.length + 0 ≤ cs.length; omega) (fun _ _ => ⟨d, kd, rfl, g1, exK E1 K2 (fun x hx => by cases List.mem_singleton.mp hx; exact g1), B2 hb⟩)
theorem slots_vc (K : SC Z a0 EL) : RoadKit.slotOf Z "java/lang/String" "coder" "B" ≠ RoadKit.slotOf Z "java/lang/String" "value" "[B" :=
  slot_ne (a0 := a0) (C := "java/lang/String") (Or.inr (K.1 _ (List.mem_of_getElem? (i := 19) rfl))) (Or.inr (K.1 _ (List.mem_of_getElem? (i := 21) rfl))) (by decide) (t := .byte) (t' := .array .byte) (by decide) (by decide)
abbrev rmI4 (n : Nat) : Room := { frames := 2, cells := 1, slots := n, locals := 35 }
theorem k_I4 (K : SC Z a0 EL) {x b : Addr} {kb : ClassId} {cs : List Int32} {v0 c0 : Value} (hl : cs.length ≤ 4000) (hl0 : 0 < cs.length) (A : OA Z h0 b kb .char (cs.map Value.int)) (hsm : ∀ c ∈ cs, ¬ c < 0 ∧ ¬ (255 : Int32) < c) (hxf : Z.heap.size ≤ x) (E : Exa Z h0 x "java/lang/String") (Fc : Fld Z h0 x "java/lang/String" "coder" "B" c0) (Fv : Fld Z h0 x "java/lang/String" "value" "[B" v0) :
    OC l Z EL nb [] mI4 jdk_42_method_149_code 6 none (rmI4 cs.length) #[.ref x, .ref b, .int 0, .int (Int32.ofNat cs.length), .null] h0 [x] (fun v _ h => v = none ∧ Keep h0 h [x] ∧ Str Z h x cs) := by
  have hs := K.1
  obtain ⟨z, hz, hz0⟩ := K.2.2
  refine oEnter (by decide +kernel) K.2.1 ?_
  intro p e s m below meth c T0 W0 S0
  refine oEq (g' := mkF m 0 #[.val (.ref x), .val (.ref b), .val (.int 0), .val (.int (Int32.ofNat cs.length)), .val .null, .unset] []) (by first | (simp [entryFrame, mkF, argsToLocals, Value.category]; done) | rfl) ?_
  refine oGo W0 [.aload_n 0] (by decide +kernel) (ls' := #[.val (.ref x), .val (.ref b), .val (.int 0), .val (.int (Int32.ofNat cs.length)), .val .null, .unset]) (st' := [.ref x]) rfl rfl (pc' := 1) rfl ?_
  obtain ⟨T1, W1, st1⟩ := oInit W0 (idx := 1) (pc := 1) (ls := #[.val (.ref x), .val (.ref b), .val (.int 0), .val (.int (Int32.ofNat cs.length)), .val .null, .unset]) (st := []) (a := x) (hs _ (List.mem_of_getElem? (i := 3) rfl)) (hs _ (List.mem_of_getElem? (i := 4) rfl)) (hs _ (List.mem_of_getElem? (i := 5) rfl)) rfl (by decide +kernel) (lb rfl) (V := 0) (lb rfl) (lb rfl)
  refine oLift st1 ?_
  refine oGo W1 [.iload_n 3] (by decide +kernel) (ls' := #[.val (.ref x), .val (.ref b), .val (.int 0), .val (.int (Int32.ofNat cs.length)), .val .null, .unset]) (st' := [.int (Int32.ofNat cs.length)]) rfl rfl (pc' := 5) rfl ?_
  have hn0 : ¬ Int32.ofNat cs.length = 0 := fun q => by
    have := congrArg Int32.toNatClampNeg q
    rw [n_cl (by omega)] at this
    exact absurd this (by show ¬ cs.length = 0; omega)
  refine oIfT W1 (cd := .ne) (o := 22) (by decide +kernel) (XT.i0_ne_t hn0) (pc' := 27) (by decide) (by decide) ?_
  obtain ⟨T2, W2, st2⟩ := oGetS W1 (pc := 27) (ls := #[.val (.ref x), .val (.ref b), .val (.int 0), .val (.int (Int32.ofNat cs.length)), .val .null, .unset]) (st := []) (hs _ (List.mem_of_getElem? (i := 6) rfl)) Via.refl (hz.ext W1.ext) (by decide +kernel)
  refine oLift st2 ?_
  refine oIfF W2 (cd := .eq) (o := 28) (by decide +kernel) (XT.i0_eq_f hz0) (pc' := 33) rfl ?_
  refine oGo W2 [.aload_n 1, .iload_n 2, .iload_n 3] (by decide +kernel) (ls' := #[.val (.ref x), .val (.ref b), .val (.int 0), .val (.int (Int32.ofNat cs.length)), .val .null, .unset]) (st' := [.int (Int32.ofNat cs.length), .int 0, .ref b]) rfl rfl (pc' := 36) rfl ?_
  obtain ⟨v3, T3, L3, h3, vm3, W3, ⟨d, kd, rfl, g3, E3, B3⟩, C3, st3⟩ := oCallS W2 (idx := 177) (pc := 36) (ls := #[.val (.ref x), .val (.ref b), .val (.int 0), .val (.int (Int32.ofNat cs.length)), .val .null, .unset]) (st := []) (argsL := [.ref b, .int 0, .int (Int32.ofNat cs.length)]) (k_C3 (h0 := h0) K hl A (fun c hc => (hsm c hc).2))
    (fun x hx => nomatch hx) (hs _ (List.mem_of_getElem? (i := 7) rfl)) (hs _ (List.mem_of_getElem? (i := 8) rfl)) (hs _ (List.mem_of_getElem? (i := 9) rfl)) (hs _ (List.mem_of_getElem? (i := 10) rfl)) (by decide) (na := 3) rfl (by decide +kernel) rfl (stk := [.int (Int32.ofNat cs.length), .int 0, .ref b]) rfl (by decide +kernel) (V := 0) (lb rfl) (lb rfl) (lb rfl) (lb rfl) (by show 0 + cs.length ≤ cs.length; omega)
  refine oLift st3 ?_
  refine oGo W3 [.astore 5, .aload_n 0, .aload 5, .iload_n 3] (by decide +kernel) (ls' := #[.val (.ref x), .val (.ref b), .val (.int 0), .val (.int (Int32.ofNat cs.length)), .val .null, .val (.ref d)]) (st' := [.int (Int32.ofNat cs.length), .ref d, .ref x]) rfl rfl (pc' := 45) rfl ?_
  obtain ⟨v4, T4, L4, h4, vm4, W4, ⟨rfl, e4⟩, C4, st4⟩ := oCallS W3 (idx := 47) (pc := 45) (ls := #[.val (.ref x), .val (.ref b), .val (.int 0), .val (.int (Int32.ofNat cs.length)), .val .null, .val (.ref d)]) (st := [.ref x]) (argsL := [.ref d, .int (Int32.ofNat cs.length)]) (k_CL (h0 := h3) K.2.1 B3)
    (fun x hx => nomatch hx) (hs _ (List.mem_of_getElem? (i := 15) rfl)) (hs _ (List.mem_of_getElem? (i := 16) rfl)) (hs _ (List.mem_of_getElem? (i := 9) rfl)) (hs _ (List.mem_of_getElem? (i := 17) rfl)) (by decide) (na := 2) rfl (by decide +kernel) rfl (stk := [.int (Int32.ofNat cs.length), .ref d, .ref x]) rfl (by decide +kernel) (V := 1) (lb rfl) (lb rfl) (lb rfl) (lb rfl) (by show 0 + cs.length + 0 ≤ cs.length; omega)
  refine oLift st4 ?_
  subst e4
  have hc0 : (XT.ushr (Int32.ofNat cs.length - (cs.map fun c : Int32 => Value.int c.toInt8.toInt32).length.toInt32) (31 : Int32)).toInt8.toInt32 = 0 := by
    rw [List.length_map]
    show (XT.ushr (Int32.ofNat cs.length - Int32.ofNat cs.length) (31 : Int32)).toInt8.toInt32 = 0
    rw [Int32.sub_self]; decide
  rw [hc0]
  have S4 : Safe Z EL vm4 h4 x := C4.safe (E.ext E3).lt (C3.safe E.lt (S0 x (List.mem_singleton.mpr rfl)))
  obtain ⟨T5, h5, W5, Wr5, Fc5, E5, C5, st5⟩ := oPutF W4 (idx := 15) (pc := 48) (ls := #[.val (.ref x), .val (.ref b), .val (.int 0), .val (.int (Int32.ofNat cs.length)), .val .null, .val (.ref d)]) (st := []) (v := .int 0) (hs _ (List.mem_of_getElem? (i := 18) rfl)) Via.refl (Fc.ext E3) (E.ext E3) (Or.inr ⟨hs _ (List.mem_of_getElem? (i := 19) rfl), rfl, rfl⟩) (hs _ (List.mem_of_getElem? (i := 23) rfl)) (ty := .byte) (by decide) rfl rfl hxf S4 (by decide +kernel)
  refine oLift st5 ?_
  refine oGo W5 [.aload_n 0, .aload 5] (by decide +kernel) (ls' := #[.val (.ref x), .val (.ref b), .val (.int 0), .val (.int (Int32.ofNat cs.length)), .val .null, .val (.ref d)]) (st' := [.ref d, .ref x]) rfl rfl (pc' := 54) rfl ?_
  have hdx : d ≠ x := Nat.ne_of_gt (Nat.lt_of_lt_of_le E.lt g3)
  obtain ⟨T6, h6, W6, Wr6, Fv6, E6, C6, st6⟩ := oPutF W5 (idx := 9) (pc := 54) (ls := #[.val (.ref x), .val (.ref b), .val (.int 0), .val (.int (Int32.ofNat cs.length)), .val .null, .val (.ref d)]) (st := []) (v := .ref d) (hs _ (List.mem_of_getElem? (i := 20) rfl)) Via.refl ((Fv.ext E3).other Wr5 (Or.inr (Ne.symm (slots_vc K)))) E5 (Or.inr ⟨hs _ (List.mem_of_getElem? (i := 21) rfl), rfl, rfl⟩) (hs _ (List.mem_of_getElem? (i := 23) rfl)) (ty := .array .byte) (by decide) rfl rfl hxf (C5.safe (E.ext E3).lt S4) (by decide +kernel)
  refine oLift st6 ?_
  exact oRet0 W6 (by decide +kernel) (lb rfl) (by show 0 + cs.length + 0 ≤ cs.length; omega) (fun _ _ => ⟨rfl, (((Keep.refl h0 [x]).ext E3).wr Wr5 (Or.inl (List.mem_singleton.mpr rfl))).wr Wr6 (Or.inl (List.mem_singleton.mpr rfl)),
    d, kd, E6, Fc5.other Wr6 (Or.inr (slots_vc K)), Fv6, (B3.other Wr5 hdx).other Wr6 hdx, hsm⟩)
abbrev rmI1 (n : Nat) : Room := { frames := 3, cells := 1, slots := n, locals := 52 }
/-- new String(char[]): one to 4,000 chars of 0 to 255 -/
theorem k_I1 (K : SC Z a0 EL) {x b : Addr} {kb : ClassId} (cs : List Int32) {v0 c0 : Value} (hl : cs.length ≤ 4000) (hl0 : 0 < cs.length) (A : OA Z h0 b kb .char (cs.map Value.int)) (hsm : ∀ c ∈ cs, ¬ c < 0 ∧ ¬ (255 : Int32) < c) (hxf : Z.heap.size ≤ x) (E : Exa Z h0 x "java/lang/String") (Fc : Fld Z h0 x "java/lang/String" "coder" "B" c0) (Fv : Fld Z h0 x "java/lang/String" "value" "[B" v0) :
    OC l Z EL nb [] mI1 jdk_42_method_3_code 2 none (rmI1 cs.length) #[.ref x, .ref b] h0 [x] (fun v _ h => v = none ∧ Keep h0 h [x] ∧ Str Z h x cs) := by
  have hs := K.1
  refine oEnter (by decide +kernel) K.2.1 ?_
  intro p e s m below meth c T0 W0 S0
  refine oEq (g' := mkF m 0 #[.val (.ref x), .val (.ref b)] []) (by first | (simp [entryFrame, mkF, argsToLocals, Value.category]; done) | rfl) ?_
  refine oGo W0 [.aload_n 0, .aload_n 1, .iconst 0, .aload_n 1] (by decide +kernel) (ls' := #[.val (.ref x), .val (.ref b)]) (st' := [.ref b, .int 0, .ref b, .ref x]) rfl rfl (pc' := 4) rfl ?_
  refine oLen W0 A (by decide +kernel) ?_
  rw [List.length_map]
  refine oGo W0 [.aconst_null] (by decide +kernel) (ls' := #[.val (.ref x), .val (.ref b)]) (st' := [.null, .int (Int32.ofNat cs.length), .int 0, .ref b, .ref x]) rfl rfl (pc' := 6) rfl ?_
  obtain ⟨v1, T1, L1, h1, vm1, W1, ⟨rfl, K1, F1⟩, C1, st1⟩ := oCallN W0 (idx := 27) (pc := 6) (ls := #[.val (.ref x), .val (.ref b)]) (st := []) (a := x) (argsL := [.ref b, .int 0, .int (Int32.ofNat cs.length), .null]) (k_I4 (h0 := h0) K hl hl0 A hsm hxf E Fc Fv)
    (fun y hy => by cases List.mem_singleton.mp hy; exact ⟨E.lt, S0 x (List.mem_singleton.mpr rfl)⟩) rfl (hs _ (List.mem_of_getElem? (i := 0) rfl)) (hs _ (List.mem_of_getElem? (i := 1) rfl)) (hs _ (List.mem_of_getElem? (i := 22) rfl)) (hs _ (List.mem_of_getElem? (i := 2) rfl)) (by decide) (na := 4) rfl (by decide +kernel) rfl (stk := [.null, .int (Int32.ofNat cs.length), .int 0, .ref b, .ref x]) rfl (by decide +kernel) (V := 0) (lb rfl) (lb rfl) (lb rfl) (lb rfl) (by show 0 + cs.length ≤ cs.length; omega)
  refine oLift st1 ?_
  exact oRet0 W1 (by decide +kernel) (lb rfl) (by show 0 + cs.length ≤ cs.length; omega) (fun _ _ => ⟨rfl, K1, F1⟩)
end OwnStr
end Jvm.Pilot.@@N@@
namespace Jvm.Pilot.@@N@@
open Jvm Jvm.ClassFile Sem Op Lib Jvm.Free Jvm.Stand Jvm.LawKit Jvm.RoadKit Bundle Jvm.Pilot.@@N@@.Jvm.D Jvm.OwnK
section OwnStrE
variable {l : Launch} {Z : State} {a0 : Array Value} {EL : List (String × Nat)} {h0 : Heap}
abbrev rmI4e : Room := { frames := 1, cells := 4, slots := 8, locals := 12 }
theorem k_I4e (K : SC Z a0 EL) (hS : ∀ a ∈ Bundle.stringAtoms, a.before a0 Z = true) (wl : (Jvm.Cond.stringLink "java/lang/String" 7 "").before a0 Z = true) (hm : ("java/lang/String", 7) ∈ EL) {x b : Addr} {v0 c0 : Value} (hxf : Z.heap.size ≤ x) (E : Exa Z h0 x "java/lang/String") (Fc : Fld Z h0 x "java/lang/String" "coder" "B" c0) (Fv : Fld Z h0 x "java/lang/String" "value" "[B" v0) :
    OC l Z EL false [] mI4 jdk_42_method_149_code 6 none rmI4e #[.ref x, .ref b, .int 0, .int 0, .null] h0 [x] (fun v _ h => v = none ∧ Keep h0 h [x] ∧ Str Z h x []) := by
  have hs := K.1
  refine oEnter (by decide +kernel) K.2.1 ?_
  intro p e s m below meth c T0 W0 S0
  refine oEq (g' := mkF m 0 #[.val (.ref x), .val (.ref b), .val (.int 0), .val (.int 0), .val .null, .unset] []) (by first | (simp [entryFrame, mkF, argsToLocals, Value.category]; done) | rfl) ?_
  refine oGo W0 [.aload_n 0] (by decide +kernel) (ls' := #[.val (.ref x), .val (.ref b), .val (.int 0), .val (.int 0), .val .null, .unset]) (st' := [.ref x]) rfl rfl (pc' := 1) rfl ?_
  obtain ⟨T1, W1, st1⟩ := oInit W0 (idx := 1) (pc := 1) (ls := #[.val (.ref x), .val (.ref b), .val (.int 0), .val (.int 0), .val .null, .unset]) (st := []) (a := x) (hs _ (List.mem_of_getElem? (i := 3) rfl)) (hs _ (List.mem_of_getElem? (i := 4) rfl)) (hs _ (List.mem_of_getElem? (i := 5) rfl)) rfl (by decide +kernel) (lb rfl) (V := 0) (lb rfl) (lb rfl)
  refine oLift st1 ?_
  refine oGo W1 [.iload_n 3] (by decide +kernel) (ls' := #[.val (.ref x), .val (.ref b), .val (.int 0), .val (.int 0), .val .null, .unset]) (st' := [.int 0]) rfl rfl (pc' := 5) rfl ?_
  refine oIfF W1 (cd := .ne) (o := 22) (by decide +kernel) (by decide) (pc' := 8) rfl ?_
  refine oGo W1 [.aload_n 0] (by decide +kernel) (ls' := #[.val (.ref x), .val (.ref b), .val (.int 0), .val (.int 0), .val .null, .unset]) (st' := [.ref x]) rfl rfl (pc' := 9) rfl ?_
  obtain ⟨a2, b2, k2, T2, h2, vm2, W2, E2, C2, x2, c2, u2, A2, st2⟩ := oLdcC W1 (pc := 9) (ls := #[.val (.ref x), .val (.ref b), .val (.int 0), .val (.int 0), .val .null, .unset]) (st := [.ref x]) wl hS hm (vs := []) (z := 0) (by decide +kernel) (by decide) (by decide) (by decide +kernel) (n := 0) (lb rfl) (lb rfl) (lb rfl) (lb rfl)
  refine oLift st2 ?_
  obtain ⟨T3, W3, st3⟩ := oGetF W2 (pc := 11) (ls := #[.val (.ref x), .val (.ref b), .val (.int 0), .val (.int 0), .val .null, .unset]) (st := [.ref x]) (hs _ (List.mem_of_getElem? (i := 20) rfl)) Via.refl u2 (by decide +kernel)
  refine oLift st3 ?_
  have S2 : Safe Z EL vm2 h2 x := C2.safe E.lt (S0 x (List.mem_singleton.mpr rfl))
  obtain ⟨T4, h4, W4, Wr4, Fv4, X4, C4, st4⟩ := oPutF W3 (idx := 9) (pc := 14) (ls := #[.val (.ref x), .val (.ref b), .val (.int 0), .val (.int 0), .val .null, .unset]) (st := []) (v := .ref b2) (hs _ (List.mem_of_getElem? (i := 20) rfl)) Via.refl (Fv.ext E2) (E.ext E2) (Or.inr ⟨hs _ (List.mem_of_getElem? (i := 21) rfl), rfl, rfl⟩) (hs _ (List.mem_of_getElem? (i := 23) rfl)) (ty := .array .byte) (by decide) rfl rfl hxf S2 (by decide +kernel)
  refine oLift st4 ?_
  refine oGo W4 [.aload_n 0] (by decide +kernel) (ls' := #[.val (.ref x), .val (.ref b), .val (.int 0), .val (.int 0), .val .null, .unset]) (st' := [.ref x]) rfl rfl (pc' := 18) rfl ?_
  obtain ⟨a5, b5, k5, T5, h5, vm5, W5, E5, C5, x5, c5, u5, A5, st5⟩ := oLdcC W4 (pc := 18) (ls := #[.val (.ref x), .val (.ref b), .val (.int 0), .val (.int 0), .val .null, .unset]) (st := [.ref x]) wl hS hm (vs := []) (z := 0) (by decide +kernel) (by decide) (by decide) (by decide +kernel) (n := 0) (lb rfl) (lb rfl) (lb rfl) (lb rfl)
  refine oLift st5 ?_
  obtain ⟨T6, W6, st6⟩ := oGetF W5 (pc := 20) (ls := #[.val (.ref x), .val (.ref b), .val (.int 0), .val (.int 0), .val .null, .unset]) (st := [.ref x]) (hs _ (List.mem_of_getElem? (i := 18) rfl)) Via.refl c5 (by decide +kernel)
  refine oLift st6 ?_
  have S5 : Safe Z EL vm5 h5 x := C5.safe X4.lt (C4.safe (E.ext E2).lt S2)
  obtain ⟨T7, h7, W7, Wr7, Fc7, X7, C7, st7⟩ := oPutF W6 (idx := 15) (pc := 23) (ls := #[.val (.ref x), .val (.ref b), .val (.int 0), .val (.int 0), .val .null, .unset]) (st := []) (v := .int 0) (hs _ (List.mem_of_getElem? (i := 18) rfl)) Via.refl (((Fc.ext E2).other Wr4 (Or.inr (slots_vc K))).ext E5) (X4.ext E5) (Or.inr ⟨hs _ (List.mem_of_getElem? (i := 19) rfl), rfl, rfl⟩) (hs _ (List.mem_of_getElem? (i := 23) rfl)) (ty := .byte) (by decide) rfl rfl hxf S5 (by decide +kernel)
  refine oLift st7 ?_
  have hbx : b2 ≠ x := A2.ne (E.ext E2) (hs _ (List.mem_of_getElem? (i := 23) rfl))
  exact oRet0 W7 (by decide +kernel) (lb rfl) (lb rfl) (fun _ _ => ⟨rfl, (((((Keep.refl h0 [x]).ext E2).wr Wr4 (Or.inl (List.mem_singleton.mpr rfl))).ext E5).wr Wr7 (Or.inl (List.mem_singleton.mpr rfl))),
    b2, k2, X7, Fc7, ((Fv4.ext E5).other Wr7 (Or.inr (Ne.symm (slots_vc K)))), (((A2.other Wr4 hbx).ext E5).other Wr7 hbx), by decide⟩)
abbrev rmI1e : Room := { frames := 2, cells := 4, slots := 8, locals := 29 }
/-- new String(new char[0]) -/
theorem k_I1e (K : SC Z a0 EL) (hS : ∀ a ∈ Bundle.stringAtoms, a.before a0 Z = true) (wl : (Jvm.Cond.stringLink "java/lang/String" 7 "").before a0 Z = true) (hm : ("java/lang/String", 7) ∈ EL) {x b : Addr} {kb : ClassId} {v0 c0 : Value} (A : OA Z h0 b kb .char []) (hxf : Z.heap.size ≤ x) (E : Exa Z h0 x "java/lang/String") (Fc : Fld Z h0 x "java/lang/String" "coder" "B" c0) (Fv : Fld Z h0 x "java/lang/String" "value" "[B" v0) :
    OC l Z EL false [] mI1 jdk_42_method_3_code 2 none rmI1e #[.ref x, .ref b] h0 [x] (fun v _ h => v = none ∧ Keep h0 h [x] ∧ Str Z h x []) := by
  have hs := K.1
  refine oEnter (by decide +kernel) K.2.1 ?_
  intro p e s m below meth c T0 W0 S0
  refine oEq (g' := mkF m 0 #[.val (.ref x), .val (.ref b)] []) (by first | (simp [entryFrame, mkF, argsToLocals, Value.category]; done) | rfl) ?_
  refine oGo W0 [.aload_n 0, .aload_n 1, .iconst 0, .aload_n 1] (by decide +kernel) (ls' := #[.val (.ref x), .val (.ref b)]) (st' := [.ref b, .int 0, .ref b, .ref x]) rfl rfl (pc' := 4) rfl ?_
  refine oLen W0 A (by decide +kernel) ?_
  refine oGo W0 [.aconst_null] (by decide +kernel) (ls' := #[.val (.ref x), .val (.ref b)]) (st' := [.null, .int 0, .int 0, .ref b, .ref x]) rfl rfl (pc' := 6) rfl ?_
  obtain ⟨v1, T1, L1, h1, vm1, W1, ⟨rfl, K1, F1⟩, C1, st1⟩ := oCallN W0 (idx := 27) (pc := 6) (ls := #[.val (.ref x), .val (.ref b)]) (st := []) (a := x) (argsL := [.ref b, .int 0, .int 0, .null]) (k_I4e (h0 := h0) K hS wl hm hxf E Fc Fv)
    (fun y hy => by cases List.mem_singleton.mp hy; exact ⟨E.lt, S0 x (List.mem_singleton.mpr rfl)⟩) rfl (hs _ (List.mem_of_getElem? (i := 0) rfl)) (hs _ (List.mem_of_getElem? (i := 1) rfl)) (hs _ (List.mem_of_getElem? (i := 22) rfl)) (hs _ (List.mem_of_getElem? (i := 2) rfl)) (by decide) (na := 4) rfl (by decide +kernel) rfl (stk := [.null, .int 0, .int 0, .ref b, .ref x]) rfl (by decide +kernel) (V := 0) (lb rfl) (lb rfl) (lb rfl) (lb rfl) (lb rfl)
  refine oLift st1 ?_
  exact oRet0 W1 (by decide +kernel) (lb rfl) (lb rfl) (fun _ _ => ⟨rfl, K1, F1⟩)
end OwnStrE
end Jvm.Pilot.@@N@@
namespace Jvm.Pilot.@@N@@
open Jvm Jvm.ClassFile Sem Op Lib Jvm.Free Jvm.Stand Jvm.LawKit Jvm.RoadKit Bundle Jvm.Pilot.@@N@@.Jvm.D Jvm.OwnK
section OwnEq
abbrev mEq : MethodName := ⟨"java/lang/String", "equals", "(Ljava/lang/Object;)Z"⟩
abbrev mEL : MethodName := ⟨"java/lang/StringLatin1", "equals", "([B[B)Z"⟩
def eW : List Jvm.Cond := [.classLink "java/lang/String" 10 "java/lang/String", .methodLink "java/lang/String" 541 mEL, .static mEL, .initialized "java/lang/StringLatin1", .code mEL jdk_43_method_13_code 3 (some .boolean)]
theorem eW_in : ∀ d ∈ eW, d ∈ tables_1 := by decide +kernel
variable {l : Launch} {Z : State} {a0 : Array Value} {EL : List (String × Nat)} {nb : Bool} {h0 : Heap}
def QE (xs ys : List Int32) (h0 : Heap) (v : Option Value) (_ : Vm) (h : Heap) : Prop := v = some (.int (if xs = ys then 1 else 0)) ∧ h = h0
theorem k_EL_loop {p : Program} {e : Env} {R : Room} {s : State} {m : MethodId} {args : Array Value} {below : List Frame} {meth : Method} {c : Code} {nm : String} {ck sk : Nat} {a b : Addr} {ka kb : ClassId} {xs ys : List Int32} (hl : xs.length < 2147483648) (hxy : xs.length = ys.length)
    {vm : Vm} {T : State} {locs : List Loc} (W : OW p l e R s m args below meth c Z a0 EL nb "java/lang/StringLatin1" jdk_43_method_13_code 3 (some .boolean) nm vm T locs 0 0 h0) (A : OA Z h0 a ka .byte (xs.map Value.int)) (B : OA Z h0 b kb .byte (ys.map Value.int)) :
    ∀ (r i : Nat), i + r = xs.length → xs.take i = ys.take i → OG p e below s Z EL nb (QE xs ys h0) ck sk T (mkF m 9 #[.val (.ref a), .val (.ref b), .val (.int (Int32.ofNat i))] [])
  | 0, i, hi, ht => by
    have hil : i = xs.length := by omega
    subst hil
    refine oGo W [.iload_n 2, .aload_n 0] (by decide +kernel) (ls' := #[.val (.ref a), .val (.ref b), .val (.int (Int32.ofNat xs.length))]) (st' := [.ref a, .int (Int32.ofNat xs.length)]) rfl rfl (pc' := 11) rfl ?_
    refine oLen W A (by decide +kernel) ?_
    rw [List.length_map]
    refine oIcT W (cd := .ge) (o := 20) (by decide +kernel) (XT.ii_ge_t (fun q => Int32.lt_irrefl q)) (pc' := 32) (by decide) (by decide) ?_
    refine oGo W [.iconst 1] (by decide +kernel) (ls' := #[.val (.ref a), .val (.ref b), .val (.int (Int32.ofNat xs.length))]) (st' := [.int (1 : Int32)]) rfl rfl (pc' := 33) rfl ?_
    have e : xs = ys := by rw [List.take_length, hxy, List.take_length] at ht; exact ht
    exact oRetN (by simp) W rfl (by decide +kernel) (Nat.zero_le _) (Nat.zero_le _) (fun _ _ => ⟨by rw [if_pos e], rfl⟩)
  | r + 1, i, hi, ht => by
    have hlt : i < xs.length := by omega
    have hlt2 : i < ys.length := by omega
    refine oGo W [.iload_n 2, .aload_n 0] (by decide +kernel) (ls' := #[.val (.ref a), .val (.ref b), .val (.int (Int32.ofNat i))]) (st' := [.ref a, .int (Int32.ofNat i)]) rfl rfl (pc' := 11) rfl ?_
    refine oLen W A (by decide +kernel) ?_
    rw [List.length_map]
    refine oIcF W (cd := .ge) (o := 20) (by decide +kernel) (XT.ii_ge_f ((n_lt (by omega) hl).mpr hlt)) (pc' := 15) rfl ?_
    refine oGo W [.aload_n 0, .iload_n 2] (by decide +kernel) (ls' := #[.val (.ref a), .val (.ref b), .val (.int (Int32.ofNat i))]) (st' := [.int (Int32.ofNat i), .ref a]) rfl rfl (pc' := 17) rfl ?_
    refine oGet W A (n_nn (by omega)) (v := .int xs[i]) (by rw [n_cl (by omega)]; simp [hlt]) (Or.inr (Or.inl ⟨rfl, rfl⟩)) (by decide +kernel) ?_
    refine oGo W [.aload_n 1, .iload_n 2] (by decide +kernel) (ls' := #[.val (.ref a), .val (.ref b), .val (.int (Int32.ofNat i))]) (st' := [.int (Int32.ofNat i), .ref b, .int xs[i]]) rfl rfl (pc' := 20) rfl ?_
    refine oGet W B (n_nn (by omega)) (v := .int ys[i]) (by rw [n_cl (by omega)]; simp [hlt2]) (Or.inr (Or.inl ⟨rfl, rfl⟩)) (by decide +kernel) ?_
    by_cases hc : xs[i] = ys[i]
    · refine oIcT W (cd := .eq) (o := 5) (by decide +kernel) (XT.ii_eq_t hc) (pc' := 26) (by decide) (by decide) ?_
      refine oGo W [.iinc 2 1, .goto (-20)] (by decide +kernel) (ls' := #[.val (.ref a), .val (.ref b), .val (.int (Int32.ofNat i + 1))]) (st' := []) rfl rfl (pc' := 9) rfl ?_
      rw [n_in]
      refine k_EL_loop hl hxy W A B r (i + 1) (by omega) ?_
      rw [List.take_succ_eq_append_getElem hlt, List.take_succ_eq_append_getElem hlt2, ht, hc]
    · refine oIcF W (cd := .eq) (o := 5) (by decide +kernel) (XT.ii_eq_f hc) (pc' := 24) rfl ?_
      refine oGo W [.iconst 0] (by decide +kernel) (ls' := #[.val (.ref a), .val (.ref b), .val (.int (Int32.ofNat i))]) (st' := [.int (0 : Int32)]) rfl rfl (pc' := 25) rfl ?_
      have e : ¬ xs = ys := fun q => hc (by subst q; rfl)
      exact oRetN (by simp) W rfl (by decide +kernel) (Nat.zero_le _) (Nat.zero_le _) (fun _ _ => ⟨by rw [if_neg e], rfl⟩)
theorem k_EL (hE : EW Z a0 EL) {a b : Addr} {ka kb : ClassId} {xs ys : List Int32} (hl : xs.length < 2147483648) (hl2 : ys.length < 2147483648) (A : OA Z h0 a ka .byte (xs.map Value.int)) (B : OA Z h0 b kb .byte (ys.map Value.int)) :
    OC l Z EL nb [] mEL jdk_43_method_13_code 3 (some .boolean) rm0 #[.ref a, .ref b] h0 [] (QE xs ys h0) := by
  refine oEnter (by decide +kernel) hE ?_
  intro p e s m below meth c T0 W0 _
  refine oEq (g' := mkF m 0 #[.val (.ref a), .val (.ref b), .unset] []) (by first | (simp [entryFrame, mkF, argsToLocals, Value.category]; done) | rfl) ?_
  refine oGo W0 [.aload_n 0] (by decide +kernel) (ls' := #[.val (.ref a), .val (.ref b), .unset]) (st' := [.ref a]) rfl rfl (pc' := 1) rfl ?_
  refine oLen W0 A (by decide +kernel) ?_
  refine oGo W0 [.aload_n 1] (by decide +kernel) (ls' := #[.val (.ref a), .val (.ref b), .unset]) (st' := [.ref b, .int (xs.map Value.int).length.toInt32]) rfl rfl (pc' := 3) rfl ?_
  refine oLen W0 B (by decide +kernel) ?_
  rw [List.length_map, List.length_map]
  by_cases hc : xs.length = ys.length
  · refine oIcF W0 (cd := .ne) (o := 30) (by decide +kernel) (XT.ii_ne_f (by rw [hc])) (pc' := 7) rfl ?_
    refine oGo W0 [.iconst 0, .istore_n 2] (by decide +kernel) (ls' := #[.val (.ref a), .val (.ref b), .val (.int (0 : Int32))]) (st' := []) rfl rfl (pc' := 9) rfl ?_
    exact k_EL_loop hl hc W0 A B xs.length 0 (by omega) (by simp)
  · have hne : ¬ Int32.ofNat xs.length = Int32.ofNat ys.length := fun q => hc (by have := congrArg Int32.toNatClampNeg q; rwa [n_cl hl, n_cl hl2] at this)
    refine oIcT W0 (cd := .ne) (o := 30) (by decide +kernel) (XT.ii_ne_t hne) (pc' := 34) (by decide) (by decide) ?_
    refine oGo W0 [.iconst 0] (by decide +kernel) (ls' := #[.val (.ref a), .val (.ref b), .unset]) (st' := [.int (0 : Int32)]) rfl rfl (pc' := 35) rfl ?_
    have e : ¬ xs = ys := fun q => hc (by rw [q])
    exact oRetN (by simp) W0 rfl (by decide +kernel) (Nat.zero_le _) (Nat.zero_le _) (fun _ _ => ⟨by rw [if_neg e], rfl⟩)
theorem lo8_inj {c d : Int32} (hc : ¬ c < 0 ∧ ¬ (255 : Int32) < c) (hd : ¬ d < 0 ∧ ¬ (255 : Int32) < d) (h : c.toInt8.toInt32 = d.toInt8.toInt32) : c = d := by
  have e1 := (c_i2b c).1
  have e2 := (c_i2b d).1
  rw [h] at e1
  simp only [Int32.lt_iff_toInt_lt] at hc hd
  have k0 : (0 : Int32).toInt = 0 := rfl
  have k1 : (255 : Int32).toInt = 255 := rfl
  rw [k0, k1] at hc hd
  apply Int32.toInt_inj.mp
  omega
theorem lo8_inj_map : ∀ {cs ds : List Int32}, (∀ c ∈ cs, ¬ c < 0 ∧ ¬ (255 : Int32) < c) → (∀ c ∈ ds, ¬ c < 0 ∧ ¬ (255 : Int32) < c) → cs.map (fun c => c.toInt8.toInt32) = ds.map (fun c => c.toInt8.toInt32) → cs = ds
  | [], [], _, _, _ => rfl
  | [], _ :: _, _, _, h => by simp at h
  | _ :: _, [], _, _, h => by simp at h
  | c :: cs, d :: ds, hc, hd, h => by
    simp only [List.map_cons, List.cons.injEq] at h
    rw [lo8_inj (hc c (List.mem_cons_self ..)) (hd d (List.mem_cons_self ..)) h.1, lo8_inj_map (fun c q => hc c (List.mem_cons_of_mem _ q)) (fun c q => hd c (List.mem_cons_of_mem _ q)) h.2]
theorem Str.uniq {h : Heap} {x : Addr} {cs ds : List Int32} (F : Str Z h x cs) (G : Str Z h x ds) : cs = ds := by
  obtain ⟨t, k, -, -, v1, A, p1⟩ := F
  obtain ⟨t', k', -, -, v2, B, p2⟩ := G
  have e : t = t' := by
    by_cases q : t = t'
    · exact q
    · exact absurd rfl (Fld.ne v1 v2 (fun r => q (by injection r)))
  subst e
  obtain ⟨n, d, ⟨c1, a1, -, s1, -, H1, -⟩, r1⟩ := A
  obtain ⟨n', d', ⟨c2, a2, -, s2, -, H2, -⟩, r2⟩ := B
  cases a1.1.symm.trans a2.1
  have hl : (cs.map fun c : Int32 => Value.int c.toInt8.toInt32).length = (ds.map fun c : Int32 => Value.int c.toInt8.toInt32).length := by rw [← r1, ← r2, ← s1, ← s2]
  have hm : (cs.map fun c : Int32 => Value.int c.toInt8.toInt32) = (ds.map fun c : Int32 => Value.int c.toInt8.toInt32) := by
    apply List.ext_getElem hl
    intro i h1 h2
    have q1 := H1 i (by rw [s1, r1]; exact h1)
    have q2 := H2 i (by rw [s2, r2]; exact h2)
    rw [q1] at q2
    rw [List.getD_eq_getElem?_getD, List.getD_eq_getElem?_getD, List.getElem?_eq_getElem h1, List.getElem?_eq_getElem h2] at q2
    exact Option.some.inj q2
  apply lo8_inj_map p1 p2
  have := congrArg (List.map fun v => match v with | Value.int z => z | _ => 0) hm
  simpa [List.map_map, Function.comp_def] using this
abbrev rmEq : Room := { frames := 1, cells := 0, slots := 0, locals := 14 }
/-- equals of two Strings of Latin-1 chars -/
theorem k_Eq (K : SC Z a0 EL) (he : ∀ d ∈ eW, d.before a0 Z = true) {x y : Addr} {cs ds : List Int32} (hl : cs.length ≤ 4000) (hl2 : ds.length ≤ 4000) (F : Str Z h0 x cs) (G : Str Z h0 y ds) :
    OC l Z EL nb [] mEq jdk_42_method_66_code 3 (some .boolean) rmEq #[.ref x, .ref y] h0 [] (QE cs ds h0) := by
  have hs := K.1
  obtain ⟨z, hz, hz0⟩ := K.2.2
  refine oEnter (by decide +kernel) K.2.1 ?_
  intro p e s m below meth c T0 W0 _
  refine oEq (g' := mkF m 0 #[.val (.ref x), .val (.ref y), .unset] []) (by first | (simp [entryFrame, mkF, argsToLocals, Value.category]; done) | rfl) ?_
  refine oGo W0 [.aload_n 0, .aload_n 1] (by decide +kernel) (ls' := #[.val (.ref x), .val (.ref y), .unset]) (st' := [.ref y, .ref x]) rfl rfl (pc' := 2) rfl ?_
  by_cases hxy : x = y
  · subst hxy
    refine oAcF W0 (cd := .ne) (o := 5) (by decide +kernel) rfl rfl (by simp [XT.acmp]) (pc' := 5) rfl ?_
    refine oGo W0 [.iconst 1] (by decide +kernel) (ls' := #[.val (.ref x), .val (.ref x), .unset]) (st' := [.int (1 : Int32)]) rfl rfl (pc' := 6) rfl ?_
    exact oRetN (by simp) W0 rfl (by decide +kernel) (lb rfl) (lb rfl) (fun _ _ => ⟨by rw [if_pos (F.uniq G)], rfl⟩)
  refine oAcT W0 (cd := .ne) (o := 5) (by decide +kernel) rfl rfl (by simp [XT.acmp, hxy]) (pc' := 7) (by decide) (by decide) ?_
  refine oGo W0 [.aload_n 1] (by decide +kernel) (ls' := #[.val (.ref x), .val (.ref y), .unset]) (st' := [.ref y]) rfl rfl (pc' := 8) rfl ?_
  obtain ⟨t, k, x1, x2, x3, A, pA⟩ := F
  obtain ⟨u, k', y1, y2, y3, B, pB⟩ := G
  obtain ⟨T1, W1, st1⟩ := oInst W0 (idx := 10) (pc := 8) (ls := #[.val (.ref x), .val (.ref y), .unset]) (st := []) (he _ (List.mem_of_getElem? (i := 0) rfl)) (Ins.self y1) (by decide +kernel)
  refine oLift st1 ?_
  refine oIfF W1 (cd := .eq) (o := 43) (by decide +kernel) (by decide) (pc' := 14) rfl ?_
  refine oGo W1 [.aload_n 1] (by decide +kernel) (ls' := #[.val (.ref x), .val (.ref y), .unset]) (st' := [.ref y]) rfl rfl (pc' := 15) rfl ?_
  obtain ⟨T2, W2, st2⟩ := oCast W1 (idx := 10) (pc := 15) (ls := #[.val (.ref x), .val (.ref y), .unset]) (st := []) (he _ (List.mem_of_getElem? (i := 0) rfl)) (Ins.self y1) (by decide +kernel)
  refine oLift st2 ?_
  refine oGo W2 [.astore_n 2] (by decide +kernel) (ls' := #[.val (.ref x), .val (.ref y), .val (.ref y)]) (st' := []) rfl rfl (pc' := 19) rfl ?_
  obtain ⟨T3, W3, st3⟩ := oGetS W2 (pc := 19) (ls := #[.val (.ref x), .val (.ref y), .val (.ref y)]) (st := []) (hs _ (List.mem_of_getElem? (i := 6) rfl)) Via.refl (hz.ext W2.ext) (by decide +kernel)
  refine oLift st3 ?_
  refine oIfF W3 (cd := .eq) (o := 14) (by decide +kernel) (XT.i0_eq_f hz0) (pc' := 25) rfl ?_
  refine oGo W3 [.aload_n 0] (by decide +kernel) (ls' := #[.val (.ref x), .val (.ref y), .val (.ref y)]) (st' := [.ref x]) rfl rfl (pc' := 26) rfl ?_
  obtain ⟨T4, W4, st4⟩ := oGetF W3 (pc := 26) (ls := #[.val (.ref x), .val (.ref y), .val (.ref y)]) (st := []) (hs _ (List.mem_of_getElem? (i := 18) rfl)) Via.refl x2 (by decide +kernel)
  refine oLift st4 ?_
  refine oGo W4 [.aload_n 2] (by decide +kernel) (ls' := #[.val (.ref x), .val (.ref y), .val (.ref y)]) (st' := [.ref y, .int 0]) rfl rfl (pc' := 30) rfl ?_
  obtain ⟨T5, W5, st5⟩ := oGetF W4 (pc := 30) (ls := #[.val (.ref x), .val (.ref y), .val (.ref y)]) (st := [.int 0]) (hs _ (List.mem_of_getElem? (i := 18) rfl)) Via.refl y2 (by decide +kernel)
  refine oLift st5 ?_
  refine oIcF W5 (cd := .ne) (o := 21) (by decide +kernel) (XT.ii_ne_f rfl) (pc' := 36) rfl ?_
  refine oGo W5 [.aload_n 0] (by decide +kernel) (ls' := #[.val (.ref x), .val (.ref y), .val (.ref y)]) (st' := [.ref x]) rfl rfl (pc' := 37) rfl ?_
  obtain ⟨T6, W6, st6⟩ := oGetF W5 (pc := 37) (ls := #[.val (.ref x), .val (.ref y), .val (.ref y)]) (st := []) (hs _ (List.mem_of_getElem? (i := 20) rfl)) Via.refl x3 (by decide +kernel)
  refine oLift st6 ?_
  refine oGo W6 [.aload_n 2] (by decide +kernel) (ls' := #[.val (.ref x), .val (.ref y), .val (.ref y)]) (st' := [.ref y, .ref t]) rfl rfl (pc' := 41) rfl ?_
  obtain ⟨T7, W7, st7⟩ := oGetF W6 (pc := 41) (ls := #[.val (.ref x), .val (.ref y), .val (.ref y)]) (st := [.ref t]) (hs _ (List.mem_of_getElem? (i := 20) rfl)) Via.refl y3 (by decide +kernel)
  refine oLift st7 ?_
  have A' : OA Z h0 t k .byte ((cs.map fun c => c.toInt8.toInt32).map Value.int) := by rw [List.map_map]; exact A
  have B' : OA Z h0 u k' .byte ((ds.map fun c => c.toInt8.toInt32).map Value.int) := by rw [List.map_map]; exact B
  obtain ⟨v8, T8, L8, h8, vm8, W8, ⟨rfl, e8⟩, C8, st8⟩ := oCallS W7 (idx := 541) (pc := 44) (ls := #[.val (.ref x), .val (.ref y), .val (.ref y)]) (st := []) (argsL := [.ref t, .ref u]) (k_EL (h0 := h0) K.2.1 (by rw [List.length_map]; omega) (by rw [List.length_map]; omega) A' B')
    (fun x hx => nomatch hx) (he _ (List.mem_of_getElem? (i := 1) rfl)) (he _ (List.mem_of_getElem? (i := 2) rfl)) (he _ (List.mem_of_getElem? (i := 3) rfl)) (he _ (List.mem_of_getElem? (i := 4) rfl)) (by decide) (na := 2) rfl (by decide +kernel) rfl (stk := [.ref u, .ref t]) rfl (by decide +kernel) (V := 0) (lb rfl) (lb rfl) (lb rfl) (lb rfl) (lb rfl)
  refine oLift st8 ?_
  rw [e8] at W8 C8
  by_cases hq : (cs.map fun c => c.toInt8.toInt32) = (ds.map fun c => c.toInt8.toInt32)
  · rw [if_pos hq]
    have hcd := lo8_inj_map pA pB hq
    refine oIfF W8 (cd := .eq) (o := 7) (by decide +kernel) (by decide) (pc' := 50) rfl ?_
    refine oGo W8 [.iconst 1, .goto 4] (by decide +kernel) (ls' := #[.val (.ref x), .val (.ref y), .val (.ref y)]) (st' := [.int (1 : Int32)]) rfl rfl (pc' := 55) rfl ?_
    exact oRetN (by simp) W8 rfl (by decide +kernel) (lb rfl) (lb rfl) (fun _ _ => ⟨by rw [if_pos hcd], rfl⟩)
  · rw [if_neg hq]
    have hcd : ¬ cs = ds := fun q => hq (by rw [q])
    refine oIfT W8 (cd := .eq) (o := 7) (by decide +kernel) (by decide) (pc' := 54) (by decide) (by decide) ?_
    refine oGo W8 [.iconst 0] (by decide +kernel) (ls' := #[.val (.ref x), .val (.ref y), .val (.ref y)]) (st' := [.int (0 : Int32)]) rfl rfl (pc' := 55) rfl ?_
    exact oRetN (by simp) W8 rfl (by decide +kernel) (lb rfl) (lb rfl) (fun _ _ => ⟨by rw [if_neg hcd], rfl⟩)
end OwnEq
end Jvm.Pilot.@@N@@
namespace Jvm.Pilot.@@N@@
open Jvm Jvm.ClassFile Sem Op Lib Jvm.Free Jvm.Stand Jvm.LawKit Jvm.RoadKit Bundle Jvm.Pilot.@@N@@.Jvm.D Jvm.OwnK
/-- a String that stood at the start, told by the sheet -/
theorem strStart {args : Array Value} {s : State} {t : Term} (hf : Fit s) {x : Addr} (ht : t.eval args s none [] s = some (.ref x)) (h1 : (Jvm.Cond.exactly t "java/lang/String").value args s none s [] = some true) (h2 : (Jvm.Cond.eq (.field t "java/lang/String" "coder" "B") (.int 0)).value args s none s [] = some true)
    (h3 : (Jvm.Cond.arrayOf (.field t "java/lang/String" "value" "[B") .byte).value args s none s [] = some true) {n : Nat} (hn : n < 2147483648) (h4 : (Jvm.Cond.eq (.length (.field t "java/lang/String" "value" "[B")) (.int (Int32.ofNat n))).value args s none s [] = some true)
    {cs : List Int32} (hl : cs.length = n) (hp : ∀ c ∈ cs, ¬ c < 0 ∧ ¬ (255 : Int32) < c) (H : ∀ va c, (Term.field t "java/lang/String" "value" "[B").eval args s none [] s = some (.ref va) → s.heap[va]? = some c → HasL c 0 (cs.map fun c => .int c.toInt8.toInt32)) : Str s s.heap x cs := by
  obtain ⟨va, hv⟩ := arr_v h3
  obtain ⟨k, A⟩ := arrStart hf hv h3 hn h4 (vs := cs.map fun c => .int c.toInt8.toInt32) (by rw [List.length_map]; exact hl) (fun c hc => H va c hv hc)
  have hc := eqv h2 rfl (Or.inr ⟨_, rfl⟩)
  exact ⟨va, k, Exa.start ht h1, Fld.start (by rw [← fld_at ht]; exact hc), Fld.start (by rw [← fld_at ht]; exact hv), A, hp⟩
end Jvm.Pilot.@@N@@
namespace Jvm.Pilot.@@N@@
open Jvm Jvm.ClassFile Sem Op Lib Jvm.Free Jvm.Stand Jvm.LawKit Jvm.RoadKit Bundle Jvm.Pilot.@@N@@.Jvm.D Jvm.OwnK
abbrev EL : List (String × Nat) := [("com/example/gentle_hub/gentlehub/core/ChannelName", 62), ("com/example/gentle_hub/gentlehub/core/ChannelName", 68), ("com/example/gentle_hub/gentlehub/core/ChannelName", 88), ("com/example/gentle_hub/gentlehub/server/ChannelLocationParsePinLaw", 8), ("java/lang/String", 7)]
theorem sA_in : ∀ d ∈ Bundle.stringAtoms, d ∈ tables_1 := by decide +kernel
def Sx (Z : State) : Prop := ∃ v, Sta Z Z.heap "jdk/internal/util/Preconditions" "SIOOBE_FORMATTER" "Ljava/util/function/BiFunction;" v ∧ v.isRef = true
def Op (Z : State) (eo : Addr) : Prop := Sta Z Z.heap "java/util/Optional" "EMPTY" "Ljava/util/Optional;" (.ref eo) ∧ Exa Z Z.heap eo "java/util/Optional" ∧ Fld Z Z.heap eo "java/util/Optional" "value" "Ljava/lang/Object;" .null
def Ctx (Z : State) (a0 : Array Value) : Prop := (∀ d ∈ tables_1, d.before a0 Z = true) ∧ SC Z a0 EL ∧ (∀ a ∈ Bundle.stringAtoms, a.before a0 Z = true) ∧ Sx Z ∧ (∀ d ∈ eW, d.before a0 Z = true) ∧ ∃ eo, Op Z eo
theorem wK {Z : State} {a0 : Array Value} (K : Ctx Z a0) (i : Nat) {d : Jvm.Cond} (h : tables_1[i]? = some d) : d.before a0 Z = true := K.1 d (List.mem_of_getElem? h)
abbrev rm_c_coder : Room := { frames := 0, cells := 0, slots := 0, locals := 0 }
set_option maxRecDepth 65536 in
set_option maxHeartbeats 40000000 in
theorem c_coder {l : Launch} {Z : State} {a0 : Array Value} {nb : Bool} (K : Ctx Z a0) {x : Addr} {h0 : Heap} {n : Int32} (hn : nar .byte n = n) (F : Fld Z h0 x "java/lang/String" "coder" "B" (.int n)) :
    OC l Z EL nb [] (⟨"java/lang/String", "coder", "()B"⟩ : MethodName) jdk_42_method_152_code 1 (some .byte) rm_c_coder #[(.ref x)] h0 [] (fun v _ h => v = some (.int n) ∧ h = h0) := by
  have hw := K.1
  have hS : ∀ a ∈ Bundle.stringAtoms, a.before a0 Z = true := K.2.2.1
  obtain ⟨z, hz, hz0⟩ := K.2.1.2.2
  refine oEnter (by decide +kernel) K.2.1.2.1 ?_
  intro _p _e _s m _below _meth _c T0 W0 S0
  refine oEq (g' := mkF m 0 #[.val (.ref x)] []) (by first | (simp [entryFrame, mkF, argsToLocals, Value.category]; done) | rfl) ?_
  obtain ⟨T1, W1, st1⟩ := oGetS W0 (pc := 0) (ls := #[sR x]) (st := []) (wK K 22 rfl) Via.refl (hz.ext W0.ext) (by decide +kernel)
  refine oLift st1 ?_
  refine oIfF W1 (cd := .eq) (o := 10) (by decide +kernel) (XT.i0_eq_f hz0) (pc' := 6) rfl ?_
  refine oGo W1 [.aload_n 0] (by decide +kernel) (ls' := #[sR x]) (st' := [(.ref x)]) rfl rfl (pc' := 7) rfl ?_
  obtain ⟨T2, W2, st2⟩ := oGetF W1 (pc := 7) (ls := #[sR x]) (st := []) (wK K 34 rfl) Via.refl F (by decide +kernel)
  refine oLift st2 ?_
  refine oGo W2 [.goto 4] (by decide +kernel) (ls' := #[sR x]) (st' := [(.int n)]) rfl rfl (pc' := 14) rfl ?_
  exact oRetN (by simp) W2 hn (by decide +kernel) (lb rfl) (lb rfl) (fun vm' hv => ⟨rfl, rfl⟩)
abbrev rm_c_len : Room := { frames := 1, cells := 0, slots := 0, locals := 13 }
set_option maxRecDepth 65536 in
set_option maxHeartbeats 40000000 in
theorem c_len {l : Launch} {Z : State} {a0 : Array Value} {nb : Bool} (K : Ctx Z a0) {x : Addr} {cs : List Int32} {h0 : Heap} (F : Str Z h0 x cs) :
    OC l Z EL nb [] (⟨"java/lang/String", "length", "()I"⟩ : MethodName) jdk_42_method_54_code 1 (some .int) rm_c_len #[(.ref x)] h0 [] (fun v _ h => v = some (.int (Int32.ofNat cs.length)) ∧ h = h0) := by
  have hw := K.1
  have hS : ∀ a ∈ Bundle.stringAtoms, a.before a0 Z = true := K.2.2.1
  obtain ⟨t, kt, X1, Fc, Fv, A, P⟩ := id F
  refine oEnter (by decide +kernel) K.2.1.2.1 ?_
  intro _p _e _s m _below _meth _c T0 W0 S0
  refine oEq (g' := mkF m 0 #[.val (.ref x)] []) (by first | (simp [entryFrame, mkF, argsToLocals, Value.category]; done) | rfl) ?_
  refine oGo W0 [.aload_n 0] (by decide +kernel) (ls' := #[sR x]) (st' := [(.ref x)]) rfl rfl (pc' := 1) rfl ?_
  obtain ⟨T1, W1, st1⟩ := oGetF W0 (pc := 1) (ls := #[sR x]) (st := []) (wK K 36 rfl) Via.refl Fv (by decide +kernel)
  refine oLift st1 ?_
  refine oLen W1 A (by decide +kernel) ?_
  rw [List.length_map]
  refine oGo W1 [.aload_n 0] (by decide +kernel) (ls' := #[sR x]) (st' := [(.ref x), (.int (Int32.ofNat cs.length))]) rfl rfl (pc' := 6) rfl ?_
  obtain ⟨v2, T2, L2, h2, vm2, W2, ⟨rfl, e2⟩, C2, st2⟩ := oCallV W1 (idx := 335) (pc := 6) (ls := #[sR x]) (st := [(.int (Int32.ofNat cs.length))]) (argsL := []) X1 (c_coder K rfl Fc) (fun x hx => nomatch hx) (wK K 77 rfl) (wK K 78 rfl) (notFace_of_selects (args := #[]) (mvT W1.warm (wK K 80 rfl))) (wK K 80 rfl) (wK K 79 rfl) (wK K 11 rfl) (wK K 81 rfl) (by decide) (na := 0) rfl (by decide +kernel) rfl (stk := [(.ref x), (.int (Int32.ofNat cs.length))]) rfl (by decide +kernel) (V := 1) (lb rfl) (lb rfl) (lb rfl) (lb rfl) (lb rfl)
  refine oLift st2 ?_
  rw [e2] at W2 C2
  show OG _ _ _ _ _ _ _ _ _ _ _ (mkF m 9 #[sR x] [(.int 0), (.int (Int32.ofNat cs.length))])
  refine oGo W2 [.ishr] (by decide +kernel) (ls' := #[sR x]) (st' := [(.int ((Int32.ofNat cs.length) >>> ((0 : Int32) &&& 31)))]) rfl rfl (pc' := 10) rfl ?_
  exact oRetI W2 (by decide +kernel) (lb rfl) (lb rfl) (fun vm' hv => ⟨by rw [shr0], rfl⟩)
abbrev rm_c_emp : Room := { frames := 0, cells := 0, slots := 0, locals := 0 }
set_option maxRecDepth 65536 in
set_option maxHeartbeats 40000000 in
theorem c_emp {l : Launch} {Z : State} {a0 : Array Value} {nb : Bool} (K : Ctx Z a0) {x : Addr} {cs : List Int32} {h0 : Heap} (F : Str Z h0 x cs) (hl : cs.length ≤ 4000) :
    OC l Z EL nb [] (⟨"java/lang/String", "isEmpty", "()Z"⟩ : MethodName) jdk_42_method_55_code 1 (some .boolean) rm_c_emp #[(.ref x)] h0 [] (fun v _ h => v = some (.int (if cs = [] then 1 else 0)) ∧ h = h0) := by
  have hw := K.1
  have hS : ∀ a ∈ Bundle.stringAtoms, a.before a0 Z = true := K.2.2.1
  obtain ⟨t, kt, X1, Fc, Fv, A, P⟩ := id F
  refine oEnter (by decide +kernel) K.2.1.2.1 ?_
  intro _p _e _s m _below _meth _c T0 W0 S0
  refine oEq (g' := mkF m 0 #[.val (.ref x)] []) (by first | (simp [entryFrame, mkF, argsToLocals, Value.category]; done) | rfl) ?_
  refine oGo W0 [.aload_n 0] (by decide +kernel) (ls' := #[sR x]) (st' := [(.ref x)]) rfl rfl (pc' := 1) rfl ?_
  obtain ⟨T1, W1, st1⟩ := oGetF W0 (pc := 1) (ls := #[sR x]) (st := []) (wK K 36 rfl) Via.refl Fv (by decide +kernel)
  refine oLift st1 ?_
  refine oLen W1 A (by decide +kernel) ?_
  rw [List.length_map]
  by_cases hc2 : (Int32.ofNat cs.length) = (0 : Int32)
  · refine oIfF W1 (cd := .ne) (o := 7) (by decide +kernel) (XT.i0_ne_f hc2) (pc' := 8) rfl ?_
    refine oGo W1 [.iconst 1, .goto 4] (by decide +kernel) (ls' := #[sR x]) (st' := [(.int 1)]) rfl rfl (pc' := 13) rfl ?_
    exact oRetN (by simp) W1 rfl (by decide +kernel) (lb rfl) (lb rfl) (fun vm' hv => ⟨by rw [if_pos (own_len0 hl hc2)], rfl⟩)
  refine oIfT W1 (cd := .ne) (o := 7) (by decide +kernel) (XT.i0_ne_t hc2) (pc' := 12) (by decide) (by decide) ?_
  refine oGo W1 [.iconst 0] (by decide +kernel) (ls' := #[sR x]) (st' := [(.int 0)]) rfl rfl (pc' := 13) rfl ?_
  exact oRetN (by simp) W1 rfl (by decide +kernel) (lb rfl) (lb rfl) (fun vm' hv => ⟨by rw [if_neg (fun q => hc2 (by rw [q]; rfl))], rfl⟩)
abbrev rm_c_pci : Room := { frames := 0, cells := 0, slots := 0, locals := 0 }
set_option maxRecDepth 65536 in
set_option maxHeartbeats 40000000 in
theorem c_pci {l : Launch} {Z : State} {a0 : Array Value} {nb : Bool} (K : Ctx Z a0) {i n : Int32} {f : Value} {h0 : Heap} (h_f : f.isRef = true) (hi : ¬ i < 0) (hn : i < n) :
    OC l Z EL nb [] (⟨"jdk/internal/util/Preconditions", "checkIndex", "(IILjava/util/function/BiFunction;)I"⟩ : MethodName) jdk_41_method_11_code 3 (some .int) rm_c_pci #[(.int i), (.int n), f] h0 [] (fun v _ h => v = some (.int i) ∧ h = h0) := by
  have hw := K.1
  have hS : ∀ a ∈ Bundle.stringAtoms, a.before a0 Z = true := K.2.2.1
  refine oEnter (by decide +kernel) K.2.1.2.1 ?_
  intro _p _e _s m _below _meth _c T0 W0 S0
  refine oEq (g' := mkF m 0 #[.val (.int i), .val (.int n), .val f] []) ((own_ef (vs := [(.int i), (.int n), f]) (List.forall_mem_cons.mpr ⟨rfl, (List.forall_mem_cons.mpr ⟨rfl, (List.forall_mem_cons.mpr ⟨refCat h_f, (fun _ h => nomatch h)⟩)⟩)⟩)).trans rfl) ?_
  refine oGo W0 [.iload_n 0] (by decide +kernel) (ls' := #[sI i, sI n, .val f]) (st' := [(.int i)]) rfl rfl (pc' := 1) rfl ?_
  refine oIfF W0 (cd := .lt) (o := 8) (by decide +kernel) (XT.i0_lt_f hi) (pc' := 4) rfl ?_
  refine oGo W0 [.iload_n 0, .iload_n 1] (by decide +kernel) (ls' := #[sI i, sI n, .val f]) (st' := [(.int n), (.int i)]) rfl rfl (pc' := 6) rfl ?_
  refine oIcT W0 (cd := .lt) (o := 10) (by decide +kernel) (XT.ii_lt_t hn) (pc' := 16) (by decide) (by decide) ?_
  refine oGo W0 [.iload_n 0] (by decide +kernel) (ls' := #[sI i, sI n, .val f]) (st' := [(.int i)]) rfl rfl (pc' := 17) rfl ?_
  exact oRetI W0 (by decide +kernel) (lb rfl) (lb rfl) (fun vm' hv => ⟨rfl, rfl⟩)
abbrev rm_c_sci : Room := { frames := 1, cells := 0, slots := 0, locals := 14 }
set_option maxRecDepth 65536 in
set_option maxHeartbeats 40000000 in
theorem c_sci {l : Launch} {Z : State} {a0 : Array Value} {nb : Bool} (K : Ctx Z a0) {i n : Int32} {h0 : Heap} (G : Sx Z) (hi : ¬ i < 0) (hn : i < n) :
    OC l Z EL nb [] (⟨"java/lang/String", "checkIndex", "(II)V"⟩ : MethodName) jdk_42_method_155_code 2 none rm_c_sci #[(.int i), (.int n)] h0 [] (fun v _ h => v = none ∧ h = h0) := by
  have hw := K.1
  have hS : ∀ a ∈ Bundle.stringAtoms, a.before a0 Z = true := K.2.2.1
  obtain ⟨f, hf, h_f⟩ := G
  refine oEnter (by decide +kernel) K.2.1.2.1 ?_
  intro _p _e _s m _below _meth _c T0 W0 S0
  refine oEq (g' := mkF m 0 #[.val (.int i), .val (.int n)] []) (by first | (simp [entryFrame, mkF, argsToLocals, Value.category]; done) | rfl) ?_
  refine oGo W0 [.iload_n 0, .iload_n 1] (by decide +kernel) (ls' := #[sI i, sI n]) (st' := [(.int n), (.int i)]) rfl rfl (pc' := 2) rfl ?_
  obtain ⟨T1, W1, st1⟩ := oGetS W0 (pc := 2) (ls := #[sI i, sI n]) (st := [(.int n), (.int i)]) (wK K 118 rfl) Via.refl (hf.ext W0.ext) (by decide +kernel)
  refine oLift st1 ?_
  obtain ⟨v2, T2, L2, h2, vm2, W2, ⟨rfl, e2⟩, C2, st2⟩ := oCallS W1 (idx := 1059) (pc := 5) (ls := #[sI i, sI n]) (st := []) (argsL := [(.int i), (.int n), f]) (c_pci K h_f hi hn) (fun x hx => nomatch hx) (wK K 120 rfl) (wK K 121 rfl) (wK K 119 rfl) (wK K 122 rfl) (by decide) (na := 3) rfl (by decide +kernel) rfl (stk := [f, (.int n), (.int i)]) rfl (by decide +kernel) (V := 0) (lb rfl) (lb rfl) (lb rfl) (lb rfl) (lb rfl)
  refine oLift st2 ?_
  rw [e2] at W2 C2
  show OG _ _ _ _ _ _ _ _ _ _ _ (mkF m 8 #[sI i, sI n] [(.int i)])
  refine oGo W2 [.pop] (by decide +kernel) (ls' := #[sI i, sI n]) (st' := []) rfl rfl (pc' := 9) rfl ?_
  exact oRet0 W2 (by decide +kernel) (lb rfl) (lb rfl) (fun vm' hv => ⟨rfl, rfl⟩)
abbrev rm_c_isl : Room := { frames := 0, cells := 0, slots := 0, locals := 0 }
set_option maxRecDepth 65536 in
set_option maxHeartbeats 40000000 in
theorem c_isl {l : Launch} {Z : State} {a0 : Array Value} {nb : Bool} (K : Ctx Z a0) {x : Addr} {h0 : Heap} {n : Int32} (F : Fld Z h0 x "java/lang/String" "coder" "B" (.int n)) :
    OC l Z EL nb [] (⟨"java/lang/String", "isLatin1", "()Z"⟩ : MethodName) jdk_42_method_154_code 1 (some .boolean) rm_c_isl #[(.ref x)] h0 [] (fun v _ h => v = some (.int (if n = 0 then 1 else 0)) ∧ h = h0) := by
  have hw := K.1
  have hS : ∀ a ∈ Bundle.stringAtoms, a.before a0 Z = true := K.2.2.1
  obtain ⟨z, hz, hz0⟩ := K.2.1.2.2
  refine oEnter (by decide +kernel) K.2.1.2.1 ?_
  intro _p _e _s m _below _meth _c T0 W0 S0
  refine oEq (g' := mkF m 0 #[.val (.ref x)] []) (by first | (simp [entryFrame, mkF, argsToLocals, Value.category]; done) | rfl) ?_
  obtain ⟨T1, W1, st1⟩ := oGetS W0 (pc := 0) (ls := #[sR x]) (st := []) (wK K 22 rfl) Via.refl (hz.ext W0.ext) (by decide +kernel)
  refine oLift st1 ?_
  refine oIfF W1 (cd := .eq) (o := 14) (by decide +kernel) (XT.i0_eq_f hz0) (pc' := 6) rfl ?_
  refine oGo W1 [.aload_n 0] (by decide +kernel) (ls' := #[sR x]) (st' := [(.ref x)]) rfl rfl (pc' := 7) rfl ?_
  obtain ⟨T2, W2, st2⟩ := oGetF W1 (pc := 7) (ls := #[sR x]) (st := []) (wK K 34 rfl) Via.refl F (by decide +kernel)
  refine oLift st2 ?_
  by_cases hc3 : n = (0 : Int32)
  · refine oIfF W2 (cd := .ne) (o := 7) (by decide +kernel) (XT.i0_ne_f hc3) (pc' := 13) rfl ?_
    refine oGo W2 [.iconst 1, .goto 4] (by decide +kernel) (ls' := #[sR x]) (st' := [(.int 1)]) rfl rfl (pc' := 18) rfl ?_
    exact oRetN (by simp) W2 rfl (by decide +kernel) (lb rfl) (lb rfl) (fun vm' hv => ⟨by rw [if_pos hc3], rfl⟩)
  refine oIfT W2 (cd := .ne) (o := 7) (by decide +kernel) (XT.i0_ne_t hc3) (pc' := 17) (by decide) (by decide) ?_
  refine oGo W2 [.iconst 0] (by decide +kernel) (ls' := #[sR x]) (st' := [(.int 0)]) rfl rfl (pc' := 18) rfl ?_
  exact oRetN (by simp) W2 rfl (by decide +kernel) (lb rfl) (lb rfl) (fun vm' hv => ⟨by rw [if_neg hc3], rfl⟩)
abbrev rm_c_lch : Room := { frames := 2, cells := 0, slots := 0, locals := 27 }
set_option maxRecDepth 65536 in
set_option maxHeartbeats 40000000 in
theorem c_lch {l : Launch} {Z : State} {a0 : Array Value} {nb : Bool} (K : Ctx Z a0) {t : Addr} {kt : ClassId} {cs : List Int32} {i : Int32} {h0 : Heap} (G : Sx Z) (A : OA Z h0 t kt .byte (cs.map fun c => .int c.toInt8.toInt32)) (P : ∀ c ∈ cs, ¬ c < 0 ∧ ¬ (255 : Int32) < c) (hl : cs.length ≤ 4000) (hi : ¬ i < 0) {c : Int32} (hc : cs[i.toNatClampNeg]? = some c) :
    OC l Z EL nb [] (⟨"java/lang/StringLatin1", "charAt", "([BI)C"⟩ : MethodName) jdk_43_method_2_code 2 (some .char) rm_c_lch #[(.ref t), (.int i)] h0 [] (fun v _ h => v = some (.int c) ∧ h = h0) := by
  have hw := K.1
  have hS : ∀ a ∈ Bundle.stringAtoms, a.before a0 Z = true := K.2.2.1
  have hlt : i < Int32.ofNat cs.length := own_ltn hi hl (List.getElem?_eq_some_iff.mp hc).1
  have hP := P c (List.mem_of_getElem? hc)
  refine oEnter (by decide +kernel) K.2.1.2.1 ?_
  intro _p _e _s m _below _meth _c T0 W0 S0
  refine oEq (g' := mkF m 0 #[.val (.ref t), .val (.int i)] []) (by first | (simp [entryFrame, mkF, argsToLocals, Value.category]; done) | rfl) ?_
  refine oGo W0 [.iload_n 1, .aload_n 0] (by decide +kernel) (ls' := #[sR t, sI i]) (st' := [(.ref t), (.int i)]) rfl rfl (pc' := 2) rfl ?_
  refine oLen W0 A (by decide +kernel) ?_
  rw [List.length_map]
  obtain ⟨v1, T1, L1, h1, vm1, W1, ⟨rfl, e1⟩, C1, st1⟩ := oCallS W0 (idx := 9) (pc := 3) (ls := #[sR t, sI i]) (st := []) (argsL := [(.int i), (.int (Int32.ofNat cs.length))]) (c_sci K G hi hlt) (fun x hx => nomatch hx) (wK K 115 rfl) (wK K 116 rfl) (wK K 11 rfl) (wK K 117 rfl) (by decide) (na := 2) rfl (by decide +kernel) rfl (stk := [(.int (Int32.ofNat cs.length)), (.int i)]) rfl (by decide +kernel) (V := 0) (lb rfl) (lb rfl) (lb rfl) (lb rfl) (lb rfl)
  refine oLift st1 ?_
  rw [e1] at W1 C1
  show OG _ _ _ _ _ _ _ _ _ _ _ (mkF m 6 #[sR t, sI i] [])
  refine oGo W1 [.aload_n 0, .iload_n 1] (by decide +kernel) (ls' := #[sR t, sI i]) (st' := [(.int i), (.ref t)]) rfl rfl (pc' := 8) rfl ?_
  refine oGet W1 A (v := (.int c.toInt8.toInt32)) hi (by rw [List.getElem?_map, hc]; rfl) (Or.inr (Or.inl ⟨rfl, rfl⟩)) (by decide +kernel) ?_
  refine oGo W1 [.sipush 255, .iand, .i2c] (by decide +kernel) (ls' := #[sR t, sI i]) (st' := [(.int ((c.toInt8.toInt32 &&& (255 : Int32)).toUInt32.toUInt16.toUInt32.toInt32))]) rfl rfl (pc' := 14) rfl ?_
  rw [own_lo8c hP]
  exact oRetN (by simp) W1 (narC hP) (by decide +kernel) (lb rfl) (lb rfl) (fun vm' hv => ⟨rfl, rfl⟩)
abbrev rm_c_chr : Room := { frames := 3, cells := 0, slots := 0, locals := 40 }
set_option maxRecDepth 65536 in
set_option maxHeartbeats 40000000 in
theorem c_chr {l : Launch} {Z : State} {a0 : Array Value} {nb : Bool} (K : Ctx Z a0) {x : Addr} {cs : List Int32} {i : Int32} {h0 : Heap} (G : Sx Z) (F : Str Z h0 x cs) (hl : cs.length ≤ 4000) (hi : ¬ i < 0) {c : Int32} (hc : cs[i.toNatClampNeg]? = some c) :
    OC l Z EL nb [] (⟨"java/lang/String", "charAt", "(I)C"⟩ : MethodName) jdk_42_method_56_code 2 (some .char) rm_c_chr #[(.ref x), (.int i)] h0 [] (fun v _ h => v = some (.int c) ∧ h = h0) := by
  have hw := K.1
  have hS : ∀ a ∈ Bundle.stringAtoms, a.before a0 Z = true := K.2.2.1
  obtain ⟨t, kt, X1, Fc, Fv, A, P⟩ := id F
  have hP := P c (List.mem_of_getElem? hc)
  refine oEnter (by decide +kernel) K.2.1.2.1 ?_
  intro _p _e _s m _below _meth _c T0 W0 S0
  refine oEq (g' := mkF m 0 #[.val (.ref x), .val (.int i)] []) (by first | (simp [entryFrame, mkF, argsToLocals, Value.category]; done) | rfl) ?_
  refine oGo W0 [.aload_n 0] (by decide +kernel) (ls' := #[sR x, sI i]) (st' := [(.ref x)]) rfl rfl (pc' := 1) rfl ?_
  obtain ⟨v1, T1, L1, h1, vm1, W1, ⟨rfl, e1⟩, C1, st1⟩ := oCallV W0 (idx := 492) (pc := 1) (ls := #[sR x, sI i]) (st := []) (argsL := []) X1 (c_isl K Fc) (fun x hx => nomatch hx) (wK K 106 rfl) (wK K 107 rfl) (notFace_of_selects (args := #[]) (mvT W0.warm (wK K 109 rfl))) (wK K 109 rfl) (wK K 108 rfl) (wK K 11 rfl) (wK K 110 rfl) (by decide) (na := 0) rfl (by decide +kernel) rfl (stk := [(.ref x)]) rfl (by decide +kernel) (V := 0) (lb rfl) (lb rfl) (lb rfl) (lb rfl) (lb rfl)
  refine oLift st1 ?_
  rw [e1] at W1 C1
  show OG _ _ _ _ _ _ _ _ _ _ _ (mkF m 4 #[sR x, sI i] [(.int 1)])
  refine oIfF W1 (cd := .eq) (o := 12) (by decide +kernel) (XT.i0_eq_f (by decide)) (pc' := 7) rfl ?_
  refine oGo W1 [.aload_n 0] (by decide +kernel) (ls' := #[sR x, sI i]) (st' := [(.ref x)]) rfl rfl (pc' := 8) rfl ?_
  obtain ⟨T2, W2, st2⟩ := oGetF W1 (pc := 8) (ls := #[sR x, sI i]) (st := []) (wK K 36 rfl) Via.refl Fv (by decide +kernel)
  refine oLift st2 ?_
  refine oGo W2 [.iload_n 1] (by decide +kernel) (ls' := #[sR x, sI i]) (st' := [(.int i), (.ref t)]) rfl rfl (pc' := 12) rfl ?_
  obtain ⟨v3, T3, L3, h3, vm3, W3, ⟨rfl, e3⟩, C3, st3⟩ := oCallS W2 (idx := 495) (pc := 12) (ls := #[sR x, sI i]) (st := []) (argsL := [(.ref t), (.int i)]) (c_lch K G A P hl hi hc) (fun x hx => nomatch hx) (wK K 111 rfl) (wK K 112 rfl) (wK K 113 rfl) (wK K 114 rfl) (by decide) (na := 2) rfl (by decide +kernel) rfl (stk := [(.int i), (.ref t)]) rfl (by decide +kernel) (V := 0) (lb rfl) (lb rfl) (lb rfl) (lb rfl) (lb rfl)
  refine oLift st3 ?_
  rw [e3] at W3 C3
  show OG _ _ _ _ _ _ _ _ _ _ _ (mkF m 15 #[sR x, sI i] [(.int c)])
  exact oRetN (by simp) W3 (narC hP) (by decide +kernel) (lb rfl) (lb rfl) (fun vm' hv => ⟨rfl, rfl⟩)
theorem cpy_all (xs : List Value) (z : Value) (o n : Nat) (h : o + n ≤ xs.length) : cpy (List.replicate n z) xs o 0 n = (xs.drop o).take n := by
  simp [cpy]
theorem sub_n {a b : Nat} (h : b ≤ a) : (Int32.ofNat a - Int32.ofNat b : Int32) = Int32.ofNat (a - b) := XT.sub32n h
theorem ofNat0 {n : Nat} (hn : n ≤ 4000) (h : Int32.ofNat n = 0) : n = 0 := by
  have := congrArg Int32.toNatClampNeg h
  rw [n_cl (by omega)] at this
  exact this
theorem ofNat_inj {a b : Nat} (ha : a ≤ 4000) (hb : b ≤ 4000) (h : Int32.ofNat a = Int32.ofNat b) : a = b := by
  have := congrArg Int32.toNatClampNeg h
  rwa [n_cl (by omega), n_cl (by omega)] at this
abbrev rm_c_min : Room := { frames := 0, cells := 0, slots := 0, locals := 0 }
set_option maxRecDepth 65536 in
set_option maxHeartbeats 40000000 in
theorem c_min {l : Launch} {Z : State} {a0 : Array Value} {nb : Bool} (K : Ctx Z a0) {a b : Nat} {h0 : Heap} (ha : a ≤ 4000) (hb : b ≤ a) :
    OC l Z EL nb [] (⟨"java/lang/Math", "min", "(II)I"⟩ : MethodName) jdk_29_method_69_code 2 (some .int) rm_c_min #[(.int (Int32.ofNat a)), (.int (Int32.ofNat b))] h0 [] (fun v _ h => v = some (.int (Int32.ofNat b)) ∧ h = h0) := by
  have hw := K.1
  have hS : ∀ a ∈ Bundle.stringAtoms, a.before a0 Z = true := K.2.2.1
  refine oEnter (by decide +kernel) K.2.1.2.1 ?_
  intro _p _e _s m _below _meth _c T0 W0 S0
  refine oEq (g' := mkF m 0 #[.val (.int (Int32.ofNat a)), .val (.int (Int32.ofNat b))] []) (by first | (simp [entryFrame, mkF, argsToLocals, Value.category]; done) | rfl) ?_
  refine oGo W0 [.iload_n 0, .iload_n 1] (by decide +kernel) (ls' := #[sI (Int32.ofNat a), sI (Int32.ofNat b)]) (st' := [(.int (Int32.ofNat b)), (.int (Int32.ofNat a))]) rfl rfl (pc' := 2) rfl ?_
  by_cases hc1 : (Int32.ofNat b) < (Int32.ofNat a)
  · refine oIcT W0 (cd := .gt) (o := 7) (by decide +kernel) (XT.ii_gt_t hc1) (pc' := 9) (by decide) (by decide) ?_
    refine oGo W0 [.iload_n 1] (by decide +kernel) (ls' := #[sI (Int32.ofNat a), sI (Int32.ofNat b)]) (st' := [(.int (Int32.ofNat b))]) rfl rfl (pc' := 10) rfl ?_
    exact oRetI W0 (by decide +kernel) (lb rfl) (lb rfl) (fun vm' hv => ⟨rfl, rfl⟩)
  refine oIcF W0 (cd := .gt) (o := 7) (by decide +kernel) (XT.ii_gt_f hc1) (pc' := 5) rfl ?_
  refine oGo W0 [.iload_n 0, .goto 4] (by decide +kernel) (ls' := #[sI (Int32.ofNat a), sI (Int32.ofNat b)]) (st' := [(.int (Int32.ofNat a))]) rfl rfl (pc' := 10) rfl ?_
  exact oRetI W0 (by decide +kernel) (lb rfl) (lb rfl) (fun vm' hv => ⟨by rw [show a = b from Nat.le_antisymm (Nat.le_of_not_lt fun q => hc1 ((n_lt (by omega) (by omega)).mpr q)) hb], rfl⟩)
abbrev rm_c_ckl : Room := { frames := 0, cells := 0, slots := 0, locals := 0 }
set_option maxRecDepth 65536 in
set_option maxHeartbeats 40000000 in
theorem c_ckl {l : Launch} {Z : State} {a0 : Array Value} {nb : Bool} (K : Ctx Z a0) {a b : Nat} {h0 : Heap} (hb : b ≤ 4000) (ha : a ≤ b) :
    OC l Z EL nb [] (⟨"java/util/Arrays", "checkLength", "(II)V"⟩ : MethodName) jdk_65_method_131_code 2 none rm_c_ckl #[(.int (Int32.ofNat a)), (.int (Int32.ofNat b))] h0 [] (fun v _ h => v = none ∧ h = h0) := by
  have hw := K.1
  have hS : ∀ a ∈ Bundle.stringAtoms, a.before a0 Z = true := K.2.2.1
  refine oEnter (by decide +kernel) K.2.1.2.1 ?_
  intro _p _e _s m _below _meth _c T0 W0 S0
  refine oEq (g' := mkF m 0 #[.val (.int (Int32.ofNat a)), .val (.int (Int32.ofNat b))] []) (by first | (simp [entryFrame, mkF, argsToLocals, Value.category]; done) | rfl) ?_
  refine oGo W0 [.iload_n 1, .iload_n 0] (by decide +kernel) (ls' := #[sI (Int32.ofNat a), sI (Int32.ofNat b)]) (st' := [(.int (Int32.ofNat a)), (.int (Int32.ofNat b))]) rfl rfl (pc' := 2) rfl ?_
  refine oIcT W0 (cd := .ge) (o := 35) (by decide +kernel) (XT.ii_ge_t (fun q => absurd ((n_lt (by omega) (by omega)).mp q) (by omega))) (pc' := 37) (by decide) (by decide) ?_
  exact oRet0 W0 (by decide +kernel) (lb rfl) (lb rfl) (fun vm' hv => ⟨rfl, rfl⟩)
abbrev rm_c_crb : Room := { frames := 1, cells := 1, slots := 32, locals := 40 }
set_option maxRecDepth 65536 in
set_option maxHeartbeats 40000000 in
theorem c_crb {l : Launch} {Z : State} {a0 : Array Value} {nb : Bool} (K : Ctx Z a0) {t : Addr} {k : ClassId} {vs : List Value} {o e : Nat} {h0 : Heap} (A : OA Z h0 t k .byte vs) (hv : vs.length ≤ 32) (ho : o ≤ e) (he : e ≤ vs.length) :
    OC l Z EL nb [] (⟨"java/util/Arrays", "copyOfRangeByte", "([BII)[B"⟩ : MethodName) jdk_65_method_133_code 5 (some (.array .byte)) rm_c_crb #[(.ref t), (.int (Int32.ofNat o)), (.int (Int32.ofNat e))] h0 [] (fun v _ h => ∃ d kd, v = some (.ref d) ∧ h0.size ≤ d ∧ Ext h0 h ∧ OA Z h d kd .byte ((vs.drop o).take (e - o))) := by
  have hw := K.1
  have hS : ∀ a ∈ Bundle.stringAtoms, a.before a0 Z = true := K.2.2.1
  refine oEnter (by decide +kernel) K.2.1.2.1 ?_
  intro _p _e _s m _below _meth _c T0 W0 S0
  refine oEq (g' := mkF m 0 #[.val (.ref t), .val (.int (Int32.ofNat o)), .val (.int (Int32.ofNat e)), .unset, .unset] []) (by first | (simp [entryFrame, mkF, argsToLocals, Value.category]; done) | rfl) ?_
  refine oGo W0 [.iload_n 1, .iload_n 2] (by decide +kernel) (ls' := #[sR t, sI (Int32.ofNat o), sI (Int32.ofNat e), sU, sU]) (st' := [(.int (Int32.ofNat e)), (.int (Int32.ofNat o))]) rfl rfl (pc' := 2) rfl ?_
  obtain ⟨v1, T1, L1, h1, vm1, W1, ⟨rfl, e1⟩, C1, st1⟩ := oCallS W0 (idx := 343) (pc := 2) (ls := #[sR t, sI (Int32.ofNat o), sI (Int32.ofNat e), sU, sU]) (st := []) (argsL := [(.int (Int32.ofNat o)), (.int (Int32.ofNat e))]) (c_ckl K (by omega) ho) (fun x hx => nomatch hx) (wK K 151 rfl) (wK K 152 rfl) (wK K 146 rfl) (wK K 153 rfl) (by decide) (na := 2) rfl (by decide +kernel) rfl (stk := [(.int (Int32.ofNat e)), (.int (Int32.ofNat o))]) rfl (by decide +kernel) (V := 0) (lb rfl) (lb rfl) (lb rfl) (lb rfl) (lb rfl)
  refine oLift st1 ?_
  rw [e1] at W1 C1
  show OG _ _ _ _ _ _ _ _ _ _ _ (mkF m 5 #[sR t, sI (Int32.ofNat o), sI (Int32.ofNat e), sU, sU] [])
  refine oGo W1 [.iload_n 2, .iload_n 1, .isub, .istore_n 3, .iload_n 3] (by decide +kernel) (ls' := #[sR t, sI (Int32.ofNat o), sI (Int32.ofNat e), sI ((Int32.ofNat e) - (Int32.ofNat o)), sU]) (st' := [(.int ((Int32.ofNat e) - (Int32.ofNat o)))]) rfl rfl (pc' := 10) rfl ?_
  rw [sub_n ho]
  obtain ⟨T2, h2, d, kd, W2, g2, E2, A2, S2, C2, st2⟩ := oNewA W1 (aty := .byte) (pc := 10) (ls := #[sR t, sI (Int32.ofNat o), sI (Int32.ofNat e), sI (Int32.ofNat (e - o)), sU]) (st := []) (wK K 27 rfl) (by decide +kernel) (n := Int32.ofNat (e - o)) (n_nn (by omega)) (cap := 32) (by rw [n_cl (by omega)]; omega) (lb rfl) (lb rfl) (lb rfl)
  refine oLift st2 ?_
  rw [n_cl (by omega)] at A2
  refine oGo W2 [.astore 4, .aload_n 0, .iload_n 1, .aload 4, .iconst 0, .aload_n 0] (by decide +kernel) (ls' := #[sR t, sI (Int32.ofNat o), sI (Int32.ofNat e), sI (Int32.ofNat (e - o)), sR d]) (st' := [(.ref t), (.int 0), (.ref d), (.int (Int32.ofNat o)), (.ref t)]) rfl rfl (pc' := 20) rfl ?_
  refine oLen W2 (A.ext E2) (by decide +kernel) ?_
  refine oGo W2 [.iload_n 1, .isub, .iload_n 3] (by decide +kernel) (ls' := #[sR t, sI (Int32.ofNat o), sI (Int32.ofNat e), sI (Int32.ofNat (e - o)), sR d]) (st' := [(.int (Int32.ofNat (e - o))), (.int ((Int32.ofNat vs.length) - (Int32.ofNat o))), (.int 0), (.ref d), (.int (Int32.ofNat o)), (.ref t)]) rfl rfl (pc' := 24) rfl ?_
  rw [sub_n (show o ≤ vs.length by omega)]
  obtain ⟨v3, T3, L3, h3, vm3, W3, ⟨rfl, e3⟩, C3, st3⟩ := oCallS W2 (idx := 304) (pc := 24) (ls := #[sR t, sI (Int32.ofNat o), sI (Int32.ofNat e), sI (Int32.ofNat (e - o)), sR d]) (st := [(.int 0), (.ref d), (.int (Int32.ofNat o)), (.ref t)]) (argsL := [(.int (Int32.ofNat (vs.length - o))), (.int (Int32.ofNat (e - o)))]) (c_min K (a := vs.length - o) (b := e - o) (by omega) (by omega)) (fun x hx => nomatch hx) (wK K 154 rfl) (wK K 155 rfl) (wK K 156 rfl) (wK K 157 rfl) (by decide) (na := 2) rfl (by decide +kernel) rfl (stk := [(.int (Int32.ofNat (e - o))), (.int (Int32.ofNat (vs.length - o))), (.int 0), (.ref d), (.int (Int32.ofNat o)), (.ref t)]) rfl (by decide +kernel) (V := 4) (lb rfl) (lb rfl) (lb rfl) (lb rfl) (lb rfl)
  refine oLift st3 ?_
  rw [e3] at W3 C3
  show OG _ _ _ _ _ _ _ _ _ _ _ (mkF m 27 #[sR t, sI (Int32.ofNat o), sI (Int32.ofNat e), sI (Int32.ofNat (e - o)), sR d] [(.int (Int32.ofNat (e - o))), (.int 0), (.ref d), (.int (Int32.ofNat o)), (.ref t)])
  obtain ⟨T4, h4, W4, K4, A4, C4, st4⟩ := oCopy W3 (idx := 150) (pc := 27) (ls := #[sR t, sI (Int32.ofNat o), sI (Int32.ofNat e), sI (Int32.ofNat (e - o)), sR d]) (st := []) (A.ext E2) A2 (o := o) (q := 0) (n := (e - o)) (by omega) (by rw [List.length_replicate]; omega) (Nat.le_trans W0.ext.1 g2) (C3.safe A2.lt S2) (wK K 158 rfl) (wK K 161 rfl) (wK K 159 rfl) (wK K 160 rfl) rfl (by decide +kernel) (V := 0) (lb rfl) (lb rfl) (lb rfl)
  refine oLift st4 ?_
  refine oGo W4 [.aload 4] (by decide +kernel) (ls' := #[sR t, sI (Int32.ofNat o), sI (Int32.ofNat e), sI (Int32.ofNat (e - o)), sR d]) (st' := [(.ref d)]) rfl rfl (pc' := 32) rfl ?_
  have hcp := cpy_all vs (.int 0) o (e - o) (by omega)
  exact oRetA rfl W4 rfl rfl (by decide +kernel) (lb rfl) (lb rfl) (fun vm' hv => ⟨d, kd, rfl, g2, exK E2 K4 (fun y hy => by cases List.mem_singleton.mp hy; exact g2), hcp ▸ A4⟩)
abbrev rm_c_cr : Room := { frames := 2, cells := 1, slots := 32, locals := 56 }
set_option maxRecDepth 65536 in
set_option maxHeartbeats 40000000 in
theorem c_cr {l : Launch} {Z : State} {a0 : Array Value} {nb : Bool} (K : Ctx Z a0) {t : Addr} {k : ClassId} {vs : List Value} {o e : Nat} {h0 : Heap} (A : OA Z h0 t k .byte vs) (hv : vs.length ≤ 32) (ho : o ≤ e) (he : e ≤ vs.length) (hne : o = 0 → e ≠ vs.length) :
    OC l Z EL nb [] (⟨"java/util/Arrays", "copyOfRange", "([BII)[B"⟩ : MethodName) jdk_65_method_132_code 3 (some (.array .byte)) rm_c_cr #[(.ref t), (.int (Int32.ofNat o)), (.int (Int32.ofNat e))] h0 [] (fun v _ h => ∃ d kd, v = some (.ref d) ∧ h0.size ≤ d ∧ Ext h0 h ∧ OA Z h d kd .byte ((vs.drop o).take (e - o))) := by
  have hw := K.1
  have hS : ∀ a ∈ Bundle.stringAtoms, a.before a0 Z = true := K.2.2.1
  refine oEnter (by decide +kernel) K.2.1.2.1 ?_
  intro _p _e _s m _below _meth _c T0 W0 S0
  refine oEq (g' := mkF m 0 #[.val (.ref t), .val (.int (Int32.ofNat o)), .val (.int (Int32.ofNat e))] []) (by first | (simp [entryFrame, mkF, argsToLocals, Value.category]; done) | rfl) ?_
  refine oGo W0 [.iload_n 1] (by decide +kernel) (ls' := #[sR t, sI (Int32.ofNat o), sI (Int32.ofNat e)]) (st' := [(.int (Int32.ofNat o))]) rfl rfl (pc' := 1) rfl ?_
  by_cases hc1 : (Int32.ofNat o) = (0 : Int32)
  · refine oIfF W0 (cd := .ne) (o := 9) (by decide +kernel) (XT.i0_ne_f hc1) (pc' := 4) rfl ?_
    refine oGo W0 [.iload_n 2, .aload_n 0] (by decide +kernel) (ls' := #[sR t, sI (Int32.ofNat o), sI (Int32.ofNat e)]) (st' := [(.ref t), (.int (Int32.ofNat e))]) rfl rfl (pc' := 6) rfl ?_
    refine oLen W0 A (by decide +kernel) ?_
    refine oIcF W0 (cd := .eq) (o := 10) (by decide +kernel) (XT.ii_eq_f (fun q => hne (ofNat0 (by omega) hc1) (ofNat_inj (by omega) (by omega) q))) (pc' := 10) rfl ?_
    refine oGo W0 [.aload_n 0, .iload_n 1, .iload_n 2] (by decide +kernel) (ls' := #[sR t, sI (Int32.ofNat o), sI (Int32.ofNat e)]) (st' := [(.int (Int32.ofNat e)), (.int (Int32.ofNat o)), (.ref t)]) rfl rfl (pc' := 13) rfl ?_
    obtain ⟨v2, T2, L2, h2, vm2, W2, ⟨d, kd, rfl, g2, E2, B2⟩, C2, st2⟩ := oCallS W0 (idx := 339) (pc := 13) (ls := #[sR t, sI (Int32.ofNat o), sI (Int32.ofNat e)]) (st := []) (argsL := [(.ref t), (.int (Int32.ofNat o)), (.int (Int32.ofNat e))]) (c_crb K A hv ho he) (fun x hx => nomatch hx) (wK K 148 rfl) (wK K 149 rfl) (wK K 146 rfl) (wK K 150 rfl) (by decide) (na := 3) rfl (by decide +kernel) rfl (stk := [(.int (Int32.ofNat e)), (.int (Int32.ofNat o)), (.ref t)]) rfl (by decide +kernel) (V := 0) (lb rfl) (lb rfl) (lb rfl) (lb rfl) (lb rfl)
    refine oLift st2 ?_
    show OG _ _ _ _ _ _ _ _ _ _ _ (mkF m 16 #[sR t, sI (Int32.ofNat o), sI (Int32.ofNat e)] [(.ref d)])
    exact oRetA rfl W2 rfl rfl (by decide +kernel) (lb rfl) (lb rfl) (fun vm' hv => ⟨d, kd, rfl, g2, E2, B2⟩)
  · refine oIfT W0 (cd := .ne) (o := 9) (by decide +kernel) (XT.i0_ne_t hc1) (pc' := 10) (by decide) (by decide) ?_
    refine oGo W0 [.aload_n 0, .iload_n 1, .iload_n 2] (by decide +kernel) (ls' := #[sR t, sI (Int32.ofNat o), sI (Int32.ofNat e)]) (st' := [(.int (Int32.ofNat e)), (.int (Int32.ofNat o)), (.ref t)]) rfl rfl (pc' := 13) rfl ?_
    obtain ⟨v3, T3, L3, h3, vm3, W3, ⟨d, kd, rfl, g3, E3, B3⟩, C3, st3⟩ := oCallS W0 (idx := 339) (pc := 13) (ls := #[sR t, sI (Int32.ofNat o), sI (Int32.ofNat e)]) (st := []) (argsL := [(.ref t), (.int (Int32.ofNat o)), (.int (Int32.ofNat e))]) (c_crb K A hv ho he) (fun x hx => nomatch hx) (wK K 148 rfl) (wK K 149 rfl) (wK K 146 rfl) (wK K 150 rfl) (by decide) (na := 3) rfl (by decide +kernel) rfl (stk := [(.int (Int32.ofNat e)), (.int (Int32.ofNat o)), (.ref t)]) rfl (by decide +kernel) (V := 0) (lb rfl) (lb rfl) (lb rfl) (lb rfl) (lb rfl)
    refine oLift st3 ?_
    show OG _ _ _ _ _ _ _ _ _ _ _ (mkF m 16 #[sR t, sI (Int32.ofNat o), sI (Int32.ofNat e)] [(.ref d)])
    exact oRetA rfl W3 rfl rfl (by decide +kernel) (lb rfl) (lb rfl) (fun vm' hv => ⟨d, kd, rfl, g3, E3, B3⟩)
def SBd (Z : State) (h : Heap) (b t : Addr) (kt : ClassId) (vs : List Value) (n : Nat) : Prop := Exa Z h b "java/lang/StringBuilder" ∧ Fld Z h b "java/lang/AbstractStringBuilder" "value" "[B" (.ref t) ∧ Fld Z h b "java/lang/AbstractStringBuilder" "coder" "B" (.int 0) ∧ Fld Z h b "java/lang/AbstractStringBuilder" "count" "I" (.int (Int32.ofNat n)) ∧ OA Z h t kt .byte vs ∧ Z.heap.size ≤ t ∧ t ≠ b
abbrev byt (cs : List Int32) : List Value := cs.map fun c => Value.int c.toInt8.toInt32
theorem shl0 (x : Int32) : x <<< ((0 : Int32) &&& 31) = x := by
  apply Int32.toInt_inj.mp
  have e := c_ishl x 0 0 (by decide)
  have k0 : ((2 ^ 0 : Nat) : Int) = 1 := by decide
  rw [k0] at e
  have := (x <<< ((0 : Int32) &&& 31)).le_toInt
  have := (x <<< ((0 : Int32) &&& 31)).toInt_lt
  have := x.le_toInt
  have := x.toInt_lt
  omega
theorem add_n (a b : Nat) : (Int32.ofNat a + Int32.ofNat b : Int32) = Int32.ofNat (a + b) := XT.add32n a b
theorem sub_le0 {m n : Nat} (hm : m ≤ n) (hn : n ≤ 4000) : ¬ (0 : Int32) < Int32.ofNat m - Int32.ofNat n := by
  rw [Int32.lt_iff_toInt_lt]
  have e := c_isub (Int32.ofNat m) (Int32.ofNat n)
  rw [Int32.toInt_ofNat_small (by omega), Int32.toInt_ofNat_small (by omega)] at e
  have := (Int32.ofNat m - Int32.ofNat n).le_toInt
  have := (Int32.ofNat m - Int32.ofNat n).toInt_lt
  have k0 : (0 : Int32).toInt = 0 := rfl
  rw [k0]; omega
abbrev rm_c_asi : Room := { frames := 1, cells := 1, slots := 16, locals := 12 }
set_option maxRecDepth 65536 in
set_option maxHeartbeats 40000000 in
theorem c_asi {l : Launch} {Z : State} {a0 : Array Value} {nb : Bool} (K : Ctx Z a0) {b : Addr} {v0 v1 : Value} {h0 : Heap} (hfr : Z.heap.size ≤ b) (X : Exa Z h0 b "java/lang/StringBuilder") (Fv : Fld Z h0 b "java/lang/AbstractStringBuilder" "value" "[B" v0) (Fc : Fld Z h0 b "java/lang/AbstractStringBuilder" "coder" "B" v1) (Fn : Fld Z h0 b "java/lang/AbstractStringBuilder" "count" "I" (.int 0)) :
    OC l Z EL nb [] (⟨"java/lang/AbstractStringBuilder", "<init>", "(I)V"⟩ : MethodName) jdk_68_method_2_code 2 none rm_c_asi #[(.ref b), (.int 16)] h0 [] (fun v vm h => v = none ∧ ∃ t kt, h0.size ≤ t ∧ Keep h0 h [b] ∧ SBd Z h b t kt (List.replicate 16 (.int 0)) 0 ∧ Safe Z EL vm h t) := by
  have hw := K.1
  have hS : ∀ a ∈ Bundle.stringAtoms, a.before a0 Z = true := K.2.2.1
  obtain ⟨z, hz, hz0⟩ := K.2.1.2.2
  refine oEnter (by decide +kernel) K.2.1.2.1 ?_
  intro _p _e _s m _below _meth _c T0 W0 S0
  refine oEq (g' := mkF m 0 #[.val (.ref b), .val (.int 16)] []) (by first | (simp [entryFrame, mkF, argsToLocals, Value.category]; done) | rfl) ?_
  refine oGo W0 [.aload_n 0] (by decide +kernel) (ls' := #[sR b, sI 16]) (st' := [(.ref b)]) rfl rfl (pc' := 1) rfl ?_
  obtain ⟨T1, W1, st1⟩ := oInit W0 (idx := 3) (pc := 1) (ls := #[sR b, sI 16]) (st := []) (a := b) (wK K 269 rfl) (wK K 20 rfl) (wK K 21 rfl) rfl (by decide +kernel) (lb rfl) (V := 0) (lb rfl) (lb rfl)
  refine oLift st1 ?_
  obtain ⟨T2, W2, st2⟩ := oGetS W1 (pc := 4) (ls := #[sR b, sI 16]) (st := []) (wK K 270 rfl) Via.refl (hz.ext W1.ext) (by decide +kernel)
  refine oLift st2 ?_
  refine oIfF W2 (cd := .eq) (o := 18) (by decide +kernel) (XT.i0_eq_f hz0) (pc' := 10) rfl ?_
  refine oGo W2 [.aload_n 0, .iload_n 1] (by decide +kernel) (ls' := #[sR b, sI 16]) (st' := [(.int 16), (.ref b)]) rfl rfl (pc' := 12) rfl ?_
  obtain ⟨T3, h3, t, kt, W3, g3, E3, A3, S3, C3, st3⟩ := oNewA W2 (aty := .byte) (pc := 12) (ls := #[sR b, sI 16]) (st := [(.ref b)]) (wK K 27 rfl) (by decide +kernel) (n := Int32.ofNat 16) (n_nn (by omega)) (cap := 16) (by rw [n_cl (by omega)]; omega) (lb rfl) (lb rfl) (lb rfl)
  refine oLift st3 ?_
  rw [n_cl (by omega)] at A3
  have htb : t ≠ b := Nat.ne_of_gt (Nat.lt_of_lt_of_le X.lt g3)
  obtain ⟨T4, h4, W4, Wr4, F4, X4, C4, st4⟩ := oPutF W3 (idx := 15) (pc := 14) (ls := #[sR b, sI 16]) (st := []) (v := (.ref t)) (wK K 271 rfl) Via.refl (Fv.ext E3) (X.ext E3) (Or.inl (wK K 272 rfl)) (wK K 258 rfl) (ty := (.array .byte)) (by decide) rfl rfl hfr (Safe.exa W3.warm.alike (X.ext E3) (by decide) (by decide)) (by decide +kernel)
  refine oLift st4 ?_
  refine oGo W4 [.aload_n 0, .iconst 0] (by decide +kernel) (ls' := #[sR b, sI 16]) (st' := [(.int 0), (.ref b)]) rfl rfl (pc' := 19) rfl ?_
  obtain ⟨T5, h5, W5, Wr5, F5, X5, C5, st5⟩ := oPutF W4 (idx := 22) (pc := 19) (ls := #[sR b, sI 16]) (st := []) (v := (.int 0)) (wK K 273 rfl) Via.refl ((Fc.ext E3).other Wr4 (Or.inr (slot_ne (a0 := a0) (C := "java/lang/StringBuilder") (Or.inl (wK K 274 rfl)) (Or.inl (wK K 272 rfl)) (by decide) (t := .byte) (t' := (.array .byte)) (by decide) (by decide)))) X4 (Or.inl (wK K 274 rfl)) (wK K 258 rfl) (ty := .byte) (by decide) rfl rfl hfr (Safe.exa W4.warm.alike X4 (by decide) (by decide)) (by decide +kernel)
  refine oLift st5 ?_
  refine oGo W5 [.goto 16] (by decide +kernel) (ls' := #[sR b, sI 16]) (st' := []) rfl rfl (pc' := 38) rfl ?_
  exact oRet0 W5 (by decide +kernel) (lb rfl) (lb rfl) (fun vm' hv => ⟨rfl, t, kt, g3, ((((Keep.refl _ [b]).ext E3).wr Wr4 (Or.inl (List.mem_singleton.mpr rfl))).wr Wr5 (Or.inl (List.mem_singleton.mpr rfl))), ⟨X5, (F4.other Wr5 (Or.inr (slot_ne (a0 := a0) (C := "java/lang/StringBuilder") (Or.inl (wK K 272 rfl)) (Or.inl (wK K 274 rfl)) (by decide) (t := (.array .byte)) (t' := .byte) (by decide) (by decide)))), F5, (((Fn.ext E3).other Wr4 (Or.inr (slot_ne (a0 := a0) (C := "java/lang/StringBuilder") (Or.inl (wK K 287 rfl)) (Or.inl (wK K 272 rfl)) (by decide) (t := .int) (t' := (.array .byte)) (by decide) (by decide)))).other Wr5 (Or.inr (slot_ne (a0 := a0) (C := "java/lang/StringBuilder") (Or.inl (wK K 287 rfl)) (Or.inl (wK K 274 rfl)) (by decide) (t := .int) (t' := .byte) (by decide) (by decide)))), ((A3.other Wr4 htb).other Wr5 htb), Nat.le_trans W0.ext.1 g3, htb⟩, hv.safe ((A3.other Wr4 htb).other Wr5 htb).lt (C5.safe (A3.other Wr4 htb).lt (C4.safe A3.lt S3))⟩)
abbrev rm_c_sbi : Room := { frames := 2, cells := 1, slots := 16, locals := 25 }
set_option maxRecDepth 65536 in
set_option maxHeartbeats 40000000 in
theorem c_sbi {l : Launch} {Z : State} {a0 : Array Value} {nb : Bool} (K : Ctx Z a0) {b : Addr} {v0 v1 : Value} {h0 : Heap} (hfr : Z.heap.size ≤ b) (X : Exa Z h0 b "java/lang/StringBuilder") (Fv : Fld Z h0 b "java/lang/AbstractStringBuilder" "value" "[B" v0) (Fc : Fld Z h0 b "java/lang/AbstractStringBuilder" "coder" "B" v1) (Fn : Fld Z h0 b "java/lang/AbstractStringBuilder" "count" "I" (.int 0)) :
    OC l Z EL nb [] (⟨"java/lang/StringBuilder", "<init>", "()V"⟩ : MethodName) jdk_67_method_1_code 1 none rm_c_sbi #[(.ref b)] h0 [] (fun v vm h => v = none ∧ ∃ t kt, h0.size ≤ t ∧ Keep h0 h [b] ∧ SBd Z h b t kt (List.replicate 16 (.int 0)) 0 ∧ Safe Z EL vm h t) := by
  have hw := K.1
  have hS : ∀ a ∈ Bundle.stringAtoms, a.before a0 Z = true := K.2.2.1
  refine oEnter (by decide +kernel) K.2.1.2.1 ?_
  intro _p _e _s m _below _meth _c T0 W0 S0
  refine oEq (g' := mkF m 0 #[.val (.ref b)] []) (by first | (simp [entryFrame, mkF, argsToLocals, Value.category]; done) | rfl) ?_
  refine oGo W0 [.aload_n 0, .bipush 16] (by decide +kernel) (ls' := #[sR b]) (st' := [(.int 16), (.ref b)]) rfl rfl (pc' := 3) rfl ?_
  obtain ⟨v1, T1, L1, h1, vm1, W1, ⟨rfl, t, kt, g1, K1, B1, S1⟩, C1, st1⟩ := oCallN W0 (idx := 1) (pc := 3) (ls := #[sR b]) (st := []) (a := b) (argsL := [(.int 16)]) (c_asi K hfr X Fv Fc Fn) (fun x hx => nomatch hx) rfl (wK K 263 rfl) (wK K 264 rfl) (wK K 267 rfl) (wK K 268 rfl) (by decide) (na := 1) rfl (by decide +kernel) rfl (stk := [(.int 16), (.ref b)]) rfl (by decide +kernel) (V := 0) (lb rfl) (lb rfl) (lb rfl) (lb rfl) (lb rfl)
  refine oLift st1 ?_
  show OG _ _ _ _ _ _ _ _ _ _ _ (mkF m 6 #[sR b] [])
  exact oRet0 W1 (by decide +kernel) (lb rfl) (lb rfl) (fun vm' hv => ⟨rfl, t, kt, g1, K1, B1, hv.safe B1.2.2.2.2.1.lt S1⟩)
abbrev rm_c_eci : Room := { frames := 0, cells := 0, slots := 0, locals := 0 }
set_option maxRecDepth 65536 in
set_option maxHeartbeats 40000000 in
theorem c_eci {l : Launch} {Z : State} {a0 : Array Value} {nb : Bool} (K : Ctx Z a0) {b t : Addr} {kt : ClassId} {vs : List Value} {n : Nat} {h0 : Heap} (hB : SBd Z h0 b t kt vs n) (hv16 : vs.length = 16) {q : Nat} (hq : q ≤ 16) :
    OC l Z EL nb [] (⟨"java/lang/AbstractStringBuilder", "ensureCapacityInternal", "(I)V"⟩ : MethodName) jdk_68_method_9_code 3 none rm_c_eci #[(.ref b), (.int (Int32.ofNat q))] h0 [] (fun v _ h => v = none ∧ h = h0) := by
  have hw := K.1
  have hS : ∀ a ∈ Bundle.stringAtoms, a.before a0 Z = true := K.2.2.1
  obtain ⟨X, Fv, Fc, Fn, At, hzt, htb⟩ := id hB
  refine oEnter (by decide +kernel) K.2.1.2.1 ?_
  intro _p _e _s m _below _meth _c T0 W0 S0
  refine oEq (g' := mkF m 0 #[.val (.ref b), .val (.int (Int32.ofNat q)), .unset] []) (by first | (simp [entryFrame, mkF, argsToLocals, Value.category]; done) | rfl) ?_
  refine oGo W0 [.aload_n 0] (by decide +kernel) (ls' := #[sR b, sI (Int32.ofNat q), sU]) (st' := [(.ref b)]) rfl rfl (pc' := 1) rfl ?_
  obtain ⟨T1, W1, st1⟩ := oGetF W0 (pc := 1) (ls := #[sR b, sI (Int32.ofNat q), sU]) (st := []) (wK K 271 rfl) Via.refl Fv (by decide +kernel)
  refine oLift st1 ?_
  refine oLen W1 At (by decide +kernel) ?_
  rw [hv16]
  refine oGo W1 [.aload_n 0] (by decide +kernel) (ls' := #[sR b, sI (Int32.ofNat q), sU]) (st' := [(.ref b), (.int (Int32.ofNat 16))]) rfl rfl (pc' := 6) rfl ?_
  obtain ⟨T2, W2, st2⟩ := oGetF W1 (pc := 6) (ls := #[sR b, sI (Int32.ofNat q), sU]) (st := [(.int (Int32.ofNat 16))]) (wK K 273 rfl) Via.refl Fc (by decide +kernel)
  refine oLift st2 ?_
  refine oGo W2 [.ishr, .istore_n 2, .iload_n 1, .iload_n 2, .isub] (by decide +kernel) (ls' := #[sR b, sI (Int32.ofNat q), sI ((Int32.ofNat 16) >>> ((0 : Int32) &&& 31))]) (st' := [(.int ((Int32.ofNat q) - ((Int32.ofNat 16) >>> ((0 : Int32) &&& 31))))]) rfl rfl (pc' := 14) rfl ?_
  rw [shr0]
  refine oIfT W2 (cd := .le) (o := 24) (by decide +kernel) (XT.i0_le_t (sub_le0 hq (by omega))) (pc' := 38) (by decide) (by decide) ?_
  exact oRet0 W2 (by decide +kernel) (lb rfl) (lb rfl) (fun vm' hv => ⟨rfl, rfl⟩)
abbrev rm_c_inf : Room := { frames := 1, cells := 0, slots := 0, locals := 13 }
set_option maxRecDepth 65536 in
set_option maxHeartbeats 40000000 in
theorem c_inf {l : Launch} {Z : State} {a0 : Array Value} {nb : Bool} (K : Ctx Z a0) {b t : Addr} {kt : ClassId} {vs : List Value} {n : Nat} {h0 : Heap} (hB : SBd Z h0 b t kt vs n) (hv16 : vs.length = 16) {x : Addr} {cs : List Int32} (F : Str Z h0 x cs) :
    OC l Z EL nb [] (⟨"java/lang/AbstractStringBuilder", "inflateIfNeededFor", "(Ljava/lang/String;)V"⟩ : MethodName) jdk_68_method_71_code 2 none rm_c_inf #[(.ref b), (.ref x)] h0 [] (fun v _ h => v = none ∧ h = h0) := by
  have hw := K.1
  have hS : ∀ a ∈ Bundle.stringAtoms, a.before a0 Z = true := K.2.2.1
  obtain ⟨z, hz, hz0⟩ := K.2.1.2.2
  obtain ⟨X, Fv, Fc, Fn, At, hzt, htb⟩ := id hB
  obtain ⟨u, ku, Xx, Fxc, Fxv, Ax, Px⟩ := id F
  refine oEnter (by decide +kernel) K.2.1.2.1 ?_
  intro _p _e _s m _below _meth _c T0 W0 S0
  refine oEq (g' := mkF m 0 #[.val (.ref b), .val (.ref x)] []) (by first | (simp [entryFrame, mkF, argsToLocals, Value.category]; done) | rfl) ?_
  obtain ⟨T1, W1, st1⟩ := oGetS W0 (pc := 0) (ls := #[sR b, sR x]) (st := []) (wK K 270 rfl) Via.refl (hz.ext W0.ext) (by decide +kernel)
  refine oLift st1 ?_
  refine oIfF W1 (cd := .eq) (o := 18) (by decide +kernel) (XT.i0_eq_f hz0) (pc' := 6) rfl ?_
  refine oGo W1 [.aload_n 0] (by decide +kernel) (ls' := #[sR b, sR x]) (st' := [(.ref b)]) rfl rfl (pc' := 7) rfl ?_
  obtain ⟨T2, W2, st2⟩ := oGetF W1 (pc := 7) (ls := #[sR b, sR x]) (st := []) (wK K 273 rfl) Via.refl Fc (by decide +kernel)
  refine oLift st2 ?_
  refine oGo W2 [.aload_n 1] (by decide +kernel) (ls' := #[sR b, sR x]) (st' := [(.ref x), (.int 0)]) rfl rfl (pc' := 11) rfl ?_
  obtain ⟨v3, T3, L3, h3, vm3, W3, ⟨rfl, e3⟩, C3, st3⟩ := oCallV W2 (idx := 40) (pc := 11) (ls := #[sR b, sR x]) (st := [(.int 0)]) (argsL := []) Xx (c_coder K rfl Fxc) (fun x hx => nomatch hx) (wK K 303 rfl) (wK K 78 rfl) (notFace_of_selects (args := #[]) (mvT W2.warm (wK K 80 rfl))) (wK K 80 rfl) (wK K 79 rfl) (wK K 11 rfl) (wK K 81 rfl) (by decide) (na := 0) rfl (by decide +kernel) rfl (stk := [(.ref x), (.int 0)]) rfl (by decide +kernel) (V := 1) (lb rfl) (lb rfl) (lb rfl) (lb rfl) (lb rfl)
  refine oLift st3 ?_
  rw [e3] at W3 C3
  show OG _ _ _ _ _ _ _ _ _ _ _ (mkF m 14 #[sR b, sR x] [(.int 0), (.int 0)])
  refine oIcT W3 (cd := .eq) (o := 7) (by decide +kernel) (XT.ii_eq_t (by decide)) (pc' := 21) (by decide) (by decide) ?_
  exact oRet0 W3 (by decide +kernel) (lb rfl) (lb rfl) (fun vm' hv => ⟨rfl, rfl⟩)
abbrev rm_c_gby : Room := { frames := 1, cells := 0, slots := 0, locals := 40 }
set_option maxRecDepth 65536 in
set_option maxHeartbeats 40000000 in
theorem c_gby {l : Launch} {Z : State} {a0 : Array Value} {nb : Bool} (K : Ctx Z a0) {b t : Addr} {kt : ClassId} {vs : List Value} {n : Nat} {h0 : Heap} (hB : SBd Z h0 b t kt vs n) (hv16 : vs.length = 16) {x : Addr} {cs : List Int32} (F : Str Z h0 x cs) (hn : n + cs.length ≤ 16) :
    OC l Z EL nb [] (⟨"java/lang/String", "getBytes", "([BIB)V"⟩ : MethodName) jdk_42_method_147_code 4 none rm_c_gby #[(.ref x), (.ref t), (.int (Int32.ofNat n)), (.int 0)] h0 [t] (fun v vm h => v = none ∧ Keep h0 h [t] ∧ OA Z h t kt .byte (cpy vs (byt cs) 0 n cs.length) ∧ Safe Z EL vm h t) := by
  have hw := K.1
  have hS : ∀ a ∈ Bundle.stringAtoms, a.before a0 Z = true := K.2.2.1
  obtain ⟨X, Fv, Fc, Fn, At, hzt, htb⟩ := id hB
  obtain ⟨u, ku, Xx, Fxc, Fxv, Ax, Px⟩ := id F
  refine oEnter (by decide +kernel) K.2.1.2.1 ?_
  intro _p _e _s m _below _meth _c T0 W0 S0
  refine oEq (g' := mkF m 0 #[.val (.ref x), .val (.ref t), .val (.int (Int32.ofNat n)), .val (.int 0)] []) (by first | (simp [entryFrame, mkF, argsToLocals, Value.category]; done) | rfl) ?_
  refine oGo W0 [.aload_n 0] (by decide +kernel) (ls' := #[sR x, sR t, sI (Int32.ofNat n), sI 0]) (st' := [(.ref x)]) rfl rfl (pc' := 1) rfl ?_
  obtain ⟨v1, T1, L1, h1, vm1, W1, ⟨rfl, e1⟩, C1, st1⟩ := oCallV W0 (idx := 335) (pc := 1) (ls := #[sR x, sR t, sI (Int32.ofNat n), sI 0]) (st := []) (argsL := []) Xx (c_coder K rfl Fxc) (fun x hx => nomatch hx) (wK K 77 rfl) (wK K 78 rfl) (notFace_of_selects (args := #[]) (mvT W0.warm (wK K 80 rfl))) (wK K 80 rfl) (wK K 79 rfl) (wK K 11 rfl) (wK K 81 rfl) (by decide) (na := 0) rfl (by decide +kernel) rfl (stk := [(.ref x)]) rfl (by decide +kernel) (V := 0) (lb rfl) (lb rfl) (lb rfl) (lb rfl) (lb rfl)
  refine oLift st1 ?_
  rw [e1] at W1 C1
  show OG _ _ _ _ _ _ _ _ _ _ _ (mkF m 4 #[sR x, sR t, sI (Int32.ofNat n), sI 0] [(.int 0)])
  refine oGo W1 [.iload_n 3] (by decide +kernel) (ls' := #[sR x, sR t, sI (Int32.ofNat n), sI 0]) (st' := [(.int 0), (.int 0)]) rfl rfl (pc' := 5) rfl ?_
  refine oIcF W1 (cd := .ne) (o := 23) (by decide +kernel) (XT.ii_ne_f (by decide)) (pc' := 8) rfl ?_
  refine oGo W1 [.aload_n 0] (by decide +kernel) (ls' := #[sR x, sR t, sI (Int32.ofNat n), sI 0]) (st' := [(.ref x)]) rfl rfl (pc' := 9) rfl ?_
  obtain ⟨T2, W2, st2⟩ := oGetF W1 (pc := 9) (ls := #[sR x, sR t, sI (Int32.ofNat n), sI 0]) (st := []) (wK K 36 rfl) Via.refl Fxv (by decide +kernel)
  refine oLift st2 ?_
  refine oGo W2 [.iconst 0, .aload_n 1, .iload_n 2, .iload_n 3, .ishl, .aload_n 0] (by decide +kernel) (ls' := #[sR x, sR t, sI (Int32.ofNat n), sI 0]) (st' := [(.ref x), (.int ((Int32.ofNat n) <<< ((0 : Int32) &&& 31))), (.ref t), (.int 0), (.ref u)]) rfl rfl (pc' := 18) rfl ?_
  rw [shl0]
  obtain ⟨T3, W3, st3⟩ := oGetF W2 (pc := 18) (ls := #[sR x, sR t, sI (Int32.ofNat n), sI 0]) (st := [(.int (Int32.ofNat n)), (.ref t), (.int 0), (.ref u)]) (wK K 36 rfl) Via.refl Fxv (by decide +kernel)
  refine oLift st3 ?_
  refine oLen W3 Ax (by decide +kernel) ?_
  rw [List.length_map]
  obtain ⟨T4, h4, W4, K4, A4, C4, st4⟩ := oCopy W3 (idx := 212) (pc := 22) (ls := #[sR x, sR t, sI (Int32.ofNat n), sI 0]) (st := []) Ax At (o := 0) (q := n) (n := cs.length) (by rw [List.length_map]; omega) (by omega) hzt (C1.safe At.lt (S0 t (List.mem_singleton.mpr rfl))) (wK K 309 rfl) (wK K 161 rfl) (wK K 159 rfl) (wK K 160 rfl) rfl (by decide +kernel) (V := 0) (lb rfl) (lb rfl) (lb rfl)
  refine oLift st4 ?_
  refine oGo W4 [.goto 18] (by decide +kernel) (ls' := #[sR x, sR t, sI (Int32.ofNat n), sI 0]) (st' := []) rfl rfl (pc' := 43) rfl ?_
  exact oRet0 W4 (by decide +kernel) (lb rfl) (lb rfl) (fun vm' hv => ⟨rfl, K4, A4, hv.safe A4.lt (C4.safe At.lt (C1.safe At.lt (S0 t (List.mem_singleton.mpr rfl))))⟩)
abbrev rm_c_psa : Room := { frames := 2, cells := 0, slots := 0, locals := 55 }
set_option maxRecDepth 65536 in
set_option maxHeartbeats 40000000 in
theorem c_psa {l : Launch} {Z : State} {a0 : Array Value} {nb : Bool} (K : Ctx Z a0) {b t : Addr} {kt : ClassId} {vs : List Value} {n : Nat} {h0 : Heap} (hB : SBd Z h0 b t kt vs n) (hv16 : vs.length = 16) {x : Addr} {cs : List Int32} (F : Str Z h0 x cs) (hn : n + cs.length ≤ 16) :
    OC l Z EL nb [] (⟨"java/lang/AbstractStringBuilder", "putStringAt", "(ILjava/lang/String;)V"⟩ : MethodName) jdk_68_method_73_code 3 none rm_c_psa #[(.ref b), (.int (Int32.ofNat n)), (.ref x)] h0 [t] (fun v vm h => v = none ∧ Keep h0 h [t] ∧ OA Z h t kt .byte (cpy vs (byt cs) 0 n cs.length) ∧ Safe Z EL vm h t) := by
  have hw := K.1
  have hS : ∀ a ∈ Bundle.stringAtoms, a.before a0 Z = true := K.2.2.1
  obtain ⟨X, Fv, Fc, Fn, At, hzt, htb⟩ := id hB
  obtain ⟨u, ku, Xx, Fxc, Fxv, Ax, Px⟩ := id F
  refine oEnter (by decide +kernel) K.2.1.2.1 ?_
  intro _p _e _s m _below _meth _c T0 W0 S0
  refine oEq (g' := mkF m 0 #[.val (.ref b), .val (.int (Int32.ofNat n)), .val (.ref x)] []) (by first | (simp [entryFrame, mkF, argsToLocals, Value.category]; done) | rfl) ?_
  refine oGo W0 [.aload_n 0, .aload_n 2] (by decide +kernel) (ls' := #[sR b, sI (Int32.ofNat n), sR x]) (st' := [(.ref x), (.ref b)]) rfl rfl (pc' := 2) rfl ?_
  obtain ⟨v1, T1, L1, h1, vm1, W1, ⟨rfl, e1⟩, C1, st1⟩ := oCallV W0 (idx := 397) (pc := 2) (ls := #[sR b, sI (Int32.ofNat n), sR x]) (st := []) (argsL := [(.ref x)]) X (c_inf K hB hv16 F) (fun x hx => nomatch hx) (wK K 298 rfl) (own_decl (wK K 299 rfl) (wK K 302 rfl)) (notFace_of_selects (args := #[]) (mvT W0.warm (wK K 301 rfl))) (wK K 301 rfl) (wK K 299 rfl) (wK K 267 rfl) (wK K 302 rfl) (by decide) (na := 1) rfl (by decide +kernel) rfl (stk := [(.ref x), (.ref b)]) rfl (by decide +kernel) (V := 0) (lb rfl) (lb rfl) (lb rfl) (lb rfl) (lb rfl)
  refine oLift st1 ?_
  rw [e1] at W1 C1
  show OG _ _ _ _ _ _ _ _ _ _ _ (mkF m 5 #[sR b, sI (Int32.ofNat n), sR x] [])
  refine oGo W1 [.aload_n 2, .aload_n 0] (by decide +kernel) (ls' := #[sR b, sI (Int32.ofNat n), sR x]) (st' := [(.ref b), (.ref x)]) rfl rfl (pc' := 7) rfl ?_
  obtain ⟨T2, W2, st2⟩ := oGetF W1 (pc := 7) (ls := #[sR b, sI (Int32.ofNat n), sR x]) (st := [(.ref x)]) (wK K 271 rfl) Via.refl Fv (by decide +kernel)
  refine oLift st2 ?_
  refine oGo W2 [.iload_n 1, .aload_n 0] (by decide +kernel) (ls' := #[sR b, sI (Int32.ofNat n), sR x]) (st' := [(.ref b), (.int (Int32.ofNat n)), (.ref t), (.ref x)]) rfl rfl (pc' := 12) rfl ?_
  obtain ⟨T3, W3, st3⟩ := oGetF W2 (pc := 12) (ls := #[sR b, sI (Int32.ofNat n), sR x]) (st := [(.int (Int32.ofNat n)), (.ref t), (.ref x)]) (wK K 273 rfl) Via.refl Fc (by decide +kernel)
  refine oLift st3 ?_
  obtain ⟨v4, T4, L4, h4, vm4, W4, ⟨rfl, K4, A4, S4⟩, C4, st4⟩ := oCallV W3 (idx := 399) (pc := 15) (ls := #[sR b, sI (Int32.ofNat n), sR x]) (st := []) (argsL := [(.ref t), (.int (Int32.ofNat n)), (.int 0)]) Xx (c_gby K hB hv16 F hn) (fun y hy => by cases List.mem_singleton.mp hy; exact ⟨At.lt, (C1.safe At.lt (S0 t (List.mem_singleton.mpr rfl)))⟩) (wK K 304 rfl) (wK K 305 rfl) (notFace_of_selects (args := #[]) (mvT W3.warm (wK K 307 rfl))) (wK K 307 rfl) (wK K 306 rfl) (wK K 11 rfl) (wK K 308 rfl) (by decide) (na := 3) rfl (by decide +kernel) rfl (stk := [(.int 0), (.int (Int32.ofNat n)), (.ref t), (.ref x)]) rfl (by decide +kernel) (V := 0) (lb rfl) (lb rfl) (lb rfl) (lb rfl) (lb rfl)
  refine oLift st4 ?_
  show OG _ _ _ _ _ _ _ _ _ _ _ (mkF m 18 #[sR b, sI (Int32.ofNat n), sR x] [])
  exact oRet0 W4 (by decide +kernel) (lb rfl) (lb rfl) (fun vm' hv => ⟨rfl, K4, A4, hv.safe A4.lt S4⟩)
abbrev rm_c_aap : Room := { frames := 3, cells := 0, slots := 0, locals := 69 }
set_option maxRecDepth 65536 in
set_option maxHeartbeats 40000000 in
theorem c_aap {l : Launch} {Z : State} {a0 : Array Value} {nb : Bool} (K : Ctx Z a0) {b t : Addr} {kt : ClassId} {vs : List Value} {n : Nat} {h0 : Heap} (hB : SBd Z h0 b t kt vs n) (hv16 : vs.length = 16) {x : Addr} {cs : List Int32} (F : Str Z h0 x cs) (hn : n + cs.length ≤ 16) (hfr : Z.heap.size ≤ b) :
    OC l Z EL nb [] (⟨"java/lang/AbstractStringBuilder", "append", "(Ljava/lang/String;)Ljava/lang/AbstractStringBuilder;"⟩ : MethodName) jdk_68_method_22_code 3 (some (.object "java/lang/AbstractStringBuilder")) rm_c_aap #[(.ref b), (.ref x)] h0 [t] (fun v vm h => v = some (.ref b) ∧ Keep h0 h [b, t] ∧ SBd Z h b t kt (cpy vs (byt cs) 0 n cs.length) (n + cs.length) ∧ Safe Z EL vm h t) := by
  have hw := K.1
  have hS : ∀ a ∈ Bundle.stringAtoms, a.before a0 Z = true := K.2.2.1
  obtain ⟨X, Fv, Fc, Fn, At, hzt, htb⟩ := id hB
  obtain ⟨u, ku, Xx, Fxc, Fxv, Ax, Px⟩ := id F
  refine oEnter (by decide +kernel) K.2.1.2.1 ?_
  intro _p _e _s m _below _meth _c T0 W0 S0
  refine oEq (g' := mkF m 0 #[.val (.ref b), .val (.ref x), .unset] []) (by first | (simp [entryFrame, mkF, argsToLocals, Value.category]; done) | rfl) ?_
  refine oGo W0 [.aload_n 1] (by decide +kernel) (ls' := #[sR b, sR x, sU]) (st' := [(.ref x)]) rfl rfl (pc' := 1) rfl ?_
  refine oNnT W0 (o := 8) (by decide +kernel) (pc' := 9) (by decide) (by decide) ?_
  refine oGo W0 [.aload_n 1] (by decide +kernel) (ls' := #[sR b, sR x, sU]) (st' := [(.ref x)]) rfl rfl (pc' := 10) rfl ?_
  obtain ⟨v1, T1, L1, h1, vm1, W1, ⟨rfl, e1⟩, C1, st1⟩ := oCallV W0 (idx := 32) (pc := 10) (ls := #[sR b, sR x, sU]) (st := []) (argsL := []) Xx (c_len K F) (fun x hx => nomatch hx) (wK K 285 rfl) (wK K 73 rfl) (notFace_of_selects (args := #[]) (mvT W0.warm (wK K 75 rfl))) (wK K 75 rfl) (wK K 74 rfl) (wK K 11 rfl) (wK K 76 rfl) (by decide) (na := 0) rfl (by decide +kernel) rfl (stk := [(.ref x)]) rfl (by decide +kernel) (V := 0) (lb rfl) (lb rfl) (lb rfl) (lb rfl) (lb rfl)
  refine oLift st1 ?_
  rw [e1] at W1 C1
  show OG _ _ _ _ _ _ _ _ _ _ _ (mkF m 13 #[sR b, sR x, sU] [(.int (Int32.ofNat cs.length))])
  refine oGo W1 [.istore_n 2, .aload_n 0, .aload_n 0] (by decide +kernel) (ls' := #[sR b, sR x, sI (Int32.ofNat cs.length)]) (st' := [(.ref b), (.ref b)]) rfl rfl (pc' := 16) rfl ?_
  obtain ⟨T2, W2, st2⟩ := oGetF W1 (pc := 16) (ls := #[sR b, sR x, sI (Int32.ofNat cs.length)]) (st := [(.ref b)]) (wK K 286 rfl) Via.refl Fn (by decide +kernel)
  refine oLift st2 ?_
  refine oGo W2 [.iload_n 2, .iadd] (by decide +kernel) (ls' := #[sR b, sR x, sI (Int32.ofNat cs.length)]) (st' := [(.int ((Int32.ofNat n) + (Int32.ofNat cs.length))), (.ref b)]) rfl rfl (pc' := 21) rfl ?_
  rw [add_n]
  obtain ⟨v3, T3, L3, h3, vm3, W3, ⟨rfl, e3⟩, C3, st3⟩ := oCallV W2 (idx := 100) (pc := 21) (ls := #[sR b, sR x, sI (Int32.ofNat cs.length)]) (st := []) (argsL := [(.int (Int32.ofNat (n + cs.length)))]) X (c_eci K hB hv16 hn) (fun x hx => nomatch hx) (wK K 288 rfl) (own_decl (wK K 289 rfl) (wK K 292 rfl)) (notFace_of_selects (args := #[]) (mvT W2.warm (wK K 291 rfl))) (wK K 291 rfl) (wK K 289 rfl) (wK K 267 rfl) (wK K 292 rfl) (by decide) (na := 1) rfl (by decide +kernel) rfl (stk := [(.int (Int32.ofNat (n + cs.length))), (.ref b)]) rfl (by decide +kernel) (V := 0) (lb rfl) (lb rfl) (lb rfl) (lb rfl) (lb rfl)
  refine oLift st3 ?_
  rw [e3] at W3 C3
  show OG _ _ _ _ _ _ _ _ _ _ _ (mkF m 24 #[sR b, sR x, sI (Int32.ofNat cs.length)] [])
  refine oGo W3 [.aload_n 0, .aload_n 0] (by decide +kernel) (ls' := #[sR b, sR x, sI (Int32.ofNat cs.length)]) (st' := [(.ref b), (.ref b)]) rfl rfl (pc' := 26) rfl ?_
  obtain ⟨T4, W4, st4⟩ := oGetF W3 (pc := 26) (ls := #[sR b, sR x, sI (Int32.ofNat cs.length)]) (st := [(.ref b)]) (wK K 286 rfl) Via.refl Fn (by decide +kernel)
  refine oLift st4 ?_
  refine oGo W4 [.aload_n 1] (by decide +kernel) (ls' := #[sR b, sR x, sI (Int32.ofNat cs.length)]) (st' := [(.ref x), (.int (Int32.ofNat n)), (.ref b)]) rfl rfl (pc' := 30) rfl ?_
  obtain ⟨v5, T5, L5, h5, vm5, W5, ⟨rfl, K5, A5, S5⟩, C5, st5⟩ := oCallV W4 (idx := 208) (pc := 30) (ls := #[sR b, sR x, sI (Int32.ofNat cs.length)]) (st := []) (argsL := [(.int (Int32.ofNat n)), (.ref x)]) X (c_psa K hB hv16 F hn) (fun y hy => by cases List.mem_singleton.mp hy; exact ⟨At.lt, (C3.safe At.lt (C1.safe At.lt (S0 t (List.mem_singleton.mpr rfl))))⟩) (wK K 293 rfl) (own_decl (wK K 294 rfl) (wK K 297 rfl)) (notFace_of_selects (args := #[]) (mvT W4.warm (wK K 296 rfl))) (wK K 296 rfl) (wK K 294 rfl) (wK K 267 rfl) (wK K 297 rfl) (by decide) (na := 2) rfl (by decide +kernel) rfl (stk := [(.ref x), (.int (Int32.ofNat n)), (.ref b)]) rfl (by decide +kernel) (V := 0) (lb rfl) (lb rfl) (lb rfl) (lb rfl) (lb rfl)
  refine oLift st5 ?_
  show OG _ _ _ _ _ _ _ _ _ _ _ (mkF m 33 #[sR b, sR x, sI (Int32.ofNat cs.length)] [])
  refine oGo W5 [.aload_n 0, .dup] (by decide +kernel) (ls' := #[sR b, sR x, sI (Int32.ofNat cs.length)]) (st' := [(.ref b), (.ref b)]) rfl rfl (pc' := 35) rfl ?_
  obtain ⟨T6, W6, st6⟩ := oGetF W5 (pc := 35) (ls := #[sR b, sR x, sI (Int32.ofNat cs.length)]) (st := [(.ref b)]) (wK K 286 rfl) Via.refl (Fn.keep K5 (ninS (Ne.symm htb) nin0)) (by decide +kernel)
  refine oLift st6 ?_
  refine oGo W6 [.iload_n 2, .iadd] (by decide +kernel) (ls' := #[sR b, sR x, sI (Int32.ofNat cs.length)]) (st' := [(.int ((Int32.ofNat n) + (Int32.ofNat cs.length))), (.ref b)]) rfl rfl (pc' := 40) rfl ?_
  rw [add_n]
  obtain ⟨T7, h7, W7, Wr7, F7, X7, C7, st7⟩ := oPutF W6 (idx := 79) (pc := 40) (ls := #[sR b, sR x, sI (Int32.ofNat cs.length)]) (st := []) (v := (.int (Int32.ofNat (n + cs.length)))) (wK K 286 rfl) Via.refl (Fn.keep K5 (ninS (Ne.symm htb) nin0)) (X.keep K5) (Or.inl (wK K 287 rfl)) (wK K 258 rfl) (ty := .int) (by decide) rfl rfl hfr (Safe.exa W6.warm.alike (X.keep K5) (by decide) (by decide)) (by decide +kernel)
  refine oLift st7 ?_
  refine oGo W7 [.aload_n 0] (by decide +kernel) (ls' := #[sR b, sR x, sI (Int32.ofNat cs.length)]) (st' := [(.ref b)]) rfl rfl (pc' := 44) rfl ?_
  exact oRetA rfl W7 rfl rfl (by decide +kernel) (lb rfl) (lb rfl) (fun vm' hv => ⟨rfl, (((Keep.refl _ [b, t]).trans K5 (fun y hy => Or.inl (List.mem_cons_of_mem _ hy))).wr Wr7 (Or.inl (List.mem_cons_self ..))), ⟨X7, ((Fv.keep K5 (ninS (Ne.symm htb) nin0)).other Wr7 (Or.inr (slot_ne (a0 := a0) (C := "java/lang/StringBuilder") (Or.inl (wK K 272 rfl)) (Or.inl (wK K 287 rfl)) (by decide) (t := (.array .byte)) (t' := .int) (by decide) (by decide)))), ((Fc.keep K5 (ninS (Ne.symm htb) nin0)).other Wr7 (Or.inr (slot_ne (a0 := a0) (C := "java/lang/StringBuilder") (Or.inl (wK K 274 rfl)) (Or.inl (wK K 287 rfl)) (by decide) (t := .byte) (t' := .int) (by decide) (by decide)))), F7, (A5.other Wr7 htb), hzt, htb⟩, hv.safe (A5.other Wr7 htb).lt (C7.safe A5.lt S5)⟩)
abbrev rm_c_sap : Room := { frames := 4, cells := 0, slots := 0, locals := 83 }
set_option maxRecDepth 65536 in
set_option maxHeartbeats 40000000 in
theorem c_sap {l : Launch} {Z : State} {a0 : Array Value} {nb : Bool} (K : Ctx Z a0) {b t : Addr} {kt : ClassId} {vs : List Value} {n : Nat} {h0 : Heap} (hB : SBd Z h0 b t kt vs n) (hv16 : vs.length = 16) {x : Addr} {cs : List Int32} (F : Str Z h0 x cs) (hn : n + cs.length ≤ 16) (hfr : Z.heap.size ≤ b) :
    OC l Z EL nb [] (⟨"java/lang/StringBuilder", "append", "(Ljava/lang/String;)Ljava/lang/StringBuilder;"⟩ : MethodName) jdk_67_method_7_code 2 (some (.object "java/lang/StringBuilder")) rm_c_sap #[(.ref b), (.ref x)] h0 [t] (fun v vm h => v = some (.ref b) ∧ Keep h0 h [b, t] ∧ SBd Z h b t kt (cpy vs (byt cs) 0 n cs.length) (n + cs.length) ∧ Safe Z EL vm h t) := by
  have hw := K.1
  have hS : ∀ a ∈ Bundle.stringAtoms, a.before a0 Z = true := K.2.2.1
  obtain ⟨X, Fv, Fc, Fn, At, hzt, htb⟩ := id hB
  refine oEnter (by decide +kernel) K.2.1.2.1 ?_
  intro _p _e _s m _below _meth _c T0 W0 S0
  refine oEq (g' := mkF m 0 #[.val (.ref b), .val (.ref x)] []) (by first | (simp [entryFrame, mkF, argsToLocals, Value.category]; done) | rfl) ?_
  refine oGo W0 [.aload_n 0, .aload_n 1] (by decide +kernel) (ls' := #[sR b, sR x]) (st' := [(.ref x), (.ref b)]) rfl rfl (pc' := 2) rfl ?_
  obtain ⟨v1, T1, L1, h1, vm1, W1, ⟨rfl, K1, B1, S1⟩, C1, st1⟩ := oCallU W0 (idx := 29) (pc := 2) (ls := #[sR b, sR x]) (st := []) (argsL := [(.ref x)]) (Ins.self X) (c_aap K hB hv16 F hn hfr) (fun y hy => by cases List.mem_singleton.mp hy; exact ⟨At.lt, S0 t (List.mem_singleton.mpr rfl)⟩) (wK K 280 rfl) (own_same (by decide) (wK K 283 rfl) (own_class (z := (⟨"java/lang/AbstractStringBuilder", "getValue", "()[B"⟩ : MethodName)) (wK K 326 rfl))) (wK K 281 rfl) (wK K 282 rfl) (by decide) (wK K 267 rfl) (wK K 284 rfl) (na := 1) rfl (by decide +kernel) rfl (stk := [(.ref x), (.ref b)]) rfl (by decide +kernel) (V := 0) (lb rfl) (lb rfl) (lb rfl) (lb rfl) (lb rfl)
  refine oLift st1 ?_
  show OG _ _ _ _ _ _ _ _ _ _ _ (mkF m 5 #[sR b, sR x] [(.ref b)])
  refine oGo W1 [.pop, .aload_n 0] (by decide +kernel) (ls' := #[sR b, sR x]) (st' := [(.ref b)]) rfl rfl (pc' := 7) rfl ?_
  exact oRetA rfl W1 rfl rfl (by decide +kernel) (lb rfl) (lb rfl) (fun vm' hv => ⟨rfl, K1, B1, hv.safe B1.2.2.2.2.1.lt S1⟩)
abbrev rm_c_gv : Room := { frames := 0, cells := 0, slots := 0, locals := 0 }
set_option maxRecDepth 65536 in
set_option maxHeartbeats 40000000 in
theorem c_gv {l : Launch} {Z : State} {a0 : Array Value} {nb : Bool} (K : Ctx Z a0) {b t : Addr} {kt : ClassId} {vs : List Value} {n : Nat} {h0 : Heap} (hB : SBd Z h0 b t kt vs n) :
    OC l Z EL nb [] (⟨"java/lang/AbstractStringBuilder", "getValue", "()[B"⟩ : MethodName) jdk_68_method_64_code 1 (some (.array .byte)) rm_c_gv #[(.ref b)] h0 [] (fun v _ h => v = some (.ref t) ∧ h = h0) := by
  have hw := K.1
  have hS : ∀ a ∈ Bundle.stringAtoms, a.before a0 Z = true := K.2.2.1
  obtain ⟨X, Fv, Fc, Fn, At, hzt, htb⟩ := id hB
  refine oEnter (by decide +kernel) K.2.1.2.1 ?_
  intro _p _e _s m _below _meth _c T0 W0 S0
  refine oEq (g' := mkF m 0 #[.val (.ref b)] []) (by first | (simp [entryFrame, mkF, argsToLocals, Value.category]; done) | rfl) ?_
  refine oGo W0 [.aload_n 0] (by decide +kernel) (ls' := #[sR b]) (st' := [(.ref b)]) rfl rfl (pc' := 1) rfl ?_
  obtain ⟨T1, W1, st1⟩ := oGetF W0 (pc := 1) (ls := #[sR b]) (st := []) (wK K 271 rfl) Via.refl Fv (by decide +kernel)
  refine oLift st1 ?_
  exact oRetA rfl W1 rfl rfl (by decide +kernel) (lb rfl) (lb rfl) (fun vm' hv => ⟨rfl, rfl⟩)
abbrev rm_c_asl : Room := { frames := 0, cells := 0, slots := 0, locals := 0 }
set_option maxRecDepth 65536 in
set_option maxHeartbeats 40000000 in
theorem c_asl {l : Launch} {Z : State} {a0 : Array Value} {nb : Bool} (K : Ctx Z a0) {b t : Addr} {kt : ClassId} {vs : List Value} {n : Nat} {h0 : Heap} (hB : SBd Z h0 b t kt vs n) :
    OC l Z EL nb [] (⟨"java/lang/AbstractStringBuilder", "length", "()I"⟩ : MethodName) jdk_68_method_6_code 1 (some .int) rm_c_asl #[(.ref b)] h0 [] (fun v _ h => v = some (.int (Int32.ofNat n)) ∧ h = h0) := by
  have hw := K.1
  have hS : ∀ a ∈ Bundle.stringAtoms, a.before a0 Z = true := K.2.2.1
  obtain ⟨X, Fv, Fc, Fn, At, hzt, htb⟩ := id hB
  refine oEnter (by decide +kernel) K.2.1.2.1 ?_
  intro _p _e _s m _below _meth _c T0 W0 S0
  refine oEq (g' := mkF m 0 #[.val (.ref b)] []) (by first | (simp [entryFrame, mkF, argsToLocals, Value.category]; done) | rfl) ?_
  refine oGo W0 [.aload_n 0] (by decide +kernel) (ls' := #[sR b]) (st' := [(.ref b)]) rfl rfl (pc' := 1) rfl ?_
  obtain ⟨T1, W1, st1⟩ := oGetF W0 (pc := 1) (ls := #[sR b]) (st := []) (wK K 286 rfl) Via.refl Fn (by decide +kernel)
  refine oLift st1 ?_
  exact oRetI W1 (by decide +kernel) (lb rfl) (lb rfl) (fun vm' hv => ⟨rfl, rfl⟩)
abbrev rm_c_sbl : Room := { frames := 1, cells := 0, slots := 0, locals := 12 }
set_option maxRecDepth 65536 in
set_option maxHeartbeats 40000000 in
theorem c_sbl {l : Launch} {Z : State} {a0 : Array Value} {nb : Bool} (K : Ctx Z a0) {b t : Addr} {kt : ClassId} {vs : List Value} {n : Nat} {h0 : Heap} (hB : SBd Z h0 b t kt vs n) :
    OC l Z EL nb [] (⟨"java/lang/StringBuilder", "length", "()I"⟩ : MethodName) jdk_67_method_93_code 1 (some .int) rm_c_sbl #[(.ref b)] h0 [] (fun v _ h => v = some (.int (Int32.ofNat n)) ∧ h = h0) := by
  have hw := K.1
  have hS : ∀ a ∈ Bundle.stringAtoms, a.before a0 Z = true := K.2.2.1
  obtain ⟨X, Fv, Fc, Fn, At, hzt, htb⟩ := id hB
  refine oEnter (by decide +kernel) K.2.1.2.1 ?_
  intro _p _e _s m _below _meth _c T0 W0 S0
  refine oEq (g' := mkF m 0 #[.val (.ref b)] []) (by first | (simp [entryFrame, mkF, argsToLocals, Value.category]; done) | rfl) ?_
  refine oGo W0 [.aload_n 0] (by decide +kernel) (ls' := #[sR b]) (st' := [(.ref b)]) rfl rfl (pc' := 1) rfl ?_
  obtain ⟨v1, T1, L1, h1, vm1, W1, ⟨rfl, e1⟩, C1, st1⟩ := oCallU W0 (idx := 343) (pc := 1) (ls := #[sR b]) (st := []) (argsL := []) (Ins.self X) (c_asl K hB) (fun x hx => nomatch hx) (wK K 334 rfl) (own_same (by decide) (wK K 329 rfl) (own_class (z := (⟨"java/lang/AbstractStringBuilder", "getValue", "()[B"⟩ : MethodName)) (wK K 326 rfl))) (wK K 330 rfl) (wK K 282 rfl) (by decide) (wK K 267 rfl) (wK K 335 rfl) (na := 0) rfl (by decide +kernel) rfl (stk := [(.ref b)]) rfl (by decide +kernel) (V := 0) (lb rfl) (lb rfl) (lb rfl) (lb rfl) (lb rfl)
  refine oLift st1 ?_
  rw [e1] at W1 C1
  show OG _ _ _ _ _ _ _ _ _ _ _ (mkF m 4 #[sR b] [(.int (Int32.ofNat n))])
  exact oRetI W1 (by decide +kernel) (lb rfl) (lb rfl) (fun vm' hv => ⟨rfl, rfl⟩)
abbrev rm_c_ail : Room := { frames := 0, cells := 0, slots := 0, locals := 0 }
set_option maxRecDepth 65536 in
set_option maxHeartbeats 40000000 in
theorem c_ail {l : Launch} {Z : State} {a0 : Array Value} {nb : Bool} (K : Ctx Z a0) {b t : Addr} {kt : ClassId} {vs : List Value} {n : Nat} {h0 : Heap} (hB : SBd Z h0 b t kt vs n) :
    OC l Z EL nb [] (⟨"java/lang/AbstractStringBuilder", "isLatin1", "()Z"⟩ : MethodName) jdk_68_method_68_code 1 (some .boolean) rm_c_ail #[(.ref b)] h0 [] (fun v _ h => v = some (.int 1) ∧ h = h0) := by
  have hw := K.1
  have hS : ∀ a ∈ Bundle.stringAtoms, a.before a0 Z = true := K.2.2.1
  obtain ⟨z, hz, hz0⟩ := K.2.1.2.2
  obtain ⟨X, Fv, Fc, Fn, At, hzt, htb⟩ := id hB
  refine oEnter (by decide +kernel) K.2.1.2.1 ?_
  intro _p _e _s m _below _meth _c T0 W0 S0
  refine oEq (g' := mkF m 0 #[.val (.ref b)] []) (by first | (simp [entryFrame, mkF, argsToLocals, Value.category]; done) | rfl) ?_
  obtain ⟨T1, W1, st1⟩ := oGetS W0 (pc := 0) (ls := #[sR b]) (st := []) (wK K 270 rfl) Via.refl (hz.ext W0.ext) (by decide +kernel)
  refine oLift st1 ?_
  refine oIfF W1 (cd := .eq) (o := 14) (by decide +kernel) (XT.i0_eq_f hz0) (pc' := 6) rfl ?_
  refine oGo W1 [.aload_n 0] (by decide +kernel) (ls' := #[sR b]) (st' := [(.ref b)]) rfl rfl (pc' := 7) rfl ?_
  obtain ⟨T2, W2, st2⟩ := oGetF W1 (pc := 7) (ls := #[sR b]) (st := []) (wK K 273 rfl) Via.refl Fc (by decide +kernel)
  refine oLift st2 ?_
  refine oIfF W2 (cd := .ne) (o := 7) (by decide +kernel) (XT.i0_ne_f (by decide)) (pc' := 13) rfl ?_
  refine oGo W2 [.iconst 1, .goto 4] (by decide +kernel) (ls' := #[sR b]) (st' := [(.int 1)]) rfl rfl (pc' := 18) rfl ?_
  exact oRetN (by simp) W2 rfl (by decide +kernel) (lb rfl) (lb rfl) (fun vm' hv => ⟨rfl, rfl⟩)
abbrev rm_c_i5 : Room := { frames := 3, cells := 1, slots := 32, locals := 71 }
set_option maxRecDepth 65536 in
set_option maxHeartbeats 40000000 in
theorem c_i5 {l : Launch} {Z : State} {a0 : Array Value} {nb : Bool} (K : Ctx Z a0) {b t : Addr} {kt : ClassId} {vs : List Value} {n : Nat} {h0 : Heap} (hB : SBd Z h0 b t kt vs n) (hv16 : vs.length = 16) (hn : n < 16) {cs : List Int32} (hcs : vs.take n = byt cs) (hp : ∀ c ∈ cs, ¬ c < 0 ∧ ¬ (255 : Int32) < c) {x : Addr} {q0 q1 : Value} (hxf : Z.heap.size ≤ x) (Ex : Exa Z h0 x "java/lang/String") (Fxc : Fld Z h0 x "java/lang/String" "coder" "B" q0) (Fxv : Fld Z h0 x "java/lang/String" "value" "[B" q1) :
    OC l Z EL nb [] (⟨"java/lang/String", "<init>", "(Ljava/lang/AbstractStringBuilder;Ljava/lang/Void;)V"⟩ : MethodName) jdk_42_method_150_code 5 none rm_c_i5 #[(.ref x), (.ref b), (.null)] h0 [x] (fun v _ h => v = none ∧ Keep h0 h [x] ∧ Str Z h x cs) := by
  have hw := K.1
  have hS : ∀ a ∈ Bundle.stringAtoms, a.before a0 Z = true := K.2.2.1
  obtain ⟨X, Fv, Fc, Fn, At, hzt, htb⟩ := id hB
  refine oEnter (by decide +kernel) K.2.1.2.1 ?_
  intro _p _e _s m _below _meth _c T0 W0 S0
  refine oEq (g' := mkF m 0 #[.val (.ref x), .val (.ref b), .val (.null), .unset, .unset] []) (by first | (simp [entryFrame, mkF, argsToLocals, Value.category]; done) | rfl) ?_
  have htx : t ≠ x := OA.ne At Ex (wK K 10 rfl)
  refine oGo W0 [.aload_n 0] (by decide +kernel) (ls' := #[sR x, sR b, .val (.null), sU, sU]) (st' := [(.ref x)]) rfl rfl (pc' := 1) rfl ?_
  obtain ⟨T1, W1, st1⟩ := oInit W0 (idx := 1) (pc := 1) (ls := #[sR x, sR b, .val (.null), sU, sU]) (st := []) (a := x) (wK K 19 rfl) (wK K 20 rfl) (wK K 21 rfl) rfl (by decide +kernel) (lb rfl) (V := 0) (lb rfl) (lb rfl)
  refine oLift st1 ?_
  refine oGo W1 [.aload_n 1] (by decide +kernel) (ls' := #[sR x, sR b, .val (.null), sU, sU]) (st' := [(.ref b)]) rfl rfl (pc' := 5) rfl ?_
  obtain ⟨v2, T2, L2, h2, vm2, W2, ⟨rfl, e2⟩, C2, st2⟩ := oCallV W1 (idx := 552) (pc := 5) (ls := #[sR x, sR b, .val (.null), sU, sU]) (st := []) (argsL := []) X (c_gv K hB) (fun x hx => nomatch hx) (wK K 323 rfl) (wK K 324 rfl) (notFace_of_selects (args := #[]) (mvT W1.warm (wK K 326 rfl))) (wK K 326 rfl) (wK K 325 rfl) (wK K 267 rfl) (wK K 327 rfl) (by decide) (na := 0) rfl (by decide +kernel) rfl (stk := [(.ref b)]) rfl (by decide +kernel) (V := 0) (lb rfl) (lb rfl) (lb rfl) (lb rfl) (lb rfl)
  refine oLift st2 ?_
  rw [e2] at W2 C2
  show OG _ _ _ _ _ _ _ _ _ _ _ (mkF m 8 #[sR x, sR b, .val (.null), sU, sU] [(.ref t)])
  refine oGo W2 [.astore_n 3, .aload_n 1] (by decide +kernel) (ls' := #[sR x, sR b, .val (.null), sR t, sU]) (st' := [(.ref b)]) rfl rfl (pc' := 10) rfl ?_
  obtain ⟨v3, T3, L3, h3, vm3, W3, ⟨rfl, e3⟩, C3, st3⟩ := oCallV W2 (idx := 549) (pc := 10) (ls := #[sR x, sR b, .val (.null), sR t, sU]) (st := []) (argsL := []) X (c_sbl K hB) (fun x hx => nomatch hx) (wK K 328 rfl) (wK K 329 rfl) (own_nf (own_class (z := (⟨"java/lang/AbstractStringBuilder", "getValue", "()[B"⟩ : MethodName)) (a0 := #[]) (mvT W2.warm (wK K 326 rfl)))) (wK K 331 rfl) (wK K 332 rfl) (wK K 259 rfl) (wK K 333 rfl) (by decide) (na := 0) rfl (by decide +kernel) rfl (stk := [(.ref b)]) rfl (by decide +kernel) (V := 0) (lb rfl) (lb rfl) (lb rfl) (lb rfl) (lb rfl)
  refine oLift st3 ?_
  rw [e3] at W3 C3
  show OG _ _ _ _ _ _ _ _ _ _ _ (mkF m 13 #[sR x, sR b, .val (.null), sR t, sU] [(.int (Int32.ofNat n))])
  refine oGo W3 [.istore 4, .aload_n 1] (by decide +kernel) (ls' := #[sR x, sR b, .val (.null), sR t, sI (Int32.ofNat n)]) (st' := [(.ref b)]) rfl rfl (pc' := 16) rfl ?_
  obtain ⟨v4, T4, L4, h4, vm4, W4, ⟨rfl, e4⟩, C4, st4⟩ := oCallV W3 (idx := 1047) (pc := 16) (ls := #[sR x, sR b, .val (.null), sR t, sI (Int32.ofNat n)]) (st := []) (argsL := []) X (c_ail K hB) (fun x hx => nomatch hx) (wK K 336 rfl) (wK K 337 rfl) (notFace_of_selects (args := #[]) (mvT W3.warm (wK K 339 rfl))) (wK K 339 rfl) (wK K 338 rfl) (wK K 267 rfl) (wK K 340 rfl) (by decide) (na := 0) rfl (by decide +kernel) rfl (stk := [(.ref b)]) rfl (by decide +kernel) (V := 0) (lb rfl) (lb rfl) (lb rfl) (lb rfl) (lb rfl)
  refine oLift st4 ?_
  rw [e4] at W4 C4
  show OG _ _ _ _ _ _ _ _ _ _ _ (mkF m 19 #[sR x, sR b, .val (.null), sR t, sI (Int32.ofNat n)] [(.int 1)])
  refine oIfF W4 (cd := .eq) (o := 22) (by decide +kernel) (XT.i0_eq_f (by decide)) (pc' := 22) rfl ?_
  refine oGo W4 [.aload_n 0, .iconst 0] (by decide +kernel) (ls' := #[sR x, sR b, .val (.null), sR t, sI (Int32.ofNat n)]) (st' := [(.int 0), (.ref x)]) rfl rfl (pc' := 24) rfl ?_
  obtain ⟨T5, h5, W5, Wr5, F5, X5, C5, st5⟩ := oPutF W4 (idx := 15) (pc := 24) (ls := #[sR x, sR b, .val (.null), sR t, sI (Int32.ofNat n)]) (st := []) (v := (.int 0)) (wK K 34 rfl) Via.refl Fxc Ex (Or.inr ⟨(wK K 35 rfl), rfl, rfl⟩) (wK K 10 rfl) (ty := .byte) (by decide) rfl rfl hxf (C4.safe Ex.lt (C3.safe Ex.lt (C2.safe Ex.lt (S0 x (List.mem_singleton.mpr rfl))))) (by decide +kernel)
  refine oLift st5 ?_
  refine oGo W5 [.aload_n 0, .aload_n 3, .iconst 0, .iload 4] (by decide +kernel) (ls' := #[sR x, sR b, .val (.null), sR t, sI (Int32.ofNat n)]) (st' := [(.int (Int32.ofNat n)), (.int 0), (.ref t), (.ref x)]) rfl rfl (pc' := 32) rfl ?_
  obtain ⟨v6, T6, L6, h6, vm6, W6, ⟨d, kd, rfl, g6, E6, B6⟩, C6, st6⟩ := oCallS W5 (idx := 54) (pc := 32) (ls := #[sR x, sR b, .val (.null), sR t, sI (Int32.ofNat n)]) (st := [(.ref x)]) (argsL := [(.ref t), (.int 0), (.int (Int32.ofNat n))]) (c_cr K (o := 0) (e := n) (At.other Wr5 htx) (by omega) (by omega) (by omega) (fun _ => by omega)) (fun x hx => nomatch hx) (wK K 341 rfl) (wK K 145 rfl) (wK K 146 rfl) (wK K 147 rfl) (by decide) (na := 3) rfl (by decide +kernel) rfl (stk := [(.int (Int32.ofNat n)), (.int 0), (.ref t), (.ref x)]) rfl (by decide +kernel) (V := 1) (lb rfl) (lb rfl) (lb rfl) (lb rfl) (lb rfl)
  refine oLift st6 ?_
  show OG _ _ _ _ _ _ _ _ _ _ _ (mkF m 35 #[sR x, sR b, .val (.null), sR t, sI (Int32.ofNat n)] [(.ref d), (.ref x)])
  have hdx : d ≠ x := Nat.ne_of_gt (Nat.lt_of_lt_of_le X5.lt g6)
  have Bd : OA Z h6 d kd .byte (byt cs) := by have q := B6; rw [List.drop_zero, Nat.sub_zero, hcs] at q; exact q
  obtain ⟨T7, h7, W7, Wr7, F7, X7, C7, st7⟩ := oPutF W6 (idx := 9) (pc := 35) (ls := #[sR x, sR b, .val (.null), sR t, sI (Int32.ofNat n)]) (st := []) (v := (.ref d)) (wK K 36 rfl) Via.refl ((Fxv.other Wr5 (Or.inr (slot_ne (a0 := a0) (C := "java/lang/String") (Or.inr (wK K 37 rfl)) (Or.inr (wK K 35 rfl)) (by decide) (t := (.array .byte)) (t' := .byte) (by decide) (by decide)))).ext E6) (X5.ext E6) (Or.inr ⟨(wK K 37 rfl), rfl, rfl⟩) (wK K 10 rfl) (ty := (.array .byte)) (by decide) rfl rfl hxf (C6.safe X5.lt (C5.safe Ex.lt (C4.safe Ex.lt (C3.safe Ex.lt (C2.safe Ex.lt (S0 x (List.mem_singleton.mpr rfl))))))) (by decide +kernel)
  refine oLift st7 ?_
  refine oGo W7 [.goto 59] (by decide +kernel) (ls' := #[sR x, sR b, .val (.null), sR t, sI (Int32.ofNat n)]) (st' := []) rfl rfl (pc' := 97) rfl ?_
  exact oRet0 W7 (by decide +kernel) (lb rfl) (lb rfl) (fun vm' hv => ⟨rfl, ((((Keep.refl _ [x]).wr Wr5 (Or.inl (List.mem_singleton.mpr rfl))).ext E6).wr Wr7 (Or.inl (List.mem_singleton.mpr rfl))), d, kd, X7, ((F5.ext E6).other Wr7 (Or.inr (slot_ne (a0 := a0) (C := "java/lang/String") (Or.inr (wK K 35 rfl)) (Or.inr (wK K 37 rfl)) (by decide) (t := .byte) (t' := (.array .byte)) (by decide) (by decide)))), F7, (Bd.other Wr7 hdx), hp⟩)
abbrev rm_c_i6 : Room := { frames := 4, cells := 1, slots := 32, locals := 87 }
set_option maxRecDepth 65536 in
set_option maxHeartbeats 40000000 in
theorem c_i6 {l : Launch} {Z : State} {a0 : Array Value} {nb : Bool} (K : Ctx Z a0) {b t : Addr} {kt : ClassId} {vs : List Value} {n : Nat} {h0 : Heap} (hB : SBd Z h0 b t kt vs n) (hv16 : vs.length = 16) (hn : n < 16) {cs : List Int32} (hcs : vs.take n = byt cs) (hp : ∀ c ∈ cs, ¬ c < 0 ∧ ¬ (255 : Int32) < c) {x : Addr} {q0 q1 : Value} (hxf : Z.heap.size ≤ x) (Ex : Exa Z h0 x "java/lang/String") (Fxc : Fld Z h0 x "java/lang/String" "coder" "B" q0) (Fxv : Fld Z h0 x "java/lang/String" "value" "[B" q1) :
    OC l Z EL nb [] (⟨"java/lang/String", "<init>", "(Ljava/lang/StringBuilder;)V"⟩ : MethodName) jdk_42_method_53_code 2 none rm_c_i6 #[(.ref x), (.ref b)] h0 [x] (fun v _ h => v = none ∧ Keep h0 h [x] ∧ Str Z h x cs) := by
  have hw := K.1
  have hS : ∀ a ∈ Bundle.stringAtoms, a.before a0 Z = true := K.2.2.1
  refine oEnter (by decide +kernel) K.2.1.2.1 ?_
  intro _p _e _s m _below _meth _c T0 W0 S0
  refine oEq (g' := mkF m 0 #[.val (.ref x), .val (.ref b)] []) (by first | (simp [entryFrame, mkF, argsToLocals, Value.category]; done) | rfl) ?_
  refine oGo W0 [.aload_n 0, .aload_n 1, .aconst_null] (by decide +kernel) (ls' := #[sR x, sR b]) (st' := [(.null), (.ref b), (.ref x)]) rfl rfl (pc' := 3) rfl ?_
  obtain ⟨v1, T1, L1, h1, vm1, W1, ⟨rfl, K1, F1⟩, C1, st1⟩ := oCallN W0 (idx := 489) (pc := 3) (ls := #[sR x, sR b]) (st := []) (a := x) (argsL := [(.ref b), (.null)]) (c_i5 K hB hv16 hn hcs hp hxf Ex Fxc Fxv) (fun y hy => by cases List.mem_singleton.mp hy; exact ⟨Ex.lt, S0 x (List.mem_singleton.mpr rfl)⟩) rfl (wK K 320 rfl) (wK K 321 rfl) (wK K 11 rfl) (wK K 322 rfl) (by decide) (na := 2) rfl (by decide +kernel) rfl (stk := [(.null), (.ref b), (.ref x)]) rfl (by decide +kernel) (V := 0) (lb rfl) (lb rfl) (lb rfl) (lb rfl) (lb rfl)
  refine oLift st1 ?_
  show OG _ _ _ _ _ _ _ _ _ _ _ (mkF m 6 #[sR x, sR b] [])
  exact oRet0 W1 (by decide +kernel) (lb rfl) (lb rfl) (fun vm' hv => ⟨rfl, K1, F1⟩)
abbrev rm_c_tos : Room := { frames := 5, cells := 2, slots := 36, locals := 101 }
set_option maxRecDepth 65536 in
set_option maxHeartbeats 40000000 in
theorem c_tos {l : Launch} {Z : State} {a0 : Array Value} {nb : Bool} (K : Ctx Z a0) {b t : Addr} {kt : ClassId} {vs : List Value} {n : Nat} {h0 : Heap} (hB : SBd Z h0 b t kt vs n) (hv16 : vs.length = 16) (hn : n < 16) {cs : List Int32} (hcs : vs.take n = byt cs) (hp : ∀ c ∈ cs, ¬ c < 0 ∧ ¬ (255 : Int32) < c) :
    OC l Z EL nb [] (⟨"java/lang/StringBuilder", "toString", "()Ljava/lang/String;"⟩ : MethodName) jdk_67_method_42_code 1 (some (.object "java/lang/String")) rm_c_tos #[(.ref b)] h0 [] (fun v _ h => ∃ x, v = some (.ref x) ∧ Str Z h x cs ∧ Ext h0 h) := by
  have hw := K.1
  have hS : ∀ a ∈ Bundle.stringAtoms, a.before a0 Z = true := K.2.2.1
  obtain ⟨X, Fv, Fc, Fn, At, hzt, htb⟩ := id hB
  refine oEnter (by decide +kernel) K.2.1.2.1 ?_
  intro _p _e _s m _below _meth _c T0 W0 S0
  refine oEq (g' := mkF m 0 #[.val (.ref b)] []) (by first | (simp [entryFrame, mkF, argsToLocals, Value.category]; done) | rfl) ?_
  obtain ⟨T1, h1, x, W1, g1, E1, A1, D1, S1, C1, st1⟩ := oNew W0 (pc := 0) (ls := #[sR b]) (st := []) (wK K 316 rfl) (wK K 10 rfl) (wK K 11 rfl) (by decide +kernel) (lb rfl) (lb rfl)
  refine oLift st1 ?_
  refine oGo W1 [.dup, .aload_n 0] (by decide +kernel) (ls' := #[sR b]) (st' := [(.ref b), (.ref x), (.ref x)]) rfl rfl (pc' := 5) rfl ?_
  have hB1 : SBd Z h1 b t kt vs n := ⟨X.ext E1, Fv.ext E1, Fc.ext E1, Fn.ext E1, At.ext E1, hzt, htb⟩
  obtain ⟨v2, T2, L2, h2, vm2, W2, ⟨rfl, K2, F2⟩, C2, st2⟩ := oCallN W1 (idx := 137) (pc := 5) (ls := #[sR b]) (st := [(.ref x)]) (a := x) (argsL := [(.ref b)]) (c_i6 K hB1 hv16 hn hcs hp (Nat.le_trans W0.ext.1 g1) A1 (D1 (Or.inr (wK K 35 rfl)) (ty := .byte) (by decide)) (D1 (Or.inr (wK K 37 rfl)) (ty := (.array .byte)) (by decide))) (fun y hy => by cases List.mem_singleton.mp hy; exact ⟨A1.lt, S1⟩) rfl (wK K 317 rfl) (wK K 318 rfl) (wK K 11 rfl) (wK K 319 rfl) (by decide) (na := 1) rfl (by decide +kernel) rfl (stk := [(.ref b), (.ref x), (.ref x)]) rfl (by decide +kernel) (V := 1) (lb rfl) (lb rfl) (lb rfl) (lb rfl) (lb rfl)
  refine oLift st2 ?_
  show OG _ _ _ _ _ _ _ _ _ _ _ (mkF m 8 #[sR b] [(.ref x)])
  exact oRetA rfl W2 rfl rfl (by decide +kernel) (lb rfl) (lb rfl) (fun vm' hv => ⟨x, rfl, F2, exK E1 K2 (fun y hy => by cases List.mem_singleton.mp hy; exact g1)⟩)
def ixf : List Int32 → Int32 → Nat → Int32
  | [], _, _ => -1
  | d :: ds, c, i => if d = c then Int32.ofNat i else ixf ds c (i + 1)
abbrev rm_c_ce : Room := { frames := 0, cells := 0, slots := 0, locals := 0 }
set_option maxRecDepth 65536 in
set_option maxHeartbeats 40000000 in
theorem c_ce {l : Launch} {Z : State} {a0 : Array Value} {nb : Bool} (K : Ctx Z a0) {c : Int32} {h0 : Heap} (hc : ¬ c < 0 ∧ ¬ (255 : Int32) < c) :
    OC l Z EL nb [] (⟨"java/lang/StringLatin1", "canEncode", "(I)Z"⟩ : MethodName) jdk_43_method_4_code 1 (some .boolean) rm_c_ce #[(.int c)] h0 [] (fun v _ h => v = some (.int 1) ∧ h = h0) := by
  have hw := K.1
  have hS : ∀ a ∈ Bundle.stringAtoms, a.before a0 Z = true := K.2.2.1
  refine oEnter (by decide +kernel) K.2.1.2.1 ?_
  intro _p _e _s m _below _meth _c T0 W0 S0
  refine oEq (g' := mkF m 0 #[.val (.int c)] []) (by first | (simp [entryFrame, mkF, argsToLocals, Value.category]; done) | rfl) ?_
  refine oGo W0 [.iload_n 0] (by decide +kernel) (ls' := #[sI c]) (st' := [(.int c)]) rfl rfl (pc' := 1) rfl ?_
  refine oIfF W0 (cd := .lt) (o := 14) (by decide +kernel) (XT.i0_lt_f hc.1) (pc' := 4) rfl ?_
  refine oGo W0 [.iload_n 0, .sipush 255] (by decide +kernel) (ls' := #[sI c]) (st' := [(.int 255), (.int c)]) rfl rfl (pc' := 8) rfl ?_
  refine oIcF W0 (cd := .gt) (o := 7) (by decide +kernel) (XT.ii_gt_f hc.2) (pc' := 11) rfl ?_
  refine oGo W0 [.iconst 1, .goto 4] (by decide +kernel) (ls' := #[sI c]) (st' := [(.int 1)]) rfl rfl (pc' := 16) rfl ?_
  exact oRetN (by simp) W0 rfl (by decide +kernel) (lb rfl) (lb rfl) (fun vm' hv => ⟨rfl, rfl⟩)
abbrev rm_c_mx0 : Room := { frames := 0, cells := 0, slots := 0, locals := 0 }
set_option maxRecDepth 65536 in
set_option maxHeartbeats 40000000 in
theorem c_mx0 {l : Launch} {Z : State} {a0 : Array Value} {nb : Bool} (K : Ctx Z a0) {h0 : Heap} :
    OC l Z EL nb [] (⟨"java/lang/Math", "max", "(II)I"⟩ : MethodName) jdk_29_method_65_code 2 (some .int) rm_c_mx0 #[(.int 0), (.int 0)] h0 [] (fun v _ h => v = some (.int 0) ∧ h = h0) := by
  have hw := K.1
  have hS : ∀ a ∈ Bundle.stringAtoms, a.before a0 Z = true := K.2.2.1
  refine oEnter (by decide +kernel) K.2.1.2.1 ?_
  intro _p _e _s m _below _meth _c T0 W0 S0
  refine oEq (g' := mkF m 0 #[.val (.int 0), .val (.int 0)] []) (by first | (simp [entryFrame, mkF, argsToLocals, Value.category]; done) | rfl) ?_
  refine oGo W0 [.iload_n 0, .iload_n 1] (by decide +kernel) (ls' := #[sI 0, sI 0]) (st' := [(.int 0), (.int 0)]) rfl rfl (pc' := 2) rfl ?_
  refine oIcF W0 (cd := .lt) (o := 7) (by decide +kernel) (XT.ii_lt_f (by decide)) (pc' := 5) rfl ?_
  refine oGo W0 [.iload_n 0, .goto 4] (by decide +kernel) (ls' := #[sI 0, sI 0]) (st' := [(.int 0)]) rfl rfl (pc' := 10) rfl ?_
  exact oRetI W0 (by decide +kernel) (lb rfl) (lb rfl) (fun vm' hv => ⟨rfl, rfl⟩)
abbrev rm_c_ioc : Room := { frames := 0, cells := 0, slots := 0, locals := 0 }
set_option maxRecDepth 65536 in
set_option maxHeartbeats 40000000 in
theorem c_ioc_l {l : Launch} {Z : State} {a0 : Array Value} {nb : Bool} (K : Ctx Z a0) {t : Addr} {k : ClassId} {cs : List Int32} {c : Int32} {h0 : Heap} (A : OA Z h0 t k .byte (byt cs)) (P : ∀ d ∈ cs, ¬ d < 0 ∧ ¬ (255 : Int32) < d) (hl : cs.length ≤ 4000) (hc : ¬ c < 0 ∧ ¬ (255 : Int32) < c) {p : Program} {e : Env} {s : State} {m : MethodId} {args : Array Value} {below : List Frame} {meth : Method} {cc : Code} :
    ∀ (rest : List Int32) (i : Nat) {vm0 : Vm} {T0 : State} {lc : List Loc} (W0 : OW p l e rm_c_ioc s m args below meth cc Z a0 EL nb "java/lang/StringLatin1" jdk_43_method_23_code 6 (some .int) "indexOfChar" vm0 T0 lc 0 0 h0) (hr : cs.drop i = rest) (hi : i ≤ cs.length) (hq : ixf cs c 0 = ixf rest c i), OG p e below s Z EL nb (fun v _ h => v = some (.int (ixf cs c 0)) ∧ h = h0) rm_c_ioc.cells rm_c_ioc.slots T0 (mkF m 7 #[sR t, sI c, sI 0, sI (Int32.ofNat cs.length), sI (c.toInt8.toInt32), sI (Int32.ofNat i)] [])
  | [], i, vm0, T0, lc, W0, hr, hi, hq => by
    have hw := K.1
    refine oGo W0 [.iload 5, .iload_n 3] (by decide +kernel) (ls' := #[sR t, sI c, sI 0, sI (Int32.ofNat cs.length), sI (c.toInt8.toInt32), sI (Int32.ofNat i)]) (st' := [(.int (Int32.ofNat cs.length)), (.int (Int32.ofNat i))]) rfl rfl (pc' := 10) rfl ?_
    refine oIcT W0 (cd := .ge) (o := 21) (by decide +kernel) (XT.ii_ge_t (fun q => absurd ((n_lt (by omega) (by omega)).mp q) (by have := List.drop_eq_nil_iff.mp hr; omega))) (pc' := 31) (by decide) (by decide) ?_
    refine oGo W0 [.iconst (-1)] (by decide +kernel) (ls' := #[sR t, sI c, sI 0, sI (Int32.ofNat cs.length), sI (c.toInt8.toInt32), sI (Int32.ofNat i)]) (st' := [(.int (-1))]) rfl rfl (pc' := 32) rfl ?_
    exact oRetI W0 (by decide +kernel) (lb rfl) (lb rfl) (fun vm' hv => ⟨by rw [hq]; rfl, rfl⟩)
  | d :: rest, i, vm0, T0, lc, W0, hr, hi, hq => by
    have hw := K.1
    have hd : cs[i]? = some d := by have := congrArg (fun l => l[0]?) hr; simpa [List.getElem?_drop] using this
    have hr1 : cs.drop (i + 1) = rest := by have := congrArg List.tail hr; simpa [List.tail_drop] using this
    have hlt : i < cs.length := (List.getElem?_eq_some_iff.mp hd).1
    have hm := List.mem_of_getElem? hd
    refine oGo W0 [.iload 5, .iload_n 3] (by decide +kernel) (ls' := #[sR t, sI c, sI 0, sI (Int32.ofNat cs.length), sI (c.toInt8.toInt32), sI (Int32.ofNat i)]) (st' := [(.int (Int32.ofNat cs.length)), (.int (Int32.ofNat i))]) rfl rfl (pc' := 10) rfl ?_
    refine oIcF W0 (cd := .ge) (o := 21) (by decide +kernel) (XT.ii_ge_f ((n_lt (by omega) (by omega)).mpr hlt)) (pc' := 13) rfl ?_
    refine oGo W0 [.aload_n 0, .iload 5] (by decide +kernel) (ls' := #[sR t, sI c, sI 0, sI (Int32.ofNat cs.length), sI (c.toInt8.toInt32), sI (Int32.ofNat i)]) (st' := [(.int (Int32.ofNat i)), (.ref t)]) rfl rfl (pc' := 16) rfl ?_
    refine oGet W0 A (v := (.int (d.toInt8.toInt32))) (n_nn (by omega)) (by rw [n_cl (by omega), List.getElem?_map, hd]; rfl) (Or.inr (Or.inl ⟨rfl, rfl⟩)) (by decide +kernel) ?_
    refine oGo W0 [.iload 4] (by decide +kernel) (ls' := #[sR t, sI c, sI 0, sI (Int32.ofNat cs.length), sI (c.toInt8.toInt32), sI (Int32.ofNat i)]) (st' := [(.int (c.toInt8.toInt32)), (.int (d.toInt8.toInt32))]) rfl rfl (pc' := 19) rfl ?_
    by_cases hc101 : (d.toInt8.toInt32) = (c.toInt8.toInt32)
    · refine oIcF W0 (cd := .ne) (o := 6) (by decide +kernel) (XT.ii_ne_f hc101) (pc' := 22) rfl ?_
      refine oGo W0 [.iload 5] (by decide +kernel) (ls' := #[sR t, sI c, sI 0, sI (Int32.ofNat cs.length), sI (c.toInt8.toInt32), sI (Int32.ofNat i)]) (st' := [(.int (Int32.ofNat i))]) rfl rfl (pc' := 24) rfl ?_
      exact oRetI W0 (by decide +kernel) (lb rfl) (lb rfl) (fun vm' hv => ⟨by rw [hq, ixf, if_pos (lo8_inj (P d hm) hc hc101)], rfl⟩)
    refine oIcT W0 (cd := .ne) (o := 6) (by decide +kernel) (XT.ii_ne_t hc101) (pc' := 25) (by decide) (by decide) ?_
    refine oGo W0 [.iinc 5 1, .goto (-21)] (by decide +kernel) (ls' := #[sR t, sI c, sI 0, sI (Int32.ofNat cs.length), sI (c.toInt8.toInt32), sI ((Int32.ofNat i) + (1 : Int32))]) (st' := []) rfl rfl (pc' := 7) rfl ?_
    rw [n_in]
    exact c_ioc_l K A P hl hc rest (i + 1) W0 hr1 (by omega) (by rw [hq, ixf, if_neg (fun q => hc101 (by rw [q]))])
set_option maxRecDepth 65536 in
set_option maxHeartbeats 40000000 in
theorem c_ioc {l : Launch} {Z : State} {a0 : Array Value} {nb : Bool} (K : Ctx Z a0) {t : Addr} {k : ClassId} {cs : List Int32} {c : Int32} {h0 : Heap} (A : OA Z h0 t k .byte (byt cs)) (P : ∀ d ∈ cs, ¬ d < 0 ∧ ¬ (255 : Int32) < d) (hl : cs.length ≤ 4000) (hc : ¬ c < 0 ∧ ¬ (255 : Int32) < c) :
    OC l Z EL nb [] (⟨"java/lang/StringLatin1", "indexOfChar", "([BIII)I"⟩ : MethodName) jdk_43_method_23_code 6 (some .int) rm_c_ioc #[(.ref t), (.int c), (.int 0), (.int (Int32.ofNat cs.length))] h0 [] (fun v _ h => v = some (.int (ixf cs c 0)) ∧ h = h0) := by
  have hw := K.1
  have hS : ∀ a ∈ Bundle.stringAtoms, a.before a0 Z = true := K.2.2.1
  refine oEnter (by decide +kernel) K.2.1.2.1 ?_
  intro _p _e _s m _below _meth _c T0 W0 S0
  refine oEq (g' := mkF m 0 #[.val (.ref t), .val (.int c), .val (.int 0), .val (.int (Int32.ofNat cs.length)), .unset, .unset] []) (by first | (simp [entryFrame, mkF, argsToLocals, Value.category]; done) | rfl) ?_
  refine oGo W0 [.iload_n 1, .i2b, .istore 4, .iload_n 2, .istore 5] (by decide +kernel) (ls' := #[sR t, sI c, sI 0, sI (Int32.ofNat cs.length), sI (c.toInt8.toInt32), sI 0]) (st' := []) rfl rfl (pc' := 7) rfl ?_
  exact c_ioc_l K A P hl hc cs 0 W0 (by simp) (by omega) rfl
abbrev rm_c_lix : Room := { frames := 1, cells := 0, slots := 0, locals := 17 }
set_option maxRecDepth 65536 in
set_option maxHeartbeats 40000000 in
theorem c_lix {l : Launch} {Z : State} {a0 : Array Value} {nb : Bool} (K : Ctx Z a0) {t : Addr} {k : ClassId} {cs : List Int32} {c : Int32} {h0 : Heap} (A : OA Z h0 t k .byte (byt cs)) (P : ∀ d ∈ cs, ¬ d < 0 ∧ ¬ (255 : Int32) < d) (hl : cs.length ≤ 4000) (hc : ¬ c < 0 ∧ ¬ (255 : Int32) < c) (h1 : 0 < cs.length) :
    OC l Z EL nb [] (⟨"java/lang/StringLatin1", "indexOf", "([BIII)I"⟩ : MethodName) jdk_43_method_22_code 4 (some .int) rm_c_lix #[(.ref t), (.int c), (.int 0), (.int (Int32.ofNat cs.length))] h0 [] (fun v _ h => v = some (.int (ixf cs c 0)) ∧ h = h0) := by
  have hw := K.1
  have hS : ∀ a ∈ Bundle.stringAtoms, a.before a0 Z = true := K.2.2.1
  have hz1 := h1
  refine oEnter (by decide +kernel) K.2.1.2.1 ?_
  intro _p _e _s m _below _meth _c T0 W0 S0
  refine oEq (g' := mkF m 0 #[.val (.ref t), .val (.int c), .val (.int 0), .val (.int (Int32.ofNat cs.length))] []) (by first | (simp [entryFrame, mkF, argsToLocals, Value.category]; done) | rfl) ?_
  refine oGo W0 [.iload_n 1] (by decide +kernel) (ls' := #[sR t, sI c, sI 0, sI (Int32.ofNat cs.length)]) (st' := [(.int c)]) rfl rfl (pc' := 1) rfl ?_
  obtain ⟨v1, T1, L1, h1, vm1, W1, ⟨rfl, e1⟩, C1, st1⟩ := oCallS W0 (idx := 88) (pc := 1) (ls := #[sR t, sI c, sI 0, sI (Int32.ofNat cs.length)]) (st := []) (argsL := [(.int c)]) (c_ce K hc) (fun x hx => nomatch hx) (wK K 358 rfl) (wK K 359 rfl) (wK K 113 rfl) (wK K 360 rfl) (by decide) (na := 1) rfl (by decide +kernel) rfl (stk := [(.int c)]) rfl (by decide +kernel) (V := 0) (lb rfl) (lb rfl) (lb rfl) (lb rfl) (lb rfl)
  refine oLift st1 ?_
  rw [e1] at W1 C1
  show OG _ _ _ _ _ _ _ _ _ _ _ (mkF m 4 #[sR t, sI c, sI 0, sI (Int32.ofNat cs.length)] [(.int 1)])
  refine oIfT W1 (cd := .ne) (o := 5) (by decide +kernel) (XT.i0_ne_t (by decide)) (pc' := 9) (by decide) (by decide) ?_
  refine oGo W1 [.iload_n 2, .iconst 0] (by decide +kernel) (ls' := #[sR t, sI c, sI 0, sI (Int32.ofNat cs.length)]) (st' := [(.int 0), (.int 0)]) rfl rfl (pc' := 11) rfl ?_
  obtain ⟨v2, T2, L2, h2, vm2, W2, ⟨rfl, e2⟩, C2, st2⟩ := oCallS W1 (idx := 92) (pc := 11) (ls := #[sR t, sI c, sI 0, sI (Int32.ofNat cs.length)]) (st := []) (argsL := [(.int 0), (.int 0)]) (c_mx0 K) (fun x hx => nomatch hx) (wK K 361 rfl) (wK K 362 rfl) (wK K 156 rfl) (wK K 363 rfl) (by decide) (na := 2) rfl (by decide +kernel) rfl (stk := [(.int 0), (.int 0)]) rfl (by decide +kernel) (V := 0) (lb rfl) (lb rfl) (lb rfl) (lb rfl) (lb rfl)
  refine oLift st2 ?_
  rw [e2] at W2 C2
  show OG _ _ _ _ _ _ _ _ _ _ _ (mkF m 14 #[sR t, sI c, sI 0, sI (Int32.ofNat cs.length)] [(.int 0)])
  refine oGo W2 [.istore_n 2, .iload_n 3, .aload_n 0] (by decide +kernel) (ls' := #[sR t, sI c, sI 0, sI (Int32.ofNat cs.length)]) (st' := [(.ref t), (.int (Int32.ofNat cs.length))]) rfl rfl (pc' := 17) rfl ?_
  refine oLen W2 A (by decide +kernel) ?_
  rw [List.length_map]
  obtain ⟨v3, T3, L3, h3, vm3, W3, ⟨rfl, e3⟩, C3, st3⟩ := oCallS W2 (idx := 38) (pc := 18) (ls := #[sR t, sI c, sI 0, sI (Int32.ofNat cs.length)]) (st := []) (argsL := [(.int (Int32.ofNat cs.length)), (.int (Int32.ofNat cs.length))]) (c_min K hl (Nat.le_refl _)) (fun x hx => nomatch hx) (wK K 364 rfl) (wK K 155 rfl) (wK K 156 rfl) (wK K 157 rfl) (by decide) (na := 2) rfl (by decide +kernel) rfl (stk := [(.int (Int32.ofNat cs.length)), (.int (Int32.ofNat cs.length))]) rfl (by decide +kernel) (V := 0) (lb rfl) (lb rfl) (lb rfl) (lb rfl) (lb rfl)
  refine oLift st3 ?_
  rw [e3] at W3 C3
  show OG _ _ _ _ _ _ _ _ _ _ _ (mkF m 21 #[sR t, sI c, sI 0, sI (Int32.ofNat cs.length)] [(.int (Int32.ofNat cs.length))])
  refine oGo W3 [.istore_n 3, .iload_n 2, .iload_n 3] (by decide +kernel) (ls' := #[sR t, sI c, sI 0, sI (Int32.ofNat cs.length)]) (st' := [(.int (Int32.ofNat cs.length)), (.int 0)]) rfl rfl (pc' := 24) rfl ?_
  refine oIcT W3 (cd := .lt) (o := 5) (by decide +kernel) (XT.ii_lt_t ((n_lt (a := 0) (by omega) (by omega)).mpr hz1)) (pc' := 29) (by decide) (by decide) ?_
  refine oGo W3 [.aload_n 0, .iload_n 1, .iload_n 2, .iload_n 3] (by decide +kernel) (ls' := #[sR t, sI c, sI 0, sI (Int32.ofNat cs.length)]) (st' := [(.int (Int32.ofNat cs.length)), (.int 0), (.int c), (.ref t)]) rfl rfl (pc' := 33) rfl ?_
  obtain ⟨v4, T4, L4, h4, vm4, W4, ⟨rfl, e4⟩, C4, st4⟩ := oCallS W3 (idx := 95) (pc := 33) (ls := #[sR t, sI c, sI 0, sI (Int32.ofNat cs.length)]) (st := []) (argsL := [(.ref t), (.int c), (.int 0), (.int (Int32.ofNat cs.length))]) (c_ioc K A P hl hc) (fun x hx => nomatch hx) (wK K 365 rfl) (wK K 366 rfl) (wK K 113 rfl) (wK K 367 rfl) (by decide) (na := 4) rfl (by decide +kernel) rfl (stk := [(.int (Int32.ofNat cs.length)), (.int 0), (.int c), (.ref t)]) rfl (by decide +kernel) (V := 0) (lb rfl) (lb rfl) (lb rfl) (lb rfl) (lb rfl)
  refine oLift st4 ?_
  rw [e4] at W4 C4
  show OG _ _ _ _ _ _ _ _ _ _ _ (mkF m 36 #[sR t, sI c, sI 0, sI (Int32.ofNat cs.length)] [(.int (ixf cs c 0))])
  exact oRetI W4 (by decide +kernel) (lb rfl) (lb rfl) (fun vm' hv => ⟨rfl, rfl⟩)
abbrev rm_c_ix2 : Room := { frames := 2, cells := 0, slots := 0, locals := 32 }
set_option maxRecDepth 65536 in
set_option maxHeartbeats 40000000 in
theorem c_ix2 {l : Launch} {Z : State} {a0 : Array Value} {nb : Bool} (K : Ctx Z a0) {x : Addr} {cs : List Int32} {c : Int32} {h0 : Heap} (F : Str Z h0 x cs) (hl : cs.length ≤ 4000) (hp1 : 0 < cs.length) (hc : ¬ c < 0 ∧ ¬ (255 : Int32) < c) :
    OC l Z EL nb [] (⟨"java/lang/String", "indexOf", "(II)I"⟩ : MethodName) jdk_42_method_80_code 3 (some .int) rm_c_ix2 #[(.ref x), (.int c), (.int 0)] h0 [] (fun v _ h => v = some (.int (ixf cs c 0)) ∧ h = h0) := by
  have hw := K.1
  have hS : ∀ a ∈ Bundle.stringAtoms, a.before a0 Z = true := K.2.2.1
  obtain ⟨t, kt, X1, Fc, Fv, A, P⟩ := id F
  refine oEnter (by decide +kernel) K.2.1.2.1 ?_
  intro _p _e _s m _below _meth _c T0 W0 S0
  refine oEq (g' := mkF m 0 #[.val (.ref x), .val (.int c), .val (.int 0)] []) (by first | (simp [entryFrame, mkF, argsToLocals, Value.category]; done) | rfl) ?_
  refine oGo W0 [.aload_n 0] (by decide +kernel) (ls' := #[sR x, sI c, sI 0]) (st' := [(.ref x)]) rfl rfl (pc' := 1) rfl ?_
  obtain ⟨v1, T1, L1, h1, vm1, W1, ⟨rfl, e1⟩, C1, st1⟩ := oCallV W0 (idx := 492) (pc := 1) (ls := #[sR x, sI c, sI 0]) (st := []) (argsL := []) X1 (c_isl K Fc) (fun x hx => nomatch hx) (wK K 106 rfl) (wK K 107 rfl) (notFace_of_selects (args := #[]) (mvT W0.warm (wK K 109 rfl))) (wK K 109 rfl) (wK K 108 rfl) (wK K 11 rfl) (wK K 110 rfl) (by decide) (na := 0) rfl (by decide +kernel) rfl (stk := [(.ref x)]) rfl (by decide +kernel) (V := 0) (lb rfl) (lb rfl) (lb rfl) (lb rfl) (lb rfl)
  refine oLift st1 ?_
  rw [e1] at W1 C1
  show OG _ _ _ _ _ _ _ _ _ _ _ (mkF m 4 #[sR x, sI c, sI 0] [(.int 1)])
  refine oIfF W1 (cd := .eq) (o := 19) (by decide +kernel) (XT.i0_eq_f (by decide)) (pc' := 7) rfl ?_
  refine oGo W1 [.aload_n 0] (by decide +kernel) (ls' := #[sR x, sI c, sI 0]) (st' := [(.ref x)]) rfl rfl (pc' := 8) rfl ?_
  obtain ⟨T2, W2, st2⟩ := oGetF W1 (pc := 8) (ls := #[sR x, sI c, sI 0]) (st := []) (wK K 36 rfl) Via.refl Fv (by decide +kernel)
  refine oLift st2 ?_
  refine oGo W2 [.iload_n 1, .iload_n 2, .aload_n 0] (by decide +kernel) (ls' := #[sR x, sI c, sI 0]) (st' := [(.ref x), (.int 0), (.int c), (.ref t)]) rfl rfl (pc' := 14) rfl ?_
  obtain ⟨v3, T3, L3, h3, vm3, W3, ⟨rfl, e3⟩, C3, st3⟩ := oCallV W2 (idx := 505) (pc := 14) (ls := #[sR x, sI c, sI 0]) (st := [(.int 0), (.int c), (.ref t)]) (argsL := []) X1 (c_len K F) (fun x hx => nomatch hx) (wK K 72 rfl) (wK K 73 rfl) (notFace_of_selects (args := #[]) (mvT W2.warm (wK K 75 rfl))) (wK K 75 rfl) (wK K 74 rfl) (wK K 11 rfl) (wK K 76 rfl) (by decide) (na := 0) rfl (by decide +kernel) rfl (stk := [(.ref x), (.int 0), (.int c), (.ref t)]) rfl (by decide +kernel) (V := 3) (lb rfl) (lb rfl) (lb rfl) (lb rfl) (lb rfl)
  refine oLift st3 ?_
  rw [e3] at W3 C3
  show OG _ _ _ _ _ _ _ _ _ _ _ (mkF m 17 #[sR x, sI c, sI 0] [(.int (Int32.ofNat cs.length)), (.int 0), (.int c), (.ref t)])
  obtain ⟨v4, T4, L4, h4, vm4, W4, ⟨rfl, e4⟩, C4, st4⟩ := oCallS W3 (idx := 637) (pc := 17) (ls := #[sR x, sI c, sI 0]) (st := []) (argsL := [(.ref t), (.int c), (.int 0), (.int (Int32.ofNat cs.length))]) (c_lix K A P hl hc hp1) (fun x hx => nomatch hx) (wK K 355 rfl) (wK K 356 rfl) (wK K 113 rfl) (wK K 357 rfl) (by decide) (na := 4) rfl (by decide +kernel) rfl (stk := [(.int (Int32.ofNat cs.length)), (.int 0), (.int c), (.ref t)]) rfl (by decide +kernel) (V := 0) (lb rfl) (lb rfl) (lb rfl) (lb rfl) (lb rfl)
  refine oLift st4 ?_
  rw [e4] at W4 C4
  show OG _ _ _ _ _ _ _ _ _ _ _ (mkF m 20 #[sR x, sI c, sI 0] [(.int (ixf cs c 0))])
  refine oGo W4 [.goto 16] (by decide +kernel) (ls' := #[sR x, sI c, sI 0]) (st' := [(.int (ixf cs c 0))]) rfl rfl (pc' := 36) rfl ?_
  exact oRetI W4 (by decide +kernel) (lb rfl) (lb rfl) (fun vm' hv => ⟨rfl, rfl⟩)
abbrev rm_c_ix1 : Room := { frames := 3, cells := 0, slots := 0, locals := 46 }
set_option maxRecDepth 65536 in
set_option maxHeartbeats 40000000 in
theorem c_ix1 {l : Launch} {Z : State} {a0 : Array Value} {nb : Bool} (K : Ctx Z a0) {x : Addr} {cs : List Int32} {c : Int32} {h0 : Heap} (F : Str Z h0 x cs) (hl : cs.length ≤ 4000) (hp1 : 0 < cs.length) (hc : ¬ c < 0 ∧ ¬ (255 : Int32) < c) :
    OC l Z EL nb [] (⟨"java/lang/String", "indexOf", "(I)I"⟩ : MethodName) jdk_42_method_79_code 2 (some .int) rm_c_ix1 #[(.ref x), (.int c)] h0 [] (fun v _ h => v = some (.int (ixf cs c 0)) ∧ h = h0) := by
  have hw := K.1
  have hS : ∀ a ∈ Bundle.stringAtoms, a.before a0 Z = true := K.2.2.1
  refine oEnter (by decide +kernel) K.2.1.2.1 ?_
  intro _p _e _s m _below _meth _c T0 W0 S0
  refine oEq (g' := mkF m 0 #[.val (.ref x), .val (.int c)] []) (by first | (simp [entryFrame, mkF, argsToLocals, Value.category]; done) | rfl) ?_
  refine oGo W0 [.aload_n 0, .iload_n 1, .iconst 0] (by decide +kernel) (ls' := #[sR x, sI c]) (st' := [(.int 0), (.int c), (.ref x)]) rfl rfl (pc' := 3) rfl ?_
  obtain ⟨v1, T1, L1, h1, vm1, W1, ⟨rfl, e1⟩, C1, st1⟩ := oCallV W0 (idx := 633) (pc := 3) (ls := #[sR x, sI c]) (st := []) (argsL := [(.int c), (.int 0)]) F.exa (c_ix2 K F hl hp1 hc) (fun x hx => nomatch hx) (wK K 350 rfl) (wK K 351 rfl) (notFace_of_selects (args := #[]) (mvT W0.warm (wK K 353 rfl))) (wK K 353 rfl) (wK K 352 rfl) (wK K 11 rfl) (wK K 354 rfl) (by decide) (na := 2) rfl (by decide +kernel) rfl (stk := [(.int 0), (.int c), (.ref x)]) rfl (by decide +kernel) (V := 0) (lb rfl) (lb rfl) (lb rfl) (lb rfl) (lb rfl)
  refine oLift st1 ?_
  rw [e1] at W1 C1
  show OG _ _ _ _ _ _ _ _ _ _ _ (mkF m 6 #[sR x, sI c] [(.int (ixf cs c 0))])
  exact oRetI W1 (by decide +kernel) (lb rfl) (lb rfl) (fun vm' hv => ⟨rfl, rfl⟩)
def Alw (c : Int32) : Prop := (65 ≤ c.toInt ∧ c.toInt ≤ 90) ∨ (97 ≤ c.toInt ∧ c.toInt ≤ 122) ∨ (48 ≤ c.toInt ∧ c.toInt ≤ 57) ∨ c = 46 ∨ c = 95 ∨ c = 126 ∨ c = 45
theorem lt_lit {c k : Int32} (q : c.toInt < k.toInt) : c < k := Int32.lt_iff_toInt_lt.mpr q
theorem nlt_lit {c k : Int32} (q : k.toInt ≤ c.toInt) : ¬ c < k := fun r => absurd (Int32.lt_iff_toInt_lt.mp r) (by omega)
abbrev rm_c_isa : Room := { frames := 4, cells := 2, slots := 20, locals := 59 }
set_option maxRecDepth 65536 in
set_option maxHeartbeats 40000000 in
theorem c_isa {l : Launch} {Z : State} {a0 : Array Value} (K : Ctx Z a0) {c : Int32} {h0 : Heap} (hA : Alw c) :
    OC l Z EL false [] (⟨"com/example/gentle_hub/gentlehub/core/ChannelName", "isAllowed", "(C)Z"⟩ : MethodName) prog_1_method_2_code 1 (some .boolean) rm_c_isa #[(.int c)] h0 [] (fun v _ h => v = some (.int 1) ∧ Ext h0 h) := by
  have hw := K.1
  have hS : ∀ a ∈ Bundle.stringAtoms, a.before a0 Z = true := K.2.2.1
  refine oEnter (by decide +kernel) K.2.1.2.1 ?_
  intro _p _e _s m _below _meth _c T0 W0 S0
  refine oEq (g' := mkF m 0 #[.val (.int c)] []) (by first | (simp [entryFrame, mkF, argsToLocals, Value.category]; done) | rfl) ?_
  rcases hA with hA | hA | hA | rfl | rfl | rfl | rfl
  · refine oGo W0 [.iload_n 0, .bipush 65] (by decide +kernel) (ls' := #[sI c]) (st' := [(.int 65), (.int c)]) rfl rfl (pc' := 3) rfl ?_
    refine oIcF W0 (cd := .lt) (o := 9) (by decide +kernel) (XT.ii_lt_f (nlt_lit (Int.le_trans (by decide) hA.1))) (pc' := 6) rfl ?_
    refine oGo W0 [.iload_n 0, .bipush 90] (by decide +kernel) (ls' := #[sI c]) (st' := [(.int 90), (.int c)]) rfl rfl (pc' := 9) rfl ?_
    refine oIcT W0 (cd := .le) (o := 36) (by decide +kernel) (XT.ii_le_t (nlt_lit hA.2)) (pc' := 45) (by decide) (by decide) ?_
    refine oGo W0 [.iconst 1, .goto 4] (by decide +kernel) (ls' := #[sI c]) (st' := [(.int 1)]) rfl rfl (pc' := 50) rfl ?_
    exact oRetN (by simp) W0 rfl (by decide +kernel) (lb rfl) (lb rfl) (fun vm' hv => ⟨rfl, (exR _)⟩)
  · refine oGo W0 [.iload_n 0, .bipush 65] (by decide +kernel) (ls' := #[sI c]) (st' := [(.int 65), (.int c)]) rfl rfl (pc' := 3) rfl ?_
    refine oIcF W0 (cd := .lt) (o := 9) (by decide +kernel) (XT.ii_lt_f (nlt_lit (Int.le_trans (by decide) hA.1))) (pc' := 6) rfl ?_
    refine oGo W0 [.iload_n 0, .bipush 90] (by decide +kernel) (ls' := #[sI c]) (st' := [(.int 90), (.int c)]) rfl rfl (pc' := 9) rfl ?_
    refine oIcF W0 (cd := .le) (o := 36) (by decide +kernel) (XT.ii_le_f (lt_lit (Int.lt_of_lt_of_le (by decide) hA.1))) (pc' := 12) rfl ?_
    refine oGo W0 [.iload_n 0, .bipush 97] (by decide +kernel) (ls' := #[sI c]) (st' := [(.int 97), (.int c)]) rfl rfl (pc' := 15) rfl ?_
    refine oIcF W0 (cd := .lt) (o := 9) (by decide +kernel) (XT.ii_lt_f (nlt_lit (Int.le_trans (by decide) hA.1))) (pc' := 18) rfl ?_
    refine oGo W0 [.iload_n 0, .bipush 122] (by decide +kernel) (ls' := #[sI c]) (st' := [(.int 122), (.int c)]) rfl rfl (pc' := 21) rfl ?_
    refine oIcT W0 (cd := .le) (o := 24) (by decide +kernel) (XT.ii_le_t (nlt_lit hA.2)) (pc' := 45) (by decide) (by decide) ?_
    refine oGo W0 [.iconst 1, .goto 4] (by decide +kernel) (ls' := #[sI c]) (st' := [(.int 1)]) rfl rfl (pc' := 50) rfl ?_
    exact oRetN (by simp) W0 rfl (by decide +kernel) (lb rfl) (lb rfl) (fun vm' hv => ⟨rfl, (exR _)⟩)
  · refine oGo W0 [.iload_n 0, .bipush 65] (by decide +kernel) (ls' := #[sI c]) (st' := [(.int 65), (.int c)]) rfl rfl (pc' := 3) rfl ?_
    refine oIcT W0 (cd := .lt) (o := 9) (by decide +kernel) (XT.ii_lt_t (lt_lit (Int.lt_of_le_of_lt hA.2 (by decide)))) (pc' := 12) (by decide) (by decide) ?_
    refine oGo W0 [.iload_n 0, .bipush 97] (by decide +kernel) (ls' := #[sI c]) (st' := [(.int 97), (.int c)]) rfl rfl (pc' := 15) rfl ?_
    refine oIcT W0 (cd := .lt) (o := 9) (by decide +kernel) (XT.ii_lt_t (lt_lit (Int.lt_of_le_of_lt hA.2 (by decide)))) (pc' := 24) (by decide) (by decide) ?_
    refine oGo W0 [.iload_n 0, .bipush 48] (by decide +kernel) (ls' := #[sI c]) (st' := [(.int 48), (.int c)]) rfl rfl (pc' := 27) rfl ?_
    refine oIcF W0 (cd := .lt) (o := 9) (by decide +kernel) (XT.ii_lt_f (nlt_lit (Int.le_trans (by decide) hA.1))) (pc' := 30) rfl ?_
    refine oGo W0 [.iload_n 0, .bipush 57] (by decide +kernel) (ls' := #[sI c]) (st' := [(.int 57), (.int c)]) rfl rfl (pc' := 33) rfl ?_
    refine oIcT W0 (cd := .le) (o := 12) (by decide +kernel) (XT.ii_le_t (nlt_lit hA.2)) (pc' := 45) (by decide) (by decide) ?_
    refine oGo W0 [.iconst 1, .goto 4] (by decide +kernel) (ls' := #[sI c]) (st' := [(.int 1)]) rfl rfl (pc' := 50) rfl ?_
    exact oRetN (by simp) W0 rfl (by decide +kernel) (lb rfl) (lb rfl) (fun vm' hv => ⟨rfl, (exR _)⟩)
  · refine oGo W0 [.iload_n 0, .bipush 65] (by decide +kernel) (ls' := #[sI 46]) (st' := [(.int 65), (.int 46)]) rfl rfl (pc' := 3) rfl ?_
    refine oIcT W0 (cd := .lt) (o := 9) (by decide +kernel) (XT.ii_lt_t (by decide)) (pc' := 12) (by decide) (by decide) ?_
    refine oGo W0 [.iload_n 0, .bipush 97] (by decide +kernel) (ls' := #[sI 46]) (st' := [(.int 97), (.int 46)]) rfl rfl (pc' := 15) rfl ?_
    refine oIcT W0 (cd := .lt) (o := 9) (by decide +kernel) (XT.ii_lt_t (by decide)) (pc' := 24) (by decide) (by decide) ?_
    refine oGo W0 [.iload_n 0, .bipush 48] (by decide +kernel) (ls' := #[sI 46]) (st' := [(.int 48), (.int 46)]) rfl rfl (pc' := 27) rfl ?_
    refine oIcT W0 (cd := .lt) (o := 9) (by decide +kernel) (XT.ii_lt_t (by decide)) (pc' := 36) (by decide) (by decide) ?_
    obtain ⟨a1, b1, k1, T1, h1, vm1, W1, E1, C1, x1, c1, u1, A1, st1⟩ := oLdcC W0 (pc := 36) (ls := #[sI 46]) (st := []) (wK K 344 rfl) hS (by decide) (vs := (([46, 95, 126, 45] : List Int32).map fun c => Value.int c.toInt8.toInt32)) (z := 4) (by decide +kernel) (by decide) (by decide) (by decide +kernel) (n := 16) (lb rfl) (lb rfl) (lb rfl) (lb rfl)
    refine oLift st1 ?_
    have F1 : Str Z h1 a1 [46, 95, 126, 45] := ⟨b1, k1, x1, c1, u1, A1, by decide⟩
    refine oGo W1 [.iload_n 0] (by decide +kernel) (ls' := #[sI 46]) (st' := [(.int 46), (.ref a1)]) rfl rfl (pc' := 39) rfl ?_
    obtain ⟨v2, T2, L2, h2, vm2, W2, ⟨rfl, e2⟩, C2, st2⟩ := oCallV W1 (idx := 90) (pc := 39) (ls := #[sI 46]) (st := []) (argsL := [(.int 46)]) F1.exa (c_ix1 K F1 (by decide) (by decide) (by decide)) (fun x hx => nomatch hx) (wK K 345 rfl) (wK K 346 rfl) (notFace_of_selects (args := #[]) (mvT W1.warm (wK K 348 rfl))) (wK K 348 rfl) (wK K 347 rfl) (wK K 11 rfl) (wK K 349 rfl) (by decide) (na := 1) rfl (by decide +kernel) rfl (stk := [(.int 46), (.ref a1)]) rfl (by decide +kernel) (V := 0) (lb rfl) (lb rfl) (lb rfl) (lb rfl) (lb rfl)
    refine oLift st2 ?_
    rw [e2] at W2 C2
    show OG _ _ _ _ _ _ _ _ _ _ _ (mkF m 42 #[sI 46] [(.int (ixf [46, 95, 126, 45] (46 : Int32) 0))])
    refine oIfF W2 (cd := .lt) (o := 7) (by decide +kernel) (XT.i0_lt_f (by decide)) (pc' := 45) rfl ?_
    refine oGo W2 [.iconst 1, .goto 4] (by decide +kernel) (ls' := #[sI 46]) (st' := [(.int 1)]) rfl rfl (pc' := 50) rfl ?_
    exact oRetN (by simp) W2 rfl (by decide +kernel) (lb rfl) (lb rfl) (fun vm' hv => ⟨rfl, E1⟩)
  · refine oGo W0 [.iload_n 0, .bipush 65] (by decide +kernel) (ls' := #[sI 95]) (st' := [(.int 65), (.int 95)]) rfl rfl (pc' := 3) rfl ?_
    refine oIcF W0 (cd := .lt) (o := 9) (by decide +kernel) (XT.ii_lt_f (by decide)) (pc' := 6) rfl ?_
    refine oGo W0 [.iload_n 0, .bipush 90] (by decide +kernel) (ls' := #[sI 95]) (st' := [(.int 90), (.int 95)]) rfl rfl (pc' := 9) rfl ?_
    refine oIcF W0 (cd := .le) (o := 36) (by decide +kernel) (XT.ii_le_f (by decide)) (pc' := 12) rfl ?_
    refine oGo W0 [.iload_n 0, .bipush 97] (by decide +kernel) (ls' := #[sI 95]) (st' := [(.int 97), (.int 95)]) rfl rfl (pc' := 15) rfl ?_
    refine oIcT W0 (cd := .lt) (o := 9) (by decide +kernel) (XT.ii_lt_t (by decide)) (pc' := 24) (by decide) (by decide) ?_
    refine oGo W0 [.iload_n 0, .bipush 48] (by decide +kernel) (ls' := #[sI 95]) (st' := [(.int 48), (.int 95)]) rfl rfl (pc' := 27) rfl ?_
    refine oIcF W0 (cd := .lt) (o := 9) (by decide +kernel) (XT.ii_lt_f (by decide)) (pc' := 30) rfl ?_
    refine oGo W0 [.iload_n 0, .bipush 57] (by decide +kernel) (ls' := #[sI 95]) (st' := [(.int 57), (.int 95)]) rfl rfl (pc' := 33) rfl ?_
    refine oIcF W0 (cd := .le) (o := 12) (by decide +kernel) (XT.ii_le_f (by decide)) (pc' := 36) rfl ?_
    obtain ⟨a3, b3, k3, T3, h3, vm3, W3, E3, C3, x3, c3, u3, A3, st3⟩ := oLdcC W0 (pc := 36) (ls := #[sI 95]) (st := []) (wK K 344 rfl) hS (by decide) (vs := (([46, 95, 126, 45] : List Int32).map fun c => Value.int c.toInt8.toInt32)) (z := 4) (by decide +kernel) (by decide) (by decide) (by decide +kernel) (n := 16) (lb rfl) (lb rfl) (lb rfl) (lb rfl)
    refine oLift st3 ?_
    have F3 : Str Z h3 a3 [46, 95, 126, 45] := ⟨b3, k3, x3, c3, u3, A3, by decide⟩
    refine oGo W3 [.iload_n 0] (by decide +kernel) (ls' := #[sI 95]) (st' := [(.int 95), (.ref a3)]) rfl rfl (pc' := 39) rfl ?_
    obtain ⟨v4, T4, L4, h4, vm4, W4, ⟨rfl, e4⟩, C4, st4⟩ := oCallV W3 (idx := 90) (pc := 39) (ls := #[sI 95]) (st := []) (argsL := [(.int 95)]) F3.exa (c_ix1 K F3 (by decide) (by decide) (by decide)) (fun x hx => nomatch hx) (wK K 345 rfl) (wK K 346 rfl) (notFace_of_selects (args := #[]) (mvT W3.warm (wK K 348 rfl))) (wK K 348 rfl) (wK K 347 rfl) (wK K 11 rfl) (wK K 349 rfl) (by decide) (na := 1) rfl (by decide +kernel) rfl (stk := [(.int 95), (.ref a3)]) rfl (by decide +kernel) (V := 0) (lb rfl) (lb rfl) (lb rfl) (lb rfl) (lb rfl)
    refine oLift st4 ?_
    rw [e4] at W4 C4
    show OG _ _ _ _ _ _ _ _ _ _ _ (mkF m 42 #[sI 95] [(.int (ixf [46, 95, 126, 45] (95 : Int32) 0))])
    refine oIfF W4 (cd := .lt) (o := 7) (by decide +kernel) (XT.i0_lt_f (by decide)) (pc' := 45) rfl ?_
    refine oGo W4 [.iconst 1, .goto 4] (by decide +kernel) (ls' := #[sI 95]) (st' := [(.int 1)]) rfl rfl (pc' := 50) rfl ?_
    exact oRetN (by simp) W4 rfl (by decide +kernel) (lb rfl) (lb rfl) (fun vm' hv => ⟨rfl, E3⟩)
  · refine oGo W0 [.iload_n 0, .bipush 65] (by decide +kernel) (ls' := #[sI 126]) (st' := [(.int 65), (.int 126)]) rfl rfl (pc' := 3) rfl ?_
    refine oIcF W0 (cd := .lt) (o := 9) (by decide +kernel) (XT.ii_lt_f (by decide)) (pc' := 6) rfl ?_
    refine oGo W0 [.iload_n 0, .bipush 90] (by decide +kernel) (ls' := #[sI 126]) (st' := [(.int 90), (.int 126)]) rfl rfl (pc' := 9) rfl ?_
    refine oIcF W0 (cd := .le) (o := 36) (by decide +kernel) (XT.ii_le_f (by decide)) (pc' := 12) rfl ?_
    refine oGo W0 [.iload_n 0, .bipush 97] (by decide +kernel) (ls' := #[sI 126]) (st' := [(.int 97), (.int 126)]) rfl rfl (pc' := 15) rfl ?_
    refine oIcF W0 (cd := .lt) (o := 9) (by decide +kernel) (XT.ii_lt_f (by decide)) (pc' := 18) rfl ?_
    refine oGo W0 [.iload_n 0, .bipush 122] (by decide +kernel) (ls' := #[sI 126]) (st' := [(.int 122), (.int 126)]) rfl rfl (pc' := 21) rfl ?_
    refine oIcF W0 (cd := .le) (o := 24) (by decide +kernel) (XT.ii_le_f (by decide)) (pc' := 24) rfl ?_
    refine oGo W0 [.iload_n 0, .bipush 48] (by decide +kernel) (ls' := #[sI 126]) (st' := [(.int 48), (.int 126)]) rfl rfl (pc' := 27) rfl ?_
    refine oIcF W0 (cd := .lt) (o := 9) (by decide +kernel) (XT.ii_lt_f (by decide)) (pc' := 30) rfl ?_
    refine oGo W0 [.iload_n 0, .bipush 57] (by decide +kernel) (ls' := #[sI 126]) (st' := [(.int 57), (.int 126)]) rfl rfl (pc' := 33) rfl ?_
    refine oIcF W0 (cd := .le) (o := 12) (by decide +kernel) (XT.ii_le_f (by decide)) (pc' := 36) rfl ?_
    obtain ⟨a5, b5, k5, T5, h5, vm5, W5, E5, C5, x5, c5, u5, A5, st5⟩ := oLdcC W0 (pc := 36) (ls := #[sI 126]) (st := []) (wK K 344 rfl) hS (by decide) (vs := (([46, 95, 126, 45] : List Int32).map fun c => Value.int c.toInt8.toInt32)) (z := 4) (by decide +kernel) (by decide) (by decide) (by decide +kernel) (n := 16) (lb rfl) (lb rfl) (lb rfl) (lb rfl)
    refine oLift st5 ?_
    have F5 : Str Z h5 a5 [46, 95, 126, 45] := ⟨b5, k5, x5, c5, u5, A5, by decide⟩
    refine oGo W5 [.iload_n 0] (by decide +kernel) (ls' := #[sI 126]) (st' := [(.int 126), (.ref a5)]) rfl rfl (pc' := 39) rfl ?_
    obtain ⟨v6, T6, L6, h6, vm6, W6, ⟨rfl, e6⟩, C6, st6⟩ := oCallV W5 (idx := 90) (pc := 39) (ls := #[sI 126]) (st := []) (argsL := [(.int 126)]) F5.exa (c_ix1 K F5 (by decide) (by decide) (by decide)) (fun x hx => nomatch hx) (wK K 345 rfl) (wK K 346 rfl) (notFace_of_selects (args := #[]) (mvT W5.warm (wK K 348 rfl))) (wK K 348 rfl) (wK K 347 rfl) (wK K 11 rfl) (wK K 349 rfl) (by decide) (na := 1) rfl (by decide +kernel) rfl (stk := [(.int 126), (.ref a5)]) rfl (by decide +kernel) (V := 0) (lb rfl) (lb rfl) (lb rfl) (lb rfl) (lb rfl)
    refine oLift st6 ?_
    rw [e6] at W6 C6
    show OG _ _ _ _ _ _ _ _ _ _ _ (mkF m 42 #[sI 126] [(.int (ixf [46, 95, 126, 45] (126 : Int32) 0))])
    refine oIfF W6 (cd := .lt) (o := 7) (by decide +kernel) (XT.i0_lt_f (by decide)) (pc' := 45) rfl ?_
    refine oGo W6 [.iconst 1, .goto 4] (by decide +kernel) (ls' := #[sI 126]) (st' := [(.int 1)]) rfl rfl (pc' := 50) rfl ?_
    exact oRetN (by simp) W6 rfl (by decide +kernel) (lb rfl) (lb rfl) (fun vm' hv => ⟨rfl, E5⟩)
  · refine oGo W0 [.iload_n 0, .bipush 65] (by decide +kernel) (ls' := #[sI 45]) (st' := [(.int 65), (.int 45)]) rfl rfl (pc' := 3) rfl ?_
    refine oIcT W0 (cd := .lt) (o := 9) (by decide +kernel) (XT.ii_lt_t (by decide)) (pc' := 12) (by decide) (by decide) ?_
    refine oGo W0 [.iload_n 0, .bipush 97] (by decide +kernel) (ls' := #[sI 45]) (st' := [(.int 97), (.int 45)]) rfl rfl (pc' := 15) rfl ?_
    refine oIcT W0 (cd := .lt) (o := 9) (by decide +kernel) (XT.ii_lt_t (by decide)) (pc' := 24) (by decide) (by decide) ?_
    refine oGo W0 [.iload_n 0, .bipush 48] (by decide +kernel) (ls' := #[sI 45]) (st' := [(.int 48), (.int 45)]) rfl rfl (pc' := 27) rfl ?_
    refine oIcT W0 (cd := .lt) (o := 9) (by decide +kernel) (XT.ii_lt_t (by decide)) (pc' := 36) (by decide) (by decide) ?_
    obtain ⟨a7, b7, k7, T7, h7, vm7, W7, E7, C7, x7, c7, u7, A7, st7⟩ := oLdcC W0 (pc := 36) (ls := #[sI 45]) (st := []) (wK K 344 rfl) hS (by decide) (vs := (([46, 95, 126, 45] : List Int32).map fun c => Value.int c.toInt8.toInt32)) (z := 4) (by decide +kernel) (by decide) (by decide) (by decide +kernel) (n := 16) (lb rfl) (lb rfl) (lb rfl) (lb rfl)
    refine oLift st7 ?_
    have F7 : Str Z h7 a7 [46, 95, 126, 45] := ⟨b7, k7, x7, c7, u7, A7, by decide⟩
    refine oGo W7 [.iload_n 0] (by decide +kernel) (ls' := #[sI 45]) (st' := [(.int 45), (.ref a7)]) rfl rfl (pc' := 39) rfl ?_
    obtain ⟨v8, T8, L8, h8, vm8, W8, ⟨rfl, e8⟩, C8, st8⟩ := oCallV W7 (idx := 90) (pc := 39) (ls := #[sI 45]) (st := []) (argsL := [(.int 45)]) F7.exa (c_ix1 K F7 (by decide) (by decide) (by decide)) (fun x hx => nomatch hx) (wK K 345 rfl) (wK K 346 rfl) (notFace_of_selects (args := #[]) (mvT W7.warm (wK K 348 rfl))) (wK K 348 rfl) (wK K 347 rfl) (wK K 11 rfl) (wK K 349 rfl) (by decide) (na := 1) rfl (by decide +kernel) rfl (stk := [(.int 45), (.ref a7)]) rfl (by decide +kernel) (V := 0) (lb rfl) (lb rfl) (lb rfl) (lb rfl) (lb rfl)
    refine oLift st8 ?_
    rw [e8] at W8 C8
    show OG _ _ _ _ _ _ _ _ _ _ _ (mkF m 42 #[sI 45] [(.int (ixf [46, 95, 126, 45] (45 : Int32) 0))])
    refine oIfF W8 (cd := .lt) (o := 7) (by decide +kernel) (XT.i0_lt_f (by decide)) (pc' := 45) rfl ?_
    refine oGo W8 [.iconst 1, .goto 4] (by decide +kernel) (ls' := #[sI 45]) (st' := [(.int 1)]) rfl rfl (pc' := 50) rfl ?_
    exact oRetN (by simp) W8 rfl (by decide +kernel) (lb rfl) (lb rfl) (fun vm' hv => ⟨rfl, E7⟩)
theorem Str.lo {Z : State} {h : Heap} {x : Addr} {cs : List Int32} (F : Str Z h x cs) : ∀ c ∈ cs, ¬ c < 0 ∧ ¬ (255 : Int32) < c := by obtain ⟨t, k, h1, h2, h3, h4, h5⟩ := F; exact h5
theorem EL_in : ∀ p ∈ EL, p ∈ consts_1 := by decide
theorem alw_lo {c : Int32} (h : Alw c) : ¬ c < 0 ∧ ¬ (255 : Int32) < c := by
  have k0 : (0 : Int32).toInt = 0 := rfl
  have k1 : (255 : Int32).toInt = 255 := rfl
  rw [Int32.lt_iff_toInt_lt, Int32.lt_iff_toInt_lt, k0, k1]
  rcases h with h | h | h | rfl | rfl | rfl | rfl
  · omega
  · omega
  · omega
  · decide
  · decide
  · decide
  · decide
theorem cat_take {ps cs : List Int32} {z : Value} (h : ps.length + cs.length ≤ 16) : (cpy (cpy (List.replicate 16 z) (byt ps) 0 0 ps.length) (byt cs) 0 (0 + ps.length) cs.length).take (0 + ps.length + cs.length) = byt (ps ++ cs) := by
  have e1 : (byt ps).length = ps.length := List.length_map ..
  have e2 : (byt cs).length = cs.length := List.length_map ..
  have t1 : (byt ps).take ps.length = byt ps := List.take_of_length_le (by rw [e1]; exact Nat.le_refl _)
  have t2 : (byt cs).take cs.length = byt cs := List.take_of_length_le (by rw [e2]; exact Nat.le_refl _)
  have q : ∀ ys : List Value, List.take ps.length (byt ps ++ ys) = byt ps := fun ys => by rw [List.take_append_of_le_length (by rw [e1]; exact Nat.le_refl _), t1]
  unfold cpy
  simp only [List.take_zero, List.nil_append, List.drop_zero, Nat.zero_add]
  rw [t1, t2, q, ← List.append_assoc, List.take_append_of_le_length (by rw [List.length_append, e1, e2]; exact Nat.le_refl _), List.take_of_length_le (by rw [List.length_append, e1, e2]; exact Nat.le_refl _)]
  exact (List.map_append ..).symm
abbrev rm_c_rnn : Room := { frames := 0, cells := 0, slots := 0, locals := 0 }
set_option maxRecDepth 65536 in
set_option maxHeartbeats 40000000 in
theorem c_rnn {l : Launch} {Z : State} {a0 : Array Value} {nb : Bool} (K : Ctx Z a0) {x y : Addr} {h0 : Heap} :
    OC l Z EL nb [] (⟨"java/util/Objects", "requireNonNull", "(Ljava/lang/Object;Ljava/lang/String;)Ljava/lang/Object;"⟩ : MethodName) jdk_31_method_11_code 2 (some (.object "java/lang/Object")) rm_c_rnn #[(.ref x), (.ref y)] h0 [] (fun v _ h => v = some (.ref x) ∧ h = h0) := by
  have hw := K.1
  have hS : ∀ a ∈ Bundle.stringAtoms, a.before a0 Z = true := K.2.2.1
  refine oEnter (by decide +kernel) K.2.1.2.1 ?_
  intro _p _e _s m _below _meth _c T0 W0 S0
  refine oEq (g' := mkF m 0 #[.val (.ref x), .val (.ref y)] []) (by first | (simp [entryFrame, mkF, argsToLocals, Value.category]; done) | rfl) ?_
  refine oGo W0 [.aload_n 0] (by decide +kernel) (ls' := #[sR x, sR y]) (st' := [(.ref x)]) rfl rfl (pc' := 1) rfl ?_
  refine oNnT W0 (o := 12) (by decide +kernel) (pc' := 13) (by decide) (by decide) ?_
  refine oGo W0 [.aload_n 0] (by decide +kernel) (ls' := #[sR x, sR y]) (st' := [(.ref x)]) rfl rfl (pc' := 14) rfl ?_
  exact oRetA rfl W0 rfl rfl (by decide +kernel) (lb rfl) (lb rfl) (fun vm' hv => ⟨rfl, rfl⟩)
abbrev rm_c_rec : Room := { frames := 1, cells := 0, slots := 0, locals := 12 }
set_option maxRecDepth 65536 in
set_option maxHeartbeats 40000000 in
theorem c_rec {l : Launch} {Z : State} {a0 : Array Value} {nb : Bool} (K : Ctx Z a0) {a : Addr} {h0 : Heap} :
    OC l Z EL nb [] (⟨"java/lang/Record", "<init>", "()V"⟩ : MethodName) jdk_30_method_1_code 1 none rm_c_rec #[(.ref a)] h0 [] (fun v _ h => v = none ∧ h = h0) := by
  have hw := K.1
  have hS : ∀ a ∈ Bundle.stringAtoms, a.before a0 Z = true := K.2.2.1
  refine oEnter (by decide +kernel) K.2.1.2.1 ?_
  intro _p _e _s m _below _meth _c T0 W0 S0
  refine oEq (g' := mkF m 0 #[.val (.ref a)] []) (by first | (simp [entryFrame, mkF, argsToLocals, Value.category]; done) | rfl) ?_
  refine oGo W0 [.aload_n 0] (by decide +kernel) (ls' := #[sR a]) (st' := [(.ref a)]) rfl rfl (pc' := 1) rfl ?_
  obtain ⟨T1, W1, st1⟩ := oInit W0 (idx := 1) (pc := 1) (ls := #[sR a]) (st := []) (a := a) (wK K 178 rfl) (wK K 20 rfl) (wK K 21 rfl) rfl (by decide +kernel) (lb rfl) (V := 0) (lb rfl) (lb rfl)
  refine oLift st1 ?_
  exact oRet0 W1 (by decide +kernel) (lb rfl) (lb rfl) (fun vm' hv => ⟨rfl, rfl⟩)
abbrev rm_c_cnv : Room := { frames := 0, cells := 0, slots := 0, locals := 0 }
set_option maxRecDepth 65536 in
set_option maxHeartbeats 40000000 in
theorem c_cnv {l : Launch} {Z : State} {a0 : Array Value} {nb : Bool} (K : Ctx Z a0) {a x : Addr} {h0 : Heap} (F : Fld Z h0 a "com/example/gentle_hub/gentlehub/core/ChannelName" "value" "Ljava/lang/String;" (.ref x)) :
    OC l Z EL nb [] (⟨"com/example/gentle_hub/gentlehub/core/ChannelName", "value", "()Ljava/lang/String;"⟩ : MethodName) prog_1_method_6_code 1 (some (.object "java/lang/String")) rm_c_cnv #[(.ref a)] h0 [] (fun v _ h => v = some (.ref x) ∧ h = h0) := by
  have hw := K.1
  have hS : ∀ a ∈ Bundle.stringAtoms, a.before a0 Z = true := K.2.2.1
  refine oEnter (by decide +kernel) K.2.1.2.1 ?_
  intro _p _e _s m _below _meth _c T0 W0 S0
  refine oEq (g' := mkF m 0 #[.val (.ref a)] []) (by first | (simp [entryFrame, mkF, argsToLocals, Value.category]; done) | rfl) ?_
  refine oGo W0 [.aload_n 0] (by decide +kernel) (ls' := #[sR a]) (st' := [(.ref a)]) rfl rfl (pc' := 1) rfl ?_
  obtain ⟨T1, W1, st1⟩ := oGetF W0 (pc := 1) (ls := #[sR a]) (st := []) (wK K 205 rfl) Via.refl F (by decide +kernel)
  refine oLift st1 ?_
  exact oRetA rfl W1 rfl rfl (by decide +kernel) (lb rfl) (lb rfl) (fun vm' hv => ⟨rfl, rfl⟩)
abbrev rm_c_cn1 : Room := { frames := 5, cells := 8, slots := 64, locals := 71 }
set_option maxRecDepth 65536 in
set_option maxHeartbeats 40000000 in
theorem c_cn1 {l : Launch} {Z : State} {a0 : Array Value} (K : Ctx Z a0) {a x : Addr} {c0 : Int32} {h0 : Heap} (F : Str Z h0 x [c0]) (q0 : Alw c0) (hn1 : ¬ c0 = 46) (hfr : Z.heap.size ≤ a) (X : Exa Z h0 a "com/example/gentle_hub/gentlehub/core/ChannelName") (Fb : Fld Z h0 a "com/example/gentle_hub/gentlehub/core/ChannelName" "value" "Ljava/lang/String;" .null) :
    OC l Z EL false [] (⟨"com/example/gentle_hub/gentlehub/core/ChannelName", "<init>", "(Ljava/lang/String;)V"⟩ : MethodName) prog_1_method_1_code 3 none rm_c_cn1 #[(.ref a), (.ref x)] h0 [] (fun v _ h => v = none ∧ Keep h0 h [a] ∧ Exa Z h a "com/example/gentle_hub/gentlehub/core/ChannelName" ∧ Fld Z h a "com/example/gentle_hub/gentlehub/core/ChannelName" "value" "Ljava/lang/String;" (.ref x)) := by
  have hw := K.1
  have hS : ∀ a ∈ Bundle.stringAtoms, a.before a0 Z = true := K.2.2.1
  have he := K.2.2.2.2.1
  refine oEnter (by decide +kernel) K.2.1.2.1 ?_
  intro _p _e _s m _below _meth _c T0 W0 S0
  refine oEq (g' := mkF m 0 #[.val (.ref a), .val (.ref x), .unset] []) (by first | (simp [entryFrame, mkF, argsToLocals, Value.category]; done) | rfl) ?_
  refine oGo W0 [.aload_n 0] (by decide +kernel) (ls' := #[sR a, sR x, sU]) (st' := [(.ref a)]) rfl rfl (pc' := 1) rfl ?_
  obtain ⟨v1, T1, L1, h1, vm1, W1, ⟨rfl, e1⟩, C1, st1⟩ := oCallN W0 (idx := 1) (pc := 1) (ls := #[sR a, sR x, sU]) (st := []) (a := a) (argsL := []) (c_rec K) (fun x hx => nomatch hx) rfl (wK K 173 rfl) (wK K 174 rfl) (wK K 176 rfl) (wK K 177 rfl) (by decide) (na := 0) rfl (by decide +kernel) rfl (stk := [(.ref a)]) rfl (by decide +kernel) (V := 0) (lb rfl) (lb rfl) (lb rfl) (lb rfl) (lb rfl)
  refine oLift st1 ?_
  rw [e1] at W1 C1
  show OG _ _ _ _ _ _ _ _ _ _ _ (mkF m 4 #[sR a, sR x, sU] [])
  refine oGo W1 [.aload_n 1] (by decide +kernel) (ls' := #[sR a, sR x, sU]) (st' := [(.ref x)]) rfl rfl (pc' := 5) rfl ?_
  obtain ⟨a2, T2, h2, vm2, W2, E2, C2, st2⟩ := oLdc W1 (pc := 5) (ls := #[sR a, sR x, sU]) (st := [(.ref x)]) (wK K 179 rfl) hS (by decide +kernel) (n := 20) (lb rfl) (lb rfl) (lb rfl) (lb rfl)
  refine oLift st2 ?_
  obtain ⟨v3, T3, L3, h3, vm3, W3, ⟨rfl, e3⟩, C3, st3⟩ := oCallS W2 (idx := 9) (pc := 7) (ls := #[sR a, sR x, sU]) (st := []) (argsL := [(.ref x), (.ref a2)]) (c_rnn K) (fun x hx => nomatch hx) (wK K 180 rfl) (wK K 181 rfl) (wK K 182 rfl) (wK K 183 rfl) (by decide) (na := 2) rfl (by decide +kernel) rfl (stk := [(.ref a2), (.ref x)]) rfl (by decide +kernel) (V := 0) (lb rfl) (lb rfl) (lb rfl) (lb rfl) (lb rfl)
  refine oLift st3 ?_
  rw [e3] at W3 C3
  show OG _ _ _ _ _ _ _ _ _ _ _ (mkF m 10 #[sR a, sR x, sU] [(.ref x)])
  refine oGo W3 [.pop, .aload_n 1] (by decide +kernel) (ls' := #[sR a, sR x, sU]) (st' := [(.ref x)]) rfl rfl (pc' := 12) rfl ?_
  obtain ⟨v4, T4, L4, h4, vm4, W4, ⟨rfl, e4⟩, C4, st4⟩ := oCallV W3 (idx := 15) (pc := 12) (ls := #[sR a, sR x, sU]) (st := []) (argsL := []) (F.exa.ext E2) (c_emp K (F.ext E2) (lb rfl)) (fun x hx => nomatch hx) (wK K 184 rfl) (wK K 185 rfl) (notFace_of_selects (args := #[]) (mvT W3.warm (wK K 187 rfl))) (wK K 187 rfl) (wK K 186 rfl) (wK K 11 rfl) (wK K 188 rfl) (by decide) (na := 0) rfl (by decide +kernel) rfl (stk := [(.ref x)]) rfl (by decide +kernel) (V := 0) (lb rfl) (lb rfl) (lb rfl) (lb rfl) (lb rfl)
  refine oLift st4 ?_
  rw [e4] at W4 C4
  show OG _ _ _ _ _ _ _ _ _ _ _ (mkF m 15 #[sR a, sR x, sU] [(.int (if ([c0] : List Int32) = [] then 1 else 0))])
  refine oIfT W4 (cd := .eq) (o := 13) (by decide +kernel) (XT.i0_eq_t (if_neg (by simp))) (pc' := 28) (by decide) (by decide) ?_
  refine oGo W4 [.aload_n 1] (by decide +kernel) (ls' := #[sR a, sR x, sU]) (st' := [(.ref x)]) rfl rfl (pc' := 29) rfl ?_
  obtain ⟨v5, T5, L5, h5, vm5, W5, ⟨rfl, e5⟩, C5, st5⟩ := oCallV W4 (idx := 28) (pc := 29) (ls := #[sR a, sR x, sU]) (st := []) (argsL := []) (F.exa.ext E2) (c_len K (F.ext E2)) (fun x hx => nomatch hx) (wK K 189 rfl) (wK K 73 rfl) (notFace_of_selects (args := #[]) (mvT W4.warm (wK K 75 rfl))) (wK K 75 rfl) (wK K 74 rfl) (wK K 11 rfl) (wK K 76 rfl) (by decide) (na := 0) rfl (by decide +kernel) rfl (stk := [(.ref x)]) rfl (by decide +kernel) (V := 0) (lb rfl) (lb rfl) (lb rfl) (lb rfl) (lb rfl)
  refine oLift st5 ?_
  rw [e5] at W5 C5
  show OG _ _ _ _ _ _ _ _ _ _ _ (mkF m 32 #[sR a, sR x, sU] [(.int 1)])
  refine oGo W5 [.sipush 255] (by decide +kernel) (ls' := #[sR a, sR x, sU]) (st' := [(.int 255), (.int 1)]) rfl rfl (pc' := 35) rfl ?_
  refine oIcT W5 (cd := .le) (o := 13) (by decide +kernel) (XT.ii_le_t (by decide)) (pc' := 48) (by decide) (by decide) ?_
  refine oGo W5 [.iconst 0, .istore_n 2, .iload_n 2, .aload_n 1] (by decide +kernel) (ls' := #[sR a, sR x, sI 0]) (st' := [(.ref x), (.int 0)]) rfl rfl (pc' := 52) rfl ?_
  obtain ⟨v6, T6, L6, h6, vm6, W6, ⟨rfl, e6⟩, C6, st6⟩ := oCallV W5 (idx := 28) (pc := 52) (ls := #[sR a, sR x, sI 0]) (st := [(.int 0)]) (argsL := []) (F.exa.ext E2) (c_len K (F.ext E2)) (fun x hx => nomatch hx) (wK K 189 rfl) (wK K 73 rfl) (notFace_of_selects (args := #[]) (mvT W5.warm (wK K 75 rfl))) (wK K 75 rfl) (wK K 74 rfl) (wK K 11 rfl) (wK K 76 rfl) (by decide) (na := 0) rfl (by decide +kernel) rfl (stk := [(.ref x), (.int 0)]) rfl (by decide +kernel) (V := 1) (lb rfl) (lb rfl) (lb rfl) (lb rfl) (lb rfl)
  refine oLift st6 ?_
  rw [e6] at W6 C6
  show OG _ _ _ _ _ _ _ _ _ _ _ (mkF m 55 #[sR a, sR x, sI 0] [(.int 1), (.int 0)])
  refine oIcF W6 (cd := .ge) (o := 57) (by decide +kernel) (XT.ii_ge_f (by decide)) (pc' := 58) rfl ?_
  refine oGo W6 [.aload_n 1, .iload_n 2] (by decide +kernel) (ls' := #[sR a, sR x, sI 0]) (st' := [(.int 0), (.ref x)]) rfl rfl (pc' := 60) rfl ?_
  obtain ⟨v7, T7, L7, h7, vm7, W7, ⟨rfl, e7⟩, C7, st7⟩ := oCallV W6 (idx := 36) (pc := 60) (ls := #[sR a, sR x, sI 0]) (st := []) (argsL := [(.int 0)]) (F.exa.ext E2) (c_chr K K.2.2.2.1 (F.ext E2) (lb rfl) (i := 0) (by decide) (c := c0) rfl) (fun x hx => nomatch hx) (wK K 190 rfl) (wK K 102 rfl) (notFace_of_selects (args := #[]) (mvT W6.warm (wK K 104 rfl))) (wK K 104 rfl) (wK K 103 rfl) (wK K 11 rfl) (wK K 105 rfl) (by decide) (na := 1) rfl (by decide +kernel) rfl (stk := [(.int 0), (.ref x)]) rfl (by decide +kernel) (V := 0) (lb rfl) (lb rfl) (lb rfl) (lb rfl) (lb rfl)
  refine oLift st7 ?_
  rw [e7] at W7 C7
  show OG _ _ _ _ _ _ _ _ _ _ _ (mkF m 63 #[sR a, sR x, sI 0] [(.int c0)])
  obtain ⟨v8, T8, L8, h8, vm8, W8, ⟨rfl, E8⟩, C8, st8⟩ := oCallS W7 (idx := 40) (pc := 63) (ls := #[sR a, sR x, sI 0]) (st := []) (argsL := [(.int c0)]) (c_isa K q0) (fun x hx => nomatch hx) (wK K 191 rfl) (wK K 192 rfl) (wK K 169 rfl) (wK K 193 rfl) (by decide) (na := 1) rfl (by decide +kernel) rfl (stk := [(.int c0)]) rfl (by decide +kernel) (V := 0) (lb rfl) (lb rfl) (lb rfl) (lb rfl) (lb rfl)
  refine oLift st8 ?_
  show OG _ _ _ _ _ _ _ _ _ _ _ (mkF m 66 #[sR a, sR x, sI 0] [(.int 1)])
  refine oIfT W8 (cd := .ne) (o := 40) (by decide +kernel) (XT.i0_ne_t (by decide)) (pc' := 106) (by decide) (by decide) ?_
  refine oGo W8 [.iinc 2 1, .goto (-59), .iload_n 2, .aload_n 1] (by decide +kernel) (ls' := #[sR a, sR x, sI 1]) (st' := [(.ref x), (.int 1)]) rfl rfl (pc' := 52) rfl ?_
  obtain ⟨v9, T9, L9, h9, vm9, W9, ⟨rfl, e9⟩, C9, st9⟩ := oCallV W8 (idx := 28) (pc := 52) (ls := #[sR a, sR x, sI 1]) (st := [(.int 1)]) (argsL := []) ((F.exa.ext E2).ext E8) (c_len K ((F.ext E2).ext E8)) (fun x hx => nomatch hx) (wK K 189 rfl) (wK K 73 rfl) (notFace_of_selects (args := #[]) (mvT W8.warm (wK K 75 rfl))) (wK K 75 rfl) (wK K 74 rfl) (wK K 11 rfl) (wK K 76 rfl) (by decide) (na := 0) rfl (by decide +kernel) rfl (stk := [(.ref x), (.int 1)]) rfl (by decide +kernel) (V := 1) (lb rfl) (lb rfl) (lb rfl) (lb rfl) (lb rfl)
  refine oLift st9 ?_
  rw [e9] at W9 C9
  show OG _ _ _ _ _ _ _ _ _ _ _ (mkF m 55 #[sR a, sR x, sI 1] [(.int 1), (.int 1)])
  refine oIcT W9 (cd := .ge) (o := 57) (by decide +kernel) (XT.ii_ge_t (by decide)) (pc' := 112) (by decide) (by decide) ?_
  refine oGo W9 [.aload_n 1] (by decide +kernel) (ls' := #[sR a, sR x, sI 1]) (st' := [(.ref x)]) rfl rfl (pc' := 113) rfl ?_
  obtain ⟨a10, b10, k10, T10, h10, vm10, W10, E10, C10, x10, c10, u10, A10, st10⟩ := oLdcC W9 (pc := 113) (ls := #[sR a, sR x, sI 1]) (st := [(.ref x)]) (wK K 194 rfl) hS (by decide) (vs := (([46] : List Int32).map fun c => Value.int c.toInt8.toInt32)) (z := 1) (by decide +kernel) (by decide) (by decide) (by decide +kernel) (n := 4) (lb rfl) (lb rfl) (lb rfl) (lb rfl)
  refine oLift st10 ?_
  have F10 : Str Z h10 a10 [46] := ⟨b10, k10, x10, c10, u10, A10, by decide⟩
  obtain ⟨v11, T11, L11, h11, vm11, W11, ⟨rfl, e11⟩, C11, st11⟩ := oCallV W10 (idx := 64) (pc := 115) (ls := #[sR a, sR x, sI 1]) (st := []) (argsL := [(.ref a10)]) (((F.exa.ext E2).ext E8).ext E10) (k_Eq K.2.1 he (lb rfl) (lb rfl) (((F.ext E2).ext E8).ext E10) F10) (fun x hx => nomatch hx) (wK K 195 rfl) (wK K 196 rfl) (notFace_of_selects (args := #[]) (mvT W10.warm (wK K 198 rfl))) (wK K 198 rfl) (wK K 197 rfl) (wK K 11 rfl) (wK K 199 rfl) (by decide) (na := 1) rfl (by decide +kernel) rfl (stk := [(.ref a10), (.ref x)]) rfl (by decide +kernel) (V := 0) (lb rfl) (lb rfl) (lb rfl) (lb rfl) (lb rfl)
  refine oLift st11 ?_
  rw [e11] at W11 C11
  show OG _ _ _ _ _ _ _ _ _ _ _ (mkF m 118 #[sR a, sR x, sI 1] [(.int (if ([c0] : List Int32) = [46] then 1 else 0))])
  refine oIfF W11 (cd := .ne) (o := 12) (by decide +kernel) (XT.i0_ne_f (if_neg (fun q => hn1 (by simpa using q)))) (pc' := 121) rfl ?_
  refine oGo W11 [.aload_n 1] (by decide +kernel) (ls' := #[sR a, sR x, sI 1]) (st' := [(.ref x)]) rfl rfl (pc' := 122) rfl ?_
  obtain ⟨a12, b12, k12, T12, h12, vm12, W12, E12, C12, x12, c12, u12, A12, st12⟩ := oLdcC W11 (pc := 122) (ls := #[sR a, sR x, sI 1]) (st := [(.ref x)]) (wK K 204 rfl) hS (by decide) (vs := (([46, 46] : List Int32).map fun c => Value.int c.toInt8.toInt32)) (z := 2) (by decide +kernel) (by decide) (by decide) (by decide +kernel) (n := 8) (lb rfl) (lb rfl) (lb rfl) (lb rfl)
  refine oLift st12 ?_
  have F12 : Str Z h12 a12 [46, 46] := ⟨b12, k12, x12, c12, u12, A12, by decide⟩
  obtain ⟨v13, T13, L13, h13, vm13, W13, ⟨rfl, e13⟩, C13, st13⟩ := oCallV W12 (idx := 64) (pc := 124) (ls := #[sR a, sR x, sI 1]) (st := []) (argsL := [(.ref a12)]) ((((F.exa.ext E2).ext E8).ext E10).ext E12) (k_Eq K.2.1 he (lb rfl) (lb rfl) ((((F.ext E2).ext E8).ext E10).ext E12) F12) (fun x hx => nomatch hx) (wK K 195 rfl) (wK K 196 rfl) (notFace_of_selects (args := #[]) (mvT W12.warm (wK K 198 rfl))) (wK K 198 rfl) (wK K 197 rfl) (wK K 11 rfl) (wK K 199 rfl) (by decide) (na := 1) rfl (by decide +kernel) rfl (stk := [(.ref a12), (.ref x)]) rfl (by decide +kernel) (V := 0) (lb rfl) (lb rfl) (lb rfl) (lb rfl) (lb rfl)
  refine oLift st13 ?_
  rw [e13] at W13 C13
  show OG _ _ _ _ _ _ _ _ _ _ _ (mkF m 127 #[sR a, sR x, sI 1] [(.int (if ([c0] : List Int32) = [46, 46] then 1 else 0))])
  refine oIfT W13 (cd := .eq) (o := 35) (by decide +kernel) (XT.i0_eq_t (if_neg (by simp))) (pc' := 162) (by decide) (by decide) ?_
  refine oGo W13 [.aload_n 0, .aload_n 1] (by decide +kernel) (ls' := #[sR a, sR x, sI 1]) (st' := [(.ref x), (.ref a)]) rfl rfl (pc' := 164) rfl ?_
  obtain ⟨T14, h14, W14, Wr14, F14, X14, C14, st14⟩ := oPutF W13 (idx := 85) (pc := 164) (ls := #[sR a, sR x, sI 1]) (st := []) (v := (.ref x)) (wK K 205 rfl) Via.refl ((((Fb.ext E2).ext E8).ext E10).ext E12) ((((X.ext E2).ext E8).ext E10).ext E12) (Or.inr ⟨(wK K 206 rfl), rfl, rfl⟩) (wK K 168 rfl) (ty := (.object "java/lang/String")) (by decide) rfl rfl hfr (Safe.exa W13.warm.alike ((((X.ext E2).ext E8).ext E10).ext E12) (by decide) (by decide)) (by decide +kernel)
  refine oLift st14 ?_
  exact oRet0 W14 (by decide +kernel) (lb rfl) (lb rfl) (fun vm' hv => ⟨rfl, ((((((Keep.refl _ [a]).ext E2).ext E8).ext E10).ext E12).wr Wr14 (Or.inl (List.mem_singleton.mpr rfl))), X14, F14⟩)
abbrev rm_c_cn2 : Room := { frames := 5, cells := 10, slots := 84, locals := 71 }
set_option maxRecDepth 65536 in
set_option maxHeartbeats 40000000 in
theorem c_cn2 {l : Launch} {Z : State} {a0 : Array Value} (K : Ctx Z a0) {a x : Addr} {c0 c1 : Int32} {h0 : Heap} (F : Str Z h0 x [c0, c1]) (q0 : Alw c0) (q1 : Alw c1) (hn2 : ¬ (c0 = 46 ∧ c1 = 46)) (hfr : Z.heap.size ≤ a) (X : Exa Z h0 a "com/example/gentle_hub/gentlehub/core/ChannelName") (Fb : Fld Z h0 a "com/example/gentle_hub/gentlehub/core/ChannelName" "value" "Ljava/lang/String;" .null) :
    OC l Z EL false [] (⟨"com/example/gentle_hub/gentlehub/core/ChannelName", "<init>", "(Ljava/lang/String;)V"⟩ : MethodName) prog_1_method_1_code 3 none rm_c_cn2 #[(.ref a), (.ref x)] h0 [] (fun v _ h => v = none ∧ Keep h0 h [a] ∧ Exa Z h a "com/example/gentle_hub/gentlehub/core/ChannelName" ∧ Fld Z h a "com/example/gentle_hub/gentlehub/core/ChannelName" "value" "Ljava/lang/String;" (.ref x)) := by
  have hw := K.1
  have hS : ∀ a ∈ Bundle.stringAtoms, a.before a0 Z = true := K.2.2.1
  have he := K.2.2.2.2.1
  refine oEnter (by decide +kernel) K.2.1.2.1 ?_
  intro _p _e _s m _below _meth _c T0 W0 S0
  refine oEq (g' := mkF m 0 #[.val (.ref a), .val (.ref x), .unset] []) (by first | (simp [entryFrame, mkF, argsToLocals, Value.category]; done) | rfl) ?_
  refine oGo W0 [.aload_n 0] (by decide +kernel) (ls' := #[sR a, sR x, sU]) (st' := [(.ref a)]) rfl rfl (pc' := 1) rfl ?_
  obtain ⟨v1, T1, L1, h1, vm1, W1, ⟨rfl, e1⟩, C1, st1⟩ := oCallN W0 (idx := 1) (pc := 1) (ls := #[sR a, sR x, sU]) (st := []) (a := a) (argsL := []) (c_rec K) (fun x hx => nomatch hx) rfl (wK K 173 rfl) (wK K 174 rfl) (wK K 176 rfl) (wK K 177 rfl) (by decide) (na := 0) rfl (by decide +kernel) rfl (stk := [(.ref a)]) rfl (by decide +kernel) (V := 0) (lb rfl) (lb rfl) (lb rfl) (lb rfl) (lb rfl)
  refine oLift st1 ?_
  rw [e1] at W1 C1
  show OG _ _ _ _ _ _ _ _ _ _ _ (mkF m 4 #[sR a, sR x, sU] [])
  refine oGo W1 [.aload_n 1] (by decide +kernel) (ls' := #[sR a, sR x, sU]) (st' := [(.ref x)]) rfl rfl (pc' := 5) rfl ?_
  obtain ⟨a2, T2, h2, vm2, W2, E2, C2, st2⟩ := oLdc W1 (pc := 5) (ls := #[sR a, sR x, sU]) (st := [(.ref x)]) (wK K 179 rfl) hS (by decide +kernel) (n := 20) (lb rfl) (lb rfl) (lb rfl) (lb rfl)
  refine oLift st2 ?_
  obtain ⟨v3, T3, L3, h3, vm3, W3, ⟨rfl, e3⟩, C3, st3⟩ := oCallS W2 (idx := 9) (pc := 7) (ls := #[sR a, sR x, sU]) (st := []) (argsL := [(.ref x), (.ref a2)]) (c_rnn K) (fun x hx => nomatch hx) (wK K 180 rfl) (wK K 181 rfl) (wK K 182 rfl) (wK K 183 rfl) (by decide) (na := 2) rfl (by decide +kernel) rfl (stk := [(.ref a2), (.ref x)]) rfl (by decide +kernel) (V := 0) (lb rfl) (lb rfl) (lb rfl) (lb rfl) (lb rfl)
  refine oLift st3 ?_
  rw [e3] at W3 C3
  show OG _ _ _ _ _ _ _ _ _ _ _ (mkF m 10 #[sR a, sR x, sU] [(.ref x)])
  refine oGo W3 [.pop, .aload_n 1] (by decide +kernel) (ls' := #[sR a, sR x, sU]) (st' := [(.ref x)]) rfl rfl (pc' := 12) rfl ?_
  obtain ⟨v4, T4, L4, h4, vm4, W4, ⟨rfl, e4⟩, C4, st4⟩ := oCallV W3 (idx := 15) (pc := 12) (ls := #[sR a, sR x, sU]) (st := []) (argsL := []) (F.exa.ext E2) (c_emp K (F.ext E2) (lb rfl)) (fun x hx => nomatch hx) (wK K 184 rfl) (wK K 185 rfl) (notFace_of_selects (args := #[]) (mvT W3.warm (wK K 187 rfl))) (wK K 187 rfl) (wK K 186 rfl) (wK K 11 rfl) (wK K 188 rfl) (by decide) (na := 0) rfl (by decide +kernel) rfl (stk := [(.ref x)]) rfl (by decide +kernel) (V := 0) (lb rfl) (lb rfl) (lb rfl) (lb rfl) (lb rfl)
  refine oLift st4 ?_
  rw [e4] at W4 C4
  show OG _ _ _ _ _ _ _ _ _ _ _ (mkF m 15 #[sR a, sR x, sU] [(.int (if ([c0, c1] : List Int32) = [] then 1 else 0))])
  refine oIfT W4 (cd := .eq) (o := 13) (by decide +kernel) (XT.i0_eq_t (if_neg (by simp))) (pc' := 28) (by decide) (by decide) ?_
  refine oGo W4 [.aload_n 1] (by decide +kernel) (ls' := #[sR a, sR x, sU]) (st' := [(.ref x)]) rfl rfl (pc' := 29) rfl ?_
  obtain ⟨v5, T5, L5, h5, vm5, W5, ⟨rfl, e5⟩, C5, st5⟩ := oCallV W4 (idx := 28) (pc := 29) (ls := #[sR a, sR x, sU]) (st := []) (argsL := []) (F.exa.ext E2) (c_len K (F.ext E2)) (fun x hx => nomatch hx) (wK K 189 rfl) (wK K 73 rfl) (notFace_of_selects (args := #[]) (mvT W4.warm (wK K 75 rfl))) (wK K 75 rfl) (wK K 74 rfl) (wK K 11 rfl) (wK K 76 rfl) (by decide) (na := 0) rfl (by decide +kernel) rfl (stk := [(.ref x)]) rfl (by decide +kernel) (V := 0) (lb rfl) (lb rfl) (lb rfl) (lb rfl) (lb rfl)
  refine oLift st5 ?_
  rw [e5] at W5 C5
  show OG _ _ _ _ _ _ _ _ _ _ _ (mkF m 32 #[sR a, sR x, sU] [(.int 2)])
  refine oGo W5 [.sipush 255] (by decide +kernel) (ls' := #[sR a, sR x, sU]) (st' := [(.int 255), (.int 2)]) rfl rfl (pc' := 35) rfl ?_
  refine oIcT W5 (cd := .le) (o := 13) (by decide +kernel) (XT.ii_le_t (by decide)) (pc' := 48) (by decide) (by decide) ?_
  refine oGo W5 [.iconst 0, .istore_n 2, .iload_n 2, .aload_n 1] (by decide +kernel) (ls' := #[sR a, sR x, sI 0]) (st' := [(.ref x), (.int 0)]) rfl rfl (pc' := 52) rfl ?_
  obtain ⟨v6, T6, L6, h6, vm6, W6, ⟨rfl, e6⟩, C6, st6⟩ := oCallV W5 (idx := 28) (pc := 52) (ls := #[sR a, sR x, sI 0]) (st := [(.int 0)]) (argsL := []) (F.exa.ext E2) (c_len K (F.ext E2)) (fun x hx => nomatch hx) (wK K 189 rfl) (wK K 73 rfl) (notFace_of_selects (args := #[]) (mvT W5.warm (wK K 75 rfl))) (wK K 75 rfl) (wK K 74 rfl) (wK K 11 rfl) (wK K 76 rfl) (by decide) (na := 0) rfl (by decide +kernel) rfl (stk := [(.ref x), (.int 0)]) rfl (by decide +kernel) (V := 1) (lb rfl) (lb rfl) (lb rfl) (lb rfl) (lb rfl)
  refine oLift st6 ?_
  rw [e6] at W6 C6
  show OG _ _ _ _ _ _ _ _ _ _ _ (mkF m 55 #[sR a, sR x, sI 0] [(.int 2), (.int 0)])
  refine oIcF W6 (cd := .ge) (o := 57) (by decide +kernel) (XT.ii_ge_f (by decide)) (pc' := 58) rfl ?_
  refine oGo W6 [.aload_n 1, .iload_n 2] (by decide +kernel) (ls' := #[sR a, sR x, sI 0]) (st' := [(.int 0), (.ref x)]) rfl rfl (pc' := 60) rfl ?_
  obtain ⟨v7, T7, L7, h7, vm7, W7, ⟨rfl, e7⟩, C7, st7⟩ := oCallV W6 (idx := 36) (pc := 60) (ls := #[sR a, sR x, sI 0]) (st := []) (argsL := [(.int 0)]) (F.exa.ext E2) (c_chr K K.2.2.2.1 (F.ext E2) (lb rfl) (i := 0) (by decide) (c := c0) rfl) (fun x hx => nomatch hx) (wK K 190 rfl) (wK K 102 rfl) (notFace_of_selects (args := #[]) (mvT W6.warm (wK K 104 rfl))) (wK K 104 rfl) (wK K 103 rfl) (wK K 11 rfl) (wK K 105 rfl) (by decide) (na := 1) rfl (by decide +kernel) rfl (stk := [(.int 0), (.ref x)]) rfl (by decide +kernel) (V := 0) (lb rfl) (lb rfl) (lb rfl) (lb rfl) (lb rfl)
  refine oLift st7 ?_
  rw [e7] at W7 C7
  show OG _ _ _ _ _ _ _ _ _ _ _ (mkF m 63 #[sR a, sR x, sI 0] [(.int c0)])
  obtain ⟨v8, T8, L8, h8, vm8, W8, ⟨rfl, E8⟩, C8, st8⟩ := oCallS W7 (idx := 40) (pc := 63) (ls := #[sR a, sR x, sI 0]) (st := []) (argsL := [(.int c0)]) (c_isa K q0) (fun x hx => nomatch hx) (wK K 191 rfl) (wK K 192 rfl) (wK K 169 rfl) (wK K 193 rfl) (by decide) (na := 1) rfl (by decide +kernel) rfl (stk := [(.int c0)]) rfl (by decide +kernel) (V := 0) (lb rfl) (lb rfl) (lb rfl) (lb rfl) (lb rfl)
  refine oLift st8 ?_
  show OG _ _ _ _ _ _ _ _ _ _ _ (mkF m 66 #[sR a, sR x, sI 0] [(.int 1)])
  refine oIfT W8 (cd := .ne) (o := 40) (by decide +kernel) (XT.i0_ne_t (by decide)) (pc' := 106) (by decide) (by decide) ?_
  refine oGo W8 [.iinc 2 1, .goto (-59), .iload_n 2, .aload_n 1] (by decide +kernel) (ls' := #[sR a, sR x, sI 1]) (st' := [(.ref x), (.int 1)]) rfl rfl (pc' := 52) rfl ?_
  obtain ⟨v9, T9, L9, h9, vm9, W9, ⟨rfl, e9⟩, C9, st9⟩ := oCallV W8 (idx := 28) (pc := 52) (ls := #[sR a, sR x, sI 1]) (st := [(.int 1)]) (argsL := []) ((F.exa.ext E2).ext E8) (c_len K ((F.ext E2).ext E8)) (fun x hx => nomatch hx) (wK K 189 rfl) (wK K 73 rfl) (notFace_of_selects (args := #[]) (mvT W8.warm (wK K 75 rfl))) (wK K 75 rfl) (wK K 74 rfl) (wK K 11 rfl) (wK K 76 rfl) (by decide) (na := 0) rfl (by decide +kernel) rfl (stk := [(.ref x), (.int 1)]) rfl (by decide +kernel) (V := 1) (lb rfl) (lb rfl) (lb rfl) (lb rfl) (lb rfl)
  refine oLift st9 ?_
  rw [e9] at W9 C9
  show OG _ _ _ _ _ _ _ _ _ _ _ (mkF m 55 #[sR a, sR x, sI 1] [(.int 2), (.int 1)])
  refine oIcF W9 (cd := .ge) (o := 57) (by decide +kernel) (XT.ii_ge_f (by decide)) (pc' := 58) rfl ?_
  refine oGo W9 [.aload_n 1, .iload_n 2] (by decide +kernel) (ls' := #[sR a, sR x, sI 1]) (st' := [(.int 1), (.ref x)]) rfl rfl (pc' := 60) rfl ?_
  obtain ⟨v10, T10, L10, h10, vm10, W10, ⟨rfl, e10⟩, C10, st10⟩ := oCallV W9 (idx := 36) (pc := 60) (ls := #[sR a, sR x, sI 1]) (st := []) (argsL := [(.int 1)]) ((F.exa.ext E2).ext E8) (c_chr K K.2.2.2.1 ((F.ext E2).ext E8) (lb rfl) (i := 1) (by decide) (c := c1) rfl) (fun x hx => nomatch hx) (wK K 190 rfl) (wK K 102 rfl) (notFace_of_selects (args := #[]) (mvT W9.warm (wK K 104 rfl))) (wK K 104 rfl) (wK K 103 rfl) (wK K 11 rfl) (wK K 105 rfl) (by decide) (na := 1) rfl (by decide +kernel) rfl (stk := [(.int 1), (.ref x)]) rfl (by decide +kernel) (V := 0) (lb rfl) (lb rfl) (lb rfl) (lb rfl) (lb rfl)
  refine oLift st10 ?_
  rw [e10] at W10 C10
  show OG _ _ _ _ _ _ _ _ _ _ _ (mkF m 63 #[sR a, sR x, sI 1] [(.int c1)])
  obtain ⟨v11, T11, L11, h11, vm11, W11, ⟨rfl, E11⟩, C11, st11⟩ := oCallS W10 (idx := 40) (pc := 63) (ls := #[sR a, sR x, sI 1]) (st := []) (argsL := [(.int c1)]) (c_isa K q1) (fun x hx => nomatch hx) (wK K 191 rfl) (wK K 192 rfl) (wK K 169 rfl) (wK K 193 rfl) (by decide) (na := 1) rfl (by decide +kernel) rfl (stk := [(.int c1)]) rfl (by decide +kernel) (V := 0) (lb rfl) (lb rfl) (lb rfl) (lb rfl) (lb rfl)
  refine oLift st11 ?_
  show OG _ _ _ _ _ _ _ _ _ _ _ (mkF m 66 #[sR a, sR x, sI 1] [(.int 1)])
  refine oIfT W11 (cd := .ne) (o := 40) (by decide +kernel) (XT.i0_ne_t (by decide)) (pc' := 106) (by decide) (by decide) ?_
  refine oGo W11 [.iinc 2 1, .goto (-59), .iload_n 2, .aload_n 1] (by decide +kernel) (ls' := #[sR a, sR x, sI 2]) (st' := [(.ref x), (.int 2)]) rfl rfl (pc' := 52) rfl ?_
  obtain ⟨v12, T12, L12, h12, vm12, W12, ⟨rfl, e12⟩, C12, st12⟩ := oCallV W11 (idx := 28) (pc := 52) (ls := #[sR a, sR x, sI 2]) (st := [(.int 2)]) (argsL := []) (((F.exa.ext E2).ext E8).ext E11) (c_len K (((F.ext E2).ext E8).ext E11)) (fun x hx => nomatch hx) (wK K 189 rfl) (wK K 73 rfl) (notFace_of_selects (args := #[]) (mvT W11.warm (wK K 75 rfl))) (wK K 75 rfl) (wK K 74 rfl) (wK K 11 rfl) (wK K 76 rfl) (by decide) (na := 0) rfl (by decide +kernel) rfl (stk := [(.ref x), (.int 2)]) rfl (by decide +kernel) (V := 1) (lb rfl) (lb rfl) (lb rfl) (lb rfl) (lb rfl)
  refine oLift st12 ?_
  rw [e12] at W12 C12
  show OG _ _ _ _ _ _ _ _ _ _ _ (mkF m 55 #[sR a, sR x, sI 2] [(.int 2), (.int 2)])
  refine oIcT W12 (cd := .ge) (o := 57) (by decide +kernel) (XT.ii_ge_t (by decide)) (pc' := 112) (by decide) (by decide) ?_
  refine oGo W12 [.aload_n 1] (by decide +kernel) (ls' := #[sR a, sR x, sI 2]) (st' := [(.ref x)]) rfl rfl (pc' := 113) rfl ?_
  obtain ⟨a13, b13, k13, T13, h13, vm13, W13, E13, C13, x13, c13, u13, A13, st13⟩ := oLdcC W12 (pc := 113) (ls := #[sR a, sR x, sI 2]) (st := [(.ref x)]) (wK K 194 rfl) hS (by decide) (vs := (([46] : List Int32).map fun c => Value.int c.toInt8.toInt32)) (z := 1) (by decide +kernel) (by decide) (by decide) (by decide +kernel) (n := 4) (lb rfl) (lb rfl) (lb rfl) (lb rfl)
  refine oLift st13 ?_
  have F13 : Str Z h13 a13 [46] := ⟨b13, k13, x13, c13, u13, A13, by decide⟩
  obtain ⟨v14, T14, L14, h14, vm14, W14, ⟨rfl, e14⟩, C14, st14⟩ := oCallV W13 (idx := 64) (pc := 115) (ls := #[sR a, sR x, sI 2]) (st := []) (argsL := [(.ref a13)]) ((((F.exa.ext E2).ext E8).ext E11).ext E13) (k_Eq K.2.1 he (lb rfl) (lb rfl) ((((F.ext E2).ext E8).ext E11).ext E13) F13) (fun x hx => nomatch hx) (wK K 195 rfl) (wK K 196 rfl) (notFace_of_selects (args := #[]) (mvT W13.warm (wK K 198 rfl))) (wK K 198 rfl) (wK K 197 rfl) (wK K 11 rfl) (wK K 199 rfl) (by decide) (na := 1) rfl (by decide +kernel) rfl (stk := [(.ref a13), (.ref x)]) rfl (by decide +kernel) (V := 0) (lb rfl) (lb rfl) (lb rfl) (lb rfl) (lb rfl)
  refine oLift st14 ?_
  rw [e14] at W14 C14
  show OG _ _ _ _ _ _ _ _ _ _ _ (mkF m 118 #[sR a, sR x, sI 2] [(.int (if ([c0, c1] : List Int32) = [46] then 1 else 0))])
  refine oIfF W14 (cd := .ne) (o := 12) (by decide +kernel) (XT.i0_ne_f (if_neg (by simp))) (pc' := 121) rfl ?_
  refine oGo W14 [.aload_n 1] (by decide +kernel) (ls' := #[sR a, sR x, sI 2]) (st' := [(.ref x)]) rfl rfl (pc' := 122) rfl ?_
  obtain ⟨a15, b15, k15, T15, h15, vm15, W15, E15, C15, x15, c15, u15, A15, st15⟩ := oLdcC W14 (pc := 122) (ls := #[sR a, sR x, sI 2]) (st := [(.ref x)]) (wK K 204 rfl) hS (by decide) (vs := (([46, 46] : List Int32).map fun c => Value.int c.toInt8.toInt32)) (z := 2) (by decide +kernel) (by decide) (by decide) (by decide +kernel) (n := 8) (lb rfl) (lb rfl) (lb rfl) (lb rfl)
  refine oLift st15 ?_
  have F15 : Str Z h15 a15 [46, 46] := ⟨b15, k15, x15, c15, u15, A15, by decide⟩
  obtain ⟨v16, T16, L16, h16, vm16, W16, ⟨rfl, e16⟩, C16, st16⟩ := oCallV W15 (idx := 64) (pc := 124) (ls := #[sR a, sR x, sI 2]) (st := []) (argsL := [(.ref a15)]) (((((F.exa.ext E2).ext E8).ext E11).ext E13).ext E15) (k_Eq K.2.1 he (lb rfl) (lb rfl) (((((F.ext E2).ext E8).ext E11).ext E13).ext E15) F15) (fun x hx => nomatch hx) (wK K 195 rfl) (wK K 196 rfl) (notFace_of_selects (args := #[]) (mvT W15.warm (wK K 198 rfl))) (wK K 198 rfl) (wK K 197 rfl) (wK K 11 rfl) (wK K 199 rfl) (by decide) (na := 1) rfl (by decide +kernel) rfl (stk := [(.ref a15), (.ref x)]) rfl (by decide +kernel) (V := 0) (lb rfl) (lb rfl) (lb rfl) (lb rfl) (lb rfl)
  refine oLift st16 ?_
  rw [e16] at W16 C16
  show OG _ _ _ _ _ _ _ _ _ _ _ (mkF m 127 #[sR a, sR x, sI 2] [(.int (if ([c0, c1] : List Int32) = [46, 46] then 1 else 0))])
  refine oIfT W16 (cd := .eq) (o := 35) (by decide +kernel) (XT.i0_eq_t (if_neg (fun q => hn2 (by simpa using q)))) (pc' := 162) (by decide) (by decide) ?_
  refine oGo W16 [.aload_n 0, .aload_n 1] (by decide +kernel) (ls' := #[sR a, sR x, sI 2]) (st' := [(.ref x), (.ref a)]) rfl rfl (pc' := 164) rfl ?_
  obtain ⟨T17, h17, W17, Wr17, F17, X17, C17, st17⟩ := oPutF W16 (idx := 85) (pc := 164) (ls := #[sR a, sR x, sI 2]) (st := []) (v := (.ref x)) (wK K 205 rfl) Via.refl (((((Fb.ext E2).ext E8).ext E11).ext E13).ext E15) (((((X.ext E2).ext E8).ext E11).ext E13).ext E15) (Or.inr ⟨(wK K 206 rfl), rfl, rfl⟩) (wK K 168 rfl) (ty := (.object "java/lang/String")) (by decide) rfl rfl hfr (Safe.exa W16.warm.alike (((((X.ext E2).ext E8).ext E11).ext E13).ext E15) (by decide) (by decide)) (by decide +kernel)
  refine oLift st17 ?_
  exact oRet0 W17 (by decide +kernel) (lb rfl) (lb rfl) (fun vm' hv => ⟨rfl, (((((((Keep.refl _ [a]).ext E2).ext E8).ext E11).ext E13).ext E15).wr Wr17 (Or.inl (List.mem_singleton.mpr rfl))), X17, F17⟩)
abbrev rm_c_cn3 : Room := { frames := 5, cells := 12, slots := 104, locals := 71 }
set_option maxRecDepth 65536 in
set_option maxHeartbeats 40000000 in
theorem c_cn3 {l : Launch} {Z : State} {a0 : Array Value} (K : Ctx Z a0) {a x : Addr} {c0 c1 c2 : Int32} {h0 : Heap} (F : Str Z h0 x [c0, c1, c2]) (q0 : Alw c0) (q1 : Alw c1) (q2 : Alw c2) (hfr : Z.heap.size ≤ a) (X : Exa Z h0 a "com/example/gentle_hub/gentlehub/core/ChannelName") (Fb : Fld Z h0 a "com/example/gentle_hub/gentlehub/core/ChannelName" "value" "Ljava/lang/String;" .null) :
    OC l Z EL false [] (⟨"com/example/gentle_hub/gentlehub/core/ChannelName", "<init>", "(Ljava/lang/String;)V"⟩ : MethodName) prog_1_method_1_code 3 none rm_c_cn3 #[(.ref a), (.ref x)] h0 [] (fun v _ h => v = none ∧ Keep h0 h [a] ∧ Exa Z h a "com/example/gentle_hub/gentlehub/core/ChannelName" ∧ Fld Z h a "com/example/gentle_hub/gentlehub/core/ChannelName" "value" "Ljava/lang/String;" (.ref x)) := by
  have hw := K.1
  have hS : ∀ a ∈ Bundle.stringAtoms, a.before a0 Z = true := K.2.2.1
  have he := K.2.2.2.2.1
  refine oEnter (by decide +kernel) K.2.1.2.1 ?_
  intro _p _e _s m _below _meth _c T0 W0 S0
  refine oEq (g' := mkF m 0 #[.val (.ref a), .val (.ref x), .unset] []) (by first | (simp [entryFrame, mkF, argsToLocals, Value.category]; done) | rfl) ?_
  refine oGo W0 [.aload_n 0] (by decide +kernel) (ls' := #[sR a, sR x, sU]) (st' := [(.ref a)]) rfl rfl (pc' := 1) rfl ?_
  obtain ⟨v1, T1, L1, h1, vm1, W1, ⟨rfl, e1⟩, C1, st1⟩ := oCallN W0 (idx := 1) (pc := 1) (ls := #[sR a, sR x, sU]) (st := []) (a := a) (argsL := []) (c_rec K) (fun x hx => nomatch hx) rfl (wK K 173 rfl) (wK K 174 rfl) (wK K 176 rfl) (wK K 177 rfl) (by decide) (na := 0) rfl (by decide +kernel) rfl (stk := [(.ref a)]) rfl (by decide +kernel) (V := 0) (lb rfl) (lb rfl) (lb rfl) (lb rfl) (lb rfl)
  refine oLift st1 ?_
  rw [e1] at W1 C1
  show OG _ _ _ _ _ _ _ _ _ _ _ (mkF m 4 #[sR a, sR x, sU] [])
  refine oGo W1 [.aload_n 1] (by decide +kernel) (ls' := #[sR a, sR x, sU]) (st' := [(.ref x)]) rfl rfl (pc' := 5) rfl ?_
  obtain ⟨a2, T2, h2, vm2, W2, E2, C2, st2⟩ := oLdc W1 (pc := 5) (ls := #[sR a, sR x, sU]) (st := [(.ref x)]) (wK K 179 rfl) hS (by decide +kernel) (n := 20) (lb rfl) (lb rfl) (lb rfl) (lb rfl)
  refine oLift st2 ?_
  obtain ⟨v3, T3, L3, h3, vm3, W3, ⟨rfl, e3⟩, C3, st3⟩ := oCallS W2 (idx := 9) (pc := 7) (ls := #[sR a, sR x, sU]) (st := []) (argsL := [(.ref x), (.ref a2)]) (c_rnn K) (fun x hx => nomatch hx) (wK K 180 rfl) (wK K 181 rfl) (wK K 182 rfl) (wK K 183 rfl) (by decide) (na := 2) rfl (by decide +kernel) rfl (stk := [(.ref a2), (.ref x)]) rfl (by decide +kernel) (V := 0) (lb rfl) (lb rfl) (lb rfl) (lb rfl) (lb rfl)
  refine oLift st3 ?_
  rw [e3] at W3 C3
  show OG _ _ _ _ _ _ _ _ _ _ _ (mkF m 10 #[sR a, sR x, sU] [(.ref x)])
  refine oGo W3 [.pop, .aload_n 1] (by decide +kernel) (ls' := #[sR a, sR x, sU]) (st' := [(.ref x)]) rfl rfl (pc' := 12) rfl ?_
  obtain ⟨v4, T4, L4, h4, vm4, W4, ⟨rfl, e4⟩, C4, st4⟩ := oCallV W3 (idx := 15) (pc := 12) (ls := #[sR a, sR x, sU]) (st := []) (argsL := []) (F.exa.ext E2) (c_emp K (F.ext E2) (lb rfl)) (fun x hx => nomatch hx) (wK K 184 rfl) (wK K 185 rfl) (notFace_of_selects (args := #[]) (mvT W3.warm (wK K 187 rfl))) (wK K 187 rfl) (wK K 186 rfl) (wK K 11 rfl) (wK K 188 rfl) (by decide) (na := 0) rfl (by decide +kernel) rfl (stk := [(.ref x)]) rfl (by decide +kernel) (V := 0) (lb rfl) (lb rfl) (lb rfl) (lb rfl) (lb rfl)
  refine oLift st4 ?_
  rw [e4] at W4 C4
  show OG _ _ _ _ _ _ _ _ _ _ _ (mkF m 15 #[sR a, sR x, sU] [(.int (if ([c0, c1, c2] : List Int32) = [] then 1 else 0))])
  refine oIfT W4 (cd := .eq) (o := 13) (by decide +kernel) (XT.i0_eq_t (if_neg (by simp))) (pc' := 28) (by decide) (by decide) ?_
  refine oGo W4 [.aload_n 1] (by decide +kernel) (ls' := #[sR a, sR x, sU]) (st' := [(.ref x)]) rfl rfl (pc' := 29) rfl ?_
  obtain ⟨v5, T5, L5, h5, vm5, W5, ⟨rfl, e5⟩, C5, st5⟩ := oCallV W4 (idx := 28) (pc := 29) (ls := #[sR a, sR x, sU]) (st := []) (argsL := []) (F.exa.ext E2) (c_len K (F.ext E2)) (fun x hx => nomatch hx) (wK K 189 rfl) (wK K 73 rfl) (notFace_of_selects (args := #[]) (mvT W4.warm (wK K 75 rfl))) (wK K 75 rfl) (wK K 74 rfl) (wK K 11 rfl) (wK K 76 rfl) (by decide) (na := 0) rfl (by decide +kernel) rfl (stk := [(.ref x)]) rfl (by decide +kernel) (V := 0) (lb rfl) (lb rfl) (lb rfl) (lb rfl) (lb rfl)
  refine oLift st5 ?_
  rw [e5] at W5 C5
  show OG _ _ _ _ _ _ _ _ _ _ _ (mkF m 32 #[sR a, sR x, sU] [(.int 3)])
  refine oGo W5 [.sipush 255] (by decide +kernel) (ls' := #[sR a, sR x, sU]) (st' := [(.int 255), (.int 3)]) rfl rfl (pc' := 35) rfl ?_
  refine oIcT W5 (cd := .le) (o := 13) (by decide +kernel) (XT.ii_le_t (by decide)) (pc' := 48) (by decide) (by decide) ?_
  refine oGo W5 [.iconst 0, .istore_n 2, .iload_n 2, .aload_n 1] (by decide +kernel) (ls' := #[sR a, sR x, sI 0]) (st' := [(.ref x), (.int 0)]) rfl rfl (pc' := 52) rfl ?_
  obtain ⟨v6, T6, L6, h6, vm6, W6, ⟨rfl, e6⟩, C6, st6⟩ := oCallV W5 (idx := 28) (pc := 52) (ls := #[sR a, sR x, sI 0]) (st := [(.int 0)]) (argsL := []) (F.exa.ext E2) (c_len K (F.ext E2)) (fun x hx => nomatch hx) (wK K 189 rfl) (wK K 73 rfl) (notFace_of_selects (args := #[]) (mvT W5.warm (wK K 75 rfl))) (wK K 75 rfl) (wK K 74 rfl) (wK K 11 rfl) (wK K 76 rfl) (by decide) (na := 0) rfl (by decide +kernel) rfl (stk := [(.ref x), (.int 0)]) rfl (by decide +kernel) (V := 1) (lb rfl) (lb rfl) (lb rfl) (lb rfl) (lb rfl)
  refine oLift st6 ?_
  rw [e6] at W6 C6
  show OG _ _ _ _ _ _ _ _ _ _ _ (mkF m 55 #[sR a, sR x, sI 0] [(.int 3), (.int 0)])
  refine oIcF W6 (cd := .ge) (o := 57) (by decide +kernel) (XT.ii_ge_f (by decide)) (pc' := 58) rfl ?_
  refine oGo W6 [.aload_n 1, .iload_n 2] (by decide +kernel) (ls' := #[sR a, sR x, sI 0]) (st' := [(.int 0), (.ref x)]) rfl rfl (pc' := 60) rfl ?_
  obtain ⟨v7, T7, L7, h7, vm7, W7, ⟨rfl, e7⟩, C7, st7⟩ := oCallV W6 (idx := 36) (pc := 60) (ls := #[sR a, sR x, sI 0]) (st := []) (argsL := [(.int 0)]) (F.exa.ext E2) (c_chr K K.2.2.2.1 (F.ext E2) (lb rfl) (i := 0) (by decide) (c := c0) rfl) (fun x hx => nomatch hx) (wK K 190 rfl) (wK K 102 rfl) (notFace_of_selects (args := #[]) (mvT W6.warm (wK K 104 rfl))) (wK K 104 rfl) (wK K 103 rfl) (wK K 11 rfl) (wK K 105 rfl) (by decide) (na := 1) rfl (by decide +kernel) rfl (stk := [(.int 0), (.ref x)]) rfl (by decide +kernel) (V := 0) (lb rfl) (lb rfl) (lb rfl) (lb rfl) (lb rfl)
  refine oLift st7 ?_
  rw [e7] at W7 C7
  show OG _ _ _ _ _ _ _ _ _ _ _ (mkF m 63 #[sR a, sR x, sI 0] [(.int c0)])
  obtain ⟨v8, T8, L8, h8, vm8, W8, ⟨rfl, E8⟩, C8, st8⟩ := oCallS W7 (idx := 40) (pc := 63) (ls := #[sR a, sR x, sI 0]) (st := []) (argsL := [(.int c0)]) (c_isa K q0) (fun x hx => nomatch hx) (wK K 191 rfl) (wK K 192 rfl) (wK K 169 rfl) (wK K 193 rfl) (by decide) (na := 1) rfl (by decide +kernel) rfl (stk := [(.int c0)]) rfl (by decide +kernel) (V := 0) (lb rfl) (lb rfl) (lb rfl) (lb rfl) (lb rfl)
  refine oLift st8 ?_
  show OG _ _ _ _ _ _ _ _ _ _ _ (mkF m 66 #[sR a, sR x, sI 0] [(.int 1)])
  refine oIfT W8 (cd := .ne) (o := 40) (by decide +kernel) (XT.i0_ne_t (by decide)) (pc' := 106) (by decide) (by decide) ?_
  refine oGo W8 [.iinc 2 1, .goto (-59), .iload_n 2, .aload_n 1] (by decide +kernel) (ls' := #[sR a, sR x, sI 1]) (st' := [(.ref x), (.int 1)]) rfl rfl (pc' := 52) rfl ?_
  obtain ⟨v9, T9, L9, h9, vm9, W9, ⟨rfl, e9⟩, C9, st9⟩ := oCallV W8 (idx := 28) (pc := 52) (ls := #[sR a, sR x, sI 1]) (st := [(.int 1)]) (argsL := []) ((F.exa.ext E2).ext E8) (c_len K ((F.ext E2).ext E8)) (fun x hx => nomatch hx) (wK K 189 rfl) (wK K 73 rfl) (notFace_of_selects (args := #[]) (mvT W8.warm (wK K 75 rfl))) (wK K 75 rfl) (wK K 74 rfl) (wK K 11 rfl) (wK K 76 rfl) (by decide) (na := 0) rfl (by decide +kernel) rfl (stk := [(.ref x), (.int 1)]) rfl (by decide +kernel) (V := 1) (lb rfl) (lb rfl) (lb rfl) (lb rfl) (lb rfl)
  refine oLift st9 ?_
  rw [e9] at W9 C9
  show OG _ _ _ _ _ _ _ _ _ _ _ (mkF m 55 #[sR a, sR x, sI 1] [(.int 3), (.int 1)])
  refine oIcF W9 (cd := .ge) (o := 57) (by decide +kernel) (XT.ii_ge_f (by decide)) (pc' := 58) rfl ?_
  refine oGo W9 [.aload_n 1, .iload_n 2] (by decide +kernel) (ls' := #[sR a, sR x, sI 1]) (st' := [(.int 1), (.ref x)]) rfl rfl (pc' := 60) rfl ?_
  obtain ⟨v10, T10, L10, h10, vm10, W10, ⟨rfl, e10⟩, C10, st10⟩ := oCallV W9 (idx := 36) (pc := 60) (ls := #[sR a, sR x, sI 1]) (st := []) (argsL := [(.int 1)]) ((F.exa.ext E2).ext E8) (c_chr K K.2.2.2.1 ((F.ext E2).ext E8) (lb rfl) (i := 1) (by decide) (c := c1) rfl) (fun x hx => nomatch hx) (wK K 190 rfl) (wK K 102 rfl) (notFace_of_selects (args := #[]) (mvT W9.warm (wK K 104 rfl))) (wK K 104 rfl) (wK K 103 rfl) (wK K 11 rfl) (wK K 105 rfl) (by decide) (na := 1) rfl (by decide +kernel) rfl (stk := [(.int 1), (.ref x)]) rfl (by decide +kernel) (V := 0) (lb rfl) (lb rfl) (lb rfl) (lb rfl) (lb rfl)
  refine oLift st10 ?_
  rw [e10] at W10 C10
  show OG _ _ _ _ _ _ _ _ _ _ _ (mkF m 63 #[sR a, sR x, sI 1] [(.int c1)])
  obtain ⟨v11, T11, L11, h11, vm11, W11, ⟨rfl, E11⟩, C11, st11⟩ := oCallS W10 (idx := 40) (pc := 63) (ls := #[sR a, sR x, sI 1]) (st := []) (argsL := [(.int c1)]) (c_isa K q1) (fun x hx => nomatch hx) (wK K 191 rfl) (wK K 192 rfl) (wK K 169 rfl) (wK K 193 rfl) (by decide) (na := 1) rfl (by decide +kernel) rfl (stk := [(.int c1)]) rfl (by decide +kernel) (V := 0) (lb rfl) (lb rfl) (lb rfl) (lb rfl) (lb rfl)
  refine oLift st11 ?_
  show OG _ _ _ _ _ _ _ _ _ _ _ (mkF m 66 #[sR a, sR x, sI 1] [(.int 1)])
  refine oIfT W11 (cd := .ne) (o := 40) (by decide +kernel) (XT.i0_ne_t (by decide)) (pc' := 106) (by decide) (by decide) ?_
  refine oGo W11 [.iinc 2 1, .goto (-59), .iload_n 2, .aload_n 1] (by decide +kernel) (ls' := #[sR a, sR x, sI 2]) (st' := [(.ref x), (.int 2)]) rfl rfl (pc' := 52) rfl ?_
  obtain ⟨v12, T12, L12, h12, vm12, W12, ⟨rfl, e12⟩, C12, st12⟩ := oCallV W11 (idx := 28) (pc := 52) (ls := #[sR a, sR x, sI 2]) (st := [(.int 2)]) (argsL := []) (((F.exa.ext E2).ext E8).ext E11) (c_len K (((F.ext E2).ext E8).ext E11)) (fun x hx => nomatch hx) (wK K 189 rfl) (wK K 73 rfl) (notFace_of_selects (args := #[]) (mvT W11.warm (wK K 75 rfl))) (wK K 75 rfl) (wK K 74 rfl) (wK K 11 rfl) (wK K 76 rfl) (by decide) (na := 0) rfl (by decide +kernel) rfl (stk := [(.ref x), (.int 2)]) rfl (by decide +kernel) (V := 1) (lb rfl) (lb rfl) (lb rfl) (lb rfl) (lb rfl)
  refine oLift st12 ?_
  rw [e12] at W12 C12
  show OG _ _ _ _ _ _ _ _ _ _ _ (mkF m 55 #[sR a, sR x, sI 2] [(.int 3), (.int 2)])
  refine oIcF W12 (cd := .ge) (o := 57) (by decide +kernel) (XT.ii_ge_f (by decide)) (pc' := 58) rfl ?_
  refine oGo W12 [.aload_n 1, .iload_n 2] (by decide +kernel) (ls' := #[sR a, sR x, sI 2]) (st' := [(.int 2), (.ref x)]) rfl rfl (pc' := 60) rfl ?_
  obtain ⟨v13, T13, L13, h13, vm13, W13, ⟨rfl, e13⟩, C13, st13⟩ := oCallV W12 (idx := 36) (pc := 60) (ls := #[sR a, sR x, sI 2]) (st := []) (argsL := [(.int 2)]) (((F.exa.ext E2).ext E8).ext E11) (c_chr K K.2.2.2.1 (((F.ext E2).ext E8).ext E11) (lb rfl) (i := 2) (by decide) (c := c2) rfl) (fun x hx => nomatch hx) (wK K 190 rfl) (wK K 102 rfl) (notFace_of_selects (args := #[]) (mvT W12.warm (wK K 104 rfl))) (wK K 104 rfl) (wK K 103 rfl) (wK K 11 rfl) (wK K 105 rfl) (by decide) (na := 1) rfl (by decide +kernel) rfl (stk := [(.int 2), (.ref x)]) rfl (by decide +kernel) (V := 0) (lb rfl) (lb rfl) (lb rfl) (lb rfl) (lb rfl)
  refine oLift st13 ?_
  rw [e13] at W13 C13
  show OG _ _ _ _ _ _ _ _ _ _ _ (mkF m 63 #[sR a, sR x, sI 2] [(.int c2)])
  obtain ⟨v14, T14, L14, h14, vm14, W14, ⟨rfl, E14⟩, C14, st14⟩ := oCallS W13 (idx := 40) (pc := 63) (ls := #[sR a, sR x, sI 2]) (st := []) (argsL := [(.int c2)]) (c_isa K q2) (fun x hx => nomatch hx) (wK K 191 rfl) (wK K 192 rfl) (wK K 169 rfl) (wK K 193 rfl) (by decide) (na := 1) rfl (by decide +kernel) rfl (stk := [(.int c2)]) rfl (by decide +kernel) (V := 0) (lb rfl) (lb rfl) (lb rfl) (lb rfl) (lb rfl)
  refine oLift st14 ?_
  show OG _ _ _ _ _ _ _ _ _ _ _ (mkF m 66 #[sR a, sR x, sI 2] [(.int 1)])
  refine oIfT W14 (cd := .ne) (o := 40) (by decide +kernel) (XT.i0_ne_t (by decide)) (pc' := 106) (by decide) (by decide) ?_
  refine oGo W14 [.iinc 2 1, .goto (-59), .iload_n 2, .aload_n 1] (by decide +kernel) (ls' := #[sR a, sR x, sI 3]) (st' := [(.ref x), (.int 3)]) rfl rfl (pc' := 52) rfl ?_
  obtain ⟨v15, T15, L15, h15, vm15, W15, ⟨rfl, e15⟩, C15, st15⟩ := oCallV W14 (idx := 28) (pc := 52) (ls := #[sR a, sR x, sI 3]) (st := [(.int 3)]) (argsL := []) ((((F.exa.ext E2).ext E8).ext E11).ext E14) (c_len K ((((F.ext E2).ext E8).ext E11).ext E14)) (fun x hx => nomatch hx) (wK K 189 rfl) (wK K 73 rfl) (notFace_of_selects (args := #[]) (mvT W14.warm (wK K 75 rfl))) (wK K 75 rfl) (wK K 74 rfl) (wK K 11 rfl) (wK K 76 rfl) (by decide) (na := 0) rfl (by decide +kernel) rfl (stk := [(.ref x), (.int 3)]) rfl (by decide +kernel) (V := 1) (lb rfl) (lb rfl) (lb rfl) (lb rfl) (lb rfl)
  refine oLift st15 ?_
  rw [e15] at W15 C15
  show OG _ _ _ _ _ _ _ _ _ _ _ (mkF m 55 #[sR a, sR x, sI 3] [(.int 3), (.int 3)])
  refine oIcT W15 (cd := .ge) (o := 57) (by decide +kernel) (XT.ii_ge_t (by decide)) (pc' := 112) (by decide) (by decide) ?_
  refine oGo W15 [.aload_n 1] (by decide +kernel) (ls' := #[sR a, sR x, sI 3]) (st' := [(.ref x)]) rfl rfl (pc' := 113) rfl ?_
  obtain ⟨a16, b16, k16, T16, h16, vm16, W16, E16, C16, x16, c16, u16, A16, st16⟩ := oLdcC W15 (pc := 113) (ls := #[sR a, sR x, sI 3]) (st := [(.ref x)]) (wK K 194 rfl) hS (by decide) (vs := (([46] : List Int32).map fun c => Value.int c.toInt8.toInt32)) (z := 1) (by decide +kernel) (by decide) (by decide) (by decide +kernel) (n := 4) (lb rfl) (lb rfl) (lb rfl) (lb rfl)
  refine oLift st16 ?_
  have F16 : Str Z h16 a16 [46] := ⟨b16, k16, x16, c16, u16, A16, by decide⟩
  obtain ⟨v17, T17, L17, h17, vm17, W17, ⟨rfl, e17⟩, C17, st17⟩ := oCallV W16 (idx := 64) (pc := 115) (ls := #[sR a, sR x, sI 3]) (st := []) (argsL := [(.ref a16)]) (((((F.exa.ext E2).ext E8).ext E11).ext E14).ext E16) (k_Eq K.2.1 he (lb rfl) (lb rfl) (((((F.ext E2).ext E8).ext E11).ext E14).ext E16) F16) (fun x hx => nomatch hx) (wK K 195 rfl) (wK K 196 rfl) (notFace_of_selects (args := #[]) (mvT W16.warm (wK K 198 rfl))) (wK K 198 rfl) (wK K 197 rfl) (wK K 11 rfl) (wK K 199 rfl) (by decide) (na := 1) rfl (by decide +kernel) rfl (stk := [(.ref a16), (.ref x)]) rfl (by decide +kernel) (V := 0) (lb rfl) (lb rfl) (lb rfl) (lb rfl) (lb rfl)
  refine oLift st17 ?_
  rw [e17] at W17 C17
  show OG _ _ _ _ _ _ _ _ _ _ _ (mkF m 118 #[sR a, sR x, sI 3] [(.int (if ([c0, c1, c2] : List Int32) = [46] then 1 else 0))])
  refine oIfF W17 (cd := .ne) (o := 12) (by decide +kernel) (XT.i0_ne_f (if_neg (by simp))) (pc' := 121) rfl ?_
  refine oGo W17 [.aload_n 1] (by decide +kernel) (ls' := #[sR a, sR x, sI 3]) (st' := [(.ref x)]) rfl rfl (pc' := 122) rfl ?_
  obtain ⟨a18, b18, k18, T18, h18, vm18, W18, E18, C18, x18, c18, u18, A18, st18⟩ := oLdcC W17 (pc := 122) (ls := #[sR a, sR x, sI 3]) (st := [(.ref x)]) (wK K 204 rfl) hS (by decide) (vs := (([46, 46] : List Int32).map fun c => Value.int c.toInt8.toInt32)) (z := 2) (by decide +kernel) (by decide) (by decide) (by decide +kernel) (n := 8) (lb rfl) (lb rfl) (lb rfl) (lb rfl)
  refine oLift st18 ?_
  have F18 : Str Z h18 a18 [46, 46] := ⟨b18, k18, x18, c18, u18, A18, by decide⟩
  obtain ⟨v19, T19, L19, h19, vm19, W19, ⟨rfl, e19⟩, C19, st19⟩ := oCallV W18 (idx := 64) (pc := 124) (ls := #[sR a, sR x, sI 3]) (st := []) (argsL := [(.ref a18)]) ((((((F.exa.ext E2).ext E8).ext E11).ext E14).ext E16).ext E18) (k_Eq K.2.1 he (lb rfl) (lb rfl) ((((((F.ext E2).ext E8).ext E11).ext E14).ext E16).ext E18) F18) (fun x hx => nomatch hx) (wK K 195 rfl) (wK K 196 rfl) (notFace_of_selects (args := #[]) (mvT W18.warm (wK K 198 rfl))) (wK K 198 rfl) (wK K 197 rfl) (wK K 11 rfl) (wK K 199 rfl) (by decide) (na := 1) rfl (by decide +kernel) rfl (stk := [(.ref a18), (.ref x)]) rfl (by decide +kernel) (V := 0) (lb rfl) (lb rfl) (lb rfl) (lb rfl) (lb rfl)
  refine oLift st19 ?_
  rw [e19] at W19 C19
  show OG _ _ _ _ _ _ _ _ _ _ _ (mkF m 127 #[sR a, sR x, sI 3] [(.int (if ([c0, c1, c2] : List Int32) = [46, 46] then 1 else 0))])
  refine oIfT W19 (cd := .eq) (o := 35) (by decide +kernel) (XT.i0_eq_t (if_neg (by simp))) (pc' := 162) (by decide) (by decide) ?_
  refine oGo W19 [.aload_n 0, .aload_n 1] (by decide +kernel) (ls' := #[sR a, sR x, sI 3]) (st' := [(.ref x), (.ref a)]) rfl rfl (pc' := 164) rfl ?_
  obtain ⟨T20, h20, W20, Wr20, F20, X20, C20, st20⟩ := oPutF W19 (idx := 85) (pc := 164) (ls := #[sR a, sR x, sI 3]) (st := []) (v := (.ref x)) (wK K 205 rfl) Via.refl ((((((Fb.ext E2).ext E8).ext E11).ext E14).ext E16).ext E18) ((((((X.ext E2).ext E8).ext E11).ext E14).ext E16).ext E18) (Or.inr ⟨(wK K 206 rfl), rfl, rfl⟩) (wK K 168 rfl) (ty := (.object "java/lang/String")) (by decide) rfl rfl hfr (Safe.exa W19.warm.alike ((((((X.ext E2).ext E8).ext E11).ext E14).ext E16).ext E18) (by decide) (by decide)) (by decide +kernel)
  refine oLift st20 ?_
  exact oRet0 W20 (by decide +kernel) (lb rfl) (lb rfl) (fun vm' hv => ⟨rfl, ((((((((Keep.refl _ [a]).ext E2).ext E8).ext E11).ext E14).ext E16).ext E18).wr Wr20 (Or.inl (List.mem_singleton.mpr rfl))), X20, F20⟩)
abbrev rm_c_cli : Room := { frames := 2, cells := 0, slots := 0, locals := 24 }
set_option maxRecDepth 65536 in
set_option maxHeartbeats 40000000 in
theorem c_cli {l : Launch} {Z : State} {a0 : Array Value} {nb : Bool} (K : Ctx Z a0) {a r n : Addr} {h0 : Heap} (hfr : Z.heap.size ≤ a) (X : Exa Z h0 a "com/example/gentle_hub/gentlehub/server/ChannelLocation") (Fb0 : Fld Z h0 a "com/example/gentle_hub/gentlehub/server/ChannelLocation" "role" "Lcom/example/gentle_hub/gentlehub/server/ChannelLocation$Role;" .null) (Fb1 : Fld Z h0 a "com/example/gentle_hub/gentlehub/server/ChannelLocation" "channel" "Lcom/example/gentle_hub/gentlehub/core/ChannelName;" .null) :
    OC l Z EL nb [] (⟨"com/example/gentle_hub/gentlehub/server/ChannelLocation", "<init>", "(Lcom/example/gentle_hub/gentlehub/server/ChannelLocation$Role;Lcom/example/gentle_hub/gentlehub/core/ChannelName;)V"⟩ : MethodName) prog_15_method_1_code 3 none rm_c_cli #[(.ref a), (.ref r), (.ref n)] h0 [] (fun v _ h => v = none ∧ Keep h0 h [a] ∧ Exa Z h a "com/example/gentle_hub/gentlehub/server/ChannelLocation" ∧ Fld Z h a "com/example/gentle_hub/gentlehub/server/ChannelLocation" "role" "Lcom/example/gentle_hub/gentlehub/server/ChannelLocation$Role;" (.ref r) ∧ Fld Z h a "com/example/gentle_hub/gentlehub/server/ChannelLocation" "channel" "Lcom/example/gentle_hub/gentlehub/core/ChannelName;" (.ref n)) := by
  have hw := K.1
  have hS : ∀ a ∈ Bundle.stringAtoms, a.before a0 Z = true := K.2.2.1
  refine oEnter (by decide +kernel) K.2.1.2.1 ?_
  intro _p _e _s m _below _meth _c T0 W0 S0
  refine oEq (g' := mkF m 0 #[.val (.ref a), .val (.ref r), .val (.ref n)] []) (by first | (simp [entryFrame, mkF, argsToLocals, Value.category]; done) | rfl) ?_
  refine oGo W0 [.aload_n 0] (by decide +kernel) (ls' := #[sR a, sR r, sR n]) (st' := [(.ref a)]) rfl rfl (pc' := 1) rfl ?_
  obtain ⟨v1, T1, L1, h1, vm1, W1, ⟨rfl, e1⟩, C1, st1⟩ := oCallN W0 (idx := 1) (pc := 1) (ls := #[sR a, sR r, sR n]) (st := []) (a := a) (argsL := []) (c_rec K) (fun x hx => nomatch hx) rfl (wK K 210 rfl) (wK K 174 rfl) (wK K 176 rfl) (wK K 177 rfl) (by decide) (na := 0) rfl (by decide +kernel) rfl (stk := [(.ref a)]) rfl (by decide +kernel) (V := 0) (lb rfl) (lb rfl) (lb rfl) (lb rfl) (lb rfl)
  refine oLift st1 ?_
  rw [e1] at W1 C1
  show OG _ _ _ _ _ _ _ _ _ _ _ (mkF m 4 #[sR a, sR r, sR n] [])
  refine oGo W1 [.aload_n 0, .aload_n 1] (by decide +kernel) (ls' := #[sR a, sR r, sR n]) (st' := [(.ref r), (.ref a)]) rfl rfl (pc' := 6) rfl ?_
  obtain ⟨T2, h2, W2, Wr2, F2, X2, C2, st2⟩ := oPutF W1 (idx := 7) (pc := 6) (ls := #[sR a, sR r, sR n]) (st := []) (v := (.ref r)) (wK K 211 rfl) Via.refl Fb0 X (Or.inr ⟨(wK K 212 rfl), rfl, rfl⟩) (wK K 166 rfl) (ty := (.object "com/example/gentle_hub/gentlehub/server/ChannelLocation$Role")) (by decide) rfl rfl hfr (Safe.exa W1.warm.alike X (by decide) (by decide)) (by decide +kernel)
  refine oLift st2 ?_
  refine oGo W2 [.aload_n 0, .aload_n 2] (by decide +kernel) (ls' := #[sR a, sR r, sR n]) (st' := [(.ref n), (.ref a)]) rfl rfl (pc' := 11) rfl ?_
  obtain ⟨T3, h3, W3, Wr3, F3, X3, C3, st3⟩ := oPutF W2 (idx := 13) (pc := 11) (ls := #[sR a, sR r, sR n]) (st := []) (v := (.ref n)) (wK K 213 rfl) Via.refl (Fb1.other Wr2 (Or.inr (slot_ne (a0 := a0) (C := "com/example/gentle_hub/gentlehub/server/ChannelLocation") (Or.inr (wK K 214 rfl)) (Or.inr (wK K 212 rfl)) (by decide) (t := (.object "com/example/gentle_hub/gentlehub/core/ChannelName")) (t' := (.object "com/example/gentle_hub/gentlehub/server/ChannelLocation$Role")) (by decide) (by decide)))) X2 (Or.inr ⟨(wK K 214 rfl), rfl, rfl⟩) (wK K 166 rfl) (ty := (.object "com/example/gentle_hub/gentlehub/core/ChannelName")) (by decide) rfl rfl hfr (Safe.exa W2.warm.alike X2 (by decide) (by decide)) (by decide +kernel)
  refine oLift st3 ?_
  exact oRet0 W3 (by decide +kernel) (lb rfl) (lb rfl) (fun vm' hv => ⟨rfl, (((Keep.refl _ [a]).wr Wr2 (Or.inl (List.mem_singleton.mpr rfl))).wr Wr3 (Or.inl (List.mem_singleton.mpr rfl))), X3, (F2.other Wr3 (Or.inr (slot_ne (a0 := a0) (C := "com/example/gentle_hub/gentlehub/server/ChannelLocation") (Or.inr (wK K 212 rfl)) (Or.inr (wK K 214 rfl)) (by decide) (t := (.object "com/example/gentle_hub/gentlehub/server/ChannelLocation$Role")) (t' := (.object "com/example/gentle_hub/gentlehub/core/ChannelName")) (by decide) (by decide)))), F3⟩)
abbrev rm_c_path : Room := { frames := 6, cells := 4, slots := 56, locals := 113 }
set_option maxRecDepth 65536 in
set_option maxHeartbeats 40000000 in
theorem c_path {l : Launch} {Z : State} {a0 : Array Value} {nb : Bool} (K : Ctx Z a0) {a r n p x : Addr} {ps cs : List Int32} {h0 : Heap} (Fr1 : Fld Z h0 a "com/example/gentle_hub/gentlehub/server/ChannelLocation" "role" "Lcom/example/gentle_hub/gentlehub/server/ChannelLocation$Role;" (.ref r)) (Fc1 : Fld Z h0 a "com/example/gentle_hub/gentlehub/server/ChannelLocation" "channel" "Lcom/example/gentle_hub/gentlehub/core/ChannelName;" (.ref n)) (Fp1 : Fld Z h0 r "com/example/gentle_hub/gentlehub/server/ChannelLocation$Role" "pathPrefix" "Ljava/lang/String;" (.ref p)) (Sp1 : Str Z h0 p ps) (Xn1 : Exa Z h0 n "com/example/gentle_hub/gentlehub/core/ChannelName") (Fv1 : Fld Z h0 n "com/example/gentle_hub/gentlehub/core/ChannelName" "value" "Ljava/lang/String;" (.ref x)) (Sx1 : Str Z h0 x cs) (hl : ps.length + cs.length < 16) :
    OC l Z EL nb [] (⟨"com/example/gentle_hub/gentlehub/server/ChannelLocation", "path", "()Ljava/lang/String;"⟩ : MethodName) prog_15_method_2_code 1 (some (.object "java/lang/String")) rm_c_path #[(.ref a)] h0 [] (fun v _ h => ∃ y, v = some (.ref y) ∧ Str Z h y (ps ++ cs) ∧ Ext h0 h) := by
  have hw := K.1
  have hS : ∀ a ∈ Bundle.stringAtoms, a.before a0 Z = true := K.2.2.1
  refine oEnter (by decide +kernel) K.2.1.2.1 ?_
  intro _p _e _s m _below _meth _c T0 W0 S0
  refine oEq (g' := mkF m 0 #[.val (.ref a)] []) (by first | (simp [entryFrame, mkF, argsToLocals, Value.category]; done) | rfl) ?_
  obtain ⟨T1, h1, b, W1, g1, E1, A1, D1, S1, C1, st1⟩ := oNew W0 (pc := 0) (ls := #[sR a]) (st := []) (wK K 257 rfl) (wK K 258 rfl) (wK K 259 rfl) (by decide +kernel) (lb rfl) (lb rfl)
  refine oLift st1 ?_
  refine oGo W1 [.dup] (by decide +kernel) (ls' := #[sR a]) (st' := [(.ref b), (.ref b)]) rfl rfl (pc' := 4) rfl ?_
  have hbf : Z.heap.size ≤ b := (Nat.le_trans W0.ext.1 g1)
  obtain ⟨v2, T2, L2, h2, vm2, W2, ⟨rfl, t, kt, g2, K2, B2, S2⟩, C2, st2⟩ := oCallN W1 (idx := 19) (pc := 4) (ls := #[sR a]) (st := [(.ref b)]) (a := b) (argsL := []) (c_sbi K hbf A1 (D1 (Or.inl (wK K 272 rfl)) (ty := (.array .byte)) (by decide)) (D1 (Or.inl (wK K 274 rfl)) (ty := .byte) (by decide)) (D1 (Or.inl (wK K 287 rfl)) (ty := .int) (by decide))) (fun x hx => nomatch hx) rfl (wK K 260 rfl) (wK K 261 rfl) (wK K 259 rfl) (wK K 262 rfl) (by decide) (na := 0) rfl (by decide +kernel) rfl (stk := [(.ref b), (.ref b)]) rfl (by decide +kernel) (V := 1) (lb rfl) (lb rfl) (lb rfl) (lb rfl) (lb rfl)
  refine oLift st2 ?_
  show OG _ _ _ _ _ _ _ _ _ _ _ (mkF m 7 #[sR a] [(.ref b)])
  have hb0 : h0.size ≤ b := g1
  have ht0 : h0.size ≤ t := Nat.le_trans E1.1 g2
  refine oGo W2 [.aload_n 0] (by decide +kernel) (ls' := #[sR a]) (st' := [(.ref a), (.ref b)]) rfl rfl (pc' := 8) rfl ?_
  obtain ⟨T3, W3, st3⟩ := oGetF W2 (pc := 8) (ls := #[sR a]) (st := [(.ref b)]) (wK K 211 rfl) Via.refl (Fr1.ext (exK E1 K2 (fun y hy => by cases List.mem_singleton.mp hy; exact g1))) (by decide +kernel)
  refine oLift st3 ?_
  obtain ⟨T4, W4, st4⟩ := oGetFR W3 (pc := 11) (ls := #[sR a]) (st := [(.ref b)]) (wK K 60 rfl) Via.refl (Fp1.ext (exK E1 K2 (fun y hy => by cases List.mem_singleton.mp hy; exact g1))) (by decide +kernel)
  refine oLift st4 ?_
  obtain ⟨v5, T5, L5, h5, vm5, W5, ⟨rfl, K5, B5, S5⟩, C5, st5⟩ := oCallV W4 (idx := 26) (pc := 14) (ls := #[sR a]) (st := []) (argsL := [(.ref p)]) B2.1 (c_sap K B2 List.length_replicate (Sp1.ext (exK E1 K2 (fun y hy => by cases List.mem_singleton.mp hy; exact g1))) (show 0 + ps.length ≤ 16 by omega) hbf) (fun y hy => by cases List.mem_singleton.mp hy; exact ⟨B2.2.2.2.2.1.lt, S2⟩) (wK K 275 rfl) (wK K 276 rfl) (notFace_of_selects (args := #[]) (mvT W4.warm (wK K 278 rfl))) (wK K 278 rfl) (wK K 277 rfl) (wK K 259 rfl) (wK K 279 rfl) (by decide) (na := 1) rfl (by decide +kernel) rfl (stk := [(.ref p), (.ref b)]) rfl (by decide +kernel) (V := 0) (lb rfl) (lb rfl) (lb rfl) (lb rfl) (lb rfl)
  refine oLift st5 ?_
  show OG _ _ _ _ _ _ _ _ _ _ _ (mkF m 17 #[sR a] [(.ref b)])
  refine oGo W5 [.aload_n 0] (by decide +kernel) (ls' := #[sR a]) (st' := [(.ref a), (.ref b)]) rfl rfl (pc' := 18) rfl ?_
  obtain ⟨T6, W6, st6⟩ := oGetF W5 (pc := 18) (ls := #[sR a]) (st := [(.ref b)]) (wK K 213 rfl) Via.refl (Fc1.ext (exK (exK E1 K2 (fun y hy => by cases List.mem_singleton.mp hy; exact g1)) K5 (fun y hy => by rcases List.mem_cons.mp hy with rfl | hy; exact hb0; cases List.mem_singleton.mp hy; exact ht0))) (by decide +kernel)
  refine oLift st6 ?_
  obtain ⟨v7, T7, L7, h7, vm7, W7, ⟨rfl, e7⟩, C7, st7⟩ := oCallV W6 (idx := 30) (pc := 21) (ls := #[sR a]) (st := [(.ref b)]) (argsL := []) (Xn1.ext (exK (exK E1 K2 (fun y hy => by cases List.mem_singleton.mp hy; exact g1)) K5 (fun y hy => by rcases List.mem_cons.mp hy with rfl | hy; exact hb0; cases List.mem_singleton.mp hy; exact ht0))) (c_cnv K (Fv1.ext (exK (exK E1 K2 (fun y hy => by cases List.mem_singleton.mp hy; exact g1)) K5 (fun y hy => by rcases List.mem_cons.mp hy with rfl | hy; exact hb0; cases List.mem_singleton.mp hy; exact ht0)))) (fun x hx => nomatch hx) (wK K 310 rfl) (wK K 247 rfl) (notFace_of_selects (args := #[]) (mvT W6.warm (wK K 249 rfl))) (wK K 249 rfl) (wK K 248 rfl) (wK K 169 rfl) (wK K 250 rfl) (by decide) (na := 0) rfl (by decide +kernel) rfl (stk := [(.ref n), (.ref b)]) rfl (by decide +kernel) (V := 1) (lb rfl) (lb rfl) (lb rfl) (lb rfl) (lb rfl)
  refine oLift st7 ?_
  rw [e7] at W7 C7
  show OG _ _ _ _ _ _ _ _ _ _ _ (mkF m 24 #[sR a] [(.ref x), (.ref b)])
  have hv1 : (cpy (List.replicate 16 (Value.int 0)) (byt ps) 0 0 ps.length).length = 16 := by rw [cpy_len (by rw [List.length_map]; omega) (by rw [List.length_replicate]; omega), List.length_replicate]
  obtain ⟨v8, T8, L8, h8, vm8, W8, ⟨rfl, K8, B8, S8⟩, C8, st8⟩ := oCallV W7 (idx := 26) (pc := 24) (ls := #[sR a]) (st := []) (argsL := [(.ref x)]) B5.1 (c_sap K B5 hv1 (Sx1.ext (exK (exK E1 K2 (fun y hy => by cases List.mem_singleton.mp hy; exact g1)) K5 (fun y hy => by rcases List.mem_cons.mp hy with rfl | hy; exact hb0; cases List.mem_singleton.mp hy; exact ht0))) (show 0 + ps.length + cs.length ≤ 16 by omega) hbf) (fun y hy => by cases List.mem_singleton.mp hy; exact ⟨B5.2.2.2.2.1.lt, (C7.safe B5.2.2.2.2.1.lt S5)⟩) (wK K 275 rfl) (wK K 276 rfl) (notFace_of_selects (args := #[]) (mvT W7.warm (wK K 278 rfl))) (wK K 278 rfl) (wK K 277 rfl) (wK K 259 rfl) (wK K 279 rfl) (by decide) (na := 1) rfl (by decide +kernel) rfl (stk := [(.ref x), (.ref b)]) rfl (by decide +kernel) (V := 0) (lb rfl) (lb rfl) (lb rfl) (lb rfl) (lb rfl)
  refine oLift st8 ?_
  show OG _ _ _ _ _ _ _ _ _ _ _ (mkF m 27 #[sR a] [(.ref b)])
  have hv2 : (cpy (cpy (List.replicate 16 (Value.int 0)) (byt ps) 0 0 ps.length) (byt cs) 0 (0 + ps.length) cs.length).length = 16 := by rw [cpy_len (by rw [List.length_map]; omega) (by rw [hv1]; omega), hv1]
  obtain ⟨v9, T9, L9, h9, vm9, W9, ⟨y, rfl, F9, E9⟩, C9, st9⟩ := oCallV W8 (idx := 36) (pc := 27) (ls := #[sR a]) (st := []) (argsL := []) B8.1 (c_tos K B8 hv2 (show 0 + ps.length + cs.length < 16 by omega) (cat_take (by omega)) (fun c hc => (List.mem_append.mp hc).elim (Sp1.lo c) (Sx1.lo c))) (fun x hx => nomatch hx) (wK K 311 rfl) (wK K 312 rfl) (notFace_of_selects (args := #[]) (mvT W8.warm (wK K 314 rfl))) (wK K 314 rfl) (wK K 313 rfl) (wK K 259 rfl) (wK K 315 rfl) (by decide) (na := 0) rfl (by decide +kernel) rfl (stk := [(.ref b)]) rfl (by decide +kernel) (V := 0) (lb rfl) (lb rfl) (lb rfl) (lb rfl) (lb rfl)
  refine oLift st9 ?_
  show OG _ _ _ _ _ _ _ _ _ _ _ (mkF m 30 #[sR a] [(.ref y)])
  exact oRetA rfl W9 rfl rfl (by decide +kernel) (lb rfl) (lb rfl) (fun vm' hv => ⟨y, rfl, F9, (exT (exK (exK (exK E1 K2 (fun y hy => by cases List.mem_singleton.mp hy; exact g1)) K5 (fun y hy => by rcases List.mem_cons.mp hy with rfl | hy; exact hb0; cases List.mem_singleton.mp hy; exact ht0)) K8 (fun y hy => by rcases List.mem_cons.mp hy with rfl | hy; exact hb0; cases List.mem_singleton.mp hy; exact ht0)) E9)⟩)
abbrev rm_c_cft : Room := { frames := 0, cells := 0, slots := 0, locals := 0 }
set_option maxRecDepth 65536 in
set_option maxHeartbeats 40000000 in
theorem c_cft {l : Launch} {Z : State} {a0 : Array Value} {nb : Bool} (K : Ctx Z a0) {b j n : Nat} {h0 : Heap} (h1 : b ≤ j) (h2 : j ≤ n) (hn : n ≤ 4000) {f : Value} (h_f : f.isRef = true) :
    OC l Z EL nb [] (⟨"jdk/internal/util/Preconditions", "checkFromToIndex", "(IIILjava/util/function/BiFunction;)I"⟩ : MethodName) jdk_41_method_12_code 4 (some .int) rm_c_cft #[(.int (Int32.ofNat b)), (.int (Int32.ofNat j)), (.int (Int32.ofNat n)), f] h0 [] (fun v _ h => v = some (.int (Int32.ofNat b)) ∧ h = h0) := by
  have hw := K.1
  have hS : ∀ a ∈ Bundle.stringAtoms, a.before a0 Z = true := K.2.2.1
  refine oEnter (by decide +kernel) K.2.1.2.1 ?_
  intro _p _e _s m _below _meth _c T0 W0 S0
  refine oEq (g' := mkF m 0 #[.val (.int (Int32.ofNat b)), .val (.int (Int32.ofNat j)), .val (.int (Int32.ofNat n)), .val f] []) ((own_ef (vs := [(.int (Int32.ofNat b)), (.int (Int32.ofNat j)), (.int (Int32.ofNat n)), f]) (List.forall_mem_cons.mpr ⟨rfl, (List.forall_mem_cons.mpr ⟨rfl, (List.forall_mem_cons.mpr ⟨rfl, (List.forall_mem_cons.mpr ⟨refCat h_f, (fun _ h => nomatch h)⟩)⟩)⟩)⟩)).trans rfl) ?_
  refine oGo W0 [.iload_n 0] (by decide +kernel) (ls' := #[sI (Int32.ofNat b), sI (Int32.ofNat j), sI (Int32.ofNat n), .val f]) (st' := [(.int (Int32.ofNat b))]) rfl rfl (pc' := 1) rfl ?_
  refine oIfF W0 (cd := .lt) (o := 13) (by decide +kernel) (XT.i0_lt_f (n_nn (by omega))) (pc' := 4) rfl ?_
  refine oGo W0 [.iload_n 0, .iload_n 1] (by decide +kernel) (ls' := #[sI (Int32.ofNat b), sI (Int32.ofNat j), sI (Int32.ofNat n), .val f]) (st' := [(.int (Int32.ofNat j)), (.int (Int32.ofNat b))]) rfl rfl (pc' := 6) rfl ?_
  refine oIcF W0 (cd := .gt) (o := 8) (by decide +kernel) (XT.ii_gt_f (fun q => absurd ((n_lt (by omega) (by omega)).mp q) (by omega))) (pc' := 9) rfl ?_
  refine oGo W0 [.iload_n 1, .iload_n 2] (by decide +kernel) (ls' := #[sI (Int32.ofNat b), sI (Int32.ofNat j), sI (Int32.ofNat n), .val f]) (st' := [(.int (Int32.ofNat n)), (.int (Int32.ofNat j))]) rfl rfl (pc' := 11) rfl ?_
  refine oIcT W0 (cd := .le) (o := 11) (by decide +kernel) (XT.ii_le_t (fun q => absurd ((n_lt (by omega) (by omega)).mp q) (by omega))) (pc' := 22) (by decide) (by decide) ?_
  refine oGo W0 [.iload_n 0] (by decide +kernel) (ls' := #[sI (Int32.ofNat b), sI (Int32.ofNat j), sI (Int32.ofNat n), .val f]) (st' := [(.int (Int32.ofNat b))]) rfl rfl (pc' := 23) rfl ?_
  exact oRetI W0 (by decide +kernel) (lb rfl) (lb rfl) (fun vm' hv => ⟨rfl, rfl⟩)
abbrev rm_c_cbe : Room := { frames := 1, cells := 0, slots := 0, locals := 15 }
set_option maxRecDepth 65536 in
set_option maxHeartbeats 40000000 in
theorem c_cbe {l : Launch} {Z : State} {a0 : Array Value} {nb : Bool} (K : Ctx Z a0) {b j n : Nat} {h0 : Heap} (h1 : b ≤ j) (h2 : j ≤ n) (hn : n ≤ 4000) (G : Sx Z) :
    OC l Z EL nb [] (⟨"java/lang/String", "checkBoundsBeginEnd", "(III)V"⟩ : MethodName) jdk_42_method_158_code 3 none rm_c_cbe #[(.int (Int32.ofNat b)), (.int (Int32.ofNat j)), (.int (Int32.ofNat n))] h0 [] (fun v _ h => v = none ∧ h = h0) := by
  have hw := K.1
  have hS : ∀ a ∈ Bundle.stringAtoms, a.before a0 Z = true := K.2.2.1
  obtain ⟨f, hf, h_f⟩ := G
  refine oEnter (by decide +kernel) K.2.1.2.1 ?_
  intro _p _e _s m _below _meth _c T0 W0 S0
  refine oEq (g' := mkF m 0 #[.val (.int (Int32.ofNat b)), .val (.int (Int32.ofNat j)), .val (.int (Int32.ofNat n))] []) (by first | (simp [entryFrame, mkF, argsToLocals, Value.category]; done) | rfl) ?_
  refine oGo W0 [.iload_n 0, .iload_n 1, .iload_n 2] (by decide +kernel) (ls' := #[sI (Int32.ofNat b), sI (Int32.ofNat j), sI (Int32.ofNat n)]) (st' := [(.int (Int32.ofNat n)), (.int (Int32.ofNat j)), (.int (Int32.ofNat b))]) rfl rfl (pc' := 3) rfl ?_
  obtain ⟨T1, W1, st1⟩ := oGetS W0 (pc := 3) (ls := #[sI (Int32.ofNat b), sI (Int32.ofNat j), sI (Int32.ofNat n)]) (st := [(.int (Int32.ofNat n)), (.int (Int32.ofNat j)), (.int (Int32.ofNat b))]) (wK K 118 rfl) Via.refl (hf.ext W0.ext) (by decide +kernel)
  refine oLift st1 ?_
  obtain ⟨v2, T2, L2, h2, vm2, W2, ⟨rfl, e2⟩, C2, st2⟩ := oCallS W1 (idx := 1062) (pc := 6) (ls := #[sI (Int32.ofNat b), sI (Int32.ofNat j), sI (Int32.ofNat n)]) (st := []) (argsL := [(.int (Int32.ofNat b)), (.int (Int32.ofNat j)), (.int (Int32.ofNat n)), f]) (c_cft K h1 h2 hn h_f) (fun x hx => nomatch hx) (wK K 137 rfl) (wK K 138 rfl) (wK K 119 rfl) (wK K 139 rfl) (by decide) (na := 4) rfl (by decide +kernel) rfl (stk := [f, (.int (Int32.ofNat n)), (.int (Int32.ofNat j)), (.int (Int32.ofNat b))]) rfl (by decide +kernel) (V := 0) (lb rfl) (lb rfl) (lb rfl) (lb rfl) (lb rfl)
  refine oLift st2 ?_
  rw [e2] at W2 C2
  show OG _ _ _ _ _ _ _ _ _ _ _ (mkF m 9 #[sI (Int32.ofNat b), sI (Int32.ofNat j), sI (Int32.ofNat n)] [(.int (Int32.ofNat b))])
  refine oGo W2 [.pop] (by decide +kernel) (ls' := #[sI (Int32.ofNat b), sI (Int32.ofNat j), sI (Int32.ofNat n)]) (st' := []) rfl rfl (pc' := 10) rfl ?_
  exact oRet0 W2 (by decide +kernel) (lb rfl) (lb rfl) (fun vm' hv => ⟨rfl, rfl⟩)
theorem byt_dt (cs : List Int32) (o n : Nat) : ((byt cs).drop o).take (o + n - o) = byt ((cs.drop o).take n) := by
  rw [Nat.add_sub_cancel_left]; simp [List.map_drop, List.map_take]
abbrev rm_c_ibb : Room := { frames := 1, cells := 0, slots := 0, locals := 12 }
set_option maxRecDepth 65536 in
set_option maxHeartbeats 40000000 in
theorem c_ibb {l : Launch} {Z : State} {a0 : Array Value} {nb : Bool} (K : Ctx Z a0) {x d : Addr} {kd : ClassId} {cs : List Int32} {q0 q1 : Value} {h0 : Heap} (hxf : Z.heap.size ≤ x) (Ex : Exa Z h0 x "java/lang/String") (Fxc : Fld Z h0 x "java/lang/String" "coder" "B" q0) (Fxv : Fld Z h0 x "java/lang/String" "value" "[B" q1) (Ad : OA Z h0 d kd .byte (byt cs)) (hp : ∀ c ∈ cs, ¬ c < 0 ∧ ¬ (255 : Int32) < c) :
    OC l Z EL nb [] (⟨"java/lang/String", "<init>", "([BB)V"⟩ : MethodName) jdk_42_method_151_code 3 none rm_c_ibb #[(.ref x), (.ref d), (.int 0)] h0 [x] (fun v _ h => v = none ∧ Keep h0 h [x] ∧ Str Z h x cs) := by
  have hw := K.1
  have hS : ∀ a ∈ Bundle.stringAtoms, a.before a0 Z = true := K.2.2.1
  refine oEnter (by decide +kernel) K.2.1.2.1 ?_
  intro _p _e _s m _below _meth _c T0 W0 S0
  refine oEq (g' := mkF m 0 #[.val (.ref x), .val (.ref d), .val (.int 0)] []) (by first | (simp [entryFrame, mkF, argsToLocals, Value.category]; done) | rfl) ?_
  have hdx : d ≠ x := OA.ne Ad Ex (wK K 10 rfl)
  refine oGo W0 [.aload_n 0] (by decide +kernel) (ls' := #[sR x, sR d, sI 0]) (st' := [(.ref x)]) rfl rfl (pc' := 1) rfl ?_
  obtain ⟨T1, W1, st1⟩ := oInit W0 (idx := 1) (pc := 1) (ls := #[sR x, sR d, sI 0]) (st := []) (a := x) (wK K 19 rfl) (wK K 20 rfl) (wK K 21 rfl) rfl (by decide +kernel) (lb rfl) (V := 0) (lb rfl) (lb rfl)
  refine oLift st1 ?_
  refine oGo W1 [.aload_n 0, .aload_n 1] (by decide +kernel) (ls' := #[sR x, sR d, sI 0]) (st' := [(.ref d), (.ref x)]) rfl rfl (pc' := 6) rfl ?_
  obtain ⟨T2, h2, W2, Wr2, F2, X2, C2, st2⟩ := oPutF W1 (idx := 9) (pc := 6) (ls := #[sR x, sR d, sI 0]) (st := []) (v := (.ref d)) (wK K 36 rfl) Via.refl Fxv Ex (Or.inr ⟨(wK K 37 rfl), rfl, rfl⟩) (wK K 10 rfl) (ty := (.array .byte)) (by decide) rfl rfl hxf (S0 x (List.mem_singleton.mpr rfl)) (by decide +kernel)
  refine oLift st2 ?_
  refine oGo W2 [.aload_n 0, .iload_n 2] (by decide +kernel) (ls' := #[sR x, sR d, sI 0]) (st' := [(.int 0), (.ref x)]) rfl rfl (pc' := 11) rfl ?_
  obtain ⟨T3, h3, W3, Wr3, F3, X3, C3, st3⟩ := oPutF W2 (idx := 15) (pc := 11) (ls := #[sR x, sR d, sI 0]) (st := []) (v := (.int 0)) (wK K 34 rfl) Via.refl (Fxc.other Wr2 (Or.inr (slot_ne (a0 := a0) (C := "java/lang/String") (Or.inr (wK K 35 rfl)) (Or.inr (wK K 37 rfl)) (by decide) (t := .byte) (t' := (.array .byte)) (by decide) (by decide)))) X2 (Or.inr ⟨(wK K 35 rfl), rfl, rfl⟩) (wK K 10 rfl) (ty := .byte) (by decide) rfl rfl hxf (C2.safe Ex.lt (S0 x (List.mem_singleton.mpr rfl))) (by decide +kernel)
  refine oLift st3 ?_
  exact oRet0 W3 (by decide +kernel) (lb rfl) (lb rfl) (fun vm' hv => ⟨rfl, (((Keep.refl _ [x]).wr Wr2 (Or.inl (List.mem_singleton.mpr rfl))).wr Wr3 (Or.inl (List.mem_singleton.mpr rfl))), d, kd, X3, F3, (F2.other Wr3 (Or.inr (slot_ne (a0 := a0) (C := "java/lang/String") (Or.inr (wK K 37 rfl)) (Or.inr (wK K 35 rfl)) (by decide) (t := (.array .byte)) (t' := .byte) (by decide) (by decide)))), ((Ad.other Wr2 hdx).other Wr3 hdx), hp⟩)
abbrev rm_c_nst : Room := { frames := 3, cells := 2, slots := 36, locals := 72 }
set_option maxRecDepth 65536 in
set_option maxHeartbeats 40000000 in
theorem c_nst {l : Launch} {Z : State} {a0 : Array Value} {nb : Bool} (K : Ctx Z a0) {t : Addr} {kt : ClassId} {cs : List Int32} {o n : Nat} {h0 : Heap} (A : OA Z h0 t kt .byte (byt cs)) (P : ∀ c ∈ cs, ¬ c < 0 ∧ ¬ (255 : Int32) < c) (hl : cs.length ≤ 32) (hn0 : 0 < n) (hon : o + n ≤ cs.length) (hne : o = 0 → n ≠ cs.length) :
    OC l Z EL nb [] (⟨"java/lang/StringLatin1", "newString", "([BII)Ljava/lang/String;"⟩ : MethodName) jdk_43_method_47_code 3 (some (.object "java/lang/String")) rm_c_nst #[(.ref t), (.int (Int32.ofNat o)), (.int (Int32.ofNat n))] h0 [] (fun v _ h => ∃ y, v = some (.ref y) ∧ Str Z h y ((cs.drop o).take n) ∧ Ext h0 h) := by
  have hw := K.1
  have hS : ∀ a ∈ Bundle.stringAtoms, a.before a0 Z = true := K.2.2.1
  refine oEnter (by decide +kernel) K.2.1.2.1 ?_
  intro _p _e _s m _below _meth _c T0 W0 S0
  refine oEq (g' := mkF m 0 #[.val (.ref t), .val (.int (Int32.ofNat o)), .val (.int (Int32.ofNat n))] []) (by first | (simp [entryFrame, mkF, argsToLocals, Value.category]; done) | rfl) ?_
  refine oGo W0 [.iload_n 2] (by decide +kernel) (ls' := #[sR t, sI (Int32.ofNat o), sI (Int32.ofNat n)]) (st' := [(.int (Int32.ofNat n))]) rfl rfl (pc' := 1) rfl ?_
  refine oIfT W0 (cd := .ne) (o := 6) (by decide +kernel) (XT.i0_ne_t (fun q => absurd (ofNat0 (by omega) q) (by omega))) (pc' := 7) (by decide) (by decide) ?_
  obtain ⟨T1, h1, x, W1, g1, E1, A1, D1, S1, C1, st1⟩ := oNew W0 (pc := 7) (ls := #[sR t, sI (Int32.ofNat o), sI (Int32.ofNat n)]) (st := []) (wK K 143 rfl) (wK K 10 rfl) (wK K 11 rfl) (by decide +kernel) (lb rfl) (lb rfl)
  refine oLift st1 ?_
  refine oGo W1 [.dup, .aload_n 0, .iload_n 1, .iload_n 1, .iload_n 2, .iadd] (by decide +kernel) (ls' := #[sR t, sI (Int32.ofNat o), sI (Int32.ofNat n)]) (st' := [(.int ((Int32.ofNat o) + (Int32.ofNat n))), (.int (Int32.ofNat o)), (.ref t), (.ref x), (.ref x)]) rfl rfl (pc' := 16) rfl ?_
  rw [add_n]
  obtain ⟨v2, T2, L2, h2, vm2, W2, ⟨d, kd, rfl, g2, E2, B2⟩, C2, st2⟩ := oCallS W1 (idx := 232) (pc := 16) (ls := #[sR t, sI (Int32.ofNat o), sI (Int32.ofNat n)]) (st := [(.ref x), (.ref x)]) (argsL := [(.ref t), (.int (Int32.ofNat o)), (.int (Int32.ofNat (o + n)))]) (c_cr K (o := o) (e := o + n) (A.ext E1) (by rw [List.length_map]; omega) (by omega) (by rw [List.length_map]; omega) (fun q => by rw [List.length_map]; have := hne q; omega)) (fun x hx => nomatch hx) (wK K 144 rfl) (wK K 145 rfl) (wK K 146 rfl) (wK K 147 rfl) (by decide) (na := 3) rfl (by decide +kernel) rfl (stk := [(.int (Int32.ofNat (o + n))), (.int (Int32.ofNat o)), (.ref t), (.ref x), (.ref x)]) rfl (by decide +kernel) (V := 2) (lb rfl) (lb rfl) (lb rfl) (lb rfl) (lb rfl)
  refine oLift st2 ?_
  show OG _ _ _ _ _ _ _ _ _ _ _ (mkF m 19 #[sR t, sI (Int32.ofNat o), sI (Int32.ofNat n)] [(.ref d), (.ref x), (.ref x)])
  refine oGo W2 [.iconst 0] (by decide +kernel) (ls' := #[sR t, sI (Int32.ofNat o), sI (Int32.ofNat n)]) (st' := [(.int 0), (.ref d), (.ref x), (.ref x)]) rfl rfl (pc' := 20) rfl ?_
  have Bd : OA Z h2 d kd .byte (byt ((cs.drop o).take n)) := byt_dt cs o n ▸ B2
  obtain ⟨v3, T3, L3, h3, vm3, W3, ⟨rfl, K3, F3⟩, C3, st3⟩ := oCallN W2 (idx := 112) (pc := 20) (ls := #[sR t, sI (Int32.ofNat o), sI (Int32.ofNat n)]) (st := [(.ref x)]) (a := x) (argsL := [(.ref d), (.int 0)]) (c_ibb K (Nat.le_trans W0.ext.1 g1) (A1.ext E2) ((D1 (Or.inr (wK K 35 rfl)) (ty := .byte) (by decide)).ext E2) ((D1 (Or.inr (wK K 37 rfl)) (ty := (.array .byte)) (by decide)).ext E2) Bd (fun c hc => P c (List.mem_of_mem_drop (List.mem_of_mem_take hc)))) (fun y hy => by cases List.mem_singleton.mp hy; exact ⟨(A1.ext E2).lt, (C2.safe A1.lt S1)⟩) rfl (wK K 162 rfl) (wK K 163 rfl) (wK K 11 rfl) (wK K 164 rfl) (by decide) (na := 2) rfl (by decide +kernel) rfl (stk := [(.int 0), (.ref d), (.ref x), (.ref x)]) rfl (by decide +kernel) (V := 1) (lb rfl) (lb rfl) (lb rfl) (lb rfl) (lb rfl)
  refine oLift st3 ?_
  show OG _ _ _ _ _ _ _ _ _ _ _ (mkF m 23 #[sR t, sI (Int32.ofNat o), sI (Int32.ofNat n)] [(.ref x)])
  exact oRetA rfl W3 rfl rfl (by decide +kernel) (lb rfl) (lb rfl) (fun vm' hv => ⟨x, rfl, F3, (exK (exT E1 E2) K3 (fun y hy => by cases List.mem_singleton.mp hy; exact g1))⟩)
abbrev rm_c_sub2 : Room := { frames := 4, cells := 2, slots := 36, locals := 86 }
set_option maxRecDepth 65536 in
set_option maxHeartbeats 40000000 in
theorem c_sub2 {l : Launch} {Z : State} {a0 : Array Value} {nb : Bool} (K : Ctx Z a0) {x : Addr} {cs : List Int32} {o j : Nat} {h0 : Heap} (G : Sx Z) (F : Str Z h0 x cs) (hl : cs.length ≤ 32) (ho : o < j) (hj : j ≤ cs.length) (hne : o = 0 → j < cs.length) :
    OC l Z EL nb [] (⟨"java/lang/String", "substring", "(II)Ljava/lang/String;"⟩ : MethodName) jdk_42_method_92_code 5 (some (.object "java/lang/String")) rm_c_sub2 #[(.ref x), (.int (Int32.ofNat o)), (.int (Int32.ofNat j))] h0 [] (fun v _ h => ∃ y, v = some (.ref y) ∧ Str Z h y ((cs.drop o).take (j - o)) ∧ Ext h0 h) := by
  have hw := K.1
  have hS : ∀ a ∈ Bundle.stringAtoms, a.before a0 Z = true := K.2.2.1
  obtain ⟨t, kt, X1, Fc, Fv, A, P⟩ := id F
  refine oEnter (by decide +kernel) K.2.1.2.1 ?_
  intro _p _e _s m _below _meth _c T0 W0 S0
  refine oEq (g' := mkF m 0 #[.val (.ref x), .val (.int (Int32.ofNat o)), .val (.int (Int32.ofNat j)), .unset, .unset] []) (by first | (simp [entryFrame, mkF, argsToLocals, Value.category]; done) | rfl) ?_
  refine oGo W0 [.aload_n 0] (by decide +kernel) (ls' := #[sR x, sI (Int32.ofNat o), sI (Int32.ofNat j), sU, sU]) (st' := [(.ref x)]) rfl rfl (pc' := 1) rfl ?_
  obtain ⟨v1, T1, L1, h1, vm1, W1, ⟨rfl, e1⟩, C1, st1⟩ := oCallV W0 (idx := 505) (pc := 1) (ls := #[sR x, sI (Int32.ofNat o), sI (Int32.ofNat j), sU, sU]) (st := []) (argsL := []) X1 (c_len K F) (fun x hx => nomatch hx) (wK K 72 rfl) (wK K 73 rfl) (notFace_of_selects (args := #[]) (mvT W0.warm (wK K 75 rfl))) (wK K 75 rfl) (wK K 74 rfl) (wK K 11 rfl) (wK K 76 rfl) (by decide) (na := 0) rfl (by decide +kernel) rfl (stk := [(.ref x)]) rfl (by decide +kernel) (V := 0) (lb rfl) (lb rfl) (lb rfl) (lb rfl) (lb rfl)
  refine oLift st1 ?_
  rw [e1] at W1 C1
  show OG _ _ _ _ _ _ _ _ _ _ _ (mkF m 4 #[sR x, sI (Int32.ofNat o), sI (Int32.ofNat j), sU, sU] [(.int (Int32.ofNat cs.length))])
  refine oGo W1 [.istore_n 3, .iload_n 1, .iload_n 2, .iload_n 3] (by decide +kernel) (ls' := #[sR x, sI (Int32.ofNat o), sI (Int32.ofNat j), sI (Int32.ofNat cs.length), sU]) (st' := [(.int (Int32.ofNat cs.length)), (.int (Int32.ofNat j)), (.int (Int32.ofNat o))]) rfl rfl (pc' := 8) rfl ?_
  obtain ⟨v2, T2, L2, h2, vm2, W2, ⟨rfl, e2⟩, C2, st2⟩ := oCallS W1 (idx := 521) (pc := 8) (ls := #[sR x, sI (Int32.ofNat o), sI (Int32.ofNat j), sI (Int32.ofNat cs.length), sU]) (st := []) (argsL := [(.int (Int32.ofNat o)), (.int (Int32.ofNat j)), (.int (Int32.ofNat cs.length))]) (c_cbe K (Nat.le_of_lt ho) hj (by omega) G) (fun x hx => nomatch hx) (wK K 134 rfl) (wK K 135 rfl) (wK K 11 rfl) (wK K 136 rfl) (by decide) (na := 3) rfl (by decide +kernel) rfl (stk := [(.int (Int32.ofNat cs.length)), (.int (Int32.ofNat j)), (.int (Int32.ofNat o))]) rfl (by decide +kernel) (V := 0) (lb rfl) (lb rfl) (lb rfl) (lb rfl) (lb rfl)
  refine oLift st2 ?_
  rw [e2] at W2 C2
  show OG _ _ _ _ _ _ _ _ _ _ _ (mkF m 11 #[sR x, sI (Int32.ofNat o), sI (Int32.ofNat j), sI (Int32.ofNat cs.length), sU] [])
  refine oGo W2 [.iload_n 1] (by decide +kernel) (ls' := #[sR x, sI (Int32.ofNat o), sI (Int32.ofNat j), sI (Int32.ofNat cs.length), sU]) (st' := [(.int (Int32.ofNat o))]) rfl rfl (pc' := 12) rfl ?_
  by_cases hc3 : (Int32.ofNat o) = (0 : Int32)
  · refine oIfF W2 (cd := .ne) (o := 10) (by decide +kernel) (XT.i0_ne_f hc3) (pc' := 15) rfl ?_
    refine oGo W2 [.iload_n 2, .iload_n 3] (by decide +kernel) (ls' := #[sR x, sI (Int32.ofNat o), sI (Int32.ofNat j), sI (Int32.ofNat cs.length), sU]) (st' := [(.int (Int32.ofNat cs.length)), (.int (Int32.ofNat j))]) rfl rfl (pc' := 17) rfl ?_
    refine oIcT W2 (cd := .ne) (o := 5) (by decide +kernel) (XT.ii_ne_t (fun q => absurd (ofNat_inj (by omega) (by omega) q) (by have := hne (ofNat0 (by omega) hc3); omega))) (pc' := 22) (by decide) (by decide) ?_
    refine oGo W2 [.iload_n 2, .iload_n 1, .isub, .istore 4, .aload_n 0] (by decide +kernel) (ls' := #[sR x, sI (Int32.ofNat o), sI (Int32.ofNat j), sI (Int32.ofNat cs.length), sI ((Int32.ofNat j) - (Int32.ofNat o))]) (st' := [(.ref x)]) rfl rfl (pc' := 28) rfl ?_
    rw [sub_n (Nat.le_of_lt ho)]
    obtain ⟨v4, T4, L4, h4, vm4, W4, ⟨rfl, e4⟩, C4, st4⟩ := oCallV W2 (idx := 492) (pc := 28) (ls := #[sR x, sI (Int32.ofNat o), sI (Int32.ofNat j), sI (Int32.ofNat cs.length), sI (Int32.ofNat (j - o))]) (st := []) (argsL := []) X1 (c_isl K Fc) (fun x hx => nomatch hx) (wK K 106 rfl) (wK K 107 rfl) (notFace_of_selects (args := #[]) (mvT W2.warm (wK K 109 rfl))) (wK K 109 rfl) (wK K 108 rfl) (wK K 11 rfl) (wK K 110 rfl) (by decide) (na := 0) rfl (by decide +kernel) rfl (stk := [(.ref x)]) rfl (by decide +kernel) (V := 0) (lb rfl) (lb rfl) (lb rfl) (lb rfl) (lb rfl)
    refine oLift st4 ?_
    rw [e4] at W4 C4
    show OG _ _ _ _ _ _ _ _ _ _ _ (mkF m 31 #[sR x, sI (Int32.ofNat o), sI (Int32.ofNat j), sI (Int32.ofNat cs.length), sI (Int32.ofNat (j - o))] [(.int 1)])
    refine oIfF W4 (cd := .eq) (o := 16) (by decide +kernel) (XT.i0_eq_f (by decide)) (pc' := 34) rfl ?_
    refine oGo W4 [.aload_n 0] (by decide +kernel) (ls' := #[sR x, sI (Int32.ofNat o), sI (Int32.ofNat j), sI (Int32.ofNat cs.length), sI (Int32.ofNat (j - o))]) (st' := [(.ref x)]) rfl rfl (pc' := 35) rfl ?_
    obtain ⟨T5, W5, st5⟩ := oGetF W4 (pc := 35) (ls := #[sR x, sI (Int32.ofNat o), sI (Int32.ofNat j), sI (Int32.ofNat cs.length), sI (Int32.ofNat (j - o))]) (st := []) (wK K 36 rfl) Via.refl Fv (by decide +kernel)
    refine oLift st5 ?_
    refine oGo W5 [.iload_n 1, .iload 4] (by decide +kernel) (ls' := #[sR x, sI (Int32.ofNat o), sI (Int32.ofNat j), sI (Int32.ofNat cs.length), sI (Int32.ofNat (j - o))]) (st' := [(.int (Int32.ofNat (j - o))), (.int (Int32.ofNat o)), (.ref t)]) rfl rfl (pc' := 41) rfl ?_
    obtain ⟨v6, T6, L6, h6, vm6, W6, ⟨y, rfl, F6, E6⟩, C6, st6⟩ := oCallS W5 (idx := 685) (pc := 41) (ls := #[sR x, sI (Int32.ofNat o), sI (Int32.ofNat j), sI (Int32.ofNat cs.length), sI (Int32.ofNat (j - o))]) (st := []) (argsL := [(.ref t), (.int (Int32.ofNat o)), (.int (Int32.ofNat (j - o)))]) (c_nst K A P hl (by omega) (by omega) (fun q => by have := hne q; omega)) (fun x hx => nomatch hx) (wK K 140 rfl) (wK K 141 rfl) (wK K 113 rfl) (wK K 142 rfl) (by decide) (na := 3) rfl (by decide +kernel) rfl (stk := [(.int (Int32.ofNat (j - o))), (.int (Int32.ofNat o)), (.ref t)]) rfl (by decide +kernel) (V := 0) (lb rfl) (lb rfl) (lb rfl) (lb rfl) (lb rfl)
    refine oLift st6 ?_
    show OG _ _ _ _ _ _ _ _ _ _ _ (mkF m 44 #[sR x, sI (Int32.ofNat o), sI (Int32.ofNat j), sI (Int32.ofNat cs.length), sI (Int32.ofNat (j - o))] [(.ref y)])
    refine oGo W6 [.goto 13] (by decide +kernel) (ls' := #[sR x, sI (Int32.ofNat o), sI (Int32.ofNat j), sI (Int32.ofNat cs.length), sI (Int32.ofNat (j - o))]) (st' := [(.ref y)]) rfl rfl (pc' := 57) rfl ?_
    exact oRetA rfl W6 rfl rfl (by decide +kernel) (lb rfl) (lb rfl) (fun vm' hv => ⟨y, rfl, F6, E6⟩)
  · refine oIfT W2 (cd := .ne) (o := 10) (by decide +kernel) (XT.i0_ne_t hc3) (pc' := 22) (by decide) (by decide) ?_
    refine oGo W2 [.iload_n 2, .iload_n 1, .isub, .istore 4, .aload_n 0] (by decide +kernel) (ls' := #[sR x, sI (Int32.ofNat o), sI (Int32.ofNat j), sI (Int32.ofNat cs.length), sI ((Int32.ofNat j) - (Int32.ofNat o))]) (st' := [(.ref x)]) rfl rfl (pc' := 28) rfl ?_
    rw [sub_n (Nat.le_of_lt ho)]
    obtain ⟨v7, T7, L7, h7, vm7, W7, ⟨rfl, e7⟩, C7, st7⟩ := oCallV W2 (idx := 492) (pc := 28) (ls := #[sR x, sI (Int32.ofNat o), sI (Int32.ofNat j), sI (Int32.ofNat cs.length), sI (Int32.ofNat (j - o))]) (st := []) (argsL := []) X1 (c_isl K Fc) (fun x hx => nomatch hx) (wK K 106 rfl) (wK K 107 rfl) (notFace_of_selects (args := #[]) (mvT W2.warm (wK K 109 rfl))) (wK K 109 rfl) (wK K 108 rfl) (wK K 11 rfl) (wK K 110 rfl) (by decide) (na := 0) rfl (by decide +kernel) rfl (stk := [(.ref x)]) rfl (by decide +kernel) (V := 0) (lb rfl) (lb rfl) (lb rfl) (lb rfl) (lb rfl)
    refine oLift st7 ?_
    rw [e7] at W7 C7
    show OG _ _ _ _ _ _ _ _ _ _ _ (mkF m 31 #[sR x, sI (Int32.ofNat o), sI (Int32.ofNat j), sI (Int32.ofNat cs.length), sI (Int32.ofNat (j - o))] [(.int 1)])
    refine oIfF W7 (cd := .eq) (o := 16) (by decide +kernel) (XT.i0_eq_f (by decide)) (pc' := 34) rfl ?_
    refine oGo W7 [.aload_n 0] (by decide +kernel) (ls' := #[sR x, sI (Int32.ofNat o), sI (Int32.ofNat j), sI (Int32.ofNat cs.length), sI (Int32.ofNat (j - o))]) (st' := [(.ref x)]) rfl rfl (pc' := 35) rfl ?_
    obtain ⟨T8, W8, st8⟩ := oGetF W7 (pc := 35) (ls := #[sR x, sI (Int32.ofNat o), sI (Int32.ofNat j), sI (Int32.ofNat cs.length), sI (Int32.ofNat (j - o))]) (st := []) (wK K 36 rfl) Via.refl Fv (by decide +kernel)
    refine oLift st8 ?_
    refine oGo W8 [.iload_n 1, .iload 4] (by decide +kernel) (ls' := #[sR x, sI (Int32.ofNat o), sI (Int32.ofNat j), sI (Int32.ofNat cs.length), sI (Int32.ofNat (j - o))]) (st' := [(.int (Int32.ofNat (j - o))), (.int (Int32.ofNat o)), (.ref t)]) rfl rfl (pc' := 41) rfl ?_
    obtain ⟨v9, T9, L9, h9, vm9, W9, ⟨y, rfl, F9, E9⟩, C9, st9⟩ := oCallS W8 (idx := 685) (pc := 41) (ls := #[sR x, sI (Int32.ofNat o), sI (Int32.ofNat j), sI (Int32.ofNat cs.length), sI (Int32.ofNat (j - o))]) (st := []) (argsL := [(.ref t), (.int (Int32.ofNat o)), (.int (Int32.ofNat (j - o)))]) (c_nst K A P hl (by omega) (by omega) (fun q => by have := hne q; omega)) (fun x hx => nomatch hx) (wK K 140 rfl) (wK K 141 rfl) (wK K 113 rfl) (wK K 142 rfl) (by decide) (na := 3) rfl (by decide +kernel) rfl (stk := [(.int (Int32.ofNat (j - o))), (.int (Int32.ofNat o)), (.ref t)]) rfl (by decide +kernel) (V := 0) (lb rfl) (lb rfl) (lb rfl) (lb rfl) (lb rfl)
    refine oLift st9 ?_
    show OG _ _ _ _ _ _ _ _ _ _ _ (mkF m 44 #[sR x, sI (Int32.ofNat o), sI (Int32.ofNat j), sI (Int32.ofNat cs.length), sI (Int32.ofNat (j - o))] [(.ref y)])
    refine oGo W9 [.goto 13] (by decide +kernel) (ls' := #[sR x, sI (Int32.ofNat o), sI (Int32.ofNat j), sI (Int32.ofNat cs.length), sI (Int32.ofNat (j - o))]) (st' := [(.ref y)]) rfl rfl (pc' := 57) rfl ?_
    exact oRetA rfl W9 rfl rfl (by decide +kernel) (lb rfl) (lb rfl) (fun vm' hv => ⟨y, rfl, F9, E9⟩)
abbrev rm_c_sub1 : Room := { frames := 5, cells := 2, slots := 36, locals := 102 }
set_option maxRecDepth 65536 in
set_option maxHeartbeats 40000000 in
theorem c_sub1 {l : Launch} {Z : State} {a0 : Array Value} {nb : Bool} (K : Ctx Z a0) {x : Addr} {cs : List Int32} {o : Nat} {h0 : Heap} (G : Sx Z) (F : Str Z h0 x cs) (hl : cs.length ≤ 32) (ho0 : 0 < o) (ho : o < cs.length) :
    OC l Z EL nb [] (⟨"java/lang/String", "substring", "(I)Ljava/lang/String;"⟩ : MethodName) jdk_42_method_91_code 2 (some (.object "java/lang/String")) rm_c_sub1 #[(.ref x), (.int (Int32.ofNat o))] h0 [] (fun v _ h => ∃ y, v = some (.ref y) ∧ Str Z h y ((cs.drop o).take (cs.length - o)) ∧ Ext h0 h) := by
  have hw := K.1
  have hS : ∀ a ∈ Bundle.stringAtoms, a.before a0 Z = true := K.2.2.1
  refine oEnter (by decide +kernel) K.2.1.2.1 ?_
  intro _p _e _s m _below _meth _c T0 W0 S0
  refine oEq (g' := mkF m 0 #[.val (.ref x), .val (.int (Int32.ofNat o))] []) (by first | (simp [entryFrame, mkF, argsToLocals, Value.category]; done) | rfl) ?_
  refine oGo W0 [.aload_n 0, .iload_n 1, .aload_n 0] (by decide +kernel) (ls' := #[sR x, sI (Int32.ofNat o)]) (st' := [(.ref x), (.int (Int32.ofNat o)), (.ref x)]) rfl rfl (pc' := 3) rfl ?_
  obtain ⟨v1, T1, L1, h1, vm1, W1, ⟨rfl, e1⟩, C1, st1⟩ := oCallV W0 (idx := 505) (pc := 3) (ls := #[sR x, sI (Int32.ofNat o)]) (st := [(.int (Int32.ofNat o)), (.ref x)]) (argsL := []) F.exa (c_len K F) (fun x hx => nomatch hx) (wK K 72 rfl) (wK K 73 rfl) (notFace_of_selects (args := #[]) (mvT W0.warm (wK K 75 rfl))) (wK K 75 rfl) (wK K 74 rfl) (wK K 11 rfl) (wK K 76 rfl) (by decide) (na := 0) rfl (by decide +kernel) rfl (stk := [(.ref x), (.int (Int32.ofNat o)), (.ref x)]) rfl (by decide +kernel) (V := 2) (lb rfl) (lb rfl) (lb rfl) (lb rfl) (lb rfl)
  refine oLift st1 ?_
  rw [e1] at W1 C1
  show OG _ _ _ _ _ _ _ _ _ _ _ (mkF m 6 #[sR x, sI (Int32.ofNat o)] [(.int (Int32.ofNat cs.length)), (.int (Int32.ofNat o)), (.ref x)])
  obtain ⟨v2, T2, L2, h2, vm2, W2, ⟨y, rfl, F2, E2⟩, C2, st2⟩ := oCallV W1 (idx := 681) (pc := 6) (ls := #[sR x, sI (Int32.ofNat o)]) (st := []) (argsL := [(.int (Int32.ofNat o)), (.int (Int32.ofNat cs.length))]) F.exa (c_sub2 K G F hl ho (Nat.le_refl _) (fun q => by omega)) (fun x hx => nomatch hx) (wK K 129 rfl) (wK K 130 rfl) (notFace_of_selects (args := #[]) (mvT W1.warm (wK K 132 rfl))) (wK K 132 rfl) (wK K 131 rfl) (wK K 11 rfl) (wK K 133 rfl) (by decide) (na := 2) rfl (by decide +kernel) rfl (stk := [(.int (Int32.ofNat cs.length)), (.int (Int32.ofNat o)), (.ref x)]) rfl (by decide +kernel) (V := 0) (lb rfl) (lb rfl) (lb rfl) (lb rfl) (lb rfl)
  refine oLift st2 ?_
  show OG _ _ _ _ _ _ _ _ _ _ _ (mkF m 9 #[sR x, sI (Int32.ofNat o)] [(.ref y)])
  exact oRetA rfl W2 rfl rfl (by decide +kernel) (lb rfl) (lb rfl) (fun vm' hv => ⟨y, rfl, F2, E2⟩)
theorem sw_ge {n : Nat} (h : 5 ≤ n) (hn : n ≤ 4000) : ¬ (Int32.ofNat n - (5 : Int32)) < 0 := by
  rw [show (5 : Int32) = Int32.ofNat 5 from rfl, sub_n h]; exact n_nn (by omega)
theorem sw_lt {n : Nat} (h : n < 5) : (Int32.ofNat n - (5 : Int32)) < 0 := by
  have q : n = 0 ∨ n = 1 ∨ n = 2 ∨ n = 3 ∨ n = 4 := by omega
  rcases q with rfl | rfl | rfl | rfl | rfl <;> decide
abbrev rm_c_mis : Room := { frames := 0, cells := 0, slots := 0, locals := 0 }
set_option maxRecDepth 65536 in
set_option maxHeartbeats 40000000 in
theorem c_mis {l : Launch} {Z : State} {a0 : Array Value} {nb : Bool} (K : Ctx Z a0) {t u : Addr} {kt ku : ClassId} {d0 d1 d2 d3 d4 q0 q1 q2 q3 q4 : Int32} {rest : List Int32} {h0 : Heap} (A : OA Z h0 t kt .byte (byt (d0 :: d1 :: d2 :: d3 :: d4 :: rest))) (B : OA Z h0 u ku .byte (byt [q0, q1, q2, q3, q4])) (P : ∀ c ∈ (d0 :: d1 :: d2 :: d3 :: d4 :: rest), ¬ c < 0 ∧ ¬ (255 : Int32) < c) (P2 : ∀ c ∈ ([q0, q1, q2, q3, q4] : List Int32), ¬ c < 0 ∧ ¬ (255 : Int32) < c) :
    OC l Z EL nb [] (⟨"jdk/internal/util/ArraysSupport", "mismatch", "([BI[BII)I"⟩ : MethodName) jdk_48_method_14_code 8 (some .int) rm_c_mis #[(.ref t), (.int 0), (.ref u), (.int 0), (.int 5)] h0 [] (fun v _ h => ∃ r, v = some (.int r) ∧ h = h0 ∧ ((r < 0 ∧ d0 = q0 ∧ d1 = q1 ∧ d2 = q2 ∧ d3 = q3 ∧ d4 = q4) ∨ (¬ r < 0 ∧ ¬ (d0 = q0 ∧ d1 = q1 ∧ d2 = q2 ∧ d3 = q3 ∧ d4 = q4)))) := by
  have hw := K.1
  have hS : ∀ a ∈ Bundle.stringAtoms, a.before a0 Z = true := K.2.2.1
  have pd0 := P d0 (by simp)
  have pd1 := P d1 (by simp)
  have pd2 := P d2 (by simp)
  have pd3 := P d3 (by simp)
  have pd4 := P d4 (by simp)
  have pq0 := P2 q0 (by simp)
  have pq1 := P2 q1 (by simp)
  have pq2 := P2 q2 (by simp)
  have pq3 := P2 q3 (by simp)
  have pq4 := P2 q4 (by simp)
  refine oEnter (by decide +kernel) K.2.1.2.1 ?_
  intro _p _e _s m _below _meth _c T0 W0 S0
  refine oEq (g' := mkF m 0 #[.val (.ref t), .val (.int 0), .val (.ref u), .val (.int 0), .val (.int 5), .unset, .unset, .unset] []) (by first | (simp [entryFrame, mkF, argsToLocals, Value.category]; done) | rfl) ?_
  refine oGo W0 [.iconst 0, .istore 5, .iload 4, .bipush 7] (by decide +kernel) (ls' := #[sR t, sI 0, sR u, sI 0, sI 5, sI 0, sU, sU]) (st' := [(.int 7), (.int 5)]) rfl rfl (pc' := 7) rfl ?_
  refine oIcT W0 (cd := .le) (o := 63) (by decide +kernel) (XT.ii_le_t (by decide)) (pc' := 70) (by decide) (by decide) ?_
  refine oGo W0 [.iload 5, .iload 4] (by decide +kernel) (ls' := #[sR t, sI 0, sR u, sI 0, sI 5, sI 0, sU, sU]) (st' := [(.int 5), (.int 0)]) rfl rfl (pc' := 74) rfl ?_
  refine oIcF W0 (cd := .ge) (o := 27) (by decide +kernel) (XT.ii_ge_f (by decide)) (pc' := 77) rfl ?_
  refine oGo W0 [.aload_n 0, .iload_n 1, .iload 5, .iadd] (by decide +kernel) (ls' := #[sR t, sI 0, sR u, sI 0, sI 5, sI 0, sU, sU]) (st' := [(.int 0), (.ref t)]) rfl rfl (pc' := 82) rfl ?_
  refine oGet W0 A (v := (.int d0.toInt8.toInt32)) (by decide) rfl (Or.inr (Or.inl ⟨rfl, rfl⟩)) (by decide +kernel) ?_
  refine oGo W0 [.aload_n 2, .iload_n 3, .iload 5, .iadd] (by decide +kernel) (ls' := #[sR t, sI 0, sR u, sI 0, sI 5, sI 0, sU, sU]) (st' := [(.int 0), (.ref u), (.int d0.toInt8.toInt32)]) rfl rfl (pc' := 88) rfl ?_
  refine oGet W0 B (v := (.int q0.toInt8.toInt32)) (by decide) rfl (Or.inr (Or.inl ⟨rfl, rfl⟩)) (by decide +kernel) ?_
  by_cases hc1 : d0.toInt8.toInt32 = q0.toInt8.toInt32
  rotate_left
  · refine oIcF W0 (cd := .eq) (o := 6) (by decide +kernel) (XT.ii_eq_f hc1) (pc' := 92) rfl ?_
    refine oGo W0 [.iload 5] (by decide +kernel) (ls' := #[sR t, sI 0, sR u, sI 0, sI 5, sI 0, sU, sU]) (st' := [(.int 0)]) rfl rfl (pc' := 94) rfl ?_
    exact oRetI W0 (by decide +kernel) (lb rfl) (lb rfl) (fun vm' hv => ⟨_, rfl, rfl, Or.inr ⟨by decide, fun q => hc1 (by rw [q.1])⟩⟩)
  refine oIcT W0 (cd := .eq) (o := 6) (by decide +kernel) (XT.ii_eq_t hc1) (pc' := 95) (by decide) (by decide) ?_
  refine oGo W0 [.iinc 5 1, .goto (-28), .iload 5, .iload 4] (by decide +kernel) (ls' := #[sR t, sI 0, sR u, sI 0, sI 5, sI 1, sU, sU]) (st' := [(.int 5), (.int 1)]) rfl rfl (pc' := 74) rfl ?_
  refine oIcF W0 (cd := .ge) (o := 27) (by decide +kernel) (XT.ii_ge_f (by decide)) (pc' := 77) rfl ?_
  refine oGo W0 [.aload_n 0, .iload_n 1, .iload 5, .iadd] (by decide +kernel) (ls' := #[sR t, sI 0, sR u, sI 0, sI 5, sI 1, sU, sU]) (st' := [(.int 1), (.ref t)]) rfl rfl (pc' := 82) rfl ?_
  refine oGet W0 A (v := (.int d1.toInt8.toInt32)) (by decide) rfl (Or.inr (Or.inl ⟨rfl, rfl⟩)) (by decide +kernel) ?_
  refine oGo W0 [.aload_n 2, .iload_n 3, .iload 5, .iadd] (by decide +kernel) (ls' := #[sR t, sI 0, sR u, sI 0, sI 5, sI 1, sU, sU]) (st' := [(.int 1), (.ref u), (.int d1.toInt8.toInt32)]) rfl rfl (pc' := 88) rfl ?_
  refine oGet W0 B (v := (.int q1.toInt8.toInt32)) (by decide) rfl (Or.inr (Or.inl ⟨rfl, rfl⟩)) (by decide +kernel) ?_
  by_cases hc2 : d1.toInt8.toInt32 = q1.toInt8.toInt32
  rotate_left
  · refine oIcF W0 (cd := .eq) (o := 6) (by decide +kernel) (XT.ii_eq_f hc2) (pc' := 92) rfl ?_
    refine oGo W0 [.iload 5] (by decide +kernel) (ls' := #[sR t, sI 0, sR u, sI 0, sI 5, sI 1, sU, sU]) (st' := [(.int 1)]) rfl rfl (pc' := 94) rfl ?_
    exact oRetI W0 (by decide +kernel) (lb rfl) (lb rfl) (fun vm' hv => ⟨_, rfl, rfl, Or.inr ⟨by decide, fun q => hc2 (by rw [q.2.1])⟩⟩)
  refine oIcT W0 (cd := .eq) (o := 6) (by decide +kernel) (XT.ii_eq_t hc2) (pc' := 95) (by decide) (by decide) ?_
  refine oGo W0 [.iinc 5 1, .goto (-28), .iload 5, .iload 4] (by decide +kernel) (ls' := #[sR t, sI 0, sR u, sI 0, sI 5, sI 2, sU, sU]) (st' := [(.int 5), (.int 2)]) rfl rfl (pc' := 74) rfl ?_
  refine oIcF W0 (cd := .ge) (o := 27) (by decide +kernel) (XT.ii_ge_f (by decide)) (pc' := 77) rfl ?_
  refine oGo W0 [.aload_n 0, .iload_n 1, .iload 5, .iadd] (by decide +kernel) (ls' := #[sR t, sI 0, sR u, sI 0, sI 5, sI 2, sU, sU]) (st' := [(.int 2), (.ref t)]) rfl rfl (pc' := 82) rfl ?_
  refine oGet W0 A (v := (.int d2.toInt8.toInt32)) (by decide) rfl (Or.inr (Or.inl ⟨rfl, rfl⟩)) (by decide +kernel) ?_
  refine oGo W0 [.aload_n 2, .iload_n 3, .iload 5, .iadd] (by decide +kernel) (ls' := #[sR t, sI 0, sR u, sI 0, sI 5, sI 2, sU, sU]) (st' := [(.int 2), (.ref u), (.int d2.toInt8.toInt32)]) rfl rfl (pc' := 88) rfl ?_
  refine oGet W0 B (v := (.int q2.toInt8.toInt32)) (by decide) rfl (Or.inr (Or.inl ⟨rfl, rfl⟩)) (by decide +kernel) ?_
  by_cases hc3 : d2.toInt8.toInt32 = q2.toInt8.toInt32
  rotate_left
  · refine oIcF W0 (cd := .eq) (o := 6) (by decide +kernel) (XT.ii_eq_f hc3) (pc' := 92) rfl ?_
    refine oGo W0 [.iload 5] (by decide +kernel) (ls' := #[sR t, sI 0, sR u, sI 0, sI 5, sI 2, sU, sU]) (st' := [(.int 2)]) rfl rfl (pc' := 94) rfl ?_
    exact oRetI W0 (by decide +kernel) (lb rfl) (lb rfl) (fun vm' hv => ⟨_, rfl, rfl, Or.inr ⟨by decide, fun q => hc3 (by rw [q.2.2.1])⟩⟩)
  refine oIcT W0 (cd := .eq) (o := 6) (by decide +kernel) (XT.ii_eq_t hc3) (pc' := 95) (by decide) (by decide) ?_
  refine oGo W0 [.iinc 5 1, .goto (-28), .iload 5, .iload 4] (by decide +kernel) (ls' := #[sR t, sI 0, sR u, sI 0, sI 5, sI 3, sU, sU]) (st' := [(.int 5), (.int 3)]) rfl rfl (pc' := 74) rfl ?_
  refine oIcF W0 (cd := .ge) (o := 27) (by decide +kernel) (XT.ii_ge_f (by decide)) (pc' := 77) rfl ?_
  refine oGo W0 [.aload_n 0, .iload_n 1, .iload 5, .iadd] (by decide +kernel) (ls' := #[sR t, sI 0, sR u, sI 0, sI 5, sI 3, sU, sU]) (st' := [(.int 3), (.ref t)]) rfl rfl (pc' := 82) rfl ?_
  refine oGet W0 A (v := (.int d3.toInt8.toInt32)) (by decide) rfl (Or.inr (Or.inl ⟨rfl, rfl⟩)) (by decide +kernel) ?_
  refine oGo W0 [.aload_n 2, .iload_n 3, .iload 5, .iadd] (by decide +kernel) (ls' := #[sR t, sI 0, sR u, sI 0, sI 5, sI 3, sU, sU]) (st' := [(.int 3), (.ref u), (.int d3.toInt8.toInt32)]) rfl rfl (pc' := 88) rfl ?_
  refine oGet W0 B (v := (.int q3.toInt8.toInt32)) (by decide) rfl (Or.inr (Or.inl ⟨rfl, rfl⟩)) (by decide +kernel) ?_
  by_cases hc4 : d3.toInt8.toInt32 = q3.toInt8.toInt32
  rotate_left
  · refine oIcF W0 (cd := .eq) (o := 6) (by decide +kernel) (XT.ii_eq_f hc4) (pc' := 92) rfl ?_
    refine oGo W0 [.iload 5] (by decide +kernel) (ls' := #[sR t, sI 0, sR u, sI 0, sI 5, sI 3, sU, sU]) (st' := [(.int 3)]) rfl rfl (pc' := 94) rfl ?_
    exact oRetI W0 (by decide +kernel) (lb rfl) (lb rfl) (fun vm' hv => ⟨_, rfl, rfl, Or.inr ⟨by decide, fun q => hc4 (by rw [q.2.2.2.1])⟩⟩)
  refine oIcT W0 (cd := .eq) (o := 6) (by decide +kernel) (XT.ii_eq_t hc4) (pc' := 95) (by decide) (by decide) ?_
  refine oGo W0 [.iinc 5 1, .goto (-28), .iload 5, .iload 4] (by decide +kernel) (ls' := #[sR t, sI 0, sR u, sI 0, sI 5, sI 4, sU, sU]) (st' := [(.int 5), (.int 4)]) rfl rfl (pc' := 74) rfl ?_
  refine oIcF W0 (cd := .ge) (o := 27) (by decide +kernel) (XT.ii_ge_f (by decide)) (pc' := 77) rfl ?_
  refine oGo W0 [.aload_n 0, .iload_n 1, .iload 5, .iadd] (by decide +kernel) (ls' := #[sR t, sI 0, sR u, sI 0, sI 5, sI 4, sU, sU]) (st' := [(.int 4), (.ref t)]) rfl rfl (pc' := 82) rfl ?_
  refine oGet W0 A (v := (.int d4.toInt8.toInt32)) (by decide) rfl (Or.inr (Or.inl ⟨rfl, rfl⟩)) (by decide +kernel) ?_
  refine oGo W0 [.aload_n 2, .iload_n 3, .iload 5, .iadd] (by decide +kernel) (ls' := #[sR t, sI 0, sR u, sI 0, sI 5, sI 4, sU, sU]) (st' := [(.int 4), (.ref u), (.int d4.toInt8.toInt32)]) rfl rfl (pc' := 88) rfl ?_
  refine oGet W0 B (v := (.int q4.toInt8.toInt32)) (by decide) rfl (Or.inr (Or.inl ⟨rfl, rfl⟩)) (by decide +kernel) ?_
  by_cases hc5 : d4.toInt8.toInt32 = q4.toInt8.toInt32
  rotate_left
  · refine oIcF W0 (cd := .eq) (o := 6) (by decide +kernel) (XT.ii_eq_f hc5) (pc' := 92) rfl ?_
    refine oGo W0 [.iload 5] (by decide +kernel) (ls' := #[sR t, sI 0, sR u, sI 0, sI 5, sI 4, sU, sU]) (st' := [(.int 4)]) rfl rfl (pc' := 94) rfl ?_
    exact oRetI W0 (by decide +kernel) (lb rfl) (lb rfl) (fun vm' hv => ⟨_, rfl, rfl, Or.inr ⟨by decide, fun q => hc5 (by rw [q.2.2.2.2])⟩⟩)
  refine oIcT W0 (cd := .eq) (o := 6) (by decide +kernel) (XT.ii_eq_t hc5) (pc' := 95) (by decide) (by decide) ?_
  refine oGo W0 [.iinc 5 1, .goto (-28), .iload 5, .iload 4] (by decide +kernel) (ls' := #[sR t, sI 0, sR u, sI 0, sI 5, sI 5, sU, sU]) (st' := [(.int 5), (.int 5)]) rfl rfl (pc' := 74) rfl ?_
  refine oIcT W0 (cd := .ge) (o := 27) (by decide +kernel) (XT.ii_ge_t (by decide)) (pc' := 101) (by decide) (by decide) ?_
  refine oGo W0 [.iconst (-1)] (by decide +kernel) (ls' := #[sR t, sI 0, sR u, sI 0, sI 5, sI 5, sU, sU]) (st' := [(.int (-1))]) rfl rfl (pc' := 102) rfl ?_
  exact oRetI W0 (by decide +kernel) (lb rfl) (lb rfl) (fun vm' hv => ⟨_, rfl, rfl, Or.inl ⟨by decide, lo8_inj pd0 pq0 hc1, lo8_inj pd1 pq1 hc2, lo8_inj pd2 pq2 hc3, lo8_inj pd3 pq3 hc4, lo8_inj pd4 pq4 hc5⟩⟩)
abbrev rm_c_sw2 : Room := { frames := 2, cells := 0, slots := 0, locals := 27 }
set_option maxRecDepth 65536 in
set_option maxHeartbeats 40000000 in
theorem c_sw2 {l : Launch} {Z : State} {a0 : Array Value} {nb : Bool} (K : Ctx Z a0) {x y : Addr} {d0 d1 d2 d3 d4 q0 q1 q2 q3 q4 : Int32} {rest : List Int32} {h0 : Heap} (F : Str Z h0 x (d0 :: d1 :: d2 :: d3 :: d4 :: rest)) (G : Str Z h0 y [q0, q1, q2, q3, q4]) (hl : rest.length ≤ 100) :
    OC l Z EL nb [] (⟨"java/lang/String", "startsWith", "(Ljava/lang/String;I)Z"⟩ : MethodName) jdk_42_method_75_code 8 (some .boolean) rm_c_sw2 #[(.ref x), (.ref y), (.int 0)] h0 [] (fun v _ h => ∃ r, v = some (.int r) ∧ h = h0 ∧ ((r = 1 ∧ d0 = q0 ∧ d1 = q1 ∧ d2 = q2 ∧ d3 = q3 ∧ d4 = q4) ∨ (r = 0 ∧ ¬ (d0 = q0 ∧ d1 = q1 ∧ d2 = q2 ∧ d3 = q3 ∧ d4 = q4)))) := by
  have hw := K.1
  have hS : ∀ a ∈ Bundle.stringAtoms, a.before a0 Z = true := K.2.2.1
  obtain ⟨t, kt, X1, Fc, Fv, A, P⟩ := id F
  obtain ⟨u, ku, X2, Gc, Gv, B, P2⟩ := id G
  refine oEnter (by decide +kernel) K.2.1.2.1 ?_
  intro _p _e _s m _below _meth _c T0 W0 S0
  refine oEq (g' := mkF m 0 #[.val (.ref x), .val (.ref y), .val (.int 0), .unset, .unset, .unset, .unset, .unset] []) (by first | (simp [entryFrame, mkF, argsToLocals, Value.category]; done) | rfl) ?_
  refine oGo W0 [.iload_n 2] (by decide +kernel) (ls' := #[sR x, sR y, sI 0, sU, sU, sU, sU, sU]) (st' := [(.int 0)]) rfl rfl (pc' := 1) rfl ?_
  refine oIfF W0 (cd := .lt) (o := 16) (by decide +kernel) (XT.i0_lt_f (by decide)) (pc' := 4) rfl ?_
  refine oGo W0 [.iload_n 2, .aload_n 0] (by decide +kernel) (ls' := #[sR x, sR y, sI 0, sU, sU, sU, sU, sU]) (st' := [(.ref x), (.int 0)]) rfl rfl (pc' := 6) rfl ?_
  obtain ⟨v1, T1, L1, h1, vm1, W1, ⟨rfl, e1⟩, C1, st1⟩ := oCallV W0 (idx := 505) (pc := 6) (ls := #[sR x, sR y, sI 0, sU, sU, sU, sU, sU]) (st := [(.int 0)]) (argsL := []) X1 (c_len K F) (fun x hx => nomatch hx) (wK K 72 rfl) (wK K 73 rfl) (notFace_of_selects (args := #[]) (mvT W0.warm (wK K 75 rfl))) (wK K 75 rfl) (wK K 74 rfl) (wK K 11 rfl) (wK K 76 rfl) (by decide) (na := 0) rfl (by decide +kernel) rfl (stk := [(.ref x), (.int 0)]) rfl (by decide +kernel) (V := 1) (lb rfl) (lb rfl) (lb rfl) (lb rfl) (lb rfl)
  refine oLift st1 ?_
  rw [e1] at W1 C1
  show OG _ _ _ _ _ _ _ _ _ _ _ (mkF m 9 #[sR x, sR y, sI 0, sU, sU, sU, sU, sU] [(.int (Int32.ofNat (d0 :: d1 :: d2 :: d3 :: d4 :: rest).length)), (.int 0)])
  refine oGo W1 [.aload_n 1] (by decide +kernel) (ls' := #[sR x, sR y, sI 0, sU, sU, sU, sU, sU]) (st' := [(.ref y), (.int (Int32.ofNat (d0 :: d1 :: d2 :: d3 :: d4 :: rest).length)), (.int 0)]) rfl rfl (pc' := 10) rfl ?_
  obtain ⟨v2, T2, L2, h2, vm2, W2, ⟨rfl, e2⟩, C2, st2⟩ := oCallV W1 (idx := 505) (pc := 10) (ls := #[sR x, sR y, sI 0, sU, sU, sU, sU, sU]) (st := [(.int (Int32.ofNat (d0 :: d1 :: d2 :: d3 :: d4 :: rest).length)), (.int 0)]) (argsL := []) X2 (c_len K G) (fun x hx => nomatch hx) (wK K 72 rfl) (wK K 73 rfl) (notFace_of_selects (args := #[]) (mvT W1.warm (wK K 75 rfl))) (wK K 75 rfl) (wK K 74 rfl) (wK K 11 rfl) (wK K 76 rfl) (by decide) (na := 0) rfl (by decide +kernel) rfl (stk := [(.ref y), (.int (Int32.ofNat (d0 :: d1 :: d2 :: d3 :: d4 :: rest).length)), (.int 0)]) rfl (by decide +kernel) (V := 2) (lb rfl) (lb rfl) (lb rfl) (lb rfl) (lb rfl)
  refine oLift st2 ?_
  rw [e2] at W2 C2
  show OG _ _ _ _ _ _ _ _ _ _ _ (mkF m 13 #[sR x, sR y, sI 0, sU, sU, sU, sU, sU] [(.int 5), (.int (Int32.ofNat (d0 :: d1 :: d2 :: d3 :: d4 :: rest).length)), (.int 0)])
  refine oGo W2 [.isub] (by decide +kernel) (ls' := #[sR x, sR y, sI 0, sU, sU, sU, sU, sU]) (st' := [(.int ((Int32.ofNat (d0 :: d1 :: d2 :: d3 :: d4 :: rest).length) - (5 : Int32))), (.int 0)]) rfl rfl (pc' := 14) rfl ?_
  refine oIcT W2 (cd := .le) (o := 5) (by decide +kernel) (XT.ii_le_t (sw_ge (by simp only [List.length_cons]; omega) (by simp only [List.length_cons]; omega))) (pc' := 19) (by decide) (by decide) ?_
  refine oGo W2 [.aload_n 0] (by decide +kernel) (ls' := #[sR x, sR y, sI 0, sU, sU, sU, sU, sU]) (st' := [(.ref x)]) rfl rfl (pc' := 20) rfl ?_
  obtain ⟨T3, W3, st3⟩ := oGetF W2 (pc := 20) (ls := #[sR x, sR y, sI 0, sU, sU, sU, sU, sU]) (st := []) (wK K 36 rfl) Via.refl Fv (by decide +kernel)
  refine oLift st3 ?_
  refine oGo W3 [.astore_n 3, .aload_n 1] (by decide +kernel) (ls' := #[sR x, sR y, sI 0, sR t, sU, sU, sU, sU]) (st' := [(.ref y)]) rfl rfl (pc' := 25) rfl ?_
  obtain ⟨T4, W4, st4⟩ := oGetF W3 (pc := 25) (ls := #[sR x, sR y, sI 0, sR t, sU, sU, sU, sU]) (st := []) (wK K 36 rfl) Via.refl Gv (by decide +kernel)
  refine oLift st4 ?_
  refine oGo W4 [.astore 4, .iconst 0, .istore 5, .aload 4] (by decide +kernel) (ls' := #[sR x, sR y, sI 0, sR t, sR u, sI 0, sU, sU]) (st' := [(.ref u)]) rfl rfl (pc' := 35) rfl ?_
  refine oLen W4 B (by decide +kernel) ?_
  show OG _ _ _ _ _ _ _ _ _ _ _ (mkF m 36 #[sR x, sR y, sI 0, sR t, sR u, sI 0, sU, sU] [(.int 5)])
  refine oGo W4 [.istore 6, .aload_n 0] (by decide +kernel) (ls' := #[sR x, sR y, sI 0, sR t, sR u, sI 0, sI 5, sU]) (st' := [(.ref x)]) rfl rfl (pc' := 39) rfl ?_
  obtain ⟨v5, T5, L5, h5, vm5, W5, ⟨rfl, e5⟩, C5, st5⟩ := oCallV W4 (idx := 335) (pc := 39) (ls := #[sR x, sR y, sI 0, sR t, sR u, sI 0, sI 5, sU]) (st := []) (argsL := []) X1 (c_coder K rfl Fc) (fun x hx => nomatch hx) (wK K 77 rfl) (wK K 78 rfl) (notFace_of_selects (args := #[]) (mvT W4.warm (wK K 80 rfl))) (wK K 80 rfl) (wK K 79 rfl) (wK K 11 rfl) (wK K 81 rfl) (by decide) (na := 0) rfl (by decide +kernel) rfl (stk := [(.ref x)]) rfl (by decide +kernel) (V := 0) (lb rfl) (lb rfl) (lb rfl) (lb rfl) (lb rfl)
  refine oLift st5 ?_
  rw [e5] at W5 C5
  show OG _ _ _ _ _ _ _ _ _ _ _ (mkF m 42 #[sR x, sR y, sI 0, sR t, sR u, sI 0, sI 5, sU] [(.int 0)])
  refine oGo W5 [.istore 7, .iload 7, .aload_n 1] (by decide +kernel) (ls' := #[sR x, sR y, sI 0, sR t, sR u, sI 0, sI 5, sI 0]) (st' := [(.ref y), (.int 0)]) rfl rfl (pc' := 47) rfl ?_
  obtain ⟨v6, T6, L6, h6, vm6, W6, ⟨rfl, e6⟩, C6, st6⟩ := oCallV W5 (idx := 335) (pc := 47) (ls := #[sR x, sR y, sI 0, sR t, sR u, sI 0, sI 5, sI 0]) (st := [(.int 0)]) (argsL := []) X2 (c_coder K rfl Gc) (fun x hx => nomatch hx) (wK K 77 rfl) (wK K 78 rfl) (notFace_of_selects (args := #[]) (mvT W5.warm (wK K 80 rfl))) (wK K 80 rfl) (wK K 79 rfl) (wK K 11 rfl) (wK K 81 rfl) (by decide) (na := 0) rfl (by decide +kernel) rfl (stk := [(.ref y), (.int 0)]) rfl (by decide +kernel) (V := 1) (lb rfl) (lb rfl) (lb rfl) (lb rfl) (lb rfl)
  refine oLift st6 ?_
  rw [e6] at W6 C6
  show OG _ _ _ _ _ _ _ _ _ _ _ (mkF m 50 #[sR x, sR y, sI 0, sR t, sR u, sI 0, sI 5, sI 0] [(.int 0), (.int 0)])
  refine oIcF W6 (cd := .ne) (o := 32) (by decide +kernel) (XT.ii_ne_f (by decide)) (pc' := 53) rfl ?_
  refine oGo W6 [.iload 7, .iconst 1] (by decide +kernel) (ls' := #[sR x, sR y, sI 0, sR t, sR u, sI 0, sI 5, sI 0]) (st' := [(.int 1), (.int 0)]) rfl rfl (pc' := 56) rfl ?_
  refine oIcT W6 (cd := .ne) (o := 7) (by decide +kernel) (XT.ii_ne_t (by decide)) (pc' := 63) (by decide) (by decide) ?_
  refine oGo W6 [.aload_n 3, .iload_n 2, .aload 4, .iconst 0, .iload 6] (by decide +kernel) (ls' := #[sR x, sR y, sI 0, sR t, sR u, sI 0, sI 5, sI 0]) (st' := [(.int 5), (.int 0), (.ref u), (.int 0), (.ref t)]) rfl rfl (pc' := 70) rfl ?_
  obtain ⟨v7, T7, L7, h7, vm7, W7, ⟨r, rfl, e7, Q7⟩, C7, st7⟩ := oCallS W6 (idx := 607) (pc := 70) (ls := #[sR x, sR y, sI 0, sR t, sR u, sI 0, sI 5, sI 0]) (st := []) (argsL := [(.ref t), (.int 0), (.ref u), (.int 0), (.int 5)]) (c_mis K A B P P2) (fun x hx => nomatch hx) (wK K 82 rfl) (wK K 83 rfl) (wK K 84 rfl) (wK K 85 rfl) (by decide) (na := 5) rfl (by decide +kernel) rfl (stk := [(.int 5), (.int 0), (.ref u), (.int 0), (.ref t)]) rfl (by decide +kernel) (V := 0) (lb rfl) (lb rfl) (lb rfl) (lb rfl) (lb rfl)
  refine oLift st7 ?_
  rw [e7] at W7 C7
  show OG _ _ _ _ _ _ _ _ _ _ _ (mkF m 73 #[sR x, sR y, sI 0, sR t, sR u, sI 0, sI 5, sI 0] [(.int r)])
  by_cases hc8 : r < (0 : Int32)
  · refine oIfF W7 (cd := .ge) (o := 7) (by decide +kernel) (XT.i0_ge_f hc8) (pc' := 76) rfl ?_
    refine oGo W7 [.iconst 1, .goto 4] (by decide +kernel) (ls' := #[sR x, sR y, sI 0, sR t, sR u, sI 0, sI 5, sI 0]) (st' := [(.int 1)]) rfl rfl (pc' := 81) rfl ?_
    exact oRetN (by simp) W7 rfl (by decide +kernel) (lb rfl) (lb rfl) (fun vm' hv => ⟨_, rfl, rfl, Or.inl ⟨rfl, Q7.elim (fun q => q.2) (fun q => absurd hc8 q.1)⟩⟩)
  refine oIfT W7 (cd := .ge) (o := 7) (by decide +kernel) (XT.i0_ge_t hc8) (pc' := 80) (by decide) (by decide) ?_
  refine oGo W7 [.iconst 0] (by decide +kernel) (ls' := #[sR x, sR y, sI 0, sR t, sR u, sI 0, sI 5, sI 0]) (st' := [(.int 0)]) rfl rfl (pc' := 81) rfl ?_
  exact oRetN (by simp) W7 rfl (by decide +kernel) (lb rfl) (lb rfl) (fun vm' hv => ⟨_, rfl, rfl, Or.inr ⟨rfl, Q7.elim (fun q => absurd q.1 hc8) (fun q => q.2)⟩⟩)
abbrev rm_c_sh2 : Room := { frames := 2, cells := 0, slots := 0, locals := 27 }
set_option maxRecDepth 65536 in
set_option maxHeartbeats 40000000 in
theorem c_sh2 {l : Launch} {Z : State} {a0 : Array Value} {nb : Bool} (K : Ctx Z a0) {x y : Addr} {cs : List Int32} {q0 q1 q2 q3 q4 : Int32} {h0 : Heap} (F : Str Z h0 x cs) (G : Str Z h0 y [q0, q1, q2, q3, q4]) (hs : cs.length < 5) :
    OC l Z EL nb [] (⟨"java/lang/String", "startsWith", "(Ljava/lang/String;I)Z"⟩ : MethodName) jdk_42_method_75_code 8 (some .boolean) rm_c_sh2 #[(.ref x), (.ref y), (.int 0)] h0 [] (fun v _ h => v = some (.int 0) ∧ h = h0) := by
  have hw := K.1
  have hS : ∀ a ∈ Bundle.stringAtoms, a.before a0 Z = true := K.2.2.1
  obtain ⟨t, kt, X1, Fc, Fv, A, P⟩ := id F
  obtain ⟨u, ku, X2, Gc, Gv, B, P2⟩ := id G
  refine oEnter (by decide +kernel) K.2.1.2.1 ?_
  intro _p _e _s m _below _meth _c T0 W0 S0
  refine oEq (g' := mkF m 0 #[.val (.ref x), .val (.ref y), .val (.int 0), .unset, .unset, .unset, .unset, .unset] []) (by first | (simp [entryFrame, mkF, argsToLocals, Value.category]; done) | rfl) ?_
  refine oGo W0 [.iload_n 2] (by decide +kernel) (ls' := #[sR x, sR y, sI 0, sU, sU, sU, sU, sU]) (st' := [(.int 0)]) rfl rfl (pc' := 1) rfl ?_
  refine oIfF W0 (cd := .lt) (o := 16) (by decide +kernel) (XT.i0_lt_f (by decide)) (pc' := 4) rfl ?_
  refine oGo W0 [.iload_n 2, .aload_n 0] (by decide +kernel) (ls' := #[sR x, sR y, sI 0, sU, sU, sU, sU, sU]) (st' := [(.ref x), (.int 0)]) rfl rfl (pc' := 6) rfl ?_
  obtain ⟨v1, T1, L1, h1, vm1, W1, ⟨rfl, e1⟩, C1, st1⟩ := oCallV W0 (idx := 505) (pc := 6) (ls := #[sR x, sR y, sI 0, sU, sU, sU, sU, sU]) (st := [(.int 0)]) (argsL := []) X1 (c_len K F) (fun x hx => nomatch hx) (wK K 72 rfl) (wK K 73 rfl) (notFace_of_selects (args := #[]) (mvT W0.warm (wK K 75 rfl))) (wK K 75 rfl) (wK K 74 rfl) (wK K 11 rfl) (wK K 76 rfl) (by decide) (na := 0) rfl (by decide +kernel) rfl (stk := [(.ref x), (.int 0)]) rfl (by decide +kernel) (V := 1) (lb rfl) (lb rfl) (lb rfl) (lb rfl) (lb rfl)
  refine oLift st1 ?_
  rw [e1] at W1 C1
  show OG _ _ _ _ _ _ _ _ _ _ _ (mkF m 9 #[sR x, sR y, sI 0, sU, sU, sU, sU, sU] [(.int (Int32.ofNat cs.length)), (.int 0)])
  refine oGo W1 [.aload_n 1] (by decide +kernel) (ls' := #[sR x, sR y, sI 0, sU, sU, sU, sU, sU]) (st' := [(.ref y), (.int (Int32.ofNat cs.length)), (.int 0)]) rfl rfl (pc' := 10) rfl ?_
  obtain ⟨v2, T2, L2, h2, vm2, W2, ⟨rfl, e2⟩, C2, st2⟩ := oCallV W1 (idx := 505) (pc := 10) (ls := #[sR x, sR y, sI 0, sU, sU, sU, sU, sU]) (st := [(.int (Int32.ofNat cs.length)), (.int 0)]) (argsL := []) X2 (c_len K G) (fun x hx => nomatch hx) (wK K 72 rfl) (wK K 73 rfl) (notFace_of_selects (args := #[]) (mvT W1.warm (wK K 75 rfl))) (wK K 75 rfl) (wK K 74 rfl) (wK K 11 rfl) (wK K 76 rfl) (by decide) (na := 0) rfl (by decide +kernel) rfl (stk := [(.ref y), (.int (Int32.ofNat cs.length)), (.int 0)]) rfl (by decide +kernel) (V := 2) (lb rfl) (lb rfl) (lb rfl) (lb rfl) (lb rfl)
  refine oLift st2 ?_
  rw [e2] at W2 C2
  show OG _ _ _ _ _ _ _ _ _ _ _ (mkF m 13 #[sR x, sR y, sI 0, sU, sU, sU, sU, sU] [(.int 5), (.int (Int32.ofNat cs.length)), (.int 0)])
  refine oGo W2 [.isub] (by decide +kernel) (ls' := #[sR x, sR y, sI 0, sU, sU, sU, sU, sU]) (st' := [(.int ((Int32.ofNat cs.length) - (5 : Int32))), (.int 0)]) rfl rfl (pc' := 14) rfl ?_
  refine oIcF W2 (cd := .le) (o := 5) (by decide +kernel) (XT.ii_le_f (sw_lt hs)) (pc' := 17) rfl ?_
  refine oGo W2 [.iconst 0] (by decide +kernel) (ls' := #[sR x, sR y, sI 0, sU, sU, sU, sU, sU]) (st' := [(.int 0)]) rfl rfl (pc' := 18) rfl ?_
  exact oRetN (by simp) W2 rfl (by decide +kernel) (lb rfl) (lb rfl) (fun vm' hv => ⟨rfl, rfl⟩)
abbrev rm_c_sw1 : Room := { frames := 3, cells := 0, slots := 0, locals := 46 }
set_option maxRecDepth 65536 in
set_option maxHeartbeats 40000000 in
theorem c_sw1 {l : Launch} {Z : State} {a0 : Array Value} {nb : Bool} (K : Ctx Z a0) {x y : Addr} {d0 d1 d2 d3 d4 q0 q1 q2 q3 q4 : Int32} {rest : List Int32} {h0 : Heap} (F : Str Z h0 x (d0 :: d1 :: d2 :: d3 :: d4 :: rest)) (G : Str Z h0 y [q0, q1, q2, q3, q4]) (hl : rest.length ≤ 100) :
    OC l Z EL nb [] (⟨"java/lang/String", "startsWith", "(Ljava/lang/String;)Z"⟩ : MethodName) jdk_42_method_76_code 2 (some .boolean) rm_c_sw1 #[(.ref x), (.ref y)] h0 [] (fun v _ h => ∃ r, v = some (.int r) ∧ h = h0 ∧ ((r = 1 ∧ d0 = q0 ∧ d1 = q1 ∧ d2 = q2 ∧ d3 = q3 ∧ d4 = q4) ∨ (r = 0 ∧ ¬ (d0 = q0 ∧ d1 = q1 ∧ d2 = q2 ∧ d3 = q3 ∧ d4 = q4)))) := by
  have hw := K.1
  have hS : ∀ a ∈ Bundle.stringAtoms, a.before a0 Z = true := K.2.2.1
  refine oEnter (by decide +kernel) K.2.1.2.1 ?_
  intro _p _e _s m _below _meth _c T0 W0 S0
  refine oEq (g' := mkF m 0 #[.val (.ref x), .val (.ref y)] []) (by first | (simp [entryFrame, mkF, argsToLocals, Value.category]; done) | rfl) ?_
  refine oGo W0 [.aload_n 0, .aload_n 1, .iconst 0] (by decide +kernel) (ls' := #[sR x, sR y]) (st' := [(.int 0), (.ref y), (.ref x)]) rfl rfl (pc' := 3) rfl ?_
  obtain ⟨v1, T1, L1, h1, vm1, W1, ⟨r, rfl, e1, Q1⟩, C1, st1⟩ := oCallV W0 (idx := 624) (pc := 3) (ls := #[sR x, sR y]) (st := []) (argsL := [(.ref y), (.int 0)]) F.exa (c_sw2 K F G hl) (fun x hx => nomatch hx) (wK K 67 rfl) (wK K 68 rfl) (notFace_of_selects (args := #[]) (mvT W0.warm (wK K 70 rfl))) (wK K 70 rfl) (wK K 69 rfl) (wK K 11 rfl) (wK K 71 rfl) (by decide) (na := 2) rfl (by decide +kernel) rfl (stk := [(.int 0), (.ref y), (.ref x)]) rfl (by decide +kernel) (V := 0) (lb rfl) (lb rfl) (lb rfl) (lb rfl) (lb rfl)
  refine oLift st1 ?_
  rw [e1] at W1 C1
  show OG _ _ _ _ _ _ _ _ _ _ _ (mkF m 6 #[sR x, sR y] [(.int r)])
  rcases Q1 with ⟨rfl, hq⟩ | ⟨rfl, hq⟩
  · exact oRetN (by simp) W1 rfl (by decide +kernel) (lb rfl) (lb rfl) (fun vm' hv => ⟨_, rfl, rfl, Or.inl ⟨rfl, hq⟩⟩)
  · exact oRetN (by simp) W1 rfl (by decide +kernel) (lb rfl) (lb rfl) (fun vm' hv => ⟨_, rfl, rfl, Or.inr ⟨rfl, hq⟩⟩)
abbrev rm_c_sh1 : Room := { frames := 3, cells := 0, slots := 0, locals := 46 }
set_option maxRecDepth 65536 in
set_option maxHeartbeats 40000000 in
theorem c_sh1 {l : Launch} {Z : State} {a0 : Array Value} {nb : Bool} (K : Ctx Z a0) {x y : Addr} {cs : List Int32} {q0 q1 q2 q3 q4 : Int32} {h0 : Heap} (F : Str Z h0 x cs) (G : Str Z h0 y [q0, q1, q2, q3, q4]) (hs : cs.length < 5) :
    OC l Z EL nb [] (⟨"java/lang/String", "startsWith", "(Ljava/lang/String;)Z"⟩ : MethodName) jdk_42_method_76_code 2 (some .boolean) rm_c_sh1 #[(.ref x), (.ref y)] h0 [] (fun v _ h => v = some (.int 0) ∧ h = h0) := by
  have hw := K.1
  have hS : ∀ a ∈ Bundle.stringAtoms, a.before a0 Z = true := K.2.2.1
  refine oEnter (by decide +kernel) K.2.1.2.1 ?_
  intro _p _e _s m _below _meth _c T0 W0 S0
  refine oEq (g' := mkF m 0 #[.val (.ref x), .val (.ref y)] []) (by first | (simp [entryFrame, mkF, argsToLocals, Value.category]; done) | rfl) ?_
  refine oGo W0 [.aload_n 0, .aload_n 1, .iconst 0] (by decide +kernel) (ls' := #[sR x, sR y]) (st' := [(.int 0), (.ref y), (.ref x)]) rfl rfl (pc' := 3) rfl ?_
  obtain ⟨v1, T1, L1, h1, vm1, W1, ⟨rfl, e1⟩, C1, st1⟩ := oCallV W0 (idx := 624) (pc := 3) (ls := #[sR x, sR y]) (st := []) (argsL := [(.ref y), (.int 0)]) F.exa (c_sh2 K F G hs) (fun x hx => nomatch hx) (wK K 67 rfl) (wK K 68 rfl) (notFace_of_selects (args := #[]) (mvT W0.warm (wK K 70 rfl))) (wK K 70 rfl) (wK K 69 rfl) (wK K 11 rfl) (wK K 71 rfl) (by decide) (na := 2) rfl (by decide +kernel) rfl (stk := [(.int 0), (.ref y), (.ref x)]) rfl (by decide +kernel) (V := 0) (lb rfl) (lb rfl) (lb rfl) (lb rfl) (lb rfl)
  refine oLift st1 ?_
  rw [e1] at W1 C1
  show OG _ _ _ _ _ _ _ _ _ _ _ (mkF m 6 #[sR x, sR y] [(.int 0)])
  exact oRetN (by simp) W1 rfl (by decide +kernel) (lb rfl) (lb rfl) (fun vm' hv => ⟨rfl, rfl⟩)
abbrev rm_c_rn1 : Room := { frames := 0, cells := 0, slots := 0, locals := 0 }
set_option maxRecDepth 65536 in
set_option maxHeartbeats 40000000 in
theorem c_rn1 {l : Launch} {Z : State} {a0 : Array Value} {nb : Bool} (K : Ctx Z a0) {x : Addr} {h0 : Heap} :
    OC l Z EL nb [] (⟨"java/util/Objects", "requireNonNull", "(Ljava/lang/Object;)Ljava/lang/Object;"⟩ : MethodName) jdk_31_method_10_code 1 (some (.object "java/lang/Object")) rm_c_rn1 #[(.ref x)] h0 [] (fun v _ h => v = some (.ref x) ∧ h = h0) := by
  have hw := K.1
  have hS : ∀ a ∈ Bundle.stringAtoms, a.before a0 Z = true := K.2.2.1
  refine oEnter (by decide +kernel) K.2.1.2.1 ?_
  intro _p _e _s m _below _meth _c T0 W0 S0
  refine oEq (g' := mkF m 0 #[.val (.ref x)] []) (by first | (simp [entryFrame, mkF, argsToLocals, Value.category]; done) | rfl) ?_
  refine oGo W0 [.aload_n 0] (by decide +kernel) (ls' := #[sR x]) (st' := [(.ref x)]) rfl rfl (pc' := 1) rfl ?_
  refine oNnT W0 (o := 11) (by decide +kernel) (pc' := 12) (by decide) (by decide) ?_
  refine oGo W0 [.aload_n 0] (by decide +kernel) (ls' := #[sR x]) (st' := [(.ref x)]) rfl rfl (pc' := 13) rfl ?_
  exact oRetA rfl W0 rfl rfl (by decide +kernel) (lb rfl) (lb rfl) (fun vm' hv => ⟨rfl, rfl⟩)
abbrev rm_c_oin : Room := { frames := 1, cells := 0, slots := 0, locals := 12 }
set_option maxRecDepth 65536 in
set_option maxHeartbeats 40000000 in
theorem c_oin {l : Launch} {Z : State} {a0 : Array Value} {nb : Bool} (K : Ctx Z a0) {a x : Addr} {h0 : Heap} (hfr : Z.heap.size ≤ a) (X : Exa Z h0 a "java/util/Optional") (Fb : Fld Z h0 a "java/util/Optional" "value" "Ljava/lang/Object;" .null) :
    OC l Z EL nb [] (⟨"java/util/Optional", "<init>", "(Ljava/lang/Object;)V"⟩ : MethodName) jdk_32_method_2_code 2 none rm_c_oin #[(.ref a), (.ref x)] h0 [] (fun v _ h => v = none ∧ Keep h0 h [a] ∧ Exa Z h a "java/util/Optional" ∧ Fld Z h a "java/util/Optional" "value" "Ljava/lang/Object;" (.ref x)) := by
  have hw := K.1
  have hS : ∀ a ∈ Bundle.stringAtoms, a.before a0 Z = true := K.2.2.1
  refine oEnter (by decide +kernel) K.2.1.2.1 ?_
  intro _p _e _s m _below _meth _c T0 W0 S0
  refine oEq (g' := mkF m 0 #[.val (.ref a), .val (.ref x)] []) (by first | (simp [entryFrame, mkF, argsToLocals, Value.category]; done) | rfl) ?_
  refine oGo W0 [.aload_n 0] (by decide +kernel) (ls' := #[sR a, sR x]) (st' := [(.ref a)]) rfl rfl (pc' := 1) rfl ?_
  obtain ⟨T1, W1, st1⟩ := oInit W0 (idx := 7) (pc := 1) (ls := #[sR a, sR x]) (st := []) (a := a) (wK K 227 rfl) (wK K 20 rfl) (wK K 21 rfl) rfl (by decide +kernel) (lb rfl) (V := 0) (lb rfl) (lb rfl)
  refine oLift st1 ?_
  refine oGo W1 [.aload_n 0, .aload_n 1] (by decide +kernel) (ls' := #[sR a, sR x]) (st' := [(.ref x), (.ref a)]) rfl rfl (pc' := 6) rfl ?_
  obtain ⟨T2, h2, W2, Wr2, F2, X2, C2, st2⟩ := oPutF W1 (idx := 13) (pc := 6) (ls := #[sR a, sR x]) (st := []) (v := (.ref x)) (wK K 96 rfl) Via.refl Fb X (Or.inr ⟨(wK K 97 rfl), rfl, rfl⟩) (wK K 219 rfl) (ty := (.object "java/lang/Object")) (by decide) rfl rfl hfr (Safe.exa W1.warm.alike X (by decide) (by decide)) (by decide +kernel)
  refine oLift st2 ?_
  exact oRet0 W2 (by decide +kernel) (lb rfl) (lb rfl) (fun vm' hv => ⟨rfl, ((Keep.refl _ [a]).wr Wr2 (Or.inl (List.mem_singleton.mpr rfl))), X2, F2⟩)
abbrev rm_c_oof : Room := { frames := 2, cells := 1, slots := 1, locals := 26 }
set_option maxRecDepth 65536 in
set_option maxHeartbeats 40000000 in
theorem c_oof {l : Launch} {Z : State} {a0 : Array Value} {nb : Bool} (K : Ctx Z a0) {x : Addr} {h0 : Heap} :
    OC l Z EL nb [] (⟨"java/util/Optional", "of", "(Ljava/lang/Object;)Ljava/util/Optional;"⟩ : MethodName) jdk_32_method_3_code 1 (some (.object "java/util/Optional")) rm_c_oof #[(.ref x)] h0 [] (fun v _ h => ∃ o, v = some (.ref o) ∧ Exa Z h o "java/util/Optional" ∧ Fld Z h o "java/util/Optional" "value" "Ljava/lang/Object;" (.ref x) ∧ Ext h0 h) := by
  have hw := K.1
  have hS : ∀ a ∈ Bundle.stringAtoms, a.before a0 Z = true := K.2.2.1
  refine oEnter (by decide +kernel) K.2.1.2.1 ?_
  intro _p _e _s m _below _meth _c T0 W0 S0
  refine oEq (g' := mkF m 0 #[.val (.ref x)] []) (by first | (simp [entryFrame, mkF, argsToLocals, Value.category]; done) | rfl) ?_
  obtain ⟨T1, h1, o, W1, g1, E1, A1, D1, S1, C1, st1⟩ := oNew W0 (pc := 0) (ls := #[sR x]) (st := []) (wK K 218 rfl) (wK K 219 rfl) (wK K 88 rfl) (by decide +kernel) (lb rfl) (lb rfl)
  refine oLift st1 ?_
  refine oGo W1 [.dup, .aload_n 0] (by decide +kernel) (ls' := #[sR x]) (st' := [(.ref x), (.ref o), (.ref o)]) rfl rfl (pc' := 5) rfl ?_
  obtain ⟨v2, T2, L2, h2, vm2, W2, ⟨rfl, e2⟩, C2, st2⟩ := oCallS W1 (idx := 17) (pc := 5) (ls := #[sR x]) (st := [(.ref o), (.ref o)]) (argsL := [(.ref x)]) (c_rn1 K) (fun x hx => nomatch hx) (wK K 220 rfl) (wK K 221 rfl) (wK K 182 rfl) (wK K 222 rfl) (by decide) (na := 1) rfl (by decide +kernel) rfl (stk := [(.ref x), (.ref o), (.ref o)]) rfl (by decide +kernel) (V := 2) (lb rfl) (lb rfl) (lb rfl) (lb rfl) (lb rfl)
  refine oLift st2 ?_
  rw [e2] at W2 C2
  show OG _ _ _ _ _ _ _ _ _ _ _ (mkF m 8 #[sR x] [(.ref x), (.ref o), (.ref o)])
  obtain ⟨v3, T3, L3, h3, vm3, W3, ⟨rfl, K3, X3, F3⟩, C3, st3⟩ := oCallN W2 (idx := 23) (pc := 8) (ls := #[sR x]) (st := [(.ref o)]) (a := o) (argsL := [(.ref x)]) (c_oin K (Nat.le_trans W0.ext.1 g1) A1 (D1 (Or.inr (wK K 97 rfl)) (ty := (.object "java/lang/Object")) (by decide))) (fun x hx => nomatch hx) rfl (wK K 223 rfl) (wK K 224 rfl) (wK K 88 rfl) (wK K 226 rfl) (by decide) (na := 1) rfl (by decide +kernel) rfl (stk := [(.ref x), (.ref o), (.ref o)]) rfl (by decide +kernel) (V := 1) (lb rfl) (lb rfl) (lb rfl) (lb rfl) (lb rfl)
  refine oLift st3 ?_
  show OG _ _ _ _ _ _ _ _ _ _ _ (mkF m 11 #[sR x] [(.ref o)])
  exact oRetA rfl W3 rfl rfl (by decide +kernel) (lb rfl) (lb rfl) (fun vm' hv => ⟨o, rfl, X3, F3, (exK E1 K3 (fun y hy => by cases List.mem_singleton.mp hy; exact g1))⟩)
abbrev rm_c_oem : Room := { frames := 0, cells := 0, slots := 0, locals := 0 }
set_option maxRecDepth 65536 in
set_option maxHeartbeats 40000000 in
theorem c_oem {l : Launch} {Z : State} {a0 : Array Value} {nb : Bool} (K : Ctx Z a0) {eo : Addr} {h0 : Heap} (H : Op Z eo) :
    OC l Z EL nb [] (⟨"java/util/Optional", "empty", "()Ljava/util/Optional;"⟩ : MethodName) jdk_32_method_1_code 1 (some (.object "java/util/Optional")) rm_c_oem #[] h0 [] (fun v _ h => v = some (.ref eo) ∧ h = h0) := by
  have hw := K.1
  have hS : ∀ a ∈ Bundle.stringAtoms, a.before a0 Z = true := K.2.2.1
  obtain ⟨Se, Xe, Fe⟩ := H
  refine oEnter (by decide +kernel) K.2.1.2.1 ?_
  intro _p _e _s m _below _meth _c T0 W0 S0
  refine oEq (g' := mkF m 0 #[.unset] []) (by first | (simp [entryFrame, mkF, argsToLocals, Value.category]; done) | rfl) ?_
  obtain ⟨T1, W1, st1⟩ := oGetS W0 (pc := 0) (ls := #[sU]) (st := []) (wK K 90 rfl) Via.refl (Se.ext W0.ext) (by decide +kernel)
  refine oLift st1 ?_
  refine oGo W1 [.astore_n 0, .aload_n 0] (by decide +kernel) (ls' := #[sR eo]) (st' := [(.ref eo)]) rfl rfl (pc' := 5) rfl ?_
  exact oRetA rfl W1 rfl rfl (by decide +kernel) (lb rfl) (lb rfl) (fun vm' hv => ⟨rfl, rfl⟩)
abbrev rm_c_op0 : Room := { frames := 0, cells := 0, slots := 0, locals := 0 }
set_option maxRecDepth 65536 in
set_option maxHeartbeats 40000000 in
theorem c_op0 {l : Launch} {Z : State} {a0 : Array Value} {nb : Bool} (K : Ctx Z a0) {a : Addr} {h0 : Heap} (F : Fld Z h0 a "java/util/Optional" "value" "Ljava/lang/Object;" .null) :
    OC l Z EL nb [] (⟨"java/util/Optional", "isPresent", "()Z"⟩ : MethodName) jdk_32_method_6_code 1 (some .boolean) rm_c_op0 #[(.ref a)] h0 [] (fun v _ h => v = some (.int 0) ∧ h = h0) := by
  have hw := K.1
  have hS : ∀ a ∈ Bundle.stringAtoms, a.before a0 Z = true := K.2.2.1
  refine oEnter (by decide +kernel) K.2.1.2.1 ?_
  intro _p _e _s m _below _meth _c T0 W0 S0
  refine oEq (g' := mkF m 0 #[.val (.ref a)] []) (by first | (simp [entryFrame, mkF, argsToLocals, Value.category]; done) | rfl) ?_
  refine oGo W0 [.aload_n 0] (by decide +kernel) (ls' := #[sR a]) (st' := [(.ref a)]) rfl rfl (pc' := 1) rfl ?_
  obtain ⟨T1, W1, st1⟩ := oGetF W0 (pc := 1) (ls := #[sR a]) (st := []) (wK K 96 rfl) Via.refl F (by decide +kernel)
  refine oLift st1 ?_
  refine oNuT W1 (o := 7) (by decide +kernel) (pc' := 11) (by decide) (by decide) ?_
  refine oGo W1 [.iconst 0] (by decide +kernel) (ls' := #[sR a]) (st' := [(.int 0)]) rfl rfl (pc' := 12) rfl ?_
  exact oRetN (by simp) W1 rfl (by decide +kernel) (lb rfl) (lb rfl) (fun vm' hv => ⟨rfl, rfl⟩)
abbrev rm_c_op1 : Room := { frames := 0, cells := 0, slots := 0, locals := 0 }
set_option maxRecDepth 65536 in
set_option maxHeartbeats 40000000 in
theorem c_op1 {l : Launch} {Z : State} {a0 : Array Value} {nb : Bool} (K : Ctx Z a0) {a x : Addr} {h0 : Heap} (F : Fld Z h0 a "java/util/Optional" "value" "Ljava/lang/Object;" (.ref x)) :
    OC l Z EL nb [] (⟨"java/util/Optional", "isPresent", "()Z"⟩ : MethodName) jdk_32_method_6_code 1 (some .boolean) rm_c_op1 #[(.ref a)] h0 [] (fun v _ h => v = some (.int 1) ∧ h = h0) := by
  have hw := K.1
  have hS : ∀ a ∈ Bundle.stringAtoms, a.before a0 Z = true := K.2.2.1
  refine oEnter (by decide +kernel) K.2.1.2.1 ?_
  intro _p _e _s m _below _meth _c T0 W0 S0
  refine oEq (g' := mkF m 0 #[.val (.ref a)] []) (by first | (simp [entryFrame, mkF, argsToLocals, Value.category]; done) | rfl) ?_
  refine oGo W0 [.aload_n 0] (by decide +kernel) (ls' := #[sR a]) (st' := [(.ref a)]) rfl rfl (pc' := 1) rfl ?_
  obtain ⟨T1, W1, st1⟩ := oGetF W0 (pc := 1) (ls := #[sR a]) (st := []) (wK K 96 rfl) Via.refl F (by decide +kernel)
  refine oLift st1 ?_
  refine oNuF W1 (o := 7) (by decide +kernel) (pc' := 7) rfl ?_
  refine oGo W1 [.iconst 1, .goto 4] (by decide +kernel) (ls' := #[sR a]) (st' := [(.int 1)]) rfl rfl (pc' := 12) rfl ?_
  exact oRetN (by simp) W1 rfl (by decide +kernel) (lb rfl) (lb rfl) (fun vm' hv => ⟨rfl, rfl⟩)
abbrev rm_c_oge : Room := { frames := 0, cells := 0, slots := 0, locals := 0 }
set_option maxRecDepth 65536 in
set_option maxHeartbeats 40000000 in
theorem c_oge {l : Launch} {Z : State} {a0 : Array Value} {nb : Bool} (K : Ctx Z a0) {a x : Addr} {h0 : Heap} (F : Fld Z h0 a "java/util/Optional" "value" "Ljava/lang/Object;" (.ref x)) :
    OC l Z EL nb [] (⟨"java/util/Optional", "get", "()Ljava/lang/Object;"⟩ : MethodName) jdk_32_method_5_code 1 (some (.object "java/lang/Object")) rm_c_oge #[(.ref a)] h0 [] (fun v _ h => v = some (.ref x) ∧ h = h0) := by
  have hw := K.1
  have hS : ∀ a ∈ Bundle.stringAtoms, a.before a0 Z = true := K.2.2.1
  refine oEnter (by decide +kernel) K.2.1.2.1 ?_
  intro _p _e _s m _below _meth _c T0 W0 S0
  refine oEq (g' := mkF m 0 #[.val (.ref a)] []) (by first | (simp [entryFrame, mkF, argsToLocals, Value.category]; done) | rfl) ?_
  refine oGo W0 [.aload_n 0] (by decide +kernel) (ls' := #[sR a]) (st' := [(.ref a)]) rfl rfl (pc' := 1) rfl ?_
  obtain ⟨T1, W1, st1⟩ := oGetF W0 (pc := 1) (ls := #[sR a]) (st := []) (wK K 96 rfl) Via.refl F (by decide +kernel)
  refine oLift st1 ?_
  refine oNnT W1 (o := 13) (by decide +kernel) (pc' := 17) (by decide) (by decide) ?_
  refine oGo W1 [.aload_n 0] (by decide +kernel) (ls' := #[sR a]) (st' := [(.ref a)]) rfl rfl (pc' := 18) rfl ?_
  obtain ⟨T2, W2, st2⟩ := oGetF W1 (pc := 18) (ls := #[sR a]) (st := []) (wK K 96 rfl) Via.refl F (by decide +kernel)
  refine oLift st2 ?_
  exact oRetA rfl W2 rfl rfl (by decide +kernel) (lb rfl) (lb rfl) (fun vm' hv => ⟨rfl, rfl⟩)
abbrev rm_c_grole : Room := { frames := 0, cells := 0, slots := 0, locals := 0 }
set_option maxRecDepth 65536 in
set_option maxHeartbeats 40000000 in
theorem c_grole {l : Launch} {Z : State} {a0 : Array Value} {nb : Bool} (K : Ctx Z a0) {a x : Addr} {h0 : Heap} (F : Fld Z h0 a "com/example/gentle_hub/gentlehub/server/ChannelLocation" "role" "Lcom/example/gentle_hub/gentlehub/server/ChannelLocation$Role;" (.ref x)) :
    OC l Z EL nb [] (⟨"com/example/gentle_hub/gentlehub/server/ChannelLocation", "role", "()Lcom/example/gentle_hub/gentlehub/server/ChannelLocation$Role;"⟩ : MethodName) prog_15_method_7_code 1 (some (.object "com/example/gentle_hub/gentlehub/server/ChannelLocation$Role")) rm_c_grole #[(.ref a)] h0 [] (fun v _ h => v = some (.ref x) ∧ h = h0) := by
  have hw := K.1
  have hS : ∀ a ∈ Bundle.stringAtoms, a.before a0 Z = true := K.2.2.1
  refine oEnter (by decide +kernel) K.2.1.2.1 ?_
  intro _p _e _s m _below _meth _c T0 W0 S0
  refine oEq (g' := mkF m 0 #[.val (.ref a)] []) (by first | (simp [entryFrame, mkF, argsToLocals, Value.category]; done) | rfl) ?_
  refine oGo W0 [.aload_n 0] (by decide +kernel) (ls' := #[sR a]) (st' := [(.ref a)]) rfl rfl (pc' := 1) rfl ?_
  obtain ⟨T1, W1, st1⟩ := oGetF W0 (pc := 1) (ls := #[sR a]) (st := []) (wK K 211 rfl) Via.refl F (by decide +kernel)
  refine oLift st1 ?_
  exact oRetA rfl W1 rfl rfl (by decide +kernel) (lb rfl) (lb rfl) (fun vm' hv => ⟨rfl, rfl⟩)
abbrev rm_c_gchannel : Room := { frames := 0, cells := 0, slots := 0, locals := 0 }
set_option maxRecDepth 65536 in
set_option maxHeartbeats 40000000 in
theorem c_gchannel {l : Launch} {Z : State} {a0 : Array Value} {nb : Bool} (K : Ctx Z a0) {a x : Addr} {h0 : Heap} (F : Fld Z h0 a "com/example/gentle_hub/gentlehub/server/ChannelLocation" "channel" "Lcom/example/gentle_hub/gentlehub/core/ChannelName;" (.ref x)) :
    OC l Z EL nb [] (⟨"com/example/gentle_hub/gentlehub/server/ChannelLocation", "channel", "()Lcom/example/gentle_hub/gentlehub/core/ChannelName;"⟩ : MethodName) prog_15_method_8_code 1 (some (.object "com/example/gentle_hub/gentlehub/core/ChannelName")) rm_c_gchannel #[(.ref a)] h0 [] (fun v _ h => v = some (.ref x) ∧ h = h0) := by
  have hw := K.1
  have hS : ∀ a ∈ Bundle.stringAtoms, a.before a0 Z = true := K.2.2.1
  refine oEnter (by decide +kernel) K.2.1.2.1 ?_
  intro _p _e _s m _below _meth _c T0 W0 S0
  refine oEq (g' := mkF m 0 #[.val (.ref a)] []) (by first | (simp [entryFrame, mkF, argsToLocals, Value.category]; done) | rfl) ?_
  refine oGo W0 [.aload_n 0] (by decide +kernel) (ls' := #[sR a]) (st' := [(.ref a)]) rfl rfl (pc' := 1) rfl ?_
  obtain ⟨T1, W1, st1⟩ := oGetF W0 (pc := 1) (ls := #[sR a]) (st := []) (wK K 213 rfl) Via.refl F (by decide +kernel)
  refine oLift st1 ?_
  exact oRetA rfl W1 rfl rfl (by decide +kernel) (lb rfl) (lb rfl) (fun vm' hv => ⟨rfl, rfl⟩)
def Rs (Z : State) (r0 r1 va : Addr) (kv : ClassId) (p0 p1 : Addr) : Prop := (Sta Z Z.heap "com/example/gentle_hub/gentlehub/server/ChannelLocation$Role" "SUBSCRIBER" "Lcom/example/gentle_hub/gentlehub/server/ChannelLocation$Role;" (.ref r0) ∧ Sta Z Z.heap "com/example/gentle_hub/gentlehub/server/ChannelLocation$Role" "PUBLISHER" "Lcom/example/gentle_hub/gentlehub/server/ChannelLocation$Role;" (.ref r1)) ∧ (Sta Z Z.heap "com/example/gentle_hub/gentlehub/server/ChannelLocation$Role" "$VALUES" "[Lcom/example/gentle_hub/gentlehub/server/ChannelLocation$Role;" (.ref va) ∧ OA Z Z.heap va kv (.object "com/example/gentle_hub/gentlehub/server/ChannelLocation$Role") [.ref r1, .ref r0] ∧ Exa Z Z.heap va "[Lcom/example/gentle_hub/gentlehub/server/ChannelLocation$Role;") ∧ (Fld Z Z.heap r0 "com/example/gentle_hub/gentlehub/server/ChannelLocation$Role" "pathPrefix" "Ljava/lang/String;" (.ref p0) ∧ Fld Z Z.heap r1 "com/example/gentle_hub/gentlehub/server/ChannelLocation$Role" "pathPrefix" "Ljava/lang/String;" (.ref p1)) ∧ (Str Z Z.heap p0 [47, 115, 117, 98, 47] ∧ Str Z Z.heap p1 [47, 112, 117, 98, 47])
abbrev rm_c_values : Room := { frames := 1, cells := 1, slots := 2, locals := 14 }
set_option maxRecDepth 65536 in
set_option maxHeartbeats 40000000 in
theorem c_values {l : Launch} {Z : State} {a0 : Array Value} {nb : Bool} (K : Ctx Z a0) {r0 r1 va : Addr} {kv : ClassId} {p0 p1 : Addr} (H : Rs Z r0 r1 va kv p0 p1) {h0 : Heap} :
    OC l Z EL nb [] (⟨"com/example/gentle_hub/gentlehub/server/ChannelLocation$Role", "values", "()[Lcom/example/gentle_hub/gentlehub/server/ChannelLocation$Role;"⟩ : MethodName) prog_16_method_1_code 0 (some (.array (.object "com/example/gentle_hub/gentlehub/server/ChannelLocation$Role"))) rm_c_values #[] h0 [] (fun v _ h => ∃ b, v = some (.ref b) ∧ Ext h0 h ∧ OA Z h b kv (.object "com/example/gentle_hub/gentlehub/server/ChannelLocation$Role") [.ref r1, .ref r0]) := by
  have hw := K.1
  have hS : ∀ a ∈ Bundle.stringAtoms, a.before a0 Z = true := K.2.2.1
  obtain ⟨⟨Sr0, Sr1⟩, ⟨SV, AV, XV⟩, ⟨Fr0, Fr1⟩, ⟨Tr0, Tr1⟩⟩ := id H
  refine oEnter (by decide +kernel) K.2.1.2.1 ?_
  intro _p _e _s m _below _meth _c T0 W0 S0
  refine oEq (g' := mkF m 0 #[] []) (by first | (simp [entryFrame, mkF, argsToLocals, Value.category]; done) | rfl) ?_
  obtain ⟨T1, W1, st1⟩ := oGetS W0 (pc := 0) (ls := #[]) (st := []) (wK K 46 rfl) Via.refl (SV.ext W0.ext) (by decide +kernel)
  refine oLift st1 ?_
  obtain ⟨T2, h2, a2, W2, g2, E2, A2, X2, C2, st2⟩ := oClone W1 (pc := 3) (ls := #[]) (st := []) (wK K 48 rfl) (wK K 49 rfl) (wK K 53 rfl) (wK K 51 rfl) (wK K 52 rfl) (wK K 54 rfl) (AV.ext W1.ext) (XV.ext W1.ext) rfl (by decide +kernel) (lb rfl) (V := 0) (cap := 2) (lb rfl) (lb rfl) (lb rfl) (lb rfl) (lb rfl)
  refine oLift st2 ?_
  obtain ⟨T3, W3, st3⟩ := oCast W2 (pc := 6) (ls := #[]) (st := []) (wK K 58 rfl) (Ins.self X2) (by decide +kernel)
  refine oLift st3 ?_
  exact oRetA rfl W3 rfl rfl (by decide +kernel) (lb rfl) (lb rfl) (fun vm' hv => ⟨_, rfl, E2, A2⟩)
abbrev rm_c_pas : Room := { frames := 4, cells := 1, slots := 2, locals := 59 }
set_option maxRecDepth 65536 in
set_option maxHeartbeats 40000000 in
theorem c_pas {l : Launch} {Z : State} {a0 : Array Value} {nb : Bool} (K : Ctx Z a0) {r0 r1 va : Addr} {kv : ClassId} {p0 p1 : Addr} (H : Rs Z r0 r1 va kv p0 p1) {eo : Addr} (HO : Op Z eo) {x : Addr} {cs : List Int32} {h0 : Heap} (F : Str Z h0 x cs) (hs : cs.length < 5) :
    OC l Z EL nb [] (⟨"com/example/gentle_hub/gentlehub/server/ChannelLocation", "parse", "(Ljava/lang/String;)Ljava/util/Optional;"⟩ : MethodName) prog_15_method_3_code 6 (some (.object "java/util/Optional")) rm_c_pas #[(.ref x)] h0 [] (fun v _ h => v = some (.ref eo) ∧ Ext h0 h) := by
  have hw := K.1
  have hS : ∀ a ∈ Bundle.stringAtoms, a.before a0 Z = true := K.2.2.1
  obtain ⟨⟨Sr0, Sr1⟩, ⟨SV, AV, XV⟩, ⟨Fr0, Fr1⟩, ⟨Tr0, Tr1⟩⟩ := id H
  refine oEnter (by decide +kernel) K.2.1.2.1 ?_
  intro _p _e _s m _below _meth _c T0 W0 S0
  refine oEq (g' := mkF m 0 #[.val (.ref x), .unset, .unset, .unset, .unset, .unset] []) (by first | (simp [entryFrame, mkF, argsToLocals, Value.category]; done) | rfl) ?_
  obtain ⟨v1, T1, L1, h1, vm1, W1, ⟨b, rfl, E1, A1⟩, C1, st1⟩ := oCallS W0 (idx := 39) (pc := 0) (ls := #[sR x, sU, sU, sU, sU, sU]) (st := []) (argsL := []) (c_values K H) (fun x hx => nomatch hx) (wK K 42 rfl) (wK K 43 rfl) (wK K 44 rfl) (wK K 45 rfl) (by decide) (na := 0) rfl (by decide +kernel) rfl (stk := []) rfl (by decide +kernel) (V := 0) (lb rfl) (lb rfl) (lb rfl) (lb rfl) (lb rfl)
  refine oLift st1 ?_
  show OG _ _ _ _ _ _ _ _ _ _ _ (mkF m 3 #[sR x, sU, sU, sU, sU, sU] [(.ref b)])
  refine oGo W1 [.astore_n 1, .aload_n 1] (by decide +kernel) (ls' := #[sR x, sR b, sU, sU, sU, sU]) (st' := [(.ref b)]) rfl rfl (pc' := 5) rfl ?_
  refine oLen W1 A1 (by decide +kernel) ?_
  show OG _ _ _ _ _ _ _ _ _ _ _ (mkF m 6 #[sR x, sR b, sU, sU, sU, sU] [(.int 2)])
  refine oGo W1 [.istore_n 2, .iconst 0, .istore_n 3] (by decide +kernel) (ls' := #[sR x, sR b, sI 2, sI 0, sU, sU]) (st' := []) rfl rfl (pc' := 9) rfl ?_
  refine oGo W1 [.iload_n 3, .iload_n 2] (by decide +kernel) (ls' := #[sR x, sR b, sI 2, sI 0, sU, sU]) (st' := [(.int 2), (.int 0)]) rfl rfl (pc' := 11) rfl ?_
  refine oIcF W1 (cd := .ge) (o := 62) (by decide +kernel) (XT.ii_ge_f (by decide)) (pc' := 14) rfl ?_
  refine oGo W1 [.aload_n 1, .iload_n 3] (by decide +kernel) (ls' := #[sR x, sR b, sI 2, sI 0, sU, sU]) (st' := [(.int 0), (.ref b)]) rfl rfl (pc' := 16) rfl ?_
  refine oGet W1 A1 (v := (.ref r1)) (by decide) rfl (Or.inr (Or.inr (Or.inr ⟨rfl, rfl⟩))) (by decide +kernel) ?_
  refine oGo W1 [.astore 4, .aload_n 0, .aload 4] (by decide +kernel) (ls' := #[sR x, sR b, sI 2, sI 0, sR r1, sU]) (st' := [(.ref r1), (.ref x)]) rfl rfl (pc' := 22) rfl ?_
  obtain ⟨T2, W2, st2⟩ := oGetFR W1 (pc := 22) (ls := #[sR x, sR b, sI 2, sI 0, sR r1, sU]) (st := [(.ref x)]) (wK K 60 rfl) Via.refl (Fr1.ext W1.ext) (by decide +kernel)
  refine oLift st2 ?_
  obtain ⟨v3, T3, L3, h3, vm3, W3, ⟨rfl, e3⟩, C3, st3⟩ := oCallV W2 (idx := 43) (pc := 25) (ls := #[sR x, sR b, sI 2, sI 0, sR r1, sU]) (st := []) (argsL := [(.ref p1)]) (F.exa.ext E1) (c_sh1 K (F.ext E1) (Tr1.ext W2.ext) hs) (fun x hx => nomatch hx) (wK K 62 rfl) (wK K 63 rfl) (notFace_of_selects (args := #[]) (mvT W2.warm (wK K 65 rfl))) (wK K 65 rfl) (wK K 64 rfl) (wK K 11 rfl) (wK K 66 rfl) (by decide) (na := 1) rfl (by decide +kernel) rfl (stk := [(.ref p1), (.ref x)]) rfl (by decide +kernel) (V := 0) (lb rfl) (lb rfl) (lb rfl) (lb rfl) (lb rfl)
  refine oLift st3 ?_
  rw [e3] at W3 C3
  show OG _ _ _ _ _ _ _ _ _ _ _ (mkF m 28 #[sR x, sR b, sI 2, sI 0, sR r1, sU] [(.int 0)])
  refine oIfT W3 (cd := .eq) (o := 39) (by decide +kernel) (XT.i0_eq_t rfl) (pc' := 67) (by decide) (by decide) ?_
  refine oGo W3 [.iinc 3 1, .goto (-61)] (by decide +kernel) (ls' := #[sR x, sR b, sI 2, sI 1, sR r1, sU]) (st' := []) rfl rfl (pc' := 9) rfl ?_
  refine oGo W3 [.iload_n 3, .iload_n 2] (by decide +kernel) (ls' := #[sR x, sR b, sI 2, sI 1, sR r1, sU]) (st' := [(.int 2), (.int 1)]) rfl rfl (pc' := 11) rfl ?_
  refine oIcF W3 (cd := .ge) (o := 62) (by decide +kernel) (XT.ii_ge_f (by decide)) (pc' := 14) rfl ?_
  refine oGo W3 [.aload_n 1, .iload_n 3] (by decide +kernel) (ls' := #[sR x, sR b, sI 2, sI 1, sR r1, sU]) (st' := [(.int 1), (.ref b)]) rfl rfl (pc' := 16) rfl ?_
  refine oGet W3 A1 (v := (.ref r0)) (by decide) rfl (Or.inr (Or.inr (Or.inr ⟨rfl, rfl⟩))) (by decide +kernel) ?_
  refine oGo W3 [.astore 4, .aload_n 0, .aload 4] (by decide +kernel) (ls' := #[sR x, sR b, sI 2, sI 1, sR r0, sU]) (st' := [(.ref r0), (.ref x)]) rfl rfl (pc' := 22) rfl ?_
  obtain ⟨T4, W4, st4⟩ := oGetFR W3 (pc := 22) (ls := #[sR x, sR b, sI 2, sI 1, sR r0, sU]) (st := [(.ref x)]) (wK K 60 rfl) Via.refl (Fr0.ext W3.ext) (by decide +kernel)
  refine oLift st4 ?_
  obtain ⟨v5, T5, L5, h5, vm5, W5, ⟨rfl, e5⟩, C5, st5⟩ := oCallV W4 (idx := 43) (pc := 25) (ls := #[sR x, sR b, sI 2, sI 1, sR r0, sU]) (st := []) (argsL := [(.ref p0)]) (F.exa.ext E1) (c_sh1 K (F.ext E1) (Tr0.ext W4.ext) hs) (fun x hx => nomatch hx) (wK K 62 rfl) (wK K 63 rfl) (notFace_of_selects (args := #[]) (mvT W4.warm (wK K 65 rfl))) (wK K 65 rfl) (wK K 64 rfl) (wK K 11 rfl) (wK K 66 rfl) (by decide) (na := 1) rfl (by decide +kernel) rfl (stk := [(.ref p0), (.ref x)]) rfl (by decide +kernel) (V := 0) (lb rfl) (lb rfl) (lb rfl) (lb rfl) (lb rfl)
  refine oLift st5 ?_
  rw [e5] at W5 C5
  show OG _ _ _ _ _ _ _ _ _ _ _ (mkF m 28 #[sR x, sR b, sI 2, sI 1, sR r0, sU] [(.int 0)])
  refine oIfT W5 (cd := .eq) (o := 39) (by decide +kernel) (XT.i0_eq_t rfl) (pc' := 67) (by decide) (by decide) ?_
  refine oGo W5 [.iinc 3 1, .goto (-61)] (by decide +kernel) (ls' := #[sR x, sR b, sI 2, sI 2, sR r0, sU]) (st' := []) rfl rfl (pc' := 9) rfl ?_
  refine oGo W5 [.iload_n 3, .iload_n 2] (by decide +kernel) (ls' := #[sR x, sR b, sI 2, sI 2, sR r0, sU]) (st' := [(.int 2), (.int 2)]) rfl rfl (pc' := 11) rfl ?_
  refine oIcT W5 (cd := .ge) (o := 62) (by decide +kernel) (XT.ii_ge_t (by decide)) (pc' := 73) (by decide) (by decide) ?_
  obtain ⟨v6, T6, L6, h6, vm6, W6, ⟨rfl, e6⟩, C6, st6⟩ := oCallS W5 (idx := 69) (pc := 73) (ls := #[sR x, sR b, sI 2, sI 2, sR r0, sU]) (st := []) (argsL := []) (c_oem K HO) (fun x hx => nomatch hx) (wK K 86 rfl) (wK K 87 rfl) (wK K 88 rfl) (wK K 89 rfl) (by decide) (na := 0) rfl (by decide +kernel) rfl (stk := []) rfl (by decide +kernel) (V := 0) (lb rfl) (lb rfl) (lb rfl) (lb rfl) (lb rfl)
  refine oLift st6 ?_
  rw [e6] at W6 C6
  show OG _ _ _ _ _ _ _ _ _ _ _ (mkF m 76 #[sR x, sR b, sI 2, sI 2, sR r0, sU] [(.ref eo)])
  exact oRetA rfl W6 rfl rfl (by decide +kernel) (lb rfl) (lb rfl) (fun vm' hv => ⟨rfl, E1⟩)
abbrev rm_c_pan : Room := { frames := 4, cells := 1, slots := 2, locals := 59 }
set_option maxRecDepth 65536 in
set_option maxHeartbeats 40000000 in
theorem c_pan {l : Launch} {Z : State} {a0 : Array Value} {nb : Bool} (K : Ctx Z a0) {r0 r1 va : Addr} {kv : ClassId} {p0 p1 : Addr} (H : Rs Z r0 r1 va kv p0 p1) {eo : Addr} (HO : Op Z eo) {x : Addr} {d0 d1 d2 d3 d4 : Int32} {rest : List Int32} {h0 : Heap} (F : Str Z h0 x (d0 :: d1 :: d2 :: d3 :: d4 :: rest)) (hl : rest.length ≤ 100) (hn0 : ¬ (d0 = 47 ∧ d1 = 115 ∧ d2 = 117 ∧ d3 = 98 ∧ d4 = 47)) (hn1 : ¬ (d0 = 47 ∧ d1 = 112 ∧ d2 = 117 ∧ d3 = 98 ∧ d4 = 47)) :
    OC l Z EL nb [] (⟨"com/example/gentle_hub/gentlehub/server/ChannelLocation", "parse", "(Ljava/lang/String;)Ljava/util/Optional;"⟩ : MethodName) prog_15_method_3_code 6 (some (.object "java/util/Optional")) rm_c_pan #[(.ref x)] h0 [] (fun v _ h => v = some (.ref eo) ∧ Ext h0 h) := by
  have hw := K.1
  have hS : ∀ a ∈ Bundle.stringAtoms, a.before a0 Z = true := K.2.2.1
  obtain ⟨⟨Sr0, Sr1⟩, ⟨SV, AV, XV⟩, ⟨Fr0, Fr1⟩, ⟨Tr0, Tr1⟩⟩ := id H
  refine oEnter (by decide +kernel) K.2.1.2.1 ?_
  intro _p _e _s m _below _meth _c T0 W0 S0
  refine oEq (g' := mkF m 0 #[.val (.ref x), .unset, .unset, .unset, .unset, .unset] []) (by first | (simp [entryFrame, mkF, argsToLocals, Value.category]; done) | rfl) ?_
  obtain ⟨v1, T1, L1, h1, vm1, W1, ⟨b, rfl, E1, A1⟩, C1, st1⟩ := oCallS W0 (idx := 39) (pc := 0) (ls := #[sR x, sU, sU, sU, sU, sU]) (st := []) (argsL := []) (c_values K H) (fun x hx => nomatch hx) (wK K 42 rfl) (wK K 43 rfl) (wK K 44 rfl) (wK K 45 rfl) (by decide) (na := 0) rfl (by decide +kernel) rfl (stk := []) rfl (by decide +kernel) (V := 0) (lb rfl) (lb rfl) (lb rfl) (lb rfl) (lb rfl)
  refine oLift st1 ?_
  show OG _ _ _ _ _ _ _ _ _ _ _ (mkF m 3 #[sR x, sU, sU, sU, sU, sU] [(.ref b)])
  refine oGo W1 [.astore_n 1, .aload_n 1] (by decide +kernel) (ls' := #[sR x, sR b, sU, sU, sU, sU]) (st' := [(.ref b)]) rfl rfl (pc' := 5) rfl ?_
  refine oLen W1 A1 (by decide +kernel) ?_
  show OG _ _ _ _ _ _ _ _ _ _ _ (mkF m 6 #[sR x, sR b, sU, sU, sU, sU] [(.int 2)])
  refine oGo W1 [.istore_n 2, .iconst 0, .istore_n 3] (by decide +kernel) (ls' := #[sR x, sR b, sI 2, sI 0, sU, sU]) (st' := []) rfl rfl (pc' := 9) rfl ?_
  refine oGo W1 [.iload_n 3, .iload_n 2] (by decide +kernel) (ls' := #[sR x, sR b, sI 2, sI 0, sU, sU]) (st' := [(.int 2), (.int 0)]) rfl rfl (pc' := 11) rfl ?_
  refine oIcF W1 (cd := .ge) (o := 62) (by decide +kernel) (XT.ii_ge_f (by decide)) (pc' := 14) rfl ?_
  refine oGo W1 [.aload_n 1, .iload_n 3] (by decide +kernel) (ls' := #[sR x, sR b, sI 2, sI 0, sU, sU]) (st' := [(.int 0), (.ref b)]) rfl rfl (pc' := 16) rfl ?_
  refine oGet W1 A1 (v := (.ref r1)) (by decide) rfl (Or.inr (Or.inr (Or.inr ⟨rfl, rfl⟩))) (by decide +kernel) ?_
  refine oGo W1 [.astore 4, .aload_n 0, .aload 4] (by decide +kernel) (ls' := #[sR x, sR b, sI 2, sI 0, sR r1, sU]) (st' := [(.ref r1), (.ref x)]) rfl rfl (pc' := 22) rfl ?_
  obtain ⟨T2, W2, st2⟩ := oGetFR W1 (pc := 22) (ls := #[sR x, sR b, sI 2, sI 0, sR r1, sU]) (st := [(.ref x)]) (wK K 60 rfl) Via.refl (Fr1.ext W1.ext) (by decide +kernel)
  refine oLift st2 ?_
  obtain ⟨v3, T3, L3, h3, vm3, W3, ⟨r3, rfl, e3, Q3⟩, C3, st3⟩ := oCallV W2 (idx := 43) (pc := 25) (ls := #[sR x, sR b, sI 2, sI 0, sR r1, sU]) (st := []) (argsL := [(.ref p1)]) (F.exa.ext E1) (c_sw1 K (F.ext E1) (Tr1.ext W2.ext) hl) (fun x hx => nomatch hx) (wK K 62 rfl) (wK K 63 rfl) (notFace_of_selects (args := #[]) (mvT W2.warm (wK K 65 rfl))) (wK K 65 rfl) (wK K 64 rfl) (wK K 11 rfl) (wK K 66 rfl) (by decide) (na := 1) rfl (by decide +kernel) rfl (stk := [(.ref p1), (.ref x)]) rfl (by decide +kernel) (V := 0) (lb rfl) (lb rfl) (lb rfl) (lb rfl) (lb rfl)
  refine oLift st3 ?_
  rw [e3] at W3 C3
  show OG _ _ _ _ _ _ _ _ _ _ _ (mkF m 28 #[sR x, sR b, sI 2, sI 0, sR r1, sU] [(.int r3)])
  rcases Q3 with ⟨rfl, hq3⟩ | ⟨rfl, hq3⟩
  · exact absurd hq3 hn1
  refine oIfT W3 (cd := .eq) (o := 39) (by decide +kernel) (XT.i0_eq_t rfl) (pc' := 67) (by decide) (by decide) ?_
  refine oGo W3 [.iinc 3 1, .goto (-61)] (by decide +kernel) (ls' := #[sR x, sR b, sI 2, sI 1, sR r1, sU]) (st' := []) rfl rfl (pc' := 9) rfl ?_
  refine oGo W3 [.iload_n 3, .iload_n 2] (by decide +kernel) (ls' := #[sR x, sR b, sI 2, sI 1, sR r1, sU]) (st' := [(.int 2), (.int 1)]) rfl rfl (pc' := 11) rfl ?_
  refine oIcF W3 (cd := .ge) (o := 62) (by decide +kernel) (XT.ii_ge_f (by decide)) (pc' := 14) rfl ?_
  refine oGo W3 [.aload_n 1, .iload_n 3] (by decide +kernel) (ls' := #[sR x, sR b, sI 2, sI 1, sR r1, sU]) (st' := [(.int 1), (.ref b)]) rfl rfl (pc' := 16) rfl ?_
  refine oGet W3 A1 (v := (.ref r0)) (by decide) rfl (Or.inr (Or.inr (Or.inr ⟨rfl, rfl⟩))) (by decide +kernel) ?_
  refine oGo W3 [.astore 4, .aload_n 0, .aload 4] (by decide +kernel) (ls' := #[sR x, sR b, sI 2, sI 1, sR r0, sU]) (st' := [(.ref r0), (.ref x)]) rfl rfl (pc' := 22) rfl ?_
  obtain ⟨T4, W4, st4⟩ := oGetFR W3 (pc := 22) (ls := #[sR x, sR b, sI 2, sI 1, sR r0, sU]) (st := [(.ref x)]) (wK K 60 rfl) Via.refl (Fr0.ext W3.ext) (by decide +kernel)
  refine oLift st4 ?_
  obtain ⟨v5, T5, L5, h5, vm5, W5, ⟨r5, rfl, e5, Q5⟩, C5, st5⟩ := oCallV W4 (idx := 43) (pc := 25) (ls := #[sR x, sR b, sI 2, sI 1, sR r0, sU]) (st := []) (argsL := [(.ref p0)]) (F.exa.ext E1) (c_sw1 K (F.ext E1) (Tr0.ext W4.ext) hl) (fun x hx => nomatch hx) (wK K 62 rfl) (wK K 63 rfl) (notFace_of_selects (args := #[]) (mvT W4.warm (wK K 65 rfl))) (wK K 65 rfl) (wK K 64 rfl) (wK K 11 rfl) (wK K 66 rfl) (by decide) (na := 1) rfl (by decide +kernel) rfl (stk := [(.ref p0), (.ref x)]) rfl (by decide +kernel) (V := 0) (lb rfl) (lb rfl) (lb rfl) (lb rfl) (lb rfl)
  refine oLift st5 ?_
  rw [e5] at W5 C5
  show OG _ _ _ _ _ _ _ _ _ _ _ (mkF m 28 #[sR x, sR b, sI 2, sI 1, sR r0, sU] [(.int r5)])
  rcases Q5 with ⟨rfl, hq5⟩ | ⟨rfl, hq5⟩
  · exact absurd hq5 hn0
  refine oIfT W5 (cd := .eq) (o := 39) (by decide +kernel) (XT.i0_eq_t rfl) (pc' := 67) (by decide) (by decide) ?_
  refine oGo W5 [.iinc 3 1, .goto (-61)] (by decide +kernel) (ls' := #[sR x, sR b, sI 2, sI 2, sR r0, sU]) (st' := []) rfl rfl (pc' := 9) rfl ?_
  refine oGo W5 [.iload_n 3, .iload_n 2] (by decide +kernel) (ls' := #[sR x, sR b, sI 2, sI 2, sR r0, sU]) (st' := [(.int 2), (.int 2)]) rfl rfl (pc' := 11) rfl ?_
  refine oIcT W5 (cd := .ge) (o := 62) (by decide +kernel) (XT.ii_ge_t (by decide)) (pc' := 73) (by decide) (by decide) ?_
  obtain ⟨v6, T6, L6, h6, vm6, W6, ⟨rfl, e6⟩, C6, st6⟩ := oCallS W5 (idx := 69) (pc := 73) (ls := #[sR x, sR b, sI 2, sI 2, sR r0, sU]) (st := []) (argsL := []) (c_oem K HO) (fun x hx => nomatch hx) (wK K 86 rfl) (wK K 87 rfl) (wK K 88 rfl) (wK K 89 rfl) (by decide) (na := 0) rfl (by decide +kernel) rfl (stk := []) rfl (by decide +kernel) (V := 0) (lb rfl) (lb rfl) (lb rfl) (lb rfl) (lb rfl)
  refine oLift st6 ?_
  rw [e6] at W6 C6
  show OG _ _ _ _ _ _ _ _ _ _ _ (mkF m 76 #[sR x, sR b, sI 2, sI 2, sR r0, sU] [(.ref eo)])
  exact oRetA rfl W6 rfl rfl (by decide +kernel) (lb rfl) (lb rfl) (fun vm' hv => ⟨rfl, E1⟩)
abbrev rm_c_pa11 : Room := { frames := 6, cells := 14, slots := 106, locals := 115 }
set_option maxRecDepth 65536 in
set_option maxHeartbeats 40000000 in
theorem c_pa11 {l : Launch} {Z : State} {a0 : Array Value} (K : Ctx Z a0) {r0 r1 va : Addr} {kv : ClassId} {p0 p1 : Addr} (H : Rs Z r0 r1 va kv p0 p1) {x : Addr} {c0 : Int32} {h0 : Heap} (F : Str Z h0 x [47, 112, 117, 98, 47, c0]) (q0 : Alw c0) (hn1 : ¬ c0 = 46) :
    OC l Z EL false [] (⟨"com/example/gentle_hub/gentlehub/server/ChannelLocation", "parse", "(Ljava/lang/String;)Ljava/util/Optional;"⟩ : MethodName) prog_15_method_3_code 6 (some (.object "java/util/Optional")) rm_c_pa11 #[(.ref x)] h0 [] (fun v _ h => ∃ o lo nm z, v = some (.ref o) ∧ Ext h0 h ∧ Exa Z h o "java/util/Optional" ∧ Fld Z h o "java/util/Optional" "value" "Ljava/lang/Object;" (.ref lo) ∧ Exa Z h lo "com/example/gentle_hub/gentlehub/server/ChannelLocation" ∧ Fld Z h lo "com/example/gentle_hub/gentlehub/server/ChannelLocation" "role" "Lcom/example/gentle_hub/gentlehub/server/ChannelLocation$Role;" (.ref r1) ∧ Fld Z h lo "com/example/gentle_hub/gentlehub/server/ChannelLocation" "channel" "Lcom/example/gentle_hub/gentlehub/core/ChannelName;" (.ref nm) ∧ Exa Z h nm "com/example/gentle_hub/gentlehub/core/ChannelName" ∧ Fld Z h nm "com/example/gentle_hub/gentlehub/core/ChannelName" "value" "Ljava/lang/String;" (.ref z) ∧ Str Z h z [c0]) := by
  have hw := K.1
  have hS : ∀ a ∈ Bundle.stringAtoms, a.before a0 Z = true := K.2.2.1
  obtain ⟨⟨Sr0, Sr1⟩, ⟨SV, AV, XV⟩, ⟨Fr0, Fr1⟩, ⟨Tr0, Tr1⟩⟩ := id H
  have hl : ([c0] : List Int32).length ≤ 100 := lb rfl
  refine oEnter (by decide +kernel) K.2.1.2.1 ?_
  intro _p _e _s m _below _meth _c T0 W0 S0
  refine oEq (g' := mkF m 0 #[.val (.ref x), .unset, .unset, .unset, .unset, .unset] []) (by first | (simp [entryFrame, mkF, argsToLocals, Value.category]; done) | rfl) ?_
  obtain ⟨v1, T1, L1, h1, vm1, W1, ⟨b, rfl, E1, A1⟩, C1, st1⟩ := oCallS W0 (idx := 39) (pc := 0) (ls := #[sR x, sU, sU, sU, sU, sU]) (st := []) (argsL := []) (c_values K H) (fun x hx => nomatch hx) (wK K 42 rfl) (wK K 43 rfl) (wK K 44 rfl) (wK K 45 rfl) (by decide) (na := 0) rfl (by decide +kernel) rfl (stk := []) rfl (by decide +kernel) (V := 0) (lb rfl) (lb rfl) (lb rfl) (lb rfl) (lb rfl)
  refine oLift st1 ?_
  show OG _ _ _ _ _ _ _ _ _ _ _ (mkF m 3 #[sR x, sU, sU, sU, sU, sU] [(.ref b)])
  refine oGo W1 [.astore_n 1, .aload_n 1] (by decide +kernel) (ls' := #[sR x, sR b, sU, sU, sU, sU]) (st' := [(.ref b)]) rfl rfl (pc' := 5) rfl ?_
  refine oLen W1 A1 (by decide +kernel) ?_
  show OG _ _ _ _ _ _ _ _ _ _ _ (mkF m 6 #[sR x, sR b, sU, sU, sU, sU] [(.int 2)])
  refine oGo W1 [.istore_n 2, .iconst 0, .istore_n 3] (by decide +kernel) (ls' := #[sR x, sR b, sI 2, sI 0, sU, sU]) (st' := []) rfl rfl (pc' := 9) rfl ?_
  refine oGo W1 [.iload_n 3, .iload_n 2] (by decide +kernel) (ls' := #[sR x, sR b, sI 2, sI 0, sU, sU]) (st' := [(.int 2), (.int 0)]) rfl rfl (pc' := 11) rfl ?_
  refine oIcF W1 (cd := .ge) (o := 62) (by decide +kernel) (XT.ii_ge_f (by decide)) (pc' := 14) rfl ?_
  refine oGo W1 [.aload_n 1, .iload_n 3] (by decide +kernel) (ls' := #[sR x, sR b, sI 2, sI 0, sU, sU]) (st' := [(.int 0), (.ref b)]) rfl rfl (pc' := 16) rfl ?_
  refine oGet W1 A1 (v := (.ref r1)) (by decide) rfl (Or.inr (Or.inr (Or.inr ⟨rfl, rfl⟩))) (by decide +kernel) ?_
  refine oGo W1 [.astore 4, .aload_n 0, .aload 4] (by decide +kernel) (ls' := #[sR x, sR b, sI 2, sI 0, sR r1, sU]) (st' := [(.ref r1), (.ref x)]) rfl rfl (pc' := 22) rfl ?_
  obtain ⟨T2, W2, st2⟩ := oGetFR W1 (pc := 22) (ls := #[sR x, sR b, sI 2, sI 0, sR r1, sU]) (st := [(.ref x)]) (wK K 60 rfl) Via.refl (Fr1.ext W1.ext) (by decide +kernel)
  refine oLift st2 ?_
  obtain ⟨v3, T3, L3, h3, vm3, W3, ⟨r3, rfl, e3, Q3⟩, C3, st3⟩ := oCallV W2 (idx := 43) (pc := 25) (ls := #[sR x, sR b, sI 2, sI 0, sR r1, sU]) (st := []) (argsL := [(.ref p1)]) (F.exa.ext E1) (c_sw1 K (F.ext E1) (Tr1.ext W2.ext) hl) (fun x hx => nomatch hx) (wK K 62 rfl) (wK K 63 rfl) (notFace_of_selects (args := #[]) (mvT W2.warm (wK K 65 rfl))) (wK K 65 rfl) (wK K 64 rfl) (wK K 11 rfl) (wK K 66 rfl) (by decide) (na := 1) rfl (by decide +kernel) rfl (stk := [(.ref p1), (.ref x)]) rfl (by decide +kernel) (V := 0) (lb rfl) (lb rfl) (lb rfl) (lb rfl) (lb rfl)
  refine oLift st3 ?_
  rw [e3] at W3 C3
  show OG _ _ _ _ _ _ _ _ _ _ _ (mkF m 28 #[sR x, sR b, sI 2, sI 0, sR r1, sU] [(.int r3)])
  rcases Q3 with ⟨rfl, hq3⟩ | ⟨rfl, hq3⟩
  rotate_left
  · exact absurd (by decide) hq3
  refine oIfF W3 (cd := .eq) (o := 39) (by decide +kernel) (XT.i0_eq_f (by decide)) (pc' := 31) rfl ?_
  refine oGo W3 [.aload_n 0, .aload 4] (by decide +kernel) (ls' := #[sR x, sR b, sI 2, sI 0, sR r1, sU]) (st' := [(.ref r1), (.ref x)]) rfl rfl (pc' := 34) rfl ?_
  obtain ⟨T4, W4, st4⟩ := oGetFR W3 (pc := 34) (ls := #[sR x, sR b, sI 2, sI 0, sR r1, sU]) (st := [(.ref x)]) (wK K 60 rfl) Via.refl (Fr1.ext W3.ext) (by decide +kernel)
  refine oLift st4 ?_
  obtain ⟨v5, T5, L5, h5, vm5, W5, ⟨rfl, e5⟩, C5, st5⟩ := oCallV W4 (idx := 49) (pc := 37) (ls := #[sR x, sR b, sI 2, sI 0, sR r1, sU]) (st := [(.ref x)]) (argsL := []) (Tr1.exa.ext W4.ext) (c_len K (Tr1.ext W4.ext)) (fun x hx => nomatch hx) (wK K 123 rfl) (wK K 73 rfl) (notFace_of_selects (args := #[]) (mvT W4.warm (wK K 75 rfl))) (wK K 75 rfl) (wK K 74 rfl) (wK K 11 rfl) (wK K 76 rfl) (by decide) (na := 0) rfl (by decide +kernel) rfl (stk := [(.ref p1), (.ref x)]) rfl (by decide +kernel) (V := 1) (lb rfl) (lb rfl) (lb rfl) (lb rfl) (lb rfl)
  refine oLift st5 ?_
  rw [e5] at W5 C5
  show OG _ _ _ _ _ _ _ _ _ _ _ (mkF m 40 #[sR x, sR b, sI 2, sI 0, sR r1, sU] [(.int 5), (.ref x)])
  obtain ⟨v6, T6, L6, h6, vm6, W6, ⟨z, rfl, F6, E6⟩, C6, st6⟩ := oCallV W5 (idx := 53) (pc := 40) (ls := #[sR x, sR b, sI 2, sI 0, sR r1, sU]) (st := []) (argsL := [(.int 5)]) (F.exa.ext E1) (c_sub1 K K.2.2.2.1 (F.ext E1) (lb rfl) (o := 5) (by decide) (lb rfl)) (fun x hx => nomatch hx) (wK K 124 rfl) (wK K 125 rfl) (notFace_of_selects (args := #[]) (mvT W5.warm (wK K 127 rfl))) (wK K 127 rfl) (wK K 126 rfl) (wK K 11 rfl) (wK K 128 rfl) (by decide) (na := 1) rfl (by decide +kernel) rfl (stk := [(.int 5), (.ref x)]) rfl (by decide +kernel) (V := 0) (lb rfl) (lb rfl) (lb rfl) (lb rfl) (lb rfl)
  refine oLift st6 ?_
  show OG _ _ _ _ _ _ _ _ _ _ _ (mkF m 43 #[sR x, sR b, sI 2, sI 0, sR r1, sU] [(.ref z)])
  have Fz : Str Z h6 z [c0] := F6
  refine oGo W6 [.astore 5] (by decide +kernel) (ls' := #[sR x, sR b, sI 2, sI 0, sR r1, sR z]) (st' := []) rfl rfl (pc' := 45) rfl ?_
  obtain ⟨T7, h7, lo, W7, g7, E7, A7, D7, S7, C7, st7⟩ := oNew W6 (pc := 45) (ls := #[sR x, sR b, sI 2, sI 0, sR r1, sR z]) (st := []) (wK K 165 rfl) (wK K 166 rfl) (wK K 40 rfl) (by decide +kernel) (lb rfl) (lb rfl)
  refine oLift st7 ?_
  refine oGo W7 [.dup, .aload 4] (by decide +kernel) (ls' := #[sR x, sR b, sI 2, sI 0, sR r1, sR z]) (st' := [(.ref r1), (.ref lo), (.ref lo)]) rfl rfl (pc' := 51) rfl ?_
  obtain ⟨T8, h8, nm, W8, g8, E8, A8, D8, S8, C8, st8⟩ := oNew W7 (pc := 51) (ls := #[sR x, sR b, sI 2, sI 0, sR r1, sR z]) (st := [(.ref r1), (.ref lo), (.ref lo)]) (wK K 167 rfl) (wK K 168 rfl) (wK K 169 rfl) (by decide +kernel) (lb rfl) (lb rfl)
  refine oLift st8 ?_
  refine oGo W8 [.dup, .aload 5] (by decide +kernel) (ls' := #[sR x, sR b, sI 2, sI 0, sR r1, sR z]) (st' := [(.ref z), (.ref nm), (.ref nm), (.ref r1), (.ref lo), (.ref lo)]) rfl rfl (pc' := 57) rfl ?_
  have hnl : nm ≠ lo := Nat.ne_of_gt (Nat.lt_of_lt_of_le A7.lt g8)
  obtain ⟨v9, T9, L9, h9, vm9, W9, ⟨rfl, K9, X9, F9⟩, C9, st9⟩ := oCallN W8 (idx := 57) (pc := 57) (ls := #[sR x, sR b, sI 2, sI 0, sR r1, sR z]) (st := [(.ref nm), (.ref r1), (.ref lo), (.ref lo)]) (a := nm) (argsL := [(.ref z)]) (c_cn1 K ((Fz.ext E7).ext E8) q0 hn1 (Nat.le_trans W7.ext.1 g8) A8 (D8 (Or.inr (wK K 206 rfl)) (ty := (.object "java/lang/String")) (by decide))) (fun x hx => nomatch hx) rfl (wK K 170 rfl) (wK K 171 rfl) (wK K 169 rfl) (wK K 172 rfl) (by decide) (na := 1) rfl (by decide +kernel) rfl (stk := [(.ref z), (.ref nm), (.ref nm), (.ref r1), (.ref lo), (.ref lo)]) rfl (by decide +kernel) (V := 4) (lb rfl) (lb rfl) (lb rfl) (lb rfl) (lb rfl)
  refine oLift st9 ?_
  show OG _ _ _ _ _ _ _ _ _ _ _ (mkF m 60 #[sR x, sR b, sI 2, sI 0, sR r1, sR z] [(.ref nm), (.ref r1), (.ref lo), (.ref lo)])
  obtain ⟨v10, T10, L10, h10, vm10, W10, ⟨rfl, K10, X10, F10, G10⟩, C10, st10⟩ := oCallN W9 (idx := 60) (pc := 60) (ls := #[sR x, sR b, sI 2, sI 0, sR r1, sR z]) (st := [(.ref lo)]) (a := lo) (argsL := [(.ref r1), (.ref nm)]) (c_cli K (Nat.le_trans W6.ext.1 g7) (A7.ext (exK E8 K9 (fun y hy => by cases List.mem_singleton.mp hy; exact g8))) ((D7 (Or.inr (wK K 212 rfl)) (ty := (.object "com/example/gentle_hub/gentlehub/server/ChannelLocation$Role")) (by decide)).ext (exK E8 K9 (fun y hy => by cases List.mem_singleton.mp hy; exact g8))) ((D7 (Or.inr (wK K 214 rfl)) (ty := (.object "com/example/gentle_hub/gentlehub/core/ChannelName")) (by decide)).ext (exK E8 K9 (fun y hy => by cases List.mem_singleton.mp hy; exact g8)))) (fun x hx => nomatch hx) rfl (wK K 207 rfl) (wK K 208 rfl) (wK K 40 rfl) (wK K 209 rfl) (by decide) (na := 2) rfl (by decide +kernel) rfl (stk := [(.ref nm), (.ref r1), (.ref lo), (.ref lo)]) rfl (by decide +kernel) (V := 1) (lb rfl) (lb rfl) (lb rfl) (lb rfl) (lb rfl)
  refine oLift st10 ?_
  show OG _ _ _ _ _ _ _ _ _ _ _ (mkF m 63 #[sR x, sR b, sI 2, sI 0, sR r1, sR z] [(.ref lo)])
  obtain ⟨v11, T11, L11, h11, vm11, W11, ⟨o, rfl, X11, F11, E11⟩, C11, st11⟩ := oCallS W10 (idx := 63) (pc := 63) (ls := #[sR x, sR b, sI 2, sI 0, sR r1, sR z]) (st := []) (argsL := [(.ref lo)]) (c_oof K) (fun x hx => nomatch hx) (wK K 215 rfl) (wK K 216 rfl) (wK K 88 rfl) (wK K 217 rfl) (by decide) (na := 1) rfl (by decide +kernel) rfl (stk := [(.ref lo)]) rfl (by decide +kernel) (V := 0) (lb rfl) (lb rfl) (lb rfl) (lb rfl) (lb rfl)
  refine oLift st11 ?_
  show OG _ _ _ _ _ _ _ _ _ _ _ (mkF m 66 #[sR x, sR b, sI 2, sI 0, sR r1, sR z] [(.ref o)])
  exact oRetA rfl W11 rfl rfl (by decide +kernel) (lb rfl) (lb rfl) (fun vm' hv => ⟨o, lo, nm, z, rfl, (exT (exT (exT E1 E6) (exK (exT E7 (exK E8 K9 (fun y hy => by cases List.mem_singleton.mp hy; exact g8))) K10 (fun y hy => by cases List.mem_singleton.mp hy; exact g7))) E11), X11, F11, (X10.ext E11), (F10.ext E11), (G10.ext E11), ((X9.keep K10).ext E11), ((F9.keep K10 (ninS hnl nin0)).ext E11), ((Fz.ext (exK (exT E7 (exK E8 K9 (fun y hy => by cases List.mem_singleton.mp hy; exact g8))) K10 (fun y hy => by cases List.mem_singleton.mp hy; exact g7))).ext E11)⟩)
abbrev rm_c_pa12 : Room := { frames := 6, cells := 16, slots := 126, locals := 115 }
set_option maxRecDepth 65536 in
set_option maxHeartbeats 40000000 in
theorem c_pa12 {l : Launch} {Z : State} {a0 : Array Value} (K : Ctx Z a0) {r0 r1 va : Addr} {kv : ClassId} {p0 p1 : Addr} (H : Rs Z r0 r1 va kv p0 p1) {x : Addr} {c0 c1 : Int32} {h0 : Heap} (F : Str Z h0 x [47, 112, 117, 98, 47, c0, c1]) (q0 : Alw c0) (q1 : Alw c1) (hn2 : ¬ (c0 = 46 ∧ c1 = 46)) :
    OC l Z EL false [] (⟨"com/example/gentle_hub/gentlehub/server/ChannelLocation", "parse", "(Ljava/lang/String;)Ljava/util/Optional;"⟩ : MethodName) prog_15_method_3_code 6 (some (.object "java/util/Optional")) rm_c_pa12 #[(.ref x)] h0 [] (fun v _ h => ∃ o lo nm z, v = some (.ref o) ∧ Ext h0 h ∧ Exa Z h o "java/util/Optional" ∧ Fld Z h o "java/util/Optional" "value" "Ljava/lang/Object;" (.ref lo) ∧ Exa Z h lo "com/example/gentle_hub/gentlehub/server/ChannelLocation" ∧ Fld Z h lo "com/example/gentle_hub/gentlehub/server/ChannelLocation" "role" "Lcom/example/gentle_hub/gentlehub/server/ChannelLocation$Role;" (.ref r1) ∧ Fld Z h lo "com/example/gentle_hub/gentlehub/server/ChannelLocation" "channel" "Lcom/example/gentle_hub/gentlehub/core/ChannelName;" (.ref nm) ∧ Exa Z h nm "com/example/gentle_hub/gentlehub/core/ChannelName" ∧ Fld Z h nm "com/example/gentle_hub/gentlehub/core/ChannelName" "value" "Ljava/lang/String;" (.ref z) ∧ Str Z h z [c0, c1]) := by
  have hw := K.1
  have hS : ∀ a ∈ Bundle.stringAtoms, a.before a0 Z = true := K.2.2.1
  obtain ⟨⟨Sr0, Sr1⟩, ⟨SV, AV, XV⟩, ⟨Fr0, Fr1⟩, ⟨Tr0, Tr1⟩⟩ := id H
  have hl : ([c0, c1] : List Int32).length ≤ 100 := lb rfl
  refine oEnter (by decide +kernel) K.2.1.2.1 ?_
  intro _p _e _s m _below _meth _c T0 W0 S0
  refine oEq (g' := mkF m 0 #[.val (.ref x), .unset, .unset, .unset, .unset, .unset] []) (by first | (simp [entryFrame, mkF, argsToLocals, Value.category]; done) | rfl) ?_
  obtain ⟨v1, T1, L1, h1, vm1, W1, ⟨b, rfl, E1, A1⟩, C1, st1⟩ := oCallS W0 (idx := 39) (pc := 0) (ls := #[sR x, sU, sU, sU, sU, sU]) (st := []) (argsL := []) (c_values K H) (fun x hx => nomatch hx) (wK K 42 rfl) (wK K 43 rfl) (wK K 44 rfl) (wK K 45 rfl) (by decide) (na := 0) rfl (by decide +kernel) rfl (stk := []) rfl (by decide +kernel) (V := 0) (lb rfl) (lb rfl) (lb rfl) (lb rfl) (lb rfl)
  refine oLift st1 ?_
  show OG _ _ _ _ _ _ _ _ _ _ _ (mkF m 3 #[sR x, sU, sU, sU, sU, sU] [(.ref b)])
  refine oGo W1 [.astore_n 1, .aload_n 1] (by decide +kernel) (ls' := #[sR x, sR b, sU, sU, sU, sU]) (st' := [(.ref b)]) rfl rfl (pc' := 5) rfl ?_
  refine oLen W1 A1 (by decide +kernel) ?_
  show OG _ _ _ _ _ _ _ _ _ _ _ (mkF m 6 #[sR x, sR b, sU, sU, sU, sU] [(.int 2)])
  refine oGo W1 [.istore_n 2, .iconst 0, .istore_n 3] (by decide +kernel) (ls' := #[sR x, sR b, sI 2, sI 0, sU, sU]) (st' := []) rfl rfl (pc' := 9) rfl ?_
  refine oGo W1 [.iload_n 3, .iload_n 2] (by decide +kernel) (ls' := #[sR x, sR b, sI 2, sI 0, sU, sU]) (st' := [(.int 2), (.int 0)]) rfl rfl (pc' := 11) rfl ?_
  refine oIcF W1 (cd := .ge) (o := 62) (by decide +kernel) (XT.ii_ge_f (by decide)) (pc' := 14) rfl ?_
  refine oGo W1 [.aload_n 1, .iload_n 3] (by decide +kernel) (ls' := #[sR x, sR b, sI 2, sI 0, sU, sU]) (st' := [(.int 0), (.ref b)]) rfl rfl (pc' := 16) rfl ?_
  refine oGet W1 A1 (v := (.ref r1)) (by decide) rfl (Or.inr (Or.inr (Or.inr ⟨rfl, rfl⟩))) (by decide +kernel) ?_
  refine oGo W1 [.astore 4, .aload_n 0, .aload 4] (by decide +kernel) (ls' := #[sR x, sR b, sI 2, sI 0, sR r1, sU]) (st' := [(.ref r1), (.ref x)]) rfl rfl (pc' := 22) rfl ?_
  obtain ⟨T2, W2, st2⟩ := oGetFR W1 (pc := 22) (ls := #[sR x, sR b, sI 2, sI 0, sR r1, sU]) (st := [(.ref x)]) (wK K 60 rfl) Via.refl (Fr1.ext W1.ext) (by decide +kernel)
  refine oLift st2 ?_
  obtain ⟨v3, T3, L3, h3, vm3, W3, ⟨r3, rfl, e3, Q3⟩, C3, st3⟩ := oCallV W2 (idx := 43) (pc := 25) (ls := #[sR x, sR b, sI 2, sI 0, sR r1, sU]) (st := []) (argsL := [(.ref p1)]) (F.exa.ext E1) (c_sw1 K (F.ext E1) (Tr1.ext W2.ext) hl) (fun x hx => nomatch hx) (wK K 62 rfl) (wK K 63 rfl) (notFace_of_selects (args := #[]) (mvT W2.warm (wK K 65 rfl))) (wK K 65 rfl) (wK K 64 rfl) (wK K 11 rfl) (wK K 66 rfl) (by decide) (na := 1) rfl (by decide +kernel) rfl (stk := [(.ref p1), (.ref x)]) rfl (by decide +kernel) (V := 0) (lb rfl) (lb rfl) (lb rfl) (lb rfl) (lb rfl)
  refine oLift st3 ?_
  rw [e3] at W3 C3
  show OG _ _ _ _ _ _ _ _ _ _ _ (mkF m 28 #[sR x, sR b, sI 2, sI 0, sR r1, sU] [(.int r3)])
  rcases Q3 with ⟨rfl, hq3⟩ | ⟨rfl, hq3⟩
  rotate_left
  · exact absurd (by decide) hq3
  refine oIfF W3 (cd := .eq) (o := 39) (by decide +kernel) (XT.i0_eq_f (by decide)) (pc' := 31) rfl ?_
  refine oGo W3 [.aload_n 0, .aload 4] (by decide +kernel) (ls' := #[sR x, sR b, sI 2, sI 0, sR r1, sU]) (st' := [(.ref r1), (.ref x)]) rfl rfl (pc' := 34) rfl ?_
  obtain ⟨T4, W4, st4⟩ := oGetFR W3 (pc := 34) (ls := #[sR x, sR b, sI 2, sI 0, sR r1, sU]) (st := [(.ref x)]) (wK K 60 rfl) Via.refl (Fr1.ext W3.ext) (by decide +kernel)
  refine oLift st4 ?_
  obtain ⟨v5, T5, L5, h5, vm5, W5, ⟨rfl, e5⟩, C5, st5⟩ := oCallV W4 (idx := 49) (pc := 37) (ls := #[sR x, sR b, sI 2, sI 0, sR r1, sU]) (st := [(.ref x)]) (argsL := []) (Tr1.exa.ext W4.ext) (c_len K (Tr1.ext W4.ext)) (fun x hx => nomatch hx) (wK K 123 rfl) (wK K 73 rfl) (notFace_of_selects (args := #[]) (mvT W4.warm (wK K 75 rfl))) (wK K 75 rfl) (wK K 74 rfl) (wK K 11 rfl) (wK K 76 rfl) (by decide) (na := 0) rfl (by decide +kernel) rfl (stk := [(.ref p1), (.ref x)]) rfl (by decide +kernel) (V := 1) (lb rfl) (lb rfl) (lb rfl) (lb rfl) (lb rfl)
  refine oLift st5 ?_
  rw [e5] at W5 C5
  show OG _ _ _ _ _ _ _ _ _ _ _ (mkF m 40 #[sR x, sR b, sI 2, sI 0, sR r1, sU] [(.int 5), (.ref x)])
  obtain ⟨v6, T6, L6, h6, vm6, W6, ⟨z, rfl, F6, E6⟩, C6, st6⟩ := oCallV W5 (idx := 53) (pc := 40) (ls := #[sR x, sR b, sI 2, sI 0, sR r1, sU]) (st := []) (argsL := [(.int 5)]) (F.exa.ext E1) (c_sub1 K K.2.2.2.1 (F.ext E1) (lb rfl) (o := 5) (by decide) (lb rfl)) (fun x hx => nomatch hx) (wK K 124 rfl) (wK K 125 rfl) (notFace_of_selects (args := #[]) (mvT W5.warm (wK K 127 rfl))) (wK K 127 rfl) (wK K 126 rfl) (wK K 11 rfl) (wK K 128 rfl) (by decide) (na := 1) rfl (by decide +kernel) rfl (stk := [(.int 5), (.ref x)]) rfl (by decide +kernel) (V := 0) (lb rfl) (lb rfl) (lb rfl) (lb rfl) (lb rfl)
  refine oLift st6 ?_
  show OG _ _ _ _ _ _ _ _ _ _ _ (mkF m 43 #[sR x, sR b, sI 2, sI 0, sR r1, sU] [(.ref z)])
  have Fz : Str Z h6 z [c0, c1] := F6
  refine oGo W6 [.astore 5] (by decide +kernel) (ls' := #[sR x, sR b, sI 2, sI 0, sR r1, sR z]) (st' := []) rfl rfl (pc' := 45) rfl ?_
  obtain ⟨T7, h7, lo, W7, g7, E7, A7, D7, S7, C7, st7⟩ := oNew W6 (pc := 45) (ls := #[sR x, sR b, sI 2, sI 0, sR r1, sR z]) (st := []) (wK K 165 rfl) (wK K 166 rfl) (wK K 40 rfl) (by decide +kernel) (lb rfl) (lb rfl)
  refine oLift st7 ?_
  refine oGo W7 [.dup, .aload 4] (by decide +kernel) (ls' := #[sR x, sR b, sI 2, sI 0, sR r1, sR z]) (st' := [(.ref r1), (.ref lo), (.ref lo)]) rfl rfl (pc' := 51) rfl ?_
  obtain ⟨T8, h8, nm, W8, g8, E8, A8, D8, S8, C8, st8⟩ := oNew W7 (pc := 51) (ls := #[sR x, sR b, sI 2, sI 0, sR r1, sR z]) (st := [(.ref r1), (.ref lo), (.ref lo)]) (wK K 167 rfl) (wK K 168 rfl) (wK K 169 rfl) (by decide +kernel) (lb rfl) (lb rfl)
  refine oLift st8 ?_
  refine oGo W8 [.dup, .aload 5] (by decide +kernel) (ls' := #[sR x, sR b, sI 2, sI 0, sR r1, sR z]) (st' := [(.ref z), (.ref nm), (.ref nm), (.ref r1), (.ref lo), (.ref lo)]) rfl rfl (pc' := 57) rfl ?_
  have hnl : nm ≠ lo := Nat.ne_of_gt (Nat.lt_of_lt_of_le A7.lt g8)
  obtain ⟨v9, T9, L9, h9, vm9, W9, ⟨rfl, K9, X9, F9⟩, C9, st9⟩ := oCallN W8 (idx := 57) (pc := 57) (ls := #[sR x, sR b, sI 2, sI 0, sR r1, sR z]) (st := [(.ref nm), (.ref r1), (.ref lo), (.ref lo)]) (a := nm) (argsL := [(.ref z)]) (c_cn2 K ((Fz.ext E7).ext E8) q0 q1 hn2 (Nat.le_trans W7.ext.1 g8) A8 (D8 (Or.inr (wK K 206 rfl)) (ty := (.object "java/lang/String")) (by decide))) (fun x hx => nomatch hx) rfl (wK K 170 rfl) (wK K 171 rfl) (wK K 169 rfl) (wK K 172 rfl) (by decide) (na := 1) rfl (by decide +kernel) rfl (stk := [(.ref z), (.ref nm), (.ref nm), (.ref r1), (.ref lo), (.ref lo)]) rfl (by decide +kernel) (V := 4) (lb rfl) (lb rfl) (lb rfl) (lb rfl) (lb rfl)
  refine oLift st9 ?_
  show OG _ _ _ _ _ _ _ _ _ _ _ (mkF m 60 #[sR x, sR b, sI 2, sI 0, sR r1, sR z] [(.ref nm), (.ref r1), (.ref lo), (.ref lo)])
  obtain ⟨v10, T10, L10, h10, vm10, W10, ⟨rfl, K10, X10, F10, G10⟩, C10, st10⟩ := oCallN W9 (idx := 60) (pc := 60) (ls := #[sR x, sR b, sI 2, sI 0, sR r1, sR z]) (st := [(.ref lo)]) (a := lo) (argsL := [(.ref r1), (.ref nm)]) (c_cli K (Nat.le_trans W6.ext.1 g7) (A7.ext (exK E8 K9 (fun y hy => by cases List.mem_singleton.mp hy; exact g8))) ((D7 (Or.inr (wK K 212 rfl)) (ty := (.object "com/example/gentle_hub/gentlehub/server/ChannelLocation$Role")) (by decide)).ext (exK E8 K9 (fun y hy => by cases List.mem_singleton.mp hy; exact g8))) ((D7 (Or.inr (wK K 214 rfl)) (ty := (.object "com/example/gentle_hub/gentlehub/core/ChannelName")) (by decide)).ext (exK E8 K9 (fun y hy => by cases List.mem_singleton.mp hy; exact g8)))) (fun x hx => nomatch hx) rfl (wK K 207 rfl) (wK K 208 rfl) (wK K 40 rfl) (wK K 209 rfl) (by decide) (na := 2) rfl (by decide +kernel) rfl (stk := [(.ref nm), (.ref r1), (.ref lo), (.ref lo)]) rfl (by decide +kernel) (V := 1) (lb rfl) (lb rfl) (lb rfl) (lb rfl) (lb rfl)
  refine oLift st10 ?_
  show OG _ _ _ _ _ _ _ _ _ _ _ (mkF m 63 #[sR x, sR b, sI 2, sI 0, sR r1, sR z] [(.ref lo)])
  obtain ⟨v11, T11, L11, h11, vm11, W11, ⟨o, rfl, X11, F11, E11⟩, C11, st11⟩ := oCallS W10 (idx := 63) (pc := 63) (ls := #[sR x, sR b, sI 2, sI 0, sR r1, sR z]) (st := []) (argsL := [(.ref lo)]) (c_oof K) (fun x hx => nomatch hx) (wK K 215 rfl) (wK K 216 rfl) (wK K 88 rfl) (wK K 217 rfl) (by decide) (na := 1) rfl (by decide +kernel) rfl (stk := [(.ref lo)]) rfl (by decide +kernel) (V := 0) (lb rfl) (lb rfl) (lb rfl) (lb rfl) (lb rfl)
  refine oLift st11 ?_
  show OG _ _ _ _ _ _ _ _ _ _ _ (mkF m 66 #[sR x, sR b, sI 2, sI 0, sR r1, sR z] [(.ref o)])
  exact oRetA rfl W11 rfl rfl (by decide +kernel) (lb rfl) (lb rfl) (fun vm' hv => ⟨o, lo, nm, z, rfl, (exT (exT (exT E1 E6) (exK (exT E7 (exK E8 K9 (fun y hy => by cases List.mem_singleton.mp hy; exact g8))) K10 (fun y hy => by cases List.mem_singleton.mp hy; exact g7))) E11), X11, F11, (X10.ext E11), (F10.ext E11), (G10.ext E11), ((X9.keep K10).ext E11), ((F9.keep K10 (ninS hnl nin0)).ext E11), ((Fz.ext (exK (exT E7 (exK E8 K9 (fun y hy => by cases List.mem_singleton.mp hy; exact g8))) K10 (fun y hy => by cases List.mem_singleton.mp hy; exact g7))).ext E11)⟩)
abbrev rm_c_pa13 : Room := { frames := 6, cells := 18, slots := 146, locals := 115 }
set_option maxRecDepth 65536 in
set_option maxHeartbeats 40000000 in
theorem c_pa13 {l : Launch} {Z : State} {a0 : Array Value} (K : Ctx Z a0) {r0 r1 va : Addr} {kv : ClassId} {p0 p1 : Addr} (H : Rs Z r0 r1 va kv p0 p1) {x : Addr} {c0 c1 c2 : Int32} {h0 : Heap} (F : Str Z h0 x [47, 112, 117, 98, 47, c0, c1, c2]) (q0 : Alw c0) (q1 : Alw c1) (q2 : Alw c2) :
    OC l Z EL false [] (⟨"com/example/gentle_hub/gentlehub/server/ChannelLocation", "parse", "(Ljava/lang/String;)Ljava/util/Optional;"⟩ : MethodName) prog_15_method_3_code 6 (some (.object "java/util/Optional")) rm_c_pa13 #[(.ref x)] h0 [] (fun v _ h => ∃ o lo nm z, v = some (.ref o) ∧ Ext h0 h ∧ Exa Z h o "java/util/Optional" ∧ Fld Z h o "java/util/Optional" "value" "Ljava/lang/Object;" (.ref lo) ∧ Exa Z h lo "com/example/gentle_hub/gentlehub/server/ChannelLocation" ∧ Fld Z h lo "com/example/gentle_hub/gentlehub/server/ChannelLocation" "role" "Lcom/example/gentle_hub/gentlehub/server/ChannelLocation$Role;" (.ref r1) ∧ Fld Z h lo "com/example/gentle_hub/gentlehub/server/ChannelLocation" "channel" "Lcom/example/gentle_hub/gentlehub/core/ChannelName;" (.ref nm) ∧ Exa Z h nm "com/example/gentle_hub/gentlehub/core/ChannelName" ∧ Fld Z h nm "com/example/gentle_hub/gentlehub/core/ChannelName" "value" "Ljava/lang/String;" (.ref z) ∧ Str Z h z [c0, c1, c2]) := by
  have hw := K.1
  have hS : ∀ a ∈ Bundle.stringAtoms, a.before a0 Z = true := K.2.2.1
  obtain ⟨⟨Sr0, Sr1⟩, ⟨SV, AV, XV⟩, ⟨Fr0, Fr1⟩, ⟨Tr0, Tr1⟩⟩ := id H
  have hl : ([c0, c1, c2] : List Int32).length ≤ 100 := lb rfl
  refine oEnter (by decide +kernel) K.2.1.2.1 ?_
  intro _p _e _s m _below _meth _c T0 W0 S0
  refine oEq (g' := mkF m 0 #[.val (.ref x), .unset, .unset, .unset, .unset, .unset] []) (by first | (simp [entryFrame, mkF, argsToLocals, Value.category]; done) | rfl) ?_
  obtain ⟨v1, T1, L1, h1, vm1, W1, ⟨b, rfl, E1, A1⟩, C1, st1⟩ := oCallS W0 (idx := 39) (pc := 0) (ls := #[sR x, sU, sU, sU, sU, sU]) (st := []) (argsL := []) (c_values K H) (fun x hx => nomatch hx) (wK K 42 rfl) (wK K 43 rfl) (wK K 44 rfl) (wK K 45 rfl) (by decide) (na := 0) rfl (by decide +kernel) rfl (stk := []) rfl (by decide +kernel) (V := 0) (lb rfl) (lb rfl) (lb rfl) (lb rfl) (lb rfl)
  refine oLift st1 ?_
  show OG _ _ _ _ _ _ _ _ _ _ _ (mkF m 3 #[sR x, sU, sU, sU, sU, sU] [(.ref b)])
  refine oGo W1 [.astore_n 1, .aload_n 1] (by decide +kernel) (ls' := #[sR x, sR b, sU, sU, sU, sU]) (st' := [(.ref b)]) rfl rfl (pc' := 5) rfl ?_
  refine oLen W1 A1 (by decide +kernel) ?_
  show OG _ _ _ _ _ _ _ _ _ _ _ (mkF m 6 #[sR x, sR b, sU, sU, sU, sU] [(.int 2)])
  refine oGo W1 [.istore_n 2, .iconst 0, .istore_n 3] (by decide +kernel) (ls' := #[sR x, sR b, sI 2, sI 0, sU, sU]) (st' := []) rfl rfl (pc' := 9) rfl ?_
  refine oGo W1 [.iload_n 3, .iload_n 2] (by decide +kernel) (ls' := #[sR x, sR b, sI 2, sI 0, sU, sU]) (st' := [(.int 2), (.int 0)]) rfl rfl (pc' := 11) rfl ?_
  refine oIcF W1 (cd := .ge) (o := 62) (by decide +kernel) (XT.ii_ge_f (by decide)) (pc' := 14) rfl ?_
  refine oGo W1 [.aload_n 1, .iload_n 3] (by decide +kernel) (ls' := #[sR x, sR b, sI 2, sI 0, sU, sU]) (st' := [(.int 0), (.ref b)]) rfl rfl (pc' := 16) rfl ?_
  refine oGet W1 A1 (v := (.ref r1)) (by decide) rfl (Or.inr (Or.inr (Or.inr ⟨rfl, rfl⟩))) (by decide +kernel) ?_
  refine oGo W1 [.astore 4, .aload_n 0, .aload 4] (by decide +kernel) (ls' := #[sR x, sR b, sI 2, sI 0, sR r1, sU]) (st' := [(.ref r1), (.ref x)]) rfl rfl (pc' := 22) rfl ?_
  obtain ⟨T2, W2, st2⟩ := oGetFR W1 (pc := 22) (ls := #[sR x, sR b, sI 2, sI 0, sR r1, sU]) (st := [(.ref x)]) (wK K 60 rfl) Via.refl (Fr1.ext W1.ext) (by decide +kernel)
  refine oLift st2 ?_
  obtain ⟨v3, T3, L3, h3, vm3, W3, ⟨r3, rfl, e3, Q3⟩, C3, st3⟩ := oCallV W2 (idx := 43) (pc := 25) (ls := #[sR x, sR b, sI 2, sI 0, sR r1, sU]) (st := []) (argsL := [(.ref p1)]) (F.exa.ext E1) (c_sw1 K (F.ext E1) (Tr1.ext W2.ext) hl) (fun x hx => nomatch hx) (wK K 62 rfl) (wK K 63 rfl) (notFace_of_selects (args := #[]) (mvT W2.warm (wK K 65 rfl))) (wK K 65 rfl) (wK K 64 rfl) (wK K 11 rfl) (wK K 66 rfl) (by decide) (na := 1) rfl (by decide +kernel) rfl (stk := [(.ref p1), (.ref x)]) rfl (by decide +kernel) (V := 0) (lb rfl) (lb rfl) (lb rfl) (lb rfl) (lb rfl)
  refine oLift st3 ?_
  rw [e3] at W3 C3
  show OG _ _ _ _ _ _ _ _ _ _ _ (mkF m 28 #[sR x, sR b, sI 2, sI 0, sR r1, sU] [(.int r3)])
  rcases Q3 with ⟨rfl, hq3⟩ | ⟨rfl, hq3⟩
  rotate_left
  · exact absurd (by decide) hq3
  refine oIfF W3 (cd := .eq) (o := 39) (by decide +kernel) (XT.i0_eq_f (by decide)) (pc' := 31) rfl ?_
  refine oGo W3 [.aload_n 0, .aload 4] (by decide +kernel) (ls' := #[sR x, sR b, sI 2, sI 0, sR r1, sU]) (st' := [(.ref r1), (.ref x)]) rfl rfl (pc' := 34) rfl ?_
  obtain ⟨T4, W4, st4⟩ := oGetFR W3 (pc := 34) (ls := #[sR x, sR b, sI 2, sI 0, sR r1, sU]) (st := [(.ref x)]) (wK K 60 rfl) Via.refl (Fr1.ext W3.ext) (by decide +kernel)
  refine oLift st4 ?_
  obtain ⟨v5, T5, L5, h5, vm5, W5, ⟨rfl, e5⟩, C5, st5⟩ := oCallV W4 (idx := 49) (pc := 37) (ls := #[sR x, sR b, sI 2, sI 0, sR r1, sU]) (st := [(.ref x)]) (argsL := []) (Tr1.exa.ext W4.ext) (c_len K (Tr1.ext W4.ext)) (fun x hx => nomatch hx) (wK K 123 rfl) (wK K 73 rfl) (notFace_of_selects (args := #[]) (mvT W4.warm (wK K 75 rfl))) (wK K 75 rfl) (wK K 74 rfl) (wK K 11 rfl) (wK K 76 rfl) (by decide) (na := 0) rfl (by decide +kernel) rfl (stk := [(.ref p1), (.ref x)]) rfl (by decide +kernel) (V := 1) (lb rfl) (lb rfl) (lb rfl) (lb rfl) (lb rfl)
  refine oLift st5 ?_
  rw [e5] at W5 C5
  show OG _ _ _ _ _ _ _ _ _ _ _ (mkF m 40 #[sR x, sR b, sI 2, sI 0, sR r1, sU] [(.int 5), (.ref x)])
  obtain ⟨v6, T6, L6, h6, vm6, W6, ⟨z, rfl, F6, E6⟩, C6, st6⟩ := oCallV W5 (idx := 53) (pc := 40) (ls := #[sR x, sR b, sI 2, sI 0, sR r1, sU]) (st := []) (argsL := [(.int 5)]) (F.exa.ext E1) (c_sub1 K K.2.2.2.1 (F.ext E1) (lb rfl) (o := 5) (by decide) (lb rfl)) (fun x hx => nomatch hx) (wK K 124 rfl) (wK K 125 rfl) (notFace_of_selects (args := #[]) (mvT W5.warm (wK K 127 rfl))) (wK K 127 rfl) (wK K 126 rfl) (wK K 11 rfl) (wK K 128 rfl) (by decide) (na := 1) rfl (by decide +kernel) rfl (stk := [(.int 5), (.ref x)]) rfl (by decide +kernel) (V := 0) (lb rfl) (lb rfl) (lb rfl) (lb rfl) (lb rfl)
  refine oLift st6 ?_
  show OG _ _ _ _ _ _ _ _ _ _ _ (mkF m 43 #[sR x, sR b, sI 2, sI 0, sR r1, sU] [(.ref z)])
  have Fz : Str Z h6 z [c0, c1, c2] := F6
  refine oGo W6 [.astore 5] (by decide +kernel) (ls' := #[sR x, sR b, sI 2, sI 0, sR r1, sR z]) (st' := []) rfl rfl (pc' := 45) rfl ?_
  obtain ⟨T7, h7, lo, W7, g7, E7, A7, D7, S7, C7, st7⟩ := oNew W6 (pc := 45) (ls := #[sR x, sR b, sI 2, sI 0, sR r1, sR z]) (st := []) (wK K 165 rfl) (wK K 166 rfl) (wK K 40 rfl) (by decide +kernel) (lb rfl) (lb rfl)
  refine oLift st7 ?_
  refine oGo W7 [.dup, .aload 4] (by decide +kernel) (ls' := #[sR x, sR b, sI 2, sI 0, sR r1, sR z]) (st' := [(.ref r1), (.ref lo), (.ref lo)]) rfl rfl (pc' := 51) rfl ?_
  obtain ⟨T8, h8, nm, W8, g8, E8, A8, D8, S8, C8, st8⟩ := oNew W7 (pc := 51) (ls := #[sR x, sR b, sI 2, sI 0, sR r1, sR z]) (st := [(.ref r1), (.ref lo), (.ref lo)]) (wK K 167 rfl) (wK K 168 rfl) (wK K 169 rfl) (by decide +kernel) (lb rfl) (lb rfl)
  refine oLift st8 ?_
  refine oGo W8 [.dup, .aload 5] (by decide +kernel) (ls' := #[sR x, sR b, sI 2, sI 0, sR r1, sR z]) (st' := [(.ref z), (.ref nm), (.ref nm), (.ref r1), (.ref lo), (.ref lo)]) rfl rfl (pc' := 57) rfl ?_
  have hnl : nm ≠ lo := Nat.ne_of_gt (Nat.lt_of_lt_of_le A7.lt g8)
  obtain ⟨v9, T9, L9, h9, vm9, W9, ⟨rfl, K9, X9, F9⟩, C9, st9⟩ := oCallN W8 (idx := 57) (pc := 57) (ls := #[sR x, sR b, sI 2, sI 0, sR r1, sR z]) (st := [(.ref nm), (.ref r1), (.ref lo), (.ref lo)]) (a := nm) (argsL := [(.ref z)]) (c_cn3 K ((Fz.ext E7).ext E8) q0 q1 q2 (Nat.le_trans W7.ext.1 g8) A8 (D8 (Or.inr (wK K 206 rfl)) (ty := (.object "java/lang/String")) (by decide))) (fun x hx => nomatch hx) rfl (wK K 170 rfl) (wK K 171 rfl) (wK K 169 rfl) (wK K 172 rfl) (by decide) (na := 1) rfl (by decide +kernel) rfl (stk := [(.ref z), (.ref nm), (.ref nm), (.ref r1), (.ref lo), (.ref lo)]) rfl (by decide +kernel) (V := 4) (lb rfl) (lb rfl) (lb rfl) (lb rfl) (lb rfl)
  refine oLift st9 ?_
  show OG _ _ _ _ _ _ _ _ _ _ _ (mkF m 60 #[sR x, sR b, sI 2, sI 0, sR r1, sR z] [(.ref nm), (.ref r1), (.ref lo), (.ref lo)])
  obtain ⟨v10, T10, L10, h10, vm10, W10, ⟨rfl, K10, X10, F10, G10⟩, C10, st10⟩ := oCallN W9 (idx := 60) (pc := 60) (ls := #[sR x, sR b, sI 2, sI 0, sR r1, sR z]) (st := [(.ref lo)]) (a := lo) (argsL := [(.ref r1), (.ref nm)]) (c_cli K (Nat.le_trans W6.ext.1 g7) (A7.ext (exK E8 K9 (fun y hy => by cases List.mem_singleton.mp hy; exact g8))) ((D7 (Or.inr (wK K 212 rfl)) (ty := (.object "com/example/gentle_hub/gentlehub/server/ChannelLocation$Role")) (by decide)).ext (exK E8 K9 (fun y hy => by cases List.mem_singleton.mp hy; exact g8))) ((D7 (Or.inr (wK K 214 rfl)) (ty := (.object "com/example/gentle_hub/gentlehub/core/ChannelName")) (by decide)).ext (exK E8 K9 (fun y hy => by cases List.mem_singleton.mp hy; exact g8)))) (fun x hx => nomatch hx) rfl (wK K 207 rfl) (wK K 208 rfl) (wK K 40 rfl) (wK K 209 rfl) (by decide) (na := 2) rfl (by decide +kernel) rfl (stk := [(.ref nm), (.ref r1), (.ref lo), (.ref lo)]) rfl (by decide +kernel) (V := 1) (lb rfl) (lb rfl) (lb rfl) (lb rfl) (lb rfl)
  refine oLift st10 ?_
  show OG _ _ _ _ _ _ _ _ _ _ _ (mkF m 63 #[sR x, sR b, sI 2, sI 0, sR r1, sR z] [(.ref lo)])
  obtain ⟨v11, T11, L11, h11, vm11, W11, ⟨o, rfl, X11, F11, E11⟩, C11, st11⟩ := oCallS W10 (idx := 63) (pc := 63) (ls := #[sR x, sR b, sI 2, sI 0, sR r1, sR z]) (st := []) (argsL := [(.ref lo)]) (c_oof K) (fun x hx => nomatch hx) (wK K 215 rfl) (wK K 216 rfl) (wK K 88 rfl) (wK K 217 rfl) (by decide) (na := 1) rfl (by decide +kernel) rfl (stk := [(.ref lo)]) rfl (by decide +kernel) (V := 0) (lb rfl) (lb rfl) (lb rfl) (lb rfl) (lb rfl)
  refine oLift st11 ?_
  show OG _ _ _ _ _ _ _ _ _ _ _ (mkF m 66 #[sR x, sR b, sI 2, sI 0, sR r1, sR z] [(.ref o)])
  exact oRetA rfl W11 rfl rfl (by decide +kernel) (lb rfl) (lb rfl) (fun vm' hv => ⟨o, lo, nm, z, rfl, (exT (exT (exT E1 E6) (exK (exT E7 (exK E8 K9 (fun y hy => by cases List.mem_singleton.mp hy; exact g8))) K10 (fun y hy => by cases List.mem_singleton.mp hy; exact g7))) E11), X11, F11, (X10.ext E11), (F10.ext E11), (G10.ext E11), ((X9.keep K10).ext E11), ((F9.keep K10 (ninS hnl nin0)).ext E11), ((Fz.ext (exK (exT E7 (exK E8 K9 (fun y hy => by cases List.mem_singleton.mp hy; exact g8))) K10 (fun y hy => by cases List.mem_singleton.mp hy; exact g7))).ext E11)⟩)
abbrev rm_c_pa01 : Room := { frames := 6, cells := 14, slots := 106, locals := 115 }
set_option maxRecDepth 65536 in
set_option maxHeartbeats 40000000 in
theorem c_pa01 {l : Launch} {Z : State} {a0 : Array Value} (K : Ctx Z a0) {r0 r1 va : Addr} {kv : ClassId} {p0 p1 : Addr} (H : Rs Z r0 r1 va kv p0 p1) {x : Addr} {c0 : Int32} {h0 : Heap} (F : Str Z h0 x [47, 115, 117, 98, 47, c0]) (q0 : Alw c0) (hn1 : ¬ c0 = 46) :
    OC l Z EL false [] (⟨"com/example/gentle_hub/gentlehub/server/ChannelLocation", "parse", "(Ljava/lang/String;)Ljava/util/Optional;"⟩ : MethodName) prog_15_method_3_code 6 (some (.object "java/util/Optional")) rm_c_pa01 #[(.ref x)] h0 [] (fun v _ h => ∃ o lo nm z, v = some (.ref o) ∧ Ext h0 h ∧ Exa Z h o "java/util/Optional" ∧ Fld Z h o "java/util/Optional" "value" "Ljava/lang/Object;" (.ref lo) ∧ Exa Z h lo "com/example/gentle_hub/gentlehub/server/ChannelLocation" ∧ Fld Z h lo "com/example/gentle_hub/gentlehub/server/ChannelLocation" "role" "Lcom/example/gentle_hub/gentlehub/server/ChannelLocation$Role;" (.ref r0) ∧ Fld Z h lo "com/example/gentle_hub/gentlehub/server/ChannelLocation" "channel" "Lcom/example/gentle_hub/gentlehub/core/ChannelName;" (.ref nm) ∧ Exa Z h nm "com/example/gentle_hub/gentlehub/core/ChannelName" ∧ Fld Z h nm "com/example/gentle_hub/gentlehub/core/ChannelName" "value" "Ljava/lang/String;" (.ref z) ∧ Str Z h z [c0]) := by
  have hw := K.1
  have hS : ∀ a ∈ Bundle.stringAtoms, a.before a0 Z = true := K.2.2.1
  obtain ⟨⟨Sr0, Sr1⟩, ⟨SV, AV, XV⟩, ⟨Fr0, Fr1⟩, ⟨Tr0, Tr1⟩⟩ := id H
  have hl : ([c0] : List Int32).length ≤ 100 := lb rfl
  refine oEnter (by decide +kernel) K.2.1.2.1 ?_
  intro _p _e _s m _below _meth _c T0 W0 S0
  refine oEq (g' := mkF m 0 #[.val (.ref x), .unset, .unset, .unset, .unset, .unset] []) (by first | (simp [entryFrame, mkF, argsToLocals, Value.category]; done) | rfl) ?_
  obtain ⟨v1, T1, L1, h1, vm1, W1, ⟨b, rfl, E1, A1⟩, C1, st1⟩ := oCallS W0 (idx := 39) (pc := 0) (ls := #[sR x, sU, sU, sU, sU, sU]) (st := []) (argsL := []) (c_values K H) (fun x hx => nomatch hx) (wK K 42 rfl) (wK K 43 rfl) (wK K 44 rfl) (wK K 45 rfl) (by decide) (na := 0) rfl (by decide +kernel) rfl (stk := []) rfl (by decide +kernel) (V := 0) (lb rfl) (lb rfl) (lb rfl) (lb rfl) (lb rfl)
  refine oLift st1 ?_
  show OG _ _ _ _ _ _ _ _ _ _ _ (mkF m 3 #[sR x, sU, sU, sU, sU, sU] [(.ref b)])
  refine oGo W1 [.astore_n 1, .aload_n 1] (by decide +kernel) (ls' := #[sR x, sR b, sU, sU, sU, sU]) (st' := [(.ref b)]) rfl rfl (pc' := 5) rfl ?_
  refine oLen W1 A1 (by decide +kernel) ?_
  show OG _ _ _ _ _ _ _ _ _ _ _ (mkF m 6 #[sR x, sR b, sU, sU, sU, sU] [(.int 2)])
  refine oGo W1 [.istore_n 2, .iconst 0, .istore_n 3] (by decide +kernel) (ls' := #[sR x, sR b, sI 2, sI 0, sU, sU]) (st' := []) rfl rfl (pc' := 9) rfl ?_
  refine oGo W1 [.iload_n 3, .iload_n 2] (by decide +kernel) (ls' := #[sR x, sR b, sI 2, sI 0, sU, sU]) (st' := [(.int 2), (.int 0)]) rfl rfl (pc' := 11) rfl ?_
  refine oIcF W1 (cd := .ge) (o := 62) (by decide +kernel) (XT.ii_ge_f (by decide)) (pc' := 14) rfl ?_
  refine oGo W1 [.aload_n 1, .iload_n 3] (by decide +kernel) (ls' := #[sR x, sR b, sI 2, sI 0, sU, sU]) (st' := [(.int 0), (.ref b)]) rfl rfl (pc' := 16) rfl ?_
  refine oGet W1 A1 (v := (.ref r1)) (by decide) rfl (Or.inr (Or.inr (Or.inr ⟨rfl, rfl⟩))) (by decide +kernel) ?_
  refine oGo W1 [.astore 4, .aload_n 0, .aload 4] (by decide +kernel) (ls' := #[sR x, sR b, sI 2, sI 0, sR r1, sU]) (st' := [(.ref r1), (.ref x)]) rfl rfl (pc' := 22) rfl ?_
  obtain ⟨T2, W2, st2⟩ := oGetFR W1 (pc := 22) (ls := #[sR x, sR b, sI 2, sI 0, sR r1, sU]) (st := [(.ref x)]) (wK K 60 rfl) Via.refl (Fr1.ext W1.ext) (by decide +kernel)
  refine oLift st2 ?_
  obtain ⟨v3, T3, L3, h3, vm3, W3, ⟨r3, rfl, e3, Q3⟩, C3, st3⟩ := oCallV W2 (idx := 43) (pc := 25) (ls := #[sR x, sR b, sI 2, sI 0, sR r1, sU]) (st := []) (argsL := [(.ref p1)]) (F.exa.ext E1) (c_sw1 K (F.ext E1) (Tr1.ext W2.ext) hl) (fun x hx => nomatch hx) (wK K 62 rfl) (wK K 63 rfl) (notFace_of_selects (args := #[]) (mvT W2.warm (wK K 65 rfl))) (wK K 65 rfl) (wK K 64 rfl) (wK K 11 rfl) (wK K 66 rfl) (by decide) (na := 1) rfl (by decide +kernel) rfl (stk := [(.ref p1), (.ref x)]) rfl (by decide +kernel) (V := 0) (lb rfl) (lb rfl) (lb rfl) (lb rfl) (lb rfl)
  refine oLift st3 ?_
  rw [e3] at W3 C3
  show OG _ _ _ _ _ _ _ _ _ _ _ (mkF m 28 #[sR x, sR b, sI 2, sI 0, sR r1, sU] [(.int r3)])
  rcases Q3 with ⟨rfl, hq3⟩ | ⟨rfl, hq3⟩
  · exact absurd hq3 (by decide)
  refine oIfT W3 (cd := .eq) (o := 39) (by decide +kernel) (XT.i0_eq_t rfl) (pc' := 67) (by decide) (by decide) ?_
  refine oGo W3 [.iinc 3 1, .goto (-61)] (by decide +kernel) (ls' := #[sR x, sR b, sI 2, sI 1, sR r1, sU]) (st' := []) rfl rfl (pc' := 9) rfl ?_
  refine oGo W3 [.iload_n 3, .iload_n 2] (by decide +kernel) (ls' := #[sR x, sR b, sI 2, sI 1, sR r1, sU]) (st' := [(.int 2), (.int 1)]) rfl rfl (pc' := 11) rfl ?_
  refine oIcF W3 (cd := .ge) (o := 62) (by decide +kernel) (XT.ii_ge_f (by decide)) (pc' := 14) rfl ?_
  refine oGo W3 [.aload_n 1, .iload_n 3] (by decide +kernel) (ls' := #[sR x, sR b, sI 2, sI 1, sR r1, sU]) (st' := [(.int 1), (.ref b)]) rfl rfl (pc' := 16) rfl ?_
  refine oGet W3 A1 (v := (.ref r0)) (by decide) rfl (Or.inr (Or.inr (Or.inr ⟨rfl, rfl⟩))) (by decide +kernel) ?_
  refine oGo W3 [.astore 4, .aload_n 0, .aload 4] (by decide +kernel) (ls' := #[sR x, sR b, sI 2, sI 1, sR r0, sU]) (st' := [(.ref r0), (.ref x)]) rfl rfl (pc' := 22) rfl ?_
  obtain ⟨T4, W4, st4⟩ := oGetFR W3 (pc := 22) (ls := #[sR x, sR b, sI 2, sI 1, sR r0, sU]) (st := [(.ref x)]) (wK K 60 rfl) Via.refl (Fr0.ext W3.ext) (by decide +kernel)
  refine oLift st4 ?_
  obtain ⟨v5, T5, L5, h5, vm5, W5, ⟨r5, rfl, e5, Q5⟩, C5, st5⟩ := oCallV W4 (idx := 43) (pc := 25) (ls := #[sR x, sR b, sI 2, sI 1, sR r0, sU]) (st := []) (argsL := [(.ref p0)]) (F.exa.ext E1) (c_sw1 K (F.ext E1) (Tr0.ext W4.ext) hl) (fun x hx => nomatch hx) (wK K 62 rfl) (wK K 63 rfl) (notFace_of_selects (args := #[]) (mvT W4.warm (wK K 65 rfl))) (wK K 65 rfl) (wK K 64 rfl) (wK K 11 rfl) (wK K 66 rfl) (by decide) (na := 1) rfl (by decide +kernel) rfl (stk := [(.ref p0), (.ref x)]) rfl (by decide +kernel) (V := 0) (lb rfl) (lb rfl) (lb rfl) (lb rfl) (lb rfl)
  refine oLift st5 ?_
  rw [e5] at W5 C5
  show OG _ _ _ _ _ _ _ _ _ _ _ (mkF m 28 #[sR x, sR b, sI 2, sI 1, sR r0, sU] [(.int r5)])
  rcases Q5 with ⟨rfl, hq5⟩ | ⟨rfl, hq5⟩
  rotate_left
  · exact absurd (by decide) hq5
  refine oIfF W5 (cd := .eq) (o := 39) (by decide +kernel) (XT.i0_eq_f (by decide)) (pc' := 31) rfl ?_
  refine oGo W5 [.aload_n 0, .aload 4] (by decide +kernel) (ls' := #[sR x, sR b, sI 2, sI 1, sR r0, sU]) (st' := [(.ref r0), (.ref x)]) rfl rfl (pc' := 34) rfl ?_
  obtain ⟨T6, W6, st6⟩ := oGetFR W5 (pc := 34) (ls := #[sR x, sR b, sI 2, sI 1, sR r0, sU]) (st := [(.ref x)]) (wK K 60 rfl) Via.refl (Fr0.ext W5.ext) (by decide +kernel)
  refine oLift st6 ?_
  obtain ⟨v7, T7, L7, h7, vm7, W7, ⟨rfl, e7⟩, C7, st7⟩ := oCallV W6 (idx := 49) (pc := 37) (ls := #[sR x, sR b, sI 2, sI 1, sR r0, sU]) (st := [(.ref x)]) (argsL := []) (Tr0.exa.ext W6.ext) (c_len K (Tr0.ext W6.ext)) (fun x hx => nomatch hx) (wK K 123 rfl) (wK K 73 rfl) (notFace_of_selects (args := #[]) (mvT W6.warm (wK K 75 rfl))) (wK K 75 rfl) (wK K 74 rfl) (wK K 11 rfl) (wK K 76 rfl) (by decide) (na := 0) rfl (by decide +kernel) rfl (stk := [(.ref p0), (.ref x)]) rfl (by decide +kernel) (V := 1) (lb rfl) (lb rfl) (lb rfl) (lb rfl) (lb rfl)
  refine oLift st7 ?_
  rw [e7] at W7 C7
  show OG _ _ _ _ _ _ _ _ _ _ _ (mkF m 40 #[sR x, sR b, sI 2, sI 1, sR r0, sU] [(.int 5), (.ref x)])
  obtain ⟨v8, T8, L8, h8, vm8, W8, ⟨z, rfl, F8, E8⟩, C8, st8⟩ := oCallV W7 (idx := 53) (pc := 40) (ls := #[sR x, sR b, sI 2, sI 1, sR r0, sU]) (st := []) (argsL := [(.int 5)]) (F.exa.ext E1) (c_sub1 K K.2.2.2.1 (F.ext E1) (lb rfl) (o := 5) (by decide) (lb rfl)) (fun x hx => nomatch hx) (wK K 124 rfl) (wK K 125 rfl) (notFace_of_selects (args := #[]) (mvT W7.warm (wK K 127 rfl))) (wK K 127 rfl) (wK K 126 rfl) (wK K 11 rfl) (wK K 128 rfl) (by decide) (na := 1) rfl (by decide +kernel) rfl (stk := [(.int 5), (.ref x)]) rfl (by decide +kernel) (V := 0) (lb rfl) (lb rfl) (lb rfl) (lb rfl) (lb rfl)
  refine oLift st8 ?_
  show OG _ _ _ _ _ _ _ _ _ _ _ (mkF m 43 #[sR x, sR b, sI 2, sI 1, sR r0, sU] [(.ref z)])
  have Fz : Str Z h8 z [c0] := F8
  refine oGo W8 [.astore 5] (by decide +kernel) (ls' := #[sR x, sR b, sI 2, sI 1, sR r0, sR z]) (st' := []) rfl rfl (pc' := 45) rfl ?_
  obtain ⟨T9, h9, lo, W9, g9, E9, A9, D9, S9, C9, st9⟩ := oNew W8 (pc := 45) (ls := #[sR x, sR b, sI 2, sI 1, sR r0, sR z]) (st := []) (wK K 165 rfl) (wK K 166 rfl) (wK K 40 rfl) (by decide +kernel) (lb rfl) (lb rfl)
  refine oLift st9 ?_
  refine oGo W9 [.dup, .aload 4] (by decide +kernel) (ls' := #[sR x, sR b, sI 2, sI 1, sR r0, sR z]) (st' := [(.ref r0), (.ref lo), (.ref lo)]) rfl rfl (pc' := 51) rfl ?_
  obtain ⟨T10, h10, nm, W10, g10, E10, A10, D10, S10, C10, st10⟩ := oNew W9 (pc := 51) (ls := #[sR x, sR b, sI 2, sI 1, sR r0, sR z]) (st := [(.ref r0), (.ref lo), (.ref lo)]) (wK K 167 rfl) (wK K 168 rfl) (wK K 169 rfl) (by decide +kernel) (lb rfl) (lb rfl)
  refine oLift st10 ?_
  refine oGo W10 [.dup, .aload 5] (by decide +kernel) (ls' := #[sR x, sR b, sI 2, sI 1, sR r0, sR z]) (st' := [(.ref z), (.ref nm), (.ref nm), (.ref r0), (.ref lo), (.ref lo)]) rfl rfl (pc' := 57) rfl ?_
  have hnl : nm ≠ lo := Nat.ne_of_gt (Nat.lt_of_lt_of_le A9.lt g10)
  obtain ⟨v11, T11, L11, h11, vm11, W11, ⟨rfl, K11, X11, F11⟩, C11, st11⟩ := oCallN W10 (idx := 57) (pc := 57) (ls := #[sR x, sR b, sI 2, sI 1, sR r0, sR z]) (st := [(.ref nm), (.ref r0), (.ref lo), (.ref lo)]) (a := nm) (argsL := [(.ref z)]) (c_cn1 K ((Fz.ext E9).ext E10) q0 hn1 (Nat.le_trans W9.ext.1 g10) A10 (D10 (Or.inr (wK K 206 rfl)) (ty := (.object "java/lang/String")) (by decide))) (fun x hx => nomatch hx) rfl (wK K 170 rfl) (wK K 171 rfl) (wK K 169 rfl) (wK K 172 rfl) (by decide) (na := 1) rfl (by decide +kernel) rfl (stk := [(.ref z), (.ref nm), (.ref nm), (.ref r0), (.ref lo), (.ref lo)]) rfl (by decide +kernel) (V := 4) (lb rfl) (lb rfl) (lb rfl) (lb rfl) (lb rfl)
  refine oLift st11 ?_
  show OG _ _ _ _ _ _ _ _ _ _ _ (mkF m 60 #[sR x, sR b, sI 2, sI 1, sR r0, sR z] [(.ref nm), (.ref r0), (.ref lo), (.ref lo)])
  obtain ⟨v12, T12, L12, h12, vm12, W12, ⟨rfl, K12, X12, F12, G12⟩, C12, st12⟩ := oCallN W11 (idx := 60) (pc := 60) (ls := #[sR x, sR b, sI 2, sI 1, sR r0, sR z]) (st := [(.ref lo)]) (a := lo) (argsL := [(.ref r0), (.ref nm)]) (c_cli K (Nat.le_trans W8.ext.1 g9) (A9.ext (exK E10 K11 (fun y hy => by cases List.mem_singleton.mp hy; exact g10))) ((D9 (Or.inr (wK K 212 rfl)) (ty := (.object "com/example/gentle_hub/gentlehub/server/ChannelLocation$Role")) (by decide)).ext (exK E10 K11 (fun y hy => by cases List.mem_singleton.mp hy; exact g10))) ((D9 (Or.inr (wK K 214 rfl)) (ty := (.object "com/example/gentle_hub/gentlehub/core/ChannelName")) (by decide)).ext (exK E10 K11 (fun y hy => by cases List.mem_singleton.mp hy; exact g10)))) (fun x hx => nomatch hx) rfl (wK K 207 rfl) (wK K 208 rfl) (wK K 40 rfl) (wK K 209 rfl) (by decide) (na := 2) rfl (by decide +kernel) rfl (stk := [(.ref nm), (.ref r0), (.ref lo), (.ref lo)]) rfl (by decide +kernel) (V := 1) (lb rfl) (lb rfl) (lb rfl) (lb rfl) (lb rfl)
  refine oLift st12 ?_
  show OG _ _ _ _ _ _ _ _ _ _ _ (mkF m 63 #[sR x, sR b, sI 2, sI 1, sR r0, sR z] [(.ref lo)])
  obtain ⟨v13, T13, L13, h13, vm13, W13, ⟨o, rfl, X13, F13, E13⟩, C13, st13⟩ := oCallS W12 (idx := 63) (pc := 63) (ls := #[sR x, sR b, sI 2, sI 1, sR r0, sR z]) (st := []) (argsL := [(.ref lo)]) (c_oof K) (fun x hx => nomatch hx) (wK K 215 rfl) (wK K 216 rfl) (wK K 88 rfl) (wK K 217 rfl) (by decide) (na := 1) rfl (by decide +kernel) rfl (stk := [(.ref lo)]) rfl (by decide +kernel) (V := 0) (lb rfl) (lb rfl) (lb rfl) (lb rfl) (lb rfl)
  refine oLift st13 ?_
  show OG _ _ _ _ _ _ _ _ _ _ _ (mkF m 66 #[sR x, sR b, sI 2, sI 1, sR r0, sR z] [(.ref o)])
  exact oRetA rfl W13 rfl rfl (by decide +kernel) (lb rfl) (lb rfl) (fun vm' hv => ⟨o, lo, nm, z, rfl, (exT (exT (exT E1 E8) (exK (exT E9 (exK E10 K11 (fun y hy => by cases List.mem_singleton.mp hy; exact g10))) K12 (fun y hy => by cases List.mem_singleton.mp hy; exact g9))) E13), X13, F13, (X12.ext E13), (F12.ext E13), (G12.ext E13), ((X11.keep K12).ext E13), ((F11.keep K12 (ninS hnl nin0)).ext E13), ((Fz.ext (exK (exT E9 (exK E10 K11 (fun y hy => by cases List.mem_singleton.mp hy; exact g10))) K12 (fun y hy => by cases List.mem_singleton.mp hy; exact g9))).ext E13)⟩)
abbrev rm_c_pa02 : Room := { frames := 6, cells := 16, slots := 126, locals := 115 }
set_option maxRecDepth 65536 in
set_option maxHeartbeats 40000000 in
theorem c_pa02 {l : Launch} {Z : State} {a0 : Array Value} (K : Ctx Z a0) {r0 r1 va : Addr} {kv : ClassId} {p0 p1 : Addr} (H : Rs Z r0 r1 va kv p0 p1) {x : Addr} {c0 c1 : Int32} {h0 : Heap} (F : Str Z h0 x [47, 115, 117, 98, 47, c0, c1]) (q0 : Alw c0) (q1 : Alw c1) (hn2 : ¬ (c0 = 46 ∧ c1 = 46)) :
    OC l Z EL false [] (⟨"com/example/gentle_hub/gentlehub/server/ChannelLocation", "parse", "(Ljava/lang/String;)Ljava/util/Optional;"⟩ : MethodName) prog_15_method_3_code 6 (some (.object "java/util/Optional")) rm_c_pa02 #[(.ref x)] h0 [] (fun v _ h => ∃ o lo nm z, v = some (.ref o) ∧ Ext h0 h ∧ Exa Z h o "java/util/Optional" ∧ Fld Z h o "java/util/Optional" "value" "Ljava/lang/Object;" (.ref lo) ∧ Exa Z h lo "com/example/gentle_hub/gentlehub/server/ChannelLocation" ∧ Fld Z h lo "com/example/gentle_hub/gentlehub/server/ChannelLocation" "role" "Lcom/example/gentle_hub/gentlehub/server/ChannelLocation$Role;" (.ref r0) ∧ Fld Z h lo "com/example/gentle_hub/gentlehub/server/ChannelLocation" "channel" "Lcom/example/gentle_hub/gentlehub/core/ChannelName;" (.ref nm) ∧ Exa Z h nm "com/example/gentle_hub/gentlehub/core/ChannelName" ∧ Fld Z h nm "com/example/gentle_hub/gentlehub/core/ChannelName" "value" "Ljava/lang/String;" (.ref z) ∧ Str Z h z [c0, c1]) := by
  have hw := K.1
  have hS : ∀ a ∈ Bundle.stringAtoms, a.before a0 Z = true := K.2.2.1
  obtain ⟨⟨Sr0, Sr1⟩, ⟨SV, AV, XV⟩, ⟨Fr0, Fr1⟩, ⟨Tr0, Tr1⟩⟩ := id H
  have hl : ([c0, c1] : List Int32).length ≤ 100 := lb rfl
  refine oEnter (by decide +kernel) K.2.1.2.1 ?_
  intro _p _e _s m _below _meth _c T0 W0 S0
  refine oEq (g' := mkF m 0 #[.val (.ref x), .unset, .unset, .unset, .unset, .unset] []) (by first | (simp [entryFrame, mkF, argsToLocals, Value.category]; done) | rfl) ?_
  obtain ⟨v1, T1, L1, h1, vm1, W1, ⟨b, rfl, E1, A1⟩, C1, st1⟩ := oCallS W0 (idx := 39) (pc := 0) (ls := #[sR x, sU, sU, sU, sU, sU]) (st := []) (argsL := []) (c_values K H) (fun x hx => nomatch hx) (wK K 42 rfl) (wK K 43 rfl) (wK K 44 rfl) (wK K 45 rfl) (by decide) (na := 0) rfl (by decide +kernel) rfl (stk := []) rfl (by decide +kernel) (V := 0) (lb rfl) (lb rfl) (lb rfl) (lb rfl) (lb rfl)
  refine oLift st1 ?_
  show OG _ _ _ _ _ _ _ _ _ _ _ (mkF m 3 #[sR x, sU, sU, sU, sU, sU] [(.ref b)])
  refine oGo W1 [.astore_n 1, .aload_n 1] (by decide +kernel) (ls' := #[sR x, sR b, sU, sU, sU, sU]) (st' := [(.ref b)]) rfl rfl (pc' := 5) rfl ?_
  refine oLen W1 A1 (by decide +kernel) ?_
  show OG _ _ _ _ _ _ _ _ _ _ _ (mkF m 6 #[sR x, sR b, sU, sU, sU, sU] [(.int 2)])
  refine oGo W1 [.istore_n 2, .iconst 0, .istore_n 3] (by decide +kernel) (ls' := #[sR x, sR b, sI 2, sI 0, sU, sU]) (st' := []) rfl rfl (pc' := 9) rfl ?_
  refine oGo W1 [.iload_n 3, .iload_n 2] (by decide +kernel) (ls' := #[sR x, sR b, sI 2, sI 0, sU, sU]) (st' := [(.int 2), (.int 0)]) rfl rfl (pc' := 11) rfl ?_
  refine oIcF W1 (cd := .ge) (o := 62) (by decide +kernel) (XT.ii_ge_f (by decide)) (pc' := 14) rfl ?_
  refine oGo W1 [.aload_n 1, .iload_n 3] (by decide +kernel) (ls' := #[sR x, sR b, sI 2, sI 0, sU, sU]) (st' := [(.int 0), (.ref b)]) rfl rfl (pc' := 16) rfl ?_
  refine oGet W1 A1 (v := (.ref r1)) (by decide) rfl (Or.inr (Or.inr (Or.inr ⟨rfl, rfl⟩))) (by decide +kernel) ?_
  refine oGo W1 [.astore 4, .aload_n 0, .aload 4] (by decide +kernel) (ls' := #[sR x, sR b, sI 2, sI 0, sR r1, sU]) (st' := [(.ref r1), (.ref x)]) rfl rfl (pc' := 22) rfl ?_
  obtain ⟨T2, W2, st2⟩ := oGetFR W1 (pc := 22) (ls := #[sR x, sR b, sI 2, sI 0, sR r1, sU]) (st := [(.ref x)]) (wK K 60 rfl) Via.refl (Fr1.ext W1.ext) (by decide +kernel)
  refine oLift st2 ?_
  obtain ⟨v3, T3, L3, h3, vm3, W3, ⟨r3, rfl, e3, Q3⟩, C3, st3⟩ := oCallV W2 (idx := 43) (pc := 25) (ls := #[sR x, sR b, sI 2, sI 0, sR r1, sU]) (st := []) (argsL := [(.ref p1)]) (F.exa.ext E1) (c_sw1 K (F.ext E1) (Tr1.ext W2.ext) hl) (fun x hx => nomatch hx) (wK K 62 rfl) (wK K 63 rfl) (notFace_of_selects (args := #[]) (mvT W2.warm (wK K 65 rfl))) (wK K 65 rfl) (wK K 64 rfl) (wK K 11 rfl) (wK K 66 rfl) (by decide) (na := 1) rfl (by decide +kernel) rfl (stk := [(.ref p1), (.ref x)]) rfl (by decide +kernel) (V := 0) (lb rfl) (lb rfl) (lb rfl) (lb rfl) (lb rfl)
  refine oLift st3 ?_
  rw [e3] at W3 C3
  show OG _ _ _ _ _ _ _ _ _ _ _ (mkF m 28 #[sR x, sR b, sI 2, sI 0, sR r1, sU] [(.int r3)])
  rcases Q3 with ⟨rfl, hq3⟩ | ⟨rfl, hq3⟩
  · exact absurd hq3 (by decide)
  refine oIfT W3 (cd := .eq) (o := 39) (by decide +kernel) (XT.i0_eq_t rfl) (pc' := 67) (by decide) (by decide) ?_
  refine oGo W3 [.iinc 3 1, .goto (-61)] (by decide +kernel) (ls' := #[sR x, sR b, sI 2, sI 1, sR r1, sU]) (st' := []) rfl rfl (pc' := 9) rfl ?_
  refine oGo W3 [.iload_n 3, .iload_n 2] (by decide +kernel) (ls' := #[sR x, sR b, sI 2, sI 1, sR r1, sU]) (st' := [(.int 2), (.int 1)]) rfl rfl (pc' := 11) rfl ?_
  refine oIcF W3 (cd := .ge) (o := 62) (by decide +kernel) (XT.ii_ge_f (by decide)) (pc' := 14) rfl ?_
  refine oGo W3 [.aload_n 1, .iload_n 3] (by decide +kernel) (ls' := #[sR x, sR b, sI 2, sI 1, sR r1, sU]) (st' := [(.int 1), (.ref b)]) rfl rfl (pc' := 16) rfl ?_
  refine oGet W3 A1 (v := (.ref r0)) (by decide) rfl (Or.inr (Or.inr (Or.inr ⟨rfl, rfl⟩))) (by decide +kernel) ?_
  refine oGo W3 [.astore 4, .aload_n 0, .aload 4] (by decide +kernel) (ls' := #[sR x, sR b, sI 2, sI 1, sR r0, sU]) (st' := [(.ref r0), (.ref x)]) rfl rfl (pc' := 22) rfl ?_
  obtain ⟨T4, W4, st4⟩ := oGetFR W3 (pc := 22) (ls := #[sR x, sR b, sI 2, sI 1, sR r0, sU]) (st := [(.ref x)]) (wK K 60 rfl) Via.refl (Fr0.ext W3.ext) (by decide +kernel)
  refine oLift st4 ?_
  obtain ⟨v5, T5, L5, h5, vm5, W5, ⟨r5, rfl, e5, Q5⟩, C5, st5⟩ := oCallV W4 (idx := 43) (pc := 25) (ls := #[sR x, sR b, sI 2, sI 1, sR r0, sU]) (st := []) (argsL := [(.ref p0)]) (F.exa.ext E1) (c_sw1 K (F.ext E1) (Tr0.ext W4.ext) hl) (fun x hx => nomatch hx) (wK K 62 rfl) (wK K 63 rfl) (notFace_of_selects (args := #[]) (mvT W4.warm (wK K 65 rfl))) (wK K 65 rfl) (wK K 64 rfl) (wK K 11 rfl) (wK K 66 rfl) (by decide) (na := 1) rfl (by decide +kernel) rfl (stk := [(.ref p0), (.ref x)]) rfl (by decide +kernel) (V := 0) (lb rfl) (lb rfl) (lb rfl) (lb rfl) (lb rfl)
  refine oLift st5 ?_
  rw [e5] at W5 C5
  show OG _ _ _ _ _ _ _ _ _ _ _ (mkF m 28 #[sR x, sR b, sI 2, sI 1, sR r0, sU] [(.int r5)])
  rcases Q5 with ⟨rfl, hq5⟩ | ⟨rfl, hq5⟩
  rotate_left
  · exact absurd (by decide) hq5
  refine oIfF W5 (cd := .eq) (o := 39) (by decide +kernel) (XT.i0_eq_f (by decide)) (pc' := 31) rfl ?_
  refine oGo W5 [.aload_n 0, .aload 4] (by decide +kernel) (ls' := #[sR x, sR b, sI 2, sI 1, sR r0, sU]) (st' := [(.ref r0), (.ref x)]) rfl rfl (pc' := 34) rfl ?_
  obtain ⟨T6, W6, st6⟩ := oGetFR W5 (pc := 34) (ls := #[sR x, sR b, sI 2, sI 1, sR r0, sU]) (st := [(.ref x)]) (wK K 60 rfl) Via.refl (Fr0.ext W5.ext) (by decide +kernel)
  refine oLift st6 ?_
  obtain ⟨v7, T7, L7, h7, vm7, W7, ⟨rfl, e7⟩, C7, st7⟩ := oCallV W6 (idx := 49) (pc := 37) (ls := #[sR x, sR b, sI 2, sI 1, sR r0, sU]) (st := [(.ref x)]) (argsL := []) (Tr0.exa.ext W6.ext) (c_len K (Tr0.ext W6.ext)) (fun x hx => nomatch hx) (wK K 123 rfl) (wK K 73 rfl) (notFace_of_selects (args := #[]) (mvT W6.warm (wK K 75 rfl))) (wK K 75 rfl) (wK K 74 rfl) (wK K 11 rfl) (wK K 76 rfl) (by decide) (na := 0) rfl (by decide +kernel) rfl (stk := [(.ref p0), (.ref x)]) rfl (by decide +kernel) (V := 1) (lb rfl) (lb rfl) (lb rfl) (lb rfl) (lb rfl)
  refine oLift st7 ?_
  rw [e7] at W7 C7
  show OG _ _ _ _ _ _ _ _ _ _ _ (mkF m 40 #[sR x, sR b, sI 2, sI 1, sR r0, sU] [(.int 5), (.ref x)])
  obtain ⟨v8, T8, L8, h8, vm8, W8, ⟨z, rfl, F8, E8⟩, C8, st8⟩ := oCallV W7 (idx := 53) (pc := 40) (ls := #[sR x, sR b, sI 2, sI 1, sR r0, sU]) (st := []) (argsL := [(.int 5)]) (F.exa.ext E1) (c_sub1 K K.2.2.2.1 (F.ext E1) (lb rfl) (o := 5) (by decide) (lb rfl)) (fun x hx => nomatch hx) (wK K 124 rfl) (wK K 125 rfl) (notFace_of_selects (args := #[]) (mvT W7.warm (wK K 127 rfl))) (wK K 127 rfl) (wK K 126 rfl) (wK K 11 rfl) (wK K 128 rfl) (by decide) (na := 1) rfl (by decide +kernel) rfl (stk := [(.int 5), (.ref x)]) rfl (by decide +kernel) (V := 0) (lb rfl) (lb rfl) (lb rfl) (lb rfl) (lb rfl)
  refine oLift st8 ?_
  show OG _ _ _ _ _ _ _ _ _ _ _ (mkF m 43 #[sR x, sR b, sI 2, sI 1, sR r0, sU] [(.ref z)])
  have Fz : Str Z h8 z [c0, c1] := F8
  refine oGo W8 [.astore 5] (by decide +kernel) (ls' := #[sR x, sR b, sI 2, sI 1, sR r0, sR z]) (st' := []) rfl rfl (pc' := 45) rfl ?_
  obtain ⟨T9, h9, lo, W9, g9, E9, A9, D9, S9, C9, st9⟩ := oNew W8 (pc := 45) (ls := #[sR x, sR b, sI 2, sI 1, sR r0, sR z]) (st := []) (wK K 165 rfl) (wK K 166 rfl) (wK K 40 rfl) (by decide +kernel) (lb rfl) (lb rfl)
  refine oLift st9 ?_
  refine oGo W9 [.dup, .aload 4] (by decide +kernel) (ls' := #[sR x, sR b, sI 2, sI 1, sR r0, sR z]) (st' := [(.ref r0), (.ref lo), (.ref lo)]) rfl rfl (pc' := 51) rfl ?_
  obtain ⟨T10, h10, nm, W10, g10, E10, A10, D10, S10, C10, st10⟩ := oNew W9 (pc := 51) (ls := #[sR x, sR b, sI 2, sI 1, sR r0, sR z]) (st := [(.ref r0), (.ref lo), (.ref lo)]) (wK K 167 rfl) (wK K 168 rfl) (wK K 169 rfl) (by decide +kernel) (lb rfl) (lb rfl)
  refine oLift st10 ?_
  refine oGo W10 [.dup, .aload 5] (by decide +kernel) (ls' := #[sR x, sR b, sI 2, sI 1, sR r0, sR z]) (st' := [(.ref z), (.ref nm), (.ref nm), (.ref r0), (.ref lo), (.ref lo)]) rfl rfl (pc' := 57) rfl ?_
  have hnl : nm ≠ lo := Nat.ne_of_gt (Nat.lt_of_lt_of_le A9.lt g10)
  obtain ⟨v11, T11, L11, h11, vm11, W11, ⟨rfl, K11, X11, F11⟩, C11, st11⟩ := oCallN W10 (idx := 57) (pc := 57) (ls := #[sR x, sR b, sI 2, sI 1, sR r0, sR z]) (st := [(.ref nm), (.ref r0), (.ref lo), (.ref lo)]) (a := nm) (argsL := [(.ref z)]) (c_cn2 K ((Fz.ext E9).ext E10) q0 q1 hn2 (Nat.le_trans W9.ext.1 g10) A10 (D10 (Or.inr (wK K 206 rfl)) (ty := (.object "java/lang/String")) (by decide))) (fun x hx => nomatch hx) rfl (wK K 170 rfl) (wK K 171 rfl) (wK K 169 rfl) (wK K 172 rfl) (by decide) (na := 1) rfl (by decide +kernel) rfl (stk := [(.ref z), (.ref nm), (.ref nm), (.ref r0), (.ref lo), (.ref lo)]) rfl (by decide +kernel) (V := 4) (lb rfl) (lb rfl) (lb rfl) (lb rfl) (lb rfl)
  refine oLift st11 ?_
  show OG _ _ _ _ _ _ _ _ _ _ _ (mkF m 60 #[sR x, sR b, sI 2, sI 1, sR r0, sR z] [(.ref nm), (.ref r0), (.ref lo), (.ref lo)])
  obtain ⟨v12, T12, L12, h12, vm12, W12, ⟨rfl, K12, X12, F12, G12⟩, C12, st12⟩ := oCallN W11 (idx := 60) (pc := 60) (ls := #[sR x, sR b, sI 2, sI 1, sR r0, sR z]) (st := [(.ref lo)]) (a := lo) (argsL := [(.ref r0), (.ref nm)]) (c_cli K (Nat.le_trans W8.ext.1 g9) (A9.ext (exK E10 K11 (fun y hy => by cases List.mem_singleton.mp hy; exact g10))) ((D9 (Or.inr (wK K 212 rfl)) (ty := (.object "com/example/gentle_hub/gentlehub/server/ChannelLocation$Role")) (by decide)).ext (exK E10 K11 (fun y hy => by cases List.mem_singleton.mp hy; exact g10))) ((D9 (Or.inr (wK K 214 rfl)) (ty := (.object "com/example/gentle_hub/gentlehub/core/ChannelName")) (by decide)).ext (exK E10 K11 (fun y hy => by cases List.mem_singleton.mp hy; exact g10)))) (fun x hx => nomatch hx) rfl (wK K 207 rfl) (wK K 208 rfl) (wK K 40 rfl) (wK K 209 rfl) (by decide) (na := 2) rfl (by decide +kernel) rfl (stk := [(.ref nm), (.ref r0), (.ref lo), (.ref lo)]) rfl (by decide +kernel) (V := 1) (lb rfl) (lb rfl) (lb rfl) (lb rfl) (lb rfl)
  refine oLift st12 ?_
  show OG _ _ _ _ _ _ _ _ _ _ _ (mkF m 63 #[sR x, sR b, sI 2, sI 1, sR r0, sR z] [(.ref lo)])
  obtain ⟨v13, T13, L13, h13, vm13, W13, ⟨o, rfl, X13, F13, E13⟩, C13, st13⟩ := oCallS W12 (idx := 63) (pc := 63) (ls := #[sR x, sR b, sI 2, sI 1, sR r0, sR z]) (st := []) (argsL := [(.ref lo)]) (c_oof K) (fun x hx => nomatch hx) (wK K 215 rfl) (wK K 216 rfl) (wK K 88 rfl) (wK K 217 rfl) (by decide) (na := 1) rfl (by decide +kernel) rfl (stk := [(.ref lo)]) rfl (by decide +kernel) (V := 0) (lb rfl) (lb rfl) (lb rfl) (lb rfl) (lb rfl)
  refine oLift st13 ?_
  show OG _ _ _ _ _ _ _ _ _ _ _ (mkF m 66 #[sR x, sR b, sI 2, sI 1, sR r0, sR z] [(.ref o)])
  exact oRetA rfl W13 rfl rfl (by decide +kernel) (lb rfl) (lb rfl) (fun vm' hv => ⟨o, lo, nm, z, rfl, (exT (exT (exT E1 E8) (exK (exT E9 (exK E10 K11 (fun y hy => by cases List.mem_singleton.mp hy; exact g10))) K12 (fun y hy => by cases List.mem_singleton.mp hy; exact g9))) E13), X13, F13, (X12.ext E13), (F12.ext E13), (G12.ext E13), ((X11.keep K12).ext E13), ((F11.keep K12 (ninS hnl nin0)).ext E13), ((Fz.ext (exK (exT E9 (exK E10 K11 (fun y hy => by cases List.mem_singleton.mp hy; exact g10))) K12 (fun y hy => by cases List.mem_singleton.mp hy; exact g9))).ext E13)⟩)
abbrev rm_c_pa03 : Room := { frames := 6, cells := 18, slots := 146, locals := 115 }
set_option maxRecDepth 65536 in
set_option maxHeartbeats 40000000 in
theorem c_pa03 {l : Launch} {Z : State} {a0 : Array Value} (K : Ctx Z a0) {r0 r1 va : Addr} {kv : ClassId} {p0 p1 : Addr} (H : Rs Z r0 r1 va kv p0 p1) {x : Addr} {c0 c1 c2 : Int32} {h0 : Heap} (F : Str Z h0 x [47, 115, 117, 98, 47, c0, c1, c2]) (q0 : Alw c0) (q1 : Alw c1) (q2 : Alw c2) :
    OC l Z EL false [] (⟨"com/example/gentle_hub/gentlehub/server/ChannelLocation", "parse", "(Ljava/lang/String;)Ljava/util/Optional;"⟩ : MethodName) prog_15_method_3_code 6 (some (.object "java/util/Optional")) rm_c_pa03 #[(.ref x)] h0 [] (fun v _ h => ∃ o lo nm z, v = some (.ref o) ∧ Ext h0 h ∧ Exa Z h o "java/util/Optional" ∧ Fld Z h o "java/util/Optional" "value" "Ljava/lang/Object;" (.ref lo) ∧ Exa Z h lo "com/example/gentle_hub/gentlehub/server/ChannelLocation" ∧ Fld Z h lo "com/example/gentle_hub/gentlehub/server/ChannelLocation" "role" "Lcom/example/gentle_hub/gentlehub/server/ChannelLocation$Role;" (.ref r0) ∧ Fld Z h lo "com/example/gentle_hub/gentlehub/server/ChannelLocation" "channel" "Lcom/example/gentle_hub/gentlehub/core/ChannelName;" (.ref nm) ∧ Exa Z h nm "com/example/gentle_hub/gentlehub/core/ChannelName" ∧ Fld Z h nm "com/example/gentle_hub/gentlehub/core/ChannelName" "value" "Ljava/lang/String;" (.ref z) ∧ Str Z h z [c0, c1, c2]) := by
  have hw := K.1
  have hS : ∀ a ∈ Bundle.stringAtoms, a.before a0 Z = true := K.2.2.1
  obtain ⟨⟨Sr0, Sr1⟩, ⟨SV, AV, XV⟩, ⟨Fr0, Fr1⟩, ⟨Tr0, Tr1⟩⟩ := id H
  have hl : ([c0, c1, c2] : List Int32).length ≤ 100 := lb rfl
  refine oEnter (by decide +kernel) K.2.1.2.1 ?_
  intro _p _e _s m _below _meth _c T0 W0 S0
  refine oEq (g' := mkF m 0 #[.val (.ref x), .unset, .unset, .unset, .unset, .unset] []) (by first | (simp [entryFrame, mkF, argsToLocals, Value.category]; done) | rfl) ?_
  obtain ⟨v1, T1, L1, h1, vm1, W1, ⟨b, rfl, E1, A1⟩, C1, st1⟩ := oCallS W0 (idx := 39) (pc := 0) (ls := #[sR x, sU, sU, sU, sU, sU]) (st := []) (argsL := []) (c_values K H) (fun x hx => nomatch hx) (wK K 42 rfl) (wK K 43 rfl) (wK K 44 rfl) (wK K 45 rfl) (by decide) (na := 0) rfl (by decide +kernel) rfl (stk := []) rfl (by decide +kernel) (V := 0) (lb rfl) (lb rfl) (lb rfl) (lb rfl) (lb rfl)
  refine oLift st1 ?_
  show OG _ _ _ _ _ _ _ _ _ _ _ (mkF m 3 #[sR x, sU, sU, sU, sU, sU] [(.ref b)])
  refine oGo W1 [.astore_n 1, .aload_n 1] (by decide +kernel) (ls' := #[sR x, sR b, sU, sU, sU, sU]) (st' := [(.ref b)]) rfl rfl (pc' := 5) rfl ?_
  refine oLen W1 A1 (by decide +kernel) ?_
  show OG _ _ _ _ _ _ _ _ _ _ _ (mkF m 6 #[sR x, sR b, sU, sU, sU, sU] [(.int 2)])
  refine oGo W1 [.istore_n 2, .iconst 0, .istore_n 3] (by decide +kernel) (ls' := #[sR x, sR b, sI 2, sI 0, sU, sU]) (st' := []) rfl rfl (pc' := 9) rfl ?_
  refine oGo W1 [.iload_n 3, .iload_n 2] (by decide +kernel) (ls' := #[sR x, sR b, sI 2, sI 0, sU, sU]) (st' := [(.int 2), (.int 0)]) rfl rfl (pc' := 11) rfl ?_
  refine oIcF W1 (cd := .ge) (o := 62) (by decide +kernel) (XT.ii_ge_f (by decide)) (pc' := 14) rfl ?_
  refine oGo W1 [.aload_n 1, .iload_n 3] (by decide +kernel) (ls' := #[sR x, sR b, sI 2, sI 0, sU, sU]) (st' := [(.int 0), (.ref b)]) rfl rfl (pc' := 16) rfl ?_
  refine oGet W1 A1 (v := (.ref r1)) (by decide) rfl (Or.inr (Or.inr (Or.inr ⟨rfl, rfl⟩))) (by decide +kernel) ?_
  refine oGo W1 [.astore 4, .aload_n 0, .aload 4] (by decide +kernel) (ls' := #[sR x, sR b, sI 2, sI 0, sR r1, sU]) (st' := [(.ref r1), (.ref x)]) rfl rfl (pc' := 22) rfl ?_
  obtain ⟨T2, W2, st2⟩ := oGetFR W1 (pc := 22) (ls := #[sR x, sR b, sI 2, sI 0, sR r1, sU]) (st := [(.ref x)]) (wK K 60 rfl) Via.refl (Fr1.ext W1.ext) (by decide +kernel)
  refine oLift st2 ?_
  obtain ⟨v3, T3, L3, h3, vm3, W3, ⟨r3, rfl, e3, Q3⟩, C3, st3⟩ := oCallV W2 (idx := 43) (pc := 25) (ls := #[sR x, sR b, sI 2, sI 0, sR r1, sU]) (st := []) (argsL := [(.ref p1)]) (F.exa.ext E1) (c_sw1 K (F.ext E1) (Tr1.ext W2.ext) hl) (fun x hx => nomatch hx) (wK K 62 rfl) (wK K 63 rfl) (notFace_of_selects (args := #[]) (mvT W2.warm (wK K 65 rfl))) (wK K 65 rfl) (wK K 64 rfl) (wK K 11 rfl) (wK K 66 rfl) (by decide) (na := 1) rfl (by decide +kernel) rfl (stk := [(.ref p1), (.ref x)]) rfl (by decide +kernel) (V := 0) (lb rfl) (lb rfl) (lb rfl) (lb rfl) (lb rfl)
  refine oLift st3 ?_
  rw [e3] at W3 C3
  show OG _ _ _ _ _ _ _ _ _ _ _ (mkF m 28 #[sR x, sR b, sI 2, sI 0, sR r1, sU] [(.int r3)])
  rcases Q3 with ⟨rfl, hq3⟩ | ⟨rfl, hq3⟩
  · exact absurd hq3 (by decide)
  refine oIfT W3 (cd := .eq) (o := 39) (by decide +kernel) (XT.i0_eq_t rfl) (pc' := 67) (by decide) (by decide) ?_
  refine oGo W3 [.iinc 3 1, .goto (-61)] (by decide +kernel) (ls' := #[sR x, sR b, sI 2, sI 1, sR r1, sU]) (st' := []) rfl rfl (pc' := 9) rfl ?_
  refine oGo W3 [.iload_n 3, .iload_n 2] (by decide +kernel) (ls' := #[sR x, sR b, sI 2, sI 1, sR r1, sU]) (st' := [(.int 2), (.int 1)]) rfl rfl (pc' := 11) rfl ?_
  refine oIcF W3 (cd := .ge) (o := 62) (by decide +kernel) (XT.ii_ge_f (by decide)) (pc' := 14) rfl ?_
  refine oGo W3 [.aload_n 1, .iload_n 3] (by decide +kernel) (ls' := #[sR x, sR b, sI 2, sI 1, sR r1, sU]) (st' := [(.int 1), (.ref b)]) rfl rfl (pc' := 16) rfl ?_
  refine oGet W3 A1 (v := (.ref r0)) (by decide) rfl (Or.inr (Or.inr (Or.inr ⟨rfl, rfl⟩))) (by decide +kernel) ?_
  refine oGo W3 [.astore 4, .aload_n 0, .aload 4] (by decide +kernel) (ls' := #[sR x, sR b, sI 2, sI 1, sR r0, sU]) (st' := [(.ref r0), (.ref x)]) rfl rfl (pc' := 22) rfl ?_
  obtain ⟨T4, W4, st4⟩ := oGetFR W3 (pc := 22) (ls := #[sR x, sR b, sI 2, sI 1, sR r0, sU]) (st := [(.ref x)]) (wK K 60 rfl) Via.refl (Fr0.ext W3.ext) (by decide +kernel)
  refine oLift st4 ?_
  obtain ⟨v5, T5, L5, h5, vm5, W5, ⟨r5, rfl, e5, Q5⟩, C5, st5⟩ := oCallV W4 (idx := 43) (pc := 25) (ls := #[sR x, sR b, sI 2, sI 1, sR r0, sU]) (st := []) (argsL := [(.ref p0)]) (F.exa.ext E1) (c_sw1 K (F.ext E1) (Tr0.ext W4.ext) hl) (fun x hx => nomatch hx) (wK K 62 rfl) (wK K 63 rfl) (notFace_of_selects (args := #[]) (mvT W4.warm (wK K 65 rfl))) (wK K 65 rfl) (wK K 64 rfl) (wK K 11 rfl) (wK K 66 rfl) (by decide) (na := 1) rfl (by decide +kernel) rfl (stk := [(.ref p0), (.ref x)]) rfl (by decide +kernel) (V := 0) (lb rfl) (lb rfl) (lb rfl) (lb rfl) (lb rfl)
  refine oLift st5 ?_
  rw [e5] at W5 C5
  show OG _ _ _ _ _ _ _ _ _ _ _ (mkF m 28 #[sR x, sR b, sI 2, sI 1, sR r0, sU] [(.int r5)])
  rcases Q5 with ⟨rfl, hq5⟩ | ⟨rfl, hq5⟩
  rotate_left
  · exact absurd (by decide) hq5
  refine oIfF W5 (cd := .eq) (o := 39) (by decide +kernel) (XT.i0_eq_f (by decide)) (pc' := 31) rfl ?_
  refine oGo W5 [.aload_n 0, .aload 4] (by decide +kernel) (ls' := #[sR x, sR b, sI 2, sI 1, sR r0, sU]) (st' := [(.ref r0), (.ref x)]) rfl rfl (pc' := 34) rfl ?_
  obtain ⟨T6, W6, st6⟩ := oGetFR W5 (pc := 34) (ls := #[sR x, sR b, sI 2, sI 1, sR r0, sU]) (st := [(.ref x)]) (wK K 60 rfl) Via.refl (Fr0.ext W5.ext) (by decide +kernel)
  refine oLift st6 ?_
  obtain ⟨v7, T7, L7, h7, vm7, W7, ⟨rfl, e7⟩, C7, st7⟩ := oCallV W6 (idx := 49) (pc := 37) (ls := #[sR x, sR b, sI 2, sI 1, sR r0, sU]) (st := [(.ref x)]) (argsL := []) (Tr0.exa.ext W6.ext) (c_len K (Tr0.ext W6.ext)) (fun x hx => nomatch hx) (wK K 123 rfl) (wK K 73 rfl) (notFace_of_selects (args := #[]) (mvT W6.warm (wK K 75 rfl))) (wK K 75 rfl) (wK K 74 rfl) (wK K 11 rfl) (wK K 76 rfl) (by decide) (na := 0) rfl (by decide +kernel) rfl (stk := [(.ref p0), (.ref x)]) rfl (by decide +kernel) (V := 1) (lb rfl) (lb rfl) (lb rfl) (lb rfl) (lb rfl)
  refine oLift st7 ?_
  rw [e7] at W7 C7
  show OG _ _ _ _ _ _ _ _ _ _ _ (mkF m 40 #[sR x, sR b, sI 2, sI 1, sR r0, sU] [(.int 5), (.ref x)])
  obtain ⟨v8, T8, L8, h8, vm8, W8, ⟨z, rfl, F8, E8⟩, C8, st8⟩ := oCallV W7 (idx := 53) (pc := 40) (ls := #[sR x, sR b, sI 2, sI 1, sR r0, sU]) (st := []) (argsL := [(.int 5)]) (F.exa.ext E1) (c_sub1 K K.2.2.2.1 (F.ext E1) (lb rfl) (o := 5) (by decide) (lb rfl)) (fun x hx => nomatch hx) (wK K 124 rfl) (wK K 125 rfl) (notFace_of_selects (args := #[]) (mvT W7.warm (wK K 127 rfl))) (wK K 127 rfl) (wK K 126 rfl) (wK K 11 rfl) (wK K 128 rfl) (by decide) (na := 1) rfl (by decide +kernel) rfl (stk := [(.int 5), (.ref x)]) rfl (by decide +kernel) (V := 0) (lb rfl) (lb rfl) (lb rfl) (lb rfl) (lb rfl)
  refine oLift st8 ?_
  show OG _ _ _ _ _ _ _ _ _ _ _ (mkF m 43 #[sR x, sR b, sI 2, sI 1, sR r0, sU] [(.ref z)])
  have Fz : Str Z h8 z [c0, c1, c2] := F8
  refine oGo W8 [.astore 5] (by decide +kernel) (ls' := #[sR x, sR b, sI 2, sI 1, sR r0, sR z]) (st' := []) rfl rfl (pc' := 45) rfl ?_
  obtain ⟨T9, h9, lo, W9, g9, E9, A9, D9, S9, C9, st9⟩ := oNew W8 (pc := 45) (ls := #[sR x, sR b, sI 2, sI 1, sR r0, sR z]) (st := []) (wK K 165 rfl) (wK K 166 rfl) (wK K 40 rfl) (by decide +kernel) (lb rfl) (lb rfl)
  refine oLift st9 ?_
  refine oGo W9 [.dup, .aload 4] (by decide +kernel) (ls' := #[sR x, sR b, sI 2, sI 1, sR r0, sR z]) (st' := [(.ref r0), (.ref lo), (.ref lo)]) rfl rfl (pc' := 51) rfl ?_
  obtain ⟨T10, h10, nm, W10, g10, E10, A10, D10, S10, C10, st10⟩ := oNew W9 (pc := 51) (ls := #[sR x, sR b, sI 2, sI 1, sR r0, sR z]) (st := [(.ref r0), (.ref lo), (.ref lo)]) (wK K 167 rfl) (wK K 168 rfl) (wK K 169 rfl) (by decide +kernel) (lb rfl) (lb rfl)
  refine oLift st10 ?_
  refine oGo W10 [.dup, .aload 5] (by decide +kernel) (ls' := #[sR x, sR b, sI 2, sI 1, sR r0, sR z]) (st' := [(.ref z), (.ref nm), (.ref nm), (.ref r0), (.ref lo), (.ref lo)]) rfl rfl (pc' := 57) rfl ?_
  have hnl : nm ≠ lo := Nat.ne_of_gt (Nat.lt_of_lt_of_le A9.lt g10)
  obtain ⟨v11, T11, L11, h11, vm11, W11, ⟨rfl, K11, X11, F11⟩, C11, st11⟩ := oCallN W10 (idx := 57) (pc := 57) (ls := #[sR x, sR b, sI 2, sI 1, sR r0, sR z]) (st := [(.ref nm), (.ref r0), (.ref lo), (.ref lo)]) (a := nm) (argsL := [(.ref z)]) (c_cn3 K ((Fz.ext E9).ext E10) q0 q1 q2 (Nat.le_trans W9.ext.1 g10) A10 (D10 (Or.inr (wK K 206 rfl)) (ty := (.object "java/lang/String")) (by decide))) (fun x hx => nomatch hx) rfl (wK K 170 rfl) (wK K 171 rfl) (wK K 169 rfl) (wK K 172 rfl) (by decide) (na := 1) rfl (by decide +kernel) rfl (stk := [(.ref z), (.ref nm), (.ref nm), (.ref r0), (.ref lo), (.ref lo)]) rfl (by decide +kernel) (V := 4) (lb rfl) (lb rfl) (lb rfl) (lb rfl) (lb rfl)
  refine oLift st11 ?_
  show OG _ _ _ _ _ _ _ _ _ _ _ (mkF m 60 #[sR x, sR b, sI 2, sI 1, sR r0, sR z] [(.ref nm), (.ref r0), (.ref lo), (.ref lo)])
  obtain ⟨v12, T12, L12, h12, vm12, W12, ⟨rfl, K12, X12, F12, G12⟩, C12, st12⟩ := oCallN W11 (idx := 60) (pc := 60) (ls := #[sR x, sR b, sI 2, sI 1, sR r0, sR z]) (st := [(.ref lo)]) (a := lo) (argsL := [(.ref r0), (.ref nm)]) (c_cli K (Nat.le_trans W8.ext.1 g9) (A9.ext (exK E10 K11 (fun y hy => by cases List.mem_singleton.mp hy; exact g10))) ((D9 (Or.inr (wK K 212 rfl)) (ty := (.object "com/example/gentle_hub/gentlehub/server/ChannelLocation$Role")) (by decide)).ext (exK E10 K11 (fun y hy => by cases List.mem_singleton.mp hy; exact g10))) ((D9 (Or.inr (wK K 214 rfl)) (ty := (.object "com/example/gentle_hub/gentlehub/core/ChannelName")) (by decide)).ext (exK E10 K11 (fun y hy => by cases List.mem_singleton.mp hy; exact g10)))) (fun x hx => nomatch hx) rfl (wK K 207 rfl) (wK K 208 rfl) (wK K 40 rfl) (wK K 209 rfl) (by decide) (na := 2) rfl (by decide +kernel) rfl (stk := [(.ref nm), (.ref r0), (.ref lo), (.ref lo)]) rfl (by decide +kernel) (V := 1) (lb rfl) (lb rfl) (lb rfl) (lb rfl) (lb rfl)
  refine oLift st12 ?_
  show OG _ _ _ _ _ _ _ _ _ _ _ (mkF m 63 #[sR x, sR b, sI 2, sI 1, sR r0, sR z] [(.ref lo)])
  obtain ⟨v13, T13, L13, h13, vm13, W13, ⟨o, rfl, X13, F13, E13⟩, C13, st13⟩ := oCallS W12 (idx := 63) (pc := 63) (ls := #[sR x, sR b, sI 2, sI 1, sR r0, sR z]) (st := []) (argsL := [(.ref lo)]) (c_oof K) (fun x hx => nomatch hx) (wK K 215 rfl) (wK K 216 rfl) (wK K 88 rfl) (wK K 217 rfl) (by decide) (na := 1) rfl (by decide +kernel) rfl (stk := [(.ref lo)]) rfl (by decide +kernel) (V := 0) (lb rfl) (lb rfl) (lb rfl) (lb rfl) (lb rfl)
  refine oLift st13 ?_
  show OG _ _ _ _ _ _ _ _ _ _ _ (mkF m 66 #[sR x, sR b, sI 2, sI 1, sR r0, sR z] [(.ref o)])
  exact oRetA rfl W13 rfl rfl (by decide +kernel) (lb rfl) (lb rfl) (fun vm' hv => ⟨o, lo, nm, z, rfl, (exT (exT (exT E1 E8) (exK (exT E9 (exK E10 K11 (fun y hy => by cases List.mem_singleton.mp hy; exact g10))) K12 (fun y hy => by cases List.mem_singleton.mp hy; exact g9))) E13), X13, F13, (X12.ext E13), (F12.ext E13), (G12.ext E13), ((X11.keep K12).ext E13), ((F11.keep K12 (ninS hnl nin0)).ext E13), ((Fz.ext (exK (exT E9 (exK E10 K11 (fun y hy => by cases List.mem_singleton.mp hy; exact g10))) K12 (fun y hy => by cases List.mem_singleton.mp hy; exact g9))).ext E13)⟩)
theorem al_rng (x : Int32) : 0 ≤ ((x &&& (2147483647 : Int32)) % (66 : Int32)).toInt ∧ ((x &&& (2147483647 : Int32)) % (66 : Int32)).toInt < 66 := by
  have h := c_and x 2147483647 (by decide)
  have e := (c_irem (x &&& 2147483647) 66 66 rfl).1 h.1
  rw [e]
  have := h.1
  omega
theorem al_A {i : Int32} (h0 : 0 ≤ i.toInt) (h : i < 26) : Alw (((65 : Int32) + i).toUInt32.toUInt16.toUInt32.toInt32) := by
  have e := c_i2c ((65 : Int32) + i)
  have e1 := c_iadd 65 i
  have k0 : (65 : Int32).toInt = 65 := rfl
  have k1 : (26 : Int32).toInt = 26 := rfl
  rw [Int32.lt_iff_toInt_lt, k1] at h
  have := ((65 : Int32) + i).le_toInt
  have := ((65 : Int32) + i).toInt_lt
  rw [k0] at e1
  exact Or.inl (by omega)
theorem al_b {i a b : Int32} {A B : Int} (ka : a.toInt = A) (kb : b.toInt = B) (hA : 0 ≤ A ∧ A ≤ 100) (hB : 0 ≤ B ∧ B ≤ 100) (h0 : 0 ≤ i.toInt) (h1 : i.toInt < 66) (h : ¬ i < b) : ((a + (i - b)).toUInt32.toUInt16.toUInt32.toInt32).toInt = A + (i.toInt - B) := by
  have e := c_i2c (a + (i - b))
  have e1 := c_iadd a (i - b)
  have e2 := c_isub i b
  rw [Int32.lt_iff_toInt_lt, kb] at h
  have := (a + (i - b)).le_toInt
  have := (a + (i - b)).toInt_lt
  have := (i - b).le_toInt
  have := (i - b).toInt_lt
  rw [ka] at e1
  rw [kb] at e2
  omega
theorem al_a {i : Int32} (h0 : 0 ≤ i.toInt) (h1 : i.toInt < 66) (h : ¬ i < 26) (h' : i < 52) : Alw (((97 : Int32) + (i - (26 : Int32))).toUInt32.toUInt16.toUInt32.toInt32) := by
  have e := al_b (a := 97) (b := 26) rfl rfl (by decide) (by decide) h0 h1 h
  have k1 : (26 : Int32).toInt = 26 := rfl
  have k2 : (52 : Int32).toInt = 52 := rfl
  rw [Int32.lt_iff_toInt_lt, k1] at h
  rw [Int32.lt_iff_toInt_lt, k2] at h'
  have k3 : (97 : Int32).toInt = 97 := rfl
  rw [k3, k1] at e
  exact Or.inr (Or.inl (by omega))
theorem al_0 {i : Int32} (h0 : 0 ≤ i.toInt) (h1 : i.toInt < 66) (h : ¬ i < 52) (h' : i < 62) : Alw (((48 : Int32) + (i - (52 : Int32))).toUInt32.toUInt16.toUInt32.toInt32) := by
  have e := al_b (a := 48) (b := 52) rfl rfl (by decide) (by decide) h0 h1 h
  have k1 : (52 : Int32).toInt = 52 := rfl
  have k2 : (62 : Int32).toInt = 62 := rfl
  rw [Int32.lt_iff_toInt_lt, k1] at h
  rw [Int32.lt_iff_toInt_lt, k2] at h'
  have k3 : (48 : Int32).toInt = 48 := rfl
  rw [k3, k1] at e
  exact Or.inr (Or.inr (Or.inl (by omega)))
theorem al_4 {i : Int32} (h1 : i.toInt < 66) (h : ¬ i < 62) : i = 62 ∨ i = 63 ∨ i = 64 ∨ i = 65 := by
  have k : (62 : Int32).toInt = 62 := rfl
  rw [Int32.lt_iff_toInt_lt, k] at h
  have h4 : i.toInt = 62 ∨ i.toInt = 63 ∨ i.toInt = 64 ∨ i.toInt = 65 := by omega
  rcases h4 with q | q | q | q
  · exact Or.inl (Int32.toInt_inj.mp (q.trans rfl))
  · exact Or.inr (Or.inl (Int32.toInt_inj.mp (q.trans rfl)))
  · exact Or.inr (Or.inr (Or.inl (Int32.toInt_inj.mp (q.trans rfl))))
  · exact Or.inr (Or.inr (Or.inr (Int32.toInt_inj.mp (q.trans rfl))))
theorem pos5 (a : Int32) (h : (XT.ushr a (1 : Int32) &&& (15 : Int32)) < 5) : (XT.ushr a (1 : Int32) &&& (15 : Int32)) = 0 ∨ (XT.ushr a (1 : Int32) &&& (15 : Int32)) = 1 ∨ (XT.ushr a (1 : Int32) &&& (15 : Int32)) = 2 ∨ (XT.ushr a (1 : Int32) &&& (15 : Int32)) = 3 ∨ (XT.ushr a (1 : Int32) &&& (15 : Int32)) = 4 := by
  have g := c_and (XT.ushr a (1 : Int32)) 15 (by decide)
  have k5 : (5 : Int32).toInt = 5 := rfl
  rw [Int32.lt_iff_toInt_lt, k5] at h
  generalize (XT.ushr a (1 : Int32) &&& (15 : Int32)) = y at *
  have h4 : y.toInt = 0 ∨ y.toInt = 1 ∨ y.toInt = 2 ∨ y.toInt = 3 ∨ y.toInt = 4 := by have := g.1; omega
  rcases h4 with q | q | q | q | q
  · exact Or.inl (Int32.toInt_inj.mp (q.trans rfl))
  · exact Or.inr (Or.inl (Int32.toInt_inj.mp (q.trans rfl)))
  · exact Or.inr (Or.inr (Or.inl (Int32.toInt_inj.mp (q.trans rfl))))
  · exact Or.inr (Or.inr (Or.inr (Or.inl (Int32.toInt_inj.mp (q.trans rfl)))))
  · exact Or.inr (Or.inr (Or.inr (Or.inr (Int32.toInt_inj.mp (q.trans rfl)))))
theorem n3 (a : Int32) : ((a &&& (3 : Int32)) % (3 : Int32)) + (1 : Int32) = 1 ∨ ((a &&& (3 : Int32)) % (3 : Int32)) + (1 : Int32) = 2 ∨ ((a &&& (3 : Int32)) % (3 : Int32)) + (1 : Int32) = 3 := by
  have g := c_and a 3 (by decide)
  have e := (c_irem (a &&& (3 : Int32)) 3 3 rfl).1 g.1
  generalize ((a &&& (3 : Int32)) % (3 : Int32)) = y at *
  have h4 : y.toInt = 0 ∨ y.toInt = 1 ∨ y.toInt = 2 := by omega
  rcases h4 with q | q | q
  · rw [show y = 0 from Int32.toInt_inj.mp (q.trans rfl)]; decide
  · rw [show y = 1 from Int32.toInt_inj.mp (q.trans rfl)]; decide
  · rw [show y = 2 from Int32.toInt_inj.mp (q.trans rfl)]; decide
theorem tl5 (a : Int32) : (XT.ushr a (3 : Int32) % (5 : Int32)) = 0 ∨ (XT.ushr a (3 : Int32) % (5 : Int32)) = 1 ∨ (XT.ushr a (3 : Int32) % (5 : Int32)) = 2 ∨ (XT.ushr a (3 : Int32) % (5 : Int32)) = 3 ∨ (XT.ushr a (3 : Int32) % (5 : Int32)) = 4 := by
  have u : (XT.ushr a (3 : Int32)).toInt = (a.toInt % 4294967296) / (2 ^ 3 : Nat) := c_iushr a 3 3 (by decide) (by decide)
  have k8 : ((2 ^ 3 : Nat) : Int) = 8 := by decide
  rw [k8] at u
  have g : 0 ≤ (XT.ushr a (3 : Int32)).toInt := by omega
  have e := (c_irem (XT.ushr a (3 : Int32)) 5 5 rfl).1 g
  generalize (XT.ushr a (3 : Int32) % (5 : Int32)) = y at *
  have h4 : y.toInt = 0 ∨ y.toInt = 1 ∨ y.toInt = 2 ∨ y.toInt = 3 ∨ y.toInt = 4 := by omega
  rcases h4 with q | q | q | q | q
  · exact Or.inl (Int32.toInt_inj.mp (q.trans rfl))
  · exact Or.inr (Or.inl (Int32.toInt_inj.mp (q.trans rfl)))
  · exact Or.inr (Or.inr (Or.inl (Int32.toInt_inj.mp (q.trans rfl))))
  · exact Or.inr (Or.inr (Or.inr (Or.inl (Int32.toInt_inj.mp (q.trans rfl)))))
  · exact Or.inr (Or.inr (Or.inr (Or.inr (Int32.toInt_inj.mp (q.trans rfl)))))
theorem tlV (a : Int32) : ∃ V : Nat, V ≤ 4 ∧ (XT.ushr a (3 : Int32) % (5 : Int32)) = Int32.ofNat V := by
  rcases tl5 a with h | h | h | h | h
  · exact ⟨0, by omega, h⟩
  · exact ⟨1, by omega, h⟩
  · exact ⟨2, by omega, h⟩
  · exact ⟨3, by omega, h⟩
  · exact ⟨4, by omega, h⟩
theorem nV (a : Int32) : ∃ M : Nat, (1 ≤ M ∧ M ≤ 3) ∧ ((a &&& (3 : Int32)) % (3 : Int32)) + (1 : Int32) = Int32.ofNat M := by
  rcases n3 a with h | h | h
  · exact ⟨1, by omega, h⟩
  · exact ⟨2, by omega, h⟩
  · exact ⟨3, by omega, h⟩
abbrev rm_c_nch : Room := { frames := 4, cells := 2, slots := 20, locals := 53 }
set_option maxRecDepth 65536 in
set_option maxHeartbeats 40000000 in
theorem c_nch {l : Launch} {Z : State} {a0 : Array Value} (K : Ctx Z a0) {x : Int32} {h0 : Heap} :
    OC l Z EL false [] (⟨"com/example/gentle_hub/gentlehub/server/ChannelLocationParsePinLaw", "nameChar", "(I)C"⟩ : MethodName) method_2_code 2 (some .char) rm_c_nch #[(.int x)] h0 [] (fun v _ h => (∃ c, v = some (.int c) ∧ Alw c) ∧ Ext h0 h) := by
  have hw := K.1
  have hS : ∀ a ∈ Bundle.stringAtoms, a.before a0 Z = true := K.2.2.1
  obtain ⟨hi0, hi1⟩ := al_rng x
  refine oEnter (by decide +kernel) K.2.1.2.1 ?_
  intro _p _e _s m _below _meth _c T0 W0 S0
  refine oEq (g' := mkF m 0 #[.val (.int x), .unset] []) (by first | (simp [entryFrame, mkF, argsToLocals, Value.category]; done) | rfl) ?_
  refine oGo W0 [.iload_n 0] (by decide +kernel) (ls' := #[sI x, sU]) (st' := [(.int x)]) rfl rfl (pc' := 1) rfl ?_
  refine oLdcI W0 (wK K 5 rfl) (by decide +kernel) ?_
  refine oGo W0 [.iand, .bipush 66, .irem, .istore_n 1, .iload_n 1, .bipush 26] (by decide +kernel) (ls' := #[sI x, sI ((x &&& (2147483647 : Int32)) % (66 : Int32))]) (st' := [(.int 26), (.int ((x &&& (2147483647 : Int32)) % (66 : Int32)))]) rfl rfl (pc' := 11) rfl ?_
  by_cases hc1 : ((x &&& (2147483647 : Int32)) % (66 : Int32)) < (26 : Int32)
  · refine oIcF W0 (cd := .ge) (o := 9) (by decide +kernel) (XT.ii_ge_f hc1) (pc' := 14) rfl ?_
    refine oGo W0 [.bipush 65, .iload_n 1, .iadd, .i2c] (by decide +kernel) (ls' := #[sI x, sI ((x &&& (2147483647 : Int32)) % (66 : Int32))]) (st' := [(.int (((65 : Int32) + ((x &&& (2147483647 : Int32)) % (66 : Int32))).toUInt32.toUInt16.toUInt32.toInt32))]) rfl rfl (pc' := 19) rfl ?_
    exact oRetN (by simp) W0 (nar_c _) (by decide +kernel) (lb rfl) (lb rfl) (fun vm' hv => ⟨⟨_, rfl, al_A hi0 hc1⟩, exR _⟩)
  refine oIcT W0 (cd := .ge) (o := 9) (by decide +kernel) (XT.ii_ge_t hc1) (pc' := 20) (by decide) (by decide) ?_
  refine oGo W0 [.iload_n 1, .bipush 52] (by decide +kernel) (ls' := #[sI x, sI ((x &&& (2147483647 : Int32)) % (66 : Int32))]) (st' := [(.int 52), (.int ((x &&& (2147483647 : Int32)) % (66 : Int32)))]) rfl rfl (pc' := 23) rfl ?_
  by_cases hc2 : ((x &&& (2147483647 : Int32)) % (66 : Int32)) < (52 : Int32)
  · refine oIcF W0 (cd := .ge) (o := 12) (by decide +kernel) (XT.ii_ge_f hc2) (pc' := 26) rfl ?_
    refine oGo W0 [.bipush 97, .iload_n 1, .bipush 26, .isub, .iadd, .i2c] (by decide +kernel) (ls' := #[sI x, sI ((x &&& (2147483647 : Int32)) % (66 : Int32))]) (st' := [(.int (((97 : Int32) + (((x &&& (2147483647 : Int32)) % (66 : Int32)) - (26 : Int32))).toUInt32.toUInt16.toUInt32.toInt32))]) rfl rfl (pc' := 34) rfl ?_
    exact oRetN (by simp) W0 (nar_c _) (by decide +kernel) (lb rfl) (lb rfl) (fun vm' hv => ⟨⟨_, rfl, al_a hi0 hi1 hc1 hc2⟩, exR _⟩)
  refine oIcT W0 (cd := .ge) (o := 12) (by decide +kernel) (XT.ii_ge_t hc2) (pc' := 35) (by decide) (by decide) ?_
  refine oGo W0 [.iload_n 1, .bipush 62] (by decide +kernel) (ls' := #[sI x, sI ((x &&& (2147483647 : Int32)) % (66 : Int32))]) (st' := [(.int 62), (.int ((x &&& (2147483647 : Int32)) % (66 : Int32)))]) rfl rfl (pc' := 38) rfl ?_
  by_cases hc3 : ((x &&& (2147483647 : Int32)) % (66 : Int32)) < (62 : Int32)
  · refine oIcF W0 (cd := .ge) (o := 12) (by decide +kernel) (XT.ii_ge_f hc3) (pc' := 41) rfl ?_
    refine oGo W0 [.bipush 48, .iload_n 1, .bipush 52, .isub, .iadd, .i2c] (by decide +kernel) (ls' := #[sI x, sI ((x &&& (2147483647 : Int32)) % (66 : Int32))]) (st' := [(.int (((48 : Int32) + (((x &&& (2147483647 : Int32)) % (66 : Int32)) - (52 : Int32))).toUInt32.toUInt16.toUInt32.toInt32))]) rfl rfl (pc' := 49) rfl ?_
    exact oRetN (by simp) W0 (nar_c _) (by decide +kernel) (lb rfl) (lb rfl) (fun vm' hv => ⟨⟨_, rfl, al_0 hi0 hi1 hc2 hc3⟩, exR _⟩)
  refine oIcT W0 (cd := .ge) (o := 12) (by decide +kernel) (XT.ii_ge_t hc3) (pc' := 50) (by decide) (by decide) ?_
  obtain ⟨a4, b4, k4, T4, h4, vm4, W4, E4, C4, x4, c4, u4, A4, st4⟩ := oLdcC W0 (pc := 50) (ls := #[sI x, sI ((x &&& (2147483647 : Int32)) % (66 : Int32))]) (st := []) (wK K 98 rfl) hS (by decide) (vs := (([46, 95, 126, 45] : List Int32).map fun c => Value.int c.toInt8.toInt32)) (z := 4) (by decide +kernel) (by decide) (by decide) (by decide +kernel) (n := 16) (lb rfl) (lb rfl) (lb rfl) (lb rfl)
  refine oLift st4 ?_
  have F4 : Str Z h4 a4 [46, 95, 126, 45] := ⟨b4, k4, x4, c4, u4, A4, by decide⟩
  rcases al_4 hi1 hc3 with hk | hk | hk | hk
  · rw [hk]
    refine oGo W4 [.iload_n 1, .bipush 62, .isub] (by decide +kernel) (ls' := #[sI x, sI 62]) (st' := [(.int 0), (.ref a4)]) rfl rfl (pc' := 56) rfl ?_
    obtain ⟨v5, T5, L5, h5, vm5, W5, ⟨rfl, e5⟩, C5, st5⟩ := oCallV W4 (idx := 10) (pc := 56) (ls := #[sI x, sI 62]) (st := []) (argsL := [(.int 0)]) F4.exa (c_chr K K.2.2.2.1 F4 (lb rfl) (i := 0) (by decide) (c := 46) rfl) (fun x hx => nomatch hx) (wK K 101 rfl) (wK K 102 rfl) (notFace_of_selects (args := #[]) (mvT W4.warm (wK K 104 rfl))) (wK K 104 rfl) (wK K 103 rfl) (wK K 11 rfl) (wK K 105 rfl) (by decide) (na := 1) rfl (by decide +kernel) rfl (stk := [(.int 0), (.ref a4)]) rfl (by decide +kernel) (V := 0) (lb rfl) (lb rfl) (lb rfl) (lb rfl) (lb rfl)
    refine oLift st5 ?_
    rw [e5] at W5 C5
    show OG _ _ _ _ _ _ _ _ _ _ _ (mkF m 59 #[sI x, sI 62] [(.int 46)])
    exact oRetN (by simp) W5 rfl (by decide +kernel) (lb rfl) (lb rfl) (fun vm' hv => ⟨⟨_, rfl, (Or.inr (Or.inr (Or.inr (Or.inl rfl))))⟩, E4⟩)
  · rw [hk]
    refine oGo W4 [.iload_n 1, .bipush 62, .isub] (by decide +kernel) (ls' := #[sI x, sI 63]) (st' := [(.int 1), (.ref a4)]) rfl rfl (pc' := 56) rfl ?_
    obtain ⟨v6, T6, L6, h6, vm6, W6, ⟨rfl, e6⟩, C6, st6⟩ := oCallV W4 (idx := 10) (pc := 56) (ls := #[sI x, sI 63]) (st := []) (argsL := [(.int 1)]) F4.exa (c_chr K K.2.2.2.1 F4 (lb rfl) (i := 1) (by decide) (c := 95) rfl) (fun x hx => nomatch hx) (wK K 101 rfl) (wK K 102 rfl) (notFace_of_selects (args := #[]) (mvT W4.warm (wK K 104 rfl))) (wK K 104 rfl) (wK K 103 rfl) (wK K 11 rfl) (wK K 105 rfl) (by decide) (na := 1) rfl (by decide +kernel) rfl (stk := [(.int 1), (.ref a4)]) rfl (by decide +kernel) (V := 0) (lb rfl) (lb rfl) (lb rfl) (lb rfl) (lb rfl)
    refine oLift st6 ?_
    rw [e6] at W6 C6
    show OG _ _ _ _ _ _ _ _ _ _ _ (mkF m 59 #[sI x, sI 63] [(.int 95)])
    exact oRetN (by simp) W6 rfl (by decide +kernel) (lb rfl) (lb rfl) (fun vm' hv => ⟨⟨_, rfl, (Or.inr (Or.inr (Or.inr (Or.inr (Or.inl rfl)))))⟩, E4⟩)
  · rw [hk]
    refine oGo W4 [.iload_n 1, .bipush 62, .isub] (by decide +kernel) (ls' := #[sI x, sI 64]) (st' := [(.int 2), (.ref a4)]) rfl rfl (pc' := 56) rfl ?_
    obtain ⟨v7, T7, L7, h7, vm7, W7, ⟨rfl, e7⟩, C7, st7⟩ := oCallV W4 (idx := 10) (pc := 56) (ls := #[sI x, sI 64]) (st := []) (argsL := [(.int 2)]) F4.exa (c_chr K K.2.2.2.1 F4 (lb rfl) (i := 2) (by decide) (c := 126) rfl) (fun x hx => nomatch hx) (wK K 101 rfl) (wK K 102 rfl) (notFace_of_selects (args := #[]) (mvT W4.warm (wK K 104 rfl))) (wK K 104 rfl) (wK K 103 rfl) (wK K 11 rfl) (wK K 105 rfl) (by decide) (na := 1) rfl (by decide +kernel) rfl (stk := [(.int 2), (.ref a4)]) rfl (by decide +kernel) (V := 0) (lb rfl) (lb rfl) (lb rfl) (lb rfl) (lb rfl)
    refine oLift st7 ?_
    rw [e7] at W7 C7
    show OG _ _ _ _ _ _ _ _ _ _ _ (mkF m 59 #[sI x, sI 64] [(.int 126)])
    exact oRetN (by simp) W7 rfl (by decide +kernel) (lb rfl) (lb rfl) (fun vm' hv => ⟨⟨_, rfl, (Or.inr (Or.inr (Or.inr (Or.inr (Or.inr (Or.inl rfl))))))⟩, E4⟩)
  · rw [hk]
    refine oGo W4 [.iload_n 1, .bipush 62, .isub] (by decide +kernel) (ls' := #[sI x, sI 65]) (st' := [(.int 3), (.ref a4)]) rfl rfl (pc' := 56) rfl ?_
    obtain ⟨v8, T8, L8, h8, vm8, W8, ⟨rfl, e8⟩, C8, st8⟩ := oCallV W4 (idx := 10) (pc := 56) (ls := #[sI x, sI 65]) (st := []) (argsL := [(.int 3)]) F4.exa (c_chr K K.2.2.2.1 F4 (lb rfl) (i := 3) (by decide) (c := 45) rfl) (fun x hx => nomatch hx) (wK K 101 rfl) (wK K 102 rfl) (notFace_of_selects (args := #[]) (mvT W4.warm (wK K 104 rfl))) (wK K 104 rfl) (wK K 103 rfl) (wK K 11 rfl) (wK K 105 rfl) (by decide) (na := 1) rfl (by decide +kernel) rfl (stk := [(.int 3), (.ref a4)]) rfl (by decide +kernel) (V := 0) (lb rfl) (lb rfl) (lb rfl) (lb rfl) (lb rfl)
    refine oLift st8 ?_
    rw [e8] at W8 C8
    show OG _ _ _ _ _ _ _ _ _ _ _ (mkF m 59 #[sI x, sI 65] [(.int 45)])
    exact oRetN (by simp) W8 rfl (by decide +kernel) (lb rfl) (lb rfl) (fun vm' hv => ⟨⟨_, rfl, (Or.inr (Or.inr (Or.inr (Or.inr (Or.inr (Or.inr rfl))))))⟩, E4⟩)
abbrev rm_c_tk0 : Room := { frames := 4, cells := 6, slots := 18, locals := 66 }
set_option maxRecDepth 65536 in
set_option maxHeartbeats 40000000 in
theorem c_tk0 {l : Launch} {Z : State} {a0 : Array Value} (K : Ctx Z a0) {a : Addr} {ka : ClassId} {rest : List Value} {h0 : Heap} (A : OA Z h0 a ka .char (rest))  :
    OC l Z EL false [] (⟨"com/example/gentle_hub/gentlehub/server/ChannelLocationParsePinLaw", "take", "([CI)Ljava/lang/String;"⟩ : MethodName) method_3_code 2 (some (.object "java/lang/String")) rm_c_tk0 #[(.ref a), (.int 0)] h0 [] (fun v _ h => ∃ x, v = some (.ref x) ∧ Str Z h x [] ∧ Ext h0 h) := by
  have hw := K.1
  have hS : ∀ a ∈ Bundle.stringAtoms, a.before a0 Z = true := K.2.2.1
  refine oEnter (by decide +kernel) K.2.1.2.1 ?_
  intro _p _e _s m _below _meth _c T0 W0 S0
  refine oEq (g' := mkF m 0 #[.val (.ref a), .val (.int 0)] []) (by first | (simp [entryFrame, mkF, argsToLocals, Value.category]; done) | rfl) ?_
  refine oGo W0 [.iload_n 1] (by decide +kernel) (ls' := #[sR a, sI 0]) (st' := [(.int 0)]) rfl rfl (pc' := 1) rfl ?_
  refine oIfF W0 (cd := .ne) (o := 14) (by decide +kernel) (XT.i0_ne_f (by decide)) (pc' := 4) rfl ?_
  obtain ⟨T1, h1, a1, W1, g1, E1, A1, D1, S1, C1, st1⟩ := oNew W0 (pc := 4) (ls := #[sR a, sI 0]) (st := []) (wK K 9 rfl) (wK K 10 rfl) (wK K 11 rfl) (by decide +kernel) (lb rfl) (lb rfl)
  refine oLift st1 ?_
  refine oGo W1 [.dup, .iconst 0] (by decide +kernel) (ls' := #[sR a, sI 0]) (st' := [(.int 0), (.ref a1), (.ref a1)]) rfl rfl (pc' := 9) rfl ?_
  obtain ⟨T2, h2, a2, k2, W2, g2, E2, A2, S2, C2, st2⟩ := oNewA W1 (aty := .char) (pc := 9) (ls := #[sR a, sI 0]) (st := [(.ref a1), (.ref a1)]) (wK K 0 rfl) (by decide +kernel) (n := (0 : Int32)) (by decide) (cap := 0) (lb rfl) (lb rfl) (lb rfl) (lb rfl)
  refine oLift st2 ?_
  have A2 : OA Z h2 a2 k2 .char [] := A2
  obtain ⟨v3, T3, L3, h3, vm3, W3, ⟨rfl, K3, F3⟩, C3, st3⟩ := oCallN W2 (idx := 16) (pc := 11) (ls := #[sR a, sI 0]) (st := [(.ref a1)]) (a := a1) (argsL := [(.ref a2)]) (k_I1e K.2.1 hS (wK K 342 rfl) (by decide) A2 (Nat.le_trans W0.ext.1 g1) (A1.ext E2) ((D1 (Or.inr (wK K 35 rfl)) (ty := .byte) (by decide)).ext E2) ((D1 (Or.inr (wK K 37 rfl)) (ty := (.array .byte)) (by decide)).ext E2)) (fun y hy => by cases List.mem_singleton.mp hy; exact ⟨(A1.ext E2).lt, (C2.safe A1.lt S1)⟩) rfl (wK K 12 rfl) (wK K 13 rfl) (wK K 11 rfl) (wK K 14 rfl) (by decide) (na := 1) rfl (by decide +kernel) rfl (stk := [(.ref a2), (.ref a1), (.ref a1)]) rfl (by decide +kernel) (V := 1) (lb rfl) (lb rfl) (lb rfl) (lb rfl) (lb rfl)
  refine oLift st3 ?_
  show OG _ _ _ _ _ _ _ _ _ _ _ (mkF m 14 #[sR a, sI 0] [(.ref a1)])
  exact oRetA rfl W3 rfl rfl (by decide +kernel) (lb rfl) (lb rfl) (fun vm' hv => ⟨_, rfl, F3, (exK (exT E1 E2) K3 (fun y hy => by cases List.mem_singleton.mp hy; exact g1))⟩)
abbrev rm_c_tk1 : Room := { frames := 4, cells := 6, slots := 18, locals := 66 }
set_option maxRecDepth 65536 in
set_option maxHeartbeats 40000000 in
theorem c_tk1 {l : Launch} {Z : State} {a0 : Array Value} (K : Ctx Z a0) {a : Addr} {ka : ClassId} {e0 : Int32} {rest : List Value} {h0 : Heap} (A : OA Z h0 a ka .char (Value.int e0 :: rest)) (p0 : ¬ e0 < 0 ∧ ¬ (255 : Int32) < e0) :
    OC l Z EL false [] (⟨"com/example/gentle_hub/gentlehub/server/ChannelLocationParsePinLaw", "take", "([CI)Ljava/lang/String;"⟩ : MethodName) method_3_code 2 (some (.object "java/lang/String")) rm_c_tk1 #[(.ref a), (.int 1)] h0 [] (fun v _ h => ∃ x, v = some (.ref x) ∧ Str Z h x [e0] ∧ Ext h0 h) := by
  have hw := K.1
  have hS : ∀ a ∈ Bundle.stringAtoms, a.before a0 Z = true := K.2.2.1
  refine oEnter (by decide +kernel) K.2.1.2.1 ?_
  intro _p _e _s m _below _meth _c T0 W0 S0
  refine oEq (g' := mkF m 0 #[.val (.ref a), .val (.int 1)] []) (by first | (simp [entryFrame, mkF, argsToLocals, Value.category]; done) | rfl) ?_
  refine oGo W0 [.iload_n 1] (by decide +kernel) (ls' := #[sR a, sI 1]) (st' := [(.int 1)]) rfl rfl (pc' := 1) rfl ?_
  refine oIfT W0 (cd := .ne) (o := 14) (by decide +kernel) (XT.i0_ne_t (by decide)) (pc' := 15) (by decide) (by decide) ?_
  refine oGo W0 [.iload_n 1, .iconst 1] (by decide +kernel) (ls' := #[sR a, sI 1]) (st' := [(.int 1), (.int 1)]) rfl rfl (pc' := 17) rfl ?_
  refine oIcF W0 (cd := .ne) (o := 20) (by decide +kernel) (XT.ii_ne_f (by decide)) (pc' := 20) rfl ?_
  obtain ⟨T1, h1, a1, W1, g1, E1, A1, D1, S1, C1, st1⟩ := oNew W0 (pc := 20) (ls := #[sR a, sI 1]) (st := []) (wK K 9 rfl) (wK K 10 rfl) (wK K 11 rfl) (by decide +kernel) (lb rfl) (lb rfl)
  refine oLift st1 ?_
  refine oGo W1 [.dup, .iconst 1] (by decide +kernel) (ls' := #[sR a, sI 1]) (st' := [(.int 1), (.ref a1), (.ref a1)]) rfl rfl (pc' := 25) rfl ?_
  obtain ⟨T2, h2, a2, k2, W2, g2, E2, A2, S2, C2, st2⟩ := oNewA W1 (aty := .char) (pc := 25) (ls := #[sR a, sI 1]) (st := [(.ref a1), (.ref a1)]) (wK K 0 rfl) (by decide +kernel) (n := (1 : Int32)) (by decide) (cap := 1) (lb rfl) (lb rfl) (lb rfl) (lb rfl)
  refine oLift st2 ?_
  have A2 : OA Z h2 a2 k2 .char [.int 0] := A2
  refine oGo W2 [.dup, .iconst 0, .aload_n 0, .iconst 0] (by decide +kernel) (ls' := #[sR a, sI 1]) (st' := [(.int 0), (.ref a), (.int 0), (.ref a2), (.ref a2), (.ref a1), (.ref a1)]) rfl rfl (pc' := 31) rfl ?_
  refine oGet W2 ((A.ext E1).ext E2) (v := (.int e0)) (by decide) rfl (Or.inl ⟨rfl, rfl⟩) (by decide +kernel) ?_
  obtain ⟨T3, h3, W3, Wr3, A3, C3, st3⟩ := oPut W2 A2 (j := (0 : Int32)) (x := e0) (x' := e0) (pc := 32) (ls := #[sR a, sI 1]) (st := [(.ref a2), (.ref a1), (.ref a1)]) (by decide) (i := 0) (by decide) (by simp) (Nat.le_trans W1.ext.1 g2) (A2.safe W2.warm.alike (by decide)) (ins := .castore) (Or.inl ⟨rfl, rfl, (narC p0)⟩) (by decide +kernel)
  refine oLift st3 ?_
  have A3 : OA Z h3 a2 k2 .char [.int e0] := A3
  obtain ⟨v4, T4, L4, h4, vm4, W4, ⟨rfl, K4, F4⟩, C4, st4⟩ := oCallN W3 (idx := 16) (pc := 33) (ls := #[sR a, sI 1]) (st := [(.ref a1)]) (a := a1) (argsL := [(.ref a2)]) (k_I1 K.2.1 [e0] (lb rfl) (lb rfl) A3 (own_cons p0 own_nil) (Nat.le_trans W0.ext.1 g1) (A1.ext (exW E2 Wr3 g2)) ((D1 (Or.inr (wK K 35 rfl)) (ty := .byte) (by decide)).ext (exW E2 Wr3 g2)) ((D1 (Or.inr (wK K 37 rfl)) (ty := (.array .byte)) (by decide)).ext (exW E2 Wr3 g2))) (fun y hy => by cases List.mem_singleton.mp hy; exact ⟨(A1.ext (exW E2 Wr3 g2)).lt, (C3.safe (A1.ext E2).lt (C2.safe A1.lt S1))⟩) rfl (wK K 12 rfl) (wK K 13 rfl) (wK K 11 rfl) (wK K 14 rfl) (by decide) (na := 1) rfl (by decide +kernel) rfl (stk := [(.ref a2), (.ref a1), (.ref a1)]) rfl (by decide +kernel) (V := 1) (lb rfl) (lb rfl) (lb rfl) (lb rfl) (lb rfl)
  refine oLift st4 ?_
  show OG _ _ _ _ _ _ _ _ _ _ _ (mkF m 36 #[sR a, sI 1] [(.ref a1)])
  exact oRetA rfl W4 rfl rfl (by decide +kernel) (lb rfl) (lb rfl) (fun vm' hv => ⟨_, rfl, F4, (exK (exT E1 (exW E2 Wr3 g2)) K4 (fun y hy => by cases List.mem_singleton.mp hy; exact g1))⟩)
abbrev rm_c_tk2 : Room := { frames := 4, cells := 6, slots := 18, locals := 66 }
set_option maxRecDepth 65536 in
set_option maxHeartbeats 40000000 in
theorem c_tk2 {l : Launch} {Z : State} {a0 : Array Value} (K : Ctx Z a0) {a : Addr} {ka : ClassId} {e0 e1 : Int32} {rest : List Value} {h0 : Heap} (A : OA Z h0 a ka .char (Value.int e0 :: Value.int e1 :: rest)) (p0 : ¬ e0 < 0 ∧ ¬ (255 : Int32) < e0) (p1 : ¬ e1 < 0 ∧ ¬ (255 : Int32) < e1) :
    OC l Z EL false [] (⟨"com/example/gentle_hub/gentlehub/server/ChannelLocationParsePinLaw", "take", "([CI)Ljava/lang/String;"⟩ : MethodName) method_3_code 2 (some (.object "java/lang/String")) rm_c_tk2 #[(.ref a), (.int 2)] h0 [] (fun v _ h => ∃ x, v = some (.ref x) ∧ Str Z h x [e0, e1] ∧ Ext h0 h) := by
  have hw := K.1
  have hS : ∀ a ∈ Bundle.stringAtoms, a.before a0 Z = true := K.2.2.1
  refine oEnter (by decide +kernel) K.2.1.2.1 ?_
  intro _p _e _s m _below _meth _c T0 W0 S0
  refine oEq (g' := mkF m 0 #[.val (.ref a), .val (.int 2)] []) (by first | (simp [entryFrame, mkF, argsToLocals, Value.category]; done) | rfl) ?_
  refine oGo W0 [.iload_n 1] (by decide +kernel) (ls' := #[sR a, sI 2]) (st' := [(.int 2)]) rfl rfl (pc' := 1) rfl ?_
  refine oIfT W0 (cd := .ne) (o := 14) (by decide +kernel) (XT.i0_ne_t (by decide)) (pc' := 15) (by decide) (by decide) ?_
  refine oGo W0 [.iload_n 1, .iconst 1] (by decide +kernel) (ls' := #[sR a, sI 2]) (st' := [(.int 1), (.int 2)]) rfl rfl (pc' := 17) rfl ?_
  refine oIcT W0 (cd := .ne) (o := 20) (by decide +kernel) (XT.ii_ne_t (by decide)) (pc' := 37) (by decide) (by decide) ?_
  refine oGo W0 [.iload_n 1, .iconst 2] (by decide +kernel) (ls' := #[sR a, sI 2]) (st' := [(.int 2), (.int 2)]) rfl rfl (pc' := 39) rfl ?_
  refine oIcF W0 (cd := .ne) (o := 26) (by decide +kernel) (XT.ii_ne_f (by decide)) (pc' := 42) rfl ?_
  obtain ⟨T1, h1, a1, W1, g1, E1, A1, D1, S1, C1, st1⟩ := oNew W0 (pc := 42) (ls := #[sR a, sI 2]) (st := []) (wK K 9 rfl) (wK K 10 rfl) (wK K 11 rfl) (by decide +kernel) (lb rfl) (lb rfl)
  refine oLift st1 ?_
  refine oGo W1 [.dup, .iconst 2] (by decide +kernel) (ls' := #[sR a, sI 2]) (st' := [(.int 2), (.ref a1), (.ref a1)]) rfl rfl (pc' := 47) rfl ?_
  obtain ⟨T2, h2, a2, k2, W2, g2, E2, A2, S2, C2, st2⟩ := oNewA W1 (aty := .char) (pc := 47) (ls := #[sR a, sI 2]) (st := [(.ref a1), (.ref a1)]) (wK K 0 rfl) (by decide +kernel) (n := (2 : Int32)) (by decide) (cap := 2) (lb rfl) (lb rfl) (lb rfl) (lb rfl)
  refine oLift st2 ?_
  have A2 : OA Z h2 a2 k2 .char [.int 0, .int 0] := A2
  refine oGo W2 [.dup, .iconst 0, .aload_n 0, .iconst 0] (by decide +kernel) (ls' := #[sR a, sI 2]) (st' := [(.int 0), (.ref a), (.int 0), (.ref a2), (.ref a2), (.ref a1), (.ref a1)]) rfl rfl (pc' := 53) rfl ?_
  refine oGet W2 ((A.ext E1).ext E2) (v := (.int e0)) (by decide) rfl (Or.inl ⟨rfl, rfl⟩) (by decide +kernel) ?_
  obtain ⟨T3, h3, W3, Wr3, A3, C3, st3⟩ := oPut W2 A2 (j := (0 : Int32)) (x := e0) (x' := e0) (pc := 54) (ls := #[sR a, sI 2]) (st := [(.ref a2), (.ref a1), (.ref a1)]) (by decide) (i := 0) (by decide) (by simp) (Nat.le_trans W1.ext.1 g2) (A2.safe W2.warm.alike (by decide)) (ins := .castore) (Or.inl ⟨rfl, rfl, (narC p0)⟩) (by decide +kernel)
  refine oLift st3 ?_
  have A3 : OA Z h3 a2 k2 .char [.int e0, .int 0] := A3
  refine oGo W3 [.dup, .iconst 1, .aload_n 0, .iconst 1] (by decide +kernel) (ls' := #[sR a, sI 2]) (st' := [(.int 1), (.ref a), (.int 1), (.ref a2), (.ref a2), (.ref a1), (.ref a1)]) rfl rfl (pc' := 59) rfl ?_
  refine oGet W3 ((A.ext E1).ext (exW E2 Wr3 g2)) (v := (.int e1)) (by decide) rfl (Or.inl ⟨rfl, rfl⟩) (by decide +kernel) ?_
  obtain ⟨T4, h4, W4, Wr4, A4, C4, st4⟩ := oPut W3 A3 (j := (1 : Int32)) (x := e1) (x' := e1) (pc := 60) (ls := #[sR a, sI 2]) (st := [(.ref a2), (.ref a1), (.ref a1)]) (by decide) (i := 1) (by decide) (by simp) (Nat.le_trans W1.ext.1 g2) (A3.safe W3.warm.alike (by decide)) (ins := .castore) (Or.inl ⟨rfl, rfl, (narC p1)⟩) (by decide +kernel)
  refine oLift st4 ?_
  have A4 : OA Z h4 a2 k2 .char [.int e0, .int e1] := A4
  obtain ⟨v5, T5, L5, h5, vm5, W5, ⟨rfl, K5, F5⟩, C5, st5⟩ := oCallN W4 (idx := 16) (pc := 61) (ls := #[sR a, sI 2]) (st := [(.ref a1)]) (a := a1) (argsL := [(.ref a2)]) (k_I1 K.2.1 [e0, e1] (lb rfl) (lb rfl) A4 (own_cons p0 (own_cons p1 own_nil)) (Nat.le_trans W0.ext.1 g1) (A1.ext (exW (exW E2 Wr3 g2) Wr4 g2)) ((D1 (Or.inr (wK K 35 rfl)) (ty := .byte) (by decide)).ext (exW (exW E2 Wr3 g2) Wr4 g2)) ((D1 (Or.inr (wK K 37 rfl)) (ty := (.array .byte)) (by decide)).ext (exW (exW E2 Wr3 g2) Wr4 g2))) (fun y hy => by cases List.mem_singleton.mp hy; exact ⟨(A1.ext (exW (exW E2 Wr3 g2) Wr4 g2)).lt, (C4.safe (A1.ext (exW E2 Wr3 g2)).lt (C3.safe (A1.ext E2).lt (C2.safe A1.lt S1)))⟩) rfl (wK K 12 rfl) (wK K 13 rfl) (wK K 11 rfl) (wK K 14 rfl) (by decide) (na := 1) rfl (by decide +kernel) rfl (stk := [(.ref a2), (.ref a1), (.ref a1)]) rfl (by decide +kernel) (V := 1) (lb rfl) (lb rfl) (lb rfl) (lb rfl) (lb rfl)
  refine oLift st5 ?_
  show OG _ _ _ _ _ _ _ _ _ _ _ (mkF m 64 #[sR a, sI 2] [(.ref a1)])
  exact oRetA rfl W5 rfl rfl (by decide +kernel) (lb rfl) (lb rfl) (fun vm' hv => ⟨_, rfl, F5, (exK (exT E1 (exW (exW E2 Wr3 g2) Wr4 g2)) K5 (fun y hy => by cases List.mem_singleton.mp hy; exact g1))⟩)
abbrev rm_c_tk3 : Room := { frames := 4, cells := 6, slots := 18, locals := 66 }
set_option maxRecDepth 65536 in
set_option maxHeartbeats 40000000 in
theorem c_tk3 {l : Launch} {Z : State} {a0 : Array Value} (K : Ctx Z a0) {a : Addr} {ka : ClassId} {e0 e1 e2 : Int32} {rest : List Value} {h0 : Heap} (A : OA Z h0 a ka .char (Value.int e0 :: Value.int e1 :: Value.int e2 :: rest)) (p0 : ¬ e0 < 0 ∧ ¬ (255 : Int32) < e0) (p1 : ¬ e1 < 0 ∧ ¬ (255 : Int32) < e1) (p2 : ¬ e2 < 0 ∧ ¬ (255 : Int32) < e2) :
    OC l Z EL false [] (⟨"com/example/gentle_hub/gentlehub/server/ChannelLocationParsePinLaw", "take", "([CI)Ljava/lang/String;"⟩ : MethodName) method_3_code 2 (some (.object "java/lang/String")) rm_c_tk3 #[(.ref a), (.int 3)] h0 [] (fun v _ h => ∃ x, v = some (.ref x) ∧ Str Z h x [e0, e1, e2] ∧ Ext h0 h) := by
  have hw := K.1
  have hS : ∀ a ∈ Bundle.stringAtoms, a.before a0 Z = true := K.2.2.1
  refine oEnter (by decide +kernel) K.2.1.2.1 ?_
  intro _p _e _s m _below _meth _c T0 W0 S0
  refine oEq (g' := mkF m 0 #[.val (.ref a), .val (.int 3)] []) (by first | (simp [entryFrame, mkF, argsToLocals, Value.category]; done) | rfl) ?_
  refine oGo W0 [.iload_n 1] (by decide +kernel) (ls' := #[sR a, sI 3]) (st' := [(.int 3)]) rfl rfl (pc' := 1) rfl ?_
  refine oIfT W0 (cd := .ne) (o := 14) (by decide +kernel) (XT.i0_ne_t (by decide)) (pc' := 15) (by decide) (by decide) ?_
  refine oGo W0 [.iload_n 1, .iconst 1] (by decide +kernel) (ls' := #[sR a, sI 3]) (st' := [(.int 1), (.int 3)]) rfl rfl (pc' := 17) rfl ?_
  refine oIcT W0 (cd := .ne) (o := 20) (by decide +kernel) (XT.ii_ne_t (by decide)) (pc' := 37) (by decide) (by decide) ?_
  refine oGo W0 [.iload_n 1, .iconst 2] (by decide +kernel) (ls' := #[sR a, sI 3]) (st' := [(.int 2), (.int 3)]) rfl rfl (pc' := 39) rfl ?_
  refine oIcT W0 (cd := .ne) (o := 26) (by decide +kernel) (XT.ii_ne_t (by decide)) (pc' := 65) (by decide) (by decide) ?_
  refine oGo W0 [.iload_n 1, .iconst 3] (by decide +kernel) (ls' := #[sR a, sI 3]) (st' := [(.int 3), (.int 3)]) rfl rfl (pc' := 67) rfl ?_
  refine oIcF W0 (cd := .ne) (o := 32) (by decide +kernel) (XT.ii_ne_f (by decide)) (pc' := 70) rfl ?_
  obtain ⟨T1, h1, a1, W1, g1, E1, A1, D1, S1, C1, st1⟩ := oNew W0 (pc := 70) (ls := #[sR a, sI 3]) (st := []) (wK K 9 rfl) (wK K 10 rfl) (wK K 11 rfl) (by decide +kernel) (lb rfl) (lb rfl)
  refine oLift st1 ?_
  refine oGo W1 [.dup, .iconst 3] (by decide +kernel) (ls' := #[sR a, sI 3]) (st' := [(.int 3), (.ref a1), (.ref a1)]) rfl rfl (pc' := 75) rfl ?_
  obtain ⟨T2, h2, a2, k2, W2, g2, E2, A2, S2, C2, st2⟩ := oNewA W1 (aty := .char) (pc := 75) (ls := #[sR a, sI 3]) (st := [(.ref a1), (.ref a1)]) (wK K 0 rfl) (by decide +kernel) (n := (3 : Int32)) (by decide) (cap := 3) (lb rfl) (lb rfl) (lb rfl) (lb rfl)
  refine oLift st2 ?_
  have A2 : OA Z h2 a2 k2 .char [.int 0, .int 0, .int 0] := A2
  refine oGo W2 [.dup, .iconst 0, .aload_n 0, .iconst 0] (by decide +kernel) (ls' := #[sR a, sI 3]) (st' := [(.int 0), (.ref a), (.int 0), (.ref a2), (.ref a2), (.ref a1), (.ref a1)]) rfl rfl (pc' := 81) rfl ?_
  refine oGet W2 ((A.ext E1).ext E2) (v := (.int e0)) (by decide) rfl (Or.inl ⟨rfl, rfl⟩) (by decide +kernel) ?_
  obtain ⟨T3, h3, W3, Wr3, A3, C3, st3⟩ := oPut W2 A2 (j := (0 : Int32)) (x := e0) (x' := e0) (pc := 82) (ls := #[sR a, sI 3]) (st := [(.ref a2), (.ref a1), (.ref a1)]) (by decide) (i := 0) (by decide) (by simp) (Nat.le_trans W1.ext.1 g2) (A2.safe W2.warm.alike (by decide)) (ins := .castore) (Or.inl ⟨rfl, rfl, (narC p0)⟩) (by decide +kernel)
  refine oLift st3 ?_
  have A3 : OA Z h3 a2 k2 .char [.int e0, .int 0, .int 0] := A3
  refine oGo W3 [.dup, .iconst 1, .aload_n 0, .iconst 1] (by decide +kernel) (ls' := #[sR a, sI 3]) (st' := [(.int 1), (.ref a), (.int 1), (.ref a2), (.ref a2), (.ref a1), (.ref a1)]) rfl rfl (pc' := 87) rfl ?_
  refine oGet W3 ((A.ext E1).ext (exW E2 Wr3 g2)) (v := (.int e1)) (by decide) rfl (Or.inl ⟨rfl, rfl⟩) (by decide +kernel) ?_
  obtain ⟨T4, h4, W4, Wr4, A4, C4, st4⟩ := oPut W3 A3 (j := (1 : Int32)) (x := e1) (x' := e1) (pc := 88) (ls := #[sR a, sI 3]) (st := [(.ref a2), (.ref a1), (.ref a1)]) (by decide) (i := 1) (by decide) (by simp) (Nat.le_trans W1.ext.1 g2) (A3.safe W3.warm.alike (by decide)) (ins := .castore) (Or.inl ⟨rfl, rfl, (narC p1)⟩) (by decide +kernel)
  refine oLift st4 ?_
  have A4 : OA Z h4 a2 k2 .char [.int e0, .int e1, .int 0] := A4
  refine oGo W4 [.dup, .iconst 2, .aload_n 0, .iconst 2] (by decide +kernel) (ls' := #[sR a, sI 3]) (st' := [(.int 2), (.ref a), (.int 2), (.ref a2), (.ref a2), (.ref a1), (.ref a1)]) rfl rfl (pc' := 93) rfl ?_
  refine oGet W4 ((A.ext E1).ext (exW (exW E2 Wr3 g2) Wr4 g2)) (v := (.int e2)) (by decide) rfl (Or.inl ⟨rfl, rfl⟩) (by decide +kernel) ?_
  obtain ⟨T5, h5, W5, Wr5, A5, C5, st5⟩ := oPut W4 A4 (j := (2 : Int32)) (x := e2) (x' := e2) (pc := 94) (ls := #[sR a, sI 3]) (st := [(.ref a2), (.ref a1), (.ref a1)]) (by decide) (i := 2) (by decide) (by simp) (Nat.le_trans W1.ext.1 g2) (A4.safe W4.warm.alike (by decide)) (ins := .castore) (Or.inl ⟨rfl, rfl, (narC p2)⟩) (by decide +kernel)
  refine oLift st5 ?_
  have A5 : OA Z h5 a2 k2 .char [.int e0, .int e1, .int e2] := A5
  obtain ⟨v6, T6, L6, h6, vm6, W6, ⟨rfl, K6, F6⟩, C6, st6⟩ := oCallN W5 (idx := 16) (pc := 95) (ls := #[sR a, sI 3]) (st := [(.ref a1)]) (a := a1) (argsL := [(.ref a2)]) (k_I1 K.2.1 [e0, e1, e2] (lb rfl) (lb rfl) A5 (own_cons p0 (own_cons p1 (own_cons p2 own_nil))) (Nat.le_trans W0.ext.1 g1) (A1.ext (exW (exW (exW E2 Wr3 g2) Wr4 g2) Wr5 g2)) ((D1 (Or.inr (wK K 35 rfl)) (ty := .byte) (by decide)).ext (exW (exW (exW E2 Wr3 g2) Wr4 g2) Wr5 g2)) ((D1 (Or.inr (wK K 37 rfl)) (ty := (.array .byte)) (by decide)).ext (exW (exW (exW E2 Wr3 g2) Wr4 g2) Wr5 g2))) (fun y hy => by cases List.mem_singleton.mp hy; exact ⟨(A1.ext (exW (exW (exW E2 Wr3 g2) Wr4 g2) Wr5 g2)).lt, (C5.safe (A1.ext (exW (exW E2 Wr3 g2) Wr4 g2)).lt (C4.safe (A1.ext (exW E2 Wr3 g2)).lt (C3.safe (A1.ext E2).lt (C2.safe A1.lt S1))))⟩) rfl (wK K 12 rfl) (wK K 13 rfl) (wK K 11 rfl) (wK K 14 rfl) (by decide) (na := 1) rfl (by decide +kernel) rfl (stk := [(.ref a2), (.ref a1), (.ref a1)]) rfl (by decide +kernel) (V := 1) (lb rfl) (lb rfl) (lb rfl) (lb rfl) (lb rfl)
  refine oLift st6 ?_
  show OG _ _ _ _ _ _ _ _ _ _ _ (mkF m 98 #[sR a, sI 3] [(.ref a1)])
  exact oRetA rfl W6 rfl rfl (by decide +kernel) (lb rfl) (lb rfl) (fun vm' hv => ⟨_, rfl, F6, (exK (exT E1 (exW (exW (exW E2 Wr3 g2) Wr4 g2) Wr5 g2)) K6 (fun y hy => by cases List.mem_singleton.mp hy; exact g1))⟩)
abbrev rm_c_tk4 : Room := { frames := 4, cells := 6, slots := 18, locals := 66 }
set_option maxRecDepth 65536 in
set_option maxHeartbeats 40000000 in
theorem c_tk4 {l : Launch} {Z : State} {a0 : Array Value} (K : Ctx Z a0) {a : Addr} {ka : ClassId} {e0 e1 e2 e3 : Int32} {rest : List Value} {h0 : Heap} (A : OA Z h0 a ka .char (Value.int e0 :: Value.int e1 :: Value.int e2 :: Value.int e3 :: rest)) (p0 : ¬ e0 < 0 ∧ ¬ (255 : Int32) < e0) (p1 : ¬ e1 < 0 ∧ ¬ (255 : Int32) < e1) (p2 : ¬ e2 < 0 ∧ ¬ (255 : Int32) < e2) (p3 : ¬ e3 < 0 ∧ ¬ (255 : Int32) < e3) :
    OC l Z EL false [] (⟨"com/example/gentle_hub/gentlehub/server/ChannelLocationParsePinLaw", "take", "([CI)Ljava/lang/String;"⟩ : MethodName) method_3_code 2 (some (.object "java/lang/String")) rm_c_tk4 #[(.ref a), (.int 4)] h0 [] (fun v _ h => ∃ x, v = some (.ref x) ∧ Str Z h x [e0, e1, e2, e3] ∧ Ext h0 h) := by
  have hw := K.1
  have hS : ∀ a ∈ Bundle.stringAtoms, a.before a0 Z = true := K.2.2.1
  refine oEnter (by decide +kernel) K.2.1.2.1 ?_
  intro _p _e _s m _below _meth _c T0 W0 S0
  refine oEq (g' := mkF m 0 #[.val (.ref a), .val (.int 4)] []) (by first | (simp [entryFrame, mkF, argsToLocals, Value.category]; done) | rfl) ?_
  refine oGo W0 [.iload_n 1] (by decide +kernel) (ls' := #[sR a, sI 4]) (st' := [(.int 4)]) rfl rfl (pc' := 1) rfl ?_
  refine oIfT W0 (cd := .ne) (o := 14) (by decide +kernel) (XT.i0_ne_t (by decide)) (pc' := 15) (by decide) (by decide) ?_
  refine oGo W0 [.iload_n 1, .iconst 1] (by decide +kernel) (ls' := #[sR a, sI 4]) (st' := [(.int 1), (.int 4)]) rfl rfl (pc' := 17) rfl ?_
  refine oIcT W0 (cd := .ne) (o := 20) (by decide +kernel) (XT.ii_ne_t (by decide)) (pc' := 37) (by decide) (by decide) ?_
  refine oGo W0 [.iload_n 1, .iconst 2] (by decide +kernel) (ls' := #[sR a, sI 4]) (st' := [(.int 2), (.int 4)]) rfl rfl (pc' := 39) rfl ?_
  refine oIcT W0 (cd := .ne) (o := 26) (by decide +kernel) (XT.ii_ne_t (by decide)) (pc' := 65) (by decide) (by decide) ?_
  refine oGo W0 [.iload_n 1, .iconst 3] (by decide +kernel) (ls' := #[sR a, sI 4]) (st' := [(.int 3), (.int 4)]) rfl rfl (pc' := 67) rfl ?_
  refine oIcT W0 (cd := .ne) (o := 32) (by decide +kernel) (XT.ii_ne_t (by decide)) (pc' := 99) (by decide) (by decide) ?_
  refine oGo W0 [.iload_n 1, .iconst 4] (by decide +kernel) (ls' := #[sR a, sI 4]) (st' := [(.int 4), (.int 4)]) rfl rfl (pc' := 101) rfl ?_
  refine oIcF W0 (cd := .ne) (o := 38) (by decide +kernel) (XT.ii_ne_f (by decide)) (pc' := 104) rfl ?_
  obtain ⟨T1, h1, a1, W1, g1, E1, A1, D1, S1, C1, st1⟩ := oNew W0 (pc := 104) (ls := #[sR a, sI 4]) (st := []) (wK K 9 rfl) (wK K 10 rfl) (wK K 11 rfl) (by decide +kernel) (lb rfl) (lb rfl)
  refine oLift st1 ?_
  refine oGo W1 [.dup, .iconst 4] (by decide +kernel) (ls' := #[sR a, sI 4]) (st' := [(.int 4), (.ref a1), (.ref a1)]) rfl rfl (pc' := 109) rfl ?_
  obtain ⟨T2, h2, a2, k2, W2, g2, E2, A2, S2, C2, st2⟩ := oNewA W1 (aty := .char) (pc := 109) (ls := #[sR a, sI 4]) (st := [(.ref a1), (.ref a1)]) (wK K 0 rfl) (by decide +kernel) (n := (4 : Int32)) (by decide) (cap := 4) (lb rfl) (lb rfl) (lb rfl) (lb rfl)
  refine oLift st2 ?_
  have A2 : OA Z h2 a2 k2 .char [.int 0, .int 0, .int 0, .int 0] := A2
  refine oGo W2 [.dup, .iconst 0, .aload_n 0, .iconst 0] (by decide +kernel) (ls' := #[sR a, sI 4]) (st' := [(.int 0), (.ref a), (.int 0), (.ref a2), (.ref a2), (.ref a1), (.ref a1)]) rfl rfl (pc' := 115) rfl ?_
  refine oGet W2 ((A.ext E1).ext E2) (v := (.int e0)) (by decide) rfl (Or.inl ⟨rfl, rfl⟩) (by decide +kernel) ?_
  obtain ⟨T3, h3, W3, Wr3, A3, C3, st3⟩ := oPut W2 A2 (j := (0 : Int32)) (x := e0) (x' := e0) (pc := 116) (ls := #[sR a, sI 4]) (st := [(.ref a2), (.ref a1), (.ref a1)]) (by decide) (i := 0) (by decide) (by simp) (Nat.le_trans W1.ext.1 g2) (A2.safe W2.warm.alike (by decide)) (ins := .castore) (Or.inl ⟨rfl, rfl, (narC p0)⟩) (by decide +kernel)
  refine oLift st3 ?_
  have A3 : OA Z h3 a2 k2 .char [.int e0, .int 0, .int 0, .int 0] := A3
  refine oGo W3 [.dup, .iconst 1, .aload_n 0, .iconst 1] (by decide +kernel) (ls' := #[sR a, sI 4]) (st' := [(.int 1), (.ref a), (.int 1), (.ref a2), (.ref a2), (.ref a1), (.ref a1)]) rfl rfl (pc' := 121) rfl ?_
  refine oGet W3 ((A.ext E1).ext (exW E2 Wr3 g2)) (v := (.int e1)) (by decide) rfl (Or.inl ⟨rfl, rfl⟩) (by decide +kernel) ?_
  obtain ⟨T4, h4, W4, Wr4, A4, C4, st4⟩ := oPut W3 A3 (j := (1 : Int32)) (x := e1) (x' := e1) (pc := 122) (ls := #[sR a, sI 4]) (st := [(.ref a2), (.ref a1), (.ref a1)]) (by decide) (i := 1) (by decide) (by simp) (Nat.le_trans W1.ext.1 g2) (A3.safe W3.warm.alike (by decide)) (ins := .castore) (Or.inl ⟨rfl, rfl, (narC p1)⟩) (by decide +kernel)
  refine oLift st4 ?_
  have A4 : OA Z h4 a2 k2 .char [.int e0, .int e1, .int 0, .int 0] := A4
  refine oGo W4 [.dup, .iconst 2, .aload_n 0, .iconst 2] (by decide +kernel) (ls' := #[sR a, sI 4]) (st' := [(.int 2), (.ref a), (.int 2), (.ref a2), (.ref a2), (.ref a1), (.ref a1)]) rfl rfl (pc' := 127) rfl ?_
  refine oGet W4 ((A.ext E1).ext (exW (exW E2 Wr3 g2) Wr4 g2)) (v := (.int e2)) (by decide) rfl (Or.inl ⟨rfl, rfl⟩) (by decide +kernel) ?_
  obtain ⟨T5, h5, W5, Wr5, A5, C5, st5⟩ := oPut W4 A4 (j := (2 : Int32)) (x := e2) (x' := e2) (pc := 128) (ls := #[sR a, sI 4]) (st := [(.ref a2), (.ref a1), (.ref a1)]) (by decide) (i := 2) (by decide) (by simp) (Nat.le_trans W1.ext.1 g2) (A4.safe W4.warm.alike (by decide)) (ins := .castore) (Or.inl ⟨rfl, rfl, (narC p2)⟩) (by decide +kernel)
  refine oLift st5 ?_
  have A5 : OA Z h5 a2 k2 .char [.int e0, .int e1, .int e2, .int 0] := A5
  refine oGo W5 [.dup, .iconst 3, .aload_n 0, .iconst 3] (by decide +kernel) (ls' := #[sR a, sI 4]) (st' := [(.int 3), (.ref a), (.int 3), (.ref a2), (.ref a2), (.ref a1), (.ref a1)]) rfl rfl (pc' := 133) rfl ?_
  refine oGet W5 ((A.ext E1).ext (exW (exW (exW E2 Wr3 g2) Wr4 g2) Wr5 g2)) (v := (.int e3)) (by decide) rfl (Or.inl ⟨rfl, rfl⟩) (by decide +kernel) ?_
  obtain ⟨T6, h6, W6, Wr6, A6, C6, st6⟩ := oPut W5 A5 (j := (3 : Int32)) (x := e3) (x' := e3) (pc := 134) (ls := #[sR a, sI 4]) (st := [(.ref a2), (.ref a1), (.ref a1)]) (by decide) (i := 3) (by decide) (by simp) (Nat.le_trans W1.ext.1 g2) (A5.safe W5.warm.alike (by decide)) (ins := .castore) (Or.inl ⟨rfl, rfl, (narC p3)⟩) (by decide +kernel)
  refine oLift st6 ?_
  have A6 : OA Z h6 a2 k2 .char [.int e0, .int e1, .int e2, .int e3] := A6
  obtain ⟨v7, T7, L7, h7, vm7, W7, ⟨rfl, K7, F7⟩, C7, st7⟩ := oCallN W6 (idx := 16) (pc := 135) (ls := #[sR a, sI 4]) (st := [(.ref a1)]) (a := a1) (argsL := [(.ref a2)]) (k_I1 K.2.1 [e0, e1, e2, e3] (lb rfl) (lb rfl) A6 (own_cons p0 (own_cons p1 (own_cons p2 (own_cons p3 own_nil)))) (Nat.le_trans W0.ext.1 g1) (A1.ext (exW (exW (exW (exW E2 Wr3 g2) Wr4 g2) Wr5 g2) Wr6 g2)) ((D1 (Or.inr (wK K 35 rfl)) (ty := .byte) (by decide)).ext (exW (exW (exW (exW E2 Wr3 g2) Wr4 g2) Wr5 g2) Wr6 g2)) ((D1 (Or.inr (wK K 37 rfl)) (ty := (.array .byte)) (by decide)).ext (exW (exW (exW (exW E2 Wr3 g2) Wr4 g2) Wr5 g2) Wr6 g2))) (fun y hy => by cases List.mem_singleton.mp hy; exact ⟨(A1.ext (exW (exW (exW (exW E2 Wr3 g2) Wr4 g2) Wr5 g2) Wr6 g2)).lt, (C6.safe (A1.ext (exW (exW (exW E2 Wr3 g2) Wr4 g2) Wr5 g2)).lt (C5.safe (A1.ext (exW (exW E2 Wr3 g2) Wr4 g2)).lt (C4.safe (A1.ext (exW E2 Wr3 g2)).lt (C3.safe (A1.ext E2).lt (C2.safe A1.lt S1)))))⟩) rfl (wK K 12 rfl) (wK K 13 rfl) (wK K 11 rfl) (wK K 14 rfl) (by decide) (na := 1) rfl (by decide +kernel) rfl (stk := [(.ref a2), (.ref a1), (.ref a1)]) rfl (by decide +kernel) (V := 1) (lb rfl) (lb rfl) (lb rfl) (lb rfl) (lb rfl)
  refine oLift st7 ?_
  show OG _ _ _ _ _ _ _ _ _ _ _ (mkF m 138 #[sR a, sI 4] [(.ref a1)])
  exact oRetA rfl W7 rfl rfl (by decide +kernel) (lb rfl) (lb rfl) (fun vm' hv => ⟨_, rfl, F7, (exK (exT E1 (exW (exW (exW (exW E2 Wr3 g2) Wr4 g2) Wr5 g2) Wr6 g2)) K7 (fun y hy => by cases List.mem_singleton.mp hy; exact g1))⟩)
abbrev rm_c_tk5 : Room := { frames := 4, cells := 6, slots := 18, locals := 66 }
set_option maxRecDepth 65536 in
set_option maxHeartbeats 40000000 in
theorem c_tk5 {l : Launch} {Z : State} {a0 : Array Value} (K : Ctx Z a0) {a : Addr} {ka : ClassId} {e0 e1 e2 e3 e4 : Int32} {rest : List Value} {h0 : Heap} (A : OA Z h0 a ka .char (Value.int e0 :: Value.int e1 :: Value.int e2 :: Value.int e3 :: Value.int e4 :: rest)) (p0 : ¬ e0 < 0 ∧ ¬ (255 : Int32) < e0) (p1 : ¬ e1 < 0 ∧ ¬ (255 : Int32) < e1) (p2 : ¬ e2 < 0 ∧ ¬ (255 : Int32) < e2) (p3 : ¬ e3 < 0 ∧ ¬ (255 : Int32) < e3) (p4 : ¬ e4 < 0 ∧ ¬ (255 : Int32) < e4) :
    OC l Z EL false [] (⟨"com/example/gentle_hub/gentlehub/server/ChannelLocationParsePinLaw", "take", "([CI)Ljava/lang/String;"⟩ : MethodName) method_3_code 2 (some (.object "java/lang/String")) rm_c_tk5 #[(.ref a), (.int 5)] h0 [] (fun v _ h => ∃ x, v = some (.ref x) ∧ Str Z h x [e0, e1, e2, e3, e4] ∧ Ext h0 h) := by
  have hw := K.1
  have hS : ∀ a ∈ Bundle.stringAtoms, a.before a0 Z = true := K.2.2.1
  refine oEnter (by decide +kernel) K.2.1.2.1 ?_
  intro _p _e _s m _below _meth _c T0 W0 S0
  refine oEq (g' := mkF m 0 #[.val (.ref a), .val (.int 5)] []) (by first | (simp [entryFrame, mkF, argsToLocals, Value.category]; done) | rfl) ?_
  refine oGo W0 [.iload_n 1] (by decide +kernel) (ls' := #[sR a, sI 5]) (st' := [(.int 5)]) rfl rfl (pc' := 1) rfl ?_
  refine oIfT W0 (cd := .ne) (o := 14) (by decide +kernel) (XT.i0_ne_t (by decide)) (pc' := 15) (by decide) (by decide) ?_
  refine oGo W0 [.iload_n 1, .iconst 1] (by decide +kernel) (ls' := #[sR a, sI 5]) (st' := [(.int 1), (.int 5)]) rfl rfl (pc' := 17) rfl ?_
  refine oIcT W0 (cd := .ne) (o := 20) (by decide +kernel) (XT.ii_ne_t (by decide)) (pc' := 37) (by decide) (by decide) ?_
  refine oGo W0 [.iload_n 1, .iconst 2] (by decide +kernel) (ls' := #[sR a, sI 5]) (st' := [(.int 2), (.int 5)]) rfl rfl (pc' := 39) rfl ?_
  refine oIcT W0 (cd := .ne) (o := 26) (by decide +kernel) (XT.ii_ne_t (by decide)) (pc' := 65) (by decide) (by decide) ?_
  refine oGo W0 [.iload_n 1, .iconst 3] (by decide +kernel) (ls' := #[sR a, sI 5]) (st' := [(.int 3), (.int 5)]) rfl rfl (pc' := 67) rfl ?_
  refine oIcT W0 (cd := .ne) (o := 32) (by decide +kernel) (XT.ii_ne_t (by decide)) (pc' := 99) (by decide) (by decide) ?_
  refine oGo W0 [.iload_n 1, .iconst 4] (by decide +kernel) (ls' := #[sR a, sI 5]) (st' := [(.int 4), (.int 5)]) rfl rfl (pc' := 101) rfl ?_
  refine oIcT W0 (cd := .ne) (o := 38) (by decide +kernel) (XT.ii_ne_t (by decide)) (pc' := 139) (by decide) (by decide) ?_
  refine oGo W0 [.iload_n 1, .iconst 5] (by decide +kernel) (ls' := #[sR a, sI 5]) (st' := [(.int 5), (.int 5)]) rfl rfl (pc' := 141) rfl ?_
  refine oIcF W0 (cd := .ne) (o := 44) (by decide +kernel) (XT.ii_ne_f (by decide)) (pc' := 144) rfl ?_
  obtain ⟨T1, h1, a1, W1, g1, E1, A1, D1, S1, C1, st1⟩ := oNew W0 (pc := 144) (ls := #[sR a, sI 5]) (st := []) (wK K 9 rfl) (wK K 10 rfl) (wK K 11 rfl) (by decide +kernel) (lb rfl) (lb rfl)
  refine oLift st1 ?_
  refine oGo W1 [.dup, .iconst 5] (by decide +kernel) (ls' := #[sR a, sI 5]) (st' := [(.int 5), (.ref a1), (.ref a1)]) rfl rfl (pc' := 149) rfl ?_
  obtain ⟨T2, h2, a2, k2, W2, g2, E2, A2, S2, C2, st2⟩ := oNewA W1 (aty := .char) (pc := 149) (ls := #[sR a, sI 5]) (st := [(.ref a1), (.ref a1)]) (wK K 0 rfl) (by decide +kernel) (n := (5 : Int32)) (by decide) (cap := 5) (lb rfl) (lb rfl) (lb rfl) (lb rfl)
  refine oLift st2 ?_
  have A2 : OA Z h2 a2 k2 .char [.int 0, .int 0, .int 0, .int 0, .int 0] := A2
  refine oGo W2 [.dup, .iconst 0, .aload_n 0, .iconst 0] (by decide +kernel) (ls' := #[sR a, sI 5]) (st' := [(.int 0), (.ref a), (.int 0), (.ref a2), (.ref a2), (.ref a1), (.ref a1)]) rfl rfl (pc' := 155) rfl ?_
  refine oGet W2 ((A.ext E1).ext E2) (v := (.int e0)) (by decide) rfl (Or.inl ⟨rfl, rfl⟩) (by decide +kernel) ?_
  obtain ⟨T3, h3, W3, Wr3, A3, C3, st3⟩ := oPut W2 A2 (j := (0 : Int32)) (x := e0) (x' := e0) (pc := 156) (ls := #[sR a, sI 5]) (st := [(.ref a2), (.ref a1), (.ref a1)]) (by decide) (i := 0) (by decide) (by simp) (Nat.le_trans W1.ext.1 g2) (A2.safe W2.warm.alike (by decide)) (ins := .castore) (Or.inl ⟨rfl, rfl, (narC p0)⟩) (by decide +kernel)
  refine oLift st3 ?_
  have A3 : OA Z h3 a2 k2 .char [.int e0, .int 0, .int 0, .int 0, .int 0] := A3
  refine oGo W3 [.dup, .iconst 1, .aload_n 0, .iconst 1] (by decide +kernel) (ls' := #[sR a, sI 5]) (st' := [(.int 1), (.ref a), (.int 1), (.ref a2), (.ref a2), (.ref a1), (.ref a1)]) rfl rfl (pc' := 161) rfl ?_
  refine oGet W3 ((A.ext E1).ext (exW E2 Wr3 g2)) (v := (.int e1)) (by decide) rfl (Or.inl ⟨rfl, rfl⟩) (by decide +kernel) ?_
  obtain ⟨T4, h4, W4, Wr4, A4, C4, st4⟩ := oPut W3 A3 (j := (1 : Int32)) (x := e1) (x' := e1) (pc := 162) (ls := #[sR a, sI 5]) (st := [(.ref a2), (.ref a1), (.ref a1)]) (by decide) (i := 1) (by decide) (by simp) (Nat.le_trans W1.ext.1 g2) (A3.safe W3.warm.alike (by decide)) (ins := .castore) (Or.inl ⟨rfl, rfl, (narC p1)⟩) (by decide +kernel)
  refine oLift st4 ?_
  have A4 : OA Z h4 a2 k2 .char [.int e0, .int e1, .int 0, .int 0, .int 0] := A4
  refine oGo W4 [.dup, .iconst 2, .aload_n 0, .iconst 2] (by decide +kernel) (ls' := #[sR a, sI 5]) (st' := [(.int 2), (.ref a), (.int 2), (.ref a2), (.ref a2), (.ref a1), (.ref a1)]) rfl rfl (pc' := 167) rfl ?_
  refine oGet W4 ((A.ext E1).ext (exW (exW E2 Wr3 g2) Wr4 g2)) (v := (.int e2)) (by decide) rfl (Or.inl ⟨rfl, rfl⟩) (by decide +kernel) ?_
  obtain ⟨T5, h5, W5, Wr5, A5, C5, st5⟩ := oPut W4 A4 (j := (2 : Int32)) (x := e2) (x' := e2) (pc := 168) (ls := #[sR a, sI 5]) (st := [(.ref a2), (.ref a1), (.ref a1)]) (by decide) (i := 2) (by decide) (by simp) (Nat.le_trans W1.ext.1 g2) (A4.safe W4.warm.alike (by decide)) (ins := .castore) (Or.inl ⟨rfl, rfl, (narC p2)⟩) (by decide +kernel)
  refine oLift st5 ?_
  have A5 : OA Z h5 a2 k2 .char [.int e0, .int e1, .int e2, .int 0, .int 0] := A5
  refine oGo W5 [.dup, .iconst 3, .aload_n 0, .iconst 3] (by decide +kernel) (ls' := #[sR a, sI 5]) (st' := [(.int 3), (.ref a), (.int 3), (.ref a2), (.ref a2), (.ref a1), (.ref a1)]) rfl rfl (pc' := 173) rfl ?_
  refine oGet W5 ((A.ext E1).ext (exW (exW (exW E2 Wr3 g2) Wr4 g2) Wr5 g2)) (v := (.int e3)) (by decide) rfl (Or.inl ⟨rfl, rfl⟩) (by decide +kernel) ?_
  obtain ⟨T6, h6, W6, Wr6, A6, C6, st6⟩ := oPut W5 A5 (j := (3 : Int32)) (x := e3) (x' := e3) (pc := 174) (ls := #[sR a, sI 5]) (st := [(.ref a2), (.ref a1), (.ref a1)]) (by decide) (i := 3) (by decide) (by simp) (Nat.le_trans W1.ext.1 g2) (A5.safe W5.warm.alike (by decide)) (ins := .castore) (Or.inl ⟨rfl, rfl, (narC p3)⟩) (by decide +kernel)
  refine oLift st6 ?_
  have A6 : OA Z h6 a2 k2 .char [.int e0, .int e1, .int e2, .int e3, .int 0] := A6
  refine oGo W6 [.dup, .iconst 4, .aload_n 0, .iconst 4] (by decide +kernel) (ls' := #[sR a, sI 5]) (st' := [(.int 4), (.ref a), (.int 4), (.ref a2), (.ref a2), (.ref a1), (.ref a1)]) rfl rfl (pc' := 179) rfl ?_
  refine oGet W6 ((A.ext E1).ext (exW (exW (exW (exW E2 Wr3 g2) Wr4 g2) Wr5 g2) Wr6 g2)) (v := (.int e4)) (by decide) rfl (Or.inl ⟨rfl, rfl⟩) (by decide +kernel) ?_
  obtain ⟨T7, h7, W7, Wr7, A7, C7, st7⟩ := oPut W6 A6 (j := (4 : Int32)) (x := e4) (x' := e4) (pc := 180) (ls := #[sR a, sI 5]) (st := [(.ref a2), (.ref a1), (.ref a1)]) (by decide) (i := 4) (by decide) (by simp) (Nat.le_trans W1.ext.1 g2) (A6.safe W6.warm.alike (by decide)) (ins := .castore) (Or.inl ⟨rfl, rfl, (narC p4)⟩) (by decide +kernel)
  refine oLift st7 ?_
  have A7 : OA Z h7 a2 k2 .char [.int e0, .int e1, .int e2, .int e3, .int e4] := A7
  obtain ⟨v8, T8, L8, h8, vm8, W8, ⟨rfl, K8, F8⟩, C8, st8⟩ := oCallN W7 (idx := 16) (pc := 181) (ls := #[sR a, sI 5]) (st := [(.ref a1)]) (a := a1) (argsL := [(.ref a2)]) (k_I1 K.2.1 [e0, e1, e2, e3, e4] (lb rfl) (lb rfl) A7 (own_cons p0 (own_cons p1 (own_cons p2 (own_cons p3 (own_cons p4 own_nil))))) (Nat.le_trans W0.ext.1 g1) (A1.ext (exW (exW (exW (exW (exW E2 Wr3 g2) Wr4 g2) Wr5 g2) Wr6 g2) Wr7 g2)) ((D1 (Or.inr (wK K 35 rfl)) (ty := .byte) (by decide)).ext (exW (exW (exW (exW (exW E2 Wr3 g2) Wr4 g2) Wr5 g2) Wr6 g2) Wr7 g2)) ((D1 (Or.inr (wK K 37 rfl)) (ty := (.array .byte)) (by decide)).ext (exW (exW (exW (exW (exW E2 Wr3 g2) Wr4 g2) Wr5 g2) Wr6 g2) Wr7 g2))) (fun y hy => by cases List.mem_singleton.mp hy; exact ⟨(A1.ext (exW (exW (exW (exW (exW E2 Wr3 g2) Wr4 g2) Wr5 g2) Wr6 g2) Wr7 g2)).lt, (C7.safe (A1.ext (exW (exW (exW (exW E2 Wr3 g2) Wr4 g2) Wr5 g2) Wr6 g2)).lt (C6.safe (A1.ext (exW (exW (exW E2 Wr3 g2) Wr4 g2) Wr5 g2)).lt (C5.safe (A1.ext (exW (exW E2 Wr3 g2) Wr4 g2)).lt (C4.safe (A1.ext (exW E2 Wr3 g2)).lt (C3.safe (A1.ext E2).lt (C2.safe A1.lt S1))))))⟩) rfl (wK K 12 rfl) (wK K 13 rfl) (wK K 11 rfl) (wK K 14 rfl) (by decide) (na := 1) rfl (by decide +kernel) rfl (stk := [(.ref a2), (.ref a1), (.ref a1)]) rfl (by decide +kernel) (V := 1) (lb rfl) (lb rfl) (lb rfl) (lb rfl) (lb rfl)
  refine oLift st8 ?_
  show OG _ _ _ _ _ _ _ _ _ _ _ (mkF m 184 #[sR a, sI 5] [(.ref a1)])
  exact oRetA rfl W8 rfl rfl (by decide +kernel) (lb rfl) (lb rfl) (fun vm' hv => ⟨_, rfl, F8, (exK (exT E1 (exW (exW (exW (exW (exW E2 Wr3 g2) Wr4 g2) Wr5 g2) Wr6 g2) Wr7 g2)) K8 (fun y hy => by cases List.mem_singleton.mp hy; exact g1))⟩)
abbrev rm_c_tk6 : Room := { frames := 4, cells := 6, slots := 18, locals := 66 }
set_option maxRecDepth 65536 in
set_option maxHeartbeats 40000000 in
theorem c_tk6 {l : Launch} {Z : State} {a0 : Array Value} (K : Ctx Z a0) {a : Addr} {ka : ClassId} {e0 e1 e2 e3 e4 e5 : Int32} {rest : List Value} {h0 : Heap} (A : OA Z h0 a ka .char (Value.int e0 :: Value.int e1 :: Value.int e2 :: Value.int e3 :: Value.int e4 :: Value.int e5 :: rest)) (p0 : ¬ e0 < 0 ∧ ¬ (255 : Int32) < e0) (p1 : ¬ e1 < 0 ∧ ¬ (255 : Int32) < e1) (p2 : ¬ e2 < 0 ∧ ¬ (255 : Int32) < e2) (p3 : ¬ e3 < 0 ∧ ¬ (255 : Int32) < e3) (p4 : ¬ e4 < 0 ∧ ¬ (255 : Int32) < e4) (p5 : ¬ e5 < 0 ∧ ¬ (255 : Int32) < e5) :
    OC l Z EL false [] (⟨"com/example/gentle_hub/gentlehub/server/ChannelLocationParsePinLaw", "take", "([CI)Ljava/lang/String;"⟩ : MethodName) method_3_code 2 (some (.object "java/lang/String")) rm_c_tk6 #[(.ref a), (.int 6)] h0 [] (fun v _ h => ∃ x, v = some (.ref x) ∧ Str Z h x [e0, e1, e2, e3, e4, e5] ∧ Ext h0 h) := by
  have hw := K.1
  have hS : ∀ a ∈ Bundle.stringAtoms, a.before a0 Z = true := K.2.2.1
  refine oEnter (by decide +kernel) K.2.1.2.1 ?_
  intro _p _e _s m _below _meth _c T0 W0 S0
  refine oEq (g' := mkF m 0 #[.val (.ref a), .val (.int 6)] []) (by first | (simp [entryFrame, mkF, argsToLocals, Value.category]; done) | rfl) ?_
  refine oGo W0 [.iload_n 1] (by decide +kernel) (ls' := #[sR a, sI 6]) (st' := [(.int 6)]) rfl rfl (pc' := 1) rfl ?_
  refine oIfT W0 (cd := .ne) (o := 14) (by decide +kernel) (XT.i0_ne_t (by decide)) (pc' := 15) (by decide) (by decide) ?_
  refine oGo W0 [.iload_n 1, .iconst 1] (by decide +kernel) (ls' := #[sR a, sI 6]) (st' := [(.int 1), (.int 6)]) rfl rfl (pc' := 17) rfl ?_
  refine oIcT W0 (cd := .ne) (o := 20) (by decide +kernel) (XT.ii_ne_t (by decide)) (pc' := 37) (by decide) (by decide) ?_
  refine oGo W0 [.iload_n 1, .iconst 2] (by decide +kernel) (ls' := #[sR a, sI 6]) (st' := [(.int 2), (.int 6)]) rfl rfl (pc' := 39) rfl ?_
  refine oIcT W0 (cd := .ne) (o := 26) (by decide +kernel) (XT.ii_ne_t (by decide)) (pc' := 65) (by decide) (by decide) ?_
  refine oGo W0 [.iload_n 1, .iconst 3] (by decide +kernel) (ls' := #[sR a, sI 6]) (st' := [(.int 3), (.int 6)]) rfl rfl (pc' := 67) rfl ?_
  refine oIcT W0 (cd := .ne) (o := 32) (by decide +kernel) (XT.ii_ne_t (by decide)) (pc' := 99) (by decide) (by decide) ?_
  refine oGo W0 [.iload_n 1, .iconst 4] (by decide +kernel) (ls' := #[sR a, sI 6]) (st' := [(.int 4), (.int 6)]) rfl rfl (pc' := 101) rfl ?_
  refine oIcT W0 (cd := .ne) (o := 38) (by decide +kernel) (XT.ii_ne_t (by decide)) (pc' := 139) (by decide) (by decide) ?_
  refine oGo W0 [.iload_n 1, .iconst 5] (by decide +kernel) (ls' := #[sR a, sI 6]) (st' := [(.int 5), (.int 6)]) rfl rfl (pc' := 141) rfl ?_
  refine oIcT W0 (cd := .ne) (o := 44) (by decide +kernel) (XT.ii_ne_t (by decide)) (pc' := 185) (by decide) (by decide) ?_
  refine oGo W0 [.iload_n 1, .bipush 6] (by decide +kernel) (ls' := #[sR a, sI 6]) (st' := [(.int 6), (.int 6)]) rfl rfl (pc' := 188) rfl ?_
  refine oIcF W0 (cd := .ne) (o := 51) (by decide +kernel) (XT.ii_ne_f (by decide)) (pc' := 191) rfl ?_
  obtain ⟨T1, h1, a1, W1, g1, E1, A1, D1, S1, C1, st1⟩ := oNew W0 (pc := 191) (ls := #[sR a, sI 6]) (st := []) (wK K 9 rfl) (wK K 10 rfl) (wK K 11 rfl) (by decide +kernel) (lb rfl) (lb rfl)
  refine oLift st1 ?_
  refine oGo W1 [.dup, .bipush 6] (by decide +kernel) (ls' := #[sR a, sI 6]) (st' := [(.int 6), (.ref a1), (.ref a1)]) rfl rfl (pc' := 197) rfl ?_
  obtain ⟨T2, h2, a2, k2, W2, g2, E2, A2, S2, C2, st2⟩ := oNewA W1 (aty := .char) (pc := 197) (ls := #[sR a, sI 6]) (st := [(.ref a1), (.ref a1)]) (wK K 0 rfl) (by decide +kernel) (n := (6 : Int32)) (by decide) (cap := 6) (lb rfl) (lb rfl) (lb rfl) (lb rfl)
  refine oLift st2 ?_
  have A2 : OA Z h2 a2 k2 .char [.int 0, .int 0, .int 0, .int 0, .int 0, .int 0] := A2
  refine oGo W2 [.dup, .iconst 0, .aload_n 0, .iconst 0] (by decide +kernel) (ls' := #[sR a, sI 6]) (st' := [(.int 0), (.ref a), (.int 0), (.ref a2), (.ref a2), (.ref a1), (.ref a1)]) rfl rfl (pc' := 203) rfl ?_
  refine oGet W2 ((A.ext E1).ext E2) (v := (.int e0)) (by decide) rfl (Or.inl ⟨rfl, rfl⟩) (by decide +kernel) ?_
  obtain ⟨T3, h3, W3, Wr3, A3, C3, st3⟩ := oPut W2 A2 (j := (0 : Int32)) (x := e0) (x' := e0) (pc := 204) (ls := #[sR a, sI 6]) (st := [(.ref a2), (.ref a1), (.ref a1)]) (by decide) (i := 0) (by decide) (by simp) (Nat.le_trans W1.ext.1 g2) (A2.safe W2.warm.alike (by decide)) (ins := .castore) (Or.inl ⟨rfl, rfl, (narC p0)⟩) (by decide +kernel)
  refine oLift st3 ?_
  have A3 : OA Z h3 a2 k2 .char [.int e0, .int 0, .int 0, .int 0, .int 0, .int 0] := A3
  refine oGo W3 [.dup, .iconst 1, .aload_n 0, .iconst 1] (by decide +kernel) (ls' := #[sR a, sI 6]) (st' := [(.int 1), (.ref a), (.int 1), (.ref a2), (.ref a2), (.ref a1), (.ref a1)]) rfl rfl (pc' := 209) rfl ?_
  refine oGet W3 ((A.ext E1).ext (exW E2 Wr3 g2)) (v := (.int e1)) (by decide) rfl (Or.inl ⟨rfl, rfl⟩) (by decide +kernel) ?_
  obtain ⟨T4, h4, W4, Wr4, A4, C4, st4⟩ := oPut W3 A3 (j := (1 : Int32)) (x := e1) (x' := e1) (pc := 210) (ls := #[sR a, sI 6]) (st := [(.ref a2), (.ref a1), (.ref a1)]) (by decide) (i := 1) (by decide) (by simp) (Nat.le_trans W1.ext.1 g2) (A3.safe W3.warm.alike (by decide)) (ins := .castore) (Or.inl ⟨rfl, rfl, (narC p1)⟩) (by decide +kernel)
  refine oLift st4 ?_
  have A4 : OA Z h4 a2 k2 .char [.int e0, .int e1, .int 0, .int 0, .int 0, .int 0] := A4
  refine oGo W4 [.dup, .iconst 2, .aload_n 0, .iconst 2] (by decide +kernel) (ls' := #[sR a, sI 6]) (st' := [(.int 2), (.ref a), (.int 2), (.ref a2), (.ref a2), (.ref a1), (.ref a1)]) rfl rfl (pc' := 215) rfl ?_
  refine oGet W4 ((A.ext E1).ext (exW (exW E2 Wr3 g2) Wr4 g2)) (v := (.int e2)) (by decide) rfl (Or.inl ⟨rfl, rfl⟩) (by decide +kernel) ?_
  obtain ⟨T5, h5, W5, Wr5, A5, C5, st5⟩ := oPut W4 A4 (j := (2 : Int32)) (x := e2) (x' := e2) (pc := 216) (ls := #[sR a, sI 6]) (st := [(.ref a2), (.ref a1), (.ref a1)]) (by decide) (i := 2) (by decide) (by simp) (Nat.le_trans W1.ext.1 g2) (A4.safe W4.warm.alike (by decide)) (ins := .castore) (Or.inl ⟨rfl, rfl, (narC p2)⟩) (by decide +kernel)
  refine oLift st5 ?_
  have A5 : OA Z h5 a2 k2 .char [.int e0, .int e1, .int e2, .int 0, .int 0, .int 0] := A5
  refine oGo W5 [.dup, .iconst 3, .aload_n 0, .iconst 3] (by decide +kernel) (ls' := #[sR a, sI 6]) (st' := [(.int 3), (.ref a), (.int 3), (.ref a2), (.ref a2), (.ref a1), (.ref a1)]) rfl rfl (pc' := 221) rfl ?_
  refine oGet W5 ((A.ext E1).ext (exW (exW (exW E2 Wr3 g2) Wr4 g2) Wr5 g2)) (v := (.int e3)) (by decide) rfl (Or.inl ⟨rfl, rfl⟩) (by decide +kernel) ?_
  obtain ⟨T6, h6, W6, Wr6, A6, C6, st6⟩ := oPut W5 A5 (j := (3 : Int32)) (x := e3) (x' := e3) (pc := 222) (ls := #[sR a, sI 6]) (st := [(.ref a2), (.ref a1), (.ref a1)]) (by decide) (i := 3) (by decide) (by simp) (Nat.le_trans W1.ext.1 g2) (A5.safe W5.warm.alike (by decide)) (ins := .castore) (Or.inl ⟨rfl, rfl, (narC p3)⟩) (by decide +kernel)
  refine oLift st6 ?_
  have A6 : OA Z h6 a2 k2 .char [.int e0, .int e1, .int e2, .int e3, .int 0, .int 0] := A6
  refine oGo W6 [.dup, .iconst 4, .aload_n 0, .iconst 4] (by decide +kernel) (ls' := #[sR a, sI 6]) (st' := [(.int 4), (.ref a), (.int 4), (.ref a2), (.ref a2), (.ref a1), (.ref a1)]) rfl rfl (pc' := 227) rfl ?_
  refine oGet W6 ((A.ext E1).ext (exW (exW (exW (exW E2 Wr3 g2) Wr4 g2) Wr5 g2) Wr6 g2)) (v := (.int e4)) (by decide) rfl (Or.inl ⟨rfl, rfl⟩) (by decide +kernel) ?_
  obtain ⟨T7, h7, W7, Wr7, A7, C7, st7⟩ := oPut W6 A6 (j := (4 : Int32)) (x := e4) (x' := e4) (pc := 228) (ls := #[sR a, sI 6]) (st := [(.ref a2), (.ref a1), (.ref a1)]) (by decide) (i := 4) (by decide) (by simp) (Nat.le_trans W1.ext.1 g2) (A6.safe W6.warm.alike (by decide)) (ins := .castore) (Or.inl ⟨rfl, rfl, (narC p4)⟩) (by decide +kernel)
  refine oLift st7 ?_
  have A7 : OA Z h7 a2 k2 .char [.int e0, .int e1, .int e2, .int e3, .int e4, .int 0] := A7
  refine oGo W7 [.dup, .iconst 5, .aload_n 0, .iconst 5] (by decide +kernel) (ls' := #[sR a, sI 6]) (st' := [(.int 5), (.ref a), (.int 5), (.ref a2), (.ref a2), (.ref a1), (.ref a1)]) rfl rfl (pc' := 233) rfl ?_
  refine oGet W7 ((A.ext E1).ext (exW (exW (exW (exW (exW E2 Wr3 g2) Wr4 g2) Wr5 g2) Wr6 g2) Wr7 g2)) (v := (.int e5)) (by decide) rfl (Or.inl ⟨rfl, rfl⟩) (by decide +kernel) ?_
  obtain ⟨T8, h8, W8, Wr8, A8, C8, st8⟩ := oPut W7 A7 (j := (5 : Int32)) (x := e5) (x' := e5) (pc := 234) (ls := #[sR a, sI 6]) (st := [(.ref a2), (.ref a1), (.ref a1)]) (by decide) (i := 5) (by decide) (by simp) (Nat.le_trans W1.ext.1 g2) (A7.safe W7.warm.alike (by decide)) (ins := .castore) (Or.inl ⟨rfl, rfl, (narC p5)⟩) (by decide +kernel)
  refine oLift st8 ?_
  have A8 : OA Z h8 a2 k2 .char [.int e0, .int e1, .int e2, .int e3, .int e4, .int e5] := A8
  obtain ⟨v9, T9, L9, h9, vm9, W9, ⟨rfl, K9, F9⟩, C9, st9⟩ := oCallN W8 (idx := 16) (pc := 235) (ls := #[sR a, sI 6]) (st := [(.ref a1)]) (a := a1) (argsL := [(.ref a2)]) (k_I1 K.2.1 [e0, e1, e2, e3, e4, e5] (lb rfl) (lb rfl) A8 (own_cons p0 (own_cons p1 (own_cons p2 (own_cons p3 (own_cons p4 (own_cons p5 own_nil)))))) (Nat.le_trans W0.ext.1 g1) (A1.ext (exW (exW (exW (exW (exW (exW E2 Wr3 g2) Wr4 g2) Wr5 g2) Wr6 g2) Wr7 g2) Wr8 g2)) ((D1 (Or.inr (wK K 35 rfl)) (ty := .byte) (by decide)).ext (exW (exW (exW (exW (exW (exW E2 Wr3 g2) Wr4 g2) Wr5 g2) Wr6 g2) Wr7 g2) Wr8 g2)) ((D1 (Or.inr (wK K 37 rfl)) (ty := (.array .byte)) (by decide)).ext (exW (exW (exW (exW (exW (exW E2 Wr3 g2) Wr4 g2) Wr5 g2) Wr6 g2) Wr7 g2) Wr8 g2))) (fun y hy => by cases List.mem_singleton.mp hy; exact ⟨(A1.ext (exW (exW (exW (exW (exW (exW E2 Wr3 g2) Wr4 g2) Wr5 g2) Wr6 g2) Wr7 g2) Wr8 g2)).lt, (C8.safe (A1.ext (exW (exW (exW (exW (exW E2 Wr3 g2) Wr4 g2) Wr5 g2) Wr6 g2) Wr7 g2)).lt (C7.safe (A1.ext (exW (exW (exW (exW E2 Wr3 g2) Wr4 g2) Wr5 g2) Wr6 g2)).lt (C6.safe (A1.ext (exW (exW (exW E2 Wr3 g2) Wr4 g2) Wr5 g2)).lt (C5.safe (A1.ext (exW (exW E2 Wr3 g2) Wr4 g2)).lt (C4.safe (A1.ext (exW E2 Wr3 g2)).lt (C3.safe (A1.ext E2).lt (C2.safe A1.lt S1)))))))⟩) rfl (wK K 12 rfl) (wK K 13 rfl) (wK K 11 rfl) (wK K 14 rfl) (by decide) (na := 1) rfl (by decide +kernel) rfl (stk := [(.ref a2), (.ref a1), (.ref a1)]) rfl (by decide +kernel) (V := 1) (lb rfl) (lb rfl) (lb rfl) (lb rfl) (lb rfl)
  refine oLift st9 ?_
  show OG _ _ _ _ _ _ _ _ _ _ _ (mkF m 238 #[sR a, sI 6] [(.ref a1)])
  exact oRetA rfl W9 rfl rfl (by decide +kernel) (lb rfl) (lb rfl) (fun vm' hv => ⟨_, rfl, F9, (exK (exT E1 (exW (exW (exW (exW (exW (exW E2 Wr3 g2) Wr4 g2) Wr5 g2) Wr6 g2) Wr7 g2) Wr8 g2)) K9 (fun y hy => by cases List.mem_singleton.mp hy; exact g1))⟩)
abbrev rm_c_tk7 : Room := { frames := 4, cells := 6, slots := 18, locals := 66 }
set_option maxRecDepth 65536 in
set_option maxHeartbeats 40000000 in
theorem c_tk7 {l : Launch} {Z : State} {a0 : Array Value} (K : Ctx Z a0) {a : Addr} {ka : ClassId} {e0 e1 e2 e3 e4 e5 e6 : Int32} {rest : List Value} {h0 : Heap} (A : OA Z h0 a ka .char (Value.int e0 :: Value.int e1 :: Value.int e2 :: Value.int e3 :: Value.int e4 :: Value.int e5 :: Value.int e6 :: rest)) (p0 : ¬ e0 < 0 ∧ ¬ (255 : Int32) < e0) (p1 : ¬ e1 < 0 ∧ ¬ (255 : Int32) < e1) (p2 : ¬ e2 < 0 ∧ ¬ (255 : Int32) < e2) (p3 : ¬ e3 < 0 ∧ ¬ (255 : Int32) < e3) (p4 : ¬ e4 < 0 ∧ ¬ (255 : Int32) < e4) (p5 : ¬ e5 < 0 ∧ ¬ (255 : Int32) < e5) (p6 : ¬ e6 < 0 ∧ ¬ (255 : Int32) < e6) :
    OC l Z EL false [] (⟨"com/example/gentle_hub/gentlehub/server/ChannelLocationParsePinLaw", "take", "([CI)Ljava/lang/String;"⟩ : MethodName) method_3_code 2 (some (.object "java/lang/String")) rm_c_tk7 #[(.ref a), (.int 7)] h0 [] (fun v _ h => ∃ x, v = some (.ref x) ∧ Str Z h x [e0, e1, e2, e3, e4, e5, e6] ∧ Ext h0 h) := by
  have hw := K.1
  have hS : ∀ a ∈ Bundle.stringAtoms, a.before a0 Z = true := K.2.2.1
  refine oEnter (by decide +kernel) K.2.1.2.1 ?_
  intro _p _e _s m _below _meth _c T0 W0 S0
  refine oEq (g' := mkF m 0 #[.val (.ref a), .val (.int 7)] []) (by first | (simp [entryFrame, mkF, argsToLocals, Value.category]; done) | rfl) ?_
  refine oGo W0 [.iload_n 1] (by decide +kernel) (ls' := #[sR a, sI 7]) (st' := [(.int 7)]) rfl rfl (pc' := 1) rfl ?_
  refine oIfT W0 (cd := .ne) (o := 14) (by decide +kernel) (XT.i0_ne_t (by decide)) (pc' := 15) (by decide) (by decide) ?_
  refine oGo W0 [.iload_n 1, .iconst 1] (by decide +kernel) (ls' := #[sR a, sI 7]) (st' := [(.int 1), (.int 7)]) rfl rfl (pc' := 17) rfl ?_
  refine oIcT W0 (cd := .ne) (o := 20) (by decide +kernel) (XT.ii_ne_t (by decide)) (pc' := 37) (by decide) (by decide) ?_
  refine oGo W0 [.iload_n 1, .iconst 2] (by decide +kernel) (ls' := #[sR a, sI 7]) (st' := [(.int 2), (.int 7)]) rfl rfl (pc' := 39) rfl ?_
  refine oIcT W0 (cd := .ne) (o := 26) (by decide +kernel) (XT.ii_ne_t (by decide)) (pc' := 65) (by decide) (by decide) ?_
  refine oGo W0 [.iload_n 1, .iconst 3] (by decide +kernel) (ls' := #[sR a, sI 7]) (st' := [(.int 3), (.int 7)]) rfl rfl (pc' := 67) rfl ?_
  refine oIcT W0 (cd := .ne) (o := 32) (by decide +kernel) (XT.ii_ne_t (by decide)) (pc' := 99) (by decide) (by decide) ?_
  refine oGo W0 [.iload_n 1, .iconst 4] (by decide +kernel) (ls' := #[sR a, sI 7]) (st' := [(.int 4), (.int 7)]) rfl rfl (pc' := 101) rfl ?_
  refine oIcT W0 (cd := .ne) (o := 38) (by decide +kernel) (XT.ii_ne_t (by decide)) (pc' := 139) (by decide) (by decide) ?_
  refine oGo W0 [.iload_n 1, .iconst 5] (by decide +kernel) (ls' := #[sR a, sI 7]) (st' := [(.int 5), (.int 7)]) rfl rfl (pc' := 141) rfl ?_
  refine oIcT W0 (cd := .ne) (o := 44) (by decide +kernel) (XT.ii_ne_t (by decide)) (pc' := 185) (by decide) (by decide) ?_
  refine oGo W0 [.iload_n 1, .bipush 6] (by decide +kernel) (ls' := #[sR a, sI 7]) (st' := [(.int 6), (.int 7)]) rfl rfl (pc' := 188) rfl ?_
  refine oIcT W0 (cd := .ne) (o := 51) (by decide +kernel) (XT.ii_ne_t (by decide)) (pc' := 239) (by decide) (by decide) ?_
  refine oGo W0 [.iload_n 1, .bipush 7] (by decide +kernel) (ls' := #[sR a, sI 7]) (st' := [(.int 7), (.int 7)]) rfl rfl (pc' := 242) rfl ?_
  refine oIcF W0 (cd := .ne) (o := 59) (by decide +kernel) (XT.ii_ne_f (by decide)) (pc' := 245) rfl ?_
  obtain ⟨T1, h1, a1, W1, g1, E1, A1, D1, S1, C1, st1⟩ := oNew W0 (pc := 245) (ls := #[sR a, sI 7]) (st := []) (wK K 9 rfl) (wK K 10 rfl) (wK K 11 rfl) (by decide +kernel) (lb rfl) (lb rfl)
  refine oLift st1 ?_
  refine oGo W1 [.dup, .bipush 7] (by decide +kernel) (ls' := #[sR a, sI 7]) (st' := [(.int 7), (.ref a1), (.ref a1)]) rfl rfl (pc' := 251) rfl ?_
  obtain ⟨T2, h2, a2, k2, W2, g2, E2, A2, S2, C2, st2⟩ := oNewA W1 (aty := .char) (pc := 251) (ls := #[sR a, sI 7]) (st := [(.ref a1), (.ref a1)]) (wK K 0 rfl) (by decide +kernel) (n := (7 : Int32)) (by decide) (cap := 7) (lb rfl) (lb rfl) (lb rfl) (lb rfl)
  refine oLift st2 ?_
  have A2 : OA Z h2 a2 k2 .char [.int 0, .int 0, .int 0, .int 0, .int 0, .int 0, .int 0] := A2
  refine oGo W2 [.dup, .iconst 0, .aload_n 0, .iconst 0] (by decide +kernel) (ls' := #[sR a, sI 7]) (st' := [(.int 0), (.ref a), (.int 0), (.ref a2), (.ref a2), (.ref a1), (.ref a1)]) rfl rfl (pc' := 257) rfl ?_
  refine oGet W2 ((A.ext E1).ext E2) (v := (.int e0)) (by decide) rfl (Or.inl ⟨rfl, rfl⟩) (by decide +kernel) ?_
  obtain ⟨T3, h3, W3, Wr3, A3, C3, st3⟩ := oPut W2 A2 (j := (0 : Int32)) (x := e0) (x' := e0) (pc := 258) (ls := #[sR a, sI 7]) (st := [(.ref a2), (.ref a1), (.ref a1)]) (by decide) (i := 0) (by decide) (by simp) (Nat.le_trans W1.ext.1 g2) (A2.safe W2.warm.alike (by decide)) (ins := .castore) (Or.inl ⟨rfl, rfl, (narC p0)⟩) (by decide +kernel)
  refine oLift st3 ?_
  have A3 : OA Z h3 a2 k2 .char [.int e0, .int 0, .int 0, .int 0, .int 0, .int 0, .int 0] := A3
  refine oGo W3 [.dup, .iconst 1, .aload_n 0, .iconst 1] (by decide +kernel) (ls' := #[sR a, sI 7]) (st' := [(.int 1), (.ref a), (.int 1), (.ref a2), (.ref a2), (.ref a1), (.ref a1)]) rfl rfl (pc' := 263) rfl ?_
  refine oGet W3 ((A.ext E1).ext (exW E2 Wr3 g2)) (v := (.int e1)) (by decide) rfl (Or.inl ⟨rfl, rfl⟩) (by decide +kernel) ?_
  obtain ⟨T4, h4, W4, Wr4, A4, C4, st4⟩ := oPut W3 A3 (j := (1 : Int32)) (x := e1) (x' := e1) (pc := 264) (ls := #[sR a, sI 7]) (st := [(.ref a2), (.ref a1), (.ref a1)]) (by decide) (i := 1) (by decide) (by simp) (Nat.le_trans W1.ext.1 g2) (A3.safe W3.warm.alike (by decide)) (ins := .castore) (Or.inl ⟨rfl, rfl, (narC p1)⟩) (by decide +kernel)
  refine oLift st4 ?_
  have A4 : OA Z h4 a2 k2 .char [.int e0, .int e1, .int 0, .int 0, .int 0, .int 0, .int 0] := A4
  refine oGo W4 [.dup, .iconst 2, .aload_n 0, .iconst 2] (by decide +kernel) (ls' := #[sR a, sI 7]) (st' := [(.int 2), (.ref a), (.int 2), (.ref a2), (.ref a2), (.ref a1), (.ref a1)]) rfl rfl (pc' := 269) rfl ?_
  refine oGet W4 ((A.ext E1).ext (exW (exW E2 Wr3 g2) Wr4 g2)) (v := (.int e2)) (by decide) rfl (Or.inl ⟨rfl, rfl⟩) (by decide +kernel) ?_
  obtain ⟨T5, h5, W5, Wr5, A5, C5, st5⟩ := oPut W4 A4 (j := (2 : Int32)) (x := e2) (x' := e2) (pc := 270) (ls := #[sR a, sI 7]) (st := [(.ref a2), (.ref a1), (.ref a1)]) (by decide) (i := 2) (by decide) (by simp) (Nat.le_trans W1.ext.1 g2) (A4.safe W4.warm.alike (by decide)) (ins := .castore) (Or.inl ⟨rfl, rfl, (narC p2)⟩) (by decide +kernel)
  refine oLift st5 ?_
  have A5 : OA Z h5 a2 k2 .char [.int e0, .int e1, .int e2, .int 0, .int 0, .int 0, .int 0] := A5
  refine oGo W5 [.dup, .iconst 3, .aload_n 0, .iconst 3] (by decide +kernel) (ls' := #[sR a, sI 7]) (st' := [(.int 3), (.ref a), (.int 3), (.ref a2), (.ref a2), (.ref a1), (.ref a1)]) rfl rfl (pc' := 275) rfl ?_
  refine oGet W5 ((A.ext E1).ext (exW (exW (exW E2 Wr3 g2) Wr4 g2) Wr5 g2)) (v := (.int e3)) (by decide) rfl (Or.inl ⟨rfl, rfl⟩) (by decide +kernel) ?_
  obtain ⟨T6, h6, W6, Wr6, A6, C6, st6⟩ := oPut W5 A5 (j := (3 : Int32)) (x := e3) (x' := e3) (pc := 276) (ls := #[sR a, sI 7]) (st := [(.ref a2), (.ref a1), (.ref a1)]) (by decide) (i := 3) (by decide) (by simp) (Nat.le_trans W1.ext.1 g2) (A5.safe W5.warm.alike (by decide)) (ins := .castore) (Or.inl ⟨rfl, rfl, (narC p3)⟩) (by decide +kernel)
  refine oLift st6 ?_
  have A6 : OA Z h6 a2 k2 .char [.int e0, .int e1, .int e2, .int e3, .int 0, .int 0, .int 0] := A6
  refine oGo W6 [.dup, .iconst 4, .aload_n 0, .iconst 4] (by decide +kernel) (ls' := #[sR a, sI 7]) (st' := [(.int 4), (.ref a), (.int 4), (.ref a2), (.ref a2), (.ref a1), (.ref a1)]) rfl rfl (pc' := 281) rfl ?_
  refine oGet W6 ((A.ext E1).ext (exW (exW (exW (exW E2 Wr3 g2) Wr4 g2) Wr5 g2) Wr6 g2)) (v := (.int e4)) (by decide) rfl (Or.inl ⟨rfl, rfl⟩) (by decide +kernel) ?_
  obtain ⟨T7, h7, W7, Wr7, A7, C7, st7⟩ := oPut W6 A6 (j := (4 : Int32)) (x := e4) (x' := e4) (pc := 282) (ls := #[sR a, sI 7]) (st := [(.ref a2), (.ref a1), (.ref a1)]) (by decide) (i := 4) (by decide) (by simp) (Nat.le_trans W1.ext.1 g2) (A6.safe W6.warm.alike (by decide)) (ins := .castore) (Or.inl ⟨rfl, rfl, (narC p4)⟩) (by decide +kernel)
  refine oLift st7 ?_
  have A7 : OA Z h7 a2 k2 .char [.int e0, .int e1, .int e2, .int e3, .int e4, .int 0, .int 0] := A7
  refine oGo W7 [.dup, .iconst 5, .aload_n 0, .iconst 5] (by decide +kernel) (ls' := #[sR a, sI 7]) (st' := [(.int 5), (.ref a), (.int 5), (.ref a2), (.ref a2), (.ref a1), (.ref a1)]) rfl rfl (pc' := 287) rfl ?_
  refine oGet W7 ((A.ext E1).ext (exW (exW (exW (exW (exW E2 Wr3 g2) Wr4 g2) Wr5 g2) Wr6 g2) Wr7 g2)) (v := (.int e5)) (by decide) rfl (Or.inl ⟨rfl, rfl⟩) (by decide +kernel) ?_
  obtain ⟨T8, h8, W8, Wr8, A8, C8, st8⟩ := oPut W7 A7 (j := (5 : Int32)) (x := e5) (x' := e5) (pc := 288) (ls := #[sR a, sI 7]) (st := [(.ref a2), (.ref a1), (.ref a1)]) (by decide) (i := 5) (by decide) (by simp) (Nat.le_trans W1.ext.1 g2) (A7.safe W7.warm.alike (by decide)) (ins := .castore) (Or.inl ⟨rfl, rfl, (narC p5)⟩) (by decide +kernel)
  refine oLift st8 ?_
  have A8 : OA Z h8 a2 k2 .char [.int e0, .int e1, .int e2, .int e3, .int e4, .int e5, .int 0] := A8
  refine oGo W8 [.dup, .bipush 6, .aload_n 0, .bipush 6] (by decide +kernel) (ls' := #[sR a, sI 7]) (st' := [(.int 6), (.ref a), (.int 6), (.ref a2), (.ref a2), (.ref a1), (.ref a1)]) rfl rfl (pc' := 295) rfl ?_
  refine oGet W8 ((A.ext E1).ext (exW (exW (exW (exW (exW (exW E2 Wr3 g2) Wr4 g2) Wr5 g2) Wr6 g2) Wr7 g2) Wr8 g2)) (v := (.int e6)) (by decide) rfl (Or.inl ⟨rfl, rfl⟩) (by decide +kernel) ?_
  obtain ⟨T9, h9, W9, Wr9, A9, C9, st9⟩ := oPut W8 A8 (j := (6 : Int32)) (x := e6) (x' := e6) (pc := 296) (ls := #[sR a, sI 7]) (st := [(.ref a2), (.ref a1), (.ref a1)]) (by decide) (i := 6) (by decide) (by simp) (Nat.le_trans W1.ext.1 g2) (A8.safe W8.warm.alike (by decide)) (ins := .castore) (Or.inl ⟨rfl, rfl, (narC p6)⟩) (by decide +kernel)
  refine oLift st9 ?_
  have A9 : OA Z h9 a2 k2 .char [.int e0, .int e1, .int e2, .int e3, .int e4, .int e5, .int e6] := A9
  obtain ⟨v10, T10, L10, h10, vm10, W10, ⟨rfl, K10, F10⟩, C10, st10⟩ := oCallN W9 (idx := 16) (pc := 297) (ls := #[sR a, sI 7]) (st := [(.ref a1)]) (a := a1) (argsL := [(.ref a2)]) (k_I1 K.2.1 [e0, e1, e2, e3, e4, e5, e6] (lb rfl) (lb rfl) A9 (own_cons p0 (own_cons p1 (own_cons p2 (own_cons p3 (own_cons p4 (own_cons p5 (own_cons p6 own_nil))))))) (Nat.le_trans W0.ext.1 g1) (A1.ext (exW (exW (exW (exW (exW (exW (exW E2 Wr3 g2) Wr4 g2) Wr5 g2) Wr6 g2) Wr7 g2) Wr8 g2) Wr9 g2)) ((D1 (Or.inr (wK K 35 rfl)) (ty := .byte) (by decide)).ext (exW (exW (exW (exW (exW (exW (exW E2 Wr3 g2) Wr4 g2) Wr5 g2) Wr6 g2) Wr7 g2) Wr8 g2) Wr9 g2)) ((D1 (Or.inr (wK K 37 rfl)) (ty := (.array .byte)) (by decide)).ext (exW (exW (exW (exW (exW (exW (exW E2 Wr3 g2) Wr4 g2) Wr5 g2) Wr6 g2) Wr7 g2) Wr8 g2) Wr9 g2))) (fun y hy => by cases List.mem_singleton.mp hy; exact ⟨(A1.ext (exW (exW (exW (exW (exW (exW (exW E2 Wr3 g2) Wr4 g2) Wr5 g2) Wr6 g2) Wr7 g2) Wr8 g2) Wr9 g2)).lt, (C9.safe (A1.ext (exW (exW (exW (exW (exW (exW E2 Wr3 g2) Wr4 g2) Wr5 g2) Wr6 g2) Wr7 g2) Wr8 g2)).lt (C8.safe (A1.ext (exW (exW (exW (exW (exW E2 Wr3 g2) Wr4 g2) Wr5 g2) Wr6 g2) Wr7 g2)).lt (C7.safe (A1.ext (exW (exW (exW (exW E2 Wr3 g2) Wr4 g2) Wr5 g2) Wr6 g2)).lt (C6.safe (A1.ext (exW (exW (exW E2 Wr3 g2) Wr4 g2) Wr5 g2)).lt (C5.safe (A1.ext (exW (exW E2 Wr3 g2) Wr4 g2)).lt (C4.safe (A1.ext (exW E2 Wr3 g2)).lt (C3.safe (A1.ext E2).lt (C2.safe A1.lt S1))))))))⟩) rfl (wK K 12 rfl) (wK K 13 rfl) (wK K 11 rfl) (wK K 14 rfl) (by decide) (na := 1) rfl (by decide +kernel) rfl (stk := [(.ref a2), (.ref a1), (.ref a1)]) rfl (by decide +kernel) (V := 1) (lb rfl) (lb rfl) (lb rfl) (lb rfl) (lb rfl)
  refine oLift st10 ?_
  show OG _ _ _ _ _ _ _ _ _ _ _ (mkF m 300 #[sR a, sI 7] [(.ref a1)])
  exact oRetA rfl W10 rfl rfl (by decide +kernel) (lb rfl) (lb rfl) (fun vm' hv => ⟨_, rfl, F10, (exK (exT E1 (exW (exW (exW (exW (exW (exW (exW E2 Wr3 g2) Wr4 g2) Wr5 g2) Wr6 g2) Wr7 g2) Wr8 g2) Wr9 g2)) K10 (fun y hy => by cases List.mem_singleton.mp hy; exact g1))⟩)
abbrev rm_c_tk8 : Room := { frames := 4, cells := 6, slots := 18, locals := 66 }
set_option maxRecDepth 65536 in
set_option maxHeartbeats 40000000 in
theorem c_tk8 {l : Launch} {Z : State} {a0 : Array Value} (K : Ctx Z a0) {a : Addr} {ka : ClassId} {e0 e1 e2 e3 e4 e5 e6 e7 : Int32} {h0 : Heap} (A : OA Z h0 a ka .char ([Value.int e0, Value.int e1, Value.int e2, Value.int e3, Value.int e4, Value.int e5, Value.int e6, Value.int e7])) (p0 : ¬ e0 < 0 ∧ ¬ (255 : Int32) < e0) (p1 : ¬ e1 < 0 ∧ ¬ (255 : Int32) < e1) (p2 : ¬ e2 < 0 ∧ ¬ (255 : Int32) < e2) (p3 : ¬ e3 < 0 ∧ ¬ (255 : Int32) < e3) (p4 : ¬ e4 < 0 ∧ ¬ (255 : Int32) < e4) (p5 : ¬ e5 < 0 ∧ ¬ (255 : Int32) < e5) (p6 : ¬ e6 < 0 ∧ ¬ (255 : Int32) < e6) (p7 : ¬ e7 < 0 ∧ ¬ (255 : Int32) < e7) :
    OC l Z EL false [] (⟨"com/example/gentle_hub/gentlehub/server/ChannelLocationParsePinLaw", "take", "([CI)Ljava/lang/String;"⟩ : MethodName) method_3_code 2 (some (.object "java/lang/String")) rm_c_tk8 #[(.ref a), (.int 8)] h0 [] (fun v _ h => ∃ x, v = some (.ref x) ∧ Str Z h x [e0, e1, e2, e3, e4, e5, e6, e7] ∧ Ext h0 h) := by
  have hw := K.1
  have hS : ∀ a ∈ Bundle.stringAtoms, a.before a0 Z = true := K.2.2.1
  refine oEnter (by decide +kernel) K.2.1.2.1 ?_
  intro _p _e _s m _below _meth _c T0 W0 S0
  refine oEq (g' := mkF m 0 #[.val (.ref a), .val (.int 8)] []) (by first | (simp [entryFrame, mkF, argsToLocals, Value.category]; done) | rfl) ?_
  refine oGo W0 [.iload_n 1] (by decide +kernel) (ls' := #[sR a, sI 8]) (st' := [(.int 8)]) rfl rfl (pc' := 1) rfl ?_
  refine oIfT W0 (cd := .ne) (o := 14) (by decide +kernel) (XT.i0_ne_t (by decide)) (pc' := 15) (by decide) (by decide) ?_
  refine oGo W0 [.iload_n 1, .iconst 1] (by decide +kernel) (ls' := #[sR a, sI 8]) (st' := [(.int 1), (.int 8)]) rfl rfl (pc' := 17) rfl ?_
  refine oIcT W0 (cd := .ne) (o := 20) (by decide +kernel) (XT.ii_ne_t (by decide)) (pc' := 37) (by decide) (by decide) ?_
  refine oGo W0 [.iload_n 1, .iconst 2] (by decide +kernel) (ls' := #[sR a, sI 8]) (st' := [(.int 2), (.int 8)]) rfl rfl (pc' := 39) rfl ?_
  refine oIcT W0 (cd := .ne) (o := 26) (by decide +kernel) (XT.ii_ne_t (by decide)) (pc' := 65) (by decide) (by decide) ?_
  refine oGo W0 [.iload_n 1, .iconst 3] (by decide +kernel) (ls' := #[sR a, sI 8]) (st' := [(.int 3), (.int 8)]) rfl rfl (pc' := 67) rfl ?_
  refine oIcT W0 (cd := .ne) (o := 32) (by decide +kernel) (XT.ii_ne_t (by decide)) (pc' := 99) (by decide) (by decide) ?_
  refine oGo W0 [.iload_n 1, .iconst 4] (by decide +kernel) (ls' := #[sR a, sI 8]) (st' := [(.int 4), (.int 8)]) rfl rfl (pc' := 101) rfl ?_
  refine oIcT W0 (cd := .ne) (o := 38) (by decide +kernel) (XT.ii_ne_t (by decide)) (pc' := 139) (by decide) (by decide) ?_
  refine oGo W0 [.iload_n 1, .iconst 5] (by decide +kernel) (ls' := #[sR a, sI 8]) (st' := [(.int 5), (.int 8)]) rfl rfl (pc' := 141) rfl ?_
  refine oIcT W0 (cd := .ne) (o := 44) (by decide +kernel) (XT.ii_ne_t (by decide)) (pc' := 185) (by decide) (by decide) ?_
  refine oGo W0 [.iload_n 1, .bipush 6] (by decide +kernel) (ls' := #[sR a, sI 8]) (st' := [(.int 6), (.int 8)]) rfl rfl (pc' := 188) rfl ?_
  refine oIcT W0 (cd := .ne) (o := 51) (by decide +kernel) (XT.ii_ne_t (by decide)) (pc' := 239) (by decide) (by decide) ?_
  refine oGo W0 [.iload_n 1, .bipush 7] (by decide +kernel) (ls' := #[sR a, sI 8]) (st' := [(.int 7), (.int 8)]) rfl rfl (pc' := 242) rfl ?_
  refine oIcT W0 (cd := .ne) (o := 59) (by decide +kernel) (XT.ii_ne_t (by decide)) (pc' := 301) (by decide) (by decide) ?_
  obtain ⟨T1, h1, a1, W1, g1, E1, A1, D1, S1, C1, st1⟩ := oNew W0 (pc := 301) (ls := #[sR a, sI 8]) (st := []) (wK K 9 rfl) (wK K 10 rfl) (wK K 11 rfl) (by decide +kernel) (lb rfl) (lb rfl)
  refine oLift st1 ?_
  refine oGo W1 [.dup, .aload_n 0] (by decide +kernel) (ls' := #[sR a, sI 8]) (st' := [(.ref a), (.ref a1), (.ref a1)]) rfl rfl (pc' := 306) rfl ?_
  obtain ⟨v2, T2, L2, h2, vm2, W2, ⟨rfl, K2, F2⟩, C2, st2⟩ := oCallN W1 (idx := 16) (pc := 306) (ls := #[sR a, sI 8]) (st := [(.ref a1)]) (a := a1) (argsL := [(.ref a)]) (k_I1 K.2.1 [e0, e1, e2, e3, e4, e5, e6, e7] (lb rfl) (lb rfl) (A.ext E1) (own_cons p0 (own_cons p1 (own_cons p2 (own_cons p3 (own_cons p4 (own_cons p5 (own_cons p6 (own_cons p7 own_nil)))))))) (Nat.le_trans W0.ext.1 g1) A1 (D1 (Or.inr (wK K 35 rfl)) (ty := .byte) (by decide)) (D1 (Or.inr (wK K 37 rfl)) (ty := (.array .byte)) (by decide))) (fun y hy => by cases List.mem_singleton.mp hy; exact ⟨A1.lt, S1⟩) rfl (wK K 12 rfl) (wK K 13 rfl) (wK K 11 rfl) (wK K 14 rfl) (by decide) (na := 1) rfl (by decide +kernel) rfl (stk := [(.ref a), (.ref a1), (.ref a1)]) rfl (by decide +kernel) (V := 1) (lb rfl) (lb rfl) (lb rfl) (lb rfl) (lb rfl)
  refine oLift st2 ?_
  show OG _ _ _ _ _ _ _ _ _ _ _ (mkF m 309 #[sR a, sI 8] [(.ref a1)])
  exact oRetA rfl W2 rfl rfl (by decide +kernel) (lb rfl) (lb rfl) (fun vm' hv => ⟨_, rfl, F2, (exK E1 K2 (fun y hy => by cases List.mem_singleton.mp hy; exact g1))⟩)
theorem c_tkp {l : Launch} {Z : State} {a0 : Array Value} (K : Ctx Z a0) {a : Addr} {ka : ClassId} {e0 e1 e2 e3 e4 e5 e6 e7 : Int32} {V : Nat} {h0 : Heap} (hV : 0 ≤ V ∧ V ≤ 4) (A : OA Z h0 a ka .char [.int e0, .int e1, .int e2, .int e3, .int e4, .int e5, .int e6, .int e7]) (p0 : ¬ e0 < 0 ∧ ¬ (255 : Int32) < e0) (p1 : ¬ e1 < 0 ∧ ¬ (255 : Int32) < e1) (p2 : ¬ e2 < 0 ∧ ¬ (255 : Int32) < e2) (p3 : ¬ e3 < 0 ∧ ¬ (255 : Int32) < e3) (p4 : ¬ e4 < 0 ∧ ¬ (255 : Int32) < e4) (p5 : ¬ e5 < 0 ∧ ¬ (255 : Int32) < e5) (p6 : ¬ e6 < 0 ∧ ¬ (255 : Int32) < e6) (p7 : ¬ e7 < 0 ∧ ¬ (255 : Int32) < e7) :
    OC l Z EL false [] (⟨"com/example/gentle_hub/gentlehub/server/ChannelLocationParsePinLaw", "take", "([CI)Ljava/lang/String;"⟩ : MethodName) method_3_code 2 (some (.object "java/lang/String")) rm_c_tk0 #[.ref a, .int (Int32.ofNat V)] h0 [] (fun v _ h => ∃ x, v = some (.ref x) ∧ Str Z h x (([e0, e1, e2, e3, e4, e5, e6, e7] : List Int32).take V) ∧ Ext h0 h) := by
  have hv : V = 0 ∨ V = 1 ∨ V = 2 ∨ V = 3 ∨ V = 4 := by omega
  rcases hv with rfl | rfl | rfl | rfl | rfl
  · exact c_tk0 K A 
  · exact c_tk1 K A p0
  · exact c_tk2 K A p0 p1
  · exact c_tk3 K A p0 p1 p2
  · exact c_tk4 K A p0 p1 p2 p3
theorem c_tkn {l : Launch} {Z : State} {a0 : Array Value} (K : Ctx Z a0) {a : Addr} {ka : ClassId} {e0 e1 e2 : Int32} {V : Nat} {h0 : Heap} (hV : 1 ≤ V ∧ V ≤ 3) (A : OA Z h0 a ka .char [.int e0, .int e1, .int e2]) (p0 : ¬ e0 < 0 ∧ ¬ (255 : Int32) < e0) (p1 : ¬ e1 < 0 ∧ ¬ (255 : Int32) < e1) (p2 : ¬ e2 < 0 ∧ ¬ (255 : Int32) < e2) :
    OC l Z EL false [] (⟨"com/example/gentle_hub/gentlehub/server/ChannelLocationParsePinLaw", "take", "([CI)Ljava/lang/String;"⟩ : MethodName) method_3_code 2 (some (.object "java/lang/String")) rm_c_tk0 #[.ref a, .int (Int32.ofNat V)] h0 [] (fun v _ h => ∃ x, v = some (.ref x) ∧ Str Z h x (([e0, e1, e2] : List Int32).take V) ∧ Ext h0 h) := by
  have hv : V = 1 ∨ V = 2 ∨ V = 3 := by omega
  rcases hv with rfl | rfl | rfl
  · exact c_tk1 K A p0
  · exact c_tk2 K A p0 p1
  · exact c_tk3 K A p0 p1 p2
set_option maxRecDepth 65536 in
set_option maxHeartbeats 40000000 in
theorem c_seg2 {l : Launch} {Z : State} {a0 : Array Value} (K : Ctx Z a0) {i0 i1 i2 i3 i4 i5 : Int32} {r0 r1 va : Addr} {kv : ClassId} {p0 p1 : Addr} (H : Rs Z r0 r1 va kv p0 p1) {sb po nn le dt : Int32} {a x y : Addr} {cs : List Int32} {p : Program} {e : Env} {s : State} {m : MethodId} {args : Array Value} {below : List Frame} {meth : Method} {cc : Code} {h0 : Heap} {vm0 : Vm} {T0 : State} {lc : List Loc}
    (W0 : OW p l e room_1 s m args below meth cc Z a0 EL false "com/example/gentle_hub/gentlehub/server/ChannelLocationParsePinLaw" code 20 (some .boolean) "law" vm0 T0 lc 22 400 h0) (F : Str Z h0 x cs) (hs : cs.length < 5) :
    OG p e below s Z EL false (fun v _ h => v = some (.int 1)) room_1.cells room_1.slots T0 (mkF m 360 #[sI i0, sI i1, sI i2, sI i3, sI i4, sI i5, sI sb, sI po, sR a, sI nn, sI 1, sI le, sR x, sR y, sI 0, sI 0, sI dt, sU, sU, sU] []) := by
  have hw := K.1
  have hS : ∀ a ∈ Bundle.stringAtoms, a.before a0 Z = true := K.2.2.1
  obtain ⟨⟨Sr0, Sr1⟩, ⟨SV, AV, XV⟩, ⟨Fr0, Fr1⟩, ⟨Tr0, Tr1⟩⟩ := id H
  obtain ⟨eo, HO⟩ := K.2.2.2.2.2
  refine oGo W0 [.iload 14] (by decide +kernel) (ls' := #[sI i0, sI i1, sI i2, sI i3, sI i4, sI i5, sI sb, sI po, sR a, sI nn, sI 1, sI le, sR x, sR y, sI 0, sI 0, sI dt, sU, sU, sU]) (st' := [(.int 0)]) rfl rfl (pc' := 362) rfl ?_
  refine oIfF W0 (cd := .ne) (o := 8) (by decide +kernel) (XT.i0_ne_f (by decide)) (pc' := 365) rfl ?_
  refine oGo W0 [.iload 15] (by decide +kernel) (ls' := #[sI i0, sI i1, sI i2, sI i3, sI i4, sI i5, sI sb, sI po, sR a, sI nn, sI 1, sI le, sR x, sR y, sI 0, sI 0, sI dt, sU, sU, sU]) (st' := [(.int 0)]) rfl rfl (pc' := 367) rfl ?_
  refine oIfT W0 (cd := .eq) (o := 10) (by decide +kernel) (XT.i0_eq_t (by decide)) (pc' := 377) (by decide) (by decide) ?_
  refine oGo W0 [.aload 12] (by decide +kernel) (ls' := #[sI i0, sI i1, sI i2, sI i3, sI i4, sI i5, sI sb, sI po, sR a, sI nn, sI 1, sI le, sR x, sR y, sI 0, sI 0, sI dt, sU, sU, sU]) (st' := [(.ref x)]) rfl rfl (pc' := 379) rfl ?_
  obtain ⟨v101, T101, L101, h101, vm101, W101, ⟨rfl, E101⟩, C101, st101⟩ := oCallS W0 (idx := 28) (pc := 379) (ls := #[sI i0, sI i1, sI i2, sI i3, sI i4, sI i5, sI sb, sI po, sR a, sI nn, sI 1, sI le, sR x, sR y, sI 0, sI 0, sI dt, sU, sU, sU]) (st := []) (argsL := [(.ref x)]) (c_pas K H HO F hs) (fun x hx => nomatch hx) (wK K 38 rfl) (wK K 39 rfl) (wK K 40 rfl) (wK K 41 rfl) (by decide) (na := 1) rfl (by decide +kernel) rfl (stk := [(.ref x)]) rfl (by decide +kernel) (V := 0) (lb rfl) (lb rfl) (lb rfl) (lb rfl) (lb rfl)
  refine oLift st101 ?_
  show OG _ _ _ _ _ _ _ _ _ _ _ (mkF m 382 #[sI i0, sI i1, sI i2, sI i3, sI i4, sI i5, sI sb, sI po, sR a, sI nn, sI 1, sI le, sR x, sR y, sI 0, sI 0, sI dt, sU, sU, sU] [(.ref eo)])
  refine oGo W101 [.astore 17, .iload 14] (by decide +kernel) (ls' := #[sI i0, sI i1, sI i2, sI i3, sI i4, sI i5, sI sb, sI po, sR a, sI nn, sI 1, sI le, sR x, sR y, sI 0, sI 0, sI dt, sR eo, sU, sU]) (st' := [(.int 0)]) rfl rfl (pc' := 386) rfl ?_
  refine oIfF W101 (cd := .ne) (o := 22) (by decide +kernel) (XT.i0_ne_f (by decide)) (pc' := 389) rfl ?_
  refine oGo W101 [.iload 15] (by decide +kernel) (ls' := #[sI i0, sI i1, sI i2, sI i3, sI i4, sI i5, sI sb, sI po, sR a, sI nn, sI 1, sI le, sR x, sR y, sI 0, sI 0, sI dt, sR eo, sU, sU]) (st' := [(.int 0)]) rfl rfl (pc' := 391) rfl ?_
  refine oIfF W101 (cd := .ne) (o := 17) (by decide +kernel) (XT.i0_ne_f (by decide)) (pc' := 394) rfl ?_
  refine oGo W101 [.aload 17] (by decide +kernel) (ls' := #[sI i0, sI i1, sI i2, sI i3, sI i4, sI i5, sI sb, sI po, sR a, sI nn, sI 1, sI le, sR x, sR y, sI 0, sI 0, sI dt, sR eo, sU, sU]) (st' := [(.ref eo)]) rfl rfl (pc' := 396) rfl ?_
  obtain ⟨v102, T102, L102, h102, vm102, W102, ⟨rfl, e102⟩, C102, st102⟩ := oCallV W101 (idx := 34) (pc := 396) (ls := #[sI i0, sI i1, sI i2, sI i3, sI i4, sI i5, sI sb, sI po, sR a, sI nn, sI 1, sI le, sR x, sR y, sI 0, sI 0, sI dt, sR eo, sU, sU]) (st := []) (argsL := []) (HO.2.1.ext W101.ext) (c_op0 K (HO.2.2.ext W101.ext)) (fun x hx => nomatch hx) (wK K 91 rfl) (wK K 92 rfl) (notFace_of_selects (args := #[]) (mvT W101.warm (wK K 94 rfl))) (wK K 94 rfl) (wK K 93 rfl) (wK K 88 rfl) (wK K 95 rfl) (by decide) (na := 0) rfl (by decide +kernel) rfl (stk := [(.ref eo)]) rfl (by decide +kernel) (V := 0) (lb rfl) (lb rfl) (lb rfl) (lb rfl) (lb rfl)
  refine oLift st102 ?_
  rw [e102] at W102 C102
  show OG _ _ _ _ _ _ _ _ _ _ _ (mkF m 399 #[sI i0, sI i1, sI i2, sI i3, sI i4, sI i5, sI sb, sI po, sR a, sI nn, sI 1, sI le, sR x, sR y, sI 0, sI 0, sI dt, sR eo, sU, sU] [(.int 0)])
  refine oIfF W102 (cd := .ne) (o := 7) (by decide +kernel) (XT.i0_ne_f (by decide)) (pc' := 402) rfl ?_
  refine oGo W102 [.iconst 1, .goto 4] (by decide +kernel) (ls' := #[sI i0, sI i1, sI i2, sI i3, sI i4, sI i5, sI sb, sI po, sR a, sI nn, sI 1, sI le, sR x, sR y, sI 0, sI 0, sI dt, sR eo, sU, sU]) (st' := [(.int 1)]) rfl rfl (pc' := 407) rfl ?_
  exact oRetN (by simp) W102 rfl (by decide +kernel) (lb rfl) (lb rfl) (fun vm' hv => rfl)
set_option maxRecDepth 65536 in
set_option maxHeartbeats 40000000 in
theorem c_seg3_1 {l : Launch} {Z : State} {a0 : Array Value} (K : Ctx Z a0) {i0 i1 i2 i3 i4 i5 : Int32} {r0 r1 va : Addr} {kv : ClassId} {p0 p1 : Addr} (H : Rs Z r0 r1 va kv p0 p1) {sb po d0 d1 d2 d3 d4 c0 c1 c2 : Int32} {a x y : Addr} {ka : ClassId} {p : Program} {e : Env} {s : State} {m : MethodId} {args : Array Value} {below : List Frame} {meth : Method} {cc : Code} {h0 : Heap} {vm0 : Vm} {T0 : State} {lc : List Loc}
    (W0 : OW p l e room_1 s m args below meth cc Z a0 EL false "com/example/gentle_hub/gentlehub/server/ChannelLocationParsePinLaw" code 20 (some .boolean) "law" vm0 T0 lc 22 400 h0) (A : OA Z h0 a ka .char [.int d0, .int d1, .int d2, .int d3, .int d4, .int c0, .int c1, .int c2]) (F : Str Z h0 x [d0, d1, d2, d3, d4, c0]) (Gy : Str Z h0 y [c0]) (qa0 : Alw c0) (qa1 : Alw c1) (qa2 : Alw c2) :
    OG p e below s Z EL false (fun v _ h => v = some (.int 1)) room_1.cells room_1.slots T0 (mkF m 197 #[sI i0, sI i1, sI i2, sI i3, sI i4, sI i5, sI sb, sI po, sR a, sI 1, sI 0, sI 6, sR x, sR y, sU, sU, sU, sU, sU, sU] []) := by
  have hw := K.1
  have hS : ∀ a ∈ Bundle.stringAtoms, a.before a0 Z = true := K.2.2.1
  obtain ⟨⟨Sr0, Sr1⟩, ⟨SV, AV, XV⟩, ⟨Fr0, Fr1⟩, ⟨Tr0, Tr1⟩⟩ := id H
  obtain ⟨eo, HO⟩ := K.2.2.2.2.2
  refine oJn (fun r : Int32 => (r = 1 ∧ d0 = 47 ∧ d1 = 112 ∧ d2 = 117 ∧ d3 = 98 ∧ d4 = 47) ∨ (r = 0 ∧ ¬ (d0 = 47 ∧ d1 = 112 ∧ d2 = 117 ∧ d3 = 98 ∧ d4 = 47))) (fun r => mkF m 253 #[sI i0, sI i1, sI i2, sI i3, sI i4, sI i5, sI sb, sI po, sR a, sI 1, sI 0, sI 6, sR x, sR y, sU, sU, sU, sU, sU, sU] [.int r]) ?_ (fun J1 => ?_)
  rotate_left
  · refine oGo W0 [.iload 11, .iconst 5] (by decide +kernel) (ls' := #[sI i0, sI i1, sI i2, sI i3, sI i4, sI i5, sI sb, sI po, sR a, sI 1, sI 0, sI 6, sR x, sR y, sU, sU, sU, sU, sU, sU]) (st' := [(.int 5), (.int 6)]) rfl rfl (pc' := 200) rfl ?_
    refine oIcF W0 (cd := .lt) (o := 52) (by decide +kernel) (XT.ii_lt_f (by decide)) (pc' := 203) rfl ?_
    refine oGo W0 [.aload 8, .iconst 0] (by decide +kernel) (ls' := #[sI i0, sI i1, sI i2, sI i3, sI i4, sI i5, sI sb, sI po, sR a, sI 1, sI 0, sI 6, sR x, sR y, sU, sU, sU, sU, sU, sU]) (st' := [(.int 0), (.ref a)]) rfl rfl (pc' := 206) rfl ?_
    refine oGet W0 A (v := (.int d0)) (by decide) rfl (Or.inl ⟨rfl, rfl⟩) (by decide +kernel) ?_
    refine oGo W0 [.bipush 47] (by decide +kernel) (ls' := #[sI i0, sI i1, sI i2, sI i3, sI i4, sI i5, sI sb, sI po, sR a, sI 1, sI 0, sI 6, sR x, sR y, sU, sU, sU, sU, sU, sU]) (st' := [(.int 47), (.int d0)]) rfl rfl (pc' := 209) rfl ?_
    by_cases hc101 : d0 = (47 : Int32)
    rotate_left
    · refine oIcT W0 (cd := .ne) (o := 43) (by decide +kernel) (XT.ii_ne_t hc101) (pc' := 252) (by decide) (by decide) ?_
      refine oGo W0 [.iconst 0] (by decide +kernel) (ls' := #[sI i0, sI i1, sI i2, sI i3, sI i4, sI i5, sI sb, sI po, sR a, sI 1, sI 0, sI 6, sR x, sR y, sU, sU, sU, sU, sU, sU]) (st' := [(.int 0)]) rfl rfl (pc' := 253) rfl ?_
      exact J1 0 (Or.inr ⟨rfl, fun q => hc101 q.1⟩)
    refine oIcF W0 (cd := .ne) (o := 43) (by decide +kernel) (XT.ii_ne_f hc101) (pc' := 212) rfl ?_
    refine oGo W0 [.aload 8, .iconst 1] (by decide +kernel) (ls' := #[sI i0, sI i1, sI i2, sI i3, sI i4, sI i5, sI sb, sI po, sR a, sI 1, sI 0, sI 6, sR x, sR y, sU, sU, sU, sU, sU, sU]) (st' := [(.int 1), (.ref a)]) rfl rfl (pc' := 215) rfl ?_
    refine oGet W0 A (v := (.int d1)) (by decide) rfl (Or.inl ⟨rfl, rfl⟩) (by decide +kernel) ?_
    refine oGo W0 [.bipush 112] (by decide +kernel) (ls' := #[sI i0, sI i1, sI i2, sI i3, sI i4, sI i5, sI sb, sI po, sR a, sI 1, sI 0, sI 6, sR x, sR y, sU, sU, sU, sU, sU, sU]) (st' := [(.int 112), (.int d1)]) rfl rfl (pc' := 218) rfl ?_
    by_cases hc102 : d1 = (112 : Int32)
    rotate_left
    · refine oIcT W0 (cd := .ne) (o := 34) (by decide +kernel) (XT.ii_ne_t hc102) (pc' := 252) (by decide) (by decide) ?_
      refine oGo W0 [.iconst 0] (by decide +kernel) (ls' := #[sI i0, sI i1, sI i2, sI i3, sI i4, sI i5, sI sb, sI po, sR a, sI 1, sI 0, sI 6, sR x, sR y, sU, sU, sU, sU, sU, sU]) (st' := [(.int 0)]) rfl rfl (pc' := 253) rfl ?_
      exact J1 0 (Or.inr ⟨rfl, fun q => hc102 q.2.1⟩)
    refine oIcF W0 (cd := .ne) (o := 34) (by decide +kernel) (XT.ii_ne_f hc102) (pc' := 221) rfl ?_
    refine oGo W0 [.aload 8, .iconst 2] (by decide +kernel) (ls' := #[sI i0, sI i1, sI i2, sI i3, sI i4, sI i5, sI sb, sI po, sR a, sI 1, sI 0, sI 6, sR x, sR y, sU, sU, sU, sU, sU, sU]) (st' := [(.int 2), (.ref a)]) rfl rfl (pc' := 224) rfl ?_
    refine oGet W0 A (v := (.int d2)) (by decide) rfl (Or.inl ⟨rfl, rfl⟩) (by decide +kernel) ?_
    refine oGo W0 [.bipush 117] (by decide +kernel) (ls' := #[sI i0, sI i1, sI i2, sI i3, sI i4, sI i5, sI sb, sI po, sR a, sI 1, sI 0, sI 6, sR x, sR y, sU, sU, sU, sU, sU, sU]) (st' := [(.int 117), (.int d2)]) rfl rfl (pc' := 227) rfl ?_
    by_cases hc103 : d2 = (117 : Int32)
    rotate_left
    · refine oIcT W0 (cd := .ne) (o := 25) (by decide +kernel) (XT.ii_ne_t hc103) (pc' := 252) (by decide) (by decide) ?_
      refine oGo W0 [.iconst 0] (by decide +kernel) (ls' := #[sI i0, sI i1, sI i2, sI i3, sI i4, sI i5, sI sb, sI po, sR a, sI 1, sI 0, sI 6, sR x, sR y, sU, sU, sU, sU, sU, sU]) (st' := [(.int 0)]) rfl rfl (pc' := 253) rfl ?_
      exact J1 0 (Or.inr ⟨rfl, fun q => hc103 q.2.2.1⟩)
    refine oIcF W0 (cd := .ne) (o := 25) (by decide +kernel) (XT.ii_ne_f hc103) (pc' := 230) rfl ?_
    refine oGo W0 [.aload 8, .iconst 3] (by decide +kernel) (ls' := #[sI i0, sI i1, sI i2, sI i3, sI i4, sI i5, sI sb, sI po, sR a, sI 1, sI 0, sI 6, sR x, sR y, sU, sU, sU, sU, sU, sU]) (st' := [(.int 3), (.ref a)]) rfl rfl (pc' := 233) rfl ?_
    refine oGet W0 A (v := (.int d3)) (by decide) rfl (Or.inl ⟨rfl, rfl⟩) (by decide +kernel) ?_
    refine oGo W0 [.bipush 98] (by decide +kernel) (ls' := #[sI i0, sI i1, sI i2, sI i3, sI i4, sI i5, sI sb, sI po, sR a, sI 1, sI 0, sI 6, sR x, sR y, sU, sU, sU, sU, sU, sU]) (st' := [(.int 98), (.int d3)]) rfl rfl (pc' := 236) rfl ?_
    by_cases hc104 : d3 = (98 : Int32)
    rotate_left
    · refine oIcT W0 (cd := .ne) (o := 16) (by decide +kernel) (XT.ii_ne_t hc104) (pc' := 252) (by decide) (by decide) ?_
      refine oGo W0 [.iconst 0] (by decide +kernel) (ls' := #[sI i0, sI i1, sI i2, sI i3, sI i4, sI i5, sI sb, sI po, sR a, sI 1, sI 0, sI 6, sR x, sR y, sU, sU, sU, sU, sU, sU]) (st' := [(.int 0)]) rfl rfl (pc' := 253) rfl ?_
      exact J1 0 (Or.inr ⟨rfl, fun q => hc104 q.2.2.2.1⟩)
    refine oIcF W0 (cd := .ne) (o := 16) (by decide +kernel) (XT.ii_ne_f hc104) (pc' := 239) rfl ?_
    refine oGo W0 [.aload 8, .iconst 4] (by decide +kernel) (ls' := #[sI i0, sI i1, sI i2, sI i3, sI i4, sI i5, sI sb, sI po, sR a, sI 1, sI 0, sI 6, sR x, sR y, sU, sU, sU, sU, sU, sU]) (st' := [(.int 4), (.ref a)]) rfl rfl (pc' := 242) rfl ?_
    refine oGet W0 A (v := (.int d4)) (by decide) rfl (Or.inl ⟨rfl, rfl⟩) (by decide +kernel) ?_
    refine oGo W0 [.bipush 47] (by decide +kernel) (ls' := #[sI i0, sI i1, sI i2, sI i3, sI i4, sI i5, sI sb, sI po, sR a, sI 1, sI 0, sI 6, sR x, sR y, sU, sU, sU, sU, sU, sU]) (st' := [(.int 47), (.int d4)]) rfl rfl (pc' := 245) rfl ?_
    by_cases hc105 : d4 = (47 : Int32)
    rotate_left
    · refine oIcT W0 (cd := .ne) (o := 7) (by decide +kernel) (XT.ii_ne_t hc105) (pc' := 252) (by decide) (by decide) ?_
      refine oGo W0 [.iconst 0] (by decide +kernel) (ls' := #[sI i0, sI i1, sI i2, sI i3, sI i4, sI i5, sI sb, sI po, sR a, sI 1, sI 0, sI 6, sR x, sR y, sU, sU, sU, sU, sU, sU]) (st' := [(.int 0)]) rfl rfl (pc' := 253) rfl ?_
      exact J1 0 (Or.inr ⟨rfl, fun q => hc105 q.2.2.2.2⟩)
    refine oIcF W0 (cd := .ne) (o := 7) (by decide +kernel) (XT.ii_ne_f hc105) (pc' := 248) rfl ?_
    refine oGo W0 [.iconst 1, .goto 4] (by decide +kernel) (ls' := #[sI i0, sI i1, sI i2, sI i3, sI i4, sI i5, sI sb, sI po, sR a, sI 1, sI 0, sI 6, sR x, sR y, sU, sU, sU, sU, sU, sU]) (st' := [(.int 1)]) rfl rfl (pc' := 253) rfl ?_
    exact J1 1 (Or.inl ⟨rfl, hc101, hc102, hc103, hc104, hc105⟩)
  intro s1 hs1
  refine oGo W0 [.istore 14] (by decide +kernel) (ls' := #[sI i0, sI i1, sI i2, sI i3, sI i4, sI i5, sI sb, sI po, sR a, sI 1, sI 0, sI 6, sR x, sR y, sI s1, sU, sU, sU, sU, sU]) (st' := []) rfl rfl (pc' := 255) rfl ?_
  refine oJn (fun r : Int32 => (r = 1 ∧ d0 = 47 ∧ d1 = 115 ∧ d2 = 117 ∧ d3 = 98 ∧ d4 = 47) ∨ (r = 0 ∧ ¬ (d0 = 47 ∧ d1 = 115 ∧ d2 = 117 ∧ d3 = 98 ∧ d4 = 47))) (fun r => mkF m 311 #[sI i0, sI i1, sI i2, sI i3, sI i4, sI i5, sI sb, sI po, sR a, sI 1, sI 0, sI 6, sR x, sR y, sI s1, sU, sU, sU, sU, sU] [.int r]) ?_ (fun J0 => ?_)
  rotate_left
  · refine oGo W0 [.iload 11, .iconst 5] (by decide +kernel) (ls' := #[sI i0, sI i1, sI i2, sI i3, sI i4, sI i5, sI sb, sI po, sR a, sI 1, sI 0, sI 6, sR x, sR y, sI s1, sU, sU, sU, sU, sU]) (st' := [(.int 5), (.int 6)]) rfl rfl (pc' := 258) rfl ?_
    refine oIcF W0 (cd := .lt) (o := 52) (by decide +kernel) (XT.ii_lt_f (by decide)) (pc' := 261) rfl ?_
    refine oGo W0 [.aload 8, .iconst 0] (by decide +kernel) (ls' := #[sI i0, sI i1, sI i2, sI i3, sI i4, sI i5, sI sb, sI po, sR a, sI 1, sI 0, sI 6, sR x, sR y, sI s1, sU, sU, sU, sU, sU]) (st' := [(.int 0), (.ref a)]) rfl rfl (pc' := 264) rfl ?_
    refine oGet W0 A (v := (.int d0)) (by decide) rfl (Or.inl ⟨rfl, rfl⟩) (by decide +kernel) ?_
    refine oGo W0 [.bipush 47] (by decide +kernel) (ls' := #[sI i0, sI i1, sI i2, sI i3, sI i4, sI i5, sI sb, sI po, sR a, sI 1, sI 0, sI 6, sR x, sR y, sI s1, sU, sU, sU, sU, sU]) (st' := [(.int 47), (.int d0)]) rfl rfl (pc' := 267) rfl ?_
    by_cases hc106 : d0 = (47 : Int32)
    rotate_left
    · refine oIcT W0 (cd := .ne) (o := 43) (by decide +kernel) (XT.ii_ne_t hc106) (pc' := 310) (by decide) (by decide) ?_
      refine oGo W0 [.iconst 0] (by decide +kernel) (ls' := #[sI i0, sI i1, sI i2, sI i3, sI i4, sI i5, sI sb, sI po, sR a, sI 1, sI 0, sI 6, sR x, sR y, sI s1, sU, sU, sU, sU, sU]) (st' := [(.int 0)]) rfl rfl (pc' := 311) rfl ?_
      exact J0 0 (Or.inr ⟨rfl, fun q => hc106 q.1⟩)
    refine oIcF W0 (cd := .ne) (o := 43) (by decide +kernel) (XT.ii_ne_f hc106) (pc' := 270) rfl ?_
    refine oGo W0 [.aload 8, .iconst 1] (by decide +kernel) (ls' := #[sI i0, sI i1, sI i2, sI i3, sI i4, sI i5, sI sb, sI po, sR a, sI 1, sI 0, sI 6, sR x, sR y, sI s1, sU, sU, sU, sU, sU]) (st' := [(.int 1), (.ref a)]) rfl rfl (pc' := 273) rfl ?_
    refine oGet W0 A (v := (.int d1)) (by decide) rfl (Or.inl ⟨rfl, rfl⟩) (by decide +kernel) ?_
    refine oGo W0 [.bipush 115] (by decide +kernel) (ls' := #[sI i0, sI i1, sI i2, sI i3, sI i4, sI i5, sI sb, sI po, sR a, sI 1, sI 0, sI 6, sR x, sR y, sI s1, sU, sU, sU, sU, sU]) (st' := [(.int 115), (.int d1)]) rfl rfl (pc' := 276) rfl ?_
    by_cases hc107 : d1 = (115 : Int32)
    rotate_left
    · refine oIcT W0 (cd := .ne) (o := 34) (by decide +kernel) (XT.ii_ne_t hc107) (pc' := 310) (by decide) (by decide) ?_
      refine oGo W0 [.iconst 0] (by decide +kernel) (ls' := #[sI i0, sI i1, sI i2, sI i3, sI i4, sI i5, sI sb, sI po, sR a, sI 1, sI 0, sI 6, sR x, sR y, sI s1, sU, sU, sU, sU, sU]) (st' := [(.int 0)]) rfl rfl (pc' := 311) rfl ?_
      exact J0 0 (Or.inr ⟨rfl, fun q => hc107 q.2.1⟩)
    refine oIcF W0 (cd := .ne) (o := 34) (by decide +kernel) (XT.ii_ne_f hc107) (pc' := 279) rfl ?_
    refine oGo W0 [.aload 8, .iconst 2] (by decide +kernel) (ls' := #[sI i0, sI i1, sI i2, sI i3, sI i4, sI i5, sI sb, sI po, sR a, sI 1, sI 0, sI 6, sR x, sR y, sI s1, sU, sU, sU, sU, sU]) (st' := [(.int 2), (.ref a)]) rfl rfl (pc' := 282) rfl ?_
    refine oGet W0 A (v := (.int d2)) (by decide) rfl (Or.inl ⟨rfl, rfl⟩) (by decide +kernel) ?_
    refine oGo W0 [.bipush 117] (by decide +kernel) (ls' := #[sI i0, sI i1, sI i2, sI i3, sI i4, sI i5, sI sb, sI po, sR a, sI 1, sI 0, sI 6, sR x, sR y, sI s1, sU, sU, sU, sU, sU]) (st' := [(.int 117), (.int d2)]) rfl rfl (pc' := 285) rfl ?_
    by_cases hc108 : d2 = (117 : Int32)
    rotate_left
    · refine oIcT W0 (cd := .ne) (o := 25) (by decide +kernel) (XT.ii_ne_t hc108) (pc' := 310) (by decide) (by decide) ?_
      refine oGo W0 [.iconst 0] (by decide +kernel) (ls' := #[sI i0, sI i1, sI i2, sI i3, sI i4, sI i5, sI sb, sI po, sR a, sI 1, sI 0, sI 6, sR x, sR y, sI s1, sU, sU, sU, sU, sU]) (st' := [(.int 0)]) rfl rfl (pc' := 311) rfl ?_
      exact J0 0 (Or.inr ⟨rfl, fun q => hc108 q.2.2.1⟩)
    refine oIcF W0 (cd := .ne) (o := 25) (by decide +kernel) (XT.ii_ne_f hc108) (pc' := 288) rfl ?_
    refine oGo W0 [.aload 8, .iconst 3] (by decide +kernel) (ls' := #[sI i0, sI i1, sI i2, sI i3, sI i4, sI i5, sI sb, sI po, sR a, sI 1, sI 0, sI 6, sR x, sR y, sI s1, sU, sU, sU, sU, sU]) (st' := [(.int 3), (.ref a)]) rfl rfl (pc' := 291) rfl ?_
    refine oGet W0 A (v := (.int d3)) (by decide) rfl (Or.inl ⟨rfl, rfl⟩) (by decide +kernel) ?_
    refine oGo W0 [.bipush 98] (by decide +kernel) (ls' := #[sI i0, sI i1, sI i2, sI i3, sI i4, sI i5, sI sb, sI po, sR a, sI 1, sI 0, sI 6, sR x, sR y, sI s1, sU, sU, sU, sU, sU]) (st' := [(.int 98), (.int d3)]) rfl rfl (pc' := 294) rfl ?_
    by_cases hc109 : d3 = (98 : Int32)
    rotate_left
    · refine oIcT W0 (cd := .ne) (o := 16) (by decide +kernel) (XT.ii_ne_t hc109) (pc' := 310) (by decide) (by decide) ?_
      refine oGo W0 [.iconst 0] (by decide +kernel) (ls' := #[sI i0, sI i1, sI i2, sI i3, sI i4, sI i5, sI sb, sI po, sR a, sI 1, sI 0, sI 6, sR x, sR y, sI s1, sU, sU, sU, sU, sU]) (st' := [(.int 0)]) rfl rfl (pc' := 311) rfl ?_
      exact J0 0 (Or.inr ⟨rfl, fun q => hc109 q.2.2.2.1⟩)
    refine oIcF W0 (cd := .ne) (o := 16) (by decide +kernel) (XT.ii_ne_f hc109) (pc' := 297) rfl ?_
    refine oGo W0 [.aload 8, .iconst 4] (by decide +kernel) (ls' := #[sI i0, sI i1, sI i2, sI i3, sI i4, sI i5, sI sb, sI po, sR a, sI 1, sI 0, sI 6, sR x, sR y, sI s1, sU, sU, sU, sU, sU]) (st' := [(.int 4), (.ref a)]) rfl rfl (pc' := 300) rfl ?_
    refine oGet W0 A (v := (.int d4)) (by decide) rfl (Or.inl ⟨rfl, rfl⟩) (by decide +kernel) ?_
    refine oGo W0 [.bipush 47] (by decide +kernel) (ls' := #[sI i0, sI i1, sI i2, sI i3, sI i4, sI i5, sI sb, sI po, sR a, sI 1, sI 0, sI 6, sR x, sR y, sI s1, sU, sU, sU, sU, sU]) (st' := [(.int 47), (.int d4)]) rfl rfl (pc' := 303) rfl ?_
    by_cases hc110 : d4 = (47 : Int32)
    rotate_left
    · refine oIcT W0 (cd := .ne) (o := 7) (by decide +kernel) (XT.ii_ne_t hc110) (pc' := 310) (by decide) (by decide) ?_
      refine oGo W0 [.iconst 0] (by decide +kernel) (ls' := #[sI i0, sI i1, sI i2, sI i3, sI i4, sI i5, sI sb, sI po, sR a, sI 1, sI 0, sI 6, sR x, sR y, sI s1, sU, sU, sU, sU, sU]) (st' := [(.int 0)]) rfl rfl (pc' := 311) rfl ?_
      exact J0 0 (Or.inr ⟨rfl, fun q => hc110 q.2.2.2.2⟩)
    refine oIcF W0 (cd := .ne) (o := 7) (by decide +kernel) (XT.ii_ne_f hc110) (pc' := 306) rfl ?_
    refine oGo W0 [.iconst 1, .goto 4] (by decide +kernel) (ls' := #[sI i0, sI i1, sI i2, sI i3, sI i4, sI i5, sI sb, sI po, sR a, sI 1, sI 0, sI 6, sR x, sR y, sI s1, sU, sU, sU, sU, sU]) (st' := [(.int 1)]) rfl rfl (pc' := 311) rfl ?_
    exact J0 1 (Or.inl ⟨rfl, hc106, hc107, hc108, hc109, hc110⟩)
  intro s0 hs0
  refine oGo W0 [.istore 15] (by decide +kernel) (ls' := #[sI i0, sI i1, sI i2, sI i3, sI i4, sI i5, sI sb, sI po, sR a, sI 1, sI 0, sI 6, sR x, sR y, sI s1, sI s0, sU, sU, sU, sU]) (st' := []) rfl rfl (pc' := 313) rfl ?_
  refine oJn (fun r : Int32 => (r = 1 ∧ True) ∨ (r = 0 ∧ ¬ c0 = 46)) (fun r => mkF m 358 #[sI i0, sI i1, sI i2, sI i3, sI i4, sI i5, sI sb, sI po, sR a, sI 1, sI 0, sI 6, sR x, sR y, sI s1, sI s0, sU, sU, sU, sU] [.int r]) ?_ (fun Jd => ?_)
  rotate_left
  · refine oGo W0 [.iload 9, .iconst 1] (by decide +kernel) (ls' := #[sI i0, sI i1, sI i2, sI i3, sI i4, sI i5, sI sb, sI po, sR a, sI 1, sI 0, sI 6, sR x, sR y, sI s1, sI s0, sU, sU, sU, sU]) (st' := [(.int 1), (.int 1)]) rfl rfl (pc' := 316) rfl ?_
    refine oIcF W0 (cd := .ne) (o := 12) (by decide +kernel) (XT.ii_ne_f (by decide)) (pc' := 319) rfl ?_
    refine oGo W0 [.aload 8, .iconst 5] (by decide +kernel) (ls' := #[sI i0, sI i1, sI i2, sI i3, sI i4, sI i5, sI sb, sI po, sR a, sI 1, sI 0, sI 6, sR x, sR y, sI s1, sI s0, sU, sU, sU, sU]) (st' := [(.int 5), (.ref a)]) rfl rfl (pc' := 322) rfl ?_
    refine oGet W0 A (v := (.int c0)) (by decide) rfl (Or.inl ⟨rfl, rfl⟩) (by decide +kernel) ?_
    refine oGo W0 [.bipush 46] (by decide +kernel) (ls' := #[sI i0, sI i1, sI i2, sI i3, sI i4, sI i5, sI sb, sI po, sR a, sI 1, sI 0, sI 6, sR x, sR y, sI s1, sI s0, sU, sU, sU, sU]) (st' := [(.int 46), (.int c0)]) rfl rfl (pc' := 325) rfl ?_
    by_cases hc111 : c0 = (46 : Int32)
    · refine oIcT W0 (cd := .eq) (o := 28) (by decide +kernel) (XT.ii_eq_t hc111) (pc' := 353) (by decide) (by decide) ?_
      refine oGo W0 [.iconst 1, .goto 4] (by decide +kernel) (ls' := #[sI i0, sI i1, sI i2, sI i3, sI i4, sI i5, sI sb, sI po, sR a, sI 1, sI 0, sI 6, sR x, sR y, sI s1, sI s0, sU, sU, sU, sU]) (st' := [(.int 1)]) rfl rfl (pc' := 358) rfl ?_
      exact Jd 1 (Or.inl ⟨rfl, trivial⟩)
    refine oIcF W0 (cd := .eq) (o := 28) (by decide +kernel) (XT.ii_eq_f hc111) (pc' := 328) rfl ?_
    refine oGo W0 [.iload 9, .iconst 2] (by decide +kernel) (ls' := #[sI i0, sI i1, sI i2, sI i3, sI i4, sI i5, sI sb, sI po, sR a, sI 1, sI 0, sI 6, sR x, sR y, sI s1, sI s0, sU, sU, sU, sU]) (st' := [(.int 2), (.int 1)]) rfl rfl (pc' := 331) rfl ?_
    refine oIcT W0 (cd := .ne) (o := 26) (by decide +kernel) (XT.ii_ne_t (by decide)) (pc' := 357) (by decide) (by decide) ?_
    refine oGo W0 [.iconst 0] (by decide +kernel) (ls' := #[sI i0, sI i1, sI i2, sI i3, sI i4, sI i5, sI sb, sI po, sR a, sI 1, sI 0, sI 6, sR x, sR y, sI s1, sI s0, sU, sU, sU, sU]) (st' := [(.int 0)]) rfl rfl (pc' := 358) rfl ?_
    exact Jd 0 (Or.inr ⟨rfl, hc111⟩)
  intro dt hdt
  refine oGo W0 [.istore 16] (by decide +kernel) (ls' := #[sI i0, sI i1, sI i2, sI i3, sI i4, sI i5, sI sb, sI po, sR a, sI 1, sI 0, sI 6, sR x, sR y, sI s1, sI s0, sI dt, sU, sU, sU]) (st' := []) rfl rfl (pc' := 360) rfl ?_
  rcases hs1 with ⟨rfl, HP⟩ | ⟨rfl, HP⟩
  · rcases hdt with ⟨rfl, -⟩ | ⟨rfl, hdot⟩
    · refine oGo W0 [.iload 14] (by decide +kernel) (ls' := #[sI i0, sI i1, sI i2, sI i3, sI i4, sI i5, sI sb, sI po, sR a, sI 1, sI 0, sI 6, sR x, sR y, sI 1, sI s0, sI 1, sU, sU, sU]) (st' := [(.int 1)]) rfl rfl (pc' := 362) rfl ?_
      refine oIfT W0 (cd := .ne) (o := 8) (by decide +kernel) (XT.i0_ne_t (by decide)) (pc' := 370) (by decide) (by decide) ?_
      refine oGo W0 [.iload 16] (by decide +kernel) (ls' := #[sI i0, sI i1, sI i2, sI i3, sI i4, sI i5, sI sb, sI po, sR a, sI 1, sI 0, sI 6, sR x, sR y, sI 1, sI s0, sI 1, sU, sU, sU]) (st' := [(.int 1)]) rfl rfl (pc' := 372) rfl ?_
      refine oIfF W0 (cd := .eq) (o := 5) (by decide +kernel) (XT.i0_eq_f (by decide)) (pc' := 375) rfl ?_
      refine oGo W0 [.iconst 1] (by decide +kernel) (ls' := #[sI i0, sI i1, sI i2, sI i3, sI i4, sI i5, sI sb, sI po, sR a, sI 1, sI 0, sI 6, sR x, sR y, sI 1, sI s0, sI 1, sU, sU, sU]) (st' := [(.int 1)]) rfl rfl (pc' := 376) rfl ?_
      exact oRetN (by simp) W0 rfl (by decide +kernel) (lb rfl) (lb rfl) (fun vm' hv => rfl)
    · refine oGo W0 [.iload 14] (by decide +kernel) (ls' := #[sI i0, sI i1, sI i2, sI i3, sI i4, sI i5, sI sb, sI po, sR a, sI 1, sI 0, sI 6, sR x, sR y, sI 1, sI s0, sI 0, sU, sU, sU]) (st' := [(.int 1)]) rfl rfl (pc' := 362) rfl ?_
      refine oIfT W0 (cd := .ne) (o := 8) (by decide +kernel) (XT.i0_ne_t (by decide)) (pc' := 370) (by decide) (by decide) ?_
      refine oGo W0 [.iload 16] (by decide +kernel) (ls' := #[sI i0, sI i1, sI i2, sI i3, sI i4, sI i5, sI sb, sI po, sR a, sI 1, sI 0, sI 6, sR x, sR y, sI 1, sI s0, sI 0, sU, sU, sU]) (st' := [(.int 0)]) rfl rfl (pc' := 372) rfl ?_
      refine oIfT W0 (cd := .eq) (o := 5) (by decide +kernel) (XT.i0_eq_t (by decide)) (pc' := 377) (by decide) (by decide) ?_
      refine oGo W0 [.aload 12] (by decide +kernel) (ls' := #[sI i0, sI i1, sI i2, sI i3, sI i4, sI i5, sI sb, sI po, sR a, sI 1, sI 0, sI 6, sR x, sR y, sI 1, sI s0, sI 0, sU, sU, sU]) (st' := [(.ref x)]) rfl rfl (pc' := 379) rfl ?_
      have hxe : ([d0, d1, d2, d3, d4, c0] : List Int32) = [47, 112, 117, 98, 47, c0] := by rw [HP.1, HP.2.1, HP.2.2.1, HP.2.2.2.1, HP.2.2.2.2]
      have Fx : Str Z h0 x [47, 112, 117, 98, 47, c0] := hxe ▸ F
      obtain ⟨v112, T112, L112, h112, vm112, W112, ⟨o, lo, nm, z, rfl, E112, X112, F112, Xl112, Fl112, Gl112, Xn112, Fn112, Sz112⟩, C112, st112⟩ := oCallS W0 (idx := 28) (pc := 379) (ls := #[sI i0, sI i1, sI i2, sI i3, sI i4, sI i5, sI sb, sI po, sR a, sI 1, sI 0, sI 6, sR x, sR y, sI 1, sI s0, sI 0, sU, sU, sU]) (st := []) (argsL := [(.ref x)]) (c_pa11 K H Fx qa0 hdot) (fun x hx => nomatch hx) (wK K 38 rfl) (wK K 39 rfl) (wK K 40 rfl) (wK K 41 rfl) (by decide) (na := 1) rfl (by decide +kernel) rfl (stk := [(.ref x)]) rfl (by decide +kernel) (V := 0) (lb rfl) (lb rfl) (lb rfl) (lb rfl) (lb rfl)
      refine oLift st112 ?_
      show OG _ _ _ _ _ _ _ _ _ _ _ (mkF m 382 #[sI i0, sI i1, sI i2, sI i3, sI i4, sI i5, sI sb, sI po, sR a, sI 1, sI 0, sI 6, sR x, sR y, sI 1, sI s0, sI 0, sU, sU, sU] [(.ref o)])
      refine oGo W112 [.astore 17, .iload 14] (by decide +kernel) (ls' := #[sI i0, sI i1, sI i2, sI i3, sI i4, sI i5, sI sb, sI po, sR a, sI 1, sI 0, sI 6, sR x, sR y, sI 1, sI s0, sI 0, sR o, sU, sU]) (st' := [(.int 1)]) rfl rfl (pc' := 386) rfl ?_
      refine oIfT W112 (cd := .ne) (o := 22) (by decide +kernel) (XT.i0_ne_t (by decide)) (pc' := 408) (by decide) (by decide) ?_
      refine oGo W112 [.aload 17] (by decide +kernel) (ls' := #[sI i0, sI i1, sI i2, sI i3, sI i4, sI i5, sI sb, sI po, sR a, sI 1, sI 0, sI 6, sR x, sR y, sI 1, sI s0, sI 0, sR o, sU, sU]) (st' := [(.ref o)]) rfl rfl (pc' := 410) rfl ?_
      obtain ⟨v113, T113, L113, h113, vm113, W113, ⟨rfl, e113⟩, C113, st113⟩ := oCallV W112 (idx := 34) (pc := 410) (ls := #[sI i0, sI i1, sI i2, sI i3, sI i4, sI i5, sI sb, sI po, sR a, sI 1, sI 0, sI 6, sR x, sR y, sI 1, sI s0, sI 0, sR o, sU, sU]) (st := []) (argsL := []) X112 (c_op1 K F112) (fun x hx => nomatch hx) (wK K 91 rfl) (wK K 92 rfl) (notFace_of_selects (args := #[]) (mvT W112.warm (wK K 94 rfl))) (wK K 94 rfl) (wK K 93 rfl) (wK K 88 rfl) (wK K 95 rfl) (by decide) (na := 0) rfl (by decide +kernel) rfl (stk := [(.ref o)]) rfl (by decide +kernel) (V := 0) (lb rfl) (lb rfl) (lb rfl) (lb rfl) (lb rfl)
      refine oLift st113 ?_
      rw [e113] at W113 C113
      show OG _ _ _ _ _ _ _ _ _ _ _ (mkF m 413 #[sI i0, sI i1, sI i2, sI i3, sI i4, sI i5, sI sb, sI po, sR a, sI 1, sI 0, sI 6, sR x, sR y, sI 1, sI s0, sI 0, sR o, sU, sU] [(.int 1)])
      refine oIfT W113 (cd := .ne) (o := 5) (by decide +kernel) (XT.i0_ne_t (by decide)) (pc' := 418) (by decide) (by decide) ?_
      refine oGo W113 [.aload 17] (by decide +kernel) (ls' := #[sI i0, sI i1, sI i2, sI i3, sI i4, sI i5, sI sb, sI po, sR a, sI 1, sI 0, sI 6, sR x, sR y, sI 1, sI s0, sI 0, sR o, sU, sU]) (st' := [(.ref o)]) rfl rfl (pc' := 420) rfl ?_
      obtain ⟨v114, T114, L114, h114, vm114, W114, ⟨rfl, e114⟩, C114, st114⟩ := oCallV W113 (idx := 40) (pc := 420) (ls := #[sI i0, sI i1, sI i2, sI i3, sI i4, sI i5, sI sb, sI po, sR a, sI 1, sI 0, sI 6, sR x, sR y, sI 1, sI s0, sI 0, sR o, sU, sU]) (st := []) (argsL := []) X112 (c_oge K F112) (fun x hx => nomatch hx) (wK K 228 rfl) (wK K 229 rfl) (notFace_of_selects (args := #[]) (mvT W113.warm (wK K 231 rfl))) (wK K 231 rfl) (wK K 230 rfl) (wK K 88 rfl) (wK K 232 rfl) (by decide) (na := 0) rfl (by decide +kernel) rfl (stk := [(.ref o)]) rfl (by decide +kernel) (V := 0) (lb rfl) (lb rfl) (lb rfl) (lb rfl) (lb rfl)
      refine oLift st114 ?_
      rw [e114] at W114 C114
      show OG _ _ _ _ _ _ _ _ _ _ _ (mkF m 423 #[sI i0, sI i1, sI i2, sI i3, sI i4, sI i5, sI sb, sI po, sR a, sI 1, sI 0, sI 6, sR x, sR y, sI 1, sI s0, sI 0, sR o, sU, sU] [(.ref lo)])
      obtain ⟨T115, W115, st115⟩ := oCast W114 (pc := 423) (ls := #[sI i0, sI i1, sI i2, sI i3, sI i4, sI i5, sI sb, sI po, sR a, sI 1, sI 0, sI 6, sR x, sR y, sI 1, sI s0, sI 0, sR o, sU, sU]) (st := []) (wK K 233 rfl) (Ins.self Xl112) (by decide +kernel)
      refine oLift st115 ?_
      refine oGo W115 [.astore 18, .iload 14] (by decide +kernel) (ls' := #[sI i0, sI i1, sI i2, sI i3, sI i4, sI i5, sI sb, sI po, sR a, sI 1, sI 0, sI 6, sR x, sR y, sI 1, sI s0, sI 0, sR o, sR lo, sU]) (st' := [(.int 1)]) rfl rfl (pc' := 430) rfl ?_
      refine oIfF W115 (cd := .eq) (o := 9) (by decide +kernel) (XT.i0_eq_f (by decide)) (pc' := 433) rfl ?_
      obtain ⟨T116, W116, st116⟩ := oGetS W115 (pc := 433) (ls := #[sI i0, sI i1, sI i2, sI i3, sI i4, sI i5, sI sb, sI po, sR a, sI 1, sI 0, sI 6, sR x, sR y, sI 1, sI s0, sI 0, sR o, sR lo, sU]) (st := []) (wK K 343 rfl) Via.refl (Sr1.ext W115.ext) (by decide +kernel)
      refine oLift st116 ?_
      refine oGo W116 [.goto 6, .astore 19, .aload 18] (by decide +kernel) (ls' := #[sI i0, sI i1, sI i2, sI i3, sI i4, sI i5, sI sb, sI po, sR a, sI 1, sI 0, sI 6, sR x, sR y, sI 1, sI s0, sI 0, sR o, sR lo, sR r1]) (st' := [(.ref lo)]) rfl rfl (pc' := 446) rfl ?_
      obtain ⟨v117, T117, L117, h117, vm117, W117, ⟨rfl, e117⟩, C117, st117⟩ := oCallV W116 (idx := 53) (pc := 446) (ls := #[sI i0, sI i1, sI i2, sI i3, sI i4, sI i5, sI sb, sI po, sR a, sI 1, sI 0, sI 6, sR x, sR y, sI 1, sI s0, sI 0, sR o, sR lo, sR r1]) (st := []) (argsL := []) Xl112 (c_grole K Fl112) (fun x hx => nomatch hx) (wK K 236 rfl) (wK K 237 rfl) (notFace_of_selects (args := #[]) (mvT W116.warm (wK K 239 rfl))) (wK K 239 rfl) (wK K 238 rfl) (wK K 40 rfl) (wK K 240 rfl) (by decide) (na := 0) rfl (by decide +kernel) rfl (stk := [(.ref lo)]) rfl (by decide +kernel) (V := 0) (lb rfl) (lb rfl) (lb rfl) (lb rfl) (lb rfl)
      refine oLift st117 ?_
      rw [e117] at W117 C117
      show OG _ _ _ _ _ _ _ _ _ _ _ (mkF m 449 #[sI i0, sI i1, sI i2, sI i3, sI i4, sI i5, sI sb, sI po, sR a, sI 1, sI 0, sI 6, sR x, sR y, sI 1, sI s0, sI 0, sR o, sR lo, sR r1] [(.ref r1)])
      refine oGo W117 [.aload 19] (by decide +kernel) (ls' := #[sI i0, sI i1, sI i2, sI i3, sI i4, sI i5, sI sb, sI po, sR a, sI 1, sI 0, sI 6, sR x, sR y, sI 1, sI s0, sI 0, sR o, sR lo, sR r1]) (st' := [(.ref r1), (.ref r1)]) rfl rfl (pc' := 451) rfl ?_
      refine oAcF W117 (cd := .ne) (o := 36) (by decide +kernel) rfl rfl (by simp [XT.acmp]) (pc' := 454) rfl ?_
      refine oGo W117 [.aload 18] (by decide +kernel) (ls' := #[sI i0, sI i1, sI i2, sI i3, sI i4, sI i5, sI sb, sI po, sR a, sI 1, sI 0, sI 6, sR x, sR y, sI 1, sI s0, sI 0, sR o, sR lo, sR r1]) (st' := [(.ref lo)]) rfl rfl (pc' := 456) rfl ?_
      obtain ⟨v118, T118, L118, h118, vm118, W118, ⟨rfl, e118⟩, C118, st118⟩ := oCallV W117 (idx := 57) (pc := 456) (ls := #[sI i0, sI i1, sI i2, sI i3, sI i4, sI i5, sI sb, sI po, sR a, sI 1, sI 0, sI 6, sR x, sR y, sI 1, sI s0, sI 0, sR o, sR lo, sR r1]) (st := []) (argsL := []) Xl112 (c_gchannel K Gl112) (fun x hx => nomatch hx) (wK K 241 rfl) (wK K 242 rfl) (notFace_of_selects (args := #[]) (mvT W117.warm (wK K 244 rfl))) (wK K 244 rfl) (wK K 243 rfl) (wK K 40 rfl) (wK K 245 rfl) (by decide) (na := 0) rfl (by decide +kernel) rfl (stk := [(.ref lo)]) rfl (by decide +kernel) (V := 0) (lb rfl) (lb rfl) (lb rfl) (lb rfl) (lb rfl)
      refine oLift st118 ?_
      rw [e118] at W118 C118
      show OG _ _ _ _ _ _ _ _ _ _ _ (mkF m 459 #[sI i0, sI i1, sI i2, sI i3, sI i4, sI i5, sI sb, sI po, sR a, sI 1, sI 0, sI 6, sR x, sR y, sI 1, sI s0, sI 0, sR o, sR lo, sR r1] [(.ref nm)])
      obtain ⟨v119, T119, L119, h119, vm119, W119, ⟨rfl, e119⟩, C119, st119⟩ := oCallV W118 (idx := 61) (pc := 459) (ls := #[sI i0, sI i1, sI i2, sI i3, sI i4, sI i5, sI sb, sI po, sR a, sI 1, sI 0, sI 6, sR x, sR y, sI 1, sI s0, sI 0, sR o, sR lo, sR r1]) (st := []) (argsL := []) Xn112 (c_cnv K Fn112) (fun x hx => nomatch hx) (wK K 246 rfl) (wK K 247 rfl) (notFace_of_selects (args := #[]) (mvT W118.warm (wK K 249 rfl))) (wK K 249 rfl) (wK K 248 rfl) (wK K 169 rfl) (wK K 250 rfl) (by decide) (na := 0) rfl (by decide +kernel) rfl (stk := [(.ref nm)]) rfl (by decide +kernel) (V := 0) (lb rfl) (lb rfl) (lb rfl) (lb rfl) (lb rfl)
      refine oLift st119 ?_
      rw [e119] at W119 C119
      show OG _ _ _ _ _ _ _ _ _ _ _ (mkF m 462 #[sI i0, sI i1, sI i2, sI i3, sI i4, sI i5, sI sb, sI po, sR a, sI 1, sI 0, sI 6, sR x, sR y, sI 1, sI s0, sI 0, sR o, sR lo, sR r1] [(.ref z)])
      refine oGo W119 [.aload 13] (by decide +kernel) (ls' := #[sI i0, sI i1, sI i2, sI i3, sI i4, sI i5, sI sb, sI po, sR a, sI 1, sI 0, sI 6, sR x, sR y, sI 1, sI s0, sI 0, sR o, sR lo, sR r1]) (st' := [(.ref y), (.ref z)]) rfl rfl (pc' := 464) rfl ?_
      obtain ⟨v120, T120, L120, h120, vm120, W120, ⟨rfl, e120⟩, C120, st120⟩ := oCallV W119 (idx := 67) (pc := 464) (ls := #[sI i0, sI i1, sI i2, sI i3, sI i4, sI i5, sI sb, sI po, sR a, sI 1, sI 0, sI 6, sR x, sR y, sI 1, sI s0, sI 0, sR o, sR lo, sR r1]) (st := []) (argsL := [(.ref y)]) Sz112.exa (k_Eq K.2.1 K.2.2.2.2.1 (lb rfl) (lb rfl) Sz112 (Gy.ext E112)) (fun x hx => nomatch hx) (wK K 251 rfl) (wK K 196 rfl) (notFace_of_selects (args := #[]) (mvT W119.warm (wK K 198 rfl))) (wK K 198 rfl) (wK K 197 rfl) (wK K 11 rfl) (wK K 199 rfl) (by decide) (na := 1) rfl (by decide +kernel) rfl (stk := [(.ref y), (.ref z)]) rfl (by decide +kernel) (V := 0) (lb rfl) (lb rfl) (lb rfl) (lb rfl) (lb rfl)
      refine oLift st120 ?_
      rw [e120] at W120 C120
      show OG _ _ _ _ _ _ _ _ _ _ _ (mkF m 467 #[sI i0, sI i1, sI i2, sI i3, sI i4, sI i5, sI sb, sI po, sR a, sI 1, sI 0, sI 6, sR x, sR y, sI 1, sI s0, sI 0, sR o, sR lo, sR r1] [(.int (if ([c0] : List Int32) = [c0] then 1 else 0))])
      refine oIfF W120 (cd := .eq) (o := 20) (by decide +kernel) (XT.i0_eq_f (by rw [if_pos rfl]; decide)) (pc' := 470) rfl ?_
      refine oGo W120 [.aload 18] (by decide +kernel) (ls' := #[sI i0, sI i1, sI i2, sI i3, sI i4, sI i5, sI sb, sI po, sR a, sI 1, sI 0, sI 6, sR x, sR y, sI 1, sI s0, sI 0, sR o, sR lo, sR r1]) (st' := [(.ref lo)]) rfl rfl (pc' := 472) rfl ?_
      obtain ⟨v121, T121, L121, h121, vm121, W121, ⟨y2, rfl, F121, E121⟩, C121, st121⟩ := oCallV W120 (idx := 71) (pc := 472) (ls := #[sI i0, sI i1, sI i2, sI i3, sI i4, sI i5, sI sb, sI po, sR a, sI 1, sI 0, sI 6, sR x, sR y, sI 1, sI s0, sI 0, sR o, sR lo, sR r1]) (st := []) (argsL := []) Xl112 (c_path K Fl112 Gl112 (Fr1.ext W120.ext) (Tr1.ext W120.ext) Xn112 Fn112 Sz112 (lb rfl)) (fun x hx => nomatch hx) (wK K 252 rfl) (wK K 253 rfl) (notFace_of_selects (args := #[]) (mvT W120.warm (wK K 255 rfl))) (wK K 255 rfl) (wK K 254 rfl) (wK K 40 rfl) (wK K 256 rfl) (by decide) (na := 0) rfl (by decide +kernel) rfl (stk := [(.ref lo)]) rfl (by decide +kernel) (V := 0) (lb rfl) (lb rfl) (lb rfl) (lb rfl) (lb rfl)
      refine oLift st121 ?_
      show OG _ _ _ _ _ _ _ _ _ _ _ (mkF m 475 #[sI i0, sI i1, sI i2, sI i3, sI i4, sI i5, sI sb, sI po, sR a, sI 1, sI 0, sI 6, sR x, sR y, sI 1, sI s0, sI 0, sR o, sR lo, sR r1] [(.ref y2)])
      have Fy2 : Str Z h121 y2 [47, 112, 117, 98, 47, c0] := F121
      refine oGo W121 [.aload 12] (by decide +kernel) (ls' := #[sI i0, sI i1, sI i2, sI i3, sI i4, sI i5, sI sb, sI po, sR a, sI 1, sI 0, sI 6, sR x, sR y, sI 1, sI s0, sI 0, sR o, sR lo, sR r1]) (st' := [(.ref x), (.ref y2)]) rfl rfl (pc' := 477) rfl ?_
      obtain ⟨v122, T122, L122, h122, vm122, W122, ⟨rfl, e122⟩, C122, st122⟩ := oCallV W121 (idx := 67) (pc := 477) (ls := #[sI i0, sI i1, sI i2, sI i3, sI i4, sI i5, sI sb, sI po, sR a, sI 1, sI 0, sI 6, sR x, sR y, sI 1, sI s0, sI 0, sR o, sR lo, sR r1]) (st := []) (argsL := [(.ref x)]) Fy2.exa (k_Eq K.2.1 K.2.2.2.2.1 (lb rfl) (lb rfl) Fy2 ((Fx.ext E112).ext E121)) (fun x hx => nomatch hx) (wK K 251 rfl) (wK K 196 rfl) (notFace_of_selects (args := #[]) (mvT W121.warm (wK K 198 rfl))) (wK K 198 rfl) (wK K 197 rfl) (wK K 11 rfl) (wK K 199 rfl) (by decide) (na := 1) rfl (by decide +kernel) rfl (stk := [(.ref x), (.ref y2)]) rfl (by decide +kernel) (V := 0) (lb rfl) (lb rfl) (lb rfl) (lb rfl) (lb rfl)
      refine oLift st122 ?_
      rw [e122] at W122 C122
      show OG _ _ _ _ _ _ _ _ _ _ _ (mkF m 480 #[sI i0, sI i1, sI i2, sI i3, sI i4, sI i5, sI sb, sI po, sR a, sI 1, sI 0, sI 6, sR x, sR y, sI 1, sI s0, sI 0, sR o, sR lo, sR r1] [(.int (if ([47, 112, 117, 98, 47, c0] : List Int32) = [47, 112, 117, 98, 47, c0] then 1 else 0))])
      refine oIfF W122 (cd := .eq) (o := 7) (by decide +kernel) (XT.i0_eq_f (by rw [if_pos rfl]; decide)) (pc' := 483) rfl ?_
      refine oGo W122 [.iconst 1, .goto 4] (by decide +kernel) (ls' := #[sI i0, sI i1, sI i2, sI i3, sI i4, sI i5, sI sb, sI po, sR a, sI 1, sI 0, sI 6, sR x, sR y, sI 1, sI s0, sI 0, sR o, sR lo, sR r1]) (st' := [(.int 1)]) rfl rfl (pc' := 488) rfl ?_
      exact oRetN (by simp) W122 rfl (by decide +kernel) (lb rfl) (lb rfl) (fun vm' hv => rfl)
  · rcases hs0 with ⟨rfl, HQ⟩ | ⟨rfl, HQ⟩
    · rcases hdt with ⟨rfl, -⟩ | ⟨rfl, hdot⟩
      · refine oGo W0 [.iload 14] (by decide +kernel) (ls' := #[sI i0, sI i1, sI i2, sI i3, sI i4, sI i5, sI sb, sI po, sR a, sI 1, sI 0, sI 6, sR x, sR y, sI 0, sI 1, sI 1, sU, sU, sU]) (st' := [(.int 0)]) rfl rfl (pc' := 362) rfl ?_
        refine oIfF W0 (cd := .ne) (o := 8) (by decide +kernel) (XT.i0_ne_f (by decide)) (pc' := 365) rfl ?_
        refine oGo W0 [.iload 15] (by decide +kernel) (ls' := #[sI i0, sI i1, sI i2, sI i3, sI i4, sI i5, sI sb, sI po, sR a, sI 1, sI 0, sI 6, sR x, sR y, sI 0, sI 1, sI 1, sU, sU, sU]) (st' := [(.int 1)]) rfl rfl (pc' := 367) rfl ?_
        refine oIfF W0 (cd := .eq) (o := 10) (by decide +kernel) (XT.i0_eq_f (by decide)) (pc' := 370) rfl ?_
        refine oGo W0 [.iload 16] (by decide +kernel) (ls' := #[sI i0, sI i1, sI i2, sI i3, sI i4, sI i5, sI sb, sI po, sR a, sI 1, sI 0, sI 6, sR x, sR y, sI 0, sI 1, sI 1, sU, sU, sU]) (st' := [(.int 1)]) rfl rfl (pc' := 372) rfl ?_
        refine oIfF W0 (cd := .eq) (o := 5) (by decide +kernel) (XT.i0_eq_f (by decide)) (pc' := 375) rfl ?_
        refine oGo W0 [.iconst 1] (by decide +kernel) (ls' := #[sI i0, sI i1, sI i2, sI i3, sI i4, sI i5, sI sb, sI po, sR a, sI 1, sI 0, sI 6, sR x, sR y, sI 0, sI 1, sI 1, sU, sU, sU]) (st' := [(.int 1)]) rfl rfl (pc' := 376) rfl ?_
        exact oRetN (by simp) W0 rfl (by decide +kernel) (lb rfl) (lb rfl) (fun vm' hv => rfl)
      · refine oGo W0 [.iload 14] (by decide +kernel) (ls' := #[sI i0, sI i1, sI i2, sI i3, sI i4, sI i5, sI sb, sI po, sR a, sI 1, sI 0, sI 6, sR x, sR y, sI 0, sI 1, sI 0, sU, sU, sU]) (st' := [(.int 0)]) rfl rfl (pc' := 362) rfl ?_
        refine oIfF W0 (cd := .ne) (o := 8) (by decide +kernel) (XT.i0_ne_f (by decide)) (pc' := 365) rfl ?_
        refine oGo W0 [.iload 15] (by decide +kernel) (ls' := #[sI i0, sI i1, sI i2, sI i3, sI i4, sI i5, sI sb, sI po, sR a, sI 1, sI 0, sI 6, sR x, sR y, sI 0, sI 1, sI 0, sU, sU, sU]) (st' := [(.int 1)]) rfl rfl (pc' := 367) rfl ?_
        refine oIfF W0 (cd := .eq) (o := 10) (by decide +kernel) (XT.i0_eq_f (by decide)) (pc' := 370) rfl ?_
        refine oGo W0 [.iload 16] (by decide +kernel) (ls' := #[sI i0, sI i1, sI i2, sI i3, sI i4, sI i5, sI sb, sI po, sR a, sI 1, sI 0, sI 6, sR x, sR y, sI 0, sI 1, sI 0, sU, sU, sU]) (st' := [(.int 0)]) rfl rfl (pc' := 372) rfl ?_
        refine oIfT W0 (cd := .eq) (o := 5) (by decide +kernel) (XT.i0_eq_t (by decide)) (pc' := 377) (by decide) (by decide) ?_
        refine oGo W0 [.aload 12] (by decide +kernel) (ls' := #[sI i0, sI i1, sI i2, sI i3, sI i4, sI i5, sI sb, sI po, sR a, sI 1, sI 0, sI 6, sR x, sR y, sI 0, sI 1, sI 0, sU, sU, sU]) (st' := [(.ref x)]) rfl rfl (pc' := 379) rfl ?_
        have hxe : ([d0, d1, d2, d3, d4, c0] : List Int32) = [47, 115, 117, 98, 47, c0] := by rw [HQ.1, HQ.2.1, HQ.2.2.1, HQ.2.2.2.1, HQ.2.2.2.2]
        have Fx : Str Z h0 x [47, 115, 117, 98, 47, c0] := hxe ▸ F
        obtain ⟨v123, T123, L123, h123, vm123, W123, ⟨o, lo, nm, z, rfl, E123, X123, F123, Xl123, Fl123, Gl123, Xn123, Fn123, Sz123⟩, C123, st123⟩ := oCallS W0 (idx := 28) (pc := 379) (ls := #[sI i0, sI i1, sI i2, sI i3, sI i4, sI i5, sI sb, sI po, sR a, sI 1, sI 0, sI 6, sR x, sR y, sI 0, sI 1, sI 0, sU, sU, sU]) (st := []) (argsL := [(.ref x)]) (c_pa01 K H Fx qa0 hdot) (fun x hx => nomatch hx) (wK K 38 rfl) (wK K 39 rfl) (wK K 40 rfl) (wK K 41 rfl) (by decide) (na := 1) rfl (by decide +kernel) rfl (stk := [(.ref x)]) rfl (by decide +kernel) (V := 0) (lb rfl) (lb rfl) (lb rfl) (lb rfl) (lb rfl)
        refine oLift st123 ?_
        show OG _ _ _ _ _ _ _ _ _ _ _ (mkF m 382 #[sI i0, sI i1, sI i2, sI i3, sI i4, sI i5, sI sb, sI po, sR a, sI 1, sI 0, sI 6, sR x, sR y, sI 0, sI 1, sI 0, sU, sU, sU] [(.ref o)])
        refine oGo W123 [.astore 17, .iload 14] (by decide +kernel) (ls' := #[sI i0, sI i1, sI i2, sI i3, sI i4, sI i5, sI sb, sI po, sR a, sI 1, sI 0, sI 6, sR x, sR y, sI 0, sI 1, sI 0, sR o, sU, sU]) (st' := [(.int 0)]) rfl rfl (pc' := 386) rfl ?_
        refine oIfF W123 (cd := .ne) (o := 22) (by decide +kernel) (XT.i0_ne_f (by decide)) (pc' := 389) rfl ?_
        refine oGo W123 [.iload 15] (by decide +kernel) (ls' := #[sI i0, sI i1, sI i2, sI i3, sI i4, sI i5, sI sb, sI po, sR a, sI 1, sI 0, sI 6, sR x, sR y, sI 0, sI 1, sI 0, sR o, sU, sU]) (st' := [(.int 1)]) rfl rfl (pc' := 391) rfl ?_
        refine oIfT W123 (cd := .ne) (o := 17) (by decide +kernel) (XT.i0_ne_t (by decide)) (pc' := 408) (by decide) (by decide) ?_
        refine oGo W123 [.aload 17] (by decide +kernel) (ls' := #[sI i0, sI i1, sI i2, sI i3, sI i4, sI i5, sI sb, sI po, sR a, sI 1, sI 0, sI 6, sR x, sR y, sI 0, sI 1, sI 0, sR o, sU, sU]) (st' := [(.ref o)]) rfl rfl (pc' := 410) rfl ?_
        obtain ⟨v124, T124, L124, h124, vm124, W124, ⟨rfl, e124⟩, C124, st124⟩ := oCallV W123 (idx := 34) (pc := 410) (ls := #[sI i0, sI i1, sI i2, sI i3, sI i4, sI i5, sI sb, sI po, sR a, sI 1, sI 0, sI 6, sR x, sR y, sI 0, sI 1, sI 0, sR o, sU, sU]) (st := []) (argsL := []) X123 (c_op1 K F123) (fun x hx => nomatch hx) (wK K 91 rfl) (wK K 92 rfl) (notFace_of_selects (args := #[]) (mvT W123.warm (wK K 94 rfl))) (wK K 94 rfl) (wK K 93 rfl) (wK K 88 rfl) (wK K 95 rfl) (by decide) (na := 0) rfl (by decide +kernel) rfl (stk := [(.ref o)]) rfl (by decide +kernel) (V := 0) (lb rfl) (lb rfl) (lb rfl) (lb rfl) (lb rfl)
        refine oLift st124 ?_
        rw [e124] at W124 C124
        show OG _ _ _ _ _ _ _ _ _ _ _ (mkF m 413 #[sI i0, sI i1, sI i2, sI i3, sI i4, sI i5, sI sb, sI po, sR a, sI 1, sI 0, sI 6, sR x, sR y, sI 0, sI 1, sI 0, sR o, sU, sU] [(.int 1)])
        refine oIfT W124 (cd := .ne) (o := 5) (by decide +kernel) (XT.i0_ne_t (by decide)) (pc' := 418) (by decide) (by decide) ?_
        refine oGo W124 [.aload 17] (by decide +kernel) (ls' := #[sI i0, sI i1, sI i2, sI i3, sI i4, sI i5, sI sb, sI po, sR a, sI 1, sI 0, sI 6, sR x, sR y, sI 0, sI 1, sI 0, sR o, sU, sU]) (st' := [(.ref o)]) rfl rfl (pc' := 420) rfl ?_
        obtain ⟨v125, T125, L125, h125, vm125, W125, ⟨rfl, e125⟩, C125, st125⟩ := oCallV W124 (idx := 40) (pc := 420) (ls := #[sI i0, sI i1, sI i2, sI i3, sI i4, sI i5, sI sb, sI po, sR a, sI 1, sI 0, sI 6, sR x, sR y, sI 0, sI 1, sI 0, sR o, sU, sU]) (st := []) (argsL := []) X123 (c_oge K F123) (fun x hx => nomatch hx) (wK K 228 rfl) (wK K 229 rfl) (notFace_of_selects (args := #[]) (mvT W124.warm (wK K 231 rfl))) (wK K 231 rfl) (wK K 230 rfl) (wK K 88 rfl) (wK K 232 rfl) (by decide) (na := 0) rfl (by decide +kernel) rfl (stk := [(.ref o)]) rfl (by decide +kernel) (V := 0) (lb rfl) (lb rfl) (lb rfl) (lb rfl) (lb rfl)
        refine oLift st125 ?_
        rw [e125] at W125 C125
        show OG _ _ _ _ _ _ _ _ _ _ _ (mkF m 423 #[sI i0, sI i1, sI i2, sI i3, sI i4, sI i5, sI sb, sI po, sR a, sI 1, sI 0, sI 6, sR x, sR y, sI 0, sI 1, sI 0, sR o, sU, sU] [(.ref lo)])
        obtain ⟨T126, W126, st126⟩ := oCast W125 (pc := 423) (ls := #[sI i0, sI i1, sI i2, sI i3, sI i4, sI i5, sI sb, sI po, sR a, sI 1, sI 0, sI 6, sR x, sR y, sI 0, sI 1, sI 0, sR o, sU, sU]) (st := []) (wK K 233 rfl) (Ins.self Xl123) (by decide +kernel)
        refine oLift st126 ?_
        refine oGo W126 [.astore 18, .iload 14] (by decide +kernel) (ls' := #[sI i0, sI i1, sI i2, sI i3, sI i4, sI i5, sI sb, sI po, sR a, sI 1, sI 0, sI 6, sR x, sR y, sI 0, sI 1, sI 0, sR o, sR lo, sU]) (st' := [(.int 0)]) rfl rfl (pc' := 430) rfl ?_
        refine oIfT W126 (cd := .eq) (o := 9) (by decide +kernel) (XT.i0_eq_t (by decide)) (pc' := 439) (by decide) (by decide) ?_
        obtain ⟨T127, W127, st127⟩ := oGetS W126 (pc := 439) (ls := #[sI i0, sI i1, sI i2, sI i3, sI i4, sI i5, sI sb, sI po, sR a, sI 1, sI 0, sI 6, sR x, sR y, sI 0, sI 1, sI 0, sR o, sR lo, sU]) (st := []) (wK K 235 rfl) Via.refl (Sr0.ext W126.ext) (by decide +kernel)
        refine oLift st127 ?_
        refine oGo W127 [.astore 19, .aload 18] (by decide +kernel) (ls' := #[sI i0, sI i1, sI i2, sI i3, sI i4, sI i5, sI sb, sI po, sR a, sI 1, sI 0, sI 6, sR x, sR y, sI 0, sI 1, sI 0, sR o, sR lo, sR r0]) (st' := [(.ref lo)]) rfl rfl (pc' := 446) rfl ?_
        obtain ⟨v128, T128, L128, h128, vm128, W128, ⟨rfl, e128⟩, C128, st128⟩ := oCallV W127 (idx := 53) (pc := 446) (ls := #[sI i0, sI i1, sI i2, sI i3, sI i4, sI i5, sI sb, sI po, sR a, sI 1, sI 0, sI 6, sR x, sR y, sI 0, sI 1, sI 0, sR o, sR lo, sR r0]) (st := []) (argsL := []) Xl123 (c_grole K Fl123) (fun x hx => nomatch hx) (wK K 236 rfl) (wK K 237 rfl) (notFace_of_selects (args := #[]) (mvT W127.warm (wK K 239 rfl))) (wK K 239 rfl) (wK K 238 rfl) (wK K 40 rfl) (wK K 240 rfl) (by decide) (na := 0) rfl (by decide +kernel) rfl (stk := [(.ref lo)]) rfl (by decide +kernel) (V := 0) (lb rfl) (lb rfl) (lb rfl) (lb rfl) (lb rfl)
        refine oLift st128 ?_
        rw [e128] at W128 C128
        show OG _ _ _ _ _ _ _ _ _ _ _ (mkF m 449 #[sI i0, sI i1, sI i2, sI i3, sI i4, sI i5, sI sb, sI po, sR a, sI 1, sI 0, sI 6, sR x, sR y, sI 0, sI 1, sI 0, sR o, sR lo, sR r0] [(.ref r0)])
        refine oGo W128 [.aload 19] (by decide +kernel) (ls' := #[sI i0, sI i1, sI i2, sI i3, sI i4, sI i5, sI sb, sI po, sR a, sI 1, sI 0, sI 6, sR x, sR y, sI 0, sI 1, sI 0, sR o, sR lo, sR r0]) (st' := [(.ref r0), (.ref r0)]) rfl rfl (pc' := 451) rfl ?_
        refine oAcF W128 (cd := .ne) (o := 36) (by decide +kernel) rfl rfl (by simp [XT.acmp]) (pc' := 454) rfl ?_
        refine oGo W128 [.aload 18] (by decide +kernel) (ls' := #[sI i0, sI i1, sI i2, sI i3, sI i4, sI i5, sI sb, sI po, sR a, sI 1, sI 0, sI 6, sR x, sR y, sI 0, sI 1, sI 0, sR o, sR lo, sR r0]) (st' := [(.ref lo)]) rfl rfl (pc' := 456) rfl ?_
        obtain ⟨v129, T129, L129, h129, vm129, W129, ⟨rfl, e129⟩, C129, st129⟩ := oCallV W128 (idx := 57) (pc := 456) (ls := #[sI i0, sI i1, sI i2, sI i3, sI i4, sI i5, sI sb, sI po, sR a, sI 1, sI 0, sI 6, sR x, sR y, sI 0, sI 1, sI 0, sR o, sR lo, sR r0]) (st := []) (argsL := []) Xl123 (c_gchannel K Gl123) (fun x hx => nomatch hx) (wK K 241 rfl) (wK K 242 rfl) (notFace_of_selects (args := #[]) (mvT W128.warm (wK K 244 rfl))) (wK K 244 rfl) (wK K 243 rfl) (wK K 40 rfl) (wK K 245 rfl) (by decide) (na := 0) rfl (by decide +kernel) rfl (stk := [(.ref lo)]) rfl (by decide +kernel) (V := 0) (lb rfl) (lb rfl) (lb rfl) (lb rfl) (lb rfl)
        refine oLift st129 ?_
        rw [e129] at W129 C129
        show OG _ _ _ _ _ _ _ _ _ _ _ (mkF m 459 #[sI i0, sI i1, sI i2, sI i3, sI i4, sI i5, sI sb, sI po, sR a, sI 1, sI 0, sI 6, sR x, sR y, sI 0, sI 1, sI 0, sR o, sR lo, sR r0] [(.ref nm)])
        obtain ⟨v130, T130, L130, h130, vm130, W130, ⟨rfl, e130⟩, C130, st130⟩ := oCallV W129 (idx := 61) (pc := 459) (ls := #[sI i0, sI i1, sI i2, sI i3, sI i4, sI i5, sI sb, sI po, sR a, sI 1, sI 0, sI 6, sR x, sR y, sI 0, sI 1, sI 0, sR o, sR lo, sR r0]) (st := []) (argsL := []) Xn123 (c_cnv K Fn123) (fun x hx => nomatch hx) (wK K 246 rfl) (wK K 247 rfl) (notFace_of_selects (args := #[]) (mvT W129.warm (wK K 249 rfl))) (wK K 249 rfl) (wK K 248 rfl) (wK K 169 rfl) (wK K 250 rfl) (by decide) (na := 0) rfl (by decide +kernel) rfl (stk := [(.ref nm)]) rfl (by decide +kernel) (V := 0) (lb rfl) (lb rfl) (lb rfl) (lb rfl) (lb rfl)
        refine oLift st130 ?_
        rw [e130] at W130 C130
        show OG _ _ _ _ _ _ _ _ _ _ _ (mkF m 462 #[sI i0, sI i1, sI i2, sI i3, sI i4, sI i5, sI sb, sI po, sR a, sI 1, sI 0, sI 6, sR x, sR y, sI 0, sI 1, sI 0, sR o, sR lo, sR r0] [(.ref z)])
        refine oGo W130 [.aload 13] (by decide +kernel) (ls' := #[sI i0, sI i1, sI i2, sI i3, sI i4, sI i5, sI sb, sI po, sR a, sI 1, sI 0, sI 6, sR x, sR y, sI 0, sI 1, sI 0, sR o, sR lo, sR r0]) (st' := [(.ref y), (.ref z)]) rfl rfl (pc' := 464) rfl ?_
        obtain ⟨v131, T131, L131, h131, vm131, W131, ⟨rfl, e131⟩, C131, st131⟩ := oCallV W130 (idx := 67) (pc := 464) (ls := #[sI i0, sI i1, sI i2, sI i3, sI i4, sI i5, sI sb, sI po, sR a, sI 1, sI 0, sI 6, sR x, sR y, sI 0, sI 1, sI 0, sR o, sR lo, sR r0]) (st := []) (argsL := [(.ref y)]) Sz123.exa (k_Eq K.2.1 K.2.2.2.2.1 (lb rfl) (lb rfl) Sz123 (Gy.ext E123)) (fun x hx => nomatch hx) (wK K 251 rfl) (wK K 196 rfl) (notFace_of_selects (args := #[]) (mvT W130.warm (wK K 198 rfl))) (wK K 198 rfl) (wK K 197 rfl) (wK K 11 rfl) (wK K 199 rfl) (by decide) (na := 1) rfl (by decide +kernel) rfl (stk := [(.ref y), (.ref z)]) rfl (by decide +kernel) (V := 0) (lb rfl) (lb rfl) (lb rfl) (lb rfl) (lb rfl)
        refine oLift st131 ?_
        rw [e131] at W131 C131
        show OG _ _ _ _ _ _ _ _ _ _ _ (mkF m 467 #[sI i0, sI i1, sI i2, sI i3, sI i4, sI i5, sI sb, sI po, sR a, sI 1, sI 0, sI 6, sR x, sR y, sI 0, sI 1, sI 0, sR o, sR lo, sR r0] [(.int (if ([c0] : List Int32) = [c0] then 1 else 0))])
        refine oIfF W131 (cd := .eq) (o := 20) (by decide +kernel) (XT.i0_eq_f (by rw [if_pos rfl]; decide)) (pc' := 470) rfl ?_
        refine oGo W131 [.aload 18] (by decide +kernel) (ls' := #[sI i0, sI i1, sI i2, sI i3, sI i4, sI i5, sI sb, sI po, sR a, sI 1, sI 0, sI 6, sR x, sR y, sI 0, sI 1, sI 0, sR o, sR lo, sR r0]) (st' := [(.ref lo)]) rfl rfl (pc' := 472) rfl ?_
        obtain ⟨v132, T132, L132, h132, vm132, W132, ⟨y2, rfl, F132, E132⟩, C132, st132⟩ := oCallV W131 (idx := 71) (pc := 472) (ls := #[sI i0, sI i1, sI i2, sI i3, sI i4, sI i5, sI sb, sI po, sR a, sI 1, sI 0, sI 6, sR x, sR y, sI 0, sI 1, sI 0, sR o, sR lo, sR r0]) (st := []) (argsL := []) Xl123 (c_path K Fl123 Gl123 (Fr0.ext W131.ext) (Tr0.ext W131.ext) Xn123 Fn123 Sz123 (lb rfl)) (fun x hx => nomatch hx) (wK K 252 rfl) (wK K 253 rfl) (notFace_of_selects (args := #[]) (mvT W131.warm (wK K 255 rfl))) (wK K 255 rfl) (wK K 254 rfl) (wK K 40 rfl) (wK K 256 rfl) (by decide) (na := 0) rfl (by decide +kernel) rfl (stk := [(.ref lo)]) rfl (by decide +kernel) (V := 0) (lb rfl) (lb rfl) (lb rfl) (lb rfl) (lb rfl)
        refine oLift st132 ?_
        show OG _ _ _ _ _ _ _ _ _ _ _ (mkF m 475 #[sI i0, sI i1, sI i2, sI i3, sI i4, sI i5, sI sb, sI po, sR a, sI 1, sI 0, sI 6, sR x, sR y, sI 0, sI 1, sI 0, sR o, sR lo, sR r0] [(.ref y2)])
        have Fy2 : Str Z h132 y2 [47, 115, 117, 98, 47, c0] := F132
        refine oGo W132 [.aload 12] (by decide +kernel) (ls' := #[sI i0, sI i1, sI i2, sI i3, sI i4, sI i5, sI sb, sI po, sR a, sI 1, sI 0, sI 6, sR x, sR y, sI 0, sI 1, sI 0, sR o, sR lo, sR r0]) (st' := [(.ref x), (.ref y2)]) rfl rfl (pc' := 477) rfl ?_
        obtain ⟨v133, T133, L133, h133, vm133, W133, ⟨rfl, e133⟩, C133, st133⟩ := oCallV W132 (idx := 67) (pc := 477) (ls := #[sI i0, sI i1, sI i2, sI i3, sI i4, sI i5, sI sb, sI po, sR a, sI 1, sI 0, sI 6, sR x, sR y, sI 0, sI 1, sI 0, sR o, sR lo, sR r0]) (st := []) (argsL := [(.ref x)]) Fy2.exa (k_Eq K.2.1 K.2.2.2.2.1 (lb rfl) (lb rfl) Fy2 ((Fx.ext E123).ext E132)) (fun x hx => nomatch hx) (wK K 251 rfl) (wK K 196 rfl) (notFace_of_selects (args := #[]) (mvT W132.warm (wK K 198 rfl))) (wK K 198 rfl) (wK K 197 rfl) (wK K 11 rfl) (wK K 199 rfl) (by decide) (na := 1) rfl (by decide +kernel) rfl (stk := [(.ref x), (.ref y2)]) rfl (by decide +kernel) (V := 0) (lb rfl) (lb rfl) (lb rfl) (lb rfl) (lb rfl)
        refine oLift st133 ?_
        rw [e133] at W133 C133
        show OG _ _ _ _ _ _ _ _ _ _ _ (mkF m 480 #[sI i0, sI i1, sI i2, sI i3, sI i4, sI i5, sI sb, sI po, sR a, sI 1, sI 0, sI 6, sR x, sR y, sI 0, sI 1, sI 0, sR o, sR lo, sR r0] [(.int (if ([47, 115, 117, 98, 47, c0] : List Int32) = [47, 115, 117, 98, 47, c0] then 1 else 0))])
        refine oIfF W133 (cd := .eq) (o := 7) (by decide +kernel) (XT.i0_eq_f (by rw [if_pos rfl]; decide)) (pc' := 483) rfl ?_
        refine oGo W133 [.iconst 1, .goto 4] (by decide +kernel) (ls' := #[sI i0, sI i1, sI i2, sI i3, sI i4, sI i5, sI sb, sI po, sR a, sI 1, sI 0, sI 6, sR x, sR y, sI 0, sI 1, sI 0, sR o, sR lo, sR r0]) (st' := [(.int 1)]) rfl rfl (pc' := 488) rfl ?_
        exact oRetN (by simp) W133 rfl (by decide +kernel) (lb rfl) (lb rfl) (fun vm' hv => rfl)
    · refine oGo W0 [.iload 14] (by decide +kernel) (ls' := #[sI i0, sI i1, sI i2, sI i3, sI i4, sI i5, sI sb, sI po, sR a, sI 1, sI 0, sI 6, sR x, sR y, sI 0, sI 0, sI dt, sU, sU, sU]) (st' := [(.int 0)]) rfl rfl (pc' := 362) rfl ?_
      refine oIfF W0 (cd := .ne) (o := 8) (by decide +kernel) (XT.i0_ne_f (by decide)) (pc' := 365) rfl ?_
      refine oGo W0 [.iload 15] (by decide +kernel) (ls' := #[sI i0, sI i1, sI i2, sI i3, sI i4, sI i5, sI sb, sI po, sR a, sI 1, sI 0, sI 6, sR x, sR y, sI 0, sI 0, sI dt, sU, sU, sU]) (st' := [(.int 0)]) rfl rfl (pc' := 367) rfl ?_
      refine oIfT W0 (cd := .eq) (o := 10) (by decide +kernel) (XT.i0_eq_t (by decide)) (pc' := 377) (by decide) (by decide) ?_
      refine oGo W0 [.aload 12] (by decide +kernel) (ls' := #[sI i0, sI i1, sI i2, sI i3, sI i4, sI i5, sI sb, sI po, sR a, sI 1, sI 0, sI 6, sR x, sR y, sI 0, sI 0, sI dt, sU, sU, sU]) (st' := [(.ref x)]) rfl rfl (pc' := 379) rfl ?_
      obtain ⟨v134, T134, L134, h134, vm134, W134, ⟨rfl, E134⟩, C134, st134⟩ := oCallS W0 (idx := 28) (pc := 379) (ls := #[sI i0, sI i1, sI i2, sI i3, sI i4, sI i5, sI sb, sI po, sR a, sI 1, sI 0, sI 6, sR x, sR y, sI 0, sI 0, sI dt, sU, sU, sU]) (st := []) (argsL := [(.ref x)]) (c_pan K H HO F (lb rfl) HQ HP) (fun x hx => nomatch hx) (wK K 38 rfl) (wK K 39 rfl) (wK K 40 rfl) (wK K 41 rfl) (by decide) (na := 1) rfl (by decide +kernel) rfl (stk := [(.ref x)]) rfl (by decide +kernel) (V := 0) (lb rfl) (lb rfl) (lb rfl) (lb rfl) (lb rfl)
      refine oLift st134 ?_
      show OG _ _ _ _ _ _ _ _ _ _ _ (mkF m 382 #[sI i0, sI i1, sI i2, sI i3, sI i4, sI i5, sI sb, sI po, sR a, sI 1, sI 0, sI 6, sR x, sR y, sI 0, sI 0, sI dt, sU, sU, sU] [(.ref eo)])
      refine oGo W134 [.astore 17, .iload 14] (by decide +kernel) (ls' := #[sI i0, sI i1, sI i2, sI i3, sI i4, sI i5, sI sb, sI po, sR a, sI 1, sI 0, sI 6, sR x, sR y, sI 0, sI 0, sI dt, sR eo, sU, sU]) (st' := [(.int 0)]) rfl rfl (pc' := 386) rfl ?_
      refine oIfF W134 (cd := .ne) (o := 22) (by decide +kernel) (XT.i0_ne_f (by decide)) (pc' := 389) rfl ?_
      refine oGo W134 [.iload 15] (by decide +kernel) (ls' := #[sI i0, sI i1, sI i2, sI i3, sI i4, sI i5, sI sb, sI po, sR a, sI 1, sI 0, sI 6, sR x, sR y, sI 0, sI 0, sI dt, sR eo, sU, sU]) (st' := [(.int 0)]) rfl rfl (pc' := 391) rfl ?_
      refine oIfF W134 (cd := .ne) (o := 17) (by decide +kernel) (XT.i0_ne_f (by decide)) (pc' := 394) rfl ?_
      refine oGo W134 [.aload 17] (by decide +kernel) (ls' := #[sI i0, sI i1, sI i2, sI i3, sI i4, sI i5, sI sb, sI po, sR a, sI 1, sI 0, sI 6, sR x, sR y, sI 0, sI 0, sI dt, sR eo, sU, sU]) (st' := [(.ref eo)]) rfl rfl (pc' := 396) rfl ?_
      obtain ⟨v135, T135, L135, h135, vm135, W135, ⟨rfl, e135⟩, C135, st135⟩ := oCallV W134 (idx := 34) (pc := 396) (ls := #[sI i0, sI i1, sI i2, sI i3, sI i4, sI i5, sI sb, sI po, sR a, sI 1, sI 0, sI 6, sR x, sR y, sI 0, sI 0, sI dt, sR eo, sU, sU]) (st := []) (argsL := []) (HO.2.1.ext W134.ext) (c_op0 K (HO.2.2.ext W134.ext)) (fun x hx => nomatch hx) (wK K 91 rfl) (wK K 92 rfl) (notFace_of_selects (args := #[]) (mvT W134.warm (wK K 94 rfl))) (wK K 94 rfl) (wK K 93 rfl) (wK K 88 rfl) (wK K 95 rfl) (by decide) (na := 0) rfl (by decide +kernel) rfl (stk := [(.ref eo)]) rfl (by decide +kernel) (V := 0) (lb rfl) (lb rfl) (lb rfl) (lb rfl) (lb rfl)
      refine oLift st135 ?_
      rw [e135] at W135 C135
      show OG _ _ _ _ _ _ _ _ _ _ _ (mkF m 399 #[sI i0, sI i1, sI i2, sI i3, sI i4, sI i5, sI sb, sI po, sR a, sI 1, sI 0, sI 6, sR x, sR y, sI 0, sI 0, sI dt, sR eo, sU, sU] [(.int 0)])
      refine oIfF W135 (cd := .ne) (o := 7) (by decide +kernel) (XT.i0_ne_f (by decide)) (pc' := 402) rfl ?_
      refine oGo W135 [.iconst 1, .goto 4] (by decide +kernel) (ls' := #[sI i0, sI i1, sI i2, sI i3, sI i4, sI i5, sI sb, sI po, sR a, sI 1, sI 0, sI 6, sR x, sR y, sI 0, sI 0, sI dt, sR eo, sU, sU]) (st' := [(.int 1)]) rfl rfl (pc' := 407) rfl ?_
      exact oRetN (by simp) W135 rfl (by decide +kernel) (lb rfl) (lb rfl) (fun vm' hv => rfl)
set_option maxRecDepth 65536 in
set_option maxHeartbeats 40000000 in
theorem c_seg3_2 {l : Launch} {Z : State} {a0 : Array Value} (K : Ctx Z a0) {i0 i1 i2 i3 i4 i5 : Int32} {r0 r1 va : Addr} {kv : ClassId} {p0 p1 : Addr} (H : Rs Z r0 r1 va kv p0 p1) {sb po d0 d1 d2 d3 d4 c0 c1 c2 : Int32} {a x y : Addr} {ka : ClassId} {p : Program} {e : Env} {s : State} {m : MethodId} {args : Array Value} {below : List Frame} {meth : Method} {cc : Code} {h0 : Heap} {vm0 : Vm} {T0 : State} {lc : List Loc}
    (W0 : OW p l e room_1 s m args below meth cc Z a0 EL false "com/example/gentle_hub/gentlehub/server/ChannelLocationParsePinLaw" code 20 (some .boolean) "law" vm0 T0 lc 22 400 h0) (A : OA Z h0 a ka .char [.int d0, .int d1, .int d2, .int d3, .int d4, .int c0, .int c1, .int c2]) (F : Str Z h0 x [d0, d1, d2, d3, d4, c0, c1]) (Gy : Str Z h0 y [c0, c1]) (qa0 : Alw c0) (qa1 : Alw c1) (qa2 : Alw c2) :
    OG p e below s Z EL false (fun v _ h => v = some (.int 1)) room_1.cells room_1.slots T0 (mkF m 197 #[sI i0, sI i1, sI i2, sI i3, sI i4, sI i5, sI sb, sI po, sR a, sI 2, sI 0, sI 7, sR x, sR y, sU, sU, sU, sU, sU, sU] []) := by
  have hw := K.1
  have hS : ∀ a ∈ Bundle.stringAtoms, a.before a0 Z = true := K.2.2.1
  obtain ⟨⟨Sr0, Sr1⟩, ⟨SV, AV, XV⟩, ⟨Fr0, Fr1⟩, ⟨Tr0, Tr1⟩⟩ := id H
  obtain ⟨eo, HO⟩ := K.2.2.2.2.2
  refine oJn (fun r : Int32 => (r = 1 ∧ d0 = 47 ∧ d1 = 112 ∧ d2 = 117 ∧ d3 = 98 ∧ d4 = 47) ∨ (r = 0 ∧ ¬ (d0 = 47 ∧ d1 = 112 ∧ d2 = 117 ∧ d3 = 98 ∧ d4 = 47))) (fun r => mkF m 253 #[sI i0, sI i1, sI i2, sI i3, sI i4, sI i5, sI sb, sI po, sR a, sI 2, sI 0, sI 7, sR x, sR y, sU, sU, sU, sU, sU, sU] [.int r]) ?_ (fun J1 => ?_)
  rotate_left
  · refine oGo W0 [.iload 11, .iconst 5] (by decide +kernel) (ls' := #[sI i0, sI i1, sI i2, sI i3, sI i4, sI i5, sI sb, sI po, sR a, sI 2, sI 0, sI 7, sR x, sR y, sU, sU, sU, sU, sU, sU]) (st' := [(.int 5), (.int 7)]) rfl rfl (pc' := 200) rfl ?_
    refine oIcF W0 (cd := .lt) (o := 52) (by decide +kernel) (XT.ii_lt_f (by decide)) (pc' := 203) rfl ?_
    refine oGo W0 [.aload 8, .iconst 0] (by decide +kernel) (ls' := #[sI i0, sI i1, sI i2, sI i3, sI i4, sI i5, sI sb, sI po, sR a, sI 2, sI 0, sI 7, sR x, sR y, sU, sU, sU, sU, sU, sU]) (st' := [(.int 0), (.ref a)]) rfl rfl (pc' := 206) rfl ?_
    refine oGet W0 A (v := (.int d0)) (by decide) rfl (Or.inl ⟨rfl, rfl⟩) (by decide +kernel) ?_
    refine oGo W0 [.bipush 47] (by decide +kernel) (ls' := #[sI i0, sI i1, sI i2, sI i3, sI i4, sI i5, sI sb, sI po, sR a, sI 2, sI 0, sI 7, sR x, sR y, sU, sU, sU, sU, sU, sU]) (st' := [(.int 47), (.int d0)]) rfl rfl (pc' := 209) rfl ?_
    by_cases hc101 : d0 = (47 : Int32)
    rotate_left
    · refine oIcT W0 (cd := .ne) (o := 43) (by decide +kernel) (XT.ii_ne_t hc101) (pc' := 252) (by decide) (by decide) ?_
      refine oGo W0 [.iconst 0] (by decide +kernel) (ls' := #[sI i0, sI i1, sI i2, sI i3, sI i4, sI i5, sI sb, sI po, sR a, sI 2, sI 0, sI 7, sR x, sR y, sU, sU, sU, sU, sU, sU]) (st' := [(.int 0)]) rfl rfl (pc' := 253) rfl ?_
      exact J1 0 (Or.inr ⟨rfl, fun q => hc101 q.1⟩)
    refine oIcF W0 (cd := .ne) (o := 43) (by decide +kernel) (XT.ii_ne_f hc101) (pc' := 212) rfl ?_
    refine oGo W0 [.aload 8, .iconst 1] (by decide +kernel) (ls' := #[sI i0, sI i1, sI i2, sI i3, sI i4, sI i5, sI sb, sI po, sR a, sI 2, sI 0, sI 7, sR x, sR y, sU, sU, sU, sU, sU, sU]) (st' := [(.int 1), (.ref a)]) rfl rfl (pc' := 215) rfl ?_
    refine oGet W0 A (v := (.int d1)) (by decide) rfl (Or.inl ⟨rfl, rfl⟩) (by decide +kernel) ?_
    refine oGo W0 [.bipush 112] (by decide +kernel) (ls' := #[sI i0, sI i1, sI i2, sI i3, sI i4, sI i5, sI sb, sI po, sR a, sI 2, sI 0, sI 7, sR x, sR y, sU, sU, sU, sU, sU, sU]) (st' := [(.int 112), (.int d1)]) rfl rfl (pc' := 218) rfl ?_
    by_cases hc102 : d1 = (112 : Int32)
    rotate_left
    · refine oIcT W0 (cd := .ne) (o := 34) (by decide +kernel) (XT.ii_ne_t hc102) (pc' := 252) (by decide) (by decide) ?_
      refine oGo W0 [.iconst 0] (by decide +kernel) (ls' := #[sI i0, sI i1, sI i2, sI i3, sI i4, sI i5, sI sb, sI po, sR a, sI 2, sI 0, sI 7, sR x, sR y, sU, sU, sU, sU, sU, sU]) (st' := [(.int 0)]) rfl rfl (pc' := 253) rfl ?_
      exact J1 0 (Or.inr ⟨rfl, fun q => hc102 q.2.1⟩)
    refine oIcF W0 (cd := .ne) (o := 34) (by decide +kernel) (XT.ii_ne_f hc102) (pc' := 221) rfl ?_
    refine oGo W0 [.aload 8, .iconst 2] (by decide +kernel) (ls' := #[sI i0, sI i1, sI i2, sI i3, sI i4, sI i5, sI sb, sI po, sR a, sI 2, sI 0, sI 7, sR x, sR y, sU, sU, sU, sU, sU, sU]) (st' := [(.int 2), (.ref a)]) rfl rfl (pc' := 224) rfl ?_
    refine oGet W0 A (v := (.int d2)) (by decide) rfl (Or.inl ⟨rfl, rfl⟩) (by decide +kernel) ?_
    refine oGo W0 [.bipush 117] (by decide +kernel) (ls' := #[sI i0, sI i1, sI i2, sI i3, sI i4, sI i5, sI sb, sI po, sR a, sI 2, sI 0, sI 7, sR x, sR y, sU, sU, sU, sU, sU, sU]) (st' := [(.int 117), (.int d2)]) rfl rfl (pc' := 227) rfl ?_
    by_cases hc103 : d2 = (117 : Int32)
    rotate_left
    · refine oIcT W0 (cd := .ne) (o := 25) (by decide +kernel) (XT.ii_ne_t hc103) (pc' := 252) (by decide) (by decide) ?_
      refine oGo W0 [.iconst 0] (by decide +kernel) (ls' := #[sI i0, sI i1, sI i2, sI i3, sI i4, sI i5, sI sb, sI po, sR a, sI 2, sI 0, sI 7, sR x, sR y, sU, sU, sU, sU, sU, sU]) (st' := [(.int 0)]) rfl rfl (pc' := 253) rfl ?_
      exact J1 0 (Or.inr ⟨rfl, fun q => hc103 q.2.2.1⟩)
    refine oIcF W0 (cd := .ne) (o := 25) (by decide +kernel) (XT.ii_ne_f hc103) (pc' := 230) rfl ?_
    refine oGo W0 [.aload 8, .iconst 3] (by decide +kernel) (ls' := #[sI i0, sI i1, sI i2, sI i3, sI i4, sI i5, sI sb, sI po, sR a, sI 2, sI 0, sI 7, sR x, sR y, sU, sU, sU, sU, sU, sU]) (st' := [(.int 3), (.ref a)]) rfl rfl (pc' := 233) rfl ?_
    refine oGet W0 A (v := (.int d3)) (by decide) rfl (Or.inl ⟨rfl, rfl⟩) (by decide +kernel) ?_
    refine oGo W0 [.bipush 98] (by decide +kernel) (ls' := #[sI i0, sI i1, sI i2, sI i3, sI i4, sI i5, sI sb, sI po, sR a, sI 2, sI 0, sI 7, sR x, sR y, sU, sU, sU, sU, sU, sU]) (st' := [(.int 98), (.int d3)]) rfl rfl (pc' := 236) rfl ?_
    by_cases hc104 : d3 = (98 : Int32)
    rotate_left
    · refine oIcT W0 (cd := .ne) (o := 16) (by decide +kernel) (XT.ii_ne_t hc104) (pc' := 252) (by decide) (by decide) ?_
      refine oGo W0 [.iconst 0] (by decide +kernel) (ls' := #[sI i0, sI i1, sI i2, sI i3, sI i4, sI i5, sI sb, sI po, sR a, sI 2, sI 0, sI 7, sR x, sR y, sU, sU, sU, sU, sU, sU]) (st' := [(.int 0)]) rfl rfl (pc' := 253) rfl ?_
      exact J1 0 (Or.inr ⟨rfl, fun q => hc104 q.2.2.2.1⟩)
    refine oIcF W0 (cd := .ne) (o := 16) (by decide +kernel) (XT.ii_ne_f hc104) (pc' := 239) rfl ?_
    refine oGo W0 [.aload 8, .iconst 4] (by decide +kernel) (ls' := #[sI i0, sI i1, sI i2, sI i3, sI i4, sI i5, sI sb, sI po, sR a, sI 2, sI 0, sI 7, sR x, sR y, sU, sU, sU, sU, sU, sU]) (st' := [(.int 4), (.ref a)]) rfl rfl (pc' := 242) rfl ?_
    refine oGet W0 A (v := (.int d4)) (by decide) rfl (Or.inl ⟨rfl, rfl⟩) (by decide +kernel) ?_
    refine oGo W0 [.bipush 47] (by decide +kernel) (ls' := #[sI i0, sI i1, sI i2, sI i3, sI i4, sI i5, sI sb, sI po, sR a, sI 2, sI 0, sI 7, sR x, sR y, sU, sU, sU, sU, sU, sU]) (st' := [(.int 47), (.int d4)]) rfl rfl (pc' := 245) rfl ?_
    by_cases hc105 : d4 = (47 : Int32)
    rotate_left
    · refine oIcT W0 (cd := .ne) (o := 7) (by decide +kernel) (XT.ii_ne_t hc105) (pc' := 252) (by decide) (by decide) ?_
      refine oGo W0 [.iconst 0] (by decide +kernel) (ls' := #[sI i0, sI i1, sI i2, sI i3, sI i4, sI i5, sI sb, sI po, sR a, sI 2, sI 0, sI 7, sR x, sR y, sU, sU, sU, sU, sU, sU]) (st' := [(.int 0)]) rfl rfl (pc' := 253) rfl ?_
      exact J1 0 (Or.inr ⟨rfl, fun q => hc105 q.2.2.2.2⟩)
    refine oIcF W0 (cd := .ne) (o := 7) (by decide +kernel) (XT.ii_ne_f hc105) (pc' := 248) rfl ?_
    refine oGo W0 [.iconst 1, .goto 4] (by decide +kernel) (ls' := #[sI i0, sI i1, sI i2, sI i3, sI i4, sI i5, sI sb, sI po, sR a, sI 2, sI 0, sI 7, sR x, sR y, sU, sU, sU, sU, sU, sU]) (st' := [(.int 1)]) rfl rfl (pc' := 253) rfl ?_
    exact J1 1 (Or.inl ⟨rfl, hc101, hc102, hc103, hc104, hc105⟩)
  intro s1 hs1
  refine oGo W0 [.istore 14] (by decide +kernel) (ls' := #[sI i0, sI i1, sI i2, sI i3, sI i4, sI i5, sI sb, sI po, sR a, sI 2, sI 0, sI 7, sR x, sR y, sI s1, sU, sU, sU, sU, sU]) (st' := []) rfl rfl (pc' := 255) rfl ?_
  refine oJn (fun r : Int32 => (r = 1 ∧ d0 = 47 ∧ d1 = 115 ∧ d2 = 117 ∧ d3 = 98 ∧ d4 = 47) ∨ (r = 0 ∧ ¬ (d0 = 47 ∧ d1 = 115 ∧ d2 = 117 ∧ d3 = 98 ∧ d4 = 47))) (fun r => mkF m 311 #[sI i0, sI i1, sI i2, sI i3, sI i4, sI i5, sI sb, sI po, sR a, sI 2, sI 0, sI 7, sR x, sR y, sI s1, sU, sU, sU, sU, sU] [.int r]) ?_ (fun J0 => ?_)
  rotate_left
  · refine oGo W0 [.iload 11, .iconst 5] (by decide +kernel) (ls' := #[sI i0, sI i1, sI i2, sI i3, sI i4, sI i5, sI sb, sI po, sR a, sI 2, sI 0, sI 7, sR x, sR y, sI s1, sU, sU, sU, sU, sU]) (st' := [(.int 5), (.int 7)]) rfl rfl (pc' := 258) rfl ?_
    refine oIcF W0 (cd := .lt) (o := 52) (by decide +kernel) (XT.ii_lt_f (by decide)) (pc' := 261) rfl ?_
    refine oGo W0 [.aload 8, .iconst 0] (by decide +kernel) (ls' := #[sI i0, sI i1, sI i2, sI i3, sI i4, sI i5, sI sb, sI po, sR a, sI 2, sI 0, sI 7, sR x, sR y, sI s1, sU, sU, sU, sU, sU]) (st' := [(.int 0), (.ref a)]) rfl rfl (pc' := 264) rfl ?_
    refine oGet W0 A (v := (.int d0)) (by decide) rfl (Or.inl ⟨rfl, rfl⟩) (by decide +kernel) ?_
    refine oGo W0 [.bipush 47] (by decide +kernel) (ls' := #[sI i0, sI i1, sI i2, sI i3, sI i4, sI i5, sI sb, sI po, sR a, sI 2, sI 0, sI 7, sR x, sR y, sI s1, sU, sU, sU, sU, sU]) (st' := [(.int 47), (.int d0)]) rfl rfl (pc' := 267) rfl ?_
    by_cases hc106 : d0 = (47 : Int32)
    rotate_left
    · refine oIcT W0 (cd := .ne) (o := 43) (by decide +kernel) (XT.ii_ne_t hc106) (pc' := 310) (by decide) (by decide) ?_
      refine oGo W0 [.iconst 0] (by decide +kernel) (ls' := #[sI i0, sI i1, sI i2, sI i3, sI i4, sI i5, sI sb, sI po, sR a, sI 2, sI 0, sI 7, sR x, sR y, sI s1, sU, sU, sU, sU, sU]) (st' := [(.int 0)]) rfl rfl (pc' := 311) rfl ?_
      exact J0 0 (Or.inr ⟨rfl, fun q => hc106 q.1⟩)
    refine oIcF W0 (cd := .ne) (o := 43) (by decide +kernel) (XT.ii_ne_f hc106) (pc' := 270) rfl ?_
    refine oGo W0 [.aload 8, .iconst 1] (by decide +kernel) (ls' := #[sI i0, sI i1, sI i2, sI i3, sI i4, sI i5, sI sb, sI po, sR a, sI 2, sI 0, sI 7, sR x, sR y, sI s1, sU, sU, sU, sU, sU]) (st' := [(.int 1), (.ref a)]) rfl rfl (pc' := 273) rfl ?_
    refine oGet W0 A (v := (.int d1)) (by decide) rfl (Or.inl ⟨rfl, rfl⟩) (by decide +kernel) ?_
    refine oGo W0 [.bipush 115] (by decide +kernel) (ls' := #[sI i0, sI i1, sI i2, sI i3, sI i4, sI i5, sI sb, sI po, sR a, sI 2, sI 0, sI 7, sR x, sR y, sI s1, sU, sU, sU, sU, sU]) (st' := [(.int 115), (.int d1)]) rfl rfl (pc' := 276) rfl ?_
    by_cases hc107 : d1 = (115 : Int32)
    rotate_left
    · refine oIcT W0 (cd := .ne) (o := 34) (by decide +kernel) (XT.ii_ne_t hc107) (pc' := 310) (by decide) (by decide) ?_
      refine oGo W0 [.iconst 0] (by decide +kernel) (ls' := #[sI i0, sI i1, sI i2, sI i3, sI i4, sI i5, sI sb, sI po, sR a, sI 2, sI 0, sI 7, sR x, sR y, sI s1, sU, sU, sU, sU, sU]) (st' := [(.int 0)]) rfl rfl (pc' := 311) rfl ?_
      exact J0 0 (Or.inr ⟨rfl, fun q => hc107 q.2.1⟩)
    refine oIcF W0 (cd := .ne) (o := 34) (by decide +kernel) (XT.ii_ne_f hc107) (pc' := 279) rfl ?_
    refine oGo W0 [.aload 8, .iconst 2] (by decide +kernel) (ls' := #[sI i0, sI i1, sI i2, sI i3, sI i4, sI i5, sI sb, sI po, sR a, sI 2, sI 0, sI 7, sR x, sR y, sI s1, sU, sU, sU, sU, sU]) (st' := [(.int 2), (.ref a)]) rfl rfl (pc' := 282) rfl ?_
    refine oGet W0 A (v := (.int d2)) (by decide) rfl (Or.inl ⟨rfl, rfl⟩) (by decide +kernel) ?_
    refine oGo W0 [.bipush 117] (by decide +kernel) (ls' := #[sI i0, sI i1, sI i2, sI i3, sI i4, sI i5, sI sb, sI po, sR a, sI 2, sI 0, sI 7, sR x, sR y, sI s1, sU, sU, sU, sU, sU]) (st' := [(.int 117), (.int d2)]) rfl rfl (pc' := 285) rfl ?_
    by_cases hc108 : d2 = (117 : Int32)
    rotate_left
    · refine oIcT W0 (cd := .ne) (o := 25) (by decide +kernel) (XT.ii_ne_t hc108) (pc' := 310) (by decide) (by decide) ?_
      refine oGo W0 [.iconst 0] (by decide +kernel) (ls' := #[sI i0, sI i1, sI i2, sI i3, sI i4, sI i5, sI sb, sI po, sR a, sI 2, sI 0, sI 7, sR x, sR y, sI s1, sU, sU, sU, sU, sU]) (st' := [(.int 0)]) rfl rfl (pc' := 311) rfl ?_
      exact J0 0 (Or.inr ⟨rfl, fun q => hc108 q.2.2.1⟩)
    refine oIcF W0 (cd := .ne) (o := 25) (by decide +kernel) (XT.ii_ne_f hc108) (pc' := 288) rfl ?_
    refine oGo W0 [.aload 8, .iconst 3] (by decide +kernel) (ls' := #[sI i0, sI i1, sI i2, sI i3, sI i4, sI i5, sI sb, sI po, sR a, sI 2, sI 0, sI 7, sR x, sR y, sI s1, sU, sU, sU, sU, sU]) (st' := [(.int 3), (.ref a)]) rfl rfl (pc' := 291) rfl ?_
    refine oGet W0 A (v := (.int d3)) (by decide) rfl (Or.inl ⟨rfl, rfl⟩) (by decide +kernel) ?_
    refine oGo W0 [.bipush 98] (by decide +kernel) (ls' := #[sI i0, sI i1, sI i2, sI i3, sI i4, sI i5, sI sb, sI po, sR a, sI 2, sI 0, sI 7, sR x, sR y, sI s1, sU, sU, sU, sU, sU]) (st' := [(.int 98), (.int d3)]) rfl rfl (pc' := 294) rfl ?_
    by_cases hc109 : d3 = (98 : Int32)
    rotate_left
    · refine oIcT W0 (cd := .ne) (o := 16) (by decide +kernel) (XT.ii_ne_t hc109) (pc' := 310) (by decide) (by decide) ?_
      refine oGo W0 [.iconst 0] (by decide +kernel) (ls' := #[sI i0, sI i1, sI i2, sI i3, sI i4, sI i5, sI sb, sI po, sR a, sI 2, sI 0, sI 7, sR x, sR y, sI s1, sU, sU, sU, sU, sU]) (st' := [(.int 0)]) rfl rfl (pc' := 311) rfl ?_
      exact J0 0 (Or.inr ⟨rfl, fun q => hc109 q.2.2.2.1⟩)
    refine oIcF W0 (cd := .ne) (o := 16) (by decide +kernel) (XT.ii_ne_f hc109) (pc' := 297) rfl ?_
    refine oGo W0 [.aload 8, .iconst 4] (by decide +kernel) (ls' := #[sI i0, sI i1, sI i2, sI i3, sI i4, sI i5, sI sb, sI po, sR a, sI 2, sI 0, sI 7, sR x, sR y, sI s1, sU, sU, sU, sU, sU]) (st' := [(.int 4), (.ref a)]) rfl rfl (pc' := 300) rfl ?_
    refine oGet W0 A (v := (.int d4)) (by decide) rfl (Or.inl ⟨rfl, rfl⟩) (by decide +kernel) ?_
    refine oGo W0 [.bipush 47] (by decide +kernel) (ls' := #[sI i0, sI i1, sI i2, sI i3, sI i4, sI i5, sI sb, sI po, sR a, sI 2, sI 0, sI 7, sR x, sR y, sI s1, sU, sU, sU, sU, sU]) (st' := [(.int 47), (.int d4)]) rfl rfl (pc' := 303) rfl ?_
    by_cases hc110 : d4 = (47 : Int32)
    rotate_left
    · refine oIcT W0 (cd := .ne) (o := 7) (by decide +kernel) (XT.ii_ne_t hc110) (pc' := 310) (by decide) (by decide) ?_
      refine oGo W0 [.iconst 0] (by decide +kernel) (ls' := #[sI i0, sI i1, sI i2, sI i3, sI i4, sI i5, sI sb, sI po, sR a, sI 2, sI 0, sI 7, sR x, sR y, sI s1, sU, sU, sU, sU, sU]) (st' := [(.int 0)]) rfl rfl (pc' := 311) rfl ?_
      exact J0 0 (Or.inr ⟨rfl, fun q => hc110 q.2.2.2.2⟩)
    refine oIcF W0 (cd := .ne) (o := 7) (by decide +kernel) (XT.ii_ne_f hc110) (pc' := 306) rfl ?_
    refine oGo W0 [.iconst 1, .goto 4] (by decide +kernel) (ls' := #[sI i0, sI i1, sI i2, sI i3, sI i4, sI i5, sI sb, sI po, sR a, sI 2, sI 0, sI 7, sR x, sR y, sI s1, sU, sU, sU, sU, sU]) (st' := [(.int 1)]) rfl rfl (pc' := 311) rfl ?_
    exact J0 1 (Or.inl ⟨rfl, hc106, hc107, hc108, hc109, hc110⟩)
  intro s0 hs0
  refine oGo W0 [.istore 15] (by decide +kernel) (ls' := #[sI i0, sI i1, sI i2, sI i3, sI i4, sI i5, sI sb, sI po, sR a, sI 2, sI 0, sI 7, sR x, sR y, sI s1, sI s0, sU, sU, sU, sU]) (st' := []) rfl rfl (pc' := 313) rfl ?_
  refine oJn (fun r : Int32 => (r = 1 ∧ True) ∨ (r = 0 ∧ ¬ (c0 = 46 ∧ c1 = 46))) (fun r => mkF m 358 #[sI i0, sI i1, sI i2, sI i3, sI i4, sI i5, sI sb, sI po, sR a, sI 2, sI 0, sI 7, sR x, sR y, sI s1, sI s0, sU, sU, sU, sU] [.int r]) ?_ (fun Jd => ?_)
  rotate_left
  · refine oGo W0 [.iload 9, .iconst 1] (by decide +kernel) (ls' := #[sI i0, sI i1, sI i2, sI i3, sI i4, sI i5, sI sb, sI po, sR a, sI 2, sI 0, sI 7, sR x, sR y, sI s1, sI s0, sU, sU, sU, sU]) (st' := [(.int 1), (.int 2)]) rfl rfl (pc' := 316) rfl ?_
    refine oIcT W0 (cd := .ne) (o := 12) (by decide +kernel) (XT.ii_ne_t (by decide)) (pc' := 328) (by decide) (by decide) ?_
    refine oGo W0 [.iload 9, .iconst 2] (by decide +kernel) (ls' := #[sI i0, sI i1, sI i2, sI i3, sI i4, sI i5, sI sb, sI po, sR a, sI 2, sI 0, sI 7, sR x, sR y, sI s1, sI s0, sU, sU, sU, sU]) (st' := [(.int 2), (.int 2)]) rfl rfl (pc' := 331) rfl ?_
    refine oIcF W0 (cd := .ne) (o := 26) (by decide +kernel) (XT.ii_ne_f (by decide)) (pc' := 334) rfl ?_
    refine oGo W0 [.aload 8, .iconst 5] (by decide +kernel) (ls' := #[sI i0, sI i1, sI i2, sI i3, sI i4, sI i5, sI sb, sI po, sR a, sI 2, sI 0, sI 7, sR x, sR y, sI s1, sI s0, sU, sU, sU, sU]) (st' := [(.int 5), (.ref a)]) rfl rfl (pc' := 337) rfl ?_
    refine oGet W0 A (v := (.int c0)) (by decide) rfl (Or.inl ⟨rfl, rfl⟩) (by decide +kernel) ?_
    refine oGo W0 [.bipush 46] (by decide +kernel) (ls' := #[sI i0, sI i1, sI i2, sI i3, sI i4, sI i5, sI sb, sI po, sR a, sI 2, sI 0, sI 7, sR x, sR y, sI s1, sI s0, sU, sU, sU, sU]) (st' := [(.int 46), (.int c0)]) rfl rfl (pc' := 340) rfl ?_
    by_cases hc111 : c0 = (46 : Int32)
    rotate_left
    · refine oIcT W0 (cd := .ne) (o := 17) (by decide +kernel) (XT.ii_ne_t hc111) (pc' := 357) (by decide) (by decide) ?_
      refine oGo W0 [.iconst 0] (by decide +kernel) (ls' := #[sI i0, sI i1, sI i2, sI i3, sI i4, sI i5, sI sb, sI po, sR a, sI 2, sI 0, sI 7, sR x, sR y, sI s1, sI s0, sU, sU, sU, sU]) (st' := [(.int 0)]) rfl rfl (pc' := 358) rfl ?_
      exact Jd 0 (Or.inr ⟨rfl, fun q => hc111 q.1⟩)
    refine oIcF W0 (cd := .ne) (o := 17) (by decide +kernel) (XT.ii_ne_f hc111) (pc' := 343) rfl ?_
    refine oGo W0 [.aload 8, .bipush 6] (by decide +kernel) (ls' := #[sI i0, sI i1, sI i2, sI i3, sI i4, sI i5, sI sb, sI po, sR a, sI 2, sI 0, sI 7, sR x, sR y, sI s1, sI s0, sU, sU, sU, sU]) (st' := [(.int 6), (.ref a)]) rfl rfl (pc' := 347) rfl ?_
    refine oGet W0 A (v := (.int c1)) (by decide) rfl (Or.inl ⟨rfl, rfl⟩) (by decide +kernel) ?_
    refine oGo W0 [.bipush 46] (by decide +kernel) (ls' := #[sI i0, sI i1, sI i2, sI i3, sI i4, sI i5, sI sb, sI po, sR a, sI 2, sI 0, sI 7, sR x, sR y, sI s1, sI s0, sU, sU, sU, sU]) (st' := [(.int 46), (.int c1)]) rfl rfl (pc' := 350) rfl ?_
    by_cases hc112 : c1 = (46 : Int32)
    rotate_left
    · refine oIcT W0 (cd := .ne) (o := 7) (by decide +kernel) (XT.ii_ne_t hc112) (pc' := 357) (by decide) (by decide) ?_
      refine oGo W0 [.iconst 0] (by decide +kernel) (ls' := #[sI i0, sI i1, sI i2, sI i3, sI i4, sI i5, sI sb, sI po, sR a, sI 2, sI 0, sI 7, sR x, sR y, sI s1, sI s0, sU, sU, sU, sU]) (st' := [(.int 0)]) rfl rfl (pc' := 358) rfl ?_
      exact Jd 0 (Or.inr ⟨rfl, fun q => hc112 q.2⟩)
    refine oIcF W0 (cd := .ne) (o := 7) (by decide +kernel) (XT.ii_ne_f hc112) (pc' := 353) rfl ?_
    refine oGo W0 [.iconst 1, .goto 4] (by decide +kernel) (ls' := #[sI i0, sI i1, sI i2, sI i3, sI i4, sI i5, sI sb, sI po, sR a, sI 2, sI 0, sI 7, sR x, sR y, sI s1, sI s0, sU, sU, sU, sU]) (st' := [(.int 1)]) rfl rfl (pc' := 358) rfl ?_
    exact Jd 1 (Or.inl ⟨rfl, trivial⟩)
  intro dt hdt
  refine oGo W0 [.istore 16] (by decide +kernel) (ls' := #[sI i0, sI i1, sI i2, sI i3, sI i4, sI i5, sI sb, sI po, sR a, sI 2, sI 0, sI 7, sR x, sR y, sI s1, sI s0, sI dt, sU, sU, sU]) (st' := []) rfl rfl (pc' := 360) rfl ?_
  rcases hs1 with ⟨rfl, HP⟩ | ⟨rfl, HP⟩
  · rcases hdt with ⟨rfl, -⟩ | ⟨rfl, hdot⟩
    · refine oGo W0 [.iload 14] (by decide +kernel) (ls' := #[sI i0, sI i1, sI i2, sI i3, sI i4, sI i5, sI sb, sI po, sR a, sI 2, sI 0, sI 7, sR x, sR y, sI 1, sI s0, sI 1, sU, sU, sU]) (st' := [(.int 1)]) rfl rfl (pc' := 362) rfl ?_
      refine oIfT W0 (cd := .ne) (o := 8) (by decide +kernel) (XT.i0_ne_t (by decide)) (pc' := 370) (by decide) (by decide) ?_
      refine oGo W0 [.iload 16] (by decide +kernel) (ls' := #[sI i0, sI i1, sI i2, sI i3, sI i4, sI i5, sI sb, sI po, sR a, sI 2, sI 0, sI 7, sR x, sR y, sI 1, sI s0, sI 1, sU, sU, sU]) (st' := [(.int 1)]) rfl rfl (pc' := 372) rfl ?_
      refine oIfF W0 (cd := .eq) (o := 5) (by decide +kernel) (XT.i0_eq_f (by decide)) (pc' := 375) rfl ?_
      refine oGo W0 [.iconst 1] (by decide +kernel) (ls' := #[sI i0, sI i1, sI i2, sI i3, sI i4, sI i5, sI sb, sI po, sR a, sI 2, sI 0, sI 7, sR x, sR y, sI 1, sI s0, sI 1, sU, sU, sU]) (st' := [(.int 1)]) rfl rfl (pc' := 376) rfl ?_
      exact oRetN (by simp) W0 rfl (by decide +kernel) (lb rfl) (lb rfl) (fun vm' hv => rfl)
    · refine oGo W0 [.iload 14] (by decide +kernel) (ls' := #[sI i0, sI i1, sI i2, sI i3, sI i4, sI i5, sI sb, sI po, sR a, sI 2, sI 0, sI 7, sR x, sR y, sI 1, sI s0, sI 0, sU, sU, sU]) (st' := [(.int 1)]) rfl rfl (pc' := 362) rfl ?_
      refine oIfT W0 (cd := .ne) (o := 8) (by decide +kernel) (XT.i0_ne_t (by decide)) (pc' := 370) (by decide) (by decide) ?_
      refine oGo W0 [.iload 16] (by decide +kernel) (ls' := #[sI i0, sI i1, sI i2, sI i3, sI i4, sI i5, sI sb, sI po, sR a, sI 2, sI 0, sI 7, sR x, sR y, sI 1, sI s0, sI 0, sU, sU, sU]) (st' := [(.int 0)]) rfl rfl (pc' := 372) rfl ?_
      refine oIfT W0 (cd := .eq) (o := 5) (by decide +kernel) (XT.i0_eq_t (by decide)) (pc' := 377) (by decide) (by decide) ?_
      refine oGo W0 [.aload 12] (by decide +kernel) (ls' := #[sI i0, sI i1, sI i2, sI i3, sI i4, sI i5, sI sb, sI po, sR a, sI 2, sI 0, sI 7, sR x, sR y, sI 1, sI s0, sI 0, sU, sU, sU]) (st' := [(.ref x)]) rfl rfl (pc' := 379) rfl ?_
      have hxe : ([d0, d1, d2, d3, d4, c0, c1] : List Int32) = [47, 112, 117, 98, 47, c0, c1] := by rw [HP.1, HP.2.1, HP.2.2.1, HP.2.2.2.1, HP.2.2.2.2]
      have Fx : Str Z h0 x [47, 112, 117, 98, 47, c0, c1] := hxe ▸ F
      obtain ⟨v113, T113, L113, h113, vm113, W113, ⟨o, lo, nm, z, rfl, E113, X113, F113, Xl113, Fl113, Gl113, Xn113, Fn113, Sz113⟩, C113, st113⟩ := oCallS W0 (idx := 28) (pc := 379) (ls := #[sI i0, sI i1, sI i2, sI i3, sI i4, sI i5, sI sb, sI po, sR a, sI 2, sI 0, sI 7, sR x, sR y, sI 1, sI s0, sI 0, sU, sU, sU]) (st := []) (argsL := [(.ref x)]) (c_pa12 K H Fx qa0 qa1 hdot) (fun x hx => nomatch hx) (wK K 38 rfl) (wK K 39 rfl) (wK K 40 rfl) (wK K 41 rfl) (by decide) (na := 1) rfl (by decide +kernel) rfl (stk := [(.ref x)]) rfl (by decide +kernel) (V := 0) (lb rfl) (lb rfl) (lb rfl) (lb rfl) (lb rfl)
      refine oLift st113 ?_
      show OG _ _ _ _ _ _ _ _ _ _ _ (mkF m 382 #[sI i0, sI i1, sI i2, sI i3, sI i4, sI i5, sI sb, sI po, sR a, sI 2, sI 0, sI 7, sR x, sR y, sI 1, sI s0, sI 0, sU, sU, sU] [(.ref o)])
      refine oGo W113 [.astore 17, .iload 14] (by decide +kernel) (ls' := #[sI i0, sI i1, sI i2, sI i3, sI i4, sI i5, sI sb, sI po, sR a, sI 2, sI 0, sI 7, sR x, sR y, sI 1, sI s0, sI 0, sR o, sU, sU]) (st' := [(.int 1)]) rfl rfl (pc' := 386) rfl ?_
      refine oIfT W113 (cd := .ne) (o := 22) (by decide +kernel) (XT.i0_ne_t (by decide)) (pc' := 408) (by decide) (by decide) ?_
      refine oGo W113 [.aload 17] (by decide +kernel) (ls' := #[sI i0, sI i1, sI i2, sI i3, sI i4, sI i5, sI sb, sI po, sR a, sI 2, sI 0, sI 7, sR x, sR y, sI 1, sI s0, sI 0, sR o, sU, sU]) (st' := [(.ref o)]) rfl rfl (pc' := 410) rfl ?_
      obtain ⟨v114, T114, L114, h114, vm114, W114, ⟨rfl, e114⟩, C114, st114⟩ := oCallV W113 (idx := 34) (pc := 410) (ls := #[sI i0, sI i1, sI i2, sI i3, sI i4, sI i5, sI sb, sI po, sR a, sI 2, sI 0, sI 7, sR x, sR y, sI 1, sI s0, sI 0, sR o, sU, sU]) (st := []) (argsL := []) X113 (c_op1 K F113) (fun x hx => nomatch hx) (wK K 91 rfl) (wK K 92 rfl) (notFace_of_selects (args := #[]) (mvT W113.warm (wK K 94 rfl))) (wK K 94 rfl) (wK K 93 rfl) (wK K 88 rfl) (wK K 95 rfl) (by decide) (na := 0) rfl (by decide +kernel) rfl (stk := [(.ref o)]) rfl (by decide +kernel) (V := 0) (lb rfl) (lb rfl) (lb rfl) (lb rfl) (lb rfl)
      refine oLift st114 ?_
      rw [e114] at W114 C114
      show OG _ _ _ _ _ _ _ _ _ _ _ (mkF m 413 #[sI i0, sI i1, sI i2, sI i3, sI i4, sI i5, sI sb, sI po, sR a, sI 2, sI 0, sI 7, sR x, sR y, sI 1, sI s0, sI 0, sR o, sU, sU] [(.int 1)])
      refine oIfT W114 (cd := .ne) (o := 5) (by decide +kernel) (XT.i0_ne_t (by decide)) (pc' := 418) (by decide) (by decide) ?_
      refine oGo W114 [.aload 17] (by decide +kernel) (ls' := #[sI i0, sI i1, sI i2, sI i3, sI i4, sI i5, sI sb, sI po, sR a, sI 2, sI 0, sI 7, sR x, sR y, sI 1, sI s0, sI 0, sR o, sU, sU]) (st' := [(.ref o)]) rfl rfl (pc' := 420) rfl ?_
      obtain ⟨v115, T115, L115, h115, vm115, W115, ⟨rfl, e115⟩, C115, st115⟩ := oCallV W114 (idx := 40) (pc := 420) (ls := #[sI i0, sI i1, sI i2, sI i3, sI i4, sI i5, sI sb, sI po, sR a, sI 2, sI 0, sI 7, sR x, sR y, sI 1, sI s0, sI 0, sR o, sU, sU]) (st := []) (argsL := []) X113 (c_oge K F113) (fun x hx => nomatch hx) (wK K 228 rfl) (wK K 229 rfl) (notFace_of_selects (args := #[]) (mvT W114.warm (wK K 231 rfl))) (wK K 231 rfl) (wK K 230 rfl) (wK K 88 rfl) (wK K 232 rfl) (by decide) (na := 0) rfl (by decide +kernel) rfl (stk := [(.ref o)]) rfl (by decide +kernel) (V := 0) (lb rfl) (lb rfl) (lb rfl) (lb rfl) (lb rfl)
      refine oLift st115 ?_
      rw [e115] at W115 C115
      show OG _ _ _ _ _ _ _ _ _ _ _ (mkF m 423 #[sI i0, sI i1, sI i2, sI i3, sI i4, sI i5, sI sb, sI po, sR a, sI 2, sI 0, sI 7, sR x, sR y, sI 1, sI s0, sI 0, sR o, sU, sU] [(.ref lo)])
      obtain ⟨T116, W116, st116⟩ := oCast W115 (pc := 423) (ls := #[sI i0, sI i1, sI i2, sI i3, sI i4, sI i5, sI sb, sI po, sR a, sI 2, sI 0, sI 7, sR x, sR y, sI 1, sI s0, sI 0, sR o, sU, sU]) (st := []) (wK K 233 rfl) (Ins.self Xl113) (by decide +kernel)
      refine oLift st116 ?_
      refine oGo W116 [.astore 18, .iload 14] (by decide +kernel) (ls' := #[sI i0, sI i1, sI i2, sI i3, sI i4, sI i5, sI sb, sI po, sR a, sI 2, sI 0, sI 7, sR x, sR y, sI 1, sI s0, sI 0, sR o, sR lo, sU]) (st' := [(.int 1)]) rfl rfl (pc' := 430) rfl ?_
      refine oIfF W116 (cd := .eq) (o := 9) (by decide +kernel) (XT.i0_eq_f (by decide)) (pc' := 433) rfl ?_
      obtain ⟨T117, W117, st117⟩ := oGetS W116 (pc := 433) (ls := #[sI i0, sI i1, sI i2, sI i3, sI i4, sI i5, sI sb, sI po, sR a, sI 2, sI 0, sI 7, sR x, sR y, sI 1, sI s0, sI 0, sR o, sR lo, sU]) (st := []) (wK K 343 rfl) Via.refl (Sr1.ext W116.ext) (by decide +kernel)
      refine oLift st117 ?_
      refine oGo W117 [.goto 6, .astore 19, .aload 18] (by decide +kernel) (ls' := #[sI i0, sI i1, sI i2, sI i3, sI i4, sI i5, sI sb, sI po, sR a, sI 2, sI 0, sI 7, sR x, sR y, sI 1, sI s0, sI 0, sR o, sR lo, sR r1]) (st' := [(.ref lo)]) rfl rfl (pc' := 446) rfl ?_
      obtain ⟨v118, T118, L118, h118, vm118, W118, ⟨rfl, e118⟩, C118, st118⟩ := oCallV W117 (idx := 53) (pc := 446) (ls := #[sI i0, sI i1, sI i2, sI i3, sI i4, sI i5, sI sb, sI po, sR a, sI 2, sI 0, sI 7, sR x, sR y, sI 1, sI s0, sI 0, sR o, sR lo, sR r1]) (st := []) (argsL := []) Xl113 (c_grole K Fl113) (fun x hx => nomatch hx) (wK K 236 rfl) (wK K 237 rfl) (notFace_of_selects (args := #[]) (mvT W117.warm (wK K 239 rfl))) (wK K 239 rfl) (wK K 238 rfl) (wK K 40 rfl) (wK K 240 rfl) (by decide) (na := 0) rfl (by decide +kernel) rfl (stk := [(.ref lo)]) rfl (by decide +kernel) (V := 0) (lb rfl) (lb rfl) (lb rfl) (lb rfl) (lb rfl)
      refine oLift st118 ?_
      rw [e118] at W118 C118
      show OG _ _ _ _ _ _ _ _ _ _ _ (mkF m 449 #[sI i0, sI i1, sI i2, sI i3, sI i4, sI i5, sI sb, sI po, sR a, sI 2, sI 0, sI 7, sR x, sR y, sI 1, sI s0, sI 0, sR o, sR lo, sR r1] [(.ref r1)])
      refine oGo W118 [.aload 19] (by decide +kernel) (ls' := #[sI i0, sI i1, sI i2, sI i3, sI i4, sI i5, sI sb, sI po, sR a, sI 2, sI 0, sI 7, sR x, sR y, sI 1, sI s0, sI 0, sR o, sR lo, sR r1]) (st' := [(.ref r1), (.ref r1)]) rfl rfl (pc' := 451) rfl ?_
      refine oAcF W118 (cd := .ne) (o := 36) (by decide +kernel) rfl rfl (by simp [XT.acmp]) (pc' := 454) rfl ?_
      refine oGo W118 [.aload 18] (by decide +kernel) (ls' := #[sI i0, sI i1, sI i2, sI i3, sI i4, sI i5, sI sb, sI po, sR a, sI 2, sI 0, sI 7, sR x, sR y, sI 1, sI s0, sI 0, sR o, sR lo, sR r1]) (st' := [(.ref lo)]) rfl rfl (pc' := 456) rfl ?_
      obtain ⟨v119, T119, L119, h119, vm119, W119, ⟨rfl, e119⟩, C119, st119⟩ := oCallV W118 (idx := 57) (pc := 456) (ls := #[sI i0, sI i1, sI i2, sI i3, sI i4, sI i5, sI sb, sI po, sR a, sI 2, sI 0, sI 7, sR x, sR y, sI 1, sI s0, sI 0, sR o, sR lo, sR r1]) (st := []) (argsL := []) Xl113 (c_gchannel K Gl113) (fun x hx => nomatch hx) (wK K 241 rfl) (wK K 242 rfl) (notFace_of_selects (args := #[]) (mvT W118.warm (wK K 244 rfl))) (wK K 244 rfl) (wK K 243 rfl) (wK K 40 rfl) (wK K 245 rfl) (by decide) (na := 0) rfl (by decide +kernel) rfl (stk := [(.ref lo)]) rfl (by decide +kernel) (V := 0) (lb rfl) (lb rfl) (lb rfl) (lb rfl) (lb rfl)
      refine oLift st119 ?_
      rw [e119] at W119 C119
      show OG _ _ _ _ _ _ _ _ _ _ _ (mkF m 459 #[sI i0, sI i1, sI i2, sI i3, sI i4, sI i5, sI sb, sI po, sR a, sI 2, sI 0, sI 7, sR x, sR y, sI 1, sI s0, sI 0, sR o, sR lo, sR r1] [(.ref nm)])
      obtain ⟨v120, T120, L120, h120, vm120, W120, ⟨rfl, e120⟩, C120, st120⟩ := oCallV W119 (idx := 61) (pc := 459) (ls := #[sI i0, sI i1, sI i2, sI i3, sI i4, sI i5, sI sb, sI po, sR a, sI 2, sI 0, sI 7, sR x, sR y, sI 1, sI s0, sI 0, sR o, sR lo, sR r1]) (st := []) (argsL := []) Xn113 (c_cnv K Fn113) (fun x hx => nomatch hx) (wK K 246 rfl) (wK K 247 rfl) (notFace_of_selects (args := #[]) (mvT W119.warm (wK K 249 rfl))) (wK K 249 rfl) (wK K 248 rfl) (wK K 169 rfl) (wK K 250 rfl) (by decide) (na := 0) rfl (by decide +kernel) rfl (stk := [(.ref nm)]) rfl (by decide +kernel) (V := 0) (lb rfl) (lb rfl) (lb rfl) (lb rfl) (lb rfl)
      refine oLift st120 ?_
      rw [e120] at W120 C120
      show OG _ _ _ _ _ _ _ _ _ _ _ (mkF m 462 #[sI i0, sI i1, sI i2, sI i3, sI i4, sI i5, sI sb, sI po, sR a, sI 2, sI 0, sI 7, sR x, sR y, sI 1, sI s0, sI 0, sR o, sR lo, sR r1] [(.ref z)])
      refine oGo W120 [.aload 13] (by decide +kernel) (ls' := #[sI i0, sI i1, sI i2, sI i3, sI i4, sI i5, sI sb, sI po, sR a, sI 2, sI 0, sI 7, sR x, sR y, sI 1, sI s0, sI 0, sR o, sR lo, sR r1]) (st' := [(.ref y), (.ref z)]) rfl rfl (pc' := 464) rfl ?_
      obtain ⟨v121, T121, L121, h121, vm121, W121, ⟨rfl, e121⟩, C121, st121⟩ := oCallV W120 (idx := 67) (pc := 464) (ls := #[sI i0, sI i1, sI i2, sI i3, sI i4, sI i5, sI sb, sI po, sR a, sI 2, sI 0, sI 7, sR x, sR y, sI 1, sI s0, sI 0, sR o, sR lo, sR r1]) (st := []) (argsL := [(.ref y)]) Sz113.exa (k_Eq K.2.1 K.2.2.2.2.1 (lb rfl) (lb rfl) Sz113 (Gy.ext E113)) (fun x hx => nomatch hx) (wK K 251 rfl) (wK K 196 rfl) (notFace_of_selects (args := #[]) (mvT W120.warm (wK K 198 rfl))) (wK K 198 rfl) (wK K 197 rfl) (wK K 11 rfl) (wK K 199 rfl) (by decide) (na := 1) rfl (by decide +kernel) rfl (stk := [(.ref y), (.ref z)]) rfl (by decide +kernel) (V := 0) (lb rfl) (lb rfl) (lb rfl) (lb rfl) (lb rfl)
      refine oLift st121 ?_
      rw [e121] at W121 C121
      show OG _ _ _ _ _ _ _ _ _ _ _ (mkF m 467 #[sI i0, sI i1, sI i2, sI i3, sI i4, sI i5, sI sb, sI po, sR a, sI 2, sI 0, sI 7, sR x, sR y, sI 1, sI s0, sI 0, sR o, sR lo, sR r1] [(.int (if ([c0, c1] : List Int32) = [c0, c1] then 1 else 0))])
      refine oIfF W121 (cd := .eq) (o := 20) (by decide +kernel) (XT.i0_eq_f (by rw [if_pos rfl]; decide)) (pc' := 470) rfl ?_
      refine oGo W121 [.aload 18] (by decide +kernel) (ls' := #[sI i0, sI i1, sI i2, sI i3, sI i4, sI i5, sI sb, sI po, sR a, sI 2, sI 0, sI 7, sR x, sR y, sI 1, sI s0, sI 0, sR o, sR lo, sR r1]) (st' := [(.ref lo)]) rfl rfl (pc' := 472) rfl ?_
      obtain ⟨v122, T122, L122, h122, vm122, W122, ⟨y2, rfl, F122, E122⟩, C122, st122⟩ := oCallV W121 (idx := 71) (pc := 472) (ls := #[sI i0, sI i1, sI i2, sI i3, sI i4, sI i5, sI sb, sI po, sR a, sI 2, sI 0, sI 7, sR x, sR y, sI 1, sI s0, sI 0, sR o, sR lo, sR r1]) (st := []) (argsL := []) Xl113 (c_path K Fl113 Gl113 (Fr1.ext W121.ext) (Tr1.ext W121.ext) Xn113 Fn113 Sz113 (lb rfl)) (fun x hx => nomatch hx) (wK K 252 rfl) (wK K 253 rfl) (notFace_of_selects (args := #[]) (mvT W121.warm (wK K 255 rfl))) (wK K 255 rfl) (wK K 254 rfl) (wK K 40 rfl) (wK K 256 rfl) (by decide) (na := 0) rfl (by decide +kernel) rfl (stk := [(.ref lo)]) rfl (by decide +kernel) (V := 0) (lb rfl) (lb rfl) (lb rfl) (lb rfl) (lb rfl)
      refine oLift st122 ?_
      show OG _ _ _ _ _ _ _ _ _ _ _ (mkF m 475 #[sI i0, sI i1, sI i2, sI i3, sI i4, sI i5, sI sb, sI po, sR a, sI 2, sI 0, sI 7, sR x, sR y, sI 1, sI s0, sI 0, sR o, sR lo, sR r1] [(.ref y2)])
      have Fy2 : Str Z h122 y2 [47, 112, 117, 98, 47, c0, c1] := F122
      refine oGo W122 [.aload 12] (by decide +kernel) (ls' := #[sI i0, sI i1, sI i2, sI i3, sI i4, sI i5, sI sb, sI po, sR a, sI 2, sI 0, sI 7, sR x, sR y, sI 1, sI s0, sI 0, sR o, sR lo, sR r1]) (st' := [(.ref x), (.ref y2)]) rfl rfl (pc' := 477) rfl ?_
      obtain ⟨v123, T123, L123, h123, vm123, W123, ⟨rfl, e123⟩, C123, st123⟩ := oCallV W122 (idx := 67) (pc := 477) (ls := #[sI i0, sI i1, sI i2, sI i3, sI i4, sI i5, sI sb, sI po, sR a, sI 2, sI 0, sI 7, sR x, sR y, sI 1, sI s0, sI 0, sR o, sR lo, sR r1]) (st := []) (argsL := [(.ref x)]) Fy2.exa (k_Eq K.2.1 K.2.2.2.2.1 (lb rfl) (lb rfl) Fy2 ((Fx.ext E113).ext E122)) (fun x hx => nomatch hx) (wK K 251 rfl) (wK K 196 rfl) (notFace_of_selects (args := #[]) (mvT W122.warm (wK K 198 rfl))) (wK K 198 rfl) (wK K 197 rfl) (wK K 11 rfl) (wK K 199 rfl) (by decide) (na := 1) rfl (by decide +kernel) rfl (stk := [(.ref x), (.ref y2)]) rfl (by decide +kernel) (V := 0) (lb rfl) (lb rfl) (lb rfl) (lb rfl) (lb rfl)
      refine oLift st123 ?_
      rw [e123] at W123 C123
      show OG _ _ _ _ _ _ _ _ _ _ _ (mkF m 480 #[sI i0, sI i1, sI i2, sI i3, sI i4, sI i5, sI sb, sI po, sR a, sI 2, sI 0, sI 7, sR x, sR y, sI 1, sI s0, sI 0, sR o, sR lo, sR r1] [(.int (if ([47, 112, 117, 98, 47, c0, c1] : List Int32) = [47, 112, 117, 98, 47, c0, c1] then 1 else 0))])
      refine oIfF W123 (cd := .eq) (o := 7) (by decide +kernel) (XT.i0_eq_f (by rw [if_pos rfl]; decide)) (pc' := 483) rfl ?_
      refine oGo W123 [.iconst 1, .goto 4] (by decide +kernel) (ls' := #[sI i0, sI i1, sI i2, sI i3, sI i4, sI i5, sI sb, sI po, sR a, sI 2, sI 0, sI 7, sR x, sR y, sI 1, sI s0, sI 0, sR o, sR lo, sR r1]) (st' := [(.int 1)]) rfl rfl (pc' := 488) rfl ?_
      exact oRetN (by simp) W123 rfl (by decide +kernel) (lb rfl) (lb rfl) (fun vm' hv => rfl)
  · rcases hs0 with ⟨rfl, HQ⟩ | ⟨rfl, HQ⟩
    · rcases hdt with ⟨rfl, -⟩ | ⟨rfl, hdot⟩
      · refine oGo W0 [.iload 14] (by decide +kernel) (ls' := #[sI i0, sI i1, sI i2, sI i3, sI i4, sI i5, sI sb, sI po, sR a, sI 2, sI 0, sI 7, sR x, sR y, sI 0, sI 1, sI 1, sU, sU, sU]) (st' := [(.int 0)]) rfl rfl (pc' := 362) rfl ?_
        refine oIfF W0 (cd := .ne) (o := 8) (by decide +kernel) (XT.i0_ne_f (by decide)) (pc' := 365) rfl ?_
        refine oGo W0 [.iload 15] (by decide +kernel) (ls' := #[sI i0, sI i1, sI i2, sI i3, sI i4, sI i5, sI sb, sI po, sR a, sI 2, sI 0, sI 7, sR x, sR y, sI 0, sI 1, sI 1, sU, sU, sU]) (st' := [(.int 1)]) rfl rfl (pc' := 367) rfl ?_
        refine oIfF W0 (cd := .eq) (o := 10) (by decide +kernel) (XT.i0_eq_f (by decide)) (pc' := 370) rfl ?_
        refine oGo W0 [.iload 16] (by decide +kernel) (ls' := #[sI i0, sI i1, sI i2, sI i3, sI i4, sI i5, sI sb, sI po, sR a, sI 2, sI 0, sI 7, sR x, sR y, sI 0, sI 1, sI 1, sU, sU, sU]) (st' := [(.int 1)]) rfl rfl (pc' := 372) rfl ?_
        refine oIfF W0 (cd := .eq) (o := 5) (by decide +kernel) (XT.i0_eq_f (by decide)) (pc' := 375) rfl ?_
        refine oGo W0 [.iconst 1] (by decide +kernel) (ls' := #[sI i0, sI i1, sI i2, sI i3, sI i4, sI i5, sI sb, sI po, sR a, sI 2, sI 0, sI 7, sR x, sR y, sI 0, sI 1, sI 1, sU, sU, sU]) (st' := [(.int 1)]) rfl rfl (pc' := 376) rfl ?_
        exact oRetN (by simp) W0 rfl (by decide +kernel) (lb rfl) (lb rfl) (fun vm' hv => rfl)
      · refine oGo W0 [.iload 14] (by decide +kernel) (ls' := #[sI i0, sI i1, sI i2, sI i3, sI i4, sI i5, sI sb, sI po, sR a, sI 2, sI 0, sI 7, sR x, sR y, sI 0, sI 1, sI 0, sU, sU, sU]) (st' := [(.int 0)]) rfl rfl (pc' := 362) rfl ?_
        refine oIfF W0 (cd := .ne) (o := 8) (by decide +kernel) (XT.i0_ne_f (by decide)) (pc' := 365) rfl ?_
        refine oGo W0 [.iload 15] (by decide +kernel) (ls' := #[sI i0, sI i1, sI i2, sI i3, sI i4, sI i5, sI sb, sI po, sR a, sI 2, sI 0, sI 7, sR x, sR y, sI 0, sI 1, sI 0, sU, sU, sU]) (st' := [(.int 1)]) rfl rfl (pc' := 367) rfl ?_
        refine oIfF W0 (cd := .eq) (o := 10) (by decide +kernel) (XT.i0_eq_f (by decide)) (pc' := 370) rfl ?_
        refine oGo W0 [.iload 16] (by decide +kernel) (ls' := #[sI i0, sI i1, sI i2, sI i3, sI i4, sI i5, sI sb, sI po, sR a, sI 2, sI 0, sI 7, sR x, sR y, sI 0, sI 1, sI 0, sU, sU, sU]) (st' := [(.int 0)]) rfl rfl (pc' := 372) rfl ?_
        refine oIfT W0 (cd := .eq) (o := 5) (by decide +kernel) (XT.i0_eq_t (by decide)) (pc' := 377) (by decide) (by decide) ?_
        refine oGo W0 [.aload 12] (by decide +kernel) (ls' := #[sI i0, sI i1, sI i2, sI i3, sI i4, sI i5, sI sb, sI po, sR a, sI 2, sI 0, sI 7, sR x, sR y, sI 0, sI 1, sI 0, sU, sU, sU]) (st' := [(.ref x)]) rfl rfl (pc' := 379) rfl ?_
        have hxe : ([d0, d1, d2, d3, d4, c0, c1] : List Int32) = [47, 115, 117, 98, 47, c0, c1] := by rw [HQ.1, HQ.2.1, HQ.2.2.1, HQ.2.2.2.1, HQ.2.2.2.2]
        have Fx : Str Z h0 x [47, 115, 117, 98, 47, c0, c1] := hxe ▸ F
        obtain ⟨v124, T124, L124, h124, vm124, W124, ⟨o, lo, nm, z, rfl, E124, X124, F124, Xl124, Fl124, Gl124, Xn124, Fn124, Sz124⟩, C124, st124⟩ := oCallS W0 (idx := 28) (pc := 379) (ls := #[sI i0, sI i1, sI i2, sI i3, sI i4, sI i5, sI sb, sI po, sR a, sI 2, sI 0, sI 7, sR x, sR y, sI 0, sI 1, sI 0, sU, sU, sU]) (st := []) (argsL := [(.ref x)]) (c_pa02 K H Fx qa0 qa1 hdot) (fun x hx => nomatch hx) (wK K 38 rfl) (wK K 39 rfl) (wK K 40 rfl) (wK K 41 rfl) (by decide) (na := 1) rfl (by decide +kernel) rfl (stk := [(.ref x)]) rfl (by decide +kernel) (V := 0) (lb rfl) (lb rfl) (lb rfl) (lb rfl) (lb rfl)
        refine oLift st124 ?_
        show OG _ _ _ _ _ _ _ _ _ _ _ (mkF m 382 #[sI i0, sI i1, sI i2, sI i3, sI i4, sI i5, sI sb, sI po, sR a, sI 2, sI 0, sI 7, sR x, sR y, sI 0, sI 1, sI 0, sU, sU, sU] [(.ref o)])
        refine oGo W124 [.astore 17, .iload 14] (by decide +kernel) (ls' := #[sI i0, sI i1, sI i2, sI i3, sI i4, sI i5, sI sb, sI po, sR a, sI 2, sI 0, sI 7, sR x, sR y, sI 0, sI 1, sI 0, sR o, sU, sU]) (st' := [(.int 0)]) rfl rfl (pc' := 386) rfl ?_
        refine oIfF W124 (cd := .ne) (o := 22) (by decide +kernel) (XT.i0_ne_f (by decide)) (pc' := 389) rfl ?_
        refine oGo W124 [.iload 15] (by decide +kernel) (ls' := #[sI i0, sI i1, sI i2, sI i3, sI i4, sI i5, sI sb, sI po, sR a, sI 2, sI 0, sI 7, sR x, sR y, sI 0, sI 1, sI 0, sR o, sU, sU]) (st' := [(.int 1)]) rfl rfl (pc' := 391) rfl ?_
        refine oIfT W124 (cd := .ne) (o := 17) (by decide +kernel) (XT.i0_ne_t (by decide)) (pc' := 408) (by decide) (by decide) ?_
        refine oGo W124 [.aload 17] (by decide +kernel) (ls' := #[sI i0, sI i1, sI i2, sI i3, sI i4, sI i5, sI sb, sI po, sR a, sI 2, sI 0, sI 7, sR x, sR y, sI 0, sI 1, sI 0, sR o, sU, sU]) (st' := [(.ref o)]) rfl rfl (pc' := 410) rfl ?_
        obtain ⟨v125, T125, L125, h125, vm125, W125, ⟨rfl, e125⟩, C125, st125⟩ := oCallV W124 (idx := 34) (pc := 410) (ls := #[sI i0, sI i1, sI i2, sI i3, sI i4, sI i5, sI sb, sI po, sR a, sI 2, sI 0, sI 7, sR x, sR y, sI 0, sI 1, sI 0, sR o, sU, sU]) (st := []) (argsL := []) X124 (c_op1 K F124) (fun x hx => nomatch hx) (wK K 91 rfl) (wK K 92 rfl) (notFace_of_selects (args := #[]) (mvT W124.warm (wK K 94 rfl))) (wK K 94 rfl) (wK K 93 rfl) (wK K 88 rfl) (wK K 95 rfl) (by decide) (na := 0) rfl (by decide +kernel) rfl (stk := [(.ref o)]) rfl (by decide +kernel) (V := 0) (lb rfl) (lb rfl) (lb rfl) (lb rfl) (lb rfl)
        refine oLift st125 ?_
        rw [e125] at W125 C125
        show OG _ _ _ _ _ _ _ _ _ _ _ (mkF m 413 #[sI i0, sI i1, sI i2, sI i3, sI i4, sI i5, sI sb, sI po, sR a, sI 2, sI 0, sI 7, sR x, sR y, sI 0, sI 1, sI 0, sR o, sU, sU] [(.int 1)])
        refine oIfT W125 (cd := .ne) (o := 5) (by decide +kernel) (XT.i0_ne_t (by decide)) (pc' := 418) (by decide) (by decide) ?_
        refine oGo W125 [.aload 17] (by decide +kernel) (ls' := #[sI i0, sI i1, sI i2, sI i3, sI i4, sI i5, sI sb, sI po, sR a, sI 2, sI 0, sI 7, sR x, sR y, sI 0, sI 1, sI 0, sR o, sU, sU]) (st' := [(.ref o)]) rfl rfl (pc' := 420) rfl ?_
        obtain ⟨v126, T126, L126, h126, vm126, W126, ⟨rfl, e126⟩, C126, st126⟩ := oCallV W125 (idx := 40) (pc := 420) (ls := #[sI i0, sI i1, sI i2, sI i3, sI i4, sI i5, sI sb, sI po, sR a, sI 2, sI 0, sI 7, sR x, sR y, sI 0, sI 1, sI 0, sR o, sU, sU]) (st := []) (argsL := []) X124 (c_oge K F124) (fun x hx => nomatch hx) (wK K 228 rfl) (wK K 229 rfl) (notFace_of_selects (args := #[]) (mvT W125.warm (wK K 231 rfl))) (wK K 231 rfl) (wK K 230 rfl) (wK K 88 rfl) (wK K 232 rfl) (by decide) (na := 0) rfl (by decide +kernel) rfl (stk := [(.ref o)]) rfl (by decide +kernel) (V := 0) (lb rfl) (lb rfl) (lb rfl) (lb rfl) (lb rfl)
        refine oLift st126 ?_
        rw [e126] at W126 C126
        show OG _ _ _ _ _ _ _ _ _ _ _ (mkF m 423 #[sI i0, sI i1, sI i2, sI i3, sI i4, sI i5, sI sb, sI po, sR a, sI 2, sI 0, sI 7, sR x, sR y, sI 0, sI 1, sI 0, sR o, sU, sU] [(.ref lo)])
        obtain ⟨T127, W127, st127⟩ := oCast W126 (pc := 423) (ls := #[sI i0, sI i1, sI i2, sI i3, sI i4, sI i5, sI sb, sI po, sR a, sI 2, sI 0, sI 7, sR x, sR y, sI 0, sI 1, sI 0, sR o, sU, sU]) (st := []) (wK K 233 rfl) (Ins.self Xl124) (by decide +kernel)
        refine oLift st127 ?_
        refine oGo W127 [.astore 18, .iload 14] (by decide +kernel) (ls' := #[sI i0, sI i1, sI i2, sI i3, sI i4, sI i5, sI sb, sI po, sR a, sI 2, sI 0, sI 7, sR x, sR y, sI 0, sI 1, sI 0, sR o, sR lo, sU]) (st' := [(.int 0)]) rfl rfl (pc' := 430) rfl ?_
        refine oIfT W127 (cd := .eq) (o := 9) (by decide +kernel) (XT.i0_eq_t (by decide)) (pc' := 439) (by decide) (by decide) ?_
        obtain ⟨T128, W128, st128⟩ := oGetS W127 (pc := 439) (ls := #[sI i0, sI i1, sI i2, sI i3, sI i4, sI i5, sI sb, sI po, sR a, sI 2, sI 0, sI 7, sR x, sR y, sI 0, sI 1, sI 0, sR o, sR lo, sU]) (st := []) (wK K 235 rfl) Via.refl (Sr0.ext W127.ext) (by decide +kernel)
        refine oLift st128 ?_
        refine oGo W128 [.astore 19, .aload 18] (by decide +kernel) (ls' := #[sI i0, sI i1, sI i2, sI i3, sI i4, sI i5, sI sb, sI po, sR a, sI 2, sI 0, sI 7, sR x, sR y, sI 0, sI 1, sI 0, sR o, sR lo, sR r0]) (st' := [(.ref lo)]) rfl rfl (pc' := 446) rfl ?_
        obtain ⟨v129, T129, L129, h129, vm129, W129, ⟨rfl, e129⟩, C129, st129⟩ := oCallV W128 (idx := 53) (pc := 446) (ls := #[sI i0, sI i1, sI i2, sI i3, sI i4, sI i5, sI sb, sI po, sR a, sI 2, sI 0, sI 7, sR x, sR y, sI 0, sI 1, sI 0, sR o, sR lo, sR r0]) (st := []) (argsL := []) Xl124 (c_grole K Fl124) (fun x hx => nomatch hx) (wK K 236 rfl) (wK K 237 rfl) (notFace_of_selects (args := #[]) (mvT W128.warm (wK K 239 rfl))) (wK K 239 rfl) (wK K 238 rfl) (wK K 40 rfl) (wK K 240 rfl) (by decide) (na := 0) rfl (by decide +kernel) rfl (stk := [(.ref lo)]) rfl (by decide +kernel) (V := 0) (lb rfl) (lb rfl) (lb rfl) (lb rfl) (lb rfl)
        refine oLift st129 ?_
        rw [e129] at W129 C129
        show OG _ _ _ _ _ _ _ _ _ _ _ (mkF m 449 #[sI i0, sI i1, sI i2, sI i3, sI i4, sI i5, sI sb, sI po, sR a, sI 2, sI 0, sI 7, sR x, sR y, sI 0, sI 1, sI 0, sR o, sR lo, sR r0] [(.ref r0)])
        refine oGo W129 [.aload 19] (by decide +kernel) (ls' := #[sI i0, sI i1, sI i2, sI i3, sI i4, sI i5, sI sb, sI po, sR a, sI 2, sI 0, sI 7, sR x, sR y, sI 0, sI 1, sI 0, sR o, sR lo, sR r0]) (st' := [(.ref r0), (.ref r0)]) rfl rfl (pc' := 451) rfl ?_
        refine oAcF W129 (cd := .ne) (o := 36) (by decide +kernel) rfl rfl (by simp [XT.acmp]) (pc' := 454) rfl ?_
        refine oGo W129 [.aload 18] (by decide +kernel) (ls' := #[sI i0, sI i1, sI i2, sI i3, sI i4, sI i5, sI sb, sI po, sR a, sI 2, sI 0, sI 7, sR x, sR y, sI 0, sI 1, sI 0, sR o, sR lo, sR r0]) (st' := [(.ref lo)]) rfl rfl (pc' := 456) rfl ?_
        obtain ⟨v130, T130, L130, h130, vm130, W130, ⟨rfl, e130⟩, C130, st130⟩ := oCallV W129 (idx := 57) (pc := 456) (ls := #[sI i0, sI i1, sI i2, sI i3, sI i4, sI i5, sI sb, sI po, sR a, sI 2, sI 0, sI 7, sR x, sR y, sI 0, sI 1, sI 0, sR o, sR lo, sR r0]) (st := []) (argsL := []) Xl124 (c_gchannel K Gl124) (fun x hx => nomatch hx) (wK K 241 rfl) (wK K 242 rfl) (notFace_of_selects (args := #[]) (mvT W129.warm (wK K 244 rfl))) (wK K 244 rfl) (wK K 243 rfl) (wK K 40 rfl) (wK K 245 rfl) (by decide) (na := 0) rfl (by decide +kernel) rfl (stk := [(.ref lo)]) rfl (by decide +kernel) (V := 0) (lb rfl) (lb rfl) (lb rfl) (lb rfl) (lb rfl)
        refine oLift st130 ?_
        rw [e130] at W130 C130
        show OG _ _ _ _ _ _ _ _ _ _ _ (mkF m 459 #[sI i0, sI i1, sI i2, sI i3, sI i4, sI i5, sI sb, sI po, sR a, sI 2, sI 0, sI 7, sR x, sR y, sI 0, sI 1, sI 0, sR o, sR lo, sR r0] [(.ref nm)])
        obtain ⟨v131, T131, L131, h131, vm131, W131, ⟨rfl, e131⟩, C131, st131⟩ := oCallV W130 (idx := 61) (pc := 459) (ls := #[sI i0, sI i1, sI i2, sI i3, sI i4, sI i5, sI sb, sI po, sR a, sI 2, sI 0, sI 7, sR x, sR y, sI 0, sI 1, sI 0, sR o, sR lo, sR r0]) (st := []) (argsL := []) Xn124 (c_cnv K Fn124) (fun x hx => nomatch hx) (wK K 246 rfl) (wK K 247 rfl) (notFace_of_selects (args := #[]) (mvT W130.warm (wK K 249 rfl))) (wK K 249 rfl) (wK K 248 rfl) (wK K 169 rfl) (wK K 250 rfl) (by decide) (na := 0) rfl (by decide +kernel) rfl (stk := [(.ref nm)]) rfl (by decide +kernel) (V := 0) (lb rfl) (lb rfl) (lb rfl) (lb rfl) (lb rfl)
        refine oLift st131 ?_
        rw [e131] at W131 C131
        show OG _ _ _ _ _ _ _ _ _ _ _ (mkF m 462 #[sI i0, sI i1, sI i2, sI i3, sI i4, sI i5, sI sb, sI po, sR a, sI 2, sI 0, sI 7, sR x, sR y, sI 0, sI 1, sI 0, sR o, sR lo, sR r0] [(.ref z)])
        refine oGo W131 [.aload 13] (by decide +kernel) (ls' := #[sI i0, sI i1, sI i2, sI i3, sI i4, sI i5, sI sb, sI po, sR a, sI 2, sI 0, sI 7, sR x, sR y, sI 0, sI 1, sI 0, sR o, sR lo, sR r0]) (st' := [(.ref y), (.ref z)]) rfl rfl (pc' := 464) rfl ?_
        obtain ⟨v132, T132, L132, h132, vm132, W132, ⟨rfl, e132⟩, C132, st132⟩ := oCallV W131 (idx := 67) (pc := 464) (ls := #[sI i0, sI i1, sI i2, sI i3, sI i4, sI i5, sI sb, sI po, sR a, sI 2, sI 0, sI 7, sR x, sR y, sI 0, sI 1, sI 0, sR o, sR lo, sR r0]) (st := []) (argsL := [(.ref y)]) Sz124.exa (k_Eq K.2.1 K.2.2.2.2.1 (lb rfl) (lb rfl) Sz124 (Gy.ext E124)) (fun x hx => nomatch hx) (wK K 251 rfl) (wK K 196 rfl) (notFace_of_selects (args := #[]) (mvT W131.warm (wK K 198 rfl))) (wK K 198 rfl) (wK K 197 rfl) (wK K 11 rfl) (wK K 199 rfl) (by decide) (na := 1) rfl (by decide +kernel) rfl (stk := [(.ref y), (.ref z)]) rfl (by decide +kernel) (V := 0) (lb rfl) (lb rfl) (lb rfl) (lb rfl) (lb rfl)
        refine oLift st132 ?_
        rw [e132] at W132 C132
        show OG _ _ _ _ _ _ _ _ _ _ _ (mkF m 467 #[sI i0, sI i1, sI i2, sI i3, sI i4, sI i5, sI sb, sI po, sR a, sI 2, sI 0, sI 7, sR x, sR y, sI 0, sI 1, sI 0, sR o, sR lo, sR r0] [(.int (if ([c0, c1] : List Int32) = [c0, c1] then 1 else 0))])
        refine oIfF W132 (cd := .eq) (o := 20) (by decide +kernel) (XT.i0_eq_f (by rw [if_pos rfl]; decide)) (pc' := 470) rfl ?_
        refine oGo W132 [.aload 18] (by decide +kernel) (ls' := #[sI i0, sI i1, sI i2, sI i3, sI i4, sI i5, sI sb, sI po, sR a, sI 2, sI 0, sI 7, sR x, sR y, sI 0, sI 1, sI 0, sR o, sR lo, sR r0]) (st' := [(.ref lo)]) rfl rfl (pc' := 472) rfl ?_
        obtain ⟨v133, T133, L133, h133, vm133, W133, ⟨y2, rfl, F133, E133⟩, C133, st133⟩ := oCallV W132 (idx := 71) (pc := 472) (ls := #[sI i0, sI i1, sI i2, sI i3, sI i4, sI i5, sI sb, sI po, sR a, sI 2, sI 0, sI 7, sR x, sR y, sI 0, sI 1, sI 0, sR o, sR lo, sR r0]) (st := []) (argsL := []) Xl124 (c_path K Fl124 Gl124 (Fr0.ext W132.ext) (Tr0.ext W132.ext) Xn124 Fn124 Sz124 (lb rfl)) (fun x hx => nomatch hx) (wK K 252 rfl) (wK K 253 rfl) (notFace_of_selects (args := #[]) (mvT W132.warm (wK K 255 rfl))) (wK K 255 rfl) (wK K 254 rfl) (wK K 40 rfl) (wK K 256 rfl) (by decide) (na := 0) rfl (by decide +kernel) rfl (stk := [(.ref lo)]) rfl (by decide +kernel) (V := 0) (lb rfl) (lb rfl) (lb rfl) (lb rfl) (lb rfl)
        refine oLift st133 ?_
        show OG _ _ _ _ _ _ _ _ _ _ _ (mkF m 475 #[sI i0, sI i1, sI i2, sI i3, sI i4, sI i5, sI sb, sI po, sR a, sI 2, sI 0, sI 7, sR x, sR y, sI 0, sI 1, sI 0, sR o, sR lo, sR r0] [(.ref y2)])
        have Fy2 : Str Z h133 y2 [47, 115, 117, 98, 47, c0, c1] := F133
        refine oGo W133 [.aload 12] (by decide +kernel) (ls' := #[sI i0, sI i1, sI i2, sI i3, sI i4, sI i5, sI sb, sI po, sR a, sI 2, sI 0, sI 7, sR x, sR y, sI 0, sI 1, sI 0, sR o, sR lo, sR r0]) (st' := [(.ref x), (.ref y2)]) rfl rfl (pc' := 477) rfl ?_
        obtain ⟨v134, T134, L134, h134, vm134, W134, ⟨rfl, e134⟩, C134, st134⟩ := oCallV W133 (idx := 67) (pc := 477) (ls := #[sI i0, sI i1, sI i2, sI i3, sI i4, sI i5, sI sb, sI po, sR a, sI 2, sI 0, sI 7, sR x, sR y, sI 0, sI 1, sI 0, sR o, sR lo, sR r0]) (st := []) (argsL := [(.ref x)]) Fy2.exa (k_Eq K.2.1 K.2.2.2.2.1 (lb rfl) (lb rfl) Fy2 ((Fx.ext E124).ext E133)) (fun x hx => nomatch hx) (wK K 251 rfl) (wK K 196 rfl) (notFace_of_selects (args := #[]) (mvT W133.warm (wK K 198 rfl))) (wK K 198 rfl) (wK K 197 rfl) (wK K 11 rfl) (wK K 199 rfl) (by decide) (na := 1) rfl (by decide +kernel) rfl (stk := [(.ref x), (.ref y2)]) rfl (by decide +kernel) (V := 0) (lb rfl) (lb rfl) (lb rfl) (lb rfl) (lb rfl)
        refine oLift st134 ?_
        rw [e134] at W134 C134
        show OG _ _ _ _ _ _ _ _ _ _ _ (mkF m 480 #[sI i0, sI i1, sI i2, sI i3, sI i4, sI i5, sI sb, sI po, sR a, sI 2, sI 0, sI 7, sR x, sR y, sI 0, sI 1, sI 0, sR o, sR lo, sR r0] [(.int (if ([47, 115, 117, 98, 47, c0, c1] : List Int32) = [47, 115, 117, 98, 47, c0, c1] then 1 else 0))])
        refine oIfF W134 (cd := .eq) (o := 7) (by decide +kernel) (XT.i0_eq_f (by rw [if_pos rfl]; decide)) (pc' := 483) rfl ?_
        refine oGo W134 [.iconst 1, .goto 4] (by decide +kernel) (ls' := #[sI i0, sI i1, sI i2, sI i3, sI i4, sI i5, sI sb, sI po, sR a, sI 2, sI 0, sI 7, sR x, sR y, sI 0, sI 1, sI 0, sR o, sR lo, sR r0]) (st' := [(.int 1)]) rfl rfl (pc' := 488) rfl ?_
        exact oRetN (by simp) W134 rfl (by decide +kernel) (lb rfl) (lb rfl) (fun vm' hv => rfl)
    · refine oGo W0 [.iload 14] (by decide +kernel) (ls' := #[sI i0, sI i1, sI i2, sI i3, sI i4, sI i5, sI sb, sI po, sR a, sI 2, sI 0, sI 7, sR x, sR y, sI 0, sI 0, sI dt, sU, sU, sU]) (st' := [(.int 0)]) rfl rfl (pc' := 362) rfl ?_
      refine oIfF W0 (cd := .ne) (o := 8) (by decide +kernel) (XT.i0_ne_f (by decide)) (pc' := 365) rfl ?_
      refine oGo W0 [.iload 15] (by decide +kernel) (ls' := #[sI i0, sI i1, sI i2, sI i3, sI i4, sI i5, sI sb, sI po, sR a, sI 2, sI 0, sI 7, sR x, sR y, sI 0, sI 0, sI dt, sU, sU, sU]) (st' := [(.int 0)]) rfl rfl (pc' := 367) rfl ?_
      refine oIfT W0 (cd := .eq) (o := 10) (by decide +kernel) (XT.i0_eq_t (by decide)) (pc' := 377) (by decide) (by decide) ?_
      refine oGo W0 [.aload 12] (by decide +kernel) (ls' := #[sI i0, sI i1, sI i2, sI i3, sI i4, sI i5, sI sb, sI po, sR a, sI 2, sI 0, sI 7, sR x, sR y, sI 0, sI 0, sI dt, sU, sU, sU]) (st' := [(.ref x)]) rfl rfl (pc' := 379) rfl ?_
      obtain ⟨v135, T135, L135, h135, vm135, W135, ⟨rfl, E135⟩, C135, st135⟩ := oCallS W0 (idx := 28) (pc := 379) (ls := #[sI i0, sI i1, sI i2, sI i3, sI i4, sI i5, sI sb, sI po, sR a, sI 2, sI 0, sI 7, sR x, sR y, sI 0, sI 0, sI dt, sU, sU, sU]) (st := []) (argsL := [(.ref x)]) (c_pan K H HO F (lb rfl) HQ HP) (fun x hx => nomatch hx) (wK K 38 rfl) (wK K 39 rfl) (wK K 40 rfl) (wK K 41 rfl) (by decide) (na := 1) rfl (by decide +kernel) rfl (stk := [(.ref x)]) rfl (by decide +kernel) (V := 0) (lb rfl) (lb rfl) (lb rfl) (lb rfl) (lb rfl)
      refine oLift st135 ?_
      show OG _ _ _ _ _ _ _ _ _ _ _ (mkF m 382 #[sI i0, sI i1, sI i2, sI i3, sI i4, sI i5, sI sb, sI po, sR a, sI 2, sI 0, sI 7, sR x, sR y, sI 0, sI 0, sI dt, sU, sU, sU] [(.ref eo)])
      refine oGo W135 [.astore 17, .iload 14] (by decide +kernel) (ls' := #[sI i0, sI i1, sI i2, sI i3, sI i4, sI i5, sI sb, sI po, sR a, sI 2, sI 0, sI 7, sR x, sR y, sI 0, sI 0, sI dt, sR eo, sU, sU]) (st' := [(.int 0)]) rfl rfl (pc' := 386) rfl ?_
      refine oIfF W135 (cd := .ne) (o := 22) (by decide +kernel) (XT.i0_ne_f (by decide)) (pc' := 389) rfl ?_
      refine oGo W135 [.iload 15] (by decide +kernel) (ls' := #[sI i0, sI i1, sI i2, sI i3, sI i4, sI i5, sI sb, sI po, sR a, sI 2, sI 0, sI 7, sR x, sR y, sI 0, sI 0, sI dt, sR eo, sU, sU]) (st' := [(.int 0)]) rfl rfl (pc' := 391) rfl ?_
      refine oIfF W135 (cd := .ne) (o := 17) (by decide +kernel) (XT.i0_ne_f (by decide)) (pc' := 394) rfl ?_
      refine oGo W135 [.aload 17] (by decide +kernel) (ls' := #[sI i0, sI i1, sI i2, sI i3, sI i4, sI i5, sI sb, sI po, sR a, sI 2, sI 0, sI 7, sR x, sR y, sI 0, sI 0, sI dt, sR eo, sU, sU]) (st' := [(.ref eo)]) rfl rfl (pc' := 396) rfl ?_
      obtain ⟨v136, T136, L136, h136, vm136, W136, ⟨rfl, e136⟩, C136, st136⟩ := oCallV W135 (idx := 34) (pc := 396) (ls := #[sI i0, sI i1, sI i2, sI i3, sI i4, sI i5, sI sb, sI po, sR a, sI 2, sI 0, sI 7, sR x, sR y, sI 0, sI 0, sI dt, sR eo, sU, sU]) (st := []) (argsL := []) (HO.2.1.ext W135.ext) (c_op0 K (HO.2.2.ext W135.ext)) (fun x hx => nomatch hx) (wK K 91 rfl) (wK K 92 rfl) (notFace_of_selects (args := #[]) (mvT W135.warm (wK K 94 rfl))) (wK K 94 rfl) (wK K 93 rfl) (wK K 88 rfl) (wK K 95 rfl) (by decide) (na := 0) rfl (by decide +kernel) rfl (stk := [(.ref eo)]) rfl (by decide +kernel) (V := 0) (lb rfl) (lb rfl) (lb rfl) (lb rfl) (lb rfl)
      refine oLift st136 ?_
      rw [e136] at W136 C136
      show OG _ _ _ _ _ _ _ _ _ _ _ (mkF m 399 #[sI i0, sI i1, sI i2, sI i3, sI i4, sI i5, sI sb, sI po, sR a, sI 2, sI 0, sI 7, sR x, sR y, sI 0, sI 0, sI dt, sR eo, sU, sU] [(.int 0)])
      refine oIfF W136 (cd := .ne) (o := 7) (by decide +kernel) (XT.i0_ne_f (by decide)) (pc' := 402) rfl ?_
      refine oGo W136 [.iconst 1, .goto 4] (by decide +kernel) (ls' := #[sI i0, sI i1, sI i2, sI i3, sI i4, sI i5, sI sb, sI po, sR a, sI 2, sI 0, sI 7, sR x, sR y, sI 0, sI 0, sI dt, sR eo, sU, sU]) (st' := [(.int 1)]) rfl rfl (pc' := 407) rfl ?_
      exact oRetN (by simp) W136 rfl (by decide +kernel) (lb rfl) (lb rfl) (fun vm' hv => rfl)
set_option maxRecDepth 65536 in
set_option maxHeartbeats 40000000 in
theorem c_seg3_3 {l : Launch} {Z : State} {a0 : Array Value} (K : Ctx Z a0) {i0 i1 i2 i3 i4 i5 : Int32} {r0 r1 va : Addr} {kv : ClassId} {p0 p1 : Addr} (H : Rs Z r0 r1 va kv p0 p1) {sb po d0 d1 d2 d3 d4 c0 c1 c2 : Int32} {a x y : Addr} {ka : ClassId} {p : Program} {e : Env} {s : State} {m : MethodId} {args : Array Value} {below : List Frame} {meth : Method} {cc : Code} {h0 : Heap} {vm0 : Vm} {T0 : State} {lc : List Loc}
    (W0 : OW p l e room_1 s m args below meth cc Z a0 EL false "com/example/gentle_hub/gentlehub/server/ChannelLocationParsePinLaw" code 20 (some .boolean) "law" vm0 T0 lc 22 400 h0) (A : OA Z h0 a ka .char [.int d0, .int d1, .int d2, .int d3, .int d4, .int c0, .int c1, .int c2]) (F : Str Z h0 x [d0, d1, d2, d3, d4, c0, c1, c2]) (Gy : Str Z h0 y [c0, c1, c2]) (qa0 : Alw c0) (qa1 : Alw c1) (qa2 : Alw c2) :
    OG p e below s Z EL false (fun v _ h => v = some (.int 1)) room_1.cells room_1.slots T0 (mkF m 197 #[sI i0, sI i1, sI i2, sI i3, sI i4, sI i5, sI sb, sI po, sR a, sI 3, sI 0, sI 8, sR x, sR y, sU, sU, sU, sU, sU, sU] []) := by
  have hw := K.1
  have hS : ∀ a ∈ Bundle.stringAtoms, a.before a0 Z = true := K.2.2.1
  obtain ⟨⟨Sr0, Sr1⟩, ⟨SV, AV, XV⟩, ⟨Fr0, Fr1⟩, ⟨Tr0, Tr1⟩⟩ := id H
  obtain ⟨eo, HO⟩ := K.2.2.2.2.2
  refine oJn (fun r : Int32 => (r = 1 ∧ d0 = 47 ∧ d1 = 112 ∧ d2 = 117 ∧ d3 = 98 ∧ d4 = 47) ∨ (r = 0 ∧ ¬ (d0 = 47 ∧ d1 = 112 ∧ d2 = 117 ∧ d3 = 98 ∧ d4 = 47))) (fun r => mkF m 253 #[sI i0, sI i1, sI i2, sI i3, sI i4, sI i5, sI sb, sI po, sR a, sI 3, sI 0, sI 8, sR x, sR y, sU, sU, sU, sU, sU, sU] [.int r]) ?_ (fun J1 => ?_)
  rotate_left
  · refine oGo W0 [.iload 11, .iconst 5] (by decide +kernel) (ls' := #[sI i0, sI i1, sI i2, sI i3, sI i4, sI i5, sI sb, sI po, sR a, sI 3, sI 0, sI 8, sR x, sR y, sU, sU, sU, sU, sU, sU]) (st' := [(.int 5), (.int 8)]) rfl rfl (pc' := 200) rfl ?_
    refine oIcF W0 (cd := .lt) (o := 52) (by decide +kernel) (XT.ii_lt_f (by decide)) (pc' := 203) rfl ?_
    refine oGo W0 [.aload 8, .iconst 0] (by decide +kernel) (ls' := #[sI i0, sI i1, sI i2, sI i3, sI i4, sI i5, sI sb, sI po, sR a, sI 3, sI 0, sI 8, sR x, sR y, sU, sU, sU, sU, sU, sU]) (st' := [(.int 0), (.ref a)]) rfl rfl (pc' := 206) rfl ?_
    refine oGet W0 A (v := (.int d0)) (by decide) rfl (Or.inl ⟨rfl, rfl⟩) (by decide +kernel) ?_
    refine oGo W0 [.bipush 47] (by decide +kernel) (ls' := #[sI i0, sI i1, sI i2, sI i3, sI i4, sI i5, sI sb, sI po, sR a, sI 3, sI 0, sI 8, sR x, sR y, sU, sU, sU, sU, sU, sU]) (st' := [(.int 47), (.int d0)]) rfl rfl (pc' := 209) rfl ?_
    by_cases hc101 : d0 = (47 : Int32)
    rotate_left
    · refine oIcT W0 (cd := .ne) (o := 43) (by decide +kernel) (XT.ii_ne_t hc101) (pc' := 252) (by decide) (by decide) ?_
      refine oGo W0 [.iconst 0] (by decide +kernel) (ls' := #[sI i0, sI i1, sI i2, sI i3, sI i4, sI i5, sI sb, sI po, sR a, sI 3, sI 0, sI 8, sR x, sR y, sU, sU, sU, sU, sU, sU]) (st' := [(.int 0)]) rfl rfl (pc' := 253) rfl ?_
      exact J1 0 (Or.inr ⟨rfl, fun q => hc101 q.1⟩)
    refine oIcF W0 (cd := .ne) (o := 43) (by decide +kernel) (XT.ii_ne_f hc101) (pc' := 212) rfl ?_
    refine oGo W0 [.aload 8, .iconst 1] (by decide +kernel) (ls' := #[sI i0, sI i1, sI i2, sI i3, sI i4, sI i5, sI sb, sI po, sR a, sI 3, sI 0, sI 8, sR x, sR y, sU, sU, sU, sU, sU, sU]) (st' := [(.int 1), (.ref a)]) rfl rfl (pc' := 215) rfl ?_
    refine oGet W0 A (v := (.int d1)) (by decide) rfl (Or.inl ⟨rfl, rfl⟩) (by decide +kernel) ?_
    refine oGo W0 [.bipush 112] (by decide +kernel) (ls' := #[sI i0, sI i1, sI i2, sI i3, sI i4, sI i5, sI sb, sI po, sR a, sI 3, sI 0, sI 8, sR x, sR y, sU, sU, sU, sU, sU, sU]) (st' := [(.int 112), (.int d1)]) rfl rfl (pc' := 218) rfl ?_
    by_cases hc102 : d1 = (112 : Int32)
    rotate_left
    · refine oIcT W0 (cd := .ne) (o := 34) (by decide +kernel) (XT.ii_ne_t hc102) (pc' := 252) (by decide) (by decide) ?_
      refine oGo W0 [.iconst 0] (by decide +kernel) (ls' := #[sI i0, sI i1, sI i2, sI i3, sI i4, sI i5, sI sb, sI po, sR a, sI 3, sI 0, sI 8, sR x, sR y, sU, sU, sU, sU, sU, sU]) (st' := [(.int 0)]) rfl rfl (pc' := 253) rfl ?_
      exact J1 0 (Or.inr ⟨rfl, fun q => hc102 q.2.1⟩)
    refine oIcF W0 (cd := .ne) (o := 34) (by decide +kernel) (XT.ii_ne_f hc102) (pc' := 221) rfl ?_
    refine oGo W0 [.aload 8, .iconst 2] (by decide +kernel) (ls' := #[sI i0, sI i1, sI i2, sI i3, sI i4, sI i5, sI sb, sI po, sR a, sI 3, sI 0, sI 8, sR x, sR y, sU, sU, sU, sU, sU, sU]) (st' := [(.int 2), (.ref a)]) rfl rfl (pc' := 224) rfl ?_
    refine oGet W0 A (v := (.int d2)) (by decide) rfl (Or.inl ⟨rfl, rfl⟩) (by decide +kernel) ?_
    refine oGo W0 [.bipush 117] (by decide +kernel) (ls' := #[sI i0, sI i1, sI i2, sI i3, sI i4, sI i5, sI sb, sI po, sR a, sI 3, sI 0, sI 8, sR x, sR y, sU, sU, sU, sU, sU, sU]) (st' := [(.int 117), (.int d2)]) rfl rfl (pc' := 227) rfl ?_
    by_cases hc103 : d2 = (117 : Int32)
    rotate_left
    · refine oIcT W0 (cd := .ne) (o := 25) (by decide +kernel) (XT.ii_ne_t hc103) (pc' := 252) (by decide) (by decide) ?_
      refine oGo W0 [.iconst 0] (by decide +kernel) (ls' := #[sI i0, sI i1, sI i2, sI i3, sI i4, sI i5, sI sb, sI po, sR a, sI 3, sI 0, sI 8, sR x, sR y, sU, sU, sU, sU, sU, sU]) (st' := [(.int 0)]) rfl rfl (pc' := 253) rfl ?_
      exact J1 0 (Or.inr ⟨rfl, fun q => hc103 q.2.2.1⟩)
    refine oIcF W0 (cd := .ne) (o := 25) (by decide +kernel) (XT.ii_ne_f hc103) (pc' := 230) rfl ?_
    refine oGo W0 [.aload 8, .iconst 3] (by decide +kernel) (ls' := #[sI i0, sI i1, sI i2, sI i3, sI i4, sI i5, sI sb, sI po, sR a, sI 3, sI 0, sI 8, sR x, sR y, sU, sU, sU, sU, sU, sU]) (st' := [(.int 3), (.ref a)]) rfl rfl (pc' := 233) rfl ?_
    refine oGet W0 A (v := (.int d3)) (by decide) rfl (Or.inl ⟨rfl, rfl⟩) (by decide +kernel) ?_
    refine oGo W0 [.bipush 98] (by decide +kernel) (ls' := #[sI i0, sI i1, sI i2, sI i3, sI i4, sI i5, sI sb, sI po, sR a, sI 3, sI 0, sI 8, sR x, sR y, sU, sU, sU, sU, sU, sU]) (st' := [(.int 98), (.int d3)]) rfl rfl (pc' := 236) rfl ?_
    by_cases hc104 : d3 = (98 : Int32)
    rotate_left
    · refine oIcT W0 (cd := .ne) (o := 16) (by decide +kernel) (XT.ii_ne_t hc104) (pc' := 252) (by decide) (by decide) ?_
      refine oGo W0 [.iconst 0] (by decide +kernel) (ls' := #[sI i0, sI i1, sI i2, sI i3, sI i4, sI i5, sI sb, sI po, sR a, sI 3, sI 0, sI 8, sR x, sR y, sU, sU, sU, sU, sU, sU]) (st' := [(.int 0)]) rfl rfl (pc' := 253) rfl ?_
      exact J1 0 (Or.inr ⟨rfl, fun q => hc104 q.2.2.2.1⟩)
    refine oIcF W0 (cd := .ne) (o := 16) (by decide +kernel) (XT.ii_ne_f hc104) (pc' := 239) rfl ?_
    refine oGo W0 [.aload 8, .iconst 4] (by decide +kernel) (ls' := #[sI i0, sI i1, sI i2, sI i3, sI i4, sI i5, sI sb, sI po, sR a, sI 3, sI 0, sI 8, sR x, sR y, sU, sU, sU, sU, sU, sU]) (st' := [(.int 4), (.ref a)]) rfl rfl (pc' := 242) rfl ?_
    refine oGet W0 A (v := (.int d4)) (by decide) rfl (Or.inl ⟨rfl, rfl⟩) (by decide +kernel) ?_
    refine oGo W0 [.bipush 47] (by decide +kernel) (ls' := #[sI i0, sI i1, sI i2, sI i3, sI i4, sI i5, sI sb, sI po, sR a, sI 3, sI 0, sI 8, sR x, sR y, sU, sU, sU, sU, sU, sU]) (st' := [(.int 47), (.int d4)]) rfl rfl (pc' := 245) rfl ?_
    by_cases hc105 : d4 = (47 : Int32)
    rotate_left
    · refine oIcT W0 (cd := .ne) (o := 7) (by decide +kernel) (XT.ii_ne_t hc105) (pc' := 252) (by decide) (by decide) ?_
      refine oGo W0 [.iconst 0] (by decide +kernel) (ls' := #[sI i0, sI i1, sI i2, sI i3, sI i4, sI i5, sI sb, sI po, sR a, sI 3, sI 0, sI 8, sR x, sR y, sU, sU, sU, sU, sU, sU]) (st' := [(.int 0)]) rfl rfl (pc' := 253) rfl ?_
      exact J1 0 (Or.inr ⟨rfl, fun q => hc105 q.2.2.2.2⟩)
    refine oIcF W0 (cd := .ne) (o := 7) (by decide +kernel) (XT.ii_ne_f hc105) (pc' := 248) rfl ?_
    refine oGo W0 [.iconst 1, .goto 4] (by decide +kernel) (ls' := #[sI i0, sI i1, sI i2, sI i3, sI i4, sI i5, sI sb, sI po, sR a, sI 3, sI 0, sI 8, sR x, sR y, sU, sU, sU, sU, sU, sU]) (st' := [(.int 1)]) rfl rfl (pc' := 253) rfl ?_
    exact J1 1 (Or.inl ⟨rfl, hc101, hc102, hc103, hc104, hc105⟩)
  intro s1 hs1
  refine oGo W0 [.istore 14] (by decide +kernel) (ls' := #[sI i0, sI i1, sI i2, sI i3, sI i4, sI i5, sI sb, sI po, sR a, sI 3, sI 0, sI 8, sR x, sR y, sI s1, sU, sU, sU, sU, sU]) (st' := []) rfl rfl (pc' := 255) rfl ?_
  refine oJn (fun r : Int32 => (r = 1 ∧ d0 = 47 ∧ d1 = 115 ∧ d2 = 117 ∧ d3 = 98 ∧ d4 = 47) ∨ (r = 0 ∧ ¬ (d0 = 47 ∧ d1 = 115 ∧ d2 = 117 ∧ d3 = 98 ∧ d4 = 47))) (fun r => mkF m 311 #[sI i0, sI i1, sI i2, sI i3, sI i4, sI i5, sI sb, sI po, sR a, sI 3, sI 0, sI 8, sR x, sR y, sI s1, sU, sU, sU, sU, sU] [.int r]) ?_ (fun J0 => ?_)
  rotate_left
  · refine oGo W0 [.iload 11, .iconst 5] (by decide +kernel) (ls' := #[sI i0, sI i1, sI i2, sI i3, sI i4, sI i5, sI sb, sI po, sR a, sI 3, sI 0, sI 8, sR x, sR y, sI s1, sU, sU, sU, sU, sU]) (st' := [(.int 5), (.int 8)]) rfl rfl (pc' := 258) rfl ?_
    refine oIcF W0 (cd := .lt) (o := 52) (by decide +kernel) (XT.ii_lt_f (by decide)) (pc' := 261) rfl ?_
    refine oGo W0 [.aload 8, .iconst 0] (by decide +kernel) (ls' := #[sI i0, sI i1, sI i2, sI i3, sI i4, sI i5, sI sb, sI po, sR a, sI 3, sI 0, sI 8, sR x, sR y, sI s1, sU, sU, sU, sU, sU]) (st' := [(.int 0), (.ref a)]) rfl rfl (pc' := 264) rfl ?_
    refine oGet W0 A (v := (.int d0)) (by decide) rfl (Or.inl ⟨rfl, rfl⟩) (by decide +kernel) ?_
    refine oGo W0 [.bipush 47] (by decide +kernel) (ls' := #[sI i0, sI i1, sI i2, sI i3, sI i4, sI i5, sI sb, sI po, sR a, sI 3, sI 0, sI 8, sR x, sR y, sI s1, sU, sU, sU, sU, sU]) (st' := [(.int 47), (.int d0)]) rfl rfl (pc' := 267) rfl ?_
    by_cases hc106 : d0 = (47 : Int32)
    rotate_left
    · refine oIcT W0 (cd := .ne) (o := 43) (by decide +kernel) (XT.ii_ne_t hc106) (pc' := 310) (by decide) (by decide) ?_
      refine oGo W0 [.iconst 0] (by decide +kernel) (ls' := #[sI i0, sI i1, sI i2, sI i3, sI i4, sI i5, sI sb, sI po, sR a, sI 3, sI 0, sI 8, sR x, sR y, sI s1, sU, sU, sU, sU, sU]) (st' := [(.int 0)]) rfl rfl (pc' := 311) rfl ?_
      exact J0 0 (Or.inr ⟨rfl, fun q => hc106 q.1⟩)
    refine oIcF W0 (cd := .ne) (o := 43) (by decide +kernel) (XT.ii_ne_f hc106) (pc' := 270) rfl ?_
    refine oGo W0 [.aload 8, .iconst 1] (by decide +kernel) (ls' := #[sI i0, sI i1, sI i2, sI i3, sI i4, sI i5, sI sb, sI po, sR a, sI 3, sI 0, sI 8, sR x, sR y, sI s1, sU, sU, sU, sU, sU]) (st' := [(.int 1), (.ref a)]) rfl rfl (pc' := 273) rfl ?_
    refine oGet W0 A (v := (.int d1)) (by decide) rfl (Or.inl ⟨rfl, rfl⟩) (by decide +kernel) ?_
    refine oGo W0 [.bipush 115] (by decide +kernel) (ls' := #[sI i0, sI i1, sI i2, sI i3, sI i4, sI i5, sI sb, sI po, sR a, sI 3, sI 0, sI 8, sR x, sR y, sI s1, sU, sU, sU, sU, sU]) (st' := [(.int 115), (.int d1)]) rfl rfl (pc' := 276) rfl ?_
    by_cases hc107 : d1 = (115 : Int32)
    rotate_left
    · refine oIcT W0 (cd := .ne) (o := 34) (by decide +kernel) (XT.ii_ne_t hc107) (pc' := 310) (by decide) (by decide) ?_
      refine oGo W0 [.iconst 0] (by decide +kernel) (ls' := #[sI i0, sI i1, sI i2, sI i3, sI i4, sI i5, sI sb, sI po, sR a, sI 3, sI 0, sI 8, sR x, sR y, sI s1, sU, sU, sU, sU, sU]) (st' := [(.int 0)]) rfl rfl (pc' := 311) rfl ?_
      exact J0 0 (Or.inr ⟨rfl, fun q => hc107 q.2.1⟩)
    refine oIcF W0 (cd := .ne) (o := 34) (by decide +kernel) (XT.ii_ne_f hc107) (pc' := 279) rfl ?_
    refine oGo W0 [.aload 8, .iconst 2] (by decide +kernel) (ls' := #[sI i0, sI i1, sI i2, sI i3, sI i4, sI i5, sI sb, sI po, sR a, sI 3, sI 0, sI 8, sR x, sR y, sI s1, sU, sU, sU, sU, sU]) (st' := [(.int 2), (.ref a)]) rfl rfl (pc' := 282) rfl ?_
    refine oGet W0 A (v := (.int d2)) (by decide) rfl (Or.inl ⟨rfl, rfl⟩) (by decide +kernel) ?_
    refine oGo W0 [.bipush 117] (by decide +kernel) (ls' := #[sI i0, sI i1, sI i2, sI i3, sI i4, sI i5, sI sb, sI po, sR a, sI 3, sI 0, sI 8, sR x, sR y, sI s1, sU, sU, sU, sU, sU]) (st' := [(.int 117), (.int d2)]) rfl rfl (pc' := 285) rfl ?_
    by_cases hc108 : d2 = (117 : Int32)
    rotate_left
    · refine oIcT W0 (cd := .ne) (o := 25) (by decide +kernel) (XT.ii_ne_t hc108) (pc' := 310) (by decide) (by decide) ?_
      refine oGo W0 [.iconst 0] (by decide +kernel) (ls' := #[sI i0, sI i1, sI i2, sI i3, sI i4, sI i5, sI sb, sI po, sR a, sI 3, sI 0, sI 8, sR x, sR y, sI s1, sU, sU, sU, sU, sU]) (st' := [(.int 0)]) rfl rfl (pc' := 311) rfl ?_
      exact J0 0 (Or.inr ⟨rfl, fun q => hc108 q.2.2.1⟩)
    refine oIcF W0 (cd := .ne) (o := 25) (by decide +kernel) (XT.ii_ne_f hc108) (pc' := 288) rfl ?_
    refine oGo W0 [.aload 8, .iconst 3] (by decide +kernel) (ls' := #[sI i0, sI i1, sI i2, sI i3, sI i4, sI i5, sI sb, sI po, sR a, sI 3, sI 0, sI 8, sR x, sR y, sI s1, sU, sU, sU, sU, sU]) (st' := [(.int 3), (.ref a)]) rfl rfl (pc' := 291) rfl ?_
    refine oGet W0 A (v := (.int d3)) (by decide) rfl (Or.inl ⟨rfl, rfl⟩) (by decide +kernel) ?_
    refine oGo W0 [.bipush 98] (by decide +kernel) (ls' := #[sI i0, sI i1, sI i2, sI i3, sI i4, sI i5, sI sb, sI po, sR a, sI 3, sI 0, sI 8, sR x, sR y, sI s1, sU, sU, sU, sU, sU]) (st' := [(.int 98), (.int d3)]) rfl rfl (pc' := 294) rfl ?_
    by_cases hc109 : d3 = (98 : Int32)
    rotate_left
    · refine oIcT W0 (cd := .ne) (o := 16) (by decide +kernel) (XT.ii_ne_t hc109) (pc' := 310) (by decide) (by decide) ?_
      refine oGo W0 [.iconst 0] (by decide +kernel) (ls' := #[sI i0, sI i1, sI i2, sI i3, sI i4, sI i5, sI sb, sI po, sR a, sI 3, sI 0, sI 8, sR x, sR y, sI s1, sU, sU, sU, sU, sU]) (st' := [(.int 0)]) rfl rfl (pc' := 311) rfl ?_
      exact J0 0 (Or.inr ⟨rfl, fun q => hc109 q.2.2.2.1⟩)
    refine oIcF W0 (cd := .ne) (o := 16) (by decide +kernel) (XT.ii_ne_f hc109) (pc' := 297) rfl ?_
    refine oGo W0 [.aload 8, .iconst 4] (by decide +kernel) (ls' := #[sI i0, sI i1, sI i2, sI i3, sI i4, sI i5, sI sb, sI po, sR a, sI 3, sI 0, sI 8, sR x, sR y, sI s1, sU, sU, sU, sU, sU]) (st' := [(.int 4), (.ref a)]) rfl rfl (pc' := 300) rfl ?_
    refine oGet W0 A (v := (.int d4)) (by decide) rfl (Or.inl ⟨rfl, rfl⟩) (by decide +kernel) ?_
    refine oGo W0 [.bipush 47] (by decide +kernel) (ls' := #[sI i0, sI i1, sI i2, sI i3, sI i4, sI i5, sI sb, sI po, sR a, sI 3, sI 0, sI 8, sR x, sR y, sI s1, sU, sU, sU, sU, sU]) (st' := [(.int 47), (.int d4)]) rfl rfl (pc' := 303) rfl ?_
    by_cases hc110 : d4 = (47 : Int32)
    rotate_left
    · refine oIcT W0 (cd := .ne) (o := 7) (by decide +kernel) (XT.ii_ne_t hc110) (pc' := 310) (by decide) (by decide) ?_
      refine oGo W0 [.iconst 0] (by decide +kernel) (ls' := #[sI i0, sI i1, sI i2, sI i3, sI i4, sI i5, sI sb, sI po, sR a, sI 3, sI 0, sI 8, sR x, sR y, sI s1, sU, sU, sU, sU, sU]) (st' := [(.int 0)]) rfl rfl (pc' := 311) rfl ?_
      exact J0 0 (Or.inr ⟨rfl, fun q => hc110 q.2.2.2.2⟩)
    refine oIcF W0 (cd := .ne) (o := 7) (by decide +kernel) (XT.ii_ne_f hc110) (pc' := 306) rfl ?_
    refine oGo W0 [.iconst 1, .goto 4] (by decide +kernel) (ls' := #[sI i0, sI i1, sI i2, sI i3, sI i4, sI i5, sI sb, sI po, sR a, sI 3, sI 0, sI 8, sR x, sR y, sI s1, sU, sU, sU, sU, sU]) (st' := [(.int 1)]) rfl rfl (pc' := 311) rfl ?_
    exact J0 1 (Or.inl ⟨rfl, hc106, hc107, hc108, hc109, hc110⟩)
  intro s0 hs0
  refine oGo W0 [.istore 15] (by decide +kernel) (ls' := #[sI i0, sI i1, sI i2, sI i3, sI i4, sI i5, sI sb, sI po, sR a, sI 3, sI 0, sI 8, sR x, sR y, sI s1, sI s0, sU, sU, sU, sU]) (st' := []) rfl rfl (pc' := 313) rfl ?_
  refine oJn (fun r : Int32 => (r = 1 ∧ True) ∨ (r = 0 ∧ ¬ False)) (fun r => mkF m 358 #[sI i0, sI i1, sI i2, sI i3, sI i4, sI i5, sI sb, sI po, sR a, sI 3, sI 0, sI 8, sR x, sR y, sI s1, sI s0, sU, sU, sU, sU] [.int r]) ?_ (fun Jd => ?_)
  rotate_left
  · refine oGo W0 [.iload 9, .iconst 1] (by decide +kernel) (ls' := #[sI i0, sI i1, sI i2, sI i3, sI i4, sI i5, sI sb, sI po, sR a, sI 3, sI 0, sI 8, sR x, sR y, sI s1, sI s0, sU, sU, sU, sU]) (st' := [(.int 1), (.int 3)]) rfl rfl (pc' := 316) rfl ?_
    refine oIcT W0 (cd := .ne) (o := 12) (by decide +kernel) (XT.ii_ne_t (by decide)) (pc' := 328) (by decide) (by decide) ?_
    refine oGo W0 [.iload 9, .iconst 2] (by decide +kernel) (ls' := #[sI i0, sI i1, sI i2, sI i3, sI i4, sI i5, sI sb, sI po, sR a, sI 3, sI 0, sI 8, sR x, sR y, sI s1, sI s0, sU, sU, sU, sU]) (st' := [(.int 2), (.int 3)]) rfl rfl (pc' := 331) rfl ?_
    refine oIcT W0 (cd := .ne) (o := 26) (by decide +kernel) (XT.ii_ne_t (by decide)) (pc' := 357) (by decide) (by decide) ?_
    refine oGo W0 [.iconst 0] (by decide +kernel) (ls' := #[sI i0, sI i1, sI i2, sI i3, sI i4, sI i5, sI sb, sI po, sR a, sI 3, sI 0, sI 8, sR x, sR y, sI s1, sI s0, sU, sU, sU, sU]) (st' := [(.int 0)]) rfl rfl (pc' := 358) rfl ?_
    exact Jd 0 (Or.inr ⟨rfl, fun q => q⟩)
  intro dt hdt
  refine oGo W0 [.istore 16] (by decide +kernel) (ls' := #[sI i0, sI i1, sI i2, sI i3, sI i4, sI i5, sI sb, sI po, sR a, sI 3, sI 0, sI 8, sR x, sR y, sI s1, sI s0, sI dt, sU, sU, sU]) (st' := []) rfl rfl (pc' := 360) rfl ?_
  rcases hs1 with ⟨rfl, HP⟩ | ⟨rfl, HP⟩
  · rcases hdt with ⟨rfl, -⟩ | ⟨rfl, hdot⟩
    · refine oGo W0 [.iload 14] (by decide +kernel) (ls' := #[sI i0, sI i1, sI i2, sI i3, sI i4, sI i5, sI sb, sI po, sR a, sI 3, sI 0, sI 8, sR x, sR y, sI 1, sI s0, sI 1, sU, sU, sU]) (st' := [(.int 1)]) rfl rfl (pc' := 362) rfl ?_
      refine oIfT W0 (cd := .ne) (o := 8) (by decide +kernel) (XT.i0_ne_t (by decide)) (pc' := 370) (by decide) (by decide) ?_
      refine oGo W0 [.iload 16] (by decide +kernel) (ls' := #[sI i0, sI i1, sI i2, sI i3, sI i4, sI i5, sI sb, sI po, sR a, sI 3, sI 0, sI 8, sR x, sR y, sI 1, sI s0, sI 1, sU, sU, sU]) (st' := [(.int 1)]) rfl rfl (pc' := 372) rfl ?_
      refine oIfF W0 (cd := .eq) (o := 5) (by decide +kernel) (XT.i0_eq_f (by decide)) (pc' := 375) rfl ?_
      refine oGo W0 [.iconst 1] (by decide +kernel) (ls' := #[sI i0, sI i1, sI i2, sI i3, sI i4, sI i5, sI sb, sI po, sR a, sI 3, sI 0, sI 8, sR x, sR y, sI 1, sI s0, sI 1, sU, sU, sU]) (st' := [(.int 1)]) rfl rfl (pc' := 376) rfl ?_
      exact oRetN (by simp) W0 rfl (by decide +kernel) (lb rfl) (lb rfl) (fun vm' hv => rfl)
    · refine oGo W0 [.iload 14] (by decide +kernel) (ls' := #[sI i0, sI i1, sI i2, sI i3, sI i4, sI i5, sI sb, sI po, sR a, sI 3, sI 0, sI 8, sR x, sR y, sI 1, sI s0, sI 0, sU, sU, sU]) (st' := [(.int 1)]) rfl rfl (pc' := 362) rfl ?_
      refine oIfT W0 (cd := .ne) (o := 8) (by decide +kernel) (XT.i0_ne_t (by decide)) (pc' := 370) (by decide) (by decide) ?_
      refine oGo W0 [.iload 16] (by decide +kernel) (ls' := #[sI i0, sI i1, sI i2, sI i3, sI i4, sI i5, sI sb, sI po, sR a, sI 3, sI 0, sI 8, sR x, sR y, sI 1, sI s0, sI 0, sU, sU, sU]) (st' := [(.int 0)]) rfl rfl (pc' := 372) rfl ?_
      refine oIfT W0 (cd := .eq) (o := 5) (by decide +kernel) (XT.i0_eq_t (by decide)) (pc' := 377) (by decide) (by decide) ?_
      refine oGo W0 [.aload 12] (by decide +kernel) (ls' := #[sI i0, sI i1, sI i2, sI i3, sI i4, sI i5, sI sb, sI po, sR a, sI 3, sI 0, sI 8, sR x, sR y, sI 1, sI s0, sI 0, sU, sU, sU]) (st' := [(.ref x)]) rfl rfl (pc' := 379) rfl ?_
      have hxe : ([d0, d1, d2, d3, d4, c0, c1, c2] : List Int32) = [47, 112, 117, 98, 47, c0, c1, c2] := by rw [HP.1, HP.2.1, HP.2.2.1, HP.2.2.2.1, HP.2.2.2.2]
      have Fx : Str Z h0 x [47, 112, 117, 98, 47, c0, c1, c2] := hxe ▸ F
      obtain ⟨v111, T111, L111, h111, vm111, W111, ⟨o, lo, nm, z, rfl, E111, X111, F111, Xl111, Fl111, Gl111, Xn111, Fn111, Sz111⟩, C111, st111⟩ := oCallS W0 (idx := 28) (pc := 379) (ls := #[sI i0, sI i1, sI i2, sI i3, sI i4, sI i5, sI sb, sI po, sR a, sI 3, sI 0, sI 8, sR x, sR y, sI 1, sI s0, sI 0, sU, sU, sU]) (st := []) (argsL := [(.ref x)]) (c_pa13 K H Fx qa0 qa1 qa2) (fun x hx => nomatch hx) (wK K 38 rfl) (wK K 39 rfl) (wK K 40 rfl) (wK K 41 rfl) (by decide) (na := 1) rfl (by decide +kernel) rfl (stk := [(.ref x)]) rfl (by decide +kernel) (V := 0) (lb rfl) (lb rfl) (lb rfl) (lb rfl) (lb rfl)
      refine oLift st111 ?_
      show OG _ _ _ _ _ _ _ _ _ _ _ (mkF m 382 #[sI i0, sI i1, sI i2, sI i3, sI i4, sI i5, sI sb, sI po, sR a, sI 3, sI 0, sI 8, sR x, sR y, sI 1, sI s0, sI 0, sU, sU, sU] [(.ref o)])
      refine oGo W111 [.astore 17, .iload 14] (by decide +kernel) (ls' := #[sI i0, sI i1, sI i2, sI i3, sI i4, sI i5, sI sb, sI po, sR a, sI 3, sI 0, sI 8, sR x, sR y, sI 1, sI s0, sI 0, sR o, sU, sU]) (st' := [(.int 1)]) rfl rfl (pc' := 386) rfl ?_
      refine oIfT W111 (cd := .ne) (o := 22) (by decide +kernel) (XT.i0_ne_t (by decide)) (pc' := 408) (by decide) (by decide) ?_
      refine oGo W111 [.aload 17] (by decide +kernel) (ls' := #[sI i0, sI i1, sI i2, sI i3, sI i4, sI i5, sI sb, sI po, sR a, sI 3, sI 0, sI 8, sR x, sR y, sI 1, sI s0, sI 0, sR o, sU, sU]) (st' := [(.ref o)]) rfl rfl (pc' := 410) rfl ?_
      obtain ⟨v112, T112, L112, h112, vm112, W112, ⟨rfl, e112⟩, C112, st112⟩ := oCallV W111 (idx := 34) (pc := 410) (ls := #[sI i0, sI i1, sI i2, sI i3, sI i4, sI i5, sI sb, sI po, sR a, sI 3, sI 0, sI 8, sR x, sR y, sI 1, sI s0, sI 0, sR o, sU, sU]) (st := []) (argsL := []) X111 (c_op1 K F111) (fun x hx => nomatch hx) (wK K 91 rfl) (wK K 92 rfl) (notFace_of_selects (args := #[]) (mvT W111.warm (wK K 94 rfl))) (wK K 94 rfl) (wK K 93 rfl) (wK K 88 rfl) (wK K 95 rfl) (by decide) (na := 0) rfl (by decide +kernel) rfl (stk := [(.ref o)]) rfl (by decide +kernel) (V := 0) (lb rfl) (lb rfl) (lb rfl) (lb rfl) (lb rfl)
      refine oLift st112 ?_
      rw [e112] at W112 C112
      show OG _ _ _ _ _ _ _ _ _ _ _ (mkF m 413 #[sI i0, sI i1, sI i2, sI i3, sI i4, sI i5, sI sb, sI po, sR a, sI 3, sI 0, sI 8, sR x, sR y, sI 1, sI s0, sI 0, sR o, sU, sU] [(.int 1)])
      refine oIfT W112 (cd := .ne) (o := 5) (by decide +kernel) (XT.i0_ne_t (by decide)) (pc' := 418) (by decide) (by decide) ?_
      refine oGo W112 [.aload 17] (by decide +kernel) (ls' := #[sI i0, sI i1, sI i2, sI i3, sI i4, sI i5, sI sb, sI po, sR a, sI 3, sI 0, sI 8, sR x, sR y, sI 1, sI s0, sI 0, sR o, sU, sU]) (st' := [(.ref o)]) rfl rfl (pc' := 420) rfl ?_
      obtain ⟨v113, T113, L113, h113, vm113, W113, ⟨rfl, e113⟩, C113, st113⟩ := oCallV W112 (idx := 40) (pc := 420) (ls := #[sI i0, sI i1, sI i2, sI i3, sI i4, sI i5, sI sb, sI po, sR a, sI 3, sI 0, sI 8, sR x, sR y, sI 1, sI s0, sI 0, sR o, sU, sU]) (st := []) (argsL := []) X111 (c_oge K F111) (fun x hx => nomatch hx) (wK K 228 rfl) (wK K 229 rfl) (notFace_of_selects (args := #[]) (mvT W112.warm (wK K 231 rfl))) (wK K 231 rfl) (wK K 230 rfl) (wK K 88 rfl) (wK K 232 rfl) (by decide) (na := 0) rfl (by decide +kernel) rfl (stk := [(.ref o)]) rfl (by decide +kernel) (V := 0) (lb rfl) (lb rfl) (lb rfl) (lb rfl) (lb rfl)
      refine oLift st113 ?_
      rw [e113] at W113 C113
      show OG _ _ _ _ _ _ _ _ _ _ _ (mkF m 423 #[sI i0, sI i1, sI i2, sI i3, sI i4, sI i5, sI sb, sI po, sR a, sI 3, sI 0, sI 8, sR x, sR y, sI 1, sI s0, sI 0, sR o, sU, sU] [(.ref lo)])
      obtain ⟨T114, W114, st114⟩ := oCast W113 (pc := 423) (ls := #[sI i0, sI i1, sI i2, sI i3, sI i4, sI i5, sI sb, sI po, sR a, sI 3, sI 0, sI 8, sR x, sR y, sI 1, sI s0, sI 0, sR o, sU, sU]) (st := []) (wK K 233 rfl) (Ins.self Xl111) (by decide +kernel)
      refine oLift st114 ?_
      refine oGo W114 [.astore 18, .iload 14] (by decide +kernel) (ls' := #[sI i0, sI i1, sI i2, sI i3, sI i4, sI i5, sI sb, sI po, sR a, sI 3, sI 0, sI 8, sR x, sR y, sI 1, sI s0, sI 0, sR o, sR lo, sU]) (st' := [(.int 1)]) rfl rfl (pc' := 430) rfl ?_
      refine oIfF W114 (cd := .eq) (o := 9) (by decide +kernel) (XT.i0_eq_f (by decide)) (pc' := 433) rfl ?_
      obtain ⟨T115, W115, st115⟩ := oGetS W114 (pc := 433) (ls := #[sI i0, sI i1, sI i2, sI i3, sI i4, sI i5, sI sb, sI po, sR a, sI 3, sI 0, sI 8, sR x, sR y, sI 1, sI s0, sI 0, sR o, sR lo, sU]) (st := []) (wK K 343 rfl) Via.refl (Sr1.ext W114.ext) (by decide +kernel)
      refine oLift st115 ?_
      refine oGo W115 [.goto 6, .astore 19, .aload 18] (by decide +kernel) (ls' := #[sI i0, sI i1, sI i2, sI i3, sI i4, sI i5, sI sb, sI po, sR a, sI 3, sI 0, sI 8, sR x, sR y, sI 1, sI s0, sI 0, sR o, sR lo, sR r1]) (st' := [(.ref lo)]) rfl rfl (pc' := 446) rfl ?_
      obtain ⟨v116, T116, L116, h116, vm116, W116, ⟨rfl, e116⟩, C116, st116⟩ := oCallV W115 (idx := 53) (pc := 446) (ls := #[sI i0, sI i1, sI i2, sI i3, sI i4, sI i5, sI sb, sI po, sR a, sI 3, sI 0, sI 8, sR x, sR y, sI 1, sI s0, sI 0, sR o, sR lo, sR r1]) (st := []) (argsL := []) Xl111 (c_grole K Fl111) (fun x hx => nomatch hx) (wK K 236 rfl) (wK K 237 rfl) (notFace_of_selects (args := #[]) (mvT W115.warm (wK K 239 rfl))) (wK K 239 rfl) (wK K 238 rfl) (wK K 40 rfl) (wK K 240 rfl) (by decide) (na := 0) rfl (by decide +kernel) rfl (stk := [(.ref lo)]) rfl (by decide +kernel) (V := 0) (lb rfl) (lb rfl) (lb rfl) (lb rfl) (lb rfl)
      refine oLift st116 ?_
      rw [e116] at W116 C116
      show OG _ _ _ _ _ _ _ _ _ _ _ (mkF m 449 #[sI i0, sI i1, sI i2, sI i3, sI i4, sI i5, sI sb, sI po, sR a, sI 3, sI 0, sI 8, sR x, sR y, sI 1, sI s0, sI 0, sR o, sR lo, sR r1] [(.ref r1)])
      refine oGo W116 [.aload 19] (by decide +kernel) (ls' := #[sI i0, sI i1, sI i2, sI i3, sI i4, sI i5, sI sb, sI po, sR a, sI 3, sI 0, sI 8, sR x, sR y, sI 1, sI s0, sI 0, sR o, sR lo, sR r1]) (st' := [(.ref r1), (.ref r1)]) rfl rfl (pc' := 451) rfl ?_
      refine oAcF W116 (cd := .ne) (o := 36) (by decide +kernel) rfl rfl (by simp [XT.acmp]) (pc' := 454) rfl ?_
      refine oGo W116 [.aload 18] (by decide +kernel) (ls' := #[sI i0, sI i1, sI i2, sI i3, sI i4, sI i5, sI sb, sI po, sR a, sI 3, sI 0, sI 8, sR x, sR y, sI 1, sI s0, sI 0, sR o, sR lo, sR r1]) (st' := [(.ref lo)]) rfl rfl (pc' := 456) rfl ?_
      obtain ⟨v117, T117, L117, h117, vm117, W117, ⟨rfl, e117⟩, C117, st117⟩ := oCallV W116 (idx := 57) (pc := 456) (ls := #[sI i0, sI i1, sI i2, sI i3, sI i4, sI i5, sI sb, sI po, sR a, sI 3, sI 0, sI 8, sR x, sR y, sI 1, sI s0, sI 0, sR o, sR lo, sR r1]) (st := []) (argsL := []) Xl111 (c_gchannel K Gl111) (fun x hx => nomatch hx) (wK K 241 rfl) (wK K 242 rfl) (notFace_of_selects (args := #[]) (mvT W116.warm (wK K 244 rfl))) (wK K 244 rfl) (wK K 243 rfl) (wK K 40 rfl) (wK K 245 rfl) (by decide) (na := 0) rfl (by decide +kernel) rfl (stk := [(.ref lo)]) rfl (by decide +kernel) (V := 0) (lb rfl) (lb rfl) (lb rfl) (lb rfl) (lb rfl)
      refine oLift st117 ?_
      rw [e117] at W117 C117
      show OG _ _ _ _ _ _ _ _ _ _ _ (mkF m 459 #[sI i0, sI i1, sI i2, sI i3, sI i4, sI i5, sI sb, sI po, sR a, sI 3, sI 0, sI 8, sR x, sR y, sI 1, sI s0, sI 0, sR o, sR lo, sR r1] [(.ref nm)])
      obtain ⟨v118, T118, L118, h118, vm118, W118, ⟨rfl, e118⟩, C118, st118⟩ := oCallV W117 (idx := 61) (pc := 459) (ls := #[sI i0, sI i1, sI i2, sI i3, sI i4, sI i5, sI sb, sI po, sR a, sI 3, sI 0, sI 8, sR x, sR y, sI 1, sI s0, sI 0, sR o, sR lo, sR r1]) (st := []) (argsL := []) Xn111 (c_cnv K Fn111) (fun x hx => nomatch hx) (wK K 246 rfl) (wK K 247 rfl) (notFace_of_selects (args := #[]) (mvT W117.warm (wK K 249 rfl))) (wK K 249 rfl) (wK K 248 rfl) (wK K 169 rfl) (wK K 250 rfl) (by decide) (na := 0) rfl (by decide +kernel) rfl (stk := [(.ref nm)]) rfl (by decide +kernel) (V := 0) (lb rfl) (lb rfl) (lb rfl) (lb rfl) (lb rfl)
      refine oLift st118 ?_
      rw [e118] at W118 C118
      show OG _ _ _ _ _ _ _ _ _ _ _ (mkF m 462 #[sI i0, sI i1, sI i2, sI i3, sI i4, sI i5, sI sb, sI po, sR a, sI 3, sI 0, sI 8, sR x, sR y, sI 1, sI s0, sI 0, sR o, sR lo, sR r1] [(.ref z)])
      refine oGo W118 [.aload 13] (by decide +kernel) (ls' := #[sI i0, sI i1, sI i2, sI i3, sI i4, sI i5, sI sb, sI po, sR a, sI 3, sI 0, sI 8, sR x, sR y, sI 1, sI s0, sI 0, sR o, sR lo, sR r1]) (st' := [(.ref y), (.ref z)]) rfl rfl (pc' := 464) rfl ?_
      obtain ⟨v119, T119, L119, h119, vm119, W119, ⟨rfl, e119⟩, C119, st119⟩ := oCallV W118 (idx := 67) (pc := 464) (ls := #[sI i0, sI i1, sI i2, sI i3, sI i4, sI i5, sI sb, sI po, sR a, sI 3, sI 0, sI 8, sR x, sR y, sI 1, sI s0, sI 0, sR o, sR lo, sR r1]) (st := []) (argsL := [(.ref y)]) Sz111.exa (k_Eq K.2.1 K.2.2.2.2.1 (lb rfl) (lb rfl) Sz111 (Gy.ext E111)) (fun x hx => nomatch hx) (wK K 251 rfl) (wK K 196 rfl) (notFace_of_selects (args := #[]) (mvT W118.warm (wK K 198 rfl))) (wK K 198 rfl) (wK K 197 rfl) (wK K 11 rfl) (wK K 199 rfl) (by decide) (na := 1) rfl (by decide +kernel) rfl (stk := [(.ref y), (.ref z)]) rfl (by decide +kernel) (V := 0) (lb rfl) (lb rfl) (lb rfl) (lb rfl) (lb rfl)
      refine oLift st119 ?_
      rw [e119] at W119 C119
      show OG _ _ _ _ _ _ _ _ _ _ _ (mkF m 467 #[sI i0, sI i1, sI i2, sI i3, sI i4, sI i5, sI sb, sI po, sR a, sI 3, sI 0, sI 8, sR x, sR y, sI 1, sI s0, sI 0, sR o, sR lo, sR r1] [(.int (if ([c0, c1, c2] : List Int32) = [c0, c1, c2] then 1 else 0))])
      refine oIfF W119 (cd := .eq) (o := 20) (by decide +kernel) (XT.i0_eq_f (by rw [if_pos rfl]; decide)) (pc' := 470) rfl ?_
      refine oGo W119 [.aload 18] (by decide +kernel) (ls' := #[sI i0, sI i1, sI i2, sI i3, sI i4, sI i5, sI sb, sI po, sR a, sI 3, sI 0, sI 8, sR x, sR y, sI 1, sI s0, sI 0, sR o, sR lo, sR r1]) (st' := [(.ref lo)]) rfl rfl (pc' := 472) rfl ?_
      obtain ⟨v120, T120, L120, h120, vm120, W120, ⟨y2, rfl, F120, E120⟩, C120, st120⟩ := oCallV W119 (idx := 71) (pc := 472) (ls := #[sI i0, sI i1, sI i2, sI i3, sI i4, sI i5, sI sb, sI po, sR a, sI 3, sI 0, sI 8, sR x, sR y, sI 1, sI s0, sI 0, sR o, sR lo, sR r1]) (st := []) (argsL := []) Xl111 (c_path K Fl111 Gl111 (Fr1.ext W119.ext) (Tr1.ext W119.ext) Xn111 Fn111 Sz111 (lb rfl)) (fun x hx => nomatch hx) (wK K 252 rfl) (wK K 253 rfl) (notFace_of_selects (args := #[]) (mvT W119.warm (wK K 255 rfl))) (wK K 255 rfl) (wK K 254 rfl) (wK K 40 rfl) (wK K 256 rfl) (by decide) (na := 0) rfl (by decide +kernel) rfl (stk := [(.ref lo)]) rfl (by decide +kernel) (V := 0) (lb rfl) (lb rfl) (lb rfl) (lb rfl) (lb rfl)
      refine oLift st120 ?_
      show OG _ _ _ _ _ _ _ _ _ _ _ (mkF m 475 #[sI i0, sI i1, sI i2, sI i3, sI i4, sI i5, sI sb, sI po, sR a, sI 3, sI 0, sI 8, sR x, sR y, sI 1, sI s0, sI 0, sR o, sR lo, sR r1] [(.ref y2)])
      have Fy2 : Str Z h120 y2 [47, 112, 117, 98, 47, c0, c1, c2] := F120
      refine oGo W120 [.aload 12] (by decide +kernel) (ls' := #[sI i0, sI i1, sI i2, sI i3, sI i4, sI i5, sI sb, sI po, sR a, sI 3, sI 0, sI 8, sR x, sR y, sI 1, sI s0, sI 0, sR o, sR lo, sR r1]) (st' := [(.ref x), (.ref y2)]) rfl rfl (pc' := 477) rfl ?_
      obtain ⟨v121, T121, L121, h121, vm121, W121, ⟨rfl, e121⟩, C121, st121⟩ := oCallV W120 (idx := 67) (pc := 477) (ls := #[sI i0, sI i1, sI i2, sI i3, sI i4, sI i5, sI sb, sI po, sR a, sI 3, sI 0, sI 8, sR x, sR y, sI 1, sI s0, sI 0, sR o, sR lo, sR r1]) (st := []) (argsL := [(.ref x)]) Fy2.exa (k_Eq K.2.1 K.2.2.2.2.1 (lb rfl) (lb rfl) Fy2 ((Fx.ext E111).ext E120)) (fun x hx => nomatch hx) (wK K 251 rfl) (wK K 196 rfl) (notFace_of_selects (args := #[]) (mvT W120.warm (wK K 198 rfl))) (wK K 198 rfl) (wK K 197 rfl) (wK K 11 rfl) (wK K 199 rfl) (by decide) (na := 1) rfl (by decide +kernel) rfl (stk := [(.ref x), (.ref y2)]) rfl (by decide +kernel) (V := 0) (lb rfl) (lb rfl) (lb rfl) (lb rfl) (lb rfl)
      refine oLift st121 ?_
      rw [e121] at W121 C121
      show OG _ _ _ _ _ _ _ _ _ _ _ (mkF m 480 #[sI i0, sI i1, sI i2, sI i3, sI i4, sI i5, sI sb, sI po, sR a, sI 3, sI 0, sI 8, sR x, sR y, sI 1, sI s0, sI 0, sR o, sR lo, sR r1] [(.int (if ([47, 112, 117, 98, 47, c0, c1, c2] : List Int32) = [47, 112, 117, 98, 47, c0, c1, c2] then 1 else 0))])
      refine oIfF W121 (cd := .eq) (o := 7) (by decide +kernel) (XT.i0_eq_f (by rw [if_pos rfl]; decide)) (pc' := 483) rfl ?_
      refine oGo W121 [.iconst 1, .goto 4] (by decide +kernel) (ls' := #[sI i0, sI i1, sI i2, sI i3, sI i4, sI i5, sI sb, sI po, sR a, sI 3, sI 0, sI 8, sR x, sR y, sI 1, sI s0, sI 0, sR o, sR lo, sR r1]) (st' := [(.int 1)]) rfl rfl (pc' := 488) rfl ?_
      exact oRetN (by simp) W121 rfl (by decide +kernel) (lb rfl) (lb rfl) (fun vm' hv => rfl)
  · rcases hs0 with ⟨rfl, HQ⟩ | ⟨rfl, HQ⟩
    · rcases hdt with ⟨rfl, -⟩ | ⟨rfl, hdot⟩
      · refine oGo W0 [.iload 14] (by decide +kernel) (ls' := #[sI i0, sI i1, sI i2, sI i3, sI i4, sI i5, sI sb, sI po, sR a, sI 3, sI 0, sI 8, sR x, sR y, sI 0, sI 1, sI 1, sU, sU, sU]) (st' := [(.int 0)]) rfl rfl (pc' := 362) rfl ?_
        refine oIfF W0 (cd := .ne) (o := 8) (by decide +kernel) (XT.i0_ne_f (by decide)) (pc' := 365) rfl ?_
        refine oGo W0 [.iload 15] (by decide +kernel) (ls' := #[sI i0, sI i1, sI i2, sI i3, sI i4, sI i5, sI sb, sI po, sR a, sI 3, sI 0, sI 8, sR x, sR y, sI 0, sI 1, sI 1, sU, sU, sU]) (st' := [(.int 1)]) rfl rfl (pc' := 367) rfl ?_
        refine oIfF W0 (cd := .eq) (o := 10) (by decide +kernel) (XT.i0_eq_f (by decide)) (pc' := 370) rfl ?_
        refine oGo W0 [.iload 16] (by decide +kernel) (ls' := #[sI i0, sI i1, sI i2, sI i3, sI i4, sI i5, sI sb, sI po, sR a, sI 3, sI 0, sI 8, sR x, sR y, sI 0, sI 1, sI 1, sU, sU, sU]) (st' := [(.int 1)]) rfl rfl (pc' := 372) rfl ?_
        refine oIfF W0 (cd := .eq) (o := 5) (by decide +kernel) (XT.i0_eq_f (by decide)) (pc' := 375) rfl ?_
        refine oGo W0 [.iconst 1] (by decide +kernel) (ls' := #[sI i0, sI i1, sI i2, sI i3, sI i4, sI i5, sI sb, sI po, sR a, sI 3, sI 0, sI 8, sR x, sR y, sI 0, sI 1, sI 1, sU, sU, sU]) (st' := [(.int 1)]) rfl rfl (pc' := 376) rfl ?_
        exact oRetN (by simp) W0 rfl (by decide +kernel) (lb rfl) (lb rfl) (fun vm' hv => rfl)
      · refine oGo W0 [.iload 14] (by decide +kernel) (ls' := #[sI i0, sI i1, sI i2, sI i3, sI i4, sI i5, sI sb, sI po, sR a, sI 3, sI 0, sI 8, sR x, sR y, sI 0, sI 1, sI 0, sU, sU, sU]) (st' := [(.int 0)]) rfl rfl (pc' := 362) rfl ?_
        refine oIfF W0 (cd := .ne) (o := 8) (by decide +kernel) (XT.i0_ne_f (by decide)) (pc' := 365) rfl ?_
        refine oGo W0 [.iload 15] (by decide +kernel) (ls' := #[sI i0, sI i1, sI i2, sI i3, sI i4, sI i5, sI sb, sI po, sR a, sI 3, sI 0, sI 8, sR x, sR y, sI 0, sI 1, sI 0, sU, sU, sU]) (st' := [(.int 1)]) rfl rfl (pc' := 367) rfl ?_
        refine oIfF W0 (cd := .eq) (o := 10) (by decide +kernel) (XT.i0_eq_f (by decide)) (pc' := 370) rfl ?_
        refine oGo W0 [.iload 16] (by decide +kernel) (ls' := #[sI i0, sI i1, sI i2, sI i3, sI i4, sI i5, sI sb, sI po, sR a, sI 3, sI 0, sI 8, sR x, sR y, sI 0, sI 1, sI 0, sU, sU, sU]) (st' := [(.int 0)]) rfl rfl (pc' := 372) rfl ?_
        refine oIfT W0 (cd := .eq) (o := 5) (by decide +kernel) (XT.i0_eq_t (by decide)) (pc' := 377) (by decide) (by decide) ?_
        refine oGo W0 [.aload 12] (by decide +kernel) (ls' := #[sI i0, sI i1, sI i2, sI i3, sI i4, sI i5, sI sb, sI po, sR a, sI 3, sI 0, sI 8, sR x, sR y, sI 0, sI 1, sI 0, sU, sU, sU]) (st' := [(.ref x)]) rfl rfl (pc' := 379) rfl ?_
        have hxe : ([d0, d1, d2, d3, d4, c0, c1, c2] : List Int32) = [47, 115, 117, 98, 47, c0, c1, c2] := by rw [HQ.1, HQ.2.1, HQ.2.2.1, HQ.2.2.2.1, HQ.2.2.2.2]
        have Fx : Str Z h0 x [47, 115, 117, 98, 47, c0, c1, c2] := hxe ▸ F
        obtain ⟨v122, T122, L122, h122, vm122, W122, ⟨o, lo, nm, z, rfl, E122, X122, F122, Xl122, Fl122, Gl122, Xn122, Fn122, Sz122⟩, C122, st122⟩ := oCallS W0 (idx := 28) (pc := 379) (ls := #[sI i0, sI i1, sI i2, sI i3, sI i4, sI i5, sI sb, sI po, sR a, sI 3, sI 0, sI 8, sR x, sR y, sI 0, sI 1, sI 0, sU, sU, sU]) (st := []) (argsL := [(.ref x)]) (c_pa03 K H Fx qa0 qa1 qa2) (fun x hx => nomatch hx) (wK K 38 rfl) (wK K 39 rfl) (wK K 40 rfl) (wK K 41 rfl) (by decide) (na := 1) rfl (by decide +kernel) rfl (stk := [(.ref x)]) rfl (by decide +kernel) (V := 0) (lb rfl) (lb rfl) (lb rfl) (lb rfl) (lb rfl)
        refine oLift st122 ?_
        show OG _ _ _ _ _ _ _ _ _ _ _ (mkF m 382 #[sI i0, sI i1, sI i2, sI i3, sI i4, sI i5, sI sb, sI po, sR a, sI 3, sI 0, sI 8, sR x, sR y, sI 0, sI 1, sI 0, sU, sU, sU] [(.ref o)])
        refine oGo W122 [.astore 17, .iload 14] (by decide +kernel) (ls' := #[sI i0, sI i1, sI i2, sI i3, sI i4, sI i5, sI sb, sI po, sR a, sI 3, sI 0, sI 8, sR x, sR y, sI 0, sI 1, sI 0, sR o, sU, sU]) (st' := [(.int 0)]) rfl rfl (pc' := 386) rfl ?_
        refine oIfF W122 (cd := .ne) (o := 22) (by decide +kernel) (XT.i0_ne_f (by decide)) (pc' := 389) rfl ?_
        refine oGo W122 [.iload 15] (by decide +kernel) (ls' := #[sI i0, sI i1, sI i2, sI i3, sI i4, sI i5, sI sb, sI po, sR a, sI 3, sI 0, sI 8, sR x, sR y, sI 0, sI 1, sI 0, sR o, sU, sU]) (st' := [(.int 1)]) rfl rfl (pc' := 391) rfl ?_
        refine oIfT W122 (cd := .ne) (o := 17) (by decide +kernel) (XT.i0_ne_t (by decide)) (pc' := 408) (by decide) (by decide) ?_
        refine oGo W122 [.aload 17] (by decide +kernel) (ls' := #[sI i0, sI i1, sI i2, sI i3, sI i4, sI i5, sI sb, sI po, sR a, sI 3, sI 0, sI 8, sR x, sR y, sI 0, sI 1, sI 0, sR o, sU, sU]) (st' := [(.ref o)]) rfl rfl (pc' := 410) rfl ?_
        obtain ⟨v123, T123, L123, h123, vm123, W123, ⟨rfl, e123⟩, C123, st123⟩ := oCallV W122 (idx := 34) (pc := 410) (ls := #[sI i0, sI i1, sI i2, sI i3, sI i4, sI i5, sI sb, sI po, sR a, sI 3, sI 0, sI 8, sR x, sR y, sI 0, sI 1, sI 0, sR o, sU, sU]) (st := []) (argsL := []) X122 (c_op1 K F122) (fun x hx => nomatch hx) (wK K 91 rfl) (wK K 92 rfl) (notFace_of_selects (args := #[]) (mvT W122.warm (wK K 94 rfl))) (wK K 94 rfl) (wK K 93 rfl) (wK K 88 rfl) (wK K 95 rfl) (by decide) (na := 0) rfl (by decide +kernel) rfl (stk := [(.ref o)]) rfl (by decide +kernel) (V := 0) (lb rfl) (lb rfl) (lb rfl) (lb rfl) (lb rfl)
        refine oLift st123 ?_
        rw [e123] at W123 C123
        show OG _ _ _ _ _ _ _ _ _ _ _ (mkF m 413 #[sI i0, sI i1, sI i2, sI i3, sI i4, sI i5, sI sb, sI po, sR a, sI 3, sI 0, sI 8, sR x, sR y, sI 0, sI 1, sI 0, sR o, sU, sU] [(.int 1)])
        refine oIfT W123 (cd := .ne) (o := 5) (by decide +kernel) (XT.i0_ne_t (by decide)) (pc' := 418) (by decide) (by decide) ?_
        refine oGo W123 [.aload 17] (by decide +kernel) (ls' := #[sI i0, sI i1, sI i2, sI i3, sI i4, sI i5, sI sb, sI po, sR a, sI 3, sI 0, sI 8, sR x, sR y, sI 0, sI 1, sI 0, sR o, sU, sU]) (st' := [(.ref o)]) rfl rfl (pc' := 420) rfl ?_
        obtain ⟨v124, T124, L124, h124, vm124, W124, ⟨rfl, e124⟩, C124, st124⟩ := oCallV W123 (idx := 40) (pc := 420) (ls := #[sI i0, sI i1, sI i2, sI i3, sI i4, sI i5, sI sb, sI po, sR a, sI 3, sI 0, sI 8, sR x, sR y, sI 0, sI 1, sI 0, sR o, sU, sU]) (st := []) (argsL := []) X122 (c_oge K F122) (fun x hx => nomatch hx) (wK K 228 rfl) (wK K 229 rfl) (notFace_of_selects (args := #[]) (mvT W123.warm (wK K 231 rfl))) (wK K 231 rfl) (wK K 230 rfl) (wK K 88 rfl) (wK K 232 rfl) (by decide) (na := 0) rfl (by decide +kernel) rfl (stk := [(.ref o)]) rfl (by decide +kernel) (V := 0) (lb rfl) (lb rfl) (lb rfl) (lb rfl) (lb rfl)
        refine oLift st124 ?_
        rw [e124] at W124 C124
        show OG _ _ _ _ _ _ _ _ _ _ _ (mkF m 423 #[sI i0, sI i1, sI i2, sI i3, sI i4, sI i5, sI sb, sI po, sR a, sI 3, sI 0, sI 8, sR x, sR y, sI 0, sI 1, sI 0, sR o, sU, sU] [(.ref lo)])
        obtain ⟨T125, W125, st125⟩ := oCast W124 (pc := 423) (ls := #[sI i0, sI i1, sI i2, sI i3, sI i4, sI i5, sI sb, sI po, sR a, sI 3, sI 0, sI 8, sR x, sR y, sI 0, sI 1, sI 0, sR o, sU, sU]) (st := []) (wK K 233 rfl) (Ins.self Xl122) (by decide +kernel)
        refine oLift st125 ?_
        refine oGo W125 [.astore 18, .iload 14] (by decide +kernel) (ls' := #[sI i0, sI i1, sI i2, sI i3, sI i4, sI i5, sI sb, sI po, sR a, sI 3, sI 0, sI 8, sR x, sR y, sI 0, sI 1, sI 0, sR o, sR lo, sU]) (st' := [(.int 0)]) rfl rfl (pc' := 430) rfl ?_
        refine oIfT W125 (cd := .eq) (o := 9) (by decide +kernel) (XT.i0_eq_t (by decide)) (pc' := 439) (by decide) (by decide) ?_
        obtain ⟨T126, W126, st126⟩ := oGetS W125 (pc := 439) (ls := #[sI i0, sI i1, sI i2, sI i3, sI i4, sI i5, sI sb, sI po, sR a, sI 3, sI 0, sI 8, sR x, sR y, sI 0, sI 1, sI 0, sR o, sR lo, sU]) (st := []) (wK K 235 rfl) Via.refl (Sr0.ext W125.ext) (by decide +kernel)
        refine oLift st126 ?_
        refine oGo W126 [.astore 19, .aload 18] (by decide +kernel) (ls' := #[sI i0, sI i1, sI i2, sI i3, sI i4, sI i5, sI sb, sI po, sR a, sI 3, sI 0, sI 8, sR x, sR y, sI 0, sI 1, sI 0, sR o, sR lo, sR r0]) (st' := [(.ref lo)]) rfl rfl (pc' := 446) rfl ?_
        obtain ⟨v127, T127, L127, h127, vm127, W127, ⟨rfl, e127⟩, C127, st127⟩ := oCallV W126 (idx := 53) (pc := 446) (ls := #[sI i0, sI i1, sI i2, sI i3, sI i4, sI i5, sI sb, sI po, sR a, sI 3, sI 0, sI 8, sR x, sR y, sI 0, sI 1, sI 0, sR o, sR lo, sR r0]) (st := []) (argsL := []) Xl122 (c_grole K Fl122) (fun x hx => nomatch hx) (wK K 236 rfl) (wK K 237 rfl) (notFace_of_selects (args := #[]) (mvT W126.warm (wK K 239 rfl))) (wK K 239 rfl) (wK K 238 rfl) (wK K 40 rfl) (wK K 240 rfl) (by decide) (na := 0) rfl (by decide +kernel) rfl (stk := [(.ref lo)]) rfl (by decide +kernel) (V := 0) (lb rfl) (lb rfl) (lb rfl) (lb rfl) (lb rfl)
        refine oLift st127 ?_
        rw [e127] at W127 C127
        show OG _ _ _ _ _ _ _ _ _ _ _ (mkF m 449 #[sI i0, sI i1, sI i2, sI i3, sI i4, sI i5, sI sb, sI po, sR a, sI 3, sI 0, sI 8, sR x, sR y, sI 0, sI 1, sI 0, sR o, sR lo, sR r0] [(.ref r0)])
        refine oGo W127 [.aload 19] (by decide +kernel) (ls' := #[sI i0, sI i1, sI i2, sI i3, sI i4, sI i5, sI sb, sI po, sR a, sI 3, sI 0, sI 8, sR x, sR y, sI 0, sI 1, sI 0, sR o, sR lo, sR r0]) (st' := [(.ref r0), (.ref r0)]) rfl rfl (pc' := 451) rfl ?_
        refine oAcF W127 (cd := .ne) (o := 36) (by decide +kernel) rfl rfl (by simp [XT.acmp]) (pc' := 454) rfl ?_
        refine oGo W127 [.aload 18] (by decide +kernel) (ls' := #[sI i0, sI i1, sI i2, sI i3, sI i4, sI i5, sI sb, sI po, sR a, sI 3, sI 0, sI 8, sR x, sR y, sI 0, sI 1, sI 0, sR o, sR lo, sR r0]) (st' := [(.ref lo)]) rfl rfl (pc' := 456) rfl ?_
        obtain ⟨v128, T128, L128, h128, vm128, W128, ⟨rfl, e128⟩, C128, st128⟩ := oCallV W127 (idx := 57) (pc := 456) (ls := #[sI i0, sI i1, sI i2, sI i3, sI i4, sI i5, sI sb, sI po, sR a, sI 3, sI 0, sI 8, sR x, sR y, sI 0, sI 1, sI 0, sR o, sR lo, sR r0]) (st := []) (argsL := []) Xl122 (c_gchannel K Gl122) (fun x hx => nomatch hx) (wK K 241 rfl) (wK K 242 rfl) (notFace_of_selects (args := #[]) (mvT W127.warm (wK K 244 rfl))) (wK K 244 rfl) (wK K 243 rfl) (wK K 40 rfl) (wK K 245 rfl) (by decide) (na := 0) rfl (by decide +kernel) rfl (stk := [(.ref lo)]) rfl (by decide +kernel) (V := 0) (lb rfl) (lb rfl) (lb rfl) (lb rfl) (lb rfl)
        refine oLift st128 ?_
        rw [e128] at W128 C128
        show OG _ _ _ _ _ _ _ _ _ _ _ (mkF m 459 #[sI i0, sI i1, sI i2, sI i3, sI i4, sI i5, sI sb, sI po, sR a, sI 3, sI 0, sI 8, sR x, sR y, sI 0, sI 1, sI 0, sR o, sR lo, sR r0] [(.ref nm)])
        obtain ⟨v129, T129, L129, h129, vm129, W129, ⟨rfl, e129⟩, C129, st129⟩ := oCallV W128 (idx := 61) (pc := 459) (ls := #[sI i0, sI i1, sI i2, sI i3, sI i4, sI i5, sI sb, sI po, sR a, sI 3, sI 0, sI 8, sR x, sR y, sI 0, sI 1, sI 0, sR o, sR lo, sR r0]) (st := []) (argsL := []) Xn122 (c_cnv K Fn122) (fun x hx => nomatch hx) (wK K 246 rfl) (wK K 247 rfl) (notFace_of_selects (args := #[]) (mvT W128.warm (wK K 249 rfl))) (wK K 249 rfl) (wK K 248 rfl) (wK K 169 rfl) (wK K 250 rfl) (by decide) (na := 0) rfl (by decide +kernel) rfl (stk := [(.ref nm)]) rfl (by decide +kernel) (V := 0) (lb rfl) (lb rfl) (lb rfl) (lb rfl) (lb rfl)
        refine oLift st129 ?_
        rw [e129] at W129 C129
        show OG _ _ _ _ _ _ _ _ _ _ _ (mkF m 462 #[sI i0, sI i1, sI i2, sI i3, sI i4, sI i5, sI sb, sI po, sR a, sI 3, sI 0, sI 8, sR x, sR y, sI 0, sI 1, sI 0, sR o, sR lo, sR r0] [(.ref z)])
        refine oGo W129 [.aload 13] (by decide +kernel) (ls' := #[sI i0, sI i1, sI i2, sI i3, sI i4, sI i5, sI sb, sI po, sR a, sI 3, sI 0, sI 8, sR x, sR y, sI 0, sI 1, sI 0, sR o, sR lo, sR r0]) (st' := [(.ref y), (.ref z)]) rfl rfl (pc' := 464) rfl ?_
        obtain ⟨v130, T130, L130, h130, vm130, W130, ⟨rfl, e130⟩, C130, st130⟩ := oCallV W129 (idx := 67) (pc := 464) (ls := #[sI i0, sI i1, sI i2, sI i3, sI i4, sI i5, sI sb, sI po, sR a, sI 3, sI 0, sI 8, sR x, sR y, sI 0, sI 1, sI 0, sR o, sR lo, sR r0]) (st := []) (argsL := [(.ref y)]) Sz122.exa (k_Eq K.2.1 K.2.2.2.2.1 (lb rfl) (lb rfl) Sz122 (Gy.ext E122)) (fun x hx => nomatch hx) (wK K 251 rfl) (wK K 196 rfl) (notFace_of_selects (args := #[]) (mvT W129.warm (wK K 198 rfl))) (wK K 198 rfl) (wK K 197 rfl) (wK K 11 rfl) (wK K 199 rfl) (by decide) (na := 1) rfl (by decide +kernel) rfl (stk := [(.ref y), (.ref z)]) rfl (by decide +kernel) (V := 0) (lb rfl) (lb rfl) (lb rfl) (lb rfl) (lb rfl)
        refine oLift st130 ?_
        rw [e130] at W130 C130
        show OG _ _ _ _ _ _ _ _ _ _ _ (mkF m 467 #[sI i0, sI i1, sI i2, sI i3, sI i4, sI i5, sI sb, sI po, sR a, sI 3, sI 0, sI 8, sR x, sR y, sI 0, sI 1, sI 0, sR o, sR lo, sR r0] [(.int (if ([c0, c1, c2] : List Int32) = [c0, c1, c2] then 1 else 0))])
        refine oIfF W130 (cd := .eq) (o := 20) (by decide +kernel) (XT.i0_eq_f (by rw [if_pos rfl]; decide)) (pc' := 470) rfl ?_
        refine oGo W130 [.aload 18] (by decide +kernel) (ls' := #[sI i0, sI i1, sI i2, sI i3, sI i4, sI i5, sI sb, sI po, sR a, sI 3, sI 0, sI 8, sR x, sR y, sI 0, sI 1, sI 0, sR o, sR lo, sR r0]) (st' := [(.ref lo)]) rfl rfl (pc' := 472) rfl ?_
        obtain ⟨v131, T131, L131, h131, vm131, W131, ⟨y2, rfl, F131, E131⟩, C131, st131⟩ := oCallV W130 (idx := 71) (pc := 472) (ls := #[sI i0, sI i1, sI i2, sI i3, sI i4, sI i5, sI sb, sI po, sR a, sI 3, sI 0, sI 8, sR x, sR y, sI 0, sI 1, sI 0, sR o, sR lo, sR r0]) (st := []) (argsL := []) Xl122 (c_path K Fl122 Gl122 (Fr0.ext W130.ext) (Tr0.ext W130.ext) Xn122 Fn122 Sz122 (lb rfl)) (fun x hx => nomatch hx) (wK K 252 rfl) (wK K 253 rfl) (notFace_of_selects (args := #[]) (mvT W130.warm (wK K 255 rfl))) (wK K 255 rfl) (wK K 254 rfl) (wK K 40 rfl) (wK K 256 rfl) (by decide) (na := 0) rfl (by decide +kernel) rfl (stk := [(.ref lo)]) rfl (by decide +kernel) (V := 0) (lb rfl) (lb rfl) (lb rfl) (lb rfl) (lb rfl)
        refine oLift st131 ?_
        show OG _ _ _ _ _ _ _ _ _ _ _ (mkF m 475 #[sI i0, sI i1, sI i2, sI i3, sI i4, sI i5, sI sb, sI po, sR a, sI 3, sI 0, sI 8, sR x, sR y, sI 0, sI 1, sI 0, sR o, sR lo, sR r0] [(.ref y2)])
        have Fy2 : Str Z h131 y2 [47, 115, 117, 98, 47, c0, c1, c2] := F131
        refine oGo W131 [.aload 12] (by decide +kernel) (ls' := #[sI i0, sI i1, sI i2, sI i3, sI i4, sI i5, sI sb, sI po, sR a, sI 3, sI 0, sI 8, sR x, sR y, sI 0, sI 1, sI 0, sR o, sR lo, sR r0]) (st' := [(.ref x), (.ref y2)]) rfl rfl (pc' := 477) rfl ?_
        obtain ⟨v132, T132, L132, h132, vm132, W132, ⟨rfl, e132⟩, C132, st132⟩ := oCallV W131 (idx := 67) (pc := 477) (ls := #[sI i0, sI i1, sI i2, sI i3, sI i4, sI i5, sI sb, sI po, sR a, sI 3, sI 0, sI 8, sR x, sR y, sI 0, sI 1, sI 0, sR o, sR lo, sR r0]) (st := []) (argsL := [(.ref x)]) Fy2.exa (k_Eq K.2.1 K.2.2.2.2.1 (lb rfl) (lb rfl) Fy2 ((Fx.ext E122).ext E131)) (fun x hx => nomatch hx) (wK K 251 rfl) (wK K 196 rfl) (notFace_of_selects (args := #[]) (mvT W131.warm (wK K 198 rfl))) (wK K 198 rfl) (wK K 197 rfl) (wK K 11 rfl) (wK K 199 rfl) (by decide) (na := 1) rfl (by decide +kernel) rfl (stk := [(.ref x), (.ref y2)]) rfl (by decide +kernel) (V := 0) (lb rfl) (lb rfl) (lb rfl) (lb rfl) (lb rfl)
        refine oLift st132 ?_
        rw [e132] at W132 C132
        show OG _ _ _ _ _ _ _ _ _ _ _ (mkF m 480 #[sI i0, sI i1, sI i2, sI i3, sI i4, sI i5, sI sb, sI po, sR a, sI 3, sI 0, sI 8, sR x, sR y, sI 0, sI 1, sI 0, sR o, sR lo, sR r0] [(.int (if ([47, 115, 117, 98, 47, c0, c1, c2] : List Int32) = [47, 115, 117, 98, 47, c0, c1, c2] then 1 else 0))])
        refine oIfF W132 (cd := .eq) (o := 7) (by decide +kernel) (XT.i0_eq_f (by rw [if_pos rfl]; decide)) (pc' := 483) rfl ?_
        refine oGo W132 [.iconst 1, .goto 4] (by decide +kernel) (ls' := #[sI i0, sI i1, sI i2, sI i3, sI i4, sI i5, sI sb, sI po, sR a, sI 3, sI 0, sI 8, sR x, sR y, sI 0, sI 1, sI 0, sR o, sR lo, sR r0]) (st' := [(.int 1)]) rfl rfl (pc' := 488) rfl ?_
        exact oRetN (by simp) W132 rfl (by decide +kernel) (lb rfl) (lb rfl) (fun vm' hv => rfl)
    · refine oGo W0 [.iload 14] (by decide +kernel) (ls' := #[sI i0, sI i1, sI i2, sI i3, sI i4, sI i5, sI sb, sI po, sR a, sI 3, sI 0, sI 8, sR x, sR y, sI 0, sI 0, sI dt, sU, sU, sU]) (st' := [(.int 0)]) rfl rfl (pc' := 362) rfl ?_
      refine oIfF W0 (cd := .ne) (o := 8) (by decide +kernel) (XT.i0_ne_f (by decide)) (pc' := 365) rfl ?_
      refine oGo W0 [.iload 15] (by decide +kernel) (ls' := #[sI i0, sI i1, sI i2, sI i3, sI i4, sI i5, sI sb, sI po, sR a, sI 3, sI 0, sI 8, sR x, sR y, sI 0, sI 0, sI dt, sU, sU, sU]) (st' := [(.int 0)]) rfl rfl (pc' := 367) rfl ?_
      refine oIfT W0 (cd := .eq) (o := 10) (by decide +kernel) (XT.i0_eq_t (by decide)) (pc' := 377) (by decide) (by decide) ?_
      refine oGo W0 [.aload 12] (by decide +kernel) (ls' := #[sI i0, sI i1, sI i2, sI i3, sI i4, sI i5, sI sb, sI po, sR a, sI 3, sI 0, sI 8, sR x, sR y, sI 0, sI 0, sI dt, sU, sU, sU]) (st' := [(.ref x)]) rfl rfl (pc' := 379) rfl ?_
      obtain ⟨v133, T133, L133, h133, vm133, W133, ⟨rfl, E133⟩, C133, st133⟩ := oCallS W0 (idx := 28) (pc := 379) (ls := #[sI i0, sI i1, sI i2, sI i3, sI i4, sI i5, sI sb, sI po, sR a, sI 3, sI 0, sI 8, sR x, sR y, sI 0, sI 0, sI dt, sU, sU, sU]) (st := []) (argsL := [(.ref x)]) (c_pan K H HO F (lb rfl) HQ HP) (fun x hx => nomatch hx) (wK K 38 rfl) (wK K 39 rfl) (wK K 40 rfl) (wK K 41 rfl) (by decide) (na := 1) rfl (by decide +kernel) rfl (stk := [(.ref x)]) rfl (by decide +kernel) (V := 0) (lb rfl) (lb rfl) (lb rfl) (lb rfl) (lb rfl)
      refine oLift st133 ?_
      show OG _ _ _ _ _ _ _ _ _ _ _ (mkF m 382 #[sI i0, sI i1, sI i2, sI i3, sI i4, sI i5, sI sb, sI po, sR a, sI 3, sI 0, sI 8, sR x, sR y, sI 0, sI 0, sI dt, sU, sU, sU] [(.ref eo)])
      refine oGo W133 [.astore 17, .iload 14] (by decide +kernel) (ls' := #[sI i0, sI i1, sI i2, sI i3, sI i4, sI i5, sI sb, sI po, sR a, sI 3, sI 0, sI 8, sR x, sR y, sI 0, sI 0, sI dt, sR eo, sU, sU]) (st' := [(.int 0)]) rfl rfl (pc' := 386) rfl ?_
      refine oIfF W133 (cd := .ne) (o := 22) (by decide +kernel) (XT.i0_ne_f (by decide)) (pc' := 389) rfl ?_
      refine oGo W133 [.iload 15] (by decide +kernel) (ls' := #[sI i0, sI i1, sI i2, sI i3, sI i4, sI i5, sI sb, sI po, sR a, sI 3, sI 0, sI 8, sR x, sR y, sI 0, sI 0, sI dt, sR eo, sU, sU]) (st' := [(.int 0)]) rfl rfl (pc' := 391) rfl ?_
      refine oIfF W133 (cd := .ne) (o := 17) (by decide +kernel) (XT.i0_ne_f (by decide)) (pc' := 394) rfl ?_
      refine oGo W133 [.aload 17] (by decide +kernel) (ls' := #[sI i0, sI i1, sI i2, sI i3, sI i4, sI i5, sI sb, sI po, sR a, sI 3, sI 0, sI 8, sR x, sR y, sI 0, sI 0, sI dt, sR eo, sU, sU]) (st' := [(.ref eo)]) rfl rfl (pc' := 396) rfl ?_
      obtain ⟨v134, T134, L134, h134, vm134, W134, ⟨rfl, e134⟩, C134, st134⟩ := oCallV W133 (idx := 34) (pc := 396) (ls := #[sI i0, sI i1, sI i2, sI i3, sI i4, sI i5, sI sb, sI po, sR a, sI 3, sI 0, sI 8, sR x, sR y, sI 0, sI 0, sI dt, sR eo, sU, sU]) (st := []) (argsL := []) (HO.2.1.ext W133.ext) (c_op0 K (HO.2.2.ext W133.ext)) (fun x hx => nomatch hx) (wK K 91 rfl) (wK K 92 rfl) (notFace_of_selects (args := #[]) (mvT W133.warm (wK K 94 rfl))) (wK K 94 rfl) (wK K 93 rfl) (wK K 88 rfl) (wK K 95 rfl) (by decide) (na := 0) rfl (by decide +kernel) rfl (stk := [(.ref eo)]) rfl (by decide +kernel) (V := 0) (lb rfl) (lb rfl) (lb rfl) (lb rfl) (lb rfl)
      refine oLift st134 ?_
      rw [e134] at W134 C134
      show OG _ _ _ _ _ _ _ _ _ _ _ (mkF m 399 #[sI i0, sI i1, sI i2, sI i3, sI i4, sI i5, sI sb, sI po, sR a, sI 3, sI 0, sI 8, sR x, sR y, sI 0, sI 0, sI dt, sR eo, sU, sU] [(.int 0)])
      refine oIfF W134 (cd := .ne) (o := 7) (by decide +kernel) (XT.i0_ne_f (by decide)) (pc' := 402) rfl ?_
      refine oGo W134 [.iconst 1, .goto 4] (by decide +kernel) (ls' := #[sI i0, sI i1, sI i2, sI i3, sI i4, sI i5, sI sb, sI po, sR a, sI 3, sI 0, sI 8, sR x, sR y, sI 0, sI 0, sI dt, sR eo, sU, sU]) (st' := [(.int 1)]) rfl rfl (pc' := 407) rfl ?_
      exact oRetN (by simp) W134 rfl (by decide +kernel) (lb rfl) (lb rfl) (fun vm' hv => rfl)
set_option maxRecDepth 65536 in
set_option maxHeartbeats 40000000 in
theorem c_seg1 {l : Launch} {Z : State} {a0 : Array Value} (K : Ctx Z a0) {i0 i1 i2 i3 i4 i5 : Int32} {r0 r1 va : Addr} {kv : ClassId} {p0 p1 : Addr} (H : Rs Z r0 r1 va kv p0 p1) {sb po d0 d1 d2 d3 d4 : Int32} {a : Addr} {ka : ClassId} {p : Program} {e : Env} {s : State} {m : MethodId} {args : Array Value} {below : List Frame} {meth : Method} {cc : Code} {h0 : Heap} {vm0 : Vm} {T0 : State} {lc : List Loc}
    (W0 : OW p l e room_1 s m args below meth cc Z a0 EL false "com/example/gentle_hub/gentlehub/server/ChannelLocationParsePinLaw" code 20 (some .boolean) "law" vm0 T0 lc 1 8 h0) (A : OA Z h0 a ka .char [.int d0, .int d1, .int d2, .int d3, .int d4, .int 0, .int 0, .int 0]) (hfa : Z.heap.size ≤ a) (pp0 : ¬ d0 < 0 ∧ ¬ (255 : Int32) < d0) (pp1 : ¬ d1 < 0 ∧ ¬ (255 : Int32) < d1) (pp2 : ¬ d2 < 0 ∧ ¬ (255 : Int32) < d2) (pp3 : ¬ d3 < 0 ∧ ¬ (255 : Int32) < d3) (pp4 : ¬ d4 < 0 ∧ ¬ (255 : Int32) < d4) :
    OG p e below s Z EL false (fun v _ h => v = some (.int 1)) room_1.cells room_1.slots T0 (mkF m 84 #[sI i0, sI i1, sI i2, sI i3, sI i4, sI i5, sI sb, sI po, sR a, sU, sU, sU, sU, sU, sU, sU, sU, sU, sU, sU] []) := by
  have hw := K.1
  have hS : ∀ a ∈ Bundle.stringAtoms, a.before a0 Z = true := K.2.2.1
  obtain ⟨⟨Sr0, Sr1⟩, ⟨SV, AV, XV⟩, ⟨Fr0, Fr1⟩, ⟨Tr0, Tr1⟩⟩ := id H
  refine oGo W0 [.aload 8, .iconst 5, .iload_n 2] (by decide +kernel) (ls' := #[sI i0, sI i1, sI i2, sI i3, sI i4, sI i5, sI sb, sI po, sR a, sU, sU, sU, sU, sU, sU, sU, sU, sU, sU, sU]) (st' := [(.int i2), (.int 5), (.ref a)]) rfl rfl (pc' := 88) rfl ?_
  obtain ⟨v101, T101, L101, h101, vm101, W101, ⟨⟨c0, rfl, qa0⟩, E101⟩, C101, st101⟩ := oCallS W0 (idx := 19) (pc := 88) (ls := #[sI i0, sI i1, sI i2, sI i3, sI i4, sI i5, sI sb, sI po, sR a, sU, sU, sU, sU, sU, sU, sU, sU, sU, sU, sU]) (st := [(.int 5), (.ref a)]) (argsL := [(.int i2)]) (c_nch K) (fun x hx => nomatch hx) (wK K 1 rfl) (wK K 2 rfl) (wK K 3 rfl) (wK K 4 rfl) (by decide) (na := 1) rfl (by decide +kernel) rfl (stk := [(.int i2), (.int 5), (.ref a)]) rfl (by decide +kernel) (V := 2) (lb rfl) (lb rfl) (lb rfl) (lb rfl) (lb rfl)
  refine oLift st101 ?_
  show OG _ _ _ _ _ _ _ _ _ _ _ (mkF m 91 #[sI i0, sI i1, sI i2, sI i3, sI i4, sI i5, sI sb, sI po, sR a, sU, sU, sU, sU, sU, sU, sU, sU, sU, sU, sU] [(.int c0), (.int 5), (.ref a)])
  obtain ⟨T102, h102, W102, Wr102, A102, C102, st102⟩ := oPut W101 (A.ext E101) (j := (5 : Int32)) (x := c0) (x' := c0) (pc := 91) (ls := #[sI i0, sI i1, sI i2, sI i3, sI i4, sI i5, sI sb, sI po, sR a, sU, sU, sU, sU, sU, sU, sU, sU, sU, sU, sU]) (st := []) (by decide) (i := 5) (by decide) (by simp) hfa ((A.ext E101).safe W101.warm.alike (by decide)) (ins := .castore) (Or.inl ⟨rfl, rfl, (narC (alw_lo qa0))⟩) (by decide +kernel)
  refine oLift st102 ?_
  have A102 : OA Z h102 a ka .char [.int d0, .int d1, .int d2, .int d3, .int d4, .int c0, .int 0, .int 0] := A102
  refine oGo W102 [.aload 8, .bipush 6, .iload_n 3] (by decide +kernel) (ls' := #[sI i0, sI i1, sI i2, sI i3, sI i4, sI i5, sI sb, sI po, sR a, sU, sU, sU, sU, sU, sU, sU, sU, sU, sU, sU]) (st' := [(.int i3), (.int 6), (.ref a)]) rfl rfl (pc' := 97) rfl ?_
  obtain ⟨v103, T103, L103, h103, vm103, W103, ⟨⟨c1, rfl, qa1⟩, E103⟩, C103, st103⟩ := oCallS W102 (idx := 19) (pc := 97) (ls := #[sI i0, sI i1, sI i2, sI i3, sI i4, sI i5, sI sb, sI po, sR a, sU, sU, sU, sU, sU, sU, sU, sU, sU, sU, sU]) (st := [(.int 6), (.ref a)]) (argsL := [(.int i3)]) (c_nch K) (fun x hx => nomatch hx) (wK K 1 rfl) (wK K 2 rfl) (wK K 3 rfl) (wK K 4 rfl) (by decide) (na := 1) rfl (by decide +kernel) rfl (stk := [(.int i3), (.int 6), (.ref a)]) rfl (by decide +kernel) (V := 2) (lb rfl) (lb rfl) (lb rfl) (lb rfl) (lb rfl)
  refine oLift st103 ?_
  show OG _ _ _ _ _ _ _ _ _ _ _ (mkF m 100 #[sI i0, sI i1, sI i2, sI i3, sI i4, sI i5, sI sb, sI po, sR a, sU, sU, sU, sU, sU, sU, sU, sU, sU, sU, sU] [(.int c1), (.int 6), (.ref a)])
  obtain ⟨T104, h104, W104, Wr104, A104, C104, st104⟩ := oPut W103 (A102.ext E103) (j := (6 : Int32)) (x := c1) (x' := c1) (pc := 100) (ls := #[sI i0, sI i1, sI i2, sI i3, sI i4, sI i5, sI sb, sI po, sR a, sU, sU, sU, sU, sU, sU, sU, sU, sU, sU, sU]) (st := []) (by decide) (i := 6) (by decide) (by simp) hfa ((A102.ext E103).safe W103.warm.alike (by decide)) (ins := .castore) (Or.inl ⟨rfl, rfl, (narC (alw_lo qa1))⟩) (by decide +kernel)
  refine oLift st104 ?_
  have A104 : OA Z h104 a ka .char [.int d0, .int d1, .int d2, .int d3, .int d4, .int c0, .int c1, .int 0] := A104
  refine oGo W104 [.aload 8, .bipush 7, .iload 4] (by decide +kernel) (ls' := #[sI i0, sI i1, sI i2, sI i3, sI i4, sI i5, sI sb, sI po, sR a, sU, sU, sU, sU, sU, sU, sU, sU, sU, sU, sU]) (st' := [(.int i4), (.int 7), (.ref a)]) rfl rfl (pc' := 107) rfl ?_
  obtain ⟨v105, T105, L105, h105, vm105, W105, ⟨⟨c2, rfl, qa2⟩, E105⟩, C105, st105⟩ := oCallS W104 (idx := 19) (pc := 107) (ls := #[sI i0, sI i1, sI i2, sI i3, sI i4, sI i5, sI sb, sI po, sR a, sU, sU, sU, sU, sU, sU, sU, sU, sU, sU, sU]) (st := [(.int 7), (.ref a)]) (argsL := [(.int i4)]) (c_nch K) (fun x hx => nomatch hx) (wK K 1 rfl) (wK K 2 rfl) (wK K 3 rfl) (wK K 4 rfl) (by decide) (na := 1) rfl (by decide +kernel) rfl (stk := [(.int i4), (.int 7), (.ref a)]) rfl (by decide +kernel) (V := 2) (lb rfl) (lb rfl) (lb rfl) (lb rfl) (lb rfl)
  refine oLift st105 ?_
  show OG _ _ _ _ _ _ _ _ _ _ _ (mkF m 110 #[sI i0, sI i1, sI i2, sI i3, sI i4, sI i5, sI sb, sI po, sR a, sU, sU, sU, sU, sU, sU, sU, sU, sU, sU, sU] [(.int c2), (.int 7), (.ref a)])
  obtain ⟨T106, h106, W106, Wr106, A106, C106, st106⟩ := oPut W105 (A104.ext E105) (j := (7 : Int32)) (x := c2) (x' := c2) (pc := 110) (ls := #[sI i0, sI i1, sI i2, sI i3, sI i4, sI i5, sI sb, sI po, sR a, sU, sU, sU, sU, sU, sU, sU, sU, sU, sU, sU]) (st := []) (by decide) (i := 7) (by decide) (by simp) hfa ((A104.ext E105).safe W105.warm.alike (by decide)) (ins := .castore) (Or.inl ⟨rfl, rfl, (narC (alw_lo qa2))⟩) (by decide +kernel)
  refine oLift st106 ?_
  have A106 : OA Z h106 a ka .char [.int d0, .int d1, .int d2, .int d3, .int d4, .int c0, .int c1, .int c2] := A106
  refine oGo W106 [.iload 5, .iconst 3, .iand, .iconst 3, .irem, .iconst 1, .iadd, .istore 9, .iload 5, .iconst 4, .iand] (by decide +kernel) (ls' := #[sI i0, sI i1, sI i2, sI i3, sI i4, sI i5, sI sb, sI po, sR a, sI (((i5 &&& (3 : Int32)) % (3 : Int32)) + (1 : Int32)), sU, sU, sU, sU, sU, sU, sU, sU, sU, sU]) (st' := [(.int (i5 &&& (4 : Int32)))]) rfl rfl (pc' := 125) rfl ?_
  by_cases hc107 : (i5 &&& (4 : Int32)) = (0 : Int32)
  · refine oIfT W106 (cd := .eq) (o := 7) (by decide +kernel) (XT.i0_eq_t hc107) (pc' := 132) (by decide) (by decide) ?_
    refine oGo W106 [.iconst 0, .istore 10, .iload 10] (by decide +kernel) (ls' := #[sI i0, sI i1, sI i2, sI i3, sI i4, sI i5, sI sb, sI po, sR a, sI (((i5 &&& (3 : Int32)) % (3 : Int32)) + (1 : Int32)), sI 0, sU, sU, sU, sU, sU, sU, sU, sU, sU]) (st' := [(.int 0)]) rfl rfl (pc' := 137) rfl ?_
    refine oIfT W106 (cd := .eq) (o := 12) (by decide +kernel) (XT.i0_eq_t (by decide)) (pc' := 149) (by decide) (by decide) ?_
    refine oGo W106 [.iconst 5, .iload 9, .iadd, .istore 11, .aload 8, .iload 11] (by decide +kernel) (ls' := #[sI i0, sI i1, sI i2, sI i3, sI i4, sI i5, sI sb, sI po, sR a, sI (((i5 &&& (3 : Int32)) % (3 : Int32)) + (1 : Int32)), sI 0, sI ((5 : Int32) + (((i5 &&& (3 : Int32)) % (3 : Int32)) + (1 : Int32))), sU, sU, sU, sU, sU, sU, sU, sU]) (st' := [(.int ((5 : Int32) + (((i5 &&& (3 : Int32)) % (3 : Int32)) + (1 : Int32)))), (.ref a)]) rfl rfl (pc' := 159) rfl ?_
    rcases n3 i5 with hN | hN | hN
    · rw [hN]
      show OG _ _ _ _ _ _ _ _ _ _ _ (mkF m 159 #[sI i0, sI i1, sI i2, sI i3, sI i4, sI i5, sI sb, sI po, sR a, sI 1, sI 0, sI 6, sU, sU, sU, sU, sU, sU, sU, sU] [(.int 6), (.ref a)])
      obtain ⟨v108, T108, L108, h108, vm108, W108, ⟨x, rfl, F108, E108⟩, C108, st108⟩ := oCallS W106 (idx := 24) (pc := 159) (ls := #[sI i0, sI i1, sI i2, sI i3, sI i4, sI i5, sI sb, sI po, sR a, sI 1, sI 0, sI 6, sU, sU, sU, sU, sU, sU, sU, sU]) (st := []) (argsL := [(.ref a), (.int 6)]) (c_tk6 K A106 pp0 pp1 pp2 pp3 pp4 (alw_lo qa0)) (fun x hx => nomatch hx) (wK K 6 rfl) (wK K 7 rfl) (wK K 3 rfl) (wK K 8 rfl) (by decide) (na := 2) rfl (by decide +kernel) rfl (stk := [(.int 6), (.ref a)]) rfl (by decide +kernel) (V := 0) (lb rfl) (lb rfl) (lb rfl) (lb rfl) (lb rfl)
      refine oLift st108 ?_
      show OG _ _ _ _ _ _ _ _ _ _ _ (mkF m 162 #[sI i0, sI i1, sI i2, sI i3, sI i4, sI i5, sI sb, sI po, sR a, sI 1, sI 0, sI 6, sU, sU, sU, sU, sU, sU, sU, sU] [(.ref x)])
      refine oGo W108 [.astore 12, .iconst 3] (by decide +kernel) (ls' := #[sI i0, sI i1, sI i2, sI i3, sI i4, sI i5, sI sb, sI po, sR a, sI 1, sI 0, sI 6, sR x, sU, sU, sU, sU, sU, sU, sU]) (st' := [(.int 3)]) rfl rfl (pc' := 165) rfl ?_
      obtain ⟨T109, h109, b, k109, W109, g109, E109, A109, S109, C109, st109⟩ := oNewA W108 (aty := .char) (pc := 165) (ls := #[sI i0, sI i1, sI i2, sI i3, sI i4, sI i5, sI sb, sI po, sR a, sI 1, sI 0, sI 6, sR x, sU, sU, sU, sU, sU, sU, sU]) (st := []) (wK K 0 rfl) (by decide +kernel) (n := (3 : Int32)) (by decide) (cap := 3) (lb rfl) (lb rfl) (lb rfl) (lb rfl)
      refine oLift st109 ?_
      have A109 : OA Z h109 b k109 .char [.int 0, .int 0, .int 0] := A109
      refine oGo W109 [.dup, .iconst 0, .aload 8, .iconst 5] (by decide +kernel) (ls' := #[sI i0, sI i1, sI i2, sI i3, sI i4, sI i5, sI sb, sI po, sR a, sI 1, sI 0, sI 6, sR x, sU, sU, sU, sU, sU, sU, sU]) (st' := [(.int 5), (.ref a), (.int 0), (.ref b), (.ref b)]) rfl rfl (pc' := 172) rfl ?_
      refine oGet W109 ((A106.ext E108).ext E109) (v := (.int c0)) (by decide) rfl (Or.inl ⟨rfl, rfl⟩) (by decide +kernel) ?_
      obtain ⟨T110, h110, W110, Wr110, A110, C110, st110⟩ := oPut W109 A109 (j := (0 : Int32)) (x := c0) (x' := c0) (pc := 173) (ls := #[sI i0, sI i1, sI i2, sI i3, sI i4, sI i5, sI sb, sI po, sR a, sI 1, sI 0, sI 6, sR x, sU, sU, sU, sU, sU, sU, sU]) (st := [(.ref b)]) (by decide) (i := 0) (by decide) (by simp) (Nat.le_trans W108.ext.1 g109) (A109.safe W109.warm.alike (by decide)) (ins := .castore) (Or.inl ⟨rfl, rfl, (narC (alw_lo qa0))⟩) (by decide +kernel)
      refine oLift st110 ?_
      have A110 : OA Z h110 b k109 .char [.int c0, .int 0, .int 0] := A110
      refine oGo W110 [.dup, .iconst 1, .aload 8, .bipush 6] (by decide +kernel) (ls' := #[sI i0, sI i1, sI i2, sI i3, sI i4, sI i5, sI sb, sI po, sR a, sI 1, sI 0, sI 6, sR x, sU, sU, sU, sU, sU, sU, sU]) (st' := [(.int 6), (.ref a), (.int 1), (.ref b), (.ref b)]) rfl rfl (pc' := 180) rfl ?_
      refine oGet W110 ((A106.ext E108).ext (exW E109 Wr110 g109)) (v := (.int c1)) (by decide) rfl (Or.inl ⟨rfl, rfl⟩) (by decide +kernel) ?_
      obtain ⟨T111, h111, W111, Wr111, A111, C111, st111⟩ := oPut W110 A110 (j := (1 : Int32)) (x := c1) (x' := c1) (pc := 181) (ls := #[sI i0, sI i1, sI i2, sI i3, sI i4, sI i5, sI sb, sI po, sR a, sI 1, sI 0, sI 6, sR x, sU, sU, sU, sU, sU, sU, sU]) (st := [(.ref b)]) (by decide) (i := 1) (by decide) (by simp) (Nat.le_trans W108.ext.1 g109) (A110.safe W110.warm.alike (by decide)) (ins := .castore) (Or.inl ⟨rfl, rfl, (narC (alw_lo qa1))⟩) (by decide +kernel)
      refine oLift st111 ?_
      have A111 : OA Z h111 b k109 .char [.int c0, .int c1, .int 0] := A111
      refine oGo W111 [.dup, .iconst 2, .aload 8, .bipush 7] (by decide +kernel) (ls' := #[sI i0, sI i1, sI i2, sI i3, sI i4, sI i5, sI sb, sI po, sR a, sI 1, sI 0, sI 6, sR x, sU, sU, sU, sU, sU, sU, sU]) (st' := [(.int 7), (.ref a), (.int 2), (.ref b), (.ref b)]) rfl rfl (pc' := 188) rfl ?_
      refine oGet W111 ((A106.ext E108).ext (exW (exW E109 Wr110 g109) Wr111 g109)) (v := (.int c2)) (by decide) rfl (Or.inl ⟨rfl, rfl⟩) (by decide +kernel) ?_
      obtain ⟨T112, h112, W112, Wr112, A112, C112, st112⟩ := oPut W111 A111 (j := (2 : Int32)) (x := c2) (x' := c2) (pc := 189) (ls := #[sI i0, sI i1, sI i2, sI i3, sI i4, sI i5, sI sb, sI po, sR a, sI 1, sI 0, sI 6, sR x, sU, sU, sU, sU, sU, sU, sU]) (st := [(.ref b)]) (by decide) (i := 2) (by decide) (by simp) (Nat.le_trans W108.ext.1 g109) (A111.safe W111.warm.alike (by decide)) (ins := .castore) (Or.inl ⟨rfl, rfl, (narC (alw_lo qa2))⟩) (by decide +kernel)
      refine oLift st112 ?_
      have A112 : OA Z h112 b k109 .char [.int c0, .int c1, .int c2] := A112
      refine oGo W112 [.iload 9] (by decide +kernel) (ls' := #[sI i0, sI i1, sI i2, sI i3, sI i4, sI i5, sI sb, sI po, sR a, sI 1, sI 0, sI 6, sR x, sU, sU, sU, sU, sU, sU, sU]) (st' := [(.int 1), (.ref b)]) rfl rfl (pc' := 192) rfl ?_
      obtain ⟨v113, T113, L113, h113, vm113, W113, ⟨y, rfl, F113, E113⟩, C113, st113⟩ := oCallS W112 (idx := 24) (pc := 192) (ls := #[sI i0, sI i1, sI i2, sI i3, sI i4, sI i5, sI sb, sI po, sR a, sI 1, sI 0, sI 6, sR x, sU, sU, sU, sU, sU, sU, sU]) (st := []) (argsL := [(.ref b), (.int 1)]) (c_tk1 K A112 (alw_lo qa0)) (fun x hx => nomatch hx) (wK K 6 rfl) (wK K 7 rfl) (wK K 3 rfl) (wK K 8 rfl) (by decide) (na := 2) rfl (by decide +kernel) rfl (stk := [(.int 1), (.ref b)]) rfl (by decide +kernel) (V := 0) (lb rfl) (lb rfl) (lb rfl) (lb rfl) (lb rfl)
      refine oLift st113 ?_
      show OG _ _ _ _ _ _ _ _ _ _ _ (mkF m 195 #[sI i0, sI i1, sI i2, sI i3, sI i4, sI i5, sI sb, sI po, sR a, sI 1, sI 0, sI 6, sR x, sU, sU, sU, sU, sU, sU, sU] [(.ref y)])
      refine oGo W113 [.astore 13] (by decide +kernel) (ls' := #[sI i0, sI i1, sI i2, sI i3, sI i4, sI i5, sI sb, sI po, sR a, sI 1, sI 0, sI 6, sR x, sR y, sU, sU, sU, sU, sU, sU]) (st' := []) rfl rfl (pc' := 197) rfl ?_
      exact c_seg3_1 K H (oMono W113 (lb rfl) (lb rfl)) (((A106.ext E108).ext (exW (exW (exW E109 Wr110 g109) Wr111 g109) Wr112 g109)).ext E113) ((F108.ext (exW (exW (exW E109 Wr110 g109) Wr111 g109) Wr112 g109)).ext E113) F113 qa0 qa1 qa2
    · rw [hN]
      show OG _ _ _ _ _ _ _ _ _ _ _ (mkF m 159 #[sI i0, sI i1, sI i2, sI i3, sI i4, sI i5, sI sb, sI po, sR a, sI 2, sI 0, sI 7, sU, sU, sU, sU, sU, sU, sU, sU] [(.int 7), (.ref a)])
      obtain ⟨v114, T114, L114, h114, vm114, W114, ⟨x, rfl, F114, E114⟩, C114, st114⟩ := oCallS W106 (idx := 24) (pc := 159) (ls := #[sI i0, sI i1, sI i2, sI i3, sI i4, sI i5, sI sb, sI po, sR a, sI 2, sI 0, sI 7, sU, sU, sU, sU, sU, sU, sU, sU]) (st := []) (argsL := [(.ref a), (.int 7)]) (c_tk7 K A106 pp0 pp1 pp2 pp3 pp4 (alw_lo qa0) (alw_lo qa1)) (fun x hx => nomatch hx) (wK K 6 rfl) (wK K 7 rfl) (wK K 3 rfl) (wK K 8 rfl) (by decide) (na := 2) rfl (by decide +kernel) rfl (stk := [(.int 7), (.ref a)]) rfl (by decide +kernel) (V := 0) (lb rfl) (lb rfl) (lb rfl) (lb rfl) (lb rfl)
      refine oLift st114 ?_
      show OG _ _ _ _ _ _ _ _ _ _ _ (mkF m 162 #[sI i0, sI i1, sI i2, sI i3, sI i4, sI i5, sI sb, sI po, sR a, sI 2, sI 0, sI 7, sU, sU, sU, sU, sU, sU, sU, sU] [(.ref x)])
      refine oGo W114 [.astore 12, .iconst 3] (by decide +kernel) (ls' := #[sI i0, sI i1, sI i2, sI i3, sI i4, sI i5, sI sb, sI po, sR a, sI 2, sI 0, sI 7, sR x, sU, sU, sU, sU, sU, sU, sU]) (st' := [(.int 3)]) rfl rfl (pc' := 165) rfl ?_
      obtain ⟨T115, h115, b, k115, W115, g115, E115, A115, S115, C115, st115⟩ := oNewA W114 (aty := .char) (pc := 165) (ls := #[sI i0, sI i1, sI i2, sI i3, sI i4, sI i5, sI sb, sI po, sR a, sI 2, sI 0, sI 7, sR x, sU, sU, sU, sU, sU, sU, sU]) (st := []) (wK K 0 rfl) (by decide +kernel) (n := (3 : Int32)) (by decide) (cap := 3) (lb rfl) (lb rfl) (lb rfl) (lb rfl)
      refine oLift st115 ?_
      have A115 : OA Z h115 b k115 .char [.int 0, .int 0, .int 0] := A115
      refine oGo W115 [.dup, .iconst 0, .aload 8, .iconst 5] (by decide +kernel) (ls' := #[sI i0, sI i1, sI i2, sI i3, sI i4, sI i5, sI sb, sI po, sR a, sI 2, sI 0, sI 7, sR x, sU, sU, sU, sU, sU, sU, sU]) (st' := [(.int 5), (.ref a), (.int 0), (.ref b), (.ref b)]) rfl rfl (pc' := 172) rfl ?_
      refine oGet W115 ((A106.ext E114).ext E115) (v := (.int c0)) (by decide) rfl (Or.inl ⟨rfl, rfl⟩) (by decide +kernel) ?_
      obtain ⟨T116, h116, W116, Wr116, A116, C116, st116⟩ := oPut W115 A115 (j := (0 : Int32)) (x := c0) (x' := c0) (pc := 173) (ls := #[sI i0, sI i1, sI i2, sI i3, sI i4, sI i5, sI sb, sI po, sR a, sI 2, sI 0, sI 7, sR x, sU, sU, sU, sU, sU, sU, sU]) (st := [(.ref b)]) (by decide) (i := 0) (by decide) (by simp) (Nat.le_trans W114.ext.1 g115) (A115.safe W115.warm.alike (by decide)) (ins := .castore) (Or.inl ⟨rfl, rfl, (narC (alw_lo qa0))⟩) (by decide +kernel)
      refine oLift st116 ?_
      have A116 : OA Z h116 b k115 .char [.int c0, .int 0, .int 0] := A116
      refine oGo W116 [.dup, .iconst 1, .aload 8, .bipush 6] (by decide +kernel) (ls' := #[sI i0, sI i1, sI i2, sI i3, sI i4, sI i5, sI sb, sI po, sR a, sI 2, sI 0, sI 7, sR x, sU, sU, sU, sU, sU, sU, sU]) (st' := [(.int 6), (.ref a), (.int 1), (.ref b), (.ref b)]) rfl rfl (pc' := 180) rfl ?_
      refine oGet W116 ((A106.ext E114).ext (exW E115 Wr116 g115)) (v := (.int c1)) (by decide) rfl (Or.inl ⟨rfl, rfl⟩) (by decide +kernel) ?_
      obtain ⟨T117, h117, W117, Wr117, A117, C117, st117⟩ := oPut W116 A116 (j := (1 : Int32)) (x := c1) (x' := c1) (pc := 181) (ls := #[sI i0, sI i1, sI i2, sI i3, sI i4, sI i5, sI sb, sI po, sR a, sI 2, sI 0, sI 7, sR x, sU, sU, sU, sU, sU, sU, sU]) (st := [(.ref b)]) (by decide) (i := 1) (by decide) (by simp) (Nat.le_trans W114.ext.1 g115) (A116.safe W116.warm.alike (by decide)) (ins := .castore) (Or.inl ⟨rfl, rfl, (narC (alw_lo qa1))⟩) (by decide +kernel)
      refine oLift st117 ?_
      have A117 : OA Z h117 b k115 .char [.int c0, .int c1, .int 0] := A117
      refine oGo W117 [.dup, .iconst 2, .aload 8, .bipush 7] (by decide +kernel) (ls' := #[sI i0, sI i1, sI i2, sI i3, sI i4, sI i5, sI sb, sI po, sR a, sI 2, sI 0, sI 7, sR x, sU, sU, sU, sU, sU, sU, sU]) (st' := [(.int 7), (.ref a), (.int 2), (.ref b), (.ref b)]) rfl rfl (pc' := 188) rfl ?_
      refine oGet W117 ((A106.ext E114).ext (exW (exW E115 Wr116 g115) Wr117 g115)) (v := (.int c2)) (by decide) rfl (Or.inl ⟨rfl, rfl⟩) (by decide +kernel) ?_
      obtain ⟨T118, h118, W118, Wr118, A118, C118, st118⟩ := oPut W117 A117 (j := (2 : Int32)) (x := c2) (x' := c2) (pc := 189) (ls := #[sI i0, sI i1, sI i2, sI i3, sI i4, sI i5, sI sb, sI po, sR a, sI 2, sI 0, sI 7, sR x, sU, sU, sU, sU, sU, sU, sU]) (st := [(.ref b)]) (by decide) (i := 2) (by decide) (by simp) (Nat.le_trans W114.ext.1 g115) (A117.safe W117.warm.alike (by decide)) (ins := .castore) (Or.inl ⟨rfl, rfl, (narC (alw_lo qa2))⟩) (by decide +kernel)
      refine oLift st118 ?_
      have A118 : OA Z h118 b k115 .char [.int c0, .int c1, .int c2] := A118
      refine oGo W118 [.iload 9] (by decide +kernel) (ls' := #[sI i0, sI i1, sI i2, sI i3, sI i4, sI i5, sI sb, sI po, sR a, sI 2, sI 0, sI 7, sR x, sU, sU, sU, sU, sU, sU, sU]) (st' := [(.int 2), (.ref b)]) rfl rfl (pc' := 192) rfl ?_
      obtain ⟨v119, T119, L119, h119, vm119, W119, ⟨y, rfl, F119, E119⟩, C119, st119⟩ := oCallS W118 (idx := 24) (pc := 192) (ls := #[sI i0, sI i1, sI i2, sI i3, sI i4, sI i5, sI sb, sI po, sR a, sI 2, sI 0, sI 7, sR x, sU, sU, sU, sU, sU, sU, sU]) (st := []) (argsL := [(.ref b), (.int 2)]) (c_tk2 K A118 (alw_lo qa0) (alw_lo qa1)) (fun x hx => nomatch hx) (wK K 6 rfl) (wK K 7 rfl) (wK K 3 rfl) (wK K 8 rfl) (by decide) (na := 2) rfl (by decide +kernel) rfl (stk := [(.int 2), (.ref b)]) rfl (by decide +kernel) (V := 0) (lb rfl) (lb rfl) (lb rfl) (lb rfl) (lb rfl)
      refine oLift st119 ?_
      show OG _ _ _ _ _ _ _ _ _ _ _ (mkF m 195 #[sI i0, sI i1, sI i2, sI i3, sI i4, sI i5, sI sb, sI po, sR a, sI 2, sI 0, sI 7, sR x, sU, sU, sU, sU, sU, sU, sU] [(.ref y)])
      refine oGo W119 [.astore 13] (by decide +kernel) (ls' := #[sI i0, sI i1, sI i2, sI i3, sI i4, sI i5, sI sb, sI po, sR a, sI 2, sI 0, sI 7, sR x, sR y, sU, sU, sU, sU, sU, sU]) (st' := []) rfl rfl (pc' := 197) rfl ?_
      exact c_seg3_2 K H (oMono W119 (lb rfl) (lb rfl)) (((A106.ext E114).ext (exW (exW (exW E115 Wr116 g115) Wr117 g115) Wr118 g115)).ext E119) ((F114.ext (exW (exW (exW E115 Wr116 g115) Wr117 g115) Wr118 g115)).ext E119) F119 qa0 qa1 qa2
    · rw [hN]
      show OG _ _ _ _ _ _ _ _ _ _ _ (mkF m 159 #[sI i0, sI i1, sI i2, sI i3, sI i4, sI i5, sI sb, sI po, sR a, sI 3, sI 0, sI 8, sU, sU, sU, sU, sU, sU, sU, sU] [(.int 8), (.ref a)])
      obtain ⟨v120, T120, L120, h120, vm120, W120, ⟨x, rfl, F120, E120⟩, C120, st120⟩ := oCallS W106 (idx := 24) (pc := 159) (ls := #[sI i0, sI i1, sI i2, sI i3, sI i4, sI i5, sI sb, sI po, sR a, sI 3, sI 0, sI 8, sU, sU, sU, sU, sU, sU, sU, sU]) (st := []) (argsL := [(.ref a), (.int 8)]) (c_tk8 K A106 pp0 pp1 pp2 pp3 pp4 (alw_lo qa0) (alw_lo qa1) (alw_lo qa2)) (fun x hx => nomatch hx) (wK K 6 rfl) (wK K 7 rfl) (wK K 3 rfl) (wK K 8 rfl) (by decide) (na := 2) rfl (by decide +kernel) rfl (stk := [(.int 8), (.ref a)]) rfl (by decide +kernel) (V := 0) (lb rfl) (lb rfl) (lb rfl) (lb rfl) (lb rfl)
      refine oLift st120 ?_
      show OG _ _ _ _ _ _ _ _ _ _ _ (mkF m 162 #[sI i0, sI i1, sI i2, sI i3, sI i4, sI i5, sI sb, sI po, sR a, sI 3, sI 0, sI 8, sU, sU, sU, sU, sU, sU, sU, sU] [(.ref x)])
      refine oGo W120 [.astore 12, .iconst 3] (by decide +kernel) (ls' := #[sI i0, sI i1, sI i2, sI i3, sI i4, sI i5, sI sb, sI po, sR a, sI 3, sI 0, sI 8, sR x, sU, sU, sU, sU, sU, sU, sU]) (st' := [(.int 3)]) rfl rfl (pc' := 165) rfl ?_
      obtain ⟨T121, h121, b, k121, W121, g121, E121, A121, S121, C121, st121⟩ := oNewA W120 (aty := .char) (pc := 165) (ls := #[sI i0, sI i1, sI i2, sI i3, sI i4, sI i5, sI sb, sI po, sR a, sI 3, sI 0, sI 8, sR x, sU, sU, sU, sU, sU, sU, sU]) (st := []) (wK K 0 rfl) (by decide +kernel) (n := (3 : Int32)) (by decide) (cap := 3) (lb rfl) (lb rfl) (lb rfl) (lb rfl)
      refine oLift st121 ?_
      have A121 : OA Z h121 b k121 .char [.int 0, .int 0, .int 0] := A121
      refine oGo W121 [.dup, .iconst 0, .aload 8, .iconst 5] (by decide +kernel) (ls' := #[sI i0, sI i1, sI i2, sI i3, sI i4, sI i5, sI sb, sI po, sR a, sI 3, sI 0, sI 8, sR x, sU, sU, sU, sU, sU, sU, sU]) (st' := [(.int 5), (.ref a), (.int 0), (.ref b), (.ref b)]) rfl rfl (pc' := 172) rfl ?_
      refine oGet W121 ((A106.ext E120).ext E121) (v := (.int c0)) (by decide) rfl (Or.inl ⟨rfl, rfl⟩) (by decide +kernel) ?_
      obtain ⟨T122, h122, W122, Wr122, A122, C122, st122⟩ := oPut W121 A121 (j := (0 : Int32)) (x := c0) (x' := c0) (pc := 173) (ls := #[sI i0, sI i1, sI i2, sI i3, sI i4, sI i5, sI sb, sI po, sR a, sI 3, sI 0, sI 8, sR x, sU, sU, sU, sU, sU, sU, sU]) (st := [(.ref b)]) (by decide) (i := 0) (by decide) (by simp) (Nat.le_trans W120.ext.1 g121) (A121.safe W121.warm.alike (by decide)) (ins := .castore) (Or.inl ⟨rfl, rfl, (narC (alw_lo qa0))⟩) (by decide +kernel)
      refine oLift st122 ?_
      have A122 : OA Z h122 b k121 .char [.int c0, .int 0, .int 0] := A122
      refine oGo W122 [.dup, .iconst 1, .aload 8, .bipush 6] (by decide +kernel) (ls' := #[sI i0, sI i1, sI i2, sI i3, sI i4, sI i5, sI sb, sI po, sR a, sI 3, sI 0, sI 8, sR x, sU, sU, sU, sU, sU, sU, sU]) (st' := [(.int 6), (.ref a), (.int 1), (.ref b), (.ref b)]) rfl rfl (pc' := 180) rfl ?_
      refine oGet W122 ((A106.ext E120).ext (exW E121 Wr122 g121)) (v := (.int c1)) (by decide) rfl (Or.inl ⟨rfl, rfl⟩) (by decide +kernel) ?_
      obtain ⟨T123, h123, W123, Wr123, A123, C123, st123⟩ := oPut W122 A122 (j := (1 : Int32)) (x := c1) (x' := c1) (pc := 181) (ls := #[sI i0, sI i1, sI i2, sI i3, sI i4, sI i5, sI sb, sI po, sR a, sI 3, sI 0, sI 8, sR x, sU, sU, sU, sU, sU, sU, sU]) (st := [(.ref b)]) (by decide) (i := 1) (by decide) (by simp) (Nat.le_trans W120.ext.1 g121) (A122.safe W122.warm.alike (by decide)) (ins := .castore) (Or.inl ⟨rfl, rfl, (narC (alw_lo qa1))⟩) (by decide +kernel)
      refine oLift st123 ?_
      have A123 : OA Z h123 b k121 .char [.int c0, .int c1, .int 0] := A123
      refine oGo W123 [.dup, .iconst 2, .aload 8, .bipush 7] (by decide +kernel) (ls' := #[sI i0, sI i1, sI i2, sI i3, sI i4, sI i5, sI sb, sI po, sR a, sI 3, sI 0, sI 8, sR x, sU, sU, sU, sU, sU, sU, sU]) (st' := [(.int 7), (.ref a), (.int 2), (.ref b), (.ref b)]) rfl rfl (pc' := 188) rfl ?_
      refine oGet W123 ((A106.ext E120).ext (exW (exW E121 Wr122 g121) Wr123 g121)) (v := (.int c2)) (by decide) rfl (Or.inl ⟨rfl, rfl⟩) (by decide +kernel) ?_
      obtain ⟨T124, h124, W124, Wr124, A124, C124, st124⟩ := oPut W123 A123 (j := (2 : Int32)) (x := c2) (x' := c2) (pc := 189) (ls := #[sI i0, sI i1, sI i2, sI i3, sI i4, sI i5, sI sb, sI po, sR a, sI 3, sI 0, sI 8, sR x, sU, sU, sU, sU, sU, sU, sU]) (st := [(.ref b)]) (by decide) (i := 2) (by decide) (by simp) (Nat.le_trans W120.ext.1 g121) (A123.safe W123.warm.alike (by decide)) (ins := .castore) (Or.inl ⟨rfl, rfl, (narC (alw_lo qa2))⟩) (by decide +kernel)
      refine oLift st124 ?_
      have A124 : OA Z h124 b k121 .char [.int c0, .int c1, .int c2] := A124
      refine oGo W124 [.iload 9] (by decide +kernel) (ls' := #[sI i0, sI i1, sI i2, sI i3, sI i4, sI i5, sI sb, sI po, sR a, sI 3, sI 0, sI 8, sR x, sU, sU, sU, sU, sU, sU, sU]) (st' := [(.int 3), (.ref b)]) rfl rfl (pc' := 192) rfl ?_
      obtain ⟨v125, T125, L125, h125, vm125, W125, ⟨y, rfl, F125, E125⟩, C125, st125⟩ := oCallS W124 (idx := 24) (pc := 192) (ls := #[sI i0, sI i1, sI i2, sI i3, sI i4, sI i5, sI sb, sI po, sR a, sI 3, sI 0, sI 8, sR x, sU, sU, sU, sU, sU, sU, sU]) (st := []) (argsL := [(.ref b), (.int 3)]) (c_tk3 K A124 (alw_lo qa0) (alw_lo qa1) (alw_lo qa2)) (fun x hx => nomatch hx) (wK K 6 rfl) (wK K 7 rfl) (wK K 3 rfl) (wK K 8 rfl) (by decide) (na := 2) rfl (by decide +kernel) rfl (stk := [(.int 3), (.ref b)]) rfl (by decide +kernel) (V := 0) (lb rfl) (lb rfl) (lb rfl) (lb rfl) (lb rfl)
      refine oLift st125 ?_
      show OG _ _ _ _ _ _ _ _ _ _ _ (mkF m 195 #[sI i0, sI i1, sI i2, sI i3, sI i4, sI i5, sI sb, sI po, sR a, sI 3, sI 0, sI 8, sR x, sU, sU, sU, sU, sU, sU, sU] [(.ref y)])
      refine oGo W125 [.astore 13] (by decide +kernel) (ls' := #[sI i0, sI i1, sI i2, sI i3, sI i4, sI i5, sI sb, sI po, sR a, sI 3, sI 0, sI 8, sR x, sR y, sU, sU, sU, sU, sU, sU]) (st' := []) rfl rfl (pc' := 197) rfl ?_
      exact c_seg3_3 K H (oMono W125 (lb rfl) (lb rfl)) (((A106.ext E120).ext (exW (exW (exW E121 Wr122 g121) Wr123 g121) Wr124 g121)).ext E125) ((F120.ext (exW (exW (exW E121 Wr122 g121) Wr123 g121) Wr124 g121)).ext E125) F125 qa0 qa1 qa2
  refine oIfF W106 (cd := .eq) (o := 7) (by decide +kernel) (XT.i0_eq_f hc107) (pc' := 128) rfl ?_
  refine oGo W106 [.iconst 1, .goto 4, .istore 10, .iload 10] (by decide +kernel) (ls' := #[sI i0, sI i1, sI i2, sI i3, sI i4, sI i5, sI sb, sI po, sR a, sI (((i5 &&& (3 : Int32)) % (3 : Int32)) + (1 : Int32)), sI 1, sU, sU, sU, sU, sU, sU, sU, sU, sU]) (st' := [(.int 1)]) rfl rfl (pc' := 137) rfl ?_
  refine oIfF W106 (cd := .eq) (o := 12) (by decide +kernel) (XT.i0_eq_f (by decide)) (pc' := 140) rfl ?_
  refine oGo W106 [.iload 5, .iconst 3, .iushr, .iconst 5, .irem, .goto 7] (by decide +kernel) (ls' := #[sI i0, sI i1, sI i2, sI i3, sI i4, sI i5, sI sb, sI po, sR a, sI (((i5 &&& (3 : Int32)) % (3 : Int32)) + (1 : Int32)), sI 1, sU, sU, sU, sU, sU, sU, sU, sU, sU]) (st' := [(.int ((XT.ushr i5 (3 : Int32)) % (5 : Int32)))]) rfl rfl (pc' := 153) rfl ?_
  obtain ⟨V, hV, eV⟩ := tlV i5
  obtain ⟨M, hM, eM⟩ := nV i5
  rw [eV, eM]
  refine oGo W106 [.istore 11, .aload 8, .iload 11] (by decide +kernel) (ls' := #[sI i0, sI i1, sI i2, sI i3, sI i4, sI i5, sI sb, sI po, sR a, sI (Int32.ofNat M), sI 1, sI (Int32.ofNat V), sU, sU, sU, sU, sU, sU, sU, sU]) (st' := [(.int (Int32.ofNat V)), (.ref a)]) rfl rfl (pc' := 159) rfl ?_
  obtain ⟨v126, T126, L126, h126, vm126, W126, ⟨x, rfl, F126, E126⟩, C126, st126⟩ := oCallS W106 (idx := 24) (pc := 159) (ls := #[sI i0, sI i1, sI i2, sI i3, sI i4, sI i5, sI sb, sI po, sR a, sI (Int32.ofNat M), sI 1, sI (Int32.ofNat V), sU, sU, sU, sU, sU, sU, sU, sU]) (st := []) (argsL := [(.ref a), (.int (Int32.ofNat V))]) (c_tkp K ⟨Nat.zero_le _, hV⟩ A106 pp0 pp1 pp2 pp3 pp4 (alw_lo qa0) (alw_lo qa1) (alw_lo qa2)) (fun x hx => nomatch hx) (wK K 6 rfl) (wK K 7 rfl) (wK K 3 rfl) (wK K 8 rfl) (by decide) (na := 2) rfl (by decide +kernel) rfl (stk := [(.int (Int32.ofNat V)), (.ref a)]) rfl (by decide +kernel) (V := 0) (lb rfl) (lb rfl) (lb rfl) (lb rfl) (lb rfl)
  refine oLift st126 ?_
  show OG _ _ _ _ _ _ _ _ _ _ _ (mkF m 162 #[sI i0, sI i1, sI i2, sI i3, sI i4, sI i5, sI sb, sI po, sR a, sI (Int32.ofNat M), sI 1, sI (Int32.ofNat V), sU, sU, sU, sU, sU, sU, sU, sU] [(.ref x)])
  refine oGo W126 [.astore 12, .iconst 3] (by decide +kernel) (ls' := #[sI i0, sI i1, sI i2, sI i3, sI i4, sI i5, sI sb, sI po, sR a, sI (Int32.ofNat M), sI 1, sI (Int32.ofNat V), sR x, sU, sU, sU, sU, sU, sU, sU]) (st' := [(.int 3)]) rfl rfl (pc' := 165) rfl ?_
  obtain ⟨T127, h127, b, k127, W127, g127, E127, A127, S127, C127, st127⟩ := oNewA W126 (aty := .char) (pc := 165) (ls := #[sI i0, sI i1, sI i2, sI i3, sI i4, sI i5, sI sb, sI po, sR a, sI (Int32.ofNat M), sI 1, sI (Int32.ofNat V), sR x, sU, sU, sU, sU, sU, sU, sU]) (st := []) (wK K 0 rfl) (by decide +kernel) (n := (3 : Int32)) (by decide) (cap := 3) (lb rfl) (lb rfl) (lb rfl) (lb rfl)
  refine oLift st127 ?_
  have A127 : OA Z h127 b k127 .char [.int 0, .int 0, .int 0] := A127
  refine oGo W127 [.dup, .iconst 0, .aload 8, .iconst 5] (by decide +kernel) (ls' := #[sI i0, sI i1, sI i2, sI i3, sI i4, sI i5, sI sb, sI po, sR a, sI (Int32.ofNat M), sI 1, sI (Int32.ofNat V), sR x, sU, sU, sU, sU, sU, sU, sU]) (st' := [(.int 5), (.ref a), (.int 0), (.ref b), (.ref b)]) rfl rfl (pc' := 172) rfl ?_
  refine oGet W127 ((A106.ext E126).ext E127) (v := (.int c0)) (by decide) rfl (Or.inl ⟨rfl, rfl⟩) (by decide +kernel) ?_
  obtain ⟨T128, h128, W128, Wr128, A128, C128, st128⟩ := oPut W127 A127 (j := (0 : Int32)) (x := c0) (x' := c0) (pc := 173) (ls := #[sI i0, sI i1, sI i2, sI i3, sI i4, sI i5, sI sb, sI po, sR a, sI (Int32.ofNat M), sI 1, sI (Int32.ofNat V), sR x, sU, sU, sU, sU, sU, sU, sU]) (st := [(.ref b)]) (by decide) (i := 0) (by decide) (by simp) (Nat.le_trans W126.ext.1 g127) (A127.safe W127.warm.alike (by decide)) (ins := .castore) (Or.inl ⟨rfl, rfl, (narC (alw_lo qa0))⟩) (by decide +kernel)
  refine oLift st128 ?_
  have A128 : OA Z h128 b k127 .char [.int c0, .int 0, .int 0] := A128
  refine oGo W128 [.dup, .iconst 1, .aload 8, .bipush 6] (by decide +kernel) (ls' := #[sI i0, sI i1, sI i2, sI i3, sI i4, sI i5, sI sb, sI po, sR a, sI (Int32.ofNat M), sI 1, sI (Int32.ofNat V), sR x, sU, sU, sU, sU, sU, sU, sU]) (st' := [(.int 6), (.ref a), (.int 1), (.ref b), (.ref b)]) rfl rfl (pc' := 180) rfl ?_
  refine oGet W128 ((A106.ext E126).ext (exW E127 Wr128 g127)) (v := (.int c1)) (by decide) rfl (Or.inl ⟨rfl, rfl⟩) (by decide +kernel) ?_
  obtain ⟨T129, h129, W129, Wr129, A129, C129, st129⟩ := oPut W128 A128 (j := (1 : Int32)) (x := c1) (x' := c1) (pc := 181) (ls := #[sI i0, sI i1, sI i2, sI i3, sI i4, sI i5, sI sb, sI po, sR a, sI (Int32.ofNat M), sI 1, sI (Int32.ofNat V), sR x, sU, sU, sU, sU, sU, sU, sU]) (st := [(.ref b)]) (by decide) (i := 1) (by decide) (by simp) (Nat.le_trans W126.ext.1 g127) (A128.safe W128.warm.alike (by decide)) (ins := .castore) (Or.inl ⟨rfl, rfl, (narC (alw_lo qa1))⟩) (by decide +kernel)
  refine oLift st129 ?_
  have A129 : OA Z h129 b k127 .char [.int c0, .int c1, .int 0] := A129
  refine oGo W129 [.dup, .iconst 2, .aload 8, .bipush 7] (by decide +kernel) (ls' := #[sI i0, sI i1, sI i2, sI i3, sI i4, sI i5, sI sb, sI po, sR a, sI (Int32.ofNat M), sI 1, sI (Int32.ofNat V), sR x, sU, sU, sU, sU, sU, sU, sU]) (st' := [(.int 7), (.ref a), (.int 2), (.ref b), (.ref b)]) rfl rfl (pc' := 188) rfl ?_
  refine oGet W129 ((A106.ext E126).ext (exW (exW E127 Wr128 g127) Wr129 g127)) (v := (.int c2)) (by decide) rfl (Or.inl ⟨rfl, rfl⟩) (by decide +kernel) ?_
  obtain ⟨T130, h130, W130, Wr130, A130, C130, st130⟩ := oPut W129 A129 (j := (2 : Int32)) (x := c2) (x' := c2) (pc := 189) (ls := #[sI i0, sI i1, sI i2, sI i3, sI i4, sI i5, sI sb, sI po, sR a, sI (Int32.ofNat M), sI 1, sI (Int32.ofNat V), sR x, sU, sU, sU, sU, sU, sU, sU]) (st := [(.ref b)]) (by decide) (i := 2) (by decide) (by simp) (Nat.le_trans W126.ext.1 g127) (A129.safe W129.warm.alike (by decide)) (ins := .castore) (Or.inl ⟨rfl, rfl, (narC (alw_lo qa2))⟩) (by decide +kernel)
  refine oLift st130 ?_
  have A130 : OA Z h130 b k127 .char [.int c0, .int c1, .int c2] := A130
  refine oGo W130 [.iload 9] (by decide +kernel) (ls' := #[sI i0, sI i1, sI i2, sI i3, sI i4, sI i5, sI sb, sI po, sR a, sI (Int32.ofNat M), sI 1, sI (Int32.ofNat V), sR x, sU, sU, sU, sU, sU, sU, sU]) (st' := [(.int (Int32.ofNat M)), (.ref b)]) rfl rfl (pc' := 192) rfl ?_
  obtain ⟨v131, T131, L131, h131, vm131, W131, ⟨y, rfl, F131, E131⟩, C131, st131⟩ := oCallS W130 (idx := 24) (pc := 192) (ls := #[sI i0, sI i1, sI i2, sI i3, sI i4, sI i5, sI sb, sI po, sR a, sI (Int32.ofNat M), sI 1, sI (Int32.ofNat V), sR x, sU, sU, sU, sU, sU, sU, sU]) (st := []) (argsL := [(.ref b), (.int (Int32.ofNat M))]) (c_tkn K hM A130 (alw_lo qa0) (alw_lo qa1) (alw_lo qa2)) (fun x hx => nomatch hx) (wK K 6 rfl) (wK K 7 rfl) (wK K 3 rfl) (wK K 8 rfl) (by decide) (na := 2) rfl (by decide +kernel) rfl (stk := [(.int (Int32.ofNat M)), (.ref b)]) rfl (by decide +kernel) (V := 0) (lb rfl) (lb rfl) (lb rfl) (lb rfl) (lb rfl)
  refine oLift st131 ?_
  show OG _ _ _ _ _ _ _ _ _ _ _ (mkF m 195 #[sI i0, sI i1, sI i2, sI i3, sI i4, sI i5, sI sb, sI po, sR a, sI (Int32.ofNat M), sI 1, sI (Int32.ofNat V), sR x, sU, sU, sU, sU, sU, sU, sU] [(.ref y)])
  refine oGo W131 [.astore 13] (by decide +kernel) (ls' := #[sI i0, sI i1, sI i2, sI i3, sI i4, sI i5, sI sb, sI po, sR a, sI (Int32.ofNat M), sI 1, sI (Int32.ofNat V), sR x, sR y, sU, sU, sU, sU, sU, sU]) (st' := []) rfl rfl (pc' := 197) rfl ?_
  refine oGo W131 [.iload 11, .iconst 5] (by decide +kernel) (ls' := #[sI i0, sI i1, sI i2, sI i3, sI i4, sI i5, sI sb, sI po, sR a, sI (Int32.ofNat M), sI 1, sI (Int32.ofNat V), sR x, sR y, sU, sU, sU, sU, sU, sU]) (st' := [(.int 5), (.int (Int32.ofNat V))]) rfl rfl (pc' := 200) rfl ?_
  refine oIcT W131 (cd := .lt) (o := 52) (by decide +kernel) (XT.ii_lt_t ((n_lt (b := 5) (by omega) (by omega)).mpr (by omega))) (pc' := 252) (by decide) (by decide) ?_
  refine oGo W131 [.iconst 0, .istore 14, .iload 11, .iconst 5] (by decide +kernel) (ls' := #[sI i0, sI i1, sI i2, sI i3, sI i4, sI i5, sI sb, sI po, sR a, sI (Int32.ofNat M), sI 1, sI (Int32.ofNat V), sR x, sR y, sI 0, sU, sU, sU, sU, sU]) (st' := [(.int 5), (.int (Int32.ofNat V))]) rfl rfl (pc' := 258) rfl ?_
  refine oIcT W131 (cd := .lt) (o := 52) (by decide +kernel) (XT.ii_lt_t ((n_lt (b := 5) (by omega) (by omega)).mpr (by omega))) (pc' := 310) (by decide) (by decide) ?_
  refine oGo W131 [.iconst 0, .istore 15, .iload 9, .iconst 1] (by decide +kernel) (ls' := #[sI i0, sI i1, sI i2, sI i3, sI i4, sI i5, sI sb, sI po, sR a, sI (Int32.ofNat M), sI 1, sI (Int32.ofNat V), sR x, sR y, sI 0, sI 0, sU, sU, sU, sU]) (st' := [(.int 1), (.int (Int32.ofNat M))]) rfl rfl (pc' := 316) rfl ?_
  by_cases hc132 : (Int32.ofNat M) = (1 : Int32)
  rotate_left
  · refine oIcT W131 (cd := .ne) (o := 12) (by decide +kernel) (XT.ii_ne_t hc132) (pc' := 328) (by decide) (by decide) ?_
    refine oGo W131 [.iload 9, .iconst 2] (by decide +kernel) (ls' := #[sI i0, sI i1, sI i2, sI i3, sI i4, sI i5, sI sb, sI po, sR a, sI (Int32.ofNat M), sI 1, sI (Int32.ofNat V), sR x, sR y, sI 0, sI 0, sU, sU, sU, sU]) (st' := [(.int 2), (.int (Int32.ofNat M))]) rfl rfl (pc' := 331) rfl ?_
    by_cases hc133 : (Int32.ofNat M) = (2 : Int32)
    rotate_left
    · refine oIcT W131 (cd := .ne) (o := 26) (by decide +kernel) (XT.ii_ne_t hc133) (pc' := 357) (by decide) (by decide) ?_
      refine oGo W131 [.iconst 0, .istore 16] (by decide +kernel) (ls' := #[sI i0, sI i1, sI i2, sI i3, sI i4, sI i5, sI sb, sI po, sR a, sI (Int32.ofNat M), sI 1, sI (Int32.ofNat V), sR x, sR y, sI 0, sI 0, sI 0, sU, sU, sU]) (st' := []) rfl rfl (pc' := 360) rfl ?_
      exact c_seg2 K H (oMono W131 (lb rfl) (lb rfl)) ((F126.ext (exW (exW (exW E127 Wr128 g127) Wr129 g127) Wr130 g127)).ext E131) (by rw [List.length_take]; omega)
    refine oIcF W131 (cd := .ne) (o := 26) (by decide +kernel) (XT.ii_ne_f hc133) (pc' := 334) rfl ?_
    refine oGo W131 [.aload 8, .iconst 5] (by decide +kernel) (ls' := #[sI i0, sI i1, sI i2, sI i3, sI i4, sI i5, sI sb, sI po, sR a, sI (Int32.ofNat M), sI 1, sI (Int32.ofNat V), sR x, sR y, sI 0, sI 0, sU, sU, sU, sU]) (st' := [(.int 5), (.ref a)]) rfl rfl (pc' := 337) rfl ?_
    refine oGet W131 (((A106.ext E126).ext (exW (exW (exW E127 Wr128 g127) Wr129 g127) Wr130 g127)).ext E131) (v := (.int c0)) (by decide) rfl (Or.inl ⟨rfl, rfl⟩) (by decide +kernel) ?_
    refine oGo W131 [.bipush 46] (by decide +kernel) (ls' := #[sI i0, sI i1, sI i2, sI i3, sI i4, sI i5, sI sb, sI po, sR a, sI (Int32.ofNat M), sI 1, sI (Int32.ofNat V), sR x, sR y, sI 0, sI 0, sU, sU, sU, sU]) (st' := [(.int 46), (.int c0)]) rfl rfl (pc' := 340) rfl ?_
    by_cases hc134 : c0 = (46 : Int32)
    rotate_left
    · refine oIcT W131 (cd := .ne) (o := 17) (by decide +kernel) (XT.ii_ne_t hc134) (pc' := 357) (by decide) (by decide) ?_
      refine oGo W131 [.iconst 0, .istore 16] (by decide +kernel) (ls' := #[sI i0, sI i1, sI i2, sI i3, sI i4, sI i5, sI sb, sI po, sR a, sI (Int32.ofNat M), sI 1, sI (Int32.ofNat V), sR x, sR y, sI 0, sI 0, sI 0, sU, sU, sU]) (st' := []) rfl rfl (pc' := 360) rfl ?_
      exact c_seg2 K H (oMono W131 (lb rfl) (lb rfl)) ((F126.ext (exW (exW (exW E127 Wr128 g127) Wr129 g127) Wr130 g127)).ext E131) (by rw [List.length_take]; omega)
    refine oIcF W131 (cd := .ne) (o := 17) (by decide +kernel) (XT.ii_ne_f hc134) (pc' := 343) rfl ?_
    refine oGo W131 [.aload 8, .bipush 6] (by decide +kernel) (ls' := #[sI i0, sI i1, sI i2, sI i3, sI i4, sI i5, sI sb, sI po, sR a, sI (Int32.ofNat M), sI 1, sI (Int32.ofNat V), sR x, sR y, sI 0, sI 0, sU, sU, sU, sU]) (st' := [(.int 6), (.ref a)]) rfl rfl (pc' := 347) rfl ?_
    refine oGet W131 (((A106.ext E126).ext (exW (exW (exW E127 Wr128 g127) Wr129 g127) Wr130 g127)).ext E131) (v := (.int c1)) (by decide) rfl (Or.inl ⟨rfl, rfl⟩) (by decide +kernel) ?_
    refine oGo W131 [.bipush 46] (by decide +kernel) (ls' := #[sI i0, sI i1, sI i2, sI i3, sI i4, sI i5, sI sb, sI po, sR a, sI (Int32.ofNat M), sI 1, sI (Int32.ofNat V), sR x, sR y, sI 0, sI 0, sU, sU, sU, sU]) (st' := [(.int 46), (.int c1)]) rfl rfl (pc' := 350) rfl ?_
    by_cases hc135 : c1 = (46 : Int32)
    rotate_left
    · refine oIcT W131 (cd := .ne) (o := 7) (by decide +kernel) (XT.ii_ne_t hc135) (pc' := 357) (by decide) (by decide) ?_
      refine oGo W131 [.iconst 0, .istore 16] (by decide +kernel) (ls' := #[sI i0, sI i1, sI i2, sI i3, sI i4, sI i5, sI sb, sI po, sR a, sI (Int32.ofNat M), sI 1, sI (Int32.ofNat V), sR x, sR y, sI 0, sI 0, sI 0, sU, sU, sU]) (st' := []) rfl rfl (pc' := 360) rfl ?_
      exact c_seg2 K H (oMono W131 (lb rfl) (lb rfl)) ((F126.ext (exW (exW (exW E127 Wr128 g127) Wr129 g127) Wr130 g127)).ext E131) (by rw [List.length_take]; omega)
    refine oIcF W131 (cd := .ne) (o := 7) (by decide +kernel) (XT.ii_ne_f hc135) (pc' := 353) rfl ?_
    refine oGo W131 [.iconst 1, .goto 4, .istore 16] (by decide +kernel) (ls' := #[sI i0, sI i1, sI i2, sI i3, sI i4, sI i5, sI sb, sI po, sR a, sI (Int32.ofNat M), sI 1, sI (Int32.ofNat V), sR x, sR y, sI 0, sI 0, sI 1, sU, sU, sU]) (st' := []) rfl rfl (pc' := 360) rfl ?_
    exact c_seg2 K H (oMono W131 (lb rfl) (lb rfl)) ((F126.ext (exW (exW (exW E127 Wr128 g127) Wr129 g127) Wr130 g127)).ext E131) (by rw [List.length_take]; omega)
  refine oIcF W131 (cd := .ne) (o := 12) (by decide +kernel) (XT.ii_ne_f hc132) (pc' := 319) rfl ?_
  refine oGo W131 [.aload 8, .iconst 5] (by decide +kernel) (ls' := #[sI i0, sI i1, sI i2, sI i3, sI i4, sI i5, sI sb, sI po, sR a, sI (Int32.ofNat M), sI 1, sI (Int32.ofNat V), sR x, sR y, sI 0, sI 0, sU, sU, sU, sU]) (st' := [(.int 5), (.ref a)]) rfl rfl (pc' := 322) rfl ?_
  refine oGet W131 (((A106.ext E126).ext (exW (exW (exW E127 Wr128 g127) Wr129 g127) Wr130 g127)).ext E131) (v := (.int c0)) (by decide) rfl (Or.inl ⟨rfl, rfl⟩) (by decide +kernel) ?_
  refine oGo W131 [.bipush 46] (by decide +kernel) (ls' := #[sI i0, sI i1, sI i2, sI i3, sI i4, sI i5, sI sb, sI po, sR a, sI (Int32.ofNat M), sI 1, sI (Int32.ofNat V), sR x, sR y, sI 0, sI 0, sU, sU, sU, sU]) (st' := [(.int 46), (.int c0)]) rfl rfl (pc' := 325) rfl ?_
  by_cases hc136 : c0 = (46 : Int32)
  · refine oIcT W131 (cd := .eq) (o := 28) (by decide +kernel) (XT.ii_eq_t hc136) (pc' := 353) (by decide) (by decide) ?_
    refine oGo W131 [.iconst 1, .goto 4, .istore 16] (by decide +kernel) (ls' := #[sI i0, sI i1, sI i2, sI i3, sI i4, sI i5, sI sb, sI po, sR a, sI (Int32.ofNat M), sI 1, sI (Int32.ofNat V), sR x, sR y, sI 0, sI 0, sI 1, sU, sU, sU]) (st' := []) rfl rfl (pc' := 360) rfl ?_
    exact c_seg2 K H (oMono W131 (lb rfl) (lb rfl)) ((F126.ext (exW (exW (exW E127 Wr128 g127) Wr129 g127) Wr130 g127)).ext E131) (by rw [List.length_take]; omega)
  refine oIcF W131 (cd := .eq) (o := 28) (by decide +kernel) (XT.ii_eq_f hc136) (pc' := 328) rfl ?_
  refine oGo W131 [.iload 9, .iconst 2] (by decide +kernel) (ls' := #[sI i0, sI i1, sI i2, sI i3, sI i4, sI i5, sI sb, sI po, sR a, sI (Int32.ofNat M), sI 1, sI (Int32.ofNat V), sR x, sR y, sI 0, sI 0, sU, sU, sU, sU]) (st' := [(.int 2), (.int (Int32.ofNat M))]) rfl rfl (pc' := 331) rfl ?_
  by_cases hc137 : (Int32.ofNat M) = (2 : Int32)
  rotate_left
  · refine oIcT W131 (cd := .ne) (o := 26) (by decide +kernel) (XT.ii_ne_t hc137) (pc' := 357) (by decide) (by decide) ?_
    refine oGo W131 [.iconst 0, .istore 16] (by decide +kernel) (ls' := #[sI i0, sI i1, sI i2, sI i3, sI i4, sI i5, sI sb, sI po, sR a, sI (Int32.ofNat M), sI 1, sI (Int32.ofNat V), sR x, sR y, sI 0, sI 0, sI 0, sU, sU, sU]) (st' := []) rfl rfl (pc' := 360) rfl ?_
    exact c_seg2 K H (oMono W131 (lb rfl) (lb rfl)) ((F126.ext (exW (exW (exW E127 Wr128 g127) Wr129 g127) Wr130 g127)).ext E131) (by rw [List.length_take]; omega)
  refine oIcF W131 (cd := .ne) (o := 26) (by decide +kernel) (XT.ii_ne_f hc137) (pc' := 334) rfl ?_
  refine oGo W131 [.aload 8, .iconst 5] (by decide +kernel) (ls' := #[sI i0, sI i1, sI i2, sI i3, sI i4, sI i5, sI sb, sI po, sR a, sI (Int32.ofNat M), sI 1, sI (Int32.ofNat V), sR x, sR y, sI 0, sI 0, sU, sU, sU, sU]) (st' := [(.int 5), (.ref a)]) rfl rfl (pc' := 337) rfl ?_
  refine oGet W131 (((A106.ext E126).ext (exW (exW (exW E127 Wr128 g127) Wr129 g127) Wr130 g127)).ext E131) (v := (.int c0)) (by decide) rfl (Or.inl ⟨rfl, rfl⟩) (by decide +kernel) ?_
  refine oGo W131 [.bipush 46] (by decide +kernel) (ls' := #[sI i0, sI i1, sI i2, sI i3, sI i4, sI i5, sI sb, sI po, sR a, sI (Int32.ofNat M), sI 1, sI (Int32.ofNat V), sR x, sR y, sI 0, sI 0, sU, sU, sU, sU]) (st' := [(.int 46), (.int c0)]) rfl rfl (pc' := 340) rfl ?_
  by_cases hc138 : c0 = (46 : Int32)
  rotate_left
  · refine oIcT W131 (cd := .ne) (o := 17) (by decide +kernel) (XT.ii_ne_t hc138) (pc' := 357) (by decide) (by decide) ?_
    refine oGo W131 [.iconst 0, .istore 16] (by decide +kernel) (ls' := #[sI i0, sI i1, sI i2, sI i3, sI i4, sI i5, sI sb, sI po, sR a, sI (Int32.ofNat M), sI 1, sI (Int32.ofNat V), sR x, sR y, sI 0, sI 0, sI 0, sU, sU, sU]) (st' := []) rfl rfl (pc' := 360) rfl ?_
    exact c_seg2 K H (oMono W131 (lb rfl) (lb rfl)) ((F126.ext (exW (exW (exW E127 Wr128 g127) Wr129 g127) Wr130 g127)).ext E131) (by rw [List.length_take]; omega)
  refine oIcF W131 (cd := .ne) (o := 17) (by decide +kernel) (XT.ii_ne_f hc138) (pc' := 343) rfl ?_
  refine oGo W131 [.aload 8, .bipush 6] (by decide +kernel) (ls' := #[sI i0, sI i1, sI i2, sI i3, sI i4, sI i5, sI sb, sI po, sR a, sI (Int32.ofNat M), sI 1, sI (Int32.ofNat V), sR x, sR y, sI 0, sI 0, sU, sU, sU, sU]) (st' := [(.int 6), (.ref a)]) rfl rfl (pc' := 347) rfl ?_
  refine oGet W131 (((A106.ext E126).ext (exW (exW (exW E127 Wr128 g127) Wr129 g127) Wr130 g127)).ext E131) (v := (.int c1)) (by decide) rfl (Or.inl ⟨rfl, rfl⟩) (by decide +kernel) ?_
  refine oGo W131 [.bipush 46] (by decide +kernel) (ls' := #[sI i0, sI i1, sI i2, sI i3, sI i4, sI i5, sI sb, sI po, sR a, sI (Int32.ofNat M), sI 1, sI (Int32.ofNat V), sR x, sR y, sI 0, sI 0, sU, sU, sU, sU]) (st' := [(.int 46), (.int c1)]) rfl rfl (pc' := 350) rfl ?_
  by_cases hc139 : c1 = (46 : Int32)
  rotate_left
  · refine oIcT W131 (cd := .ne) (o := 7) (by decide +kernel) (XT.ii_ne_t hc139) (pc' := 357) (by decide) (by decide) ?_
    refine oGo W131 [.iconst 0, .istore 16] (by decide +kernel) (ls' := #[sI i0, sI i1, sI i2, sI i3, sI i4, sI i5, sI sb, sI po, sR a, sI (Int32.ofNat M), sI 1, sI (Int32.ofNat V), sR x, sR y, sI 0, sI 0, sI 0, sU, sU, sU]) (st' := []) rfl rfl (pc' := 360) rfl ?_
    exact c_seg2 K H (oMono W131 (lb rfl) (lb rfl)) ((F126.ext (exW (exW (exW E127 Wr128 g127) Wr129 g127) Wr130 g127)).ext E131) (by rw [List.length_take]; omega)
  refine oIcF W131 (cd := .ne) (o := 7) (by decide +kernel) (XT.ii_ne_f hc139) (pc' := 353) rfl ?_
  refine oGo W131 [.iconst 1, .goto 4, .istore 16] (by decide +kernel) (ls' := #[sI i0, sI i1, sI i2, sI i3, sI i4, sI i5, sI sb, sI po, sR a, sI (Int32.ofNat M), sI 1, sI (Int32.ofNat V), sR x, sR y, sI 0, sI 0, sI 1, sU, sU, sU]) (st' := []) rfl rfl (pc' := 360) rfl ?_
  exact c_seg2 K H (oMono W131 (lb rfl) (lb rfl)) ((F126.ext (exW (exW (exW E127 Wr128 g127) Wr129 g127) Wr130 g127)).ext E131) (by rw [List.length_take]; omega)
set_option maxRecDepth 65536 in
set_option maxHeartbeats 40000000 in
theorem c_law {l : Launch} {Z : State} {a0 : Array Value} (K : Ctx Z a0) (i0 i1 i2 i3 i4 i5 : Int32) (r0 r1 va : Addr) (kv : ClassId) (p0 p1 : Addr) (H : Rs Z r0 r1 va kv p0 p1) (h0 : Heap) :
    OC l Z EL false tables_1 x code maxLocals ret room_1 #[(.int i0), (.int i1), (.int i2), (.int i3), (.int i4), (.int i5)] h0 [] (fun v _ h => v = some (.int 1)) := by
  have hw := K.1
  have hS : ∀ a ∈ Bundle.stringAtoms, a.before a0 Z = true := K.2.2.1
  obtain ⟨⟨Sr0, Sr1⟩, ⟨SV, AV, XV⟩, ⟨Fr0, Fr1⟩, ⟨Tr0, Tr1⟩⟩ := id H
  refine oEnter (by decide +kernel) K.2.1.2.1 ?_
  intro _p _e _s m _below _meth _c T0 W0 S0
  refine oEq (g' := mkF m 0 #[.val (.int i0), .val (.int i1), .val (.int i2), .val (.int i3), .val (.int i4), .val (.int i5), .unset, .unset, .unset, .unset, .unset, .unset, .unset, .unset, .unset, .unset, .unset, .unset, .unset, .unset] []) (by first | (simp [entryFrame, mkF, argsToLocals, Value.category, maxLocals]; done) | rfl) ?_
  refine oGo W0 [.iload_n 0, .iconst 1, .iand] (by decide +kernel) (ls' := #[sI i0, sI i1, sI i2, sI i3, sI i4, sI i5, sU, sU, sU, sU, sU, sU, sU, sU, sU, sU, sU, sU, sU, sU]) (st' := [(.int (i0 &&& (1 : Int32)))]) rfl rfl (pc' := 3) rfl ?_
  by_cases hc1 : (i0 &&& (1 : Int32)) = (0 : Int32)
  · refine oIfT W0 (cd := .eq) (o := 7) (by decide +kernel) (XT.i0_eq_t hc1) (pc' := 10) (by decide) (by decide) ?_
    refine oGo W0 [.iconst 0, .istore 6, .iload_n 0, .iconst 1, .iushr, .bipush 15, .iand, .istore 7, .bipush 8] (by decide +kernel) (ls' := #[sI i0, sI i1, sI i2, sI i3, sI i4, sI i5, sI 0, sI ((XT.ushr i0 (1 : Int32)) &&& (15 : Int32)), sU, sU, sU, sU, sU, sU, sU, sU, sU, sU, sU, sU]) (st' := [(.int 8)]) rfl rfl (pc' := 23) rfl ?_
    obtain ⟨T2, h2, a, k2, W2, g2, E2, A2, S2, C2, st2⟩ := oNewA W0 (aty := .char) (pc := 23) (ls := #[sI i0, sI i1, sI i2, sI i3, sI i4, sI i5, sI 0, sI ((XT.ushr i0 (1 : Int32)) &&& (15 : Int32)), sU, sU, sU, sU, sU, sU, sU, sU, sU, sU, sU, sU]) (st := []) (wK K 0 rfl) (by decide +kernel) (n := (8 : Int32)) (by decide) (cap := 8) (lb rfl) (lb rfl) (lb rfl) (lb rfl)
    refine oLift st2 ?_
    have A2 : OA Z h2 a k2 .char [.int 0, .int 0, .int 0, .int 0, .int 0, .int 0, .int 0, .int 0] := A2
    refine oGo W2 [.astore 8, .aload 8, .iconst 0, .bipush 47] (by decide +kernel) (ls' := #[sI i0, sI i1, sI i2, sI i3, sI i4, sI i5, sI 0, sI ((XT.ushr i0 (1 : Int32)) &&& (15 : Int32)), sR a, sU, sU, sU, sU, sU, sU, sU, sU, sU, sU, sU]) (st' := [(.int 47), (.int 0), (.ref a)]) rfl rfl (pc' := 32) rfl ?_
    obtain ⟨T3, h3, W3, Wr3, A3, C3, st3⟩ := oPut W2 A2 (j := (0 : Int32)) (x := (47 : Int32)) (x' := (47 : Int32)) (pc := 32) (ls := #[sI i0, sI i1, sI i2, sI i3, sI i4, sI i5, sI 0, sI ((XT.ushr i0 (1 : Int32)) &&& (15 : Int32)), sR a, sU, sU, sU, sU, sU, sU, sU, sU, sU, sU, sU]) (st := []) (by decide) (i := 0) (by decide) (by simp) (Nat.le_trans W0.ext.1 g2) (A2.safe W2.warm.alike (by decide)) (ins := .castore) (Or.inl ⟨rfl, rfl, rfl⟩) (by decide +kernel)
    refine oLift st3 ?_
    have A3 : OA Z h3 a k2 .char [.int 47, .int 0, .int 0, .int 0, .int 0, .int 0, .int 0, .int 0] := A3
    refine oGo W3 [.aload 8, .iconst 1, .iload 6] (by decide +kernel) (ls' := #[sI i0, sI i1, sI i2, sI i3, sI i4, sI i5, sI 0, sI ((XT.ushr i0 (1 : Int32)) &&& (15 : Int32)), sR a, sU, sU, sU, sU, sU, sU, sU, sU, sU, sU, sU]) (st' := [(.int 0), (.int 1), (.ref a)]) rfl rfl (pc' := 38) rfl ?_
    refine oIfT W3 (cd := .eq) (o := 8) (by decide +kernel) (XT.i0_eq_t (by decide)) (pc' := 46) (by decide) (by decide) ?_
    refine oGo W3 [.bipush 112] (by decide +kernel) (ls' := #[sI i0, sI i1, sI i2, sI i3, sI i4, sI i5, sI 0, sI ((XT.ushr i0 (1 : Int32)) &&& (15 : Int32)), sR a, sU, sU, sU, sU, sU, sU, sU, sU, sU, sU, sU]) (st' := [(.int 112), (.int 1), (.ref a)]) rfl rfl (pc' := 48) rfl ?_
    obtain ⟨T4, h4, W4, Wr4, A4, C4, st4⟩ := oPut W3 A3 (j := (1 : Int32)) (x := (112 : Int32)) (x' := (112 : Int32)) (pc := 48) (ls := #[sI i0, sI i1, sI i2, sI i3, sI i4, sI i5, sI 0, sI ((XT.ushr i0 (1 : Int32)) &&& (15 : Int32)), sR a, sU, sU, sU, sU, sU, sU, sU, sU, sU, sU, sU]) (st := []) (by decide) (i := 1) (by decide) (by simp) (Nat.le_trans W0.ext.1 g2) (A3.safe W3.warm.alike (by decide)) (ins := .castore) (Or.inl ⟨rfl, rfl, rfl⟩) (by decide +kernel)
    refine oLift st4 ?_
    have A4 : OA Z h4 a k2 .char [.int 47, .int 112, .int 0, .int 0, .int 0, .int 0, .int 0, .int 0] := A4
    refine oGo W4 [.aload 8, .iconst 2, .bipush 117] (by decide +kernel) (ls' := #[sI i0, sI i1, sI i2, sI i3, sI i4, sI i5, sI 0, sI ((XT.ushr i0 (1 : Int32)) &&& (15 : Int32)), sR a, sU, sU, sU, sU, sU, sU, sU, sU, sU, sU, sU]) (st' := [(.int 117), (.int 2), (.ref a)]) rfl rfl (pc' := 54) rfl ?_
    obtain ⟨T5, h5, W5, Wr5, A5, C5, st5⟩ := oPut W4 A4 (j := (2 : Int32)) (x := (117 : Int32)) (x' := (117 : Int32)) (pc := 54) (ls := #[sI i0, sI i1, sI i2, sI i3, sI i4, sI i5, sI 0, sI ((XT.ushr i0 (1 : Int32)) &&& (15 : Int32)), sR a, sU, sU, sU, sU, sU, sU, sU, sU, sU, sU, sU]) (st := []) (by decide) (i := 2) (by decide) (by simp) (Nat.le_trans W0.ext.1 g2) (A4.safe W4.warm.alike (by decide)) (ins := .castore) (Or.inl ⟨rfl, rfl, rfl⟩) (by decide +kernel)
    refine oLift st5 ?_
    have A5 : OA Z h5 a k2 .char [.int 47, .int 112, .int 117, .int 0, .int 0, .int 0, .int 0, .int 0] := A5
    refine oGo W5 [.aload 8, .iconst 3, .bipush 98] (by decide +kernel) (ls' := #[sI i0, sI i1, sI i2, sI i3, sI i4, sI i5, sI 0, sI ((XT.ushr i0 (1 : Int32)) &&& (15 : Int32)), sR a, sU, sU, sU, sU, sU, sU, sU, sU, sU, sU, sU]) (st' := [(.int 98), (.int 3), (.ref a)]) rfl rfl (pc' := 60) rfl ?_
    obtain ⟨T6, h6, W6, Wr6, A6, C6, st6⟩ := oPut W5 A5 (j := (3 : Int32)) (x := (98 : Int32)) (x' := (98 : Int32)) (pc := 60) (ls := #[sI i0, sI i1, sI i2, sI i3, sI i4, sI i5, sI 0, sI ((XT.ushr i0 (1 : Int32)) &&& (15 : Int32)), sR a, sU, sU, sU, sU, sU, sU, sU, sU, sU, sU, sU]) (st := []) (by decide) (i := 3) (by decide) (by simp) (Nat.le_trans W0.ext.1 g2) (A5.safe W5.warm.alike (by decide)) (ins := .castore) (Or.inl ⟨rfl, rfl, rfl⟩) (by decide +kernel)
    refine oLift st6 ?_
    have A6 : OA Z h6 a k2 .char [.int 47, .int 112, .int 117, .int 98, .int 0, .int 0, .int 0, .int 0] := A6
    refine oGo W6 [.aload 8, .iconst 4, .bipush 47] (by decide +kernel) (ls' := #[sI i0, sI i1, sI i2, sI i3, sI i4, sI i5, sI 0, sI ((XT.ushr i0 (1 : Int32)) &&& (15 : Int32)), sR a, sU, sU, sU, sU, sU, sU, sU, sU, sU, sU, sU]) (st' := [(.int 47), (.int 4), (.ref a)]) rfl rfl (pc' := 66) rfl ?_
    obtain ⟨T7, h7, W7, Wr7, A7, C7, st7⟩ := oPut W6 A6 (j := (4 : Int32)) (x := (47 : Int32)) (x' := (47 : Int32)) (pc := 66) (ls := #[sI i0, sI i1, sI i2, sI i3, sI i4, sI i5, sI 0, sI ((XT.ushr i0 (1 : Int32)) &&& (15 : Int32)), sR a, sU, sU, sU, sU, sU, sU, sU, sU, sU, sU, sU]) (st := []) (by decide) (i := 4) (by decide) (by simp) (Nat.le_trans W0.ext.1 g2) (A6.safe W6.warm.alike (by decide)) (ins := .castore) (Or.inl ⟨rfl, rfl, rfl⟩) (by decide +kernel)
    refine oLift st7 ?_
    have A7 : OA Z h7 a k2 .char [.int 47, .int 112, .int 117, .int 98, .int 47, .int 0, .int 0, .int 0] := A7
    refine oGo W7 [.iload 7, .iconst 5] (by decide +kernel) (ls' := #[sI i0, sI i1, sI i2, sI i3, sI i4, sI i5, sI 0, sI ((XT.ushr i0 (1 : Int32)) &&& (15 : Int32)), sR a, sU, sU, sU, sU, sU, sU, sU, sU, sU, sU, sU]) (st' := [(.int 5), (.int ((XT.ushr i0 (1 : Int32)) &&& (15 : Int32)))]) rfl rfl (pc' := 70) rfl ?_
    by_cases hc8 : ((XT.ushr i0 (1 : Int32)) &&& (15 : Int32)) < (5 : Int32)
    · refine oIcF W7 (cd := .ge) (o := 14) (by decide +kernel) (XT.ii_ge_f hc8) (pc' := 73) rfl ?_
      refine oGo W7 [.aload 8, .iload 7, .iload_n 1, .sipush 255, .iand, .i2c] (by decide +kernel) (ls' := #[sI i0, sI i1, sI i2, sI i3, sI i4, sI i5, sI 0, sI ((XT.ushr i0 (1 : Int32)) &&& (15 : Int32)), sR a, sU, sU, sU, sU, sU, sU, sU, sU, sU, sU, sU]) (st' := [(.int ((i1 &&& (255 : Int32)).toUInt32.toUInt16.toUInt32.toInt32)), (.int ((XT.ushr i0 (1 : Int32)) &&& (15 : Int32))), (.ref a)]) rfl rfl (pc' := 83) rfl ?_
      rcases pos5 i0 hc8 with hP | hP | hP | hP | hP
      · rw [hP]
        obtain ⟨T9, h9, W9, Wr9, A9, C9, st9⟩ := oPut W7 A7 (j := (0 : Int32)) (x := ((i1 &&& (255 : Int32)).toUInt32.toUInt16.toUInt32.toInt32)) (x' := (i1 &&& (255 : Int32))) (pc := 83) (ls := #[sI i0, sI i1, sI i2, sI i3, sI i4, sI i5, sI 0, sI 0, sR a, sU, sU, sU, sU, sU, sU, sU, sU, sU, sU, sU]) (st := []) (by decide) (i := 0) (by decide) (by simp) (Nat.le_trans W0.ext.1 g2) (A7.safe W7.warm.alike (by decide)) (ins := .castore) (Or.inl ⟨rfl, rfl, (by rw [i2c_255]; exact own_nar255 _)⟩) (by decide +kernel)
        refine oLift st9 ?_
        have A9 : OA Z h9 a k2 .char [.int (i1 &&& (255 : Int32)), .int 112, .int 117, .int 98, .int 47, .int 0, .int 0, .int 0] := A9
        exact c_seg1 K H W9 A9 (Nat.le_trans W0.ext.1 g2) (m255 _) (by decide) (by decide) (by decide) (by decide)
      · rw [hP]
        obtain ⟨T10, h10, W10, Wr10, A10, C10, st10⟩ := oPut W7 A7 (j := (1 : Int32)) (x := ((i1 &&& (255 : Int32)).toUInt32.toUInt16.toUInt32.toInt32)) (x' := (i1 &&& (255 : Int32))) (pc := 83) (ls := #[sI i0, sI i1, sI i2, sI i3, sI i4, sI i5, sI 0, sI 1, sR a, sU, sU, sU, sU, sU, sU, sU, sU, sU, sU, sU]) (st := []) (by decide) (i := 1) (by decide) (by simp) (Nat.le_trans W0.ext.1 g2) (A7.safe W7.warm.alike (by decide)) (ins := .castore) (Or.inl ⟨rfl, rfl, (by rw [i2c_255]; exact own_nar255 _)⟩) (by decide +kernel)
        refine oLift st10 ?_
        have A10 : OA Z h10 a k2 .char [.int 47, .int (i1 &&& (255 : Int32)), .int 117, .int 98, .int 47, .int 0, .int 0, .int 0] := A10
        exact c_seg1 K H W10 A10 (Nat.le_trans W0.ext.1 g2) (by decide) (m255 _) (by decide) (by decide) (by decide)
      · rw [hP]
        obtain ⟨T11, h11, W11, Wr11, A11, C11, st11⟩ := oPut W7 A7 (j := (2 : Int32)) (x := ((i1 &&& (255 : Int32)).toUInt32.toUInt16.toUInt32.toInt32)) (x' := (i1 &&& (255 : Int32))) (pc := 83) (ls := #[sI i0, sI i1, sI i2, sI i3, sI i4, sI i5, sI 0, sI 2, sR a, sU, sU, sU, sU, sU, sU, sU, sU, sU, sU, sU]) (st := []) (by decide) (i := 2) (by decide) (by simp) (Nat.le_trans W0.ext.1 g2) (A7.safe W7.warm.alike (by decide)) (ins := .castore) (Or.inl ⟨rfl, rfl, (by rw [i2c_255]; exact own_nar255 _)⟩) (by decide +kernel)
        refine oLift st11 ?_
        have A11 : OA Z h11 a k2 .char [.int 47, .int 112, .int (i1 &&& (255 : Int32)), .int 98, .int 47, .int 0, .int 0, .int 0] := A11
        exact c_seg1 K H W11 A11 (Nat.le_trans W0.ext.1 g2) (by decide) (by decide) (m255 _) (by decide) (by decide)
      · rw [hP]
        obtain ⟨T12, h12, W12, Wr12, A12, C12, st12⟩ := oPut W7 A7 (j := (3 : Int32)) (x := ((i1 &&& (255 : Int32)).toUInt32.toUInt16.toUInt32.toInt32)) (x' := (i1 &&& (255 : Int32))) (pc := 83) (ls := #[sI i0, sI i1, sI i2, sI i3, sI i4, sI i5, sI 0, sI 3, sR a, sU, sU, sU, sU, sU, sU, sU, sU, sU, sU, sU]) (st := []) (by decide) (i := 3) (by decide) (by simp) (Nat.le_trans W0.ext.1 g2) (A7.safe W7.warm.alike (by decide)) (ins := .castore) (Or.inl ⟨rfl, rfl, (by rw [i2c_255]; exact own_nar255 _)⟩) (by decide +kernel)
        refine oLift st12 ?_
        have A12 : OA Z h12 a k2 .char [.int 47, .int 112, .int 117, .int (i1 &&& (255 : Int32)), .int 47, .int 0, .int 0, .int 0] := A12
        exact c_seg1 K H W12 A12 (Nat.le_trans W0.ext.1 g2) (by decide) (by decide) (by decide) (m255 _) (by decide)
      · rw [hP]
        obtain ⟨T13, h13, W13, Wr13, A13, C13, st13⟩ := oPut W7 A7 (j := (4 : Int32)) (x := ((i1 &&& (255 : Int32)).toUInt32.toUInt16.toUInt32.toInt32)) (x' := (i1 &&& (255 : Int32))) (pc := 83) (ls := #[sI i0, sI i1, sI i2, sI i3, sI i4, sI i5, sI 0, sI 4, sR a, sU, sU, sU, sU, sU, sU, sU, sU, sU, sU, sU]) (st := []) (by decide) (i := 4) (by decide) (by simp) (Nat.le_trans W0.ext.1 g2) (A7.safe W7.warm.alike (by decide)) (ins := .castore) (Or.inl ⟨rfl, rfl, (by rw [i2c_255]; exact own_nar255 _)⟩) (by decide +kernel)
        refine oLift st13 ?_
        have A13 : OA Z h13 a k2 .char [.int 47, .int 112, .int 117, .int 98, .int (i1 &&& (255 : Int32)), .int 0, .int 0, .int 0] := A13
        exact c_seg1 K H W13 A13 (Nat.le_trans W0.ext.1 g2) (by decide) (by decide) (by decide) (by decide) (m255 _)
    refine oIcT W7 (cd := .ge) (o := 14) (by decide +kernel) (XT.ii_ge_t hc8) (pc' := 84) (by decide) (by decide) ?_
    exact c_seg1 K H W7 A7 (Nat.le_trans W0.ext.1 g2) (by decide) (by decide) (by decide) (by decide) (by decide)
  · refine oIfF W0 (cd := .eq) (o := 7) (by decide +kernel) (XT.i0_eq_f hc1) (pc' := 6) rfl ?_
    refine oGo W0 [.iconst 1, .goto 4, .istore 6, .iload_n 0, .iconst 1, .iushr, .bipush 15, .iand, .istore 7, .bipush 8] (by decide +kernel) (ls' := #[sI i0, sI i1, sI i2, sI i3, sI i4, sI i5, sI 1, sI ((XT.ushr i0 (1 : Int32)) &&& (15 : Int32)), sU, sU, sU, sU, sU, sU, sU, sU, sU, sU, sU, sU]) (st' := [(.int 8)]) rfl rfl (pc' := 23) rfl ?_
    obtain ⟨T14, h14, a, k14, W14, g14, E14, A14, S14, C14, st14⟩ := oNewA W0 (aty := .char) (pc := 23) (ls := #[sI i0, sI i1, sI i2, sI i3, sI i4, sI i5, sI 1, sI ((XT.ushr i0 (1 : Int32)) &&& (15 : Int32)), sU, sU, sU, sU, sU, sU, sU, sU, sU, sU, sU, sU]) (st := []) (wK K 0 rfl) (by decide +kernel) (n := (8 : Int32)) (by decide) (cap := 8) (lb rfl) (lb rfl) (lb rfl) (lb rfl)
    refine oLift st14 ?_
    have A14 : OA Z h14 a k14 .char [.int 0, .int 0, .int 0, .int 0, .int 0, .int 0, .int 0, .int 0] := A14
    refine oGo W14 [.astore 8, .aload 8, .iconst 0, .bipush 47] (by decide +kernel) (ls' := #[sI i0, sI i1, sI i2, sI i3, sI i4, sI i5, sI 1, sI ((XT.ushr i0 (1 : Int32)) &&& (15 : Int32)), sR a, sU, sU, sU, sU, sU, sU, sU, sU, sU, sU, sU]) (st' := [(.int 47), (.int 0), (.ref a)]) rfl rfl (pc' := 32) rfl ?_
    obtain ⟨T15, h15, W15, Wr15, A15, C15, st15⟩ := oPut W14 A14 (j := (0 : Int32)) (x := (47 : Int32)) (x' := (47 : Int32)) (pc := 32) (ls := #[sI i0, sI i1, sI i2, sI i3, sI i4, sI i5, sI 1, sI ((XT.ushr i0 (1 : Int32)) &&& (15 : Int32)), sR a, sU, sU, sU, sU, sU, sU, sU, sU, sU, sU, sU]) (st := []) (by decide) (i := 0) (by decide) (by simp) (Nat.le_trans W0.ext.1 g14) (A14.safe W14.warm.alike (by decide)) (ins := .castore) (Or.inl ⟨rfl, rfl, rfl⟩) (by decide +kernel)
    refine oLift st15 ?_
    have A15 : OA Z h15 a k14 .char [.int 47, .int 0, .int 0, .int 0, .int 0, .int 0, .int 0, .int 0] := A15
    refine oGo W15 [.aload 8, .iconst 1, .iload 6] (by decide +kernel) (ls' := #[sI i0, sI i1, sI i2, sI i3, sI i4, sI i5, sI 1, sI ((XT.ushr i0 (1 : Int32)) &&& (15 : Int32)), sR a, sU, sU, sU, sU, sU, sU, sU, sU, sU, sU, sU]) (st' := [(.int 1), (.int 1), (.ref a)]) rfl rfl (pc' := 38) rfl ?_
    refine oIfF W15 (cd := .eq) (o := 8) (by decide +kernel) (XT.i0_eq_f (by decide)) (pc' := 41) rfl ?_
    refine oGo W15 [.bipush 115, .goto 5] (by decide +kernel) (ls' := #[sI i0, sI i1, sI i2, sI i3, sI i4, sI i5, sI 1, sI ((XT.ushr i0 (1 : Int32)) &&& (15 : Int32)), sR a, sU, sU, sU, sU, sU, sU, sU, sU, sU, sU, sU]) (st' := [(.int 115), (.int 1), (.ref a)]) rfl rfl (pc' := 48) rfl ?_
    obtain ⟨T16, h16, W16, Wr16, A16, C16, st16⟩ := oPut W15 A15 (j := (1 : Int32)) (x := (115 : Int32)) (x' := (115 : Int32)) (pc := 48) (ls := #[sI i0, sI i1, sI i2, sI i3, sI i4, sI i5, sI 1, sI ((XT.ushr i0 (1 : Int32)) &&& (15 : Int32)), sR a, sU, sU, sU, sU, sU, sU, sU, sU, sU, sU, sU]) (st := []) (by decide) (i := 1) (by decide) (by simp) (Nat.le_trans W0.ext.1 g14) (A15.safe W15.warm.alike (by decide)) (ins := .castore) (Or.inl ⟨rfl, rfl, rfl⟩) (by decide +kernel)
    refine oLift st16 ?_
    have A16 : OA Z h16 a k14 .char [.int 47, .int 115, .int 0, .int 0, .int 0, .int 0, .int 0, .int 0] := A16
    refine oGo W16 [.aload 8, .iconst 2, .bipush 117] (by decide +kernel) (ls' := #[sI i0, sI i1, sI i2, sI i3, sI i4, sI i5, sI 1, sI ((XT.ushr i0 (1 : Int32)) &&& (15 : Int32)), sR a, sU, sU, sU, sU, sU, sU, sU, sU, sU, sU, sU]) (st' := [(.int 117), (.int 2), (.ref a)]) rfl rfl (pc' := 54) rfl ?_
    obtain ⟨T17, h17, W17, Wr17, A17, C17, st17⟩ := oPut W16 A16 (j := (2 : Int32)) (x := (117 : Int32)) (x' := (117 : Int32)) (pc := 54) (ls := #[sI i0, sI i1, sI i2, sI i3, sI i4, sI i5, sI 1, sI ((XT.ushr i0 (1 : Int32)) &&& (15 : Int32)), sR a, sU, sU, sU, sU, sU, sU, sU, sU, sU, sU, sU]) (st := []) (by decide) (i := 2) (by decide) (by simp) (Nat.le_trans W0.ext.1 g14) (A16.safe W16.warm.alike (by decide)) (ins := .castore) (Or.inl ⟨rfl, rfl, rfl⟩) (by decide +kernel)
    refine oLift st17 ?_
    have A17 : OA Z h17 a k14 .char [.int 47, .int 115, .int 117, .int 0, .int 0, .int 0, .int 0, .int 0] := A17
    refine oGo W17 [.aload 8, .iconst 3, .bipush 98] (by decide +kernel) (ls' := #[sI i0, sI i1, sI i2, sI i3, sI i4, sI i5, sI 1, sI ((XT.ushr i0 (1 : Int32)) &&& (15 : Int32)), sR a, sU, sU, sU, sU, sU, sU, sU, sU, sU, sU, sU]) (st' := [(.int 98), (.int 3), (.ref a)]) rfl rfl (pc' := 60) rfl ?_
    obtain ⟨T18, h18, W18, Wr18, A18, C18, st18⟩ := oPut W17 A17 (j := (3 : Int32)) (x := (98 : Int32)) (x' := (98 : Int32)) (pc := 60) (ls := #[sI i0, sI i1, sI i2, sI i3, sI i4, sI i5, sI 1, sI ((XT.ushr i0 (1 : Int32)) &&& (15 : Int32)), sR a, sU, sU, sU, sU, sU, sU, sU, sU, sU, sU, sU]) (st := []) (by decide) (i := 3) (by decide) (by simp) (Nat.le_trans W0.ext.1 g14) (A17.safe W17.warm.alike (by decide)) (ins := .castore) (Or.inl ⟨rfl, rfl, rfl⟩) (by decide +kernel)
    refine oLift st18 ?_
    have A18 : OA Z h18 a k14 .char [.int 47, .int 115, .int 117, .int 98, .int 0, .int 0, .int 0, .int 0] := A18
    refine oGo W18 [.aload 8, .iconst 4, .bipush 47] (by decide +kernel) (ls' := #[sI i0, sI i1, sI i2, sI i3, sI i4, sI i5, sI 1, sI ((XT.ushr i0 (1 : Int32)) &&& (15 : Int32)), sR a, sU, sU, sU, sU, sU, sU, sU, sU, sU, sU, sU]) (st' := [(.int 47), (.int 4), (.ref a)]) rfl rfl (pc' := 66) rfl ?_
    obtain ⟨T19, h19, W19, Wr19, A19, C19, st19⟩ := oPut W18 A18 (j := (4 : Int32)) (x := (47 : Int32)) (x' := (47 : Int32)) (pc := 66) (ls := #[sI i0, sI i1, sI i2, sI i3, sI i4, sI i5, sI 1, sI ((XT.ushr i0 (1 : Int32)) &&& (15 : Int32)), sR a, sU, sU, sU, sU, sU, sU, sU, sU, sU, sU, sU]) (st := []) (by decide) (i := 4) (by decide) (by simp) (Nat.le_trans W0.ext.1 g14) (A18.safe W18.warm.alike (by decide)) (ins := .castore) (Or.inl ⟨rfl, rfl, rfl⟩) (by decide +kernel)
    refine oLift st19 ?_
    have A19 : OA Z h19 a k14 .char [.int 47, .int 115, .int 117, .int 98, .int 47, .int 0, .int 0, .int 0] := A19
    refine oGo W19 [.iload 7, .iconst 5] (by decide +kernel) (ls' := #[sI i0, sI i1, sI i2, sI i3, sI i4, sI i5, sI 1, sI ((XT.ushr i0 (1 : Int32)) &&& (15 : Int32)), sR a, sU, sU, sU, sU, sU, sU, sU, sU, sU, sU, sU]) (st' := [(.int 5), (.int ((XT.ushr i0 (1 : Int32)) &&& (15 : Int32)))]) rfl rfl (pc' := 70) rfl ?_
    by_cases hc20 : ((XT.ushr i0 (1 : Int32)) &&& (15 : Int32)) < (5 : Int32)
    · refine oIcF W19 (cd := .ge) (o := 14) (by decide +kernel) (XT.ii_ge_f hc20) (pc' := 73) rfl ?_
      refine oGo W19 [.aload 8, .iload 7, .iload_n 1, .sipush 255, .iand, .i2c] (by decide +kernel) (ls' := #[sI i0, sI i1, sI i2, sI i3, sI i4, sI i5, sI 1, sI ((XT.ushr i0 (1 : Int32)) &&& (15 : Int32)), sR a, sU, sU, sU, sU, sU, sU, sU, sU, sU, sU, sU]) (st' := [(.int ((i1 &&& (255 : Int32)).toUInt32.toUInt16.toUInt32.toInt32)), (.int ((XT.ushr i0 (1 : Int32)) &&& (15 : Int32))), (.ref a)]) rfl rfl (pc' := 83) rfl ?_
      rcases pos5 i0 hc20 with hP | hP | hP | hP | hP
      · rw [hP]
        obtain ⟨T21, h21, W21, Wr21, A21, C21, st21⟩ := oPut W19 A19 (j := (0 : Int32)) (x := ((i1 &&& (255 : Int32)).toUInt32.toUInt16.toUInt32.toInt32)) (x' := (i1 &&& (255 : Int32))) (pc := 83) (ls := #[sI i0, sI i1, sI i2, sI i3, sI i4, sI i5, sI 1, sI 0, sR a, sU, sU, sU, sU, sU, sU, sU, sU, sU, sU, sU]) (st := []) (by decide) (i := 0) (by decide) (by simp) (Nat.le_trans W0.ext.1 g14) (A19.safe W19.warm.alike (by decide)) (ins := .castore) (Or.inl ⟨rfl, rfl, (by rw [i2c_255]; exact own_nar255 _)⟩) (by decide +kernel)
        refine oLift st21 ?_
        have A21 : OA Z h21 a k14 .char [.int (i1 &&& (255 : Int32)), .int 115, .int 117, .int 98, .int 47, .int 0, .int 0, .int 0] := A21
        exact c_seg1 K H W21 A21 (Nat.le_trans W0.ext.1 g14) (m255 _) (by decide) (by decide) (by decide) (by decide)
      · rw [hP]
        obtain ⟨T22, h22, W22, Wr22, A22, C22, st22⟩ := oPut W19 A19 (j := (1 : Int32)) (x := ((i1 &&& (255 : Int32)).toUInt32.toUInt16.toUInt32.toInt32)) (x' := (i1 &&& (255 : Int32))) (pc := 83) (ls := #[sI i0, sI i1, sI i2, sI i3, sI i4, sI i5, sI 1, sI 1, sR a, sU, sU, sU, sU, sU, sU, sU, sU, sU, sU, sU]) (st := []) (by decide) (i := 1) (by decide) (by simp) (Nat.le_trans W0.ext.1 g14) (A19.safe W19.warm.alike (by decide)) (ins := .castore) (Or.inl ⟨rfl, rfl, (by rw [i2c_255]; exact own_nar255 _)⟩) (by decide +kernel)
        refine oLift st22 ?_
        have A22 : OA Z h22 a k14 .char [.int 47, .int (i1 &&& (255 : Int32)), .int 117, .int 98, .int 47, .int 0, .int 0, .int 0] := A22
        exact c_seg1 K H W22 A22 (Nat.le_trans W0.ext.1 g14) (by decide) (m255 _) (by decide) (by decide) (by decide)
      · rw [hP]
        obtain ⟨T23, h23, W23, Wr23, A23, C23, st23⟩ := oPut W19 A19 (j := (2 : Int32)) (x := ((i1 &&& (255 : Int32)).toUInt32.toUInt16.toUInt32.toInt32)) (x' := (i1 &&& (255 : Int32))) (pc := 83) (ls := #[sI i0, sI i1, sI i2, sI i3, sI i4, sI i5, sI 1, sI 2, sR a, sU, sU, sU, sU, sU, sU, sU, sU, sU, sU, sU]) (st := []) (by decide) (i := 2) (by decide) (by simp) (Nat.le_trans W0.ext.1 g14) (A19.safe W19.warm.alike (by decide)) (ins := .castore) (Or.inl ⟨rfl, rfl, (by rw [i2c_255]; exact own_nar255 _)⟩) (by decide +kernel)
        refine oLift st23 ?_
        have A23 : OA Z h23 a k14 .char [.int 47, .int 115, .int (i1 &&& (255 : Int32)), .int 98, .int 47, .int 0, .int 0, .int 0] := A23
        exact c_seg1 K H W23 A23 (Nat.le_trans W0.ext.1 g14) (by decide) (by decide) (m255 _) (by decide) (by decide)
      · rw [hP]
        obtain ⟨T24, h24, W24, Wr24, A24, C24, st24⟩ := oPut W19 A19 (j := (3 : Int32)) (x := ((i1 &&& (255 : Int32)).toUInt32.toUInt16.toUInt32.toInt32)) (x' := (i1 &&& (255 : Int32))) (pc := 83) (ls := #[sI i0, sI i1, sI i2, sI i3, sI i4, sI i5, sI 1, sI 3, sR a, sU, sU, sU, sU, sU, sU, sU, sU, sU, sU, sU]) (st := []) (by decide) (i := 3) (by decide) (by simp) (Nat.le_trans W0.ext.1 g14) (A19.safe W19.warm.alike (by decide)) (ins := .castore) (Or.inl ⟨rfl, rfl, (by rw [i2c_255]; exact own_nar255 _)⟩) (by decide +kernel)
        refine oLift st24 ?_
        have A24 : OA Z h24 a k14 .char [.int 47, .int 115, .int 117, .int (i1 &&& (255 : Int32)), .int 47, .int 0, .int 0, .int 0] := A24
        exact c_seg1 K H W24 A24 (Nat.le_trans W0.ext.1 g14) (by decide) (by decide) (by decide) (m255 _) (by decide)
      · rw [hP]
        obtain ⟨T25, h25, W25, Wr25, A25, C25, st25⟩ := oPut W19 A19 (j := (4 : Int32)) (x := ((i1 &&& (255 : Int32)).toUInt32.toUInt16.toUInt32.toInt32)) (x' := (i1 &&& (255 : Int32))) (pc := 83) (ls := #[sI i0, sI i1, sI i2, sI i3, sI i4, sI i5, sI 1, sI 4, sR a, sU, sU, sU, sU, sU, sU, sU, sU, sU, sU, sU]) (st := []) (by decide) (i := 4) (by decide) (by simp) (Nat.le_trans W0.ext.1 g14) (A19.safe W19.warm.alike (by decide)) (ins := .castore) (Or.inl ⟨rfl, rfl, (by rw [i2c_255]; exact own_nar255 _)⟩) (by decide +kernel)
        refine oLift st25 ?_
        have A25 : OA Z h25 a k14 .char [.int 47, .int 115, .int 117, .int 98, .int (i1 &&& (255 : Int32)), .int 0, .int 0, .int 0] := A25
        exact c_seg1 K H W25 A25 (Nat.le_trans W0.ext.1 g14) (by decide) (by decide) (by decide) (by decide) (m255 _)
    refine oIcT W19 (cd := .ge) (o := 14) (by decide +kernel) (XT.ii_ge_t hc20) (pc' := 84) (by decide) (by decide) ?_
    exact c_seg1 K H W19 A19 (Nat.le_trans W0.ext.1 g14) (by decide) (by decide) (by decide) (by decide) (by decide)
set_option maxRecDepth 65536 in
set_option maxHeartbeats 40000000 in
theorem comes_1 {Post : Tables → Env → Array Value → State → Outcome → State → Prop} (hpost : ∀ tb e args s v u, (limb_1_1.after args s (.returned v) u = true ∧ limb_1_2.after args s (.returned v) u = true ∧ True) → ReturnedEndW s (.returned v) u (Jvm.fieldLocs frame_1_writes args s ++ Jvm.arrayLocs frame_1_arrays args s ++ Jvm.staticLocs frame_1_statics s) 56 6400 → Post tb e args s (.returned v) u) :
    ArmFor flags0 classFile x code maxLocals ret World_1 tables_1 room_1 Calls_1 rest_1 Pre_1 Post := by
  intro l hfl _ _ p e ha hc hk s m args below hf hA hF happ hP
  obtain ⟨hcalls, hrest, hpre⟩ := hP
  obtain ⟨-, -, -, hnamed, -, -, -, hat⟩ := (Spec.applies_iff hf).mp happ
  obtain ⟨hg, hn⟩ := and_e (Cond.before_iff.mp (show (Jvm.Cond.and given_1 narrow_1).before args s = true from hpre))
  obtain ⟨hcnt, t0⟩ := and_e hg
  obtain ⟨g0, t1⟩ := and_e t0
  obtain ⟨g1, t2⟩ := and_e t1
  obtain ⟨g2, t3⟩ := and_e t2
  obtain ⟨g3, t4⟩ := and_e t3
  obtain ⟨g4, t5⟩ := and_e t4
  obtain ⟨w0, w1, w2, w3, w4, w5, rfl⟩ : ∃ w0 w1 w2 w3 w4 w5 : Value, args = #[w0, w1, w2, w3, w4, w5] := by
    have hs : args.size = 6 := by simpa [Cond.value, given_1] using hcnt
    obtain ⟨L⟩ := args
    match L, hs with
    | [w0, w1, w2, w3, w4, w5], _ => exact ⟨w0, w1, w2, w3, w4, w5, rfl⟩
  have hw := fun d (hd : d ∈ tables_1) => atoms_spec (ws := Jvm.Cond.code x code maxLocals ret :: tables_1) hat d (List.mem_cons_of_mem _ hd)
  obtain ⟨hsets, hown0⟩ := atoms_of _ (rest_1_c_eq ▸ (show rest_1_c.before _ s = true from hrest))
  obtain ⟨i0, e0⟩ := is_v g0
  obtain rfl : w0 = (.int i0) := Option.some.inj e0
  obtain ⟨i1, e1⟩ := is_v g1
  obtain rfl : w1 = (.int i1) := Option.some.inj e1
  obtain ⟨i2, e2⟩ := is_v g2
  obtain rfl : w2 = (.int i2) := Option.some.inj e2
  obtain ⟨i3, e3⟩ := is_v g3
  obtain rfl : w3 = (.int i3) := Option.some.inj e3
  obtain ⟨i4, e4⟩ := is_v g4
  obtain rfl : w4 = (.int i4) := Option.some.inj e4
  obtain ⟨i5, e5⟩ := is_v t5
  obtain rfl : w5 = (.int i5) := Option.some.inj e5
  have n5 := not_v (Cond.before_iff.mp (hsets _ (List.mem_of_getElem? (i := 2) rfl)))
  obtain ⟨z, ez⟩ := is_v (Cond.before_iff.mp (hsets _ (List.mem_of_getElem? (i := 1) rfl)))
  have Sz : Sta s s.heap "java/lang/String" "COMPACT_STRINGS" "Z" (.int z) := Sta.start ez (Or.inl (hsets _ (List.mem_of_getElem? (i := 0) rfl)))
  have cz : ¬ (z = (0 : Int32)) := gotF (Cond.eq_ints ez (Term.int_eval (0))) n5
  obtain ⟨c0, u1⟩ := and_e hn
  obtain ⟨c1, u2⟩ := and_e u1
  obtain ⟨c2, u3⟩ := and_e u2
  obtain ⟨c3, u4⟩ := and_e u3
  obtain ⟨c4, u5⟩ := and_e u4
  obtain ⟨c5, u6⟩ := and_e u5
  obtain ⟨c6, u7⟩ := and_e u6
  obtain ⟨c7, u8⟩ := and_e u7
  obtain ⟨c8, u9⟩ := and_e u8
  obtain ⟨c9, u10⟩ := and_e u9
  obtain ⟨c10, u11⟩ := and_e u10
  obtain ⟨c11, u12⟩ := and_e u11
  obtain ⟨c12, u13⟩ := and_e u12
  obtain ⟨c13, u14⟩ := and_e u13
  obtain ⟨c14, u15⟩ := and_e u14
  obtain ⟨c15, u16⟩ := and_e u15
  obtain ⟨c16, u17⟩ := and_e u16
  obtain ⟨c17, u18⟩ := and_e u17
  obtain ⟨c18, u19⟩ := and_e u18
  obtain ⟨c19, u20⟩ := and_e u19
  obtain ⟨c20, u21⟩ := and_e u20
  obtain ⟨c21, u22⟩ := and_e u21
  obtain ⟨c22, u23⟩ := and_e u22
  obtain ⟨c23, u24⟩ := and_e u23
  obtain ⟨c24, u25⟩ := and_e u24
  obtain ⟨c25, u26⟩ := and_e u25
  have c26 := u26
  have hfit : Fit s := fun {y c} hc i hi => by
    obtain ⟨ha, rfl⟩ := Array.getElem?_eq_some_iff.mp hc
    have q := List.all_eq_true.mp ((Array.all_eq_true_iff_forall_mem.mp hF) _ (Array.getElem_mem ha)) i (List.mem_range.mpr hi)
    simpa [Array.getElem?_eq_getElem hi] using q
  obtain ⟨k0, ek0⟩ := exa_v c5
  have Sk0 : Sta s s.heap "com/example/gentle_hub/gentlehub/server/ChannelLocation$Role" "SUBSCRIBER" "Lcom/example/gentle_hub/gentlehub/server/ChannelLocation$Role;" (.ref k0) := Sta.start ek0 (Or.inr ⟨(hw _ (List.mem_of_getElem? (i := 44) rfl)), (hw _ (List.mem_of_getElem? (i := 56) rfl))⟩)
  obtain ⟨l0, el0⟩ := exa_v c12
  have Fl0 : Fld s s.heap k0 "com/example/gentle_hub/gentlehub/server/ChannelLocation$Role" "pathPrefix" "Ljava/lang/String;" (.ref l0) := Fld.start (by rw [← fld_at ek0]; exact el0)
  have Tl0 : Str s s.heap l0 [47, 115, 117, 98, 47] := strStart hfit el0 c12 c16 c13 (n := 5) (by decide) c15 rfl (by decide) (fun va c hv hc => ⟨(elem_in (eqv c22 rfl (Or.inr ⟨_, rfl⟩)) hv rfl hc).2, (elem_in (eqv c23 rfl (Or.inr ⟨_, rfl⟩)) hv rfl hc).2, (elem_in (eqv c24 rfl (Or.inr ⟨_, rfl⟩)) hv rfl hc).2, (elem_in (eqv c25 rfl (Or.inr ⟨_, rfl⟩)) hv rfl hc).2, (elem_in (eqv c26 rfl (Or.inr ⟨_, rfl⟩)) hv rfl hc).2, trivial⟩)
  obtain ⟨k1, ek1⟩ := exa_v c3
  have Sk1 : Sta s s.heap "com/example/gentle_hub/gentlehub/server/ChannelLocation$Role" "PUBLISHER" "Lcom/example/gentle_hub/gentlehub/server/ChannelLocation$Role;" (.ref k1) := Sta.start ek1 (Or.inr ⟨(hw _ (List.mem_of_getElem? (i := 44) rfl)), (hw _ (List.mem_of_getElem? (i := 55) rfl))⟩)
  obtain ⟨l1, el1⟩ := exa_v c7
  have Fl1 : Fld s s.heap k1 "com/example/gentle_hub/gentlehub/server/ChannelLocation$Role" "pathPrefix" "Ljava/lang/String;" (.ref l1) := Fld.start (by rw [← fld_at ek1]; exact el1)
  have Tl1 : Str s s.heap l1 [47, 112, 117, 98, 47] := strStart hfit el1 c7 c11 c8 (n := 5) (by decide) c10 rfl (by decide) (fun va c hv hc => ⟨(elem_in (eqv c17 rfl (Or.inr ⟨_, rfl⟩)) hv rfl hc).2, (elem_in (eqv c18 rfl (Or.inr ⟨_, rfl⟩)) hv rfl hc).2, (elem_in (eqv c19 rfl (Or.inr ⟨_, rfl⟩)) hv rfl hc).2, (elem_in (eqv c20 rfl (Or.inr ⟨_, rfl⟩)) hv rfl hc).2, (elem_in (eqv c21 rfl (Or.inr ⟨_, rfl⟩)) hv rfl hc).2, trivial⟩)
  obtain ⟨va, eva⟩ := exa_v c1
  have SVa : Sta s s.heap "com/example/gentle_hub/gentlehub/server/ChannelLocation$Role" "$VALUES" "[Lcom/example/gentle_hub/gentlehub/server/ChannelLocation$Role;" (.ref va) := Sta.start eva (Or.inr ⟨(hw _ (List.mem_of_getElem? (i := 44) rfl)), (hw _ (List.mem_of_getElem? (i := 47) rfl))⟩)
  obtain ⟨kv, AVa⟩ := arrStart hfit eva c0 (n := 2) (by decide) c2 (vs := [.ref k1, .ref k0]) rfl (fun c hc => ⟨(elem_in (eqv c4 ek1 (Or.inl rfl)) eva rfl hc).2, (elem_in (eqv c6 ek0 (Or.inl rfl)) eva rfl hc).2, trivial⟩)
  have hRs : Rs s k0 k1 va kv l0 l1 := ⟨⟨Sk0, Sk1⟩, ⟨SVa, AVa, Exa.start eva c1⟩, ⟨Fl0, Fl1⟩, ⟨Tl0, Tl1⟩⟩
  obtain ⟨fs, efs, rfs⟩ := own_isref (Cond.before_iff.mp (hsets _ (List.mem_of_getElem? (i := 8) rfl)))
  have hSx : Sx s := ⟨fs, Sta.start efs (Or.inl (hsets _ (List.mem_of_getElem? (i := 7) rfl))), rfs⟩
  obtain ⟨eo, eeo⟩ := exa_v (Cond.before_iff.mp (hsets _ (List.mem_of_getElem? (i := 11) rfl)))
  have hOp : Op s eo := ⟨Sta.start eeo (Or.inl (hsets _ (List.mem_of_getElem? (i := 10) rfl))), Exa.start eeo (Cond.before_iff.mp (hsets _ (List.mem_of_getElem? (i := 11) rfl))), Fld.start (by rw [← fld_at eeo]; exact eqv (Cond.before_iff.mp (hsets _ (List.mem_of_getElem? (i := 12) rfl))) rfl (Or.inl rfl))⟩
  have hEW : EW s #[.int i0, .int i1, .int i2, .int i3, .int i4, .int i5] EL := (EW.cons (hw _ (List.mem_of_getElem? (i := 194) rfl)) (by decide) (EW.cons (hw _ (List.mem_of_getElem? (i := 204) rfl)) (by decide) (EW.cons (hw _ (List.mem_of_getElem? (i := 344) rfl)) (by decide) (EW.cons (hw _ (List.mem_of_getElem? (i := 98) rfl)) (by decide) (EW.cons (hw _ (List.mem_of_getElem? (i := 342) rfl)) (by decide) EW.nil)))))
  have hCH : CHv s EL s.vm s.heap := CHv.start hEW (fun p hp => hcalls.1 p (EL_in p hp)) (hsets _ (List.mem_of_getElem? (i := 2) rfl)) (hw _ (List.mem_of_getElem? (i := 27) rfl)) (hw _ (List.mem_of_getElem? (i := 10) rfl))
  have K : Ctx s #[.int i0, .int i1, .int i2, .int i3, .int i4, .int i5] := ⟨hw, ⟨fun d hd => hw d (sW_in d hd), hEW, z, Sz, cz⟩, fun d hd => hw d (sA_in d hd), hSx, (fun d hd => hw d (eW_in d hd)), eo, hOp⟩
  obtain ⟨n, o, q1, q2, q3, v, L, rfl, ⟨rfl, N, -⟩, hnb, -, r1, r2, r3, r4⟩ := c_law (l := l) K i0 i1 i2 i3 i4 i5 k0 k1 va kv l0 l1 hRs s.heap p e ha hc hk s m _ below hf ((Spec.applies_iff_loose hf).mp happ).1 ⟨rfl, State.Warmed39.refl s, rfl, hCH, exR _, fun _ hp => nomatch hp⟩ trivial
  exact ⟨n, _, q1, q2, q3, hpost _ _ _ _ _ _ ⟨Cond.after_iff.mpr rfl, Cond.after_iff.mpr (eq_i res_at (Term.int_eval (1)) rfl), trivial⟩ ⟨r1, r2, r3, (r4.sift fun y hy => Or.inr (N y hy)).mono (by decide) (by decide)⟩⟩
theorem main_1_1 : Claimed_1_1 := comes_1 fun _ _ _ _ _ _ h hF => ⟨h.1, hF⟩
theorem main_1_2 : Claimed_1_2 := comes_1 fun _ _ _ _ _ _ h hF => ⟨h.2.1, hF⟩
end Jvm.Pilot.@@N@@
namespace Jvm.Pilot.@@N@@
open Jvm Jvm.ClassFile Sem Op Lib Jvm.Free Jvm.Stand Jvm.Pilot.@@N@@.Jvm.D
/-! MADE BY PROGRAM (witnessworld.py) out of the Statement's table words and the real class files: 33 classes; the members and pool entries that the words name. The judged class is class 1, her method 3. -/
namespace start1
open Jvm.ClassFile
def u (s : String) : CpInfo := .utf8 (stringToUtf16 s)
/-- a pool by its gaps: so many unusable entries, then the entry; so many at the end -/
def gap : Nat → List CpInfo → List CpInfo
  | 0, r => r
  | n + 1, r => .unusable :: gap n r
def poolList (es : List (Nat × CpInfo)) (last : Nat) : List CpInfo := es.foldr (fun e r => gap e.1 (e.2 :: r)) (gap last [])
def pool (es : List (Nat × CpInfo)) (last : Nat) : Array CpInfo := ⟨poolList es last⟩
def fileOf (pool : Array CpInfo) (this : Nat) (attrs : Array Attribute := #[]) (ms : Array MethodInfo := #[]) (fl : Nat := 33) (sup : Nat := 0) (ifs : Array Nat := #[]) (fds : Array FieldInfo := #[]) : ClassFile where
  minorVersion := 0
  majorVersion := 65
  constantPool := pool
  accessFlags := fl
  thisClass := this
  superClass := sup
  interfaces := ifs
  fields := fds
  methods := ms
  attributes := attrs
def plain (name : String) (sup : Option ClassId) : Class where
  name := name
  kind := .ordinary
  loader := none
  accessFlags := 33
  super := sup
  interfaces := #[]
  cf := none
  fields := #[]
  methods := #[]
  instanceTypes := #[]
  staticTypes := #[]
  resolved := #[]
  callSites := []
  init := .initialized
  statics := none
  mirror := none

def pool0 : Array CpInfo := pool [(5, u "<init>"), (0, u "()V"), (1, .class_ 10), (1, u "java/lang/Object"), (85, u "clone"), (0, u "()Ljava/lang/Object;")] 26

def k0c0 : Code := { maxStack := 0, maxLocals := 1, code := object_method_1_code, exceptionTable := #[], attributes := #[] }
def k0m0 : Method := { name := "<init>", desc := "()V", sig := { parameters := [], returnType := none }, accessFlags := 1, code := some k0c0 }
def k0m1 : Method := { name := "clone", desc := "()Ljava/lang/Object;", sig := { parameters := [], returnType := some (.object "java/lang/Object") }, accessFlags := 260, code := none }
/-- java/lang/Object -/
def k0 : Class := { plain "java/lang/Object" none with
  accessFlags := 33
  interfaces := #[]
  cf := some (fileOf pool0 8 #[] #[{ accessFlags := 1, nameIndex := 5, descriptorIndex := 6, attributes := #[] }, { accessFlags := 260, nameIndex := 96, descriptorIndex := 97, attributes := #[] }] 33 0 #[] #[])
  fields := #[]
  methods := #[k0m0, k0m1]
  instanceTypes := #[]
  staticTypes := #[]
  resolved := Array.replicate 124 none
  statics := none }

def pool1 : Array CpInfo := pool [(2, .class_ 4), (1, u "java/lang/Object"), (0, u "<init>"), (0, u "()V"), (0, .integer 2147483647), (0, .string 9), (0, u "._~-"), (0, .methodref 11 12), (0, .class_ 13), (0, .nameAndType 14 15), (0, u "java/lang/String"), (0, u "charAt"), (0, u "(I)C"), (0, .methodref 11 17), (0, .nameAndType 5 18), (0, u "([C)V"), (0, .methodref 20 21), (0, .class_ 22), (0, .nameAndType 23 15), (0, u "com/example/gentle_hub/gentlehub/server/ChannelLocationParsePinLaw"), (0, u "nameChar"), (0, .methodref 20 25), (0, .nameAndType 26 27), (0, u "take"), (0, u "([CI)Ljava/lang/String;"), (0, .methodref 29 30), (0, .class_ 31), (0, .nameAndType 32 33), (0, u "com/example/gentle_hub/gentlehub/server/ChannelLocation"), (0, u "parse"), (0, u "(Ljava/lang/String;)Ljava/util/Optional;"), (0, .methodref 35 36), (0, .class_ 37), (0, .nameAndType 38 39), (0, u "java/util/Optional"), (0, u "isPresent"), (0, u "()Z"), (0, .methodref 35 41), (0, .nameAndType 42 43), (0, u "get"), (0, u "()Ljava/lang/Object;"), (0, .fieldref 45 46), (0, .class_ 47), (0, .nameAndType 48 49), (0, u "com/example/gentle_hub/gentlehub/server/ChannelLocation$Role"), (0, u "PUBLISHER"), (0, u "Lcom/example/gentle_hub/gentlehub/server/ChannelLocation$Role;"), (0, .fieldref 45 51), (0, .nameAndType 52 49), (0, u "SUBSCRIBER"), (0, .methodref 29 54), (0, .nameAndType 55 56), (0, u "role"), (0, u "()Lcom/example/gentle_hub/gentlehub/server/ChannelLocation$Role;"), (0, .methodref 29 58), (0, .nameAndType 59 60), (0, u "channel"), (0, u "()Lcom/example/gentle_hub/gentlehub/core/ChannelName;"), (0, .methodref 62 63), (0, .class_ 64), (0, .nameAndType 65 66), (0, u "com/example/gentle_hub/gentlehub/core/ChannelName"), (0, u "value"), (0, u "()Ljava/lang/String;"), (0, .methodref 11 68), (0, .nameAndType 69 70), (0, u "equals"), (0, u "(Ljava/lang/Object;)Z"), (0, .methodref 29 72), (0, .nameAndType 73 66), (0, u "path"), (3, u "law"), (0, u "(IIIIII)Z")] 6

def k1m0 : Method := { name := "<init>", desc := "()V", sig := { parameters := [], returnType := none }, accessFlags := 2, code := none }
def k1c1 : Code := { maxStack := 3, maxLocals := 2, code := method_2_code, exceptionTable := #[], attributes := #[] }
def k1m1 : Method := { name := "nameChar", desc := "(I)C", sig := { parameters := [.int], returnType := some .char }, accessFlags := 10, code := some k1c1 }
def k1c2 : Code := { maxStack := 7, maxLocals := 2, code := method_3_code, exceptionTable := #[], attributes := #[] }
def k1m2 : Method := { name := "take", desc := "([CI)Ljava/lang/String;", sig := { parameters := [(.array .char), .int], returnType := some (.object "java/lang/String") }, accessFlags := 10, code := some k1c2 }
def k1c3 : Code := { maxStack := 5, maxLocals := 20, code := code, exceptionTable := #[], attributes := #[] }
def k1m3 : Method := { name := "law", desc := "(IIIIII)Z", sig := { parameters := [.int, .int, .int, .int, .int, .int], returnType := some .boolean }, accessFlags := 9, code := some k1c3 }
/-- com/example/gentle_hub/gentlehub/server/ChannelLocationParsePinLaw -/
def k1 : Class := { plain "com/example/gentle_hub/gentlehub/server/ChannelLocationParsePinLaw" (some 0) with
  accessFlags := 49
  interfaces := #[]
  cf := some (fileOf pool1 20 #[] #[{ accessFlags := 2, nameIndex := 5, descriptorIndex := 6, attributes := #[] }, { accessFlags := 10, nameIndex := 23, descriptorIndex := 15, attributes := #[] }, { accessFlags := 10, nameIndex := 26, descriptorIndex := 27, attributes := #[] }, { accessFlags := 9, nameIndex := 77, descriptorIndex := 78, attributes := #[] }] 49 2 #[] #[])
  fields := #[]
  methods := #[k1m0, k1m1, k1m2, k1m3]
  instanceTypes := #[]
  staticTypes := #[]
  resolved := Array.replicate 85 none
  statics := none }

def pool2 : Array CpInfo := pool [(1, .class_ 2), (0, u "java/io/Serializable"), (0, .class_ 4), (0, u "java/lang/Object")] 2

/-- java/io/Serializable -/
def k2 : Class := { plain "java/io/Serializable" (some 0) with
  accessFlags := 1537
  interfaces := #[]
  cf := some (fileOf pool2 1 #[] #[] 1537 3 #[] #[])
  fields := #[]
  methods := #[]
  instanceTypes := #[]
  staticTypes := #[]
  resolved := Array.replicate 7 none
  statics := none }

def pool3 : Array CpInfo := pool [(1, .class_ 2), (0, u "java/lang/Comparable"), (0, .class_ 4), (0, u "java/lang/Object")] 7

/-- java/lang/Comparable -/
def k3 : Class := { plain "java/lang/Comparable" (some 0) with
  accessFlags := 1537
  interfaces := #[]
  cf := some (fileOf pool3 1 #[] #[] 1537 3 #[] #[])
  fields := #[]
  methods := #[]
  instanceTypes := #[]
  staticTypes := #[]
  resolved := Array.replicate 12 none
  statics := none }

def pool4 : Array CpInfo := pool [(2, .class_ 4), (1, u "java/lang/CharSequence"), (42, .class_ 48), (0, u "java/lang/CharSequence$1CodePointIterator"), (10, .class_ 60), (0, u "java/lang/CharSequence$1CharIterator"), (5, .class_ 67), (0, u "java/lang/Object")] 63

/-- java/lang/CharSequence -/
def k4 : Class := { plain "java/lang/CharSequence" (some 0) with
  accessFlags := 1537
  interfaces := #[]
  cf := some (fileOf pool4 2 #[.nestMembers #[47, 59]] #[] 1537 66 #[] #[])
  fields := #[]
  methods := #[]
  instanceTypes := #[]
  staticTypes := #[]
  resolved := Array.replicate 131 none
  statics := none }

def pool5 : Array CpInfo := pool [(1, .class_ 2), (0, u "java/lang/constant/Constable"), (0, .class_ 4), (0, u "java/lang/Object")] 6

/-- java/lang/constant/Constable -/
def k5 : Class := { plain "java/lang/constant/Constable" (some 0) with
  accessFlags := 1537
  interfaces := #[]
  cf := some (fileOf pool5 1 #[] #[] 1537 3 #[] #[])
  fields := #[]
  methods := #[]
  instanceTypes := #[]
  staticTypes := #[]
  resolved := Array.replicate 11 none
  statics := none }

def pool6 : Array CpInfo := pool [(1, .class_ 2), (0, u "java/lang/constant/ConstantDesc"), (0, .class_ 4), (0, u "java/lang/Object")] 32

/-- java/lang/constant/ConstantDesc -/
def k6 : Class := { plain "java/lang/constant/ConstantDesc" (some 0) with
  accessFlags := 1537
  interfaces := #[]
  cf := some (fileOf pool6 1 #[] #[] 1537 3 #[] #[])
  fields := #[]
  methods := #[]
  instanceTypes := #[]
  staticTypes := #[]
  resolved := Array.replicate 37 none
  statics := none }

def pool7 : Array CpInfo := pool [(1, .methodref 2 3), (0, .class_ 4), (0, .nameAndType 5 6), (0, u "java/lang/Object"), (0, u "<init>"), (0, u "()V"), (0, .string 8), (0, u ""), (0, .fieldref 10 11), (0, .class_ 12), (0, .nameAndType 13 14), (0, u "java/lang/String"), (0, u "value"), (0, u "[B"), (0, .fieldref 10 16), (0, .nameAndType 17 18), (0, u "coder"), (0, u "B"), (2, u "hash"), (0, u "I"), (2, u "hashIsZero"), (0, u "Z"), (0, .methodref 10 28), (0, .nameAndType 5 29), (0, u "([CIILjava/lang/Void;)V"), (8, .fieldref 10 39), (0, .nameAndType 40 26), (0, u "COMPACT_STRINGS"), (1, .class_ 44), (1, u "java/lang/StringUTF16"), (0, u "compress"), (1, .methodref 42 48), (0, .nameAndType 49 50), (0, u "coderFromArrayLen"), (0, u "([BI)B"), (3, .methodref 55 56), (0, .class_ 57), (0, .nameAndType 58 59), (0, u "java/util/Arrays"), (0, u "copyOfRange"), (0, u "([BII)[B"), (47, .class_ 109), (1, u "java/lang/StringLatin1"), (32, u "()Z"), (34, .methodref 42 178), (0, .nameAndType 45 179), (0, u "([CII)[B"), (13, .class_ 195), (1, u "java/lang/System"), (15, u "([BB)V"), (0, .methodref 193 213), (0, .nameAndType 214 215), (0, u "arraycopy"), (0, u "(Ljava/lang/Object;ILjava/lang/Object;II)V"), (118, u "()I"), (0, .methodref 10 336), (0, .nameAndType 17 337), (0, u "()B"), (2, u "()[B"), (22, u "([BI)C"), (12, u "([BI[BII)I"), (14, u "(II)V"), (35, u "(I)C"), (61, .methodref 10 490), (0, .nameAndType 5 491), (0, u "(Ljava/lang/AbstractStringBuilder;Ljava/lang/Void;)V"), (0, .methodref 10 493), (0, .nameAndType 494 142), (0, u "isLatin1"), (0, .methodref 107 496), (0, .nameAndType 497 363), (0, u "charAt"), (3, u "checkIndex"), (3, .methodref 10 506), (0, .nameAndType 507 334), (0, u "length"), (5, u "checkFromToIndex"), (7, .methodref 10 522), (0, .nameAndType 523 524), (0, u "checkBoundsBeginEnd"), (0, u "(III)V"), (7, u "getBytes"), (8, .methodref 107 542), (0, .nameAndType 543 544), (0, u "equals"), (0, u "([B[B)Z"), (4, .methodref 550 506), (0, .class_ 551), (0, u "java/lang/AbstractStringBuilder"), (0, .methodref 550 553), (0, .nameAndType 554 340), (0, u "getValue"), (4, .class_ 561), (1, u "jdk/internal/util/ArraysSupport"), (0, u "mismatch"), (10, u "(Ljava/lang/Object;)Z"), (1, .class_ 576), (0, u "java/lang/CharSequence"), (22, u "CASE_INSENSITIVE_ORDER"), (0, u "Ljava/util/Comparator;"), (6, .methodref 559 608), (0, .nameAndType 562 376), (15, .methodref 10 625), (0, .nameAndType 626 627), (0, u "startsWith"), (0, u "(Ljava/lang/String;I)Z"), (5, .methodref 10 634), (0, .nameAndType 635 636), (0, u "indexOf"), (0, u "(II)I"), (0, .methodref 107 638), (0, .nameAndType 635 639), (0, u "([BIII)I"), (41, .methodref 10 682), (0, .nameAndType 683 684), (0, u "substring"), (0, u "(II)Ljava/lang/String;"), (0, .methodref 107 686), (0, .nameAndType 687 688), (0, u "newString"), (0, u "([BII)Ljava/lang/String;"), (3, u "isEmpty"), (72, u "(I)I"), (55, u "([BIB)V"), (70, u "(I)Ljava/lang/String;"), (117, u "([C)V"), (36, .methodref 550 493), (5, .fieldref 1054 1055), (0, .class_ 1056), (0, .nameAndType 1057 1058), (0, u "jdk/internal/util/Preconditions"), (0, u "SIOOBE_FORMATTER"), (0, u "Ljava/util/function/BiFunction;"), (0, .methodref 1054 1060), (0, .nameAndType 501 1061), (0, u "(IILjava/util/function/BiFunction;)I"), (0, .methodref 1054 1063), (0, .nameAndType 513 1064), (0, u "(IIILjava/util/function/BiFunction;)I"), (36, u "serialPersistentFields"), (0, u "[Ljava/io/ObjectStreamField;"), (0, .class_ 1104), (0, u "java/lang/String$CaseInsensitiveComparator"), (1, .class_ 1107), (0, u "java/io/Serializable"), (0, .class_ 1109), (0, u "java/lang/Comparable"), (0, .class_ 1111), (0, u "java/lang/constant/Constable"), (0, .class_ 1113), (0, u "java/lang/constant/ConstantDesc"), (2, u "serialVersionUID"), (0, u "J"), (3, u "REPL"), (0, u "C"), (2, u "LATIN1"), (1, u "UTF16"), (105, u "(Ljava/lang/StringBuilder;)V"), (23, u "(Ljava/lang/String;)Z")] 193

def k7m0 : Method := { name := "<init>", desc := "()V", sig := { parameters := [], returnType := none }, accessFlags := 1, code := none }
def k7c1 : Code := { maxStack := 5, maxLocals := 2, code := jdk_42_method_3_code, exceptionTable := #[], attributes := #[] }
def k7m1 : Method := { name := "<init>", desc := "([C)V", sig := { parameters := [(.array .char)], returnType := none }, accessFlags := 1, code := some k7c1 }
def k7c2 : Code := { maxStack := 3, maxLocals := 2, code := jdk_42_method_53_code, exceptionTable := #[], attributes := #[] }
def k7m2 : Method := { name := "<init>", desc := "(Ljava/lang/StringBuilder;)V", sig := { parameters := [(.object "java/lang/StringBuilder")], returnType := none }, accessFlags := 1, code := some k7c2 }
def k7c3 : Code := { maxStack := 2, maxLocals := 1, code := jdk_42_method_54_code, exceptionTable := #[], attributes := #[] }
def k7m3 : Method := { name := "length", desc := "()I", sig := { parameters := [], returnType := some .int }, accessFlags := 1, code := some k7c3 }
def k7c4 : Code := { maxStack := 1, maxLocals := 1, code := jdk_42_method_55_code, exceptionTable := #[], attributes := #[] }
def k7m4 : Method := { name := "isEmpty", desc := "()Z", sig := { parameters := [], returnType := some .boolean }, accessFlags := 1, code := some k7c4 }
def k7c5 : Code := { maxStack := 2, maxLocals := 2, code := jdk_42_method_56_code, exceptionTable := #[], attributes := #[] }
def k7m5 : Method := { name := "charAt", desc := "(I)C", sig := { parameters := [.int], returnType := some .char }, accessFlags := 1, code := some k7c5 }
def k7c6 : Code := { maxStack := 2, maxLocals := 3, code := jdk_42_method_66_code, exceptionTable := #[], attributes := #[] }
def k7m6 : Method := { name := "equals", desc := "(Ljava/lang/Object;)Z", sig := { parameters := [(.object "java/lang/Object")], returnType := some .boolean }, accessFlags := 1, code := some k7c6 }
def k7c7 : Code := { maxStack := 5, maxLocals := 8, code := jdk_42_method_75_code, exceptionTable := #[], attributes := #[] }
def k7m7 : Method := { name := "startsWith", desc := "(Ljava/lang/String;I)Z", sig := { parameters := [(.object "java/lang/String"), .int], returnType := some .boolean }, accessFlags := 1, code := some k7c7 }
def k7c8 : Code := { maxStack := 3, maxLocals := 2, code := jdk_42_method_76_code, exceptionTable := #[], attributes := #[] }
def k7m8 : Method := { name := "startsWith", desc := "(Ljava/lang/String;)Z", sig := { parameters := [(.object "java/lang/String")], returnType := some .boolean }, accessFlags := 1, code := some k7c8 }
def k7c9 : Code := { maxStack := 3, maxLocals := 2, code := jdk_42_method_79_code, exceptionTable := #[], attributes := #[] }
def k7m9 : Method := { name := "indexOf", desc := "(I)I", sig := { parameters := [.int], returnType := some .int }, accessFlags := 1, code := some k7c9 }
def k7c10 : Code := { maxStack := 4, maxLocals := 3, code := jdk_42_method_80_code, exceptionTable := #[], attributes := #[] }
def k7m10 : Method := { name := "indexOf", desc := "(II)I", sig := { parameters := [.int, .int], returnType := some .int }, accessFlags := 1, code := some k7c10 }
def k7c11 : Code := { maxStack := 3, maxLocals := 2, code := jdk_42_method_91_code, exceptionTable := #[], attributes := #[] }
def k7m11 : Method := { name := "substring", desc := "(I)Ljava/lang/String;", sig := { parameters := [.int], returnType := some (.object "java/lang/String") }, accessFlags := 1, code := some k7c11 }
def k7c12 : Code := { maxStack := 3, maxLocals := 5, code := jdk_42_method_92_code, exceptionTable := #[], attributes := #[] }
def k7m12 : Method := { name := "substring", desc := "(II)Ljava/lang/String;", sig := { parameters := [.int, .int], returnType := some (.object "java/lang/String") }, accessFlags := 1, code := some k7c12 }
def k7c13 : Code := { maxStack := 5, maxLocals := 4, code := jdk_42_method_147_code, exceptionTable := #[], attributes := #[] }
def k7m13 : Method := { name := "getBytes", desc := "([BIB)V", sig := { parameters := [(.array .byte), .int, .byte], returnType := none }, accessFlags := 0, code := some k7c13 }
def k7c14 : Code := { maxStack := 4, maxLocals := 6, code := jdk_42_method_149_code, exceptionTable := #[], attributes := #[] }
def k7m14 : Method := { name := "<init>", desc := "([CIILjava/lang/Void;)V", sig := { parameters := [(.array .char), .int, .int, (.object "java/lang/Void")], returnType := none }, accessFlags := 2, code := some k7c14 }
def k7c15 : Code := { maxStack := 5, maxLocals := 5, code := jdk_42_method_150_code, exceptionTable := #[], attributes := #[] }
def k7m15 : Method := { name := "<init>", desc := "(Ljava/lang/AbstractStringBuilder;Ljava/lang/Void;)V", sig := { parameters := [(.object "java/lang/AbstractStringBuilder"), (.object "java/lang/Void")], returnType := none }, accessFlags := 0, code := some k7c15 }
def k7c16 : Code := { maxStack := 2, maxLocals := 3, code := jdk_42_method_151_code, exceptionTable := #[], attributes := #[] }
def k7m16 : Method := { name := "<init>", desc := "([BB)V", sig := { parameters := [(.array .byte), .byte], returnType := none }, accessFlags := 0, code := some k7c16 }
def k7c17 : Code := { maxStack := 1, maxLocals := 1, code := jdk_42_method_152_code, exceptionTable := #[], attributes := #[] }
def k7m17 : Method := { name := "coder", desc := "()B", sig := { parameters := [], returnType := some .byte }, accessFlags := 0, code := some k7c17 }
def k7c18 : Code := { maxStack := 1, maxLocals := 1, code := jdk_42_method_154_code, exceptionTable := #[], attributes := #[] }
def k7m18 : Method := { name := "isLatin1", desc := "()Z", sig := { parameters := [], returnType := some .boolean }, accessFlags := 0, code := some k7c18 }
def k7c19 : Code := { maxStack := 3, maxLocals := 2, code := jdk_42_method_155_code, exceptionTable := #[], attributes := #[] }
def k7m19 : Method := { name := "checkIndex", desc := "(II)V", sig := { parameters := [.int, .int], returnType := none }, accessFlags := 8, code := some k7c19 }
def k7c20 : Code := { maxStack := 4, maxLocals := 3, code := jdk_42_method_158_code, exceptionTable := #[], attributes := #[] }
def k7m20 : Method := { name := "checkBoundsBeginEnd", desc := "(III)V", sig := { parameters := [.int, .int, .int], returnType := none }, accessFlags := 8, code := some k7c20 }
/-- java/lang/String -/
def k7 : Class := { plain "java/lang/String" (some 0) with
  accessFlags := 49
  interfaces := #[2, 3, 4, 5, 6]
  cf := some (fileOf pool7 10 #[.nestMembers #[1103]] #[{ accessFlags := 1, nameIndex := 5, descriptorIndex := 6, attributes := #[] }, { accessFlags := 1, nameIndex := 5, descriptorIndex := 1010, attributes := #[] }, { accessFlags := 1, nameIndex := 5, descriptorIndex := 1233, attributes := #[] }, { accessFlags := 1, nameIndex := 507, descriptorIndex := 334, attributes := #[] }, { accessFlags := 1, nameIndex := 692, descriptorIndex := 142, attributes := #[] }, { accessFlags := 1, nameIndex := 497, descriptorIndex := 427, attributes := #[] }, { accessFlags := 1, nameIndex := 543, descriptorIndex := 573, attributes := #[] }, { accessFlags := 1, nameIndex := 626, descriptorIndex := 627, attributes := #[] }, { accessFlags := 1, nameIndex := 626, descriptorIndex := 1257, attributes := #[] }, { accessFlags := 1, nameIndex := 635, descriptorIndex := 765, attributes := #[] }, { accessFlags := 1, nameIndex := 635, descriptorIndex := 636, attributes := #[] }, { accessFlags := 1, nameIndex := 683, descriptorIndex := 892, attributes := #[] }, { accessFlags := 1, nameIndex := 683, descriptorIndex := 684, attributes := #[] }, { accessFlags := 0, nameIndex := 532, descriptorIndex := 821, attributes := #[] }, { accessFlags := 2, nameIndex := 5, descriptorIndex := 29, attributes := #[] }, { accessFlags := 0, nameIndex := 5, descriptorIndex := 491, attributes := #[] }, { accessFlags := 0, nameIndex := 5, descriptorIndex := 211, attributes := #[] }, { accessFlags := 0, nameIndex := 17, descriptorIndex := 337, attributes := #[] }, { accessFlags := 0, nameIndex := 494, descriptorIndex := 142, attributes := #[] }, { accessFlags := 8, nameIndex := 501, descriptorIndex := 391, attributes := #[] }, { accessFlags := 8, nameIndex := 523, descriptorIndex := 524, attributes := #[] }] 49 2 #[1106, 1108, 575, 1110, 1112] #[{ accessFlags := 18, nameIndex := 13, descriptorIndex := 14, attributes := #[] }, { accessFlags := 18, nameIndex := 17, descriptorIndex := 18, attributes := #[] }, { accessFlags := 2, nameIndex := 21, descriptorIndex := 22, attributes := #[] }, { accessFlags := 2, nameIndex := 25, descriptorIndex := 26, attributes := #[] }, { accessFlags := 26, nameIndex := 1116, descriptorIndex := 1117, attributes := #[] }, { accessFlags := 24, nameIndex := 40, descriptorIndex := 26, attributes := #[] }, { accessFlags := 26, nameIndex := 1101, descriptorIndex := 1102, attributes := #[] }, { accessFlags := 26, nameIndex := 1121, descriptorIndex := 1122, attributes := #[] }, { accessFlags := 25, nameIndex := 599, descriptorIndex := 600, attributes := #[] }, { accessFlags := 24, nameIndex := 1125, descriptorIndex := 18, attributes := #[] }, { accessFlags := 24, nameIndex := 1127, descriptorIndex := 18, attributes := #[] }])
  fields := #[{ name := "value", type := (.array .byte), accessFlags := 18, slot := 0, constantValue := 0 }, { name := "coder", type := .byte, accessFlags := 18, slot := 1, constantValue := 0 }, { name := "hash", type := .int, accessFlags := 2, slot := 2, constantValue := 0 }, { name := "hashIsZero", type := .boolean, accessFlags := 2, slot := 3, constantValue := 0 }, { name := "serialVersionUID", type := .long, accessFlags := 26, slot := 0, constantValue := 0 }, { name := "COMPACT_STRINGS", type := .boolean, accessFlags := 24, slot := 1, constantValue := 0 }, { name := "serialPersistentFields", type := (.array (.object "java/io/ObjectStreamField")), accessFlags := 26, slot := 2, constantValue := 0 }, { name := "REPL", type := .char, accessFlags := 26, slot := 3, constantValue := 0 }, { name := "CASE_INSENSITIVE_ORDER", type := (.object "java/util/Comparator"), accessFlags := 25, slot := 4, constantValue := 0 }, { name := "LATIN1", type := .byte, accessFlags := 24, slot := 5, constantValue := 0 }, { name := "UTF16", type := .byte, accessFlags := 24, slot := 6, constantValue := 0 }]
  methods := #[k7m0, k7m1, k7m2, k7m3, k7m4, k7m5, k7m6, k7m7, k7m8, k7m9, k7m10, k7m11, k7m12, k7m13, k7m14, k7m15, k7m16, k7m17, k7m18, k7m19, k7m20]
  instanceTypes := #[(.array .byte), .byte, .int, .boolean]
  staticTypes := #[.long, .boolean, (.array (.object "java/io/ObjectStreamField")), .char, (.object "java/util/Comparator"), .byte, .byte]
  resolved := Array.replicate 1451 none
  statics := some 0 }

def pool8 : Array CpInfo := pool [(6, .class_ 8), (1, u "java/lang/Object"), (0, u "<init>"), (0, u "()V"), (1, .class_ 14), (1, u "java/lang/StringUTF16"), (31, u "$assertionsDisabled"), (0, u "Z"), (13, u "HI_BYTE_SHIFT"), (0, u "I"), (2, u "LO_BYTE_SHIFT"), (49, .methodref 12 116), (0, .nameAndType 117 118), (0, u "compress"), (0, u "([CI[BII)I"), (3, u "([CII)[B"), (138, u "coderFromArrayLen"), (0, u "([BI)B"), (106, .class_ 371), (1, u "java/lang/StringUTF16$LinesSpliterator"), (58, u "MAX_LENGTH"), (196, .class_ 628), (0, u "java/lang/StringUTF16$CodePointsSpliterator"), (0, .class_ 630), (0, u "java/lang/StringUTF16$CharsSpliterator")] 4

def k8m0 : Method := { name := "<init>", desc := "()V", sig := { parameters := [], returnType := none }, accessFlags := 0, code := none }
def k8c1 : Code := { maxStack := 2, maxLocals := 2, code := jdk_52_method_15_code, exceptionTable := #[], attributes := #[] }
def k8m1 : Method := { name := "coderFromArrayLen", desc := "([BI)B", sig := { parameters := [(.array .byte), .int], returnType := some .byte }, accessFlags := 8, code := some k8c1 }
def k8c2 : Code := { maxStack := 5, maxLocals := 6, code := jdk_52_method_16_code, exceptionTable := #[], attributes := #[] }
def k8m2 : Method := { name := "compress", desc := "([CII)[B", sig := { parameters := [(.array .char), .int, .int], returnType := some (.array .byte) }, accessFlags := 9, code := some k8c2 }
def k8c3 : Code := { maxStack := 3, maxLocals := 7, code := jdk_52_method_21_code, exceptionTable := #[], attributes := #[] }
def k8m3 : Method := { name := "compress", desc := "([CI[BII)I", sig := { parameters := [(.array .char), .int, (.array .byte), .int, .int], returnType := some .int }, accessFlags := 9, code := some k8c3 }
/-- java/lang/StringUTF16 -/
def k8 : Class := { plain "java/lang/StringUTF16" (some 0) with
  accessFlags := 48
  interfaces := #[]
  cf := some (fileOf pool8 12 #[.nestMembers #[627, 629, 369]] #[{ accessFlags := 0, nameIndex := 9, descriptorIndex := 10, attributes := #[] }, { accessFlags := 8, nameIndex := 261, descriptorIndex := 262, attributes := #[] }, { accessFlags := 9, nameIndex := 117, descriptorIndex := 122, attributes := #[] }, { accessFlags := 9, nameIndex := 117, descriptorIndex := 118, attributes := #[] }] 48 6 #[] #[{ accessFlags := 26, nameIndex := 61, descriptorIndex := 62, attributes := #[] }, { accessFlags := 26, nameIndex := 65, descriptorIndex := 62, attributes := #[] }, { accessFlags := 24, nameIndex := 430, descriptorIndex := 62, attributes := #[] }, { accessFlags := 4120, nameIndex := 46, descriptorIndex := 47, attributes := #[] }])
  fields := #[{ name := "HI_BYTE_SHIFT", type := .int, accessFlags := 26, slot := 0, constantValue := 0 }, { name := "LO_BYTE_SHIFT", type := .int, accessFlags := 26, slot := 1, constantValue := 0 }, { name := "MAX_LENGTH", type := .int, accessFlags := 24, slot := 2, constantValue := 0 }, { name := "$assertionsDisabled", type := .boolean, accessFlags := 4120, slot := 3, constantValue := 0 }]
  methods := #[k8m0, k8m1, k8m2, k8m3]
  instanceTypes := #[]
  staticTypes := #[.int, .int, .int, .boolean]
  resolved := Array.replicate 635 none
  statics := none }

def pool9 : Array CpInfo := pool [(1, .methodref 2 3), (0, .class_ 4), (0, .nameAndType 5 6), (0, u "java/lang/Object"), (0, u "<init>"), (0, u "()V"), (0, .class_ 8), (0, u "java/lang/Record")] 13

def k9c0 : Code := { maxStack := 1, maxLocals := 1, code := jdk_30_method_1_code, exceptionTable := #[], attributes := #[] }
def k9m0 : Method := { name := "<init>", desc := "()V", sig := { parameters := [], returnType := none }, accessFlags := 4, code := some k9c0 }
/-- java/lang/Record -/
def k9 : Class := { plain "java/lang/Record" (some 0) with
  accessFlags := 1057
  interfaces := #[]
  cf := some (fileOf pool9 7 #[] #[{ accessFlags := 4, nameIndex := 5, descriptorIndex := 6, attributes := #[] }] 1057 2 #[] #[])
  fields := #[]
  methods := #[k9m0]
  instanceTypes := #[]
  staticTypes := #[]
  resolved := Array.replicate 22 none
  statics := none }

def pool10 : Array CpInfo := pool [(1, .methodref 2 3), (0, .class_ 4), (0, .nameAndType 5 6), (0, u "java/lang/Record"), (0, u "<init>"), (0, u "()V"), (0, .fieldref 8 9), (0, .class_ 10), (0, .nameAndType 11 12), (0, u "com/example/gentle_hub/gentlehub/server/ChannelLocation"), (0, u "role"), (0, u "Lcom/example/gentle_hub/gentlehub/server/ChannelLocation$Role;"), (0, .fieldref 8 14), (0, .nameAndType 15 16), (0, u "channel"), (0, u "Lcom/example/gentle_hub/gentlehub/core/ChannelName;"), (0, .class_ 18), (0, u "java/lang/StringBuilder"), (0, .methodref 17 3), (0, .fieldref 21 22), (0, .class_ 23), (0, .nameAndType 24 25), (0, u "com/example/gentle_hub/gentlehub/server/ChannelLocation$Role"), (0, u "pathPrefix"), (0, u "Ljava/lang/String;"), (0, .methodref 17 27), (0, .nameAndType 28 29), (0, u "append"), (0, u "(Ljava/lang/String;)Ljava/lang/StringBuilder;"), (0, .methodref 31 32), (0, .class_ 33), (0, .nameAndType 34 35), (0, u "com/example/gentle_hub/gentlehub/core/ChannelName"), (0, u "value"), (0, u "()Ljava/lang/String;"), (0, .methodref 17 37), (0, .nameAndType 38 35), (0, u "toString"), (0, .methodref 21 40), (0, .nameAndType 41 42), (0, u "values"), (0, u "()[Lcom/example/gentle_hub/gentlehub/server/ChannelLocation$Role;"), (0, .methodref 44 45), (0, .class_ 46), (0, .nameAndType 47 48), (0, u "java/lang/String"), (0, u "startsWith"), (0, u "(Ljava/lang/String;)Z"), (0, .methodref 44 50), (0, .nameAndType 51 52), (0, u "length"), (0, u "()I"), (0, .methodref 44 54), (0, .nameAndType 55 56), (0, u "substring"), (0, u "(I)Ljava/lang/String;"), (0, .methodref 31 58), (0, .nameAndType 5 59), (0, u "(Ljava/lang/String;)V"), (0, .methodref 8 61), (0, .nameAndType 5 62), (0, u "(Lcom/example/gentle_hub/gentlehub/server/ChannelLocation$Role;Lcom/example/gentle_hub/gentlehub/core/ChannelName;)V"), (0, .methodref 64 65), (0, .class_ 66), (0, .nameAndType 67 68), (0, u "java/util/Optional"), (0, u "of"), (0, u "(Ljava/lang/Object;)Ljava/util/Optional;"), (0, .methodref 64 70), (0, .nameAndType 71 72), (0, u "empty"), (0, u "()Ljava/util/Optional;"), (14, u "path"), (0, u "parse"), (0, u "(Ljava/lang/String;)Ljava/util/Optional;"), (6, u "()Lcom/example/gentle_hub/gentlehub/server/ChannelLocation$Role;"), (0, u "()Lcom/example/gentle_hub/gentlehub/core/ChannelName;")] 23

def k10c0 : Code := { maxStack := 2, maxLocals := 3, code := prog_15_method_1_code, exceptionTable := #[], attributes := #[] }
def k10m0 : Method := { name := "<init>", desc := "(Lcom/example/gentle_hub/gentlehub/server/ChannelLocation$Role;Lcom/example/gentle_hub/gentlehub/core/ChannelName;)V", sig := { parameters := [(.object "com/example/gentle_hub/gentlehub/server/ChannelLocation$Role"), (.object "com/example/gentle_hub/gentlehub/core/ChannelName")], returnType := none }, accessFlags := 0, code := some k10c0 }
def k10c1 : Code := { maxStack := 2, maxLocals := 1, code := prog_15_method_2_code, exceptionTable := #[], attributes := #[] }
def k10m1 : Method := { name := "path", desc := "()Ljava/lang/String;", sig := { parameters := [], returnType := some (.object "java/lang/String") }, accessFlags := 0, code := some k10c1 }
def k10c2 : Code := { maxStack := 6, maxLocals := 6, code := prog_15_method_3_code, exceptionTable := #[], attributes := #[] }
def k10m2 : Method := { name := "parse", desc := "(Ljava/lang/String;)Ljava/util/Optional;", sig := { parameters := [(.object "java/lang/String")], returnType := some (.object "java/util/Optional") }, accessFlags := 8, code := some k10c2 }
def k10c3 : Code := { maxStack := 1, maxLocals := 1, code := prog_15_method_7_code, exceptionTable := #[], attributes := #[] }
def k10m3 : Method := { name := "role", desc := "()Lcom/example/gentle_hub/gentlehub/server/ChannelLocation$Role;", sig := { parameters := [], returnType := some (.object "com/example/gentle_hub/gentlehub/server/ChannelLocation$Role") }, accessFlags := 1, code := some k10c3 }
def k10c4 : Code := { maxStack := 1, maxLocals := 1, code := prog_15_method_8_code, exceptionTable := #[], attributes := #[] }
def k10m4 : Method := { name := "channel", desc := "()Lcom/example/gentle_hub/gentlehub/core/ChannelName;", sig := { parameters := [], returnType := some (.object "com/example/gentle_hub/gentlehub/core/ChannelName") }, accessFlags := 1, code := some k10c4 }
/-- com/example/gentle_hub/gentlehub/server/ChannelLocation -/
def k10 : Class := { plain "com/example/gentle_hub/gentlehub/server/ChannelLocation" (some 9) with
  accessFlags := 48
  interfaces := #[]
  cf := some (fileOf pool10 8 #[.nestMembers #[21]] #[{ accessFlags := 0, nameIndex := 5, descriptorIndex := 62, attributes := #[] }, { accessFlags := 0, nameIndex := 87, descriptorIndex := 35, attributes := #[] }, { accessFlags := 8, nameIndex := 88, descriptorIndex := 89, attributes := #[] }, { accessFlags := 1, nameIndex := 11, descriptorIndex := 96, attributes := #[] }, { accessFlags := 1, nameIndex := 15, descriptorIndex := 97, attributes := #[] }] 48 2 #[] #[{ accessFlags := 18, nameIndex := 11, descriptorIndex := 12, attributes := #[] }, { accessFlags := 18, nameIndex := 15, descriptorIndex := 16, attributes := #[] }])
  fields := #[{ name := "role", type := (.object "com/example/gentle_hub/gentlehub/server/ChannelLocation$Role"), accessFlags := 18, slot := 0, constantValue := 0 }, { name := "channel", type := (.object "com/example/gentle_hub/gentlehub/core/ChannelName"), accessFlags := 18, slot := 1, constantValue := 0 }]
  methods := #[k10m0, k10m1, k10m2, k10m3, k10m4]
  instanceTypes := #[(.object "com/example/gentle_hub/gentlehub/server/ChannelLocation$Role"), (.object "com/example/gentle_hub/gentlehub/core/ChannelName")]
  staticTypes := #[]
  resolved := (Array.replicate 121 none).setIfInBounds 20 (some (.field 12 2))
  statics := none }

def pool11 : Array CpInfo := pool [(2, .class_ 4), (1, u "java/lang/Enum"), (0, u "name"), (0, u "Ljava/lang/String;"), (2, u "ordinal"), (0, u "I"), (1, .class_ 14), (1, u "java/lang/Object"), (4, u "hash"), (86, .class_ 108), (1, u "java/lang/Enum$EnumDesc"), (2, .class_ 112), (0, u "java/lang/constant/Constable"), (0, .class_ 114), (0, u "java/lang/Comparable"), (0, .class_ 116), (0, u "java/io/Serializable")] 87

/-- java/lang/Enum -/
def k11 : Class := { plain "java/lang/Enum" (some 0) with
  accessFlags := 1057
  interfaces := #[5, 3, 2]
  cf := some (fileOf pool11 2 #[.nestMembers #[106]] #[] 1057 12 #[111, 113, 115] #[{ accessFlags := 18, nameIndex := 5, descriptorIndex := 6, attributes := #[] }, { accessFlags := 18, nameIndex := 9, descriptorIndex := 10, attributes := #[] }, { accessFlags := 2, nameIndex := 19, descriptorIndex := 10, attributes := #[] }])
  fields := #[{ name := "name", type := (.object "java/lang/String"), accessFlags := 18, slot := 0, constantValue := 0 }, { name := "ordinal", type := .int, accessFlags := 18, slot := 1, constantValue := 0 }, { name := "hash", type := .int, accessFlags := 2, slot := 2, constantValue := 0 }]
  methods := #[]
  instanceTypes := #[(.object "java/lang/String"), .int, .int]
  staticTypes := #[]
  resolved := Array.replicate 204 none
  statics := none }

def pool12 : Array CpInfo := pool [(1, .class_ 2), (0, u "com/example/gentle_hub/gentlehub/server/ChannelLocation$Role"), (2, u "PUBLISHER"), (0, u "Lcom/example/gentle_hub/gentlehub/server/ChannelLocation$Role;"), (2, u "SUBSCRIBER"), (0, .fieldref 1 11), (0, .nameAndType 12 13), (0, u "$VALUES"), (0, u "[Lcom/example/gentle_hub/gentlehub/server/ChannelLocation$Role;"), (0, .methodref 15 16), (0, .class_ 13), (0, .nameAndType 17 18), (0, u "clone"), (0, u "()Ljava/lang/Object;"), (1, .class_ 22), (1, u "java/lang/Enum"), (8, u "pathPrefix"), (0, u "Ljava/lang/String;"), (12, u "()[Lcom/example/gentle_hub/gentlehub/server/ChannelLocation$Role;"), (0, u "values"), (12, .class_ 60), (0, u "com/example/gentle_hub/gentlehub/server/ChannelLocation")] 2

def k12c0 : Code := { maxStack := 1, maxLocals := 0, code := prog_16_method_1_code, exceptionTable := #[], attributes := #[] }
def k12m0 : Method := { name := "values", desc := "()[Lcom/example/gentle_hub/gentlehub/server/ChannelLocation$Role;", sig := { parameters := [], returnType := some (.array (.object "com/example/gentle_hub/gentlehub/server/ChannelLocation$Role")) }, accessFlags := 9, code := some k12c0 }
/-- com/example/gentle_hub/gentlehub/server/ChannelLocation$Role -/
def k12 : Class := { plain "com/example/gentle_hub/gentlehub/server/ChannelLocation$Role" (some 11) with
  accessFlags := 16432
  interfaces := #[]
  cf := some (fileOf pool12 1 #[.nestHost 59] #[{ accessFlags := 9, nameIndex := 46, descriptorIndex := 45, attributes := #[] }] 16432 20 #[] #[{ accessFlags := 16409, nameIndex := 5, descriptorIndex := 6, attributes := #[] }, { accessFlags := 16409, nameIndex := 9, descriptorIndex := 6, attributes := #[] }, { accessFlags := 18, nameIndex := 31, descriptorIndex := 32, attributes := #[] }, { accessFlags := 4122, nameIndex := 12, descriptorIndex := 13, attributes := #[] }])
  fields := #[{ name := "PUBLISHER", type := (.object "com/example/gentle_hub/gentlehub/server/ChannelLocation$Role"), accessFlags := 16409, slot := 0, constantValue := 0 }, { name := "SUBSCRIBER", type := (.object "com/example/gentle_hub/gentlehub/server/ChannelLocation$Role"), accessFlags := 16409, slot := 1, constantValue := 0 }, { name := "pathPrefix", type := (.object "java/lang/String"), accessFlags := 18, slot := 3, constantValue := 0 }, { name := "$VALUES", type := (.array (.object "com/example/gentle_hub/gentlehub/server/ChannelLocation$Role")), accessFlags := 4122, slot := 2, constantValue := 0 }]
  methods := #[k12m0]
  instanceTypes := #[(.object "java/lang/String"), .int, .int, (.object "java/lang/String")]
  staticTypes := #[(.object "com/example/gentle_hub/gentlehub/server/ChannelLocation$Role"), (.object "com/example/gentle_hub/gentlehub/server/ChannelLocation$Role"), (.array (.object "com/example/gentle_hub/gentlehub/server/ChannelLocation$Role"))]
  resolved := Array.replicate 63 none
  statics := some 1 }

def pool13 : Array CpInfo := pool [(1, .class_ 2), (0, u "java/lang/Cloneable"), (0, .class_ 4), (0, u "java/lang/Object")] 2

/-- java/lang/Cloneable -/
def k13 : Class := { plain "java/lang/Cloneable" (some 0) with
  accessFlags := 1537
  interfaces := #[]
  cf := some (fileOf pool13 1 #[] #[] 1537 3 #[] #[])
  fields := #[]
  methods := #[]
  instanceTypes := #[]
  staticTypes := #[]
  resolved := Array.replicate 7 none
  statics := none }

def pool14 : Array CpInfo := pool [(9, u "<init>"), (6, .class_ 18), (1, u "java/lang/Object"), (0, u "()V"), (1, .class_ 23), (1, u "jdk/internal/util/ArraysSupport"), (0, u "LOG2_ARRAY_LONG_INDEX_SCALE"), (0, u "I"), (2, u "U"), (0, u "Ljdk/internal/misc/Unsafe;"), (8, u "BIG_ENDIAN"), (0, u "Z"), (8, u "LOG2_BYTE_BIT_SIZE"), (4, u "LOG2_ARRAY_INT_INDEX_SCALE"), (54, u "JLA"), (0, u "Ljdk/internal/access/JavaLangAccess;"), (11, u "LOG2_ARRAY_BOOLEAN_INDEX_SCALE"), (9, u "LOG2_ARRAY_BYTE_INDEX_SCALE"), (5, u "LOG2_ARRAY_CHAR_INDEX_SCALE"), (5, u "LOG2_ARRAY_SHORT_INDEX_SCALE"), (5, u "mismatch"), (12, u "LOG2_ARRAY_FLOAT_INDEX_SCALE"), (24, u "LOG2_ARRAY_DOUBLE_INDEX_SCALE"), (89, u "T_BOOLEAN"), (2, u "T_CHAR"), (1, u "T_FLOAT"), (1, u "T_DOUBLE"), (1, u "T_BYTE"), (1, u "T_SHORT"), (1, u "T_INT"), (1, u "T_LONG"), (1, u "SOFT_MAX_ARRAY_LENGTH"), (42, u "([BI[BII)I")] 40

def k14m0 : Method := { name := "<init>", desc := "()V", sig := { parameters := [], returnType := none }, accessFlags := 2, code := none }
def k14c1 : Code := { maxStack := 8, maxLocals := 8, code := jdk_48_method_14_code, exceptionTable := #[], attributes := #[] }
def k14m1 : Method := { name := "mismatch", desc := "([BI[BII)I", sig := { parameters := [(.array .byte), .int, (.array .byte), .int, .int], returnType := some .int }, accessFlags := 9, code := some k14c1 }
/-- jdk/internal/util/ArraysSupport -/
def k14 : Class := { plain "jdk/internal/util/ArraysSupport" (some 0) with
  accessFlags := 33
  interfaces := #[]
  cf := some (fileOf pool14 21 #[] #[{ accessFlags := 2, nameIndex := 9, descriptorIndex := 19, attributes := #[] }, { accessFlags := 9, nameIndex := 149, descriptorIndex := 337, attributes := #[] }] 33 16 #[] #[{ accessFlags := 24, nameIndex := 28, descriptorIndex := 29, attributes := #[] }, { accessFlags := 26, nameIndex := 38, descriptorIndex := 39, attributes := #[] }, { accessFlags := 25, nameIndex := 121, descriptorIndex := 25, attributes := #[] }, { accessFlags := 25, nameIndex := 131, descriptorIndex := 25, attributes := #[] }, { accessFlags := 25, nameIndex := 137, descriptorIndex := 25, attributes := #[] }, { accessFlags := 25, nameIndex := 143, descriptorIndex := 25, attributes := #[] }, { accessFlags := 25, nameIndex := 53, descriptorIndex := 25, attributes := #[] }, { accessFlags := 25, nameIndex := 24, descriptorIndex := 25, attributes := #[] }, { accessFlags := 25, nameIndex := 162, descriptorIndex := 25, attributes := #[] }, { accessFlags := 25, nameIndex := 187, descriptorIndex := 25, attributes := #[] }, { accessFlags := 26, nameIndex := 48, descriptorIndex := 25, attributes := #[] }, { accessFlags := 25, nameIndex := 277, descriptorIndex := 25, attributes := #[] }, { accessFlags := 25, nameIndex := 280, descriptorIndex := 25, attributes := #[] }, { accessFlags := 25, nameIndex := 282, descriptorIndex := 25, attributes := #[] }, { accessFlags := 25, nameIndex := 284, descriptorIndex := 25, attributes := #[] }, { accessFlags := 25, nameIndex := 286, descriptorIndex := 25, attributes := #[] }, { accessFlags := 25, nameIndex := 288, descriptorIndex := 25, attributes := #[] }, { accessFlags := 25, nameIndex := 290, descriptorIndex := 25, attributes := #[] }, { accessFlags := 25, nameIndex := 292, descriptorIndex := 25, attributes := #[] }, { accessFlags := 26, nameIndex := 108, descriptorIndex := 109, attributes := #[] }, { accessFlags := 25, nameIndex := 294, descriptorIndex := 25, attributes := #[] }])
  fields := #[{ name := "U", type := (.object "jdk/internal/misc/Unsafe"), accessFlags := 24, slot := 0, constantValue := 0 }, { name := "BIG_ENDIAN", type := .boolean, accessFlags := 26, slot := 1, constantValue := 0 }, { name := "LOG2_ARRAY_BOOLEAN_INDEX_SCALE", type := .int, accessFlags := 25, slot := 2, constantValue := 0 }, { name := "LOG2_ARRAY_BYTE_INDEX_SCALE", type := .int, accessFlags := 25, slot := 3, constantValue := 0 }, { name := "LOG2_ARRAY_CHAR_INDEX_SCALE", type := .int, accessFlags := 25, slot := 4, constantValue := 0 }, { name := "LOG2_ARRAY_SHORT_INDEX_SCALE", type := .int, accessFlags := 25, slot := 5, constantValue := 0 }, { name := "LOG2_ARRAY_INT_INDEX_SCALE", type := .int, accessFlags := 25, slot := 6, constantValue := 0 }, { name := "LOG2_ARRAY_LONG_INDEX_SCALE", type := .int, accessFlags := 25, slot := 7, constantValue := 0 }, { name := "LOG2_ARRAY_FLOAT_INDEX_SCALE", type := .int, accessFlags := 25, slot := 8, constantValue := 0 }, { name := "LOG2_ARRAY_DOUBLE_INDEX_SCALE", type := .int, accessFlags := 25, slot := 9, constantValue := 0 }, { name := "LOG2_BYTE_BIT_SIZE", type := .int, accessFlags := 26, slot := 10, constantValue := 0 }, { name := "T_BOOLEAN", type := .int, accessFlags := 25, slot := 11, constantValue := 0 }, { name := "T_CHAR", type := .int, accessFlags := 25, slot := 12, constantValue := 0 }, { name := "T_FLOAT", type := .int, accessFlags := 25, slot := 13, constantValue := 0 }, { name := "T_DOUBLE", type := .int, accessFlags := 25, slot := 14, constantValue := 0 }, { name := "T_BYTE", type := .int, accessFlags := 25, slot := 15, constantValue := 0 }, { name := "T_SHORT", type := .int, accessFlags := 25, slot := 16, constantValue := 0 }, { name := "T_INT", type := .int, accessFlags := 25, slot := 17, constantValue := 0 }, { name := "T_LONG", type := .int, accessFlags := 25, slot := 18, constantValue := 0 }, { name := "JLA", type := (.object "jdk/internal/access/JavaLangAccess"), accessFlags := 26, slot := 19, constantValue := 0 }, { name := "SOFT_MAX_ARRAY_LENGTH", type := .int, accessFlags := 25, slot := 20, constantValue := 0 }]
  methods := #[k14m0, k14m1]
  instanceTypes := #[]
  staticTypes := #[(.object "jdk/internal/misc/Unsafe"), .boolean, .int, .int, .int, .int, .int, .int, .int, .int, .int, .int, .int, .int, .int, .int, .int, .int, .int, (.object "jdk/internal/access/JavaLangAccess"), .int]
  resolved := Array.replicate 378 none
  statics := none }

def pool15 : Array CpInfo := pool [(1, .fieldref 2 3), (0, .class_ 4), (0, .nameAndType 5 6), (0, u "java/util/Optional"), (0, u "EMPTY"), (0, u "Ljava/util/Optional;"), (0, .methodref 8 9), (0, .class_ 10), (0, .nameAndType 11 12), (0, u "java/lang/Object"), (0, u "<init>"), (0, u "()V"), (0, .fieldref 2 14), (0, .nameAndType 15 16), (0, u "value"), (0, u "Ljava/lang/Object;"), (0, .methodref 18 19), (0, .class_ 20), (0, .nameAndType 21 22), (0, u "java/util/Objects"), (0, u "requireNonNull"), (0, u "(Ljava/lang/Object;)Ljava/lang/Object;"), (0, .methodref 2 24), (0, .nameAndType 11 25), (0, u "(Ljava/lang/Object;)V"), (20, u "()Z"), (8, u "empty"), (0, u "()Ljava/util/Optional;"), (8, u "(Ljava/lang/Object;)Ljava/util/Optional;"), (2, u "isPresent"), (4, u "get"), (0, u "()Ljava/lang/Object;"), (7, u "of")] 104

def k15c0 : Code := { maxStack := 1, maxLocals := 1, code := jdk_32_method_1_code, exceptionTable := #[], attributes := #[] }
def k15m0 : Method := { name := "empty", desc := "()Ljava/util/Optional;", sig := { parameters := [], returnType := some (.object "java/util/Optional") }, accessFlags := 9, code := some k15c0 }
def k15c1 : Code := { maxStack := 2, maxLocals := 2, code := jdk_32_method_2_code, exceptionTable := #[], attributes := #[] }
def k15m1 : Method := { name := "<init>", desc := "(Ljava/lang/Object;)V", sig := { parameters := [(.object "java/lang/Object")], returnType := none }, accessFlags := 2, code := some k15c1 }
def k15c2 : Code := { maxStack := 3, maxLocals := 1, code := jdk_32_method_3_code, exceptionTable := #[], attributes := #[] }
def k15m2 : Method := { name := "of", desc := "(Ljava/lang/Object;)Ljava/util/Optional;", sig := { parameters := [(.object "java/lang/Object")], returnType := some (.object "java/util/Optional") }, accessFlags := 9, code := some k15c2 }
def k15c3 : Code := { maxStack := 3, maxLocals := 1, code := jdk_32_method_5_code, exceptionTable := #[], attributes := #[] }
def k15m3 : Method := { name := "get", desc := "()Ljava/lang/Object;", sig := { parameters := [], returnType := some (.object "java/lang/Object") }, accessFlags := 1, code := some k15c3 }
def k15c4 : Code := { maxStack := 1, maxLocals := 1, code := jdk_32_method_6_code, exceptionTable := #[], attributes := #[] }
def k15m4 : Method := { name := "isPresent", desc := "()Z", sig := { parameters := [], returnType := some .boolean }, accessFlags := 1, code := some k15c4 }
/-- java/util/Optional -/
def k15 : Class := { plain "java/util/Optional" (some 0) with
  accessFlags := 49
  interfaces := #[]
  cf := some (fileOf pool15 2 #[] #[{ accessFlags := 9, nameIndex := 55, descriptorIndex := 56, attributes := #[] }, { accessFlags := 2, nameIndex := 11, descriptorIndex := 25, attributes := #[] }, { accessFlags := 9, nameIndex := 82, descriptorIndex := 65, attributes := #[] }, { accessFlags := 1, nameIndex := 73, descriptorIndex := 74, attributes := #[] }, { accessFlags := 1, nameIndex := 68, descriptorIndex := 46, attributes := #[] }] 49 8 #[] #[{ accessFlags := 26, nameIndex := 5, descriptorIndex := 6, attributes := #[] }, { accessFlags := 18, nameIndex := 15, descriptorIndex := 16, attributes := #[] }])
  fields := #[{ name := "EMPTY", type := (.object "java/util/Optional"), accessFlags := 26, slot := 0, constantValue := 0 }, { name := "value", type := (.object "java/lang/Object"), accessFlags := 18, slot := 0, constantValue := 0 }]
  methods := #[k15m0, k15m1, k15m2, k15m3, k15m4]
  instanceTypes := #[(.object "java/lang/Object")]
  staticTypes := #[(.object "java/util/Optional")]
  resolved := Array.replicate 187 none
  statics := some 2 }

def pool16 : Array CpInfo := pool [(1, .class_ 2), (0, u "java/lang/String"), (1, .class_ 6), (1, u "java/lang/Object"), (0, u "<init>"), (0, u "()V"), (0, .methodref 1 10), (0, .nameAndType 11 12), (0, u "checkIndex"), (0, u "(II)V"), (1, .class_ 16), (1, u "java/lang/StringLatin1"), (21, .methodref 39 40), (0, .class_ 41), (0, .nameAndType 42 43), (0, u "java/lang/Math"), (0, u "min"), (0, u "(II)I"), (9, u "([BI)C"), (34, .methodref 14 89), (0, .nameAndType 90 91), (0, u "canEncode"), (0, u "(I)Z"), (0, .methodref 39 93), (0, .nameAndType 94 43), (0, u "max"), (0, .methodref 14 96), (0, .nameAndType 97 98), (0, u "indexOfChar"), (0, u "([BIII)I"), (2, u "indexOf"), (10, .methodref 1 113), (0, .nameAndType 7 114), (0, u "([BB)V"), (6, u "$assertionsDisabled"), (0, u "Z"), (8, .class_ 133), (1, u "java/util/Arrays"), (62, u "newString"), (0, u "([BII)Ljava/lang/String;"), (23, .class_ 223), (1, u "java/lang/StringLatin1$LinesSpliterator"), (8, .methodref 131 233), (0, .nameAndType 234 235), (0, u "copyOfRange"), (0, u "([BII)[B"), (16, u "charAt"), (28, u "equals"), (0, u "([B[B)Z"), (107, .class_ 391), (0, u "java/lang/StringLatin1$CharsSpliterator")] 3

def k16m0 : Method := { name := "<init>", desc := "()V", sig := { parameters := [], returnType := none }, accessFlags := 0, code := none }
def k16c1 : Code := { maxStack := 2, maxLocals := 2, code := jdk_43_method_2_code, exceptionTable := #[], attributes := #[] }
def k16m1 : Method := { name := "charAt", desc := "([BI)C", sig := { parameters := [(.array .byte), .int], returnType := some .char }, accessFlags := 9, code := some k16c1 }
def k16c2 : Code := { maxStack := 2, maxLocals := 1, code := jdk_43_method_4_code, exceptionTable := #[], attributes := #[] }
def k16m2 : Method := { name := "canEncode", desc := "(I)Z", sig := { parameters := [.int], returnType := some .boolean }, accessFlags := 9, code := some k16c2 }
def k16c3 : Code := { maxStack := 3, maxLocals := 3, code := jdk_43_method_13_code, exceptionTable := #[], attributes := #[] }
def k16m3 : Method := { name := "equals", desc := "([B[B)Z", sig := { parameters := [(.array .byte), (.array .byte)], returnType := some .boolean }, accessFlags := 9, code := some k16c3 }
def k16c4 : Code := { maxStack := 4, maxLocals := 4, code := jdk_43_method_22_code, exceptionTable := #[], attributes := #[] }
def k16m4 : Method := { name := "indexOf", desc := "([BIII)I", sig := { parameters := [(.array .byte), .int, .int, .int], returnType := some .int }, accessFlags := 9, code := some k16c4 }
def k16c5 : Code := { maxStack := 2, maxLocals := 6, code := jdk_43_method_23_code, exceptionTable := #[], attributes := #[] }
def k16m5 : Method := { name := "indexOfChar", desc := "([BIII)I", sig := { parameters := [(.array .byte), .int, .int, .int], returnType := some .int }, accessFlags := 10, code := some k16c5 }
def k16c6 : Code := { maxStack := 6, maxLocals := 3, code := jdk_43_method_47_code, exceptionTable := #[], attributes := #[] }
def k16m6 : Method := { name := "newString", desc := "([BII)Ljava/lang/String;", sig := { parameters := [(.array .byte), .int, .int], returnType := some (.object "java/lang/String") }, accessFlags := 9, code := some k16c6 }
/-- java/lang/StringLatin1 -/
def k16 : Class := { plain "java/lang/StringLatin1" (some 0) with
  accessFlags := 48
  interfaces := #[]
  cf := some (fileOf pool16 14 #[.nestMembers #[390, 221]] #[{ accessFlags := 0, nameIndex := 7, descriptorIndex := 8, attributes := #[] }, { accessFlags := 9, nameIndex := 252, descriptorIndex := 53, attributes := #[] }, { accessFlags := 9, nameIndex := 90, descriptorIndex := 91, attributes := #[] }, { accessFlags := 9, nameIndex := 281, descriptorIndex := 282, attributes := #[] }, { accessFlags := 9, nameIndex := 101, descriptorIndex := 98, attributes := #[] }, { accessFlags := 10, nameIndex := 97, descriptorIndex := 98, attributes := #[] }, { accessFlags := 9, nameIndex := 196, descriptorIndex := 197, attributes := #[] }] 48 4 #[] #[{ accessFlags := 4120, nameIndex := 121, descriptorIndex := 122, attributes := #[] }])
  fields := #[{ name := "$assertionsDisabled", type := .boolean, accessFlags := 4120, slot := 0, constantValue := 0 }]
  methods := #[k16m0, k16m1, k16m2, k16m3, k16m4, k16m5, k16m6]
  instanceTypes := #[]
  staticTypes := #[.boolean]
  resolved := Array.replicate 395 none
  statics := none }

def pool17 : Array CpInfo := pool [(2, .class_ 4), (1, u "java/lang/Object"), (0, u "<init>"), (0, u "()V"), (17, .class_ 26), (1, u "jdk/internal/util/Preconditions"), (6, u "checkIndex"), (13, u "checkFromToIndex"), (7, .class_ 56), (0, u "jdk/internal/util/Preconditions$4"), (57, .class_ 115), (0, u "jdk/internal/util/Preconditions$1"), (7, u "SIOOBE_FORMATTER"), (0, u "Ljava/util/function/BiFunction;"), (0, .class_ 126), (0, u "jdk/internal/util/Preconditions$2"), (3, u "AIOOBE_FORMATTER"), (0, .class_ 132), (0, u "jdk/internal/util/Preconditions$3"), (3, u "IOOBE_FORMATTER"), (41, u "(IILjava/util/function/BiFunction;)I"), (4, u "(IIILjava/util/function/BiFunction;)I")] 10

def k17m0 : Method := { name := "<init>", desc := "()V", sig := { parameters := [], returnType := none }, accessFlags := 1, code := none }
def k17c1 : Code := { maxStack := 3, maxLocals := 3, code := jdk_41_method_11_code, exceptionTable := #[], attributes := #[] }
def k17m1 : Method := { name := "checkIndex", desc := "(IILjava/util/function/BiFunction;)I", sig := { parameters := [.int, .int, (.object "java/util/function/BiFunction")], returnType := some .int }, accessFlags := 9, code := some k17c1 }
def k17c2 : Code := { maxStack := 4, maxLocals := 4, code := jdk_41_method_12_code, exceptionTable := #[], attributes := #[] }
def k17m2 : Method := { name := "checkFromToIndex", desc := "(IIILjava/util/function/BiFunction;)I", sig := { parameters := [.int, .int, .int, (.object "java/util/function/BiFunction")], returnType := some .int }, accessFlags := 9, code := some k17c2 }
/-- jdk/internal/util/Preconditions -/
def k17 : Class := { plain "jdk/internal/util/Preconditions" (some 0) with
  accessFlags := 33
  interfaces := #[]
  cf := some (fileOf pool17 24 #[.nestMembers #[55, 131, 125, 114]] #[{ accessFlags := 1, nameIndex := 5, descriptorIndex := 6, attributes := #[] }, { accessFlags := 9, nameIndex := 33, descriptorIndex := 178, attributes := #[] }, { accessFlags := 9, nameIndex := 47, descriptorIndex := 183, attributes := #[] }] 33 2 #[] #[{ accessFlags := 25, nameIndex := 123, descriptorIndex := 124, attributes := #[] }, { accessFlags := 25, nameIndex := 130, descriptorIndex := 124, attributes := #[] }, { accessFlags := 25, nameIndex := 136, descriptorIndex := 124, attributes := #[] }])
  fields := #[{ name := "SIOOBE_FORMATTER", type := (.object "java/util/function/BiFunction"), accessFlags := 25, slot := 0, constantValue := 0 }, { name := "AIOOBE_FORMATTER", type := (.object "java/util/function/BiFunction"), accessFlags := 25, slot := 1, constantValue := 0 }, { name := "IOOBE_FORMATTER", type := (.object "java/util/function/BiFunction"), accessFlags := 25, slot := 2, constantValue := 0 }]
  methods := #[k17m0, k17m1, k17m2]
  instanceTypes := #[]
  staticTypes := #[(.object "java/util/function/BiFunction"), (.object "java/util/function/BiFunction"), (.object "java/util/function/BiFunction")]
  resolved := Array.replicate 194 none
  statics := some 3 }

def pool18 : Array CpInfo := pool [(2, .class_ 4), (1, u "java/lang/Object"), (0, u "<init>"), (0, u "()V"), (7, .class_ 16), (1, u "java/util/Arrays"), (57, .class_ 76), (1, u "java/util/Arrays$NaturalOrder"), (36, .class_ 115), (1, u "java/util/Arrays$LegacyMergeSort"), (1, u "Z"), (21, u "copyOfRange"), (10, .methodref 151 152), (0, .class_ 153), (0, .nameAndType 154 155), (0, u "java/lang/System"), (0, u "arraycopy"), (0, u "(Ljava/lang/Object;ILjava/lang/Object;II)V"), (148, .methodref 305 306), (0, .class_ 307), (0, .nameAndType 308 309), (0, u "java/lang/Math"), (0, u "min"), (0, u "(II)I"), (29, .methodref 14 340), (0, .nameAndType 341 342), (0, u "copyOfRangeByte"), (0, u "([BII)[B"), (0, .methodref 14 344), (0, .nameAndType 345 346), (0, u "checkLength"), (0, u "(II)V"), (28, .class_ 376), (0, u "java/util/Arrays$ArrayList"), (68, u "$assertionsDisabled"), (269, u "MIN_ARRAY_SORT_GRAN"), (0, u "I"), (2, u "INSERTIONSORT_THRESHOLD"), (255, .class_ 976), (0, u "java/util/Arrays$ArrayItr")] 52

def k18m0 : Method := { name := "<init>", desc := "()V", sig := { parameters := [], returnType := none }, accessFlags := 2, code := none }
def k18c1 : Code := { maxStack := 4, maxLocals := 2, code := jdk_65_method_131_code, exceptionTable := #[], attributes := #[] }
def k18m1 : Method := { name := "checkLength", desc := "(II)V", sig := { parameters := [.int, .int], returnType := none }, accessFlags := 10, code := some k18c1 }
def k18c2 : Code := { maxStack := 3, maxLocals := 3, code := jdk_65_method_132_code, exceptionTable := #[], attributes := #[] }
def k18m2 : Method := { name := "copyOfRange", desc := "([BII)[B", sig := { parameters := [(.array .byte), .int, .int], returnType := some (.array .byte) }, accessFlags := 9, code := some k18c2 }
def k18c3 : Code := { maxStack := 6, maxLocals := 5, code := jdk_65_method_133_code, exceptionTable := #[], attributes := #[] }
def k18m3 : Method := { name := "copyOfRangeByte", desc := "([BII)[B", sig := { parameters := [(.array .byte), .int, .int], returnType := some (.array .byte) }, accessFlags := 10, code := some k18c3 }
/-- java/util/Arrays -/
def k18 : Class := { plain "java/util/Arrays" (some 0) with
  accessFlags := 49
  interfaces := #[]
  cf := some (fileOf pool18 14 #[.nestMembers #[975, 375, 113, 74]] #[{ accessFlags := 2, nameIndex := 5, descriptorIndex := 6, attributes := #[] }, { accessFlags := 10, nameIndex := 345, descriptorIndex := 346, attributes := #[] }, { accessFlags := 9, nameIndex := 139, descriptorIndex := 342, attributes := #[] }, { accessFlags := 10, nameIndex := 341, descriptorIndex := 342, attributes := #[] }] 49 2 #[] #[{ accessFlags := 26, nameIndex := 715, descriptorIndex := 716, attributes := #[] }, { accessFlags := 26, nameIndex := 719, descriptorIndex := 716, attributes := #[] }, { accessFlags := 4120, nameIndex := 445, descriptorIndex := 117, attributes := #[] }])
  fields := #[{ name := "MIN_ARRAY_SORT_GRAN", type := .int, accessFlags := 26, slot := 0, constantValue := 0 }, { name := "INSERTIONSORT_THRESHOLD", type := .int, accessFlags := 26, slot := 1, constantValue := 0 }, { name := "$assertionsDisabled", type := .boolean, accessFlags := 4120, slot := 2, constantValue := 0 }]
  methods := #[k18m0, k18m1, k18m2, k18m3]
  instanceTypes := #[]
  staticTypes := #[.int, .int, .boolean]
  resolved := Array.replicate 1029 none
  statics := none }

def pool19 : Array CpInfo := pool [(1, .class_ 2), (0, u "java/lang/Math"), (1, .class_ 6), (1, u "java/lang/Object"), (0, u "<init>"), (0, u "()V"), (89, .class_ 100), (1, u "java/lang/Math$RandomNumberGeneratorHolder"), (71, u "negativeZeroFloatBits"), (0, u "J"), (2, u "negativeZeroDoubleBits"), (21, u "max"), (2, u "min"), (43, u "$assertionsDisabled"), (0, u "Z"), (88, u "(II)I"), (2, u "twoToTheDoubleScaleDown"), (0, u "D"), (4, u "twoToTheDoubleScaleUp"), (9, u "E"), (3, u "PI"), (2, u "TAU"), (2, u "DEGREES_TO_RADIANS"), (0, u "RADIANS_TO_DEGREES")] 94

def k19m0 : Method := { name := "<init>", desc := "()V", sig := { parameters := [], returnType := none }, accessFlags := 2, code := none }
def k19c1 : Code := { maxStack := 2, maxLocals := 2, code := jdk_29_method_65_code, exceptionTable := #[], attributes := #[] }
def k19m1 : Method := { name := "max", desc := "(II)I", sig := { parameters := [.int, .int], returnType := some .int }, accessFlags := 9, code := some k19c1 }
def k19c2 : Code := { maxStack := 2, maxLocals := 2, code := jdk_29_method_69_code, exceptionTable := #[], attributes := #[] }
def k19m2 : Method := { name := "min", desc := "(II)I", sig := { parameters := [.int, .int], returnType := some .int }, accessFlags := 9, code := some k19c2 }
/-- java/lang/Math -/
def k19 : Class := { plain "java/lang/Math" (some 0) with
  accessFlags := 49
  interfaces := #[]
  cf := some (fileOf pool19 1 #[.nestMembers #[98]] #[{ accessFlags := 2, nameIndex := 7, descriptorIndex := 8, attributes := #[] }, { accessFlags := 9, nameIndex := 198, descriptorIndex := 335, attributes := #[] }, { accessFlags := 9, nameIndex := 201, descriptorIndex := 335, attributes := #[] }] 49 4 #[] #[{ accessFlags := 25, nameIndex := 354, descriptorIndex := 339, attributes := #[] }, { accessFlags := 25, nameIndex := 358, descriptorIndex := 339, attributes := #[] }, { accessFlags := 25, nameIndex := 361, descriptorIndex := 339, attributes := #[] }, { accessFlags := 26, nameIndex := 364, descriptorIndex := 339, attributes := #[] }, { accessFlags := 26, nameIndex := 365, descriptorIndex := 339, attributes := #[] }, { accessFlags := 26, nameIndex := 172, descriptorIndex := 173, attributes := #[] }, { accessFlags := 26, nameIndex := 176, descriptorIndex := 173, attributes := #[] }, { accessFlags := 8, nameIndex := 344, descriptorIndex := 339, attributes := #[] }, { accessFlags := 8, nameIndex := 338, descriptorIndex := 339, attributes := #[] }, { accessFlags := 4120, nameIndex := 245, descriptorIndex := 246, attributes := #[] }])
  fields := #[{ name := "E", type := .double, accessFlags := 25, slot := 0, constantValue := 0 }, { name := "PI", type := .double, accessFlags := 25, slot := 1, constantValue := 0 }, { name := "TAU", type := .double, accessFlags := 25, slot := 2, constantValue := 0 }, { name := "DEGREES_TO_RADIANS", type := .double, accessFlags := 26, slot := 3, constantValue := 0 }, { name := "RADIANS_TO_DEGREES", type := .double, accessFlags := 26, slot := 4, constantValue := 0 }, { name := "negativeZeroFloatBits", type := .long, accessFlags := 26, slot := 5, constantValue := 0 }, { name := "negativeZeroDoubleBits", type := .long, accessFlags := 26, slot := 6, constantValue := 0 }, { name := "twoToTheDoubleScaleUp", type := .double, accessFlags := 8, slot := 7, constantValue := 0 }, { name := "twoToTheDoubleScaleDown", type := .double, accessFlags := 8, slot := 8, constantValue := 0 }, { name := "$assertionsDisabled", type := .boolean, accessFlags := 4120, slot := 9, constantValue := 0 }]
  methods := #[k19m0, k19m1, k19m2]
  instanceTypes := #[]
  staticTypes := #[.double, .double, .double, .double, .double, .long, .long, .double, .double, .boolean]
  resolved := Array.replicate 460 none
  statics := none }

def pool20 : Array CpInfo := pool [(2, .class_ 4), (1, u "java/lang/Object"), (0, u "<init>"), (0, u "()V"), (1, .class_ 10), (1, u "java/lang/System"), (0, u "allowSecurityManager"), (0, u "I"), (16, u "cons"), (0, u "Ljava/io/Console;"), (77, .class_ 110), (1, u "java/lang/System$CallersHolder"), (43, u "initialErrStream"), (0, u "Ljava/io/PrintStream;"), (19, u "security"), (0, u "Ljava/lang/SecurityManager;"), (31, .class_ 209), (0, u "java/lang/System$1"), (7, u "props"), (0, u "Ljava/util/Properties;"), (2, u "lineSeparator"), (0, u "Ljava/lang/String;"), (96, .class_ 321), (1, u "java/lang/System$LoggerFinder"), (5, .class_ 328), (0, u "java/lang/System$Logger"), (67, u "err"), (2, u "out"), (91, u "notSupportedJnuEncoding"), (15, u "in"), (17, u "initialIn"), (0, u "Ljava/io/InputStream;"), (35, u "bootLayer"), (0, u "Ljava/lang/ModuleLayer;"), (99, .class_ 664), (0, u "java/lang/System$2"), (9, u "NEVER"), (2, u "MAYBE"), (49, u "arraycopy"), (0, u "(Ljava/lang/Object;ILjava/lang/Object;II)V"), (72, .class_ 802), (0, u "java/lang/System$Logger$Level")] 31

def k20m0 : Method := { name := "<init>", desc := "()V", sig := { parameters := [], returnType := none }, accessFlags := 2, code := none }
def k20m1 : Method := { name := "arraycopy", desc := "(Ljava/lang/Object;ILjava/lang/Object;II)V", sig := { parameters := [(.object "java/lang/Object"), .int, (.object "java/lang/Object"), .int, .int], returnType := none }, accessFlags := 265, code := none }
/-- java/lang/System -/
def k20 : Class := { plain "java/lang/System" (some 0) with
  accessFlags := 49
  interfaces := #[]
  cf := some (fileOf pool20 8 #[.nestMembers #[319, 327, 801, 108, 663, 208]] #[{ accessFlags := 2, nameIndex := 5, descriptorIndex := 6, attributes := #[] }, { accessFlags := 265, nameIndex := 727, descriptorIndex := 728, attributes := #[] }] 49 2 #[] #[{ accessFlags := 25, nameIndex := 507, descriptorIndex := 526, attributes := #[] }, { accessFlags := 25, nameIndex := 399, descriptorIndex := 155, attributes := #[] }, { accessFlags := 25, nameIndex := 396, descriptorIndex := 155, attributes := #[] }, { accessFlags := 10, nameIndex := 525, descriptorIndex := 526, attributes := #[] }, { accessFlags := 26, nameIndex := 674, descriptorIndex := 12, attributes := #[] }, { accessFlags := 26, nameIndex := 677, descriptorIndex := 12, attributes := #[] }, { accessFlags := 10, nameIndex := 11, descriptorIndex := 12, attributes := #[] }, { accessFlags := 74, nameIndex := 175, descriptorIndex := 176, attributes := #[] }, { accessFlags := 10, nameIndex := 491, descriptorIndex := 222, attributes := #[] }, { accessFlags := 74, nameIndex := 29, descriptorIndex := 30, attributes := #[] }, { accessFlags := 74, nameIndex := 154, descriptorIndex := 155, attributes := #[] }, { accessFlags := 10, nameIndex := 217, descriptorIndex := 218, attributes := #[] }, { accessFlags := 10, nameIndex := 221, descriptorIndex := 222, attributes := #[] }, { accessFlags := 8, nameIndex := 562, descriptorIndex := 563, attributes := #[] }])
  fields := #[{ name := "in", type := (.object "java/io/InputStream"), accessFlags := 25, slot := 0, constantValue := 0 }, { name := "out", type := (.object "java/io/PrintStream"), accessFlags := 25, slot := 1, constantValue := 0 }, { name := "err", type := (.object "java/io/PrintStream"), accessFlags := 25, slot := 2, constantValue := 0 }, { name := "initialIn", type := (.object "java/io/InputStream"), accessFlags := 10, slot := 3, constantValue := 0 }, { name := "NEVER", type := .int, accessFlags := 26, slot := 4, constantValue := 0 }, { name := "MAYBE", type := .int, accessFlags := 26, slot := 5, constantValue := 0 }, { name := "allowSecurityManager", type := .int, accessFlags := 10, slot := 6, constantValue := 0 }, { name := "security", type := (.object "java/lang/SecurityManager"), accessFlags := 74, slot := 7, constantValue := 0 }, { name := "notSupportedJnuEncoding", type := (.object "java/lang/String"), accessFlags := 10, slot := 8, constantValue := 0 }, { name := "cons", type := (.object "java/io/Console"), accessFlags := 74, slot := 9, constantValue := 0 }, { name := "initialErrStream", type := (.object "java/io/PrintStream"), accessFlags := 74, slot := 10, constantValue := 0 }, { name := "props", type := (.object "java/util/Properties"), accessFlags := 10, slot := 11, constantValue := 0 }, { name := "lineSeparator", type := (.object "java/lang/String"), accessFlags := 10, slot := 12, constantValue := 0 }, { name := "bootLayer", type := (.object "java/lang/ModuleLayer"), accessFlags := 8, slot := 13, constantValue := 0 }]
  methods := #[k20m0, k20m1]
  instanceTypes := #[]
  staticTypes := #[(.object "java/io/InputStream"), (.object "java/io/PrintStream"), (.object "java/io/PrintStream"), (.object "java/io/InputStream"), .int, .int, .int, (.object "java/lang/SecurityManager"), (.object "java/lang/String"), (.object "java/io/Console"), (.object "java/io/PrintStream"), (.object "java/util/Properties"), (.object "java/lang/String"), (.object "java/lang/ModuleLayer")]
  resolved := Array.replicate 834 none
  statics := none }

def pool21 : Array CpInfo := pool [(1, .methodref 2 3), (0, .class_ 4), (0, .nameAndType 5 6), (0, u "java/lang/Record"), (0, u "<init>"), (0, u "()V"), (0, .string 8), (0, u "value"), (0, .methodref 10 11), (0, .class_ 12), (0, .nameAndType 13 14), (0, u "java/util/Objects"), (0, u "requireNonNull"), (0, u "(Ljava/lang/Object;Ljava/lang/String;)Ljava/lang/Object;"), (0, .methodref 16 17), (0, .class_ 18), (0, .nameAndType 19 20), (0, u "java/lang/String"), (0, u "isEmpty"), (0, u "()Z"), (6, u "(Ljava/lang/String;)V"), (0, .methodref 16 29), (0, .nameAndType 30 31), (0, u "length"), (0, u "()I"), (0, .class_ 33), (0, u "com/example/gentle_hub/gentlehub/core/ChannelName"), (2, .methodref 16 37), (0, .nameAndType 38 39), (0, u "charAt"), (0, u "(I)C"), (0, .methodref 32 41), (0, .nameAndType 42 43), (0, u "isAllowed"), (0, u "(C)Z"), (7, u "(I)I"), (10, .string 63), (0, u "."), (0, .methodref 16 65), (0, .nameAndType 66 67), (0, u "equals"), (0, u "(Ljava/lang/Object;)Z"), (0, .string 69), (0, u ".."), (14, u "()Ljava/lang/String;"), (0, .fieldref 32 86), (0, .nameAndType 8 87), (0, u "Ljava/lang/String;"), (0, .string 89), (0, u "._~-"), (0, .methodref 16 91), (0, .nameAndType 92 51), (0, u "indexOf"), (7, u "MAX_LENGTH"), (0, u "I"), (2, u "ALLOWED_PUNCTUATION")] 22

def k21c0 : Code := { maxStack := 8, maxLocals := 3, code := prog_1_method_1_code, exceptionTable := #[], attributes := #[] }
def k21m0 : Method := { name := "<init>", desc := "(Ljava/lang/String;)V", sig := { parameters := [(.object "java/lang/String")], returnType := none }, accessFlags := 1, code := some k21c0 }
def k21c1 : Code := { maxStack := 2, maxLocals := 1, code := prog_1_method_2_code, exceptionTable := #[], attributes := #[] }
def k21m1 : Method := { name := "isAllowed", desc := "(C)Z", sig := { parameters := [.char], returnType := some .boolean }, accessFlags := 10, code := some k21c1 }
def k21c2 : Code := { maxStack := 1, maxLocals := 1, code := prog_1_method_6_code, exceptionTable := #[], attributes := #[] }
def k21m2 : Method := { name := "value", desc := "()Ljava/lang/String;", sig := { parameters := [], returnType := some (.object "java/lang/String") }, accessFlags := 1, code := some k21c2 }
/-- com/example/gentle_hub/gentlehub/core/ChannelName -/
def k21 : Class := { plain "com/example/gentle_hub/gentlehub/core/ChannelName" (some 9) with
  accessFlags := 49
  interfaces := #[]
  cf := some (fileOf pool21 32 #[] #[{ accessFlags := 1, nameIndex := 5, descriptorIndex := 27, attributes := #[] }, { accessFlags := 10, nameIndex := 42, descriptorIndex := 43, attributes := #[] }, { accessFlags := 1, nameIndex := 8, descriptorIndex := 84, attributes := #[] }] 49 2 #[] #[{ accessFlags := 18, nameIndex := 8, descriptorIndex := 87, attributes := #[] }, { accessFlags := 25, nameIndex := 100, descriptorIndex := 101, attributes := #[] }, { accessFlags := 26, nameIndex := 104, descriptorIndex := 87, attributes := #[] }])
  fields := #[{ name := "value", type := (.object "java/lang/String"), accessFlags := 18, slot := 0, constantValue := 0 }, { name := "MAX_LENGTH", type := .int, accessFlags := 25, slot := 0, constantValue := 0 }, { name := "ALLOWED_PUNCTUATION", type := (.object "java/lang/String"), accessFlags := 26, slot := 1, constantValue := 0 }]
  methods := #[k21m0, k21m1, k21m2]
  instanceTypes := #[(.object "java/lang/String")]
  staticTypes := #[.int, (.object "java/lang/String")]
  resolved := Array.replicate 127 none
  statics := none }

def pool22 : Array CpInfo := pool [(2, .class_ 4), (1, u "java/lang/Object"), (0, u "<init>"), (0, u "()V"), (35, .class_ 44), (1, u "java/util/Objects"), (0, u "requireNonNull"), (0, u "(Ljava/lang/Object;)Ljava/lang/Object;"), (47, u "(Ljava/lang/Object;Ljava/lang/String;)Ljava/lang/Object;")] 89

def k22m0 : Method := { name := "<init>", desc := "()V", sig := { parameters := [], returnType := none }, accessFlags := 2, code := none }
def k22c1 : Code := { maxStack := 2, maxLocals := 1, code := jdk_31_method_10_code, exceptionTable := #[], attributes := #[] }
def k22m1 : Method := { name := "requireNonNull", desc := "(Ljava/lang/Object;)Ljava/lang/Object;", sig := { parameters := [(.object "java/lang/Object")], returnType := some (.object "java/lang/Object") }, accessFlags := 9, code := some k22c1 }
def k22c2 : Code := { maxStack := 3, maxLocals := 2, code := jdk_31_method_11_code, exceptionTable := #[], attributes := #[] }
def k22m2 : Method := { name := "requireNonNull", desc := "(Ljava/lang/Object;Ljava/lang/String;)Ljava/lang/Object;", sig := { parameters := [(.object "java/lang/Object"), (.object "java/lang/String")], returnType := some (.object "java/lang/Object") }, accessFlags := 9, code := some k22c2 }
/-- java/util/Objects -/
def k22 : Class := { plain "java/util/Objects" (some 0) with
  accessFlags := 49
  interfaces := #[]
  cf := some (fileOf pool22 42 #[] #[{ accessFlags := 2, nameIndex := 5, descriptorIndex := 6, attributes := #[] }, { accessFlags := 9, nameIndex := 45, descriptorIndex := 46, attributes := #[] }, { accessFlags := 9, nameIndex := 45, descriptorIndex := 94, attributes := #[] }] 49 2 #[] #[])
  fields := #[]
  methods := #[k22m0, k22m1, k22m2]
  instanceTypes := #[]
  staticTypes := #[]
  resolved := Array.replicate 184 none
  statics := none }

def pool23 : Array CpInfo := pool [(1, .class_ 2), (0, u "java/lang/Appendable"), (0, .class_ 4), (0, u "java/lang/Object")] 9

/-- java/lang/Appendable -/
def k23 : Class := { plain "java/lang/Appendable" (some 0) with
  accessFlags := 1537
  interfaces := #[]
  cf := some (fileOf pool23 1 #[] #[] 1537 3 #[] #[])
  fields := #[]
  methods := #[]
  instanceTypes := #[]
  staticTypes := #[]
  resolved := Array.replicate 14 none
  statics := none }

def pool24 : Array CpInfo := pool [(1, .class_ 2), (0, u "java/lang/String"), (0, .methodref 4 5), (0, .class_ 6), (0, .nameAndType 7 8), (0, u "java/lang/Object"), (0, u "<init>"), (0, u "()V"), (1, .class_ 12), (1, u "java/lang/AbstractStringBuilder"), (0, u "EMPTYVALUE"), (0, u "[B"), (0, .fieldref 10 16), (0, .nameAndType 17 14), (0, u "value"), (0, .fieldref 1 19), (0, .nameAndType 20 21), (0, u "COMPACT_STRINGS"), (0, u "Z"), (0, .fieldref 10 23), (0, .nameAndType 24 25), (0, u "coder"), (0, u "B"), (6, .methodref 1 33), (0, .nameAndType 34 35), (0, u "length"), (0, u "()I"), (4, .methodref 1 41), (0, .nameAndType 24 42), (0, u "()B"), (2, u "append"), (0, u "(Ljava/lang/String;)Ljava/lang/AbstractStringBuilder;"), (1, .class_ 49), (0, u "java/lang/CharSequence"), (19, u "(Ljava/lang/String;)V"), (5, u "maybeLatin1"), (3, .fieldref 10 80), (0, .nameAndType 81 82), (0, u "count"), (0, u "I"), (2, u "isLatin1"), (0, u "()Z"), (13, .methodref 10 101), (0, .nameAndType 102 103), (0, u "ensureCapacityInternal"), (0, u "(I)V"), (104, .methodref 10 209), (0, .nameAndType 210 211), (0, u "putStringAt"), (0, u "(ILjava/lang/String;)V"), (5, u "inflateIfNeededFor"), (2, .nameAndType 221 222), (0, u "getBytes"), (0, u "([BIB)V"), (174, .methodref 10 398), (0, .nameAndType 217 69), (0, .methodref 1 220), (3, u "()[B"), (40, .class_ 445), (0, u "java/lang/Appendable"), (106, u "getValue")] 56

def k24m0 : Method := { name := "<init>", desc := "()V", sig := { parameters := [], returnType := none }, accessFlags := 0, code := none }
def k24c1 : Code := { maxStack := 2, maxLocals := 2, code := jdk_68_method_2_code, exceptionTable := #[], attributes := #[] }
def k24m1 : Method := { name := "<init>", desc := "(I)V", sig := { parameters := [.int], returnType := none }, accessFlags := 0, code := some k24c1 }
def k24c2 : Code := { maxStack := 1, maxLocals := 1, code := jdk_68_method_6_code, exceptionTable := #[], attributes := #[] }
def k24m2 : Method := { name := "length", desc := "()I", sig := { parameters := [], returnType := some .int }, accessFlags := 1, code := some k24c2 }
def k24c3 : Code := { maxStack := 4, maxLocals := 3, code := jdk_68_method_9_code, exceptionTable := #[], attributes := #[] }
def k24m3 : Method := { name := "ensureCapacityInternal", desc := "(I)V", sig := { parameters := [.int], returnType := none }, accessFlags := 2, code := some k24c3 }
def k24c4 : Code := { maxStack := 3, maxLocals := 3, code := jdk_68_method_22_code, exceptionTable := #[], attributes := #[] }
def k24m4 : Method := { name := "append", desc := "(Ljava/lang/String;)Ljava/lang/AbstractStringBuilder;", sig := { parameters := [(.object "java/lang/String")], returnType := some (.object "java/lang/AbstractStringBuilder") }, accessFlags := 1, code := some k24c4 }
def k24c5 : Code := { maxStack := 1, maxLocals := 1, code := jdk_68_method_64_code, exceptionTable := #[], attributes := #[] }
def k24m5 : Method := { name := "getValue", desc := "()[B", sig := { parameters := [], returnType := some (.array .byte) }, accessFlags := 16, code := some k24c5 }
def k24c6 : Code := { maxStack := 1, maxLocals := 1, code := jdk_68_method_68_code, exceptionTable := #[], attributes := #[] }
def k24m6 : Method := { name := "isLatin1", desc := "()Z", sig := { parameters := [], returnType := some .boolean }, accessFlags := 16, code := some k24c6 }
def k24c7 : Code := { maxStack := 2, maxLocals := 2, code := jdk_68_method_71_code, exceptionTable := #[], attributes := #[] }
def k24m7 : Method := { name := "inflateIfNeededFor", desc := "(Ljava/lang/String;)V", sig := { parameters := [(.object "java/lang/String")], returnType := none }, accessFlags := 2, code := some k24c7 }
def k24c8 : Code := { maxStack := 4, maxLocals := 3, code := jdk_68_method_73_code, exceptionTable := #[], attributes := #[] }
def k24m8 : Method := { name := "putStringAt", desc := "(ILjava/lang/String;)V", sig := { parameters := [.int, (.object "java/lang/String")], returnType := none }, accessFlags := 2, code := some k24c8 }
/-- java/lang/AbstractStringBuilder -/
def k24 : Class := { plain "java/lang/AbstractStringBuilder" (some 0) with
  accessFlags := 1056
  interfaces := #[23, 4]
  cf := some (fileOf pool24 10 #[] #[{ accessFlags := 0, nameIndex := 7, descriptorIndex := 8, attributes := #[] }, { accessFlags := 0, nameIndex := 7, descriptorIndex := 103, attributes := #[] }, { accessFlags := 1, nameIndex := 34, descriptorIndex := 35, attributes := #[] }, { accessFlags := 2, nameIndex := 102, descriptorIndex := 103, attributes := #[] }, { accessFlags := 1, nameIndex := 45, descriptorIndex := 46, attributes := #[] }, { accessFlags := 16, nameIndex := 552, descriptorIndex := 403, attributes := #[] }, { accessFlags := 16, nameIndex := 85, descriptorIndex := 86, attributes := #[] }, { accessFlags := 2, nameIndex := 217, descriptorIndex := 69, attributes := #[] }, { accessFlags := 2, nameIndex := 210, descriptorIndex := 211, attributes := #[] }] 1056 4 #[444, 48] #[{ accessFlags := 0, nameIndex := 17, descriptorIndex := 14, attributes := #[] }, { accessFlags := 0, nameIndex := 24, descriptorIndex := 25, attributes := #[] }, { accessFlags := 0, nameIndex := 75, descriptorIndex := 21, attributes := #[] }, { accessFlags := 0, nameIndex := 81, descriptorIndex := 82, attributes := #[] }, { accessFlags := 26, nameIndex := 13, descriptorIndex := 14, attributes := #[] }])
  fields := #[{ name := "value", type := (.array .byte), accessFlags := 0, slot := 0, constantValue := 0 }, { name := "coder", type := .byte, accessFlags := 0, slot := 1, constantValue := 0 }, { name := "maybeLatin1", type := .boolean, accessFlags := 0, slot := 2, constantValue := 0 }, { name := "count", type := .int, accessFlags := 0, slot := 3, constantValue := 0 }, { name := "EMPTYVALUE", type := (.array .byte), accessFlags := 26, slot := 0, constantValue := 0 }]
  methods := #[k24m0, k24m1, k24m2, k24m3, k24m4, k24m5, k24m6, k24m7, k24m8]
  instanceTypes := #[(.array .byte), .byte, .boolean, .int]
  staticTypes := #[(.array .byte)]
  resolved := Array.replicate 609 none
  statics := none }

def pool25 : Array CpInfo := pool [(1, .methodref 2 3), (0, .class_ 4), (0, .nameAndType 5 6), (0, u "java/lang/AbstractStringBuilder"), (0, u "<init>"), (0, u "(I)V"), (11, .class_ 20), (1, u "java/lang/String"), (3, .class_ 26), (1, u "java/lang/StringBuilder"), (0, u "append"), (0, u "(Ljava/lang/String;)Ljava/lang/StringBuilder;"), (0, .methodref 2 30), (0, .nameAndType 27 31), (0, u "(Ljava/lang/String;)Ljava/lang/AbstractStringBuilder;"), (105, .methodref 18 138), (0, .nameAndType 5 139), (0, u "(Ljava/lang/StringBuilder;)V"), (5, u "()V"), (10, u "()I"), (186, .methodref 2 344), (0, .nameAndType 345 156), (0, u "length"), (3, .class_ 350), (0, u "java/lang/Appendable"), (0, .class_ 352), (0, u "java/io/Serializable"), (0, .class_ 354), (0, u "java/lang/Comparable"), (0, .class_ 356), (0, u "java/lang/CharSequence"), (0, u "serialVersionUID"), (0, u "J"), (40, u "toString"), (0, u "()Ljava/lang/String;")] 21

def k25c0 : Code := { maxStack := 2, maxLocals := 1, code := jdk_67_method_1_code, exceptionTable := #[], attributes := #[] }
def k25m0 : Method := { name := "<init>", desc := "()V", sig := { parameters := [], returnType := none }, accessFlags := 1, code := some k25c0 }
def k25c1 : Code := { maxStack := 2, maxLocals := 2, code := jdk_67_method_7_code, exceptionTable := #[], attributes := #[] }
def k25m1 : Method := { name := "append", desc := "(Ljava/lang/String;)Ljava/lang/StringBuilder;", sig := { parameters := [(.object "java/lang/String")], returnType := some (.object "java/lang/StringBuilder") }, accessFlags := 1, code := some k25c1 }
def k25c2 : Code := { maxStack := 3, maxLocals := 1, code := jdk_67_method_42_code, exceptionTable := #[], attributes := #[] }
def k25m2 : Method := { name := "toString", desc := "()Ljava/lang/String;", sig := { parameters := [], returnType := some (.object "java/lang/String") }, accessFlags := 1, code := some k25c2 }
def k25c3 : Code := { maxStack := 1, maxLocals := 1, code := jdk_67_method_93_code, exceptionTable := #[], attributes := #[] }
def k25m3 : Method := { name := "length", desc := "()I", sig := { parameters := [], returnType := some .int }, accessFlags := 4161, code := some k25c3 }
/-- java/lang/StringBuilder -/
def k25 : Class := { plain "java/lang/StringBuilder" (some 24) with
  accessFlags := 49
  interfaces := #[23, 2, 3, 4]
  cf := some (fileOf pool25 24 #[] #[{ accessFlags := 1, nameIndex := 5, descriptorIndex := 145, attributes := #[] }, { accessFlags := 1, nameIndex := 27, descriptorIndex := 28, attributes := #[] }, { accessFlags := 1, nameIndex := 399, descriptorIndex := 400, attributes := #[] }, { accessFlags := 4161, nameIndex := 345, descriptorIndex := 156, attributes := #[] }] 49 2 #[349, 351, 353, 355] #[{ accessFlags := 24, nameIndex := 357, descriptorIndex := 358, attributes := #[] }])
  fields := #[{ name := "serialVersionUID", type := .long, accessFlags := 24, slot := 0, constantValue := 0 }]
  methods := #[k25m0, k25m1, k25m2, k25m3]
  instanceTypes := #[(.array .byte), .byte, .boolean, .int]
  staticTypes := #[.long]
  resolved := Array.replicate 422 none
  statics := none }

/-- the primitive byte -/
def k26 : Class := { plain "byte" none with kind := .primitive 'B', accessFlags := 0x411 }
/-- [B -/
def k27 : Class := { plain "[B" (some 0) with kind := .array 26 .byte, interfaces := #[13, 2], accessFlags := 1041 }

/-- the primitive char -/
def k28 : Class := { plain "char" none with kind := .primitive 'C', accessFlags := 0x411 }
/-- [C -/
def k29 : Class := { plain "[C" (some 0) with kind := .array 28 .char, interfaces := #[13, 2], accessFlags := 1041 }

/-- the primitive int -/
def k30 : Class := { plain "int" none with kind := .primitive 'I', accessFlags := 0x411 }
/-- [I -/
def k31 : Class := { plain "[I" (some 0) with kind := .array 30 .int, interfaces := #[13, 2], accessFlags := 1041 }

/-- [Lcom/example/gentle_hub/gentlehub/server/ChannelLocation$Role; -/
def k32 : Class := { plain "[Lcom/example/gentle_hub/gentlehub/server/ChannelLocation$Role;" (some 0) with kind := .array 12 (.object "com/example/gentle_hub/gentlehub/server/ChannelLocation$Role"), interfaces := #[13, 2], accessFlags := 1041 }

def heap : Heap := #[{ cls := 7, slots := #[.long 0, .int 1, .null, .int 0, .null, .int 0, .int 0], vm := .statics 7 },
  { cls := 12, slots := #[.ref 5, .ref 6, .ref 4], vm := .statics 12 },
  { cls := 15, slots := #[.ref 11], vm := .statics 15 },
  { cls := 17, slots := #[.null, .null, .null], vm := .statics 17 },
  { cls := 32, slots := #[.ref 5, .ref 6], vm := .none },
  { cls := 12, slots := #[.null, .int 0, .int 0, .ref 7], vm := .none },
  { cls := 12, slots := #[.null, .int 1, .int 0, .ref 8], vm := .none },
  { cls := 7, slots := #[.ref 9, .int 0, .int 0, .int 0], vm := .none },
  { cls := 7, slots := #[.ref 10, .int 0, .int 0, .int 0], vm := .none },
  { cls := 27, slots := #[.int 47, .int 112, .int 117, .int 98, .int 47], vm := .none },
  { cls := 27, slots := #[.int 47, .int 115, .int 117, .int 98, .int 47], vm := .none },
  { cls := 15, slots := #[.null], vm := .none }]
def classes : Array Class := #[k0, k1, k2, k3, k4, k5, k6, k7, k8, k9, k10, k11, k12, k13, k14, k15, k16, k17, k18, k19, k20, k21, k22, k23, k24, k25, k26, k27, k28, k29, k30, k31, k32]
def interned : List (Array UInt16 × Addr) := []
def slotsUsed : Nat := 43
def theMethod : MethodId := ⟨1, 3⟩
def args0 : Array Value := #[.int 31, .int 1, .int 2, .int 3, .int 4, .int 1]
def aboutOver (below : List Frame) : State where
  vm := { classes := classes, interned := interned.toArray }
  heap := heap
  slotsUsed := slotsUsed
  threads := #[{ frames := .invoking theMethod args0 :: below }]
def below0 : List Frame := [.native { method := ⟨0, 0⟩, args := #[] }]
def about1 : State := aboutOver below0
def p0 : Program := .bare "" "" ""
def e0 : Env := launch0.env 0 0 0
theorem w_frames : about1.frames = Frame.invoking theMethod args0 :: below0 := rfl
set_option maxRecDepth 65536 in
theorem w_args : argsFit about1.vm theMethod args0 = true := by decide +kernel
set_option maxRecDepth 65536 in
theorem w_heap : heapFits about1 = true := by decide +kernel
set_option maxRecDepth 65536 in
theorem w_runnable : about1.curStatus? = some .runnable := by decide +kernel
set_option maxRecDepth 65536 in
theorem w_alone : about1.alone = true := by decide +kernel
set_option maxRecDepth 65536 in
theorem w_named : about1.methodNamed? x = some theMethod := by decide +kernel
set_option maxRecDepth 65536 in
theorem w_hears : about1.hears theMethod below0 = true := by decide +kernel
set_option maxRecDepth 65536 in
theorem w_ripe : about1.ripe theMethod args0 below0 = true := by decide +kernel
theorem w_running : about1.status = .running := rfl
set_option maxRecDepth 65536 in
theorem w_room : about1.hasRoom e0.platform room_1 = true :=
  launch0.hasRoom_least _ room_1 (by decide +kernel) (by decide +kernel) (by decide +kernel) (by decide +kernel) (by decide +kernel) (by decide +kernel)
theorem allAtoms_all (ts : List Jvm.Cond) (a : Array Jvm.Value) (st : Jvm.State) : (allAtoms ts).before a st = ts.all (fun c => c.before a st) := by
  induction ts with
  | nil => rfl
  | cons c t ih =>
    show (Jvm.Cond.and c (allAtoms t)).before a st = _
    rw [Jvm.Cond.before_and, ih, List.all_cons]
def words1 : List Jvm.Cond := Jvm.Cond.code x code maxLocals ret :: tables_1
/-- a 'code' word, met by the world's own term for the bytes: nothing is compared byte by byte -/
theorem code_word {y : MethodName} {bytes : ByteArray} {mx : Nat} {rt : Option FieldType} {a : Array Value} {s : State} {m : MethodId} {meth : Method} {c : Code} (h1 : s.methodNamed? y = some m) (h2 : s.vm.method? m = some meth) (h3 : meth.code = some c) (h4 : c.code = bytes)
    (h5 : (c.maxLocals == mx && c.exceptionTable.isEmpty && decide (c.maxStack ≤ mostOperands) && decide (meth.sig.returnType = rt) && !meth.locks && decide (parseMethodDescriptor y.desc = some meth.sig)) = true) : (Jvm.Cond.code y bytes mx rt).before a s = true := by
  simp only [Bool.and_eq_true, beq_iff_eq, Bool.not_eq_true', decide_eq_true_eq] at h5
  obtain ⟨⟨⟨⟨⟨g1, g2⟩, g3⟩, g4⟩, g5⟩, g6⟩ := h5
  simp [Cond.before, Cond.holds, Cond.value, h1, h2, h3, h4, g1, g2, g3, g4, g5, g6]
def isCode : Jvm.Cond → Bool
  | .code _ _ _ _ => true
  | _ => false
theorem all_split {L : List Jvm.Cond} {P : Jvm.Cond → Bool} (h1 : L.all (fun c => isCode c || P c) = true) (h2 : ∀ c ∈ L.filter isCode, P c = true) : L.all P = true := by
  refine List.all_eq_true.mpr fun c hc => ?_
  have h := List.all_eq_true.mp h1 c hc
  rcases Bool.eq_false_or_eq_true (isCode c) with hi | hi
  · exact h2 c (List.mem_filter.mpr ⟨hc, hi⟩)
  · simpa [hi] using h
set_option maxRecDepth 65536 in
theorem w_c0 : (Jvm.Cond.code x code maxLocals ret).before args0 about1 = true := code_word (m := ⟨1, 3⟩) (meth := k1m3) (c := k1c3) (by decide +kernel) rfl rfl rfl (by decide +kernel)
set_option maxRecDepth 65536 in
theorem w_c1 : (Jvm.Cond.code ({ cls := "com/example/gentle_hub/gentlehub/server/ChannelLocationParsePinLaw", name := "nameChar", desc := "(I)C" } : Jvm.MethodName) method_2_code (2 : Nat) (Option.some Jvm.ClassFile.FieldType.char)).before args0 about1 = true := code_word (m := ⟨1, 1⟩) (meth := k1m1) (c := k1c1) (by decide +kernel) rfl rfl rfl (by decide +kernel)
set_option maxRecDepth 65536 in
theorem w_c2 : (Jvm.Cond.code ({ cls := "com/example/gentle_hub/gentlehub/server/ChannelLocationParsePinLaw", name := "take", desc := "([CI)Ljava/lang/String;" } : Jvm.MethodName) method_3_code (2 : Nat) (Option.some (Jvm.ClassFile.FieldType.object "java/lang/String"))).before args0 about1 = true := code_word (m := ⟨1, 2⟩) (meth := k1m2) (c := k1c2) (by decide +kernel) rfl rfl rfl (by decide +kernel)
set_option maxRecDepth 65536 in
theorem w_c3 : (Jvm.Cond.code ({ cls := "java/lang/String", name := "<init>", desc := "([C)V" } : Jvm.MethodName) jdk_42_method_3_code (2 : Nat) (Option.none : Option Jvm.ClassFile.FieldType)).before args0 about1 = true := code_word (m := ⟨7, 1⟩) (meth := k7m1) (c := k7c1) (by decide +kernel) rfl rfl rfl (by decide +kernel)
set_option maxRecDepth 65536 in
theorem w_c4 : (Jvm.Cond.code ({ cls := "java/lang/String", name := "<init>", desc := "([CIILjava/lang/Void;)V" } : Jvm.MethodName) jdk_42_method_149_code (6 : Nat) (Option.none : Option Jvm.ClassFile.FieldType)).before args0 about1 = true := code_word (m := ⟨7, 14⟩) (meth := k7m14) (c := k7c14) (by decide +kernel) rfl rfl rfl (by decide +kernel)
set_option maxRecDepth 65536 in
theorem w_c5 : (Jvm.Cond.code ({ cls := "java/lang/Object", name := "<init>", desc := "()V" } : Jvm.MethodName) object_method_1_code (1 : Nat) (Option.none : Option Jvm.ClassFile.FieldType)).before args0 about1 = true := code_word (m := ⟨0, 0⟩) (meth := k0m0) (c := k0c0) (by decide +kernel) rfl rfl rfl (by decide +kernel)
set_option maxRecDepth 65536 in
theorem w_c6 : (Jvm.Cond.code ({ cls := "java/lang/StringUTF16", name := "compress", desc := "([CII)[B" } : Jvm.MethodName) jdk_52_method_16_code (6 : Nat) (Option.some (Jvm.ClassFile.FieldType.array Jvm.ClassFile.FieldType.byte))).before args0 about1 = true := code_word (m := ⟨8, 2⟩) (meth := k8m2) (c := k8c2) (by decide +kernel) rfl rfl rfl (by decide +kernel)
set_option maxRecDepth 65536 in
theorem w_c7 : (Jvm.Cond.code ({ cls := "java/lang/StringUTF16", name := "compress", desc := "([CI[BII)I" } : Jvm.MethodName) jdk_52_method_21_code (7 : Nat) (Option.some Jvm.ClassFile.FieldType.int)).before args0 about1 = true := code_word (m := ⟨8, 3⟩) (meth := k8m3) (c := k8c3) (by decide +kernel) rfl rfl rfl (by decide +kernel)
set_option maxRecDepth 65536 in
theorem w_c8 : (Jvm.Cond.code ({ cls := "java/lang/StringUTF16", name := "coderFromArrayLen", desc := "([BI)B" } : Jvm.MethodName) jdk_52_method_15_code (2 : Nat) (Option.some Jvm.ClassFile.FieldType.byte)).before args0 about1 = true := code_word (m := ⟨8, 1⟩) (meth := k8m1) (c := k8c1) (by decide +kernel) rfl rfl rfl (by decide +kernel)
set_option maxRecDepth 65536 in
theorem w_c9 : (Jvm.Cond.code ({ cls := "com/example/gentle_hub/gentlehub/server/ChannelLocation", name := "parse", desc := "(Ljava/lang/String;)Ljava/util/Optional;" } : Jvm.MethodName) prog_15_method_3_code (6 : Nat) (Option.some (Jvm.ClassFile.FieldType.object "java/util/Optional"))).before args0 about1 = true := code_word (m := ⟨10, 2⟩) (meth := k10m2) (c := k10c2) (by decide +kernel) rfl rfl rfl (by decide +kernel)
set_option maxRecDepth 65536 in
theorem w_c10 : (Jvm.Cond.code ({ cls := "com/example/gentle_hub/gentlehub/server/ChannelLocation$Role", name := "values", desc := "()[Lcom/example/gentle_hub/gentlehub/server/ChannelLocation$Role;" } : Jvm.MethodName) prog_16_method_1_code (0 : Nat) (Option.some (Jvm.ClassFile.FieldType.array (Jvm.ClassFile.FieldType.object "com/example/gentle_hub/gentlehub/server/ChannelLocation$Role")))).before args0 about1 = true := code_word (m := ⟨12, 0⟩) (meth := k12m0) (c := k12c0) (by decide +kernel) rfl rfl rfl (by decide +kernel)
set_option maxRecDepth 65536 in
theorem w_c11 : (Jvm.Cond.code ({ cls := "java/lang/String", name := "startsWith", desc := "(Ljava/lang/String;)Z" } : Jvm.MethodName) jdk_42_method_76_code (2 : Nat) (Option.some Jvm.ClassFile.FieldType.boolean)).before args0 about1 = true := code_word (m := ⟨7, 8⟩) (meth := k7m8) (c := k7c8) (by decide +kernel) rfl rfl rfl (by decide +kernel)
set_option maxRecDepth 65536 in
theorem w_c12 : (Jvm.Cond.code ({ cls := "java/lang/String", name := "startsWith", desc := "(Ljava/lang/String;I)Z" } : Jvm.MethodName) jdk_42_method_75_code (8 : Nat) (Option.some Jvm.ClassFile.FieldType.boolean)).before args0 about1 = true := code_word (m := ⟨7, 7⟩) (meth := k7m7) (c := k7c7) (by decide +kernel) rfl rfl rfl (by decide +kernel)
set_option maxRecDepth 65536 in
theorem w_c13 : (Jvm.Cond.code ({ cls := "java/lang/String", name := "length", desc := "()I" } : Jvm.MethodName) jdk_42_method_54_code (1 : Nat) (Option.some Jvm.ClassFile.FieldType.int)).before args0 about1 = true := code_word (m := ⟨7, 3⟩) (meth := k7m3) (c := k7c3) (by decide +kernel) rfl rfl rfl (by decide +kernel)
set_option maxRecDepth 65536 in
theorem w_c14 : (Jvm.Cond.code ({ cls := "java/lang/String", name := "coder", desc := "()B" } : Jvm.MethodName) jdk_42_method_152_code (1 : Nat) (Option.some Jvm.ClassFile.FieldType.byte)).before args0 about1 = true := code_word (m := ⟨7, 17⟩) (meth := k7m17) (c := k7c17) (by decide +kernel) rfl rfl rfl (by decide +kernel)
set_option maxRecDepth 65536 in
theorem w_c15 : (Jvm.Cond.code ({ cls := "jdk/internal/util/ArraysSupport", name := "mismatch", desc := "([BI[BII)I" } : Jvm.MethodName) jdk_48_method_14_code (8 : Nat) (Option.some Jvm.ClassFile.FieldType.int)).before args0 about1 = true := code_word (m := ⟨14, 1⟩) (meth := k14m1) (c := k14c1) (by decide +kernel) rfl rfl rfl (by decide +kernel)
set_option maxRecDepth 65536 in
theorem w_c16 : (Jvm.Cond.code ({ cls := "java/util/Optional", name := "empty", desc := "()Ljava/util/Optional;" } : Jvm.MethodName) jdk_32_method_1_code (1 : Nat) (Option.some (Jvm.ClassFile.FieldType.object "java/util/Optional"))).before args0 about1 = true := code_word (m := ⟨15, 0⟩) (meth := k15m0) (c := k15c0) (by decide +kernel) rfl rfl rfl (by decide +kernel)
set_option maxRecDepth 65536 in
theorem w_c17 : (Jvm.Cond.code ({ cls := "java/util/Optional", name := "isPresent", desc := "()Z" } : Jvm.MethodName) jdk_32_method_6_code (1 : Nat) (Option.some Jvm.ClassFile.FieldType.boolean)).before args0 about1 = true := code_word (m := ⟨15, 4⟩) (meth := k15m4) (c := k15c4) (by decide +kernel) rfl rfl rfl (by decide +kernel)
set_option maxRecDepth 65536 in
theorem w_c18 : (Jvm.Cond.code ({ cls := "java/lang/String", name := "charAt", desc := "(I)C" } : Jvm.MethodName) jdk_42_method_56_code (2 : Nat) (Option.some Jvm.ClassFile.FieldType.char)).before args0 about1 = true := code_word (m := ⟨7, 5⟩) (meth := k7m5) (c := k7c5) (by decide +kernel) rfl rfl rfl (by decide +kernel)
set_option maxRecDepth 65536 in
theorem w_c19 : (Jvm.Cond.code ({ cls := "java/lang/String", name := "isLatin1", desc := "()Z" } : Jvm.MethodName) jdk_42_method_154_code (1 : Nat) (Option.some Jvm.ClassFile.FieldType.boolean)).before args0 about1 = true := code_word (m := ⟨7, 18⟩) (meth := k7m18) (c := k7c18) (by decide +kernel) rfl rfl rfl (by decide +kernel)
set_option maxRecDepth 65536 in
theorem w_c20 : (Jvm.Cond.code ({ cls := "java/lang/StringLatin1", name := "charAt", desc := "([BI)C" } : Jvm.MethodName) jdk_43_method_2_code (2 : Nat) (Option.some Jvm.ClassFile.FieldType.char)).before args0 about1 = true := code_word (m := ⟨16, 1⟩) (meth := k16m1) (c := k16c1) (by decide +kernel) rfl rfl rfl (by decide +kernel)
set_option maxRecDepth 65536 in
theorem w_c21 : (Jvm.Cond.code ({ cls := "java/lang/String", name := "checkIndex", desc := "(II)V" } : Jvm.MethodName) jdk_42_method_155_code (2 : Nat) (Option.none : Option Jvm.ClassFile.FieldType)).before args0 about1 = true := code_word (m := ⟨7, 19⟩) (meth := k7m19) (c := k7c19) (by decide +kernel) rfl rfl rfl (by decide +kernel)
set_option maxRecDepth 65536 in
theorem w_c22 : (Jvm.Cond.code ({ cls := "jdk/internal/util/Preconditions", name := "checkIndex", desc := "(IILjava/util/function/BiFunction;)I" } : Jvm.MethodName) jdk_41_method_11_code (3 : Nat) (Option.some Jvm.ClassFile.FieldType.int)).before args0 about1 = true := code_word (m := ⟨17, 1⟩) (meth := k17m1) (c := k17c1) (by decide +kernel) rfl rfl rfl (by decide +kernel)
set_option maxRecDepth 65536 in
theorem w_c23 : (Jvm.Cond.code ({ cls := "java/lang/String", name := "substring", desc := "(I)Ljava/lang/String;" } : Jvm.MethodName) jdk_42_method_91_code (2 : Nat) (Option.some (Jvm.ClassFile.FieldType.object "java/lang/String"))).before args0 about1 = true := code_word (m := ⟨7, 11⟩) (meth := k7m11) (c := k7c11) (by decide +kernel) rfl rfl rfl (by decide +kernel)
set_option maxRecDepth 65536 in
theorem w_c24 : (Jvm.Cond.code ({ cls := "java/lang/String", name := "substring", desc := "(II)Ljava/lang/String;" } : Jvm.MethodName) jdk_42_method_92_code (5 : Nat) (Option.some (Jvm.ClassFile.FieldType.object "java/lang/String"))).before args0 about1 = true := code_word (m := ⟨7, 12⟩) (meth := k7m12) (c := k7c12) (by decide +kernel) rfl rfl rfl (by decide +kernel)
set_option maxRecDepth 65536 in
theorem w_c25 : (Jvm.Cond.code ({ cls := "java/lang/String", name := "checkBoundsBeginEnd", desc := "(III)V" } : Jvm.MethodName) jdk_42_method_158_code (3 : Nat) (Option.none : Option Jvm.ClassFile.FieldType)).before args0 about1 = true := code_word (m := ⟨7, 20⟩) (meth := k7m20) (c := k7c20) (by decide +kernel) rfl rfl rfl (by decide +kernel)
set_option maxRecDepth 65536 in
theorem w_c26 : (Jvm.Cond.code ({ cls := "jdk/internal/util/Preconditions", name := "checkFromToIndex", desc := "(IIILjava/util/function/BiFunction;)I" } : Jvm.MethodName) jdk_41_method_12_code (4 : Nat) (Option.some Jvm.ClassFile.FieldType.int)).before args0 about1 = true := code_word (m := ⟨17, 2⟩) (meth := k17m2) (c := k17c2) (by decide +kernel) rfl rfl rfl (by decide +kernel)
set_option maxRecDepth 65536 in
theorem w_c27 : (Jvm.Cond.code ({ cls := "java/lang/StringLatin1", name := "newString", desc := "([BII)Ljava/lang/String;" } : Jvm.MethodName) jdk_43_method_47_code (3 : Nat) (Option.some (Jvm.ClassFile.FieldType.object "java/lang/String"))).before args0 about1 = true := code_word (m := ⟨16, 6⟩) (meth := k16m6) (c := k16c6) (by decide +kernel) rfl rfl rfl (by decide +kernel)
set_option maxRecDepth 65536 in
theorem w_c28 : (Jvm.Cond.code ({ cls := "java/util/Arrays", name := "copyOfRange", desc := "([BII)[B" } : Jvm.MethodName) jdk_65_method_132_code (3 : Nat) (Option.some (Jvm.ClassFile.FieldType.array Jvm.ClassFile.FieldType.byte))).before args0 about1 = true := code_word (m := ⟨18, 2⟩) (meth := k18m2) (c := k18c2) (by decide +kernel) rfl rfl rfl (by decide +kernel)
set_option maxRecDepth 65536 in
theorem w_c29 : (Jvm.Cond.code ({ cls := "java/util/Arrays", name := "copyOfRangeByte", desc := "([BII)[B" } : Jvm.MethodName) jdk_65_method_133_code (5 : Nat) (Option.some (Jvm.ClassFile.FieldType.array Jvm.ClassFile.FieldType.byte))).before args0 about1 = true := code_word (m := ⟨18, 3⟩) (meth := k18m3) (c := k18c3) (by decide +kernel) rfl rfl rfl (by decide +kernel)
set_option maxRecDepth 65536 in
theorem w_c30 : (Jvm.Cond.code ({ cls := "java/util/Arrays", name := "checkLength", desc := "(II)V" } : Jvm.MethodName) jdk_65_method_131_code (2 : Nat) (Option.none : Option Jvm.ClassFile.FieldType)).before args0 about1 = true := code_word (m := ⟨18, 1⟩) (meth := k18m1) (c := k18c1) (by decide +kernel) rfl rfl rfl (by decide +kernel)
set_option maxRecDepth 65536 in
theorem w_c31 : (Jvm.Cond.code ({ cls := "java/lang/Math", name := "min", desc := "(II)I" } : Jvm.MethodName) jdk_29_method_69_code (2 : Nat) (Option.some Jvm.ClassFile.FieldType.int)).before args0 about1 = true := code_word (m := ⟨19, 2⟩) (meth := k19m2) (c := k19c2) (by decide +kernel) rfl rfl rfl (by decide +kernel)
set_option maxRecDepth 65536 in
theorem w_c32 : (Jvm.Cond.code ({ cls := "java/lang/String", name := "<init>", desc := "([BB)V" } : Jvm.MethodName) jdk_42_method_151_code (3 : Nat) (Option.none : Option Jvm.ClassFile.FieldType)).before args0 about1 = true := code_word (m := ⟨7, 16⟩) (meth := k7m16) (c := k7c16) (by decide +kernel) rfl rfl rfl (by decide +kernel)
set_option maxRecDepth 65536 in
theorem w_c33 : (Jvm.Cond.code ({ cls := "com/example/gentle_hub/gentlehub/core/ChannelName", name := "<init>", desc := "(Ljava/lang/String;)V" } : Jvm.MethodName) prog_1_method_1_code (3 : Nat) (Option.none : Option Jvm.ClassFile.FieldType)).before args0 about1 = true := code_word (m := ⟨21, 0⟩) (meth := k21m0) (c := k21c0) (by decide +kernel) rfl rfl rfl (by decide +kernel)
set_option maxRecDepth 65536 in
theorem w_c34 : (Jvm.Cond.code ({ cls := "java/lang/Record", name := "<init>", desc := "()V" } : Jvm.MethodName) jdk_30_method_1_code (1 : Nat) (Option.none : Option Jvm.ClassFile.FieldType)).before args0 about1 = true := code_word (m := ⟨9, 0⟩) (meth := k9m0) (c := k9c0) (by decide +kernel) rfl rfl rfl (by decide +kernel)
set_option maxRecDepth 65536 in
theorem w_c35 : (Jvm.Cond.code ({ cls := "java/util/Objects", name := "requireNonNull", desc := "(Ljava/lang/Object;Ljava/lang/String;)Ljava/lang/Object;" } : Jvm.MethodName) jdk_31_method_11_code (2 : Nat) (Option.some (Jvm.ClassFile.FieldType.object "java/lang/Object"))).before args0 about1 = true := code_word (m := ⟨22, 2⟩) (meth := k22m2) (c := k22c2) (by decide +kernel) rfl rfl rfl (by decide +kernel)
set_option maxRecDepth 65536 in
theorem w_c36 : (Jvm.Cond.code ({ cls := "java/lang/String", name := "isEmpty", desc := "()Z" } : Jvm.MethodName) jdk_42_method_55_code (1 : Nat) (Option.some Jvm.ClassFile.FieldType.boolean)).before args0 about1 = true := code_word (m := ⟨7, 4⟩) (meth := k7m4) (c := k7c4) (by decide +kernel) rfl rfl rfl (by decide +kernel)
set_option maxRecDepth 65536 in
theorem w_c37 : (Jvm.Cond.code ({ cls := "com/example/gentle_hub/gentlehub/core/ChannelName", name := "isAllowed", desc := "(C)Z" } : Jvm.MethodName) prog_1_method_2_code (1 : Nat) (Option.some Jvm.ClassFile.FieldType.boolean)).before args0 about1 = true := code_word (m := ⟨21, 1⟩) (meth := k21m1) (c := k21c1) (by decide +kernel) rfl rfl rfl (by decide +kernel)
set_option maxRecDepth 65536 in
theorem w_c38 : (Jvm.Cond.code ({ cls := "java/lang/String", name := "equals", desc := "(Ljava/lang/Object;)Z" } : Jvm.MethodName) jdk_42_method_66_code (3 : Nat) (Option.some Jvm.ClassFile.FieldType.boolean)).before args0 about1 = true := code_word (m := ⟨7, 6⟩) (meth := k7m6) (c := k7c6) (by decide +kernel) rfl rfl rfl (by decide +kernel)
set_option maxRecDepth 65536 in
theorem w_c39 : (Jvm.Cond.code ({ cls := "java/lang/StringLatin1", name := "equals", desc := "([B[B)Z" } : Jvm.MethodName) jdk_43_method_13_code (3 : Nat) (Option.some Jvm.ClassFile.FieldType.boolean)).before args0 about1 = true := code_word (m := ⟨16, 3⟩) (meth := k16m3) (c := k16c3) (by decide +kernel) rfl rfl rfl (by decide +kernel)
set_option maxRecDepth 65536 in
theorem w_c40 : (Jvm.Cond.code ({ cls := "com/example/gentle_hub/gentlehub/server/ChannelLocation", name := "<init>", desc := "(Lcom/example/gentle_hub/gentlehub/server/ChannelLocation$Role;Lcom/example/gentle_hub/gentlehub/core/ChannelName;)V" } : Jvm.MethodName) prog_15_method_1_code (3 : Nat) (Option.none : Option Jvm.ClassFile.FieldType)).before args0 about1 = true := code_word (m := ⟨10, 0⟩) (meth := k10m0) (c := k10c0) (by decide +kernel) rfl rfl rfl (by decide +kernel)
set_option maxRecDepth 65536 in
theorem w_c41 : (Jvm.Cond.code ({ cls := "java/util/Optional", name := "of", desc := "(Ljava/lang/Object;)Ljava/util/Optional;" } : Jvm.MethodName) jdk_32_method_3_code (1 : Nat) (Option.some (Jvm.ClassFile.FieldType.object "java/util/Optional"))).before args0 about1 = true := code_word (m := ⟨15, 2⟩) (meth := k15m2) (c := k15c2) (by decide +kernel) rfl rfl rfl (by decide +kernel)
set_option maxRecDepth 65536 in
theorem w_c42 : (Jvm.Cond.code ({ cls := "java/util/Objects", name := "requireNonNull", desc := "(Ljava/lang/Object;)Ljava/lang/Object;" } : Jvm.MethodName) jdk_31_method_10_code (1 : Nat) (Option.some (Jvm.ClassFile.FieldType.object "java/lang/Object"))).before args0 about1 = true := code_word (m := ⟨22, 1⟩) (meth := k22m1) (c := k22c1) (by decide +kernel) rfl rfl rfl (by decide +kernel)
set_option maxRecDepth 65536 in
theorem w_c43 : (Jvm.Cond.code ({ cls := "java/util/Optional", name := "<init>", desc := "(Ljava/lang/Object;)V" } : Jvm.MethodName) jdk_32_method_2_code (2 : Nat) (Option.none : Option Jvm.ClassFile.FieldType)).before args0 about1 = true := code_word (m := ⟨15, 1⟩) (meth := k15m1) (c := k15c1) (by decide +kernel) rfl rfl rfl (by decide +kernel)
set_option maxRecDepth 65536 in
theorem w_c44 : (Jvm.Cond.code ({ cls := "java/util/Optional", name := "get", desc := "()Ljava/lang/Object;" } : Jvm.MethodName) jdk_32_method_5_code (1 : Nat) (Option.some (Jvm.ClassFile.FieldType.object "java/lang/Object"))).before args0 about1 = true := code_word (m := ⟨15, 3⟩) (meth := k15m3) (c := k15c3) (by decide +kernel) rfl rfl rfl (by decide +kernel)
set_option maxRecDepth 65536 in
theorem w_c45 : (Jvm.Cond.code ({ cls := "com/example/gentle_hub/gentlehub/server/ChannelLocation", name := "role", desc := "()Lcom/example/gentle_hub/gentlehub/server/ChannelLocation$Role;" } : Jvm.MethodName) prog_15_method_7_code (1 : Nat) (Option.some (Jvm.ClassFile.FieldType.object "com/example/gentle_hub/gentlehub/server/ChannelLocation$Role"))).before args0 about1 = true := code_word (m := ⟨10, 3⟩) (meth := k10m3) (c := k10c3) (by decide +kernel) rfl rfl rfl (by decide +kernel)
set_option maxRecDepth 65536 in
theorem w_c46 : (Jvm.Cond.code ({ cls := "com/example/gentle_hub/gentlehub/server/ChannelLocation", name := "channel", desc := "()Lcom/example/gentle_hub/gentlehub/core/ChannelName;" } : Jvm.MethodName) prog_15_method_8_code (1 : Nat) (Option.some (Jvm.ClassFile.FieldType.object "com/example/gentle_hub/gentlehub/core/ChannelName"))).before args0 about1 = true := code_word (m := ⟨10, 4⟩) (meth := k10m4) (c := k10c4) (by decide +kernel) rfl rfl rfl (by decide +kernel)
set_option maxRecDepth 65536 in
theorem w_c47 : (Jvm.Cond.code ({ cls := "com/example/gentle_hub/gentlehub/core/ChannelName", name := "value", desc := "()Ljava/lang/String;" } : Jvm.MethodName) prog_1_method_6_code (1 : Nat) (Option.some (Jvm.ClassFile.FieldType.object "java/lang/String"))).before args0 about1 = true := code_word (m := ⟨21, 2⟩) (meth := k21m2) (c := k21c2) (by decide +kernel) rfl rfl rfl (by decide +kernel)
set_option maxRecDepth 65536 in
theorem w_c48 : (Jvm.Cond.code ({ cls := "com/example/gentle_hub/gentlehub/server/ChannelLocation", name := "path", desc := "()Ljava/lang/String;" } : Jvm.MethodName) prog_15_method_2_code (1 : Nat) (Option.some (Jvm.ClassFile.FieldType.object "java/lang/String"))).before args0 about1 = true := code_word (m := ⟨10, 1⟩) (meth := k10m1) (c := k10c1) (by decide +kernel) rfl rfl rfl (by decide +kernel)
set_option maxRecDepth 65536 in
theorem w_c49 : (Jvm.Cond.code ({ cls := "java/lang/StringBuilder", name := "<init>", desc := "()V" } : Jvm.MethodName) jdk_67_method_1_code (1 : Nat) (Option.none : Option Jvm.ClassFile.FieldType)).before args0 about1 = true := code_word (m := ⟨25, 0⟩) (meth := k25m0) (c := k25c0) (by decide +kernel) rfl rfl rfl (by decide +kernel)
set_option maxRecDepth 65536 in
theorem w_c50 : (Jvm.Cond.code ({ cls := "java/lang/AbstractStringBuilder", name := "<init>", desc := "(I)V" } : Jvm.MethodName) jdk_68_method_2_code (2 : Nat) (Option.none : Option Jvm.ClassFile.FieldType)).before args0 about1 = true := code_word (m := ⟨24, 1⟩) (meth := k24m1) (c := k24c1) (by decide +kernel) rfl rfl rfl (by decide +kernel)
set_option maxRecDepth 65536 in
theorem w_c51 : (Jvm.Cond.code ({ cls := "java/lang/StringBuilder", name := "append", desc := "(Ljava/lang/String;)Ljava/lang/StringBuilder;" } : Jvm.MethodName) jdk_67_method_7_code (2 : Nat) (Option.some (Jvm.ClassFile.FieldType.object "java/lang/StringBuilder"))).before args0 about1 = true := code_word (m := ⟨25, 1⟩) (meth := k25m1) (c := k25c1) (by decide +kernel) rfl rfl rfl (by decide +kernel)
set_option maxRecDepth 65536 in
theorem w_c52 : (Jvm.Cond.code ({ cls := "java/lang/AbstractStringBuilder", name := "append", desc := "(Ljava/lang/String;)Ljava/lang/AbstractStringBuilder;" } : Jvm.MethodName) jdk_68_method_22_code (3 : Nat) (Option.some (Jvm.ClassFile.FieldType.object "java/lang/AbstractStringBuilder"))).before args0 about1 = true := code_word (m := ⟨24, 4⟩) (meth := k24m4) (c := k24c4) (by decide +kernel) rfl rfl rfl (by decide +kernel)
set_option maxRecDepth 65536 in
theorem w_c53 : (Jvm.Cond.code ({ cls := "java/lang/AbstractStringBuilder", name := "ensureCapacityInternal", desc := "(I)V" } : Jvm.MethodName) jdk_68_method_9_code (3 : Nat) (Option.none : Option Jvm.ClassFile.FieldType)).before args0 about1 = true := code_word (m := ⟨24, 3⟩) (meth := k24m3) (c := k24c3) (by decide +kernel) rfl rfl rfl (by decide +kernel)
set_option maxRecDepth 65536 in
theorem w_c54 : (Jvm.Cond.code ({ cls := "java/lang/AbstractStringBuilder", name := "putStringAt", desc := "(ILjava/lang/String;)V" } : Jvm.MethodName) jdk_68_method_73_code (3 : Nat) (Option.none : Option Jvm.ClassFile.FieldType)).before args0 about1 = true := code_word (m := ⟨24, 8⟩) (meth := k24m8) (c := k24c8) (by decide +kernel) rfl rfl rfl (by decide +kernel)
set_option maxRecDepth 65536 in
theorem w_c55 : (Jvm.Cond.code ({ cls := "java/lang/AbstractStringBuilder", name := "inflateIfNeededFor", desc := "(Ljava/lang/String;)V" } : Jvm.MethodName) jdk_68_method_71_code (2 : Nat) (Option.none : Option Jvm.ClassFile.FieldType)).before args0 about1 = true := code_word (m := ⟨24, 7⟩) (meth := k24m7) (c := k24c7) (by decide +kernel) rfl rfl rfl (by decide +kernel)
set_option maxRecDepth 65536 in
theorem w_c56 : (Jvm.Cond.code ({ cls := "java/lang/String", name := "getBytes", desc := "([BIB)V" } : Jvm.MethodName) jdk_42_method_147_code (4 : Nat) (Option.none : Option Jvm.ClassFile.FieldType)).before args0 about1 = true := code_word (m := ⟨7, 13⟩) (meth := k7m13) (c := k7c13) (by decide +kernel) rfl rfl rfl (by decide +kernel)
set_option maxRecDepth 65536 in
theorem w_c57 : (Jvm.Cond.code ({ cls := "java/lang/StringBuilder", name := "toString", desc := "()Ljava/lang/String;" } : Jvm.MethodName) jdk_67_method_42_code (1 : Nat) (Option.some (Jvm.ClassFile.FieldType.object "java/lang/String"))).before args0 about1 = true := code_word (m := ⟨25, 2⟩) (meth := k25m2) (c := k25c2) (by decide +kernel) rfl rfl rfl (by decide +kernel)
set_option maxRecDepth 65536 in
theorem w_c58 : (Jvm.Cond.code ({ cls := "java/lang/String", name := "<init>", desc := "(Ljava/lang/StringBuilder;)V" } : Jvm.MethodName) jdk_42_method_53_code (2 : Nat) (Option.none : Option Jvm.ClassFile.FieldType)).before args0 about1 = true := code_word (m := ⟨7, 2⟩) (meth := k7m2) (c := k7c2) (by decide +kernel) rfl rfl rfl (by decide +kernel)
set_option maxRecDepth 65536 in
theorem w_c59 : (Jvm.Cond.code ({ cls := "java/lang/String", name := "<init>", desc := "(Ljava/lang/AbstractStringBuilder;Ljava/lang/Void;)V" } : Jvm.MethodName) jdk_42_method_150_code (5 : Nat) (Option.none : Option Jvm.ClassFile.FieldType)).before args0 about1 = true := code_word (m := ⟨7, 15⟩) (meth := k7m15) (c := k7c15) (by decide +kernel) rfl rfl rfl (by decide +kernel)
set_option maxRecDepth 65536 in
theorem w_c60 : (Jvm.Cond.code ({ cls := "java/lang/AbstractStringBuilder", name := "getValue", desc := "()[B" } : Jvm.MethodName) jdk_68_method_64_code (1 : Nat) (Option.some (Jvm.ClassFile.FieldType.array Jvm.ClassFile.FieldType.byte))).before args0 about1 = true := code_word (m := ⟨24, 5⟩) (meth := k24m5) (c := k24c5) (by decide +kernel) rfl rfl rfl (by decide +kernel)
set_option maxRecDepth 65536 in
theorem w_c61 : (Jvm.Cond.code ({ cls := "java/lang/StringBuilder", name := "length", desc := "()I" } : Jvm.MethodName) jdk_67_method_93_code (1 : Nat) (Option.some Jvm.ClassFile.FieldType.int)).before args0 about1 = true := code_word (m := ⟨25, 3⟩) (meth := k25m3) (c := k25c3) (by decide +kernel) rfl rfl rfl (by decide +kernel)
set_option maxRecDepth 65536 in
theorem w_c62 : (Jvm.Cond.code ({ cls := "java/lang/AbstractStringBuilder", name := "length", desc := "()I" } : Jvm.MethodName) jdk_68_method_6_code (1 : Nat) (Option.some Jvm.ClassFile.FieldType.int)).before args0 about1 = true := code_word (m := ⟨24, 2⟩) (meth := k24m2) (c := k24c2) (by decide +kernel) rfl rfl rfl (by decide +kernel)
set_option maxRecDepth 65536 in
theorem w_c63 : (Jvm.Cond.code ({ cls := "java/lang/AbstractStringBuilder", name := "isLatin1", desc := "()Z" } : Jvm.MethodName) jdk_68_method_68_code (1 : Nat) (Option.some Jvm.ClassFile.FieldType.boolean)).before args0 about1 = true := code_word (m := ⟨24, 6⟩) (meth := k24m6) (c := k24c6) (by decide +kernel) rfl rfl rfl (by decide +kernel)
set_option maxRecDepth 65536 in
theorem w_c64 : (Jvm.Cond.code ({ cls := "java/lang/String", name := "indexOf", desc := "(I)I" } : Jvm.MethodName) jdk_42_method_79_code (2 : Nat) (Option.some Jvm.ClassFile.FieldType.int)).before args0 about1 = true := code_word (m := ⟨7, 9⟩) (meth := k7m9) (c := k7c9) (by decide +kernel) rfl rfl rfl (by decide +kernel)
set_option maxRecDepth 65536 in
theorem w_c65 : (Jvm.Cond.code ({ cls := "java/lang/String", name := "indexOf", desc := "(II)I" } : Jvm.MethodName) jdk_42_method_80_code (3 : Nat) (Option.some Jvm.ClassFile.FieldType.int)).before args0 about1 = true := code_word (m := ⟨7, 10⟩) (meth := k7m10) (c := k7c10) (by decide +kernel) rfl rfl rfl (by decide +kernel)
set_option maxRecDepth 65536 in
theorem w_c66 : (Jvm.Cond.code ({ cls := "java/lang/StringLatin1", name := "indexOf", desc := "([BIII)I" } : Jvm.MethodName) jdk_43_method_22_code (4 : Nat) (Option.some Jvm.ClassFile.FieldType.int)).before args0 about1 = true := code_word (m := ⟨16, 4⟩) (meth := k16m4) (c := k16c4) (by decide +kernel) rfl rfl rfl (by decide +kernel)
set_option maxRecDepth 65536 in
theorem w_c67 : (Jvm.Cond.code ({ cls := "java/lang/StringLatin1", name := "canEncode", desc := "(I)Z" } : Jvm.MethodName) jdk_43_method_4_code (1 : Nat) (Option.some Jvm.ClassFile.FieldType.boolean)).before args0 about1 = true := code_word (m := ⟨16, 2⟩) (meth := k16m2) (c := k16c2) (by decide +kernel) rfl rfl rfl (by decide +kernel)
set_option maxRecDepth 65536 in
theorem w_c68 : (Jvm.Cond.code ({ cls := "java/lang/Math", name := "max", desc := "(II)I" } : Jvm.MethodName) jdk_29_method_65_code (2 : Nat) (Option.some Jvm.ClassFile.FieldType.int)).before args0 about1 = true := code_word (m := ⟨19, 1⟩) (meth := k19m1) (c := k19c1) (by decide +kernel) rfl rfl rfl (by decide +kernel)
set_option maxRecDepth 65536 in
theorem w_c69 : (Jvm.Cond.code ({ cls := "java/lang/StringLatin1", name := "indexOfChar", desc := "([BIII)I" } : Jvm.MethodName) jdk_43_method_23_code (6 : Nat) (Option.some Jvm.ClassFile.FieldType.int)).before args0 about1 = true := code_word (m := ⟨16, 5⟩) (meth := k16m5) (c := k16c5) (by decide +kernel) rfl rfl rfl (by decide +kernel)
def codes1 : List Jvm.Cond := [Jvm.Cond.code x code maxLocals ret, Jvm.Cond.code ({ cls := "com/example/gentle_hub/gentlehub/server/ChannelLocationParsePinLaw", name := "nameChar", desc := "(I)C" } : Jvm.MethodName) method_2_code (2 : Nat) (Option.some Jvm.ClassFile.FieldType.char), Jvm.Cond.code ({ cls := "com/example/gentle_hub/gentlehub/server/ChannelLocationParsePinLaw", name := "take", desc := "([CI)Ljava/lang/String;" } : Jvm.MethodName) method_3_code (2 : Nat) (Option.some (Jvm.ClassFile.FieldType.object "java/lang/String")), Jvm.Cond.code ({ cls := "java/lang/String", name := "<init>", desc := "([C)V" } : Jvm.MethodName) jdk_42_method_3_code (2 : Nat) (Option.none : Option Jvm.ClassFile.FieldType), Jvm.Cond.code ({ cls := "java/lang/String", name := "<init>", desc := "([CIILjava/lang/Void;)V" } : Jvm.MethodName) jdk_42_method_149_code (6 : Nat) (Option.none : Option Jvm.ClassFile.FieldType), Jvm.Cond.code ({ cls := "java/lang/Object", name := "<init>", desc := "()V" } : Jvm.MethodName) object_method_1_code (1 : Nat) (Option.none : Option Jvm.ClassFile.FieldType), Jvm.Cond.code ({ cls := "java/lang/StringUTF16", name := "compress", desc := "([CII)[B" } : Jvm.MethodName) jdk_52_method_16_code (6 : Nat) (Option.some (Jvm.ClassFile.FieldType.array Jvm.ClassFile.FieldType.byte)), Jvm.Cond.code ({ cls := "java/lang/StringUTF16", name := "compress", desc := "([CI[BII)I" } : Jvm.MethodName) jdk_52_method_21_code (7 : Nat) (Option.some Jvm.ClassFile.FieldType.int), Jvm.Cond.code ({ cls := "java/lang/StringUTF16", name := "coderFromArrayLen", desc := "([BI)B" } : Jvm.MethodName) jdk_52_method_15_code (2 : Nat) (Option.some Jvm.ClassFile.FieldType.byte), Jvm.Cond.code ({ cls := "com/example/gentle_hub/gentlehub/server/ChannelLocation", name := "parse", desc := "(Ljava/lang/String;)Ljava/util/Optional;" } : Jvm.MethodName) prog_15_method_3_code (6 : Nat) (Option.some (Jvm.ClassFile.FieldType.object "java/util/Optional")), Jvm.Cond.code ({ cls := "com/example/gentle_hub/gentlehub/server/ChannelLocation$Role", name := "values", desc := "()[Lcom/example/gentle_hub/gentlehub/server/ChannelLocation$Role;" } : Jvm.MethodName) prog_16_method_1_code (0 : Nat) (Option.some (Jvm.ClassFile.FieldType.array (Jvm.ClassFile.FieldType.object "com/example/gentle_hub/gentlehub/server/ChannelLocation$Role"))), Jvm.Cond.code ({ cls := "java/lang/String", name := "startsWith", desc := "(Ljava/lang/String;)Z" } : Jvm.MethodName) jdk_42_method_76_code (2 : Nat) (Option.some Jvm.ClassFile.FieldType.boolean), Jvm.Cond.code ({ cls := "java/lang/String", name := "startsWith", desc := "(Ljava/lang/String;I)Z" } : Jvm.MethodName) jdk_42_method_75_code (8 : Nat) (Option.some Jvm.ClassFile.FieldType.boolean), Jvm.Cond.code ({ cls := "java/lang/String", name := "length", desc := "()I" } : Jvm.MethodName) jdk_42_method_54_code (1 : Nat) (Option.some Jvm.ClassFile.FieldType.int), Jvm.Cond.code ({ cls := "java/lang/String", name := "coder", desc := "()B" } : Jvm.MethodName) jdk_42_method_152_code (1 : Nat) (Option.some Jvm.ClassFile.FieldType.byte), Jvm.Cond.code ({ cls := "jdk/internal/util/ArraysSupport", name := "mismatch", desc := "([BI[BII)I" } : Jvm.MethodName) jdk_48_method_14_code (8 : Nat) (Option.some Jvm.ClassFile.FieldType.int), Jvm.Cond.code ({ cls := "java/util/Optional", name := "empty", desc := "()Ljava/util/Optional;" } : Jvm.MethodName) jdk_32_method_1_code (1 : Nat) (Option.some (Jvm.ClassFile.FieldType.object "java/util/Optional")), Jvm.Cond.code ({ cls := "java/util/Optional", name := "isPresent", desc := "()Z" } : Jvm.MethodName) jdk_32_method_6_code (1 : Nat) (Option.some Jvm.ClassFile.FieldType.boolean), Jvm.Cond.code ({ cls := "java/lang/String", name := "charAt", desc := "(I)C" } : Jvm.MethodName) jdk_42_method_56_code (2 : Nat) (Option.some Jvm.ClassFile.FieldType.char), Jvm.Cond.code ({ cls := "java/lang/String", name := "isLatin1", desc := "()Z" } : Jvm.MethodName) jdk_42_method_154_code (1 : Nat) (Option.some Jvm.ClassFile.FieldType.boolean), Jvm.Cond.code ({ cls := "java/lang/StringLatin1", name := "charAt", desc := "([BI)C" } : Jvm.MethodName) jdk_43_method_2_code (2 : Nat) (Option.some Jvm.ClassFile.FieldType.char), Jvm.Cond.code ({ cls := "java/lang/String", name := "checkIndex", desc := "(II)V" } : Jvm.MethodName) jdk_42_method_155_code (2 : Nat) (Option.none : Option Jvm.ClassFile.FieldType), Jvm.Cond.code ({ cls := "jdk/internal/util/Preconditions", name := "checkIndex", desc := "(IILjava/util/function/BiFunction;)I" } : Jvm.MethodName) jdk_41_method_11_code (3 : Nat) (Option.some Jvm.ClassFile.FieldType.int), Jvm.Cond.code ({ cls := "java/lang/String", name := "substring", desc := "(I)Ljava/lang/String;" } : Jvm.MethodName) jdk_42_method_91_code (2 : Nat) (Option.some (Jvm.ClassFile.FieldType.object "java/lang/String")), Jvm.Cond.code ({ cls := "java/lang/String", name := "substring", desc := "(II)Ljava/lang/String;" } : Jvm.MethodName) jdk_42_method_92_code (5 : Nat) (Option.some (Jvm.ClassFile.FieldType.object "java/lang/String")), Jvm.Cond.code ({ cls := "java/lang/String", name := "checkBoundsBeginEnd", desc := "(III)V" } : Jvm.MethodName) jdk_42_method_158_code (3 : Nat) (Option.none : Option Jvm.ClassFile.FieldType), Jvm.Cond.code ({ cls := "jdk/internal/util/Preconditions", name := "checkFromToIndex", desc := "(IIILjava/util/function/BiFunction;)I" } : Jvm.MethodName) jdk_41_method_12_code (4 : Nat) (Option.some Jvm.ClassFile.FieldType.int), Jvm.Cond.code ({ cls := "java/lang/StringLatin1", name := "newString", desc := "([BII)Ljava/lang/String;" } : Jvm.MethodName) jdk_43_method_47_code (3 : Nat) (Option.some (Jvm.ClassFile.FieldType.object "java/lang/String")), Jvm.Cond.code ({ cls := "java/util/Arrays", name := "copyOfRange", desc := "([BII)[B" } : Jvm.MethodName) jdk_65_method_132_code (3 : Nat) (Option.some (Jvm.ClassFile.FieldType.array Jvm.ClassFile.FieldType.byte)), Jvm.Cond.code ({ cls := "java/util/Arrays", name := "copyOfRangeByte", desc := "([BII)[B" } : Jvm.MethodName) jdk_65_method_133_code (5 : Nat) (Option.some (Jvm.ClassFile.FieldType.array Jvm.ClassFile.FieldType.byte)), Jvm.Cond.code ({ cls := "java/util/Arrays", name := "checkLength", desc := "(II)V" } : Jvm.MethodName) jdk_65_method_131_code (2 : Nat) (Option.none : Option Jvm.ClassFile.FieldType), Jvm.Cond.code ({ cls := "java/lang/Math", name := "min", desc := "(II)I" } : Jvm.MethodName) jdk_29_method_69_code (2 : Nat) (Option.some Jvm.ClassFile.FieldType.int), Jvm.Cond.code ({ cls := "java/lang/String", name := "<init>", desc := "([BB)V" } : Jvm.MethodName) jdk_42_method_151_code (3 : Nat) (Option.none : Option Jvm.ClassFile.FieldType), Jvm.Cond.code ({ cls := "com/example/gentle_hub/gentlehub/core/ChannelName", name := "<init>", desc := "(Ljava/lang/String;)V" } : Jvm.MethodName) prog_1_method_1_code (3 : Nat) (Option.none : Option Jvm.ClassFile.FieldType), Jvm.Cond.code ({ cls := "java/lang/Record", name := "<init>", desc := "()V" } : Jvm.MethodName) jdk_30_method_1_code (1 : Nat) (Option.none : Option Jvm.ClassFile.FieldType), Jvm.Cond.code ({ cls := "java/util/Objects", name := "requireNonNull", desc := "(Ljava/lang/Object;Ljava/lang/String;)Ljava/lang/Object;" } : Jvm.MethodName) jdk_31_method_11_code (2 : Nat) (Option.some (Jvm.ClassFile.FieldType.object "java/lang/Object")), Jvm.Cond.code ({ cls := "java/lang/String", name := "isEmpty", desc := "()Z" } : Jvm.MethodName) jdk_42_method_55_code (1 : Nat) (Option.some Jvm.ClassFile.FieldType.boolean), Jvm.Cond.code ({ cls := "com/example/gentle_hub/gentlehub/core/ChannelName", name := "isAllowed", desc := "(C)Z" } : Jvm.MethodName) prog_1_method_2_code (1 : Nat) (Option.some Jvm.ClassFile.FieldType.boolean), Jvm.Cond.code ({ cls := "java/lang/String", name := "equals", desc := "(Ljava/lang/Object;)Z" } : Jvm.MethodName) jdk_42_method_66_code (3 : Nat) (Option.some Jvm.ClassFile.FieldType.boolean), Jvm.Cond.code ({ cls := "java/lang/StringLatin1", name := "equals", desc := "([B[B)Z" } : Jvm.MethodName) jdk_43_method_13_code (3 : Nat) (Option.some Jvm.ClassFile.FieldType.boolean), Jvm.Cond.code ({ cls := "com/example/gentle_hub/gentlehub/server/ChannelLocation", name := "<init>", desc := "(Lcom/example/gentle_hub/gentlehub/server/ChannelLocation$Role;Lcom/example/gentle_hub/gentlehub/core/ChannelName;)V" } : Jvm.MethodName) prog_15_method_1_code (3 : Nat) (Option.none : Option Jvm.ClassFile.FieldType), Jvm.Cond.code ({ cls := "java/util/Optional", name := "of", desc := "(Ljava/lang/Object;)Ljava/util/Optional;" } : Jvm.MethodName) jdk_32_method_3_code (1 : Nat) (Option.some (Jvm.ClassFile.FieldType.object "java/util/Optional")), Jvm.Cond.code ({ cls := "java/util/Objects", name := "requireNonNull", desc := "(Ljava/lang/Object;)Ljava/lang/Object;" } : Jvm.MethodName) jdk_31_method_10_code (1 : Nat) (Option.some (Jvm.ClassFile.FieldType.object "java/lang/Object")), Jvm.Cond.code ({ cls := "java/util/Optional", name := "<init>", desc := "(Ljava/lang/Object;)V" } : Jvm.MethodName) jdk_32_method_2_code (2 : Nat) (Option.none : Option Jvm.ClassFile.FieldType), Jvm.Cond.code ({ cls := "java/util/Optional", name := "get", desc := "()Ljava/lang/Object;" } : Jvm.MethodName) jdk_32_method_5_code (1 : Nat) (Option.some (Jvm.ClassFile.FieldType.object "java/lang/Object")), Jvm.Cond.code ({ cls := "com/example/gentle_hub/gentlehub/server/ChannelLocation", name := "role", desc := "()Lcom/example/gentle_hub/gentlehub/server/ChannelLocation$Role;" } : Jvm.MethodName) prog_15_method_7_code (1 : Nat) (Option.some (Jvm.ClassFile.FieldType.object "com/example/gentle_hub/gentlehub/server/ChannelLocation$Role")), Jvm.Cond.code ({ cls := "com/example/gentle_hub/gentlehub/server/ChannelLocation", name := "channel", desc := "()Lcom/example/gentle_hub/gentlehub/core/ChannelName;" } : Jvm.MethodName) prog_15_method_8_code (1 : Nat) (Option.some (Jvm.ClassFile.FieldType.object "com/example/gentle_hub/gentlehub/core/ChannelName")), Jvm.Cond.code ({ cls := "com/example/gentle_hub/gentlehub/core/ChannelName", name := "value", desc := "()Ljava/lang/String;" } : Jvm.MethodName) prog_1_method_6_code (1 : Nat) (Option.some (Jvm.ClassFile.FieldType.object "java/lang/String")), Jvm.Cond.code ({ cls := "com/example/gentle_hub/gentlehub/server/ChannelLocation", name := "path", desc := "()Ljava/lang/String;" } : Jvm.MethodName) prog_15_method_2_code (1 : Nat) (Option.some (Jvm.ClassFile.FieldType.object "java/lang/String")), Jvm.Cond.code ({ cls := "java/lang/StringBuilder", name := "<init>", desc := "()V" } : Jvm.MethodName) jdk_67_method_1_code (1 : Nat) (Option.none : Option Jvm.ClassFile.FieldType), Jvm.Cond.code ({ cls := "java/lang/AbstractStringBuilder", name := "<init>", desc := "(I)V" } : Jvm.MethodName) jdk_68_method_2_code (2 : Nat) (Option.none : Option Jvm.ClassFile.FieldType), Jvm.Cond.code ({ cls := "java/lang/StringBuilder", name := "append", desc := "(Ljava/lang/String;)Ljava/lang/StringBuilder;" } : Jvm.MethodName) jdk_67_method_7_code (2 : Nat) (Option.some (Jvm.ClassFile.FieldType.object "java/lang/StringBuilder")), Jvm.Cond.code ({ cls := "java/lang/AbstractStringBuilder", name := "append", desc := "(Ljava/lang/String;)Ljava/lang/AbstractStringBuilder;" } : Jvm.MethodName) jdk_68_method_22_code (3 : Nat) (Option.some (Jvm.ClassFile.FieldType.object "java/lang/AbstractStringBuilder")), Jvm.Cond.code ({ cls := "java/lang/AbstractStringBuilder", name := "ensureCapacityInternal", desc := "(I)V" } : Jvm.MethodName) jdk_68_method_9_code (3 : Nat) (Option.none : Option Jvm.ClassFile.FieldType), Jvm.Cond.code ({ cls := "java/lang/AbstractStringBuilder", name := "putStringAt", desc := "(ILjava/lang/String;)V" } : Jvm.MethodName) jdk_68_method_73_code (3 : Nat) (Option.none : Option Jvm.ClassFile.FieldType), Jvm.Cond.code ({ cls := "java/lang/AbstractStringBuilder", name := "inflateIfNeededFor", desc := "(Ljava/lang/String;)V" } : Jvm.MethodName) jdk_68_method_71_code (2 : Nat) (Option.none : Option Jvm.ClassFile.FieldType), Jvm.Cond.code ({ cls := "java/lang/String", name := "getBytes", desc := "([BIB)V" } : Jvm.MethodName) jdk_42_method_147_code (4 : Nat) (Option.none : Option Jvm.ClassFile.FieldType), Jvm.Cond.code ({ cls := "java/lang/StringBuilder", name := "toString", desc := "()Ljava/lang/String;" } : Jvm.MethodName) jdk_67_method_42_code (1 : Nat) (Option.some (Jvm.ClassFile.FieldType.object "java/lang/String")), Jvm.Cond.code ({ cls := "java/lang/String", name := "<init>", desc := "(Ljava/lang/StringBuilder;)V" } : Jvm.MethodName) jdk_42_method_53_code (2 : Nat) (Option.none : Option Jvm.ClassFile.FieldType), Jvm.Cond.code ({ cls := "java/lang/String", name := "<init>", desc := "(Ljava/lang/AbstractStringBuilder;Ljava/lang/Void;)V" } : Jvm.MethodName) jdk_42_method_150_code (5 : Nat) (Option.none : Option Jvm.ClassFile.FieldType), Jvm.Cond.code ({ cls := "java/lang/AbstractStringBuilder", name := "getValue", desc := "()[B" } : Jvm.MethodName) jdk_68_method_64_code (1 : Nat) (Option.some (Jvm.ClassFile.FieldType.array Jvm.ClassFile.FieldType.byte)), Jvm.Cond.code ({ cls := "java/lang/StringBuilder", name := "length", desc := "()I" } : Jvm.MethodName) jdk_67_method_93_code (1 : Nat) (Option.some Jvm.ClassFile.FieldType.int), Jvm.Cond.code ({ cls := "java/lang/AbstractStringBuilder", name := "length", desc := "()I" } : Jvm.MethodName) jdk_68_method_6_code (1 : Nat) (Option.some Jvm.ClassFile.FieldType.int), Jvm.Cond.code ({ cls := "java/lang/AbstractStringBuilder", name := "isLatin1", desc := "()Z" } : Jvm.MethodName) jdk_68_method_68_code (1 : Nat) (Option.some Jvm.ClassFile.FieldType.boolean), Jvm.Cond.code ({ cls := "java/lang/String", name := "indexOf", desc := "(I)I" } : Jvm.MethodName) jdk_42_method_79_code (2 : Nat) (Option.some Jvm.ClassFile.FieldType.int), Jvm.Cond.code ({ cls := "java/lang/String", name := "indexOf", desc := "(II)I" } : Jvm.MethodName) jdk_42_method_80_code (3 : Nat) (Option.some Jvm.ClassFile.FieldType.int), Jvm.Cond.code ({ cls := "java/lang/StringLatin1", name := "indexOf", desc := "([BIII)I" } : Jvm.MethodName) jdk_43_method_22_code (4 : Nat) (Option.some Jvm.ClassFile.FieldType.int), Jvm.Cond.code ({ cls := "java/lang/StringLatin1", name := "canEncode", desc := "(I)Z" } : Jvm.MethodName) jdk_43_method_4_code (1 : Nat) (Option.some Jvm.ClassFile.FieldType.boolean), Jvm.Cond.code ({ cls := "java/lang/Math", name := "max", desc := "(II)I" } : Jvm.MethodName) jdk_29_method_65_code (2 : Nat) (Option.some Jvm.ClassFile.FieldType.int), Jvm.Cond.code ({ cls := "java/lang/StringLatin1", name := "indexOfChar", desc := "([BIII)I" } : Jvm.MethodName) jdk_43_method_23_code (6 : Nat) (Option.some Jvm.ClassFile.FieldType.int)]
set_option maxRecDepth 65536 in
theorem codes_eq : words1.filter isCode = codes1 := rfl
theorem w_codes : ∀ c ∈ words1.filter isCode, c.before args0 about1 = true := by
  rw [codes_eq]
  intro c hc
  simp only [codes1, List.mem_cons, List.not_mem_nil, or_false] at hc
  rcases hc with rfl | rfl | rfl | rfl | rfl | rfl | rfl | rfl | rfl | rfl | rfl | rfl | rfl | rfl | rfl | rfl | rfl | rfl | rfl | rfl | rfl | rfl | rfl | rfl | rfl | rfl | rfl | rfl | rfl | rfl | rfl | rfl | rfl | rfl | rfl | rfl | rfl | rfl | rfl | rfl | rfl | rfl | rfl | rfl | rfl | rfl | rfl | rfl | rfl | rfl | rfl | rfl | rfl | rfl | rfl | rfl | rfl | rfl | rfl | rfl | rfl | rfl | rfl | rfl | rfl | rfl | rfl | rfl | rfl | rfl
  · exact w_c0
  · exact w_c1
  · exact w_c2
  · exact w_c3
  · exact w_c4
  · exact w_c5
  · exact w_c6
  · exact w_c7
  · exact w_c8
  · exact w_c9
  · exact w_c10
  · exact w_c11
  · exact w_c12
  · exact w_c13
  · exact w_c14
  · exact w_c15
  · exact w_c16
  · exact w_c17
  · exact w_c18
  · exact w_c19
  · exact w_c20
  · exact w_c21
  · exact w_c22
  · exact w_c23
  · exact w_c24
  · exact w_c25
  · exact w_c26
  · exact w_c27
  · exact w_c28
  · exact w_c29
  · exact w_c30
  · exact w_c31
  · exact w_c32
  · exact w_c33
  · exact w_c34
  · exact w_c35
  · exact w_c36
  · exact w_c37
  · exact w_c38
  · exact w_c39
  · exact w_c40
  · exact w_c41
  · exact w_c42
  · exact w_c43
  · exact w_c44
  · exact w_c45
  · exact w_c46
  · exact w_c47
  · exact w_c48
  · exact w_c49
  · exact w_c50
  · exact w_c51
  · exact w_c52
  · exact w_c53
  · exact w_c54
  · exact w_c55
  · exact w_c56
  · exact w_c57
  · exact w_c58
  · exact w_c59
  · exact w_c60
  · exact w_c61
  · exact w_c62
  · exact w_c63
  · exact w_c64
  · exact w_c65
  · exact w_c66
  · exact w_c67
  · exact w_c68
  · exact w_c69
set_option maxRecDepth 65536 in
theorem w_t1 : (words1.take 24).all (fun c => isCode c || c.before args0 about1) = true := by decide +kernel
set_option maxRecDepth 65536 in
theorem w_t2 : ((words1.drop 24).take 24).all (fun c => isCode c || c.before args0 about1) = true := by decide +kernel
set_option maxRecDepth 65536 in
theorem w_t3 : (((words1.drop 24).drop 24).take 24).all (fun c => isCode c || c.before args0 about1) = true := by decide +kernel
set_option maxRecDepth 65536 in
theorem w_t4 : ((((words1.drop 24).drop 24).drop 24).take 24).all (fun c => isCode c || c.before args0 about1) = true := by decide +kernel
set_option maxRecDepth 65536 in
theorem w_t5 : (((((words1.drop 24).drop 24).drop 24).drop 24).take 24).all (fun c => isCode c || c.before args0 about1) = true := by decide +kernel
set_option maxRecDepth 65536 in
theorem w_t6 : ((((((words1.drop 24).drop 24).drop 24).drop 24).drop 24).take 24).all (fun c => isCode c || c.before args0 about1) = true := by decide +kernel
set_option maxRecDepth 65536 in
theorem w_t7 : (((((((words1.drop 24).drop 24).drop 24).drop 24).drop 24).drop 24).take 24).all (fun c => isCode c || c.before args0 about1) = true := by decide +kernel
set_option maxRecDepth 65536 in
theorem w_t8 : ((((((((words1.drop 24).drop 24).drop 24).drop 24).drop 24).drop 24).drop 24).take 24).all (fun c => isCode c || c.before args0 about1) = true := by decide +kernel
set_option maxRecDepth 65536 in
theorem w_t9 : (((((((((words1.drop 24).drop 24).drop 24).drop 24).drop 24).drop 24).drop 24).drop 24).take 24).all (fun c => isCode c || c.before args0 about1) = true := by decide +kernel
set_option maxRecDepth 65536 in
theorem w_t10 : ((((((((((words1.drop 24).drop 24).drop 24).drop 24).drop 24).drop 24).drop 24).drop 24).drop 24).take 24).all (fun c => isCode c || c.before args0 about1) = true := by decide +kernel
set_option maxRecDepth 65536 in
theorem w_t11 : (((((((((((words1.drop 24).drop 24).drop 24).drop 24).drop 24).drop 24).drop 24).drop 24).drop 24).drop 24).take 24).all (fun c => isCode c || c.before args0 about1) = true := by decide +kernel
set_option maxRecDepth 65536 in
theorem w_t12 : ((((((((((((words1.drop 24).drop 24).drop 24).drop 24).drop 24).drop 24).drop 24).drop 24).drop 24).drop 24).drop 24).take 24).all (fun c => isCode c || c.before args0 about1) = true := by decide +kernel
set_option maxRecDepth 65536 in
theorem w_t13 : (((((((((((((words1.drop 24).drop 24).drop 24).drop 24).drop 24).drop 24).drop 24).drop 24).drop 24).drop 24).drop 24).drop 24).take 24).all (fun c => isCode c || c.before args0 about1) = true := by decide +kernel
set_option maxRecDepth 65536 in
theorem w_t14 : ((((((((((((((words1.drop 24).drop 24).drop 24).drop 24).drop 24).drop 24).drop 24).drop 24).drop 24).drop 24).drop 24).drop 24).drop 24).take 24).all (fun c => isCode c || c.before args0 about1) = true := by decide +kernel
set_option maxRecDepth 65536 in
theorem w_t15 : (((((((((((((((words1.drop 24).drop 24).drop 24).drop 24).drop 24).drop 24).drop 24).drop 24).drop 24).drop 24).drop 24).drop 24).drop 24).drop 24).take 24).all (fun c => isCode c || c.before args0 about1) = true := by decide +kernel
set_option maxRecDepth 65536 in
theorem w_t16 : (((((((((((((((words1.drop 24).drop 24).drop 24).drop 24).drop 24).drop 24).drop 24).drop 24).drop 24).drop 24).drop 24).drop 24).drop 24).drop 24).drop 24).all (fun c => isCode c || c.before args0 about1) = true := by decide +kernel
theorem w_tables : (allAtoms (Jvm.Cond.code x code maxLocals ret :: tables_1)).before args0 about1 = true := by
  rw [allAtoms_all]
  show words1.all (fun c => c.before args0 about1) = true
  refine all_split ?_ w_codes
  rw [← List.take_append_drop 24 words1, List.all_append, w_t1, ← List.take_append_drop 24 (words1.drop 24), List.all_append, w_t2, ← List.take_append_drop 24 ((words1.drop 24).drop 24), List.all_append, w_t3, ← List.take_append_drop 24 (((words1.drop 24).drop 24).drop 24), List.all_append, w_t4, ← List.take_append_drop 24 ((((words1.drop 24).drop 24).drop 24).drop 24), List.all_append, w_t5, ← List.take_append_drop 24 (((((words1.drop 24).drop 24).drop 24).drop 24).drop 24), List.all_append, w_t6, ← List.take_append_drop 24 ((((((words1.drop 24).drop 24).drop 24).drop 24).drop 24).drop 24), List.all_append, w_t7, ← List.take_append_drop 24 (((((((words1.drop 24).drop 24).drop 24).drop 24).drop 24).drop 24).drop 24), List.all_append, w_t8, ← List.take_append_drop 24 ((((((((words1.drop 24).drop 24).drop 24).drop 24).drop 24).drop 24).drop 24).drop 24), List.all_append, w_t9, ← List.take_append_drop 24 (((((((((words1.drop 24).drop 24).drop 24).drop 24).drop 24).drop 24).drop 24).drop 24).drop 24), List.all_append, w_t10, ← List.take_append_drop 24 ((((((((((words1.drop 24).drop 24).drop 24).drop 24).drop 24).drop 24).drop 24).drop 24).drop 24).drop 24), List.all_append, w_t11, ← List.take_append_drop 24 (((((((((((words1.drop 24).drop 24).drop 24).drop 24).drop 24).drop 24).drop 24).drop 24).drop 24).drop 24).drop 24), List.all_append, w_t12, ← List.take_append_drop 24 ((((((((((((words1.drop 24).drop 24).drop 24).drop 24).drop 24).drop 24).drop 24).drop 24).drop 24).drop 24).drop 24).drop 24), List.all_append, w_t13, ← List.take_append_drop 24 (((((((((((((words1.drop 24).drop 24).drop 24).drop 24).drop 24).drop 24).drop 24).drop 24).drop 24).drop 24).drop 24).drop 24).drop 24), List.all_append, w_t14, ← List.take_append_drop 24 ((((((((((((((words1.drop 24).drop 24).drop 24).drop 24).drop 24).drop 24).drop 24).drop 24).drop 24).drop 24).drop 24).drop 24).drop 24).drop 24), List.all_append, w_t15, w_t16]
  rfl
set_option maxRecDepth 65536 in
theorem w_rest : rest_1_c.before args0 about1 = true := by decide +kernel
set_option maxRecDepth 65536 in
theorem w_case : (Jvm.Cond.and given_1 narrow_1).before args0 about1 = true := by decide +kernel
set_option maxRecDepth 65536 in
theorem w_consts : constsHeld consts_1 about1 := Jvm.Lit.constsHeldB_iff.mp (by decide +kernel)
theorem w_applies : (headSpec (Jvm.Cond.code x code maxLocals ret :: tables_1) room_1).applies x e0.platform about1 = true :=
  (Spec.applies_iff w_frames).mpr ⟨w_running, w_runnable, w_alone, w_named, w_hears, w_ripe, w_room, w_tables⟩
theorem atStart : AtStart classFile x code maxLocals ret World_1 tables_1 room_1 Calls_1 rest_1 Pre_1 launch0 p0 e0 about1 theMethod args0 below0 :=
  ⟨lists_1, trivial, launch0.admits_env _ _ _, launch0.least_env, fairChoices_fair.cas, fairChoices_fair.clock, w_frames, w_args, w_heap, w_applies, ⟨w_consts, trivial⟩, w_rest, w_case⟩
end start1
theorem witness_1 : WitnessClaimed_1 := ⟨start1.p0, start1.e0, start1.about1, start1.theMethod, start1.args0, start1.below0, start1.atStart⟩
end Jvm.Pilot.@@N@@
