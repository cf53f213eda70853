import JvmDerived
import JvmDerived.Pilot.@@N@@Statement
import JvmDerived.Pilot.@@N@@Code
set_option linter.unusedVariables false
set_option linter.unusedSimpArgs false
namespace Jvm.OwnKit
open Jvm Jvm.ClassFile Sem Op Lib Jvm.Free Jvm.Stand Jvm.LawKit Jvm.RoadKit Bundle

theorem own_b8 (x : Int32) : x.toInt8.toInt32.toInt8.toInt32 = x.toInt8.toInt32 := by simp
theorem own_nd_inj {fs : List (String × String × String)} (h : (fs.map (fun f => f.2.1)).Nodup) {i j : Nat} {f g : String × String × String} (hi : fs[i]? = some f) (hj : fs[j]? = some g) (e : f.2.1 = g.2.1) : i = j := by
  have hl : i < (fs.map (fun f => f.2.1)).length := by simpa using (List.getElem?_eq_some_iff.mp hi).1
  refine (List.getElem?_inj hl h).mp ?_
  simp [hi, hj, e]
/-! ## 1. Values that name their cells by number; r says at which address cell i lies -/
def cv (r : Nat → Addr) : Value → Value
  | .ref i => .ref (r i)
  | v => v
def cs (r : Nat → Addr) : Slot → Slot
  | .val v => .val (cv r v)
  | .unset => .unset
  | .second => .second
theorem cv_cat (r : Nat → Addr) (v : Value) : (cv r v).category = v.category := by cases v <;> rfl
theorem cv_isRef (r : Nat → Addr) (v : Value) : (cv r v).isRef = v.isRef := by cases v <;> rfl
abbrev cl (r : Nat → Addr) (ls : List Slot) : Array Slot := (ls.map (cs r)).toArray
abbrev ct (r : Nat → Addr) (st : List Value) : List Value := st.map (cv r)
theorem cl_get {r : Nat → Addr} {ls : List Slot} {k : Nat} {x : Slot} (h : ls[k]? = some x) : (cl r ls)[k]? = some (cs r x) := by simp [cl, h]
theorem cl_size {r : Nat → Addr} {ls : List Slot} : (cl r ls).size = ls.length := by simp [cl]
def catS (st : List Value) : Nat := (st.map fun v => v.category).sum
theorem ct_cat (r : Nat → Addr) (st : List Value) : ((ct r st).map fun v => v.category).sum = catS st := by
  simp only [ct, catS, List.map_map]
  congr 1
  exact List.map_congr_left fun v _ => cv_cat r v

/-! ## 2. The local variables as a list -/
def setL (l : List Slot) (i : Nat) (x : Slot) : Option (List Slot) := if i < l.length then some (l.set i x) else none
def stoS (l : List Slot) (i : Nat) (v : Value) : Option (List Slot) :=
  match setL l i (.val v) with
  | none => none
  | some l => if v.category = 2 then
      match l[i + 1]? with
      | none => none
      | some (.val old) => if old.category = 2 then (match setL l (i + 2) .unset with | none => none | some l => setL l (i + 1) .second) else setL l (i + 1) .second
      | some _ => setL l (i + 1) .second
    else some l
def stoL (l : List Slot) (i : Nat) (v : Value) : Option (List Slot) :=
  match l[i]? with
  | none => none
  | some .second => (match setL l (i - 1) .unset with | none => none | some l => stoS l i v)
  | some (.val old) => if old.category = 2 then (match setL l (i + 1) .unset with | none => none | some l => stoS l i v) else stoS l i v
  | some .unset => stoS l i v
theorem setL_ok {r : Nat → Addr} {l l' : List Slot} {i : Nat} {x : Slot} (h : setL l i x = some l') : setAt (cl r l) i (cs r x) = some (cl r l') := by
  unfold setL at h
  split at h
  · rename_i hi
    cases h
    simp [setAt, cl, hi, List.map_set]
  · cases h
theorem stoS_ok {r : Nat → Addr} {l l' : List Slot} {i : Nat} {v : Value} (h : stoS l i v = some l') : storeSelf (cl r l) i (cv r v) = some (cl r l') := by
  unfold stoS at h
  unfold storeSelf
  cases h1 : setL l i (.val v) with
  | none => simp [h1] at h
  | some l1 =>
    rw [h1] at h
    have q1 : setAt (cl r l) i (.val (cv r v)) = some (cl r l1) := setL_ok (x := .val v) h1
    simp only [q1, Option.bind_eq_bind, Option.bind_some, cv_cat]
    dsimp only at h
    split at h
    · rename_i hc
      simp only [hc, if_true]
      cases h2 : l1[i + 1]? with
      | none => simp [h2] at h
      | some y =>
        rw [h2] at h
        have q2 : (cl r l1)[i + 1]? = some (cs r y) := cl_get h2
        rw [q2]
        simp only [Option.bind_some]
        cases y with
        | val old =>
          simp only [cs, cv_cat]
          dsimp only at h
          split at h
          · rename_i ho
            simp only [ho, if_true]
            cases h3 : setL l1 (i + 2) .unset with
            | none => simp [h3] at h
            | some l3 =>
              rw [h3] at h
              have q3 : setAt (cl r l1) (i + 2) .unset = some (cl r l3) := setL_ok (x := .unset) h3
              rw [q3]
              exact setL_ok (x := .second) h
          · rename_i ho
            simp only [ho, if_false]
            exact setL_ok (x := .second) h
        | unset => exact setL_ok (x := .second) h
        | second => exact setL_ok (x := .second) h
    · rename_i hc
      simp only [hc, if_false]
      cases h
      rfl
theorem stoL_ok {r : Nat → Addr} {l l' : List Slot} {i : Nat} {v : Value} (h : stoL l i v = some l') : storeLocals (cl r l) i (cv r v) = some (cl r l') := by
  unfold stoL at h
  unfold storeLocals
  cases h1 : l[i]? with
  | none => simp [h1] at h
  | some y =>
    rw [h1] at h
    have q1 : (cl r l)[i]? = some (cs r y) := cl_get h1
    rw [q1]
    simp only [Option.bind_eq_bind, Option.bind_some]
    cases y with
    | unset => exact stoS_ok h
    | second =>
      simp only [cs]
      dsimp only at h
      cases h2 : setL l (i - 1) .unset with
      | none => simp [h2] at h
      | some l2 =>
        rw [h2] at h
        have q2 : setAt (cl r l) (i - 1) .unset = some (cl r l2) := setL_ok (x := .unset) h2
        rw [q2]
        exact stoS_ok h
    | val old =>
      simp only [cs, cv_cat]
      dsimp only at h
      split at h
      · rename_i ho
        simp only [ho, if_true]
        cases h2 : setL l (i + 1) .unset with
        | none => simp [h2] at h
        | some l2 =>
          rw [h2] at h
          have q2 : setAt (cl r l) (i + 1) .unset = some (cl r l2) := setL_ok (x := .unset) h2
          rw [q2]
          exact stoS_ok h
      · rename_i ho
        simp only [ho, if_false]
        exact stoS_ok h

/-! ## 3. One plain instruction as a function -/
abbrev Cf : Type := Nat × List Slot × List Value
def ldI (ls : List Slot) (k : Nat) (st : List Value) (pc : Nat) : Option Cf := match ls[k]? with | some (.val (.int v)) => some (pc, ls, .int v :: st) | _ => none
def ldJ (ls : List Slot) (k : Nat) (st : List Value) (pc : Nat) : Option Cf := match ls[k]? with | some (.val (.long v)) => some (pc, ls, .long v :: st) | _ => none
def ldA (ls : List Slot) (k : Nat) (st : List Value) (pc : Nat) : Option Cf := match ls[k]? with | some (.val v) => if v.isRef then some (pc, ls, v :: st) else none | _ => none
def sI (ls : List Slot) (k : Nat) (st : List Value) (pc : Nat) : Option Cf := match st with | .int x :: t => (match stoL ls k (.int x) with | some l => some (pc, l, t) | none => none) | _ => none
def sJ (ls : List Slot) (k : Nat) (st : List Value) (pc : Nat) : Option Cf := match st with | .long x :: t => (match stoL ls k (.long x) with | some l => some (pc, l, t) | none => none) | _ => none
def sA (ls : List Slot) (k : Nat) (st : List Value) (pc : Nat) : Option Cf := match st with | x :: t => if x.isRef then (match stoL ls k x with | some l => some (pc, l, t) | none => none) else none | _ => none
def un (f : Int32 → Value) (ls : List Slot) (st : List Value) (pc : Nat) : Option Cf := match st with | .int x :: t => some (pc, ls, f x :: t) | _ => none
def unL (f : Int64 → Value) (ls : List Slot) (st : List Value) (pc : Nat) : Option Cf := match st with | .long x :: t => some (pc, ls, f x :: t) | _ => none
def bin (f : Int32 → Int32 → Int32) (ls : List Slot) (st : List Value) (pc : Nat) : Option Cf := match st with | .int y :: .int x :: t => some (pc, ls, .int (f x y) :: t) | _ => none
def binD (f : Int32 → Int32 → Int32) (ls : List Slot) (st : List Value) (pc : Nat) : Option Cf := match st with | .int y :: .int x :: t => if y = 0 then none else some (pc, ls, .int (f x y) :: t) | _ => none
def binL (f : Int64 → Int64 → Value) (ls : List Slot) (st : List Value) (pc : Nat) : Option Cf := match st with | .long y :: .long x :: t => some (pc, ls, f x y :: t) | _ => none
def binLD (f : Int64 → Int64 → Int64) (ls : List Slot) (st : List Value) (pc : Nat) : Option Cf := match st with | .long y :: .long x :: t => if y = 0 then none else some (pc, ls, .long (f x y) :: t) | _ => none
def shf (f : Int64 → Int32 → Int64) (ls : List Slot) (st : List Value) (pc : Nat) : Option Cf := match st with | .int y :: .long x :: t => some (pc, ls, .long (f x y) :: t) | _ => none
def jmp (pc : Nat) (o : Int) (ls : List Slot) (st : List Value) : Option Cf := if 0 ≤ (pc : Int) + o then some (((pc : Int) + o).toNat, ls, st) else none
def ilen : Instr → Nat
  | .iload _ | .lload _ | .aload _ | .istore _ | .lstore _ | .astore _ | .bipush _ => 2
  | .iinc _ _ | .sipush _ | .goto _ | .if_icmp _ _ | .ifCond _ _ | .ifnull _ | .ifnonnull _ => 3
  | _ => 1
def pcore (ins : Instr) (pc : Nat) (ls : List Slot) (st : List Value) : Option Cf :=
  match ins with
  | .iload_n k => ldI ls k.val st (pc + 1)
  | .iload k => ldI ls k st (pc + 2)
  | .lload_n k => ldJ ls k.val st (pc + 1)
  | .lload k => ldJ ls k st (pc + 2)
  | .aload_n k => ldA ls k.val st (pc + 1)
  | .aload k => ldA ls k st (pc + 2)
  | .istore_n k => sI ls k.val st (pc + 1)
  | .istore k => sI ls k st (pc + 2)
  | .lstore_n k => sJ ls k.val st (pc + 1)
  | .lstore k => sJ ls k st (pc + 2)
  | .astore_n k => sA ls k.val st (pc + 1)
  | .astore k => sA ls k st (pc + 2)
  | .iconst i => some (pc + 1, ls, .int (Int32.ofInt i) :: st)
  | .bipush i => some (pc + 2, ls, .int (Int8.ofInt i).toInt32 :: st)
  | .sipush i => some (pc + 3, ls, .int (Int16.ofInt i).toInt32 :: st)
  | .lconst k => some (pc + 1, ls, .long (Int64.ofNat k) :: st)
  | .aconst_null => some (pc + 1, ls, .null :: st)
  | .iinc k c => match ls[k]? with
    | some (.val (.int x)) => (match stoL ls k (.int (x + Int32.ofInt c)) with | some l => some (pc + 3, l, st) | none => none)
    | _ => none
  | .iadd => bin (fun x y => x + y) ls st (pc + 1)
  | .isub => bin (fun x y => x - y) ls st (pc + 1)
  | .imul => bin (fun x y => x * y) ls st (pc + 1)
  | .iand => bin (fun x y => x &&& y) ls st (pc + 1)
  | .ior => bin (fun x y => x ||| y) ls st (pc + 1)
  | .ixor => bin (fun x y => x ^^^ y) ls st (pc + 1)
  | .ishl => bin (fun x y => x <<< (y &&& 31)) ls st (pc + 1)
  | .ishr => bin (fun x y => x >>> (y &&& 31)) ls st (pc + 1)
  | .iushr => bin (fun x y => XT.ushr x y) ls st (pc + 1)
  | .idiv => binD (fun x y => x / y) ls st (pc + 1)
  | .irem => binD (fun x y => x % y) ls st (pc + 1)
  | .ineg => un (fun x => .int (-x)) ls st (pc + 1)
  | .i2l => un (fun x => .long x.toInt64) ls st (pc + 1)
  | .i2b => un (fun x => .int x.toInt8.toInt32) ls st (pc + 1)
  | .i2c => un (fun x => .int x.toUInt32.toUInt16.toUInt32.toInt32) ls st (pc + 1)
  | .i2s => un (fun x => .int x.toInt16.toInt32) ls st (pc + 1)
  | .l2i => unL (fun x => .int x.toInt32) ls st (pc + 1)
  | .lneg => unL (fun x => .long (-x)) ls st (pc + 1)
  | .ladd => binL (fun x y => .long (x + y)) ls st (pc + 1)
  | .lsub => binL (fun x y => .long (x - y)) ls st (pc + 1)
  | .lmul => binL (fun x y => .long (x * y)) ls st (pc + 1)
  | .land => binL (fun x y => .long (x &&& y)) ls st (pc + 1)
  | .lor => binL (fun x y => .long (x ||| y)) ls st (pc + 1)
  | .lxor => binL (fun x y => .long (x ^^^ y)) ls st (pc + 1)
  | .lcmp => binL (fun x y => .int (XT.cmpL x y)) ls st (pc + 1)
  | .ldiv => binLD (fun x y => x / y) ls st (pc + 1)
  | .lrem => binLD (fun x y => x % y) ls st (pc + 1)
  | .lshl => shf (fun x y => x <<< (y.toInt64 &&& 63)) ls st (pc + 1)
  | .lshr => shf (fun x y => x >>> (y.toInt64 &&& 63)) ls st (pc + 1)
  | .lushr => shf (fun x y => XT.ushrL x y) ls st (pc + 1)
  | .dup => match st with | x :: t => if x.category = 1 then some (pc + 1, ls, x :: x :: t) else none | _ => none
  | .dup_x1 => match st with | x :: y :: t => if x.category = 1 then (if y.category = 1 then some (pc + 1, ls, x :: y :: x :: t) else none) else none | _ => none
  | .dup2 => match st with | x :: y :: t => if x.category = 1 then (if y.category = 1 then some (pc + 1, ls, x :: y :: x :: y :: t) else none) else none | _ => none
  | .pop => match st with | x :: t => if x.category = 1 then some (pc + 1, ls, t) else none | _ => none
  | .goto o => jmp pc o ls st
  | .if_icmp cd o => match st with | .int y :: .int x :: t => (match if_icmp.holds cd x y with | true => jmp pc o ls t | false => some (pc + 3, ls, t)) | _ => none
  | .ifCond cd o => match st with | .int x :: t => (match ifCond.holds cd x with | true => jmp pc o ls t | false => some (pc + 3, ls, t)) | _ => none
  | .ifnull o => match st with | .null :: t => jmp pc o ls t | .ref _ :: t => some (pc + 3, ls, t) | _ => none
  | .ifnonnull o => match st with | .ref _ :: t => jmp pc o ls t | .null :: t => some (pc + 3, ls, t) | _ => none
  | _ => none
def pst (ins : Instr) (len pc : Nat) (ls : List Slot) (st : List Value) : Option Cf := if len = ilen ins then pcore ins pc ls st else none

section Inv
variable {ls : List Slot} {st : List Value} {k pc : Nat} {q : Cf}
theorem ldI_v (h : ldI ls k st pc = some q) : ∃ v, ls[k]? = some (.val (.int v)) ∧ q = (pc, ls, .int v :: st) := by
  unfold ldI at h; split at h
  · rename_i v e; cases h; exact ⟨v, e, rfl⟩
  · cases h
theorem ldJ_v (h : ldJ ls k st pc = some q) : ∃ v, ls[k]? = some (.val (.long v)) ∧ q = (pc, ls, .long v :: st) := by
  unfold ldJ at h; split at h
  · rename_i v e; cases h; exact ⟨v, e, rfl⟩
  · cases h
theorem ldA_v (h : ldA ls k st pc = some q) : ∃ v, ls[k]? = some (.val v) ∧ v.isRef = true ∧ q = (pc, ls, v :: st) := by
  unfold ldA at h; split at h
  · rename_i v e; split at h
    · rename_i e2; cases h; exact ⟨v, e, e2, rfl⟩
    · cases h
  · cases h
theorem sI_v (h : sI ls k st pc = some q) : ∃ x t l, st = .int x :: t ∧ stoL ls k (.int x) = some l ∧ q = (pc, l, t) := by
  unfold sI at h; split at h
  · rename_i x t; split at h
    · rename_i l e; cases h; exact ⟨x, t, l, rfl, e, rfl⟩
    · cases h
  · cases h
theorem sJ_v (h : sJ ls k st pc = some q) : ∃ x t l, st = .long x :: t ∧ stoL ls k (.long x) = some l ∧ q = (pc, l, t) := by
  unfold sJ at h; split at h
  · rename_i x t; split at h
    · rename_i l e; cases h; exact ⟨x, t, l, rfl, e, rfl⟩
    · cases h
  · cases h
theorem sA_v (h : sA ls k st pc = some q) : ∃ x t l, st = x :: t ∧ x.isRef = true ∧ stoL ls k x = some l ∧ q = (pc, l, t) := by
  unfold sA at h; split at h
  · rename_i x t; split at h
    · rename_i e0; split at h
      · rename_i l e; cases h; exact ⟨x, t, l, rfl, e0, e, rfl⟩
      · cases h
    · cases h
  · cases h
theorem un_v {f : Int32 → Value} (h : un f ls st pc = some q) : ∃ x t, st = .int x :: t ∧ q = (pc, ls, f x :: t) := by
  unfold un at h; split at h
  · rename_i x t; cases h; exact ⟨x, t, rfl, rfl⟩
  · cases h
theorem unL_v {f : Int64 → Value} (h : unL f ls st pc = some q) : ∃ x t, st = .long x :: t ∧ q = (pc, ls, f x :: t) := by
  unfold unL at h; split at h
  · rename_i x t; cases h; exact ⟨x, t, rfl, rfl⟩
  · cases h
theorem bin_v {f : Int32 → Int32 → Int32} (h : bin f ls st pc = some q) : ∃ x y t, st = .int y :: .int x :: t ∧ q = (pc, ls, .int (f x y) :: t) := by
  unfold bin at h; split at h
  · rename_i y x t; cases h; exact ⟨x, y, t, rfl, rfl⟩
  · cases h
theorem binD_v {f : Int32 → Int32 → Int32} (h : binD f ls st pc = some q) : ∃ x y t, st = .int y :: .int x :: t ∧ y ≠ 0 ∧ q = (pc, ls, .int (f x y) :: t) := by
  unfold binD at h; split at h
  · rename_i y x t; split at h
    · cases h
    · rename_i e; cases h; exact ⟨x, y, t, rfl, e, rfl⟩
  · cases h
theorem binL_v {f : Int64 → Int64 → Value} (h : binL f ls st pc = some q) : ∃ x y t, st = .long y :: .long x :: t ∧ q = (pc, ls, f x y :: t) := by
  unfold binL at h; split at h
  · rename_i y x t; cases h; exact ⟨x, y, t, rfl, rfl⟩
  · cases h
theorem binLD_v {f : Int64 → Int64 → Int64} (h : binLD f ls st pc = some q) : ∃ x y t, st = .long y :: .long x :: t ∧ y ≠ 0 ∧ q = (pc, ls, .long (f x y) :: t) := by
  unfold binLD at h; split at h
  · rename_i y x t; split at h
    · cases h
    · rename_i e; cases h; exact ⟨x, y, t, rfl, e, rfl⟩
  · cases h
theorem shf_v {f : Int64 → Int32 → Int64} (h : shf f ls st pc = some q) : ∃ x y t, st = .int y :: .long x :: t ∧ q = (pc, ls, .long (f x y) :: t) := by
  unfold shf at h; split at h
  · rename_i y x t; cases h; exact ⟨x, y, t, rfl, rfl⟩
  · cases h
theorem jmp_v {o : Int} (h : jmp pc o ls st = some q) : 0 ≤ (pc : Int) + o ∧ q = (((pc : Int) + o).toNat, ls, st) := by
  unfold jmp at h; split at h
  · rename_i e; cases h; exact ⟨e, rfl⟩
  · cases h
end Inv

section Pure
variable {tb : Tables} [Ours tb] {e : Env} {below : List Frame} {T target : State} {m : MethodId} {c : Code}
theorem pcore_ok {r : Nat → Addr} {ins : Instr} {pc : Nat} {ls : List Slot} {st : List Value} {q : Cf} (X : At T m c below) (hx : tb.exec = Jvm.exec) (hd : decode c.code pc = .ok (ins, ilen ins)) (h : pcore ins pc ls st = some q)
    (hr : Steps tb e below (T.setTop (mkF m q.1 (cl r q.2.1) (ct r q.2.2))) target) : Steps tb e below (T.setTop (mkF m pc (cl r ls) (ct r st))) target := by
  cases ins <;> simp only [pcore, reduceCtorEq] at h <;> simp only [ilen] at hd
  case iload_n k => obtain ⟨v, e1, rfl⟩ := ldI_v h; exact XS.iloadN X hx rfl hd (cl_get e1) hr
  case iload k => obtain ⟨v, e1, rfl⟩ := ldI_v h; exact XS.iload X hx rfl hd (cl_get e1) hr
  case lload_n k => obtain ⟨v, e1, rfl⟩ := ldJ_v h; exact XT.lloadN X hx rfl hd (cl_get e1) hr
  case lload k => obtain ⟨v, e1, rfl⟩ := ldJ_v h; exact XT.lload X hx rfl hd (cl_get e1) hr
  case aload_n k => obtain ⟨v, e1, e2, rfl⟩ := ldA_v h; exact XS.aloadN X hx rfl hd (cl_get e1) ((cv_isRef r v).trans e2) hr
  case aload k => obtain ⟨v, e1, e2, rfl⟩ := ldA_v h; exact XS.aload X hx rfl hd (cl_get e1) ((cv_isRef r v).trans e2) hr
  case istore_n k => obtain ⟨x, t, l, rfl, e1, rfl⟩ := sI_v h; exact XS.istoreN X hx rfl hd rfl (stoL_ok (r := r) e1) hr
  case istore k => obtain ⟨x, t, l, rfl, e1, rfl⟩ := sI_v h; exact XS.istore X hx rfl hd rfl (stoL_ok (r := r) e1) hr
  case lstore_n k => obtain ⟨x, t, l, rfl, e1, rfl⟩ := sJ_v h; exact XT.lstoreN X hx rfl hd rfl (stoL_ok (r := r) e1) hr
  case lstore k => obtain ⟨x, t, l, rfl, e1, rfl⟩ := sJ_v h; exact XT.lstore X hx rfl hd rfl (stoL_ok (r := r) e1) hr
  case astore_n k => obtain ⟨x, t, l, rfl, e0, e1, rfl⟩ := sA_v h; exact XS.astoreN X hx rfl hd rfl ((cv_isRef r x).trans e0) (stoL_ok (r := r) e1) hr
  case astore k => obtain ⟨x, t, l, rfl, e0, e1, rfl⟩ := sA_v h; exact XS.astore X hx rfl hd rfl ((cv_isRef r x).trans e0) (stoL_ok (r := r) e1) hr
  case iconst i => cases h; exact XS.iconst X hx rfl hd hr
  case bipush i => cases h; exact XS.bipush X hx rfl hd hr
  case sipush i => cases h; exact XS.sipush X hx rfl hd hr
  case lconst i => cases h; exact XT.lconst X hx rfl hd hr
  case aconst_null => cases h; exact XS.aconstNull X hx rfl hd hr
  case iinc k cst =>
    split at h
    · rename_i x e1
      split at h
      · rename_i l e2
        cases h
        exact XS.iinc X hx rfl hd (cl_get e1) (stoL_ok (r := r) e2) hr
      · cases h
    · cases h
  case iadd => obtain ⟨x, y, t, rfl, rfl⟩ := bin_v h; exact XS.iadd X hx rfl hd rfl hr
  case isub => obtain ⟨x, y, t, rfl, rfl⟩ := bin_v h; exact XS.isub X hx rfl hd rfl hr
  case imul => obtain ⟨x, y, t, rfl, rfl⟩ := bin_v h; exact XS.imul X hx rfl hd rfl hr
  case iand => obtain ⟨x, y, t, rfl, rfl⟩ := bin_v h; exact XS.iand X hx rfl hd rfl hr
  case ior => obtain ⟨x, y, t, rfl, rfl⟩ := bin_v h; exact XT.ior X hx rfl hd rfl hr
  case ixor => obtain ⟨x, y, t, rfl, rfl⟩ := bin_v h; exact XT.ixor X hx rfl hd rfl hr
  case ishl => obtain ⟨x, y, t, rfl, rfl⟩ := bin_v h; exact XT.ishl X hx rfl hd rfl hr
  case ishr => obtain ⟨x, y, t, rfl, rfl⟩ := bin_v h; exact XT.ishr X hx rfl hd rfl hr
  case iushr => obtain ⟨x, y, t, rfl, rfl⟩ := bin_v h; exact XT.iushr X hx rfl hd rfl hr
  case idiv => obtain ⟨x, y, t, rfl, hy, rfl⟩ := binD_v h; exact XS.idiv X hx rfl hd rfl hy hr
  case irem =>
    obtain ⟨x, y, t, rfl, hy, rfl⟩ := binD_v h
    have q : x - x / y * y = x % y := irem_eq_mod x y
    exact XS.irem X hx rfl hd rfl hy (by rw [q]; exact hr)
  case ineg => obtain ⟨x, t, rfl, rfl⟩ := un_v h; exact XS.ineg X hx rfl hd rfl hr
  case i2l => obtain ⟨x, t, rfl, rfl⟩ := un_v h; exact XT.i2l X hx rfl hd rfl hr
  case i2b => obtain ⟨x, t, rfl, rfl⟩ := un_v h; exact XT.i2b X hx rfl hd rfl hr
  case i2c => obtain ⟨x, t, rfl, rfl⟩ := un_v h; exact XT.i2c X hx rfl hd rfl hr
  case i2s => obtain ⟨x, t, rfl, rfl⟩ := un_v h; exact XT.i2s X hx rfl hd rfl hr
  case l2i => obtain ⟨x, t, rfl, rfl⟩ := unL_v h; exact XT.l2i X hx rfl hd rfl hr
  case lneg => obtain ⟨x, t, rfl, rfl⟩ := unL_v h; exact XT.lneg X hx rfl hd rfl hr
  case ladd => obtain ⟨x, y, t, rfl, rfl⟩ := binL_v h; exact XT.ladd X hx rfl hd rfl hr
  case lsub => obtain ⟨x, y, t, rfl, rfl⟩ := binL_v h; exact XT.lsub X hx rfl hd rfl hr
  case lmul => obtain ⟨x, y, t, rfl, rfl⟩ := binL_v h; exact XT.lmul X hx rfl hd rfl hr
  case land => obtain ⟨x, y, t, rfl, rfl⟩ := binL_v h; exact XT.land X hx rfl hd rfl hr
  case lor => obtain ⟨x, y, t, rfl, rfl⟩ := binL_v h; exact XT.lor X hx rfl hd rfl hr
  case lxor => obtain ⟨x, y, t, rfl, rfl⟩ := binL_v h; exact XT.lxor X hx rfl hd rfl hr
  case lcmp => obtain ⟨x, y, t, rfl, rfl⟩ := binL_v h; exact XT.lcmp X hx rfl hd rfl hr
  case ldiv => obtain ⟨x, y, t, rfl, hy, rfl⟩ := binLD_v h; exact XT.ldiv X hx rfl hd rfl hy hr
  case lrem =>
    obtain ⟨x, y, t, rfl, hy, rfl⟩ := binLD_v h
    have q : x - (x / y) * y = x % y := lrem_mod x y
    exact XT.lrem X hx rfl hd rfl hy (by rw [q]; exact hr)
  case lshl => obtain ⟨x, y, t, rfl, rfl⟩ := shf_v h; exact XT.lshl X hx rfl hd rfl hr
  case lshr => obtain ⟨x, y, t, rfl, rfl⟩ := shf_v h; exact XT.lshr X hx rfl hd rfl hr
  case lushr => obtain ⟨x, y, t, rfl, rfl⟩ := shf_v h; exact XT.lushr X hx rfl hd rfl hr
  case dup =>
    split at h
    · rename_i x t
      split at h
      · rename_i hc; cases h; exact XS.dup X hx rfl hd rfl ((cv_cat r x).trans hc) hr
      · cases h
    · cases h
  case dup_x1 =>
    split at h
    · rename_i x y t
      split at h
      · rename_i hc
        split at h
        · rename_i hc'; cases h; exact XT.dupX1 X hx rfl hd rfl ((cv_cat r x).trans hc) ((cv_cat r y).trans hc') hr
        · cases h
      · cases h
    · cases h
  case dup2 =>
    split at h
    · rename_i x y t
      split at h
      · rename_i hc
        split at h
        · rename_i hc'; cases h; exact XT.dup2 X hx rfl hd rfl ((cv_cat r x).trans hc) ((cv_cat r y).trans hc') hr
        · cases h
      · cases h
    · cases h
  case pop =>
    split at h
    · rename_i x t
      split at h
      · rename_i hc; cases h; exact XT.pop X hx rfl hd rfl ((cv_cat r x).trans hc) hr
      · cases h
    · cases h
  case goto o => obtain ⟨h0, rfl⟩ := jmp_v h; exact XS.goto X hx rfl (pc0 := pc) rfl hd h0 rfl hr
  case if_icmp cd o =>
    split at h
    · rename_i y x t
      split at h
      · rename_i hb; obtain ⟨h0, rfl⟩ := jmp_v h; exact XS.icmpYes X hx rfl (pc0 := pc) rfl hd rfl hb h0 rfl hr
      · rename_i hb; cases h; exact XS.icmpNo X hx rfl hd rfl hb hr
    · cases h
  case ifCond cd o =>
    split at h
    · rename_i x t
      split at h
      · rename_i hb; obtain ⟨h0, rfl⟩ := jmp_v h; exact XS.ifYes X hx rfl (pc0 := pc) rfl hd rfl hb h0 rfl hr
      · rename_i hb; cases h; exact XS.ifNo X hx rfl hd rfl hb hr
    · cases h
  case ifnull o =>
    split at h
    · rename_i t; obtain ⟨h0, rfl⟩ := jmp_v h; exact XS.ifnullYes X hx rfl (pc0 := pc) rfl hd rfl h0 rfl hr
    · rename_i i t; cases h; exact XS.ifnullNo X hx rfl hd rfl hr
    · cases h
  case ifnonnull o =>
    split at h
    · rename_i i t; obtain ⟨h0, rfl⟩ := jmp_v h; exact XT.ifnonnullYes X hx rfl (pc0 := pc) rfl hd rfl h0 rfl hr
    · rename_i t; cases h; exact XT.ifnonnullNo X hx rfl hd rfl hr
    · cases h
theorem pst_ok {r : Nat → Addr} {ins : Instr} {len pc : Nat} {ls : List Slot} {st : List Value} {q : Cf} (X : At T m c below) (hx : tb.exec = Jvm.exec) (hd : decode c.code pc = .ok (ins, len)) (h : pst ins len pc ls st = some q)
    (hr : Steps tb e below (T.setTop (mkF m q.1 (cl r q.2.1) (ct r q.2.2))) target) : Steps tb e below (T.setTop (mkF m pc (cl r ls) (ct r st))) target := by
  unfold pst at h
  split at h
  · rename_i e1; subst e1; exact pcore_ok X hx hd h hr
  · cases h
end Pure

/-! ## 4. The heap: the cells that the walk has made, by number -/
abbrev ACell : Type := (Nat × List Value) ⊕ (FieldType × List Value)
abbrev Lay : Type := List (String × List (String × String × String))
def LayOk (Z : State) (a0 : Array Value) (lay : Lay) : Prop := ∀ (ci : Nat) C fs, lay[ci]? = some (C, fs) → (∀ f ∈ fs, Laid Z a0 C f.1 f.2.1 f.2.2 ∧ ∃ ty, parseFieldDescriptor f.2.2 = some ty) ∧
  ∀ (i j : Nat) f g, fs[i]? = some f → fs[j]? = some g → i ≠ j → f.2.1 ≠ g.2.1
def CellOk (Z : State) (lay : Lay) (r : Nat → Addr) (h : Heap) (a : Addr) : ACell → Prop
  | .inl (ci, vs) => ∃ C fs, lay[ci]? = some (C, fs) ∧ Exa Z h a C ∧ fs.length = vs.length ∧ ∀ (i : Nat) f v, fs[i]? = some f → vs[i]? = some v → Fld Z h a f.1 f.2.1 f.2.2 (cv r v)
  | .inr (ty, vs) => ∃ c : Cell, Arr Z h a c ty ∧ c.slots = (ct r vs).toArray ∧ (∀ v ∈ vs, fits ty v = true) ∧ Exa Z h a ("[" ++ ty.toString)
def Hp (Z : State) (lay : Lay) (n0 : Nat) (r : Nat → Addr) (h : Heap) (A : List ACell) : Prop :=
  (∀ (i : Nat) c, A[i]? = some c → n0 ≤ r i ∧ CellOk Z lay r h (r i) c) ∧ (∀ i j, i < A.length → j < A.length → r i = r j → i = j) ∧ n0 ≤ h.size
def prim : FieldType → Bool
  | .boolean | .byte | .char | .short | .int | .long | .float | .double => true
  | _ => false
def okV (N : Nat) : Value → Bool
  | .ref i => decide (i < N)
  | _ => true
def okS (N : Nat) : Slot → Bool
  | .val v => okV N v
  | _ => true
def okC (N : Nat) : ACell → Bool
  | .inl (_, vs) => vs.all (okV N)
  | .inr (ty, vs) => prim ty || vs.all (okV N)
theorem own_gs {A : List ACell} {i : Nat} {c c' : ACell} (h : A[i]? = some c) : (A.set i c')[i]? = some c' := List.getElem?_set_self (List.getElem?_eq_some_iff.mp h).1
theorem own_lt {A : List ACell} {i : Nat} {c : ACell} (h : A[i]? = some c) : i < A.length := (List.getElem?_eq_some_iff.mp h).1
section Agree
variable {N : Nat} {r r' : Nat → Addr}
theorem cv_ag (q : ∀ i, i < N → r' i = r i) {v : Value} (h : okV N v = true) : cv r' v = cv r v := by
  cases v <;> first | rfl | (simp only [okV, decide_eq_true_eq] at h; simp [cv, q _ h])
theorem cs_ag (q : ∀ i, i < N → r' i = r i) {v : Slot} (h : okS N v = true) : cs r' v = cs r v := by
  cases v <;> first | rfl | (simp only [okS] at h; simp [cs, cv_ag q h])
theorem ct_ag (q : ∀ i, i < N → r' i = r i) {st : List Value} (h : st.all (okV N) = true) : ct r' st = ct r st :=
  List.map_congr_left fun v hv => cv_ag q (List.all_eq_true.mp h v hv)
theorem cl_ag (q : ∀ i, i < N → r' i = r i) {ls : List Slot} (h : ls.all (okS N) = true) : cl r' ls = cl r ls := by
  simp only [cl]
  congr 1
  exact List.map_congr_left fun v hv => cs_ag q (List.all_eq_true.mp h v hv)
theorem prim_cv {ty : FieldType} {v : Value} (hp : prim ty = true) (hf : fits ty v = true) : cv r v = v := by
  cases v <;> first | rfl | (cases ty <;> simp_all [prim, fits])
theorem CellOk.ag {Z : State} {lay : Lay} {h : Heap} {a : Addr} (q : ∀ i, i < N → r' i = r i) : ∀ {c : ACell}, okC N c = true → CellOk Z lay r h a c → CellOk Z lay r' h a c
  | .inl (ci, vs), hk, ⟨C, fs, h1, E, h2, h3⟩ => ⟨C, fs, h1, E, h2, fun i f v hf hv => by
      rw [cv_ag q (List.all_eq_true.mp hk v (List.mem_of_getElem? hv))]
      exact h3 i f v hf hv⟩
  | .inr (ty, vs), hk, ⟨c, h1, h2, h3, h5⟩ => ⟨c, h1, by
      rw [h2]
      congr 1
      refine List.map_congr_left fun v hv => ?_
      simp only [okC, Bool.or_eq_true] at hk
      rcases hk with hk | hk
      · rw [prim_cv hk (h3 v hv), prim_cv hk (h3 v hv)]
      · exact (cv_ag q (List.all_eq_true.mp hk v hv)).symm, h3, h5⟩
end Agree
section Move
variable {Z : State} {lay : Lay} {r : Nat → Addr} {h h' : Heap} {a b : Addr} {sl : Nat} {v : Value} {n0 : Nat} {A : List ACell}
theorem CellOk.ext (E : Ext h h') : ∀ {c : ACell}, CellOk Z lay r h a c → CellOk Z lay r h' a c
  | .inl (ci, vs), ⟨C, fs, h1, F, h2, h3⟩ => ⟨C, fs, h1, F.ext E, h2, fun i f v hf hv => (h3 i f v hf hv).ext E⟩
  | .inr (ty, vs), ⟨c, h1, h2, h3, h5⟩ => ⟨c, h1.ext E, h2, h3, h5.ext E⟩
theorem CellOk.other (W : Wr h h' a sl v) (q : b ≠ a) : ∀ {c : ACell}, CellOk Z lay r h b c → CellOk Z lay r h' b c
  | .inl (ci, vs), ⟨C, fs, h1, F, h2, h3⟩ => ⟨C, fs, h1, F.wr W, h2, fun i f v hf hv => (h3 i f v hf hv).other W (Or.inl q)⟩
  | .inr (ty, vs), ⟨c, h1, h2, h3, h5⟩ => ⟨c, h1.other W q, h2, h3, h5.wr W⟩
theorem CellOk.lt : ∀ {c : ACell}, CellOk Z lay r h a c → a < h.size
  | .inl _, ⟨_, _, _, F, _⟩ => F.lt
  | .inr _, ⟨_, F, _⟩ => F.lt
theorem Hp.ext (E : Ext h h') (H : Hp Z lay n0 r h A) : Hp Z lay n0 r h' A := ⟨fun i c hc => ⟨(H.1 i c hc).1, (H.1 i c hc).2.ext E⟩, H.2.1, Nat.le_trans H.2.2 E.1⟩
theorem Hp.lt (H : Hp Z lay n0 r h A) {i : Nat} (hi : i < A.length) : r i < h.size := (H.1 i _ (List.getElem?_eq_getElem hi)).2.lt
/-- a cell is made: it bears the next number -/
theorem Hp.push (H : Hp Z lay n0 r h A) (E : Ext h h') {c : ACell} (hA : A.all (okC A.length) = true) (hc : CellOk Z lay (fun i => if i = A.length then h.size else r i) h' h.size c) :
    Hp Z lay n0 (fun i => if i = A.length then h.size else r i) h' (A ++ [c]) := by
  have q : ∀ i, i < A.length → (fun i => if i = A.length then h.size else r i) i = r i := fun i hi => if_neg (Nat.ne_of_lt hi)
  refine ⟨fun i x hx => ?_, fun i j hi hj e => ?_, Nat.le_trans H.2.2 E.1⟩
  · by_cases hi : i = A.length
    · subst hi
      simp at hx
      subst hx
      simp only [if_true]
      exact ⟨H.2.2, hc⟩
    · have hl : i < A.length := by
        have := (List.getElem?_eq_some_iff.mp hx).1
        simp at this
        omega
      rw [List.getElem?_append_left hl] at hx
      simp only [hi, if_false]
      obtain ⟨h1, h2⟩ := H.1 i x hx
      exact ⟨h1, (h2.ext E).ag q (List.all_eq_true.mp hA x (List.mem_of_getElem? hx))⟩
  · simp at hi hj
    by_cases h1 : i = A.length <;> by_cases h2 : j = A.length
    · omega
    · have e' : h.size = r j := by simpa [h1, h2] using e
      have hlt := H.lt (i := j) (by omega)
      rw [← e'] at hlt
      exact absurd hlt (Nat.lt_irrefl _)
    · have e' : r i = h.size := by simpa [h1, h2] using e
      have hlt := H.lt (i := i) (by omega)
      rw [e'] at hlt
      exact absurd hlt (Nat.lt_irrefl _)
    · have e' : r i = r j := by simpa [h1, h2] using e
      exact H.2.1 i j (by omega) (by omega) e'
/-- a cell is written -/
theorem Hp.set (H : Hp Z lay n0 r h A) {i : Nat} {x y : ACell} (hx : A[i]? = some x) (W : Wr h h' (r i) sl v) (hy : CellOk Z lay r h' (r i) y) : Hp Z lay n0 r h' (A.set i y) := by
  have hi := (List.getElem?_eq_some_iff.mp hx).1
  refine ⟨fun j z hz => ?_, fun j k hj hk e => H.2.1 j k (by simpa using hj) (by simpa using hk) e, by rw [W.size]; exact H.2.2⟩
  by_cases e : j = i
  · subst e
    rw [List.getElem?_set_self hi] at hz
    cases hz
    exact ⟨(H.1 j x hx).1, hy⟩
  · rw [List.getElem?_set_ne (Ne.symm e)] at hz
    refine ⟨(H.1 j z hz).1, (H.1 j z hz).2.other W fun q => e (H.2.1 j i (List.getElem?_eq_some_iff.mp hz).1 hi q)⟩
theorem CellOk.put {a0 : Array Value} (hL : LayOk Z a0 lay) {C : String} {ci : Nat} {vs : List Value} {fs : List (String × String × String)} {k : Nat} {f : String × String × String} {w : Value} (hC : lay[ci]? = some (C, fs)) (hf : fs[k]? = some f) (W : Wr h h' a (RoadKit.slotOf Z f.1 f.2.1 f.2.2) (cv r w))
    (H : CellOk Z lay r h a (.inl (ci, vs))) : CellOk Z lay r h' a (.inl (ci, vs.set k w)) := by
  obtain ⟨C', fs', h1, F, h2, h3⟩ := H
  cases hC.symm.trans h1
  have hk : k < fs.length := (List.getElem?_eq_some_iff.mp hf).1
  have hkv : k < vs.length := h2 ▸ hk
  refine ⟨C, fs, hC, F.wr W, by simpa using h2, fun i g u hg hu => ?_⟩
  by_cases e : i = k
  · subst e
    cases hf.symm.trans hg
    rw [List.getElem?_set_self hkv] at hu
    cases hu
    exact (h3 i f _ hf (List.getElem?_eq_getElem hkv)).same W
  · rw [List.getElem?_set_ne (Ne.symm e)] at hu
    obtain ⟨q1, q2⟩ := hL ci C fs hC
    obtain ⟨l1, t1, p1⟩ := q1 g (List.mem_of_getElem? hg)
    obtain ⟨l2, t2, p2⟩ := q1 f (List.mem_of_getElem? hf)
    exact (h3 i g u hg hu).other W (Or.inr (slot_ne l1 l2 (q2 i k g f hg hf e) p1 p2))
theorem CellOk.stA {ty : FieldType} {vs : List Value} {j : Nat} {w : Value} (hw : fits ty w = true) (H : CellOk Z lay r h a (.inr (ty, vs))) (W : Wr h h' a j (cv r w)) : CellOk Z lay r h' a (.inr (ty, vs.set j w)) := by
  obtain ⟨c, h1, h2, h3, h5⟩ := H
  refine ⟨_, h1.same W, ?_, fun v hv => ?_, h5.wr W⟩
  · simp [Cell.setSlot, h2, ct, List.map_set]
  · rcases List.mem_or_eq_of_mem_set hv with q | q
    · exact h3 v q
    · rw [q]; exact hw
end Move

/-! ## 5. Where a walk stands; that from there it ends well -/
abbrev Dt : Type := List (Nat × Instr × Nat)
def Cx (Z : State) (own : String) (D : Dt) (maxL : Nat) (ret : Option FieldType) (nm : String) (p : Program) (s : State) (m : MethodId) (meth : Method) (c : Code) : Prop :=
  p.tables.exec = Jvm.exec ∧ Z.Warmed39 s.vm ∧ s.vm.findClass own = some m.cls ∧ meth.sig.returnType = ret ∧ meth.locks = false ∧ (∀ q ∈ D, decode c.code q.1 = .ok q.2) ∧ c.maxLocals = maxL ∧ meth.name = nm
theorem Cx.dec {Z : State} {own : String} {D : Dt} {maxL : Nat} {ret : Option FieldType} {nm : String} {p : Program} {s : State} {m : MethodId} {meth : Method} {c : Code} (C : Cx Z own D maxL ret nm p s m meth c) {jx pc len : Nat} {ins : Instr} (hl : D[jx]? = some (pc, ins, len)) : decode c.code pc = .ok (ins, len) := by
  have h := C.2.2.2.2.2.1 (pc, ins, len) (List.mem_of_getElem? hl)
  dsimp only at h
  exact h
def Based (w : Bool) (s s' : State) (k : Nat) : Prop := match w with
  | false => s' = s
  | true => ∃ vm0 k0, s' = s.setVm vm0 ∧ s.Since vm0 k0 ∧ k0 ≤ k
def EndK (w : Bool) (s : State) (o : Outcome) (t : State) (L : List Loc) (k n : Nat) : Prop := match w with
  | false => FrameEnd s o t L k n
  | true => ReturnedEndW s o t L k n
def Fin (w : Bool) (Z : State) (n0 : Nat) (lay : Lay) (R : Room) (Φ : Option Value → List ACell → Prop) (N : Nat) (r : Nat → Addr) (p : Program) (e : Env) (below : List Frame) (s U : State) : Prop :=
  ∃ (s₂ : State) (v : Option Value) (L : List Loc) (A' : List ACell) (r' : Nat → Addr), Steps p.tables e below U s₂ ∧ s₂.status = .running ∧ Ended s₂ below (.returned (v.map (cv r'))) ∧ EndK w s (.returned (v.map (cv r'))) s₂ L R.cells R.slots ∧ Fr n0 L ∧
    Hp Z lay n0 r' s₂.heap A' ∧ ((∀ i, i < N → r' i = r i) ∧ N ≤ A'.length) ∧ Φ v A'
theorem Fin.back {w : Bool} {Z : State} {n0 : Nat} {lay : Lay} {R : Room} {Φ : Option Value → List ACell → Prop} {N N' : Nat} {r r' : Nat → Addr} {p : Program} {e : Env} {below : List Frame} {s U U' : State} (h : Fin w Z n0 lay R Φ N' r' p e below s U')
    (st : ∀ t, Steps p.tables e below U' t → Steps p.tables e below U t) (hN : N ≤ N') (hr : ∀ i, i < N → r' i = r i) : Fin w Z n0 lay R Φ N r p e below s U := by
  obtain ⟨s₂, v, L, A', r'', h1, h2, h3, h4, h5, h6, h7, h8⟩ := h
  exact ⟨s₂, v, L, A', r'', st _ h1, h2, h3, h4, h5, h6, ⟨fun i hi => (h7.1 i (Nat.lt_of_lt_of_le hi hN)).trans (hr i hi), Nat.le_trans hN h7.2⟩, h8⟩
/-- from pc, with these variables, this stack and these cells (so many cells and slots booked so far) the body comes to its end, and Φ holds of what it returns and of the cells then -/
def WP (w : Bool) (l : Launch) (Z : State) (n0 : Nat) (lay : Lay) (own : String) (D : Dt) (maxL : Nat) (ret : Option FieldType) (nm : String) (R : Room)
    (pc : Nat) (ls : List Slot) (st : List Value) (A : List ACell) (cells slots : Nat) (Φ : Option Value → List ACell → Prop) : Prop :=
  ∀ (p : Program) (e : Env) (s s' : State) (m : MethodId) (args : Array Value) (below : List Frame) (meth : Method) (c : Code) (T : State) (locs : List Loc) (r : Nat → Addr),
    Stand p l e R s' m args below meth c T locs cells slots → Cx Z own D maxL ret nm p s' m meth c → Fr n0 locs → Hp Z lay n0 r T.heap A → Based w s s' T.heap.size →
    Fin w Z n0 lay R Φ A.length r p e below s (T.setTop (mkF m pc (cl r ls) (ct r st)))
/-- what a call leaves, over the true heap -/
def QC (Z : State) (lay : Lay) (n0 : Nat) (r : Nat → Addr) (N : Nat) (Ψ : Option Value → List ACell → Prop) (v : Option Value) (h : Heap) (L : List Loc) : Prop :=
  Fr n0 L ∧ ∃ v' A' r', v = v'.map (cv r') ∧ Hp Z lay n0 r' h A' ∧ ((∀ i, i < N → r' i = r i) ∧ N ≤ A'.length) ∧ Ψ v' A'
/-- the contract of a method, at these arguments and these cells -/
def MT (w : Bool) (l : Launch) (Z : State) (n0 : Nat) (lay : Lay) (y : MethodName) (code : ByteArray) (maxL : Nat) (ret : Option FieldType) (ws : List Jvm.Cond) (R : Room) (as : List Value) (A : List ACell) (Φ : Option Value → List ACell → Prop) : Prop :=
  ∀ (r : Nat → Addr) (h : Heap), Hp Z lay n0 r h A → MetFree l y (head1 (Jvm.Cond.code y code maxL ret :: ws) R) (fun a U => a = (ct r as).toArray ∧ Z.Warmed39 U.vm ∧ U.heap = h) (fun _ _ _ _ _ => True)
    (fun _ U o U' => ∃ v L, o = .returned v ∧ QC Z lay n0 r A.length Φ v U'.heap L ∧ EndK w U o U' L R.cells R.slots)
theorem MT.nar {l : Launch} {Z : State} {n0 : Nat} {lay : Lay} {y : MethodName} {code : ByteArray} {maxL : Nat} {ret : Option FieldType} {ws : List Jvm.Cond} {R : Room} {as : List Value} {A : List ACell} {Φ : Option Value → List ACell → Prop} (h : MT false l Z n0 lay y code maxL ret ws R as A Φ) (r : Nat → Addr) (hp : Heap) (H : Hp Z lay n0 r hp A) :
    MetFree l y (head1 (Jvm.Cond.code y code maxL ret :: ws) R) (fun a U => a = (ct r as).toArray ∧ Z.Warmed39 U.vm ∧ U.heap = hp) (fun _ _ _ _ _ => True) (fun _ U o U' => ∃ v L, o = .returned v ∧ QC Z lay n0 r A.length Φ v U'.heap L ∧ FrameEnd U o U' L R.cells R.slots) := h r hp H
theorem MT.wid {l : Launch} {Z : State} {n0 : Nat} {lay : Lay} {y : MethodName} {code : ByteArray} {maxL : Nat} {ret : Option FieldType} {ws : List Jvm.Cond} {R : Room} {as : List Value} {A : List ACell} {Φ : Option Value → List ACell → Prop} (h : MT true l Z n0 lay y code maxL ret ws R as A Φ) (r : Nat → Addr) (hp : Heap) (H : Hp Z lay n0 r hp A) :
    MetFree l y (head1 (Jvm.Cond.code y code maxL ret :: ws) R) (fun a U => a = (ct r as).toArray ∧ Z.Warmed39 U.vm ∧ U.heap = hp) (fun _ _ _ _ _ => True) (fun _ U o U' => ∃ v L, o = .returned v ∧ QC Z lay n0 r A.length Φ v U'.heap L ∧ ReturnedEndW U o U' L R.cells R.slots) := h r hp H
def entL (as : List Value) (maxL : Nat) : List Slot :=
  let f := as.flatMap fun (v : Value) => if v.category = 2 then [Slot.val v, Slot.second] else [Slot.val v]
  f ++ List.replicate (maxL - f.length) .unset
theorem ent_ok (r : Nat → Addr) (as : List Value) (maxL : Nat) : argsToLocals (ct r as).toArray maxL = cl r (entL as maxL) := by
  have key : ∀ (as : List Value) (acc : List Slot), List.foldl (fun (acc : Array Slot) (v : Value) => if v.category = 2 then (acc.push (.val v)).push .second else acc.push (.val v)) (acc.map (cs r)).toArray (ct r as)
      = ((acc ++ as.flatMap fun (v : Value) => if v.category = 2 then [Slot.val v, Slot.second] else [Slot.val v]).map (cs r)).toArray := by
    intro as
    induction as with
    | nil => intro acc; simp [ct]
    | cons v as ih =>
      intro acc
      simp only [ct, List.map_cons, List.foldl_cons, cv_cat]
      by_cases hc : v.category = 2
      · have := ih (acc ++ [.val v, .second])
        simp only [ct] at this
        simp only [hc, if_true, List.flatMap_cons]
        rw [← List.append_assoc, ← this]
        congr 1
        simp [cs]
      · have := ih (acc ++ [.val v])
        simp only [ct] at this
        simp only [hc, if_false, List.flatMap_cons]
        rw [← List.append_assoc, ← this]
        congr 1
        simp [cs]
  have k0 := key as []
  simp only [List.map_nil, List.nil_append] at k0
  unfold argsToLocals entL
  simp only [List.size_toArray, List.foldl_toArray', k0, cl]
  simp [cs]

/-! ## 6. The rules -/
section Rules
variable {w : Bool} {l : Launch} {Z : State} {a0 : Array Value} {n0 : Nat} {lay : Lay} {own : String} {D : Dt} {maxL : Nat} {ret : Option FieldType} {nm : String} {R : Room}
  {pc jx : Nat} {ls : List Slot} {st : List Value} {A : List ACell} {cells slots : Nat} {Φ : Option Value → List ACell → Prop}
theorem W_enter {y : MethodName} {code : ByteArray} {ws : List Jvm.Cond} {as : List Value} (hpn : plainFor y = true) (hD : ∀ q ∈ D, decode code q.1 = .ok q.2) (h : WP w l Z n0 lay y.cls D maxL ret y.name R 0 (entL as maxL) [] A 0 0 Φ) :
    MT w l Z n0 lay y code maxL ret ws R as A Φ := by
  intro r hh HP
  refine MetFree.of_bodySF hpn hisR ?_
  intro p e s m args below meth c s₁ Bd hml hP hK
  obtain ⟨rfl, hZ, hh'⟩ := hP
  have X0 : Stand p l e R s m _ below meth c s₁ [] 0 0 := Stand.of_body Bd
  have e0 : s₁.heap = hh := by rw [← hh', Bd.state]; rfl
  have hby := Bd.bytes
  have C0 : Cx Z y.cls D maxL ret y.name p s m meth c := ⟨Bd.exec, hZ, findClass_of_methodNamed Bd.named, Bd.returns, Bd.notSynchronized, fun q hq => hb hby (hD q hq), hml, (name_of_methodNamed Bd.named Bd.method).1⟩
  obtain ⟨s₂, v, L, A', r', h1, h2, h3, h4, h5, h6, h7, h8⟩ := h p e s s m _ below meth c s₁ [] r X0 C0 (Fr.nil n0) (e0 ▸ HP) (by cases w; exact rfl; exact ⟨s.vm, 0, rfl, (State.WarmedH.refl s).since 0, Nat.zero_le _⟩)
  have hE : entryFrame m (ct r as).toArray maxL = mkF m 0 (cl r (entL as maxL)) (ct r []) := by unfold entryFrame; rw [ent_ok]; rfl
  exact ⟨s₂, _, castTop hE h1, h2, h3, _, L, rfl, ⟨h5, v, A', r', rfl, h6, h7, h8⟩, h4⟩
theorem W_pure {ins : Instr} {len pc' : Nat} {ls' : List Slot} {st' : List Value} (hl : D[jx]? = some (pc, ins, len)) (h : pst ins len pc ls st = some (pc', ls', st')) (hr : WP w l Z n0 lay own D maxL ret nm R pc' ls' st' A cells slots Φ) : WP w l Z n0 lay own D maxL ret nm R pc ls st A cells slots Φ :=
  fun p e s s' m args below meth c T locs r X C N H B => (hr p e s s' m args below meth c T locs r X C N H B).back (fun t ht => pst_ok X.here C.1 (C.dec hl) h ht) (Nat.le_refl _) (fun _ _ => rfl)
def srun : Dt → Nat → Nat → List Slot → List Value → Option Cf
  | _, 0, pc, ls, st => some (pc, ls, st)
  | [], _ + 1, _, _, _ => none
  | (k, ins, len) :: D, n + 1, pc, ls, st => if k = pc then (match pst ins len k ls st with | some (pc', ls', st') => srun D n pc' ls' st' | none => none) else none
theorem W_srun (n : Nat) {E : Dt} {pc' : Nat} {ls' : List Slot} {st' : List Value} (hE : ∀ q ∈ E, q ∈ D) (h : srun E n pc ls st = some (pc', ls', st')) (hr : WP w l Z n0 lay own D maxL ret nm R pc' ls' st' A cells slots Φ) : WP w l Z n0 lay own D maxL ret nm R pc ls st A cells slots Φ := by
  induction n generalizing pc ls st E with
  | zero =>
    have h' : some (pc, ls, st) = some (pc', ls', st') := by cases E <;> exact h
    cases h'; exact hr
  | succ n ih =>
    cases E with
    | nil => cases h
    | cons q E =>
      obtain ⟨k, ins, len⟩ := q
      simp only [srun] at h
      split at h
      · rename_i e0
        subst e0
        split at h
        · rename_i a b d e2
          obtain ⟨jx, hj⟩ := List.getElem?_of_mem (hE _ (List.mem_cons_self ..))
          exact W_pure hj e2 (ih (fun q hq => hE q (List.mem_cons_of_mem _ hq)) h)
        · cases h
      · cases h
/-- n plain instructions, from the jx-th row of the table -/
theorem W_run (jx n : Nat) {pc' : Nat} {ls' : List Slot} {st' : List Value} (h : srun (D.drop jx) n pc ls st = some (pc', ls', st')) (hr : WP w l Z n0 lay own D maxL ret nm R pc' ls' st' A cells slots Φ) : WP w l Z n0 lay own D maxL ret nm R pc ls st A cells slots Φ :=
  W_srun n (fun _ hq => List.mem_of_mem_drop hq) h hr
theorem W_icmp {cd : ClassFile.Cond} {o : Int} {x y : Int32} {pc' : Nat} (hl : D[jx]? = some (pc, .if_icmp cd o, 3)) (ho : 0 ≤ (pc : Int) + o) (hp : ((pc : Int) + o).toNat = pc') (h1 : if_icmp.holds cd x y = true → WP w l Z n0 lay own D maxL ret nm R pc' ls st A cells slots Φ)
    (h2 : if_icmp.holds cd x y = false → WP w l Z n0 lay own D maxL ret nm R (pc + 3) ls st A cells slots Φ) : WP w l Z n0 lay own D maxL ret nm R pc ls (.int y :: .int x :: st) A cells slots Φ := by
  subst hp
  cases hb : if_icmp.holds cd x y
  · exact W_pure hl (by simp [pst, ilen, pcore, hb]) (h2 hb)
  · exact W_pure hl (by simp [pst, ilen, pcore, hb, jmp, ho]) (h1 hb)
theorem W_if {cd : ClassFile.Cond} {o : Int} {x : Int32} {pc' : Nat} (hl : D[jx]? = some (pc, .ifCond cd o, 3)) (ho : 0 ≤ (pc : Int) + o) (hp : ((pc : Int) + o).toNat = pc') (h1 : ifCond.holds cd x = true → WP w l Z n0 lay own D maxL ret nm R pc' ls st A cells slots Φ)
    (h2 : ifCond.holds cd x = false → WP w l Z n0 lay own D maxL ret nm R (pc + 3) ls st A cells slots Φ) : WP w l Z n0 lay own D maxL ret nm R pc ls (.int x :: st) A cells slots Φ := by
  subst hp
  cases hb : ifCond.holds cd x
  · exact W_pure hl (by simp [pst, ilen, pcore, hb]) (h2 hb)
  · exact W_pure hl (by simp [pst, ilen, pcore, hb, jmp, ho]) (h1 hb)
theorem h_lt {x y : Int32} : (if_icmp.holds .lt x y = true ↔ x < y) ∧ (if_icmp.holds .lt x y = false ↔ ¬ x < y) := by
  by_cases h : x < y <;> simp [if_icmp.holds, h, Int32.not_lt, Int32.not_le, Int32.le_iff_toInt_le, Int32.lt_iff_toInt_lt] <;> (simp only [Int32.lt_iff_toInt_lt] at h; omega)
theorem h_ge {x y : Int32} : (if_icmp.holds .ge x y = true ↔ ¬ x < y) ∧ (if_icmp.holds .ge x y = false ↔ x < y) := by
  by_cases h : x < y <;> simp [if_icmp.holds, h, Int32.not_lt, Int32.not_le, Int32.le_iff_toInt_le, Int32.lt_iff_toInt_lt] <;> (simp only [Int32.lt_iff_toInt_lt] at h; omega)
theorem h_gt {x y : Int32} : (if_icmp.holds .gt x y = true ↔ y < x) ∧ (if_icmp.holds .gt x y = false ↔ ¬ y < x) := by
  by_cases h : y < x <;> simp [if_icmp.holds, h, Int32.not_lt, Int32.not_le, Int32.le_iff_toInt_le, Int32.lt_iff_toInt_lt] <;> (simp only [Int32.lt_iff_toInt_lt] at h; omega)
theorem h_le {x y : Int32} : (if_icmp.holds .le x y = true ↔ ¬ y < x) ∧ (if_icmp.holds .le x y = false ↔ y < x) := by
  by_cases h : y < x <;> simp [if_icmp.holds, h, Int32.not_lt, Int32.not_le, Int32.le_iff_toInt_le, Int32.lt_iff_toInt_lt] <;> (simp only [Int32.lt_iff_toInt_lt] at h; omega)
theorem h_eq {x y : Int32} : (if_icmp.holds .eq x y = true ↔ x = y) ∧ (if_icmp.holds .eq x y = false ↔ ¬ x = y) := by
  by_cases h : x = y <;> simp [if_icmp.holds, h, Int32.not_lt, Int32.not_le, Int32.le_iff_toInt_le, Int32.lt_iff_toInt_lt] <;> (simp only [Int32.lt_iff_toInt_lt] at h; omega)
theorem h_ne {x y : Int32} : (if_icmp.holds .ne x y = true ↔ ¬ x = y) ∧ (if_icmp.holds .ne x y = false ↔ x = y) := by
  by_cases h : x = y <;> simp [if_icmp.holds, h, Int32.not_lt, Int32.not_le, Int32.le_iff_toInt_le, Int32.lt_iff_toInt_lt] <;> (simp only [Int32.lt_iff_toInt_lt] at h; omega)
theorem W_lt {o : Int} {x y : Int32} {pc' : Nat} (hl : D[jx]? = some (pc, .if_icmp .lt o, 3)) (ho : 0 ≤ (pc : Int) + o) (hp : ((pc : Int) + o).toNat = pc') (h1 : x < y → WP w l Z n0 lay own D maxL ret nm R pc' ls st A cells slots Φ)
    (h2 : ¬ x < y → WP w l Z n0 lay own D maxL ret nm R (pc + 3) ls st A cells slots Φ) : WP w l Z n0 lay own D maxL ret nm R pc ls (.int y :: .int x :: st) A cells slots Φ :=
  W_icmp hl ho hp (fun h => h1 (h_lt.1.mp h)) (fun h => h2 (h_lt.2.mp h))
theorem W_ge {o : Int} {x y : Int32} {pc' : Nat} (hl : D[jx]? = some (pc, .if_icmp .ge o, 3)) (ho : 0 ≤ (pc : Int) + o) (hp : ((pc : Int) + o).toNat = pc') (h1 : ¬ x < y → WP w l Z n0 lay own D maxL ret nm R pc' ls st A cells slots Φ)
    (h2 : x < y → WP w l Z n0 lay own D maxL ret nm R (pc + 3) ls st A cells slots Φ) : WP w l Z n0 lay own D maxL ret nm R pc ls (.int y :: .int x :: st) A cells slots Φ :=
  W_icmp hl ho hp (fun h => h1 (h_ge.1.mp h)) (fun h => h2 (h_ge.2.mp h))
theorem W_gt {o : Int} {x y : Int32} {pc' : Nat} (hl : D[jx]? = some (pc, .if_icmp .gt o, 3)) (ho : 0 ≤ (pc : Int) + o) (hp : ((pc : Int) + o).toNat = pc') (h1 : y < x → WP w l Z n0 lay own D maxL ret nm R pc' ls st A cells slots Φ)
    (h2 : ¬ y < x → WP w l Z n0 lay own D maxL ret nm R (pc + 3) ls st A cells slots Φ) : WP w l Z n0 lay own D maxL ret nm R pc ls (.int y :: .int x :: st) A cells slots Φ :=
  W_icmp hl ho hp (fun h => h1 (h_gt.1.mp h)) (fun h => h2 (h_gt.2.mp h))
theorem W_le {o : Int} {x y : Int32} {pc' : Nat} (hl : D[jx]? = some (pc, .if_icmp .le o, 3)) (ho : 0 ≤ (pc : Int) + o) (hp : ((pc : Int) + o).toNat = pc') (h1 : ¬ y < x → WP w l Z n0 lay own D maxL ret nm R pc' ls st A cells slots Φ)
    (h2 : y < x → WP w l Z n0 lay own D maxL ret nm R (pc + 3) ls st A cells slots Φ) : WP w l Z n0 lay own D maxL ret nm R pc ls (.int y :: .int x :: st) A cells slots Φ :=
  W_icmp hl ho hp (fun h => h1 (h_le.1.mp h)) (fun h => h2 (h_le.2.mp h))
theorem W_eq {o : Int} {x y : Int32} {pc' : Nat} (hl : D[jx]? = some (pc, .if_icmp .eq o, 3)) (ho : 0 ≤ (pc : Int) + o) (hp : ((pc : Int) + o).toNat = pc') (h1 : x = y → WP w l Z n0 lay own D maxL ret nm R pc' ls st A cells slots Φ)
    (h2 : ¬ x = y → WP w l Z n0 lay own D maxL ret nm R (pc + 3) ls st A cells slots Φ) : WP w l Z n0 lay own D maxL ret nm R pc ls (.int y :: .int x :: st) A cells slots Φ :=
  W_icmp hl ho hp (fun h => h1 (h_eq.1.mp h)) (fun h => h2 (h_eq.2.mp h))
theorem W_ne {o : Int} {x y : Int32} {pc' : Nat} (hl : D[jx]? = some (pc, .if_icmp .ne o, 3)) (ho : 0 ≤ (pc : Int) + o) (hp : ((pc : Int) + o).toNat = pc') (h1 : ¬ x = y → WP w l Z n0 lay own D maxL ret nm R pc' ls st A cells slots Φ)
    (h2 : x = y → WP w l Z n0 lay own D maxL ret nm R (pc + 3) ls st A cells slots Φ) : WP w l Z n0 lay own D maxL ret nm R pc ls (.int y :: .int x :: st) A cells slots Φ :=
  W_icmp hl ho hp (fun h => h1 (h_ne.1.mp h)) (fun h => h2 (h_ne.2.mp h))
theorem W_iflt {o : Int} {x : Int32} {pc' : Nat} (hl : D[jx]? = some (pc, .ifCond .lt o, 3)) (ho : 0 ≤ (pc : Int) + o) (hp : ((pc : Int) + o).toNat = pc') (h1 : x < 0 → WP w l Z n0 lay own D maxL ret nm R pc' ls st A cells slots Φ)
    (h2 : ¬ x < 0 → WP w l Z n0 lay own D maxL ret nm R (pc + 3) ls st A cells slots Φ) : WP w l Z n0 lay own D maxL ret nm R pc ls (.int x :: st) A cells slots Φ :=
  W_if hl ho hp (fun h => h1 (h_lt.1.mp (by rw [if0] at h; exact h))) (fun h => h2 (h_lt.2.mp (by rw [if0] at h; exact h)))
theorem W_ifge {o : Int} {x : Int32} {pc' : Nat} (hl : D[jx]? = some (pc, .ifCond .ge o, 3)) (ho : 0 ≤ (pc : Int) + o) (hp : ((pc : Int) + o).toNat = pc') (h1 : ¬ x < 0 → WP w l Z n0 lay own D maxL ret nm R pc' ls st A cells slots Φ)
    (h2 : x < 0 → WP w l Z n0 lay own D maxL ret nm R (pc + 3) ls st A cells slots Φ) : WP w l Z n0 lay own D maxL ret nm R pc ls (.int x :: st) A cells slots Φ :=
  W_if hl ho hp (fun h => h1 (h_ge.1.mp (by rw [if0] at h; exact h))) (fun h => h2 (h_ge.2.mp (by rw [if0] at h; exact h)))
theorem W_ifgt {o : Int} {x : Int32} {pc' : Nat} (hl : D[jx]? = some (pc, .ifCond .gt o, 3)) (ho : 0 ≤ (pc : Int) + o) (hp : ((pc : Int) + o).toNat = pc') (h1 : 0 < x → WP w l Z n0 lay own D maxL ret nm R pc' ls st A cells slots Φ)
    (h2 : ¬ 0 < x → WP w l Z n0 lay own D maxL ret nm R (pc + 3) ls st A cells slots Φ) : WP w l Z n0 lay own D maxL ret nm R pc ls (.int x :: st) A cells slots Φ :=
  W_if hl ho hp (fun h => h1 (h_gt.1.mp (by rw [if0] at h; exact h))) (fun h => h2 (h_gt.2.mp (by rw [if0] at h; exact h)))
theorem W_ifle {o : Int} {x : Int32} {pc' : Nat} (hl : D[jx]? = some (pc, .ifCond .le o, 3)) (ho : 0 ≤ (pc : Int) + o) (hp : ((pc : Int) + o).toNat = pc') (h1 : ¬ 0 < x → WP w l Z n0 lay own D maxL ret nm R pc' ls st A cells slots Φ)
    (h2 : 0 < x → WP w l Z n0 lay own D maxL ret nm R (pc + 3) ls st A cells slots Φ) : WP w l Z n0 lay own D maxL ret nm R pc ls (.int x :: st) A cells slots Φ :=
  W_if hl ho hp (fun h => h1 (h_le.1.mp (by rw [if0] at h; exact h))) (fun h => h2 (h_le.2.mp (by rw [if0] at h; exact h)))
theorem W_ifeq {o : Int} {x : Int32} {pc' : Nat} (hl : D[jx]? = some (pc, .ifCond .eq o, 3)) (ho : 0 ≤ (pc : Int) + o) (hp : ((pc : Int) + o).toNat = pc') (h1 : x = 0 → WP w l Z n0 lay own D maxL ret nm R pc' ls st A cells slots Φ)
    (h2 : ¬ x = 0 → WP w l Z n0 lay own D maxL ret nm R (pc + 3) ls st A cells slots Φ) : WP w l Z n0 lay own D maxL ret nm R pc ls (.int x :: st) A cells slots Φ :=
  W_if hl ho hp (fun h => h1 (h_eq.1.mp (by rw [if0] at h; exact h))) (fun h => h2 (h_eq.2.mp (by rw [if0] at h; exact h)))
theorem W_ifne {o : Int} {x : Int32} {pc' : Nat} (hl : D[jx]? = some (pc, .ifCond .ne o, 3)) (ho : 0 ≤ (pc : Int) + o) (hp : ((pc : Int) + o).toNat = pc') (h1 : ¬ x = 0 → WP w l Z n0 lay own D maxL ret nm R pc' ls st A cells slots Φ)
    (h2 : x = 0 → WP w l Z n0 lay own D maxL ret nm R (pc + 3) ls st A cells slots Φ) : WP w l Z n0 lay own D maxL ret nm R pc ls (.int x :: st) A cells slots Φ :=
  W_if hl ho hp (fun h => h1 (h_ne.1.mp (by rw [if0] at h; exact h))) (fun h => h2 (h_ne.2.mp (by rw [if0] at h; exact h)))
theorem W_llt {o : Int} {x y : Int64} {pc' : Nat} (hl : D[jx]? = some (pc, .ifCond .lt o, 3)) (ho : 0 ≤ (pc : Int) + o) (hp : ((pc : Int) + o).toNat = pc') (h1 : x < y → WP w l Z n0 lay own D maxL ret nm R pc' ls st A cells slots Φ)
    (h2 : ¬ x < y → WP w l Z n0 lay own D maxL ret nm R (pc + 3) ls st A cells slots Φ) : WP w l Z n0 lay own D maxL ret nm R pc ls (.int (XT.cmpL x y) :: st) A cells slots Φ := by
  by_cases q : x < y
  · exact W_if hl ho hp (fun h => h1 q) (fun h => absurd h (by rw [XT.ll_lt_t q]; decide))
  · exact W_if hl ho hp (fun h => absurd h (by rw [XT.ll_lt_f q]; decide)) (fun h => h2 q)
theorem W_lge {o : Int} {x y : Int64} {pc' : Nat} (hl : D[jx]? = some (pc, .ifCond .ge o, 3)) (ho : 0 ≤ (pc : Int) + o) (hp : ((pc : Int) + o).toNat = pc') (h1 : ¬ x < y → WP w l Z n0 lay own D maxL ret nm R pc' ls st A cells slots Φ)
    (h2 : x < y → WP w l Z n0 lay own D maxL ret nm R (pc + 3) ls st A cells slots Φ) : WP w l Z n0 lay own D maxL ret nm R pc ls (.int (XT.cmpL x y) :: st) A cells slots Φ := by
  by_cases q : x < y
  · exact W_if hl ho hp (fun h => absurd h (by rw [XT.ll_ge_f q]; decide)) (fun h => h2 q)
  · exact W_if hl ho hp (fun h => h1 q) (fun h => absurd h (by rw [XT.ll_ge_t q]; decide))
theorem W_lgt {o : Int} {x y : Int64} {pc' : Nat} (hl : D[jx]? = some (pc, .ifCond .gt o, 3)) (ho : 0 ≤ (pc : Int) + o) (hp : ((pc : Int) + o).toNat = pc') (h1 : y < x → WP w l Z n0 lay own D maxL ret nm R pc' ls st A cells slots Φ)
    (h2 : ¬ y < x → WP w l Z n0 lay own D maxL ret nm R (pc + 3) ls st A cells slots Φ) : WP w l Z n0 lay own D maxL ret nm R pc ls (.int (XT.cmpL x y) :: st) A cells slots Φ := by
  by_cases q : y < x
  · exact W_if hl ho hp (fun h => h1 q) (fun h => absurd h (by rw [XT.ll_gt_t q]; decide))
  · exact W_if hl ho hp (fun h => absurd h (by rw [XT.ll_gt_f q]; decide)) (fun h => h2 q)
theorem W_lle {o : Int} {x y : Int64} {pc' : Nat} (hl : D[jx]? = some (pc, .ifCond .le o, 3)) (ho : 0 ≤ (pc : Int) + o) (hp : ((pc : Int) + o).toNat = pc') (h1 : ¬ y < x → WP w l Z n0 lay own D maxL ret nm R pc' ls st A cells slots Φ)
    (h2 : y < x → WP w l Z n0 lay own D maxL ret nm R (pc + 3) ls st A cells slots Φ) : WP w l Z n0 lay own D maxL ret nm R pc ls (.int (XT.cmpL x y) :: st) A cells slots Φ := by
  by_cases q : y < x
  · exact W_if hl ho hp (fun h => absurd h (by rw [XT.ll_le_f q]; decide)) (fun h => h2 q)
  · exact W_if hl ho hp (fun h => h1 q) (fun h => absurd h (by rw [XT.ll_le_t q]; decide))
theorem W_leq {o : Int} {x y : Int64} {pc' : Nat} (hl : D[jx]? = some (pc, .ifCond .eq o, 3)) (ho : 0 ≤ (pc : Int) + o) (hp : ((pc : Int) + o).toNat = pc') (h1 : x = y → WP w l Z n0 lay own D maxL ret nm R pc' ls st A cells slots Φ)
    (h2 : ¬ x = y → WP w l Z n0 lay own D maxL ret nm R (pc + 3) ls st A cells slots Φ) : WP w l Z n0 lay own D maxL ret nm R pc ls (.int (XT.cmpL x y) :: st) A cells slots Φ := by
  by_cases q : x = y
  · exact W_if hl ho hp (fun h => h1 q) (fun h => absurd h (by rw [XT.ll_eq_t q]; decide))
  · exact W_if hl ho hp (fun h => absurd h (by rw [XT.ll_eq_f q]; decide)) (fun h => h2 q)
theorem W_lne {o : Int} {x y : Int64} {pc' : Nat} (hl : D[jx]? = some (pc, .ifCond .ne o, 3)) (ho : 0 ≤ (pc : Int) + o) (hp : ((pc : Int) + o).toNat = pc') (h1 : ¬ x = y → WP w l Z n0 lay own D maxL ret nm R pc' ls st A cells slots Φ)
    (h2 : x = y → WP w l Z n0 lay own D maxL ret nm R (pc + 3) ls st A cells slots Φ) : WP w l Z n0 lay own D maxL ret nm R pc ls (.int (XT.cmpL x y) :: st) A cells slots Φ := by
  by_cases q : x = y
  · exact W_if hl ho hp (fun h => absurd h (by rw [XT.ll_ne_f q]; decide)) (fun h => h2 q)
  · exact W_if hl ho hp (fun h => h1 q) (fun h => absurd h (by rw [XT.ll_ne_t q]; decide))
theorem W_irem {x y : Int32} (hl : D[jx]? = some (pc, .irem, 1)) (hy : y ≠ 0) (h : WP w l Z n0 lay own D maxL ret nm R (pc + 1) ls (.int (x % y) :: st) A cells slots Φ) : WP w l Z n0 lay own D maxL ret nm R pc ls (.int y :: .int x :: st) A cells slots Φ :=
  W_pure hl (by simp [pst, ilen, pcore, binD, hy]) h
theorem W_lrem {x y : Int64} (hl : D[jx]? = some (pc, .lrem, 1)) (hy : y ≠ 0) (h : WP w l Z n0 lay own D maxL ret nm R (pc + 1) ls (.long (x % y) :: st) A cells slots Φ) : WP w l Z n0 lay own D maxL ret nm R pc ls (.long y :: .long x :: st) A cells slots Φ :=
  W_pure hl (by simp [pst, ilen, pcore, binLD, hy]) h
theorem W_idiv {x y : Int32} (hl : D[jx]? = some (pc, .idiv, 1)) (hy : y ≠ 0) (h : WP w l Z n0 lay own D maxL ret nm R (pc + 1) ls (.int (x / y) :: st) A cells slots Φ) : WP w l Z n0 lay own D maxL ret nm R pc ls (.int y :: .int x :: st) A cells slots Φ :=
  W_pure hl (by simp [pst, ilen, pcore, binD, hy]) h
theorem W_ldiv {x y : Int64} (hl : D[jx]? = some (pc, .ldiv, 1)) (hy : y ≠ 0) (h : WP w l Z n0 lay own D maxL ret nm R (pc + 1) ls (.long (x / y) :: st) A cells slots Φ) : WP w l Z n0 lay own D maxL ret nm R pc ls (.long y :: .long x :: st) A cells slots Φ :=
  W_pure hl (by simp [pst, ilen, pcore, binLD, hy]) h
theorem W_conseq {Ψ : Option Value → List ACell → Prop} (h : WP w l Z n0 lay own D maxL ret nm R pc ls st A cells slots Ψ) (hq : ∀ v B, Ψ v B → Φ v B) : WP w l Z n0 lay own D maxL ret nm R pc ls st A cells slots Φ :=
  fun p e s s' m args below meth c T locs r X C N H B => by
    obtain ⟨s₂, v, L, A', r', h1, h2, h3, h4, h5, h6, h7, h8⟩ := h p e s s' m args below meth c T locs r X C N H B
    exact ⟨s₂, v, L, A', r', h1, h2, h3, h4, h5, h6, h7, hq v A' h8⟩
theorem W_books {cells' slots' : Nat} (hc : cells ≤ cells') (hs : slots ≤ slots') (h : WP w l Z n0 lay own D maxL ret nm R pc ls st A cells' slots' Φ) : WP w l Z n0 lay own D maxL ret nm R pc ls st A cells slots Φ :=
  fun p e s s' m args below meth c T locs r X C N H B => h p e s s' m args below meth c T locs r (X.mono hc hs) C N H B
theorem MT.conseq {y : MethodName} {code : ByteArray} {ws : List Jvm.Cond} {as : List Value} {Ψ : Option Value → List ACell → Prop} (h : MT w l Z n0 lay y code maxL ret ws R as A Ψ) (hq : ∀ v B, Ψ v B → Φ v B) : MT w l Z n0 lay y code maxL ret ws R as A Φ :=
  fun r hh HP p e ha hc hk s m args below hf happ hP hK => by
    obtain ⟨n, o, h1, h2, h3, v, L, h4, ⟨h5, v', A', r', h6, h7, h8, h9⟩, h10⟩ := h r hh HP p e ha hc hk s m args below hf happ hP hK
    exact ⟨n, o, h1, h2, h3, v, L, h4, ⟨h5, v', A', r', h6, h7, h8, hq v' A' h9⟩, h10⟩
/-! returns -/
theorem Based.grow {s s' : State} {k k' : Nat} (h : Based w s s' k) (q : k ≤ k') : Based w s s' k' := by
  cases w
  · exact h
  · obtain ⟨vm0, k0, h1, h2, h3⟩ := h
    exact ⟨vm0, k0, h1, h2, Nat.le_trans h3 q⟩
theorem leaveK {p : Program} {e : Env} {s s' : State} {m : MethodId} {args : Array Value} {below : List Frame} {meth : Method} {c : Code} {T : State} {locs : List Loc} (X : Stand p l e R s' m args below meth c T locs cells slots) (B : Based w s s' T.heap.size) {v : Option Value} (hv : meth.sig.returnType = none → v = none) (hlk : meth.locks = false) (hc : cells ≤ R.cells) (hs : slots ≤ R.slots) :
    ∃ fs, (∀ (f : JFrame) (acts : List Action), f.method = m → f.locked = none → f.entered = [] → (doReturn e (T.setTop f) acts v).1 = T.setFrames fs) ∧ (T.setFrames fs).status = .running ∧ Ended (T.setFrames fs) below (.returned v) ∧ EndK w s (.returned v) (T.setFrames fs) locs R.cells R.slots := by
  cases w
  · cases B
    obtain ⟨fs, h1, h2, h3, h4, h5⟩ := X.leave hv hlk
    exact ⟨fs, h1, h2, h3, ⟨v, rfl⟩, h4, h5.mono hc hs⟩
  · obtain ⟨vm0, k0, rfl, h2, h3⟩ := B
    obtain ⟨fs, h4, h5, h6, h7, h8, h9, h10⟩ := X.leaveW h2 h3 hv hlk
    exact ⟨fs, h4, h5, h6, h7, h8, h9, h10.mono hc hs⟩
theorem W_ret {i : Instr} {v : Value} {t : FieldType} (hl : D[jx]? = some (pc, i, 1)) (hret : ret = some t) (hn : ∀ r : Nat → Addr, narrow t (cv r v) = cv r v)
    (hi : (i = .ireturn ∧ (t = .int ∨ t = .boolean ∨ t = .byte ∨ t = .char ∨ t = .short) ∧ ∃ z, v = .int z) ∨ (i = .lreturn ∧ t = .long ∧ ∃ z, v = .long z) ∨ (i = .areturn ∧ t.isReference = true ∧ v.isRef = true))
    (hc : cells ≤ R.cells) (hs : slots ≤ R.slots) (h : Φ (some v) A) : WP w l Z n0 lay own D maxL ret nm R pc ls (v :: st) A cells slots Φ :=
  fun p e s s' m args below meth c T locs r X C N H B => by
    have hD := @Cx.dec _ _ _ _ _ _ _ _ _ _ _ C
    obtain ⟨hx, hZ, hown, hre, hlk, -, hml, hnm⟩ := C
    obtain ⟨fs, h1, h2, h3, h4⟩ := leaveK X B (v := some (cv r v)) (fun q => by rw [hre, hret] at q; cases q) hlk hc hs
    refine ⟨_, some v, locs, A, r, ?_, h2, h3, h4, N, H, ⟨fun _ _ => rfl, Nat.le_refl _⟩, h⟩
    exact retOut X hx (hre.trans hret) (hn r) (by
      rcases hi with ⟨a, b, z, rfl⟩ | ⟨a, b, z, rfl⟩ | ⟨a, b, d⟩
      · exact Or.inl ⟨a, b, z, rfl⟩
      · exact Or.inr (Or.inl ⟨a, b, z, rfl⟩)
      · exact Or.inr (Or.inr (Or.inr (Or.inr ⟨a, b, (cv_isRef r v).trans d⟩)))) (hD hl) h1
theorem W_ireturn {z : Int32} (hl : D[jx]? = some (pc, .ireturn, 1)) (hret : ret = some .int) (hc : cells ≤ R.cells) (hs : slots ≤ R.slots) (h : Φ (some (.int z)) A) : WP w l Z n0 lay own D maxL ret nm R pc ls (.int z :: st) A cells slots Φ :=
  W_ret hl hret (fun _ => rfl) (Or.inl ⟨rfl, Or.inl rfl, z, rfl⟩) hc hs h
theorem W_zreturn {z : Int32} (hl : D[jx]? = some (pc, .ireturn, 1)) (hret : ret = some .boolean) (hz : narrow .boolean (.int z) = .int z) (hc : cells ≤ R.cells) (hs : slots ≤ R.slots) (h : Φ (some (.int z)) A) : WP w l Z n0 lay own D maxL ret nm R pc ls (.int z :: st) A cells slots Φ :=
  W_ret hl hret (fun _ => hz) (Or.inl ⟨rfl, Or.inr (Or.inl rfl), z, rfl⟩) hc hs h
theorem W_lreturn {z : Int64} (hl : D[jx]? = some (pc, .lreturn, 1)) (hret : ret = some .long) (hc : cells ≤ R.cells) (hs : slots ≤ R.slots) (h : Φ (some (.long z)) A) : WP w l Z n0 lay own D maxL ret nm R pc ls (.long z :: st) A cells slots Φ :=
  W_ret hl hret (fun _ => rfl) (Or.inr (Or.inl ⟨rfl, rfl, z, rfl⟩)) hc hs h
theorem W_areturn {v : Value} {t : FieldType} (hl : D[jx]? = some (pc, .areturn, 1)) (hret : ret = some t) (ht : t.isReference = true) (hv : v.isRef = true) (hc : cells ≤ R.cells) (hs : slots ≤ R.slots) (h : Φ (some v) A) : WP w l Z n0 lay own D maxL ret nm R pc ls (v :: st) A cells slots Φ :=
  W_ret hl hret (fun r => by cases v <;> simp [Value.isRef] at hv <;> cases t <;> simp [FieldType.isReference] at ht <;> rfl) (Or.inr (Or.inr ⟨rfl, ht, hv⟩)) hc hs h
theorem W_return (hl : D[jx]? = some (pc, .return_, 1)) (hret : ret = none) (hc : cells ≤ R.cells) (hs : slots ≤ R.slots) (h : Φ none A) : WP w l Z n0 lay own D maxL ret nm R pc ls [] A cells slots Φ :=
  fun p e s s' m args below meth c T locs r X C N H B => by
    have hD := @Cx.dec _ _ _ _ _ _ _ _ _ _ _ C
    obtain ⟨hx, hZ, hown, hre, hlk, -, hml, hnm⟩ := C
    obtain ⟨fs, h1, h2, h3, h4⟩ := leaveK X B (v := none) (fun _ => rfl) hlk hc hs
    exact ⟨_, none, locs, A, r, X.returnOut hx (hre.trans hret) (hD hl) h1, h2, h3, h4, N, H, ⟨fun _ _ => rfl, Nat.le_refl _⟩, h⟩
/-! constants of the pool -/
theorem W_ldcI {idx : Nat} {v : Int32} (hl : D[jx]? = some (pc, .ldc idx, 2)) (hk : (Jvm.Cond.constant own idx v).before a0 Z = true) (h : WP w l Z n0 lay own D maxL ret nm R (pc + 2) ls (.int v :: st) A cells slots Φ) : WP w l Z n0 lay own D maxL ret nm R pc ls st A cells slots Φ :=
  fun p e s s' m args below meth c T locs r X C N H B => (h p e s s' m args below meth c T locs r X C N H B).back (fun t ht => X.ldcI C.1 C.2.2.1 (mvT C.2.1 hk) rfl (C.dec hl) ht) (Nat.le_refl _) (fun _ _ => rfl)
theorem W_ldc2J {idx : Nat} {v : Int64} (hl : D[jx]? = some (pc, .ldc2_w idx, 3)) (hk : (Jvm.Cond.constantLong own idx v).before a0 Z = true) (h : WP w l Z n0 lay own D maxL ret nm R (pc + 3) ls (.long v :: st) A cells slots Φ) : WP w l Z n0 lay own D maxL ret nm R pc ls st A cells slots Φ :=
  fun p e s s' m args below meth c T locs r X C N H B => (h p e s s' m args below meth c T locs r X C N H B).back (fun t ht => X.ldc2J C.1 C.2.2.1 (mvT C.2.1 hk) rfl (C.dec hl) ht) (Nat.le_refl _) (fun _ _ => rfl)
/-! fields -/
theorem W_getfield {idx i k ci : Nat} {C : String} {vs : List Value} {v : Value} {fs : List (String × String × String)} {f : String × String × String} (hl : D[jx]? = some (pc, .getfield idx, 3)) (hk : (Jvm.Cond.fieldLink own idx f.1 f.2.1 f.2.2).before a0 Z = true) (hC : lay[ci]? = some (C, fs)) (hf : fs[k]? = some f)
    (hA : A[i]? = some (.inl (ci, vs))) (hv : vs[k]? = some v) (h : WP w l Z n0 lay own D maxL ret nm R (pc + 3) ls (v :: st) A cells slots Φ) : WP w l Z n0 lay own D maxL ret nm R pc ls (.ref i :: st) A cells slots Φ :=
  fun p e s s' m args below meth c T locs r X C' N H B => by
    obtain ⟨-, C0, fs', h1, E, h2, h3⟩ := H.1 i _ hA
    cases hC.symm.trans h1
    obtain ⟨T', X', e', st'⟩ := getF X C'.1 C'.2.1 C'.2.2.1 (host := "") (Or.inl hk) Via.refl rfl (h3 k f v hf hv) (g := mkF m pc (cl r ls) (ct r (.ref i :: st))) rfl rfl (C'.dec hl)
    exact (h p e s s' m args below meth c T' locs r X' C' N (e' ▸ H) (e' ▸ B)).back st' (Nat.le_refl _) (fun _ _ => rfl)
theorem W_putfield {idx i k kk ci : Nat} {C : String} {vs : List Value} {v : Value} {fs : List (String × String × String)} {f : String × String × String} {ty : FieldType} (hl : D[jx]? = some (pc, .putfield idx, 3)) (hL : LayOk Z a0 lay) (hk : (Jvm.Cond.fieldLink own idx f.1 f.2.1 f.2.2).before a0 Z = true)
    (hlay : (Jvm.Cond.lays C f.1 f.2.1 f.2.2).before a0 Z = true ∨ ((Jvm.Cond.laysFinal C f.1 f.2.1 f.2.2).before a0 Z = true ∧ own = f.1 ∧ nm = "<init>")) (hi : (Jvm.Cond.instantiable C kk).before a0 Z = true) (hty : parseFieldDescriptor f.2.2 = some ty)
    (hn : ∀ r : Nat → Addr, narrow ty (cv r v) = cv r v) (hfit : ∀ r : Nat → Addr, fits ty (cv r v) = true) (hC : lay[ci]? = some (C, fs)) (hf : fs[k]? = some f)
    (hA : A[i]? = some (.inl (ci, vs))) {A1 : List ACell} (hB : A.set i (.inl (ci, vs.set k v)) = A1) (h : WP w l Z n0 lay own D maxL ret nm R (pc + 3) ls st A1 cells slots Φ) : WP w l Z n0 lay own D maxL ret nm R pc ls (v :: .ref i :: st) A cells slots Φ :=
  fun p e s s' m args below meth c T locs r X C' N H B => by
    subst hB
    obtain ⟨hn0, hcell⟩ := H.1 i _ hA
    have hcell' := hcell
    obtain ⟨C0, fs', h1, E, h2, h3⟩ := hcell
    cases hC.symm.trans h1
    have hkl : k < vs.length := h2 ▸ (List.getElem?_eq_some_iff.mp hf).1
    obtain ⟨T', h', X', e', W, st'⟩ := putF X C'.1 C'.2.1 C'.2.2.1 (host := "") (Or.inl hk) Via.refl rfl (h3 k f _ hf (List.getElem?_eq_getElem hkl)) E (hlay.imp id fun q => ⟨q.1, q.2.1, C'.2.2.2.2.2.2.2.trans q.2.2⟩) hi hty (hn r) (hfit r)
      (g := mkF m pc (cl r ls) (ct r (v :: .ref i :: st))) rfl rfl (C'.dec hl)
    subst e'
    have H' := H.set hA W (hcell'.put hL hC hf W)
    refine (h p e s s' m args below meth c T' _ r X' C' (Fr.snoc X' N hn0) H' (B.grow (Nat.le_of_eq W.size.symm))).back st' (by simp) (fun _ _ => rfl)
/-! an object is made -/
theorem W_new {idx n ci : Nat} {C : String} {fs : List (String × String × String)} {vs : List Value} (hl : D[jx]? = some (pc, .new idx, 3)) (hL : LayOk Z a0 lay) (h1 : (Jvm.Cond.classLink own idx C).before a0 Z = true) (h2 : (Jvm.Cond.instantiable C n).before a0 Z = true) (h3 : (Jvm.Cond.initialized C).before a0 Z = true)
    (hC : lay[ci]? = some (C, fs)) (hvs : (fs.map fun f => (parseFieldDescriptor f.2.2).map defaultValue) = vs.map some) (hnr : vs.all (okV 0) = true) (hcc : cells + 1 ≤ R.cells) (hss : slots + n ≤ R.slots) (hck : (ls.all (okS A.length) && (st.all (okV A.length) && A.all (okC A.length))) = true)
    {N0 : Nat} {A1 : List ACell} (hN0 : A.length = N0) (hB : A ++ [.inl (ci, vs)] = A1) (h : WP w l Z n0 lay own D maxL ret nm R (pc + 3) ls (.ref N0 :: st) A1 (cells + 1) (slots + n) Φ) : WP w l Z n0 lay own D maxL ret nm R pc ls st A cells slots Φ :=
  fun p e s s' m args below meth c T locs r X C' N H B => by
    subst hN0 hB
    simp only [Bool.and_eq_true] at hck
    obtain ⟨k1, k2, k3⟩ := hck
    obtain ⟨T', h', X', e', E, Ex, Df, -, st'⟩ := newO X C'.1 C'.2.1 C'.2.2.1 h1 h2 h3 rfl (g := mkF m pc (cl r ls) (ct r st)) rfl (C'.dec hl) hcc hss
    subst e'
    have q : ∀ i, i < A.length → (fun i => if i = A.length then T.heap.size else r i) i = r i := fun i hi => if_neg (Nat.ne_of_lt hi)
    have H' := H.push E (c := .inl (ci, vs)) k3 ⟨C, fs, hC, Ex, by simpa using congrArg List.length hvs, fun i f v hf hv => by
      obtain ⟨l1, ty, p1⟩ := (hL ci C fs hC).1 f (List.mem_of_getElem? hf)
      have hi : ((fs.map fun f => (parseFieldDescriptor f.2.2).map defaultValue))[i]? = (vs.map some)[i]? := by rw [hvs]
      simp only [List.getElem?_map, hf, hv, Option.map_some, p1, Option.some.injEq] at hi
      have hcv : ∀ r, cv r v = v := fun r => by
        have := List.all_eq_true.mp hnr v (List.mem_of_getElem? hv)
        cases v <;> first | rfl | (simp [okV] at this)
      rw [hcv, ← hi]
      exact Df l1 p1⟩
    have hf := h p e s s' m args below meth c T' locs _ X' C' N H' (B.grow E.1)
    refine hf.back (fun t ht => st' t ?_) (by simp) q
    have hr1 : ct (fun i => if i = A.length then T.heap.size else r i) (.ref A.length :: st) = .ref T.heap.size :: ct r st := by
      show cv _ _ :: ct _ st = _
      rw [ct_ag q k2]
      simp [cv]
    rw [cl_ag q k1, hr1] at ht
    exact ht
/-! arrays -/
theorem W_newarray {aty : ArrayType} {n : Int32} {ty : FieldType} (cap : Nat) {vs : List Value} (hl : D[jx]? = some (pc, .newarray aty, 2)) (hty : newarray.typeOf aty = ty) (h1 : (Jvm.Cond.arrayClass ty).before a0 Z = true) (hn : ¬ n < 0) (hvs : vs = List.replicate n.toNatClampNeg (defaultValue ty))
    (hcap : n.toNatClampNeg ≤ cap) (hb : cap * 8 ≤ 536870912) (hcc : cells + 1 ≤ R.cells) (hss : slots + cap ≤ R.slots) (hck : (ls.all (okS A.length) && (st.all (okV A.length) && A.all (okC A.length))) = true)
    {N0 : Nat} {A1 : List ACell} (hN0 : A.length = N0) (hB : A ++ [.inr (ty, vs)] = A1) (h : WP w l Z n0 lay own D maxL ret nm R (pc + 2) ls (.ref N0 :: st) A1 (cells + 1) (slots + cap) Φ) : WP w l Z n0 lay own D maxL ret nm R pc ls (.int n :: st) A cells slots Φ :=
  fun p e s s' m args below meth c T locs r X C' N H B => by
    subst hty hN0 hB
    simp only [Bool.and_eq_true] at hck
    obtain ⟨k1, k2, k3⟩ := hck
    obtain ⟨T', h', cA, X', e', E, Ar, Ex, st'⟩ := newPE X C'.1 C'.2.1 h1 rfl (g := mkF m pc (cl r ls) (ct r (.int n :: st))) rfl (C'.dec hl) rfl hn hcap hb hcc hss (ad := _) rfl
    subst e'
    have q : ∀ i, i < A.length → (fun i => if i = A.length then T.heap.size else r i) i = r i := fun i hi => if_neg (Nat.ne_of_lt hi)
    have hdv : ∀ r : Nat → Addr, cv r (defaultValue (newarray.typeOf aty)) = defaultValue (newarray.typeOf aty) := fun r => by cases aty <;> rfl
    have H' := H.push E (c := .inr (newarray.typeOf aty, vs)) k3 ⟨_, Ar, by subst hvs; simp [newA, ct, hdv], fun v hv => by subst hvs; rw [List.eq_of_mem_replicate hv]; cases aty <;> rfl, Ex⟩
    have hf := h p e s s' m args below meth c T' locs _ X' C' N H' (B.grow E.1)
    refine hf.back (fun t ht => st' t ?_) (by simp) q
    have hr1 : ct (fun i => if i = A.length then T.heap.size else r i) (.ref A.length :: st) = .ref T.heap.size :: ct r st := by
      show cv _ _ :: ct _ st = _
      rw [ct_ag q k2]
      simp [cv]
    rw [cl_ag q k1, hr1] at ht
    exact ht
theorem arr_at {r : Nat → Addr} {h : Heap} {a : Addr} {ty : FieldType} {vs : List Value} (H : CellOk Z lay r h a (.inr (ty, vs))) : ∃ c : Cell, Arr Z h a c ty ∧ c.slots.size = vs.length ∧ (∀ k : Nat, c.slots[k]? = (vs[k]?).map (cv r)) ∧ ∀ v ∈ vs, fits ty v = true := by
  obtain ⟨c, h1, h2, h3, -⟩ := H
  exact ⟨c, h1, by simp [h2], fun k => by simp [h2], h3⟩
theorem W_arraylength {i : Nat} {ty : FieldType} {vs : List Value} {n : Int32} (hl : D[jx]? = some (pc, .arraylength, 1)) (hA : A[i]? = some (.inr (ty, vs))) (hn : vs.length.toInt32 = n) (h : WP w l Z n0 lay own D maxL ret nm R (pc + 1) ls (.int n :: st) A cells slots Φ) : WP w l Z n0 lay own D maxL ret nm R pc ls (.ref i :: st) A cells slots Φ :=
  fun p e s s' m args below meth c T locs r X C' N H B => by
    obtain ⟨ce, h1, h2, h3, h4⟩ := arr_at (H.1 i _ hA).2
    refine (h p e s s' m args below meth c T locs r X C' N H B).back (fun t ht => ?_) (Nat.le_refl _) (fun _ _ => rfl)
    refine X.arraylength C'.1 h1.1 (State.isArrayOf_alike C'.2.1.alike h1.2.1) (g := mkF m pc (cl r ls) (ct r (.ref i :: st))) rfl rfl (C'.dec hl) t ?_
    rw [h2, hn]
    exact ht
theorem in_of {j : Int32} {n : Nat} (h0 : ¬ j < 0) (h1 : j.toNatClampNeg < n) : ¬ (j < 0 ∨ n ≤ j.toNatClampNeg) := fun q => q.elim h0 fun q => Nat.lt_irrefl _ (Nat.lt_of_lt_of_le h1 q)
theorem W_xaload {ins : Instr} {i : Nat} {ty : FieldType} {vs : List Value} {j : Int32} {v : Value} (hk : (ins = .iaload ∧ ty = .int) ∨ (ins = .laload ∧ ty = .long) ∨ (ins = .baload ∧ ty = .byte) ∨ (ins = .baload ∧ ty = .boolean) ∨ (ins = .caload ∧ ty = .char) ∨ (ins = .saload ∧ ty = .short)) (hl : D[jx]? = some (pc, ins, 1)) (hA : A[i]? = some (.inr (ty, vs))) (hj : ¬ j < 0) (hv : vs[j.toNatClampNeg]? = some v)
    (h : WP w l Z n0 lay own D maxL ret nm R (pc + 1) ls (v :: st) A cells slots Φ) : WP w l Z n0 lay own D maxL ret nm R pc ls (.int j :: .ref i :: st) A cells slots Φ :=
  fun p e s s' m args below meth c T locs r X C' N H B => by
    obtain ⟨ce, h1, h2, h3, h4⟩ := arr_at (H.1 i _ hA).2
    have hin : ¬ (j < 0 ∨ ce.slots.size ≤ j.toNatClampNeg) := in_of hj (by rw [h2]; exact (List.getElem?_eq_some_iff.mp hv).1)
    have hv' : ce.slots[j.toNatClampNeg]? = some (cv r v) := by rw [h3, hv]; rfl
    have ha := State.isArrayOf_alike C'.2.1.alike h1.2.1
    have hd := C'.dec hl
    refine (h p e s s' m args below meth c T locs r X C' N H B).back (fun t ht => ?_) (Nat.le_refl _) (fun _ _ => rfl)
    rcases hk with ⟨rfl, rfl⟩ | ⟨rfl, rfl⟩ | ⟨rfl, rfl⟩ | ⟨rfl, rfl⟩ | ⟨rfl, rfl⟩ | ⟨rfl, rfl⟩
    · exact X.iaload C'.1 h1.1 ha h1.2.2 hin hv' (g := mkF m pc (cl r ls) (ct r (.int j :: .ref i :: st))) rfl rfl hd t ht
    · exact X.laload C'.1 h1.1 ha h1.2.2 hin hv' (g := mkF m pc (cl r ls) (ct r (.int j :: .ref i :: st))) rfl rfl hd t ht
    · exact X.baloadBytes C'.1 h1.1 ha h1.2.2 hin hv' (g := mkF m pc (cl r ls) (ct r (.int j :: .ref i :: st))) rfl rfl hd t ht
    · exact X.baloadBooleans C'.1 h1.1 ha h1.2.2 hin hv' (g := mkF m pc (cl r ls) (ct r (.int j :: .ref i :: st))) rfl rfl hd t ht
    · exact X.caload C'.1 h1.1 ha h1.2.2 hin hv' (g := mkF m pc (cl r ls) (ct r (.int j :: .ref i :: st))) rfl rfl hd t ht
    · exact X.saload C'.1 h1.1 ha h1.2.2 hin hv' (g := mkF m pc (cl r ls) (ct r (.int j :: .ref i :: st))) rfl rfl hd t ht
theorem W_iaload {i : Nat} {vs : List Value} {j : Int32} {v : Value} (hl : D[jx]? = some (pc, .iaload, 1)) (hA : A[i]? = some (.inr (.int, vs))) (hj : ¬ j < 0) (hv : vs[j.toNatClampNeg]? = some v) (h : WP w l Z n0 lay own D maxL ret nm R (pc + 1) ls (v :: st) A cells slots Φ) : WP w l Z n0 lay own D maxL ret nm R pc ls (.int j :: .ref i :: st) A cells slots Φ :=
  W_xaload (Or.inl ⟨rfl, rfl⟩) hl hA hj hv h
theorem W_laload {i : Nat} {vs : List Value} {j : Int32} {v : Value} (hl : D[jx]? = some (pc, .laload, 1)) (hA : A[i]? = some (.inr (.long, vs))) (hj : ¬ j < 0) (hv : vs[j.toNatClampNeg]? = some v) (h : WP w l Z n0 lay own D maxL ret nm R (pc + 1) ls (v :: st) A cells slots Φ) : WP w l Z n0 lay own D maxL ret nm R pc ls (.int j :: .ref i :: st) A cells slots Φ :=
  W_xaload (Or.inr (Or.inl ⟨rfl, rfl⟩)) hl hA hj hv h
theorem W_baload {i : Nat} {vs : List Value} {j : Int32} {v : Value} (hl : D[jx]? = some (pc, .baload, 1)) (hA : A[i]? = some (.inr (.byte, vs))) (hj : ¬ j < 0) (hv : vs[j.toNatClampNeg]? = some v) (h : WP w l Z n0 lay own D maxL ret nm R (pc + 1) ls (v :: st) A cells slots Φ) : WP w l Z n0 lay own D maxL ret nm R pc ls (.int j :: .ref i :: st) A cells slots Φ :=
  W_xaload (Or.inr (Or.inr (Or.inl ⟨rfl, rfl⟩))) hl hA hj hv h
theorem W_zaload {i : Nat} {vs : List Value} {j : Int32} {v : Value} (hl : D[jx]? = some (pc, .baload, 1)) (hA : A[i]? = some (.inr (.boolean, vs))) (hj : ¬ j < 0) (hv : vs[j.toNatClampNeg]? = some v) (h : WP w l Z n0 lay own D maxL ret nm R (pc + 1) ls (v :: st) A cells slots Φ) : WP w l Z n0 lay own D maxL ret nm R pc ls (.int j :: .ref i :: st) A cells slots Φ :=
  W_xaload (Or.inr (Or.inr (Or.inr (Or.inl ⟨rfl, rfl⟩)))) hl hA hj hv h
theorem st_fin {p : Program} {e : Env} {s s' : State} {m : MethodId} {args : Array Value} {below : List Frame} {meth : Method} {c : Code} {T : State} {locs : List Loc} {r : Nat → Addr} {i k pc' : Nat} {ty : FieldType} {vs : List Value} {x : Value} {st' : List Value}
    (h : WP w l Z n0 lay own D maxL ret nm R pc' ls st (A.set i (.inr (ty, vs.set k x))) cells slots Φ) (C' : Cx Z own D maxL ret nm p s' m meth c) (N : Fr n0 locs) (H : Hp Z lay n0 r T.heap A) (B : Based w s s' T.heap.size) (hA : A[i]? = some (.inr (ty, vs))) (hfit : fits ty x = true) (hcv : cv r x = x)
    (hs : ∃ T' h', Stand p l e R s' m args below meth c T' (locs ++ [⟨r i, k⟩]) cells slots ∧ T'.heap = h' ∧ Wr T.heap h' (r i) k x ∧ ∀ target, Steps p.tables e below (T'.setTop (mkF m pc' (cl r ls) (ct r st))) target → Steps p.tables e below (T.setTop (mkF m pc (cl r ls) st')) target) :
    Fin w Z n0 lay R Φ A.length r p e below s (T.setTop (mkF m pc (cl r ls) st')) := by
  obtain ⟨T', h', X', e', W, st'⟩ := hs
  subst e'
  obtain ⟨hn0, hcell⟩ := H.1 i _ hA
  have H' := H.set hA W (hcell.stA hfit (by rw [hcv]; exact W))
  exact (h p e s s' m args below meth c T' _ r X' C' (Fr.snoc X' N hn0) H' (B.grow (Nat.le_of_eq W.size.symm))).back st' (by simp) (fun _ _ => rfl)
theorem W_iastore {i : Nat} {vs : List Value} {j x : Int32} (hl : D[jx]? = some (pc, .iastore, 1)) (hA : A[i]? = some (.inr (.int, vs))) (hj : ¬ j < 0) (hv : j.toNatClampNeg < vs.length)
    {A1 : List ACell} (hB : A.set i (.inr (.int, vs.set j.toNatClampNeg (.int x))) = A1) (h : WP w l Z n0 lay own D maxL ret nm R (pc + 1) ls st A1 cells slots Φ) : WP w l Z n0 lay own D maxL ret nm R pc ls (.int x :: .int j :: .ref i :: st) A cells slots Φ :=
  fun p e s s' m args below meth c T locs r X C' N H B => by
    subst hB
    obtain ⟨ce, h1, h2, h3, h4⟩ := arr_at (H.1 i _ hA).2
    exact st_fin h C' N H B hA rfl rfl (stI X C'.1 C'.2.1 rfl h1 (in_of hj (by rw [h2]; exact hv)) (g := mkF m pc (cl r ls) (ct r (.int x :: .int j :: .ref i :: st))) rfl rfl (C'.dec hl))
theorem W_lastore {i : Nat} {vs : List Value} {j : Int32} {x : Int64} (hl : D[jx]? = some (pc, .lastore, 1)) (hA : A[i]? = some (.inr (.long, vs))) (hj : ¬ j < 0) (hv : j.toNatClampNeg < vs.length)
    {A1 : List ACell} (hB : A.set i (.inr (.long, vs.set j.toNatClampNeg (.long x))) = A1) (h : WP w l Z n0 lay own D maxL ret nm R (pc + 1) ls st A1 cells slots Φ) : WP w l Z n0 lay own D maxL ret nm R pc ls (.long x :: .int j :: .ref i :: st) A cells slots Φ :=
  fun p e s s' m args below meth c T locs r X C' N H B => by
    subst hB
    obtain ⟨ce, h1, h2, h3, h4⟩ := arr_at (H.1 i _ hA).2
    exact st_fin h C' N H B hA rfl rfl (stJ X C'.1 C'.2.1 rfl h1 (in_of hj (by rw [h2]; exact hv)) (g := mkF m pc (cl r ls) (ct r (.long x :: .int j :: .ref i :: st))) rfl rfl (C'.dec hl))
theorem W_bastore {i : Nat} {vs : List Value} {j x y : Int32} (hl : D[jx]? = some (pc, .bastore, 1)) (hA : A[i]? = some (.inr (.byte, vs))) (hj : ¬ j < 0) (hv : j.toNatClampNeg < vs.length) (hy : x.toInt8.toInt32 = y)
    {A1 : List ACell} (hB : A.set i (.inr (.byte, vs.set j.toNatClampNeg (.int y))) = A1) (h : WP w l Z n0 lay own D maxL ret nm R (pc + 1) ls st A1 cells slots Φ) : WP w l Z n0 lay own D maxL ret nm R pc ls (.int x :: .int j :: .ref i :: st) A cells slots Φ :=
  fun p e s s' m args below meth c T locs r X C' N H B => by
    subst hy
    subst hB
    obtain ⟨ce, h1, h2, h3, h4⟩ := arr_at (H.1 i _ hA).2
    exact st_fin h C' N H B hA (fits_nar_byte x) rfl (stB X C'.1 C'.2.1 rfl h1 (in_of hj (by rw [h2]; exact hv)) (g := mkF m pc (cl r ls) (ct r (.int x :: .int j :: .ref i :: st))) rfl rfl (C'.dec hl))
theorem W_zastore {i : Nat} {vs : List Value} {j x y : Int32} (hl : D[jx]? = some (pc, .bastore, 1)) (hA : A[i]? = some (.inr (.boolean, vs))) (hj : ¬ j < 0) (hv : j.toNatClampNeg < vs.length) (hy : x &&& 1 = y)
    {A1 : List ACell} (hB : A.set i (.inr (.boolean, vs.set j.toNatClampNeg (.int y))) = A1) (h : WP w l Z n0 lay own D maxL ret nm R (pc + 1) ls st A1 cells slots Φ) : WP w l Z n0 lay own D maxL ret nm R pc ls (.int x :: .int j :: .ref i :: st) A cells slots Φ :=
  fun p e s s' m args below meth c T locs r X C' N H B => by
    subst hy
    subst hB
    obtain ⟨ce, h1, h2, h3, h4⟩ := arr_at (H.1 i _ hA).2
    exact st_fin h C' N H B hA (fits_nar_bool x) rfl (stZ X C'.1 C'.2.1 rfl h1 (in_of hj (by rw [h2]; exact hv)) (g := mkF m pc (cl r ls) (ct r (.int x :: .int j :: .ref i :: st))) rfl rfl (C'.dec hl))
/-! calls -/
theorem W_initO {idx i : Nat} (hl : D[jx]? = some (pc, .invokespecial idx, 3)) (w1 : (Jvm.Cond.methodLink own idx Lib.objectInit).before a0 Z = true) (w2 : (Jvm.Cond.instanceMethod Lib.objectInit).before a0 Z = true) (w3 : (Jvm.Cond.code Lib.objectInit ⟨#[0xb1]⟩ 1 none).before a0 Z = true)
    (hsz : ls.length = maxL) (hf : 1 ≤ R.frames) (hlo : (catS st + 12).ble R.locals = true) (h : WP w l Z n0 lay own D maxL ret nm R (pc + 3) ls st A cells slots Φ) : WP w l Z n0 lay own D maxL ret nm R pc ls (.ref i :: st) A cells slots Φ :=
  fun p e s s' m args below meth c T locs r X C' N H B => by
    obtain ⟨T', X', e', st'⟩ := initO X C'.1 C'.2.1 C'.2.2.1 w1 w2 w3 rfl (g := mkF m pc (cl r ls) (ct r (.ref i :: st))) rfl (by show (cl r ls).size = _; rw [cl_size, hsz, C'.2.2.2.2.2.2.1]) rfl (C'.dec hl) hf (W := catS st)
      (by show 2 * 0 + ((ct r st).map fun v => v.category).sum ≤ _; rw [ct_cat]; omega) (Nat.le_of_ble_eq_true hlo)
    exact (h p e s s' m args below meth c T' locs r X' C' N (e' ▸ H) (e' ▸ B)).back st' (Nat.le_refl _) (fun _ _ => rfl)
/-- what a call leaves -/
theorem after {rest : List Value} {pc' : Nat} {p : Program} {e : Env} {s s' : State} {m : MethodId} {args : Array Value} {below : List Frame} {meth : Method} {c : Code} {T' U : State} {locs L : List Loc} {r r' : Nat → Addr} {v v' : Option Value} {A' : List ACell}
    (hok : (ls.all (okS A.length) && rest.all (okV A.length)) = true) (q : (∀ i, i < A.length → r' i = r i) ∧ A.length ≤ A'.length)
    (h : WP w l Z n0 lay own D maxL ret nm R pc' ls (v'.toList ++ rest) A' cells slots Φ) (X : Stand p l e R s' m args below meth c T' (locs ++ L) cells slots) (C' : Cx Z own D maxL ret nm p s' m meth c) (N : Fr n0 locs) (N' : Fr n0 L) (H : Hp Z lay n0 r' T'.heap A') (B : Based w s s' T'.heap.size)
    (hv : v = v'.map (cv r')) (hst : ∀ t, Steps p.tables e below (T'.setTop (mkF m pc' (cl r ls) (v.toList ++ ct r rest))) t → Steps p.tables e below U t) : Fin w Z n0 lay R Φ A.length r p e below s U := by
  simp only [Bool.and_eq_true] at hok
  refine (h p e s s' m args below meth c T' _ r' X C' (N.app N') H B).back (fun t ht => hst t ?_) q.2 q.1
  have e1 : ct r' (v'.toList ++ rest) = v.toList ++ ct r rest := by
    rw [hv, ← ct_ag q.1 hok.2]
    simp only [ct, List.map_append]
    cases v' <;> rfl
  rw [cl_ag q.1 hok.1, e1] at ht
  exact ht
theorem Cx.re {p : Program} {s : State} {m : MethodId} {meth : Method} {c : Code} {vm' : Vm} (C' : Cx Z own D maxL ret nm p s m meth c) (hW : s.Warmed39 vm') : Cx Z own D maxL ret nm p (s.setVm vm') m meth c :=
  ⟨C'.1, State.Warmed39.trans (t := s) C'.2.1 hW, by show vm'.findClass own = _; rw [hW.alike.findClass]; exact C'.2.2.1, C'.2.2.2⟩
theorem Based.re {s s' : State} {k k' : Nat} {vm' : Vm} (B : Based true s s' k) (hS : s'.Since vm' k') (hk : k ≤ k') : Based true s (s'.setVm vm') k' := by
  obtain ⟨vm0, k0, rfl, h2, h3⟩ := B
  exact ⟨vm', k', rfl, h2.trans hS (Nat.le_trans h3 hk), Nat.le_refl _⟩
theorem stk {r : Nat → Addr} {as rest : List Value} : ct r (as.reverse ++ rest) = (ct r as).reverse ++ ct r rest := by simp [ct, List.map_append, List.map_reverse]
theorem stkI {r : Nat → Addr} {as rest : List Value} {i : Nat} : ct r (as.reverse ++ .ref i :: rest) = (ct r as).reverse ++ .ref (r i) :: ct r rest := by simp [ct, List.map_append, List.map_reverse, cv]
theorem W_callS {y : MethodName} {idx : Nat} {code : ByteArray} {mL : Nat} {rt : Option FieldType} {Rc : Room} {ps : List FieldType} {rr : Option FieldType} {Ψ : Option Value → List ACell → Prop} (as rest : List Value) (hM : MT w l Z n0 lay y code mL rt [] Rc as A Ψ) (hl : D[jx]? = some (pc, .invokestatic idx, 3))
    (w1 : (Jvm.Cond.methodLink own idx y).before a0 Z = true) (w2 : (Jvm.Cond.static y).before a0 Z = true) (w3 : (Jvm.Cond.initialized y.cls).before a0 Z = true) (w4 : (Jvm.Cond.code y code mL rt).before a0 Z = true) (hy : y.cls ≠ "java/lang/invoke/MethodHandle" ∧ y.cls ≠ "java/lang/invoke/VarHandle")
    (hpd : parseMethodDescriptor y.desc = some ⟨ps, rr⟩) (hlen : as.length = ps.length) (hst : st = as.reverse ++ rest) (hsz : ls.length = maxL) (hf : Rc.frames + 1 ≤ R.frames) (hlo : (catS rest + (mL + 11) + Rc.locals).ble R.locals = true) (hc : cells + Rc.cells ≤ R.cells) (hs : slots + Rc.slots ≤ R.slots)
    (hok : (ls.all (okS A.length) && rest.all (okV A.length)) = true) (h : ∀ v B, Ψ v B → WP w l Z n0 lay own D maxL ret nm R (pc + 3) ls (v.toList ++ rest) B (cells + Rc.cells) (slots + Rc.slots) Φ) : WP w l Z n0 lay own D maxL ret nm R pc ls st A cells slots Φ :=
  fun p e s s' m args below meth c T locs r X C' N H B => by
    subst hst
    have hsz' : (cl r ls).size = c.maxLocals := by rw [cl_size, hsz, C'.2.2.2.2.2.2.1]
    have hW : 2 * 0 + ((ct r rest).map fun v => v.category).sum ≤ catS rest := by rw [ct_cat]; omega
    have hlen' : (ct r as).length = ps.length := by simpa [ct] using hlen
    cases w
    · obtain ⟨v, vm₁, ⟨T', L', k', n'⟩, -, X', ⟨Lc, hQ, l1, y1, z1⟩, sp⟩ := Jvm.LawKit.callS X C'.1 (y := y) C'.2.2.1 (mvT C'.2.1 w1) (mvT C'.2.1 w2) (mvT C'.2.1 w3) (mvT C'.2.1 w4) hy (backOf (W := catS rest) (Q := QC Z lay n0 r A.length Ψ) (hM.nar r T.heap H) C'.2.1 w4 w3 hf (Nat.le_of_ble_eq_true hlo))
        (g := mkF m pc (cl r ls) (ct r (as.reverse ++ rest))) rfl hsz' (argsL := ct r as) (rest := ct r rest) (lenOf hpd hlen') stk hW (C'.dec hl) (fun _ _ => ⟨rfl, rfl, hc, hs⟩)
      dsimp only [Pt.U, Pt.locs, Pt.cells, Pt.slots] at X' l1 y1 z1 sp hQ
      subst l1 y1 z1
      obtain ⟨N', v', A', r', hv, H', q, hP⟩ := hQ
      exact after hok q (h v' A' hP) X' C' N N' H' B hv sp
    · obtain ⟨v, vm₁, ⟨T', L', k', n'⟩, -, X', hS, hgr, ⟨Lc, hQ, l1, y1, z1⟩, sp⟩ := callSS X C'.1 (y := y) C'.2.2.1 (mvT C'.2.1 w1) (mvT C'.2.1 w2) (mvT C'.2.1 w3) (mvT C'.2.1 w4) hy (backOfS (W := catS rest) (Q := QC Z lay n0 r A.length Ψ) (hM.wid r T.heap H) C'.2.1 w4 w3 hf (Nat.le_of_ble_eq_true hlo))
        (g := mkF m pc (cl r ls) (ct r (as.reverse ++ rest))) rfl hsz' (argsL := ct r as) (rest := ct r rest) (lenOf hpd hlen') stk hW (C'.dec hl) (fun _ _ => ⟨rfl, rfl, hc, hs⟩)
      dsimp only [Pt.U, Pt.locs, Pt.cells, Pt.slots] at X' hS hgr l1 y1 z1 sp hQ
      subst l1 y1 z1
      obtain ⟨N', v', A', r', hv, H', q, hP⟩ := hQ
      exact after hok q (h v' A' hP) X' (C'.re hS.1) N N' H' (B.re hS hgr) hv (fun t ht => sp.trans ht)
theorem W_callI {y : MethodName} {idx i : Nat} {code : ByteArray} {mL : Nat} {Rc : Room} {ps : List FieldType} {rr : Option FieldType} {Ψ : Option Value → List ACell → Prop} (as rest : List Value) (hM : MT w l Z n0 lay y code mL none [] Rc (.ref i :: as) A Ψ) (hl : D[jx]? = some (pc, .invokespecial idx, 3)) (hy1 : y.name = "<init>")
    (w1 : (Jvm.Cond.methodLink own idx y).before a0 Z = true) (w2 : (Jvm.Cond.instanceMethod y).before a0 Z = true) (w3 : (Jvm.Cond.initialized y.cls).before a0 Z = true) (w4 : (Jvm.Cond.code y code mL none).before a0 Z = true) (hy : y.cls ≠ "java/lang/invoke/MethodHandle" ∧ y.cls ≠ "java/lang/invoke/VarHandle")
    (hpd : parseMethodDescriptor y.desc = some ⟨ps, rr⟩) (hlen : as.length = ps.length) (hst : st = as.reverse ++ .ref i :: rest) (hsz : ls.length = maxL) (hf : Rc.frames + 1 ≤ R.frames) (hlo : (catS rest + (mL + 11) + Rc.locals).ble R.locals = true) (hc : cells + Rc.cells ≤ R.cells) (hs : slots + Rc.slots ≤ R.slots)
    (hok : (ls.all (okS A.length) && rest.all (okV A.length)) = true) (h : ∀ v B, Ψ v B → WP w l Z n0 lay own D maxL ret nm R (pc + 3) ls (v.toList ++ rest) B (cells + Rc.cells) (slots + Rc.slots) Φ) : WP w l Z n0 lay own D maxL ret nm R pc ls st A cells slots Φ :=
  fun p e s s' m args below meth c T locs r X C' N H B => by
    subst hst
    have hsz' : (cl r ls).size = c.maxLocals := by rw [cl_size, hsz, C'.2.2.2.2.2.2.1]
    have hW : 2 * 0 + ((ct r rest).map fun v => v.category).sum ≤ catS rest := by rw [ct_cat]; omega
    have hlen' : (ct r as).length = ps.length := by simpa [ct] using hlen
    cases w
    · obtain ⟨v, vm₁, ⟨T', L', k', n'⟩, -, X', ⟨Lc, hQ, l1, y1, z1⟩, sp⟩ := X.specialBack C'.1 (y := y) hy1 C'.2.2.1 (mvT C'.2.1 w1) (mvT C'.2.1 w2) (mvT C'.2.1 w4) hy (backOf (W := catS rest) (Q := QC Z lay n0 r A.length Ψ) (hM.nar r T.heap H) C'.2.1 w4 w3 hf (Nat.le_of_ble_eq_true hlo))
        (g := mkF m pc (cl r ls) (ct r (as.reverse ++ .ref i :: rest))) rfl hsz' (Steps.refl _) (a := r i) (argsL := ct r as) (rest := ct r rest) (lenOf hpd hlen') stkI hW (C'.dec hl) (fun _ _ => ⟨rfl, rfl, hc, hs⟩)
      dsimp only [Pt.U, Pt.locs, Pt.cells, Pt.slots] at X' l1 y1 z1 sp hQ
      subst l1 y1 z1
      obtain ⟨N', v', A', r', hv, H', q, hP⟩ := hQ
      exact after hok q (h v' A' hP) X' C' N N' H' B hv (fun t ht => sp.trans ht)
    · obtain ⟨v, vm₁, ⟨T', L', k', n'⟩, -, X', hS, hgr, ⟨Lc, hQ, l1, y1, z1⟩, sp⟩ := X.specialBackS C'.1 (y := y) hy1 C'.2.2.1 (mvT C'.2.1 w1) (mvT C'.2.1 w2) (mvT C'.2.1 w4) hy (backOfS (W := catS rest) (Q := QC Z lay n0 r A.length Ψ) (hM.wid r T.heap H) C'.2.1 w4 w3 hf (Nat.le_of_ble_eq_true hlo))
        (g := mkF m pc (cl r ls) (ct r (as.reverse ++ .ref i :: rest))) rfl hsz' (Steps.refl _) (a := r i) (argsL := ct r as) (rest := ct r rest) (lenOf hpd hlen') stkI hW (C'.dec hl) (fun _ _ => ⟨rfl, rfl, hc, hs⟩)
      dsimp only [Pt.U, Pt.locs, Pt.cells, Pt.slots] at X' hS hgr l1 y1 z1 sp hQ
      subst l1 y1 z1
      obtain ⟨N', v', A', r', hv, H', q, hP⟩ := hQ
      exact after hok q (h v' A' hP) X' (C'.re hS.1) N N' H' (B.re hS hgr) hv (fun t ht => sp.trans ht)
theorem W_callV {y : MethodName} {idx i ci : Nat} {C : String} {fs : List (String × String × String)} {vs : List Value} {code : ByteArray} {mL : Nat} {rt : Option FieldType} {Rc : Room} {ps : List FieldType} {rr : Option FieldType} {Ψ : Option Value → List ACell → Prop} (as rest : List Value) (hM : MT w l Z n0 lay y code mL rt [] Rc (.ref i :: as) A Ψ) (hl : D[jx]? = some (pc, .invokevirtual idx, 3)) (hC : lay[ci]? = some (C, fs)) (hA : A[i]? = some (.inl (ci, vs)))
    (w1 : (Jvm.Cond.methodLink own idx y).before a0 Z = true) (w2 : (Jvm.Cond.declares y).before a0 Z = true) (w5 : (Jvm.Cond.selects C y y).before a0 Z = true) (w6 : (Jvm.Cond.instanceMethod y).before a0 Z = true) (w3 : (Jvm.Cond.initialized y.cls).before a0 Z = true) (w4 : (Jvm.Cond.code y code mL rt).before a0 Z = true) (hy : y.cls ≠ "java/lang/invoke/MethodHandle" ∧ y.cls ≠ "java/lang/invoke/VarHandle")
    (hpd : parseMethodDescriptor y.desc = some ⟨ps, rr⟩) (hlen : as.length = ps.length) (hst : st = as.reverse ++ .ref i :: rest) (hsz : ls.length = maxL) (hf : Rc.frames + 1 ≤ R.frames) (hlo : (catS rest + (mL + 11) + Rc.locals).ble R.locals = true) (hc : cells + Rc.cells ≤ R.cells) (hs : slots + Rc.slots ≤ R.slots)
    (hok : (ls.all (okS A.length) && rest.all (okV A.length)) = true) (h : ∀ v B, Ψ v B → WP w l Z n0 lay own D maxL ret nm R (pc + 3) ls (v.toList ++ rest) B (cells + Rc.cells) (slots + Rc.slots) Φ) : WP w l Z n0 lay own D maxL ret nm R pc ls st A cells slots Φ :=
  fun p e s s' m args below meth c T locs r X C' N H B => by
    subst hst
    have hsz' : (cl r ls).size = c.maxLocals := by rw [cl_size, hsz, C'.2.2.2.2.2.2.1]
    have hW : 2 * 0 + ((ct r rest).map fun v => v.category).sum ≤ catS rest := by rw [ct_cat]; omega
    have hlen' : (ct r as).length = ps.length := by simpa [ct] using hlen
    have E : Exa Z T.heap (r i) C := by
      obtain ⟨-, C0, fs', h1, E, -⟩ := H.1 i _ hA
      cases hC.symm.trans h1
      exact E
    obtain ⟨cq, kq, qa, qb, qc⟩ := isOf C'.2.1 rfl E
    cases w
    · obtain ⟨v, vm₁, ⟨T', L', k', n'⟩, -, X', ⟨Lc, hQ, l1, y1, z1⟩, sp⟩ := X.virtualBack C'.1 (y := y) (z := y) C'.2.2.1 (mvT C'.2.1 w1) (mvT C'.2.1 w2) (notFace_of_selects (args := #[]) (mvT C'.2.1 w5)) (mvT C'.2.1 w5) (mvT C'.2.1 w6) hy (backOf (W := catS rest) (Q := QC Z lay n0 r A.length Ψ) (hM.nar r T.heap H) C'.2.1 w4 w3 hf (Nat.le_of_ble_eq_true hlo)) qa qc
        (g := mkF m pc (cl r ls) (ct r (as.reverse ++ .ref i :: rest))) rfl hsz' (Steps.refl _) (argsL := ct r as) (rest := ct r rest) (lenOf hpd hlen') stkI hW (C'.dec hl) (fun _ _ => ⟨rfl, rfl, hc, hs⟩)
      dsimp only [Pt.U, Pt.locs, Pt.cells, Pt.slots] at X' l1 y1 z1 sp hQ
      subst l1 y1 z1
      obtain ⟨N', v', A', r', hv, H', q, hP⟩ := hQ
      exact after hok q (h v' A' hP) X' C' N N' H' B hv (fun t ht => sp.trans ht)
    · obtain ⟨v, vm₁, ⟨T', L', k', n'⟩, -, X', hS, hgr, ⟨Lc, hQ, l1, y1, z1⟩, sp⟩ := X.virtualBackS C'.1 (y := y) (z := y) C'.2.2.1 (mvT C'.2.1 w1) (mvT C'.2.1 w2) (notFace_of_selects (args := #[]) (mvT C'.2.1 w5)) (mvT C'.2.1 w5) (mvT C'.2.1 w6) hy (backOfS (W := catS rest) (Q := QC Z lay n0 r A.length Ψ) (hM.wid r T.heap H) C'.2.1 w4 w3 hf (Nat.le_of_ble_eq_true hlo)) qa qc
        (g := mkF m pc (cl r ls) (ct r (as.reverse ++ .ref i :: rest))) rfl hsz' (Steps.refl _) (argsL := ct r as) (rest := ct r rest) (lenOf hpd hlen') stkI hW (C'.dec hl) (fun _ _ => ⟨rfl, rfl, hc, hs⟩)
      dsimp only [Pt.U, Pt.locs, Pt.cells, Pt.slots] at X' hS hgr l1 y1 z1 sp hQ
      subst l1 y1 z1
      obtain ⟨N', v', A', r', hv, H', q, hP⟩ := hQ
      exact after hok q (h v' A' hP) X' (C'.re hS.1) N N' H' (B.re hS hgr) hv (fun t ht => sp.trans ht)
end Rules
end Jvm.OwnKit
namespace Jvm.OwnKit
open Jvm Jvm.ClassFile Sem Op Lib Jvm.Free Jvm.Stand Jvm.LawKit Jvm.RoadKit Bundle
section More
variable {w : Bool} {l : Launch} {Z : State} {a0 : Array Value} {n0 : Nat} {lay : Lay} {own : String} {D : Dt} {maxL : Nat} {ret : Option FieldType} {nm : String} {R : Room}
  {pc jx : Nat} {ls : List Slot} {st : List Value} {A : List ACell} {cells slots : Nat} {Φ : Option Value → List ACell → Prop}
/-- a private method -/
theorem W_callP {y : MethodName} {idx i ci kk : Nat} {C : String} {fs : List (String × String × String)} {vs : List Value} {code : ByteArray} {mL : Nat} {rt : Option FieldType} {Rc : Room} {ps : List FieldType} {rr : Option FieldType} {Ψ : Option Value → List ACell → Prop} (as rest : List Value) (hM : MT w l Z n0 lay y code mL rt [] Rc (.ref i :: as) A Ψ) (hl : D[jx]? = some (pc, .invokevirtual idx, 3)) (hC : lay[ci]? = some (C, fs)) (hA : A[i]? = some (.inl (ci, vs)))
    (w1 : (Jvm.Cond.methodLink own idx y).before a0 Z = true) (w2 : (Jvm.Cond.privateMethod y).before a0 Z = true) (w5 : (Jvm.Cond.instantiable y.cls kk).before a0 Z = true) (w6 : (Jvm.Cond.instanceMethod y).before a0 Z = true) (w3 : (Jvm.Cond.initialized y.cls).before a0 Z = true) (w4 : (Jvm.Cond.code y code mL rt).before a0 Z = true) (hy : y.cls ≠ "java/lang/invoke/MethodHandle" ∧ y.cls ≠ "java/lang/invoke/VarHandle")
    (hpd : parseMethodDescriptor y.desc = some ⟨ps, rr⟩) (hlen : as.length = ps.length) (hst : st = as.reverse ++ .ref i :: rest) (hsz : ls.length = maxL) (hf : Rc.frames + 1 ≤ R.frames) (hlo : (catS rest + (mL + 11) + Rc.locals).ble R.locals = true) (hc : cells + Rc.cells ≤ R.cells) (hs : slots + Rc.slots ≤ R.slots)
    (hok : (ls.all (okS A.length) && rest.all (okV A.length)) = true) (h : ∀ v B, Ψ v B → WP w l Z n0 lay own D maxL ret nm R (pc + 3) ls (v.toList ++ rest) B (cells + Rc.cells) (slots + Rc.slots) Φ) : WP w l Z n0 lay own D maxL ret nm R pc ls st A cells slots Φ :=
  fun p e s s' m args below meth c T locs r X C' N H B => by
    subst hst
    have hsz' : (cl r ls).size = c.maxLocals := by rw [cl_size, hsz, C'.2.2.2.2.2.2.1]
    have hW : 2 * 0 + ((ct r rest).map fun v => v.category).sum ≤ catS rest := by rw [ct_cat]; omega
    have hlen' : (ct r as).length = ps.length := by simpa [ct] using hlen
    have E : Exa Z T.heap (r i) C := by
      obtain ⟨-, C0, fs', h1, E, -⟩ := H.1 i _ hA
      cases hC.symm.trans h1
      exact E
    obtain ⟨cc, hcell, hobj⟩ := E.cell
    have hpv : s'.PrivateAt y := Cond.privateMethod_at (mvP C'.2.1 w2 (args := #[]))
    have hsel : (Jvm.Cond.selects y.cls y y).before args s' = true := by
      obtain ⟨c2, k2, i1, i2, i3, i4, -⟩ := Cond.instantiable_spec (mvT (args := args) C'.2.1 w5)
      simp only [Bool.or_eq_false_iff] at i4
      exact selects_self_of_private i1 i2 i4.1 hpv (mvT C'.2.1 w6) hy
    cases w
    · obtain ⟨v, vm₁, ⟨T', L', k', n'⟩, -, X', ⟨Lc, hQ, l1, y1, z1⟩, sp⟩ := X.privateBack C'.1 (y := y) C'.2.2.1 (mvT C'.2.1 w1) (mvT C'.2.1 w6) hsel hpv (mvT C'.2.1 w4) hy (backOf (W := catS rest) (Q := QC Z lay n0 r A.length Ψ) (hM.nar r T.heap H) C'.2.1 w4 w3 hf (Nat.le_of_ble_eq_true hlo))
        (g := mkF m pc (cl r ls) (ct r (as.reverse ++ .ref i :: rest))) rfl hsz' (Steps.refl _) (a := r i) hcell hobj (argsL := ct r as) (rest := ct r rest) (lenOf hpd hlen') stkI hW (C'.dec hl) (fun _ _ => ⟨rfl, rfl, hc, hs⟩)
      dsimp only [Pt.U, Pt.locs, Pt.cells, Pt.slots] at X' l1 y1 z1 sp hQ
      subst l1 y1 z1
      obtain ⟨N', v', A', r', hv, H', q, hP⟩ := hQ
      exact after hok q (h v' A' hP) X' C' N N' H' B hv (fun t ht => sp.trans ht)
    · obtain ⟨v, vm₁, ⟨T', L', k', n'⟩, -, X', hS, hgr, ⟨Lc, hQ, l1, y1, z1⟩, sp⟩ := X.privateBackS C'.1 (y := y) C'.2.2.1 (mvT C'.2.1 w1) (mvT C'.2.1 w6) hsel hpv (mvT C'.2.1 w4) hy (backOfS (W := catS rest) (Q := QC Z lay n0 r A.length Ψ) (hM.wid r T.heap H) C'.2.1 w4 w3 hf (Nat.le_of_ble_eq_true hlo))
        (g := mkF m pc (cl r ls) (ct r (as.reverse ++ .ref i :: rest))) rfl hsz' (Steps.refl _) (a := r i) hcell hobj (argsL := ct r as) (rest := ct r rest) (lenOf hpd hlen') stkI hW (C'.dec hl) (fun _ _ => ⟨rfl, rfl, hc, hs⟩)
      dsimp only [Pt.U, Pt.locs, Pt.cells, Pt.slots] at X' hS hgr l1 y1 z1 sp hQ
      subst l1 y1 z1
      obtain ⟨N', v', A', r', hv, H', q, hP⟩ := hQ
      exact after hok q (h v' A' hP) X' (C'.re hS.1) N N' H' (B.re hS hgr) hv (fun t ht => sp.trans ht)
/-- checkcast of an array of the sort that it is -/
theorem W_castA {idx i : Nat} {K : String} {ty : FieldType} {vs : List Value} (hl : D[jx]? = some (pc, .checkcast idx, 3)) (hk : (Jvm.Cond.classLink own idx K).before a0 Z = true) (hA : A[i]? = some (.inr (ty, vs))) (hK : "[" ++ ty.toString = K)
    (h : WP w l Z n0 lay own D maxL ret nm R (pc + 3) ls (.ref i :: st) A cells slots Φ) : WP w l Z n0 lay own D maxL ret nm R pc ls (.ref i :: st) A cells slots Φ :=
  fun p e s s' m args below meth c T locs r X C' N H B => by
    subst hK
    obtain ⟨-, ce, h1, h2, h3, h5⟩ := H.1 i _ hA
    obtain ⟨T', X', e', st'⟩ := castY X C'.1 C'.2.1 C'.2.2.1 hk rfl (Ins.self h5) (g := mkF m pc (cl r ls) (ct r (.ref i :: st))) rfl rfl (C'.dec hl)
    exact (h p e s s' m args below meth c T' locs r X' C' N (e' ▸ H) (e' ▸ B)).back st' (Nat.le_refl _) (fun _ _ => rfl)
/-- a clone of an array -/
theorem W_clone {idx i : Nat} {ad : String} {ty : FieldType} {vs : List Value} (cap : Nat) (hl : D[jx]? = some (pc, .invokevirtual idx, 3)) (hA : A[i]? = some (.inr (ty, vs))) (had : "[" ++ ty.toString = ad) (hp : prim ty = true)
    (w1 : (Jvm.Cond.methodLink own idx ⟨ad, "clone", "()Ljava/lang/Object;"⟩).before a0 Z = true) (w2 : (Jvm.Cond.sameMethod ad "java/lang/Object" "clone" "()Ljava/lang/Object;").before a0 Z = true) (w3 : (Jvm.Cond.native ⟨"java/lang/Object", "clone", "()Ljava/lang/Object;"⟩).before a0 Z = true)
    (w4 : (Jvm.Cond.instanceMethod ⟨"java/lang/Object", "clone", "()Ljava/lang/Object;"⟩).before a0 Z = true) (w5 : (Jvm.Cond.selects ad ⟨ad, "clone", "()Ljava/lang/Object;"⟩ ⟨"java/lang/Object", "clone", "()Ljava/lang/Object;"⟩).before a0 Z = true) (w6 : (Jvm.Cond.castable ad "java/lang/Cloneable").before a0 Z = true)
    (hsz : ls.length = maxL) (hf : 1 ≤ R.frames) (hlo : (catS st + 14).ble R.locals = true) (hcap : vs.length ≤ cap) (hcc : cells + 1 ≤ R.cells) (hss : slots + cap ≤ R.slots) (hck : (ls.all (okS A.length) && (st.all (okV A.length) && A.all (okC A.length))) = true)
    {N0 : Nat} {A1 : List ACell} (hN0 : A.length = N0) (hB : A ++ [.inr (ty, vs)] = A1) (h : WP w l Z n0 lay own D maxL ret nm R (pc + 3) ls (.ref N0 :: st) A1 (cells + 1) (slots + cap) Φ) : WP w l Z n0 lay own D maxL ret nm R pc ls (.ref i :: st) A cells slots Φ :=
  fun p e s s' m args below meth c T locs r X C' N H B => by
    subst hN0 hB had
    simp only [Bool.and_eq_true] at hck
    obtain ⟨k1, k2, k3⟩ := hck
    obtain ⟨-, ce, h1, h2, h3, h5⟩ := H.1 i _ hA
    have FC : FitC Z ce := fitC_of h1 fun j hj v hv => by
      rw [h2] at hv
      simp only [List.getElem?_toArray, ct, List.getElem?_map, Option.map_eq_some_iff] at hv
      obtain ⟨u, hu, rfl⟩ := hv
      have := h3 u (List.mem_of_getElem? hu)
      rw [prim_cv hp this]; exact this
    obtain ⟨T', h', X', e', E, Ar, Ex, st'⟩ := cloneA X C'.1 C'.2.1 C'.2.2.1 w1 w2 w3 w4 w5 w6 rfl h1 h5 FC (g := mkF m pc (cl r ls) (ct r (.ref i :: st))) rfl (by show (cl r ls).size = _; rw [cl_size, hsz, C'.2.2.2.2.2.2.1]) rfl (C'.dec hl) hf (W := catS st) (cap := cap)
      (by show 2 * 0 + ((ct r st).map fun v => v.category).sum ≤ _; rw [ct_cat]; omega) (Nat.le_of_ble_eq_true hlo) (by rw [h2]; simpa [ct] using hcap) hcc hss
    subst e'
    have q : ∀ i, i < A.length → (fun i => if i = A.length then T.heap.size else r i) i = r i := fun i hi => if_neg (Nat.ne_of_lt hi)
    have H' := H.push E (c := .inr (ty, vs)) k3 ⟨_, Ar, by
      show ce.slots = _
      rw [h2]
      congr 1
      refine List.map_congr_left fun v hv => ?_
      rw [prim_cv hp (h3 v hv), prim_cv hp (h3 v hv)], h3, Ex⟩
    have hf' := h p e s s' m args below meth c T' locs _ X' C' N H' (B.grow E.1)
    refine hf'.back (fun t ht => st' t ?_) (by simp) q
    have hr1 : ct (fun i => if i = A.length then T.heap.size else r i) (.ref A.length :: st) = .ref T.heap.size :: ct r st := by
      show cv _ _ :: ct _ st = _
      rw [ct_ag q k2]
      simp [cv]
    rw [cl_ag q k1, hr1] at ht
    exact ht
/-- a String constant, used before or not -/
theorem W_ldcS {idx : Nat} {text : String} (K n : Nat) (hl : D[jx]? = some (pc, .ldc idx, 2)) (hk : (Jvm.Cond.stringLink own idx text).before a0 Z = true) (wS : ∀ a ∈ Bundle.stringAtoms, a.before a0 Z = true) (hK : A.length ≤ K) (hn : 4 * text.toList.length ≤ n) (hbig : n ≤ 536870912) (hcc : cells + 2 ≤ R.cells) (hss : slots + (n + 4) ≤ R.slots)
    (hck : (ls.all (okS A.length) && (st.all (okV A.length) && A.all (okC A.length))) = true)
    (h : WP true l Z n0 lay own D maxL ret nm R (pc + 2) ls (.ref K :: st) A (cells + 2) (slots + (n + 4)) Φ) : WP true l Z n0 lay own D maxL ret nm R pc ls st A cells slots Φ :=
  fun p e s s' m args below meth c T locs r X C' N H B => by
    simp only [Bool.and_eq_true] at hck
    obtain ⟨k1, k2, k3⟩ := hck
    obtain ⟨vm0, k0, rfl, hS, hk0⟩ := B
    obtain ⟨a, T', h', kk, X', e', E, hS', hk', hZ', hown', st'⟩ := ldcS X C'.1 C'.2.1 C'.2.2.1 hk wS rfl hS hk0 (g := mkF m pc (cl r ls) (ct r st)) rfl (C'.dec hl) hn hbig hcc hss
    subst e'
    have q : ∀ i, i < A.length → (fun i => if i = K then a else r i) i = r i := fun i hi => if_neg (by omega)
    have H' : Hp Z lay n0 (fun i => if i = K then a else r i) T'.heap A :=
      ⟨fun i x hx => ⟨by rw [q i (List.getElem?_eq_some_iff.mp hx).1]; exact (H.1 i x hx).1, by rw [q i (List.getElem?_eq_some_iff.mp hx).1]; exact ((H.1 i x hx).2.ext E).ag q (List.all_eq_true.mp k3 x (List.mem_of_getElem? hx))⟩,
        fun i j hi hj e => H.2.1 i j hi hj (by rw [q i hi, q j hj] at e; exact e), Nat.le_trans H.2.2 E.1⟩
    have hf' := h p e s (s.setVm T'.vm) m args below meth c T' locs _ X' ⟨C'.1, hZ', hown', C'.2.2.2⟩ N H' ⟨T'.vm, kk, rfl, hS', hk'⟩
    refine hf'.back (fun t ht => st' t ?_) (Nat.le_refl _) q
    have hr1 : ct (fun i => if i = K then a else r i) (.ref K :: st) = .ref a :: ct r st := by
      show cv _ _ :: ct _ st = _
      rw [ct_ag q k2]
      simp [cv]
    rw [cl_ag q k1, hr1] at ht
    exact ht
theorem CellOk.keep {r : Nat → Addr} {h h' : Heap} {a b : Addr} (K : Keep h h' [a]) (q : b ≠ a) : ∀ {c : ACell}, CellOk Z lay r h b c → CellOk Z lay r h' b c
  | .inl (ci, vs), ⟨C, fs, h1, F, h2, h3⟩ => ⟨C, fs, h1, F.keep K, h2, fun i f v hf hv => (h3 i f v hf hv).keep K (ninS q nin0)⟩
  | .inr (ty, vs), ⟨c, h1, h2, h3, h5⟩ => ⟨c, ⟨K.2.1 b c h1.1 (ninS q nin0), h1.2⟩, h2, h3, h5.keep K⟩
theorem prim_rk {ty : FieldType} (h : prim ty = true) : refKind ty = false := by cases ty <;> first | rfl | simp [prim] at h
theorem arv_of {r : Nat → Addr} {h : Heap} {a : Addr} {ty : FieldType} {vs : List Value} {n : Int32} (hp : prim ty = true) (h0 : ¬ n < 0) (hn : n.toNatClampNeg = vs.length) (H : CellOk Z lay r h a (.inr (ty, vs))) : ∃ k, Arv Z h a k ty n vs (.int 0) := by
  obtain ⟨c, h1, h2, h3, -⟩ := H
  have e : ct r vs = vs := by
    have : ∀ v ∈ vs, cv r v = v := fun v hv => prim_cv hp (h3 v hv)
    show vs.map (cv r) = vs
    rw [List.map_congr_left this]; simp
  rw [e] at h2
  refine ⟨c.cls, c, h1, rfl, by simp [h2, hn], h0, fun k hk => ?_, fun k hk => ?_⟩
  · have hk' : k < vs.length := by simpa [h2] using hk
    simp [h2, hk']
  · have hk' : k < vs.length := by simpa [h2] using hk
    have : vs.getD k (.int 0) = vs[k] := by simp [hk']
    rw [this]; exact h3 _ (List.getElem_mem hk')
theorem of_arv {r : Nat → Addr} {h : Heap} {a : Addr} {ty : FieldType} {vs : List Value} {n : Int32} {k : ClassId} (hp : prim ty = true) (hn : n.toNatClampNeg = vs.length) (F : Arv Z h a k ty n vs (.int 0)) (E : Exa Z h a ("[" ++ ty.toString)) : CellOk Z lay r h a (.inr (ty, vs)) := by
  obtain ⟨c, h1, h2, h3, h4, h5, h6⟩ := F
  have hl : c.slots.size = vs.length := h3.trans hn
  have hf : ∀ v ∈ vs, fits ty v = true := fun v hv => by
    obtain ⟨i, hi⟩ := List.getElem?_of_mem hv
    have hi' := (List.getElem?_eq_some_iff.mp hi).1
    have := h6 i (by omega)
    simpa [hi] using this
  have e : ct r vs = vs := by
    have : ∀ v ∈ vs, cv r v = v := fun v hv => prim_cv hp (hf v hv)
    show vs.map (cv r) = vs
    rw [List.map_congr_left this]; simp
  refine ⟨c, h1, ?_, hf, E⟩
  rw [e]
  apply Array.ext_getElem?
  intro i
  by_cases hi : i < vs.length
  · rw [h5 i (by omega)]
    simp [hi]
  · rw [Array.getElem?_eq_none (by omega)]
    simp; omega
/-- System.arraycopy between two arrays of one primitive sort -/
theorem W_arraycopy {idx i k : Nat} {ty : FieldType} {vs vd us : List Value} {sp dp nn : Int32} (n1 n2 : Int32) (hl : D[jx]? = some (pc, .invokestatic idx, 3)) (w1 : (Jvm.Cond.methodLink own idx Jvm.Stand.acN).before a0 Z = true) (w2 : (Jvm.Cond.native Jvm.Stand.acN).before a0 Z = true) (w3 : (Jvm.Cond.static Jvm.Stand.acN).before a0 Z = true) (w4 : (Jvm.Cond.initialized "java/lang/System").before a0 Z = true)
    (hA : A[i]? = some (.inr (ty, vs))) (hA2 : A[k]? = some (.inr (ty, vd))) (hp : prim ty = true) (hn1 : ¬ n1 < 0) (hm1 : n1.toNatClampNeg = vs.length) (hn2 : ¬ n2 < 0) (hm2 : n2.toNatClampNeg = vd.length) (h1 : ¬ sp < 0) (h2 : ¬ dp < 0) (h3 : ¬ nn < 0) (h4 : sp.toNatClampNeg + nn.toNatClampNeg ≤ vs.length) (h5 : dp.toNatClampNeg + nn.toNatClampNeg ≤ vd.length)
    (hus : us = (List.range nn.toNatClampNeg).map fun i => vs.getD (sp.toNatClampNeg + i) (.int 0)) (hsz : ls.length = maxL) (hf : 1 ≤ R.frames) (hlo : (catS st + (nativeFrameWords "java/lang/System" "arraycopy" 5 + 11)).ble R.locals = true)
    {A1 : List ACell} (hB : A.set k (.inr (ty, vd.take dp.toNatClampNeg ++ us ++ vd.drop (dp.toNatClampNeg + nn.toNatClampNeg))) = A1) (h : WP w l Z n0 lay own D maxL ret nm R (pc + 3) ls st A1 cells slots Φ) : WP w l Z n0 lay own D maxL ret nm R pc ls (.int nn :: .int dp :: .ref k :: .int sp :: .ref i :: st) A cells slots Φ :=
  fun p e s s' m args below meth c T locs r X C' N H B => by
    subst hB
    obtain ⟨g1, c1⟩ := H.1 i _ hA
    obtain ⟨g2, c2⟩ := H.1 k _ hA2
    obtain ⟨k1, V1⟩ := arv_of hp hn1 hm1 c1
    obtain ⟨k2, V2⟩ := arv_of hp hn2 hm2 c2
    have Ex : Exa Z T.heap (r k) ("[" ++ ty.toString) := by obtain ⟨_, _, _, _, q⟩ := c2; exact q
    obtain ⟨T', h', L, X', e', N', K, V, st'⟩ := cpA X C'.1 C'.2.1 C'.2.2.1 w1 w2 w3 w4 rfl V1 V2 (Or.inl ⟨rfl, prim_rk hp⟩) h1 h2 h3 (by rw [hm1]; exact h4) (by rw [hm2]; exact h5) hus h5 N g2
      (g := mkF m pc (cl r ls) (ct r (.int nn :: .int dp :: .ref k :: .int sp :: .ref i :: st))) rfl (by show (cl r ls).size = _; rw [cl_size, hsz, C'.2.2.2.2.2.2.1]) rfl (C'.dec hl) hf (W := catS st) (by show 2 * 0 + ((ct r st).map fun v => v.category).sum ≤ _; rw [ct_cat]; omega) (Nat.le_of_ble_eq_true hlo)
    subst e'
    have hul : us.length = nn.toNatClampNeg := by rw [hus]; simp
    have hkl := (List.getElem?_eq_some_iff.mp hA2).1
    have H' : Hp Z lay n0 r T'.heap (A.set k (.inr (ty, vd.take dp.toNatClampNeg ++ us ++ vd.drop (dp.toNatClampNeg + nn.toNatClampNeg)))) := by
      refine ⟨fun j z hz => ?_, fun i j hi hj e => H.2.1 i j (by simpa using hi) (by simpa using hj) e, Nat.le_trans H.2.2 K.1⟩
      by_cases ej : j = k
      · subst ej
        rw [List.getElem?_set_self hkl] at hz
        cases hz
        exact ⟨g2, of_arv hp (by rw [hm2]; simp [hul]; omega) V (Ex.keep K)⟩
      · rw [List.getElem?_set_ne (Ne.symm ej)] at hz
        exact ⟨(H.1 j z hz).1, (H.1 j z hz).2.keep K fun q => ej (H.2.1 j k (List.getElem?_eq_some_iff.mp hz).1 hkl q)⟩
    exact (h p e s s' m args below meth c T' _ r X' C' N' H' (B.grow K.1)).back st' (by simp) (fun _ _ => rfl)
end More
end Jvm.OwnKit
namespace Jvm.OwnKit
open Jvm Jvm.ClassFile Sem Op Lib Jvm.Free Jvm.Stand Jvm.LawKit Jvm.RoadKit Bundle
/-- as WP, where the start is known still: nothing has been interned, P holds of the start; the end is the wide one -/
def WQ (P : State → Prop) (l : Launch) (Z : State) (n0 : Nat) (lay : Lay) (own : String) (D : Dt) (maxL : Nat) (ret : Option FieldType) (nm : String) (R : Room)
    (pc : Nat) (ls : List Slot) (st : List Value) (A : List ACell) (cells slots : Nat) (Φ : Option Value → List ACell → Prop) : Prop :=
  ∀ (p : Program) (e : Env) (s : State) (m : MethodId) (args : Array Value) (below : List Frame) (meth : Method) (c : Code) (T : State) (locs : List Loc) (r : Nat → Addr),
    Stand p l e R s m args below meth c T locs cells slots → Cx Z own D maxL ret nm p s m meth c → Fr n0 locs → Hp Z lay n0 r T.heap A → P s →
    Fin true Z n0 lay R Φ A.length r p e below s (T.setTop (mkF m pc (cl r ls) (ct r st)))
section RulesQ
variable {P : State → Prop} {l : Launch} {Z : State} {a0 : Array Value} {n0 : Nat} {lay : Lay} {own : String} {D : Dt} {maxL : Nat} {ret : Option FieldType} {nm : String} {R : Room}
  {pc jx : Nat} {ls : List Slot} {st : List Value} {A : List ACell} {cells slots : Nat} {Φ : Option Value → List ACell → Prop}
theorem Q_pure {ins : Instr} {len pc' : Nat} {ls' : List Slot} {st' : List Value} (hl : D[jx]? = some (pc, ins, len)) (h : pst ins len pc ls st = some (pc', ls', st')) (hr : WQ P l Z n0 lay own D maxL ret nm R pc' ls' st' A cells slots Φ) : WQ P l Z n0 lay own D maxL ret nm R pc ls st A cells slots Φ :=
  fun p e s m args below meth c T locs r X C N H B => (hr p e s m args below meth c T locs r X C N H B).back (fun t ht => pst_ok X.here C.1 (C.dec hl) h ht) (Nat.le_refl _) (fun _ _ => rfl)
theorem Q_srun (n : Nat) {E : Dt} {pc' : Nat} {ls' : List Slot} {st' : List Value} (hE : ∀ q ∈ E, q ∈ D) (h : srun E n pc ls st = some (pc', ls', st')) (hr : WQ P l Z n0 lay own D maxL ret nm R pc' ls' st' A cells slots Φ) : WQ P l Z n0 lay own D maxL ret nm R pc ls st A cells slots Φ := by
  induction n generalizing pc ls st E with
  | zero =>
    have h' : some (pc, ls, st) = some (pc', ls', st') := by cases E <;> exact h
    cases h'; exact hr
  | succ n ih =>
    cases E with
    | nil => cases h
    | cons q E =>
      obtain ⟨k, ins, len⟩ := q
      simp only [srun] at h
      split at h
      · rename_i e0
        subst e0
        split at h
        · rename_i a b d e2
          obtain ⟨jx, hj⟩ := List.getElem?_of_mem (hE _ (List.mem_cons_self ..))
          exact Q_pure hj e2 (ih (fun q hq => hE q (List.mem_cons_of_mem _ hq)) h)
        · cases h
      · cases h
/-- n plain instructions, from the jx-th row of the table -/
theorem Q_run (jx n : Nat) {pc' : Nat} {ls' : List Slot} {st' : List Value} (h : srun (D.drop jx) n pc ls st = some (pc', ls', st')) (hr : WQ P l Z n0 lay own D maxL ret nm R pc' ls' st' A cells slots Φ) : WQ P l Z n0 lay own D maxL ret nm R pc ls st A cells slots Φ :=
  Q_srun n (fun _ hq => List.mem_of_mem_drop hq) h hr
theorem Q_icmp {cd : ClassFile.Cond} {o : Int} {x y : Int32} {pc' : Nat} (hl : D[jx]? = some (pc, .if_icmp cd o, 3)) (ho : 0 ≤ (pc : Int) + o) (hp : ((pc : Int) + o).toNat = pc') (h1 : if_icmp.holds cd x y = true → WQ P l Z n0 lay own D maxL ret nm R pc' ls st A cells slots Φ)
    (h2 : if_icmp.holds cd x y = false → WQ P l Z n0 lay own D maxL ret nm R (pc + 3) ls st A cells slots Φ) : WQ P l Z n0 lay own D maxL ret nm R pc ls (.int y :: .int x :: st) A cells slots Φ := by
  subst hp
  cases hb : if_icmp.holds cd x y
  · exact Q_pure hl (by simp [pst, ilen, pcore, hb]) (h2 hb)
  · exact Q_pure hl (by simp [pst, ilen, pcore, hb, jmp, ho]) (h1 hb)
theorem Q_if {cd : ClassFile.Cond} {o : Int} {x : Int32} {pc' : Nat} (hl : D[jx]? = some (pc, .ifCond cd o, 3)) (ho : 0 ≤ (pc : Int) + o) (hp : ((pc : Int) + o).toNat = pc') (h1 : ifCond.holds cd x = true → WQ P l Z n0 lay own D maxL ret nm R pc' ls st A cells slots Φ)
    (h2 : ifCond.holds cd x = false → WQ P l Z n0 lay own D maxL ret nm R (pc + 3) ls st A cells slots Φ) : WQ P l Z n0 lay own D maxL ret nm R pc ls (.int x :: st) A cells slots Φ := by
  subst hp
  cases hb : ifCond.holds cd x
  · exact Q_pure hl (by simp [pst, ilen, pcore, hb]) (h2 hb)
  · exact Q_pure hl (by simp [pst, ilen, pcore, hb, jmp, ho]) (h1 hb)
theorem Q_lt {o : Int} {x y : Int32} {pc' : Nat} (hl : D[jx]? = some (pc, .if_icmp .lt o, 3)) (ho : 0 ≤ (pc : Int) + o) (hp : ((pc : Int) + o).toNat = pc') (h1 : x < y → WQ P l Z n0 lay own D maxL ret nm R pc' ls st A cells slots Φ)
    (h2 : ¬ x < y → WQ P l Z n0 lay own D maxL ret nm R (pc + 3) ls st A cells slots Φ) : WQ P l Z n0 lay own D maxL ret nm R pc ls (.int y :: .int x :: st) A cells slots Φ :=
  Q_icmp hl ho hp (fun h => h1 (h_lt.1.mp h)) (fun h => h2 (h_lt.2.mp h))
theorem Q_ge {o : Int} {x y : Int32} {pc' : Nat} (hl : D[jx]? = some (pc, .if_icmp .ge o, 3)) (ho : 0 ≤ (pc : Int) + o) (hp : ((pc : Int) + o).toNat = pc') (h1 : ¬ x < y → WQ P l Z n0 lay own D maxL ret nm R pc' ls st A cells slots Φ)
    (h2 : x < y → WQ P l Z n0 lay own D maxL ret nm R (pc + 3) ls st A cells slots Φ) : WQ P l Z n0 lay own D maxL ret nm R pc ls (.int y :: .int x :: st) A cells slots Φ :=
  Q_icmp hl ho hp (fun h => h1 (h_ge.1.mp h)) (fun h => h2 (h_ge.2.mp h))
theorem Q_gt {o : Int} {x y : Int32} {pc' : Nat} (hl : D[jx]? = some (pc, .if_icmp .gt o, 3)) (ho : 0 ≤ (pc : Int) + o) (hp : ((pc : Int) + o).toNat = pc') (h1 : y < x → WQ P l Z n0 lay own D maxL ret nm R pc' ls st A cells slots Φ)
    (h2 : ¬ y < x → WQ P l Z n0 lay own D maxL ret nm R (pc + 3) ls st A cells slots Φ) : WQ P l Z n0 lay own D maxL ret nm R pc ls (.int y :: .int x :: st) A cells slots Φ :=
  Q_icmp hl ho hp (fun h => h1 (h_gt.1.mp h)) (fun h => h2 (h_gt.2.mp h))
theorem Q_le {o : Int} {x y : Int32} {pc' : Nat} (hl : D[jx]? = some (pc, .if_icmp .le o, 3)) (ho : 0 ≤ (pc : Int) + o) (hp : ((pc : Int) + o).toNat = pc') (h1 : ¬ y < x → WQ P l Z n0 lay own D maxL ret nm R pc' ls st A cells slots Φ)
    (h2 : y < x → WQ P l Z n0 lay own D maxL ret nm R (pc + 3) ls st A cells slots Φ) : WQ P l Z n0 lay own D maxL ret nm R pc ls (.int y :: .int x :: st) A cells slots Φ :=
  Q_icmp hl ho hp (fun h => h1 (h_le.1.mp h)) (fun h => h2 (h_le.2.mp h))
theorem Q_eq {o : Int} {x y : Int32} {pc' : Nat} (hl : D[jx]? = some (pc, .if_icmp .eq o, 3)) (ho : 0 ≤ (pc : Int) + o) (hp : ((pc : Int) + o).toNat = pc') (h1 : x = y → WQ P l Z n0 lay own D maxL ret nm R pc' ls st A cells slots Φ)
    (h2 : ¬ x = y → WQ P l Z n0 lay own D maxL ret nm R (pc + 3) ls st A cells slots Φ) : WQ P l Z n0 lay own D maxL ret nm R pc ls (.int y :: .int x :: st) A cells slots Φ :=
  Q_icmp hl ho hp (fun h => h1 (h_eq.1.mp h)) (fun h => h2 (h_eq.2.mp h))
theorem Q_ne {o : Int} {x y : Int32} {pc' : Nat} (hl : D[jx]? = some (pc, .if_icmp .ne o, 3)) (ho : 0 ≤ (pc : Int) + o) (hp : ((pc : Int) + o).toNat = pc') (h1 : ¬ x = y → WQ P l Z n0 lay own D maxL ret nm R pc' ls st A cells slots Φ)
    (h2 : x = y → WQ P l Z n0 lay own D maxL ret nm R (pc + 3) ls st A cells slots Φ) : WQ P l Z n0 lay own D maxL ret nm R pc ls (.int y :: .int x :: st) A cells slots Φ :=
  Q_icmp hl ho hp (fun h => h1 (h_ne.1.mp h)) (fun h => h2 (h_ne.2.mp h))
theorem Q_iflt {o : Int} {x : Int32} {pc' : Nat} (hl : D[jx]? = some (pc, .ifCond .lt o, 3)) (ho : 0 ≤ (pc : Int) + o) (hp : ((pc : Int) + o).toNat = pc') (h1 : x < 0 → WQ P l Z n0 lay own D maxL ret nm R pc' ls st A cells slots Φ)
    (h2 : ¬ x < 0 → WQ P l Z n0 lay own D maxL ret nm R (pc + 3) ls st A cells slots Φ) : WQ P l Z n0 lay own D maxL ret nm R pc ls (.int x :: st) A cells slots Φ :=
  Q_if hl ho hp (fun h => h1 (h_lt.1.mp (by rw [if0] at h; exact h))) (fun h => h2 (h_lt.2.mp (by rw [if0] at h; exact h)))
theorem Q_ifge {o : Int} {x : Int32} {pc' : Nat} (hl : D[jx]? = some (pc, .ifCond .ge o, 3)) (ho : 0 ≤ (pc : Int) + o) (hp : ((pc : Int) + o).toNat = pc') (h1 : ¬ x < 0 → WQ P l Z n0 lay own D maxL ret nm R pc' ls st A cells slots Φ)
    (h2 : x < 0 → WQ P l Z n0 lay own D maxL ret nm R (pc + 3) ls st A cells slots Φ) : WQ P l Z n0 lay own D maxL ret nm R pc ls (.int x :: st) A cells slots Φ :=
  Q_if hl ho hp (fun h => h1 (h_ge.1.mp (by rw [if0] at h; exact h))) (fun h => h2 (h_ge.2.mp (by rw [if0] at h; exact h)))
theorem Q_ifgt {o : Int} {x : Int32} {pc' : Nat} (hl : D[jx]? = some (pc, .ifCond .gt o, 3)) (ho : 0 ≤ (pc : Int) + o) (hp : ((pc : Int) + o).toNat = pc') (h1 : 0 < x → WQ P l Z n0 lay own D maxL ret nm R pc' ls st A cells slots Φ)
    (h2 : ¬ 0 < x → WQ P l Z n0 lay own D maxL ret nm R (pc + 3) ls st A cells slots Φ) : WQ P l Z n0 lay own D maxL ret nm R pc ls (.int x :: st) A cells slots Φ :=
  Q_if hl ho hp (fun h => h1 (h_gt.1.mp (by rw [if0] at h; exact h))) (fun h => h2 (h_gt.2.mp (by rw [if0] at h; exact h)))
theorem Q_ifle {o : Int} {x : Int32} {pc' : Nat} (hl : D[jx]? = some (pc, .ifCond .le o, 3)) (ho : 0 ≤ (pc : Int) + o) (hp : ((pc : Int) + o).toNat = pc') (h1 : ¬ 0 < x → WQ P l Z n0 lay own D maxL ret nm R pc' ls st A cells slots Φ)
    (h2 : 0 < x → WQ P l Z n0 lay own D maxL ret nm R (pc + 3) ls st A cells slots Φ) : WQ P l Z n0 lay own D maxL ret nm R pc ls (.int x :: st) A cells slots Φ :=
  Q_if hl ho hp (fun h => h1 (h_le.1.mp (by rw [if0] at h; exact h))) (fun h => h2 (h_le.2.mp (by rw [if0] at h; exact h)))
theorem Q_ifeq {o : Int} {x : Int32} {pc' : Nat} (hl : D[jx]? = some (pc, .ifCond .eq o, 3)) (ho : 0 ≤ (pc : Int) + o) (hp : ((pc : Int) + o).toNat = pc') (h1 : x = 0 → WQ P l Z n0 lay own D maxL ret nm R pc' ls st A cells slots Φ)
    (h2 : ¬ x = 0 → WQ P l Z n0 lay own D maxL ret nm R (pc + 3) ls st A cells slots Φ) : WQ P l Z n0 lay own D maxL ret nm R pc ls (.int x :: st) A cells slots Φ :=
  Q_if hl ho hp (fun h => h1 (h_eq.1.mp (by rw [if0] at h; exact h))) (fun h => h2 (h_eq.2.mp (by rw [if0] at h; exact h)))
theorem Q_ifne {o : Int} {x : Int32} {pc' : Nat} (hl : D[jx]? = some (pc, .ifCond .ne o, 3)) (ho : 0 ≤ (pc : Int) + o) (hp : ((pc : Int) + o).toNat = pc') (h1 : ¬ x = 0 → WQ P l Z n0 lay own D maxL ret nm R pc' ls st A cells slots Φ)
    (h2 : x = 0 → WQ P l Z n0 lay own D maxL ret nm R (pc + 3) ls st A cells slots Φ) : WQ P l Z n0 lay own D maxL ret nm R pc ls (.int x :: st) A cells slots Φ :=
  Q_if hl ho hp (fun h => h1 (h_ne.1.mp (by rw [if0] at h; exact h))) (fun h => h2 (h_ne.2.mp (by rw [if0] at h; exact h)))
theorem Q_llt {o : Int} {x y : Int64} {pc' : Nat} (hl : D[jx]? = some (pc, .ifCond .lt o, 3)) (ho : 0 ≤ (pc : Int) + o) (hp : ((pc : Int) + o).toNat = pc') (h1 : x < y → WQ P l Z n0 lay own D maxL ret nm R pc' ls st A cells slots Φ)
    (h2 : ¬ x < y → WQ P l Z n0 lay own D maxL ret nm R (pc + 3) ls st A cells slots Φ) : WQ P l Z n0 lay own D maxL ret nm R pc ls (.int (XT.cmpL x y) :: st) A cells slots Φ := by
  by_cases q : x < y
  · exact Q_if hl ho hp (fun h => h1 q) (fun h => absurd h (by rw [XT.ll_lt_t q]; decide))
  · exact Q_if hl ho hp (fun h => absurd h (by rw [XT.ll_lt_f q]; decide)) (fun h => h2 q)
theorem Q_lge {o : Int} {x y : Int64} {pc' : Nat} (hl : D[jx]? = some (pc, .ifCond .ge o, 3)) (ho : 0 ≤ (pc : Int) + o) (hp : ((pc : Int) + o).toNat = pc') (h1 : ¬ x < y → WQ P l Z n0 lay own D maxL ret nm R pc' ls st A cells slots Φ)
    (h2 : x < y → WQ P l Z n0 lay own D maxL ret nm R (pc + 3) ls st A cells slots Φ) : WQ P l Z n0 lay own D maxL ret nm R pc ls (.int (XT.cmpL x y) :: st) A cells slots Φ := by
  by_cases q : x < y
  · exact Q_if hl ho hp (fun h => absurd h (by rw [XT.ll_ge_f q]; decide)) (fun h => h2 q)
  · exact Q_if hl ho hp (fun h => h1 q) (fun h => absurd h (by rw [XT.ll_ge_t q]; decide))
theorem Q_lgt {o : Int} {x y : Int64} {pc' : Nat} (hl : D[jx]? = some (pc, .ifCond .gt o, 3)) (ho : 0 ≤ (pc : Int) + o) (hp : ((pc : Int) + o).toNat = pc') (h1 : y < x → WQ P l Z n0 lay own D maxL ret nm R pc' ls st A cells slots Φ)
    (h2 : ¬ y < x → WQ P l Z n0 lay own D maxL ret nm R (pc + 3) ls st A cells slots Φ) : WQ P l Z n0 lay own D maxL ret nm R pc ls (.int (XT.cmpL x y) :: st) A cells slots Φ := by
  by_cases q : y < x
  · exact Q_if hl ho hp (fun h => h1 q) (fun h => absurd h (by rw [XT.ll_gt_t q]; decide))
  · exact Q_if hl ho hp (fun h => absurd h (by rw [XT.ll_gt_f q]; decide)) (fun h => h2 q)
theorem Q_lle {o : Int} {x y : Int64} {pc' : Nat} (hl : D[jx]? = some (pc, .ifCond .le o, 3)) (ho : 0 ≤ (pc : Int) + o) (hp : ((pc : Int) + o).toNat = pc') (h1 : ¬ y < x → WQ P l Z n0 lay own D maxL ret nm R pc' ls st A cells slots Φ)
    (h2 : y < x → WQ P l Z n0 lay own D maxL ret nm R (pc + 3) ls st A cells slots Φ) : WQ P l Z n0 lay own D maxL ret nm R pc ls (.int (XT.cmpL x y) :: st) A cells slots Φ := by
  by_cases q : y < x
  · exact Q_if hl ho hp (fun h => absurd h (by rw [XT.ll_le_f q]; decide)) (fun h => h2 q)
  · exact Q_if hl ho hp (fun h => h1 q) (fun h => absurd h (by rw [XT.ll_le_t q]; decide))
theorem Q_leq {o : Int} {x y : Int64} {pc' : Nat} (hl : D[jx]? = some (pc, .ifCond .eq o, 3)) (ho : 0 ≤ (pc : Int) + o) (hp : ((pc : Int) + o).toNat = pc') (h1 : x = y → WQ P l Z n0 lay own D maxL ret nm R pc' ls st A cells slots Φ)
    (h2 : ¬ x = y → WQ P l Z n0 lay own D maxL ret nm R (pc + 3) ls st A cells slots Φ) : WQ P l Z n0 lay own D maxL ret nm R pc ls (.int (XT.cmpL x y) :: st) A cells slots Φ := by
  by_cases q : x = y
  · exact Q_if hl ho hp (fun h => h1 q) (fun h => absurd h (by rw [XT.ll_eq_t q]; decide))
  · exact Q_if hl ho hp (fun h => absurd h (by rw [XT.ll_eq_f q]; decide)) (fun h => h2 q)
theorem Q_lne {o : Int} {x y : Int64} {pc' : Nat} (hl : D[jx]? = some (pc, .ifCond .ne o, 3)) (ho : 0 ≤ (pc : Int) + o) (hp : ((pc : Int) + o).toNat = pc') (h1 : ¬ x = y → WQ P l Z n0 lay own D maxL ret nm R pc' ls st A cells slots Φ)
    (h2 : x = y → WQ P l Z n0 lay own D maxL ret nm R (pc + 3) ls st A cells slots Φ) : WQ P l Z n0 lay own D maxL ret nm R pc ls (.int (XT.cmpL x y) :: st) A cells slots Φ := by
  by_cases q : x = y
  · exact Q_if hl ho hp (fun h => absurd h (by rw [XT.ll_ne_f q]; decide)) (fun h => h2 q)
  · exact Q_if hl ho hp (fun h => h1 q) (fun h => absurd h (by rw [XT.ll_ne_t q]; decide))
theorem Q_irem {x y : Int32} (hl : D[jx]? = some (pc, .irem, 1)) (hy : y ≠ 0) (h : WQ P l Z n0 lay own D maxL ret nm R (pc + 1) ls (.int (x % y) :: st) A cells slots Φ) : WQ P l Z n0 lay own D maxL ret nm R pc ls (.int y :: .int x :: st) A cells slots Φ :=
  Q_pure hl (by simp [pst, ilen, pcore, binD, hy]) h
theorem Q_lrem {x y : Int64} (hl : D[jx]? = some (pc, .lrem, 1)) (hy : y ≠ 0) (h : WQ P l Z n0 lay own D maxL ret nm R (pc + 1) ls (.long (x % y) :: st) A cells slots Φ) : WQ P l Z n0 lay own D maxL ret nm R pc ls (.long y :: .long x :: st) A cells slots Φ :=
  Q_pure hl (by simp [pst, ilen, pcore, binLD, hy]) h
theorem Q_idiv {x y : Int32} (hl : D[jx]? = some (pc, .idiv, 1)) (hy : y ≠ 0) (h : WQ P l Z n0 lay own D maxL ret nm R (pc + 1) ls (.int (x / y) :: st) A cells slots Φ) : WQ P l Z n0 lay own D maxL ret nm R pc ls (.int y :: .int x :: st) A cells slots Φ :=
  Q_pure hl (by simp [pst, ilen, pcore, binD, hy]) h
theorem Q_ldiv {x y : Int64} (hl : D[jx]? = some (pc, .ldiv, 1)) (hy : y ≠ 0) (h : WQ P l Z n0 lay own D maxL ret nm R (pc + 1) ls (.long (x / y) :: st) A cells slots Φ) : WQ P l Z n0 lay own D maxL ret nm R pc ls (.long y :: .long x :: st) A cells slots Φ :=
  Q_pure hl (by simp [pst, ilen, pcore, binLD, hy]) h
theorem Q_ldcI {idx : Nat} {v : Int32} (hl : D[jx]? = some (pc, .ldc idx, 2)) (hk : (Jvm.Cond.constant own idx v).before a0 Z = true) (h : WQ P l Z n0 lay own D maxL ret nm R (pc + 2) ls (.int v :: st) A cells slots Φ) : WQ P l Z n0 lay own D maxL ret nm R pc ls st A cells slots Φ :=
  fun p e s m args below meth c T locs r X C N H B => (h p e s m args below meth c T locs r X C N H B).back (fun t ht => X.ldcI C.1 C.2.2.1 (mvT C.2.1 hk) rfl (C.dec hl) ht) (Nat.le_refl _) (fun _ _ => rfl)
theorem Q_ldc2J {idx : Nat} {v : Int64} (hl : D[jx]? = some (pc, .ldc2_w idx, 3)) (hk : (Jvm.Cond.constantLong own idx v).before a0 Z = true) (h : WQ P l Z n0 lay own D maxL ret nm R (pc + 3) ls (.long v :: st) A cells slots Φ) : WQ P l Z n0 lay own D maxL ret nm R pc ls st A cells slots Φ :=
  fun p e s m args below meth c T locs r X C N H B => (h p e s m args below meth c T locs r X C N H B).back (fun t ht => X.ldc2J C.1 C.2.2.1 (mvT C.2.1 hk) rfl (C.dec hl) ht) (Nat.le_refl _) (fun _ _ => rfl)
theorem afterQ {rest : List Value} {pc' : Nat} {p : Program} {e : Env} {s : State} {m : MethodId} {args : Array Value} {below : List Frame} {meth : Method} {c : Code} {T' U : State} {locs L : List Loc} {r r' : Nat → Addr} {v v' : Option Value} {A' : List ACell}
    (hok : (ls.all (okS A.length) && rest.all (okV A.length)) = true) (q : (∀ i, i < A.length → r' i = r i) ∧ A.length ≤ A'.length)
    (h : WQ P l Z n0 lay own D maxL ret nm R pc' ls (v'.toList ++ rest) A' cells slots Φ) (X : Stand p l e R s m args below meth c T' (locs ++ L) cells slots) (C' : Cx Z own D maxL ret nm p s m meth c) (N : Fr n0 locs) (N' : Fr n0 L) (H : Hp Z lay n0 r' T'.heap A') (B : P s)
    (hv : v = v'.map (cv r')) (hst : ∀ t, Steps p.tables e below (T'.setTop (mkF m pc' (cl r ls) (v.toList ++ ct r rest))) t → Steps p.tables e below U t) : Fin true Z n0 lay R Φ A.length r p e below s U := by
  simp only [Bool.and_eq_true] at hok
  refine (h p e s m args below meth c T' _ r' X C' (N.app N') H B).back (fun t ht => hst t ?_) q.2 q.1
  have e1 : ct r' (v'.toList ++ rest) = v.toList ++ ct r rest := by
    rw [hv, ← ct_ag q.1 hok.2]
    simp only [ct, List.map_append]
    cases v' <;> rfl
  rw [cl_ag q.1 hok.1, e1] at ht
  exact ht
theorem Q_callS {y : MethodName} {idx : Nat} {code : ByteArray} {mL : Nat} {rt : Option FieldType} {Rc : Room} {ps : List FieldType} {rr : Option FieldType} {Ψ : Option Value → List ACell → Prop} (as rest : List Value) (hM : MT false l Z n0 lay y code mL rt [] Rc as A Ψ) (hl : D[jx]? = some (pc, .invokestatic idx, 3))
    (w1 : (Jvm.Cond.methodLink own idx y).before a0 Z = true) (w2 : (Jvm.Cond.static y).before a0 Z = true) (w3 : (Jvm.Cond.initialized y.cls).before a0 Z = true) (w4 : (Jvm.Cond.code y code mL rt).before a0 Z = true) (hy : y.cls ≠ "java/lang/invoke/MethodHandle" ∧ y.cls ≠ "java/lang/invoke/VarHandle")
    (hpd : parseMethodDescriptor y.desc = some ⟨ps, rr⟩) (hlen : as.length = ps.length) (hst : st = as.reverse ++ rest) (hsz : ls.length = maxL) (hf : Rc.frames + 1 ≤ R.frames) (hlo : (catS rest + (mL + 11) + Rc.locals).ble R.locals = true) (hc : cells + Rc.cells ≤ R.cells) (hs : slots + Rc.slots ≤ R.slots)
    (hok : (ls.all (okS A.length) && rest.all (okV A.length)) = true) (h : ∀ v B, Ψ v B → WQ P l Z n0 lay own D maxL ret nm R (pc + 3) ls (v.toList ++ rest) B (cells + Rc.cells) (slots + Rc.slots) Φ) : WQ P l Z n0 lay own D maxL ret nm R pc ls st A cells slots Φ :=
  fun p e s m args below meth c T locs r X C' N H B => by
    subst hst
    have hsz' : (cl r ls).size = c.maxLocals := by rw [cl_size, hsz, C'.2.2.2.2.2.2.1]
    have hW : 2 * 0 + ((ct r rest).map fun v => v.category).sum ≤ catS rest := by rw [ct_cat]; omega
    have hlen' : (ct r as).length = ps.length := by simpa [ct] using hlen
    obtain ⟨v, vm₁, ⟨T', L', k', n'⟩, -, X', ⟨Lc, hQ, l1, y1, z1⟩, sp⟩ := Jvm.LawKit.callS X C'.1 (y := y) C'.2.2.1 (mvT C'.2.1 w1) (mvT C'.2.1 w2) (mvT C'.2.1 w3) (mvT C'.2.1 w4) hy (backOf (W := catS rest) (Q := QC Z lay n0 r A.length Ψ) (hM.nar r T.heap H) C'.2.1 w4 w3 hf (Nat.le_of_ble_eq_true hlo))
        (g := mkF m pc (cl r ls) (ct r (as.reverse ++ rest))) rfl hsz' (argsL := ct r as) (rest := ct r rest) (lenOf hpd hlen') stk hW (C'.dec hl) (fun _ _ => ⟨rfl, rfl, hc, hs⟩)
    dsimp only [Pt.U, Pt.locs, Pt.cells, Pt.slots] at X' l1 y1 z1 sp hQ
    subst l1 y1 z1
    obtain ⟨N', v', A', r', hv, H', q, hP⟩ := hQ
    exact afterQ hok q (h v' A' hP) X' C' N N' H' B hv sp
theorem Q_enter {y : MethodName} {code : ByteArray} {ws : List Jvm.Cond} {as : List Value} (hpn : plainFor y = true) (hD : ∀ q ∈ D, decode code q.1 = .ok q.2) (h : WQ (fun s => s = Z) l Z n0 lay y.cls D maxL ret y.name R 0 (entL as maxL) [] A 0 0 Φ) (r : Nat → Addr) (HP : Hp Z lay n0 r Z.heap A) :
    MetFree l y (head1 (Jvm.Cond.code y code maxL ret :: ws) R) (fun a U => a = (ct r as).toArray ∧ U = Z) (fun _ _ _ _ _ => True)
      (fun _ U o U' => ∃ v L, o = .returned v ∧ QC Z lay n0 r A.length Φ v U'.heap L ∧ EndK true U o U' L R.cells R.slots) := by
  refine MetFree.of_bodySF hpn hisR ?_
  intro p e s m args below meth c s₁ Bd hml hP hK
  obtain ⟨rfl, rfl⟩ := hP
  have X0 : Stand p l e R s m _ below meth c s₁ [] 0 0 := Stand.of_body Bd
  have e0 : s₁.heap = s.heap := by rw [Bd.state]; rfl
  have hby := Bd.bytes
  have C0 : Cx s y.cls D maxL ret y.name p s m meth c := ⟨Bd.exec, State.Warmed39.refl s, findClass_of_methodNamed Bd.named, Bd.returns, Bd.notSynchronized, fun q hq => hb hby (hD q hq), hml, (name_of_methodNamed Bd.named Bd.method).1⟩
  obtain ⟨s₂, v, L, A', r', h1, h2, h3, h4, h5, h6, h7, h8⟩ := h p e s m _ below meth c s₁ [] r X0 C0 (Fr.nil n0) (e0 ▸ HP) rfl
  have hE : entryFrame m (ct r as).toArray maxL = mkF m 0 (cl r (entL as maxL)) (ct r []) := by unfold entryFrame; rw [ent_ok]; rfl
  exact ⟨s₂, _, castTop hE h1, h2, h3, _, L, rfl, ⟨h5, v, A', r', rfl, h6, h7, h8⟩, h4⟩
end RulesQ
end Jvm.OwnKit
/- laws to paste: Road.chN, Road.codOf (cut by pick.py; bodies as the Statement names them) -/
namespace Jvm.Pilot.@@N@@
namespace StrChars
open Jvm Sem ClassFile Op Lib Jvm.Stand Jvm.Free.XT Jvm.Free.ALB Jvm.Free.JM Jvm.Free
open Jvm.Lib.Cold (StaticIs)
def lo8 (x : Int32) : Int32 := x.toInt8.toInt32
theorem lo8_mask {x : Int32} (h0 : ¬ x < 0) (h1 : ¬ 255 < x) : lo8 x &&& 255 = x := by
  have t : ∀ k : Fin 256, lo8 (Int32.ofNat k.val) &&& 255 = Int32.ofNat k.val := by decide +kernel
  rw [Int32.lt_iff_toInt_lt] at h0 h1
  have e0 : (0 : Int32).toInt = 0 := rfl
  have e1 : (255 : Int32).toInt = 255 := rfl
  obtain ⟨k, hk⟩ : ∃ k : Nat, x.toInt = k := ⟨x.toInt.toNat, by omega⟩
  have hx : x = Int32.ofNat k := Int32.toInt_inj.mp (by rw [hk, Int32.toInt_ofNat_small (by omega)])
  rw [hx]
  exact t ⟨k, by omega⟩
end StrChars
namespace StrChars.Road
open Jvm Sem ClassFile Op Lib Jvm.Stand Jvm.Free Jvm.Free.XT
open Jvm.Lib.Cold (StaticIs)
abbrev ST : String := "java/lang/String"
end StrChars.Road
namespace StrChars
open Jvm Sem ClassFile Op Lib Jvm.Stand Jvm.Free.XT Jvm.Free.ALB Jvm.Free.JM Jvm.Free
open Jvm.Lib.Cold (StaticIs)
def hi8 (x : Int32) : Int32 := lo8 (x >>> ((8 : Int32) &&& 31))
def pairCh (u v : Int32) : Int32 := (((u &&& 255) <<< ((0 : Int32) &&& 31)) ||| ((v &&& 255) <<< ((8 : Int32) &&& 31))).toUInt32.toUInt16.toUInt32.toInt32
theorem lo8_and (x : Int32) : (lo8 x &&& 255).toBitVec.toNat = x.toBitVec.toNat % 256 := by
  have h : (lo8 x).toBitVec = (x.toBitVec.signExtend 8).signExtend 32 := by rw [lo8, Int8.toBitVec_toInt32, Int32.toBitVec_toInt8]
  rw [Int32.toBitVec_and, BitVec.toNat_and, h]
  have e : ((x.toBitVec.signExtend 8).signExtend 32).toNat % 256 = x.toBitVec.toNat % 256 := by
    rw [BitVec.toNat_signExtend]
    have hlt := x.toBitVec.isLt
    simp only [BitVec.toNat_setWidth, BitVec.toNat_signExtend]
    split <;> split <;> omega
  rw [← e]
  exact Nat.and_two_pow_sub_one_eq_mod _ 8
theorem pair_says {c : Int32} (h0 : ¬ c < 0) (h1 : ¬ 65535 < c) : pairCh (lo8 c) (hi8 c) = c := by
  rw [Int32.lt_iff_toInt_lt] at h0 h1
  have e0 : (0 : Int32).toInt = 0 := rfl
  have e1 : (65535 : Int32).toInt = 65535 := rfl
  have hc : c.toInt = c.toBitVec.toNat := by
    have := c.toBitVec.isLt
    have e : c.toInt = c.toBitVec.toInt := rfl
    rw [e] at h0 h1
    rw [e]
    rw [BitVec.toInt_eq_toNat_cond] at h0 h1 ⊢
    split at h0 <;> split <;> omega
  have hn : c.toBitVec.toNat < 65536 := by omega
  have a1 := lo8_and c
  have a2 : (hi8 c &&& 255).toBitVec.toNat = c.toBitVec.toNat / 256 := by
    rw [hi8, lo8_and]
    have e : ((8 : Int32) &&& 31) = 8 := by decide
    rw [e, Int32.toBitVec_shiftRight]
    have e2 : ((8 : Int32).toBitVec.smod 32) = 8#32 := by decide
    rw [e2, BitVec.sshiftRight_eq', BitVec.toNat_sshiftRight_of_msb_false (by rw [BitVec.msb_eq_false_iff_two_mul_lt]; omega)]
    show c.toBitVec.toNat >>> 8 % 256 = _
    rw [Nat.shiftRight_eq_div_pow]
    omega
  unfold pairCh
  apply Int32.toBitVec_inj.mp
  apply BitVec.eq_of_toNat_eq
  have f0 : ((0 : Int32) &&& 31) = 0 := by decide
  have f8 : ((8 : Int32) &&& 31) = 8 := by decide
  rw [f0, f8]
  have g : (((lo8 c &&& 255) <<< (0 : Int32)) ||| ((hi8 c &&& 255) <<< (8 : Int32))).toBitVec.toNat = c.toBitVec.toNat := by
    rw [Int32.toBitVec_or, Int32.toBitVec_shiftLeft, Int32.toBitVec_shiftLeft]
    have s0 : ((0 : Int32).toBitVec.smod 32) = 0#32 := by decide
    have s8 : ((8 : Int32).toBitVec.smod 32) = 8#32 := by decide
    rw [s0, s8, BitVec.toNat_or]
    simp only [BitVec.shiftLeft_eq', BitVec.toNat_shiftLeft, a1, a2]
    show (c.toBitVec.toNat % 256) <<< 0 % 2 ^ 32 ||| (c.toBitVec.toNat / 256) <<< 8 % 2 ^ 32 = _
    rw [Nat.shiftLeft_zero, Nat.mod_eq_of_lt (show c.toBitVec.toNat % 256 < 2 ^ 32 by omega), Nat.mod_eq_of_lt (show (c.toBitVec.toNat / 256) <<< 8 < 2 ^ 32 by rw [Nat.shiftLeft_eq]; omega), Nat.or_comm, ← Nat.shiftLeft_add_eq_or_of_lt (by omega), Nat.shiftLeft_eq]
    omega
  show BitVec.toNat (((((lo8 c &&& 255) <<< (0 : Int32)) ||| ((hi8 c &&& 255) <<< (8 : Int32))).toBitVec.setWidth 16).setWidth 32) = _
  rw [BitVec.toNat_setWidth, BitVec.toNat_setWidth, g]
  omega
end StrChars
namespace StrChars
open Jvm Sem ClassFile Op Lib Jvm.Stand Jvm.Free.XT Jvm.Free.ALB Jvm.Free.JM Jvm.Free
open Jvm.Lib.Cold (StaticIs)
def chr8 (u : Int32) : Int32 := (u &&& 255).toUInt32.toUInt16.toUInt32.toInt32
theorem chr8_lo8 {c : Int32} (h0 : ¬ c < 0) (h1 : ¬ 255 < c) : chr8 (lo8 c) = c := by
  have t : ∀ k : Fin 256, (Int32.ofNat k.val).toUInt32.toUInt16.toUInt32.toInt32 = Int32.ofNat k.val := by decide +kernel
  unfold chr8
  rw [lo8_mask h0 h1]
  rw [Int32.lt_iff_toInt_lt] at h0 h1
  have e0 : (0 : Int32).toInt = 0 := rfl
  have e1 : (255 : Int32).toInt = 255 := rfl
  obtain ⟨k, hk⟩ : ∃ k : Nat, c.toInt = k := ⟨c.toInt.toNat, by omega⟩
  have hx : c = Int32.ofNat k := Int32.toInt_inj.mp (by rw [hk, Int32.toInt_ofNat_small (by omega)])
  rw [hx]
  exact t ⟨k, by omega⟩
theorem narrow_ch {c : Int32} (h0 : ¬ c < 0) (h1 : ¬ 65535 < c) : narrow .char (.int c) = .int c := by
  have q : narrow .char (.int (pairCh (lo8 c) (hi8 c))) = .int (pairCh (lo8 c) (hi8 c)) := narrow_c _
  rwa [pair_says h0 h1] at q
def Cod (cd : Int32) (n : Nat) (f : Nat → Int32) (V : Cell) : Prop := (cd = 0 ∧ V.slots.size = n ∧ ∀ j, j < n → V.slots[j]? = some (.int (lo8 (f j))) ∧ ¬ 255 < f j) ∨ (cd = 1 ∧ V.slots.size = 2 * n ∧ (∀ j, j < n → V.slots[2 * j]? = some (.int (lo8 (f j))) ∧ V.slots[2 * j + 1]? = some (.int (hi8 (f j)))) ∧ ∃ j, j < n ∧ 255 < f j)
theorem Cod.cd {cd : Int32} {n : Nat} {f : Nat → Int32} {V : Cell} (h : Cod cd n f V) : cd = 0 ∨ cd = 1 := h.imp (fun q => q.1) fun q => q.1
def Txt (x t : Addr) (V : Cell) (cd : Int32) (n : Nat) (f : Nat → Int32) (U : State) : Prop := Exact "java/lang/String" x U ∧ Has x "java/lang/String" "value" "[B" (.ref t) U ∧ Has x "java/lang/String" "coder" "B" (.int cd) U ∧ XT.Arr .byte t V U ∧ Cod cd n f V ∧ ∀ j, j < n → ¬ f j < 0 ∧ ¬ 65535 < f j
theorem Txt.mv {x t : Addr} {V : Cell} {cd : Int32} {n : Nat} {f : Nat → Int32} {U U' : State} (h : Txt x t V cd n f U) (hal : U.vm.Alike U'.vm) (hh : U'.heap = U.heap) : Txt x t V cd n f U' := ⟨h.1.mv hal hh, h.2.1.mv hal hh, h.2.2.1.mv hal hh, h.2.2.2.1.mv hal hh, h.2.2.2.2⟩
namespace IsL
def yN : MethodName := ⟨"java/lang/String", "isLatin1", "()Z"⟩
abbrev yB : ByteArray := jdk_42_method_154_code
theorem d0 : decode yB 0 = .ok (.getstatic 38, 3) := by decide +kernel
theorem d3 : decode yB 3 = .ok (.ifCond (.eq) 14, 3) := by decide +kernel
theorem d6 : decode yB 6 = .ok (.aload_n 0, 1) := by decide +kernel
theorem d7 : decode yB 7 = .ok (.getfield 15, 3) := by decide +kernel
theorem d10 : decode yB 10 = .ok (.ifCond (.ne) 7, 3) := by decide +kernel
theorem d13 : decode yB 13 = .ok (.iconst 1, 1) := by decide +kernel
theorem d14 : decode yB 14 = .ok (.goto 4, 3) := by decide +kernel
theorem d17 : decode yB 17 = .ok (.iconst 0, 1) := by decide +kernel
theorem d18 : decode yB 18 = .ok (.ireturn, 1) := by decide +kernel
def site : List Cond := [.fieldLink "java/lang/String" 38 "java/lang/String" "COMPACT_STRINGS" "Z", .fieldLink "java/lang/String" 15 "java/lang/String" "coder" "B"]
def tab : Cond := tabOf yN yB 1 (some .boolean) site
def P (x : Addr) (cd z : Int32) (args : Array Value) (s : State) : Prop := args = #[.ref x] ∧ Has x "java/lang/String" "coder" "B" (.int cd) s ∧ (cd = 0 ∨ cd = 1) ∧ StaticIs s "java/lang/String" "COMPACT_STRINGS" "Z" (.int z) ∧ ¬ z = 0
def E (cd : Int32) (r : Option Value) (s u : State) : Prop := XT.PureE (some (.int (1 - cd))) r s u
theorem law (l : Launch) (x : Addr) (cd z : Int32) : Law l yN 1 0 0 0 yB 1 (some .boolean) site (P x cd z) (E cd) [] 0 0 := by
  refine Law.of_walk (plainFor_of_name (by decide +kernel)) (by decide +kernel) (by decide +kernel) (by decide) (fun _ _ h => by rw [h.1]; rfl) (fun _ U U' hal hh h => ⟨h.1, h.2.1.mv hal hh, h.2.2.1, h.2.2.2.1.there hal hh, h.2.2.2.2⟩) (fun r U U' V V' h1 hal h2 h => XT.PureE.mv r U U' V V' h1 hal h2 h) ?_
  intro p e s m args below meth c s₁ X0 hexec hbytes hml hret hlk hnm hown hh0 W hP
  obtain ⟨rfl, hx, hc, s1, hz⟩ := hP
  have c1 : Steps p.tables e below (s₁.setTop (entryFrame m #[.ref x] 1)) (s₁.setTop (mkF m 0 #[.val (.ref x)] [])) := entry rfl
  obtain ⟨T2, X2, q2, st2⟩ := X0.sget hexec hown (wk W (.fieldLink "java/lang/String" 38 "java/lang/String" "COMPACT_STRINGS" "Z")) s1 (fun _ _ h => by rw [hh0]; exact h) (g := (mkF m 0 #[.val (.ref x)] [])) rfl (hb hbytes d0)
  have hh2 := q2.trans hh0
  have c3 : Steps p.tables e below (s₁.setTop (entryFrame m #[.ref x] 1)) (T2.setTop (mkF m 7 #[.val (.ref x)] [.ref x])) := (c1.trans (st2 _ (Steps.refl _))).trans (by
    refine XS.ifNo X2.here hexec rfl (hb hbytes d3) rfl (i0_eq_f hz) ?_
    refine XS.aloadN X2.here hexec rfl (hb hbytes d6) rfl rfl ?_
    exact Steps.refl _)
  obtain ⟨T4, X4, q4, st4⟩ := X2.hget hexec hown (wk W (.fieldLink "java/lang/String" 15 "java/lang/String" "coder" "B")) (hx.mv X2.warmed.alike hh2) (g := (mkF m 7 #[.val (.ref x)] [.ref x])) rfl (rest := []) rfl (hb hbytes d7)
  have c5 : Steps p.tables e below (s₁.setTop (entryFrame m #[.ref x] 1)) (T4.setTop (mkF m 10 #[.val (.ref x)] [.int cd])) := c3.trans (st4 _ (Steps.refl _))
  have c6 : Steps p.tables e below (s₁.setTop (entryFrame m #[.ref x] 1)) (T4.setTop (mkF m 18 #[.val (.ref x)] [.int (1 - cd)])) := by
    rcases hc with rfl | rfl
    · exact c5.trans (by
        refine XS.ifNo X4.here hexec rfl (hb hbytes d10) rfl (i0_ne_f rfl) ?_
        refine iconstV X4.here hexec rfl 1 (hb hbytes d13) (by decide) ?_
        refine XS.goto X4.here hexec rfl (pc0 := 14) rfl (hb hbytes d14) (by decide) rfl ?_
        exact Steps.refl _)
    · exact c5.trans (by
        refine XS.ifYes X4.here hexec rfl (pc0 := 10) rfl (hb hbytes d10) rfl (i0_ne_t (by decide)) (by decide) rfl ?_
        refine iconstV X4.here hexec rfl 0 (hb hbytes d17) (by decide) ?_
        exact Steps.refl _)
  exact ⟨T4, some (.int (1 - cd)), _, _, _, X4, rfl, rfl, rfl, (fun h => by cases h), ⟨rfl, q4.trans hh2⟩, fun fs hl => c6.trans (X4.ireturnOut hexec hret (by rcases hc with rfl | rfl <;> rfl) (Or.inr (Or.inl rfl)) (hb hbytes d18) hl)⟩
end IsL
namespace LChA
def yN : MethodName := ⟨"java/lang/StringLatin1", "charAt", "([BI)C"⟩
abbrev yB : ByteArray := jdk_43_method_2_code
theorem d0 : decode yB 0 = .ok (.iload_n 1, 1) := by decide +kernel
theorem d1 : decode yB 1 = .ok (.aload_n 0, 1) := by decide +kernel
theorem d2 : decode yB 2 = .ok (.arraylength, 1) := by decide +kernel
theorem d3 : decode yB 3 = .ok (.invokestatic 9, 3) := by decide +kernel
theorem d6 : decode yB 6 = .ok (.aload_n 0, 1) := by decide +kernel
theorem d7 : decode yB 7 = .ok (.iload_n 1, 1) := by decide +kernel
theorem d8 : decode yB 8 = .ok (.baload, 1) := by decide +kernel
theorem d9 : decode yB 9 = .ok (.sipush 255, 3) := by decide +kernel
theorem d12 : decode yB 12 = .ok (.iand, 1) := by decide +kernel
theorem d13 : decode yB 13 = .ok (.i2c, 1) := by decide +kernel
theorem d14 : decode yB 14 = .ok (.ireturn, 1) := by decide +kernel
def site : List Cond := [JO.Str_checkIndex.tab] ++ staticW "java/lang/StringLatin1" 9 JO.Str_checkIndex.yN
def tab : Cond := tabOf yN yB 2 (some .char) site
def P (t : Addr) (V : Cell) (i : Nat) (u : Int32) (fm : Value) (args : Array Value) (s : State) : Prop := args = #[.ref t, .int (Int32.ofNat i)] ∧ XT.Arr .byte t V s ∧ V.slots[i]? = some (.int u) ∧ (StaticIs s "jdk/internal/util/Preconditions" "SIOOBE_FORMATTER" "Ljava/util/function/BiFunction;" fm ∧ fm.isRef = true)
def E (u : Int32) (r : Option Value) (s w : State) : Prop := XT.PureE (some (.int (chr8 u))) r s w
theorem law (l : Launch) (t : Addr) (V : Cell) (i : Nat) (u : Int32) (fm : Value) : Law l yN 2 2 2 27 yB 2 (some .char) site (P t V i u fm) (E u) [] 0 0 := by
  refine Law.of_walk (plainFor_of_name (by decide +kernel)) (by decide +kernel) (by decide +kernel) (by decide) (fun _ _ h => by rw [h.1]; rfl) (fun _ U U' hal hh h => ⟨h.1, h.2.1.mv hal hh, h.2.2.1, h.2.2.2.1.there hal hh, h.2.2.2.2⟩) (fun r U U' V V' h1 hal h2 h => XT.PureE.mv r U U' V V' h1 hal h2 h) ?_
  intro p e s m args below meth c s₁ X0 hexec hbytes hml hret hlk hnm hown hh0 W hP
  obtain ⟨rfl, hV, hu, s1, rf⟩ := hP
  have v31 := hV.2.2.2
  have hi : i < V.slots.size := (Array.getElem?_eq_some_iff.mp hu).1
  have c1 : Steps p.tables e below (s₁.setTop (entryFrame m #[.ref t, .int (Int32.ofNat i)] 2)) (s₁.setTop (mkF m 0 #[.val (.ref t), .val (.int (Int32.ofNat i))] [])) := entry rfl
  have c2 : Steps p.tables e below (s₁.setTop (entryFrame m #[.ref t, .int (Int32.ofNat i)] 2)) (s₁.setTop (mkF m 3 #[.val (.ref t), .val (.int (Int32.ofNat i))] [.int (Int32.ofNat V.slots.size), .int (Int32.ofNat i)])) := c1.trans (by
    refine XS.iloadN X0.here hexec rfl (hb hbytes d0) rfl ?_
    refine XS.aloadN X0.here hexec rfl (hb hbytes d1) rfl rfl ?_
    refine X0.alen hexec (hV.mv X0.warmed.alike hh0) rfl rfl (hb hbytes d2) ?_
    exact Steps.refl _)
  obtain ⟨v3, T3, X3, E3, g3⟩ := X0.callS hexec (JO.Str_checkIndex.law l (Int32.ofNat i) (Int32.ofNat V.slots.size) fm) hown (wks W (staticW "java/lang/StringLatin1" 9 JO.Str_checkIndex.yN)) (wk W JO.Str_checkIndex.tab) (W := 0) (Nat.le_of_ble_eq_true rfl) (Nat.le_of_ble_eq_true rfl) (Nat.le_refl _) (Nat.le_refl _) (g := (mkF m 3 #[.val (.ref t), .val (.int (Int32.ofNat i))] [.int (Int32.ofNat V.slots.size), .int (Int32.ofNat i)])) rfl (by rw [hml]; rfl) c2 (argsL := [.int (Int32.ofNat i), .int (Int32.ofNat V.slots.size)]) (rest := []) rfl rfl (by show 2 * 0 + 0 ≤ _; decide) (hb hbytes d3) (⟨rfl, rf, s1.there X0.warmed.alike hh0, Int32.ofNat_not_neg (by omega), lt32 v31 hi⟩)
  obtain ⟨rfl, q3⟩ := E3
  have hh3 := q3.trans hh0
  have c4 : Steps p.tables e below (s₁.setTop (entryFrame m #[.ref t, .int (Int32.ofNat i)] 2)) (T3.setTop (mkF m 14 #[.val (.ref t), .val (.int (Int32.ofNat i))] [.int (chr8 u)])) := Steps.trans g3 (by
    refine XS.aloadN X3.here hexec rfl (hb hbytes d6) rfl rfl ?_
    refine XS.iloadN X3.here hexec rfl (hb hbytes d7) rfl ?_
    refine X3.aget hexec (hV.mv X3.warmed.alike hh3) rfl hu rfl rfl (hb hbytes d8) ?_
    refine sipushV X3.here hexec rfl 255 (hb hbytes d9) (by decide) ?_
    refine XS.iand X3.here hexec rfl (hb hbytes d12) rfl ?_
    refine i2c X3.here hexec rfl (hb hbytes d13) rfl ?_
    exact Steps.refl _)
  exact ⟨T3, some (.int (chr8 u)), _, _, _, X3, rfl, rfl, rfl, (fun h => by cases h), ⟨rfl, hh3⟩, fun fs hl => c4.trans (X3.ireturnOut hexec hret (narrow_c _) (Or.inr (Or.inr (Or.inr (Or.inl rfl)))) (hb hbytes d14) hl)⟩
end LChA
end StrChars
namespace StrChars.Road
open Jvm Sem ClassFile Op Lib Jvm.Stand Jvm.Free Jvm.Free.XT
open Jvm.Lib.Cold (StaticIs)
theorem consq {a : Array Value} {s : State} {c : Jvm.Cond} {L : List Jvm.Cond} (h0 : c.before a s = true) (h : ∀ w ∈ L, w.before a s = true) : ∀ w ∈ c :: L, w.before a s = true := fun w hw => (List.mem_cons.mp hw).elim (fun e => e ▸ h0) (h w)
def wideBytes : List Int32 → List Value
  | [] => []
  | c :: cs => .int (lo8 c) :: .int (hi8 c) :: wideBytes cs
theorem wide_lo (d : Value) : ∀ (cs : List Int32) (j : Nat), j < cs.length → (wideBytes cs).getD (2 * j) d = .int (lo8 (cs.getD j 0))
  | [], j, h => absurd h (Nat.not_lt_zero j)
  | c :: cs, 0, _ => rfl
  | c :: cs, j + 1, h => by
    have q := wide_lo d cs j (by simpa using h)
    rw [show 2 * (j + 1) = 2 * j + 1 + 1 from by omega]
    simpa [wideBytes] using q
theorem wide_hi (d : Value) : ∀ (cs : List Int32) (j : Nat), j < cs.length → (wideBytes cs).getD (2 * j + 1) d = .int (hi8 (cs.getD j 0))
  | [], j, h => absurd h (Nat.not_lt_zero j)
  | c :: cs, 0, _ => rfl
  | c :: cs, j + 1, h => by
    have q := wide_hi d cs j (by simpa using h)
    rw [show 2 * (j + 1) + 1 = 2 * j + 1 + 1 + 1 from by omega]
    simpa [wideBytes] using q
theorem low_at (d : Value) (cs : List Int32) (j : Nat) (h : j < cs.length) : (cs.map fun c => Value.int (lo8 c)).getD j d = .int (lo8 (cs.getD j 0)) := by
  simp [List.getD_eq_getElem?_getD, h]
def CodA (cs : List Int32) (cd N2 : Int32) (vs : List Value) : Prop := (cd = 0 ∧ N2 = Int32.ofNat cs.length ∧ vs = (cs.map fun c => Value.int (lo8 c)) ∧ ∀ c ∈ cs, ¬ 255 < c) ∨ (cd = 1 ∧ N2 = Int32.ofNat (2 * cs.length) ∧ vs = wideBytes cs ∧ ∃ c ∈ cs, 255 < c)
theorem CodA.cod {cs : List Int32} {cd N2 : Int32} {vs : List Value} {V : Cell} (h : CodA cs cd N2 vs) (hn : 2 * cs.length < 2 ^ 31) (hs : V.slots.size = N2.toNatClampNeg) (hv : RoadKit.Has V vs (.int 0)) : Cod cd cs.length (fun j => cs.getD j 0) V := by
  rcases h with ⟨rfl, rfl, rfl, h⟩ | ⟨rfl, rfl, rfl, c, hc, hw⟩
  · rw [n32 (by omega)] at hs
    exact Or.inl ⟨rfl, hs, fun j hj => ⟨by rw [hv j (by omega), low_at _ _ _ hj], by
      have e : cs.getD j 0 = cs[j] := by simp [List.getD_eq_getElem?_getD, hj]
      show ¬ 255 < cs.getD j 0
      rw [e]; exact h _ (List.getElem_mem _)⟩⟩
  · rw [n32 (by omega)] at hs
    obtain ⟨j, hj, rfl⟩ := List.getElem_of_mem hc
    exact Or.inr ⟨rfl, hs, fun j hj => ⟨by rw [hv _ (by omega), wide_lo _ _ _ hj], by rw [hv _ (by omega), wide_hi _ _ _ hj]⟩, j, hj, by
      have e : cs.getD j 0 = cs[j] := by simp [List.getD_eq_getElem?_getD, hj]
      show 255 < cs.getD j 0
      rw [e]; exact hw⟩
theorem strObj {Z U : State} {a0 : Array Value} {kI : Nat} (wi : (Jvm.Cond.instantiable ST kI).before a0 Z = true) (al : Z.vm.Alike U.vm) {x : Addr} {v0 c0 : Value} (E : RoadKit.Exa Z U.heap x ST) (V : RoadKit.Fld Z U.heap x ST "value" "[B" v0) (C : RoadKit.Fld Z U.heap x ST "coder" "B" c0) :
    ∃ (D : Cell) (fV fC : Field), Blank ST x D U ∧ Found ST "value" "[B" fV U ∧ Found ST "coder" "B" fC U ∧ D.slots[fV.slot]? = some v0 ∧ D.slots[fC.slot]? = some c0 ∧ RoadKit.slotOf Z ST "value" "[B" = fV.slot ∧ RoadKit.slotOf Z ST "coder" "B" = fC.slot := by
  obtain ⟨D, cfV, kV, iV, fV, hD, gV, stV, knV, obV, asV, slV⟩ := V
  obtain ⟨D', cfC, kC, iC, fC, hD', gC, stC, -, -, asC, slC⟩ := C
  cases hD.symm.trans hD'
  obtain ⟨D2, kD, e1, e2, e3, e4, e5⟩ := E
  cases hD.symm.trans e1
  obtain ⟨c2, k2, i1, i2, i3, -⟩ := Cond.instantiable_spec wi
  cases e2.symm.trans i1
  cases e3.symm.trans i2
  obtain ⟨kU, u1, u2⟩ := al.2.2 _ _ e3
  exact ⟨D, fV, fC, ⟨hD, ⟨knV, fun q hq => by rw [hq] at obV; cases obV⟩, by rw [al.findClass]; exact e2, kU, u1, by rw [u2]; exact i3, by rw [u2]; exact e5 i3⟩, ⟨SBG.found_only al ⟨cfV, kV, iV, gV⟩, stV⟩, ⟨SBG.found_only al ⟨cfC, kC, iC, gC⟩, stC⟩, slV, slC, by simp [RoadKit.slotOf, gV], by simp [RoadKit.slotOf, gC]⟩
theorem sta_is {Z U : State} (al : Z.vm.Alike U.vm) {C n d : String} {v : Value} (S : RoadKit.Sta Z U.heap C n d v) : StaticIs U C n d v := by
  obtain ⟨cfS, iS, kS, fS, st, cS, t1, t2, t3, t4, t5, t6, t7⟩ := S
  exact StaticIs.there (s := { Z with heap := U.heap }) ⟨cfS, iS, kS, fS, st, cS, t1, t2, t3, t4, t5, (fun q => by rw [q] at t6; cases t6), t7⟩ al rfl
end StrChars.Road
namespace StrChars.Road
open Jvm Sem ClassFile Op Lib Jvm.Stand Jvm.Free Jvm.Free.XT
open Jvm.Lib.Cold (StaticIs)
theorem txt_of {Z U : State} {a0 : Array Value} {kI : Nat} (wi : (Jvm.Cond.instantiable ST kI).before a0 Z = true) (al : Z.vm.Alike U.vm) {x t : Addr} {kb : ClassId} {cs : List Int32} {cd N2 : Int32} {vs : List Value} (E : RoadKit.Exa Z U.heap x ST) (V : RoadKit.Fld Z U.heap x ST "value" "[B" (.ref t)) (C : RoadKit.Fld Z U.heap x ST "coder" "B" (.int cd)) (K : RoadKit.Arv Z U.heap t kb .byte N2 vs (.int 0)) (hc : CodA cs cd N2 vs) (hb : ∀ c ∈ cs, ¬ c < 0 ∧ ¬ (65535 : Int32) < c) (l2 : cs.length ≤ 4000) :
    ∃ A, Txt x t A cd cs.length (fun j => cs.getD j 0) U := by
  obtain ⟨A, K1, K2, K3, K4, K5, K6⟩ := K
  have hcod := hc.cod (by omega) K3 K5
  obtain ⟨D, fV, fC, hB, F1, F2, g1, g2, -, -⟩ := strObj wi al E V C
  exact ⟨A, ⟨_, hB.2.2.1, D, hB.1, rfl, by cases q : D.vm <;> first | rfl | exact absurd q (hB.2.1.2 _)⟩, Has.of hB F1 g1, Has.of hB F2 g2, ⟨K1.1, State.isArrayOf_alike al K1.2.1, K1.2.2, by rcases hcod with ⟨-, q, -⟩ | ⟨-, q, -⟩ <;> omega⟩, hcod, fun j hj => by
    have e : cs.getD j 0 = cs[j] := by simp [List.getD_eq_getElem?_getD, hj]
    show ¬ cs.getD j 0 < 0 ∧ ¬ 65535 < cs.getD j 0
    rw [e]; exact hb _ (List.getElem_mem _)⟩
end StrChars.Road
namespace StrChars
open Jvm Sem ClassFile Op Lib Jvm.Stand Jvm.Free.XT Jvm.Free.ALB Jvm.Free.JM Jvm.Free
open Jvm.Lib.Cold (StaticIs)
namespace ChN
def yN : MethodName := ⟨"java/lang/String", "charAt", "(I)C"⟩
abbrev yB : ByteArray := jdk_42_method_56_code
theorem d0 : decode yB 0 = .ok (.aload_n 0, 1) := by decide +kernel
theorem d1 : decode yB 1 = .ok (.invokevirtual 492, 3) := by decide +kernel
theorem d4 : decode yB 4 = .ok (.ifCond (.eq) 12, 3) := by decide +kernel
theorem d7 : decode yB 7 = .ok (.aload_n 0, 1) := by decide +kernel
theorem d8 : decode yB 8 = .ok (.getfield 9, 3) := by decide +kernel
theorem d11 : decode yB 11 = .ok (.iload_n 1, 1) := by decide +kernel
theorem d12 : decode yB 12 = .ok (.invokestatic 495, 3) := by decide +kernel
theorem d15 : decode yB 15 = .ok (.ireturn, 1) := by decide +kernel
def site : List Cond := [.fieldLink "java/lang/String" 9 "java/lang/String" "value" "[B", IsL.tab, LChA.tab] ++ virtW "java/lang/String" 492 "java/lang/String" IsL.yN IsL.yN ++ staticW "java/lang/String" 495 LChA.yN
def tab : Cond := tabOf yN yB 2 (some .char) site
def P (x t : Addr) (V : Cell) (n : Nat) (f : Nat → Int32) (z : Int32) (fm : Value) (i : Nat) (args : Array Value) (s : State) : Prop := args = #[.ref x, .int (Int32.ofNat i)] ∧ Txt x t V 0 n f s ∧ i < n ∧ StaticIs s "java/lang/String" "COMPACT_STRINGS" "Z" (.int z) ∧ ¬ z = 0 ∧ StaticIs s "jdk/internal/util/Preconditions" "SIOOBE_FORMATTER" "Ljava/util/function/BiFunction;" fm ∧ fm.isRef = true
def E (f : Nat → Int32) (i : Nat) (r : Option Value) (s u : State) : Prop := XT.PureE (some (.int (f i))) r s u
theorem law (l : Launch) (x t : Addr) (V : Cell) (n : Nat) (f : Nat → Int32) (z : Int32) (fm : Value) (i : Nat) : Law l yN 2 1 3 40 yB 2 (some .char) site (P x t V n f z fm i) (E f i) [] 0 0 := by
  refine Law.of_walk (plainFor_of_name (by decide +kernel)) (by decide +kernel) (by decide +kernel) (by decide) (fun _ _ h => by rw [h.1]; rfl) (fun _ U U' hal hh h => ⟨h.1, h.2.1.mv hal hh, h.2.2.1, h.2.2.2.1.there hal hh, h.2.2.2.2.1, h.2.2.2.2.2.1.there hal hh, h.2.2.2.2.2.2⟩) (fun r U U' V V' h1 hal h2 h => XT.PureE.mv r U U' V V' h1 hal h2 h) ?_
  intro p e s m args below meth c s₁ X0 hexec hbytes hml hret hlk hnm hown hh0 W hP
  obtain ⟨rfl, hx, hi, s1, hz, s3, rf⟩ := hP
  have v31 := hx.2.2.2.1.2.2.2
  have hr := hx.2.2.2.2.2 i hi
  have hx0 := hx.mv X0.warmed.alike hh0
  have c1 : Steps p.tables e below (s₁.setTop (entryFrame m #[.ref x, .int (Int32.ofNat i)] 2)) (s₁.setTop (mkF m 1 #[.val (.ref x), .val (.int (Int32.ofNat i))] [.ref x])) := Steps.trans (entry rfl) (by
    show Steps p.tables e below (s₁.setTop (mkF m 0 #[.val (.ref x), .val (.int (Int32.ofNat i))] [])) _
    refine XS.aloadN X0.here hexec rfl (hb hbytes d0) rfl rfl ?_
    exact Steps.refl _)
  obtain ⟨v2, T2, X2, E2, g2⟩ := X0.callV hexec (IsL.law l x 0 z) hown (wks W (virtW "java/lang/String" 492 "java/lang/String" IsL.yN IsL.yN)) rfl (by decide) (wk W IsL.tab) (W := 0) (Nat.le_of_ble_eq_true rfl) (Nat.le_of_ble_eq_true rfl) (Nat.le_refl _) (Nat.le_refl _) (hx0.1.fc X0.warmed.alike) hx0.1.is (g := (mkF m 1 #[.val (.ref x), .val (.int (Int32.ofNat i))] [.ref x])) rfl (by rw [hml]; rfl) c1 (argsL := []) (rest := []) rfl rfl (by show 2 * 0 + 0 ≤ _; decide) (hb hbytes d1) (⟨rfl, hx0.2.2.1, hx.2.2.2.2.1.cd, s1.there X0.warmed.alike hh0, hz⟩)
  obtain ⟨rfl, q2⟩ := E2
  have hh2 := q2.trans hh0
  have hx2 := hx.mv X2.warmed.alike hh2
  obtain ⟨-, k1, k2⟩ | ⟨k0, -⟩ := hx.2.2.2.2.1
  · have c3 : Steps p.tables e below (s₁.setTop (entryFrame m #[.ref x, .int (Int32.ofNat i)] 2)) (T2.setTop (mkF m 8 #[.val (.ref x), .val (.int (Int32.ofNat i))] [.ref x])) := Steps.trans g2 (by
      refine XS.ifNo X2.here hexec rfl (hb hbytes d4) rfl (i0_eq_f (by decide)) ?_
      refine XS.aloadN X2.here hexec rfl (hb hbytes d7) rfl rfl ?_
      exact Steps.refl _)
    obtain ⟨T4, X4, q4, st4⟩ := X2.hget hexec hown (wk W (.fieldLink "java/lang/String" 9 "java/lang/String" "value" "[B")) hx2.2.1 (g := (mkF m 8 #[.val (.ref x), .val (.int (Int32.ofNat i))] [.ref x])) rfl (rest := []) rfl (hb hbytes d8)
    have hh4 := q4.trans hh2
    have c5 : Steps p.tables e below (s₁.setTop (entryFrame m #[.ref x, .int (Int32.ofNat i)] 2)) (T4.setTop (mkF m 12 #[.val (.ref x), .val (.int (Int32.ofNat i))] [.int (Int32.ofNat i), .ref t])) := (c3.trans (st4 _ (Steps.refl _))).trans (by
      refine XS.iloadN X4.here hexec rfl (hb hbytes d11) rfl ?_
      exact Steps.refl _)
    obtain ⟨v6, T6, X6, E6, g6⟩ := X4.callS hexec (LChA.law l t V i (lo8 (f i)) fm) hown (wks W (staticW "java/lang/String" 495 LChA.yN)) (wk W LChA.tab) (W := 0) (Nat.le_of_ble_eq_true rfl) (Nat.le_of_ble_eq_true rfl) (Nat.le_refl _) (Nat.le_refl _) (g := (mkF m 12 #[.val (.ref x), .val (.int (Int32.ofNat i))] [.int (Int32.ofNat i), .ref t])) rfl (by rw [hml]; rfl) c5 (argsL := [.ref t, .int (Int32.ofNat i)]) (rest := []) rfl rfl (by show 2 * 0 + 0 ≤ _; decide) (hb hbytes d12) (⟨rfl, hx.2.2.2.1.mv X4.warmed.alike hh4, (k2 i hi).1, s3.there X4.warmed.alike hh4, rf⟩)
    obtain ⟨rfl, q6⟩ := E6
    rw [chr8_lo8 hr.1 (k2 i hi).2] at g6
    exact ⟨T6, some (.int (f i)), _, _, _, X6, rfl, rfl, rfl, (fun h => by cases h), ⟨rfl, q6.trans hh4⟩, fun fs hl => Steps.trans g6 (X6.ireturnOut hexec hret (narrow_ch hr.1 hr.2) (Or.inr (Or.inr (Or.inr (Or.inl rfl)))) (hb hbytes d15) hl)⟩
  · exact absurd k0 (by decide)
theorem pays {l : Launch} {R : Room} {p : Program} {e : Env} {below : List Frame} {s : State} {sargs : Array Value} {len W : Nat} (x t : Addr) (V : Cell) (n : Nat) (f : Nat → Int32) (z : Int32) (fm : Value) (i : Nat) (htab : tab.before sargs s = true) (hfr : 4 ≤ R.frames) (hlo : W + 53 ≤ R.locals) :
    Back l R p e below s sargs yN len W (fun A₁ a₁ => A₁.cells + 0 ≤ R.cells ∧ A₁.slots + 0 ≤ R.slots ∧ P x t V n f z fm i a₁ A₁.U) (fun A₁ _ v₁ B₁ => E f i v₁ A₁.U B₁.U ∧ B₁.locs = A₁.locs ++ [] ∧ B₁.cells = A₁.cells + 0 ∧ B₁.slots = A₁.slots + 0) :=
  (law l x t V n f z fm i).pays htab hfr (by omega)
end ChN
end StrChars
namespace StrChars.Road
open Jvm Sem ClassFile Op Lib Jvm.Stand Jvm.Free Jvm.Free.XT
open Jvm.Lib.Cold (StaticIs)
abbrev wordsChN : List Jvm.Cond := [.code ChN.yN ChN.yB 2 (some .char), .initialized ST, .fieldLink ST 9 ST "value" "[B", .fieldLink ST 38 ST "COMPACT_STRINGS" "Z", .fieldLink ST 15 ST "coder" "B", .code IsL.yN IsL.yB 1 (some .boolean), .methodLink ST 492 IsL.yN, .declares IsL.yN, .selects ST IsL.yN IsL.yN, .instanceMethod IsL.yN,
  .methodLink ST 495 LChA.yN, .static LChA.yN, .code LChA.yN LChA.yB 2 (some .char), .initialized "java/lang/StringLatin1", .methodLink "java/lang/StringLatin1" 9 JO.Str_checkIndex.yN, .static JO.Str_checkIndex.yN, .code JO.Str_checkIndex.yN JO.Str_checkIndex.yB 2 none,
  .fieldLink ST 1053 "jdk/internal/util/Preconditions" "SIOOBE_FORMATTER" "Ljava/util/function/BiFunction;", .methodLink ST 1059 JC.PreCheck.yN, .static JC.PreCheck.yN, .code JC.PreCheck.yN JC.PreCheck.yB 3 (some .int), .initialized "jdk/internal/util/Preconditions"]
theorem tabChN_of {a : Array Value} {s : State} (h : ∀ w ∈ wordsChN, w.before a s = true) : ChN.tab.before a s = true := by
  have hp : JC.PreCheck.tab.before a s = true := unparts (wk h (.code JC.PreCheck.yN JC.PreCheck.yB 3 (some .int))) (wks h (.initialized JC.PreCheck.yN.cls :: JC.PreCheck.site))
  have qk := consq hp h
  have hk : JO.Str_checkIndex.tab.before a s = true := unparts (wk qk (.code JO.Str_checkIndex.yN JO.Str_checkIndex.yB 2 none)) (wks qk (.initialized JO.Str_checkIndex.yN.cls :: JO.Str_checkIndex.site))
  have ql := consq hk h
  have hl : LChA.tab.before a s = true := unparts (wk ql (.code LChA.yN LChA.yB 2 (some .char))) (wks ql (.initialized LChA.yN.cls :: LChA.site))
  have hi : IsL.tab.before a s = true := unparts (wk h (.code IsL.yN IsL.yB 1 (some .boolean))) (wks h (.initialized IsL.yN.cls :: IsL.site))
  have q := consq hi (consq hl h)
  exact unparts (wk q (.code ChN.yN ChN.yB 2 (some .char))) (wks q (.initialized ChN.yN.cls :: ChN.site))
theorem movedChN {Z s : State} {a0 args : Array Value} (hZ : Z.Warmed39 s.vm) (hw : ∀ d ∈ wordsChN, d.before a0 Z = true) : ∀ d ∈ wordsChN, d.before args s = true := fun d hd => by
  have t : ∀ d ∈ wordsChN, (d.onTables && d.keepsFace) = true := by decide +kernel
  exact RoadKit.mv hZ (hw d hd) (t d hd)
theorem chN {p : Program} {l : Launch} {e : Env} {R : Room} {s : State} {args : Array Value} {below : List Frame} {len W : Nat} {Z : State} {a0 : Array Value} {h : Heap} (hZ : Z.Warmed39 s.vm) (hw : ∀ d ∈ wordsChN, d.before a0 Z = true) {kI : Nat} (wi : (Jvm.Cond.instantiable ST kI).before a0 Z = true)
    {x t : Addr} {kb : ClassId} {cs : List Int32} {N2 z : Int32} {vs : List Value} {fm : Value} {i : Nat} {j : Int32} (E : RoadKit.Exa Z h x ST) (V : RoadKit.Fld Z h x ST "value" "[B" (.ref t)) (C : RoadKit.Fld Z h x ST "coder" "B" (.int 0)) (K : RoadKit.Arv Z h t kb .byte N2 vs (.int 0)) (hc : CodA cs 0 N2 vs) (hb : ∀ c ∈ cs, ¬ c < 0 ∧ ¬ (65535 : Int32) < c)
    (S : RoadKit.Sta Z h ST "COMPACT_STRINGS" "Z" (.int z)) (hz : ¬ z = 0) (F : RoadKit.Sta Z h "jdk/internal/util/Preconditions" "SIOOBE_FORMATTER" "Ljava/util/function/BiFunction;" fm) (rf : fm.isRef = true) (l2 : cs.length ≤ 4000) (hi : i < cs.length) (hj : j = Int32.ofNat i) (hfr : 4 ≤ R.frames) (hlo : W + 53 ≤ R.locals) :
    Back l R p e below s args (⟨"java/lang/String", "charAt", "(I)C"⟩ : MethodName) len W (fun P a => a = #[.ref x, .int j] ∧ P.U.heap = h ∧ P.cells + 0 ≤ R.cells ∧ P.slots + 0 ≤ R.slots)
      (fun P _ v B => ∃ L, (v = some (.int (cs.getD i 0)) ∧ L = [] ∧ B.U.heap = h) ∧ B.locs = P.locs ++ L ∧ B.cells = P.cells + 0 ∧ B.slots = P.slots + 0) := by
  subst hj
  intro m meth c P g ig mk a X hg hsize hdg hW hn hp'
  obtain ⟨rfl, rfl, r1, r2⟩ := hp'
  have al : Z.vm.Alike P.U.vm := hZ.alike.trans X.warmed.alike
  obtain ⟨A, hx⟩ := txt_of wi al E V C K hc hb l2
  obtain ⟨v, B, X', ⟨⟨hv, hh⟩, hl, hk, hs⟩, st⟩ := ChN.pays x t A cs.length (fun j => cs.getD j 0) z fm i (tabChN_of (movedChN hZ hw)) hfr hlo m meth c P g ig mk _ X hg hsize hdg hW hn ⟨r1, r2, rfl, hx, hi, sta_is al S, hz, sta_is al F, rf⟩
  exact ⟨v, B, X', ⟨[], ⟨hv, rfl, hh⟩, hl, hk, hs⟩, st⟩
theorem codOf {cs : List Int32} {n : Nat} (hn : cs.length = n) (hb : ∀ c ∈ cs, ¬ 255 < c) : CodA cs 0 (Int32.ofNat n) ((cs.map lo8).map Value.int) := Or.inl ⟨rfl, by rw [hn], by simp [List.map_map, Function.comp_def], hb⟩
end StrChars.Road
end Jvm.Pilot.@@N@@
namespace Jvm.Pilot.@@N@@
open Jvm Jvm.ClassFile Sem Op Lib Jvm.Free Jvm.Stand Jvm.LawKit Jvm.RoadKit Bundle Jvm.OwnKit Jvm.Pilot.@@N@@.Jvm.D
def own_lay : Jvm.OwnKit.Lay := [("java/lang/String", [("java/lang/String", "value", "[B"), ("java/lang/String", "coder", "B")])]
def own_fs0 : List (String × String × String) := [("java/lang/String", "value", "[B"), ("java/lang/String", "coder", "B")]
theorem own_nd0 : (own_fs0.map (fun f => f.2.1)).Nodup := by decide
theorem own_laid0 {Z : State} {a0 : Array Value} (hw : ∀ d ∈ tables_1, d.before a0 Z = true) : ∀ f ∈ own_fs0, Laid Z a0 "java/lang/String" f.1 f.2.1 f.2.2 ∧ ∃ ty, parseFieldDescriptor f.2.2 = some ty := by
  intro f hf
  simp only [own_fs0, List.mem_cons, List.not_mem_nil, or_false] at hf
  rcases hf with rfl | rfl
  · exact ⟨Or.inr (hw _ (List.mem_of_getElem? (i := 10) rfl)), _, (by decide +kernel : parseFieldDescriptor "[B" = some (.array .byte))⟩
  · exact ⟨Or.inr (hw _ (List.mem_of_getElem? (i := 11) rfl)), _, (by decide +kernel : parseFieldDescriptor "B" = some .byte)⟩
theorem own_lay_ok {Z : State} {a0 : Array Value} (hw : ∀ d ∈ tables_1, d.before a0 Z = true) : LayOk Z a0 own_lay := fun ci C fs h => by
  match ci, h with
  | 0, h => cases h; exact ⟨own_laid0 hw, fun i j f g hi hj hne he => hne (own_nd_inj own_nd0 hi hj he)⟩
  | k + 1, h => simp [own_lay] at h
def own_D0 : Jvm.OwnKit.Dt := [(0, .iload_n 0, 1), (1, .i2l, 1), (2, .ldc2_w 7, 3), (5, .lsub, 1), (6, .lstore_n 2, 1), (7, .lload_n 2, 1), (8, .lconst 0, 1), (9, .lcmp, 1), (10, .ifCond .lt 15, 3), (13, .lload_n 2, 1), (14, .ldc2_w 9, 3), (17, .lcmp, 1), (18, .ifCond .ge 7, 3), (21, .iconst 1, 1), (22, .goto 4, 3), (25, .iconst 0, 1), (26, .istore 4, 2), (28, .iload_n 0, 1), (29, .invokestatic 11, 3), (32, .istore 5, 2), (34, .iload 5, 2), (36, .iload 4, 2), (38, .if_icmp .eq 5, 3), (41, .iconst 0, 1), (42, .ireturn, 1), (43, .iload 5, 2), (45, .ifCond .eq 12, 3), (48, .iload_n 0, 1), (49, .invokestatic 17, 3), (52, .ifCond .ne 5, 3), (55, .iconst 0, 1), (56, .ireturn, 1), (57, .iload_n 1, 1), (58, .ldc 20, 2), (60, .iand, 1), (61, .bipush 26, 2), (63, .irem, 1), (64, .istore 6, 2), (66, .ldc 21, 2), (68, .iload 6, 2), (70, .invokevirtual 23, 3), (73, .istore 7, 2), (75, .iload 7, 2), (77, .invokestatic 11, 3), (80, .ifCond .ne 5, 3), (83, .iconst 0, 1), (84, .ireturn, 1), (85, .iload 7, 2), (87, .bipush 32, 2), (89, .isub, 1), (90, .invokestatic 11, 3), (93, .ifCond .eq 5, 3), (96, .iconst 0, 1), (97, .ireturn, 1), (98, .bipush 96, 2), (100, .invokestatic 11, 3), (103, .ifCond .ne 11, 3), (106, .bipush 123, 2), (108, .invokestatic 11, 3), (111, .ifCond .eq 5, 3), (114, .iconst 0, 1), (115, .ireturn, 1), (116, .iconst 1, 1), (117, .ireturn, 1)]
set_option maxRecDepth 65536 in
theorem own_D0_ok : ∀ q ∈ own_D0, decode code q.1 = .ok q.2 := by decide +kernel
theorem own_pd0 : parseMethodDescriptor "(II)Z" = some ⟨[.int, .int], some .boolean⟩ := by decide +kernel
theorem own_pn0 : plainFor x = true := plainFor_of_name (by first | (simp [plainName, overriddenIn]; done) | decide +kernel)
def own_D1 : Jvm.OwnKit.Dt := [(0, .iload_n 0, 1), (1, .bipush 97, 2), (3, .if_icmp .lt 13, 3), (6, .iload_n 0, 1), (7, .bipush 122, 2), (9, .if_icmp .gt 7, 3), (12, .iconst 1, 1), (13, .goto 4, 3), (16, .iconst 0, 1), (17, .ireturn, 1)]
set_option maxRecDepth 65536 in
theorem own_D1_ok : ∀ q ∈ own_D1, decode prog_53_method_2_code q.1 = .ok q.2 := by decide +kernel
theorem own_pd1 : parseMethodDescriptor "(I)Z" = some ⟨[.int], some .boolean⟩ := by decide +kernel
theorem own_pn1 : plainFor (⟨"com/example/termwire/termwire/TextSyntax", "isBareAtomStart", "(I)Z"⟩ : MethodName) = true := plainFor_of_name (by first | (simp [plainName, overriddenIn]; done) | decide +kernel)
def own_D2 : Jvm.OwnKit.Dt := [(0, .aload_n 0, 1), (1, .invokevirtual 492, 3), (4, .ifCond .eq 12, 3), (7, .aload_n 0, 1), (8, .getfield 9, 3), (11, .iload_n 1, 1), (12, .invokestatic 495, 3), (15, .ireturn, 1), (16, .aload_n 0, 1), (17, .getfield 9, 3), (20, .iload_n 1, 1), (21, .invokestatic 498, 3), (24, .ireturn, 1)]
set_option maxRecDepth 65536 in
theorem own_D2_ok : ∀ q ∈ own_D2, decode jdk_42_method_56_code q.1 = .ok q.2 := by decide +kernel
theorem own_pd2 : parseMethodDescriptor "(I)C" = some ⟨[.int], some .char⟩ := by decide +kernel
theorem own_pn2 : plainFor (⟨"java/lang/String", "charAt", "(I)C"⟩ : MethodName) = true := plainFor_of_name (by first | (simp [plainName, overriddenIn]; done) | decide +kernel)
def own_D7 : Jvm.OwnKit.Dt := [(0, .iload_n 0, 1), (1, .bipush 97, 2), (3, .if_icmp .lt 9, 3), (6, .iload_n 0, 1), (7, .bipush 122, 2), (9, .if_icmp .le 39, 3), (12, .iload_n 0, 1), (13, .bipush 65, 2), (15, .if_icmp .lt 9, 3), (18, .iload_n 0, 1), (19, .bipush 90, 2), (21, .if_icmp .le 27, 3), (24, .iload_n 0, 1), (25, .bipush 48, 2), (27, .if_icmp .lt 9, 3), (30, .iload_n 0, 1), (31, .bipush 57, 2), (33, .if_icmp .le 15, 3), (36, .iload_n 0, 1), (37, .bipush 95, 2), (39, .if_icmp .eq 9, 3), (42, .iload_n 0, 1), (43, .bipush 64, 2), (45, .if_icmp .ne 7, 3), (48, .iconst 1, 1), (49, .goto 4, 3), (52, .iconst 0, 1), (53, .ireturn, 1)]
set_option maxRecDepth 65536 in
theorem own_D7_ok : ∀ q ∈ own_D7, decode prog_53_method_3_code q.1 = .ok q.2 := by decide +kernel
theorem own_pd7 : parseMethodDescriptor "(I)Z" = some ⟨[.int], some .boolean⟩ := by decide +kernel
theorem own_pn7 : plainFor (⟨"com/example/termwire/termwire/TextSyntax", "isBareAtomPart", "(I)Z"⟩ : MethodName) = true := plainFor_of_name (by first | (simp [plainName, overriddenIn]; done) | decide +kernel)
theorem own_wS {Z : State} {a0 : Array Value} (hw : ∀ d ∈ tables_1, d.before a0 Z = true) : ∀ a ∈ Bundle.stringAtoms, a.before a0 Z = true := by
  intro a ha
  simp only [Bundle.stringAtoms, List.mem_cons, List.not_mem_nil, or_false] at ha
  rcases ha with rfl | rfl | rfl | rfl | rfl | rfl | rfl
  · exact hw _ (List.mem_of_getElem? (i := 7) rfl)
  · exact hw _ (List.mem_of_getElem? (i := 8) rfl)
  · exact hw _ (List.mem_of_getElem? (i := 9) rfl)
  · exact hw _ (List.mem_of_getElem? (i := 10) rfl)
  · exact hw _ (List.mem_of_getElem? (i := 11) rfl)
  · exact hw _ (List.mem_of_getElem? (i := 12) rfl)
  · exact hw _ (List.mem_of_getElem? (i := 13) rfl)
theorem own_ladd {x y : Int64} {a b : Int} (hx : x.toInt = a) (hy : y.toInt = b) (h : -9223372036854775808 ≤ a + b ∧ a + b < 9223372036854775808) : (x + y).toInt = a + b := by
  have h1 := c_ladd x y
  have h2 := rng64 (x + y)
  rw [hx, hy] at h1
  omega
theorem own_lsub {x y : Int64} {a b : Int} (hx : x.toInt = a) (hy : y.toInt = b) (h : -9223372036854775808 ≤ a - b ∧ a - b < 9223372036854775808) : (x - y).toInt = a - b := by
  have h1 := c_lsub x y
  have h2 := rng64 (x - y)
  rw [hx, hy] at h1
  omega
theorem own_lmul {x y : Int64} {a b : Int} (hx : x.toInt = a) (hy : y.toInt = b) (h : -9223372036854775808 ≤ a * b ∧ a * b < 9223372036854775808) : (x * y).toInt = a * b := by
  have h1 := c_lmul x y
  have h2 := rng64 (x * y)
  rw [hx, hy] at h1
  generalize a * b = p at *
  omega
theorem own_iadd {x y : Int32} {a b : Int} (hx : x.toInt = a) (hy : y.toInt = b) (h : -2147483648 ≤ a + b ∧ a + b < 2147483648) : (x + y).toInt = a + b := by
  have h1 := c_iadd x y
  have h2 := rng32 (x + y)
  rw [hx, hy] at h1
  omega
theorem own_isub {x y : Int32} {a b : Int} (hx : x.toInt = a) (hy : y.toInt = b) (h : -2147483648 ≤ a - b ∧ a - b < 2147483648) : (x - y).toInt = a - b := by
  have h1 := c_isub x y
  have h2 := rng32 (x - y)
  rw [hx, hy] at h1
  omega

def own_start (c : Int32) : Int32 := if 97 ≤ c.toInt ∧ c.toInt ≤ 122 then 1 else 0
theorem own_off (c : Int32) (o : Int64) (h : ((c.toInt64) - 97) = o) : o.toInt = c.toInt - 97 := by
  have a := c_i2l c
  have b := c_lsub c.toInt64 97
  have r := rng64 ((c.toInt64) - 97)
  have q := rng32 c
  have k : (97 : Int64).toInt = 97 := by decide
  rw [h] at b r
  omega
theorem own_k (x k : Int32) (h : ((x &&& 2147483647) % 26) = k) : 0 ≤ k.toInt ∧ k.toInt < 26 := by
  have q := c_mask x 2147483647 31 (by decide) (by decide)
  have p := (c_irem (x &&& 2147483647) 26 26 (by decide)).1 (by omega)
  rw [h] at p
  omega
def own_cs : List Int32 := [97, 98, 99, 100, 101, 102, 103, 104, 105, 106, 107, 108, 109, 110, 111, 112, 113, 114, 115, 116, 117, 118, 119, 120, 121, 122]
theorem own_cs_in : ∀ i : Fin 26, 97 ≤ (own_cs.getD i.val 0).toInt ∧ (own_cs.getD i.val 0).toInt ≤ 122 := by decide +kernel
theorem own_m1 {l : Launch} {Z : State} {a0 : Array Value} (hw : ∀ d ∈ tables_1, d.before a0 Z = true) {n0 : Nat} {w : Bool} (c : Int32) {A : List ACell}  :
    MT w l Z n0 own_lay (⟨"com/example/termwire/termwire/TextSyntax", "isBareAtomStart", "(I)Z"⟩ : MethodName) prog_53_method_2_code 1 (some .boolean) [] ({ frames := 0, cells := 0, slots := 0, locals := 0 } : Room) [.int c] A (fun v B => v = some (.int (own_start c)) ∧ B = A) := by
  refine W_enter (D := own_D1) own_pn1 own_D1_ok ?_
  show WP _ _ _ _ _ _ _ _ _ _ _ 0 [.val (.int c)] [] _ 0 0 _
  refine W_run 0 2 (pc' := 3) (ls' := [.val (.int c)]) (st' := [.int 97, .int c]) rfl ?_
  refine W_lt (jx := 2) rfl (by decide) (pc' := 16) rfl (fun h3 => ?_) (fun h3 => ?_)
  · skip
    refine W_run 8 1 (pc' := 17) (ls' := [.val (.int c)]) (st' := [.int 0]) rfl ?_
    refine W_zreturn (jx := 9) rfl rfl rfl (by decide) (by decide) ?_
    refine ⟨?_, rfl⟩
    unfold own_start
    rw [if_neg]
    simp only [Int32.lt_iff_toInt_lt, ← Int32.toInt_inj, Int32.reduceToInt] at *
    omega
  · skip
    refine W_run 3 2 (pc' := 9) (ls' := [.val (.int c)]) (st' := [.int 122, .int c]) rfl ?_
    refine W_gt (jx := 5) rfl (by decide) (pc' := 16) rfl (fun h9 => ?_) (fun h9 => ?_)
    · skip
      refine W_run 8 1 (pc' := 17) (ls' := [.val (.int c)]) (st' := [.int 0]) rfl ?_
      refine W_zreturn (jx := 9) rfl rfl rfl (by decide) (by decide) ?_
      refine ⟨?_, rfl⟩
      unfold own_start
      rw [if_neg]
      simp only [Int32.lt_iff_toInt_lt, ← Int32.toInt_inj, Int32.reduceToInt] at *
      omega
    · skip
      refine W_run 6 2 (pc' := 17) (ls' := [.val (.int c)]) (st' := [.int 1]) rfl ?_
      refine W_zreturn (jx := 9) rfl rfl rfl (by decide) (by decide) ?_
      refine ⟨?_, rfl⟩
      unfold own_start
      rw [if_pos]
      simp only [Int32.lt_iff_toInt_lt, ← Int32.toInt_inj, Int32.reduceToInt] at *
      omega
theorem own_m7 {l : Launch} {Z : State} {a0 : Array Value} (hw : ∀ d ∈ tables_1, d.before a0 Z = true) {n0 : Nat} {w : Bool} (c : Int32) {A : List ACell} (h : 97 ≤ c.toInt ∧ c.toInt ≤ 122) :
    MT w l Z n0 own_lay (⟨"com/example/termwire/termwire/TextSyntax", "isBareAtomPart", "(I)Z"⟩ : MethodName) prog_53_method_3_code 1 (some .boolean) [] ({ frames := 0, cells := 0, slots := 0, locals := 0 } : Room) [.int c] A (fun v B => v = some (.int 1) ∧ B = A) := by
  refine W_enter (D := own_D7) own_pn7 own_D7_ok ?_
  show WP _ _ _ _ _ _ _ _ _ _ _ 0 [.val (.int c)] [] _ 0 0 _
  refine W_run 0 2 (pc' := 3) (ls' := [.val (.int c)]) (st' := [.int 97, .int c]) rfl ?_
  refine W_lt (jx := 2) rfl (by decide) (pc' := 12) rfl (fun h3 => ?_) (fun h3 => ?_)
  · skip
    refine W_run 6 2 (pc' := 15) (ls' := [.val (.int c)]) (st' := [.int 65, .int c]) rfl ?_
    refine W_lt (jx := 8) rfl (by decide) (pc' := 24) rfl (fun h15 => ?_) (fun h15 => ?_)
    · skip
      refine W_run 12 2 (pc' := 27) (ls' := [.val (.int c)]) (st' := [.int 48, .int c]) rfl ?_
      refine W_lt (jx := 14) rfl (by decide) (pc' := 36) rfl (fun h27 => ?_) (fun h27 => ?_)
      · skip
        refine W_run 18 2 (pc' := 39) (ls' := [.val (.int c)]) (st' := [.int 95, .int c]) rfl ?_
        refine W_eq (jx := 20) rfl (by decide) (pc' := 48) rfl (fun h39 => ?_) (fun h39 => ?_)
        · skip
          refine W_run 24 2 (pc' := 53) (ls' := [.val (.int c)]) (st' := [.int 1]) rfl ?_
          refine W_zreturn (jx := 27) rfl rfl rfl (by decide) (by decide) ?_
          exact ⟨rfl, rfl⟩
        · skip
          refine W_run 21 2 (pc' := 45) (ls' := [.val (.int c)]) (st' := [.int 64, .int c]) rfl ?_
          refine W_ne (jx := 23) rfl (by decide) (pc' := 52) rfl (fun h45 => ?_) (fun h45 => ?_)
          · skip
            refine W_run 26 1 (pc' := 53) (ls' := [.val (.int c)]) (st' := [.int 0]) rfl ?_
            refine W_zreturn (jx := 27) rfl rfl rfl (by decide) (by decide) ?_
            exfalso
            simp only [Int32.lt_iff_toInt_lt, ← Int32.toInt_inj, Int32.reduceToInt] at *
            omega
          · skip
            refine W_run 24 2 (pc' := 53) (ls' := [.val (.int c)]) (st' := [.int 1]) rfl ?_
            refine W_zreturn (jx := 27) rfl rfl rfl (by decide) (by decide) ?_
            exact ⟨rfl, rfl⟩
      · skip
        refine W_run 15 2 (pc' := 33) (ls' := [.val (.int c)]) (st' := [.int 57, .int c]) rfl ?_
        refine W_le (jx := 17) rfl (by decide) (pc' := 48) rfl (fun h33 => ?_) (fun h33 => ?_)
        · skip
          refine W_run 24 2 (pc' := 53) (ls' := [.val (.int c)]) (st' := [.int 1]) rfl ?_
          refine W_zreturn (jx := 27) rfl rfl rfl (by decide) (by decide) ?_
          exact ⟨rfl, rfl⟩
        · skip
          refine W_run 18 2 (pc' := 39) (ls' := [.val (.int c)]) (st' := [.int 95, .int c]) rfl ?_
          refine W_eq (jx := 20) rfl (by decide) (pc' := 48) rfl (fun h39 => ?_) (fun h39 => ?_)
          · skip
            refine W_run 24 2 (pc' := 53) (ls' := [.val (.int c)]) (st' := [.int 1]) rfl ?_
            refine W_zreturn (jx := 27) rfl rfl rfl (by decide) (by decide) ?_
            exact ⟨rfl, rfl⟩
          · skip
            refine W_run 21 2 (pc' := 45) (ls' := [.val (.int c)]) (st' := [.int 64, .int c]) rfl ?_
            refine W_ne (jx := 23) rfl (by decide) (pc' := 52) rfl (fun h45 => ?_) (fun h45 => ?_)
            · skip
              refine W_run 26 1 (pc' := 53) (ls' := [.val (.int c)]) (st' := [.int 0]) rfl ?_
              refine W_zreturn (jx := 27) rfl rfl rfl (by decide) (by decide) ?_
              exfalso
              simp only [Int32.lt_iff_toInt_lt, ← Int32.toInt_inj, Int32.reduceToInt] at *
              omega
            · skip
              refine W_run 24 2 (pc' := 53) (ls' := [.val (.int c)]) (st' := [.int 1]) rfl ?_
              refine W_zreturn (jx := 27) rfl rfl rfl (by decide) (by decide) ?_
              exact ⟨rfl, rfl⟩
    · skip
      refine W_run 9 2 (pc' := 21) (ls' := [.val (.int c)]) (st' := [.int 90, .int c]) rfl ?_
      refine W_le (jx := 11) rfl (by decide) (pc' := 48) rfl (fun h21 => ?_) (fun h21 => ?_)
      · skip
        refine W_run 24 2 (pc' := 53) (ls' := [.val (.int c)]) (st' := [.int 1]) rfl ?_
        refine W_zreturn (jx := 27) rfl rfl rfl (by decide) (by decide) ?_
        exact ⟨rfl, rfl⟩
      · skip
        refine W_run 12 2 (pc' := 27) (ls' := [.val (.int c)]) (st' := [.int 48, .int c]) rfl ?_
        refine W_lt (jx := 14) rfl (by decide) (pc' := 36) rfl (fun h27 => ?_) (fun h27 => ?_)
        · skip
          refine W_run 18 2 (pc' := 39) (ls' := [.val (.int c)]) (st' := [.int 95, .int c]) rfl ?_
          refine W_eq (jx := 20) rfl (by decide) (pc' := 48) rfl (fun h39 => ?_) (fun h39 => ?_)
          · skip
            refine W_run 24 2 (pc' := 53) (ls' := [.val (.int c)]) (st' := [.int 1]) rfl ?_
            refine W_zreturn (jx := 27) rfl rfl rfl (by decide) (by decide) ?_
            exact ⟨rfl, rfl⟩
          · skip
            refine W_run 21 2 (pc' := 45) (ls' := [.val (.int c)]) (st' := [.int 64, .int c]) rfl ?_
            refine W_ne (jx := 23) rfl (by decide) (pc' := 52) rfl (fun h45 => ?_) (fun h45 => ?_)
            · skip
              refine W_run 26 1 (pc' := 53) (ls' := [.val (.int c)]) (st' := [.int 0]) rfl ?_
              refine W_zreturn (jx := 27) rfl rfl rfl (by decide) (by decide) ?_
              exfalso
              simp only [Int32.lt_iff_toInt_lt, ← Int32.toInt_inj, Int32.reduceToInt] at *
              omega
            · skip
              refine W_run 24 2 (pc' := 53) (ls' := [.val (.int c)]) (st' := [.int 1]) rfl ?_
              refine W_zreturn (jx := 27) rfl rfl rfl (by decide) (by decide) ?_
              exact ⟨rfl, rfl⟩
        · skip
          refine W_run 15 2 (pc' := 33) (ls' := [.val (.int c)]) (st' := [.int 57, .int c]) rfl ?_
          refine W_le (jx := 17) rfl (by decide) (pc' := 48) rfl (fun h33 => ?_) (fun h33 => ?_)
          · skip
            refine W_run 24 2 (pc' := 53) (ls' := [.val (.int c)]) (st' := [.int 1]) rfl ?_
            refine W_zreturn (jx := 27) rfl rfl rfl (by decide) (by decide) ?_
            exact ⟨rfl, rfl⟩
          · skip
            refine W_run 18 2 (pc' := 39) (ls' := [.val (.int c)]) (st' := [.int 95, .int c]) rfl ?_
            refine W_eq (jx := 20) rfl (by decide) (pc' := 48) rfl (fun h39 => ?_) (fun h39 => ?_)
            · skip
              refine W_run 24 2 (pc' := 53) (ls' := [.val (.int c)]) (st' := [.int 1]) rfl ?_
              refine W_zreturn (jx := 27) rfl rfl rfl (by decide) (by decide) ?_
              exact ⟨rfl, rfl⟩
            · skip
              refine W_run 21 2 (pc' := 45) (ls' := [.val (.int c)]) (st' := [.int 64, .int c]) rfl ?_
              refine W_ne (jx := 23) rfl (by decide) (pc' := 52) rfl (fun h45 => ?_) (fun h45 => ?_)
              · skip
                refine W_run 26 1 (pc' := 53) (ls' := [.val (.int c)]) (st' := [.int 0]) rfl ?_
                refine W_zreturn (jx := 27) rfl rfl rfl (by decide) (by decide) ?_
                exfalso
                simp only [Int32.lt_iff_toInt_lt, ← Int32.toInt_inj, Int32.reduceToInt] at *
                omega
              · skip
                refine W_run 24 2 (pc' := 53) (ls' := [.val (.int c)]) (st' := [.int 1]) rfl ?_
                refine W_zreturn (jx := 27) rfl rfl rfl (by decide) (by decide) ?_
                exact ⟨rfl, rfl⟩
  · skip
    refine W_run 3 2 (pc' := 9) (ls' := [.val (.int c)]) (st' := [.int 122, .int c]) rfl ?_
    refine W_le (jx := 5) rfl (by decide) (pc' := 48) rfl (fun h9 => ?_) (fun h9 => ?_)
    · skip
      refine W_run 24 2 (pc' := 53) (ls' := [.val (.int c)]) (st' := [.int 1]) rfl ?_
      refine W_zreturn (jx := 27) rfl rfl rfl (by decide) (by decide) ?_
      exact ⟨rfl, rfl⟩
    · skip
      refine W_run 6 2 (pc' := 15) (ls' := [.val (.int c)]) (st' := [.int 65, .int c]) rfl ?_
      refine W_lt (jx := 8) rfl (by decide) (pc' := 24) rfl (fun h15 => ?_) (fun h15 => ?_)
      · skip
        refine W_run 12 2 (pc' := 27) (ls' := [.val (.int c)]) (st' := [.int 48, .int c]) rfl ?_
        refine W_lt (jx := 14) rfl (by decide) (pc' := 36) rfl (fun h27 => ?_) (fun h27 => ?_)
        · skip
          refine W_run 18 2 (pc' := 39) (ls' := [.val (.int c)]) (st' := [.int 95, .int c]) rfl ?_
          refine W_eq (jx := 20) rfl (by decide) (pc' := 48) rfl (fun h39 => ?_) (fun h39 => ?_)
          · skip
            refine W_run 24 2 (pc' := 53) (ls' := [.val (.int c)]) (st' := [.int 1]) rfl ?_
            refine W_zreturn (jx := 27) rfl rfl rfl (by decide) (by decide) ?_
            exact ⟨rfl, rfl⟩
          · skip
            refine W_run 21 2 (pc' := 45) (ls' := [.val (.int c)]) (st' := [.int 64, .int c]) rfl ?_
            refine W_ne (jx := 23) rfl (by decide) (pc' := 52) rfl (fun h45 => ?_) (fun h45 => ?_)
            · skip
              refine W_run 26 1 (pc' := 53) (ls' := [.val (.int c)]) (st' := [.int 0]) rfl ?_
              refine W_zreturn (jx := 27) rfl rfl rfl (by decide) (by decide) ?_
              exfalso
              simp only [Int32.lt_iff_toInt_lt, ← Int32.toInt_inj, Int32.reduceToInt] at *
              omega
            · skip
              refine W_run 24 2 (pc' := 53) (ls' := [.val (.int c)]) (st' := [.int 1]) rfl ?_
              refine W_zreturn (jx := 27) rfl rfl rfl (by decide) (by decide) ?_
              exact ⟨rfl, rfl⟩
        · skip
          refine W_run 15 2 (pc' := 33) (ls' := [.val (.int c)]) (st' := [.int 57, .int c]) rfl ?_
          refine W_le (jx := 17) rfl (by decide) (pc' := 48) rfl (fun h33 => ?_) (fun h33 => ?_)
          · skip
            refine W_run 24 2 (pc' := 53) (ls' := [.val (.int c)]) (st' := [.int 1]) rfl ?_
            refine W_zreturn (jx := 27) rfl rfl rfl (by decide) (by decide) ?_
            exact ⟨rfl, rfl⟩
          · skip
            refine W_run 18 2 (pc' := 39) (ls' := [.val (.int c)]) (st' := [.int 95, .int c]) rfl ?_
            refine W_eq (jx := 20) rfl (by decide) (pc' := 48) rfl (fun h39 => ?_) (fun h39 => ?_)
            · skip
              refine W_run 24 2 (pc' := 53) (ls' := [.val (.int c)]) (st' := [.int 1]) rfl ?_
              refine W_zreturn (jx := 27) rfl rfl rfl (by decide) (by decide) ?_
              exact ⟨rfl, rfl⟩
            · skip
              refine W_run 21 2 (pc' := 45) (ls' := [.val (.int c)]) (st' := [.int 64, .int c]) rfl ?_
              refine W_ne (jx := 23) rfl (by decide) (pc' := 52) rfl (fun h45 => ?_) (fun h45 => ?_)
              · skip
                refine W_run 26 1 (pc' := 53) (ls' := [.val (.int c)]) (st' := [.int 0]) rfl ?_
                refine W_zreturn (jx := 27) rfl rfl rfl (by decide) (by decide) ?_
                exfalso
                simp only [Int32.lt_iff_toInt_lt, ← Int32.toInt_inj, Int32.reduceToInt] at *
                omega
              · skip
                refine W_run 24 2 (pc' := 53) (ls' := [.val (.int c)]) (st' := [.int 1]) rfl ?_
                refine W_zreturn (jx := 27) rfl rfl rfl (by decide) (by decide) ?_
                exact ⟨rfl, rfl⟩
      · skip
        refine W_run 9 2 (pc' := 21) (ls' := [.val (.int c)]) (st' := [.int 90, .int c]) rfl ?_
        refine W_le (jx := 11) rfl (by decide) (pc' := 48) rfl (fun h21 => ?_) (fun h21 => ?_)
        · skip
          refine W_run 24 2 (pc' := 53) (ls' := [.val (.int c)]) (st' := [.int 1]) rfl ?_
          refine W_zreturn (jx := 27) rfl rfl rfl (by decide) (by decide) ?_
          exact ⟨rfl, rfl⟩
        · skip
          refine W_run 12 2 (pc' := 27) (ls' := [.val (.int c)]) (st' := [.int 48, .int c]) rfl ?_
          refine W_lt (jx := 14) rfl (by decide) (pc' := 36) rfl (fun h27 => ?_) (fun h27 => ?_)
          · skip
            refine W_run 18 2 (pc' := 39) (ls' := [.val (.int c)]) (st' := [.int 95, .int c]) rfl ?_
            refine W_eq (jx := 20) rfl (by decide) (pc' := 48) rfl (fun h39 => ?_) (fun h39 => ?_)
            · skip
              refine W_run 24 2 (pc' := 53) (ls' := [.val (.int c)]) (st' := [.int 1]) rfl ?_
              refine W_zreturn (jx := 27) rfl rfl rfl (by decide) (by decide) ?_
              exact ⟨rfl, rfl⟩
            · skip
              refine W_run 21 2 (pc' := 45) (ls' := [.val (.int c)]) (st' := [.int 64, .int c]) rfl ?_
              refine W_ne (jx := 23) rfl (by decide) (pc' := 52) rfl (fun h45 => ?_) (fun h45 => ?_)
              · skip
                refine W_run 26 1 (pc' := 53) (ls' := [.val (.int c)]) (st' := [.int 0]) rfl ?_
                refine W_zreturn (jx := 27) rfl rfl rfl (by decide) (by decide) ?_
                exfalso
                simp only [Int32.lt_iff_toInt_lt, ← Int32.toInt_inj, Int32.reduceToInt] at *
                omega
              · skip
                refine W_run 24 2 (pc' := 53) (ls' := [.val (.int c)]) (st' := [.int 1]) rfl ?_
                refine W_zreturn (jx := 27) rfl rfl rfl (by decide) (by decide) ?_
                exact ⟨rfl, rfl⟩
          · skip
            refine W_run 15 2 (pc' := 33) (ls' := [.val (.int c)]) (st' := [.int 57, .int c]) rfl ?_
            refine W_le (jx := 17) rfl (by decide) (pc' := 48) rfl (fun h33 => ?_) (fun h33 => ?_)
            · skip
              refine W_run 24 2 (pc' := 53) (ls' := [.val (.int c)]) (st' := [.int 1]) rfl ?_
              refine W_zreturn (jx := 27) rfl rfl rfl (by decide) (by decide) ?_
              exact ⟨rfl, rfl⟩
            · skip
              refine W_run 18 2 (pc' := 39) (ls' := [.val (.int c)]) (st' := [.int 95, .int c]) rfl ?_
              refine W_eq (jx := 20) rfl (by decide) (pc' := 48) rfl (fun h39 => ?_) (fun h39 => ?_)
              · skip
                refine W_run 24 2 (pc' := 53) (ls' := [.val (.int c)]) (st' := [.int 1]) rfl ?_
                refine W_zreturn (jx := 27) rfl rfl rfl (by decide) (by decide) ?_
                exact ⟨rfl, rfl⟩
              · skip
                refine W_run 21 2 (pc' := 45) (ls' := [.val (.int c)]) (st' := [.int 64, .int c]) rfl ?_
                refine W_ne (jx := 23) rfl (by decide) (pc' := 52) rfl (fun h45 => ?_) (fun h45 => ?_)
                · skip
                  refine W_run 26 1 (pc' := 53) (ls' := [.val (.int c)]) (st' := [.int 0]) rfl ?_
                  refine W_zreturn (jx := 27) rfl rfl rfl (by decide) (by decide) ?_
                  exfalso
                  simp only [Int32.lt_iff_toInt_lt, ← Int32.toInt_inj, Int32.reduceToInt] at *
                  omega
                · skip
                  refine W_run 24 2 (pc' := 53) (ls' := [.val (.int c)]) (st' := [.int 1]) rfl ?_
                  refine W_zreturn (jx := 27) rfl rfl rfl (by decide) (by decide) ?_
                  exact ⟨rfl, rfl⟩
set_option maxRecDepth 65536 in
set_option maxHeartbeats 4000000 in
theorem own_lit {l : Launch} {Z : State} {a0 : Array Value} (hw : ∀ d ∈ tables_1, d.before a0 Z = true) {Φ : Option Value → List ACell → Prop} (G : Int32) (F : Value) (S1 : Sta Z Z.heap "java/lang/String" "COMPACT_STRINGS" "Z" (.int G)) (S2 : Sta Z Z.heap "jdk/internal/util/Preconditions" "SIOOBE_FORMATTER" "Ljava/util/function/BiFunction;" F) (hG : ¬ G = 0) (hF : F.isRef = true)
    (hcw : Jvm.Lit.compactW.before a0 Z = true) (hh : Jvm.Lit.constHeld Z x.cls 21) (k : Int32) (hk : 0 ≤ k.toInt ∧ k.toInt < 26) (ls : List Slot) (h6 : ls[6]? = some (.val (.int k))) (h8 : ls.length = maxLocals)
    (h : ∀ ch : Int32, 97 ≤ ch.toInt → ch.toInt ≤ 122 → WP true l Z Z.heap.size own_lay x.cls own_D0 maxLocals ret x.name room_1 73 ls [.int ch] [] 2 108 Φ) :
    WQ (fun s => s = Z) l Z Z.heap.size own_lay x.cls own_D0 maxLocals ret x.name room_1 66 ls [] [] 0 0 Φ :=
  fun p e s m args below meth c T locs r X C N H P => by
    subst P
    have hch : ∀ d ∈ StrChars.Road.wordsChN, d.before a0 s = true := fun d hd => hw d ((by decide +kernel : ∀ d ∈ StrChars.Road.wordsChN, d ∈ tables_1) d hd)
    obtain ⟨a, T', h', k1, b, kb, X', e', E, hS', hk', hZ', hown', Ex, Fc, Fv, Ar, ha, hb, -, st'⟩ := ldcSV (s := s) (vm0 := s.vm) (Z := s) (Ts := []) X C.1 (State.Warmed39.refl s) C.2.2.1 (hw _ (List.mem_of_getElem? (i := 6) rfl)) (own_wS hw) rfl (k0 := 0) ((State.WarmedH.refl s).since 0) (Nat.zero_le _) N (fun _ _ q => q) IB.start (by simp) hh hcw
      (vs := (own_cs.map StrChars.lo8).map Value.int) (z := 26) ⟨by decide, by decide +kernel⟩ (by decide) (by decide) (g := mkF m 66 (cl r ls) (ct r [])) rfl (C.dec (jx := 38) rfl) (n := 104) (by decide) (by decide) (by decide) (by decide)
    subst e'
    have O : Ext s.heap T.heap := ⟨H.2.2, oldF X N⟩
    have hi : k.toInt.toNat < own_cs.length := by show _ < 26; omega
    have hj : k = Int32.ofNat k.toInt.toNat := by
      rw [← Int32.toInt_inj, Int32.toInt_ofNat_small (by omega)]; omega
    obtain ⟨cq, kq, qa, qb, qc⟩ := isOf hZ' rfl Ex
    have hsz' : (cl r ls).size = c.maxLocals := by rw [cl_size, h8, C.2.2.2.2.2.2.1]
    obtain ⟨v, vm₁, ⟨T2, L2, k2, n2⟩, -, X2, ⟨Lc, ⟨hv, hL, hH⟩, l1, y1, z1⟩, sp⟩ := X'.virtualBack C.1 (y := (⟨"java/lang/String", "charAt", "(I)C"⟩ : MethodName)) (z := (⟨"java/lang/String", "charAt", "(I)C"⟩ : MethodName)) hown' (mvT hZ' (hw _ (List.mem_of_getElem? (i := 14) rfl))) (mvT hZ' (hw _ (List.mem_of_getElem? (i := 15) rfl))) (notFace_of_selects (args := #[]) (mvT hZ' (hw _ (List.mem_of_getElem? (i := 17) rfl)))) (mvT hZ' (hw _ (List.mem_of_getElem? (i := 17) rfl))) (mvT hZ' (hw _ (List.mem_of_getElem? (i := 16) rfl))) (by decide)
      (StrChars.Road.chN (W := 0) (cs := own_cs) (fm := F) (z := G) (i := k.toInt.toNat) (j := k) hZ' hch (kI := 4) (hw _ (List.mem_of_getElem? (i := 8) rfl)) Ex Fv Fc Ar (StrChars.Road.codOf (n := 26) rfl (by decide)) (by decide) ((S1.ext O).ext E) hG ((S2.ext O).ext E) hF (by decide) hi hj (by decide) (by decide)) qa qc
      (g := mkF m 70 (cl r ls) [.int k, .ref a]) rfl hsz' (Steps.refl _) (argsL := [.int k]) (rest := []) (lenOf own_pd2 rfl) rfl (by show 2 * 0 + _ ≤ _; exact Nat.le_of_eq rfl) (C.dec (jx := 40) rfl) (fun _ _ => ⟨rfl, rfl, (by decide : 2 + 0 ≤ room_1.cells), (by decide : 108 + 0 ≤ room_1.slots)⟩)
    dsimp only [Pt.U, Pt.locs, Pt.cells, Pt.slots] at X2 l1 y1 z1 sp hH
    subst hv hL l1 y1 z1
    have hb2 := own_cs_in ⟨k.toInt.toNat, hi⟩
    have H2 : Hp s own_lay s.heap.size r T2.heap [] := ⟨fun i c h => by simp at h, fun i j hi => absurd hi (Nat.not_lt_zero i), by rw [hH]; exact Nat.le_trans H.2.2 E.1⟩
    refine (h _ hb2.1 hb2.2 p e s (s.setVm T'.vm) m args below meth c T2 _ r X2 ⟨C.1, hZ', hown', C.2.2.2⟩ (N.app (Fr.nil _)) H2 ⟨T'.vm, k1, rfl, hS', by rw [hH]; exact hk'⟩).back (fun t ht => st' t ?_) (Nat.le_refl _) (fun _ _ => rfl)
    refine XS.iload X'.here C.1 rfl (g := mkF m 68 (cl r ls) [.ref a]) (k := 6) (v := k) (C.dec (jx := 39) rfl) (by show (cl r ls)[6]? = _; simp [cl, h6, cs, cv]) ?_
    exact sp.trans ht
set_option maxRecDepth 65536 in
set_option maxHeartbeats 40000000 in
theorem own_q {l : Launch} {Z : State} {a0 : Array Value} (hw : ∀ d ∈ tables_1, d.before a0 Z = true) (G : Int32) (F : Value) (S1 : Sta Z Z.heap "java/lang/String" "COMPACT_STRINGS" "Z" (.int G)) (S2 : Sta Z Z.heap "jdk/internal/util/Preconditions" "SIOOBE_FORMATTER" "Ljava/util/function/BiFunction;" F) (hG : ¬ G = 0) (hF : F.isRef = true)
    (hcw : Jvm.Lit.compactW.before a0 Z = true) (hh : Jvm.Lit.constHeld Z x.cls 21) (c pk : Int32) :
    WQ (fun s => s = Z) l Z Z.heap.size own_lay x.cls own_D0 maxLocals ret x.name room_1 0 [.val (.int c), .val (.int pk), .unset, .unset, .unset, .unset, .unset, .unset] [] [] 0 0 (fun v B => v = some (.int 1)) := by
  refine Q_run 0 2 (pc' := 2) (ls' := [.val (.int c), .val (.int pk), .unset, .unset, .unset, .unset, .unset, .unset]) (st' := [.long (c.toInt64)]) rfl ?_
  refine Q_ldc2J (jx := 2) rfl (hw _ (List.mem_of_getElem? (i := 0) rfl)) ?_
  refine Q_run 3 1 (pc' := 6) (ls' := [.val (.int c), .val (.int pk), .unset, .unset, .unset, .unset, .unset, .unset]) (st' := [.long ((c.toInt64) - 97)]) rfl ?_
  generalize h_o : (((c.toInt64) - 97) : Int64) = o
  have ho := own_off _ _ h_o
  refine Q_run 4 1 (pc' := 7) (ls' := [.val (.int c), .val (.int pk), .val (.long o), .second, .unset, .unset, .unset, .unset]) (st' := []) rfl ?_
  refine Q_run 5 3 (pc' := 10) (ls' := [.val (.int c), .val (.int pk), .val (.long o), .second, .unset, .unset, .unset, .unset]) (st' := [.int (XT.cmpL o 0)]) rfl ?_
  refine Q_llt (jx := 8) rfl (by decide) (pc' := 25) rfl (fun h10 => ?_) (fun h10 => ?_)
  · skip
    refine Q_run 15 2 (pc' := 28) (ls' := [.val (.int c), .val (.int pk), .val (.long o), .second, .val (.int 0), .unset, .unset, .unset]) (st' := []) rfl ?_
    refine Q_run 17 1 (pc' := 29) (ls' := [.val (.int c), .val (.int pk), .val (.long o), .second, .val (.int 0), .unset, .unset, .unset]) (st' := [.int c]) rfl ?_
    refine Q_callS (jx := 18) [.int c] [] (own_m1 hw c) rfl (hw _ (List.mem_of_getElem? (i := 1) rfl)) (hw _ (List.mem_of_getElem? (i := 2) rfl)) (hw _ (List.mem_of_getElem? (i := 3) rfl)) (hw _ (List.mem_of_getElem? (i := 4) rfl)) (by decide) own_pd1 rfl rfl rfl (by decide) rfl (by decide) (by decide) rfl ?_
    rintro _ _ ⟨rfl, rfl⟩
    show WQ _ _ _ _ _ _ _ _ _ _ _ 32 [.val (.int c), .val (.int pk), .val (.long o), .second, .val (.int 0), .unset, .unset, .unset] [.int (own_start c)] [] _ _ _
    refine Q_run 19 1 (pc' := 34) (ls' := [.val (.int c), .val (.int pk), .val (.long o), .second, .val (.int 0), .val (.int (own_start c)), .unset, .unset]) (st' := []) rfl ?_
    refine Q_run 20 2 (pc' := 38) (ls' := [.val (.int c), .val (.int pk), .val (.long o), .second, .val (.int 0), .val (.int (own_start c)), .unset, .unset]) (st' := [.int 0, .int (own_start c)]) rfl ?_
    refine Q_eq (jx := 22) rfl (by decide) (pc' := 43) rfl (fun h38 => ?_) (fun h38 => ?_)
    · skip
      refine Q_run 25 1 (pc' := 45) (ls' := [.val (.int c), .val (.int pk), .val (.long o), .second, .val (.int 0), .val (.int (own_start c)), .unset, .unset]) (st' := [.int (own_start c)]) rfl ?_
      refine Q_ifeq (jx := 26) rfl (by decide) (pc' := 57) rfl (fun h45 => ?_) (fun h45 => ?_)
      · skip
        refine Q_run 32 1 (pc' := 58) (ls' := [.val (.int c), .val (.int pk), .val (.long o), .second, .val (.int 0), .val (.int (own_start c)), .unset, .unset]) (st' := [.int pk]) rfl ?_
        refine Q_ldcI (jx := 33) rfl (hw _ (List.mem_of_getElem? (i := 5) rfl)) ?_
        refine Q_run 34 3 (pc' := 64) (ls' := [.val (.int c), .val (.int pk), .val (.long o), .second, .val (.int 0), .val (.int (own_start c)), .unset, .unset]) (st' := [.int ((pk &&& 2147483647) % 26)]) rfl ?_
        generalize h_k : (((pk &&& 2147483647) % 26) : Int32) = k
        have hk := own_k _ _ h_k
        refine Q_run 37 1 (pc' := 66) (ls' := [.val (.int c), .val (.int pk), .val (.long o), .second, .val (.int 0), .val (.int (own_start c)), .val (.int k), .unset]) (st' := []) rfl ?_
        refine own_lit hw G F S1 S2 hG hF hcw hh k hk [.val (.int c), .val (.int pk), .val (.long o), .second, .val (.int 0), .val (.int (own_start c)), .val (.int k), .unset] rfl rfl (fun ch c0 c1 => ?_)
        refine W_run 41 1 (pc' := 75) (ls' := [.val (.int c), .val (.int pk), .val (.long o), .second, .val (.int 0), .val (.int (own_start c)), .val (.int k), .val (.int ch)]) (st' := []) rfl ?_
        have d1 : own_start ch = 1 := by
          unfold own_start
          rw [if_pos ⟨c0, c1⟩]
        have d2 : own_start (ch - 32) = 0 := by
          have q := own_isub (rfl : ch.toInt = ch.toInt) (show (32 : Int32).toInt = 32 by decide) (by omega)
          unfold own_start
          rw [if_neg (by omega)]
        have d3 : own_start (96) = 0 := by decide
        have d4 : own_start (123) = 0 := by decide
        refine W_run 42 1 (pc' := 77) (ls' := [.val (.int c), .val (.int pk), .val (.long o), .second, .val (.int 0), .val (.int (own_start c)), .val (.int k), .val (.int ch)]) (st' := [.int ch]) rfl ?_
        refine W_callS (jx := 43) [.int ch] [] (own_m1 hw ch) rfl (hw _ (List.mem_of_getElem? (i := 1) rfl)) (hw _ (List.mem_of_getElem? (i := 2) rfl)) (hw _ (List.mem_of_getElem? (i := 3) rfl)) (hw _ (List.mem_of_getElem? (i := 4) rfl)) (by decide) own_pd1 rfl rfl rfl (by decide) rfl (by decide) (by decide) rfl ?_
        rintro _ _ ⟨rfl, rfl⟩
        show WP _ _ _ _ _ _ _ _ _ _ _ 80 [.val (.int c), .val (.int pk), .val (.long o), .second, .val (.int 0), .val (.int (own_start c)), .val (.int k), .val (.int ch)] [.int (own_start ch)] [] _ _ _
        refine W_ifne (jx := 44) rfl (by decide) (pc' := 85) rfl (fun h80 => ?_) (fun h80 => ?_)
        · skip
          refine W_run 47 3 (pc' := 90) (ls' := [.val (.int c), .val (.int pk), .val (.long o), .second, .val (.int 0), .val (.int (own_start c)), .val (.int k), .val (.int ch)]) (st' := [.int (ch - 32)]) rfl ?_
          refine W_callS (jx := 50) [.int (ch - 32)] [] (own_m1 hw (ch - 32)) rfl (hw _ (List.mem_of_getElem? (i := 1) rfl)) (hw _ (List.mem_of_getElem? (i := 2) rfl)) (hw _ (List.mem_of_getElem? (i := 3) rfl)) (hw _ (List.mem_of_getElem? (i := 4) rfl)) (by decide) own_pd1 rfl rfl rfl (by decide) rfl (by decide) (by decide) rfl ?_
          rintro _ _ ⟨rfl, rfl⟩
          show WP _ _ _ _ _ _ _ _ _ _ _ 93 [.val (.int c), .val (.int pk), .val (.long o), .second, .val (.int 0), .val (.int (own_start c)), .val (.int k), .val (.int ch)] [.int (own_start (ch - 32))] [] _ _ _
          refine W_ifeq (jx := 51) rfl (by decide) (pc' := 98) rfl (fun h93 => ?_) (fun h93 => ?_)
          · skip
            refine W_run 54 1 (pc' := 100) (ls' := [.val (.int c), .val (.int pk), .val (.long o), .second, .val (.int 0), .val (.int (own_start c)), .val (.int k), .val (.int ch)]) (st' := [.int 96]) rfl ?_
            refine W_callS (jx := 55) [.int 96] [] (own_m1 hw (96)) rfl (hw _ (List.mem_of_getElem? (i := 1) rfl)) (hw _ (List.mem_of_getElem? (i := 2) rfl)) (hw _ (List.mem_of_getElem? (i := 3) rfl)) (hw _ (List.mem_of_getElem? (i := 4) rfl)) (by decide) own_pd1 rfl rfl rfl (by decide) rfl (by decide) (by decide) rfl ?_
            rintro _ _ ⟨rfl, rfl⟩
            show WP _ _ _ _ _ _ _ _ _ _ _ 103 [.val (.int c), .val (.int pk), .val (.long o), .second, .val (.int 0), .val (.int (own_start c)), .val (.int k), .val (.int ch)] [.int (own_start (96))] [] _ _ _
            refine W_ifne (jx := 56) rfl (by decide) (pc' := 114) rfl (fun h103 => ?_) (fun h103 => ?_)
            · skip
              exact absurd d3 h103
            · skip
              refine W_run 57 1 (pc' := 108) (ls' := [.val (.int c), .val (.int pk), .val (.long o), .second, .val (.int 0), .val (.int (own_start c)), .val (.int k), .val (.int ch)]) (st' := [.int 123]) rfl ?_
              refine W_callS (jx := 58) [.int 123] [] (own_m1 hw (123)) rfl (hw _ (List.mem_of_getElem? (i := 1) rfl)) (hw _ (List.mem_of_getElem? (i := 2) rfl)) (hw _ (List.mem_of_getElem? (i := 3) rfl)) (hw _ (List.mem_of_getElem? (i := 4) rfl)) (by decide) own_pd1 rfl rfl rfl (by decide) rfl (by decide) (by decide) rfl ?_
              rintro _ _ ⟨rfl, rfl⟩
              show WP _ _ _ _ _ _ _ _ _ _ _ 111 [.val (.int c), .val (.int pk), .val (.long o), .second, .val (.int 0), .val (.int (own_start c)), .val (.int k), .val (.int ch)] [.int (own_start (123))] [] _ _ _
              refine W_ifeq (jx := 59) rfl (by decide) (pc' := 116) rfl (fun h111 => ?_) (fun h111 => ?_)
              · skip
                refine W_run 62 1 (pc' := 117) (ls' := [.val (.int c), .val (.int pk), .val (.long o), .second, .val (.int 0), .val (.int (own_start c)), .val (.int k), .val (.int ch)]) (st' := [.int 1]) rfl ?_
                refine W_zreturn (jx := 63) rfl rfl rfl (by decide) (by decide) ?_
                exact rfl
              · skip
                exact absurd d4 h111
          · skip
            exact absurd d2 h93
        · skip
          exact absurd (d1.symm.trans h80) (by decide)
      · skip
        have hin : 97 ≤ c.toInt ∧ c.toInt ≤ 122 := by
          unfold own_start at h45
          by_cases q : 97 ≤ c.toInt ∧ c.toInt ≤ 122
          · exact q
          · rw [if_neg q] at h45; exact absurd rfl h45
        refine Q_run 27 1 (pc' := 49) (ls' := [.val (.int c), .val (.int pk), .val (.long o), .second, .val (.int 0), .val (.int (own_start c)), .unset, .unset]) (st' := [.int c]) rfl ?_
        refine Q_callS (jx := 28) [.int c] [] (own_m7 hw c hin) rfl (hw _ (List.mem_of_getElem? (i := 40) rfl)) (hw _ (List.mem_of_getElem? (i := 41) rfl)) (hw _ (List.mem_of_getElem? (i := 3) rfl)) (hw _ (List.mem_of_getElem? (i := 42) rfl)) (by decide) own_pd7 rfl rfl rfl (by decide) rfl (by decide) (by decide) rfl ?_
        rintro _ _ ⟨rfl, rfl⟩
        show WQ _ _ _ _ _ _ _ _ _ _ _ 52 [.val (.int c), .val (.int pk), .val (.long o), .second, .val (.int 0), .val (.int (own_start c)), .unset, .unset] [.int 1] [] _ _ _
        refine Q_run 29 1 (pc' := 57) (ls' := [.val (.int c), .val (.int pk), .val (.long o), .second, .val (.int 0), .val (.int (own_start c)), .unset, .unset]) (st' := []) rfl ?_
        refine Q_run 32 1 (pc' := 58) (ls' := [.val (.int c), .val (.int pk), .val (.long o), .second, .val (.int 0), .val (.int (own_start c)), .unset, .unset]) (st' := [.int pk]) rfl ?_
        refine Q_ldcI (jx := 33) rfl (hw _ (List.mem_of_getElem? (i := 5) rfl)) ?_
        refine Q_run 34 3 (pc' := 64) (ls' := [.val (.int c), .val (.int pk), .val (.long o), .second, .val (.int 0), .val (.int (own_start c)), .unset, .unset]) (st' := [.int ((pk &&& 2147483647) % 26)]) rfl ?_
        generalize h_k : (((pk &&& 2147483647) % 26) : Int32) = k
        have hk := own_k _ _ h_k
        refine Q_run 37 1 (pc' := 66) (ls' := [.val (.int c), .val (.int pk), .val (.long o), .second, .val (.int 0), .val (.int (own_start c)), .val (.int k), .unset]) (st' := []) rfl ?_
        refine own_lit hw G F S1 S2 hG hF hcw hh k hk [.val (.int c), .val (.int pk), .val (.long o), .second, .val (.int 0), .val (.int (own_start c)), .val (.int k), .unset] rfl rfl (fun ch c0 c1 => ?_)
        refine W_run 41 1 (pc' := 75) (ls' := [.val (.int c), .val (.int pk), .val (.long o), .second, .val (.int 0), .val (.int (own_start c)), .val (.int k), .val (.int ch)]) (st' := []) rfl ?_
        have d1 : own_start ch = 1 := by
          unfold own_start
          rw [if_pos ⟨c0, c1⟩]
        have d2 : own_start (ch - 32) = 0 := by
          have q := own_isub (rfl : ch.toInt = ch.toInt) (show (32 : Int32).toInt = 32 by decide) (by omega)
          unfold own_start
          rw [if_neg (by omega)]
        have d3 : own_start (96) = 0 := by decide
        have d4 : own_start (123) = 0 := by decide
        refine W_run 42 1 (pc' := 77) (ls' := [.val (.int c), .val (.int pk), .val (.long o), .second, .val (.int 0), .val (.int (own_start c)), .val (.int k), .val (.int ch)]) (st' := [.int ch]) rfl ?_
        refine W_callS (jx := 43) [.int ch] [] (own_m1 hw ch) rfl (hw _ (List.mem_of_getElem? (i := 1) rfl)) (hw _ (List.mem_of_getElem? (i := 2) rfl)) (hw _ (List.mem_of_getElem? (i := 3) rfl)) (hw _ (List.mem_of_getElem? (i := 4) rfl)) (by decide) own_pd1 rfl rfl rfl (by decide) rfl (by decide) (by decide) rfl ?_
        rintro _ _ ⟨rfl, rfl⟩
        show WP _ _ _ _ _ _ _ _ _ _ _ 80 [.val (.int c), .val (.int pk), .val (.long o), .second, .val (.int 0), .val (.int (own_start c)), .val (.int k), .val (.int ch)] [.int (own_start ch)] [] _ _ _
        refine W_ifne (jx := 44) rfl (by decide) (pc' := 85) rfl (fun h80 => ?_) (fun h80 => ?_)
        · skip
          refine W_run 47 3 (pc' := 90) (ls' := [.val (.int c), .val (.int pk), .val (.long o), .second, .val (.int 0), .val (.int (own_start c)), .val (.int k), .val (.int ch)]) (st' := [.int (ch - 32)]) rfl ?_
          refine W_callS (jx := 50) [.int (ch - 32)] [] (own_m1 hw (ch - 32)) rfl (hw _ (List.mem_of_getElem? (i := 1) rfl)) (hw _ (List.mem_of_getElem? (i := 2) rfl)) (hw _ (List.mem_of_getElem? (i := 3) rfl)) (hw _ (List.mem_of_getElem? (i := 4) rfl)) (by decide) own_pd1 rfl rfl rfl (by decide) rfl (by decide) (by decide) rfl ?_
          rintro _ _ ⟨rfl, rfl⟩
          show WP _ _ _ _ _ _ _ _ _ _ _ 93 [.val (.int c), .val (.int pk), .val (.long o), .second, .val (.int 0), .val (.int (own_start c)), .val (.int k), .val (.int ch)] [.int (own_start (ch - 32))] [] _ _ _
          refine W_ifeq (jx := 51) rfl (by decide) (pc' := 98) rfl (fun h93 => ?_) (fun h93 => ?_)
          · skip
            refine W_run 54 1 (pc' := 100) (ls' := [.val (.int c), .val (.int pk), .val (.long o), .second, .val (.int 0), .val (.int (own_start c)), .val (.int k), .val (.int ch)]) (st' := [.int 96]) rfl ?_
            refine W_callS (jx := 55) [.int 96] [] (own_m1 hw (96)) rfl (hw _ (List.mem_of_getElem? (i := 1) rfl)) (hw _ (List.mem_of_getElem? (i := 2) rfl)) (hw _ (List.mem_of_getElem? (i := 3) rfl)) (hw _ (List.mem_of_getElem? (i := 4) rfl)) (by decide) own_pd1 rfl rfl rfl (by decide) rfl (by decide) (by decide) rfl ?_
            rintro _ _ ⟨rfl, rfl⟩
            show WP _ _ _ _ _ _ _ _ _ _ _ 103 [.val (.int c), .val (.int pk), .val (.long o), .second, .val (.int 0), .val (.int (own_start c)), .val (.int k), .val (.int ch)] [.int (own_start (96))] [] _ _ _
            refine W_ifne (jx := 56) rfl (by decide) (pc' := 114) rfl (fun h103 => ?_) (fun h103 => ?_)
            · skip
              exact absurd d3 h103
            · skip
              refine W_run 57 1 (pc' := 108) (ls' := [.val (.int c), .val (.int pk), .val (.long o), .second, .val (.int 0), .val (.int (own_start c)), .val (.int k), .val (.int ch)]) (st' := [.int 123]) rfl ?_
              refine W_callS (jx := 58) [.int 123] [] (own_m1 hw (123)) rfl (hw _ (List.mem_of_getElem? (i := 1) rfl)) (hw _ (List.mem_of_getElem? (i := 2) rfl)) (hw _ (List.mem_of_getElem? (i := 3) rfl)) (hw _ (List.mem_of_getElem? (i := 4) rfl)) (by decide) own_pd1 rfl rfl rfl (by decide) rfl (by decide) (by decide) rfl ?_
              rintro _ _ ⟨rfl, rfl⟩
              show WP _ _ _ _ _ _ _ _ _ _ _ 111 [.val (.int c), .val (.int pk), .val (.long o), .second, .val (.int 0), .val (.int (own_start c)), .val (.int k), .val (.int ch)] [.int (own_start (123))] [] _ _ _
              refine W_ifeq (jx := 59) rfl (by decide) (pc' := 116) rfl (fun h111 => ?_) (fun h111 => ?_)
              · skip
                refine W_run 62 1 (pc' := 117) (ls' := [.val (.int c), .val (.int pk), .val (.long o), .second, .val (.int 0), .val (.int (own_start c)), .val (.int k), .val (.int ch)]) (st' := [.int 1]) rfl ?_
                refine W_zreturn (jx := 63) rfl rfl rfl (by decide) (by decide) ?_
                exact rfl
              · skip
                exact absurd d4 h111
          · skip
            exact absurd d2 h93
        · skip
          exact absurd (d1.symm.trans h80) (by decide)
    · skip
      exfalso
      unfold own_start at h38
      simp only [Int64.lt_iff_toInt_lt, Int64.reduceToInt] at *
      repeat' split at h38
      all_goals first | omega | (exact absurd rfl h38)
  · skip
    refine Q_run 9 1 (pc' := 14) (ls' := [.val (.int c), .val (.int pk), .val (.long o), .second, .unset, .unset, .unset, .unset]) (st' := [.long o]) rfl ?_
    refine Q_ldc2J (jx := 10) rfl (hw _ (List.mem_of_getElem? (i := 39) rfl)) ?_
    refine Q_run 11 1 (pc' := 18) (ls' := [.val (.int c), .val (.int pk), .val (.long o), .second, .unset, .unset, .unset, .unset]) (st' := [.int (XT.cmpL o 26)]) rfl ?_
    refine Q_lge (jx := 12) rfl (by decide) (pc' := 25) rfl (fun h18 => ?_) (fun h18 => ?_)
    · skip
      refine Q_run 15 2 (pc' := 28) (ls' := [.val (.int c), .val (.int pk), .val (.long o), .second, .val (.int 0), .unset, .unset, .unset]) (st' := []) rfl ?_
      refine Q_run 17 1 (pc' := 29) (ls' := [.val (.int c), .val (.int pk), .val (.long o), .second, .val (.int 0), .unset, .unset, .unset]) (st' := [.int c]) rfl ?_
      refine Q_callS (jx := 18) [.int c] [] (own_m1 hw c) rfl (hw _ (List.mem_of_getElem? (i := 1) rfl)) (hw _ (List.mem_of_getElem? (i := 2) rfl)) (hw _ (List.mem_of_getElem? (i := 3) rfl)) (hw _ (List.mem_of_getElem? (i := 4) rfl)) (by decide) own_pd1 rfl rfl rfl (by decide) rfl (by decide) (by decide) rfl ?_
      rintro _ _ ⟨rfl, rfl⟩
      show WQ _ _ _ _ _ _ _ _ _ _ _ 32 [.val (.int c), .val (.int pk), .val (.long o), .second, .val (.int 0), .unset, .unset, .unset] [.int (own_start c)] [] _ _ _
      refine Q_run 19 1 (pc' := 34) (ls' := [.val (.int c), .val (.int pk), .val (.long o), .second, .val (.int 0), .val (.int (own_start c)), .unset, .unset]) (st' := []) rfl ?_
      refine Q_run 20 2 (pc' := 38) (ls' := [.val (.int c), .val (.int pk), .val (.long o), .second, .val (.int 0), .val (.int (own_start c)), .unset, .unset]) (st' := [.int 0, .int (own_start c)]) rfl ?_
      refine Q_eq (jx := 22) rfl (by decide) (pc' := 43) rfl (fun h38 => ?_) (fun h38 => ?_)
      · skip
        refine Q_run 25 1 (pc' := 45) (ls' := [.val (.int c), .val (.int pk), .val (.long o), .second, .val (.int 0), .val (.int (own_start c)), .unset, .unset]) (st' := [.int (own_start c)]) rfl ?_
        refine Q_ifeq (jx := 26) rfl (by decide) (pc' := 57) rfl (fun h45 => ?_) (fun h45 => ?_)
        · skip
          refine Q_run 32 1 (pc' := 58) (ls' := [.val (.int c), .val (.int pk), .val (.long o), .second, .val (.int 0), .val (.int (own_start c)), .unset, .unset]) (st' := [.int pk]) rfl ?_
          refine Q_ldcI (jx := 33) rfl (hw _ (List.mem_of_getElem? (i := 5) rfl)) ?_
          refine Q_run 34 3 (pc' := 64) (ls' := [.val (.int c), .val (.int pk), .val (.long o), .second, .val (.int 0), .val (.int (own_start c)), .unset, .unset]) (st' := [.int ((pk &&& 2147483647) % 26)]) rfl ?_
          generalize h_k : (((pk &&& 2147483647) % 26) : Int32) = k
          have hk := own_k _ _ h_k
          refine Q_run 37 1 (pc' := 66) (ls' := [.val (.int c), .val (.int pk), .val (.long o), .second, .val (.int 0), .val (.int (own_start c)), .val (.int k), .unset]) (st' := []) rfl ?_
          refine own_lit hw G F S1 S2 hG hF hcw hh k hk [.val (.int c), .val (.int pk), .val (.long o), .second, .val (.int 0), .val (.int (own_start c)), .val (.int k), .unset] rfl rfl (fun ch c0 c1 => ?_)
          refine W_run 41 1 (pc' := 75) (ls' := [.val (.int c), .val (.int pk), .val (.long o), .second, .val (.int 0), .val (.int (own_start c)), .val (.int k), .val (.int ch)]) (st' := []) rfl ?_
          have d1 : own_start ch = 1 := by
            unfold own_start
            rw [if_pos ⟨c0, c1⟩]
          have d2 : own_start (ch - 32) = 0 := by
            have q := own_isub (rfl : ch.toInt = ch.toInt) (show (32 : Int32).toInt = 32 by decide) (by omega)
            unfold own_start
            rw [if_neg (by omega)]
          have d3 : own_start (96) = 0 := by decide
          have d4 : own_start (123) = 0 := by decide
          refine W_run 42 1 (pc' := 77) (ls' := [.val (.int c), .val (.int pk), .val (.long o), .second, .val (.int 0), .val (.int (own_start c)), .val (.int k), .val (.int ch)]) (st' := [.int ch]) rfl ?_
          refine W_callS (jx := 43) [.int ch] [] (own_m1 hw ch) rfl (hw _ (List.mem_of_getElem? (i := 1) rfl)) (hw _ (List.mem_of_getElem? (i := 2) rfl)) (hw _ (List.mem_of_getElem? (i := 3) rfl)) (hw _ (List.mem_of_getElem? (i := 4) rfl)) (by decide) own_pd1 rfl rfl rfl (by decide) rfl (by decide) (by decide) rfl ?_
          rintro _ _ ⟨rfl, rfl⟩
          show WP _ _ _ _ _ _ _ _ _ _ _ 80 [.val (.int c), .val (.int pk), .val (.long o), .second, .val (.int 0), .val (.int (own_start c)), .val (.int k), .val (.int ch)] [.int (own_start ch)] [] _ _ _
          refine W_ifne (jx := 44) rfl (by decide) (pc' := 85) rfl (fun h80 => ?_) (fun h80 => ?_)
          · skip
            refine W_run 47 3 (pc' := 90) (ls' := [.val (.int c), .val (.int pk), .val (.long o), .second, .val (.int 0), .val (.int (own_start c)), .val (.int k), .val (.int ch)]) (st' := [.int (ch - 32)]) rfl ?_
            refine W_callS (jx := 50) [.int (ch - 32)] [] (own_m1 hw (ch - 32)) rfl (hw _ (List.mem_of_getElem? (i := 1) rfl)) (hw _ (List.mem_of_getElem? (i := 2) rfl)) (hw _ (List.mem_of_getElem? (i := 3) rfl)) (hw _ (List.mem_of_getElem? (i := 4) rfl)) (by decide) own_pd1 rfl rfl rfl (by decide) rfl (by decide) (by decide) rfl ?_
            rintro _ _ ⟨rfl, rfl⟩
            show WP _ _ _ _ _ _ _ _ _ _ _ 93 [.val (.int c), .val (.int pk), .val (.long o), .second, .val (.int 0), .val (.int (own_start c)), .val (.int k), .val (.int ch)] [.int (own_start (ch - 32))] [] _ _ _
            refine W_ifeq (jx := 51) rfl (by decide) (pc' := 98) rfl (fun h93 => ?_) (fun h93 => ?_)
            · skip
              refine W_run 54 1 (pc' := 100) (ls' := [.val (.int c), .val (.int pk), .val (.long o), .second, .val (.int 0), .val (.int (own_start c)), .val (.int k), .val (.int ch)]) (st' := [.int 96]) rfl ?_
              refine W_callS (jx := 55) [.int 96] [] (own_m1 hw (96)) rfl (hw _ (List.mem_of_getElem? (i := 1) rfl)) (hw _ (List.mem_of_getElem? (i := 2) rfl)) (hw _ (List.mem_of_getElem? (i := 3) rfl)) (hw _ (List.mem_of_getElem? (i := 4) rfl)) (by decide) own_pd1 rfl rfl rfl (by decide) rfl (by decide) (by decide) rfl ?_
              rintro _ _ ⟨rfl, rfl⟩
              show WP _ _ _ _ _ _ _ _ _ _ _ 103 [.val (.int c), .val (.int pk), .val (.long o), .second, .val (.int 0), .val (.int (own_start c)), .val (.int k), .val (.int ch)] [.int (own_start (96))] [] _ _ _
              refine W_ifne (jx := 56) rfl (by decide) (pc' := 114) rfl (fun h103 => ?_) (fun h103 => ?_)
              · skip
                exact absurd d3 h103
              · skip
                refine W_run 57 1 (pc' := 108) (ls' := [.val (.int c), .val (.int pk), .val (.long o), .second, .val (.int 0), .val (.int (own_start c)), .val (.int k), .val (.int ch)]) (st' := [.int 123]) rfl ?_
                refine W_callS (jx := 58) [.int 123] [] (own_m1 hw (123)) rfl (hw _ (List.mem_of_getElem? (i := 1) rfl)) (hw _ (List.mem_of_getElem? (i := 2) rfl)) (hw _ (List.mem_of_getElem? (i := 3) rfl)) (hw _ (List.mem_of_getElem? (i := 4) rfl)) (by decide) own_pd1 rfl rfl rfl (by decide) rfl (by decide) (by decide) rfl ?_
                rintro _ _ ⟨rfl, rfl⟩
                show WP _ _ _ _ _ _ _ _ _ _ _ 111 [.val (.int c), .val (.int pk), .val (.long o), .second, .val (.int 0), .val (.int (own_start c)), .val (.int k), .val (.int ch)] [.int (own_start (123))] [] _ _ _
                refine W_ifeq (jx := 59) rfl (by decide) (pc' := 116) rfl (fun h111 => ?_) (fun h111 => ?_)
                · skip
                  refine W_run 62 1 (pc' := 117) (ls' := [.val (.int c), .val (.int pk), .val (.long o), .second, .val (.int 0), .val (.int (own_start c)), .val (.int k), .val (.int ch)]) (st' := [.int 1]) rfl ?_
                  refine W_zreturn (jx := 63) rfl rfl rfl (by decide) (by decide) ?_
                  exact rfl
                · skip
                  exact absurd d4 h111
            · skip
              exact absurd d2 h93
          · skip
            exact absurd (d1.symm.trans h80) (by decide)
        · skip
          have hin : 97 ≤ c.toInt ∧ c.toInt ≤ 122 := by
            unfold own_start at h45
            by_cases q : 97 ≤ c.toInt ∧ c.toInt ≤ 122
            · exact q
            · rw [if_neg q] at h45; exact absurd rfl h45
          refine Q_run 27 1 (pc' := 49) (ls' := [.val (.int c), .val (.int pk), .val (.long o), .second, .val (.int 0), .val (.int (own_start c)), .unset, .unset]) (st' := [.int c]) rfl ?_
          refine Q_callS (jx := 28) [.int c] [] (own_m7 hw c hin) rfl (hw _ (List.mem_of_getElem? (i := 40) rfl)) (hw _ (List.mem_of_getElem? (i := 41) rfl)) (hw _ (List.mem_of_getElem? (i := 3) rfl)) (hw _ (List.mem_of_getElem? (i := 42) rfl)) (by decide) own_pd7 rfl rfl rfl (by decide) rfl (by decide) (by decide) rfl ?_
          rintro _ _ ⟨rfl, rfl⟩
          show WQ _ _ _ _ _ _ _ _ _ _ _ 52 [.val (.int c), .val (.int pk), .val (.long o), .second, .val (.int 0), .val (.int (own_start c)), .unset, .unset] [.int 1] [] _ _ _
          refine Q_run 29 1 (pc' := 57) (ls' := [.val (.int c), .val (.int pk), .val (.long o), .second, .val (.int 0), .val (.int (own_start c)), .unset, .unset]) (st' := []) rfl ?_
          refine Q_run 32 1 (pc' := 58) (ls' := [.val (.int c), .val (.int pk), .val (.long o), .second, .val (.int 0), .val (.int (own_start c)), .unset, .unset]) (st' := [.int pk]) rfl ?_
          refine Q_ldcI (jx := 33) rfl (hw _ (List.mem_of_getElem? (i := 5) rfl)) ?_
          refine Q_run 34 3 (pc' := 64) (ls' := [.val (.int c), .val (.int pk), .val (.long o), .second, .val (.int 0), .val (.int (own_start c)), .unset, .unset]) (st' := [.int ((pk &&& 2147483647) % 26)]) rfl ?_
          generalize h_k : (((pk &&& 2147483647) % 26) : Int32) = k
          have hk := own_k _ _ h_k
          refine Q_run 37 1 (pc' := 66) (ls' := [.val (.int c), .val (.int pk), .val (.long o), .second, .val (.int 0), .val (.int (own_start c)), .val (.int k), .unset]) (st' := []) rfl ?_
          refine own_lit hw G F S1 S2 hG hF hcw hh k hk [.val (.int c), .val (.int pk), .val (.long o), .second, .val (.int 0), .val (.int (own_start c)), .val (.int k), .unset] rfl rfl (fun ch c0 c1 => ?_)
          refine W_run 41 1 (pc' := 75) (ls' := [.val (.int c), .val (.int pk), .val (.long o), .second, .val (.int 0), .val (.int (own_start c)), .val (.int k), .val (.int ch)]) (st' := []) rfl ?_
          have d1 : own_start ch = 1 := by
            unfold own_start
            rw [if_pos ⟨c0, c1⟩]
          have d2 : own_start (ch - 32) = 0 := by
            have q := own_isub (rfl : ch.toInt = ch.toInt) (show (32 : Int32).toInt = 32 by decide) (by omega)
            unfold own_start
            rw [if_neg (by omega)]
          have d3 : own_start (96) = 0 := by decide
          have d4 : own_start (123) = 0 := by decide
          refine W_run 42 1 (pc' := 77) (ls' := [.val (.int c), .val (.int pk), .val (.long o), .second, .val (.int 0), .val (.int (own_start c)), .val (.int k), .val (.int ch)]) (st' := [.int ch]) rfl ?_
          refine W_callS (jx := 43) [.int ch] [] (own_m1 hw ch) rfl (hw _ (List.mem_of_getElem? (i := 1) rfl)) (hw _ (List.mem_of_getElem? (i := 2) rfl)) (hw _ (List.mem_of_getElem? (i := 3) rfl)) (hw _ (List.mem_of_getElem? (i := 4) rfl)) (by decide) own_pd1 rfl rfl rfl (by decide) rfl (by decide) (by decide) rfl ?_
          rintro _ _ ⟨rfl, rfl⟩
          show WP _ _ _ _ _ _ _ _ _ _ _ 80 [.val (.int c), .val (.int pk), .val (.long o), .second, .val (.int 0), .val (.int (own_start c)), .val (.int k), .val (.int ch)] [.int (own_start ch)] [] _ _ _
          refine W_ifne (jx := 44) rfl (by decide) (pc' := 85) rfl (fun h80 => ?_) (fun h80 => ?_)
          · skip
            refine W_run 47 3 (pc' := 90) (ls' := [.val (.int c), .val (.int pk), .val (.long o), .second, .val (.int 0), .val (.int (own_start c)), .val (.int k), .val (.int ch)]) (st' := [.int (ch - 32)]) rfl ?_
            refine W_callS (jx := 50) [.int (ch - 32)] [] (own_m1 hw (ch - 32)) rfl (hw _ (List.mem_of_getElem? (i := 1) rfl)) (hw _ (List.mem_of_getElem? (i := 2) rfl)) (hw _ (List.mem_of_getElem? (i := 3) rfl)) (hw _ (List.mem_of_getElem? (i := 4) rfl)) (by decide) own_pd1 rfl rfl rfl (by decide) rfl (by decide) (by decide) rfl ?_
            rintro _ _ ⟨rfl, rfl⟩
            show WP _ _ _ _ _ _ _ _ _ _ _ 93 [.val (.int c), .val (.int pk), .val (.long o), .second, .val (.int 0), .val (.int (own_start c)), .val (.int k), .val (.int ch)] [.int (own_start (ch - 32))] [] _ _ _
            refine W_ifeq (jx := 51) rfl (by decide) (pc' := 98) rfl (fun h93 => ?_) (fun h93 => ?_)
            · skip
              refine W_run 54 1 (pc' := 100) (ls' := [.val (.int c), .val (.int pk), .val (.long o), .second, .val (.int 0), .val (.int (own_start c)), .val (.int k), .val (.int ch)]) (st' := [.int 96]) rfl ?_
              refine W_callS (jx := 55) [.int 96] [] (own_m1 hw (96)) rfl (hw _ (List.mem_of_getElem? (i := 1) rfl)) (hw _ (List.mem_of_getElem? (i := 2) rfl)) (hw _ (List.mem_of_getElem? (i := 3) rfl)) (hw _ (List.mem_of_getElem? (i := 4) rfl)) (by decide) own_pd1 rfl rfl rfl (by decide) rfl (by decide) (by decide) rfl ?_
              rintro _ _ ⟨rfl, rfl⟩
              show WP _ _ _ _ _ _ _ _ _ _ _ 103 [.val (.int c), .val (.int pk), .val (.long o), .second, .val (.int 0), .val (.int (own_start c)), .val (.int k), .val (.int ch)] [.int (own_start (96))] [] _ _ _
              refine W_ifne (jx := 56) rfl (by decide) (pc' := 114) rfl (fun h103 => ?_) (fun h103 => ?_)
              · skip
                exact absurd d3 h103
              · skip
                refine W_run 57 1 (pc' := 108) (ls' := [.val (.int c), .val (.int pk), .val (.long o), .second, .val (.int 0), .val (.int (own_start c)), .val (.int k), .val (.int ch)]) (st' := [.int 123]) rfl ?_
                refine W_callS (jx := 58) [.int 123] [] (own_m1 hw (123)) rfl (hw _ (List.mem_of_getElem? (i := 1) rfl)) (hw _ (List.mem_of_getElem? (i := 2) rfl)) (hw _ (List.mem_of_getElem? (i := 3) rfl)) (hw _ (List.mem_of_getElem? (i := 4) rfl)) (by decide) own_pd1 rfl rfl rfl (by decide) rfl (by decide) (by decide) rfl ?_
                rintro _ _ ⟨rfl, rfl⟩
                show WP _ _ _ _ _ _ _ _ _ _ _ 111 [.val (.int c), .val (.int pk), .val (.long o), .second, .val (.int 0), .val (.int (own_start c)), .val (.int k), .val (.int ch)] [.int (own_start (123))] [] _ _ _
                refine W_ifeq (jx := 59) rfl (by decide) (pc' := 116) rfl (fun h111 => ?_) (fun h111 => ?_)
                · skip
                  refine W_run 62 1 (pc' := 117) (ls' := [.val (.int c), .val (.int pk), .val (.long o), .second, .val (.int 0), .val (.int (own_start c)), .val (.int k), .val (.int ch)]) (st' := [.int 1]) rfl ?_
                  refine W_zreturn (jx := 63) rfl rfl rfl (by decide) (by decide) ?_
                  exact rfl
                · skip
                  exact absurd d4 h111
            · skip
              exact absurd d2 h93
          · skip
            exact absurd (d1.symm.trans h80) (by decide)
      · skip
        exfalso
        unfold own_start at h38
        simp only [Int64.lt_iff_toInt_lt, Int64.reduceToInt] at *
        repeat' split at h38
        all_goals first | omega | (exact absurd rfl h38)
    · skip
      refine Q_run 13 2 (pc' := 26) (ls' := [.val (.int c), .val (.int pk), .val (.long o), .second, .unset, .unset, .unset, .unset]) (st' := [.int 1]) rfl ?_
      refine Q_run 16 1 (pc' := 28) (ls' := [.val (.int c), .val (.int pk), .val (.long o), .second, .val (.int 1), .unset, .unset, .unset]) (st' := []) rfl ?_
      refine Q_run 17 1 (pc' := 29) (ls' := [.val (.int c), .val (.int pk), .val (.long o), .second, .val (.int 1), .unset, .unset, .unset]) (st' := [.int c]) rfl ?_
      refine Q_callS (jx := 18) [.int c] [] (own_m1 hw c) rfl (hw _ (List.mem_of_getElem? (i := 1) rfl)) (hw _ (List.mem_of_getElem? (i := 2) rfl)) (hw _ (List.mem_of_getElem? (i := 3) rfl)) (hw _ (List.mem_of_getElem? (i := 4) rfl)) (by decide) own_pd1 rfl rfl rfl (by decide) rfl (by decide) (by decide) rfl ?_
      rintro _ _ ⟨rfl, rfl⟩
      show WQ _ _ _ _ _ _ _ _ _ _ _ 32 [.val (.int c), .val (.int pk), .val (.long o), .second, .val (.int 1), .unset, .unset, .unset] [.int (own_start c)] [] _ _ _
      refine Q_run 19 1 (pc' := 34) (ls' := [.val (.int c), .val (.int pk), .val (.long o), .second, .val (.int 1), .val (.int (own_start c)), .unset, .unset]) (st' := []) rfl ?_
      refine Q_run 20 2 (pc' := 38) (ls' := [.val (.int c), .val (.int pk), .val (.long o), .second, .val (.int 1), .val (.int (own_start c)), .unset, .unset]) (st' := [.int 1, .int (own_start c)]) rfl ?_
      refine Q_eq (jx := 22) rfl (by decide) (pc' := 43) rfl (fun h38 => ?_) (fun h38 => ?_)
      · skip
        refine Q_run 25 1 (pc' := 45) (ls' := [.val (.int c), .val (.int pk), .val (.long o), .second, .val (.int 1), .val (.int (own_start c)), .unset, .unset]) (st' := [.int (own_start c)]) rfl ?_
        refine Q_ifeq (jx := 26) rfl (by decide) (pc' := 57) rfl (fun h45 => ?_) (fun h45 => ?_)
        · skip
          refine Q_run 32 1 (pc' := 58) (ls' := [.val (.int c), .val (.int pk), .val (.long o), .second, .val (.int 1), .val (.int (own_start c)), .unset, .unset]) (st' := [.int pk]) rfl ?_
          refine Q_ldcI (jx := 33) rfl (hw _ (List.mem_of_getElem? (i := 5) rfl)) ?_
          refine Q_run 34 3 (pc' := 64) (ls' := [.val (.int c), .val (.int pk), .val (.long o), .second, .val (.int 1), .val (.int (own_start c)), .unset, .unset]) (st' := [.int ((pk &&& 2147483647) % 26)]) rfl ?_
          generalize h_k : (((pk &&& 2147483647) % 26) : Int32) = k
          have hk := own_k _ _ h_k
          refine Q_run 37 1 (pc' := 66) (ls' := [.val (.int c), .val (.int pk), .val (.long o), .second, .val (.int 1), .val (.int (own_start c)), .val (.int k), .unset]) (st' := []) rfl ?_
          refine own_lit hw G F S1 S2 hG hF hcw hh k hk [.val (.int c), .val (.int pk), .val (.long o), .second, .val (.int 1), .val (.int (own_start c)), .val (.int k), .unset] rfl rfl (fun ch c0 c1 => ?_)
          refine W_run 41 1 (pc' := 75) (ls' := [.val (.int c), .val (.int pk), .val (.long o), .second, .val (.int 1), .val (.int (own_start c)), .val (.int k), .val (.int ch)]) (st' := []) rfl ?_
          have d1 : own_start ch = 1 := by
            unfold own_start
            rw [if_pos ⟨c0, c1⟩]
          have d2 : own_start (ch - 32) = 0 := by
            have q := own_isub (rfl : ch.toInt = ch.toInt) (show (32 : Int32).toInt = 32 by decide) (by omega)
            unfold own_start
            rw [if_neg (by omega)]
          have d3 : own_start (96) = 0 := by decide
          have d4 : own_start (123) = 0 := by decide
          refine W_run 42 1 (pc' := 77) (ls' := [.val (.int c), .val (.int pk), .val (.long o), .second, .val (.int 1), .val (.int (own_start c)), .val (.int k), .val (.int ch)]) (st' := [.int ch]) rfl ?_
          refine W_callS (jx := 43) [.int ch] [] (own_m1 hw ch) rfl (hw _ (List.mem_of_getElem? (i := 1) rfl)) (hw _ (List.mem_of_getElem? (i := 2) rfl)) (hw _ (List.mem_of_getElem? (i := 3) rfl)) (hw _ (List.mem_of_getElem? (i := 4) rfl)) (by decide) own_pd1 rfl rfl rfl (by decide) rfl (by decide) (by decide) rfl ?_
          rintro _ _ ⟨rfl, rfl⟩
          show WP _ _ _ _ _ _ _ _ _ _ _ 80 [.val (.int c), .val (.int pk), .val (.long o), .second, .val (.int 1), .val (.int (own_start c)), .val (.int k), .val (.int ch)] [.int (own_start ch)] [] _ _ _
          refine W_ifne (jx := 44) rfl (by decide) (pc' := 85) rfl (fun h80 => ?_) (fun h80 => ?_)
          · skip
            refine W_run 47 3 (pc' := 90) (ls' := [.val (.int c), .val (.int pk), .val (.long o), .second, .val (.int 1), .val (.int (own_start c)), .val (.int k), .val (.int ch)]) (st' := [.int (ch - 32)]) rfl ?_
            refine W_callS (jx := 50) [.int (ch - 32)] [] (own_m1 hw (ch - 32)) rfl (hw _ (List.mem_of_getElem? (i := 1) rfl)) (hw _ (List.mem_of_getElem? (i := 2) rfl)) (hw _ (List.mem_of_getElem? (i := 3) rfl)) (hw _ (List.mem_of_getElem? (i := 4) rfl)) (by decide) own_pd1 rfl rfl rfl (by decide) rfl (by decide) (by decide) rfl ?_
            rintro _ _ ⟨rfl, rfl⟩
            show WP _ _ _ _ _ _ _ _ _ _ _ 93 [.val (.int c), .val (.int pk), .val (.long o), .second, .val (.int 1), .val (.int (own_start c)), .val (.int k), .val (.int ch)] [.int (own_start (ch - 32))] [] _ _ _
            refine W_ifeq (jx := 51) rfl (by decide) (pc' := 98) rfl (fun h93 => ?_) (fun h93 => ?_)
            · skip
              refine W_run 54 1 (pc' := 100) (ls' := [.val (.int c), .val (.int pk), .val (.long o), .second, .val (.int 1), .val (.int (own_start c)), .val (.int k), .val (.int ch)]) (st' := [.int 96]) rfl ?_
              refine W_callS (jx := 55) [.int 96] [] (own_m1 hw (96)) rfl (hw _ (List.mem_of_getElem? (i := 1) rfl)) (hw _ (List.mem_of_getElem? (i := 2) rfl)) (hw _ (List.mem_of_getElem? (i := 3) rfl)) (hw _ (List.mem_of_getElem? (i := 4) rfl)) (by decide) own_pd1 rfl rfl rfl (by decide) rfl (by decide) (by decide) rfl ?_
              rintro _ _ ⟨rfl, rfl⟩
              show WP _ _ _ _ _ _ _ _ _ _ _ 103 [.val (.int c), .val (.int pk), .val (.long o), .second, .val (.int 1), .val (.int (own_start c)), .val (.int k), .val (.int ch)] [.int (own_start (96))] [] _ _ _
              refine W_ifne (jx := 56) rfl (by decide) (pc' := 114) rfl (fun h103 => ?_) (fun h103 => ?_)
              · skip
                exact absurd d3 h103
              · skip
                refine W_run 57 1 (pc' := 108) (ls' := [.val (.int c), .val (.int pk), .val (.long o), .second, .val (.int 1), .val (.int (own_start c)), .val (.int k), .val (.int ch)]) (st' := [.int 123]) rfl ?_
                refine W_callS (jx := 58) [.int 123] [] (own_m1 hw (123)) rfl (hw _ (List.mem_of_getElem? (i := 1) rfl)) (hw _ (List.mem_of_getElem? (i := 2) rfl)) (hw _ (List.mem_of_getElem? (i := 3) rfl)) (hw _ (List.mem_of_getElem? (i := 4) rfl)) (by decide) own_pd1 rfl rfl rfl (by decide) rfl (by decide) (by decide) rfl ?_
                rintro _ _ ⟨rfl, rfl⟩
                show WP _ _ _ _ _ _ _ _ _ _ _ 111 [.val (.int c), .val (.int pk), .val (.long o), .second, .val (.int 1), .val (.int (own_start c)), .val (.int k), .val (.int ch)] [.int (own_start (123))] [] _ _ _
                refine W_ifeq (jx := 59) rfl (by decide) (pc' := 116) rfl (fun h111 => ?_) (fun h111 => ?_)
                · skip
                  refine W_run 62 1 (pc' := 117) (ls' := [.val (.int c), .val (.int pk), .val (.long o), .second, .val (.int 1), .val (.int (own_start c)), .val (.int k), .val (.int ch)]) (st' := [.int 1]) rfl ?_
                  refine W_zreturn (jx := 63) rfl rfl rfl (by decide) (by decide) ?_
                  exact rfl
                · skip
                  exact absurd d4 h111
            · skip
              exact absurd d2 h93
          · skip
            exact absurd (d1.symm.trans h80) (by decide)
        · skip
          have hin : 97 ≤ c.toInt ∧ c.toInt ≤ 122 := by
            unfold own_start at h45
            by_cases q : 97 ≤ c.toInt ∧ c.toInt ≤ 122
            · exact q
            · rw [if_neg q] at h45; exact absurd rfl h45
          refine Q_run 27 1 (pc' := 49) (ls' := [.val (.int c), .val (.int pk), .val (.long o), .second, .val (.int 1), .val (.int (own_start c)), .unset, .unset]) (st' := [.int c]) rfl ?_
          refine Q_callS (jx := 28) [.int c] [] (own_m7 hw c hin) rfl (hw _ (List.mem_of_getElem? (i := 40) rfl)) (hw _ (List.mem_of_getElem? (i := 41) rfl)) (hw _ (List.mem_of_getElem? (i := 3) rfl)) (hw _ (List.mem_of_getElem? (i := 42) rfl)) (by decide) own_pd7 rfl rfl rfl (by decide) rfl (by decide) (by decide) rfl ?_
          rintro _ _ ⟨rfl, rfl⟩
          show WQ _ _ _ _ _ _ _ _ _ _ _ 52 [.val (.int c), .val (.int pk), .val (.long o), .second, .val (.int 1), .val (.int (own_start c)), .unset, .unset] [.int 1] [] _ _ _
          refine Q_run 29 1 (pc' := 57) (ls' := [.val (.int c), .val (.int pk), .val (.long o), .second, .val (.int 1), .val (.int (own_start c)), .unset, .unset]) (st' := []) rfl ?_
          refine Q_run 32 1 (pc' := 58) (ls' := [.val (.int c), .val (.int pk), .val (.long o), .second, .val (.int 1), .val (.int (own_start c)), .unset, .unset]) (st' := [.int pk]) rfl ?_
          refine Q_ldcI (jx := 33) rfl (hw _ (List.mem_of_getElem? (i := 5) rfl)) ?_
          refine Q_run 34 3 (pc' := 64) (ls' := [.val (.int c), .val (.int pk), .val (.long o), .second, .val (.int 1), .val (.int (own_start c)), .unset, .unset]) (st' := [.int ((pk &&& 2147483647) % 26)]) rfl ?_
          generalize h_k : (((pk &&& 2147483647) % 26) : Int32) = k
          have hk := own_k _ _ h_k
          refine Q_run 37 1 (pc' := 66) (ls' := [.val (.int c), .val (.int pk), .val (.long o), .second, .val (.int 1), .val (.int (own_start c)), .val (.int k), .unset]) (st' := []) rfl ?_
          refine own_lit hw G F S1 S2 hG hF hcw hh k hk [.val (.int c), .val (.int pk), .val (.long o), .second, .val (.int 1), .val (.int (own_start c)), .val (.int k), .unset] rfl rfl (fun ch c0 c1 => ?_)
          refine W_run 41 1 (pc' := 75) (ls' := [.val (.int c), .val (.int pk), .val (.long o), .second, .val (.int 1), .val (.int (own_start c)), .val (.int k), .val (.int ch)]) (st' := []) rfl ?_
          have d1 : own_start ch = 1 := by
            unfold own_start
            rw [if_pos ⟨c0, c1⟩]
          have d2 : own_start (ch - 32) = 0 := by
            have q := own_isub (rfl : ch.toInt = ch.toInt) (show (32 : Int32).toInt = 32 by decide) (by omega)
            unfold own_start
            rw [if_neg (by omega)]
          have d3 : own_start (96) = 0 := by decide
          have d4 : own_start (123) = 0 := by decide
          refine W_run 42 1 (pc' := 77) (ls' := [.val (.int c), .val (.int pk), .val (.long o), .second, .val (.int 1), .val (.int (own_start c)), .val (.int k), .val (.int ch)]) (st' := [.int ch]) rfl ?_
          refine W_callS (jx := 43) [.int ch] [] (own_m1 hw ch) rfl (hw _ (List.mem_of_getElem? (i := 1) rfl)) (hw _ (List.mem_of_getElem? (i := 2) rfl)) (hw _ (List.mem_of_getElem? (i := 3) rfl)) (hw _ (List.mem_of_getElem? (i := 4) rfl)) (by decide) own_pd1 rfl rfl rfl (by decide) rfl (by decide) (by decide) rfl ?_
          rintro _ _ ⟨rfl, rfl⟩
          show WP _ _ _ _ _ _ _ _ _ _ _ 80 [.val (.int c), .val (.int pk), .val (.long o), .second, .val (.int 1), .val (.int (own_start c)), .val (.int k), .val (.int ch)] [.int (own_start ch)] [] _ _ _
          refine W_ifne (jx := 44) rfl (by decide) (pc' := 85) rfl (fun h80 => ?_) (fun h80 => ?_)
          · skip
            refine W_run 47 3 (pc' := 90) (ls' := [.val (.int c), .val (.int pk), .val (.long o), .second, .val (.int 1), .val (.int (own_start c)), .val (.int k), .val (.int ch)]) (st' := [.int (ch - 32)]) rfl ?_
            refine W_callS (jx := 50) [.int (ch - 32)] [] (own_m1 hw (ch - 32)) rfl (hw _ (List.mem_of_getElem? (i := 1) rfl)) (hw _ (List.mem_of_getElem? (i := 2) rfl)) (hw _ (List.mem_of_getElem? (i := 3) rfl)) (hw _ (List.mem_of_getElem? (i := 4) rfl)) (by decide) own_pd1 rfl rfl rfl (by decide) rfl (by decide) (by decide) rfl ?_
            rintro _ _ ⟨rfl, rfl⟩
            show WP _ _ _ _ _ _ _ _ _ _ _ 93 [.val (.int c), .val (.int pk), .val (.long o), .second, .val (.int 1), .val (.int (own_start c)), .val (.int k), .val (.int ch)] [.int (own_start (ch - 32))] [] _ _ _
            refine W_ifeq (jx := 51) rfl (by decide) (pc' := 98) rfl (fun h93 => ?_) (fun h93 => ?_)
            · skip
              refine W_run 54 1 (pc' := 100) (ls' := [.val (.int c), .val (.int pk), .val (.long o), .second, .val (.int 1), .val (.int (own_start c)), .val (.int k), .val (.int ch)]) (st' := [.int 96]) rfl ?_
              refine W_callS (jx := 55) [.int 96] [] (own_m1 hw (96)) rfl (hw _ (List.mem_of_getElem? (i := 1) rfl)) (hw _ (List.mem_of_getElem? (i := 2) rfl)) (hw _ (List.mem_of_getElem? (i := 3) rfl)) (hw _ (List.mem_of_getElem? (i := 4) rfl)) (by decide) own_pd1 rfl rfl rfl (by decide) rfl (by decide) (by decide) rfl ?_
              rintro _ _ ⟨rfl, rfl⟩
              show WP _ _ _ _ _ _ _ _ _ _ _ 103 [.val (.int c), .val (.int pk), .val (.long o), .second, .val (.int 1), .val (.int (own_start c)), .val (.int k), .val (.int ch)] [.int (own_start (96))] [] _ _ _
              refine W_ifne (jx := 56) rfl (by decide) (pc' := 114) rfl (fun h103 => ?_) (fun h103 => ?_)
              · skip
                exact absurd d3 h103
              · skip
                refine W_run 57 1 (pc' := 108) (ls' := [.val (.int c), .val (.int pk), .val (.long o), .second, .val (.int 1), .val (.int (own_start c)), .val (.int k), .val (.int ch)]) (st' := [.int 123]) rfl ?_
                refine W_callS (jx := 58) [.int 123] [] (own_m1 hw (123)) rfl (hw _ (List.mem_of_getElem? (i := 1) rfl)) (hw _ (List.mem_of_getElem? (i := 2) rfl)) (hw _ (List.mem_of_getElem? (i := 3) rfl)) (hw _ (List.mem_of_getElem? (i := 4) rfl)) (by decide) own_pd1 rfl rfl rfl (by decide) rfl (by decide) (by decide) rfl ?_
                rintro _ _ ⟨rfl, rfl⟩
                show WP _ _ _ _ _ _ _ _ _ _ _ 111 [.val (.int c), .val (.int pk), .val (.long o), .second, .val (.int 1), .val (.int (own_start c)), .val (.int k), .val (.int ch)] [.int (own_start (123))] [] _ _ _
                refine W_ifeq (jx := 59) rfl (by decide) (pc' := 116) rfl (fun h111 => ?_) (fun h111 => ?_)
                · skip
                  refine W_run 62 1 (pc' := 117) (ls' := [.val (.int c), .val (.int pk), .val (.long o), .second, .val (.int 1), .val (.int (own_start c)), .val (.int k), .val (.int ch)]) (st' := [.int 1]) rfl ?_
                  refine W_zreturn (jx := 63) rfl rfl rfl (by decide) (by decide) ?_
                  exact rfl
                · skip
                  exact absurd d4 h111
            · skip
              exact absurd d2 h93
          · skip
            exact absurd (d1.symm.trans h80) (by decide)
      · skip
        exfalso
        unfold own_start at h38
        simp only [Int64.lt_iff_toInt_lt, Int64.reduceToInt] at *
        repeat' split at h38
        all_goals first | omega | (exact absurd rfl h38)
theorem own_hp0 (s : State) : Hp s own_lay s.heap.size (fun _ => 0) s.heap [] := ⟨fun i c h => by simp at h, fun i j hi => absurd hi (Nat.not_lt_zero i), Nat.le_refl _⟩
set_option maxRecDepth 65536 in
set_option maxHeartbeats 40000000 in
theorem comes_1 {Post : Tables → Env → Array Value → State → Outcome → State → Prop} (hpost : ∀ tb e args s v u, (limb_1_1.after args s (.returned v) u = true ∧ limb_1_2.after args s (.returned v) u = true ∧ True) → ReturnedEndW s (.returned v) u (Jvm.fieldLocs frame_1_writes args s ++ Jvm.arrayLocs frame_1_arrays args s ++ Jvm.staticLocs frame_1_statics s) 8 1088 → Post tb e args s (.returned v) u) :
    ArmFor flags0 classFile x code maxLocals ret World_1 tables_1 room_1 Calls_1 rest_1 Pre_1 Post := by
  intro l hfl _ _ p e ha hc hk s m args below hf hA hF happ hP
  obtain ⟨hcalls, hrest, hpre⟩ := hP
  obtain ⟨-, -, -, hnamed, -, -, -, hat⟩ := (Spec.applies_iff hf).mp happ
  obtain ⟨hg, hn⟩ := and_e (Cond.before_iff.mp (show (Jvm.Cond.and given_1 narrow_1).before args s = true from hpre))
  obtain ⟨g0, g1⟩ := and_e hg
  obtain ⟨w0, w1, rfl⟩ : ∃ w0 w1 : Value, args = #[w0, w1] := by
    have hs : args.size = 2 := by simpa [Cond.value, given_1] using g0
    obtain ⟨L⟩ := args
    match L, hs with
    | [w0, w1], _ => exact ⟨w0, w1, rfl⟩
  have hw := fun d (hd : d ∈ tables_1) => atoms_spec (ws := Jvm.Cond.code x code maxLocals ret :: tables_1) hat d (List.mem_cons_of_mem _ hd)
  obtain ⟨q0, r0⟩ := and_e g1
  obtain ⟨i0, e0⟩ := is_v q0
  obtain rfl : w0 = (.int i0) := Option.some.inj e0
  obtain ⟨i1, e1⟩ := is_v r0
  obtain rfl : w1 = (.int i1) := Option.some.inj e1
  obtain ⟨hsets, hown0⟩ := atoms_of _ (rest_1_c_eq ▸ (show rest_1_c.before _ s = true from hrest))
  have n5 := not_v (Cond.before_iff.mp (hsets _ (List.mem_of_getElem? (i := 2) rfl)))
  obtain ⟨G, e10⟩ := is_v (Cond.before_iff.mp (hsets _ (List.mem_of_getElem? (i := 1) rfl)))
  have S1 : Sta s s.heap "java/lang/String" "COMPACT_STRINGS" "Z" (.int G) := Sta.start e10 (Or.inl (hsets _ (List.mem_of_getElem? (i := 0) rfl)))
  obtain ⟨F, e14, hF⟩ := isR_v (Cond.before_iff.mp (hsets _ (List.mem_of_getElem? (i := 8) rfl)))
  have S2 : Sta s s.heap "jdk/internal/util/Preconditions" "SIOOBE_FORMATTER" "Ljava/util/function/BiFunction;" F := Sta.start e14 (Or.inl (hsets _ (List.mem_of_getElem? (i := 7) rfl)))
  have hG : ¬ (G = (0 : Int32)) := gotF (Cond.eq_ints e10 (Term.int_eval (0))) n5
  have hcw : Jvm.Lit.compactW.before #[.int i0, .int i1] s = true := hsets _ (List.mem_of_getElem? (i := 2) rfl)
  have hh : Jvm.Lit.constHeld s x.cls 21 := hcalls.1 (x.cls, 21) (List.mem_of_getElem? (i := 0) rfl)
  obtain ⟨n, o, h1, h2, h3, _, L, rfl, ⟨N, v', A', r', rfl, -, -, rfl⟩, hq⟩ := Q_enter (ws := tables_1) (as := [.int i0, .int i1]) own_pn0 own_D0_ok (own_q hw G F S1 S2 hG hF hcw hh i0 i1) (fun _ => 0) (own_hp0 s) p e ha hc hk s m _ below hf ((Spec.applies_iff_loose hf).mp happ).1 ⟨rfl, rfl⟩ trivial
  refine ⟨n, _, h1, h2, h3, hpost _ _ _ _ _ _ ⟨Cond.after_iff.mpr rfl, Cond.after_iff.mpr (eq_i res_at (Term.int_eval (1)) rfl), trivial⟩ ⟨hq.1, hq.2.1, hq.2.2.1, (hq.2.2.2.sift fun y hy => Or.inr (N y hy)).mono (by decide) (by decide)⟩⟩
theorem main_1_1 : Claimed_1_1 := comes_1 fun _ _ _ _ _ _ h hF => ⟨h.1, hF⟩
theorem main_1_2 : Claimed_1_2 := comes_1 fun _ _ _ _ _ _ h hF => ⟨h.2.1, hF⟩
end Jvm.Pilot.@@N@@
namespace Jvm.Pilot.@@N@@
open Jvm Jvm.ClassFile Sem Op Lib Jvm.Free Jvm.Stand Jvm.Pilot.@@N@@.Jvm.D
/-! MADE BY PROGRAM (witnessworld.py) out of the Statement's table words and the real class files: 17 classes; the members and pool entries that the words name. The judged class is class 1, her method 1. -/
namespace start1
open Jvm.ClassFile
def u (s : String) : CpInfo := .utf8 (stringToUtf16 s)
/-- a pool by its gaps: so many unusable entries, then the entry; so many at the end -/
def gap : Nat → List CpInfo → List CpInfo
  | 0, r => r
  | n + 1, r => .unusable :: gap n r
def poolList (es : List (Nat × CpInfo)) (last : Nat) : List CpInfo := es.foldr (fun e r => gap e.1 (e.2 :: r)) (gap last [])
def pool (es : List (Nat × CpInfo)) (last : Nat) : Array CpInfo := ⟨poolList es last⟩
def fileOf (pool : Array CpInfo) (this : Nat) (attrs : Array Attribute := #[]) (ms : Array MethodInfo := #[]) (fl : Nat := 33) (sup : Nat := 0) (ifs : Array Nat := #[]) (fds : Array FieldInfo := #[]) : ClassFile where
  minorVersion := 0
  majorVersion := 65
  constantPool := pool
  accessFlags := fl
  thisClass := this
  superClass := sup
  interfaces := ifs
  fields := fds
  methods := ms
  attributes := attrs
def plain (name : String) (sup : Option ClassId) : Class where
  name := name
  kind := .ordinary
  loader := none
  accessFlags := 33
  super := sup
  interfaces := #[]
  cf := none
  fields := #[]
  methods := #[]
  instanceTypes := #[]
  staticTypes := #[]
  resolved := #[]
  callSites := []
  init := .initialized
  statics := none
  mirror := none

def pool0 : Array CpInfo := pool [(5, u "<init>"), (0, u "()V"), (1, .class_ 10), (1, u "java/lang/Object")] 113

def k0m0 : Method := { name := "<init>", desc := "()V", sig := { parameters := [], returnType := none }, accessFlags := 1, code := none }
/-- java/lang/Object -/
def k0 : Class := { plain "java/lang/Object" none with
  accessFlags := 33
  interfaces := #[]
  cf := some (fileOf pool0 8 #[] #[{ accessFlags := 1, nameIndex := 5, descriptorIndex := 6, attributes := #[] }] 33 0 #[] #[])
  fields := #[]
  methods := #[k0m0]
  instanceTypes := #[]
  staticTypes := #[]
  resolved := Array.replicate 124 none
  statics := none }

def pool1 : Array CpInfo := pool [(2, .class_ 4), (1, u "java/lang/Object"), (0, u "<init>"), (0, u "()V"), (0, .long 97), (1, .long 26), (1, .methodref 12 13), (0, .class_ 14), (0, .nameAndType 15 16), (0, u "com/example/termwire/termwire/TextSyntax"), (0, u "isBareAtomStart"), (0, u "(I)Z"), (0, .methodref 12 18), (0, .nameAndType 19 16), (0, u "isBareAtomPart"), (0, .integer 2147483647), (0, .string 22), (0, u "abcdefghijklmnopqrstuvwxyz"), (0, .methodref 24 25), (0, .class_ 26), (0, .nameAndType 27 28), (0, u "java/lang/String"), (0, u "charAt"), (0, u "(I)C"), (0, .class_ 30), (0, u "com/example/termwire/termwire/TextSyntaxIsBareAtomStartPinLaw"), (2, u "law"), (0, u "(II)Z")] 3

def k1m0 : Method := { name := "<init>", desc := "()V", sig := { parameters := [], returnType := none }, accessFlags := 2, code := none }
def k1c1 : Code := { maxStack := 4, maxLocals := 8, code := code, exceptionTable := #[], attributes := #[] }
def k1m1 : Method := { name := "law", desc := "(II)Z", sig := { parameters := [.int, .int], returnType := some .boolean }, accessFlags := 9, code := some k1c1 }
/-- com/example/termwire/termwire/TextSyntaxIsBareAtomStartPinLaw -/
def k1 : Class := { plain "com/example/termwire/termwire/TextSyntaxIsBareAtomStartPinLaw" (some 0) with
  accessFlags := 49
  interfaces := #[]
  cf := some (fileOf pool1 29 #[] #[{ accessFlags := 2, nameIndex := 5, descriptorIndex := 6, attributes := #[] }, { accessFlags := 9, nameIndex := 33, descriptorIndex := 34, attributes := #[] }] 49 2 #[] #[])
  fields := #[]
  methods := #[k1m0, k1m1]
  instanceTypes := #[]
  staticTypes := #[]
  resolved := Array.replicate 38 none
  statics := none }

def pool2 : Array CpInfo := pool [(2, .class_ 4), (1, u "java/lang/Object"), (0, u "<init>"), (0, u "()V"), (11, .class_ 20), (1, u "com/example/termwire/termwire/TextSyntax"), (0, u "isBareAtomStart"), (0, u "(I)Z"), (16, u "RESERVED"), (0, u "Ljava/util/Set;"), (73, u "ESCAPED"), (0, u "Ljava/lang/String;"), (1, u "ESCAPE_LETTERS"), (3, u "isBareAtomPart")] 25

def k2m0 : Method := { name := "<init>", desc := "()V", sig := { parameters := [], returnType := none }, accessFlags := 2, code := none }
def k2c1 : Code := { maxStack := 2, maxLocals := 1, code := prog_53_method_2_code, exceptionTable := #[], attributes := #[] }
def k2m1 : Method := { name := "isBareAtomStart", desc := "(I)Z", sig := { parameters := [.int], returnType := some .boolean }, accessFlags := 8, code := some k2c1 }
def k2c2 : Code := { maxStack := 2, maxLocals := 1, code := prog_53_method_3_code, exceptionTable := #[], attributes := #[] }
def k2m2 : Method := { name := "isBareAtomPart", desc := "(I)Z", sig := { parameters := [.int], returnType := some .boolean }, accessFlags := 8, code := some k2c2 }
/-- com/example/termwire/termwire/TextSyntax -/
def k2 : Class := { plain "com/example/termwire/termwire/TextSyntax" (some 0) with
  accessFlags := 48
  interfaces := #[]
  cf := some (fileOf pool2 18 #[] #[{ accessFlags := 2, nameIndex := 5, descriptorIndex := 6, attributes := #[] }, { accessFlags := 8, nameIndex := 21, descriptorIndex := 22, attributes := #[] }, { accessFlags := 8, nameIndex := 121, descriptorIndex := 22, attributes := #[] }] 48 2 #[] #[{ accessFlags := 26, nameIndex := 39, descriptorIndex := 40, attributes := #[] }, { accessFlags := 26, nameIndex := 114, descriptorIndex := 115, attributes := #[] }, { accessFlags := 26, nameIndex := 117, descriptorIndex := 115, attributes := #[] }])
  fields := #[{ name := "RESERVED", type := (.object "java/util/Set"), accessFlags := 26, slot := 0, constantValue := 0 }, { name := "ESCAPED", type := (.object "java/lang/String"), accessFlags := 26, slot := 1, constantValue := 0 }, { name := "ESCAPE_LETTERS", type := (.object "java/lang/String"), accessFlags := 26, slot := 2, constantValue := 0 }]
  methods := #[k2m0, k2m1, k2m2]
  instanceTypes := #[]
  staticTypes := #[(.object "java/util/Set"), (.object "java/lang/String"), (.object "java/lang/String")]
  resolved := Array.replicate 147 none
  statics := none }

def pool3 : Array CpInfo := pool [(1, .class_ 2), (0, u "java/io/Serializable"), (0, .class_ 4), (0, u "java/lang/Object")] 2

/-- java/io/Serializable -/
def k3 : Class := { plain "java/io/Serializable" (some 0) with
  accessFlags := 1537
  interfaces := #[]
  cf := some (fileOf pool3 1 #[] #[] 1537 3 #[] #[])
  fields := #[]
  methods := #[]
  instanceTypes := #[]
  staticTypes := #[]
  resolved := Array.replicate 7 none
  statics := none }

def pool4 : Array CpInfo := pool [(1, .class_ 2), (0, u "java/lang/Comparable"), (0, .class_ 4), (0, u "java/lang/Object")] 7

/-- java/lang/Comparable -/
def k4 : Class := { plain "java/lang/Comparable" (some 0) with
  accessFlags := 1537
  interfaces := #[]
  cf := some (fileOf pool4 1 #[] #[] 1537 3 #[] #[])
  fields := #[]
  methods := #[]
  instanceTypes := #[]
  staticTypes := #[]
  resolved := Array.replicate 12 none
  statics := none }

def pool5 : Array CpInfo := pool [(2, .class_ 4), (1, u "java/lang/CharSequence"), (42, .class_ 48), (0, u "java/lang/CharSequence$1CodePointIterator"), (10, .class_ 60), (0, u "java/lang/CharSequence$1CharIterator"), (5, .class_ 67), (0, u "java/lang/Object")] 63

/-- java/lang/CharSequence -/
def k5 : Class := { plain "java/lang/CharSequence" (some 0) with
  accessFlags := 1537
  interfaces := #[]
  cf := some (fileOf pool5 2 #[.nestMembers #[47, 59]] #[] 1537 66 #[] #[])
  fields := #[]
  methods := #[]
  instanceTypes := #[]
  staticTypes := #[]
  resolved := Array.replicate 131 none
  statics := none }

def pool6 : Array CpInfo := pool [(1, .class_ 2), (0, u "java/lang/constant/Constable"), (0, .class_ 4), (0, u "java/lang/Object")] 6

/-- java/lang/constant/Constable -/
def k6 : Class := { plain "java/lang/constant/Constable" (some 0) with
  accessFlags := 1537
  interfaces := #[]
  cf := some (fileOf pool6 1 #[] #[] 1537 3 #[] #[])
  fields := #[]
  methods := #[]
  instanceTypes := #[]
  staticTypes := #[]
  resolved := Array.replicate 11 none
  statics := none }

def pool7 : Array CpInfo := pool [(1, .class_ 2), (0, u "java/lang/constant/ConstantDesc"), (0, .class_ 4), (0, u "java/lang/Object")] 32

/-- java/lang/constant/ConstantDesc -/
def k7 : Class := { plain "java/lang/constant/ConstantDesc" (some 0) with
  accessFlags := 1537
  interfaces := #[]
  cf := some (fileOf pool7 1 #[] #[] 1537 3 #[] #[])
  fields := #[]
  methods := #[]
  instanceTypes := #[]
  staticTypes := #[]
  resolved := Array.replicate 37 none
  statics := none }

def pool8 : Array CpInfo := pool [(2, .class_ 4), (1, u "java/lang/Object"), (0, u "<init>"), (0, u "()V"), (2, .fieldref 10 11), (0, .class_ 12), (0, .nameAndType 13 14), (0, u "java/lang/String"), (0, u "value"), (0, u "[B"), (0, .fieldref 10 16), (0, .nameAndType 17 18), (0, u "coder"), (0, u "B"), (2, u "hash"), (0, u "I"), (2, u "hashIsZero"), (0, u "Z"), (11, .fieldref 10 39), (0, .nameAndType 40 26), (0, u "COMPACT_STRINGS"), (66, .class_ 109), (1, u "java/lang/StringLatin1"), (32, u "()Z"), (220, u "([BI)C"), (27, u "(II)V"), (35, u "(I)C"), (64, .methodref 10 493), (0, .nameAndType 494 142), (0, u "isLatin1"), (0, .methodref 107 496), (0, .nameAndType 497 363), (0, u "charAt"), (3, u "checkIndex"), (73, .class_ 576), (0, u "java/lang/CharSequence"), (22, u "CASE_INSENSITIVE_ORDER"), (0, u "Ljava/util/Comparator;"), (452, .fieldref 1054 1055), (0, .class_ 1056), (0, .nameAndType 1057 1058), (0, u "jdk/internal/util/Preconditions"), (0, u "SIOOBE_FORMATTER"), (0, u "Ljava/util/function/BiFunction;"), (0, .methodref 1054 1060), (0, .nameAndType 501 1061), (0, u "(IILjava/util/function/BiFunction;)I"), (39, u "serialPersistentFields"), (0, u "[Ljava/io/ObjectStreamField;"), (0, .class_ 1104), (0, u "java/lang/String$CaseInsensitiveComparator"), (1, .class_ 1107), (0, u "java/io/Serializable"), (0, .class_ 1109), (0, u "java/lang/Comparable"), (0, .class_ 1111), (0, u "java/lang/constant/Constable"), (0, .class_ 1113), (0, u "java/lang/constant/ConstantDesc"), (2, u "serialVersionUID"), (0, u "J"), (3, u "REPL"), (0, u "C"), (2, u "LATIN1"), (1, u "UTF16")] 323

def k8m0 : Method := { name := "<init>", desc := "()V", sig := { parameters := [], returnType := none }, accessFlags := 1, code := none }
def k8c1 : Code := { maxStack := 2, maxLocals := 2, code := jdk_42_method_56_code, exceptionTable := #[], attributes := #[] }
def k8m1 : Method := { name := "charAt", desc := "(I)C", sig := { parameters := [.int], returnType := some .char }, accessFlags := 1, code := some k8c1 }
def k8c2 : Code := { maxStack := 1, maxLocals := 1, code := jdk_42_method_154_code, exceptionTable := #[], attributes := #[] }
def k8m2 : Method := { name := "isLatin1", desc := "()Z", sig := { parameters := [], returnType := some .boolean }, accessFlags := 0, code := some k8c2 }
def k8c3 : Code := { maxStack := 3, maxLocals := 2, code := jdk_42_method_155_code, exceptionTable := #[], attributes := #[] }
def k8m3 : Method := { name := "checkIndex", desc := "(II)V", sig := { parameters := [.int, .int], returnType := none }, accessFlags := 8, code := some k8c3 }
/-- java/lang/String -/
def k8 : Class := { plain "java/lang/String" (some 0) with
  accessFlags := 49
  interfaces := #[3, 4, 5, 6, 7]
  cf := some (fileOf pool8 10 #[.nestMembers #[1103]] #[{ accessFlags := 1, nameIndex := 5, descriptorIndex := 6, attributes := #[] }, { accessFlags := 1, nameIndex := 497, descriptorIndex := 427, attributes := #[] }, { accessFlags := 0, nameIndex := 494, descriptorIndex := 142, attributes := #[] }, { accessFlags := 8, nameIndex := 501, descriptorIndex := 391, attributes := #[] }] 49 2 #[1106, 1108, 575, 1110, 1112] #[{ accessFlags := 18, nameIndex := 13, descriptorIndex := 14, attributes := #[] }, { accessFlags := 18, nameIndex := 17, descriptorIndex := 18, attributes := #[] }, { accessFlags := 2, nameIndex := 21, descriptorIndex := 22, attributes := #[] }, { accessFlags := 2, nameIndex := 25, descriptorIndex := 26, attributes := #[] }, { accessFlags := 26, nameIndex := 1116, descriptorIndex := 1117, attributes := #[] }, { accessFlags := 24, nameIndex := 40, descriptorIndex := 26, attributes := #[] }, { accessFlags := 26, nameIndex := 1101, descriptorIndex := 1102, attributes := #[] }, { accessFlags := 26, nameIndex := 1121, descriptorIndex := 1122, attributes := #[] }, { accessFlags := 25, nameIndex := 599, descriptorIndex := 600, attributes := #[] }, { accessFlags := 24, nameIndex := 1125, descriptorIndex := 18, attributes := #[] }, { accessFlags := 24, nameIndex := 1127, descriptorIndex := 18, attributes := #[] }])
  fields := #[{ name := "value", type := (.array .byte), accessFlags := 18, slot := 0, constantValue := 0 }, { name := "coder", type := .byte, accessFlags := 18, slot := 1, constantValue := 0 }, { name := "hash", type := .int, accessFlags := 2, slot := 2, constantValue := 0 }, { name := "hashIsZero", type := .boolean, accessFlags := 2, slot := 3, constantValue := 0 }, { name := "serialVersionUID", type := .long, accessFlags := 26, slot := 0, constantValue := 0 }, { name := "COMPACT_STRINGS", type := .boolean, accessFlags := 24, slot := 1, constantValue := 0 }, { name := "serialPersistentFields", type := (.array (.object "java/io/ObjectStreamField")), accessFlags := 26, slot := 2, constantValue := 0 }, { name := "REPL", type := .char, accessFlags := 26, slot := 3, constantValue := 0 }, { name := "CASE_INSENSITIVE_ORDER", type := (.object "java/util/Comparator"), accessFlags := 25, slot := 4, constantValue := 0 }, { name := "LATIN1", type := .byte, accessFlags := 24, slot := 5, constantValue := 0 }, { name := "UTF16", type := .byte, accessFlags := 24, slot := 6, constantValue := 0 }]
  methods := #[k8m0, k8m1, k8m2, k8m3]
  instanceTypes := #[(.array .byte), .byte, .int, .boolean]
  staticTypes := #[.long, .boolean, (.array (.object "java/io/ObjectStreamField")), .char, (.object "java/util/Comparator"), .byte, .byte]
  resolved := Array.replicate 1451 none
  statics := some 0 }

def pool9 : Array CpInfo := pool [(1, .class_ 2), (0, u "java/lang/String"), (1, .class_ 6), (1, u "java/lang/Object"), (0, u "<init>"), (0, u "()V"), (0, .methodref 1 10), (0, .nameAndType 11 12), (0, u "checkIndex"), (0, u "(II)V"), (1, .class_ 16), (1, u "java/lang/StringLatin1"), (36, u "([BI)C"), (67, u "$assertionsDisabled"), (0, u "Z"), (98, .class_ 223), (1, u "java/lang/StringLatin1$LinesSpliterator"), (28, u "charAt"), (137, .class_ 391), (0, u "java/lang/StringLatin1$CharsSpliterator")] 3

def k9m0 : Method := { name := "<init>", desc := "()V", sig := { parameters := [], returnType := none }, accessFlags := 0, code := none }
def k9c1 : Code := { maxStack := 2, maxLocals := 2, code := jdk_43_method_2_code, exceptionTable := #[], attributes := #[] }
def k9m1 : Method := { name := "charAt", desc := "([BI)C", sig := { parameters := [(.array .byte), .int], returnType := some .char }, accessFlags := 9, code := some k9c1 }
/-- java/lang/StringLatin1 -/
def k9 : Class := { plain "java/lang/StringLatin1" (some 0) with
  accessFlags := 48
  interfaces := #[]
  cf := some (fileOf pool9 14 #[.nestMembers #[390, 221]] #[{ accessFlags := 0, nameIndex := 7, descriptorIndex := 8, attributes := #[] }, { accessFlags := 9, nameIndex := 252, descriptorIndex := 53, attributes := #[] }] 48 4 #[] #[{ accessFlags := 4120, nameIndex := 121, descriptorIndex := 122, attributes := #[] }])
  fields := #[{ name := "$assertionsDisabled", type := .boolean, accessFlags := 4120, slot := 0, constantValue := 0 }]
  methods := #[k9m0, k9m1]
  instanceTypes := #[]
  staticTypes := #[.boolean]
  resolved := Array.replicate 395 none
  statics := none }

def pool10 : Array CpInfo := pool [(2, .class_ 4), (1, u "java/lang/Object"), (0, u "<init>"), (0, u "()V"), (17, .class_ 26), (1, u "jdk/internal/util/Preconditions"), (6, u "checkIndex"), (21, .class_ 56), (0, u "jdk/internal/util/Preconditions$4"), (57, .class_ 115), (0, u "jdk/internal/util/Preconditions$1"), (7, u "SIOOBE_FORMATTER"), (0, u "Ljava/util/function/BiFunction;"), (0, .class_ 126), (0, u "jdk/internal/util/Preconditions$2"), (3, u "AIOOBE_FORMATTER"), (0, .class_ 132), (0, u "jdk/internal/util/Preconditions$3"), (3, u "IOOBE_FORMATTER"), (41, u "(IILjava/util/function/BiFunction;)I")] 15

def k10m0 : Method := { name := "<init>", desc := "()V", sig := { parameters := [], returnType := none }, accessFlags := 1, code := none }
def k10c1 : Code := { maxStack := 3, maxLocals := 3, code := jdk_41_method_11_code, exceptionTable := #[], attributes := #[] }
def k10m1 : Method := { name := "checkIndex", desc := "(IILjava/util/function/BiFunction;)I", sig := { parameters := [.int, .int, (.object "java/util/function/BiFunction")], returnType := some .int }, accessFlags := 9, code := some k10c1 }
/-- jdk/internal/util/Preconditions -/
def k10 : Class := { plain "jdk/internal/util/Preconditions" (some 0) with
  accessFlags := 33
  interfaces := #[]
  cf := some (fileOf pool10 24 #[.nestMembers #[55, 131, 125, 114]] #[{ accessFlags := 1, nameIndex := 5, descriptorIndex := 6, attributes := #[] }, { accessFlags := 9, nameIndex := 33, descriptorIndex := 178, attributes := #[] }] 33 2 #[] #[{ accessFlags := 25, nameIndex := 123, descriptorIndex := 124, attributes := #[] }, { accessFlags := 25, nameIndex := 130, descriptorIndex := 124, attributes := #[] }, { accessFlags := 25, nameIndex := 136, descriptorIndex := 124, attributes := #[] }])
  fields := #[{ name := "SIOOBE_FORMATTER", type := (.object "java/util/function/BiFunction"), accessFlags := 25, slot := 0, constantValue := 0 }, { name := "AIOOBE_FORMATTER", type := (.object "java/util/function/BiFunction"), accessFlags := 25, slot := 1, constantValue := 0 }, { name := "IOOBE_FORMATTER", type := (.object "java/util/function/BiFunction"), accessFlags := 25, slot := 2, constantValue := 0 }]
  methods := #[k10m0, k10m1]
  instanceTypes := #[]
  staticTypes := #[(.object "java/util/function/BiFunction"), (.object "java/util/function/BiFunction"), (.object "java/util/function/BiFunction")]
  resolved := Array.replicate 194 none
  statics := some 1 }

def pool11 : Array CpInfo := pool [(9, u "<init>"), (6, .class_ 18), (1, u "java/lang/Object"), (0, u "()V"), (1, .class_ 23), (1, u "jdk/internal/util/ArraysSupport"), (0, u "LOG2_ARRAY_LONG_INDEX_SCALE"), (0, u "I"), (2, u "U"), (0, u "Ljdk/internal/misc/Unsafe;"), (8, u "BIG_ENDIAN"), (0, u "Z"), (8, u "LOG2_BYTE_BIT_SIZE"), (4, u "LOG2_ARRAY_INT_INDEX_SCALE"), (54, u "JLA"), (0, u "Ljdk/internal/access/JavaLangAccess;"), (11, u "LOG2_ARRAY_BOOLEAN_INDEX_SCALE"), (9, u "LOG2_ARRAY_BYTE_INDEX_SCALE"), (5, u "LOG2_ARRAY_CHAR_INDEX_SCALE"), (5, u "LOG2_ARRAY_SHORT_INDEX_SCALE"), (18, u "LOG2_ARRAY_FLOAT_INDEX_SCALE"), (24, u "LOG2_ARRAY_DOUBLE_INDEX_SCALE"), (89, u "T_BOOLEAN"), (2, u "T_CHAR"), (1, u "T_FLOAT"), (1, u "T_DOUBLE"), (1, u "T_BYTE"), (1, u "T_SHORT"), (1, u "T_INT"), (1, u "T_LONG"), (1, u "SOFT_MAX_ARRAY_LENGTH")] 83

def k11m0 : Method := { name := "<init>", desc := "()V", sig := { parameters := [], returnType := none }, accessFlags := 2, code := none }
/-- jdk/internal/util/ArraysSupport -/
def k11 : Class := { plain "jdk/internal/util/ArraysSupport" (some 0) with
  accessFlags := 33
  interfaces := #[]
  cf := some (fileOf pool11 21 #[] #[{ accessFlags := 2, nameIndex := 9, descriptorIndex := 19, attributes := #[] }] 33 16 #[] #[{ accessFlags := 24, nameIndex := 28, descriptorIndex := 29, attributes := #[] }, { accessFlags := 26, nameIndex := 38, descriptorIndex := 39, attributes := #[] }, { accessFlags := 25, nameIndex := 121, descriptorIndex := 25, attributes := #[] }, { accessFlags := 25, nameIndex := 131, descriptorIndex := 25, attributes := #[] }, { accessFlags := 25, nameIndex := 137, descriptorIndex := 25, attributes := #[] }, { accessFlags := 25, nameIndex := 143, descriptorIndex := 25, attributes := #[] }, { accessFlags := 25, nameIndex := 53, descriptorIndex := 25, attributes := #[] }, { accessFlags := 25, nameIndex := 24, descriptorIndex := 25, attributes := #[] }, { accessFlags := 25, nameIndex := 162, descriptorIndex := 25, attributes := #[] }, { accessFlags := 25, nameIndex := 187, descriptorIndex := 25, attributes := #[] }, { accessFlags := 26, nameIndex := 48, descriptorIndex := 25, attributes := #[] }, { accessFlags := 25, nameIndex := 277, descriptorIndex := 25, attributes := #[] }, { accessFlags := 25, nameIndex := 280, descriptorIndex := 25, attributes := #[] }, { accessFlags := 25, nameIndex := 282, descriptorIndex := 25, attributes := #[] }, { accessFlags := 25, nameIndex := 284, descriptorIndex := 25, attributes := #[] }, { accessFlags := 25, nameIndex := 286, descriptorIndex := 25, attributes := #[] }, { accessFlags := 25, nameIndex := 288, descriptorIndex := 25, attributes := #[] }, { accessFlags := 25, nameIndex := 290, descriptorIndex := 25, attributes := #[] }, { accessFlags := 25, nameIndex := 292, descriptorIndex := 25, attributes := #[] }, { accessFlags := 26, nameIndex := 108, descriptorIndex := 109, attributes := #[] }, { accessFlags := 25, nameIndex := 294, descriptorIndex := 25, attributes := #[] }])
  fields := #[{ name := "U", type := (.object "jdk/internal/misc/Unsafe"), accessFlags := 24, slot := 0, constantValue := 0 }, { name := "BIG_ENDIAN", type := .boolean, accessFlags := 26, slot := 1, constantValue := 0 }, { name := "LOG2_ARRAY_BOOLEAN_INDEX_SCALE", type := .int, accessFlags := 25, slot := 2, constantValue := 0 }, { name := "LOG2_ARRAY_BYTE_INDEX_SCALE", type := .int, accessFlags := 25, slot := 3, constantValue := 0 }, { name := "LOG2_ARRAY_CHAR_INDEX_SCALE", type := .int, accessFlags := 25, slot := 4, constantValue := 0 }, { name := "LOG2_ARRAY_SHORT_INDEX_SCALE", type := .int, accessFlags := 25, slot := 5, constantValue := 0 }, { name := "LOG2_ARRAY_INT_INDEX_SCALE", type := .int, accessFlags := 25, slot := 6, constantValue := 0 }, { name := "LOG2_ARRAY_LONG_INDEX_SCALE", type := .int, accessFlags := 25, slot := 7, constantValue := 0 }, { name := "LOG2_ARRAY_FLOAT_INDEX_SCALE", type := .int, accessFlags := 25, slot := 8, constantValue := 0 }, { name := "LOG2_ARRAY_DOUBLE_INDEX_SCALE", type := .int, accessFlags := 25, slot := 9, constantValue := 0 }, { name := "LOG2_BYTE_BIT_SIZE", type := .int, accessFlags := 26, slot := 10, constantValue := 0 }, { name := "T_BOOLEAN", type := .int, accessFlags := 25, slot := 11, constantValue := 0 }, { name := "T_CHAR", type := .int, accessFlags := 25, slot := 12, constantValue := 0 }, { name := "T_FLOAT", type := .int, accessFlags := 25, slot := 13, constantValue := 0 }, { name := "T_DOUBLE", type := .int, accessFlags := 25, slot := 14, constantValue := 0 }, { name := "T_BYTE", type := .int, accessFlags := 25, slot := 15, constantValue := 0 }, { name := "T_SHORT", type := .int, accessFlags := 25, slot := 16, constantValue := 0 }, { name := "T_INT", type := .int, accessFlags := 25, slot := 17, constantValue := 0 }, { name := "T_LONG", type := .int, accessFlags := 25, slot := 18, constantValue := 0 }, { name := "JLA", type := (.object "jdk/internal/access/JavaLangAccess"), accessFlags := 26, slot := 19, constantValue := 0 }, { name := "SOFT_MAX_ARRAY_LENGTH", type := .int, accessFlags := 25, slot := 20, constantValue := 0 }]
  methods := #[k11m0]
  instanceTypes := #[]
  staticTypes := #[(.object "jdk/internal/misc/Unsafe"), .boolean, .int, .int, .int, .int, .int, .int, .int, .int, .int, .int, .int, .int, .int, .int, .int, .int, .int, (.object "jdk/internal/access/JavaLangAccess"), .int]
  resolved := Array.replicate 378 none
  statics := none }

def pool12 : Array CpInfo := pool [(1, u "java/lang/Cloneable"), (0, .class_ 1), (0, u "java/lang/Object"), (0, .class_ 3)] 3

/-- java/lang/Cloneable -/
def k12 : Class := { plain "java/lang/Cloneable" (some 0) with
  accessFlags := 1537
  interfaces := #[]
  cf := some (fileOf pool12 2 #[] #[] 1537 4 #[] #[])
  fields := #[]
  methods := #[]
  instanceTypes := #[]
  staticTypes := #[]
  resolved := Array.replicate 8 none
  statics := none }

/-- the primitive byte -/
def k13 : Class := { plain "byte" none with kind := .primitive 'B', accessFlags := 0x411 }
/-- [B -/
def k14 : Class := { plain "[B" (some 0) with kind := .array 13 .byte, interfaces := #[12, 3], accessFlags := 1041 }

/-- the primitive int -/
def k15 : Class := { plain "int" none with kind := .primitive 'I', accessFlags := 0x411 }
/-- [I -/
def k16 : Class := { plain "[I" (some 0) with kind := .array 15 .int, interfaces := #[12, 3], accessFlags := 1041 }

def heap : Heap := #[{ cls := 8, slots := #[.long 0, .int 1, .null, .int 0, .null, .int 0, .int 0], vm := .statics 8 },
  { cls := 10, slots := #[.null, .null, .null], vm := .statics 10 }]
def classes : Array Class := #[k0, k1, k2, k3, k4, k5, k6, k7, k8, k9, k10, k11, k12, k13, k14, k15, k16]
def interned : List (Array UInt16 × Addr) := []
def slotsUsed : Nat := 10
def theMethod : MethodId := ⟨1, 1⟩
def args0 : Array Value := #[.int 100, .int 5]
def aboutOver (below : List Frame) : State where
  vm := { classes := classes, interned := interned.toArray }
  heap := heap
  slotsUsed := slotsUsed
  threads := #[{ frames := .invoking theMethod args0 :: below }]
def below0 : List Frame := [.native { method := ⟨0, 0⟩, args := #[] }]
def about1 : State := aboutOver below0
def p0 : Program := .bare "" "" ""
def e0 : Env := launch0.env 0 0 0
theorem w_frames : about1.frames = Frame.invoking theMethod args0 :: below0 := rfl
set_option maxRecDepth 65536 in
theorem w_args : argsFit about1.vm theMethod args0 = true := by decide +kernel
set_option maxRecDepth 65536 in
theorem w_heap : heapFits about1 = true := by decide +kernel
set_option maxRecDepth 65536 in
theorem w_runnable : about1.curStatus? = some .runnable := by decide +kernel
set_option maxRecDepth 65536 in
theorem w_alone : about1.alone = true := by decide +kernel
set_option maxRecDepth 65536 in
theorem w_named : about1.methodNamed? x = some theMethod := by decide +kernel
set_option maxRecDepth 65536 in
theorem w_hears : about1.hears theMethod below0 = true := by decide +kernel
set_option maxRecDepth 65536 in
theorem w_ripe : about1.ripe theMethod args0 below0 = true := by decide +kernel
theorem w_running : about1.status = .running := rfl
set_option maxRecDepth 65536 in
theorem w_room : about1.hasRoom e0.platform room_1 = true :=
  launch0.hasRoom_least _ room_1 (by decide +kernel) (by decide +kernel) (by decide +kernel) (by decide +kernel) (by decide +kernel) (by decide +kernel)
theorem allAtoms_all (ts : List Jvm.Cond) (a : Array Jvm.Value) (st : Jvm.State) : (allAtoms ts).before a st = ts.all (fun c => c.before a st) := by
  induction ts with
  | nil => rfl
  | cons c t ih =>
    show (Jvm.Cond.and c (allAtoms t)).before a st = _
    rw [Jvm.Cond.before_and, ih, List.all_cons]
def words1 : List Jvm.Cond := Jvm.Cond.code x code maxLocals ret :: tables_1
/-- a 'code' word, met by the world's own term for the bytes: nothing is compared byte by byte -/
theorem code_word {y : MethodName} {bytes : ByteArray} {mx : Nat} {rt : Option FieldType} {a : Array Value} {s : State} {m : MethodId} {meth : Method} {c : Code} (h1 : s.methodNamed? y = some m) (h2 : s.vm.method? m = some meth) (h3 : meth.code = some c) (h4 : c.code = bytes)
    (h5 : (c.maxLocals == mx && c.exceptionTable.isEmpty && decide (c.maxStack ≤ mostOperands) && decide (meth.sig.returnType = rt) && !meth.locks && decide (parseMethodDescriptor y.desc = some meth.sig)) = true) : (Jvm.Cond.code y bytes mx rt).before a s = true := by
  simp only [Bool.and_eq_true, beq_iff_eq, Bool.not_eq_true', decide_eq_true_eq] at h5
  obtain ⟨⟨⟨⟨⟨g1, g2⟩, g3⟩, g4⟩, g5⟩, g6⟩ := h5
  simp [Cond.before, Cond.holds, Cond.value, h1, h2, h3, h4, g1, g2, g3, g4, g5, g6]
def isCode : Jvm.Cond → Bool
  | .code _ _ _ _ => true
  | _ => false
theorem all_split {L : List Jvm.Cond} {P : Jvm.Cond → Bool} (h1 : L.all (fun c => isCode c || P c) = true) (h2 : ∀ c ∈ L.filter isCode, P c = true) : L.all P = true := by
  refine List.all_eq_true.mpr fun c hc => ?_
  have h := List.all_eq_true.mp h1 c hc
  rcases Bool.eq_false_or_eq_true (isCode c) with hi | hi
  · exact h2 c (List.mem_filter.mpr ⟨hc, hi⟩)
  · simpa [hi] using h
set_option maxRecDepth 65536 in
theorem w_c0 : (Jvm.Cond.code x code maxLocals ret).before args0 about1 = true := code_word (m := ⟨1, 1⟩) (meth := k1m1) (c := k1c1) (by decide +kernel) rfl rfl rfl (by decide +kernel)
set_option maxRecDepth 65536 in
theorem w_c1 : (Jvm.Cond.code ({ cls := "com/example/termwire/termwire/TextSyntax", name := "isBareAtomStart", desc := "(I)Z" } : Jvm.MethodName) prog_53_method_2_code (1 : Nat) (Option.some Jvm.ClassFile.FieldType.boolean)).before args0 about1 = true := code_word (m := ⟨2, 1⟩) (meth := k2m1) (c := k2c1) (by decide +kernel) rfl rfl rfl (by decide +kernel)
set_option maxRecDepth 65536 in
theorem w_c2 : (Jvm.Cond.code ({ cls := "java/lang/String", name := "charAt", desc := "(I)C" } : Jvm.MethodName) jdk_42_method_56_code (2 : Nat) (Option.some Jvm.ClassFile.FieldType.char)).before args0 about1 = true := code_word (m := ⟨8, 1⟩) (meth := k8m1) (c := k8c1) (by decide +kernel) rfl rfl rfl (by decide +kernel)
set_option maxRecDepth 65536 in
theorem w_c3 : (Jvm.Cond.code ({ cls := "java/lang/String", name := "isLatin1", desc := "()Z" } : Jvm.MethodName) jdk_42_method_154_code (1 : Nat) (Option.some Jvm.ClassFile.FieldType.boolean)).before args0 about1 = true := code_word (m := ⟨8, 2⟩) (meth := k8m2) (c := k8c2) (by decide +kernel) rfl rfl rfl (by decide +kernel)
set_option maxRecDepth 65536 in
theorem w_c4 : (Jvm.Cond.code ({ cls := "java/lang/StringLatin1", name := "charAt", desc := "([BI)C" } : Jvm.MethodName) jdk_43_method_2_code (2 : Nat) (Option.some Jvm.ClassFile.FieldType.char)).before args0 about1 = true := code_word (m := ⟨9, 1⟩) (meth := k9m1) (c := k9c1) (by decide +kernel) rfl rfl rfl (by decide +kernel)
set_option maxRecDepth 65536 in
theorem w_c5 : (Jvm.Cond.code ({ cls := "java/lang/String", name := "checkIndex", desc := "(II)V" } : Jvm.MethodName) jdk_42_method_155_code (2 : Nat) (Option.none : Option Jvm.ClassFile.FieldType)).before args0 about1 = true := code_word (m := ⟨8, 3⟩) (meth := k8m3) (c := k8c3) (by decide +kernel) rfl rfl rfl (by decide +kernel)
set_option maxRecDepth 65536 in
theorem w_c6 : (Jvm.Cond.code ({ cls := "jdk/internal/util/Preconditions", name := "checkIndex", desc := "(IILjava/util/function/BiFunction;)I" } : Jvm.MethodName) jdk_41_method_11_code (3 : Nat) (Option.some Jvm.ClassFile.FieldType.int)).before args0 about1 = true := code_word (m := ⟨10, 1⟩) (meth := k10m1) (c := k10c1) (by decide +kernel) rfl rfl rfl (by decide +kernel)
set_option maxRecDepth 65536 in
theorem w_c7 : (Jvm.Cond.code ({ cls := "com/example/termwire/termwire/TextSyntax", name := "isBareAtomPart", desc := "(I)Z" } : Jvm.MethodName) prog_53_method_3_code (1 : Nat) (Option.some Jvm.ClassFile.FieldType.boolean)).before args0 about1 = true := code_word (m := ⟨2, 2⟩) (meth := k2m2) (c := k2c2) (by decide +kernel) rfl rfl rfl (by decide +kernel)
def codes1 : List Jvm.Cond := [Jvm.Cond.code x code maxLocals ret, Jvm.Cond.code ({ cls := "com/example/termwire/termwire/TextSyntax", name := "isBareAtomStart", desc := "(I)Z" } : Jvm.MethodName) prog_53_method_2_code (1 : Nat) (Option.some Jvm.ClassFile.FieldType.boolean), Jvm.Cond.code ({ cls := "java/lang/String", name := "charAt", desc := "(I)C" } : Jvm.MethodName) jdk_42_method_56_code (2 : Nat) (Option.some Jvm.ClassFile.FieldType.char), Jvm.Cond.code ({ cls := "java/lang/String", name := "isLatin1", desc := "()Z" } : Jvm.MethodName) jdk_42_method_154_code (1 : Nat) (Option.some Jvm.ClassFile.FieldType.boolean), Jvm.Cond.code ({ cls := "java/lang/StringLatin1", name := "charAt", desc := "([BI)C" } : Jvm.MethodName) jdk_43_method_2_code (2 : Nat) (Option.some Jvm.ClassFile.FieldType.char), Jvm.Cond.code ({ cls := "java/lang/String", name := "checkIndex", desc := "(II)V" } : Jvm.MethodName) jdk_42_method_155_code (2 : Nat) (Option.none : Option Jvm.ClassFile.FieldType), Jvm.Cond.code ({ cls := "jdk/internal/util/Preconditions", name := "checkIndex", desc := "(IILjava/util/function/BiFunction;)I" } : Jvm.MethodName) jdk_41_method_11_code (3 : Nat) (Option.some Jvm.ClassFile.FieldType.int), Jvm.Cond.code ({ cls := "com/example/termwire/termwire/TextSyntax", name := "isBareAtomPart", desc := "(I)Z" } : Jvm.MethodName) prog_53_method_3_code (1 : Nat) (Option.some Jvm.ClassFile.FieldType.boolean)]
set_option maxRecDepth 65536 in
theorem codes_eq : words1.filter isCode = codes1 := rfl
theorem w_codes : ∀ c ∈ words1.filter isCode, c.before args0 about1 = true := by
  rw [codes_eq]
  intro c hc
  simp only [codes1, List.mem_cons, List.not_mem_nil, or_false] at hc
  rcases hc with rfl | rfl | rfl | rfl | rfl | rfl | rfl | rfl
  · exact w_c0
  · exact w_c1
  · exact w_c2
  · exact w_c3
  · exact w_c4
  · exact w_c5
  · exact w_c6
  · exact w_c7
set_option maxRecDepth 65536 in
theorem w_t1 : (words1.take 24).all (fun c => isCode c || c.before args0 about1) = true := by decide +kernel
set_option maxRecDepth 65536 in
theorem w_t2 : (words1.drop 24).all (fun c => isCode c || c.before args0 about1) = true := by decide +kernel
theorem w_tables : (allAtoms (Jvm.Cond.code x code maxLocals ret :: tables_1)).before args0 about1 = true := by
  rw [allAtoms_all]
  show words1.all (fun c => c.before args0 about1) = true
  refine all_split ?_ w_codes
  rw [← List.take_append_drop 24 words1, List.all_append, w_t1, w_t2]
  rfl
set_option maxRecDepth 65536 in
theorem w_rest : rest_1_c.before args0 about1 = true := by decide +kernel
set_option maxRecDepth 65536 in
theorem w_case : (Jvm.Cond.and given_1 narrow_1).before args0 about1 = true := by decide +kernel
set_option maxRecDepth 65536 in
theorem w_consts : constsHeld consts_1 about1 := Jvm.Lit.constsHeldB_iff.mp (by decide +kernel)
theorem w_applies : (headSpec (Jvm.Cond.code x code maxLocals ret :: tables_1) room_1).applies x e0.platform about1 = true :=
  (Spec.applies_iff w_frames).mpr ⟨w_running, w_runnable, w_alone, w_named, w_hears, w_ripe, w_room, w_tables⟩
theorem atStart : AtStart classFile x code maxLocals ret World_1 tables_1 room_1 Calls_1 rest_1 Pre_1 launch0 p0 e0 about1 theMethod args0 below0 :=
  ⟨lists_1, trivial, launch0.admits_env _ _ _, launch0.least_env, fairChoices_fair.cas, fairChoices_fair.clock, w_frames, w_args, w_heap, w_applies, ⟨w_consts, trivial⟩, w_rest, w_case⟩
end start1
theorem witness_1 : WitnessClaimed_1 := ⟨start1.p0, start1.e0, start1.about1, start1.theMethod, start1.args0, start1.below0, start1.atStart⟩
end Jvm.Pilot.@@N@@
