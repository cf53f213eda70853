import JvmDerived
import JvmDerived.Pilot.@@N@@Statement
import JvmDerived.Pilot.@@N@@Code
set_option linter.unusedVariables false
set_option linter.unusedSimpArgs false
namespace Jvm.OwnKit
open Jvm Jvm.ClassFile Sem Op Lib Jvm.Free Jvm.Stand Jvm.LawKit Jvm.RoadKit Bundle

theorem own_b8 (x : Int32) : x.toInt8.toInt32.toInt8.toInt32 = x.toInt8.toInt32 := by simp
theorem own_nd_inj {fs : List (String × String × String)} (h : (fs.map (fun f => f.2.1)).Nodup) {i j : Nat} {f g : String × String × String} (hi : fs[i]? = some f) (hj : fs[j]? = some g) (e : f.2.1 = g.2.1) : i = j := by
  have hl : i < (fs.map (fun f => f.2.1)).length := by simpa using (List.getElem?_eq_some_iff.mp hi).1
  refine (List.getElem?_inj hl h).mp ?_
  simp [hi, hj, e]
/-! ## 1. Values that name their cells by number; r says at which address cell i lies -/
def cv (r : Nat → Addr) : Value → Value
  | .ref i => .ref (r i)
  | v => v
def cs (r : Nat → Addr) : Slot → Slot
  | .val v => .val (cv r v)
  | .unset => .unset
  | .second => .second
theorem cv_cat (r : Nat → Addr) (v : Value) : (cv r v).category = v.category := by cases v <;> rfl
theorem cv_isRef (r : Nat → Addr) (v : Value) : (cv r v).isRef = v.isRef := by cases v <;> rfl
abbrev cl (r : Nat → Addr) (ls : List Slot) : Array Slot := (ls.map (cs r)).toArray
abbrev ct (r : Nat → Addr) (st : List Value) : List Value := st.map (cv r)
theorem cl_get {r : Nat → Addr} {ls : List Slot} {k : Nat} {x : Slot} (h : ls[k]? = some x) : (cl r ls)[k]? = some (cs r x) := by simp [cl, h]
theorem cl_size {r : Nat → Addr} {ls : List Slot} : (cl r ls).size = ls.length := by simp [cl]
def catS (st : List Value) : Nat := (st.map fun v => v.category).sum
theorem ct_cat (r : Nat → Addr) (st : List Value) : ((ct r st).map fun v => v.category).sum = catS st := by
  simp only [ct, catS, List.map_map]
  congr 1
  exact List.map_congr_left fun v _ => cv_cat r v

/-! ## 2. The local variables as a list -/
def setL (l : List Slot) (i : Nat) (x : Slot) : Option (List Slot) := if i < l.length then some (l.set i x) else none
def stoS (l : List Slot) (i : Nat) (v : Value) : Option (List Slot) :=
  match setL l i (.val v) with
  | none => none
  | some l => if v.category = 2 then
      match l[i + 1]? with
      | none => none
      | some (.val old) => if old.category = 2 then (match setL l (i + 2) .unset with | none => none | some l => setL l (i + 1) .second) else setL l (i + 1) .second
      | some _ => setL l (i + 1) .second
    else some l
def stoL (l : List Slot) (i : Nat) (v : Value) : Option (List Slot) :=
  match l[i]? with
  | none => none
  | some .second => (match setL l (i - 1) .unset with | none => none | some l => stoS l i v)
  | some (.val old) => if old.category = 2 then (match setL l (i + 1) .unset with | none => none | some l => stoS l i v) else stoS l i v
  | some .unset => stoS l i v
theorem setL_ok {r : Nat → Addr} {l l' : List Slot} {i : Nat} {x : Slot} (h : setL l i x = some l') : setAt (cl r l) i (cs r x) = some (cl r l') := by
  unfold setL at h
  split at h
  · rename_i hi
    cases h
    simp [setAt, cl, hi, List.map_set]
  · cases h
theorem stoS_ok {r : Nat → Addr} {l l' : List Slot} {i : Nat} {v : Value} (h : stoS l i v = some l') : storeSelf (cl r l) i (cv r v) = some (cl r l') := by
  unfold stoS at h
  unfold storeSelf
  cases h1 : setL l i (.val v) with
  | none => simp [h1] at h
  | some l1 =>
    rw [h1] at h
    have q1 : setAt (cl r l) i (.val (cv r v)) = some (cl r l1) := setL_ok (x := .val v) h1
    simp only [q1, Option.bind_eq_bind, Option.bind_some, cv_cat]
    dsimp only at h
    split at h
    · rename_i hc
      simp only [hc, if_true]
      cases h2 : l1[i + 1]? with
      | none => simp [h2] at h
      | some y =>
        rw [h2] at h
        have q2 : (cl r l1)[i + 1]? = some (cs r y) := cl_get h2
        rw [q2]
        simp only [Option.bind_some]
        cases y with
        | val old =>
          simp only [cs, cv_cat]
          dsimp only at h
          split at h
          · rename_i ho
            simp only [ho, if_true]
            cases h3 : setL l1 (i + 2) .unset with
            | none => simp [h3] at h
            | some l3 =>
              rw [h3] at h
              have q3 : setAt (cl r l1) (i + 2) .unset = some (cl r l3) := setL_ok (x := .unset) h3
              rw [q3]
              exact setL_ok (x := .second) h
          · rename_i ho
            simp only [ho, if_false]
            exact setL_ok (x := .second) h
        | unset => exact setL_ok (x := .second) h
        | second => exact setL_ok (x := .second) h
    · rename_i hc
      simp only [hc, if_false]
      cases h
      rfl
theorem stoL_ok {r : Nat → Addr} {l l' : List Slot} {i : Nat} {v : Value} (h : stoL l i v = some l') : storeLocals (cl r l) i (cv r v) = some (cl r l') := by
  unfold stoL at h
  unfold storeLocals
  cases h1 : l[i]? with
  | none => simp [h1] at h
  | some y =>
    rw [h1] at h
    have q1 : (cl r l)[i]? = some (cs r y) := cl_get h1
    rw [q1]
    simp only [Option.bind_eq_bind, Option.bind_some]
    cases y with
    | unset => exact stoS_ok h
    | second =>
      simp only [cs]
      dsimp only at h
      cases h2 : setL l (i - 1) .unset with
      | none => simp [h2] at h
      | some l2 =>
        rw [h2] at h
        have q2 : setAt (cl r l) (i - 1) .unset = some (cl r l2) := setL_ok (x := .unset) h2
        rw [q2]
        exact stoS_ok h
    | val old =>
      simp only [cs, cv_cat]
      dsimp only at h
      split at h
      · rename_i ho
        simp only [ho, if_true]
        cases h2 : setL l (i + 1) .unset with
        | none => simp [h2] at h
        | some l2 =>
          rw [h2] at h
          have q2 : setAt (cl r l) (i + 1) .unset = some (cl r l2) := setL_ok (x := .unset) h2
          rw [q2]
          exact stoS_ok h
      · rename_i ho
        simp only [ho, if_false]
        exact stoS_ok h

/-! ## 3. One plain instruction as a function -/
abbrev Cf : Type := Nat × List Slot × List Value
def ldI (ls : List Slot) (k : Nat) (st : List Value) (pc : Nat) : Option Cf := match ls[k]? with | some (.val (.int v)) => some (pc, ls, .int v :: st) | _ => none
def ldJ (ls : List Slot) (k : Nat) (st : List Value) (pc : Nat) : Option Cf := match ls[k]? with | some (.val (.long v)) => some (pc, ls, .long v :: st) | _ => none
def ldA (ls : List Slot) (k : Nat) (st : List Value) (pc : Nat) : Option Cf := match ls[k]? with | some (.val v) => if v.isRef then some (pc, ls, v :: st) else none | _ => none
def sI (ls : List Slot) (k : Nat) (st : List Value) (pc : Nat) : Option Cf := match st with | .int x :: t => (match stoL ls k (.int x) with | some l => some (pc, l, t) | none => none) | _ => none
def sJ (ls : List Slot) (k : Nat) (st : List Value) (pc : Nat) : Option Cf := match st with | .long x :: t => (match stoL ls k (.long x) with | some l => some (pc, l, t) | none => none) | _ => none
def sA (ls : List Slot) (k : Nat) (st : List Value) (pc : Nat) : Option Cf := match st with | x :: t => if x.isRef then (match stoL ls k x with | some l => some (pc, l, t) | none => none) else none | _ => none
def un (f : Int32 → Value) (ls : List Slot) (st : List Value) (pc : Nat) : Option Cf := match st with | .int x :: t => some (pc, ls, f x :: t) | _ => none
def unL (f : Int64 → Value) (ls : List Slot) (st : List Value) (pc : Nat) : Option Cf := match st with | .long x :: t => some (pc, ls, f x :: t) | _ => none
def bin (f : Int32 → Int32 → Int32) (ls : List Slot) (st : List Value) (pc : Nat) : Option Cf := match st with | .int y :: .int x :: t => some (pc, ls, .int (f x y) :: t) | _ => none
def binD (f : Int32 → Int32 → Int32) (ls : List Slot) (st : List Value) (pc : Nat) : Option Cf := match st with | .int y :: .int x :: t => if y = 0 then none else some (pc, ls, .int (f x y) :: t) | _ => none
def binL (f : Int64 → Int64 → Value) (ls : List Slot) (st : List Value) (pc : Nat) : Option Cf := match st with | .long y :: .long x :: t => some (pc, ls, f x y :: t) | _ => none
def binLD (f : Int64 → Int64 → Int64) (ls : List Slot) (st : List Value) (pc : Nat) : Option Cf := match st with | .long y :: .long x :: t => if y = 0 then none else some (pc, ls, .long (f x y) :: t) | _ => none
def shf (f : Int64 → Int32 → Int64) (ls : List Slot) (st : List Value) (pc : Nat) : Option Cf := match st with | .int y :: .long x :: t => some (pc, ls, .long (f x y) :: t) | _ => none
def jmp (pc : Nat) (o : Int) (ls : List Slot) (st : List Value) : Option Cf := if 0 ≤ (pc : Int) + o then some (((pc : Int) + o).toNat, ls, st) else none
def ilen : Instr → Nat
  | .iload _ | .lload _ | .aload _ | .istore _ | .lstore _ | .astore _ | .bipush _ => 2
  | .iinc _ _ | .sipush _ | .goto _ | .if_icmp _ _ | .ifCond _ _ | .ifnull _ | .ifnonnull _ => 3
  | _ => 1
def pcore (ins : Instr) (pc : Nat) (ls : List Slot) (st : List Value) : Option Cf :=
  match ins with
  | .iload_n k => ldI ls k.val st (pc + 1)
  | .iload k => ldI ls k st (pc + 2)
  | .lload_n k => ldJ ls k.val st (pc + 1)
  | .lload k => ldJ ls k st (pc + 2)
  | .aload_n k => ldA ls k.val st (pc + 1)
  | .aload k => ldA ls k st (pc + 2)
  | .istore_n k => sI ls k.val st (pc + 1)
  | .istore k => sI ls k st (pc + 2)
  | .lstore_n k => sJ ls k.val st (pc + 1)
  | .lstore k => sJ ls k st (pc + 2)
  | .astore_n k => sA ls k.val st (pc + 1)
  | .astore k => sA ls k st (pc + 2)
  | .iconst i => some (pc + 1, ls, .int (Int32.ofInt i) :: st)
  | .bipush i => some (pc + 2, ls, .int (Int8.ofInt i).toInt32 :: st)
  | .sipush i => some (pc + 3, ls, .int (Int16.ofInt i).toInt32 :: st)
  | .lconst k => some (pc + 1, ls, .long (Int64.ofNat k) :: st)
  | .aconst_null => some (pc + 1, ls, .null :: st)
  | .iinc k c => match ls[k]? with
    | some (.val (.int x)) => (match stoL ls k (.int (x + Int32.ofInt c)) with | some l => some (pc + 3, l, st) | none => none)
    | _ => none
  | .iadd => bin (fun x y => x + y) ls st (pc + 1)
  | .isub => bin (fun x y => x - y) ls st (pc + 1)
  | .imul => bin (fun x y => x * y) ls st (pc + 1)
  | .iand => bin (fun x y => x &&& y) ls st (pc + 1)
  | .ior => bin (fun x y => x ||| y) ls st (pc + 1)
  | .ixor => bin (fun x y => x ^^^ y) ls st (pc + 1)
  | .ishl => bin (fun x y => x <<< (y &&& 31)) ls st (pc + 1)
  | .ishr => bin (fun x y => x >>> (y &&& 31)) ls st (pc + 1)
  | .iushr => bin (fun x y => XT.ushr x y) ls st (pc + 1)
  | .idiv => binD (fun x y => x / y) ls st (pc + 1)
  | .irem => binD (fun x y => x % y) ls st (pc + 1)
  | .ineg => un (fun x => .int (-x)) ls st (pc + 1)
  | .i2l => un (fun x => .long x.toInt64) ls st (pc + 1)
  | .i2b => un (fun x => .int x.toInt8.toInt32) ls st (pc + 1)
  | .i2c => un (fun x => .int x.toUInt32.toUInt16.toUInt32.toInt32) ls st (pc + 1)
  | .i2s => un (fun x => .int x.toInt16.toInt32) ls st (pc + 1)
  | .l2i => unL (fun x => .int x.toInt32) ls st (pc + 1)
  | .lneg => unL (fun x => .long (-x)) ls st (pc + 1)
  | .ladd => binL (fun x y => .long (x + y)) ls st (pc + 1)
  | .lsub => binL (fun x y => .long (x - y)) ls st (pc + 1)
  | .lmul => binL (fun x y => .long (x * y)) ls st (pc + 1)
  | .land => binL (fun x y => .long (x &&& y)) ls st (pc + 1)
  | .lor => binL (fun x y => .long (x ||| y)) ls st (pc + 1)
  | .lxor => binL (fun x y => .long (x ^^^ y)) ls st (pc + 1)
  | .lcmp => binL (fun x y => .int (XT.cmpL x y)) ls st (pc + 1)
  | .ldiv => binLD (fun x y => x / y) ls st (pc + 1)
  | .lrem => binLD (fun x y => x % y) ls st (pc + 1)
  | .lshl => shf (fun x y => x <<< (y.toInt64 &&& 63)) ls st (pc + 1)
  | .lshr => shf (fun x y => x >>> (y.toInt64 &&& 63)) ls st (pc + 1)
  | .lushr => shf (fun x y => XT.ushrL x y) ls st (pc + 1)
  | .dup => match st with | x :: t => if x.category = 1 then some (pc + 1, ls, x :: x :: t) else none | _ => none
  | .dup_x1 => match st with | x :: y :: t => if x.category = 1 then (if y.category = 1 then some (pc + 1, ls, x :: y :: x :: t) else none) else none | _ => none
  | .dup2 => match st with | x :: y :: t => if x.category = 1 then (if y.category = 1 then some (pc + 1, ls, x :: y :: x :: y :: t) else none) else none | _ => none
  | .pop => match st with | x :: t => if x.category = 1 then some (pc + 1, ls, t) else none | _ => none
  | .goto o => jmp pc o ls st
  | .if_icmp cd o => match st with | .int y :: .int x :: t => (match if_icmp.holds cd x y with | true => jmp pc o ls t | false => some (pc + 3, ls, t)) | _ => none
  | .ifCond cd o => match st with | .int x :: t => (match ifCond.holds cd x with | true => jmp pc o ls t | false => some (pc + 3, ls, t)) | _ => none
  | .ifnull o => match st with | .null :: t => jmp pc o ls t | .ref _ :: t => some (pc + 3, ls, t) | _ => none
  | .ifnonnull o => match st with | .ref _ :: t => jmp pc o ls t | .null :: t => some (pc + 3, ls, t) | _ => none
  | _ => none
def pst (ins : Instr) (len pc : Nat) (ls : List Slot) (st : List Value) : Option Cf := if len = ilen ins then pcore ins pc ls st else none

section Inv
variable {ls : List Slot} {st : List Value} {k pc : Nat} {q : Cf}
theorem ldI_v (h : ldI ls k st pc = some q) : ∃ v, ls[k]? = some (.val (.int v)) ∧ q = (pc, ls, .int v :: st) := by
  unfold ldI at h; split at h
  · rename_i v e; cases h; exact ⟨v, e, rfl⟩
  · cases h
theorem ldJ_v (h : ldJ ls k st pc = some q) : ∃ v, ls[k]? = some (.val (.long v)) ∧ q = (pc, ls, .long v :: st) := by
  unfold ldJ at h; split at h
  · rename_i v e; cases h; exact ⟨v, e, rfl⟩
  · cases h
theorem ldA_v (h : ldA ls k st pc = some q) : ∃ v, ls[k]? = some (.val v) ∧ v.isRef = true ∧ q = (pc, ls, v :: st) := by
  unfold ldA at h; split at h
  · rename_i v e; split at h
    · rename_i e2; cases h; exact ⟨v, e, e2, rfl⟩
    · cases h
  · cases h
theorem sI_v (h : sI ls k st pc = some q) : ∃ x t l, st = .int x :: t ∧ stoL ls k (.int x) = some l ∧ q = (pc, l, t) := by
  unfold sI at h; split at h
  · rename_i x t; split at h
    · rename_i l e; cases h; exact ⟨x, t, l, rfl, e, rfl⟩
    · cases h
  · cases h
theorem sJ_v (h : sJ ls k st pc = some q) : ∃ x t l, st = .long x :: t ∧ stoL ls k (.long x) = some l ∧ q = (pc, l, t) := by
  unfold sJ at h; split at h
  · rename_i x t; split at h
    · rename_i l e; cases h; exact ⟨x, t, l, rfl, e, rfl⟩
    · cases h
  · cases h
theorem sA_v (h : sA ls k st pc = some q) : ∃ x t l, st = x :: t ∧ x.isRef = true ∧ stoL ls k x = some l ∧ q = (pc, l, t) := by
  unfold sA at h; split at h
  · rename_i x t; split at h
    · rename_i e0; split at h
      · rename_i l e; cases h; exact ⟨x, t, l, rfl, e0, e, rfl⟩
      · cases h
    · cases h
  · cases h
theorem un_v {f : Int32 → Value} (h : un f ls st pc = some q) : ∃ x t, st = .int x :: t ∧ q = (pc, ls, f x :: t) := by
  unfold un at h; split at h
  · rename_i x t; cases h; exact ⟨x, t, rfl, rfl⟩
  · cases h
theorem unL_v {f : Int64 → Value} (h : unL f ls st pc = some q) : ∃ x t, st = .long x :: t ∧ q = (pc, ls, f x :: t) := by
  unfold unL at h; split at h
  · rename_i x t; cases h; exact ⟨x, t, rfl, rfl⟩
  · cases h
theorem bin_v {f : Int32 → Int32 → Int32} (h : bin f ls st pc = some q) : ∃ x y t, st = .int y :: .int x :: t ∧ q = (pc, ls, .int (f x y) :: t) := by
  unfold bin at h; split at h
  · rename_i y x t; cases h; exact ⟨x, y, t, rfl, rfl⟩
  · cases h
theorem binD_v {f : Int32 → Int32 → Int32} (h : binD f ls st pc = some q) : ∃ x y t, st = .int y :: .int x :: t ∧ y ≠ 0 ∧ q = (pc, ls, .int (f x y) :: t) := by
  unfold binD at h; split at h
  · rename_i y x t; split at h
    · cases h
    · rename_i e; cases h; exact ⟨x, y, t, rfl, e, rfl⟩
  · cases h
theorem binL_v {f : Int64 → Int64 → Value} (h : binL f ls st pc = some q) : ∃ x y t, st = .long y :: .long x :: t ∧ q = (pc, ls, f x y :: t) := by
  unfold binL at h; split at h
  · rename_i y x t; cases h; exact ⟨x, y, t, rfl, rfl⟩
  · cases h
theorem binLD_v {f : Int64 → Int64 → Int64} (h : binLD f ls st pc = some q) : ∃ x y t, st = .long y :: .long x :: t ∧ y ≠ 0 ∧ q = (pc, ls, .long (f x y) :: t) := by
  unfold binLD at h; split at h
  · rename_i y x t; split at h
    · cases h
    · rename_i e; cases h; exact ⟨x, y, t, rfl, e, rfl⟩
  · cases h
theorem shf_v {f : Int64 → Int32 → Int64} (h : shf f ls st pc = some q) : ∃ x y t, st = .int y :: .long x :: t ∧ q = (pc, ls, .long (f x y) :: t) := by
  unfold shf at h; split at h
  · rename_i y x t; cases h; exact ⟨x, y, t, rfl, rfl⟩
  · cases h
theorem jmp_v {o : Int} (h : jmp pc o ls st = some q) : 0 ≤ (pc : Int) + o ∧ q = (((pc : Int) + o).toNat, ls, st) := by
  unfold jmp at h; split at h
  · rename_i e; cases h; exact ⟨e, rfl⟩
  · cases h
end Inv

section Pure
variable {tb : Tables} [Ours tb] {e : Env} {below : List Frame} {T target : State} {m : MethodId} {c : Code}
theorem pcore_ok {r : Nat → Addr} {ins : Instr} {pc : Nat} {ls : List Slot} {st : List Value} {q : Cf} (X : At T m c below) (hx : tb.exec = Jvm.exec) (hd : decode c.code pc = .ok (ins, ilen ins)) (h : pcore ins pc ls st = some q)
    (hr : Steps tb e below (T.setTop (mkF m q.1 (cl r q.2.1) (ct r q.2.2))) target) : Steps tb e below (T.setTop (mkF m pc (cl r ls) (ct r st))) target := by
  cases ins <;> simp only [pcore, reduceCtorEq] at h <;> simp only [ilen] at hd
  case iload_n k => obtain ⟨v, e1, rfl⟩ := ldI_v h; exact XS.iloadN X hx rfl hd (cl_get e1) hr
  case iload k => obtain ⟨v, e1, rfl⟩ := ldI_v h; exact XS.iload X hx rfl hd (cl_get e1) hr
  case lload_n k => obtain ⟨v, e1, rfl⟩ := ldJ_v h; exact XT.lloadN X hx rfl hd (cl_get e1) hr
  case lload k => obtain ⟨v, e1, rfl⟩ := ldJ_v h; exact XT.lload X hx rfl hd (cl_get e1) hr
  case aload_n k => obtain ⟨v, e1, e2, rfl⟩ := ldA_v h; exact XS.aloadN X hx rfl hd (cl_get e1) ((cv_isRef r v).trans e2) hr
  case aload k => obtain ⟨v, e1, e2, rfl⟩ := ldA_v h; exact XS.aload X hx rfl hd (cl_get e1) ((cv_isRef r v).trans e2) hr
  case istore_n k => obtain ⟨x, t, l, rfl, e1, rfl⟩ := sI_v h; exact XS.istoreN X hx rfl hd rfl (stoL_ok (r := r) e1) hr
  case istore k => obtain ⟨x, t, l, rfl, e1, rfl⟩ := sI_v h; exact XS.istore X hx rfl hd rfl (stoL_ok (r := r) e1) hr
  case lstore_n k => obtain ⟨x, t, l, rfl, e1, rfl⟩ := sJ_v h; exact XT.lstoreN X hx rfl hd rfl (stoL_ok (r := r) e1) hr
  case lstore k => obtain ⟨x, t, l, rfl, e1, rfl⟩ := sJ_v h; exact XT.lstore X hx rfl hd rfl (stoL_ok (r := r) e1) hr
  case astore_n k => obtain ⟨x, t, l, rfl, e0, e1, rfl⟩ := sA_v h; exact XS.astoreN X hx rfl hd rfl ((cv_isRef r x).trans e0) (stoL_ok (r := r) e1) hr
  case astore k => obtain ⟨x, t, l, rfl, e0, e1, rfl⟩ := sA_v h; exact XS.astore X hx rfl hd rfl ((cv_isRef r x).trans e0) (stoL_ok (r := r) e1) hr
  case iconst i => cases h; exact XS.iconst X hx rfl hd hr
  case bipush i => cases h; exact XS.bipush X hx rfl hd hr
  case sipush i => cases h; exact XS.sipush X hx rfl hd hr
  case lconst i => cases h; exact XT.lconst X hx rfl hd hr
  case aconst_null => cases h; exact XS.aconstNull X hx rfl hd hr
  case iinc k cst =>
    split at h
    · rename_i x e1
      split at h
      · rename_i l e2
        cases h
        exact XS.iinc X hx rfl hd (cl_get e1) (stoL_ok (r := r) e2) hr
      · cases h
    · cases h
  case iadd => obtain ⟨x, y, t, rfl, rfl⟩ := bin_v h; exact XS.iadd X hx rfl hd rfl hr
  case isub => obtain ⟨x, y, t, rfl, rfl⟩ := bin_v h; exact XS.isub X hx rfl hd rfl hr
  case imul => obtain ⟨x, y, t, rfl, rfl⟩ := bin_v h; exact XS.imul X hx rfl hd rfl hr
  case iand => obtain ⟨x, y, t, rfl, rfl⟩ := bin_v h; exact XS.iand X hx rfl hd rfl hr
  case ior => obtain ⟨x, y, t, rfl, rfl⟩ := bin_v h; exact XT.ior X hx rfl hd rfl hr
  case ixor => obtain ⟨x, y, t, rfl, rfl⟩ := bin_v h; exact XT.ixor X hx rfl hd rfl hr
  case ishl => obtain ⟨x, y, t, rfl, rfl⟩ := bin_v h; exact XT.ishl X hx rfl hd rfl hr
  case ishr => obtain ⟨x, y, t, rfl, rfl⟩ := bin_v h; exact XT.ishr X hx rfl hd rfl hr
  case iushr => obtain ⟨x, y, t, rfl, rfl⟩ := bin_v h; exact XT.iushr X hx rfl hd rfl hr
  case idiv => obtain ⟨x, y, t, rfl, hy, rfl⟩ := binD_v h; exact XS.idiv X hx rfl hd rfl hy hr
  case irem =>
    obtain ⟨x, y, t, rfl, hy, rfl⟩ := binD_v h
    have q : x - x / y * y = x % y := irem_eq_mod x y
    exact XS.irem X hx rfl hd rfl hy (by rw [q]; exact hr)
  case ineg => obtain ⟨x, t, rfl, rfl⟩ := un_v h; exact XS.ineg X hx rfl hd rfl hr
  case i2l => obtain ⟨x, t, rfl, rfl⟩ := un_v h; exact XT.i2l X hx rfl hd rfl hr
  case i2b => obtain ⟨x, t, rfl, rfl⟩ := un_v h; exact XT.i2b X hx rfl hd rfl hr
  case i2c => obtain ⟨x, t, rfl, rfl⟩ := un_v h; exact XT.i2c X hx rfl hd rfl hr
  case i2s => obtain ⟨x, t, rfl, rfl⟩ := un_v h; exact XT.i2s X hx rfl hd rfl hr
  case l2i => obtain ⟨x, t, rfl, rfl⟩ := unL_v h; exact XT.l2i X hx rfl hd rfl hr
  case lneg => obtain ⟨x, t, rfl, rfl⟩ := unL_v h; exact XT.lneg X hx rfl hd rfl hr
  case ladd => obtain ⟨x, y, t, rfl, rfl⟩ := binL_v h; exact XT.ladd X hx rfl hd rfl hr
  case lsub => obtain ⟨x, y, t, rfl, rfl⟩ := binL_v h; exact XT.lsub X hx rfl hd rfl hr
  case lmul => obtain ⟨x, y, t, rfl, rfl⟩ := binL_v h; exact XT.lmul X hx rfl hd rfl hr
  case land => obtain ⟨x, y, t, rfl, rfl⟩ := binL_v h; exact XT.land X hx rfl hd rfl hr
  case lor => obtain ⟨x, y, t, rfl, rfl⟩ := binL_v h; exact XT.lor X hx rfl hd rfl hr
  case lxor => obtain ⟨x, y, t, rfl, rfl⟩ := binL_v h; exact XT.lxor X hx rfl hd rfl hr
  case lcmp => obtain ⟨x, y, t, rfl, rfl⟩ := binL_v h; exact XT.lcmp X hx rfl hd rfl hr
  case ldiv => obtain ⟨x, y, t, rfl, hy, rfl⟩ := binLD_v h; exact XT.ldiv X hx rfl hd rfl hy hr
  case lrem =>
    obtain ⟨x, y, t, rfl, hy, rfl⟩ := binLD_v h
    have q : x - (x / y) * y = x % y := lrem_mod x y
    exact XT.lrem X hx rfl hd rfl hy (by rw [q]; exact hr)
  case lshl => obtain ⟨x, y, t, rfl, rfl⟩ := shf_v h; exact XT.lshl X hx rfl hd rfl hr
  case lshr => obtain ⟨x, y, t, rfl, rfl⟩ := shf_v h; exact XT.lshr X hx rfl hd rfl hr
  case lushr => obtain ⟨x, y, t, rfl, rfl⟩ := shf_v h; exact XT.lushr X hx rfl hd rfl hr
  case dup =>
    split at h
    · rename_i x t
      split at h
      · rename_i hc; cases h; exact XS.dup X hx rfl hd rfl ((cv_cat r x).trans hc) hr
      · cases h
    · cases h
  case dup_x1 =>
    split at h
    · rename_i x y t
      split at h
      · rename_i hc
        split at h
        · rename_i hc'; cases h; exact XT.dupX1 X hx rfl hd rfl ((cv_cat r x).trans hc) ((cv_cat r y).trans hc') hr
        · cases h
      · cases h
    · cases h
  case dup2 =>
    split at h
    · rename_i x y t
      split at h
      · rename_i hc
        split at h
        · rename_i hc'; cases h; exact XT.dup2 X hx rfl hd rfl ((cv_cat r x).trans hc) ((cv_cat r y).trans hc') hr
        · cases h
      · cases h
    · cases h
  case pop =>
    split at h
    · rename_i x t
      split at h
      · rename_i hc; cases h; exact XT.pop X hx rfl hd rfl ((cv_cat r x).trans hc) hr
      · cases h
    · cases h
  case goto o => obtain ⟨h0, rfl⟩ := jmp_v h; exact XS.goto X hx rfl (pc0 := pc) rfl hd h0 rfl hr
  case if_icmp cd o =>
    split at h
    · rename_i y x t
      split at h
      · rename_i hb; obtain ⟨h0, rfl⟩ := jmp_v h; exact XS.icmpYes X hx rfl (pc0 := pc) rfl hd rfl hb h0 rfl hr
      · rename_i hb; cases h; exact XS.icmpNo X hx rfl hd rfl hb hr
    · cases h
  case ifCond cd o =>
    split at h
    · rename_i x t
      split at h
      · rename_i hb; obtain ⟨h0, rfl⟩ := jmp_v h; exact XS.ifYes X hx rfl (pc0 := pc) rfl hd rfl hb h0 rfl hr
      · rename_i hb; cases h; exact XS.ifNo X hx rfl hd rfl hb hr
    · cases h
  case ifnull o =>
    split at h
    · rename_i t; obtain ⟨h0, rfl⟩ := jmp_v h; exact XS.ifnullYes X hx rfl (pc0 := pc) rfl hd rfl h0 rfl hr
    · rename_i i t; cases h; exact XS.ifnullNo X hx rfl hd rfl hr
    · cases h
  case ifnonnull o =>
    split at h
    · rename_i i t; obtain ⟨h0, rfl⟩ := jmp_v h; exact XT.ifnonnullYes X hx rfl (pc0 := pc) rfl hd rfl h0 rfl hr
    · rename_i t; cases h; exact XT.ifnonnullNo X hx rfl hd rfl hr
    · cases h
theorem pst_ok {r : Nat → Addr} {ins : Instr} {len pc : Nat} {ls : List Slot} {st : List Value} {q : Cf} (X : At T m c below) (hx : tb.exec = Jvm.exec) (hd : decode c.code pc = .ok (ins, len)) (h : pst ins len pc ls st = some q)
    (hr : Steps tb e below (T.setTop (mkF m q.1 (cl r q.2.1) (ct r q.2.2))) target) : Steps tb e below (T.setTop (mkF m pc (cl r ls) (ct r st))) target := by
  unfold pst at h
  split at h
  · rename_i e1; subst e1; exact pcore_ok X hx hd h hr
  · cases h
end Pure

/-! ## 4. The heap: the cells that the walk has made, by number -/
abbrev ACell : Type := (Nat × List Value) ⊕ (FieldType × List Value)
abbrev Lay : Type := List (String × List (String × String × String))
def LayOk (Z : State) (a0 : Array Value) (lay : Lay) : Prop := ∀ (ci : Nat) C fs, lay[ci]? = some (C, fs) → (∀ f ∈ fs, Laid Z a0 C f.1 f.2.1 f.2.2 ∧ ∃ ty, parseFieldDescriptor f.2.2 = some ty) ∧
  ∀ (i j : Nat) f g, fs[i]? = some f → fs[j]? = some g → i ≠ j → f.2.1 ≠ g.2.1
def CellOk (Z : State) (lay : Lay) (r : Nat → Addr) (h : Heap) (a : Addr) : ACell → Prop
  | .inl (ci, vs) => ∃ C fs, lay[ci]? = some (C, fs) ∧ Exa Z h a C ∧ fs.length = vs.length ∧ ∀ (i : Nat) f v, fs[i]? = some f → vs[i]? = some v → Fld Z h a f.1 f.2.1 f.2.2 (cv r v)
  | .inr (ty, vs) => ∃ c : Cell, Arr Z h a c ty ∧ c.slots = (ct r vs).toArray ∧ (∀ v ∈ vs, fits ty v = true) ∧ Exa Z h a ("[" ++ ty.toString)
def Hp (Z : State) (lay : Lay) (n0 : Nat) (r : Nat → Addr) (h : Heap) (A : List ACell) : Prop :=
  (∀ (i : Nat) c, A[i]? = some c → n0 ≤ r i ∧ CellOk Z lay r h (r i) c) ∧ (∀ i j, i < A.length → j < A.length → r i = r j → i = j) ∧ n0 ≤ h.size
def prim : FieldType → Bool
  | .boolean | .byte | .char | .short | .int | .long | .float | .double => true
  | _ => false
def okV (N : Nat) : Value → Bool
  | .ref i => decide (i < N)
  | _ => true
def okS (N : Nat) : Slot → Bool
  | .val v => okV N v
  | _ => true
def okC (N : Nat) : ACell → Bool
  | .inl (_, vs) => vs.all (okV N)
  | .inr (ty, vs) => prim ty || vs.all (okV N)
theorem own_gs {A : List ACell} {i : Nat} {c c' : ACell} (h : A[i]? = some c) : (A.set i c')[i]? = some c' := List.getElem?_set_self (List.getElem?_eq_some_iff.mp h).1
theorem own_lt {A : List ACell} {i : Nat} {c : ACell} (h : A[i]? = some c) : i < A.length := (List.getElem?_eq_some_iff.mp h).1
section Agree
variable {N : Nat} {r r' : Nat → Addr}
theorem cv_ag (q : ∀ i, i < N → r' i = r i) {v : Value} (h : okV N v = true) : cv r' v = cv r v := by
  cases v <;> first | rfl | (simp only [okV, decide_eq_true_eq] at h; simp [cv, q _ h])
theorem cs_ag (q : ∀ i, i < N → r' i = r i) {v : Slot} (h : okS N v = true) : cs r' v = cs r v := by
  cases v <;> first | rfl | (simp only [okS] at h; simp [cs, cv_ag q h])
theorem ct_ag (q : ∀ i, i < N → r' i = r i) {st : List Value} (h : st.all (okV N) = true) : ct r' st = ct r st :=
  List.map_congr_left fun v hv => cv_ag q (List.all_eq_true.mp h v hv)
theorem cl_ag (q : ∀ i, i < N → r' i = r i) {ls : List Slot} (h : ls.all (okS N) = true) : cl r' ls = cl r ls := by
  simp only [cl]
  congr 1
  exact List.map_congr_left fun v hv => cs_ag q (List.all_eq_true.mp h v hv)
theorem prim_cv {ty : FieldType} {v : Value} (hp : prim ty = true) (hf : fits ty v = true) : cv r v = v := by
  cases v <;> first | rfl | (cases ty <;> simp_all [prim, fits])
theorem CellOk.ag {Z : State} {lay : Lay} {h : Heap} {a : Addr} (q : ∀ i, i < N → r' i = r i) : ∀ {c : ACell}, okC N c = true → CellOk Z lay r h a c → CellOk Z lay r' h a c
  | .inl (ci, vs), hk, ⟨C, fs, h1, E, h2, h3⟩ => ⟨C, fs, h1, E, h2, fun i f v hf hv => by
      rw [cv_ag q (List.all_eq_true.mp hk v (List.mem_of_getElem? hv))]
      exact h3 i f v hf hv⟩
  | .inr (ty, vs), hk, ⟨c, h1, h2, h3, h5⟩ => ⟨c, h1, by
      rw [h2]
      congr 1
      refine List.map_congr_left fun v hv => ?_
      simp only [okC, Bool.or_eq_true] at hk
      rcases hk with hk | hk
      · rw [prim_cv hk (h3 v hv), prim_cv hk (h3 v hv)]
      · exact (cv_ag q (List.all_eq_true.mp hk v hv)).symm, h3, h5⟩
end Agree
section Move
variable {Z : State} {lay : Lay} {r : Nat → Addr} {h h' : Heap} {a b : Addr} {sl : Nat} {v : Value} {n0 : Nat} {A : List ACell}
theorem CellOk.ext (E : Ext h h') : ∀ {c : ACell}, CellOk Z lay r h a c → CellOk Z lay r h' a c
  | .inl (ci, vs), ⟨C, fs, h1, F, h2, h3⟩ => ⟨C, fs, h1, F.ext E, h2, fun i f v hf hv => (h3 i f v hf hv).ext E⟩
  | .inr (ty, vs), ⟨c, h1, h2, h3, h5⟩ => ⟨c, h1.ext E, h2, h3, h5.ext E⟩
theorem CellOk.other (W : Wr h h' a sl v) (q : b ≠ a) : ∀ {c : ACell}, CellOk Z lay r h b c → CellOk Z lay r h' b c
  | .inl (ci, vs), ⟨C, fs, h1, F, h2, h3⟩ => ⟨C, fs, h1, F.wr W, h2, fun i f v hf hv => (h3 i f v hf hv).other W (Or.inl q)⟩
  | .inr (ty, vs), ⟨c, h1, h2, h3, h5⟩ => ⟨c, h1.other W q, h2, h3, h5.wr W⟩
theorem CellOk.lt : ∀ {c : ACell}, CellOk Z lay r h a c → a < h.size
  | .inl _, ⟨_, _, _, F, _⟩ => F.lt
  | .inr _, ⟨_, F, _⟩ => F.lt
theorem Hp.ext (E : Ext h h') (H : Hp Z lay n0 r h A) : Hp Z lay n0 r h' A := ⟨fun i c hc => ⟨(H.1 i c hc).1, (H.1 i c hc).2.ext E⟩, H.2.1, Nat.le_trans H.2.2 E.1⟩
theorem Hp.lt (H : Hp Z lay n0 r h A) {i : Nat} (hi : i < A.length) : r i < h.size := (H.1 i _ (List.getElem?_eq_getElem hi)).2.lt
/-- a cell is made: it bears the next number -/
theorem Hp.push (H : Hp Z lay n0 r h A) (E : Ext h h') {c : ACell} (hA : A.all (okC A.length) = true) (hc : CellOk Z lay (fun i => if i = A.length then h.size else r i) h' h.size c) :
    Hp Z lay n0 (fun i => if i = A.length then h.size else r i) h' (A ++ [c]) := by
  have q : ∀ i, i < A.length → (fun i => if i = A.length then h.size else r i) i = r i := fun i hi => if_neg (Nat.ne_of_lt hi)
  refine ⟨fun i x hx => ?_, fun i j hi hj e => ?_, Nat.le_trans H.2.2 E.1⟩
  · by_cases hi : i = A.length
    · subst hi
      simp at hx
      subst hx
      simp only [if_true]
      exact ⟨H.2.2, hc⟩
    · have hl : i < A.length := by
        have := (List.getElem?_eq_some_iff.mp hx).1
        simp at this
        omega
      rw [List.getElem?_append_left hl] at hx
      simp only [hi, if_false]
      obtain ⟨h1, h2⟩ := H.1 i x hx
      exact ⟨h1, (h2.ext E).ag q (List.all_eq_true.mp hA x (List.mem_of_getElem? hx))⟩
  · simp at hi hj
    by_cases h1 : i = A.length <;> by_cases h2 : j = A.length
    · omega
    · have e' : h.size = r j := by simpa [h1, h2] using e
      have hlt := H.lt (i := j) (by omega)
      rw [← e'] at hlt
      exact absurd hlt (Nat.lt_irrefl _)
    · have e' : r i = h.size := by simpa [h1, h2] using e
      have hlt := H.lt (i := i) (by omega)
      rw [e'] at hlt
      exact absurd hlt (Nat.lt_irrefl _)
    · have e' : r i = r j := by simpa [h1, h2] using e
      exact H.2.1 i j (by omega) (by omega) e'
/-- a cell is written -/
theorem Hp.set (H : Hp Z lay n0 r h A) {i : Nat} {x y : ACell} (hx : A[i]? = some x) (W : Wr h h' (r i) sl v) (hy : CellOk Z lay r h' (r i) y) : Hp Z lay n0 r h' (A.set i y) := by
  have hi := (List.getElem?_eq_some_iff.mp hx).1
  refine ⟨fun j z hz => ?_, fun j k hj hk e => H.2.1 j k (by simpa using hj) (by simpa using hk) e, by rw [W.size]; exact H.2.2⟩
  by_cases e : j = i
  · subst e
    rw [List.getElem?_set_self hi] at hz
    cases hz
    exact ⟨(H.1 j x hx).1, hy⟩
  · rw [List.getElem?_set_ne (Ne.symm e)] at hz
    refine ⟨(H.1 j z hz).1, (H.1 j z hz).2.other W fun q => e (H.2.1 j i (List.getElem?_eq_some_iff.mp hz).1 hi q)⟩
theorem CellOk.put {a0 : Array Value} (hL : LayOk Z a0 lay) {C : String} {ci : Nat} {vs : List Value} {fs : List (String × String × String)} {k : Nat} {f : String × String × String} {w : Value} (hC : lay[ci]? = some (C, fs)) (hf : fs[k]? = some f) (W : Wr h h' a (RoadKit.slotOf Z f.1 f.2.1 f.2.2) (cv r w))
    (H : CellOk Z lay r h a (.inl (ci, vs))) : CellOk Z lay r h' a (.inl (ci, vs.set k w)) := by
  obtain ⟨C', fs', h1, F, h2, h3⟩ := H
  cases hC.symm.trans h1
  have hk : k < fs.length := (List.getElem?_eq_some_iff.mp hf).1
  have hkv : k < vs.length := h2 ▸ hk
  refine ⟨C, fs, hC, F.wr W, by simpa using h2, fun i g u hg hu => ?_⟩
  by_cases e : i = k
  · subst e
    cases hf.symm.trans hg
    rw [List.getElem?_set_self hkv] at hu
    cases hu
    exact (h3 i f _ hf (List.getElem?_eq_getElem hkv)).same W
  · rw [List.getElem?_set_ne (Ne.symm e)] at hu
    obtain ⟨q1, q2⟩ := hL ci C fs hC
    obtain ⟨l1, t1, p1⟩ := q1 g (List.mem_of_getElem? hg)
    obtain ⟨l2, t2, p2⟩ := q1 f (List.mem_of_getElem? hf)
    exact (h3 i g u hg hu).other W (Or.inr (slot_ne l1 l2 (q2 i k g f hg hf e) p1 p2))
theorem CellOk.stA {ty : FieldType} {vs : List Value} {j : Nat} {w : Value} (hw : fits ty w = true) (H : CellOk Z lay r h a (.inr (ty, vs))) (W : Wr h h' a j (cv r w)) : CellOk Z lay r h' a (.inr (ty, vs.set j w)) := by
  obtain ⟨c, h1, h2, h3, h5⟩ := H
  refine ⟨_, h1.same W, ?_, fun v hv => ?_, h5.wr W⟩
  · simp [Cell.setSlot, h2, ct, List.map_set]
  · rcases List.mem_or_eq_of_mem_set hv with q | q
    · exact h3 v q
    · rw [q]; exact hw
end Move

/-! ## 5. Where a walk stands; that from there it ends well -/
abbrev Dt : Type := List (Nat × Instr × Nat)
def Cx (Z : State) (own : String) (D : Dt) (maxL : Nat) (ret : Option FieldType) (nm : String) (p : Program) (s : State) (m : MethodId) (meth : Method) (c : Code) : Prop :=
  p.tables.exec = Jvm.exec ∧ Z.Warmed39 s.vm ∧ s.vm.findClass own = some m.cls ∧ meth.sig.returnType = ret ∧ meth.locks = false ∧ (∀ q ∈ D, decode c.code q.1 = .ok q.2) ∧ c.maxLocals = maxL ∧ meth.name = nm
theorem Cx.dec {Z : State} {own : String} {D : Dt} {maxL : Nat} {ret : Option FieldType} {nm : String} {p : Program} {s : State} {m : MethodId} {meth : Method} {c : Code} (C : Cx Z own D maxL ret nm p s m meth c) {jx pc len : Nat} {ins : Instr} (hl : D[jx]? = some (pc, ins, len)) : decode c.code pc = .ok (ins, len) := by
  have h := C.2.2.2.2.2.1 (pc, ins, len) (List.mem_of_getElem? hl)
  dsimp only at h
  exact h
def Based (w : Bool) (s s' : State) (k : Nat) : Prop := match w with
  | false => s' = s
  | true => ∃ vm0 k0, s' = s.setVm vm0 ∧ s.Since vm0 k0 ∧ k0 ≤ k
def EndK (w : Bool) (s : State) (o : Outcome) (t : State) (L : List Loc) (k n : Nat) : Prop := match w with
  | false => FrameEnd s o t L k n
  | true => ReturnedEndW s o t L k n
def Fin (w : Bool) (Z : State) (n0 : Nat) (lay : Lay) (R : Room) (Φ : Option Value → List ACell → Prop) (N : Nat) (r : Nat → Addr) (p : Program) (e : Env) (below : List Frame) (s U : State) : Prop :=
  ∃ (s₂ : State) (v : Option Value) (L : List Loc) (A' : List ACell) (r' : Nat → Addr), Steps p.tables e below U s₂ ∧ s₂.status = .running ∧ Ended s₂ below (.returned (v.map (cv r'))) ∧ EndK w s (.returned (v.map (cv r'))) s₂ L R.cells R.slots ∧ Fr n0 L ∧
    Hp Z lay n0 r' s₂.heap A' ∧ ((∀ i, i < N → r' i = r i) ∧ N ≤ A'.length) ∧ Φ v A'
theorem Fin.back {w : Bool} {Z : State} {n0 : Nat} {lay : Lay} {R : Room} {Φ : Option Value → List ACell → Prop} {N N' : Nat} {r r' : Nat → Addr} {p : Program} {e : Env} {below : List Frame} {s U U' : State} (h : Fin w Z n0 lay R Φ N' r' p e below s U')
    (st : ∀ t, Steps p.tables e below U' t → Steps p.tables e below U t) (hN : N ≤ N') (hr : ∀ i, i < N → r' i = r i) : Fin w Z n0 lay R Φ N r p e below s U := by
  obtain ⟨s₂, v, L, A', r'', h1, h2, h3, h4, h5, h6, h7, h8⟩ := h
  exact ⟨s₂, v, L, A', r'', st _ h1, h2, h3, h4, h5, h6, ⟨fun i hi => (h7.1 i (Nat.lt_of_lt_of_le hi hN)).trans (hr i hi), Nat.le_trans hN h7.2⟩, h8⟩
/-- from pc, with these variables, this stack and these cells (so many cells and slots booked so far) the body comes to its end, and Φ holds of what it returns and of the cells then -/
def WP (w : Bool) (l : Launch) (Z : State) (n0 : Nat) (lay : Lay) (own : String) (D : Dt) (maxL : Nat) (ret : Option FieldType) (nm : String) (R : Room)
    (pc : Nat) (ls : List Slot) (st : List Value) (A : List ACell) (cells slots : Nat) (Φ : Option Value → List ACell → Prop) : Prop :=
  ∀ (p : Program) (e : Env) (s s' : State) (m : MethodId) (args : Array Value) (below : List Frame) (meth : Method) (c : Code) (T : State) (locs : List Loc) (r : Nat → Addr),
    Stand p l e R s' m args below meth c T locs cells slots → Cx Z own D maxL ret nm p s' m meth c → Fr n0 locs → Hp Z lay n0 r T.heap A → Based w s s' T.heap.size →
    Fin w Z n0 lay R Φ A.length r p e below s (T.setTop (mkF m pc (cl r ls) (ct r st)))
/-- what a call leaves, over the true heap -/
def QC (Z : State) (lay : Lay) (n0 : Nat) (r : Nat → Addr) (N : Nat) (Ψ : Option Value → List ACell → Prop) (v : Option Value) (h : Heap) (L : List Loc) : Prop :=
  Fr n0 L ∧ ∃ v' A' r', v = v'.map (cv r') ∧ Hp Z lay n0 r' h A' ∧ ((∀ i, i < N → r' i = r i) ∧ N ≤ A'.length) ∧ Ψ v' A'
/-- the contract of a method, at these arguments and these cells -/
def MT (w : Bool) (l : Launch) (Z : State) (n0 : Nat) (lay : Lay) (y : MethodName) (code : ByteArray) (maxL : Nat) (ret : Option FieldType) (ws : List Jvm.Cond) (R : Room) (as : List Value) (A : List ACell) (Φ : Option Value → List ACell → Prop) : Prop :=
  ∀ (r : Nat → Addr) (h : Heap), Hp Z lay n0 r h A → MetFree l y (head1 (Jvm.Cond.code y code maxL ret :: ws) R) (fun a U => a = (ct r as).toArray ∧ Z.Warmed39 U.vm ∧ U.heap = h) (fun _ _ _ _ _ => True)
    (fun _ U o U' => ∃ v L, o = .returned v ∧ QC Z lay n0 r A.length Φ v U'.heap L ∧ EndK w U o U' L R.cells R.slots)
theorem MT.nar {l : Launch} {Z : State} {n0 : Nat} {lay : Lay} {y : MethodName} {code : ByteArray} {maxL : Nat} {ret : Option FieldType} {ws : List Jvm.Cond} {R : Room} {as : List Value} {A : List ACell} {Φ : Option Value → List ACell → Prop} (h : MT false l Z n0 lay y code maxL ret ws R as A Φ) (r : Nat → Addr) (hp : Heap) (H : Hp Z lay n0 r hp A) :
    MetFree l y (head1 (Jvm.Cond.code y code maxL ret :: ws) R) (fun a U => a = (ct r as).toArray ∧ Z.Warmed39 U.vm ∧ U.heap = hp) (fun _ _ _ _ _ => True) (fun _ U o U' => ∃ v L, o = .returned v ∧ QC Z lay n0 r A.length Φ v U'.heap L ∧ FrameEnd U o U' L R.cells R.slots) := h r hp H
theorem MT.wid {l : Launch} {Z : State} {n0 : Nat} {lay : Lay} {y : MethodName} {code : ByteArray} {maxL : Nat} {ret : Option FieldType} {ws : List Jvm.Cond} {R : Room} {as : List Value} {A : List ACell} {Φ : Option Value → List ACell → Prop} (h : MT true l Z n0 lay y code maxL ret ws R as A Φ) (r : Nat → Addr) (hp : Heap) (H : Hp Z lay n0 r hp A) :
    MetFree l y (head1 (Jvm.Cond.code y code maxL ret :: ws) R) (fun a U => a = (ct r as).toArray ∧ Z.Warmed39 U.vm ∧ U.heap = hp) (fun _ _ _ _ _ => True) (fun _ U o U' => ∃ v L, o = .returned v ∧ QC Z lay n0 r A.length Φ v U'.heap L ∧ ReturnedEndW U o U' L R.cells R.slots) := h r hp H
def entL (as : List Value) (maxL : Nat) : List Slot :=
  let f := as.flatMap fun (v : Value) => if v.category = 2 then [Slot.val v, Slot.second] else [Slot.val v]
  f ++ List.replicate (maxL - f.length) .unset
theorem ent_ok (r : Nat → Addr) (as : List Value) (maxL : Nat) : argsToLocals (ct r as).toArray maxL = cl r (entL as maxL) := by
  have key : ∀ (as : List Value) (acc : List Slot), List.foldl (fun (acc : Array Slot) (v : Value) => if v.category = 2 then (acc.push (.val v)).push .second else acc.push (.val v)) (acc.map (cs r)).toArray (ct r as)
      = ((acc ++ as.flatMap fun (v : Value) => if v.category = 2 then [Slot.val v, Slot.second] else [Slot.val v]).map (cs r)).toArray := by
    intro as
    induction as with
    | nil => intro acc; simp [ct]
    | cons v as ih =>
      intro acc
      simp only [ct, List.map_cons, List.foldl_cons, cv_cat]
      by_cases hc : v.category = 2
      · have := ih (acc ++ [.val v, .second])
        simp only [ct] at this
        simp only [hc, if_true, List.flatMap_cons]
        rw [← List.append_assoc, ← this]
        congr 1
        simp [cs]
      · have := ih (acc ++ [.val v])
        simp only [ct] at this
        simp only [hc, if_false, List.flatMap_cons]
        rw [← List.append_assoc, ← this]
        congr 1
        simp [cs]
  have k0 := key as []
  simp only [List.map_nil, List.nil_append] at k0
  unfold argsToLocals entL
  simp only [List.size_toArray, List.foldl_toArray', k0, cl]
  simp [cs]

/-! ## 6. The rules -/
section Rules
variable {w : Bool} {l : Launch} {Z : State} {a0 : Array Value} {n0 : Nat} {lay : Lay} {own : String} {D : Dt} {maxL : Nat} {ret : Option FieldType} {nm : String} {R : Room}
  {pc jx : Nat} {ls : List Slot} {st : List Value} {A : List ACell} {cells slots : Nat} {Φ : Option Value → List ACell → Prop}
theorem W_enter {y : MethodName} {code : ByteArray} {ws : List Jvm.Cond} {as : List Value} (hpn : plainFor y = true) (hD : ∀ q ∈ D, decode code q.1 = .ok q.2) (h : WP w l Z n0 lay y.cls D maxL ret y.name R 0 (entL as maxL) [] A 0 0 Φ) :
    MT w l Z n0 lay y code maxL ret ws R as A Φ := by
  intro r hh HP
  refine MetFree.of_bodySF hpn hisR ?_
  intro p e s m args below meth c s₁ Bd hml hP hK
  obtain ⟨rfl, hZ, hh'⟩ := hP
  have X0 : Stand p l e R s m _ below meth c s₁ [] 0 0 := Stand.of_body Bd
  have e0 : s₁.heap = hh := by rw [← hh', Bd.state]; rfl
  have hby := Bd.bytes
  have C0 : Cx Z y.cls D maxL ret y.name p s m meth c := ⟨Bd.exec, hZ, findClass_of_methodNamed Bd.named, Bd.returns, Bd.notSynchronized, fun q hq => hb hby (hD q hq), hml, (name_of_methodNamed Bd.named Bd.method).1⟩
  obtain ⟨s₂, v, L, A', r', h1, h2, h3, h4, h5, h6, h7, h8⟩ := h p e s s m _ below meth c s₁ [] r X0 C0 (Fr.nil n0) (e0 ▸ HP) (by cases w; exact rfl; exact ⟨s.vm, 0, rfl, (State.WarmedH.refl s).since 0, Nat.zero_le _⟩)
  have hE : entryFrame m (ct r as).toArray maxL = mkF m 0 (cl r (entL as maxL)) (ct r []) := by unfold entryFrame; rw [ent_ok]; rfl
  exact ⟨s₂, _, castTop hE h1, h2, h3, _, L, rfl, ⟨h5, v, A', r', rfl, h6, h7, h8⟩, h4⟩
theorem W_pure {ins : Instr} {len pc' : Nat} {ls' : List Slot} {st' : List Value} (hl : D[jx]? = some (pc, ins, len)) (h : pst ins len pc ls st = some (pc', ls', st')) (hr : WP w l Z n0 lay own D maxL ret nm R pc' ls' st' A cells slots Φ) : WP w l Z n0 lay own D maxL ret nm R pc ls st A cells slots Φ :=
  fun p e s s' m args below meth c T locs r X C N H B => (hr p e s s' m args below meth c T locs r X C N H B).back (fun t ht => pst_ok X.here C.1 (C.dec hl) h ht) (Nat.le_refl _) (fun _ _ => rfl)
def srun : Dt → Nat → Nat → List Slot → List Value → Option Cf
  | _, 0, pc, ls, st => some (pc, ls, st)
  | [], _ + 1, _, _, _ => none
  | (k, ins, len) :: D, n + 1, pc, ls, st => if k = pc then (match pst ins len k ls st with | some (pc', ls', st') => srun D n pc' ls' st' | none => none) else none
theorem W_srun (n : Nat) {E : Dt} {pc' : Nat} {ls' : List Slot} {st' : List Value} (hE : ∀ q ∈ E, q ∈ D) (h : srun E n pc ls st = some (pc', ls', st')) (hr : WP w l Z n0 lay own D maxL ret nm R pc' ls' st' A cells slots Φ) : WP w l Z n0 lay own D maxL ret nm R pc ls st A cells slots Φ := by
  induction n generalizing pc ls st E with
  | zero =>
    have h' : some (pc, ls, st) = some (pc', ls', st') := by cases E <;> exact h
    cases h'; exact hr
  | succ n ih =>
    cases E with
    | nil => cases h
    | cons q E =>
      obtain ⟨k, ins, len⟩ := q
      simp only [srun] at h
      split at h
      · rename_i e0
        subst e0
        split at h
        · rename_i a b d e2
          obtain ⟨jx, hj⟩ := List.getElem?_of_mem (hE _ (List.mem_cons_self ..))
          exact W_pure hj e2 (ih (fun q hq => hE q (List.mem_cons_of_mem _ hq)) h)
        · cases h
      · cases h
/-- n plain instructions, from the jx-th row of the table -/
theorem W_run (jx n : Nat) {pc' : Nat} {ls' : List Slot} {st' : List Value} (h : srun (D.drop jx) n pc ls st = some (pc', ls', st')) (hr : WP w l Z n0 lay own D maxL ret nm R pc' ls' st' A cells slots Φ) : WP w l Z n0 lay own D maxL ret nm R pc ls st A cells slots Φ :=
  W_srun n (fun _ hq => List.mem_of_mem_drop hq) h hr
theorem W_icmp {cd : ClassFile.Cond} {o : Int} {x y : Int32} {pc' : Nat} (hl : D[jx]? = some (pc, .if_icmp cd o, 3)) (ho : 0 ≤ (pc : Int) + o) (hp : ((pc : Int) + o).toNat = pc') (h1 : if_icmp.holds cd x y = true → WP w l Z n0 lay own D maxL ret nm R pc' ls st A cells slots Φ)
    (h2 : if_icmp.holds cd x y = false → WP w l Z n0 lay own D maxL ret nm R (pc + 3) ls st A cells slots Φ) : WP w l Z n0 lay own D maxL ret nm R pc ls (.int y :: .int x :: st) A cells slots Φ := by
  subst hp
  cases hb : if_icmp.holds cd x y
  · exact W_pure hl (by simp [pst, ilen, pcore, hb]) (h2 hb)
  · exact W_pure hl (by simp [pst, ilen, pcore, hb, jmp, ho]) (h1 hb)
theorem W_if {cd : ClassFile.Cond} {o : Int} {x : Int32} {pc' : Nat} (hl : D[jx]? = some (pc, .ifCond cd o, 3)) (ho : 0 ≤ (pc : Int) + o) (hp : ((pc : Int) + o).toNat = pc') (h1 : ifCond.holds cd x = true → WP w l Z n0 lay own D maxL ret nm R pc' ls st A cells slots Φ)
    (h2 : ifCond.holds cd x = false → WP w l Z n0 lay own D maxL ret nm R (pc + 3) ls st A cells slots Φ) : WP w l Z n0 lay own D maxL ret nm R pc ls (.int x :: st) A cells slots Φ := by
  subst hp
  cases hb : ifCond.holds cd x
  · exact W_pure hl (by simp [pst, ilen, pcore, hb]) (h2 hb)
  · exact W_pure hl (by simp [pst, ilen, pcore, hb, jmp, ho]) (h1 hb)
theorem h_lt {x y : Int32} : (if_icmp.holds .lt x y = true ↔ x < y) ∧ (if_icmp.holds .lt x y = false ↔ ¬ x < y) := by
  by_cases h : x < y <;> simp [if_icmp.holds, h, Int32.not_lt, Int32.not_le, Int32.le_iff_toInt_le, Int32.lt_iff_toInt_lt] <;> (simp only [Int32.lt_iff_toInt_lt] at h; omega)
theorem h_ge {x y : Int32} : (if_icmp.holds .ge x y = true ↔ ¬ x < y) ∧ (if_icmp.holds .ge x y = false ↔ x < y) := by
  by_cases h : x < y <;> simp [if_icmp.holds, h, Int32.not_lt, Int32.not_le, Int32.le_iff_toInt_le, Int32.lt_iff_toInt_lt] <;> (simp only [Int32.lt_iff_toInt_lt] at h; omega)
theorem h_gt {x y : Int32} : (if_icmp.holds .gt x y = true ↔ y < x) ∧ (if_icmp.holds .gt x y = false ↔ ¬ y < x) := by
  by_cases h : y < x <;> simp [if_icmp.holds, h, Int32.not_lt, Int32.not_le, Int32.le_iff_toInt_le, Int32.lt_iff_toInt_lt] <;> (simp only [Int32.lt_iff_toInt_lt] at h; omega)
theorem h_le {x y : Int32} : (if_icmp.holds .le x y = true ↔ ¬ y < x) ∧ (if_icmp.holds .le x y = false ↔ y < x) := by
  by_cases h : y < x <;> simp [if_icmp.holds, h, Int32.not_lt, Int32.not_le, Int32.le_iff_toInt_le, Int32.lt_iff_toInt_lt] <;> (simp only [Int32.lt_iff_toInt_lt] at h; omega)
theorem h_eq {x y : Int32} : (if_icmp.holds .eq x y = true ↔ x = y) ∧ (if_icmp.holds .eq x y = false ↔ ¬ x = y) := by
  by_cases h : x = y <;> simp [if_icmp.holds, h, Int32.not_lt, Int32.not_le, Int32.le_iff_toInt_le, Int32.lt_iff_toInt_lt] <;> (simp only [Int32.lt_iff_toInt_lt] at h; omega)
theorem h_ne {x y : Int32} : (if_icmp.holds .ne x y = true ↔ ¬ x = y) ∧ (if_icmp.holds .ne x y = false ↔ x = y) := by
  by_cases h : x = y <;> simp [if_icmp.holds, h, Int32.not_lt, Int32.not_le, Int32.le_iff_toInt_le, Int32.lt_iff_toInt_lt] <;> (simp only [Int32.lt_iff_toInt_lt] at h; omega)
theorem W_lt {o : Int} {x y : Int32} {pc' : Nat} (hl : D[jx]? = some (pc, .if_icmp .lt o, 3)) (ho : 0 ≤ (pc : Int) + o) (hp : ((pc : Int) + o).toNat = pc') (h1 : x < y → WP w l Z n0 lay own D maxL ret nm R pc' ls st A cells slots Φ)
    (h2 : ¬ x < y → WP w l Z n0 lay own D maxL ret nm R (pc + 3) ls st A cells slots Φ) : WP w l Z n0 lay own D maxL ret nm R pc ls (.int y :: .int x :: st) A cells slots Φ :=
  W_icmp hl ho hp (fun h => h1 (h_lt.1.mp h)) (fun h => h2 (h_lt.2.mp h))
theorem W_ge {o : Int} {x y : Int32} {pc' : Nat} (hl : D[jx]? = some (pc, .if_icmp .ge o, 3)) (ho : 0 ≤ (pc : Int) + o) (hp : ((pc : Int) + o).toNat = pc') (h1 : ¬ x < y → WP w l Z n0 lay own D maxL ret nm R pc' ls st A cells slots Φ)
    (h2 : x < y → WP w l Z n0 lay own D maxL ret nm R (pc + 3) ls st A cells slots Φ) : WP w l Z n0 lay own D maxL ret nm R pc ls (.int y :: .int x :: st) A cells slots Φ :=
  W_icmp hl ho hp (fun h => h1 (h_ge.1.mp h)) (fun h => h2 (h_ge.2.mp h))
theorem W_gt {o : Int} {x y : Int32} {pc' : Nat} (hl : D[jx]? = some (pc, .if_icmp .gt o, 3)) (ho : 0 ≤ (pc : Int) + o) (hp : ((pc : Int) + o).toNat = pc') (h1 : y < x → WP w l Z n0 lay own D maxL ret nm R pc' ls st A cells slots Φ)
    (h2 : ¬ y < x → WP w l Z n0 lay own D maxL ret nm R (pc + 3) ls st A cells slots Φ) : WP w l Z n0 lay own D maxL ret nm R pc ls (.int y :: .int x :: st) A cells slots Φ :=
  W_icmp hl ho hp (fun h => h1 (h_gt.1.mp h)) (fun h => h2 (h_gt.2.mp h))
theorem W_le {o : Int} {x y : Int32} {pc' : Nat} (hl : D[jx]? = some (pc, .if_icmp .le o, 3)) (ho : 0 ≤ (pc : Int) + o) (hp : ((pc : Int) + o).toNat = pc') (h1 : ¬ y < x → WP w l Z n0 lay own D maxL ret nm R pc' ls st A cells slots Φ)
    (h2 : y < x → WP w l Z n0 lay own D maxL ret nm R (pc + 3) ls st A cells slots Φ) : WP w l Z n0 lay own D maxL ret nm R pc ls (.int y :: .int x :: st) A cells slots Φ :=
  W_icmp hl ho hp (fun h => h1 (h_le.1.mp h)) (fun h => h2 (h_le.2.mp h))
theorem W_eq {o : Int} {x y : Int32} {pc' : Nat} (hl : D[jx]? = some (pc, .if_icmp .eq o, 3)) (ho : 0 ≤ (pc : Int) + o) (hp : ((pc : Int) + o).toNat = pc') (h1 : x = y → WP w l Z n0 lay own D maxL ret nm R pc' ls st A cells slots Φ)
    (h2 : ¬ x = y → WP w l Z n0 lay own D maxL ret nm R (pc + 3) ls st A cells slots Φ) : WP w l Z n0 lay own D maxL ret nm R pc ls (.int y :: .int x :: st) A cells slots Φ :=
  W_icmp hl ho hp (fun h => h1 (h_eq.1.mp h)) (fun h => h2 (h_eq.2.mp h))
theorem W_ne {o : Int} {x y : Int32} {pc' : Nat} (hl : D[jx]? = some (pc, .if_icmp .ne o, 3)) (ho : 0 ≤ (pc : Int) + o) (hp : ((pc : Int) + o).toNat = pc') (h1 : ¬ x = y → WP w l Z n0 lay own D maxL ret nm R pc' ls st A cells slots Φ)
    (h2 : x = y → WP w l Z n0 lay own D maxL ret nm R (pc + 3) ls st A cells slots Φ) : WP w l Z n0 lay own D maxL ret nm R pc ls (.int y :: .int x :: st) A cells slots Φ :=
  W_icmp hl ho hp (fun h => h1 (h_ne.1.mp h)) (fun h => h2 (h_ne.2.mp h))
theorem W_iflt {o : Int} {x : Int32} {pc' : Nat} (hl : D[jx]? = some (pc, .ifCond .lt o, 3)) (ho : 0 ≤ (pc : Int) + o) (hp : ((pc : Int) + o).toNat = pc') (h1 : x < 0 → WP w l Z n0 lay own D maxL ret nm R pc' ls st A cells slots Φ)
    (h2 : ¬ x < 0 → WP w l Z n0 lay own D maxL ret nm R (pc + 3) ls st A cells slots Φ) : WP w l Z n0 lay own D maxL ret nm R pc ls (.int x :: st) A cells slots Φ :=
  W_if hl ho hp (fun h => h1 (h_lt.1.mp (by rw [if0] at h; exact h))) (fun h => h2 (h_lt.2.mp (by rw [if0] at h; exact h)))
theorem W_ifge {o : Int} {x : Int32} {pc' : Nat} (hl : D[jx]? = some (pc, .ifCond .ge o, 3)) (ho : 0 ≤ (pc : Int) + o) (hp : ((pc : Int) + o).toNat = pc') (h1 : ¬ x < 0 → WP w l Z n0 lay own D maxL ret nm R pc' ls st A cells slots Φ)
    (h2 : x < 0 → WP w l Z n0 lay own D maxL ret nm R (pc + 3) ls st A cells slots Φ) : WP w l Z n0 lay own D maxL ret nm R pc ls (.int x :: st) A cells slots Φ :=
  W_if hl ho hp (fun h => h1 (h_ge.1.mp (by rw [if0] at h; exact h))) (fun h => h2 (h_ge.2.mp (by rw [if0] at h; exact h)))
theorem W_ifgt {o : Int} {x : Int32} {pc' : Nat} (hl : D[jx]? = some (pc, .ifCond .gt o, 3)) (ho : 0 ≤ (pc : Int) + o) (hp : ((pc : Int) + o).toNat = pc') (h1 : 0 < x → WP w l Z n0 lay own D maxL ret nm R pc' ls st A cells slots Φ)
    (h2 : ¬ 0 < x → WP w l Z n0 lay own D maxL ret nm R (pc + 3) ls st A cells slots Φ) : WP w l Z n0 lay own D maxL ret nm R pc ls (.int x :: st) A cells slots Φ :=
  W_if hl ho hp (fun h => h1 (h_gt.1.mp (by rw [if0] at h; exact h))) (fun h => h2 (h_gt.2.mp (by rw [if0] at h; exact h)))
theorem W_ifle {o : Int} {x : Int32} {pc' : Nat} (hl : D[jx]? = some (pc, .ifCond .le o, 3)) (ho : 0 ≤ (pc : Int) + o) (hp : ((pc : Int) + o).toNat = pc') (h1 : ¬ 0 < x → WP w l Z n0 lay own D maxL ret nm R pc' ls st A cells slots Φ)
    (h2 : 0 < x → WP w l Z n0 lay own D maxL ret nm R (pc + 3) ls st A cells slots Φ) : WP w l Z n0 lay own D maxL ret nm R pc ls (.int x :: st) A cells slots Φ :=
  W_if hl ho hp (fun h => h1 (h_le.1.mp (by rw [if0] at h; exact h))) (fun h => h2 (h_le.2.mp (by rw [if0] at h; exact h)))
theorem W_ifeq {o : Int} {x : Int32} {pc' : Nat} (hl : D[jx]? = some (pc, .ifCond .eq o, 3)) (ho : 0 ≤ (pc : Int) + o) (hp : ((pc : Int) + o).toNat = pc') (h1 : x = 0 → WP w l Z n0 lay own D maxL ret nm R pc' ls st A cells slots Φ)
    (h2 : ¬ x = 0 → WP w l Z n0 lay own D maxL ret nm R (pc + 3) ls st A cells slots Φ) : WP w l Z n0 lay own D maxL ret nm R pc ls (.int x :: st) A cells slots Φ :=
  W_if hl ho hp (fun h => h1 (h_eq.1.mp (by rw [if0] at h; exact h))) (fun h => h2 (h_eq.2.mp (by rw [if0] at h; exact h)))
theorem W_ifne {o : Int} {x : Int32} {pc' : Nat} (hl : D[jx]? = some (pc, .ifCond .ne o, 3)) (ho : 0 ≤ (pc : Int) + o) (hp : ((pc : Int) + o).toNat = pc') (h1 : ¬ x = 0 → WP w l Z n0 lay own D maxL ret nm R pc' ls st A cells slots Φ)
    (h2 : x = 0 → WP w l Z n0 lay own D maxL ret nm R (pc + 3) ls st A cells slots Φ) : WP w l Z n0 lay own D maxL ret nm R pc ls (.int x :: st) A cells slots Φ :=
  W_if hl ho hp (fun h => h1 (h_ne.1.mp (by rw [if0] at h; exact h))) (fun h => h2 (h_ne.2.mp (by rw [if0] at h; exact h)))
theorem W_llt {o : Int} {x y : Int64} {pc' : Nat} (hl : D[jx]? = some (pc, .ifCond .lt o, 3)) (ho : 0 ≤ (pc : Int) + o) (hp : ((pc : Int) + o).toNat = pc') (h1 : x < y → WP w l Z n0 lay own D maxL ret nm R pc' ls st A cells slots Φ)
    (h2 : ¬ x < y → WP w l Z n0 lay own D maxL ret nm R (pc + 3) ls st A cells slots Φ) : WP w l Z n0 lay own D maxL ret nm R pc ls (.int (XT.cmpL x y) :: st) A cells slots Φ := by
  by_cases q : x < y
  · exact W_if hl ho hp (fun h => h1 q) (fun h => absurd h (by rw [XT.ll_lt_t q]; decide))
  · exact W_if hl ho hp (fun h => absurd h (by rw [XT.ll_lt_f q]; decide)) (fun h => h2 q)
theorem W_lge {o : Int} {x y : Int64} {pc' : Nat} (hl : D[jx]? = some (pc, .ifCond .ge o, 3)) (ho : 0 ≤ (pc : Int) + o) (hp : ((pc : Int) + o).toNat = pc') (h1 : ¬ x < y → WP w l Z n0 lay own D maxL ret nm R pc' ls st A cells slots Φ)
    (h2 : x < y → WP w l Z n0 lay own D maxL ret nm R (pc + 3) ls st A cells slots Φ) : WP w l Z n0 lay own D maxL ret nm R pc ls (.int (XT.cmpL x y) :: st) A cells slots Φ := by
  by_cases q : x < y
  · exact W_if hl ho hp (fun h => absurd h (by rw [XT.ll_ge_f q]; decide)) (fun h => h2 q)
  · exact W_if hl ho hp (fun h => h1 q) (fun h => absurd h (by rw [XT.ll_ge_t q]; decide))
theorem W_lgt {o : Int} {x y : Int64} {pc' : Nat} (hl : D[jx]? = some (pc, .ifCond .gt o, 3)) (ho : 0 ≤ (pc : Int) + o) (hp : ((pc : Int) + o).toNat = pc') (h1 : y < x → WP w l Z n0 lay own D maxL ret nm R pc' ls st A cells slots Φ)
    (h2 : ¬ y < x → WP w l Z n0 lay own D maxL ret nm R (pc + 3) ls st A cells slots Φ) : WP w l Z n0 lay own D maxL ret nm R pc ls (.int (XT.cmpL x y) :: st) A cells slots Φ := by
  by_cases q : y < x
  · exact W_if hl ho hp (fun h => h1 q) (fun h => absurd h (by rw [XT.ll_gt_t q]; decide))
  · exact W_if hl ho hp (fun h => absurd h (by rw [XT.ll_gt_f q]; decide)) (fun h => h2 q)
theorem W_lle {o : Int} {x y : Int64} {pc' : Nat} (hl : D[jx]? = some (pc, .ifCond .le o, 3)) (ho : 0 ≤ (pc : Int) + o) (hp : ((pc : Int) + o).toNat = pc') (h1 : ¬ y < x → WP w l Z n0 lay own D maxL ret nm R pc' ls st A cells slots Φ)
    (h2 : y < x → WP w l Z n0 lay own D maxL ret nm R (pc + 3) ls st A cells slots Φ) : WP w l Z n0 lay own D maxL ret nm R pc ls (.int (XT.cmpL x y) :: st) A cells slots Φ := by
  by_cases q : y < x
  · exact W_if hl ho hp (fun h => absurd h (by rw [XT.ll_le_f q]; decide)) (fun h => h2 q)
  · exact W_if hl ho hp (fun h => h1 q) (fun h => absurd h (by rw [XT.ll_le_t q]; decide))
theorem W_leq {o : Int} {x y : Int64} {pc' : Nat} (hl : D[jx]? = some (pc, .ifCond .eq o, 3)) (ho : 0 ≤ (pc : Int) + o) (hp : ((pc : Int) + o).toNat = pc') (h1 : x = y → WP w l Z n0 lay own D maxL ret nm R pc' ls st A cells slots Φ)
    (h2 : ¬ x = y → WP w l Z n0 lay own D maxL ret nm R (pc + 3) ls st A cells slots Φ) : WP w l Z n0 lay own D maxL ret nm R pc ls (.int (XT.cmpL x y) :: st) A cells slots Φ := by
  by_cases q : x = y
  · exact W_if hl ho hp (fun h => h1 q) (fun h => absurd h (by rw [XT.ll_eq_t q]; decide))
  · exact W_if hl ho hp (fun h => absurd h (by rw [XT.ll_eq_f q]; decide)) (fun h => h2 q)
theorem W_lne {o : Int} {x y : Int64} {pc' : Nat} (hl : D[jx]? = some (pc, .ifCond .ne o, 3)) (ho : 0 ≤ (pc : Int) + o) (hp : ((pc : Int) + o).toNat = pc') (h1 : ¬ x = y → WP w l Z n0 lay own D maxL ret nm R pc' ls st A cells slots Φ)
    (h2 : x = y → WP w l Z n0 lay own D maxL ret nm R (pc + 3) ls st A cells slots Φ) : WP w l Z n0 lay own D maxL ret nm R pc ls (.int (XT.cmpL x y) :: st) A cells slots Φ := by
  by_cases q : x = y
  · exact W_if hl ho hp (fun h => absurd h (by rw [XT.ll_ne_f q]; decide)) (fun h => h2 q)
  · exact W_if hl ho hp (fun h => h1 q) (fun h => absurd h (by rw [XT.ll_ne_t q]; decide))
theorem W_irem {x y : Int32} (hl : D[jx]? = some (pc, .irem, 1)) (hy : y ≠ 0) (h : WP w l Z n0 lay own D maxL ret nm R (pc + 1) ls (.int (x % y) :: st) A cells slots Φ) : WP w l Z n0 lay own D maxL ret nm R pc ls (.int y :: .int x :: st) A cells slots Φ :=
  W_pure hl (by simp [pst, ilen, pcore, binD, hy]) h
theorem W_lrem {x y : Int64} (hl : D[jx]? = some (pc, .lrem, 1)) (hy : y ≠ 0) (h : WP w l Z n0 lay own D maxL ret nm R (pc + 1) ls (.long (x % y) :: st) A cells slots Φ) : WP w l Z n0 lay own D maxL ret nm R pc ls (.long y :: .long x :: st) A cells slots Φ :=
  W_pure hl (by simp [pst, ilen, pcore, binLD, hy]) h
theorem W_idiv {x y : Int32} (hl : D[jx]? = some (pc, .idiv, 1)) (hy : y ≠ 0) (h : WP w l Z n0 lay own D maxL ret nm R (pc + 1) ls (.int (x / y) :: st) A cells slots Φ) : WP w l Z n0 lay own D maxL ret nm R pc ls (.int y :: .int x :: st) A cells slots Φ :=
  W_pure hl (by simp [pst, ilen, pcore, binD, hy]) h
theorem W_ldiv {x y : Int64} (hl : D[jx]? = some (pc, .ldiv, 1)) (hy : y ≠ 0) (h : WP w l Z n0 lay own D maxL ret nm R (pc + 1) ls (.long (x / y) :: st) A cells slots Φ) : WP w l Z n0 lay own D maxL ret nm R pc ls (.long y :: .long x :: st) A cells slots Φ :=
  W_pure hl (by simp [pst, ilen, pcore, binLD, hy]) h
theorem W_conseq {Ψ : Option Value → List ACell → Prop} (h : WP w l Z n0 lay own D maxL ret nm R pc ls st A cells slots Ψ) (hq : ∀ v B, Ψ v B → Φ v B) : WP w l Z n0 lay own D maxL ret nm R pc ls st A cells slots Φ :=
  fun p e s s' m args below meth c T locs r X C N H B => by
    obtain ⟨s₂, v, L, A', r', h1, h2, h3, h4, h5, h6, h7, h8⟩ := h p e s s' m args below meth c T locs r X C N H B
    exact ⟨s₂, v, L, A', r', h1, h2, h3, h4, h5, h6, h7, hq v A' h8⟩
theorem W_books {cells' slots' : Nat} (hc : cells ≤ cells') (hs : slots ≤ slots') (h : WP w l Z n0 lay own D maxL ret nm R pc ls st A cells' slots' Φ) : WP w l Z n0 lay own D maxL ret nm R pc ls st A cells slots Φ :=
  fun p e s s' m args below meth c T locs r X C N H B => h p e s s' m args below meth c T locs r (X.mono hc hs) C N H B
theorem MT.conseq {y : MethodName} {code : ByteArray} {ws : List Jvm.Cond} {as : List Value} {Ψ : Option Value → List ACell → Prop} (h : MT w l Z n0 lay y code maxL ret ws R as A Ψ) (hq : ∀ v B, Ψ v B → Φ v B) : MT w l Z n0 lay y code maxL ret ws R as A Φ :=
  fun r hh HP p e ha hc hk s m args below hf happ hP hK => by
    obtain ⟨n, o, h1, h2, h3, v, L, h4, ⟨h5, v', A', r', h6, h7, h8, h9⟩, h10⟩ := h r hh HP p e ha hc hk s m args below hf happ hP hK
    exact ⟨n, o, h1, h2, h3, v, L, h4, ⟨h5, v', A', r', h6, h7, h8, hq v' A' h9⟩, h10⟩
/-! returns -/
theorem Based.grow {s s' : State} {k k' : Nat} (h : Based w s s' k) (q : k ≤ k') : Based w s s' k' := by
  cases w
  · exact h
  · obtain ⟨vm0, k0, h1, h2, h3⟩ := h
    exact ⟨vm0, k0, h1, h2, Nat.le_trans h3 q⟩
theorem leaveK {p : Program} {e : Env} {s s' : State} {m : MethodId} {args : Array Value} {below : List Frame} {meth : Method} {c : Code} {T : State} {locs : List Loc} (X : Stand p l e R s' m args below meth c T locs cells slots) (B : Based w s s' T.heap.size) {v : Option Value} (hv : meth.sig.returnType = none → v = none) (hlk : meth.locks = false) (hc : cells ≤ R.cells) (hs : slots ≤ R.slots) :
    ∃ fs, (∀ (f : JFrame) (acts : List Action), f.method = m → f.locked = none → f.entered = [] → (doReturn e (T.setTop f) acts v).1 = T.setFrames fs) ∧ (T.setFrames fs).status = .running ∧ Ended (T.setFrames fs) below (.returned v) ∧ EndK w s (.returned v) (T.setFrames fs) locs R.cells R.slots := by
  cases w
  · cases B
    obtain ⟨fs, h1, h2, h3, h4, h5⟩ := X.leave hv hlk
    exact ⟨fs, h1, h2, h3, ⟨v, rfl⟩, h4, h5.mono hc hs⟩
  · obtain ⟨vm0, k0, rfl, h2, h3⟩ := B
    obtain ⟨fs, h4, h5, h6, h7, h8, h9, h10⟩ := X.leaveW h2 h3 hv hlk
    exact ⟨fs, h4, h5, h6, h7, h8, h9, h10.mono hc hs⟩
theorem W_ret {i : Instr} {v : Value} {t : FieldType} (hl : D[jx]? = some (pc, i, 1)) (hret : ret = some t) (hn : ∀ r : Nat → Addr, narrow t (cv r v) = cv r v)
    (hi : (i = .ireturn ∧ (t = .int ∨ t = .boolean ∨ t = .byte ∨ t = .char ∨ t = .short) ∧ ∃ z, v = .int z) ∨ (i = .lreturn ∧ t = .long ∧ ∃ z, v = .long z) ∨ (i = .areturn ∧ t.isReference = true ∧ v.isRef = true))
    (hc : cells ≤ R.cells) (hs : slots ≤ R.slots) (h : Φ (some v) A) : WP w l Z n0 lay own D maxL ret nm R pc ls (v :: st) A cells slots Φ :=
  fun p e s s' m args below meth c T locs r X C N H B => by
    have hD := @Cx.dec _ _ _ _ _ _ _ _ _ _ _ C
    obtain ⟨hx, hZ, hown, hre, hlk, -, hml, hnm⟩ := C
    obtain ⟨fs, h1, h2, h3, h4⟩ := leaveK X B (v := some (cv r v)) (fun q => by rw [hre, hret] at q; cases q) hlk hc hs
    refine ⟨_, some v, locs, A, r, ?_, h2, h3, h4, N, H, ⟨fun _ _ => rfl, Nat.le_refl _⟩, h⟩
    exact retOut X hx (hre.trans hret) (hn r) (by
      rcases hi with ⟨a, b, z, rfl⟩ | ⟨a, b, z, rfl⟩ | ⟨a, b, d⟩
      · exact Or.inl ⟨a, b, z, rfl⟩
      · exact Or.inr (Or.inl ⟨a, b, z, rfl⟩)
      · exact Or.inr (Or.inr (Or.inr (Or.inr ⟨a, b, (cv_isRef r v).trans d⟩)))) (hD hl) h1
theorem W_ireturn {z : Int32} (hl : D[jx]? = some (pc, .ireturn, 1)) (hret : ret = some .int) (hc : cells ≤ R.cells) (hs : slots ≤ R.slots) (h : Φ (some (.int z)) A) : WP w l Z n0 lay own D maxL ret nm R pc ls (.int z :: st) A cells slots Φ :=
  W_ret hl hret (fun _ => rfl) (Or.inl ⟨rfl, Or.inl rfl, z, rfl⟩) hc hs h
theorem W_zreturn {z : Int32} (hl : D[jx]? = some (pc, .ireturn, 1)) (hret : ret = some .boolean) (hz : narrow .boolean (.int z) = .int z) (hc : cells ≤ R.cells) (hs : slots ≤ R.slots) (h : Φ (some (.int z)) A) : WP w l Z n0 lay own D maxL ret nm R pc ls (.int z :: st) A cells slots Φ :=
  W_ret hl hret (fun _ => hz) (Or.inl ⟨rfl, Or.inr (Or.inl rfl), z, rfl⟩) hc hs h
theorem W_lreturn {z : Int64} (hl : D[jx]? = some (pc, .lreturn, 1)) (hret : ret = some .long) (hc : cells ≤ R.cells) (hs : slots ≤ R.slots) (h : Φ (some (.long z)) A) : WP w l Z n0 lay own D maxL ret nm R pc ls (.long z :: st) A cells slots Φ :=
  W_ret hl hret (fun _ => rfl) (Or.inr (Or.inl ⟨rfl, rfl, z, rfl⟩)) hc hs h
theorem W_areturn {v : Value} {t : FieldType} (hl : D[jx]? = some (pc, .areturn, 1)) (hret : ret = some t) (ht : t.isReference = true) (hv : v.isRef = true) (hc : cells ≤ R.cells) (hs : slots ≤ R.slots) (h : Φ (some v) A) : WP w l Z n0 lay own D maxL ret nm R pc ls (v :: st) A cells slots Φ :=
  W_ret hl hret (fun r => by cases v <;> simp [Value.isRef] at hv <;> cases t <;> simp [FieldType.isReference] at ht <;> rfl) (Or.inr (Or.inr ⟨rfl, ht, hv⟩)) hc hs h
theorem W_return (hl : D[jx]? = some (pc, .return_, 1)) (hret : ret = none) (hc : cells ≤ R.cells) (hs : slots ≤ R.slots) (h : Φ none A) : WP w l Z n0 lay own D maxL ret nm R pc ls [] A cells slots Φ :=
  fun p e s s' m args below meth c T locs r X C N H B => by
    have hD := @Cx.dec _ _ _ _ _ _ _ _ _ _ _ C
    obtain ⟨hx, hZ, hown, hre, hlk, -, hml, hnm⟩ := C
    obtain ⟨fs, h1, h2, h3, h4⟩ := leaveK X B (v := none) (fun _ => rfl) hlk hc hs
    exact ⟨_, none, locs, A, r, X.returnOut hx (hre.trans hret) (hD hl) h1, h2, h3, h4, N, H, ⟨fun _ _ => rfl, Nat.le_refl _⟩, h⟩
/-! constants of the pool -/
theorem W_ldcI {idx : Nat} {v : Int32} (hl : D[jx]? = some (pc, .ldc idx, 2)) (hk : (Jvm.Cond.constant own idx v).before a0 Z = true) (h : WP w l Z n0 lay own D maxL ret nm R (pc + 2) ls (.int v :: st) A cells slots Φ) : WP w l Z n0 lay own D maxL ret nm R pc ls st A cells slots Φ :=
  fun p e s s' m args below meth c T locs r X C N H B => (h p e s s' m args below meth c T locs r X C N H B).back (fun t ht => X.ldcI C.1 C.2.2.1 (mvT C.2.1 hk) rfl (C.dec hl) ht) (Nat.le_refl _) (fun _ _ => rfl)
theorem W_ldc2J {idx : Nat} {v : Int64} (hl : D[jx]? = some (pc, .ldc2_w idx, 3)) (hk : (Jvm.Cond.constantLong own idx v).before a0 Z = true) (h : WP w l Z n0 lay own D maxL ret nm R (pc + 3) ls (.long v :: st) A cells slots Φ) : WP w l Z n0 lay own D maxL ret nm R pc ls st A cells slots Φ :=
  fun p e s s' m args below meth c T locs r X C N H B => (h p e s s' m args below meth c T locs r X C N H B).back (fun t ht => X.ldc2J C.1 C.2.2.1 (mvT C.2.1 hk) rfl (C.dec hl) ht) (Nat.le_refl _) (fun _ _ => rfl)
/-! fields -/
theorem W_getfield {idx i k ci : Nat} {C : String} {vs : List Value} {v : Value} {fs : List (String × String × String)} {f : String × String × String} (hl : D[jx]? = some (pc, .getfield idx, 3)) (hk : (Jvm.Cond.fieldLink own idx f.1 f.2.1 f.2.2).before a0 Z = true) (hC : lay[ci]? = some (C, fs)) (hf : fs[k]? = some f)
    (hA : A[i]? = some (.inl (ci, vs))) (hv : vs[k]? = some v) (h : WP w l Z n0 lay own D maxL ret nm R (pc + 3) ls (v :: st) A cells slots Φ) : WP w l Z n0 lay own D maxL ret nm R pc ls (.ref i :: st) A cells slots Φ :=
  fun p e s s' m args below meth c T locs r X C' N H B => by
    obtain ⟨-, C0, fs', h1, E, h2, h3⟩ := H.1 i _ hA
    cases hC.symm.trans h1
    obtain ⟨T', X', e', st'⟩ := getF X C'.1 C'.2.1 C'.2.2.1 (host := "") (Or.inl hk) Via.refl rfl (h3 k f v hf hv) (g := mkF m pc (cl r ls) (ct r (.ref i :: st))) rfl rfl (C'.dec hl)
    exact (h p e s s' m args below meth c T' locs r X' C' N (e' ▸ H) (e' ▸ B)).back st' (Nat.le_refl _) (fun _ _ => rfl)
theorem W_putfield {idx i k kk ci : Nat} {C : String} {vs : List Value} {v : Value} {fs : List (String × String × String)} {f : String × String × String} {ty : FieldType} (hl : D[jx]? = some (pc, .putfield idx, 3)) (hL : LayOk Z a0 lay) (hk : (Jvm.Cond.fieldLink own idx f.1 f.2.1 f.2.2).before a0 Z = true)
    (hlay : (Jvm.Cond.lays C f.1 f.2.1 f.2.2).before a0 Z = true ∨ ((Jvm.Cond.laysFinal C f.1 f.2.1 f.2.2).before a0 Z = true ∧ own = f.1 ∧ nm = "<init>")) (hi : (Jvm.Cond.instantiable C kk).before a0 Z = true) (hty : parseFieldDescriptor f.2.2 = some ty)
    (hn : ∀ r : Nat → Addr, narrow ty (cv r v) = cv r v) (hfit : ∀ r : Nat → Addr, fits ty (cv r v) = true) (hC : lay[ci]? = some (C, fs)) (hf : fs[k]? = some f)
    (hA : A[i]? = some (.inl (ci, vs))) {A1 : List ACell} (hB : A.set i (.inl (ci, vs.set k v)) = A1) (h : WP w l Z n0 lay own D maxL ret nm R (pc + 3) ls st A1 cells slots Φ) : WP w l Z n0 lay own D maxL ret nm R pc ls (v :: .ref i :: st) A cells slots Φ :=
  fun p e s s' m args below meth c T locs r X C' N H B => by
    subst hB
    obtain ⟨hn0, hcell⟩ := H.1 i _ hA
    have hcell' := hcell
    obtain ⟨C0, fs', h1, E, h2, h3⟩ := hcell
    cases hC.symm.trans h1
    have hkl : k < vs.length := h2 ▸ (List.getElem?_eq_some_iff.mp hf).1
    obtain ⟨T', h', X', e', W, st'⟩ := putF X C'.1 C'.2.1 C'.2.2.1 (host := "") (Or.inl hk) Via.refl rfl (h3 k f _ hf (List.getElem?_eq_getElem hkl)) E (hlay.imp id fun q => ⟨q.1, q.2.1, C'.2.2.2.2.2.2.2.trans q.2.2⟩) hi hty (hn r) (hfit r)
      (g := mkF m pc (cl r ls) (ct r (v :: .ref i :: st))) rfl rfl (C'.dec hl)
    subst e'
    have H' := H.set hA W (hcell'.put hL hC hf W)
    refine (h p e s s' m args below meth c T' _ r X' C' (Fr.snoc X' N hn0) H' (B.grow (Nat.le_of_eq W.size.symm))).back st' (by simp) (fun _ _ => rfl)
/-! an object is made -/
theorem W_new {idx n ci : Nat} {C : String} {fs : List (String × String × String)} {vs : List Value} (hl : D[jx]? = some (pc, .new idx, 3)) (hL : LayOk Z a0 lay) (h1 : (Jvm.Cond.classLink own idx C).before a0 Z = true) (h2 : (Jvm.Cond.instantiable C n).before a0 Z = true) (h3 : (Jvm.Cond.initialized C).before a0 Z = true)
    (hC : lay[ci]? = some (C, fs)) (hvs : (fs.map fun f => (parseFieldDescriptor f.2.2).map defaultValue) = vs.map some) (hnr : vs.all (okV 0) = true) (hcc : cells + 1 ≤ R.cells) (hss : slots + n ≤ R.slots) (hck : (ls.all (okS A.length) && (st.all (okV A.length) && A.all (okC A.length))) = true)
    {N0 : Nat} {A1 : List ACell} (hN0 : A.length = N0) (hB : A ++ [.inl (ci, vs)] = A1) (h : WP w l Z n0 lay own D maxL ret nm R (pc + 3) ls (.ref N0 :: st) A1 (cells + 1) (slots + n) Φ) : WP w l Z n0 lay own D maxL ret nm R pc ls st A cells slots Φ :=
  fun p e s s' m args below meth c T locs r X C' N H B => by
    subst hN0 hB
    simp only [Bool.and_eq_true] at hck
    obtain ⟨k1, k2, k3⟩ := hck
    obtain ⟨T', h', X', e', E, Ex, Df, -, st'⟩ := newO X C'.1 C'.2.1 C'.2.2.1 h1 h2 h3 rfl (g := mkF m pc (cl r ls) (ct r st)) rfl (C'.dec hl) hcc hss
    subst e'
    have q : ∀ i, i < A.length → (fun i => if i = A.length then T.heap.size else r i) i = r i := fun i hi => if_neg (Nat.ne_of_lt hi)
    have H' := H.push E (c := .inl (ci, vs)) k3 ⟨C, fs, hC, Ex, by simpa using congrArg List.length hvs, fun i f v hf hv => by
      obtain ⟨l1, ty, p1⟩ := (hL ci C fs hC).1 f (List.mem_of_getElem? hf)
      have hi : ((fs.map fun f => (parseFieldDescriptor f.2.2).map defaultValue))[i]? = (vs.map some)[i]? := by rw [hvs]
      simp only [List.getElem?_map, hf, hv, Option.map_some, p1, Option.some.injEq] at hi
      have hcv : ∀ r, cv r v = v := fun r => by
        have := List.all_eq_true.mp hnr v (List.mem_of_getElem? hv)
        cases v <;> first | rfl | (simp [okV] at this)
      rw [hcv, ← hi]
      exact Df l1 p1⟩
    have hf := h p e s s' m args below meth c T' locs _ X' C' N H' (B.grow E.1)
    refine hf.back (fun t ht => st' t ?_) (by simp) q
    have hr1 : ct (fun i => if i = A.length then T.heap.size else r i) (.ref A.length :: st) = .ref T.heap.size :: ct r st := by
      show cv _ _ :: ct _ st = _
      rw [ct_ag q k2]
      simp [cv]
    rw [cl_ag q k1, hr1] at ht
    exact ht
/-! arrays -/
theorem W_newarray {aty : ArrayType} {n : Int32} {ty : FieldType} (cap : Nat) {vs : List Value} (hl : D[jx]? = some (pc, .newarray aty, 2)) (hty : newarray.typeOf aty = ty) (h1 : (Jvm.Cond.arrayClass ty).before a0 Z = true) (hn : ¬ n < 0) (hvs : vs = List.replicate n.toNatClampNeg (defaultValue ty))
    (hcap : n.toNatClampNeg ≤ cap) (hb : cap * 8 ≤ 536870912) (hcc : cells + 1 ≤ R.cells) (hss : slots + cap ≤ R.slots) (hck : (ls.all (okS A.length) && (st.all (okV A.length) && A.all (okC A.length))) = true)
    {N0 : Nat} {A1 : List ACell} (hN0 : A.length = N0) (hB : A ++ [.inr (ty, vs)] = A1) (h : WP w l Z n0 lay own D maxL ret nm R (pc + 2) ls (.ref N0 :: st) A1 (cells + 1) (slots + cap) Φ) : WP w l Z n0 lay own D maxL ret nm R pc ls (.int n :: st) A cells slots Φ :=
  fun p e s s' m args below meth c T locs r X C' N H B => by
    subst hty hN0 hB
    simp only [Bool.and_eq_true] at hck
    obtain ⟨k1, k2, k3⟩ := hck
    obtain ⟨T', h', cA, X', e', E, Ar, Ex, st'⟩ := newPE X C'.1 C'.2.1 h1 rfl (g := mkF m pc (cl r ls) (ct r (.int n :: st))) rfl (C'.dec hl) rfl hn hcap hb hcc hss (ad := _) rfl
    subst e'
    have q : ∀ i, i < A.length → (fun i => if i = A.length then T.heap.size else r i) i = r i := fun i hi => if_neg (Nat.ne_of_lt hi)
    have hdv : ∀ r : Nat → Addr, cv r (defaultValue (newarray.typeOf aty)) = defaultValue (newarray.typeOf aty) := fun r => by cases aty <;> rfl
    have H' := H.push E (c := .inr (newarray.typeOf aty, vs)) k3 ⟨_, Ar, by subst hvs; simp [newA, ct, hdv], fun v hv => by subst hvs; rw [List.eq_of_mem_replicate hv]; cases aty <;> rfl, Ex⟩
    have hf := h p e s s' m args below meth c T' locs _ X' C' N H' (B.grow E.1)
    refine hf.back (fun t ht => st' t ?_) (by simp) q
    have hr1 : ct (fun i => if i = A.length then T.heap.size else r i) (.ref A.length :: st) = .ref T.heap.size :: ct r st := by
      show cv _ _ :: ct _ st = _
      rw [ct_ag q k2]
      simp [cv]
    rw [cl_ag q k1, hr1] at ht
    exact ht
theorem arr_at {r : Nat → Addr} {h : Heap} {a : Addr} {ty : FieldType} {vs : List Value} (H : CellOk Z lay r h a (.inr (ty, vs))) : ∃ c : Cell, Arr Z h a c ty ∧ c.slots.size = vs.length ∧ (∀ k : Nat, c.slots[k]? = (vs[k]?).map (cv r)) ∧ ∀ v ∈ vs, fits ty v = true := by
  obtain ⟨c, h1, h2, h3, -⟩ := H
  exact ⟨c, h1, by simp [h2], fun k => by simp [h2], h3⟩
theorem W_arraylength {i : Nat} {ty : FieldType} {vs : List Value} {n : Int32} (hl : D[jx]? = some (pc, .arraylength, 1)) (hA : A[i]? = some (.inr (ty, vs))) (hn : vs.length.toInt32 = n) (h : WP w l Z n0 lay own D maxL ret nm R (pc + 1) ls (.int n :: st) A cells slots Φ) : WP w l Z n0 lay own D maxL ret nm R pc ls (.ref i :: st) A cells slots Φ :=
  fun p e s s' m args below meth c T locs r X C' N H B => by
    obtain ⟨ce, h1, h2, h3, h4⟩ := arr_at (H.1 i _ hA).2
    refine (h p e s s' m args below meth c T locs r X C' N H B).back (fun t ht => ?_) (Nat.le_refl _) (fun _ _ => rfl)
    refine X.arraylength C'.1 h1.1 (State.isArrayOf_alike C'.2.1.alike h1.2.1) (g := mkF m pc (cl r ls) (ct r (.ref i :: st))) rfl rfl (C'.dec hl) t ?_
    rw [h2, hn]
    exact ht
theorem in_of {j : Int32} {n : Nat} (h0 : ¬ j < 0) (h1 : j.toNatClampNeg < n) : ¬ (j < 0 ∨ n ≤ j.toNatClampNeg) := fun q => q.elim h0 fun q => Nat.lt_irrefl _ (Nat.lt_of_lt_of_le h1 q)
theorem W_xaload {ins : Instr} {i : Nat} {ty : FieldType} {vs : List Value} {j : Int32} {v : Value} (hk : (ins = .iaload ∧ ty = .int) ∨ (ins = .laload ∧ ty = .long) ∨ (ins = .baload ∧ ty = .byte) ∨ (ins = .baload ∧ ty = .boolean) ∨ (ins = .caload ∧ ty = .char) ∨ (ins = .saload ∧ ty = .short)) (hl : D[jx]? = some (pc, ins, 1)) (hA : A[i]? = some (.inr (ty, vs))) (hj : ¬ j < 0) (hv : vs[j.toNatClampNeg]? = some v)
    (h : WP w l Z n0 lay own D maxL ret nm R (pc + 1) ls (v :: st) A cells slots Φ) : WP w l Z n0 lay own D maxL ret nm R pc ls (.int j :: .ref i :: st) A cells slots Φ :=
  fun p e s s' m args below meth c T locs r X C' N H B => by
    obtain ⟨ce, h1, h2, h3, h4⟩ := arr_at (H.1 i _ hA).2
    have hin : ¬ (j < 0 ∨ ce.slots.size ≤ j.toNatClampNeg) := in_of hj (by rw [h2]; exact (List.getElem?_eq_some_iff.mp hv).1)
    have hv' : ce.slots[j.toNatClampNeg]? = some (cv r v) := by rw [h3, hv]; rfl
    have ha := State.isArrayOf_alike C'.2.1.alike h1.2.1
    have hd := C'.dec hl
    refine (h p e s s' m args below meth c T locs r X C' N H B).back (fun t ht => ?_) (Nat.le_refl _) (fun _ _ => rfl)
    rcases hk with ⟨rfl, rfl⟩ | ⟨rfl, rfl⟩ | ⟨rfl, rfl⟩ | ⟨rfl, rfl⟩ | ⟨rfl, rfl⟩ | ⟨rfl, rfl⟩
    · exact X.iaload C'.1 h1.1 ha h1.2.2 hin hv' (g := mkF m pc (cl r ls) (ct r (.int j :: .ref i :: st))) rfl rfl hd t ht
    · exact X.laload C'.1 h1.1 ha h1.2.2 hin hv' (g := mkF m pc (cl r ls) (ct r (.int j :: .ref i :: st))) rfl rfl hd t ht
    · exact X.baloadBytes C'.1 h1.1 ha h1.2.2 hin hv' (g := mkF m pc (cl r ls) (ct r (.int j :: .ref i :: st))) rfl rfl hd t ht
    · exact X.baloadBooleans C'.1 h1.1 ha h1.2.2 hin hv' (g := mkF m pc (cl r ls) (ct r (.int j :: .ref i :: st))) rfl rfl hd t ht
    · exact X.caload C'.1 h1.1 ha h1.2.2 hin hv' (g := mkF m pc (cl r ls) (ct r (.int j :: .ref i :: st))) rfl rfl hd t ht
    · exact X.saload C'.1 h1.1 ha h1.2.2 hin hv' (g := mkF m pc (cl r ls) (ct r (.int j :: .ref i :: st))) rfl rfl hd t ht
theorem W_iaload {i : Nat} {vs : List Value} {j : Int32} {v : Value} (hl : D[jx]? = some (pc, .iaload, 1)) (hA : A[i]? = some (.inr (.int, vs))) (hj : ¬ j < 0) (hv : vs[j.toNatClampNeg]? = some v) (h : WP w l Z n0 lay own D maxL ret nm R (pc + 1) ls (v :: st) A cells slots Φ) : WP w l Z n0 lay own D maxL ret nm R pc ls (.int j :: .ref i :: st) A cells slots Φ :=
  W_xaload (Or.inl ⟨rfl, rfl⟩) hl hA hj hv h
theorem W_laload {i : Nat} {vs : List Value} {j : Int32} {v : Value} (hl : D[jx]? = some (pc, .laload, 1)) (hA : A[i]? = some (.inr (.long, vs))) (hj : ¬ j < 0) (hv : vs[j.toNatClampNeg]? = some v) (h : WP w l Z n0 lay own D maxL ret nm R (pc + 1) ls (v :: st) A cells slots Φ) : WP w l Z n0 lay own D maxL ret nm R pc ls (.int j :: .ref i :: st) A cells slots Φ :=
  W_xaload (Or.inr (Or.inl ⟨rfl, rfl⟩)) hl hA hj hv h
theorem W_baload {i : Nat} {vs : List Value} {j : Int32} {v : Value} (hl : D[jx]? = some (pc, .baload, 1)) (hA : A[i]? = some (.inr (.byte, vs))) (hj : ¬ j < 0) (hv : vs[j.toNatClampNeg]? = some v) (h : WP w l Z n0 lay own D maxL ret nm R (pc + 1) ls (v :: st) A cells slots Φ) : WP w l Z n0 lay own D maxL ret nm R pc ls (.int j :: .ref i :: st) A cells slots Φ :=
  W_xaload (Or.inr (Or.inr (Or.inl ⟨rfl, rfl⟩))) hl hA hj hv h
theorem W_zaload {i : Nat} {vs : List Value} {j : Int32} {v : Value} (hl : D[jx]? = some (pc, .baload, 1)) (hA : A[i]? = some (.inr (.boolean, vs))) (hj : ¬ j < 0) (hv : vs[j.toNatClampNeg]? = some v) (h : WP w l Z n0 lay own D maxL ret nm R (pc + 1) ls (v :: st) A cells slots Φ) : WP w l Z n0 lay own D maxL ret nm R pc ls (.int j :: .ref i :: st) A cells slots Φ :=
  W_xaload (Or.inr (Or.inr (Or.inr (Or.inl ⟨rfl, rfl⟩)))) hl hA hj hv h
theorem st_fin {p : Program} {e : Env} {s s' : State} {m : MethodId} {args : Array Value} {below : List Frame} {meth : Method} {c : Code} {T : State} {locs : List Loc} {r : Nat → Addr} {i k pc' : Nat} {ty : FieldType} {vs : List Value} {x : Value} {st' : List Value}
    (h : WP w l Z n0 lay own D maxL ret nm R pc' ls st (A.set i (.inr (ty, vs.set k x))) cells slots Φ) (C' : Cx Z own D maxL ret nm p s' m meth c) (N : Fr n0 locs) (H : Hp Z lay n0 r T.heap A) (B : Based w s s' T.heap.size) (hA : A[i]? = some (.inr (ty, vs))) (hfit : fits ty x = true) (hcv : cv r x = x)
    (hs : ∃ T' h', Stand p l e R s' m args below meth c T' (locs ++ [⟨r i, k⟩]) cells slots ∧ T'.heap = h' ∧ Wr T.heap h' (r i) k x ∧ ∀ target, Steps p.tables e below (T'.setTop (mkF m pc' (cl r ls) (ct r st))) target → Steps p.tables e below (T.setTop (mkF m pc (cl r ls) st')) target) :
    Fin w Z n0 lay R Φ A.length r p e below s (T.setTop (mkF m pc (cl r ls) st')) := by
  obtain ⟨T', h', X', e', W, st'⟩ := hs
  subst e'
  obtain ⟨hn0, hcell⟩ := H.1 i _ hA
  have H' := H.set hA W (hcell.stA hfit (by rw [hcv]; exact W))
  exact (h p e s s' m args below meth c T' _ r X' C' (Fr.snoc X' N hn0) H' (B.grow (Nat.le_of_eq W.size.symm))).back st' (by simp) (fun _ _ => rfl)
theorem W_iastore {i : Nat} {vs : List Value} {j x : Int32} (hl : D[jx]? = some (pc, .iastore, 1)) (hA : A[i]? = some (.inr (.int, vs))) (hj : ¬ j < 0) (hv : j.toNatClampNeg < vs.length)
    {A1 : List ACell} (hB : A.set i (.inr (.int, vs.set j.toNatClampNeg (.int x))) = A1) (h : WP w l Z n0 lay own D maxL ret nm R (pc + 1) ls st A1 cells slots Φ) : WP w l Z n0 lay own D maxL ret nm R pc ls (.int x :: .int j :: .ref i :: st) A cells slots Φ :=
  fun p e s s' m args below meth c T locs r X C' N H B => by
    subst hB
    obtain ⟨ce, h1, h2, h3, h4⟩ := arr_at (H.1 i _ hA).2
    exact st_fin h C' N H B hA rfl rfl (stI X C'.1 C'.2.1 rfl h1 (in_of hj (by rw [h2]; exact hv)) (g := mkF m pc (cl r ls) (ct r (.int x :: .int j :: .ref i :: st))) rfl rfl (C'.dec hl))
theorem W_lastore {i : Nat} {vs : List Value} {j : Int32} {x : Int64} (hl : D[jx]? = some (pc, .lastore, 1)) (hA : A[i]? = some (.inr (.long, vs))) (hj : ¬ j < 0) (hv : j.toNatClampNeg < vs.length)
    {A1 : List ACell} (hB : A.set i (.inr (.long, vs.set j.toNatClampNeg (.long x))) = A1) (h : WP w l Z n0 lay own D maxL ret nm R (pc + 1) ls st A1 cells slots Φ) : WP w l Z n0 lay own D maxL ret nm R pc ls (.long x :: .int j :: .ref i :: st) A cells slots Φ :=
  fun p e s s' m args below meth c T locs r X C' N H B => by
    subst hB
    obtain ⟨ce, h1, h2, h3, h4⟩ := arr_at (H.1 i _ hA).2
    exact st_fin h C' N H B hA rfl rfl (stJ X C'.1 C'.2.1 rfl h1 (in_of hj (by rw [h2]; exact hv)) (g := mkF m pc (cl r ls) (ct r (.long x :: .int j :: .ref i :: st))) rfl rfl (C'.dec hl))
theorem W_bastore {i : Nat} {vs : List Value} {j x y : Int32} (hl : D[jx]? = some (pc, .bastore, 1)) (hA : A[i]? = some (.inr (.byte, vs))) (hj : ¬ j < 0) (hv : j.toNatClampNeg < vs.length) (hy : x.toInt8.toInt32 = y)
    {A1 : List ACell} (hB : A.set i (.inr (.byte, vs.set j.toNatClampNeg (.int y))) = A1) (h : WP w l Z n0 lay own D maxL ret nm R (pc + 1) ls st A1 cells slots Φ) : WP w l Z n0 lay own D maxL ret nm R pc ls (.int x :: .int j :: .ref i :: st) A cells slots Φ :=
  fun p e s s' m args below meth c T locs r X C' N H B => by
    subst hy
    subst hB
    obtain ⟨ce, h1, h2, h3, h4⟩ := arr_at (H.1 i _ hA).2
    exact st_fin h C' N H B hA (fits_nar_byte x) rfl (stB X C'.1 C'.2.1 rfl h1 (in_of hj (by rw [h2]; exact hv)) (g := mkF m pc (cl r ls) (ct r (.int x :: .int j :: .ref i :: st))) rfl rfl (C'.dec hl))
theorem W_zastore {i : Nat} {vs : List Value} {j x y : Int32} (hl : D[jx]? = some (pc, .bastore, 1)) (hA : A[i]? = some (.inr (.boolean, vs))) (hj : ¬ j < 0) (hv : j.toNatClampNeg < vs.length) (hy : x &&& 1 = y)
    {A1 : List ACell} (hB : A.set i (.inr (.boolean, vs.set j.toNatClampNeg (.int y))) = A1) (h : WP w l Z n0 lay own D maxL ret nm R (pc + 1) ls st A1 cells slots Φ) : WP w l Z n0 lay own D maxL ret nm R pc ls (.int x :: .int j :: .ref i :: st) A cells slots Φ :=
  fun p e s s' m args below meth c T locs r X C' N H B => by
    subst hy
    subst hB
    obtain ⟨ce, h1, h2, h3, h4⟩ := arr_at (H.1 i _ hA).2
    exact st_fin h C' N H B hA (fits_nar_bool x) rfl (stZ X C'.1 C'.2.1 rfl h1 (in_of hj (by rw [h2]; exact hv)) (g := mkF m pc (cl r ls) (ct r (.int x :: .int j :: .ref i :: st))) rfl rfl (C'.dec hl))
/-! calls -/
theorem W_initO {idx i : Nat} (hl : D[jx]? = some (pc, .invokespecial idx, 3)) (w1 : (Jvm.Cond.methodLink own idx Lib.objectInit).before a0 Z = true) (w2 : (Jvm.Cond.instanceMethod Lib.objectInit).before a0 Z = true) (w3 : (Jvm.Cond.code Lib.objectInit ⟨#[0xb1]⟩ 1 none).before a0 Z = true)
    (hsz : ls.length = maxL) (hf : 1 ≤ R.frames) (hlo : (catS st + 12).ble R.locals = true) (h : WP w l Z n0 lay own D maxL ret nm R (pc + 3) ls st A cells slots Φ) : WP w l Z n0 lay own D maxL ret nm R pc ls (.ref i :: st) A cells slots Φ :=
  fun p e s s' m args below meth c T locs r X C' N H B => by
    obtain ⟨T', X', e', st'⟩ := initO X C'.1 C'.2.1 C'.2.2.1 w1 w2 w3 rfl (g := mkF m pc (cl r ls) (ct r (.ref i :: st))) rfl (by show (cl r ls).size = _; rw [cl_size, hsz, C'.2.2.2.2.2.2.1]) rfl (C'.dec hl) hf (W := catS st)
      (by show 2 * 0 + ((ct r st).map fun v => v.category).sum ≤ _; rw [ct_cat]; omega) (Nat.le_of_ble_eq_true hlo)
    exact (h p e s s' m args below meth c T' locs r X' C' N (e' ▸ H) (e' ▸ B)).back st' (Nat.le_refl _) (fun _ _ => rfl)
/-- what a call leaves -/
theorem after {rest : List Value} {pc' : Nat} {p : Program} {e : Env} {s s' : State} {m : MethodId} {args : Array Value} {below : List Frame} {meth : Method} {c : Code} {T' U : State} {locs L : List Loc} {r r' : Nat → Addr} {v v' : Option Value} {A' : List ACell}
    (hok : (ls.all (okS A.length) && rest.all (okV A.length)) = true) (q : (∀ i, i < A.length → r' i = r i) ∧ A.length ≤ A'.length)
    (h : WP w l Z n0 lay own D maxL ret nm R pc' ls (v'.toList ++ rest) A' cells slots Φ) (X : Stand p l e R s' m args below meth c T' (locs ++ L) cells slots) (C' : Cx Z own D maxL ret nm p s' m meth c) (N : Fr n0 locs) (N' : Fr n0 L) (H : Hp Z lay n0 r' T'.heap A') (B : Based w s s' T'.heap.size)
    (hv : v = v'.map (cv r')) (hst : ∀ t, Steps p.tables e below (T'.setTop (mkF m pc' (cl r ls) (v.toList ++ ct r rest))) t → Steps p.tables e below U t) : Fin w Z n0 lay R Φ A.length r p e below s U := by
  simp only [Bool.and_eq_true] at hok
  refine (h p e s s' m args below meth c T' _ r' X C' (N.app N') H B).back (fun t ht => hst t ?_) q.2 q.1
  have e1 : ct r' (v'.toList ++ rest) = v.toList ++ ct r rest := by
    rw [hv, ← ct_ag q.1 hok.2]
    simp only [ct, List.map_append]
    cases v' <;> rfl
  rw [cl_ag q.1 hok.1, e1] at ht
  exact ht
theorem Cx.re {p : Program} {s : State} {m : MethodId} {meth : Method} {c : Code} {vm' : Vm} (C' : Cx Z own D maxL ret nm p s m meth c) (hW : s.Warmed39 vm') : Cx Z own D maxL ret nm p (s.setVm vm') m meth c :=
  ⟨C'.1, State.Warmed39.trans (t := s) C'.2.1 hW, by show vm'.findClass own = _; rw [hW.alike.findClass]; exact C'.2.2.1, C'.2.2.2⟩
theorem Based.re {s s' : State} {k k' : Nat} {vm' : Vm} (B : Based true s s' k) (hS : s'.Since vm' k') (hk : k ≤ k') : Based true s (s'.setVm vm') k' := by
  obtain ⟨vm0, k0, rfl, h2, h3⟩ := B
  exact ⟨vm', k', rfl, h2.trans hS (Nat.le_trans h3 hk), Nat.le_refl _⟩
theorem stk {r : Nat → Addr} {as rest : List Value} : ct r (as.reverse ++ rest) = (ct r as).reverse ++ ct r rest := by simp [ct, List.map_append, List.map_reverse]
theorem stkI {r : Nat → Addr} {as rest : List Value} {i : Nat} : ct r (as.reverse ++ .ref i :: rest) = (ct r as).reverse ++ .ref (r i) :: ct r rest := by simp [ct, List.map_append, List.map_reverse, cv]
theorem W_callS {y : MethodName} {idx : Nat} {code : ByteArray} {mL : Nat} {rt : Option FieldType} {Rc : Room} {ps : List FieldType} {rr : Option FieldType} {Ψ : Option Value → List ACell → Prop} (as rest : List Value) (hM : MT w l Z n0 lay y code mL rt [] Rc as A Ψ) (hl : D[jx]? = some (pc, .invokestatic idx, 3))
    (w1 : (Jvm.Cond.methodLink own idx y).before a0 Z = true) (w2 : (Jvm.Cond.static y).before a0 Z = true) (w3 : (Jvm.Cond.initialized y.cls).before a0 Z = true) (w4 : (Jvm.Cond.code y code mL rt).before a0 Z = true) (hy : y.cls ≠ "java/lang/invoke/MethodHandle" ∧ y.cls ≠ "java/lang/invoke/VarHandle")
    (hpd : parseMethodDescriptor y.desc = some ⟨ps, rr⟩) (hlen : as.length = ps.length) (hst : st = as.reverse ++ rest) (hsz : ls.length = maxL) (hf : Rc.frames + 1 ≤ R.frames) (hlo : (catS rest + (mL + 11) + Rc.locals).ble R.locals = true) (hc : cells + Rc.cells ≤ R.cells) (hs : slots + Rc.slots ≤ R.slots)
    (hok : (ls.all (okS A.length) && rest.all (okV A.length)) = true) (h : ∀ v B, Ψ v B → WP w l Z n0 lay own D maxL ret nm R (pc + 3) ls (v.toList ++ rest) B (cells + Rc.cells) (slots + Rc.slots) Φ) : WP w l Z n0 lay own D maxL ret nm R pc ls st A cells slots Φ :=
  fun p e s s' m args below meth c T locs r X C' N H B => by
    subst hst
    have hsz' : (cl r ls).size = c.maxLocals := by rw [cl_size, hsz, C'.2.2.2.2.2.2.1]
    have hW : 2 * 0 + ((ct r rest).map fun v => v.category).sum ≤ catS rest := by rw [ct_cat]; omega
    have hlen' : (ct r as).length = ps.length := by simpa [ct] using hlen
    cases w
    · obtain ⟨v, vm₁, ⟨T', L', k', n'⟩, -, X', ⟨Lc, hQ, l1, y1, z1⟩, sp⟩ := Jvm.LawKit.callS X C'.1 (y := y) C'.2.2.1 (mvT C'.2.1 w1) (mvT C'.2.1 w2) (mvT C'.2.1 w3) (mvT C'.2.1 w4) hy (backOf (W := catS rest) (Q := QC Z lay n0 r A.length Ψ) (hM.nar r T.heap H) C'.2.1 w4 w3 hf (Nat.le_of_ble_eq_true hlo))
        (g := mkF m pc (cl r ls) (ct r (as.reverse ++ rest))) rfl hsz' (argsL := ct r as) (rest := ct r rest) (lenOf hpd hlen') stk hW (C'.dec hl) (fun _ _ => ⟨rfl, rfl, hc, hs⟩)
      dsimp only [Pt.U, Pt.locs, Pt.cells, Pt.slots] at X' l1 y1 z1 sp hQ
      subst l1 y1 z1
      obtain ⟨N', v', A', r', hv, H', q, hP⟩ := hQ
      exact after hok q (h v' A' hP) X' C' N N' H' B hv sp
    · obtain ⟨v, vm₁, ⟨T', L', k', n'⟩, -, X', hS, hgr, ⟨Lc, hQ, l1, y1, z1⟩, sp⟩ := callSS X C'.1 (y := y) C'.2.2.1 (mvT C'.2.1 w1) (mvT C'.2.1 w2) (mvT C'.2.1 w3) (mvT C'.2.1 w4) hy (backOfS (W := catS rest) (Q := QC Z lay n0 r A.length Ψ) (hM.wid r T.heap H) C'.2.1 w4 w3 hf (Nat.le_of_ble_eq_true hlo))
        (g := mkF m pc (cl r ls) (ct r (as.reverse ++ rest))) rfl hsz' (argsL := ct r as) (rest := ct r rest) (lenOf hpd hlen') stk hW (C'.dec hl) (fun _ _ => ⟨rfl, rfl, hc, hs⟩)
      dsimp only [Pt.U, Pt.locs, Pt.cells, Pt.slots] at X' hS hgr l1 y1 z1 sp hQ
      subst l1 y1 z1
      obtain ⟨N', v', A', r', hv, H', q, hP⟩ := hQ
      exact after hok q (h v' A' hP) X' (C'.re hS.1) N N' H' (B.re hS hgr) hv (fun t ht => sp.trans ht)
theorem W_callI {y : MethodName} {idx i : Nat} {code : ByteArray} {mL : Nat} {Rc : Room} {ps : List FieldType} {rr : Option FieldType} {Ψ : Option Value → List ACell → Prop} (as rest : List Value) (hM : MT w l Z n0 lay y code mL none [] Rc (.ref i :: as) A Ψ) (hl : D[jx]? = some (pc, .invokespecial idx, 3)) (hy1 : y.name = "<init>")
    (w1 : (Jvm.Cond.methodLink own idx y).before a0 Z = true) (w2 : (Jvm.Cond.instanceMethod y).before a0 Z = true) (w3 : (Jvm.Cond.initialized y.cls).before a0 Z = true) (w4 : (Jvm.Cond.code y code mL none).before a0 Z = true) (hy : y.cls ≠ "java/lang/invoke/MethodHandle" ∧ y.cls ≠ "java/lang/invoke/VarHandle")
    (hpd : parseMethodDescriptor y.desc = some ⟨ps, rr⟩) (hlen : as.length = ps.length) (hst : st = as.reverse ++ .ref i :: rest) (hsz : ls.length = maxL) (hf : Rc.frames + 1 ≤ R.frames) (hlo : (catS rest + (mL + 11) + Rc.locals).ble R.locals = true) (hc : cells + Rc.cells ≤ R.cells) (hs : slots + Rc.slots ≤ R.slots)
    (hok : (ls.all (okS A.length) && rest.all (okV A.length)) = true) (h : ∀ v B, Ψ v B → WP w l Z n0 lay own D maxL ret nm R (pc + 3) ls (v.toList ++ rest) B (cells + Rc.cells) (slots + Rc.slots) Φ) : WP w l Z n0 lay own D maxL ret nm R pc ls st A cells slots Φ :=
  fun p e s s' m args below meth c T locs r X C' N H B => by
    subst hst
    have hsz' : (cl r ls).size = c.maxLocals := by rw [cl_size, hsz, C'.2.2.2.2.2.2.1]
    have hW : 2 * 0 + ((ct r rest).map fun v => v.category).sum ≤ catS rest := by rw [ct_cat]; omega
    have hlen' : (ct r as).length = ps.length := by simpa [ct] using hlen
    cases w
    · obtain ⟨v, vm₁, ⟨T', L', k', n'⟩, -, X', ⟨Lc, hQ, l1, y1, z1⟩, sp⟩ := X.specialBack C'.1 (y := y) hy1 C'.2.2.1 (mvT C'.2.1 w1) (mvT C'.2.1 w2) (mvT C'.2.1 w4) hy (backOf (W := catS rest) (Q := QC Z lay n0 r A.length Ψ) (hM.nar r T.heap H) C'.2.1 w4 w3 hf (Nat.le_of_ble_eq_true hlo))
        (g := mkF m pc (cl r ls) (ct r (as.reverse ++ .ref i :: rest))) rfl hsz' (Steps.refl _) (a := r i) (argsL := ct r as) (rest := ct r rest) (lenOf hpd hlen') stkI hW (C'.dec hl) (fun _ _ => ⟨rfl, rfl, hc, hs⟩)
      dsimp only [Pt.U, Pt.locs, Pt.cells, Pt.slots] at X' l1 y1 z1 sp hQ
      subst l1 y1 z1
      obtain ⟨N', v', A', r', hv, H', q, hP⟩ := hQ
      exact after hok q (h v' A' hP) X' C' N N' H' B hv (fun t ht => sp.trans ht)
    · obtain ⟨v, vm₁, ⟨T', L', k', n'⟩, -, X', hS, hgr, ⟨Lc, hQ, l1, y1, z1⟩, sp⟩ := X.specialBackS C'.1 (y := y) hy1 C'.2.2.1 (mvT C'.2.1 w1) (mvT C'.2.1 w2) (mvT C'.2.1 w4) hy (backOfS (W := catS rest) (Q := QC Z lay n0 r A.length Ψ) (hM.wid r T.heap H) C'.2.1 w4 w3 hf (Nat.le_of_ble_eq_true hlo))
        (g := mkF m pc (cl r ls) (ct r (as.reverse ++ .ref i :: rest))) rfl hsz' (Steps.refl _) (a := r i) (argsL := ct r as) (rest := ct r rest) (lenOf hpd hlen') stkI hW (C'.dec hl) (fun _ _ => ⟨rfl, rfl, hc, hs⟩)
      dsimp only [Pt.U, Pt.locs, Pt.cells, Pt.slots] at X' hS hgr l1 y1 z1 sp hQ
      subst l1 y1 z1
      obtain ⟨N', v', A', r', hv, H', q, hP⟩ := hQ
      exact after hok q (h v' A' hP) X' (C'.re hS.1) N N' H' (B.re hS hgr) hv (fun t ht => sp.trans ht)
theorem W_callV {y : MethodName} {idx i ci : Nat} {C : String} {fs : List (String × String × String)} {vs : List Value} {code : ByteArray} {mL : Nat} {rt : Option FieldType} {Rc : Room} {ps : List FieldType} {rr : Option FieldType} {Ψ : Option Value → List ACell → Prop} (as rest : List Value) (hM : MT w l Z n0 lay y code mL rt [] Rc (.ref i :: as) A Ψ) (hl : D[jx]? = some (pc, .invokevirtual idx, 3)) (hC : lay[ci]? = some (C, fs)) (hA : A[i]? = some (.inl (ci, vs)))
    (w1 : (Jvm.Cond.methodLink own idx y).before a0 Z = true) (w2 : (Jvm.Cond.declares y).before a0 Z = true) (w5 : (Jvm.Cond.selects C y y).before a0 Z = true) (w6 : (Jvm.Cond.instanceMethod y).before a0 Z = true) (w3 : (Jvm.Cond.initialized y.cls).before a0 Z = true) (w4 : (Jvm.Cond.code y code mL rt).before a0 Z = true) (hy : y.cls ≠ "java/lang/invoke/MethodHandle" ∧ y.cls ≠ "java/lang/invoke/VarHandle")
    (hpd : parseMethodDescriptor y.desc = some ⟨ps, rr⟩) (hlen : as.length = ps.length) (hst : st = as.reverse ++ .ref i :: rest) (hsz : ls.length = maxL) (hf : Rc.frames + 1 ≤ R.frames) (hlo : (catS rest + (mL + 11) + Rc.locals).ble R.locals = true) (hc : cells + Rc.cells ≤ R.cells) (hs : slots + Rc.slots ≤ R.slots)
    (hok : (ls.all (okS A.length) && rest.all (okV A.length)) = true) (h : ∀ v B, Ψ v B → WP w l Z n0 lay own D maxL ret nm R (pc + 3) ls (v.toList ++ rest) B (cells + Rc.cells) (slots + Rc.slots) Φ) : WP w l Z n0 lay own D maxL ret nm R pc ls st A cells slots Φ :=
  fun p e s s' m args below meth c T locs r X C' N H B => by
    subst hst
    have hsz' : (cl r ls).size = c.maxLocals := by rw [cl_size, hsz, C'.2.2.2.2.2.2.1]
    have hW : 2 * 0 + ((ct r rest).map fun v => v.category).sum ≤ catS rest := by rw [ct_cat]; omega
    have hlen' : (ct r as).length = ps.length := by simpa [ct] using hlen
    have E : Exa Z T.heap (r i) C := by
      obtain ⟨-, C0, fs', h1, E, -⟩ := H.1 i _ hA
      cases hC.symm.trans h1
      exact E
    obtain ⟨cq, kq, qa, qb, qc⟩ := isOf C'.2.1 rfl E
    cases w
    · obtain ⟨v, vm₁, ⟨T', L', k', n'⟩, -, X', ⟨Lc, hQ, l1, y1, z1⟩, sp⟩ := X.virtualBack C'.1 (y := y) (z := y) C'.2.2.1 (mvT C'.2.1 w1) (mvT C'.2.1 w2) (notFace_of_selects (args := #[]) (mvT C'.2.1 w5)) (mvT C'.2.1 w5) (mvT C'.2.1 w6) hy (backOf (W := catS rest) (Q := QC Z lay n0 r A.length Ψ) (hM.nar r T.heap H) C'.2.1 w4 w3 hf (Nat.le_of_ble_eq_true hlo)) qa qc
        (g := mkF m pc (cl r ls) (ct r (as.reverse ++ .ref i :: rest))) rfl hsz' (Steps.refl _) (argsL := ct r as) (rest := ct r rest) (lenOf hpd hlen') stkI hW (C'.dec hl) (fun _ _ => ⟨rfl, rfl, hc, hs⟩)
      dsimp only [Pt.U, Pt.locs, Pt.cells, Pt.slots] at X' l1 y1 z1 sp hQ
      subst l1 y1 z1
      obtain ⟨N', v', A', r', hv, H', q, hP⟩ := hQ
      exact after hok q (h v' A' hP) X' C' N N' H' B hv (fun t ht => sp.trans ht)
    · obtain ⟨v, vm₁, ⟨T', L', k', n'⟩, -, X', hS, hgr, ⟨Lc, hQ, l1, y1, z1⟩, sp⟩ := X.virtualBackS C'.1 (y := y) (z := y) C'.2.2.1 (mvT C'.2.1 w1) (mvT C'.2.1 w2) (notFace_of_selects (args := #[]) (mvT C'.2.1 w5)) (mvT C'.2.1 w5) (mvT C'.2.1 w6) hy (backOfS (W := catS rest) (Q := QC Z lay n0 r A.length Ψ) (hM.wid r T.heap H) C'.2.1 w4 w3 hf (Nat.le_of_ble_eq_true hlo)) qa qc
        (g := mkF m pc (cl r ls) (ct r (as.reverse ++ .ref i :: rest))) rfl hsz' (Steps.refl _) (argsL := ct r as) (rest := ct r rest) (lenOf hpd hlen') stkI hW (C'.dec hl) (fun _ _ => ⟨rfl, rfl, hc, hs⟩)
      dsimp only [Pt.U, Pt.locs, Pt.cells, Pt.slots] at X' hS hgr l1 y1 z1 sp hQ
      subst l1 y1 z1
      obtain ⟨N', v', A', r', hv, H', q, hP⟩ := hQ
      exact after hok q (h v' A' hP) X' (C'.re hS.1) N N' H' (B.re hS hgr) hv (fun t ht => sp.trans ht)
end Rules
end Jvm.OwnKit
namespace Jvm.Pilot.@@N@@
open Jvm Jvm.ClassFile Sem Op Lib Jvm.Free Jvm.Stand Jvm.LawKit Jvm.RoadKit Bundle Jvm.OwnKit Jvm.Pilot.@@N@@.Jvm.D
def own_lay : Jvm.OwnKit.Lay := [("com/example/rollcall/rollcall/registry/HeartbeatWindow", [("com/example/rollcall/rollcall/registry/HeartbeatWindow", "millis", "[J"), ("com/example/rollcall/rollcall/registry/HeartbeatWindow", "counts", "[I")])]
def own_fs0 : List (String × String × String) := [("com/example/rollcall/rollcall/registry/HeartbeatWindow", "millis", "[J"), ("com/example/rollcall/rollcall/registry/HeartbeatWindow", "counts", "[I")]
theorem own_nd0 : (own_fs0.map (fun f => f.2.1)).Nodup := by decide
theorem own_laid0 {Z : State} {a0 : Array Value} (hw : ∀ d ∈ tables_1, d.before a0 Z = true) : ∀ f ∈ own_fs0, Laid Z a0 "com/example/rollcall/rollcall/registry/HeartbeatWindow" f.1 f.2.1 f.2.2 ∧ ∃ ty, parseFieldDescriptor f.2.2 = some ty := by
  intro f hf
  simp only [own_fs0, List.mem_cons, List.not_mem_nil, or_false] at hf
  rcases hf with rfl | rfl
  · exact ⟨Or.inr (hw _ (List.mem_of_getElem? (i := 20) rfl)), _, (by decide +kernel : parseFieldDescriptor "[J" = some (.array .long))⟩
  · exact ⟨Or.inr (hw _ (List.mem_of_getElem? (i := 23) rfl)), _, (by decide +kernel : parseFieldDescriptor "[I" = some (.array .int))⟩
theorem own_lay_ok {Z : State} {a0 : Array Value} (hw : ∀ d ∈ tables_1, d.before a0 Z = true) : LayOk Z a0 own_lay := fun ci C fs h => by
  match ci, h with
  | 0, h => cases h; exact ⟨own_laid0 hw, fun i j f g hi hj hne he => hne (own_nd_inj own_nd0 hi hj he)⟩
  | k + 1, h => simp [own_lay] at h
def own_D0 : Jvm.OwnKit.Dt := [(0, .lload_n 0, 1), (1, .iconst 1, 1), (2, .lshr, 1), (3, .lstore 6, 2), (5, .lload 6, 2), (7, .iload_n 2, 1), (8, .invokestatic 15, 3), (11, .ladd, 1), (12, .lstore 8, 2), (14, .lload 8, 2), (16, .iload_n 3, 1), (17, .invokestatic 15, 3), (20, .ladd, 1), (21, .lstore 10, 2), (23, .lload 10, 2), (25, .iload 4, 2), (27, .invokestatic 15, 3), (30, .ladd, 1), (31, .lstore 12, 2), (33, .iload 5, 2), (35, .iconst 3, 1), (36, .iand, 1), (37, .istore 14, 2), (39, .new 21, 3), (42, .dup, 1), (43, .invokespecial 23, 3), (46, .astore 15, 2), (48, .lconst 0, 1), (49, .lstore 16, 2), (51, .iload 14, 2), (53, .iconst 1, 1), (54, .if_icmp .lt 22, 3), (57, .aload 15, 2), (59, .lload 6, 2), (61, .invokevirtual 24, 3), (64, .lload 16, 2), (66, .lload 6, 2), (68, .lload 12, 2), (70, .invokestatic 28, 3), (73, .ladd, 1), (74, .lstore 16, 2), (76, .iload 14, 2), (78, .iconst 2, 1), (79, .if_icmp .lt 22, 3), (82, .aload 15, 2), (84, .lload 8, 2), (86, .invokevirtual 24, 3), (89, .lload 16, 2), (91, .lload 8, 2), (93, .lload 12, 2), (95, .invokestatic 28, 3), (98, .ladd, 1), (99, .lstore 16, 2), (101, .iload 14, 2), (103, .iconst 3, 1), (104, .if_icmp .lt 22, 3), (107, .aload 15, 2), (109, .lload 10, 2), (111, .invokevirtual 24, 3), (114, .lload 16, 2), (116, .lload 10, 2), (118, .lload 12, 2), (120, .invokestatic 28, 3), (123, .ladd, 1), (124, .lstore 16, 2), (126, .aload 15, 2), (128, .lload 12, 2), (130, .invokevirtual 32, 3), (133, .lload 16, 2), (135, .lcmp, 1), (136, .ifCond .ne 7, 3), (139, .iconst 1, 1), (140, .goto 4, 3), (143, .iconst 0, 1), (144, .ireturn, 1)]
set_option maxRecDepth 65536 in
theorem own_D0_ok : ∀ q ∈ own_D0, decode code q.1 = .ok q.2 := by decide +kernel
theorem own_pd0 : parseMethodDescriptor "(JIIII)Z" = some ⟨[.long, .int, .int, .int, .int], some .boolean⟩ := by decide +kernel
theorem own_pn0 : plainFor x = true := plainFor_of_name (by first | (simp [plainName, overriddenIn]; done) | decide +kernel)
def own_D1 : Jvm.OwnKit.Dt := [(0, .iload_n 0, 1), (1, .bipush 7, 2), (3, .iand, 1), (4, .sipush 30000, 3), (7, .imul, 1), (8, .iload_n 0, 1), (9, .iconst 3, 1), (10, .iushr, 1), (11, .bipush 31, 2), (13, .iand, 1), (14, .iadd, 1), (15, .bipush 16, 2), (17, .isub, 1), (18, .istore_n 1, 1), (19, .iconst 0, 1), (20, .iload_n 1, 1), (21, .invokestatic 7, 3), (24, .i2l, 1), (25, .lreturn, 1)]
set_option maxRecDepth 65536 in
theorem own_D1_ok : ∀ q ∈ own_D1, decode method_2_code q.1 = .ok q.2 := by decide +kernel
theorem own_pd1 : parseMethodDescriptor "(I)J" = some ⟨[.int], some .long⟩ := by decide +kernel
theorem own_pn1 : plainFor (⟨"com/example/rollcall/rollcall/registry/HeartbeatWindowCountPinLaw", "gap", "(I)J"⟩ : MethodName) = true := plainFor_of_name (by first | (simp [plainName, overriddenIn]; done) | decide +kernel)
def own_D2 : Jvm.OwnKit.Dt := [(0, .iload_n 0, 1), (1, .iload_n 1, 1), (2, .if_icmp .lt 7, 3), (5, .iload_n 0, 1), (6, .goto 4, 3), (9, .iload_n 1, 1), (10, .ireturn, 1)]
set_option maxRecDepth 65536 in
theorem own_D2_ok : ∀ q ∈ own_D2, decode jdk_29_method_65_code q.1 = .ok q.2 := by decide +kernel
theorem own_pd2 : parseMethodDescriptor "(II)I" = some ⟨[.int, .int], some .int⟩ := by decide +kernel
theorem own_pn2 : plainFor (⟨"java/lang/Math", "max", "(II)I"⟩ : MethodName) = true := by decide +kernel
def own_D3 : Jvm.OwnKit.Dt := [(0, .aload_n 0, 1), (1, .invokespecial 3, 3), (4, .aload_n 0, 1), (5, .ldc 9, 2), (7, .newarray .long, 2), (9, .putfield 10, 3), (12, .aload_n 0, 1), (13, .ldc 9, 2), (15, .newarray .int, 2), (17, .putfield 14, 3), (20, .return_, 1)]
set_option maxRecDepth 65536 in
theorem own_D3_ok : ∀ q ∈ own_D3, decode prog_11_method_1_code q.1 = .ok q.2 := by decide +kernel
theorem own_pd3 : parseMethodDescriptor "()V" = some ⟨[], none⟩ := by decide +kernel
theorem own_pn3 : plainFor (⟨"com/example/rollcall/rollcall/registry/HeartbeatWindow", "<init>", "()V"⟩ : MethodName) = true := plainFor_of_name (by first | (simp [plainName, overriddenIn]; done) | decide +kernel)
def own_D5 : Jvm.OwnKit.Dt := [(0, .lload_n 1, 1), (1, .ldc 9, 2), (3, .invokestatic 18, 3), (6, .istore_n 3, 1), (7, .aload_n 0, 1), (8, .getfield 10, 3), (11, .iload_n 3, 1), (12, .laload, 1), (13, .lload_n 1, 1), (14, .lcmp, 1), (15, .ifCond .eq 17, 3), (18, .aload_n 0, 1), (19, .getfield 10, 3), (22, .iload_n 3, 1), (23, .lload_n 1, 1), (24, .lastore, 1), (25, .aload_n 0, 1), (26, .getfield 14, 3), (29, .iload_n 3, 1), (30, .iconst 0, 1), (31, .iastore, 1), (32, .aload_n 0, 1), (33, .getfield 14, 3), (36, .iload_n 3, 1), (37, .dup2, 1), (38, .iaload, 1), (39, .iconst 1, 1), (40, .iadd, 1), (41, .iastore, 1), (42, .return_, 1)]
set_option maxRecDepth 65536 in
theorem own_D5_ok : ∀ q ∈ own_D5, decode prog_11_method_2_code q.1 = .ok q.2 := by decide +kernel
theorem own_pd5 : parseMethodDescriptor "(J)V" = some ⟨[.long], none⟩ := by decide +kernel
theorem own_pn5 : plainFor (⟨"com/example/rollcall/rollcall/registry/HeartbeatWindow", "record", "(J)V"⟩ : MethodName) = true := plainFor_of_name (by first | (simp [plainName, overriddenIn]; done) | decide +kernel)
def own_D6 : Jvm.OwnKit.Dt := [(0, .lload_n 0, 1), (1, .iload_n 2, 1), (2, .i2l, 1), (3, .invokestatic 146, 3), (6, .l2i, 1), (7, .ireturn, 1)]
set_option maxRecDepth 65536 in
theorem own_D6_ok : ∀ q ∈ own_D6, decode jdk_29_method_51_code q.1 = .ok q.2 := by decide +kernel
theorem own_pd6 : parseMethodDescriptor "(JI)I" = some ⟨[.long, .int], some .int⟩ := by decide +kernel
theorem own_pn6 : plainFor (⟨"java/lang/Math", "floorMod", "(JI)I"⟩ : MethodName) = true := by decide +kernel
def own_D7 : Jvm.OwnKit.Dt := [(0, .lload_n 0, 1), (1, .lload_n 2, 1), (2, .lrem, 1), (3, .lstore 4, 2), (5, .lload_n 0, 1), (6, .lload_n 2, 1), (7, .lxor, 1), (8, .lconst 0, 1), (9, .lcmp, 1), (10, .ifCond .ge 15, 3), (13, .lload 4, 2), (15, .lconst 0, 1), (16, .lcmp, 1), (17, .ifCond .eq 8, 3), (20, .lload 4, 2), (22, .lload_n 2, 1), (23, .ladd, 1), (24, .lreturn, 1), (25, .lload 4, 2), (27, .lreturn, 1)]
set_option maxRecDepth 65536 in
theorem own_D7_ok : ∀ q ∈ own_D7, decode jdk_29_method_52_code q.1 = .ok q.2 := by decide +kernel
theorem own_pd7 : parseMethodDescriptor "(JJ)J" = some ⟨[.long, .long], some .long⟩ := by decide +kernel
theorem own_pn7 : plainFor (⟨"java/lang/Math", "floorMod", "(JJ)J"⟩ : MethodName) = true := by decide +kernel
def own_D8 : Jvm.OwnKit.Dt := [(0, .lload_n 0, 1), (1, .lload_n 2, 1), (2, .ldc2_w 13, 3), (5, .lsub, 1), (6, .lcmp, 1), (7, .ifCond .le 13, 3), (10, .lload_n 0, 1), (11, .lload_n 2, 1), (12, .lcmp, 1), (13, .ifCond .gt 7, 3), (16, .lconst 1, 1), (17, .goto 4, 3), (20, .lconst 0, 1), (21, .lreturn, 1)]
set_option maxRecDepth 65536 in
theorem own_D8_ok : ∀ q ∈ own_D8, decode method_3_code q.1 = .ok q.2 := by decide +kernel
theorem own_pd8 : parseMethodDescriptor "(JJ)J" = some ⟨[.long, .long], some .long⟩ := by decide +kernel
theorem own_pn8 : plainFor (⟨"com/example/rollcall/rollcall/registry/HeartbeatWindowCountPinLaw", "in", "(JJ)J"⟩ : MethodName) = true := plainFor_of_name (by first | (simp [plainName, overriddenIn]; done) | decide +kernel)
def own_D9 : Jvm.OwnKit.Dt := [(0, .lconst 0, 1), (1, .lstore_n 3, 1), (2, .iconst 0, 1), (3, .istore 5, 2), (5, .iload 5, 2), (7, .ldc 9, 2), (9, .if_icmp .ge 48, 3), (12, .aload_n 0, 1), (13, .getfield 10, 3), (16, .iload 5, 2), (18, .laload, 1), (19, .lload_n 1, 1), (20, .ldc2_w 24, 3), (23, .lsub, 1), (24, .lcmp, 1), (25, .ifCond .le 26, 3), (28, .aload_n 0, 1), (29, .getfield 10, 3), (32, .iload 5, 2), (34, .laload, 1), (35, .lload_n 1, 1), (36, .lcmp, 1), (37, .ifCond .gt 14, 3), (40, .lload_n 3, 1), (41, .aload_n 0, 1), (42, .getfield 14, 3), (45, .iload 5, 2), (47, .iaload, 1), (48, .i2l, 1), (49, .ladd, 1), (50, .lstore_n 3, 1), (51, .iinc 5 1, 3), (54, .goto (-49), 3), (57, .lload_n 3, 1), (58, .lreturn, 1)]
set_option maxRecDepth 65536 in
theorem own_D9_ok : ∀ q ∈ own_D9, decode prog_11_method_3_code q.1 = .ok q.2 := by decide +kernel
theorem own_pd9 : parseMethodDescriptor "(J)J" = some ⟨[.long], some .long⟩ := by decide +kernel
theorem own_pn9 : plainFor (⟨"com/example/rollcall/rollcall/registry/HeartbeatWindow", "count", "(J)J"⟩ : MethodName) = true := plainFor_of_name (by first | (simp [plainName, overriddenIn]; done) | decide +kernel)
theorem own_ladd {x y : Int64} {a b : Int} (hx : x.toInt = a) (hy : y.toInt = b) (h : -9223372036854775808 ≤ a + b ∧ a + b < 9223372036854775808) : (x + y).toInt = a + b := by
  have h1 := c_ladd x y
  have h2 := rng64 (x + y)
  rw [hx, hy] at h1
  omega
theorem own_lsub {x y : Int64} {a b : Int} (hx : x.toInt = a) (hy : y.toInt = b) (h : -9223372036854775808 ≤ a - b ∧ a - b < 9223372036854775808) : (x - y).toInt = a - b := by
  have h1 := c_lsub x y
  have h2 := rng64 (x - y)
  rw [hx, hy] at h1
  omega
theorem own_lmul {x y : Int64} {a b : Int} (hx : x.toInt = a) (hy : y.toInt = b) (h : -9223372036854775808 ≤ a * b ∧ a * b < 9223372036854775808) : (x * y).toInt = a * b := by
  have h1 := c_lmul x y
  have h2 := rng64 (x * y)
  rw [hx, hy] at h1
  generalize a * b = p at *
  omega
theorem own_iadd {x y : Int32} {a b : Int} (hx : x.toInt = a) (hy : y.toInt = b) (h : -2147483648 ≤ a + b ∧ a + b < 2147483648) : (x + y).toInt = a + b := by
  have h1 := c_iadd x y
  have h2 := rng32 (x + y)
  rw [hx, hy] at h1
  omega
theorem own_isub {x y : Int32} {a b : Int} (hx : x.toInt = a) (hy : y.toInt = b) (h : -2147483648 ≤ a - b ∧ a - b < 2147483648) : (x - y).toInt = a - b := by
  have h1 := c_isub x y
  have h2 := rng32 (x - y)
  rw [hx, hy] at h1
  omega

def own_g (q m : Int64) (c : Int32) : Int64 := if q - 60000 < m then (if q < m then 0 else c.toInt64) else 0
def own_in (q m : Int64) : Int64 := if q - 60000 < m then (if q < m then 0 else 1) else 0
def own_cnt (q : Int64) : List Int64 → List Int32 → Int64 → Int64
  | m :: ms, c :: cs, a => own_cnt q ms cs (a + own_g q m c)
  | _, _, a => a
theorem own_cnt_shift (q : Int64) : ∀ (ms : List Int64) (cs : List Int32) (a b : Int64), own_cnt q ms cs (a + b) = own_cnt q ms cs a + b
  | [], _, _, _ => rfl
  | _ :: _, [], _, _ => rfl
  | m :: ms, c :: cs, a, b => by
    show own_cnt q ms cs (a + b + own_g q m c) = own_cnt q ms cs (a + own_g q m c) + b
    rw [← own_cnt_shift q ms cs (a + own_g q m c) b]
    congr 1
    rw [Int64.add_assoc, Int64.add_comm b, ← Int64.add_assoc]
theorem own_cnt_set (q : Int64) : ∀ (ms : List Int64) (cs : List Int32) (k : Nat) (a : Int64) (m m' : Int64) (c c' : Int32), ms[k]? = some m → cs[k]? = some c → own_cnt q (ms.set k m') (cs.set k c') a + own_g q m c = own_cnt q ms cs a + own_g q m' c'
  | [], _, _, _, _, _, _, _, h, _ => by simp at h
  | _ :: _, [], _, _, _, _, _, _, _, h => by simp at h
  | x :: ms, y :: cs, 0, a, m, m', c, c', h1, h2 => by
    simp only [List.getElem?_cons_zero, Option.some.injEq] at h1 h2
    subst h1 h2
    show own_cnt q ms cs (a + own_g q m' c') + own_g q x y = own_cnt q ms cs (a + own_g q x y) + own_g q m' c'
    rw [own_cnt_shift, own_cnt_shift, Int64.add_assoc, Int64.add_comm (own_g q m' c'), ← Int64.add_assoc]
  | x :: ms, y :: cs, k + 1, a, m, m', c, c', h1, h2 => by
    simp only [List.getElem?_cons_succ] at h1 h2
    exact own_cnt_set q ms cs k (a + own_g q x y) m m' c c' h1 h2
theorem own_g0 (q m : Int64) : own_g q m 0 = 0 := by
  unfold own_g
  split
  · split <;> rfl
  · rfl
theorem own_cnt0 (q : Int64) (n : Nat) : ∀ a, own_cnt q (List.replicate n 0) (List.replicate n 0) a = a := by
  induction n with
  | zero => intro a; rfl
  | succ n ih =>
    intro a
    show own_cnt q (List.replicate n 0) (List.replicate n 0) (a + own_g q 0 0) = a
    rw [own_g0, Int64.add_zero, ih]
def own_k (now : Int64) : Nat := (now.toInt % 60000).toNat
def own_rec (now : Int64) (w : List Int64 × List Int32) : List Int64 × List Int32 :=
  if w.1[own_k now]? = some now then (w.1, w.2.set (own_k now) ((w.2.getD (own_k now) 0) + 1)) else (w.1.set (own_k now) now, w.2.set (own_k now) (0 + 1))
def own_Inv (n : Nat) (last : Int) (w : List Int64 × List Int32) : Prop := w.1.length = 60000 ∧ w.2.length = 60000 ∧ ∀ (k : Nat) m c, w.1[k]? = some m → w.2[k]? = some c → (0 ≤ c.toInt ∧ c.toInt ≤ n) ∧ (c = 0 ∨ (m.toInt % 60000 = k ∧ m.toInt ≤ last))
theorem own_inv0 (last : Int) : own_Inv 0 last (List.replicate 60000 0, List.replicate 60000 0) := by
  refine ⟨List.length_replicate, List.length_replicate, fun k m c h1 h2 => ?_⟩
  have h2' := List.eq_of_mem_replicate (List.mem_of_getElem? h2)
  subst h2'
  exact ⟨by decide, Or.inl rfl⟩
theorem own_k_lt (now : Int64) : own_k now < 60000 := by unfold own_k; omega
theorem own_rec_inv {n : Nat} {last : Int} {w : List Int64 × List Int32} {now : Int64} (h : own_Inv n last w) (hl : last ≤ now.toInt) (hn : n ≤ 100) : own_Inv (n + 1) now.toInt (own_rec now w) := by
  obtain ⟨ms, cs⟩ := w
  obtain ⟨h1, h2, h3⟩ := h
  dsimp only at h1 h2 h3
  have hk := own_k_lt now
  have hkk : now.toInt % 60000 = (own_k now : Nat) := by unfold own_k; omega
  have hm : ms[own_k now]? = some ms[own_k now] := List.getElem?_eq_getElem (by omega)
  have hc : cs[own_k now]? = some cs[own_k now] := List.getElem?_eq_getElem (by omega)
  have hb := h3 _ _ _ hm hc
  unfold own_rec
  dsimp only
  split
  · rename_i e
    refine ⟨h1, by simpa using h2, fun k m c g1 g2 => ?_⟩
    dsimp only at g1 g2
    by_cases ek : k = own_k now
    · subst ek
      rw [List.getElem?_set_self (by omega)] at g2
      cases g2
      rw [e] at g1
      cases g1
      have hg : cs.getD (own_k now) 0 = cs[own_k now] := by simp [List.getD, hc]
      rw [hg]
      have ha := own_iadd (rfl : cs[own_k now].toInt = cs[own_k now].toInt) (show (1 : Int32).toInt = 1 by decide) (by omega)
      exact ⟨by rw [ha]; omega, Or.inr ⟨hkk, Int.le_refl _⟩⟩
    · rw [List.getElem?_set_ne (Ne.symm ek)] at g2
      obtain ⟨a, b⟩ := h3 k m c g1 g2
      exact ⟨by omega, b.imp id fun q => ⟨q.1, by omega⟩⟩
  · refine ⟨by simpa using h1, by simpa using h2, fun k m c g1 g2 => ?_⟩
    dsimp only at g1 g2
    by_cases ek : k = own_k now
    · subst ek
      rw [List.getElem?_set_self (by omega)] at g1 g2
      cases g1; cases g2
      refine ⟨?_, Or.inr ⟨hkk, Int.le_refl _⟩⟩
      have : ((0 : Int32) + 1).toInt = 1 := by decide
      omega
    · rw [List.getElem?_set_ne (Ne.symm ek)] at g1 g2
      obtain ⟨a, b⟩ := h3 k m c g1 g2
      exact ⟨by omega, b.imp id fun q => ⟨q.1, by omega⟩⟩
theorem own_rec_cnt {n : Nat} {last : Int} {w : List Int64 × List Int32} {now q : Int64} (h : own_Inv n last w) (hl : last ≤ now.toInt) (hn : n ≤ 100) (hq : now.toInt ≤ q.toInt) (hq0 : -9223372036854715808 ≤ q.toInt) : own_cnt q (own_rec now w).1 (own_rec now w).2 0 = own_cnt q w.1 w.2 0 + own_in q now := by
  obtain ⟨ms, cs⟩ := w
  obtain ⟨h1, h2, h3⟩ := h
  dsimp only at h1 h2 h3 ⊢
  have hk := own_k_lt now
  have hkk : now.toInt % 60000 = (own_k now : Nat) := by unfold own_k; omega
  have hm : ms[own_k now]? = some ms[own_k now] := List.getElem?_eq_getElem (by omega)
  have hc : cs[own_k now]? = some cs[own_k now] := List.getElem?_eq_getElem (by omega)
  obtain ⟨hb, hd⟩ := h3 _ _ _ hm hc
  have hrq := rng64 q
  have hs := own_lsub (rfl : q.toInt = q.toInt) (show (60000 : Int64).toInt = 60000 by decide) (by omega)
  generalize hM : ms[own_k now] = m at *
  generalize hC : cs[own_k now] = c at *
  unfold own_rec
  dsimp only
  split
  · rename_i e
    rw [hm] at e
    cases e
    have hg : cs.getD (own_k now) 0 = c := by simp [List.getD, hc]
    rw [hg]
    have hset : ms.set (own_k now) now = ms := by
      apply List.ext_getElem?
      intro i
      by_cases ei : i = own_k now
      · subst ei; rw [List.getElem?_set_self (by omega), hm]
      · rw [List.getElem?_set_ne (Ne.symm ei)]
    have key := own_cnt_set q ms cs (own_k now) 0 now now c (c + 1) hm hc
    rw [hset] at key
    have hgi : own_g q now (c + 1) = own_g q now c + own_in q now := by
      unfold own_g own_in
      split
      · split
        · rfl
        · rw [← Int64.toInt_inj]
          have a1 := own_iadd (rfl : c.toInt = c.toInt) (show (1 : Int32).toInt = 1 by decide) (by omega)
          have a2 := own_ladd (c_i2l c) (show (1 : Int64).toInt = 1 by decide) (by omega)
          rw [c_i2l, a1, a2]
      · rfl
    rw [hgi, Int64.add_comm (own_g q now c) (own_in q now), ← Int64.add_assoc] at key
    have := congrArg (fun z => z - own_g q now c) key
    simpa [Int64.add_sub_cancel] using this
  · rename_i e
    have ne : m ≠ now := fun x => e (by rw [hm, x])
    have key := own_cnt_set q ms cs (own_k now) 0 m now c (0 + 1) hm hc
    have z1 : own_g q m c = 0 := by
      rcases hd with rfl | ⟨d1, d2⟩
      · exact own_g0 q m
      · unfold own_g
        have nei : m.toInt ≠ now.toInt := fun x => ne (Int64.toInt_inj.mp x)
        rw [if_neg]
        rw [Int64.lt_iff_toInt_lt, hs]
        omega
    have z2 : own_g q now (0 + 1) = own_in q now := by
      unfold own_g own_in
      split
      · split <;> rfl
      · rfl
    rw [z1, z2, Int64.add_zero] at key
    exact key

theorem own_fm (x : Int64) : (0 ≤ x.toInt → (x % 60000).toInt = x.toInt % 60000) ∧ (x.toInt < 0 → (x % 60000).toInt = -((-x.toInt) % 60000)) := by
  have h := c_lrem x 60000 60000 (by decide)
  rw [lrem_mod] at h
  exact h
theorem own_xs (x : Int64) : (x ^^^ 60000) < 0 ↔ x < 0 := by
  rw [XT.xor_neg64]
  have : ¬ (60000 : Int64) < 0 := by decide
  simp [this]
theorem own_neg (x : Int64) : x < 0 ↔ x.toInt < 0 := XT.negI64 x
theorem own_idx (now : Int64) (s : Int32) (h : s.toInt = now.toInt % 60000) : ¬ s < 0 ∧ s.toNatClampNeg = own_k now := by
  have t : s.toNatClampNeg = s.toInt.toNat := rfl
  refine ⟨?_, by rw [t, h]; rfl⟩
  simp only [Int32.lt_iff_toInt_lt, Int32.reduceToInt]
  omega
theorem own_m7 {l : Launch} {Z : State} {a0 : Array Value} (hw : ∀ d ∈ tables_1, d.before a0 Z = true) {n0 : Nat} (x : Int64) {A : List ACell}  :
    MT false l Z n0 own_lay (⟨"java/lang/Math", "floorMod", "(JJ)J"⟩ : MethodName) jdk_29_method_52_code 6 (some .long) [] ({ frames := 0, cells := 0, slots := 0, locals := 0 } : Room) [.long x, .long 60000] A (fun v B => (∃ z : Int64, v = some (.long z) ∧ z.toInt = x.toInt % 60000) ∧ B = A) := by
  obtain ⟨m1, m2⟩ := own_fm x
  refine W_enter (D := own_D7) own_pn7 own_D7_ok ?_
  show WP _ _ _ _ _ _ _ _ _ _ _ 0 [.val (.long x), .second, .val (.long 60000), .second, .unset, .unset] [] _ 0 0 _
  refine W_run 0 4 (pc' := 5) (ls' := [.val (.long x), .second, .val (.long 60000), .second, .val (.long (x % 60000)), .second]) (st' := []) rfl ?_
  refine W_run 4 5 (pc' := 10) (ls' := [.val (.long x), .second, .val (.long 60000), .second, .val (.long (x % 60000)), .second]) (st' := [.int (XT.cmpL (x ^^^ 60000) 0)]) rfl ?_
  refine W_lge (jx := 9) rfl (by decide) (pc' := 25) rfl (fun h10 => ?_) (fun h10 => ?_)
  · skip
    refine W_run 18 1 (pc' := 27) (ls' := [.val (.long x), .second, .val (.long 60000), .second, .val (.long (x % 60000)), .second]) (st' := [.long (x % 60000)]) rfl ?_
    refine W_lreturn (jx := 19) rfl rfl (by decide) (by decide) ?_
    refine ⟨⟨_, rfl, ?_⟩, rfl⟩
    first
    | (have p0 : ¬ x.toInt < 0 := fun n => h10 ((own_xs x).mpr ((own_neg x).mpr n))
       exact m1 (by omega))
    | (have n0 : x.toInt < 0 := (own_neg x).mp ((own_xs x).mp h10)
       have n1 := m2 n0
       have k0 : (0 : Int64).toInt = 0 := by decide
       rw [← Int64.toInt_inj, k0] at h17
       omega)
  · skip
    refine W_run 10 3 (pc' := 17) (ls' := [.val (.long x), .second, .val (.long 60000), .second, .val (.long (x % 60000)), .second]) (st' := [.int (XT.cmpL (x % 60000) 0)]) rfl ?_
    refine W_leq (jx := 13) rfl (by decide) (pc' := 25) rfl (fun h17 => ?_) (fun h17 => ?_)
    · skip
      refine W_run 18 1 (pc' := 27) (ls' := [.val (.long x), .second, .val (.long 60000), .second, .val (.long (x % 60000)), .second]) (st' := [.long (x % 60000)]) rfl ?_
      refine W_lreturn (jx := 19) rfl rfl (by decide) (by decide) ?_
      refine ⟨⟨_, rfl, ?_⟩, rfl⟩
      first
      | (have p0 : ¬ x.toInt < 0 := fun n => h10 ((own_xs x).mpr ((own_neg x).mpr n))
         exact m1 (by omega))
      | (have n0 : x.toInt < 0 := (own_neg x).mp ((own_xs x).mp h10)
         have n1 := m2 n0
         have k0 : (0 : Int64).toInt = 0 := by decide
         rw [← Int64.toInt_inj, k0] at h17
         omega)
    · skip
      refine W_run 14 3 (pc' := 24) (ls' := [.val (.long x), .second, .val (.long 60000), .second, .val (.long (x % 60000)), .second]) (st' := [.long ((x % 60000) + 60000)]) rfl ?_
      refine W_lreturn (jx := 17) rfl rfl (by decide) (by decide) ?_
      refine ⟨⟨_, rfl, ?_⟩, rfl⟩
      have n0 : x.toInt < 0 := by
        have := (own_xs x).mp h10
        exact (own_neg x).mp this
      have n1 := m2 n0
      have e := own_ladd (rfl : (x % 60000).toInt = (x % 60000).toInt) (show (60000 : Int64).toInt = 60000 by decide) (by omega)
      rw [e]
      have k0 : (0 : Int64).toInt = 0 := by decide
      rw [← Int64.toInt_inj, k0] at h17
      omega
theorem own_m6 {l : Launch} {Z : State} {a0 : Array Value} (hw : ∀ d ∈ tables_1, d.before a0 Z = true) {n0 : Nat} (x : Int64) {A : List ACell}  :
    MT false l Z n0 own_lay (⟨"java/lang/Math", "floorMod", "(JI)I"⟩ : MethodName) jdk_29_method_51_code 3 (some .int) [] ({ frames := 1, cells := 0, slots := 0, locals := 20 } : Room) [.long x, .int 60000] A (fun v B => (∃ z : Int32, v = some (.int z) ∧ z.toInt = x.toInt % 60000) ∧ B = A) := by
  refine W_enter (D := own_D6) own_pn6 own_D6_ok ?_
  show WP _ _ _ _ _ _ _ _ _ _ _ 0 [.val (.long x), .second, .val (.int 60000)] [] _ 0 0 _
  refine W_run 0 3 (pc' := 3) (ls' := [.val (.long x), .second, .val (.int 60000)]) (st' := [.long 60000, .long x]) rfl ?_
  refine W_callS (jx := 3) [.long x, .long 60000] [] (own_m7 hw x) rfl (hw _ (List.mem_of_getElem? (i := 32) rfl)) (hw _ (List.mem_of_getElem? (i := 33) rfl)) (hw _ (List.mem_of_getElem? (i := 6) rfl)) (hw _ (List.mem_of_getElem? (i := 34) rfl)) (by decide) own_pd7 rfl rfl rfl (by decide) rfl (by decide) (by decide) rfl ?_
  rintro _ _ ⟨⟨z, rfl, hz⟩, hB'⟩
  show WP _ _ _ _ _ _ _ _ _ _ _ 6 [.val (.long x), .second, .val (.int 60000)] [.long z] _ _ _ _
  refine W_run 4 1 (pc' := 7) (ls' := [.val (.long x), .second, .val (.int 60000)]) (st' := [.int (z.toInt32)]) rfl ?_
  refine W_ireturn (jx := 5) rfl rfl (by decide) (by decide) ?_
  refine ⟨⟨_, rfl, ?_⟩, hB'⟩
  have a := c_l2i z
  have b := rng32 z.toInt32
  omega
set_option maxRecDepth 65536 in
theorem own_m3 {l : Launch} {Z : State} {a0 : Array Value} (hw : ∀ d ∈ tables_1, d.before a0 Z = true) {n0 : Nat}   :
    MT false l Z n0 own_lay (⟨"com/example/rollcall/rollcall/registry/HeartbeatWindow", "<init>", "()V"⟩ : MethodName) prog_11_method_1_code 1 none [] ({ frames := 1, cells := 2, slots := 120000, locals := 16 } : Room) [.ref 0] [.inl (0, [.null, .null])] (fun v B => v = none ∧ B = [.inl (0, [.ref 1, .ref 2]), .inr (.long, ((List.replicate 60000 (0 : Int64)).map Value.long)), .inr (.int, ((List.replicate 60000 (0 : Int32)).map Value.int))]) := by
  refine W_enter (D := own_D3) own_pn3 own_D3_ok ?_
  show WP _ _ _ _ _ _ _ _ _ _ _ 0 [.val (.ref 0)] [] _ 0 0 _
  refine W_run 0 1 (pc' := 1) (ls' := [.val (.ref 0)]) (st' := [.ref 0]) rfl ?_
  refine W_initO (jx := 1) rfl (hw _ (List.mem_of_getElem? (i := 14) rfl)) (hw _ (List.mem_of_getElem? (i := 15) rfl)) (hw _ (List.mem_of_getElem? (i := 16) rfl)) rfl (by decide) rfl ?_
  refine W_run 2 1 (pc' := 5) (ls' := [.val (.ref 0)]) (st' := [.ref 0]) rfl ?_
  refine W_ldcI (jx := 3) rfl (hw _ (List.mem_of_getElem? (i := 17) rfl)) ?_
  refine W_newarray (jx := 4) 60000 (vs := List.replicate 60000 (.long 0)) rfl rfl (hw _ (List.mem_of_getElem? (i := 18) rfl)) (by decide) rfl (by decide) (by decide) (by decide) (by decide) rfl (N0 := 1) (A1 := [.inl (0, [.null, .null]), .inr (.long, List.replicate 60000 (.long 0))]) rfl rfl ?_
  refine W_putfield (jx := 5) (ci := 0) (k := 0) rfl (own_lay_ok hw) (hw _ (List.mem_of_getElem? (i := 19) rfl)) (Or.inr ⟨(hw _ (List.mem_of_getElem? (i := 20) rfl)), rfl, rfl⟩) (hw _ (List.mem_of_getElem? (i := 9) rfl)) (by decide +kernel : parseFieldDescriptor "[J" = some (.array .long)) (fun _ => rfl) (fun _ => rfl) rfl rfl rfl (A1 := [.inl (0, [.ref 1, .null]), .inr (.long, List.replicate 60000 (.long 0))]) rfl ?_
  refine W_run 6 1 (pc' := 13) (ls' := [.val (.ref 0)]) (st' := [.ref 0]) rfl ?_
  refine W_ldcI (jx := 7) rfl (hw _ (List.mem_of_getElem? (i := 17) rfl)) ?_
  refine W_newarray (jx := 8) 60000 (vs := List.replicate 60000 (.int 0)) rfl rfl (hw _ (List.mem_of_getElem? (i := 21) rfl)) (by decide) rfl (by decide) (by decide) (by decide) (by decide) rfl (N0 := 2) (A1 := [.inl (0, [.ref 1, .null]), .inr (.long, List.replicate 60000 (.long 0)), .inr (.int, List.replicate 60000 (.int 0))]) rfl rfl ?_
  refine W_putfield (jx := 9) (ci := 0) (k := 1) rfl (own_lay_ok hw) (hw _ (List.mem_of_getElem? (i := 22) rfl)) (Or.inr ⟨(hw _ (List.mem_of_getElem? (i := 23) rfl)), rfl, rfl⟩) (hw _ (List.mem_of_getElem? (i := 9) rfl)) (by decide +kernel : parseFieldDescriptor "[I" = some (.array .int)) (fun _ => rfl) (fun _ => rfl) rfl rfl rfl (A1 := [.inl (0, [.ref 1, .ref 2]), .inr (.long, List.replicate 60000 (.long 0)), .inr (.int, List.replicate 60000 (.int 0))]) rfl ?_
  refine W_return (jx := 10) rfl rfl (by decide) (by decide) ?_
  exact ⟨rfl, by rw [List.map_replicate, List.map_replicate]⟩
set_option maxRecDepth 65536 in
theorem own_m5 {l : Launch} {Z : State} {a0 : Array Value} (hw : ∀ d ∈ tables_1, d.before a0 Z = true) {n0 : Nat} (ms : List Int64) (cs : List Int32) (t : Int64) (h1 : ms.length = 60000) (h2 : cs.length = 60000) :
    MT false l Z n0 own_lay (⟨"com/example/rollcall/rollcall/registry/HeartbeatWindow", "record", "(J)V"⟩ : MethodName) prog_11_method_2_code 4 none [] ({ frames := 2, cells := 0, slots := 0, locals := 40 } : Room) [.ref 0, .long t] [.inl (0, [.ref 1, .ref 2]), .inr (.long, (ms.map Value.long)), .inr (.int, (cs.map Value.int))] (fun v B => v = none ∧ B = [.inl (0, [.ref 1, .ref 2]), .inr (.long, ((own_rec t (ms, cs)).1.map Value.long)), .inr (.int, ((own_rec t (ms, cs)).2.map Value.int))]) := by
  refine W_enter (D := own_D5) own_pn5 own_D5_ok ?_
  show WP _ _ _ _ _ _ _ _ _ _ _ 0 [.val (.ref 0), .val (.long t), .second, .unset] [] _ 0 0 _
  refine W_run 0 1 (pc' := 1) (ls' := [.val (.ref 0), .val (.long t), .second, .unset]) (st' := [.long t]) rfl ?_
  refine W_ldcI (jx := 1) rfl (hw _ (List.mem_of_getElem? (i := 17) rfl)) ?_
  refine W_callS (jx := 2) [.long t, .int 60000] [] (own_m6 hw t) rfl (hw _ (List.mem_of_getElem? (i := 29) rfl)) (hw _ (List.mem_of_getElem? (i := 30) rfl)) (hw _ (List.mem_of_getElem? (i := 6) rfl)) (hw _ (List.mem_of_getElem? (i := 31) rfl)) (by decide) own_pd6 rfl rfl rfl (by decide) rfl (by decide) (by decide) rfl ?_
  rintro _ _ ⟨⟨s, rfl, hs⟩, rfl⟩
  show WP _ _ _ _ _ _ _ _ _ _ _ 6 [.val (.ref 0), .val (.long t), .second, .unset] [.int s] [.inl (0, [.ref 1, .ref 2]), .inr (.long, (ms.map Value.long)), .inr (.int, (cs.map Value.int))] _ _ _
  obtain ⟨i0, i1⟩ := own_idx t s hs
  have hk := own_k_lt t
  obtain ⟨m, hm⟩ : ∃ m, ms[own_k t]? = some m := ⟨_, List.getElem?_eq_getElem (by omega)⟩
  obtain ⟨n, hn⟩ : ∃ n, cs[own_k t]? = some n := ⟨_, List.getElem?_eq_getElem (by omega)⟩
  refine W_run 3 1 (pc' := 7) (ls' := [.val (.ref 0), .val (.long t), .second, .val (.int s)]) (st' := []) rfl ?_
  refine W_run 4 1 (pc' := 8) (ls' := [.val (.ref 0), .val (.long t), .second, .val (.int s)]) (st' := [.ref 0]) rfl ?_
  refine W_getfield (jx := 5) (ci := 0) (k := 0) rfl (hw _ (List.mem_of_getElem? (i := 19) rfl)) rfl rfl rfl (v := .ref 1) rfl ?_
  refine W_run 6 1 (pc' := 12) (ls' := [.val (.ref 0), .val (.long t), .second, .val (.int s)]) (st' := [.int s, .ref 1]) rfl ?_
  refine W_laload (jx := 7) rfl rfl i0 (v := .long m) (by rw [i1, List.getElem?_map, hm]; rfl) ?_
  refine W_run 8 2 (pc' := 15) (ls' := [.val (.ref 0), .val (.long t), .second, .val (.int s)]) (st' := [.int (XT.cmpL m t)]) rfl ?_
  refine W_leq (jx := 10) rfl (by decide) (pc' := 32) rfl (fun h15 => ?_) (fun h15 => ?_)
  · skip
    refine W_run 21 1 (pc' := 33) (ls' := [.val (.ref 0), .val (.long t), .second, .val (.int s)]) (st' := [.ref 0]) rfl ?_
    refine W_getfield (jx := 22) (ci := 0) (k := 1) rfl (hw _ (List.mem_of_getElem? (i := 22) rfl)) rfl rfl rfl (v := .ref 2) rfl ?_
    refine W_run 23 2 (pc' := 38) (ls' := [.val (.ref 0), .val (.long t), .second, .val (.int s)]) (st' := [.int s, .ref 2, .int s, .ref 2]) rfl ?_
    refine W_iaload (jx := 25) rfl rfl i0 (v := .int n) (by rw [i1, List.getElem?_map, hn]; rfl) ?_
    refine W_run 26 2 (pc' := 41) (ls' := [.val (.ref 0), .val (.long t), .second, .val (.int s)]) (st' := [.int (n + 1), .int s, .ref 2]) rfl ?_
    refine W_iastore (jx := 28) rfl rfl i0 (by rw [i1, List.length_map]; (try simp only [List.length_set]); omega) (A1 := [.inl (0, [.ref 1, .ref 2]), .inr (.long, (ms.map Value.long)), .inr (.int, ((cs.set (own_k t) (n + 1)).map Value.int))]) (by rw [i1, ← List.map_set]; rfl) ?_
    refine W_return (jx := 29) rfl rfl (by decide) (by decide) ?_
    refine ⟨rfl, ?_⟩
    unfold own_rec
    rw [if_pos (by dsimp only; rw [hm, h15])]
    have hg : cs.getD (own_k t) 0 = n := by simp [List.getD, hn]
    dsimp only
    rw [hg]
  · skip
    refine W_run 11 1 (pc' := 19) (ls' := [.val (.ref 0), .val (.long t), .second, .val (.int s)]) (st' := [.ref 0]) rfl ?_
    refine W_getfield (jx := 12) (ci := 0) (k := 0) rfl (hw _ (List.mem_of_getElem? (i := 19) rfl)) rfl rfl rfl (v := .ref 1) rfl ?_
    refine W_run 13 2 (pc' := 24) (ls' := [.val (.ref 0), .val (.long t), .second, .val (.int s)]) (st' := [.long t, .int s, .ref 1]) rfl ?_
    refine W_lastore (jx := 15) rfl rfl i0 (by rw [i1, List.length_map]; omega) (A1 := [.inl (0, [.ref 1, .ref 2]), .inr (.long, ((ms.set (own_k t) t).map Value.long)), .inr (.int, (cs.map Value.int))]) (by rw [i1, ← List.map_set]; rfl) ?_
    refine W_run 16 1 (pc' := 26) (ls' := [.val (.ref 0), .val (.long t), .second, .val (.int s)]) (st' := [.ref 0]) rfl ?_
    refine W_getfield (jx := 17) (ci := 0) (k := 1) rfl (hw _ (List.mem_of_getElem? (i := 22) rfl)) rfl rfl rfl (v := .ref 2) rfl ?_
    refine W_run 18 2 (pc' := 31) (ls' := [.val (.ref 0), .val (.long t), .second, .val (.int s)]) (st' := [.int 0, .int s, .ref 2]) rfl ?_
    refine W_iastore (jx := 20) rfl rfl i0 (by rw [i1, List.length_map]; omega) (A1 := [.inl (0, [.ref 1, .ref 2]), .inr (.long, ((ms.set (own_k t) t).map Value.long)), .inr (.int, ((cs.set (own_k t) 0).map Value.int))]) (by rw [i1, ← List.map_set]; rfl) ?_
    refine W_run 21 1 (pc' := 33) (ls' := [.val (.ref 0), .val (.long t), .second, .val (.int s)]) (st' := [.ref 0]) rfl ?_
    refine W_getfield (jx := 22) (ci := 0) (k := 1) rfl (hw _ (List.mem_of_getElem? (i := 22) rfl)) rfl rfl rfl (v := .ref 2) rfl ?_
    refine W_run 23 2 (pc' := 38) (ls' := [.val (.ref 0), .val (.long t), .second, .val (.int s)]) (st' := [.int s, .ref 2, .int s, .ref 2]) rfl ?_
    refine W_iaload (jx := 25) rfl rfl i0 (v := .int 0) (by rw [i1, List.getElem?_map, List.getElem?_set_self (by omega)]; rfl) ?_
    refine W_run 26 2 (pc' := 41) (ls' := [.val (.ref 0), .val (.long t), .second, .val (.int s)]) (st' := [.int (0 + 1), .int s, .ref 2]) rfl ?_
    refine W_iastore (jx := 28) rfl rfl i0 (by rw [i1, List.length_map]; (try simp only [List.length_set]); omega) (A1 := [.inl (0, [.ref 1, .ref 2]), .inr (.long, ((ms.set (own_k t) t).map Value.long)), .inr (.int, (((cs.set (own_k t) 0).set (own_k t) (0 + 1)).map Value.int))]) (by rw [i1, ← List.map_set]; rfl) ?_
    refine W_return (jx := 29) rfl rfl (by decide) (by decide) ?_
    refine ⟨rfl, ?_⟩
    unfold own_rec
    rw [if_neg (by dsimp only; rw [hm]; exact fun e => h15 (Option.some.inj e)), List.set_set]
theorem own_m8 {l : Launch} {Z : State} {a0 : Array Value} (hw : ∀ d ∈ tables_1, d.before a0 Z = true) {n0 : Nat} (t q : Int64) {A : List ACell}  :
    MT false l Z n0 own_lay (⟨"com/example/rollcall/rollcall/registry/HeartbeatWindowCountPinLaw", "in", "(JJ)J"⟩ : MethodName) method_3_code 4 (some .long) [] ({ frames := 0, cells := 0, slots := 0, locals := 0 } : Room) [.long t, .long q] A (fun v B => v = some (.long (own_in q t)) ∧ B = A) := by
  refine W_enter (D := own_D8) own_pn8 own_D8_ok ?_
  show WP _ _ _ _ _ _ _ _ _ _ _ 0 [.val (.long t), .second, .val (.long q), .second] [] _ 0 0 _
  refine W_run 0 2 (pc' := 2) (ls' := [.val (.long t), .second, .val (.long q), .second]) (st' := [.long q, .long t]) rfl ?_
  refine W_ldc2J (jx := 2) rfl (hw _ (List.mem_of_getElem? (i := 38) rfl)) ?_
  refine W_run 3 2 (pc' := 7) (ls' := [.val (.long t), .second, .val (.long q), .second]) (st' := [.int (XT.cmpL t (q - 60000))]) rfl ?_
  refine W_lle (jx := 5) rfl (by decide) (pc' := 20) rfl (fun h7 => ?_) (fun h7 => ?_)
  · skip
    refine W_run 12 1 (pc' := 21) (ls' := [.val (.long t), .second, .val (.long q), .second]) (st' := [.long 0]) rfl ?_
    refine W_lreturn (jx := 13) rfl rfl (by decide) (by decide) ?_
    refine ⟨?_, rfl⟩
    unfold own_in
    first | rw [if_neg h7] | rw [if_pos h7, if_pos h13] | rw [if_pos h7, if_neg h13]
  · skip
    refine W_run 6 3 (pc' := 13) (ls' := [.val (.long t), .second, .val (.long q), .second]) (st' := [.int (XT.cmpL t q)]) rfl ?_
    refine W_lgt (jx := 9) rfl (by decide) (pc' := 20) rfl (fun h13 => ?_) (fun h13 => ?_)
    · skip
      refine W_run 12 1 (pc' := 21) (ls' := [.val (.long t), .second, .val (.long q), .second]) (st' := [.long 0]) rfl ?_
      refine W_lreturn (jx := 13) rfl rfl (by decide) (by decide) ?_
      refine ⟨?_, rfl⟩
      unfold own_in
      first | rw [if_neg h7] | rw [if_pos h7, if_pos h13] | rw [if_pos h7, if_neg h13]
    · skip
      refine W_run 10 2 (pc' := 21) (ls' := [.val (.long t), .second, .val (.long q), .second]) (st' := [.long 1]) rfl ?_
      refine W_lreturn (jx := 13) rfl rfl (by decide) (by decide) ?_
      refine ⟨?_, rfl⟩
      unfold own_in
      first | rw [if_neg h7] | rw [if_pos h7, if_pos h13] | rw [if_pos h7, if_neg h13]
set_option maxRecDepth 65536 in
set_option maxHeartbeats 4000000 in
theorem own_loop {l : Launch} {Z : State} {a0 : Array Value} (hw : ∀ d ∈ tables_1, d.before a0 Z = true) {n0 : Nat} (q : Int64) (mm : List Int64) : ∀ (cc : List Int32) (pm : List Int64) (pc : List Int32) (tot : Int64) (i : Int32) (h1 : mm.length = cc.length) (h2 : pm.length = pc.length) (h3 : pm.length + mm.length = 60000) (hi : i.toInt = pm.length),
    WP false l Z n0 own_lay "com/example/rollcall/rollcall/registry/HeartbeatWindow" own_D9 6 (some .long) "count" ({ frames := 0, cells := 0, slots := 0, locals := 0 } : Room) 5 [.val (.ref 0), .val (.long q), .second, .val (.long tot), .second, .val (.int i)] [] [.inl (0, [.ref 1, .ref 2]), .inr (.long, ((pm ++ mm).map Value.long)), .inr (.int, ((pc ++ cc).map Value.int))] 0 0 (fun v B => v = some (.long (own_cnt q mm cc tot)) ∧ B = [.inl (0, [.ref 1, .ref 2]), .inr (.long, ((pm ++ mm).map Value.long)), .inr (.int, ((pc ++ cc).map Value.int))]) := by
  induction mm with
  | nil =>
    intro cc pm pc tot i h1 h2 h3 hi
    obtain rfl : cc = [] := by cases cc with | nil => rfl | cons _ _ => simp at h1
    simp only [List.length_nil, Nat.add_zero] at h3
    refine W_run 4 1 (pc' := 7) (ls' := [.val (.ref 0), .val (.long q), .second, .val (.long tot), .second, .val (.int i)]) (st' := [.int i]) rfl ?_
    refine W_ldcI (jx := 5) rfl (hw _ (List.mem_of_getElem? (i := 17) rfl)) ?_
    refine W_ge (jx := 6) rfl (by decide) (pc' := 57) rfl (fun h9 => ?_) (fun h9 => ?_)
    · skip
      refine W_run 33 1 (pc' := 58) (ls' := [.val (.ref 0), .val (.long q), .second, .val (.long tot), .second, .val (.int i)]) (st' := [.long tot]) rfl ?_
      refine W_lreturn (jx := 34) rfl rfl (by decide) (by decide) ?_
      exact ⟨rfl, rfl⟩
    · skip
      exfalso
      simp only [Int32.lt_iff_toInt_lt, Int32.reduceToInt] at h9
      omega
  | cons m mm ih =>
    intro cc pm pc tot i h1 h2 h3 hi
    obtain ⟨n, cc, rfl⟩ : ∃ n c', cc = n :: c' := by cases cc with | nil => simp at h1 | cons a b => exact ⟨a, b, rfl⟩
    simp only [List.length_cons] at h1 h3
    have hi1 := own_iadd hi (show (1 : Int32).toInt = 1 by decide) (by omega)
    have t0 : i.toNatClampNeg = pm.length := by
      have e : i.toNatClampNeg = i.toInt.toNat := rfl
      rw [e, hi]; rfl
    have g0 : ¬ i < 0 := by
      simp only [Int32.lt_iff_toInt_lt, Int32.reduceToInt]; omega
    have gm : ((pm ++ (m :: mm)).map Value.long)[i.toNatClampNeg]? = some (.long m) := by rw [t0]; simp
    have gc : ((pc ++ (n :: cc)).map Value.int)[i.toNatClampNeg]? = some (.int n) := by rw [t0, h2]; simp
    have em : (pm ++ (m :: mm)) = ((pm ++ [m]) ++ mm) := by simp
    have ec : (pc ++ (n :: cc)) = ((pc ++ [n]) ++ cc) := by simp
    refine W_run 4 1 (pc' := 7) (ls' := [.val (.ref 0), .val (.long q), .second, .val (.long tot), .second, .val (.int i)]) (st' := [.int i]) rfl ?_
    refine W_ldcI (jx := 5) rfl (hw _ (List.mem_of_getElem? (i := 17) rfl)) ?_
    refine W_ge (jx := 6) rfl (by decide) (pc' := 57) rfl (fun h9 => ?_) (fun h9 => ?_)
    · skip
      exfalso
      simp only [Int32.lt_iff_toInt_lt, Int32.reduceToInt] at h9
      omega
    · skip
      refine W_run 7 1 (pc' := 13) (ls' := [.val (.ref 0), .val (.long q), .second, .val (.long tot), .second, .val (.int i)]) (st' := [.ref 0]) rfl ?_
      refine W_getfield (jx := 8) (ci := 0) (k := 0) rfl (hw _ (List.mem_of_getElem? (i := 19) rfl)) rfl rfl rfl (v := .ref 1) rfl ?_
      refine W_run 9 1 (pc' := 18) (ls' := [.val (.ref 0), .val (.long q), .second, .val (.long tot), .second, .val (.int i)]) (st' := [.int i, .ref 1]) rfl ?_
      refine W_laload (jx := 10) rfl rfl g0 (v := .long m) gm ?_
      refine W_run 11 1 (pc' := 20) (ls' := [.val (.ref 0), .val (.long q), .second, .val (.long tot), .second, .val (.int i)]) (st' := [.long q, .long m]) rfl ?_
      refine W_ldc2J (jx := 12) rfl (hw _ (List.mem_of_getElem? (i := 44) rfl)) ?_
      refine W_run 13 2 (pc' := 25) (ls' := [.val (.ref 0), .val (.long q), .second, .val (.long tot), .second, .val (.int i)]) (st' := [.int (XT.cmpL m (q - 60000))]) rfl ?_
      refine W_lle (jx := 15) rfl (by decide) (pc' := 51) rfl (fun h25 => ?_) (fun h25 => ?_)
      · skip
        refine W_run 31 1 (pc' := 54) (ls' := [.val (.ref 0), .val (.long q), .second, .val (.long tot), .second, .val (.int (i + 1))]) (st' := []) rfl ?_
        refine W_run 32 1 (pc' := 5) (ls' := [.val (.ref 0), .val (.long q), .second, .val (.long tot), .second, .val (.int (i + 1))]) (st' := []) rfl ?_
        have eg : own_g q m n = 0 := by
          unfold own_g
          first | rw [if_neg h25] | rw [if_pos h25, if_pos h37] | rw [if_pos h25, if_neg h37]
        have e1 : own_cnt q (m :: mm) (n :: cc) tot = own_cnt q mm cc tot := by
          show own_cnt q mm cc (tot + own_g q m n) = _
          rw [eg, Int64.add_zero]
        rw [e1, em, ec]
        exact ih cc (pm ++ [m]) (pc ++ [n]) tot (i + 1) (by omega) (by simp; omega) (by simp; omega) (by simpa using hi1)
      · skip
        refine W_run 16 1 (pc' := 29) (ls' := [.val (.ref 0), .val (.long q), .second, .val (.long tot), .second, .val (.int i)]) (st' := [.ref 0]) rfl ?_
        refine W_getfield (jx := 17) (ci := 0) (k := 0) rfl (hw _ (List.mem_of_getElem? (i := 19) rfl)) rfl rfl rfl (v := .ref 1) rfl ?_
        refine W_run 18 1 (pc' := 34) (ls' := [.val (.ref 0), .val (.long q), .second, .val (.long tot), .second, .val (.int i)]) (st' := [.int i, .ref 1]) rfl ?_
        refine W_laload (jx := 19) rfl rfl g0 (v := .long m) gm ?_
        refine W_run 20 2 (pc' := 37) (ls' := [.val (.ref 0), .val (.long q), .second, .val (.long tot), .second, .val (.int i)]) (st' := [.int (XT.cmpL m q)]) rfl ?_
        refine W_lgt (jx := 22) rfl (by decide) (pc' := 51) rfl (fun h37 => ?_) (fun h37 => ?_)
        · skip
          refine W_run 31 1 (pc' := 54) (ls' := [.val (.ref 0), .val (.long q), .second, .val (.long tot), .second, .val (.int (i + 1))]) (st' := []) rfl ?_
          refine W_run 32 1 (pc' := 5) (ls' := [.val (.ref 0), .val (.long q), .second, .val (.long tot), .second, .val (.int (i + 1))]) (st' := []) rfl ?_
          have eg : own_g q m n = 0 := by
            unfold own_g
            first | rw [if_neg h25] | rw [if_pos h25, if_pos h37] | rw [if_pos h25, if_neg h37]
          have e1 : own_cnt q (m :: mm) (n :: cc) tot = own_cnt q mm cc tot := by
            show own_cnt q mm cc (tot + own_g q m n) = _
            rw [eg, Int64.add_zero]
          rw [e1, em, ec]
          exact ih cc (pm ++ [m]) (pc ++ [n]) tot (i + 1) (by omega) (by simp; omega) (by simp; omega) (by simpa using hi1)
        · skip
          refine W_run 23 2 (pc' := 42) (ls' := [.val (.ref 0), .val (.long q), .second, .val (.long tot), .second, .val (.int i)]) (st' := [.ref 0, .long tot]) rfl ?_
          refine W_getfield (jx := 25) (ci := 0) (k := 1) rfl (hw _ (List.mem_of_getElem? (i := 22) rfl)) rfl rfl rfl (v := .ref 2) rfl ?_
          refine W_run 26 1 (pc' := 47) (ls' := [.val (.ref 0), .val (.long q), .second, .val (.long tot), .second, .val (.int i)]) (st' := [.int i, .ref 2, .long tot]) rfl ?_
          refine W_iaload (jx := 27) rfl rfl g0 (v := .int n) gc ?_
          refine W_run 28 3 (pc' := 51) (ls' := [.val (.ref 0), .val (.long q), .second, .val (.long (tot + (n.toInt64))), .second, .val (.int i)]) (st' := []) rfl ?_
          refine W_run 31 1 (pc' := 54) (ls' := [.val (.ref 0), .val (.long q), .second, .val (.long (tot + (n.toInt64))), .second, .val (.int (i + 1))]) (st' := []) rfl ?_
          refine W_run 32 1 (pc' := 5) (ls' := [.val (.ref 0), .val (.long q), .second, .val (.long (tot + (n.toInt64))), .second, .val (.int (i + 1))]) (st' := []) rfl ?_
          have eg : own_g q m n = n.toInt64 := by
            unfold own_g
            first | rw [if_neg h25] | rw [if_pos h25, if_pos h37] | rw [if_pos h25, if_neg h37]
          have e1 : own_cnt q (m :: mm) (n :: cc) tot = own_cnt q mm cc (tot + (n.toInt64)) := by
            show own_cnt q mm cc (tot + own_g q m n) = _
            rw [eg]
          rw [e1, em, ec]
          exact ih cc (pm ++ [m]) (pc ++ [n]) (tot + (n.toInt64)) (i + 1) (by omega) (by simp; omega) (by simp; omega) (by simpa using hi1)
set_option maxRecDepth 65536 in
theorem own_m9 {l : Launch} {Z : State} {a0 : Array Value} (hw : ∀ d ∈ tables_1, d.before a0 Z = true) {n0 : Nat} (ms : List Int64) (cs : List Int32) (q : Int64) (h1 : ms.length = 60000) (h2 : cs.length = 60000) :
    MT false l Z n0 own_lay (⟨"com/example/rollcall/rollcall/registry/HeartbeatWindow", "count", "(J)J"⟩ : MethodName) prog_11_method_3_code 6 (some .long) [] ({ frames := 0, cells := 0, slots := 0, locals := 0 } : Room) [.ref 0, .long q] [.inl (0, [.ref 1, .ref 2]), .inr (.long, (ms.map Value.long)), .inr (.int, (cs.map Value.int))] (fun v B => v = some (.long (own_cnt q ms cs 0)) ∧ B = [.inl (0, [.ref 1, .ref 2]), .inr (.long, (ms.map Value.long)), .inr (.int, (cs.map Value.int))]) := by
  refine W_enter (D := own_D9) own_pn9 own_D9_ok ?_
  show WP _ _ _ _ _ _ _ _ _ _ _ 0 [.val (.ref 0), .val (.long q), .second, .unset, .unset, .unset] [] _ 0 0 _
  refine W_run 0 2 (pc' := 2) (ls' := [.val (.ref 0), .val (.long q), .second, .val (.long 0), .second, .unset]) (st' := []) rfl ?_
  refine W_run 2 2 (pc' := 5) (ls' := [.val (.ref 0), .val (.long q), .second, .val (.long 0), .second, .val (.int 0)]) (st' := []) rfl ?_
  exact own_loop hw q ms cs [] [] 0 0 (by omega) rfl (by simpa using h1) rfl
theorem own_imul {x y : Int32} {a b : Int} (hx : x.toInt = a) (hy : y.toInt = b) (h : -2147483648 ≤ a * b ∧ a * b < 2147483648) : (x * y).toInt = a * b := by
  subst hx hy
  have e := c_imul x y
  have r := rng32 (x * y)
  generalize x.toInt * y.toInt = p at *
  omega
theorem own_n4 (x n : Int32) (h : (x &&& 3) = n) : n = 0 ∨ n = 1 ∨ n = 2 ∨ n = 3 := by
  have q := c_mask x 3 2 (by decide) (by decide)
  rw [h] at q
  simp only [← Int32.toInt_inj, Int32.reduceToInt]
  omega
theorem own_gv (x g : Int32) (h : ((x &&& 7) * 30000 + (XT.ushr x 3 &&& 31) - 16) = g) : g.toInt ≤ 536870912 := by
  have q := c_mask x 7 3 (by decide) (by decide)
  have p := c_mask (XT.ushr x 3) 31 5 (by decide) (by decide)
  have m := own_imul (rfl : (x &&& 7).toInt = (x &&& 7).toInt) (show (30000 : Int32).toInt = 30000 by decide) (by omega)
  have s := own_iadd m (rfl : (XT.ushr x 3 &&& 31).toInt = (XT.ushr x 3 &&& 31).toInt) (by omega)
  have d := own_isub s (show (16 : Int32).toInt = 16 by decide) (by omega)
  rw [h] at d
  omega
theorem own_m2 {l : Launch} {Z : State} {a0 : Array Value} (hw : ∀ d ∈ tables_1, d.before a0 Z = true) {n0 : Nat} (x : Int32) {A : List ACell}  :
    MT false l Z n0 own_lay (⟨"java/lang/Math", "max", "(II)I"⟩ : MethodName) jdk_29_method_65_code 2 (some .int) [] ({ frames := 0, cells := 0, slots := 0, locals := 0 } : Room) [.int 0, .int x] A (fun v B => (∃ z : Int32, v = some (.int z) ∧ 0 ≤ z.toInt ∧ (z.toInt ≤ 0 ∨ z.toInt ≤ x.toInt)) ∧ B = A) := by
  refine W_enter (D := own_D2) own_pn2 own_D2_ok ?_
  show WP _ _ _ _ _ _ _ _ _ _ _ 0 [.val (.int 0), .val (.int x)] [] _ 0 0 _
  refine W_run 0 2 (pc' := 2) (ls' := [.val (.int 0), .val (.int x)]) (st' := [.int x, .int 0]) rfl ?_
  refine W_lt (jx := 2) rfl (by decide) (pc' := 9) rfl (fun h2 => ?_) (fun h2 => ?_)
  · skip
    refine W_run 5 1 (pc' := 10) (ls' := [.val (.int 0), .val (.int x)]) (st' := [.int x]) rfl ?_
    refine W_ireturn (jx := 6) rfl rfl (by decide) (by decide) ?_
    simp only [Int32.lt_iff_toInt_lt, Int32.reduceToInt] at h2
    exact ⟨⟨_, rfl, by omega, Or.inr (Int.le_refl _)⟩, rfl⟩
  · skip
    refine W_run 3 2 (pc' := 10) (ls' := [.val (.int 0), .val (.int x)]) (st' := [.int 0]) rfl ?_
    refine W_ireturn (jx := 6) rfl rfl (by decide) (by decide) ?_
    exact ⟨⟨_, rfl, by decide, Or.inl (by decide)⟩, rfl⟩
theorem own_m1 {l : Launch} {Z : State} {a0 : Array Value} (hw : ∀ d ∈ tables_1, d.before a0 Z = true) {n0 : Nat} (x : Int32) {A : List ACell}  :
    MT false l Z n0 own_lay (⟨"com/example/rollcall/rollcall/registry/HeartbeatWindowCountPinLaw", "gap", "(I)J"⟩ : MethodName) method_2_code 2 (some .long) [] ({ frames := 1, cells := 0, slots := 0, locals := 20 } : Room) [.int x] A (fun v B => (∃ z : Int64, v = some (.long z) ∧ 0 ≤ z.toInt ∧ z.toInt ≤ 536870912) ∧ B = A) := by
  refine W_enter (D := own_D1) own_pn1 own_D1_ok ?_
  show WP _ _ _ _ _ _ _ _ _ _ _ 0 [.val (.int x), .unset] [] _ 0 0 _
  refine W_run 0 6 (pc' := 9) (ls' := [.val (.int x), .unset]) (st' := [.int x, .int ((x &&& 7) * 30000)]) rfl ?_
  refine W_run 6 6 (pc' := 17) (ls' := [.val (.int x), .unset]) (st' := [.int 16, .int (((x &&& 7) * 30000) + ((XT.ushr x 3) &&& 31))]) rfl ?_
  refine W_run 12 1 (pc' := 18) (ls' := [.val (.int x), .unset]) (st' := [.int ((((x &&& 7) * 30000) + ((XT.ushr x 3) &&& 31)) - 16)]) rfl ?_
  generalize h_g : (((((x &&& 7) * 30000) + ((XT.ushr x 3) &&& 31)) - 16) : Int32) = g
  have hg := own_gv _ _ h_g
  refine W_run 13 1 (pc' := 19) (ls' := [.val (.int x), .val (.int g)]) (st' := []) rfl ?_
  refine W_run 14 2 (pc' := 21) (ls' := [.val (.int x), .val (.int g)]) (st' := [.int g, .int 0]) rfl ?_
  refine W_callS (jx := 16) [.int 0, .int g] [] (own_m2 hw g) rfl (hw _ (List.mem_of_getElem? (i := 4) rfl)) (hw _ (List.mem_of_getElem? (i := 5) rfl)) (hw _ (List.mem_of_getElem? (i := 6) rfl)) (hw _ (List.mem_of_getElem? (i := 7) rfl)) (by decide) own_pd2 rfl rfl rfl (by decide) rfl (by decide) (by decide) rfl ?_
  rintro _ _ ⟨⟨z, rfl, hz⟩, hB'⟩
  show WP _ _ _ _ _ _ _ _ _ _ _ 24 [.val (.int x), .val (.int g)] [.int z] _ _ _ _
  refine W_run 17 1 (pc' := 25) (ls' := [.val (.int x), .val (.int g)]) (st' := [.long (z.toInt64)]) rfl ?_
  refine W_lreturn (jx := 18) rfl rfl (by decide) (by decide) ?_
  exact ⟨⟨_, rfl, by have b := c_i2l z; omega⟩, hB'⟩
set_option maxRecDepth 65536 in
set_option maxHeartbeats 40000000 in
theorem own_m0 {l : Launch} {Z : State} {a0 : Array Value} (hw : ∀ d ∈ tables_1, d.before a0 Z = true) {n0 : Nat} (p : Int64) (a : Int32) (b : Int32) (c : Int32) (e : Int32)  :
    MT false l Z n0 own_lay x code maxLocals ret tables_1 room_1 [.long p, .int a, .int b, .int c, .int e] [] (fun v B => v = some (.int 1)) := by
  refine W_enter (D := own_D0) own_pn0 own_D0_ok ?_
  show WP _ _ _ _ _ _ _ _ _ _ _ 0 [.val (.long p), .second, .val (.int a), .val (.int b), .val (.int c), .val (.int e), .unset, .unset, .unset, .unset, .unset, .unset, .unset, .unset, .unset, .unset, .unset, .unset] [] _ 0 0 _
  refine W_run 0 3 (pc' := 3) (ls' := [.val (.long p), .second, .val (.int a), .val (.int b), .val (.int c), .val (.int e), .unset, .unset, .unset, .unset, .unset, .unset, .unset, .unset, .unset, .unset, .unset, .unset]) (st' := [.long (p >>> ((1 : Int32).toInt64 &&& 63) : Int64)]) rfl ?_
  generalize h_r1 : ((p >>> ((1 : Int32).toInt64 &&& 63) : Int64) : Int64) = r1
  refine W_run 3 1 (pc' := 5) (ls' := [.val (.long p), .second, .val (.int a), .val (.int b), .val (.int c), .val (.int e), .val (.long r1), .second, .unset, .unset, .unset, .unset, .unset, .unset, .unset, .unset, .unset, .unset]) (st' := []) rfl ?_
  refine W_run 4 2 (pc' := 8) (ls' := [.val (.long p), .second, .val (.int a), .val (.int b), .val (.int c), .val (.int e), .val (.long r1), .second, .unset, .unset, .unset, .unset, .unset, .unset, .unset, .unset, .unset, .unset]) (st' := [.int a, .long r1]) rfl ?_
  refine W_callS (jx := 6) [.int a] [.long r1] (own_m1 hw a) rfl (hw _ (List.mem_of_getElem? (i := 0) rfl)) (hw _ (List.mem_of_getElem? (i := 1) rfl)) (hw _ (List.mem_of_getElem? (i := 2) rfl)) (hw _ (List.mem_of_getElem? (i := 3) rfl)) (by decide) own_pd1 rfl rfl rfl (by decide) rfl (by decide) (by decide) rfl ?_
  rintro _ _ ⟨⟨z1, rfl, g1⟩, rfl⟩
  show WP _ _ _ _ _ _ _ _ _ _ _ 11 [.val (.long p), .second, .val (.int a), .val (.int b), .val (.int c), .val (.int e), .val (.long r1), .second, .unset, .unset, .unset, .unset, .unset, .unset, .unset, .unset, .unset, .unset] [.long z1, .long r1] [] _ _ _
  refine W_run 7 1 (pc' := 12) (ls' := [.val (.long p), .second, .val (.int a), .val (.int b), .val (.int c), .val (.int e), .val (.long r1), .second, .unset, .unset, .unset, .unset, .unset, .unset, .unset, .unset, .unset, .unset]) (st' := [.long (r1 + z1)]) rfl ?_
  generalize h_r2 : ((r1 + z1) : Int64) = r2
  refine W_run 8 1 (pc' := 14) (ls' := [.val (.long p), .second, .val (.int a), .val (.int b), .val (.int c), .val (.int e), .val (.long r1), .second, .val (.long r2), .second, .unset, .unset, .unset, .unset, .unset, .unset, .unset, .unset]) (st' := []) rfl ?_
  refine W_run 9 2 (pc' := 17) (ls' := [.val (.long p), .second, .val (.int a), .val (.int b), .val (.int c), .val (.int e), .val (.long r1), .second, .val (.long r2), .second, .unset, .unset, .unset, .unset, .unset, .unset, .unset, .unset]) (st' := [.int b, .long r2]) rfl ?_
  refine W_callS (jx := 11) [.int b] [.long r2] (own_m1 hw b) rfl (hw _ (List.mem_of_getElem? (i := 0) rfl)) (hw _ (List.mem_of_getElem? (i := 1) rfl)) (hw _ (List.mem_of_getElem? (i := 2) rfl)) (hw _ (List.mem_of_getElem? (i := 3) rfl)) (by decide) own_pd1 rfl rfl rfl (by decide) rfl (by decide) (by decide) rfl ?_
  rintro _ _ ⟨⟨z2, rfl, g2⟩, rfl⟩
  show WP _ _ _ _ _ _ _ _ _ _ _ 20 [.val (.long p), .second, .val (.int a), .val (.int b), .val (.int c), .val (.int e), .val (.long r1), .second, .val (.long r2), .second, .unset, .unset, .unset, .unset, .unset, .unset, .unset, .unset] [.long z2, .long r2] [] _ _ _
  refine W_run 12 1 (pc' := 21) (ls' := [.val (.long p), .second, .val (.int a), .val (.int b), .val (.int c), .val (.int e), .val (.long r1), .second, .val (.long r2), .second, .unset, .unset, .unset, .unset, .unset, .unset, .unset, .unset]) (st' := [.long (r2 + z2)]) rfl ?_
  generalize h_r3 : ((r2 + z2) : Int64) = r3
  refine W_run 13 1 (pc' := 23) (ls' := [.val (.long p), .second, .val (.int a), .val (.int b), .val (.int c), .val (.int e), .val (.long r1), .second, .val (.long r2), .second, .val (.long r3), .second, .unset, .unset, .unset, .unset, .unset, .unset]) (st' := []) rfl ?_
  refine W_run 14 2 (pc' := 27) (ls' := [.val (.long p), .second, .val (.int a), .val (.int b), .val (.int c), .val (.int e), .val (.long r1), .second, .val (.long r2), .second, .val (.long r3), .second, .unset, .unset, .unset, .unset, .unset, .unset]) (st' := [.int c, .long r3]) rfl ?_
  refine W_callS (jx := 16) [.int c] [.long r3] (own_m1 hw c) rfl (hw _ (List.mem_of_getElem? (i := 0) rfl)) (hw _ (List.mem_of_getElem? (i := 1) rfl)) (hw _ (List.mem_of_getElem? (i := 2) rfl)) (hw _ (List.mem_of_getElem? (i := 3) rfl)) (by decide) own_pd1 rfl rfl rfl (by decide) rfl (by decide) (by decide) rfl ?_
  rintro _ _ ⟨⟨z3, rfl, g3⟩, rfl⟩
  show WP _ _ _ _ _ _ _ _ _ _ _ 30 [.val (.long p), .second, .val (.int a), .val (.int b), .val (.int c), .val (.int e), .val (.long r1), .second, .val (.long r2), .second, .val (.long r3), .second, .unset, .unset, .unset, .unset, .unset, .unset] [.long z3, .long r3] [] _ _ _
  refine W_run 17 1 (pc' := 31) (ls' := [.val (.long p), .second, .val (.int a), .val (.int b), .val (.int c), .val (.int e), .val (.long r1), .second, .val (.long r2), .second, .val (.long r3), .second, .unset, .unset, .unset, .unset, .unset, .unset]) (st' := [.long (r3 + z3)]) rfl ?_
  generalize h_q : ((r3 + z3) : Int64) = q
  refine W_run 18 1 (pc' := 33) (ls' := [.val (.long p), .second, .val (.int a), .val (.int b), .val (.int c), .val (.int e), .val (.long r1), .second, .val (.long r2), .second, .val (.long r3), .second, .val (.long q), .second, .unset, .unset, .unset, .unset]) (st' := []) rfl ?_
  have k0 := c_lshr p 1 1 (by decide)
  have e2 : (Int32.toInt64 1 &&& 63) = (1 &&& 63 : Int32).toInt64 := by decide
  rw [e2] at h_r1
  rw [h_r1] at k0
  have ra := rng64 p
  have s1 := own_ladd (rfl : r1.toInt = r1.toInt) (rfl : z1.toInt = z1.toInt) (by omega)
  rw [h_r2] at s1
  have s2 := own_ladd (rfl : r2.toInt = r2.toInt) (rfl : z2.toInt = z2.toInt) (by omega)
  rw [h_r3] at s2
  have s3 := own_ladd (rfl : r3.toInt = r3.toInt) (rfl : z3.toInt = z3.toInt) (by omega)
  rw [h_q] at s3
  have v0 := own_inv0 r1.toInt
  have v1 := own_rec_inv (now := r1) v0 (by omega) (by omega)
  have v2 := own_rec_inv (now := r2) v1 (by omega) (by omega)
  have v3 := own_rec_inv (now := r3) v2 (by omega) (by omega)
  have t1 := own_rec_cnt (now := r1) (q := q) v0 (by omega) (by omega) (by omega) (by omega)
  have t2 := own_rec_cnt (now := r2) (q := q) v1 (by omega) (by omega) (by omega) (by omega)
  have t3 := own_rec_cnt (now := r3) (q := q) v2 (by omega) (by omega) (by omega) (by omega)
  have t0 := own_cnt0 q 60000 0
  rw [t0] at t1
  rw [t1] at t2
  rw [t2] at t3
  clear h_r1 h_r2 h_r3 h_q
  refine W_run 19 3 (pc' := 37) (ls' := [.val (.long p), .second, .val (.int a), .val (.int b), .val (.int c), .val (.int e), .val (.long r1), .second, .val (.long r2), .second, .val (.long r3), .second, .val (.long q), .second, .unset, .unset, .unset, .unset]) (st' := [.int (e &&& 3)]) rfl ?_
  generalize h_k : ((e &&& 3) : Int32) = k
  have hk := own_n4 _ _ h_k
  rcases hk with rfl | rfl | rfl | rfl
  · clear h_k
    refine W_run 22 1 (pc' := 39) (ls' := [.val (.long p), .second, .val (.int a), .val (.int b), .val (.int c), .val (.int e), .val (.long r1), .second, .val (.long r2), .second, .val (.long r3), .second, .val (.long q), .second, .val (.int 0), .unset, .unset, .unset]) (st' := []) rfl ?_
    refine W_new (jx := 23) (ci := 0) (vs := [.null, .null]) rfl (own_lay_ok hw) (hw _ (List.mem_of_getElem? (i := 8) rfl)) (hw _ (List.mem_of_getElem? (i := 9) rfl)) (hw _ (List.mem_of_getElem? (i := 10) rfl)) rfl (by decide +kernel) rfl (by decide) (by decide) rfl (N0 := 0) (A1 := [.inl (0, [.null, .null])]) rfl rfl ?_
    refine W_run 24 1 (pc' := 43) (ls' := [.val (.long p), .second, .val (.int a), .val (.int b), .val (.int c), .val (.int e), .val (.long r1), .second, .val (.long r2), .second, .val (.long r3), .second, .val (.long q), .second, .val (.int 0), .unset, .unset, .unset]) (st' := [.ref 0, .ref 0]) rfl ?_
    refine W_callI (jx := 25) [] [.ref 0] (own_m3 hw) rfl rfl (hw _ (List.mem_of_getElem? (i := 11) rfl)) (hw _ (List.mem_of_getElem? (i := 12) rfl)) (hw _ (List.mem_of_getElem? (i := 10) rfl)) (hw _ (List.mem_of_getElem? (i := 13) rfl)) (by decide) own_pd3 rfl rfl rfl (by decide) rfl (by decide) (by decide) rfl ?_
    rintro _ _ ⟨rfl, rfl⟩
    show WP _ _ _ _ _ _ _ _ _ _ _ 46 [.val (.long p), .second, .val (.int a), .val (.int b), .val (.int c), .val (.int e), .val (.long r1), .second, .val (.long r2), .second, .val (.long r3), .second, .val (.long q), .second, .val (.int 0), .unset, .unset, .unset] [.ref 0] [.inl (0, [.ref 1, .ref 2]), .inr (.long, ((List.replicate 60000 (0 : Int64)).map Value.long)), .inr (.int, ((List.replicate 60000 (0 : Int32)).map Value.int))] _ _ _
    refine W_run 26 1 (pc' := 48) (ls' := [.val (.long p), .second, .val (.int a), .val (.int b), .val (.int c), .val (.int e), .val (.long r1), .second, .val (.long r2), .second, .val (.long r3), .second, .val (.long q), .second, .val (.int 0), .val (.ref 0), .unset, .unset]) (st' := []) rfl ?_
    refine W_run 27 2 (pc' := 51) (ls' := [.val (.long p), .second, .val (.int a), .val (.int b), .val (.int c), .val (.int e), .val (.long r1), .second, .val (.long r2), .second, .val (.long r3), .second, .val (.long q), .second, .val (.int 0), .val (.ref 0), .val (.long 0), .second]) (st' := []) rfl ?_
    refine W_run 29 3 (pc' := 76) (ls' := [.val (.long p), .second, .val (.int a), .val (.int b), .val (.int c), .val (.int e), .val (.long r1), .second, .val (.long r2), .second, .val (.long r3), .second, .val (.long q), .second, .val (.int 0), .val (.ref 0), .val (.long 0), .second]) (st' := []) rfl ?_
    refine W_run 41 3 (pc' := 101) (ls' := [.val (.long p), .second, .val (.int a), .val (.int b), .val (.int c), .val (.int e), .val (.long r1), .second, .val (.long r2), .second, .val (.long r3), .second, .val (.long q), .second, .val (.int 0), .val (.ref 0), .val (.long 0), .second]) (st' := []) rfl ?_
    refine W_run 53 3 (pc' := 126) (ls' := [.val (.long p), .second, .val (.int a), .val (.int b), .val (.int c), .val (.int e), .val (.long r1), .second, .val (.long r2), .second, .val (.long r3), .second, .val (.long q), .second, .val (.int 0), .val (.ref 0), .val (.long 0), .second]) (st' := []) rfl ?_
    refine W_run 65 2 (pc' := 130) (ls' := [.val (.long p), .second, .val (.int a), .val (.int b), .val (.int c), .val (.int e), .val (.long r1), .second, .val (.long r2), .second, .val (.long r3), .second, .val (.long q), .second, .val (.int 0), .val (.ref 0), .val (.long 0), .second]) (st' := [.long q, .ref 0]) rfl ?_
    refine W_callV (jx := 67) [.long q] [] (own_m9 hw (List.replicate 60000 (0 : Int64)) (List.replicate 60000 (0 : Int32)) q v0.1 v0.2.1) rfl rfl rfl (hw _ (List.mem_of_getElem? (i := 39) rfl)) (hw _ (List.mem_of_getElem? (i := 40) rfl)) (hw _ (List.mem_of_getElem? (i := 42) rfl)) (hw _ (List.mem_of_getElem? (i := 41) rfl)) (hw _ (List.mem_of_getElem? (i := 10) rfl)) (hw _ (List.mem_of_getElem? (i := 43) rfl)) (by decide) own_pd9 rfl rfl rfl (by decide) rfl (by decide) (by decide) rfl ?_
    rintro _ _ ⟨rfl, rfl⟩
    show WP _ _ _ _ _ _ _ _ _ _ _ 133 [.val (.long p), .second, .val (.int a), .val (.int b), .val (.int c), .val (.int e), .val (.long r1), .second, .val (.long r2), .second, .val (.long r3), .second, .val (.long q), .second, .val (.int 0), .val (.ref 0), .val (.long 0), .second] [.long (own_cnt q (List.replicate 60000 (0 : Int64)) (List.replicate 60000 (0 : Int32)) 0)] [.inl (0, [.ref 1, .ref 2]), .inr (.long, ((List.replicate 60000 (0 : Int64)).map Value.long)), .inr (.int, ((List.replicate 60000 (0 : Int32)).map Value.int))] _ _ _
    refine W_run 68 2 (pc' := 136) (ls' := [.val (.long p), .second, .val (.int a), .val (.int b), .val (.int c), .val (.int e), .val (.long r1), .second, .val (.long r2), .second, .val (.long r3), .second, .val (.long q), .second, .val (.int 0), .val (.ref 0), .val (.long 0), .second]) (st' := [.int (XT.cmpL (own_cnt q (List.replicate 60000 (0 : Int64)) (List.replicate 60000 (0 : Int32)) 0) 0)]) rfl ?_
    refine W_lne (jx := 70) rfl (by decide) (pc' := 143) rfl (fun h136 => ?_) (fun h136 => ?_)
    · skip
      exact absurd t0 h136
    · skip
      refine W_run 71 2 (pc' := 144) (ls' := [.val (.long p), .second, .val (.int a), .val (.int b), .val (.int c), .val (.int e), .val (.long r1), .second, .val (.long r2), .second, .val (.long r3), .second, .val (.long q), .second, .val (.int 0), .val (.ref 0), .val (.long 0), .second]) (st' := [.int 1]) rfl ?_
      refine W_zreturn (jx := 74) rfl rfl rfl (by decide) (by decide) ?_
      exact rfl
  · clear h_k
    refine W_run 22 1 (pc' := 39) (ls' := [.val (.long p), .second, .val (.int a), .val (.int b), .val (.int c), .val (.int e), .val (.long r1), .second, .val (.long r2), .second, .val (.long r3), .second, .val (.long q), .second, .val (.int 1), .unset, .unset, .unset]) (st' := []) rfl ?_
    refine W_new (jx := 23) (ci := 0) (vs := [.null, .null]) rfl (own_lay_ok hw) (hw _ (List.mem_of_getElem? (i := 8) rfl)) (hw _ (List.mem_of_getElem? (i := 9) rfl)) (hw _ (List.mem_of_getElem? (i := 10) rfl)) rfl (by decide +kernel) rfl (by decide) (by decide) rfl (N0 := 0) (A1 := [.inl (0, [.null, .null])]) rfl rfl ?_
    refine W_run 24 1 (pc' := 43) (ls' := [.val (.long p), .second, .val (.int a), .val (.int b), .val (.int c), .val (.int e), .val (.long r1), .second, .val (.long r2), .second, .val (.long r3), .second, .val (.long q), .second, .val (.int 1), .unset, .unset, .unset]) (st' := [.ref 0, .ref 0]) rfl ?_
    refine W_callI (jx := 25) [] [.ref 0] (own_m3 hw) rfl rfl (hw _ (List.mem_of_getElem? (i := 11) rfl)) (hw _ (List.mem_of_getElem? (i := 12) rfl)) (hw _ (List.mem_of_getElem? (i := 10) rfl)) (hw _ (List.mem_of_getElem? (i := 13) rfl)) (by decide) own_pd3 rfl rfl rfl (by decide) rfl (by decide) (by decide) rfl ?_
    rintro _ _ ⟨rfl, rfl⟩
    show WP _ _ _ _ _ _ _ _ _ _ _ 46 [.val (.long p), .second, .val (.int a), .val (.int b), .val (.int c), .val (.int e), .val (.long r1), .second, .val (.long r2), .second, .val (.long r3), .second, .val (.long q), .second, .val (.int 1), .unset, .unset, .unset] [.ref 0] [.inl (0, [.ref 1, .ref 2]), .inr (.long, ((List.replicate 60000 (0 : Int64)).map Value.long)), .inr (.int, ((List.replicate 60000 (0 : Int32)).map Value.int))] _ _ _
    refine W_run 26 1 (pc' := 48) (ls' := [.val (.long p), .second, .val (.int a), .val (.int b), .val (.int c), .val (.int e), .val (.long r1), .second, .val (.long r2), .second, .val (.long r3), .second, .val (.long q), .second, .val (.int 1), .val (.ref 0), .unset, .unset]) (st' := []) rfl ?_
    refine W_run 27 2 (pc' := 51) (ls' := [.val (.long p), .second, .val (.int a), .val (.int b), .val (.int c), .val (.int e), .val (.long r1), .second, .val (.long r2), .second, .val (.long r3), .second, .val (.long q), .second, .val (.int 1), .val (.ref 0), .val (.long 0), .second]) (st' := []) rfl ?_
    refine W_run 29 3 (pc' := 57) (ls' := [.val (.long p), .second, .val (.int a), .val (.int b), .val (.int c), .val (.int e), .val (.long r1), .second, .val (.long r2), .second, .val (.long r3), .second, .val (.long q), .second, .val (.int 1), .val (.ref 0), .val (.long 0), .second]) (st' := []) rfl ?_
    refine W_run 32 2 (pc' := 61) (ls' := [.val (.long p), .second, .val (.int a), .val (.int b), .val (.int c), .val (.int e), .val (.long r1), .second, .val (.long r2), .second, .val (.long r3), .second, .val (.long q), .second, .val (.int 1), .val (.ref 0), .val (.long 0), .second]) (st' := [.long r1, .ref 0]) rfl ?_
    refine W_callV (jx := 34) [.long r1] [] (own_m5 hw (List.replicate 60000 (0 : Int64)) (List.replicate 60000 (0 : Int32)) r1 v0.1 v0.2.1) rfl rfl rfl (hw _ (List.mem_of_getElem? (i := 24) rfl)) (hw _ (List.mem_of_getElem? (i := 25) rfl)) (hw _ (List.mem_of_getElem? (i := 27) rfl)) (hw _ (List.mem_of_getElem? (i := 26) rfl)) (hw _ (List.mem_of_getElem? (i := 10) rfl)) (hw _ (List.mem_of_getElem? (i := 28) rfl)) (by decide) own_pd5 rfl rfl rfl (by decide) rfl (by decide) (by decide) rfl ?_
    rintro _ _ ⟨rfl, rfl⟩
    show WP _ _ _ _ _ _ _ _ _ _ _ 64 [.val (.long p), .second, .val (.int a), .val (.int b), .val (.int c), .val (.int e), .val (.long r1), .second, .val (.long r2), .second, .val (.long r3), .second, .val (.long q), .second, .val (.int 1), .val (.ref 0), .val (.long 0), .second] [] [.inl (0, [.ref 1, .ref 2]), .inr (.long, ((own_rec r1 ((List.replicate 60000 (0 : Int64)), (List.replicate 60000 (0 : Int32)))).1.map Value.long)), .inr (.int, ((own_rec r1 ((List.replicate 60000 (0 : Int64)), (List.replicate 60000 (0 : Int32)))).2.map Value.int))] _ _ _
    refine W_run 35 3 (pc' := 70) (ls' := [.val (.long p), .second, .val (.int a), .val (.int b), .val (.int c), .val (.int e), .val (.long r1), .second, .val (.long r2), .second, .val (.long r3), .second, .val (.long q), .second, .val (.int 1), .val (.ref 0), .val (.long 0), .second]) (st' := [.long q, .long r1, .long 0]) rfl ?_
    refine W_callS (jx := 38) [.long r1, .long q] [.long 0] (own_m8 hw r1 q) rfl (hw _ (List.mem_of_getElem? (i := 35) rfl)) (hw _ (List.mem_of_getElem? (i := 36) rfl)) (hw _ (List.mem_of_getElem? (i := 2) rfl)) (hw _ (List.mem_of_getElem? (i := 37) rfl)) (by decide) own_pd8 rfl rfl rfl (by decide) rfl (by decide) (by decide) rfl ?_
    rintro _ _ ⟨rfl, rfl⟩
    show WP _ _ _ _ _ _ _ _ _ _ _ 73 [.val (.long p), .second, .val (.int a), .val (.int b), .val (.int c), .val (.int e), .val (.long r1), .second, .val (.long r2), .second, .val (.long r3), .second, .val (.long q), .second, .val (.int 1), .val (.ref 0), .val (.long 0), .second] [.long (own_in q r1), .long 0] [.inl (0, [.ref 1, .ref 2]), .inr (.long, ((own_rec r1 ((List.replicate 60000 (0 : Int64)), (List.replicate 60000 (0 : Int32)))).1.map Value.long)), .inr (.int, ((own_rec r1 ((List.replicate 60000 (0 : Int64)), (List.replicate 60000 (0 : Int32)))).2.map Value.int))] _ _ _
    refine W_run 39 2 (pc' := 76) (ls' := [.val (.long p), .second, .val (.int a), .val (.int b), .val (.int c), .val (.int e), .val (.long r1), .second, .val (.long r2), .second, .val (.long r3), .second, .val (.long q), .second, .val (.int 1), .val (.ref 0), .val (.long (0 + (own_in q r1))), .second]) (st' := []) rfl ?_
    refine W_run 41 3 (pc' := 101) (ls' := [.val (.long p), .second, .val (.int a), .val (.int b), .val (.int c), .val (.int e), .val (.long r1), .second, .val (.long r2), .second, .val (.long r3), .second, .val (.long q), .second, .val (.int 1), .val (.ref 0), .val (.long (0 + (own_in q r1))), .second]) (st' := []) rfl ?_
    refine W_run 53 3 (pc' := 126) (ls' := [.val (.long p), .second, .val (.int a), .val (.int b), .val (.int c), .val (.int e), .val (.long r1), .second, .val (.long r2), .second, .val (.long r3), .second, .val (.long q), .second, .val (.int 1), .val (.ref 0), .val (.long (0 + (own_in q r1))), .second]) (st' := []) rfl ?_
    refine W_run 65 2 (pc' := 130) (ls' := [.val (.long p), .second, .val (.int a), .val (.int b), .val (.int c), .val (.int e), .val (.long r1), .second, .val (.long r2), .second, .val (.long r3), .second, .val (.long q), .second, .val (.int 1), .val (.ref 0), .val (.long (0 + (own_in q r1))), .second]) (st' := [.long q, .ref 0]) rfl ?_
    refine W_callV (jx := 67) [.long q] [] (own_m9 hw (own_rec r1 ((List.replicate 60000 (0 : Int64)), (List.replicate 60000 (0 : Int32)))).1 (own_rec r1 ((List.replicate 60000 (0 : Int64)), (List.replicate 60000 (0 : Int32)))).2 q v1.1 v1.2.1) rfl rfl rfl (hw _ (List.mem_of_getElem? (i := 39) rfl)) (hw _ (List.mem_of_getElem? (i := 40) rfl)) (hw _ (List.mem_of_getElem? (i := 42) rfl)) (hw _ (List.mem_of_getElem? (i := 41) rfl)) (hw _ (List.mem_of_getElem? (i := 10) rfl)) (hw _ (List.mem_of_getElem? (i := 43) rfl)) (by decide) own_pd9 rfl rfl rfl (by decide) rfl (by decide) (by decide) rfl ?_
    rintro _ _ ⟨rfl, rfl⟩
    show WP _ _ _ _ _ _ _ _ _ _ _ 133 [.val (.long p), .second, .val (.int a), .val (.int b), .val (.int c), .val (.int e), .val (.long r1), .second, .val (.long r2), .second, .val (.long r3), .second, .val (.long q), .second, .val (.int 1), .val (.ref 0), .val (.long (0 + (own_in q r1))), .second] [.long (own_cnt q (own_rec r1 ((List.replicate 60000 (0 : Int64)), (List.replicate 60000 (0 : Int32)))).1 (own_rec r1 ((List.replicate 60000 (0 : Int64)), (List.replicate 60000 (0 : Int32)))).2 0)] [.inl (0, [.ref 1, .ref 2]), .inr (.long, ((own_rec r1 ((List.replicate 60000 (0 : Int64)), (List.replicate 60000 (0 : Int32)))).1.map Value.long)), .inr (.int, ((own_rec r1 ((List.replicate 60000 (0 : Int64)), (List.replicate 60000 (0 : Int32)))).2.map Value.int))] _ _ _
    refine W_run 68 2 (pc' := 136) (ls' := [.val (.long p), .second, .val (.int a), .val (.int b), .val (.int c), .val (.int e), .val (.long r1), .second, .val (.long r2), .second, .val (.long r3), .second, .val (.long q), .second, .val (.int 1), .val (.ref 0), .val (.long (0 + (own_in q r1))), .second]) (st' := [.int (XT.cmpL (own_cnt q (own_rec r1 ((List.replicate 60000 (0 : Int64)), (List.replicate 60000 (0 : Int32)))).1 (own_rec r1 ((List.replicate 60000 (0 : Int64)), (List.replicate 60000 (0 : Int32)))).2 0) (0 + (own_in q r1)))]) rfl ?_
    refine W_lne (jx := 70) rfl (by decide) (pc' := 143) rfl (fun h136 => ?_) (fun h136 => ?_)
    · skip
      exact absurd t1 h136
    · skip
      refine W_run 71 2 (pc' := 144) (ls' := [.val (.long p), .second, .val (.int a), .val (.int b), .val (.int c), .val (.int e), .val (.long r1), .second, .val (.long r2), .second, .val (.long r3), .second, .val (.long q), .second, .val (.int 1), .val (.ref 0), .val (.long (0 + (own_in q r1))), .second]) (st' := [.int 1]) rfl ?_
      refine W_zreturn (jx := 74) rfl rfl rfl (by decide) (by decide) ?_
      exact rfl
  · clear h_k
    refine W_run 22 1 (pc' := 39) (ls' := [.val (.long p), .second, .val (.int a), .val (.int b), .val (.int c), .val (.int e), .val (.long r1), .second, .val (.long r2), .second, .val (.long r3), .second, .val (.long q), .second, .val (.int 2), .unset, .unset, .unset]) (st' := []) rfl ?_
    refine W_new (jx := 23) (ci := 0) (vs := [.null, .null]) rfl (own_lay_ok hw) (hw _ (List.mem_of_getElem? (i := 8) rfl)) (hw _ (List.mem_of_getElem? (i := 9) rfl)) (hw _ (List.mem_of_getElem? (i := 10) rfl)) rfl (by decide +kernel) rfl (by decide) (by decide) rfl (N0 := 0) (A1 := [.inl (0, [.null, .null])]) rfl rfl ?_
    refine W_run 24 1 (pc' := 43) (ls' := [.val (.long p), .second, .val (.int a), .val (.int b), .val (.int c), .val (.int e), .val (.long r1), .second, .val (.long r2), .second, .val (.long r3), .second, .val (.long q), .second, .val (.int 2), .unset, .unset, .unset]) (st' := [.ref 0, .ref 0]) rfl ?_
    refine W_callI (jx := 25) [] [.ref 0] (own_m3 hw) rfl rfl (hw _ (List.mem_of_getElem? (i := 11) rfl)) (hw _ (List.mem_of_getElem? (i := 12) rfl)) (hw _ (List.mem_of_getElem? (i := 10) rfl)) (hw _ (List.mem_of_getElem? (i := 13) rfl)) (by decide) own_pd3 rfl rfl rfl (by decide) rfl (by decide) (by decide) rfl ?_
    rintro _ _ ⟨rfl, rfl⟩
    show WP _ _ _ _ _ _ _ _ _ _ _ 46 [.val (.long p), .second, .val (.int a), .val (.int b), .val (.int c), .val (.int e), .val (.long r1), .second, .val (.long r2), .second, .val (.long r3), .second, .val (.long q), .second, .val (.int 2), .unset, .unset, .unset] [.ref 0] [.inl (0, [.ref 1, .ref 2]), .inr (.long, ((List.replicate 60000 (0 : Int64)).map Value.long)), .inr (.int, ((List.replicate 60000 (0 : Int32)).map Value.int))] _ _ _
    refine W_run 26 1 (pc' := 48) (ls' := [.val (.long p), .second, .val (.int a), .val (.int b), .val (.int c), .val (.int e), .val (.long r1), .second, .val (.long r2), .second, .val (.long r3), .second, .val (.long q), .second, .val (.int 2), .val (.ref 0), .unset, .unset]) (st' := []) rfl ?_
    refine W_run 27 2 (pc' := 51) (ls' := [.val (.long p), .second, .val (.int a), .val (.int b), .val (.int c), .val (.int e), .val (.long r1), .second, .val (.long r2), .second, .val (.long r3), .second, .val (.long q), .second, .val (.int 2), .val (.ref 0), .val (.long 0), .second]) (st' := []) rfl ?_
    refine W_run 29 3 (pc' := 57) (ls' := [.val (.long p), .second, .val (.int a), .val (.int b), .val (.int c), .val (.int e), .val (.long r1), .second, .val (.long r2), .second, .val (.long r3), .second, .val (.long q), .second, .val (.int 2), .val (.ref 0), .val (.long 0), .second]) (st' := []) rfl ?_
    refine W_run 32 2 (pc' := 61) (ls' := [.val (.long p), .second, .val (.int a), .val (.int b), .val (.int c), .val (.int e), .val (.long r1), .second, .val (.long r2), .second, .val (.long r3), .second, .val (.long q), .second, .val (.int 2), .val (.ref 0), .val (.long 0), .second]) (st' := [.long r1, .ref 0]) rfl ?_
    refine W_callV (jx := 34) [.long r1] [] (own_m5 hw (List.replicate 60000 (0 : Int64)) (List.replicate 60000 (0 : Int32)) r1 v0.1 v0.2.1) rfl rfl rfl (hw _ (List.mem_of_getElem? (i := 24) rfl)) (hw _ (List.mem_of_getElem? (i := 25) rfl)) (hw _ (List.mem_of_getElem? (i := 27) rfl)) (hw _ (List.mem_of_getElem? (i := 26) rfl)) (hw _ (List.mem_of_getElem? (i := 10) rfl)) (hw _ (List.mem_of_getElem? (i := 28) rfl)) (by decide) own_pd5 rfl rfl rfl (by decide) rfl (by decide) (by decide) rfl ?_
    rintro _ _ ⟨rfl, rfl⟩
    show WP _ _ _ _ _ _ _ _ _ _ _ 64 [.val (.long p), .second, .val (.int a), .val (.int b), .val (.int c), .val (.int e), .val (.long r1), .second, .val (.long r2), .second, .val (.long r3), .second, .val (.long q), .second, .val (.int 2), .val (.ref 0), .val (.long 0), .second] [] [.inl (0, [.ref 1, .ref 2]), .inr (.long, ((own_rec r1 ((List.replicate 60000 (0 : Int64)), (List.replicate 60000 (0 : Int32)))).1.map Value.long)), .inr (.int, ((own_rec r1 ((List.replicate 60000 (0 : Int64)), (List.replicate 60000 (0 : Int32)))).2.map Value.int))] _ _ _
    refine W_run 35 3 (pc' := 70) (ls' := [.val (.long p), .second, .val (.int a), .val (.int b), .val (.int c), .val (.int e), .val (.long r1), .second, .val (.long r2), .second, .val (.long r3), .second, .val (.long q), .second, .val (.int 2), .val (.ref 0), .val (.long 0), .second]) (st' := [.long q, .long r1, .long 0]) rfl ?_
    refine W_callS (jx := 38) [.long r1, .long q] [.long 0] (own_m8 hw r1 q) rfl (hw _ (List.mem_of_getElem? (i := 35) rfl)) (hw _ (List.mem_of_getElem? (i := 36) rfl)) (hw _ (List.mem_of_getElem? (i := 2) rfl)) (hw _ (List.mem_of_getElem? (i := 37) rfl)) (by decide) own_pd8 rfl rfl rfl (by decide) rfl (by decide) (by decide) rfl ?_
    rintro _ _ ⟨rfl, rfl⟩
    show WP _ _ _ _ _ _ _ _ _ _ _ 73 [.val (.long p), .second, .val (.int a), .val (.int b), .val (.int c), .val (.int e), .val (.long r1), .second, .val (.long r2), .second, .val (.long r3), .second, .val (.long q), .second, .val (.int 2), .val (.ref 0), .val (.long 0), .second] [.long (own_in q r1), .long 0] [.inl (0, [.ref 1, .ref 2]), .inr (.long, ((own_rec r1 ((List.replicate 60000 (0 : Int64)), (List.replicate 60000 (0 : Int32)))).1.map Value.long)), .inr (.int, ((own_rec r1 ((List.replicate 60000 (0 : Int64)), (List.replicate 60000 (0 : Int32)))).2.map Value.int))] _ _ _
    refine W_run 39 2 (pc' := 76) (ls' := [.val (.long p), .second, .val (.int a), .val (.int b), .val (.int c), .val (.int e), .val (.long r1), .second, .val (.long r2), .second, .val (.long r3), .second, .val (.long q), .second, .val (.int 2), .val (.ref 0), .val (.long (0 + (own_in q r1))), .second]) (st' := []) rfl ?_
    refine W_run 41 3 (pc' := 82) (ls' := [.val (.long p), .second, .val (.int a), .val (.int b), .val (.int c), .val (.int e), .val (.long r1), .second, .val (.long r2), .second, .val (.long r3), .second, .val (.long q), .second, .val (.int 2), .val (.ref 0), .val (.long (0 + (own_in q r1))), .second]) (st' := []) rfl ?_
    refine W_run 44 2 (pc' := 86) (ls' := [.val (.long p), .second, .val (.int a), .val (.int b), .val (.int c), .val (.int e), .val (.long r1), .second, .val (.long r2), .second, .val (.long r3), .second, .val (.long q), .second, .val (.int 2), .val (.ref 0), .val (.long (0 + (own_in q r1))), .second]) (st' := [.long r2, .ref 0]) rfl ?_
    refine W_callV (jx := 46) [.long r2] [] (own_m5 hw (own_rec r1 ((List.replicate 60000 (0 : Int64)), (List.replicate 60000 (0 : Int32)))).1 (own_rec r1 ((List.replicate 60000 (0 : Int64)), (List.replicate 60000 (0 : Int32)))).2 r2 v1.1 v1.2.1) rfl rfl rfl (hw _ (List.mem_of_getElem? (i := 24) rfl)) (hw _ (List.mem_of_getElem? (i := 25) rfl)) (hw _ (List.mem_of_getElem? (i := 27) rfl)) (hw _ (List.mem_of_getElem? (i := 26) rfl)) (hw _ (List.mem_of_getElem? (i := 10) rfl)) (hw _ (List.mem_of_getElem? (i := 28) rfl)) (by decide) own_pd5 rfl rfl rfl (by decide) rfl (by decide) (by decide) rfl ?_
    rintro _ _ ⟨rfl, rfl⟩
    show WP _ _ _ _ _ _ _ _ _ _ _ 89 [.val (.long p), .second, .val (.int a), .val (.int b), .val (.int c), .val (.int e), .val (.long r1), .second, .val (.long r2), .second, .val (.long r3), .second, .val (.long q), .second, .val (.int 2), .val (.ref 0), .val (.long (0 + (own_in q r1))), .second] [] [.inl (0, [.ref 1, .ref 2]), .inr (.long, ((own_rec r2 (own_rec r1 ((List.replicate 60000 (0 : Int64)), (List.replicate 60000 (0 : Int32))))).1.map Value.long)), .inr (.int, ((own_rec r2 (own_rec r1 ((List.replicate 60000 (0 : Int64)), (List.replicate 60000 (0 : Int32))))).2.map Value.int))] _ _ _
    refine W_run 47 3 (pc' := 95) (ls' := [.val (.long p), .second, .val (.int a), .val (.int b), .val (.int c), .val (.int e), .val (.long r1), .second, .val (.long r2), .second, .val (.long r3), .second, .val (.long q), .second, .val (.int 2), .val (.ref 0), .val (.long (0 + (own_in q r1))), .second]) (st' := [.long q, .long r2, .long (0 + (own_in q r1))]) rfl ?_
    refine W_callS (jx := 50) [.long r2, .long q] [.long (0 + (own_in q r1))] (own_m8 hw r2 q) rfl (hw _ (List.mem_of_getElem? (i := 35) rfl)) (hw _ (List.mem_of_getElem? (i := 36) rfl)) (hw _ (List.mem_of_getElem? (i := 2) rfl)) (hw _ (List.mem_of_getElem? (i := 37) rfl)) (by decide) own_pd8 rfl rfl rfl (by decide) rfl (by decide) (by decide) rfl ?_
    rintro _ _ ⟨rfl, rfl⟩
    show WP _ _ _ _ _ _ _ _ _ _ _ 98 [.val (.long p), .second, .val (.int a), .val (.int b), .val (.int c), .val (.int e), .val (.long r1), .second, .val (.long r2), .second, .val (.long r3), .second, .val (.long q), .second, .val (.int 2), .val (.ref 0), .val (.long (0 + (own_in q r1))), .second] [.long (own_in q r2), .long (0 + (own_in q r1))] [.inl (0, [.ref 1, .ref 2]), .inr (.long, ((own_rec r2 (own_rec r1 ((List.replicate 60000 (0 : Int64)), (List.replicate 60000 (0 : Int32))))).1.map Value.long)), .inr (.int, ((own_rec r2 (own_rec r1 ((List.replicate 60000 (0 : Int64)), (List.replicate 60000 (0 : Int32))))).2.map Value.int))] _ _ _
    refine W_run 51 2 (pc' := 101) (ls' := [.val (.long p), .second, .val (.int a), .val (.int b), .val (.int c), .val (.int e), .val (.long r1), .second, .val (.long r2), .second, .val (.long r3), .second, .val (.long q), .second, .val (.int 2), .val (.ref 0), .val (.long ((0 + (own_in q r1)) + (own_in q r2))), .second]) (st' := []) rfl ?_
    refine W_run 53 3 (pc' := 126) (ls' := [.val (.long p), .second, .val (.int a), .val (.int b), .val (.int c), .val (.int e), .val (.long r1), .second, .val (.long r2), .second, .val (.long r3), .second, .val (.long q), .second, .val (.int 2), .val (.ref 0), .val (.long ((0 + (own_in q r1)) + (own_in q r2))), .second]) (st' := []) rfl ?_
    refine W_run 65 2 (pc' := 130) (ls' := [.val (.long p), .second, .val (.int a), .val (.int b), .val (.int c), .val (.int e), .val (.long r1), .second, .val (.long r2), .second, .val (.long r3), .second, .val (.long q), .second, .val (.int 2), .val (.ref 0), .val (.long ((0 + (own_in q r1)) + (own_in q r2))), .second]) (st' := [.long q, .ref 0]) rfl ?_
    refine W_callV (jx := 67) [.long q] [] (own_m9 hw (own_rec r2 (own_rec r1 ((List.replicate 60000 (0 : Int64)), (List.replicate 60000 (0 : Int32))))).1 (own_rec r2 (own_rec r1 ((List.replicate 60000 (0 : Int64)), (List.replicate 60000 (0 : Int32))))).2 q v2.1 v2.2.1) rfl rfl rfl (hw _ (List.mem_of_getElem? (i := 39) rfl)) (hw _ (List.mem_of_getElem? (i := 40) rfl)) (hw _ (List.mem_of_getElem? (i := 42) rfl)) (hw _ (List.mem_of_getElem? (i := 41) rfl)) (hw _ (List.mem_of_getElem? (i := 10) rfl)) (hw _ (List.mem_of_getElem? (i := 43) rfl)) (by decide) own_pd9 rfl rfl rfl (by decide) rfl (by decide) (by decide) rfl ?_
    rintro _ _ ⟨rfl, rfl⟩
    show WP _ _ _ _ _ _ _ _ _ _ _ 133 [.val (.long p), .second, .val (.int a), .val (.int b), .val (.int c), .val (.int e), .val (.long r1), .second, .val (.long r2), .second, .val (.long r3), .second, .val (.long q), .second, .val (.int 2), .val (.ref 0), .val (.long ((0 + (own_in q r1)) + (own_in q r2))), .second] [.long (own_cnt q (own_rec r2 (own_rec r1 ((List.replicate 60000 (0 : Int64)), (List.replicate 60000 (0 : Int32))))).1 (own_rec r2 (own_rec r1 ((List.replicate 60000 (0 : Int64)), (List.replicate 60000 (0 : Int32))))).2 0)] [.inl (0, [.ref 1, .ref 2]), .inr (.long, ((own_rec r2 (own_rec r1 ((List.replicate 60000 (0 : Int64)), (List.replicate 60000 (0 : Int32))))).1.map Value.long)), .inr (.int, ((own_rec r2 (own_rec r1 ((List.replicate 60000 (0 : Int64)), (List.replicate 60000 (0 : Int32))))).2.map Value.int))] _ _ _
    refine W_run 68 2 (pc' := 136) (ls' := [.val (.long p), .second, .val (.int a), .val (.int b), .val (.int c), .val (.int e), .val (.long r1), .second, .val (.long r2), .second, .val (.long r3), .second, .val (.long q), .second, .val (.int 2), .val (.ref 0), .val (.long ((0 + (own_in q r1)) + (own_in q r2))), .second]) (st' := [.int (XT.cmpL (own_cnt q (own_rec r2 (own_rec r1 ((List.replicate 60000 (0 : Int64)), (List.replicate 60000 (0 : Int32))))).1 (own_rec r2 (own_rec r1 ((List.replicate 60000 (0 : Int64)), (List.replicate 60000 (0 : Int32))))).2 0) ((0 + (own_in q r1)) + (own_in q r2)))]) rfl ?_
    refine W_lne (jx := 70) rfl (by decide) (pc' := 143) rfl (fun h136 => ?_) (fun h136 => ?_)
    · skip
      exact absurd t2 h136
    · skip
      refine W_run 71 2 (pc' := 144) (ls' := [.val (.long p), .second, .val (.int a), .val (.int b), .val (.int c), .val (.int e), .val (.long r1), .second, .val (.long r2), .second, .val (.long r3), .second, .val (.long q), .second, .val (.int 2), .val (.ref 0), .val (.long ((0 + (own_in q r1)) + (own_in q r2))), .second]) (st' := [.int 1]) rfl ?_
      refine W_zreturn (jx := 74) rfl rfl rfl (by decide) (by decide) ?_
      exact rfl
  · clear h_k
    refine W_run 22 1 (pc' := 39) (ls' := [.val (.long p), .second, .val (.int a), .val (.int b), .val (.int c), .val (.int e), .val (.long r1), .second, .val (.long r2), .second, .val (.long r3), .second, .val (.long q), .second, .val (.int 3), .unset, .unset, .unset]) (st' := []) rfl ?_
    refine W_new (jx := 23) (ci := 0) (vs := [.null, .null]) rfl (own_lay_ok hw) (hw _ (List.mem_of_getElem? (i := 8) rfl)) (hw _ (List.mem_of_getElem? (i := 9) rfl)) (hw _ (List.mem_of_getElem? (i := 10) rfl)) rfl (by decide +kernel) rfl (by decide) (by decide) rfl (N0 := 0) (A1 := [.inl (0, [.null, .null])]) rfl rfl ?_
    refine W_run 24 1 (pc' := 43) (ls' := [.val (.long p), .second, .val (.int a), .val (.int b), .val (.int c), .val (.int e), .val (.long r1), .second, .val (.long r2), .second, .val (.long r3), .second, .val (.long q), .second, .val (.int 3), .unset, .unset, .unset]) (st' := [.ref 0, .ref 0]) rfl ?_
    refine W_callI (jx := 25) [] [.ref 0] (own_m3 hw) rfl rfl (hw _ (List.mem_of_getElem? (i := 11) rfl)) (hw _ (List.mem_of_getElem? (i := 12) rfl)) (hw _ (List.mem_of_getElem? (i := 10) rfl)) (hw _ (List.mem_of_getElem? (i := 13) rfl)) (by decide) own_pd3 rfl rfl rfl (by decide) rfl (by decide) (by decide) rfl ?_
    rintro _ _ ⟨rfl, rfl⟩
    show WP _ _ _ _ _ _ _ _ _ _ _ 46 [.val (.long p), .second, .val (.int a), .val (.int b), .val (.int c), .val (.int e), .val (.long r1), .second, .val (.long r2), .second, .val (.long r3), .second, .val (.long q), .second, .val (.int 3), .unset, .unset, .unset] [.ref 0] [.inl (0, [.ref 1, .ref 2]), .inr (.long, ((List.replicate 60000 (0 : Int64)).map Value.long)), .inr (.int, ((List.replicate 60000 (0 : Int32)).map Value.int))] _ _ _
    refine W_run 26 1 (pc' := 48) (ls' := [.val (.long p), .second, .val (.int a), .val (.int b), .val (.int c), .val (.int e), .val (.long r1), .second, .val (.long r2), .second, .val (.long r3), .second, .val (.long q), .second, .val (.int 3), .val (.ref 0), .unset, .unset]) (st' := []) rfl ?_
    refine W_run 27 2 (pc' := 51) (ls' := [.val (.long p), .second, .val (.int a), .val (.int b), .val (.int c), .val (.int e), .val (.long r1), .second, .val (.long r2), .second, .val (.long r3), .second, .val (.long q), .second, .val (.int 3), .val (.ref 0), .val (.long 0), .second]) (st' := []) rfl ?_
    refine W_run 29 3 (pc' := 57) (ls' := [.val (.long p), .second, .val (.int a), .val (.int b), .val (.int c), .val (.int e), .val (.long r1), .second, .val (.long r2), .second, .val (.long r3), .second, .val (.long q), .second, .val (.int 3), .val (.ref 0), .val (.long 0), .second]) (st' := []) rfl ?_
    refine W_run 32 2 (pc' := 61) (ls' := [.val (.long p), .second, .val (.int a), .val (.int b), .val (.int c), .val (.int e), .val (.long r1), .second, .val (.long r2), .second, .val (.long r3), .second, .val (.long q), .second, .val (.int 3), .val (.ref 0), .val (.long 0), .second]) (st' := [.long r1, .ref 0]) rfl ?_
    refine W_callV (jx := 34) [.long r1] [] (own_m5 hw (List.replicate 60000 (0 : Int64)) (List.replicate 60000 (0 : Int32)) r1 v0.1 v0.2.1) rfl rfl rfl (hw _ (List.mem_of_getElem? (i := 24) rfl)) (hw _ (List.mem_of_getElem? (i := 25) rfl)) (hw _ (List.mem_of_getElem? (i := 27) rfl)) (hw _ (List.mem_of_getElem? (i := 26) rfl)) (hw _ (List.mem_of_getElem? (i := 10) rfl)) (hw _ (List.mem_of_getElem? (i := 28) rfl)) (by decide) own_pd5 rfl rfl rfl (by decide) rfl (by decide) (by decide) rfl ?_
    rintro _ _ ⟨rfl, rfl⟩
    show WP _ _ _ _ _ _ _ _ _ _ _ 64 [.val (.long p), .second, .val (.int a), .val (.int b), .val (.int c), .val (.int e), .val (.long r1), .second, .val (.long r2), .second, .val (.long r3), .second, .val (.long q), .second, .val (.int 3), .val (.ref 0), .val (.long 0), .second] [] [.inl (0, [.ref 1, .ref 2]), .inr (.long, ((own_rec r1 ((List.replicate 60000 (0 : Int64)), (List.replicate 60000 (0 : Int32)))).1.map Value.long)), .inr (.int, ((own_rec r1 ((List.replicate 60000 (0 : Int64)), (List.replicate 60000 (0 : Int32)))).2.map Value.int))] _ _ _
    refine W_run 35 3 (pc' := 70) (ls' := [.val (.long p), .second, .val (.int a), .val (.int b), .val (.int c), .val (.int e), .val (.long r1), .second, .val (.long r2), .second, .val (.long r3), .second, .val (.long q), .second, .val (.int 3), .val (.ref 0), .val (.long 0), .second]) (st' := [.long q, .long r1, .long 0]) rfl ?_
    refine W_callS (jx := 38) [.long r1, .long q] [.long 0] (own_m8 hw r1 q) rfl (hw _ (List.mem_of_getElem? (i := 35) rfl)) (hw _ (List.mem_of_getElem? (i := 36) rfl)) (hw _ (List.mem_of_getElem? (i := 2) rfl)) (hw _ (List.mem_of_getElem? (i := 37) rfl)) (by decide) own_pd8 rfl rfl rfl (by decide) rfl (by decide) (by decide) rfl ?_
    rintro _ _ ⟨rfl, rfl⟩
    show WP _ _ _ _ _ _ _ _ _ _ _ 73 [.val (.long p), .second, .val (.int a), .val (.int b), .val (.int c), .val (.int e), .val (.long r1), .second, .val (.long r2), .second, .val (.long r3), .second, .val (.long q), .second, .val (.int 3), .val (.ref 0), .val (.long 0), .second] [.long (own_in q r1), .long 0] [.inl (0, [.ref 1, .ref 2]), .inr (.long, ((own_rec r1 ((List.replicate 60000 (0 : Int64)), (List.replicate 60000 (0 : Int32)))).1.map Value.long)), .inr (.int, ((own_rec r1 ((List.replicate 60000 (0 : Int64)), (List.replicate 60000 (0 : Int32)))).2.map Value.int))] _ _ _
    refine W_run 39 2 (pc' := 76) (ls' := [.val (.long p), .second, .val (.int a), .val (.int b), .val (.int c), .val (.int e), .val (.long r1), .second, .val (.long r2), .second, .val (.long r3), .second, .val (.long q), .second, .val (.int 3), .val (.ref 0), .val (.long (0 + (own_in q r1))), .second]) (st' := []) rfl ?_
    refine W_run 41 3 (pc' := 82) (ls' := [.val (.long p), .second, .val (.int a), .val (.int b), .val (.int c), .val (.int e), .val (.long r1), .second, .val (.long r2), .second, .val (.long r3), .second, .val (.long q), .second, .val (.int 3), .val (.ref 0), .val (.long (0 + (own_in q r1))), .second]) (st' := []) rfl ?_
    refine W_run 44 2 (pc' := 86) (ls' := [.val (.long p), .second, .val (.int a), .val (.int b), .val (.int c), .val (.int e), .val (.long r1), .second, .val (.long r2), .second, .val (.long r3), .second, .val (.long q), .second, .val (.int 3), .val (.ref 0), .val (.long (0 + (own_in q r1))), .second]) (st' := [.long r2, .ref 0]) rfl ?_
    refine W_callV (jx := 46) [.long r2] [] (own_m5 hw (own_rec r1 ((List.replicate 60000 (0 : Int64)), (List.replicate 60000 (0 : Int32)))).1 (own_rec r1 ((List.replicate 60000 (0 : Int64)), (List.replicate 60000 (0 : Int32)))).2 r2 v1.1 v1.2.1) rfl rfl rfl (hw _ (List.mem_of_getElem? (i := 24) rfl)) (hw _ (List.mem_of_getElem? (i := 25) rfl)) (hw _ (List.mem_of_getElem? (i := 27) rfl)) (hw _ (List.mem_of_getElem? (i := 26) rfl)) (hw _ (List.mem_of_getElem? (i := 10) rfl)) (hw _ (List.mem_of_getElem? (i := 28) rfl)) (by decide) own_pd5 rfl rfl rfl (by decide) rfl (by decide) (by decide) rfl ?_
    rintro _ _ ⟨rfl, rfl⟩
    show WP _ _ _ _ _ _ _ _ _ _ _ 89 [.val (.long p), .second, .val (.int a), .val (.int b), .val (.int c), .val (.int e), .val (.long r1), .second, .val (.long r2), .second, .val (.long r3), .second, .val (.long q), .second, .val (.int 3), .val (.ref 0), .val (.long (0 + (own_in q r1))), .second] [] [.inl (0, [.ref 1, .ref 2]), .inr (.long, ((own_rec r2 (own_rec r1 ((List.replicate 60000 (0 : Int64)), (List.replicate 60000 (0 : Int32))))).1.map Value.long)), .inr (.int, ((own_rec r2 (own_rec r1 ((List.replicate 60000 (0 : Int64)), (List.replicate 60000 (0 : Int32))))).2.map Value.int))] _ _ _
    refine W_run 47 3 (pc' := 95) (ls' := [.val (.long p), .second, .val (.int a), .val (.int b), .val (.int c), .val (.int e), .val (.long r1), .second, .val (.long r2), .second, .val (.long r3), .second, .val (.long q), .second, .val (.int 3), .val (.ref 0), .val (.long (0 + (own_in q r1))), .second]) (st' := [.long q, .long r2, .long (0 + (own_in q r1))]) rfl ?_
    refine W_callS (jx := 50) [.long r2, .long q] [.long (0 + (own_in q r1))] (own_m8 hw r2 q) rfl (hw _ (List.mem_of_getElem? (i := 35) rfl)) (hw _ (List.mem_of_getElem? (i := 36) rfl)) (hw _ (List.mem_of_getElem? (i := 2) rfl)) (hw _ (List.mem_of_getElem? (i := 37) rfl)) (by decide) own_pd8 rfl rfl rfl (by decide) rfl (by decide) (by decide) rfl ?_
    rintro _ _ ⟨rfl, rfl⟩
    show WP _ _ _ _ _ _ _ _ _ _ _ 98 [.val (.long p), .second, .val (.int a), .val (.int b), .val (.int c), .val (.int e), .val (.long r1), .second, .val (.long r2), .second, .val (.long r3), .second, .val (.long q), .second, .val (.int 3), .val (.ref 0), .val (.long (0 + (own_in q r1))), .second] [.long (own_in q r2), .long (0 + (own_in q r1))] [.inl (0, [.ref 1, .ref 2]), .inr (.long, ((own_rec r2 (own_rec r1 ((List.replicate 60000 (0 : Int64)), (List.replicate 60000 (0 : Int32))))).1.map Value.long)), .inr (.int, ((own_rec r2 (own_rec r1 ((List.replicate 60000 (0 : Int64)), (List.replicate 60000 (0 : Int32))))).2.map Value.int))] _ _ _
    refine W_run 51 2 (pc' := 101) (ls' := [.val (.long p), .second, .val (.int a), .val (.int b), .val (.int c), .val (.int e), .val (.long r1), .second, .val (.long r2), .second, .val (.long r3), .second, .val (.long q), .second, .val (.int 3), .val (.ref 0), .val (.long ((0 + (own_in q r1)) + (own_in q r2))), .second]) (st' := []) rfl ?_
    refine W_run 53 3 (pc' := 107) (ls' := [.val (.long p), .second, .val (.int a), .val (.int b), .val (.int c), .val (.int e), .val (.long r1), .second, .val (.long r2), .second, .val (.long r3), .second, .val (.long q), .second, .val (.int 3), .val (.ref 0), .val (.long ((0 + (own_in q r1)) + (own_in q r2))), .second]) (st' := []) rfl ?_
    refine W_run 56 2 (pc' := 111) (ls' := [.val (.long p), .second, .val (.int a), .val (.int b), .val (.int c), .val (.int e), .val (.long r1), .second, .val (.long r2), .second, .val (.long r3), .second, .val (.long q), .second, .val (.int 3), .val (.ref 0), .val (.long ((0 + (own_in q r1)) + (own_in q r2))), .second]) (st' := [.long r3, .ref 0]) rfl ?_
    refine W_callV (jx := 58) [.long r3] [] (own_m5 hw (own_rec r2 (own_rec r1 ((List.replicate 60000 (0 : Int64)), (List.replicate 60000 (0 : Int32))))).1 (own_rec r2 (own_rec r1 ((List.replicate 60000 (0 : Int64)), (List.replicate 60000 (0 : Int32))))).2 r3 v2.1 v2.2.1) rfl rfl rfl (hw _ (List.mem_of_getElem? (i := 24) rfl)) (hw _ (List.mem_of_getElem? (i := 25) rfl)) (hw _ (List.mem_of_getElem? (i := 27) rfl)) (hw _ (List.mem_of_getElem? (i := 26) rfl)) (hw _ (List.mem_of_getElem? (i := 10) rfl)) (hw _ (List.mem_of_getElem? (i := 28) rfl)) (by decide) own_pd5 rfl rfl rfl (by decide) rfl (by decide) (by decide) rfl ?_
    rintro _ _ ⟨rfl, rfl⟩
    show WP _ _ _ _ _ _ _ _ _ _ _ 114 [.val (.long p), .second, .val (.int a), .val (.int b), .val (.int c), .val (.int e), .val (.long r1), .second, .val (.long r2), .second, .val (.long r3), .second, .val (.long q), .second, .val (.int 3), .val (.ref 0), .val (.long ((0 + (own_in q r1)) + (own_in q r2))), .second] [] [.inl (0, [.ref 1, .ref 2]), .inr (.long, ((own_rec r3 (own_rec r2 (own_rec r1 ((List.replicate 60000 (0 : Int64)), (List.replicate 60000 (0 : Int32)))))).1.map Value.long)), .inr (.int, ((own_rec r3 (own_rec r2 (own_rec r1 ((List.replicate 60000 (0 : Int64)), (List.replicate 60000 (0 : Int32)))))).2.map Value.int))] _ _ _
    refine W_run 59 3 (pc' := 120) (ls' := [.val (.long p), .second, .val (.int a), .val (.int b), .val (.int c), .val (.int e), .val (.long r1), .second, .val (.long r2), .second, .val (.long r3), .second, .val (.long q), .second, .val (.int 3), .val (.ref 0), .val (.long ((0 + (own_in q r1)) + (own_in q r2))), .second]) (st' := [.long q, .long r3, .long ((0 + (own_in q r1)) + (own_in q r2))]) rfl ?_
    refine W_callS (jx := 62) [.long r3, .long q] [.long ((0 + (own_in q r1)) + (own_in q r2))] (own_m8 hw r3 q) rfl (hw _ (List.mem_of_getElem? (i := 35) rfl)) (hw _ (List.mem_of_getElem? (i := 36) rfl)) (hw _ (List.mem_of_getElem? (i := 2) rfl)) (hw _ (List.mem_of_getElem? (i := 37) rfl)) (by decide) own_pd8 rfl rfl rfl (by decide) rfl (by decide) (by decide) rfl ?_
    rintro _ _ ⟨rfl, rfl⟩
    show WP _ _ _ _ _ _ _ _ _ _ _ 123 [.val (.long p), .second, .val (.int a), .val (.int b), .val (.int c), .val (.int e), .val (.long r1), .second, .val (.long r2), .second, .val (.long r3), .second, .val (.long q), .second, .val (.int 3), .val (.ref 0), .val (.long ((0 + (own_in q r1)) + (own_in q r2))), .second] [.long (own_in q r3), .long ((0 + (own_in q r1)) + (own_in q r2))] [.inl (0, [.ref 1, .ref 2]), .inr (.long, ((own_rec r3 (own_rec r2 (own_rec r1 ((List.replicate 60000 (0 : Int64)), (List.replicate 60000 (0 : Int32)))))).1.map Value.long)), .inr (.int, ((own_rec r3 (own_rec r2 (own_rec r1 ((List.replicate 60000 (0 : Int64)), (List.replicate 60000 (0 : Int32)))))).2.map Value.int))] _ _ _
    refine W_run 63 2 (pc' := 126) (ls' := [.val (.long p), .second, .val (.int a), .val (.int b), .val (.int c), .val (.int e), .val (.long r1), .second, .val (.long r2), .second, .val (.long r3), .second, .val (.long q), .second, .val (.int 3), .val (.ref 0), .val (.long (((0 + (own_in q r1)) + (own_in q r2)) + (own_in q r3))), .second]) (st' := []) rfl ?_
    refine W_run 65 2 (pc' := 130) (ls' := [.val (.long p), .second, .val (.int a), .val (.int b), .val (.int c), .val (.int e), .val (.long r1), .second, .val (.long r2), .second, .val (.long r3), .second, .val (.long q), .second, .val (.int 3), .val (.ref 0), .val (.long (((0 + (own_in q r1)) + (own_in q r2)) + (own_in q r3))), .second]) (st' := [.long q, .ref 0]) rfl ?_
    refine W_callV (jx := 67) [.long q] [] (own_m9 hw (own_rec r3 (own_rec r2 (own_rec r1 ((List.replicate 60000 (0 : Int64)), (List.replicate 60000 (0 : Int32)))))).1 (own_rec r3 (own_rec r2 (own_rec r1 ((List.replicate 60000 (0 : Int64)), (List.replicate 60000 (0 : Int32)))))).2 q v3.1 v3.2.1) rfl rfl rfl (hw _ (List.mem_of_getElem? (i := 39) rfl)) (hw _ (List.mem_of_getElem? (i := 40) rfl)) (hw _ (List.mem_of_getElem? (i := 42) rfl)) (hw _ (List.mem_of_getElem? (i := 41) rfl)) (hw _ (List.mem_of_getElem? (i := 10) rfl)) (hw _ (List.mem_of_getElem? (i := 43) rfl)) (by decide) own_pd9 rfl rfl rfl (by decide) rfl (by decide) (by decide) rfl ?_
    rintro _ _ ⟨rfl, rfl⟩
    show WP _ _ _ _ _ _ _ _ _ _ _ 133 [.val (.long p), .second, .val (.int a), .val (.int b), .val (.int c), .val (.int e), .val (.long r1), .second, .val (.long r2), .second, .val (.long r3), .second, .val (.long q), .second, .val (.int 3), .val (.ref 0), .val (.long (((0 + (own_in q r1)) + (own_in q r2)) + (own_in q r3))), .second] [.long (own_cnt q (own_rec r3 (own_rec r2 (own_rec r1 ((List.replicate 60000 (0 : Int64)), (List.replicate 60000 (0 : Int32)))))).1 (own_rec r3 (own_rec r2 (own_rec r1 ((List.replicate 60000 (0 : Int64)), (List.replicate 60000 (0 : Int32)))))).2 0)] [.inl (0, [.ref 1, .ref 2]), .inr (.long, ((own_rec r3 (own_rec r2 (own_rec r1 ((List.replicate 60000 (0 : Int64)), (List.replicate 60000 (0 : Int32)))))).1.map Value.long)), .inr (.int, ((own_rec r3 (own_rec r2 (own_rec r1 ((List.replicate 60000 (0 : Int64)), (List.replicate 60000 (0 : Int32)))))).2.map Value.int))] _ _ _
    refine W_run 68 2 (pc' := 136) (ls' := [.val (.long p), .second, .val (.int a), .val (.int b), .val (.int c), .val (.int e), .val (.long r1), .second, .val (.long r2), .second, .val (.long r3), .second, .val (.long q), .second, .val (.int 3), .val (.ref 0), .val (.long (((0 + (own_in q r1)) + (own_in q r2)) + (own_in q r3))), .second]) (st' := [.int (XT.cmpL (own_cnt q (own_rec r3 (own_rec r2 (own_rec r1 ((List.replicate 60000 (0 : Int64)), (List.replicate 60000 (0 : Int32)))))).1 (own_rec r3 (own_rec r2 (own_rec r1 ((List.replicate 60000 (0 : Int64)), (List.replicate 60000 (0 : Int32)))))).2 0) (((0 + (own_in q r1)) + (own_in q r2)) + (own_in q r3)))]) rfl ?_
    refine W_lne (jx := 70) rfl (by decide) (pc' := 143) rfl (fun h136 => ?_) (fun h136 => ?_)
    · skip
      exact absurd t3 h136
    · skip
      refine W_run 71 2 (pc' := 144) (ls' := [.val (.long p), .second, .val (.int a), .val (.int b), .val (.int c), .val (.int e), .val (.long r1), .second, .val (.long r2), .second, .val (.long r3), .second, .val (.long q), .second, .val (.int 3), .val (.ref 0), .val (.long (((0 + (own_in q r1)) + (own_in q r2)) + (own_in q r3))), .second]) (st' := [.int 1]) rfl ?_
      refine W_zreturn (jx := 74) rfl rfl rfl (by decide) (by decide) ?_
      exact rfl
theorem own_hp0 (s : State) : Hp s own_lay s.heap.size (fun _ => 0) s.heap [] := ⟨fun i c h => by simp at h, fun i j hi => absurd hi (Nat.not_lt_zero i), Nat.le_refl _⟩
set_option maxRecDepth 65536 in
set_option maxHeartbeats 40000000 in
theorem comes_1 {Post : Tables → Env → Array Value → State → Outcome → State → Prop} (hpost : ∀ tb e args s v u, (limb_1_1.after args s (.returned v) u = true ∧ limb_1_2.after args s (.returned v) u = true ∧ True) → FrameEnd s (.returned v) u (Jvm.fieldLocs frame_1_writes args s ++ Jvm.arrayLocs frame_1_arrays args s ++ Jvm.staticLocs frame_1_statics s) 16 144064 → Post tb e args s (.returned v) u) :
    ArmFor flags0 classFile x code maxLocals ret World_1 tables_1 room_1 Calls_1 rest_1 Pre_1 Post := by
  intro l hfl _ _ p e ha hc hk s m args below hf hA hF happ hP
  obtain ⟨hcalls, hrest, hpre⟩ := hP
  obtain ⟨-, -, -, hnamed, -, -, -, hat⟩ := (Spec.applies_iff hf).mp happ
  obtain ⟨hg, hn⟩ := and_e (Cond.before_iff.mp (show (Jvm.Cond.and given_1 narrow_1).before args s = true from hpre))
  obtain ⟨g0, g1⟩ := and_e hg
  obtain ⟨w0, w1, w2, w3, w4, rfl⟩ : ∃ w0 w1 w2 w3 w4 : Value, args = #[w0, w1, w2, w3, w4] := by
    have hs : args.size = 5 := by simpa [Cond.value, given_1] using g0
    obtain ⟨L⟩ := args
    match L, hs with
    | [w0, w1, w2, w3, w4], _ => exact ⟨w0, w1, w2, w3, w4, rfl⟩
  have hw := fun d (hd : d ∈ tables_1) => atoms_spec (ws := Jvm.Cond.code x code maxLocals ret :: tables_1) hat d (List.mem_cons_of_mem _ hd)
  obtain ⟨q0, r0⟩ := and_e g1
  obtain ⟨i0, e0⟩ := isL_v q0
  obtain rfl : w0 = (.long i0) := Option.some.inj e0
  obtain ⟨q1, r1⟩ := and_e r0
  obtain ⟨i1, e1⟩ := is_v q1
  obtain rfl : w1 = (.int i1) := Option.some.inj e1
  obtain ⟨q2, r2⟩ := and_e r1
  obtain ⟨i2, e2⟩ := is_v q2
  obtain rfl : w2 = (.int i2) := Option.some.inj e2
  obtain ⟨q3, r3⟩ := and_e r2
  obtain ⟨i3, e3⟩ := is_v q3
  obtain rfl : w3 = (.int i3) := Option.some.inj e3
  obtain ⟨i4, e4⟩ := is_v r3
  obtain rfl : w4 = (.int i4) := Option.some.inj e4
  obtain ⟨n, o, h1, h2, h3, _, L, rfl, ⟨N, v', A', r', rfl, -, -, rfl⟩, hq⟩ := own_m0 hw (n0 := s.heap.size) i0 i1 i2 i3 i4 (fun _ => 0) s.heap (own_hp0 s) p e ha hc hk s m _ below hf ((Spec.applies_iff_loose hf).mp happ).1 ⟨rfl, State.Warmed39.refl s, rfl⟩ trivial
  refine ⟨n, _, h1, h2, h3, hpost _ _ _ _ _ _ ⟨Cond.after_iff.mpr rfl, Cond.after_iff.mpr (eq_i res_at (Term.int_eval (1)) rfl), trivial⟩ ⟨hq.1, hq.2.1, (hq.2.2.sift fun y hy => Or.inr (N y hy)).mono (by decide) (by decide)⟩⟩
theorem main_1_1 : Claimed_1_1 := comes_1 fun _ _ _ _ _ _ h hF => ⟨h.1, hF⟩
theorem main_1_2 : Claimed_1_2 := comes_1 fun _ _ _ _ _ _ h hF => ⟨h.2.1, hF⟩
end Jvm.Pilot.@@N@@
namespace Jvm.Pilot.@@N@@
open Jvm Jvm.ClassFile Sem Op Lib Jvm.Free Jvm.Stand Jvm.Pilot.@@N@@.Jvm.D
/-! MADE BY PROGRAM (witnessworld.py) out of the Statement's table words and the real class files: 12 classes; the members and pool entries that the words name. The judged class is class 1, her method 3. -/
namespace start1
open Jvm.ClassFile
def u (s : String) : CpInfo := .utf8 (stringToUtf16 s)
/-- a pool by its gaps: so many unusable entries, then the entry; so many at the end -/
def gap : Nat → List CpInfo → List CpInfo
  | 0, r => r
  | n + 1, r => .unusable :: gap n r
def poolList (es : List (Nat × CpInfo)) (last : Nat) : List CpInfo := es.foldr (fun e r => gap e.1 (e.2 :: r)) (gap last [])
def pool (es : List (Nat × CpInfo)) (last : Nat) : Array CpInfo := ⟨poolList es last⟩
def fileOf (pool : Array CpInfo) (this : Nat) (attrs : Array Attribute := #[]) (ms : Array MethodInfo := #[]) (fl : Nat := 33) (sup : Nat := 0) (ifs : Array Nat := #[]) (fds : Array FieldInfo := #[]) : ClassFile where
  minorVersion := 0
  majorVersion := 65
  constantPool := pool
  accessFlags := fl
  thisClass := this
  superClass := sup
  interfaces := ifs
  fields := fds
  methods := ms
  attributes := attrs
def plain (name : String) (sup : Option ClassId) : Class where
  name := name
  kind := .ordinary
  loader := none
  accessFlags := 33
  super := sup
  interfaces := #[]
  cf := none
  fields := #[]
  methods := #[]
  instanceTypes := #[]
  staticTypes := #[]
  resolved := #[]
  callSites := []
  init := .initialized
  statics := none
  mirror := none

def pool0 : Array CpInfo := pool [(5, u "<init>"), (0, u "()V"), (1, .class_ 10), (1, u "java/lang/Object")] 113

def k0c0 : Code := { maxStack := 0, maxLocals := 1, code := object_method_1_code, exceptionTable := #[], attributes := #[] }
def k0m0 : Method := { name := "<init>", desc := "()V", sig := { parameters := [], returnType := none }, accessFlags := 1, code := some k0c0 }
/-- java/lang/Object -/
def k0 : Class := { plain "java/lang/Object" none with
  accessFlags := 33
  interfaces := #[]
  cf := some (fileOf pool0 8 #[] #[{ accessFlags := 1, nameIndex := 5, descriptorIndex := 6, attributes := #[] }] 33 0 #[] #[])
  fields := #[]
  methods := #[k0m0]
  instanceTypes := #[]
  staticTypes := #[]
  resolved := Array.replicate 124 none
  statics := none }

def pool1 : Array CpInfo := pool [(2, .class_ 4), (0, .nameAndType 5 6), (0, u "java/lang/Object"), (0, u "<init>"), (0, u "()V"), (0, .methodref 8 9), (0, .class_ 10), (0, .nameAndType 11 12), (0, u "java/lang/Math"), (0, u "max"), (0, u "(II)I"), (0, .long 60000), (1, .methodref 16 17), (0, .class_ 18), (0, .nameAndType 19 20), (0, u "com/example/rollcall/rollcall/registry/HeartbeatWindowCountPinLaw"), (0, u "gap"), (0, u "(I)J"), (0, .class_ 22), (0, u "com/example/rollcall/rollcall/registry/HeartbeatWindow"), (0, .methodref 21 3), (0, .methodref 21 25), (0, .nameAndType 26 27), (0, u "record"), (0, u "(J)V"), (0, .methodref 16 29), (0, .nameAndType 30 31), (0, u "in"), (0, u "(JJ)J"), (0, .methodref 21 33), (0, .nameAndType 34 35), (0, u "count"), (0, u "(J)J"), (3, u "law"), (0, u "(JIIII)Z")] 2

def k1m0 : Method := { name := "<init>", desc := "()V", sig := { parameters := [], returnType := none }, accessFlags := 1, code := none }
def k1c1 : Code := { maxStack := 3, maxLocals := 2, code := method_2_code, exceptionTable := #[], attributes := #[] }
def k1m1 : Method := { name := "gap", desc := "(I)J", sig := { parameters := [.int], returnType := some .long }, accessFlags := 10, code := some k1c1 }
def k1c2 : Code := { maxStack := 6, maxLocals := 4, code := method_3_code, exceptionTable := #[], attributes := #[] }
def k1m2 : Method := { name := "in", desc := "(JJ)J", sig := { parameters := [.long, .long], returnType := some .long }, accessFlags := 10, code := some k1c2 }
def k1c3 : Code := { maxStack := 6, maxLocals := 18, code := code, exceptionTable := #[], attributes := #[] }
def k1m3 : Method := { name := "law", desc := "(JIIII)Z", sig := { parameters := [.long, .int, .int, .int, .int], returnType := some .boolean }, accessFlags := 9, code := some k1c3 }
/-- com/example/rollcall/rollcall/registry/HeartbeatWindowCountPinLaw -/
def k1 : Class := { plain "com/example/rollcall/rollcall/registry/HeartbeatWindowCountPinLaw" (some 0) with
  accessFlags := 49
  interfaces := #[]
  cf := some (fileOf pool1 16 #[] #[{ accessFlags := 1, nameIndex := 5, descriptorIndex := 6, attributes := #[] }, { accessFlags := 10, nameIndex := 19, descriptorIndex := 20, attributes := #[] }, { accessFlags := 10, nameIndex := 30, descriptorIndex := 31, attributes := #[] }, { accessFlags := 9, nameIndex := 39, descriptorIndex := 40, attributes := #[] }] 49 2 #[] #[])
  fields := #[]
  methods := #[k1m0, k1m1, k1m2, k1m3]
  instanceTypes := #[]
  staticTypes := #[]
  resolved := Array.replicate 43 none
  statics := none }

def pool2 : Array CpInfo := pool [(1, .class_ 2), (0, u "java/lang/Math"), (1, .class_ 6), (1, u "java/lang/Object"), (0, u "<init>"), (0, u "()V"), (89, .class_ 100), (1, u "java/lang/Math$RandomNumberGeneratorHolder"), (20, u "(JJ)J"), (24, .methodref 1 147), (0, .nameAndType 148 121), (0, u "floorMod"), (23, u "negativeZeroFloatBits"), (0, u "J"), (2, u "negativeZeroDoubleBits"), (21, u "max"), (46, u "$assertionsDisabled"), (0, u "Z"), (88, u "(II)I"), (2, u "twoToTheDoubleScaleDown"), (0, u "D"), (4, u "twoToTheDoubleScaleUp"), (9, u "E"), (3, u "PI"), (2, u "TAU"), (2, u "DEGREES_TO_RADIANS"), (0, u "RADIANS_TO_DEGREES"), (54, u "(JI)I")] 39

def k2m0 : Method := { name := "<init>", desc := "()V", sig := { parameters := [], returnType := none }, accessFlags := 2, code := none }
def k2c1 : Code := { maxStack := 4, maxLocals := 3, code := jdk_29_method_51_code, exceptionTable := #[], attributes := #[] }
def k2m1 : Method := { name := "floorMod", desc := "(JI)I", sig := { parameters := [.long, .int], returnType := some .int }, accessFlags := 9, code := some k2c1 }
def k2c2 : Code := { maxStack := 4, maxLocals := 6, code := jdk_29_method_52_code, exceptionTable := #[], attributes := #[] }
def k2m2 : Method := { name := "floorMod", desc := "(JJ)J", sig := { parameters := [.long, .long], returnType := some .long }, accessFlags := 9, code := some k2c2 }
def k2c3 : Code := { maxStack := 2, maxLocals := 2, code := jdk_29_method_65_code, exceptionTable := #[], attributes := #[] }
def k2m3 : Method := { name := "max", desc := "(II)I", sig := { parameters := [.int, .int], returnType := some .int }, accessFlags := 9, code := some k2c3 }
/-- java/lang/Math -/
def k2 : Class := { plain "java/lang/Math" (some 0) with
  accessFlags := 49
  interfaces := #[]
  cf := some (fileOf pool2 1 #[.nestMembers #[98]] #[{ accessFlags := 2, nameIndex := 7, descriptorIndex := 8, attributes := #[] }, { accessFlags := 9, nameIndex := 148, descriptorIndex := 420, attributes := #[] }, { accessFlags := 9, nameIndex := 148, descriptorIndex := 121, attributes := #[] }, { accessFlags := 9, nameIndex := 198, descriptorIndex := 335, attributes := #[] }] 49 4 #[] #[{ accessFlags := 25, nameIndex := 354, descriptorIndex := 339, attributes := #[] }, { accessFlags := 25, nameIndex := 358, descriptorIndex := 339, attributes := #[] }, { accessFlags := 25, nameIndex := 361, descriptorIndex := 339, attributes := #[] }, { accessFlags := 26, nameIndex := 364, descriptorIndex := 339, attributes := #[] }, { accessFlags := 26, nameIndex := 365, descriptorIndex := 339, attributes := #[] }, { accessFlags := 26, nameIndex := 172, descriptorIndex := 173, attributes := #[] }, { accessFlags := 26, nameIndex := 176, descriptorIndex := 173, attributes := #[] }, { accessFlags := 8, nameIndex := 344, descriptorIndex := 339, attributes := #[] }, { accessFlags := 8, nameIndex := 338, descriptorIndex := 339, attributes := #[] }, { accessFlags := 4120, nameIndex := 245, descriptorIndex := 246, attributes := #[] }])
  fields := #[{ name := "E", type := .double, accessFlags := 25, slot := 0, constantValue := 0 }, { name := "PI", type := .double, accessFlags := 25, slot := 1, constantValue := 0 }, { name := "TAU", type := .double, accessFlags := 25, slot := 2, constantValue := 0 }, { name := "DEGREES_TO_RADIANS", type := .double, accessFlags := 26, slot := 3, constantValue := 0 }, { name := "RADIANS_TO_DEGREES", type := .double, accessFlags := 26, slot := 4, constantValue := 0 }, { name := "negativeZeroFloatBits", type := .long, accessFlags := 26, slot := 5, constantValue := 0 }, { name := "negativeZeroDoubleBits", type := .long, accessFlags := 26, slot := 6, constantValue := 0 }, { name := "twoToTheDoubleScaleUp", type := .double, accessFlags := 8, slot := 7, constantValue := 0 }, { name := "twoToTheDoubleScaleDown", type := .double, accessFlags := 8, slot := 8, constantValue := 0 }, { name := "$assertionsDisabled", type := .boolean, accessFlags := 4120, slot := 9, constantValue := 0 }]
  methods := #[k2m0, k2m1, k2m2, k2m3]
  instanceTypes := #[]
  staticTypes := #[.double, .double, .double, .double, .double, .long, .long, .double, .double, .boolean]
  resolved := Array.replicate 460 none
  statics := none }

def pool3 : Array CpInfo := pool [(1, .class_ 2), (0, u "com/example/rollcall/rollcall/registry/HeartbeatWindow"), (0, .methodref 4 5), (0, .class_ 6), (0, .nameAndType 7 8), (0, u "java/lang/Object"), (0, u "<init>"), (0, u "()V"), (0, .integer 60000), (0, .fieldref 1 11), (0, .nameAndType 12 13), (0, u "millis"), (0, u "[J"), (0, .fieldref 1 15), (0, .nameAndType 16 17), (0, u "counts"), (0, u "[I"), (0, .methodref 19 20), (0, .class_ 21), (0, .nameAndType 22 23), (0, u "java/lang/Math"), (0, u "floorMod"), (0, u "(JI)I"), (0, .long 60000), (1, u "SECONDS"), (0, u "I"), (2, u "MILLIS"), (2, u "record"), (0, u "(J)V"), (1, u "count"), (0, u "(J)J")] 2

def k3c0 : Code := { maxStack := 2, maxLocals := 1, code := prog_11_method_1_code, exceptionTable := #[], attributes := #[] }
def k3m0 : Method := { name := "<init>", desc := "()V", sig := { parameters := [], returnType := none }, accessFlags := 0, code := some k3c0 }
def k3c1 : Code := { maxStack := 4, maxLocals := 4, code := prog_11_method_2_code, exceptionTable := #[], attributes := #[] }
def k3m1 : Method := { name := "record", desc := "(J)V", sig := { parameters := [.long], returnType := none }, accessFlags := 0, code := some k3c1 }
def k3c2 : Code := { maxStack := 6, maxLocals := 6, code := prog_11_method_3_code, exceptionTable := #[], attributes := #[] }
def k3m2 : Method := { name := "count", desc := "(J)J", sig := { parameters := [.long], returnType := some .long }, accessFlags := 0, code := some k3c2 }
/-- com/example/rollcall/rollcall/registry/HeartbeatWindow -/
def k3 : Class := { plain "com/example/rollcall/rollcall/registry/HeartbeatWindow" (some 0) with
  accessFlags := 32
  interfaces := #[]
  cf := some (fileOf pool3 1 #[] #[{ accessFlags := 0, nameIndex := 7, descriptorIndex := 8, attributes := #[] }, { accessFlags := 0, nameIndex := 33, descriptorIndex := 34, attributes := #[] }, { accessFlags := 0, nameIndex := 36, descriptorIndex := 37, attributes := #[] }] 32 4 #[] #[{ accessFlags := 24, nameIndex := 26, descriptorIndex := 27, attributes := #[] }, { accessFlags := 26, nameIndex := 30, descriptorIndex := 27, attributes := #[] }, { accessFlags := 18, nameIndex := 12, descriptorIndex := 13, attributes := #[] }, { accessFlags := 18, nameIndex := 16, descriptorIndex := 17, attributes := #[] }])
  fields := #[{ name := "SECONDS", type := .int, accessFlags := 24, slot := 0, constantValue := 0 }, { name := "MILLIS", type := .int, accessFlags := 26, slot := 1, constantValue := 0 }, { name := "millis", type := (.array .long), accessFlags := 18, slot := 0, constantValue := 0 }, { name := "counts", type := (.array .int), accessFlags := 18, slot := 1, constantValue := 0 }]
  methods := #[k3m0, k3m1, k3m2]
  instanceTypes := #[(.array .long), (.array .int)]
  staticTypes := #[.int, .int]
  resolved := Array.replicate 40 none
  statics := none }

def pool4 : Array CpInfo := pool [(1, u "java/lang/Cloneable"), (0, .class_ 1), (0, u "java/lang/Object"), (0, .class_ 3)] 3

/-- java/lang/Cloneable -/
def k4 : Class := { plain "java/lang/Cloneable" (some 0) with
  accessFlags := 1537
  interfaces := #[]
  cf := some (fileOf pool4 2 #[] #[] 1537 4 #[] #[])
  fields := #[]
  methods := #[]
  instanceTypes := #[]
  staticTypes := #[]
  resolved := Array.replicate 8 none
  statics := none }

def pool5 : Array CpInfo := pool [(1, u "java/io/Serializable"), (0, .class_ 1), (0, u "java/lang/Object"), (0, .class_ 3)] 3

/-- java/io/Serializable -/
def k5 : Class := { plain "java/io/Serializable" (some 0) with
  accessFlags := 1537
  interfaces := #[]
  cf := some (fileOf pool5 2 #[] #[] 1537 4 #[] #[])
  fields := #[]
  methods := #[]
  instanceTypes := #[]
  staticTypes := #[]
  resolved := Array.replicate 8 none
  statics := none }

/-- the primitive byte -/
def k6 : Class := { plain "byte" none with kind := .primitive 'B', accessFlags := 0x411 }
/-- [B -/
def k7 : Class := { plain "[B" (some 0) with kind := .array 6 .byte, interfaces := #[4, 5], accessFlags := 1041 }

/-- the primitive int -/
def k8 : Class := { plain "int" none with kind := .primitive 'I', accessFlags := 0x411 }
/-- [I -/
def k9 : Class := { plain "[I" (some 0) with kind := .array 8 .int, interfaces := #[4, 5], accessFlags := 1041 }

/-- the primitive long -/
def k10 : Class := { plain "long" none with kind := .primitive 'J', accessFlags := 0x411 }
/-- [J -/
def k11 : Class := { plain "[J" (some 0) with kind := .array 10 .long, interfaces := #[4, 5], accessFlags := 1041 }

def heap : Heap := #[]
def classes : Array Class := #[k0, k1, k2, k3, k4, k5, k6, k7, k8, k9, k10, k11]
def interned : List (Array UInt16 × Addr) := []
def slotsUsed : Nat := 0
def theMethod : MethodId := ⟨1, 3⟩
def args0 : Array Value := #[.long 50, .int 6, .int 7, .int 3, .int 3]
def aboutOver (below : List Frame) : State where
  vm := { classes := classes, interned := interned.toArray }
  heap := heap
  slotsUsed := slotsUsed
  threads := #[{ frames := .invoking theMethod args0 :: below }]
def below0 : List Frame := [.native { method := ⟨0, 0⟩, args := #[] }]
def about1 : State := aboutOver below0
def p0 : Program := .bare "" "" ""
def e0 : Env := launch0.env 0 0 0
theorem w_frames : about1.frames = Frame.invoking theMethod args0 :: below0 := rfl
set_option maxRecDepth 65536 in
theorem w_args : argsFit about1.vm theMethod args0 = true := by decide +kernel
set_option maxRecDepth 65536 in
theorem w_heap : heapFits about1 = true := by decide +kernel
set_option maxRecDepth 65536 in
theorem w_runnable : about1.curStatus? = some .runnable := by decide +kernel
set_option maxRecDepth 65536 in
theorem w_alone : about1.alone = true := by decide +kernel
set_option maxRecDepth 65536 in
theorem w_named : about1.methodNamed? x = some theMethod := by decide +kernel
set_option maxRecDepth 65536 in
theorem w_hears : about1.hears theMethod below0 = true := by decide +kernel
set_option maxRecDepth 65536 in
theorem w_ripe : about1.ripe theMethod args0 below0 = true := by decide +kernel
theorem w_running : about1.status = .running := rfl
set_option maxRecDepth 65536 in
theorem w_room : about1.hasRoom e0.platform room_1 = true :=
  launch0.hasRoom_least _ room_1 (by decide +kernel) (by decide +kernel) (by decide +kernel) (by decide +kernel) (by decide +kernel) (by decide +kernel)
theorem allAtoms_all (ts : List Jvm.Cond) (a : Array Jvm.Value) (st : Jvm.State) : (allAtoms ts).before a st = ts.all (fun c => c.before a st) := by
  induction ts with
  | nil => rfl
  | cons c t ih =>
    show (Jvm.Cond.and c (allAtoms t)).before a st = _
    rw [Jvm.Cond.before_and, ih, List.all_cons]
def words1 : List Jvm.Cond := Jvm.Cond.code x code maxLocals ret :: tables_1
/-- a 'code' word, met by the world's own term for the bytes: nothing is compared byte by byte -/
theorem code_word {y : MethodName} {bytes : ByteArray} {mx : Nat} {rt : Option FieldType} {a : Array Value} {s : State} {m : MethodId} {meth : Method} {c : Code} (h1 : s.methodNamed? y = some m) (h2 : s.vm.method? m = some meth) (h3 : meth.code = some c) (h4 : c.code = bytes)
    (h5 : (c.maxLocals == mx && c.exceptionTable.isEmpty && decide (c.maxStack ≤ mostOperands) && decide (meth.sig.returnType = rt) && !meth.locks && decide (parseMethodDescriptor y.desc = some meth.sig)) = true) : (Jvm.Cond.code y bytes mx rt).before a s = true := by
  simp only [Bool.and_eq_true, beq_iff_eq, Bool.not_eq_true', decide_eq_true_eq] at h5
  obtain ⟨⟨⟨⟨⟨g1, g2⟩, g3⟩, g4⟩, g5⟩, g6⟩ := h5
  simp [Cond.before, Cond.holds, Cond.value, h1, h2, h3, h4, g1, g2, g3, g4, g5, g6]
def isCode : Jvm.Cond → Bool
  | .code _ _ _ _ => true
  | _ => false
theorem all_split {L : List Jvm.Cond} {P : Jvm.Cond → Bool} (h1 : L.all (fun c => isCode c || P c) = true) (h2 : ∀ c ∈ L.filter isCode, P c = true) : L.all P = true := by
  refine List.all_eq_true.mpr fun c hc => ?_
  have h := List.all_eq_true.mp h1 c hc
  rcases Bool.eq_false_or_eq_true (isCode c) with hi | hi
  · exact h2 c (List.mem_filter.mpr ⟨hc, hi⟩)
  · simpa [hi] using h
set_option maxRecDepth 65536 in
theorem w_c0 : (Jvm.Cond.code x code maxLocals ret).before args0 about1 = true := code_word (m := ⟨1, 3⟩) (meth := k1m3) (c := k1c3) (by decide +kernel) rfl rfl rfl (by decide +kernel)
set_option maxRecDepth 65536 in
theorem w_c1 : (Jvm.Cond.code ({ cls := "com/example/rollcall/rollcall/registry/HeartbeatWindowCountPinLaw", name := "gap", desc := "(I)J" } : Jvm.MethodName) method_2_code (2 : Nat) (Option.some Jvm.ClassFile.FieldType.long)).before args0 about1 = true := code_word (m := ⟨1, 1⟩) (meth := k1m1) (c := k1c1) (by decide +kernel) rfl rfl rfl (by decide +kernel)
set_option maxRecDepth 65536 in
theorem w_c2 : (Jvm.Cond.code ({ cls := "java/lang/Math", name := "max", desc := "(II)I" } : Jvm.MethodName) jdk_29_method_65_code (2 : Nat) (Option.some Jvm.ClassFile.FieldType.int)).before args0 about1 = true := code_word (m := ⟨2, 3⟩) (meth := k2m3) (c := k2c3) (by decide +kernel) rfl rfl rfl (by decide +kernel)
set_option maxRecDepth 65536 in
theorem w_c3 : (Jvm.Cond.code ({ cls := "com/example/rollcall/rollcall/registry/HeartbeatWindow", name := "<init>", desc := "()V" } : Jvm.MethodName) prog_11_method_1_code (1 : Nat) (Option.none : Option Jvm.ClassFile.FieldType)).before args0 about1 = true := code_word (m := ⟨3, 0⟩) (meth := k3m0) (c := k3c0) (by decide +kernel) rfl rfl rfl (by decide +kernel)
set_option maxRecDepth 65536 in
theorem w_c4 : (Jvm.Cond.code ({ cls := "java/lang/Object", name := "<init>", desc := "()V" } : Jvm.MethodName) object_method_1_code (1 : Nat) (Option.none : Option Jvm.ClassFile.FieldType)).before args0 about1 = true := code_word (m := ⟨0, 0⟩) (meth := k0m0) (c := k0c0) (by decide +kernel) rfl rfl rfl (by decide +kernel)
set_option maxRecDepth 65536 in
theorem w_c5 : (Jvm.Cond.code ({ cls := "com/example/rollcall/rollcall/registry/HeartbeatWindow", name := "record", desc := "(J)V" } : Jvm.MethodName) prog_11_method_2_code (4 : Nat) (Option.none : Option Jvm.ClassFile.FieldType)).before args0 about1 = true := code_word (m := ⟨3, 1⟩) (meth := k3m1) (c := k3c1) (by decide +kernel) rfl rfl rfl (by decide +kernel)
set_option maxRecDepth 65536 in
theorem w_c6 : (Jvm.Cond.code ({ cls := "java/lang/Math", name := "floorMod", desc := "(JI)I" } : Jvm.MethodName) jdk_29_method_51_code (3 : Nat) (Option.some Jvm.ClassFile.FieldType.int)).before args0 about1 = true := code_word (m := ⟨2, 1⟩) (meth := k2m1) (c := k2c1) (by decide +kernel) rfl rfl rfl (by decide +kernel)
set_option maxRecDepth 65536 in
theorem w_c7 : (Jvm.Cond.code ({ cls := "java/lang/Math", name := "floorMod", desc := "(JJ)J" } : Jvm.MethodName) jdk_29_method_52_code (6 : Nat) (Option.some Jvm.ClassFile.FieldType.long)).before args0 about1 = true := code_word (m := ⟨2, 2⟩) (meth := k2m2) (c := k2c2) (by decide +kernel) rfl rfl rfl (by decide +kernel)
set_option maxRecDepth 65536 in
theorem w_c8 : (Jvm.Cond.code ({ cls := "com/example/rollcall/rollcall/registry/HeartbeatWindowCountPinLaw", name := "in", desc := "(JJ)J" } : Jvm.MethodName) method_3_code (4 : Nat) (Option.some Jvm.ClassFile.FieldType.long)).before args0 about1 = true := code_word (m := ⟨1, 2⟩) (meth := k1m2) (c := k1c2) (by decide +kernel) rfl rfl rfl (by decide +kernel)
set_option maxRecDepth 65536 in
theorem w_c9 : (Jvm.Cond.code ({ cls := "com/example/rollcall/rollcall/registry/HeartbeatWindow", name := "count", desc := "(J)J" } : Jvm.MethodName) prog_11_method_3_code (6 : Nat) (Option.some Jvm.ClassFile.FieldType.long)).before args0 about1 = true := code_word (m := ⟨3, 2⟩) (meth := k3m2) (c := k3c2) (by decide +kernel) rfl rfl rfl (by decide +kernel)
def codes1 : List Jvm.Cond := [Jvm.Cond.code x code maxLocals ret, Jvm.Cond.code ({ cls := "com/example/rollcall/rollcall/registry/HeartbeatWindowCountPinLaw", name := "gap", desc := "(I)J" } : Jvm.MethodName) method_2_code (2 : Nat) (Option.some Jvm.ClassFile.FieldType.long), Jvm.Cond.code ({ cls := "java/lang/Math", name := "max", desc := "(II)I" } : Jvm.MethodName) jdk_29_method_65_code (2 : Nat) (Option.some Jvm.ClassFile.FieldType.int), Jvm.Cond.code ({ cls := "com/example/rollcall/rollcall/registry/HeartbeatWindow", name := "<init>", desc := "()V" } : Jvm.MethodName) prog_11_method_1_code (1 : Nat) (Option.none : Option Jvm.ClassFile.FieldType), Jvm.Cond.code ({ cls := "java/lang/Object", name := "<init>", desc := "()V" } : Jvm.MethodName) object_method_1_code (1 : Nat) (Option.none : Option Jvm.ClassFile.FieldType), Jvm.Cond.code ({ cls := "com/example/rollcall/rollcall/registry/HeartbeatWindow", name := "record", desc := "(J)V" } : Jvm.MethodName) prog_11_method_2_code (4 : Nat) (Option.none : Option Jvm.ClassFile.FieldType), Jvm.Cond.code ({ cls := "java/lang/Math", name := "floorMod", desc := "(JI)I" } : Jvm.MethodName) jdk_29_method_51_code (3 : Nat) (Option.some Jvm.ClassFile.FieldType.int), Jvm.Cond.code ({ cls := "java/lang/Math", name := "floorMod", desc := "(JJ)J" } : Jvm.MethodName) jdk_29_method_52_code (6 : Nat) (Option.some Jvm.ClassFile.FieldType.long), Jvm.Cond.code ({ cls := "com/example/rollcall/rollcall/registry/HeartbeatWindowCountPinLaw", name := "in", desc := "(JJ)J" } : Jvm.MethodName) method_3_code (4 : Nat) (Option.some Jvm.ClassFile.FieldType.long), Jvm.Cond.code ({ cls := "com/example/rollcall/rollcall/registry/HeartbeatWindow", name := "count", desc := "(J)J" } : Jvm.MethodName) prog_11_method_3_code (6 : Nat) (Option.some Jvm.ClassFile.FieldType.long)]
set_option maxRecDepth 65536 in
theorem codes_eq : words1.filter isCode = codes1 := rfl
theorem w_codes : ∀ c ∈ words1.filter isCode, c.before args0 about1 = true := by
  rw [codes_eq]
  intro c hc
  simp only [codes1, List.mem_cons, List.not_mem_nil, or_false] at hc
  rcases hc with rfl | rfl | rfl | rfl | rfl | rfl | rfl | rfl | rfl | rfl
  · exact w_c0
  · exact w_c1
  · exact w_c2
  · exact w_c3
  · exact w_c4
  · exact w_c5
  · exact w_c6
  · exact w_c7
  · exact w_c8
  · exact w_c9
set_option maxRecDepth 65536 in
theorem w_t1 : (words1.take 24).all (fun c => isCode c || c.before args0 about1) = true := by decide +kernel
set_option maxRecDepth 65536 in
theorem w_t2 : (words1.drop 24).all (fun c => isCode c || c.before args0 about1) = true := by decide +kernel
theorem w_tables : (allAtoms (Jvm.Cond.code x code maxLocals ret :: tables_1)).before args0 about1 = true := by
  rw [allAtoms_all]
  show words1.all (fun c => c.before args0 about1) = true
  refine all_split ?_ w_codes
  rw [← List.take_append_drop 24 words1, List.all_append, w_t1, w_t2]
  rfl
set_option maxRecDepth 65536 in
theorem w_case : (Jvm.Cond.and given_1 narrow_1).before args0 about1 = true := by decide +kernel
theorem w_applies : (headSpec (Jvm.Cond.code x code maxLocals ret :: tables_1) room_1).applies x e0.platform about1 = true :=
  (Spec.applies_iff w_frames).mpr ⟨w_running, w_runnable, w_alone, w_named, w_hears, w_ripe, w_room, w_tables⟩
theorem atStart : AtStart classFile x code maxLocals ret World_1 tables_1 room_1 Calls_1 rest_1 Pre_1 launch0 p0 e0 about1 theMethod args0 below0 :=
  ⟨lists_1, trivial, launch0.admits_env _ _ _, launch0.least_env, fairChoices_fair.cas, fairChoices_fair.clock, w_frames, w_args, w_heap, w_applies, trivial, trivial, w_case⟩
end start1
theorem witness_1 : WitnessClaimed_1 := ⟨start1.p0, start1.e0, start1.about1, start1.theMethod, start1.args0, start1.below0, start1.atStart⟩
end Jvm.Pilot.@@N@@
