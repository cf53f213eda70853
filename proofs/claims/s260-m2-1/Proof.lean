import JvmDerived
import JvmDerived.Pilot.@@N@@Statement
import JvmDerived.Pilot.@@N@@Code
set_option linter.unusedVariables false
set_option linter.unusedSimpArgs false
namespace Jvm.OwnKit
open Jvm Jvm.ClassFile Sem Op Lib Jvm.Free Jvm.Stand Jvm.LawKit Jvm.RoadKit Bundle

theorem own_b8 (x : Int32) : x.toInt8.toInt32.toInt8.toInt32 = x.toInt8.toInt32 := by simp
theorem own_nd_inj {fs : List (String × String × String)} (h : (fs.map (fun f => f.2.1)).Nodup) {i j : Nat} {f g : String × String × String} (hi : fs[i]? = some f) (hj : fs[j]? = some g) (e : f.2.1 = g.2.1) : i = j := by
  have hl : i < (fs.map (fun f => f.2.1)).length := by simpa using (List.getElem?_eq_some_iff.mp hi).1
  refine (List.getElem?_inj hl h).mp ?_
  simp [hi, hj, e]
/-! ## 1. Values that name their cells by number; r says at which address cell i lies -/
def cv (r : Nat → Addr) : Value → Value
  | .ref i => .ref (r i)
  | v => v
def cs (r : Nat → Addr) : Slot → Slot
  | .val v => .val (cv r v)
  | .unset => .unset
  | .second => .second
theorem cv_cat (r : Nat → Addr) (v : Value) : (cv r v).category = v.category := by cases v <;> rfl
theorem cv_isRef (r : Nat → Addr) (v : Value) : (cv r v).isRef = v.isRef := by cases v <;> rfl
abbrev cl (r : Nat → Addr) (ls : List Slot) : Array Slot := (ls.map (cs r)).toArray
abbrev ct (r : Nat → Addr) (st : List Value) : List Value := st.map (cv r)
theorem cl_get {r : Nat → Addr} {ls : List Slot} {k : Nat} {x : Slot} (h : ls[k]? = some x) : (cl r ls)[k]? = some (cs r x) := by simp [cl, h]
theorem cl_size {r : Nat → Addr} {ls : List Slot} : (cl r ls).size = ls.length := by simp [cl]
def catS (st : List Value) : Nat := (st.map fun v => v.category).sum
theorem ct_cat (r : Nat → Addr) (st : List Value) : ((ct r st).map fun v => v.category).sum = catS st := by
  simp only [ct, catS, List.map_map]
  congr 1
  exact List.map_congr_left fun v _ => cv_cat r v

/-! ## 2. The local variables as a list -/
def setL (l : List Slot) (i : Nat) (x : Slot) : Option (List Slot) := if i < l.length then some (l.set i x) else none
def stoS (l : List Slot) (i : Nat) (v : Value) : Option (List Slot) :=
  match setL l i (.val v) with
  | none => none
  | some l => if v.category = 2 then
      match l[i + 1]? with
      | none => none
      | some (.val old) => if old.category = 2 then (match setL l (i + 2) .unset with | none => none | some l => setL l (i + 1) .second) else setL l (i + 1) .second
      | some _ => setL l (i + 1) .second
    else some l
def stoL (l : List Slot) (i : Nat) (v : Value) : Option (List Slot) :=
  match l[i]? with
  | none => none
  | some .second => (match setL l (i - 1) .unset with | none => none | some l => stoS l i v)
  | some (.val old) => if old.category = 2 then (match setL l (i + 1) .unset with | none => none | some l => stoS l i v) else stoS l i v
  | some .unset => stoS l i v
theorem setL_ok {r : Nat → Addr} {l l' : List Slot} {i : Nat} {x : Slot} (h : setL l i x = some l') : setAt (cl r l) i (cs r x) = some (cl r l') := by
  unfold setL at h
  split at h
  · rename_i hi
    cases h
    simp [setAt, cl, hi, List.map_set]
  · cases h
theorem stoS_ok {r : Nat → Addr} {l l' : List Slot} {i : Nat} {v : Value} (h : stoS l i v = some l') : storeSelf (cl r l) i (cv r v) = some (cl r l') := by
  unfold stoS at h
  unfold storeSelf
  cases h1 : setL l i (.val v) with
  | none => simp [h1] at h
  | some l1 =>
    rw [h1] at h
    have q1 : setAt (cl r l) i (.val (cv r v)) = some (cl r l1) := setL_ok (x := .val v) h1
    simp only [q1, Option.bind_eq_bind, Option.bind_some, cv_cat]
    dsimp only at h
    split at h
    · rename_i hc
      simp only [hc, if_true]
      cases h2 : l1[i + 1]? with
      | none => simp [h2] at h
      | some y =>
        rw [h2] at h
        have q2 : (cl r l1)[i + 1]? = some (cs r y) := cl_get h2
        rw [q2]
        simp only [Option.bind_some]
        cases y with
        | val old =>
          simp only [cs, cv_cat]
          dsimp only at h
          split at h
          · rename_i ho
            simp only [ho, if_true]
            cases h3 : setL l1 (i + 2) .unset with
            | none => simp [h3] at h
            | some l3 =>
              rw [h3] at h
              have q3 : setAt (cl r l1) (i + 2) .unset = some (cl r l3) := setL_ok (x := .unset) h3
              rw [q3]
              exact setL_ok (x := .second) h
          · rename_i ho
            simp only [ho, if_false]
            exact setL_ok (x := .second) h
        | unset => exact setL_ok (x := .second) h
        | second => exact setL_ok (x := .second) h
    · rename_i hc
      simp only [hc, if_false]
      cases h
      rfl
theorem stoL_ok {r : Nat → Addr} {l l' : List Slot} {i : Nat} {v : Value} (h : stoL l i v = some l') : storeLocals (cl r l) i (cv r v) = some (cl r l') := by
  unfold stoL at h
  unfold storeLocals
  cases h1 : l[i]? with
  | none => simp [h1] at h
  | some y =>
    rw [h1] at h
    have q1 : (cl r l)[i]? = some (cs r y) := cl_get h1
    rw [q1]
    simp only [Option.bind_eq_bind, Option.bind_some]
    cases y with
    | unset => exact stoS_ok h
    | second =>
      simp only [cs]
      dsimp only at h
      cases h2 : setL l (i - 1) .unset with
      | none => simp [h2] at h
      | some l2 =>
        rw [h2] at h
        have q2 : setAt (cl r l) (i - 1) .unset = some (cl r l2) := setL_ok (x := .unset) h2
        rw [q2]
        exact stoS_ok h
    | val old =>
      simp only [cs, cv_cat]
      dsimp only at h
      split at h
      · rename_i ho
        simp only [ho, if_true]
        cases h2 : setL l (i + 1) .unset with
        | none => simp [h2] at h
        | some l2 =>
          rw [h2] at h
          have q2 : setAt (cl r l) (i + 1) .unset = some (cl r l2) := setL_ok (x := .unset) h2
          rw [q2]
          exact stoS_ok h
      · rename_i ho
        simp only [ho, if_false]
        exact stoS_ok h

/-! ## 3. One plain instruction as a function -/
abbrev Cf : Type := Nat × List Slot × List Value
def ldI (ls : List Slot) (k : Nat) (st : List Value) (pc : Nat) : Option Cf := match ls[k]? with | some (.val (.int v)) => some (pc, ls, .int v :: st) | _ => none
def ldJ (ls : List Slot) (k : Nat) (st : List Value) (pc : Nat) : Option Cf := match ls[k]? with | some (.val (.long v)) => some (pc, ls, .long v :: st) | _ => none
def ldA (ls : List Slot) (k : Nat) (st : List Value) (pc : Nat) : Option Cf := match ls[k]? with | some (.val v) => if v.isRef then some (pc, ls, v :: st) else none | _ => none
def sI (ls : List Slot) (k : Nat) (st : List Value) (pc : Nat) : Option Cf := match st with | .int x :: t => (match stoL ls k (.int x) with | some l => some (pc, l, t) | none => none) | _ => none
def sJ (ls : List Slot) (k : Nat) (st : List Value) (pc : Nat) : Option Cf := match st with | .long x :: t => (match stoL ls k (.long x) with | some l => some (pc, l, t) | none => none) | _ => none
def sA (ls : List Slot) (k : Nat) (st : List Value) (pc : Nat) : Option Cf := match st with | x :: t => if x.isRef then (match stoL ls k x with | some l => some (pc, l, t) | none => none) else none | _ => none
def un (f : Int32 → Value) (ls : List Slot) (st : List Value) (pc : Nat) : Option Cf := match st with | .int x :: t => some (pc, ls, f x :: t) | _ => none
def unL (f : Int64 → Value) (ls : List Slot) (st : List Value) (pc : Nat) : Option Cf := match st with | .long x :: t => some (pc, ls, f x :: t) | _ => none
def bin (f : Int32 → Int32 → Int32) (ls : List Slot) (st : List Value) (pc : Nat) : Option Cf := match st with | .int y :: .int x :: t => some (pc, ls, .int (f x y) :: t) | _ => none
def binD (f : Int32 → Int32 → Int32) (ls : List Slot) (st : List Value) (pc : Nat) : Option Cf := match st with | .int y :: .int x :: t => if y = 0 then none else some (pc, ls, .int (f x y) :: t) | _ => none
def binL (f : Int64 → Int64 → Value) (ls : List Slot) (st : List Value) (pc : Nat) : Option Cf := match st with | .long y :: .long x :: t => some (pc, ls, f x y :: t) | _ => none
def binLD (f : Int64 → Int64 → Int64) (ls : List Slot) (st : List Value) (pc : Nat) : Option Cf := match st with | .long y :: .long x :: t => if y = 0 then none else some (pc, ls, .long (f x y) :: t) | _ => none
def shf (f : Int64 → Int32 → Int64) (ls : List Slot) (st : List Value) (pc : Nat) : Option Cf := match st with | .int y :: .long x :: t => some (pc, ls, .long (f x y) :: t) | _ => none
def jmp (pc : Nat) (o : Int) (ls : List Slot) (st : List Value) : Option Cf := if 0 ≤ (pc : Int) + o then some (((pc : Int) + o).toNat, ls, st) else none
def ilen : Instr → Nat
  | .iload _ | .lload _ | .aload _ | .istore _ | .lstore _ | .astore _ | .bipush _ => 2
  | .iinc _ _ | .sipush _ | .goto _ | .if_icmp _ _ | .ifCond _ _ | .ifnull _ | .ifnonnull _ => 3
  | _ => 1
def pcore (ins : Instr) (pc : Nat) (ls : List Slot) (st : List Value) : Option Cf :=
  match ins with
  | .iload_n k => ldI ls k.val st (pc + 1)
  | .iload k => ldI ls k st (pc + 2)
  | .lload_n k => ldJ ls k.val st (pc + 1)
  | .lload k => ldJ ls k st (pc + 2)
  | .aload_n k => ldA ls k.val st (pc + 1)
  | .aload k => ldA ls k st (pc + 2)
  | .istore_n k => sI ls k.val st (pc + 1)
  | .istore k => sI ls k st (pc + 2)
  | .lstore_n k => sJ ls k.val st (pc + 1)
  | .lstore k => sJ ls k st (pc + 2)
  | .astore_n k => sA ls k.val st (pc + 1)
  | .astore k => sA ls k st (pc + 2)
  | .iconst i => some (pc + 1, ls, .int (Int32.ofInt i) :: st)
  | .bipush i => some (pc + 2, ls, .int (Int8.ofInt i).toInt32 :: st)
  | .sipush i => some (pc + 3, ls, .int (Int16.ofInt i).toInt32 :: st)
  | .lconst k => some (pc + 1, ls, .long (Int64.ofNat k) :: st)
  | .aconst_null => some (pc + 1, ls, .null :: st)
  | .iinc k c => match ls[k]? with
    | some (.val (.int x)) => (match stoL ls k (.int (x + Int32.ofInt c)) with | some l => some (pc + 3, l, st) | none => none)
    | _ => none
  | .iadd => bin (fun x y => x + y) ls st (pc + 1)
  | .isub => bin (fun x y => x - y) ls st (pc + 1)
  | .imul => bin (fun x y => x * y) ls st (pc + 1)
  | .iand => bin (fun x y => x &&& y) ls st (pc + 1)
  | .ior => bin (fun x y => x ||| y) ls st (pc + 1)
  | .ixor => bin (fun x y => x ^^^ y) ls st (pc + 1)
  | .ishl => bin (fun x y => x <<< (y &&& 31)) ls st (pc + 1)
  | .ishr => bin (fun x y => x >>> (y &&& 31)) ls st (pc + 1)
  | .iushr => bin (fun x y => XT.ushr x y) ls st (pc + 1)
  | .idiv => binD (fun x y => x / y) ls st (pc + 1)
  | .irem => binD (fun x y => x % y) ls st (pc + 1)
  | .ineg => un (fun x => .int (-x)) ls st (pc + 1)
  | .i2l => un (fun x => .long x.toInt64) ls st (pc + 1)
  | .i2b => un (fun x => .int x.toInt8.toInt32) ls st (pc + 1)
  | .i2c => un (fun x => .int x.toUInt32.toUInt16.toUInt32.toInt32) ls st (pc + 1)
  | .i2s => un (fun x => .int x.toInt16.toInt32) ls st (pc + 1)
  | .l2i => unL (fun x => .int x.toInt32) ls st (pc + 1)
  | .lneg => unL (fun x => .long (-x)) ls st (pc + 1)
  | .ladd => binL (fun x y => .long (x + y)) ls st (pc + 1)
  | .lsub => binL (fun x y => .long (x - y)) ls st (pc + 1)
  | .lmul => binL (fun x y => .long (x * y)) ls st (pc + 1)
  | .land => binL (fun x y => .long (x &&& y)) ls st (pc + 1)
  | .lor => binL (fun x y => .long (x ||| y)) ls st (pc + 1)
  | .lxor => binL (fun x y => .long (x ^^^ y)) ls st (pc + 1)
  | .lcmp => binL (fun x y => .int (XT.cmpL x y)) ls st (pc + 1)
  | .ldiv => binLD (fun x y => x / y) ls st (pc + 1)
  | .lrem => binLD (fun x y => x % y) ls st (pc + 1)
  | .lshl => shf (fun x y => x <<< (y.toInt64 &&& 63)) ls st (pc + 1)
  | .lshr => shf (fun x y => x >>> (y.toInt64 &&& 63)) ls st (pc + 1)
  | .lushr => shf (fun x y => XT.ushrL x y) ls st (pc + 1)
  | .dup => match st with | x :: t => if x.category = 1 then some (pc + 1, ls, x :: x :: t) else none | _ => none
  | .dup_x1 => match st with | x :: y :: t => if x.category = 1 then (if y.category = 1 then some (pc + 1, ls, x :: y :: x :: t) else none) else none | _ => none
  | .dup2 => match st with | x :: y :: t => if x.category = 1 then (if y.category = 1 then some (pc + 1, ls, x :: y :: x :: y :: t) else none) else none | _ => none
  | .pop => match st with | x :: t => if x.category = 1 then some (pc + 1, ls, t) else none | _ => none
  | .goto o => jmp pc o ls st
  | .if_icmp cd o => match st with | .int y :: .int x :: t => (match if_icmp.holds cd x y with | true => jmp pc o ls t | false => some (pc + 3, ls, t)) | _ => none
  | .ifCond cd o => match st with | .int x :: t => (match ifCond.holds cd x with | true => jmp pc o ls t | false => some (pc + 3, ls, t)) | _ => none
  | .ifnull o => match st with | .null :: t => jmp pc o ls t | .ref _ :: t => some (pc + 3, ls, t) | _ => none
  | .ifnonnull o => match st with | .ref _ :: t => jmp pc o ls t | .null :: t => some (pc + 3, ls, t) | _ => none
  | _ => none
def pst (ins : Instr) (len pc : Nat) (ls : List Slot) (st : List Value) : Option Cf := if len = ilen ins then pcore ins pc ls st else none

section Inv
variable {ls : List Slot} {st : List Value} {k pc : Nat} {q : Cf}
theorem ldI_v (h : ldI ls k st pc = some q) : ∃ v, ls[k]? = some (.val (.int v)) ∧ q = (pc, ls, .int v :: st) := by
  unfold ldI at h; split at h
  · rename_i v e; cases h; exact ⟨v, e, rfl⟩
  · cases h
theorem ldJ_v (h : ldJ ls k st pc = some q) : ∃ v, ls[k]? = some (.val (.long v)) ∧ q = (pc, ls, .long v :: st) := by
  unfold ldJ at h; split at h
  · rename_i v e; cases h; exact ⟨v, e, rfl⟩
  · cases h
theorem ldA_v (h : ldA ls k st pc = some q) : ∃ v, ls[k]? = some (.val v) ∧ v.isRef = true ∧ q = (pc, ls, v :: st) := by
  unfold ldA at h; split at h
  · rename_i v e; split at h
    · rename_i e2; cases h; exact ⟨v, e, e2, rfl⟩
    · cases h
  · cases h
theorem sI_v (h : sI ls k st pc = some q) : ∃ x t l, st = .int x :: t ∧ stoL ls k (.int x) = some l ∧ q = (pc, l, t) := by
  unfold sI at h; split at h
  · rename_i x t; split at h
    · rename_i l e; cases h; exact ⟨x, t, l, rfl, e, rfl⟩
    · cases h
  · cases h
theorem sJ_v (h : sJ ls k st pc = some q) : ∃ x t l, st = .long x :: t ∧ stoL ls k (.long x) = some l ∧ q = (pc, l, t) := by
  unfold sJ at h; split at h
  · rename_i x t; split at h
    · rename_i l e; cases h; exact ⟨x, t, l, rfl, e, rfl⟩
    · cases h
  · cases h
theorem sA_v (h : sA ls k st pc = some q) : ∃ x t l, st = x :: t ∧ x.isRef = true ∧ stoL ls k x = some l ∧ q = (pc, l, t) := by
  unfold sA at h; split at h
  · rename_i x t; split at h
    · rename_i e0; split at h
      · rename_i l e; cases h; exact ⟨x, t, l, rfl, e0, e, rfl⟩
      · cases h
    · cases h
  · cases h
theorem un_v {f : Int32 → Value} (h : un f ls st pc = some q) : ∃ x t, st = .int x :: t ∧ q = (pc, ls, f x :: t) := by
  unfold un at h; split at h
  · rename_i x t; cases h; exact ⟨x, t, rfl, rfl⟩
  · cases h
theorem unL_v {f : Int64 → Value} (h : unL f ls st pc = some q) : ∃ x t, st = .long x :: t ∧ q = (pc, ls, f x :: t) := by
  unfold unL at h; split at h
  · rename_i x t; cases h; exact ⟨x, t, rfl, rfl⟩
  · cases h
theorem bin_v {f : Int32 → Int32 → Int32} (h : bin f ls st pc = some q) : ∃ x y t, st = .int y :: .int x :: t ∧ q = (pc, ls, .int (f x y) :: t) := by
  unfold bin at h; split at h
  · rename_i y x t; cases h; exact ⟨x, y, t, rfl, rfl⟩
  · cases h
theorem binD_v {f : Int32 → Int32 → Int32} (h : binD f ls st pc = some q) : ∃ x y t, st = .int y :: .int x :: t ∧ y ≠ 0 ∧ q = (pc, ls, .int (f x y) :: t) := by
  unfold binD at h; split at h
  · rename_i y x t; split at h
    · cases h
    · rename_i e; cases h; exact ⟨x, y, t, rfl, e, rfl⟩
  · cases h
theorem binL_v {f : Int64 → Int64 → Value} (h : binL f ls st pc = some q) : ∃ x y t, st = .long y :: .long x :: t ∧ q = (pc, ls, f x y :: t) := by
  unfold binL at h; split at h
  · rename_i y x t; cases h; exact ⟨x, y, t, rfl, rfl⟩
  · cases h
theorem binLD_v {f : Int64 → Int64 → Int64} (h : binLD f ls st pc = some q) : ∃ x y t, st = .long y :: .long x :: t ∧ y ≠ 0 ∧ q = (pc, ls, .long (f x y) :: t) := by
  unfold binLD at h; split at h
  · rename_i y x t; split at h
    · cases h
    · rename_i e; cases h; exact ⟨x, y, t, rfl, e, rfl⟩
  · cases h
theorem shf_v {f : Int64 → Int32 → Int64} (h : shf f ls st pc = some q) : ∃ x y t, st = .int y :: .long x :: t ∧ q = (pc, ls, .long (f x y) :: t) := by
  unfold shf at h; split at h
  · rename_i y x t; cases h; exact ⟨x, y, t, rfl, rfl⟩
  · cases h
theorem jmp_v {o : Int} (h : jmp pc o ls st = some q) : 0 ≤ (pc : Int) + o ∧ q = (((pc : Int) + o).toNat, ls, st) := by
  unfold jmp at h; split at h
  · rename_i e; cases h; exact ⟨e, rfl⟩
  · cases h
end Inv

section Pure
variable {tb : Tables} [Ours tb] {e : Env} {below : List Frame} {T target : State} {m : MethodId} {c : Code}
theorem pcore_ok {r : Nat → Addr} {ins : Instr} {pc : Nat} {ls : List Slot} {st : List Value} {q : Cf} (X : At T m c below) (hx : tb.exec = Jvm.exec) (hd : decode c.code pc = .ok (ins, ilen ins)) (h : pcore ins pc ls st = some q)
    (hr : Steps tb e below (T.setTop (mkF m q.1 (cl r q.2.1) (ct r q.2.2))) target) : Steps tb e below (T.setTop (mkF m pc (cl r ls) (ct r st))) target := by
  cases ins <;> simp only [pcore, reduceCtorEq] at h <;> simp only [ilen] at hd
  case iload_n k => obtain ⟨v, e1, rfl⟩ := ldI_v h; exact XS.iloadN X hx rfl hd (cl_get e1) hr
  case iload k => obtain ⟨v, e1, rfl⟩ := ldI_v h; exact XS.iload X hx rfl hd (cl_get e1) hr
  case lload_n k => obtain ⟨v, e1, rfl⟩ := ldJ_v h; exact XT.lloadN X hx rfl hd (cl_get e1) hr
  case lload k => obtain ⟨v, e1, rfl⟩ := ldJ_v h; exact XT.lload X hx rfl hd (cl_get e1) hr
  case aload_n k => obtain ⟨v, e1, e2, rfl⟩ := ldA_v h; exact XS.aloadN X hx rfl hd (cl_get e1) ((cv_isRef r v).trans e2) hr
  case aload k => obtain ⟨v, e1, e2, rfl⟩ := ldA_v h; exact XS.aload X hx rfl hd (cl_get e1) ((cv_isRef r v).trans e2) hr
  case istore_n k => obtain ⟨x, t, l, rfl, e1, rfl⟩ := sI_v h; exact XS.istoreN X hx rfl hd rfl (stoL_ok (r := r) e1) hr
  case istore k => obtain ⟨x, t, l, rfl, e1, rfl⟩ := sI_v h; exact XS.istore X hx rfl hd rfl (stoL_ok (r := r) e1) hr
  case lstore_n k => obtain ⟨x, t, l, rfl, e1, rfl⟩ := sJ_v h; exact XT.lstoreN X hx rfl hd rfl (stoL_ok (r := r) e1) hr
  case lstore k => obtain ⟨x, t, l, rfl, e1, rfl⟩ := sJ_v h; exact XT.lstore X hx rfl hd rfl (stoL_ok (r := r) e1) hr
  case astore_n k => obtain ⟨x, t, l, rfl, e0, e1, rfl⟩ := sA_v h; exact XS.astoreN X hx rfl hd rfl ((cv_isRef r x).trans e0) (stoL_ok (r := r) e1) hr
  case astore k => obtain ⟨x, t, l, rfl, e0, e1, rfl⟩ := sA_v h; exact XS.astore X hx rfl hd rfl ((cv_isRef r x).trans e0) (stoL_ok (r := r) e1) hr
  case iconst i => cases h; exact XS.iconst X hx rfl hd hr
  case bipush i => cases h; exact XS.bipush X hx rfl hd hr
  case sipush i => cases h; exact XS.sipush X hx rfl hd hr
  case lconst i => cases h; exact XT.lconst X hx rfl hd hr
  case aconst_null => cases h; exact XS.aconstNull X hx rfl hd hr
  case iinc k cst =>
    split at h
    · rename_i x e1
      split at h
      · rename_i l e2
        cases h
        exact XS.iinc X hx rfl hd (cl_get e1) (stoL_ok (r := r) e2) hr
      · cases h
    · cases h
  case iadd => obtain ⟨x, y, t, rfl, rfl⟩ := bin_v h; exact XS.iadd X hx rfl hd rfl hr
  case isub => obtain ⟨x, y, t, rfl, rfl⟩ := bin_v h; exact XS.isub X hx rfl hd rfl hr
  case imul => obtain ⟨x, y, t, rfl, rfl⟩ := bin_v h; exact XS.imul X hx rfl hd rfl hr
  case iand => obtain ⟨x, y, t, rfl, rfl⟩ := bin_v h; exact XS.iand X hx rfl hd rfl hr
  case ior => obtain ⟨x, y, t, rfl, rfl⟩ := bin_v h; exact XT.ior X hx rfl hd rfl hr
  case ixor => obtain ⟨x, y, t, rfl, rfl⟩ := bin_v h; exact XT.ixor X hx rfl hd rfl hr
  case ishl => obtain ⟨x, y, t, rfl, rfl⟩ := bin_v h; exact XT.ishl X hx rfl hd rfl hr
  case ishr => obtain ⟨x, y, t, rfl, rfl⟩ := bin_v h; exact XT.ishr X hx rfl hd rfl hr
  case iushr => obtain ⟨x, y, t, rfl, rfl⟩ := bin_v h; exact XT.iushr X hx rfl hd rfl hr
  case idiv => obtain ⟨x, y, t, rfl, hy, rfl⟩ := binD_v h; exact XS.idiv X hx rfl hd rfl hy hr
  case irem =>
    obtain ⟨x, y, t, rfl, hy, rfl⟩ := binD_v h
    have q : x - x / y * y = x % y := irem_eq_mod x y
    exact XS.irem X hx rfl hd rfl hy (by rw [q]; exact hr)
  case ineg => obtain ⟨x, t, rfl, rfl⟩ := un_v h; exact XS.ineg X hx rfl hd rfl hr
  case i2l => obtain ⟨x, t, rfl, rfl⟩ := un_v h; exact XT.i2l X hx rfl hd rfl hr
  case i2b => obtain ⟨x, t, rfl, rfl⟩ := un_v h; exact XT.i2b X hx rfl hd rfl hr
  case i2c => obtain ⟨x, t, rfl, rfl⟩ := un_v h; exact XT.i2c X hx rfl hd rfl hr
  case i2s => obtain ⟨x, t, rfl, rfl⟩ := un_v h; exact XT.i2s X hx rfl hd rfl hr
  case l2i => obtain ⟨x, t, rfl, rfl⟩ := unL_v h; exact XT.l2i X hx rfl hd rfl hr
  case lneg => obtain ⟨x, t, rfl, rfl⟩ := unL_v h; exact XT.lneg X hx rfl hd rfl hr
  case ladd => obtain ⟨x, y, t, rfl, rfl⟩ := binL_v h; exact XT.ladd X hx rfl hd rfl hr
  case lsub => obtain ⟨x, y, t, rfl, rfl⟩ := binL_v h; exact XT.lsub X hx rfl hd rfl hr
  case lmul => obtain ⟨x, y, t, rfl, rfl⟩ := binL_v h; exact XT.lmul X hx rfl hd rfl hr
  case land => obtain ⟨x, y, t, rfl, rfl⟩ := binL_v h; exact XT.land X hx rfl hd rfl hr
  case lor => obtain ⟨x, y, t, rfl, rfl⟩ := binL_v h; exact XT.lor X hx rfl hd rfl hr
  case lxor => obtain ⟨x, y, t, rfl, rfl⟩ := binL_v h; exact XT.lxor X hx rfl hd rfl hr
  case lcmp => obtain ⟨x, y, t, rfl, rfl⟩ := binL_v h; exact XT.lcmp X hx rfl hd rfl hr
  case ldiv => obtain ⟨x, y, t, rfl, hy, rfl⟩ := binLD_v h; exact XT.ldiv X hx rfl hd rfl hy hr
  case lrem =>
    obtain ⟨x, y, t, rfl, hy, rfl⟩ := binLD_v h
    have q : x - (x / y) * y = x % y := lrem_mod x y
    exact XT.lrem X hx rfl hd rfl hy (by rw [q]; exact hr)
  case lshl => obtain ⟨x, y, t, rfl, rfl⟩ := shf_v h; exact XT.lshl X hx rfl hd rfl hr
  case lshr => obtain ⟨x, y, t, rfl, rfl⟩ := shf_v h; exact XT.lshr X hx rfl hd rfl hr
  case lushr => obtain ⟨x, y, t, rfl, rfl⟩ := shf_v h; exact XT.lushr X hx rfl hd rfl hr
  case dup =>
    split at h
    · rename_i x t
      split at h
      · rename_i hc; cases h; exact XS.dup X hx rfl hd rfl ((cv_cat r x).trans hc) hr
      · cases h
    · cases h
  case dup_x1 =>
    split at h
    · rename_i x y t
      split at h
      · rename_i hc
        split at h
        · rename_i hc'; cases h; exact XT.dupX1 X hx rfl hd rfl ((cv_cat r x).trans hc) ((cv_cat r y).trans hc') hr
        · cases h
      · cases h
    · cases h
  case dup2 =>
    split at h
    · rename_i x y t
      split at h
      · rename_i hc
        split at h
        · rename_i hc'; cases h; exact XT.dup2 X hx rfl hd rfl ((cv_cat r x).trans hc) ((cv_cat r y).trans hc') hr
        · cases h
      · cases h
    · cases h
  case pop =>
    split at h
    · rename_i x t
      split at h
      · rename_i hc; cases h; exact XT.pop X hx rfl hd rfl ((cv_cat r x).trans hc) hr
      · cases h
    · cases h
  case goto o => obtain ⟨h0, rfl⟩ := jmp_v h; exact XS.goto X hx rfl (pc0 := pc) rfl hd h0 rfl hr
  case if_icmp cd o =>
    split at h
    · rename_i y x t
      split at h
      · rename_i hb; obtain ⟨h0, rfl⟩ := jmp_v h; exact XS.icmpYes X hx rfl (pc0 := pc) rfl hd rfl hb h0 rfl hr
      · rename_i hb; cases h; exact XS.icmpNo X hx rfl hd rfl hb hr
    · cases h
  case ifCond cd o =>
    split at h
    · rename_i x t
      split at h
      · rename_i hb; obtain ⟨h0, rfl⟩ := jmp_v h; exact XS.ifYes X hx rfl (pc0 := pc) rfl hd rfl hb h0 rfl hr
      · rename_i hb; cases h; exact XS.ifNo X hx rfl hd rfl hb hr
    · cases h
  case ifnull o =>
    split at h
    · rename_i t; obtain ⟨h0, rfl⟩ := jmp_v h; exact XS.ifnullYes X hx rfl (pc0 := pc) rfl hd rfl h0 rfl hr
    · rename_i i t; cases h; exact XS.ifnullNo X hx rfl hd rfl hr
    · cases h
  case ifnonnull o =>
    split at h
    · rename_i i t; obtain ⟨h0, rfl⟩ := jmp_v h; exact XT.ifnonnullYes X hx rfl (pc0 := pc) rfl hd rfl h0 rfl hr
    · rename_i t; cases h; exact XT.ifnonnullNo X hx rfl hd rfl hr
    · cases h
theorem pst_ok {r : Nat → Addr} {ins : Instr} {len pc : Nat} {ls : List Slot} {st : List Value} {q : Cf} (X : At T m c below) (hx : tb.exec = Jvm.exec) (hd : decode c.code pc = .ok (ins, len)) (h : pst ins len pc ls st = some q)
    (hr : Steps tb e below (T.setTop (mkF m q.1 (cl r q.2.1) (ct r q.2.2))) target) : Steps tb e below (T.setTop (mkF m pc (cl r ls) (ct r st))) target := by
  unfold pst at h
  split at h
  · rename_i e1; subst e1; exact pcore_ok X hx hd h hr
  · cases h
end Pure

/-! ## 4. The heap: the cells that the walk has made, by number -/
abbrev ACell : Type := (Nat × List Value) ⊕ (FieldType × List Value)
abbrev Lay : Type := List (String × List (String × String × String))
def LayOk (Z : State) (a0 : Array Value) (lay : Lay) : Prop := ∀ (ci : Nat) C fs, lay[ci]? = some (C, fs) → (∀ f ∈ fs, Laid Z a0 C f.1 f.2.1 f.2.2 ∧ ∃ ty, parseFieldDescriptor f.2.2 = some ty) ∧
  ∀ (i j : Nat) f g, fs[i]? = some f → fs[j]? = some g → i ≠ j → f.2.1 ≠ g.2.1
def CellOk (Z : State) (lay : Lay) (r : Nat → Addr) (h : Heap) (a : Addr) : ACell → Prop
  | .inl (ci, vs) => ∃ C fs, lay[ci]? = some (C, fs) ∧ Exa Z h a C ∧ fs.length = vs.length ∧ ∀ (i : Nat) f v, fs[i]? = some f → vs[i]? = some v → Fld Z h a f.1 f.2.1 f.2.2 (cv r v)
  | .inr (ty, vs) => ∃ c : Cell, Arr Z h a c ty ∧ c.slots = (ct r vs).toArray ∧ (∀ v ∈ vs, fits ty v = true) ∧ Exa Z h a ("[" ++ ty.toString)
def Hp (Z : State) (lay : Lay) (n0 : Nat) (r : Nat → Addr) (h : Heap) (A : List ACell) : Prop :=
  (∀ (i : Nat) c, A[i]? = some c → n0 ≤ r i ∧ CellOk Z lay r h (r i) c) ∧ (∀ i j, i < A.length → j < A.length → r i = r j → i = j) ∧ n0 ≤ h.size
def prim : FieldType → Bool
  | .boolean | .byte | .char | .short | .int | .long | .float | .double => true
  | _ => false
def okV (N : Nat) : Value → Bool
  | .ref i => decide (i < N)
  | _ => true
def okS (N : Nat) : Slot → Bool
  | .val v => okV N v
  | _ => true
def okC (N : Nat) : ACell → Bool
  | .inl (_, vs) => vs.all (okV N)
  | .inr (ty, vs) => prim ty || vs.all (okV N)
theorem own_gs {A : List ACell} {i : Nat} {c c' : ACell} (h : A[i]? = some c) : (A.set i c')[i]? = some c' := List.getElem?_set_self (List.getElem?_eq_some_iff.mp h).1
theorem own_lt {A : List ACell} {i : Nat} {c : ACell} (h : A[i]? = some c) : i < A.length := (List.getElem?_eq_some_iff.mp h).1
section Agree
variable {N : Nat} {r r' : Nat → Addr}
theorem cv_ag (q : ∀ i, i < N → r' i = r i) {v : Value} (h : okV N v = true) : cv r' v = cv r v := by
  cases v <;> first | rfl | (simp only [okV, decide_eq_true_eq] at h; simp [cv, q _ h])
theorem cs_ag (q : ∀ i, i < N → r' i = r i) {v : Slot} (h : okS N v = true) : cs r' v = cs r v := by
  cases v <;> first | rfl | (simp only [okS] at h; simp [cs, cv_ag q h])
theorem ct_ag (q : ∀ i, i < N → r' i = r i) {st : List Value} (h : st.all (okV N) = true) : ct r' st = ct r st :=
  List.map_congr_left fun v hv => cv_ag q (List.all_eq_true.mp h v hv)
theorem cl_ag (q : ∀ i, i < N → r' i = r i) {ls : List Slot} (h : ls.all (okS N) = true) : cl r' ls = cl r ls := by
  simp only [cl]
  congr 1
  exact List.map_congr_left fun v hv => cs_ag q (List.all_eq_true.mp h v hv)
theorem prim_cv {ty : FieldType} {v : Value} (hp : prim ty = true) (hf : fits ty v = true) : cv r v = v := by
  cases v <;> first | rfl | (cases ty <;> simp_all [prim, fits])
theorem CellOk.ag {Z : State} {lay : Lay} {h : Heap} {a : Addr} (q : ∀ i, i < N → r' i = r i) : ∀ {c : ACell}, okC N c = true → CellOk Z lay r h a c → CellOk Z lay r' h a c
  | .inl (ci, vs), hk, ⟨C, fs, h1, E, h2, h3⟩ => ⟨C, fs, h1, E, h2, fun i f v hf hv => by
      rw [cv_ag q (List.all_eq_true.mp hk v (List.mem_of_getElem? hv))]
      exact h3 i f v hf hv⟩
  | .inr (ty, vs), hk, ⟨c, h1, h2, h3, h5⟩ => ⟨c, h1, by
      rw [h2]
      congr 1
      refine List.map_congr_left fun v hv => ?_
      simp only [okC, Bool.or_eq_true] at hk
      rcases hk with hk | hk
      · rw [prim_cv hk (h3 v hv), prim_cv hk (h3 v hv)]
      · exact (cv_ag q (List.all_eq_true.mp hk v hv)).symm, h3, h5⟩
end Agree
section Move
variable {Z : State} {lay : Lay} {r : Nat → Addr} {h h' : Heap} {a b : Addr} {sl : Nat} {v : Value} {n0 : Nat} {A : List ACell}
theorem CellOk.ext (E : Ext h h') : ∀ {c : ACell}, CellOk Z lay r h a c → CellOk Z lay r h' a c
  | .inl (ci, vs), ⟨C, fs, h1, F, h2, h3⟩ => ⟨C, fs, h1, F.ext E, h2, fun i f v hf hv => (h3 i f v hf hv).ext E⟩
  | .inr (ty, vs), ⟨c, h1, h2, h3, h5⟩ => ⟨c, h1.ext E, h2, h3, h5.ext E⟩
theorem CellOk.other (W : Wr h h' a sl v) (q : b ≠ a) : ∀ {c : ACell}, CellOk Z lay r h b c → CellOk Z lay r h' b c
  | .inl (ci, vs), ⟨C, fs, h1, F, h2, h3⟩ => ⟨C, fs, h1, F.wr W, h2, fun i f v hf hv => (h3 i f v hf hv).other W (Or.inl q)⟩
  | .inr (ty, vs), ⟨c, h1, h2, h3, h5⟩ => ⟨c, h1.other W q, h2, h3, h5.wr W⟩
theorem CellOk.lt : ∀ {c : ACell}, CellOk Z lay r h a c → a < h.size
  | .inl _, ⟨_, _, _, F, _⟩ => F.lt
  | .inr _, ⟨_, F, _⟩ => F.lt
theorem Hp.ext (E : Ext h h') (H : Hp Z lay n0 r h A) : Hp Z lay n0 r h' A := ⟨fun i c hc => ⟨(H.1 i c hc).1, (H.1 i c hc).2.ext E⟩, H.2.1, Nat.le_trans H.2.2 E.1⟩
theorem Hp.lt (H : Hp Z lay n0 r h A) {i : Nat} (hi : i < A.length) : r i < h.size := (H.1 i _ (List.getElem?_eq_getElem hi)).2.lt
/-- a cell is made: it bears the next number -/
theorem Hp.push (H : Hp Z lay n0 r h A) (E : Ext h h') {c : ACell} (hA : A.all (okC A.length) = true) (hc : CellOk Z lay (fun i => if i = A.length then h.size else r i) h' h.size c) :
    Hp Z lay n0 (fun i => if i = A.length then h.size else r i) h' (A ++ [c]) := by
  have q : ∀ i, i < A.length → (fun i => if i = A.length then h.size else r i) i = r i := fun i hi => if_neg (Nat.ne_of_lt hi)
  refine ⟨fun i x hx => ?_, fun i j hi hj e => ?_, Nat.le_trans H.2.2 E.1⟩
  · by_cases hi : i = A.length
    · subst hi
      simp at hx
      subst hx
      simp only [if_true]
      exact ⟨H.2.2, hc⟩
    · have hl : i < A.length := by
        have := (List.getElem?_eq_some_iff.mp hx).1
        simp at this
        omega
      rw [List.getElem?_append_left hl] at hx
      simp only [hi, if_false]
      obtain ⟨h1, h2⟩ := H.1 i x hx
      exact ⟨h1, (h2.ext E).ag q (List.all_eq_true.mp hA x (List.mem_of_getElem? hx))⟩
  · simp at hi hj
    by_cases h1 : i = A.length <;> by_cases h2 : j = A.length
    · omega
    · have e' : h.size = r j := by simpa [h1, h2] using e
      have hlt := H.lt (i := j) (by omega)
      rw [← e'] at hlt
      exact absurd hlt (Nat.lt_irrefl _)
    · have e' : r i = h.size := by simpa [h1, h2] using e
      have hlt := H.lt (i := i) (by omega)
      rw [e'] at hlt
      exact absurd hlt (Nat.lt_irrefl _)
    · have e' : r i = r j := by simpa [h1, h2] using e
      exact H.2.1 i j (by omega) (by omega) e'
/-- a cell is written -/
theorem Hp.set (H : Hp Z lay n0 r h A) {i : Nat} {x y : ACell} (hx : A[i]? = some x) (W : Wr h h' (r i) sl v) (hy : CellOk Z lay r h' (r i) y) : Hp Z lay n0 r h' (A.set i y) := by
  have hi := (List.getElem?_eq_some_iff.mp hx).1
  refine ⟨fun j z hz => ?_, fun j k hj hk e => H.2.1 j k (by simpa using hj) (by simpa using hk) e, by rw [W.size]; exact H.2.2⟩
  by_cases e : j = i
  · subst e
    rw [List.getElem?_set_self hi] at hz
    cases hz
    exact ⟨(H.1 j x hx).1, hy⟩
  · rw [List.getElem?_set_ne (Ne.symm e)] at hz
    refine ⟨(H.1 j z hz).1, (H.1 j z hz).2.other W fun q => e (H.2.1 j i (List.getElem?_eq_some_iff.mp hz).1 hi q)⟩
theorem CellOk.put {a0 : Array Value} (hL : LayOk Z a0 lay) {C : String} {ci : Nat} {vs : List Value} {fs : List (String × String × String)} {k : Nat} {f : String × String × String} {w : Value} (hC : lay[ci]? = some (C, fs)) (hf : fs[k]? = some f) (W : Wr h h' a (RoadKit.slotOf Z f.1 f.2.1 f.2.2) (cv r w))
    (H : CellOk Z lay r h a (.inl (ci, vs))) : CellOk Z lay r h' a (.inl (ci, vs.set k w)) := by
  obtain ⟨C', fs', h1, F, h2, h3⟩ := H
  cases hC.symm.trans h1
  have hk : k < fs.length := (List.getElem?_eq_some_iff.mp hf).1
  have hkv : k < vs.length := h2 ▸ hk
  refine ⟨C, fs, hC, F.wr W, by simpa using h2, fun i g u hg hu => ?_⟩
  by_cases e : i = k
  · subst e
    cases hf.symm.trans hg
    rw [List.getElem?_set_self hkv] at hu
    cases hu
    exact (h3 i f _ hf (List.getElem?_eq_getElem hkv)).same W
  · rw [List.getElem?_set_ne (Ne.symm e)] at hu
    obtain ⟨q1, q2⟩ := hL ci C fs hC
    obtain ⟨l1, t1, p1⟩ := q1 g (List.mem_of_getElem? hg)
    obtain ⟨l2, t2, p2⟩ := q1 f (List.mem_of_getElem? hf)
    exact (h3 i g u hg hu).other W (Or.inr (slot_ne l1 l2 (q2 i k g f hg hf e) p1 p2))
theorem CellOk.stA {ty : FieldType} {vs : List Value} {j : Nat} {w : Value} (hw : fits ty w = true) (H : CellOk Z lay r h a (.inr (ty, vs))) (W : Wr h h' a j (cv r w)) : CellOk Z lay r h' a (.inr (ty, vs.set j w)) := by
  obtain ⟨c, h1, h2, h3, h5⟩ := H
  refine ⟨_, h1.same W, ?_, fun v hv => ?_, h5.wr W⟩
  · simp [Cell.setSlot, h2, ct, List.map_set]
  · rcases List.mem_or_eq_of_mem_set hv with q | q
    · exact h3 v q
    · rw [q]; exact hw
end Move

/-! ## 5. Where a walk stands; that from there it ends well -/
abbrev Dt : Type := List (Nat × Instr × Nat)
def Cx (Z : State) (own : String) (D : Dt) (maxL : Nat) (ret : Option FieldType) (nm : String) (p : Program) (s : State) (m : MethodId) (meth : Method) (c : Code) : Prop :=
  p.tables.exec = Jvm.exec ∧ Z.Warmed39 s.vm ∧ s.vm.findClass own = some m.cls ∧ meth.sig.returnType = ret ∧ meth.locks = false ∧ (∀ q ∈ D, decode c.code q.1 = .ok q.2) ∧ c.maxLocals = maxL ∧ meth.name = nm
theorem Cx.dec {Z : State} {own : String} {D : Dt} {maxL : Nat} {ret : Option FieldType} {nm : String} {p : Program} {s : State} {m : MethodId} {meth : Method} {c : Code} (C : Cx Z own D maxL ret nm p s m meth c) {jx pc len : Nat} {ins : Instr} (hl : D[jx]? = some (pc, ins, len)) : decode c.code pc = .ok (ins, len) := by
  have h := C.2.2.2.2.2.1 (pc, ins, len) (List.mem_of_getElem? hl)
  dsimp only at h
  exact h
def Based (w : Bool) (s s' : State) (k : Nat) : Prop := match w with
  | false => s' = s
  | true => ∃ vm0 k0, s' = s.setVm vm0 ∧ s.Since vm0 k0 ∧ k0 ≤ k
def EndK (w : Bool) (s : State) (o : Outcome) (t : State) (L : List Loc) (k n : Nat) : Prop := match w with
  | false => FrameEnd s o t L k n
  | true => ReturnedEndW s o t L k n
def Fin (w : Bool) (Z : State) (n0 : Nat) (lay : Lay) (R : Room) (Φ : Option Value → List ACell → Prop) (N : Nat) (r : Nat → Addr) (p : Program) (e : Env) (below : List Frame) (s U : State) : Prop :=
  ∃ (s₂ : State) (v : Option Value) (L : List Loc) (A' : List ACell) (r' : Nat → Addr), Steps p.tables e below U s₂ ∧ s₂.status = .running ∧ Ended s₂ below (.returned (v.map (cv r'))) ∧ EndK w s (.returned (v.map (cv r'))) s₂ L R.cells R.slots ∧ Fr n0 L ∧
    Hp Z lay n0 r' s₂.heap A' ∧ ((∀ i, i < N → r' i = r i) ∧ N ≤ A'.length) ∧ Φ v A'
theorem Fin.back {w : Bool} {Z : State} {n0 : Nat} {lay : Lay} {R : Room} {Φ : Option Value → List ACell → Prop} {N N' : Nat} {r r' : Nat → Addr} {p : Program} {e : Env} {below : List Frame} {s U U' : State} (h : Fin w Z n0 lay R Φ N' r' p e below s U')
    (st : ∀ t, Steps p.tables e below U' t → Steps p.tables e below U t) (hN : N ≤ N') (hr : ∀ i, i < N → r' i = r i) : Fin w Z n0 lay R Φ N r p e below s U := by
  obtain ⟨s₂, v, L, A', r'', h1, h2, h3, h4, h5, h6, h7, h8⟩ := h
  exact ⟨s₂, v, L, A', r'', st _ h1, h2, h3, h4, h5, h6, ⟨fun i hi => (h7.1 i (Nat.lt_of_lt_of_le hi hN)).trans (hr i hi), Nat.le_trans hN h7.2⟩, h8⟩
/-- from pc, with these variables, this stack and these cells (so many cells and slots booked so far) the body comes to its end, and Φ holds of what it returns and of the cells then -/
def WP (w : Bool) (l : Launch) (Z : State) (n0 : Nat) (lay : Lay) (own : String) (D : Dt) (maxL : Nat) (ret : Option FieldType) (nm : String) (R : Room)
    (pc : Nat) (ls : List Slot) (st : List Value) (A : List ACell) (cells slots : Nat) (Φ : Option Value → List ACell → Prop) : Prop :=
  ∀ (p : Program) (e : Env) (s s' : State) (m : MethodId) (args : Array Value) (below : List Frame) (meth : Method) (c : Code) (T : State) (locs : List Loc) (r : Nat → Addr),
    Stand p l e R s' m args below meth c T locs cells slots → Cx Z own D maxL ret nm p s' m meth c → Fr n0 locs → Hp Z lay n0 r T.heap A → Based w s s' T.heap.size →
    Fin w Z n0 lay R Φ A.length r p e below s (T.setTop (mkF m pc (cl r ls) (ct r st)))
/-- what a call leaves, over the true heap -/
def QC (Z : State) (lay : Lay) (n0 : Nat) (r : Nat → Addr) (N : Nat) (Ψ : Option Value → List ACell → Prop) (v : Option Value) (h : Heap) (L : List Loc) : Prop :=
  Fr n0 L ∧ ∃ v' A' r', v = v'.map (cv r') ∧ Hp Z lay n0 r' h A' ∧ ((∀ i, i < N → r' i = r i) ∧ N ≤ A'.length) ∧ Ψ v' A'
/-- the contract of a method, at these arguments and these cells -/
def MT (w : Bool) (l : Launch) (Z : State) (n0 : Nat) (lay : Lay) (y : MethodName) (code : ByteArray) (maxL : Nat) (ret : Option FieldType) (ws : List Jvm.Cond) (R : Room) (as : List Value) (A : List ACell) (Φ : Option Value → List ACell → Prop) : Prop :=
  ∀ (r : Nat → Addr) (h : Heap), Hp Z lay n0 r h A → MetFree l y (head1 (Jvm.Cond.code y code maxL ret :: ws) R) (fun a U => a = (ct r as).toArray ∧ Z.Warmed39 U.vm ∧ U.heap = h) (fun _ _ _ _ _ => True)
    (fun _ U o U' => ∃ v L, o = .returned v ∧ QC Z lay n0 r A.length Φ v U'.heap L ∧ EndK w U o U' L R.cells R.slots)
theorem MT.nar {l : Launch} {Z : State} {n0 : Nat} {lay : Lay} {y : MethodName} {code : ByteArray} {maxL : Nat} {ret : Option FieldType} {ws : List Jvm.Cond} {R : Room} {as : List Value} {A : List ACell} {Φ : Option Value → List ACell → Prop} (h : MT false l Z n0 lay y code maxL ret ws R as A Φ) (r : Nat → Addr) (hp : Heap) (H : Hp Z lay n0 r hp A) :
    MetFree l y (head1 (Jvm.Cond.code y code maxL ret :: ws) R) (fun a U => a = (ct r as).toArray ∧ Z.Warmed39 U.vm ∧ U.heap = hp) (fun _ _ _ _ _ => True) (fun _ U o U' => ∃ v L, o = .returned v ∧ QC Z lay n0 r A.length Φ v U'.heap L ∧ FrameEnd U o U' L R.cells R.slots) := h r hp H
theorem MT.wid {l : Launch} {Z : State} {n0 : Nat} {lay : Lay} {y : MethodName} {code : ByteArray} {maxL : Nat} {ret : Option FieldType} {ws : List Jvm.Cond} {R : Room} {as : List Value} {A : List ACell} {Φ : Option Value → List ACell → Prop} (h : MT true l Z n0 lay y code maxL ret ws R as A Φ) (r : Nat → Addr) (hp : Heap) (H : Hp Z lay n0 r hp A) :
    MetFree l y (head1 (Jvm.Cond.code y code maxL ret :: ws) R) (fun a U => a = (ct r as).toArray ∧ Z.Warmed39 U.vm ∧ U.heap = hp) (fun _ _ _ _ _ => True) (fun _ U o U' => ∃ v L, o = .returned v ∧ QC Z lay n0 r A.length Φ v U'.heap L ∧ ReturnedEndW U o U' L R.cells R.slots) := h r hp H
def entL (as : List Value) (maxL : Nat) : List Slot :=
  let f := as.flatMap fun (v : Value) => if v.category = 2 then [Slot.val v, Slot.second] else [Slot.val v]
  f ++ List.replicate (maxL - f.length) .unset
theorem ent_ok (r : Nat → Addr) (as : List Value) (maxL : Nat) : argsToLocals (ct r as).toArray maxL = cl r (entL as maxL) := by
  have key : ∀ (as : List Value) (acc : List Slot), List.foldl (fun (acc : Array Slot) (v : Value) => if v.category = 2 then (acc.push (.val v)).push .second else acc.push (.val v)) (acc.map (cs r)).toArray (ct r as)
      = ((acc ++ as.flatMap fun (v : Value) => if v.category = 2 then [Slot.val v, Slot.second] else [Slot.val v]).map (cs r)).toArray := by
    intro as
    induction as with
    | nil => intro acc; simp [ct]
    | cons v as ih =>
      intro acc
      simp only [ct, List.map_cons, List.foldl_cons, cv_cat]
      by_cases hc : v.category = 2
      · have := ih (acc ++ [.val v, .second])
        simp only [ct] at this
        simp only [hc, if_true, List.flatMap_cons]
        rw [← List.append_assoc, ← this]
        congr 1
        simp [cs]
      · have := ih (acc ++ [.val v])
        simp only [ct] at this
        simp only [hc, if_false, List.flatMap_cons]
        rw [← List.append_assoc, ← this]
        congr 1
        simp [cs]
  have k0 := key as []
  simp only [List.map_nil, List.nil_append] at k0
  unfold argsToLocals entL
  simp only [List.size_toArray, List.foldl_toArray', k0, cl]
  simp [cs]

/-! ## 6. The rules -/
section Rules
variable {w : Bool} {l : Launch} {Z : State} {a0 : Array Value} {n0 : Nat} {lay : Lay} {own : String} {D : Dt} {maxL : Nat} {ret : Option FieldType} {nm : String} {R : Room}
  {pc jx : Nat} {ls : List Slot} {st : List Value} {A : List ACell} {cells slots : Nat} {Φ : Option Value → List ACell → Prop}
theorem W_enter {y : MethodName} {code : ByteArray} {ws : List Jvm.Cond} {as : List Value} (hpn : plainFor y = true) (hD : ∀ q ∈ D, decode code q.1 = .ok q.2) (h : WP w l Z n0 lay y.cls D maxL ret y.name R 0 (entL as maxL) [] A 0 0 Φ) :
    MT w l Z n0 lay y code maxL ret ws R as A Φ := by
  intro r hh HP
  refine MetFree.of_bodySF hpn hisR ?_
  intro p e s m args below meth c s₁ Bd hml hP hK
  obtain ⟨rfl, hZ, hh'⟩ := hP
  have X0 : Stand p l e R s m _ below meth c s₁ [] 0 0 := Stand.of_body Bd
  have e0 : s₁.heap = hh := by rw [← hh', Bd.state]; rfl
  have hby := Bd.bytes
  have C0 : Cx Z y.cls D maxL ret y.name p s m meth c := ⟨Bd.exec, hZ, findClass_of_methodNamed Bd.named, Bd.returns, Bd.notSynchronized, fun q hq => hb hby (hD q hq), hml, (name_of_methodNamed Bd.named Bd.method).1⟩
  obtain ⟨s₂, v, L, A', r', h1, h2, h3, h4, h5, h6, h7, h8⟩ := h p e s s m _ below meth c s₁ [] r X0 C0 (Fr.nil n0) (e0 ▸ HP) (by cases w; exact rfl; exact ⟨s.vm, 0, rfl, (State.WarmedH.refl s).since 0, Nat.zero_le _⟩)
  have hE : entryFrame m (ct r as).toArray maxL = mkF m 0 (cl r (entL as maxL)) (ct r []) := by unfold entryFrame; rw [ent_ok]; rfl
  exact ⟨s₂, _, castTop hE h1, h2, h3, _, L, rfl, ⟨h5, v, A', r', rfl, h6, h7, h8⟩, h4⟩
theorem W_pure {ins : Instr} {len pc' : Nat} {ls' : List Slot} {st' : List Value} (hl : D[jx]? = some (pc, ins, len)) (h : pst ins len pc ls st = some (pc', ls', st')) (hr : WP w l Z n0 lay own D maxL ret nm R pc' ls' st' A cells slots Φ) : WP w l Z n0 lay own D maxL ret nm R pc ls st A cells slots Φ :=
  fun p e s s' m args below meth c T locs r X C N H B => (hr p e s s' m args below meth c T locs r X C N H B).back (fun t ht => pst_ok X.here C.1 (C.dec hl) h ht) (Nat.le_refl _) (fun _ _ => rfl)
def srun : Dt → Nat → Nat → List Slot → List Value → Option Cf
  | _, 0, pc, ls, st => some (pc, ls, st)
  | [], _ + 1, _, _, _ => none
  | (k, ins, len) :: D, n + 1, pc, ls, st => if k = pc then (match pst ins len k ls st with | some (pc', ls', st') => srun D n pc' ls' st' | none => none) else none
theorem W_srun (n : Nat) {E : Dt} {pc' : Nat} {ls' : List Slot} {st' : List Value} (hE : ∀ q ∈ E, q ∈ D) (h : srun E n pc ls st = some (pc', ls', st')) (hr : WP w l Z n0 lay own D maxL ret nm R pc' ls' st' A cells slots Φ) : WP w l Z n0 lay own D maxL ret nm R pc ls st A cells slots Φ := by
  induction n generalizing pc ls st E with
  | zero =>
    have h' : some (pc, ls, st) = some (pc', ls', st') := by cases E <;> exact h
    cases h'; exact hr
  | succ n ih =>
    cases E with
    | nil => cases h
    | cons q E =>
      obtain ⟨k, ins, len⟩ := q
      simp only [srun] at h
      split at h
      · rename_i e0
        subst e0
        split at h
        · rename_i a b d e2
          obtain ⟨jx, hj⟩ := List.getElem?_of_mem (hE _ (List.mem_cons_self ..))
          exact W_pure hj e2 (ih (fun q hq => hE q (List.mem_cons_of_mem _ hq)) h)
        · cases h
      · cases h
/-- n plain instructions, from the jx-th row of the table -/
theorem W_run (jx n : Nat) {pc' : Nat} {ls' : List Slot} {st' : List Value} (h : srun (D.drop jx) n pc ls st = some (pc', ls', st')) (hr : WP w l Z n0 lay own D maxL ret nm R pc' ls' st' A cells slots Φ) : WP w l Z n0 lay own D maxL ret nm R pc ls st A cells slots Φ :=
  W_srun n (fun _ hq => List.mem_of_mem_drop hq) h hr
theorem W_icmp {cd : ClassFile.Cond} {o : Int} {x y : Int32} {pc' : Nat} (hl : D[jx]? = some (pc, .if_icmp cd o, 3)) (ho : 0 ≤ (pc : Int) + o) (hp : ((pc : Int) + o).toNat = pc') (h1 : if_icmp.holds cd x y = true → WP w l Z n0 lay own D maxL ret nm R pc' ls st A cells slots Φ)
    (h2 : if_icmp.holds cd x y = false → WP w l Z n0 lay own D maxL ret nm R (pc + 3) ls st A cells slots Φ) : WP w l Z n0 lay own D maxL ret nm R pc ls (.int y :: .int x :: st) A cells slots Φ := by
  subst hp
  cases hb : if_icmp.holds cd x y
  · exact W_pure hl (by simp [pst, ilen, pcore, hb]) (h2 hb)
  · exact W_pure hl (by simp [pst, ilen, pcore, hb, jmp, ho]) (h1 hb)
theorem W_if {cd : ClassFile.Cond} {o : Int} {x : Int32} {pc' : Nat} (hl : D[jx]? = some (pc, .ifCond cd o, 3)) (ho : 0 ≤ (pc : Int) + o) (hp : ((pc : Int) + o).toNat = pc') (h1 : ifCond.holds cd x = true → WP w l Z n0 lay own D maxL ret nm R pc' ls st A cells slots Φ)
    (h2 : ifCond.holds cd x = false → WP w l Z n0 lay own D maxL ret nm R (pc + 3) ls st A cells slots Φ) : WP w l Z n0 lay own D maxL ret nm R pc ls (.int x :: st) A cells slots Φ := by
  subst hp
  cases hb : ifCond.holds cd x
  · exact W_pure hl (by simp [pst, ilen, pcore, hb]) (h2 hb)
  · exact W_pure hl (by simp [pst, ilen, pcore, hb, jmp, ho]) (h1 hb)
theorem h_lt {x y : Int32} : (if_icmp.holds .lt x y = true ↔ x < y) ∧ (if_icmp.holds .lt x y = false ↔ ¬ x < y) := by
  by_cases h : x < y <;> simp [if_icmp.holds, h, Int32.not_lt, Int32.not_le, Int32.le_iff_toInt_le, Int32.lt_iff_toInt_lt] <;> (simp only [Int32.lt_iff_toInt_lt] at h; omega)
theorem h_ge {x y : Int32} : (if_icmp.holds .ge x y = true ↔ ¬ x < y) ∧ (if_icmp.holds .ge x y = false ↔ x < y) := by
  by_cases h : x < y <;> simp [if_icmp.holds, h, Int32.not_lt, Int32.not_le, Int32.le_iff_toInt_le, Int32.lt_iff_toInt_lt] <;> (simp only [Int32.lt_iff_toInt_lt] at h; omega)
theorem h_gt {x y : Int32} : (if_icmp.holds .gt x y = true ↔ y < x) ∧ (if_icmp.holds .gt x y = false ↔ ¬ y < x) := by
  by_cases h : y < x <;> simp [if_icmp.holds, h, Int32.not_lt, Int32.not_le, Int32.le_iff_toInt_le, Int32.lt_iff_toInt_lt] <;> (simp only [Int32.lt_iff_toInt_lt] at h; omega)
theorem h_le {x y : Int32} : (if_icmp.holds .le x y = true ↔ ¬ y < x) ∧ (if_icmp.holds .le x y = false ↔ y < x) := by
  by_cases h : y < x <;> simp [if_icmp.holds, h, Int32.not_lt, Int32.not_le, Int32.le_iff_toInt_le, Int32.lt_iff_toInt_lt] <;> (simp only [Int32.lt_iff_toInt_lt] at h; omega)
theorem h_eq {x y : Int32} : (if_icmp.holds .eq x y = true ↔ x = y) ∧ (if_icmp.holds .eq x y = false ↔ ¬ x = y) := by
  by_cases h : x = y <;> simp [if_icmp.holds, h, Int32.not_lt, Int32.not_le, Int32.le_iff_toInt_le, Int32.lt_iff_toInt_lt] <;> (simp only [Int32.lt_iff_toInt_lt] at h; omega)
theorem h_ne {x y : Int32} : (if_icmp.holds .ne x y = true ↔ ¬ x = y) ∧ (if_icmp.holds .ne x y = false ↔ x = y) := by
  by_cases h : x = y <;> simp [if_icmp.holds, h, Int32.not_lt, Int32.not_le, Int32.le_iff_toInt_le, Int32.lt_iff_toInt_lt] <;> (simp only [Int32.lt_iff_toInt_lt] at h; omega)
theorem W_lt {o : Int} {x y : Int32} {pc' : Nat} (hl : D[jx]? = some (pc, .if_icmp .lt o, 3)) (ho : 0 ≤ (pc : Int) + o) (hp : ((pc : Int) + o).toNat = pc') (h1 : x < y → WP w l Z n0 lay own D maxL ret nm R pc' ls st A cells slots Φ)
    (h2 : ¬ x < y → WP w l Z n0 lay own D maxL ret nm R (pc + 3) ls st A cells slots Φ) : WP w l Z n0 lay own D maxL ret nm R pc ls (.int y :: .int x :: st) A cells slots Φ :=
  W_icmp hl ho hp (fun h => h1 (h_lt.1.mp h)) (fun h => h2 (h_lt.2.mp h))
theorem W_ge {o : Int} {x y : Int32} {pc' : Nat} (hl : D[jx]? = some (pc, .if_icmp .ge o, 3)) (ho : 0 ≤ (pc : Int) + o) (hp : ((pc : Int) + o).toNat = pc') (h1 : ¬ x < y → WP w l Z n0 lay own D maxL ret nm R pc' ls st A cells slots Φ)
    (h2 : x < y → WP w l Z n0 lay own D maxL ret nm R (pc + 3) ls st A cells slots Φ) : WP w l Z n0 lay own D maxL ret nm R pc ls (.int y :: .int x :: st) A cells slots Φ :=
  W_icmp hl ho hp (fun h => h1 (h_ge.1.mp h)) (fun h => h2 (h_ge.2.mp h))
theorem W_gt {o : Int} {x y : Int32} {pc' : Nat} (hl : D[jx]? = some (pc, .if_icmp .gt o, 3)) (ho : 0 ≤ (pc : Int) + o) (hp : ((pc : Int) + o).toNat = pc') (h1 : y < x → WP w l Z n0 lay own D maxL ret nm R pc' ls st A cells slots Φ)
    (h2 : ¬ y < x → WP w l Z n0 lay own D maxL ret nm R (pc + 3) ls st A cells slots Φ) : WP w l Z n0 lay own D maxL ret nm R pc ls (.int y :: .int x :: st) A cells slots Φ :=
  W_icmp hl ho hp (fun h => h1 (h_gt.1.mp h)) (fun h => h2 (h_gt.2.mp h))
theorem W_le {o : Int} {x y : Int32} {pc' : Nat} (hl : D[jx]? = some (pc, .if_icmp .le o, 3)) (ho : 0 ≤ (pc : Int) + o) (hp : ((pc : Int) + o).toNat = pc') (h1 : ¬ y < x → WP w l Z n0 lay own D maxL ret nm R pc' ls st A cells slots Φ)
    (h2 : y < x → WP w l Z n0 lay own D maxL ret nm R (pc + 3) ls st A cells slots Φ) : WP w l Z n0 lay own D maxL ret nm R pc ls (.int y :: .int x :: st) A cells slots Φ :=
  W_icmp hl ho hp (fun h => h1 (h_le.1.mp h)) (fun h => h2 (h_le.2.mp h))
theorem W_eq {o : Int} {x y : Int32} {pc' : Nat} (hl : D[jx]? = some (pc, .if_icmp .eq o, 3)) (ho : 0 ≤ (pc : Int) + o) (hp : ((pc : Int) + o).toNat = pc') (h1 : x = y → WP w l Z n0 lay own D maxL ret nm R pc' ls st A cells slots Φ)
    (h2 : ¬ x = y → WP w l Z n0 lay own D maxL ret nm R (pc + 3) ls st A cells slots Φ) : WP w l Z n0 lay own D maxL ret nm R pc ls (.int y :: .int x :: st) A cells slots Φ :=
  W_icmp hl ho hp (fun h => h1 (h_eq.1.mp h)) (fun h => h2 (h_eq.2.mp h))
theorem W_ne {o : Int} {x y : Int32} {pc' : Nat} (hl : D[jx]? = some (pc, .if_icmp .ne o, 3)) (ho : 0 ≤ (pc : Int) + o) (hp : ((pc : Int) + o).toNat = pc') (h1 : ¬ x = y → WP w l Z n0 lay own D maxL ret nm R pc' ls st A cells slots Φ)
    (h2 : x = y → WP w l Z n0 lay own D maxL ret nm R (pc + 3) ls st A cells slots Φ) : WP w l Z n0 lay own D maxL ret nm R pc ls (.int y :: .int x :: st) A cells slots Φ :=
  W_icmp hl ho hp (fun h => h1 (h_ne.1.mp h)) (fun h => h2 (h_ne.2.mp h))
theorem W_iflt {o : Int} {x : Int32} {pc' : Nat} (hl : D[jx]? = some (pc, .ifCond .lt o, 3)) (ho : 0 ≤ (pc : Int) + o) (hp : ((pc : Int) + o).toNat = pc') (h1 : x < 0 → WP w l Z n0 lay own D maxL ret nm R pc' ls st A cells slots Φ)
    (h2 : ¬ x < 0 → WP w l Z n0 lay own D maxL ret nm R (pc + 3) ls st A cells slots Φ) : WP w l Z n0 lay own D maxL ret nm R pc ls (.int x :: st) A cells slots Φ :=
  W_if hl ho hp (fun h => h1 (h_lt.1.mp (by rw [if0] at h; exact h))) (fun h => h2 (h_lt.2.mp (by rw [if0] at h; exact h)))
theorem W_ifge {o : Int} {x : Int32} {pc' : Nat} (hl : D[jx]? = some (pc, .ifCond .ge o, 3)) (ho : 0 ≤ (pc : Int) + o) (hp : ((pc : Int) + o).toNat = pc') (h1 : ¬ x < 0 → WP w l Z n0 lay own D maxL ret nm R pc' ls st A cells slots Φ)
    (h2 : x < 0 → WP w l Z n0 lay own D maxL ret nm R (pc + 3) ls st A cells slots Φ) : WP w l Z n0 lay own D maxL ret nm R pc ls (.int x :: st) A cells slots Φ :=
  W_if hl ho hp (fun h => h1 (h_ge.1.mp (by rw [if0] at h; exact h))) (fun h => h2 (h_ge.2.mp (by rw [if0] at h; exact h)))
theorem W_ifgt {o : Int} {x : Int32} {pc' : Nat} (hl : D[jx]? = some (pc, .ifCond .gt o, 3)) (ho : 0 ≤ (pc : Int) + o) (hp : ((pc : Int) + o).toNat = pc') (h1 : 0 < x → WP w l Z n0 lay own D maxL ret nm R pc' ls st A cells slots Φ)
    (h2 : ¬ 0 < x → WP w l Z n0 lay own D maxL ret nm R (pc + 3) ls st A cells slots Φ) : WP w l Z n0 lay own D maxL ret nm R pc ls (.int x :: st) A cells slots Φ :=
  W_if hl ho hp (fun h => h1 (h_gt.1.mp (by rw [if0] at h; exact h))) (fun h => h2 (h_gt.2.mp (by rw [if0] at h; exact h)))
theorem W_ifle {o : Int} {x : Int32} {pc' : Nat} (hl : D[jx]? = some (pc, .ifCond .le o, 3)) (ho : 0 ≤ (pc : Int) + o) (hp : ((pc : Int) + o).toNat = pc') (h1 : ¬ 0 < x → WP w l Z n0 lay own D maxL ret nm R pc' ls st A cells slots Φ)
    (h2 : 0 < x → WP w l Z n0 lay own D maxL ret nm R (pc + 3) ls st A cells slots Φ) : WP w l Z n0 lay own D maxL ret nm R pc ls (.int x :: st) A cells slots Φ :=
  W_if hl ho hp (fun h => h1 (h_le.1.mp (by rw [if0] at h; exact h))) (fun h => h2 (h_le.2.mp (by rw [if0] at h; exact h)))
theorem W_ifeq {o : Int} {x : Int32} {pc' : Nat} (hl : D[jx]? = some (pc, .ifCond .eq o, 3)) (ho : 0 ≤ (pc : Int) + o) (hp : ((pc : Int) + o).toNat = pc') (h1 : x = 0 → WP w l Z n0 lay own D maxL ret nm R pc' ls st A cells slots Φ)
    (h2 : ¬ x = 0 → WP w l Z n0 lay own D maxL ret nm R (pc + 3) ls st A cells slots Φ) : WP w l Z n0 lay own D maxL ret nm R pc ls (.int x :: st) A cells slots Φ :=
  W_if hl ho hp (fun h => h1 (h_eq.1.mp (by rw [if0] at h; exact h))) (fun h => h2 (h_eq.2.mp (by rw [if0] at h; exact h)))
theorem W_ifne {o : Int} {x : Int32} {pc' : Nat} (hl : D[jx]? = some (pc, .ifCond .ne o, 3)) (ho : 0 ≤ (pc : Int) + o) (hp : ((pc : Int) + o).toNat = pc') (h1 : ¬ x = 0 → WP w l Z n0 lay own D maxL ret nm R pc' ls st A cells slots Φ)
    (h2 : x = 0 → WP w l Z n0 lay own D maxL ret nm R (pc + 3) ls st A cells slots Φ) : WP w l Z n0 lay own D maxL ret nm R pc ls (.int x :: st) A cells slots Φ :=
  W_if hl ho hp (fun h => h1 (h_ne.1.mp (by rw [if0] at h; exact h))) (fun h => h2 (h_ne.2.mp (by rw [if0] at h; exact h)))
theorem W_llt {o : Int} {x y : Int64} {pc' : Nat} (hl : D[jx]? = some (pc, .ifCond .lt o, 3)) (ho : 0 ≤ (pc : Int) + o) (hp : ((pc : Int) + o).toNat = pc') (h1 : x < y → WP w l Z n0 lay own D maxL ret nm R pc' ls st A cells slots Φ)
    (h2 : ¬ x < y → WP w l Z n0 lay own D maxL ret nm R (pc + 3) ls st A cells slots Φ) : WP w l Z n0 lay own D maxL ret nm R pc ls (.int (XT.cmpL x y) :: st) A cells slots Φ := by
  by_cases q : x < y
  · exact W_if hl ho hp (fun h => h1 q) (fun h => absurd h (by rw [XT.ll_lt_t q]; decide))
  · exact W_if hl ho hp (fun h => absurd h (by rw [XT.ll_lt_f q]; decide)) (fun h => h2 q)
theorem W_lge {o : Int} {x y : Int64} {pc' : Nat} (hl : D[jx]? = some (pc, .ifCond .ge o, 3)) (ho : 0 ≤ (pc : Int) + o) (hp : ((pc : Int) + o).toNat = pc') (h1 : ¬ x < y → WP w l Z n0 lay own D maxL ret nm R pc' ls st A cells slots Φ)
    (h2 : x < y → WP w l Z n0 lay own D maxL ret nm R (pc + 3) ls st A cells slots Φ) : WP w l Z n0 lay own D maxL ret nm R pc ls (.int (XT.cmpL x y) :: st) A cells slots Φ := by
  by_cases q : x < y
  · exact W_if hl ho hp (fun h => absurd h (by rw [XT.ll_ge_f q]; decide)) (fun h => h2 q)
  · exact W_if hl ho hp (fun h => h1 q) (fun h => absurd h (by rw [XT.ll_ge_t q]; decide))
theorem W_lgt {o : Int} {x y : Int64} {pc' : Nat} (hl : D[jx]? = some (pc, .ifCond .gt o, 3)) (ho : 0 ≤ (pc : Int) + o) (hp : ((pc : Int) + o).toNat = pc') (h1 : y < x → WP w l Z n0 lay own D maxL ret nm R pc' ls st A cells slots Φ)
    (h2 : ¬ y < x → WP w l Z n0 lay own D maxL ret nm R (pc + 3) ls st A cells slots Φ) : WP w l Z n0 lay own D maxL ret nm R pc ls (.int (XT.cmpL x y) :: st) A cells slots Φ := by
  by_cases q : y < x
  · exact W_if hl ho hp (fun h => h1 q) (fun h => absurd h (by rw [XT.ll_gt_t q]; decide))
  · exact W_if hl ho hp (fun h => absurd h (by rw [XT.ll_gt_f q]; decide)) (fun h => h2 q)
theorem W_lle {o : Int} {x y : Int64} {pc' : Nat} (hl : D[jx]? = some (pc, .ifCond .le o, 3)) (ho : 0 ≤ (pc : Int) + o) (hp : ((pc : Int) + o).toNat = pc') (h1 : ¬ y < x → WP w l Z n0 lay own D maxL ret nm R pc' ls st A cells slots Φ)
    (h2 : y < x → WP w l Z n0 lay own D maxL ret nm R (pc + 3) ls st A cells slots Φ) : WP w l Z n0 lay own D maxL ret nm R pc ls (.int (XT.cmpL x y) :: st) A cells slots Φ := by
  by_cases q : y < x
  · exact W_if hl ho hp (fun h => absurd h (by rw [XT.ll_le_f q]; decide)) (fun h => h2 q)
  · exact W_if hl ho hp (fun h => h1 q) (fun h => absurd h (by rw [XT.ll_le_t q]; decide))
theorem W_leq {o : Int} {x y : Int64} {pc' : Nat} (hl : D[jx]? = some (pc, .ifCond .eq o, 3)) (ho : 0 ≤ (pc : Int) + o) (hp : ((pc : Int) + o).toNat = pc') (h1 : x = y → WP w l Z n0 lay own D maxL ret nm R pc' ls st A cells slots Φ)
    (h2 : ¬ x = y → WP w l Z n0 lay own D maxL ret nm R (pc + 3) ls st A cells slots Φ) : WP w l Z n0 lay own D maxL ret nm R pc ls (.int (XT.cmpL x y) :: st) A cells slots Φ := by
  by_cases q : x = y
  · exact W_if hl ho hp (fun h => h1 q) (fun h => absurd h (by rw [XT.ll_eq_t q]; decide))
  · exact W_if hl ho hp (fun h => absurd h (by rw [XT.ll_eq_f q]; decide)) (fun h => h2 q)
theorem W_lne {o : Int} {x y : Int64} {pc' : Nat} (hl : D[jx]? = some (pc, .ifCond .ne o, 3)) (ho : 0 ≤ (pc : Int) + o) (hp : ((pc : Int) + o).toNat = pc') (h1 : ¬ x = y → WP w l Z n0 lay own D maxL ret nm R pc' ls st A cells slots Φ)
    (h2 : x = y → WP w l Z n0 lay own D maxL ret nm R (pc + 3) ls st A cells slots Φ) : WP w l Z n0 lay own D maxL ret nm R pc ls (.int (XT.cmpL x y) :: st) A cells slots Φ := by
  by_cases q : x = y
  · exact W_if hl ho hp (fun h => absurd h (by rw [XT.ll_ne_f q]; decide)) (fun h => h2 q)
  · exact W_if hl ho hp (fun h => h1 q) (fun h => absurd h (by rw [XT.ll_ne_t q]; decide))
theorem W_irem {x y : Int32} (hl : D[jx]? = some (pc, .irem, 1)) (hy : y ≠ 0) (h : WP w l Z n0 lay own D maxL ret nm R (pc + 1) ls (.int (x % y) :: st) A cells slots Φ) : WP w l Z n0 lay own D maxL ret nm R pc ls (.int y :: .int x :: st) A cells slots Φ :=
  W_pure hl (by simp [pst, ilen, pcore, binD, hy]) h
theorem W_lrem {x y : Int64} (hl : D[jx]? = some (pc, .lrem, 1)) (hy : y ≠ 0) (h : WP w l Z n0 lay own D maxL ret nm R (pc + 1) ls (.long (x % y) :: st) A cells slots Φ) : WP w l Z n0 lay own D maxL ret nm R pc ls (.long y :: .long x :: st) A cells slots Φ :=
  W_pure hl (by simp [pst, ilen, pcore, binLD, hy]) h
theorem W_idiv {x y : Int32} (hl : D[jx]? = some (pc, .idiv, 1)) (hy : y ≠ 0) (h : WP w l Z n0 lay own D maxL ret nm R (pc + 1) ls (.int (x / y) :: st) A cells slots Φ) : WP w l Z n0 lay own D maxL ret nm R pc ls (.int y :: .int x :: st) A cells slots Φ :=
  W_pure hl (by simp [pst, ilen, pcore, binD, hy]) h
theorem W_ldiv {x y : Int64} (hl : D[jx]? = some (pc, .ldiv, 1)) (hy : y ≠ 0) (h : WP w l Z n0 lay own D maxL ret nm R (pc + 1) ls (.long (x / y) :: st) A cells slots Φ) : WP w l Z n0 lay own D maxL ret nm R pc ls (.long y :: .long x :: st) A cells slots Φ :=
  W_pure hl (by simp [pst, ilen, pcore, binLD, hy]) h
theorem W_conseq {Ψ : Option Value → List ACell → Prop} (h : WP w l Z n0 lay own D maxL ret nm R pc ls st A cells slots Ψ) (hq : ∀ v B, Ψ v B → Φ v B) : WP w l Z n0 lay own D maxL ret nm R pc ls st A cells slots Φ :=
  fun p e s s' m args below meth c T locs r X C N H B => by
    obtain ⟨s₂, v, L, A', r', h1, h2, h3, h4, h5, h6, h7, h8⟩ := h p e s s' m args below meth c T locs r X C N H B
    exact ⟨s₂, v, L, A', r', h1, h2, h3, h4, h5, h6, h7, hq v A' h8⟩
theorem W_books {cells' slots' : Nat} (hc : cells ≤ cells') (hs : slots ≤ slots') (h : WP w l Z n0 lay own D maxL ret nm R pc ls st A cells' slots' Φ) : WP w l Z n0 lay own D maxL ret nm R pc ls st A cells slots Φ :=
  fun p e s s' m args below meth c T locs r X C N H B => h p e s s' m args below meth c T locs r (X.mono hc hs) C N H B
theorem MT.conseq {y : MethodName} {code : ByteArray} {ws : List Jvm.Cond} {as : List Value} {Ψ : Option Value → List ACell → Prop} (h : MT w l Z n0 lay y code maxL ret ws R as A Ψ) (hq : ∀ v B, Ψ v B → Φ v B) : MT w l Z n0 lay y code maxL ret ws R as A Φ :=
  fun r hh HP p e ha hc hk s m args below hf happ hP hK => by
    obtain ⟨n, o, h1, h2, h3, v, L, h4, ⟨h5, v', A', r', h6, h7, h8, h9⟩, h10⟩ := h r hh HP p e ha hc hk s m args below hf happ hP hK
    exact ⟨n, o, h1, h2, h3, v, L, h4, ⟨h5, v', A', r', h6, h7, h8, hq v' A' h9⟩, h10⟩
/-! returns -/
theorem Based.grow {s s' : State} {k k' : Nat} (h : Based w s s' k) (q : k ≤ k') : Based w s s' k' := by
  cases w
  · exact h
  · obtain ⟨vm0, k0, h1, h2, h3⟩ := h
    exact ⟨vm0, k0, h1, h2, Nat.le_trans h3 q⟩
theorem leaveK {p : Program} {e : Env} {s s' : State} {m : MethodId} {args : Array Value} {below : List Frame} {meth : Method} {c : Code} {T : State} {locs : List Loc} (X : Stand p l e R s' m args below meth c T locs cells slots) (B : Based w s s' T.heap.size) {v : Option Value} (hv : meth.sig.returnType = none → v = none) (hlk : meth.locks = false) (hc : cells ≤ R.cells) (hs : slots ≤ R.slots) :
    ∃ fs, (∀ (f : JFrame) (acts : List Action), f.method = m → f.locked = none → f.entered = [] → (doReturn e (T.setTop f) acts v).1 = T.setFrames fs) ∧ (T.setFrames fs).status = .running ∧ Ended (T.setFrames fs) below (.returned v) ∧ EndK w s (.returned v) (T.setFrames fs) locs R.cells R.slots := by
  cases w
  · cases B
    obtain ⟨fs, h1, h2, h3, h4, h5⟩ := X.leave hv hlk
    exact ⟨fs, h1, h2, h3, ⟨v, rfl⟩, h4, h5.mono hc hs⟩
  · obtain ⟨vm0, k0, rfl, h2, h3⟩ := B
    obtain ⟨fs, h4, h5, h6, h7, h8, h9, h10⟩ := X.leaveW h2 h3 hv hlk
    exact ⟨fs, h4, h5, h6, h7, h8, h9, h10.mono hc hs⟩
theorem W_ret {i : Instr} {v : Value} {t : FieldType} (hl : D[jx]? = some (pc, i, 1)) (hret : ret = some t) (hn : ∀ r : Nat → Addr, narrow t (cv r v) = cv r v)
    (hi : (i = .ireturn ∧ (t = .int ∨ t = .boolean ∨ t = .byte ∨ t = .char ∨ t = .short) ∧ ∃ z, v = .int z) ∨ (i = .lreturn ∧ t = .long ∧ ∃ z, v = .long z) ∨ (i = .areturn ∧ t.isReference = true ∧ v.isRef = true))
    (hc : cells ≤ R.cells) (hs : slots ≤ R.slots) (h : Φ (some v) A) : WP w l Z n0 lay own D maxL ret nm R pc ls (v :: st) A cells slots Φ :=
  fun p e s s' m args below meth c T locs r X C N H B => by
    have hD := @Cx.dec _ _ _ _ _ _ _ _ _ _ _ C
    obtain ⟨hx, hZ, hown, hre, hlk, -, hml, hnm⟩ := C
    obtain ⟨fs, h1, h2, h3, h4⟩ := leaveK X B (v := some (cv r v)) (fun q => by rw [hre, hret] at q; cases q) hlk hc hs
    refine ⟨_, some v, locs, A, r, ?_, h2, h3, h4, N, H, ⟨fun _ _ => rfl, Nat.le_refl _⟩, h⟩
    exact retOut X hx (hre.trans hret) (hn r) (by
      rcases hi with ⟨a, b, z, rfl⟩ | ⟨a, b, z, rfl⟩ | ⟨a, b, d⟩
      · exact Or.inl ⟨a, b, z, rfl⟩
      · exact Or.inr (Or.inl ⟨a, b, z, rfl⟩)
      · exact Or.inr (Or.inr (Or.inr (Or.inr ⟨a, b, (cv_isRef r v).trans d⟩)))) (hD hl) h1
theorem W_ireturn {z : Int32} (hl : D[jx]? = some (pc, .ireturn, 1)) (hret : ret = some .int) (hc : cells ≤ R.cells) (hs : slots ≤ R.slots) (h : Φ (some (.int z)) A) : WP w l Z n0 lay own D maxL ret nm R pc ls (.int z :: st) A cells slots Φ :=
  W_ret hl hret (fun _ => rfl) (Or.inl ⟨rfl, Or.inl rfl, z, rfl⟩) hc hs h
theorem W_zreturn {z : Int32} (hl : D[jx]? = some (pc, .ireturn, 1)) (hret : ret = some .boolean) (hz : narrow .boolean (.int z) = .int z) (hc : cells ≤ R.cells) (hs : slots ≤ R.slots) (h : Φ (some (.int z)) A) : WP w l Z n0 lay own D maxL ret nm R pc ls (.int z :: st) A cells slots Φ :=
  W_ret hl hret (fun _ => hz) (Or.inl ⟨rfl, Or.inr (Or.inl rfl), z, rfl⟩) hc hs h
theorem W_lreturn {z : Int64} (hl : D[jx]? = some (pc, .lreturn, 1)) (hret : ret = some .long) (hc : cells ≤ R.cells) (hs : slots ≤ R.slots) (h : Φ (some (.long z)) A) : WP w l Z n0 lay own D maxL ret nm R pc ls (.long z :: st) A cells slots Φ :=
  W_ret hl hret (fun _ => rfl) (Or.inr (Or.inl ⟨rfl, rfl, z, rfl⟩)) hc hs h
theorem W_areturn {v : Value} {t : FieldType} (hl : D[jx]? = some (pc, .areturn, 1)) (hret : ret = some t) (ht : t.isReference = true) (hv : v.isRef = true) (hc : cells ≤ R.cells) (hs : slots ≤ R.slots) (h : Φ (some v) A) : WP w l Z n0 lay own D maxL ret nm R pc ls (v :: st) A cells slots Φ :=
  W_ret hl hret (fun r => by cases v <;> simp [Value.isRef] at hv <;> cases t <;> simp [FieldType.isReference] at ht <;> rfl) (Or.inr (Or.inr ⟨rfl, ht, hv⟩)) hc hs h
theorem W_return (hl : D[jx]? = some (pc, .return_, 1)) (hret : ret = none) (hc : cells ≤ R.cells) (hs : slots ≤ R.slots) (h : Φ none A) : WP w l Z n0 lay own D maxL ret nm R pc ls [] A cells slots Φ :=
  fun p e s s' m args below meth c T locs r X C N H B => by
    have hD := @Cx.dec _ _ _ _ _ _ _ _ _ _ _ C
    obtain ⟨hx, hZ, hown, hre, hlk, -, hml, hnm⟩ := C
    obtain ⟨fs, h1, h2, h3, h4⟩ := leaveK X B (v := none) (fun _ => rfl) hlk hc hs
    exact ⟨_, none, locs, A, r, X.returnOut hx (hre.trans hret) (hD hl) h1, h2, h3, h4, N, H, ⟨fun _ _ => rfl, Nat.le_refl _⟩, h⟩
/-! constants of the pool -/
theorem W_ldcI {idx : Nat} {v : Int32} (hl : D[jx]? = some (pc, .ldc idx, 2)) (hk : (Jvm.Cond.constant own idx v).before a0 Z = true) (h : WP w l Z n0 lay own D maxL ret nm R (pc + 2) ls (.int v :: st) A cells slots Φ) : WP w l Z n0 lay own D maxL ret nm R pc ls st A cells slots Φ :=
  fun p e s s' m args below meth c T locs r X C N H B => (h p e s s' m args below meth c T locs r X C N H B).back (fun t ht => X.ldcI C.1 C.2.2.1 (mvT C.2.1 hk) rfl (C.dec hl) ht) (Nat.le_refl _) (fun _ _ => rfl)
theorem W_ldc2J {idx : Nat} {v : Int64} (hl : D[jx]? = some (pc, .ldc2_w idx, 3)) (hk : (Jvm.Cond.constantLong own idx v).before a0 Z = true) (h : WP w l Z n0 lay own D maxL ret nm R (pc + 3) ls (.long v :: st) A cells slots Φ) : WP w l Z n0 lay own D maxL ret nm R pc ls st A cells slots Φ :=
  fun p e s s' m args below meth c T locs r X C N H B => (h p e s s' m args below meth c T locs r X C N H B).back (fun t ht => X.ldc2J C.1 C.2.2.1 (mvT C.2.1 hk) rfl (C.dec hl) ht) (Nat.le_refl _) (fun _ _ => rfl)
/-! fields -/
theorem W_getfield {idx i k ci : Nat} {C : String} {vs : List Value} {v : Value} {fs : List (String × String × String)} {f : String × String × String} (hl : D[jx]? = some (pc, .getfield idx, 3)) (hk : (Jvm.Cond.fieldLink own idx f.1 f.2.1 f.2.2).before a0 Z = true) (hC : lay[ci]? = some (C, fs)) (hf : fs[k]? = some f)
    (hA : A[i]? = some (.inl (ci, vs))) (hv : vs[k]? = some v) (h : WP w l Z n0 lay own D maxL ret nm R (pc + 3) ls (v :: st) A cells slots Φ) : WP w l Z n0 lay own D maxL ret nm R pc ls (.ref i :: st) A cells slots Φ :=
  fun p e s s' m args below meth c T locs r X C' N H B => by
    obtain ⟨-, C0, fs', h1, E, h2, h3⟩ := H.1 i _ hA
    cases hC.symm.trans h1
    obtain ⟨T', X', e', st'⟩ := getF X C'.1 C'.2.1 C'.2.2.1 (host := "") (Or.inl hk) Via.refl rfl (h3 k f v hf hv) (g := mkF m pc (cl r ls) (ct r (.ref i :: st))) rfl rfl (C'.dec hl)
    exact (h p e s s' m args below meth c T' locs r X' C' N (e' ▸ H) (e' ▸ B)).back st' (Nat.le_refl _) (fun _ _ => rfl)
theorem W_putfield {idx i k kk ci : Nat} {C : String} {vs : List Value} {v : Value} {fs : List (String × String × String)} {f : String × String × String} {ty : FieldType} (hl : D[jx]? = some (pc, .putfield idx, 3)) (hL : LayOk Z a0 lay) (hk : (Jvm.Cond.fieldLink own idx f.1 f.2.1 f.2.2).before a0 Z = true)
    (hlay : (Jvm.Cond.lays C f.1 f.2.1 f.2.2).before a0 Z = true ∨ ((Jvm.Cond.laysFinal C f.1 f.2.1 f.2.2).before a0 Z = true ∧ own = f.1 ∧ nm = "<init>")) (hi : (Jvm.Cond.instantiable C kk).before a0 Z = true) (hty : parseFieldDescriptor f.2.2 = some ty)
    (hn : ∀ r : Nat → Addr, narrow ty (cv r v) = cv r v) (hfit : ∀ r : Nat → Addr, fits ty (cv r v) = true) (hC : lay[ci]? = some (C, fs)) (hf : fs[k]? = some f)
    (hA : A[i]? = some (.inl (ci, vs))) {A1 : List ACell} (hB : A.set i (.inl (ci, vs.set k v)) = A1) (h : WP w l Z n0 lay own D maxL ret nm R (pc + 3) ls st A1 cells slots Φ) : WP w l Z n0 lay own D maxL ret nm R pc ls (v :: .ref i :: st) A cells slots Φ :=
  fun p e s s' m args below meth c T locs r X C' N H B => by
    subst hB
    obtain ⟨hn0, hcell⟩ := H.1 i _ hA
    have hcell' := hcell
    obtain ⟨C0, fs', h1, E, h2, h3⟩ := hcell
    cases hC.symm.trans h1
    have hkl : k < vs.length := h2 ▸ (List.getElem?_eq_some_iff.mp hf).1
    obtain ⟨T', h', X', e', W, st'⟩ := putF X C'.1 C'.2.1 C'.2.2.1 (host := "") (Or.inl hk) Via.refl rfl (h3 k f _ hf (List.getElem?_eq_getElem hkl)) E (hlay.imp id fun q => ⟨q.1, q.2.1, C'.2.2.2.2.2.2.2.trans q.2.2⟩) hi hty (hn r) (hfit r)
      (g := mkF m pc (cl r ls) (ct r (v :: .ref i :: st))) rfl rfl (C'.dec hl)
    subst e'
    have H' := H.set hA W (hcell'.put hL hC hf W)
    refine (h p e s s' m args below meth c T' _ r X' C' (Fr.snoc X' N hn0) H' (B.grow (Nat.le_of_eq W.size.symm))).back st' (by simp) (fun _ _ => rfl)
/-! an object is made -/
theorem W_new {idx n ci : Nat} {C : String} {fs : List (String × String × String)} {vs : List Value} (hl : D[jx]? = some (pc, .new idx, 3)) (hL : LayOk Z a0 lay) (h1 : (Jvm.Cond.classLink own idx C).before a0 Z = true) (h2 : (Jvm.Cond.instantiable C n).before a0 Z = true) (h3 : (Jvm.Cond.initialized C).before a0 Z = true)
    (hC : lay[ci]? = some (C, fs)) (hvs : (fs.map fun f => (parseFieldDescriptor f.2.2).map defaultValue) = vs.map some) (hnr : vs.all (okV 0) = true) (hcc : cells + 1 ≤ R.cells) (hss : slots + n ≤ R.slots) (hck : (ls.all (okS A.length) && (st.all (okV A.length) && A.all (okC A.length))) = true)
    {N0 : Nat} {A1 : List ACell} (hN0 : A.length = N0) (hB : A ++ [.inl (ci, vs)] = A1) (h : WP w l Z n0 lay own D maxL ret nm R (pc + 3) ls (.ref N0 :: st) A1 (cells + 1) (slots + n) Φ) : WP w l Z n0 lay own D maxL ret nm R pc ls st A cells slots Φ :=
  fun p e s s' m args below meth c T locs r X C' N H B => by
    subst hN0 hB
    simp only [Bool.and_eq_true] at hck
    obtain ⟨k1, k2, k3⟩ := hck
    obtain ⟨T', h', X', e', E, Ex, Df, -, st'⟩ := newO X C'.1 C'.2.1 C'.2.2.1 h1 h2 h3 rfl (g := mkF m pc (cl r ls) (ct r st)) rfl (C'.dec hl) hcc hss
    subst e'
    have q : ∀ i, i < A.length → (fun i => if i = A.length then T.heap.size else r i) i = r i := fun i hi => if_neg (Nat.ne_of_lt hi)
    have H' := H.push E (c := .inl (ci, vs)) k3 ⟨C, fs, hC, Ex, by simpa using congrArg List.length hvs, fun i f v hf hv => by
      obtain ⟨l1, ty, p1⟩ := (hL ci C fs hC).1 f (List.mem_of_getElem? hf)
      have hi : ((fs.map fun f => (parseFieldDescriptor f.2.2).map defaultValue))[i]? = (vs.map some)[i]? := by rw [hvs]
      simp only [List.getElem?_map, hf, hv, Option.map_some, p1, Option.some.injEq] at hi
      have hcv : ∀ r, cv r v = v := fun r => by
        have := List.all_eq_true.mp hnr v (List.mem_of_getElem? hv)
        cases v <;> first | rfl | (simp [okV] at this)
      rw [hcv, ← hi]
      exact Df l1 p1⟩
    have hf := h p e s s' m args below meth c T' locs _ X' C' N H' (B.grow E.1)
    refine hf.back (fun t ht => st' t ?_) (by simp) q
    have hr1 : ct (fun i => if i = A.length then T.heap.size else r i) (.ref A.length :: st) = .ref T.heap.size :: ct r st := by
      show cv _ _ :: ct _ st = _
      rw [ct_ag q k2]
      simp [cv]
    rw [cl_ag q k1, hr1] at ht
    exact ht
/-! arrays -/
theorem W_newarray {aty : ArrayType} {n : Int32} {ty : FieldType} (cap : Nat) {vs : List Value} (hl : D[jx]? = some (pc, .newarray aty, 2)) (hty : newarray.typeOf aty = ty) (h1 : (Jvm.Cond.arrayClass ty).before a0 Z = true) (hn : ¬ n < 0) (hvs : vs = List.replicate n.toNatClampNeg (defaultValue ty))
    (hcap : n.toNatClampNeg ≤ cap) (hb : cap * 8 ≤ 536870912) (hcc : cells + 1 ≤ R.cells) (hss : slots + cap ≤ R.slots) (hck : (ls.all (okS A.length) && (st.all (okV A.length) && A.all (okC A.length))) = true)
    {N0 : Nat} {A1 : List ACell} (hN0 : A.length = N0) (hB : A ++ [.inr (ty, vs)] = A1) (h : WP w l Z n0 lay own D maxL ret nm R (pc + 2) ls (.ref N0 :: st) A1 (cells + 1) (slots + cap) Φ) : WP w l Z n0 lay own D maxL ret nm R pc ls (.int n :: st) A cells slots Φ :=
  fun p e s s' m args below meth c T locs r X C' N H B => by
    subst hty hN0 hB
    simp only [Bool.and_eq_true] at hck
    obtain ⟨k1, k2, k3⟩ := hck
    obtain ⟨T', h', cA, X', e', E, Ar, Ex, st'⟩ := newPE X C'.1 C'.2.1 h1 rfl (g := mkF m pc (cl r ls) (ct r (.int n :: st))) rfl (C'.dec hl) rfl hn hcap hb hcc hss (ad := _) rfl
    subst e'
    have q : ∀ i, i < A.length → (fun i => if i = A.length then T.heap.size else r i) i = r i := fun i hi => if_neg (Nat.ne_of_lt hi)
    have hdv : ∀ r : Nat → Addr, cv r (defaultValue (newarray.typeOf aty)) = defaultValue (newarray.typeOf aty) := fun r => by cases aty <;> rfl
    have H' := H.push E (c := .inr (newarray.typeOf aty, vs)) k3 ⟨_, Ar, by subst hvs; simp [newA, ct, hdv], fun v hv => by subst hvs; rw [List.eq_of_mem_replicate hv]; cases aty <;> rfl, Ex⟩
    have hf := h p e s s' m args below meth c T' locs _ X' C' N H' (B.grow E.1)
    refine hf.back (fun t ht => st' t ?_) (by simp) q
    have hr1 : ct (fun i => if i = A.length then T.heap.size else r i) (.ref A.length :: st) = .ref T.heap.size :: ct r st := by
      show cv _ _ :: ct _ st = _
      rw [ct_ag q k2]
      simp [cv]
    rw [cl_ag q k1, hr1] at ht
    exact ht
theorem arr_at {r : Nat → Addr} {h : Heap} {a : Addr} {ty : FieldType} {vs : List Value} (H : CellOk Z lay r h a (.inr (ty, vs))) : ∃ c : Cell, Arr Z h a c ty ∧ c.slots.size = vs.length ∧ (∀ k : Nat, c.slots[k]? = (vs[k]?).map (cv r)) ∧ ∀ v ∈ vs, fits ty v = true := by
  obtain ⟨c, h1, h2, h3, -⟩ := H
  exact ⟨c, h1, by simp [h2], fun k => by simp [h2], h3⟩
theorem W_arraylength {i : Nat} {ty : FieldType} {vs : List Value} {n : Int32} (hl : D[jx]? = some (pc, .arraylength, 1)) (hA : A[i]? = some (.inr (ty, vs))) (hn : vs.length.toInt32 = n) (h : WP w l Z n0 lay own D maxL ret nm R (pc + 1) ls (.int n :: st) A cells slots Φ) : WP w l Z n0 lay own D maxL ret nm R pc ls (.ref i :: st) A cells slots Φ :=
  fun p e s s' m args below meth c T locs r X C' N H B => by
    obtain ⟨ce, h1, h2, h3, h4⟩ := arr_at (H.1 i _ hA).2
    refine (h p e s s' m args below meth c T locs r X C' N H B).back (fun t ht => ?_) (Nat.le_refl _) (fun _ _ => rfl)
    refine X.arraylength C'.1 h1.1 (State.isArrayOf_alike C'.2.1.alike h1.2.1) (g := mkF m pc (cl r ls) (ct r (.ref i :: st))) rfl rfl (C'.dec hl) t ?_
    rw [h2, hn]
    exact ht
theorem in_of {j : Int32} {n : Nat} (h0 : ¬ j < 0) (h1 : j.toNatClampNeg < n) : ¬ (j < 0 ∨ n ≤ j.toNatClampNeg) := fun q => q.elim h0 fun q => Nat.lt_irrefl _ (Nat.lt_of_lt_of_le h1 q)
theorem W_xaload {ins : Instr} {i : Nat} {ty : FieldType} {vs : List Value} {j : Int32} {v : Value} (hk : (ins = .iaload ∧ ty = .int) ∨ (ins = .laload ∧ ty = .long) ∨ (ins = .baload ∧ ty = .byte) ∨ (ins = .baload ∧ ty = .boolean) ∨ (ins = .caload ∧ ty = .char) ∨ (ins = .saload ∧ ty = .short)) (hl : D[jx]? = some (pc, ins, 1)) (hA : A[i]? = some (.inr (ty, vs))) (hj : ¬ j < 0) (hv : vs[j.toNatClampNeg]? = some v)
    (h : WP w l Z n0 lay own D maxL ret nm R (pc + 1) ls (v :: st) A cells slots Φ) : WP w l Z n0 lay own D maxL ret nm R pc ls (.int j :: .ref i :: st) A cells slots Φ :=
  fun p e s s' m args below meth c T locs r X C' N H B => by
    obtain ⟨ce, h1, h2, h3, h4⟩ := arr_at (H.1 i _ hA).2
    have hin : ¬ (j < 0 ∨ ce.slots.size ≤ j.toNatClampNeg) := in_of hj (by rw [h2]; exact (List.getElem?_eq_some_iff.mp hv).1)
    have hv' : ce.slots[j.toNatClampNeg]? = some (cv r v) := by rw [h3, hv]; rfl
    have ha := State.isArrayOf_alike C'.2.1.alike h1.2.1
    have hd := C'.dec hl
    refine (h p e s s' m args below meth c T locs r X C' N H B).back (fun t ht => ?_) (Nat.le_refl _) (fun _ _ => rfl)
    rcases hk with ⟨rfl, rfl⟩ | ⟨rfl, rfl⟩ | ⟨rfl, rfl⟩ | ⟨rfl, rfl⟩ | ⟨rfl, rfl⟩ | ⟨rfl, rfl⟩
    · exact X.iaload C'.1 h1.1 ha h1.2.2 hin hv' (g := mkF m pc (cl r ls) (ct r (.int j :: .ref i :: st))) rfl rfl hd t ht
    · exact X.laload C'.1 h1.1 ha h1.2.2 hin hv' (g := mkF m pc (cl r ls) (ct r (.int j :: .ref i :: st))) rfl rfl hd t ht
    · exact X.baloadBytes C'.1 h1.1 ha h1.2.2 hin hv' (g := mkF m pc (cl r ls) (ct r (.int j :: .ref i :: st))) rfl rfl hd t ht
    · exact X.baloadBooleans C'.1 h1.1 ha h1.2.2 hin hv' (g := mkF m pc (cl r ls) (ct r (.int j :: .ref i :: st))) rfl rfl hd t ht
    · exact X.caload C'.1 h1.1 ha h1.2.2 hin hv' (g := mkF m pc (cl r ls) (ct r (.int j :: .ref i :: st))) rfl rfl hd t ht
    · exact X.saload C'.1 h1.1 ha h1.2.2 hin hv' (g := mkF m pc (cl r ls) (ct r (.int j :: .ref i :: st))) rfl rfl hd t ht
theorem W_iaload {i : Nat} {vs : List Value} {j : Int32} {v : Value} (hl : D[jx]? = some (pc, .iaload, 1)) (hA : A[i]? = some (.inr (.int, vs))) (hj : ¬ j < 0) (hv : vs[j.toNatClampNeg]? = some v) (h : WP w l Z n0 lay own D maxL ret nm R (pc + 1) ls (v :: st) A cells slots Φ) : WP w l Z n0 lay own D maxL ret nm R pc ls (.int j :: .ref i :: st) A cells slots Φ :=
  W_xaload (Or.inl ⟨rfl, rfl⟩) hl hA hj hv h
theorem W_laload {i : Nat} {vs : List Value} {j : Int32} {v : Value} (hl : D[jx]? = some (pc, .laload, 1)) (hA : A[i]? = some (.inr (.long, vs))) (hj : ¬ j < 0) (hv : vs[j.toNatClampNeg]? = some v) (h : WP w l Z n0 lay own D maxL ret nm R (pc + 1) ls (v :: st) A cells slots Φ) : WP w l Z n0 lay own D maxL ret nm R pc ls (.int j :: .ref i :: st) A cells slots Φ :=
  W_xaload (Or.inr (Or.inl ⟨rfl, rfl⟩)) hl hA hj hv h
theorem W_baload {i : Nat} {vs : List Value} {j : Int32} {v : Value} (hl : D[jx]? = some (pc, .baload, 1)) (hA : A[i]? = some (.inr (.byte, vs))) (hj : ¬ j < 0) (hv : vs[j.toNatClampNeg]? = some v) (h : WP w l Z n0 lay own D maxL ret nm R (pc + 1) ls (v :: st) A cells slots Φ) : WP w l Z n0 lay own D maxL ret nm R pc ls (.int j :: .ref i :: st) A cells slots Φ :=
  W_xaload (Or.inr (Or.inr (Or.inl ⟨rfl, rfl⟩))) hl hA hj hv h
theorem W_zaload {i : Nat} {vs : List Value} {j : Int32} {v : Value} (hl : D[jx]? = some (pc, .baload, 1)) (hA : A[i]? = some (.inr (.boolean, vs))) (hj : ¬ j < 0) (hv : vs[j.toNatClampNeg]? = some v) (h : WP w l Z n0 lay own D maxL ret nm R (pc + 1) ls (v :: st) A cells slots Φ) : WP w l Z n0 lay own D maxL ret nm R pc ls (.int j :: .ref i :: st) A cells slots Φ :=
  W_xaload (Or.inr (Or.inr (Or.inr (Or.inl ⟨rfl, rfl⟩)))) hl hA hj hv h
theorem st_fin {p : Program} {e : Env} {s s' : State} {m : MethodId} {args : Array Value} {below : List Frame} {meth : Method} {c : Code} {T : State} {locs : List Loc} {r : Nat → Addr} {i k pc' : Nat} {ty : FieldType} {vs : List Value} {x : Value} {st' : List Value}
    (h : WP w l Z n0 lay own D maxL ret nm R pc' ls st (A.set i (.inr (ty, vs.set k x))) cells slots Φ) (C' : Cx Z own D maxL ret nm p s' m meth c) (N : Fr n0 locs) (H : Hp Z lay n0 r T.heap A) (B : Based w s s' T.heap.size) (hA : A[i]? = some (.inr (ty, vs))) (hfit : fits ty x = true) (hcv : cv r x = x)
    (hs : ∃ T' h', Stand p l e R s' m args below meth c T' (locs ++ [⟨r i, k⟩]) cells slots ∧ T'.heap = h' ∧ Wr T.heap h' (r i) k x ∧ ∀ target, Steps p.tables e below (T'.setTop (mkF m pc' (cl r ls) (ct r st))) target → Steps p.tables e below (T.setTop (mkF m pc (cl r ls) st')) target) :
    Fin w Z n0 lay R Φ A.length r p e below s (T.setTop (mkF m pc (cl r ls) st')) := by
  obtain ⟨T', h', X', e', W, st'⟩ := hs
  subst e'
  obtain ⟨hn0, hcell⟩ := H.1 i _ hA
  have H' := H.set hA W (hcell.stA hfit (by rw [hcv]; exact W))
  exact (h p e s s' m args below meth c T' _ r X' C' (Fr.snoc X' N hn0) H' (B.grow (Nat.le_of_eq W.size.symm))).back st' (by simp) (fun _ _ => rfl)
theorem W_iastore {i : Nat} {vs : List Value} {j x : Int32} (hl : D[jx]? = some (pc, .iastore, 1)) (hA : A[i]? = some (.inr (.int, vs))) (hj : ¬ j < 0) (hv : j.toNatClampNeg < vs.length)
    {A1 : List ACell} (hB : A.set i (.inr (.int, vs.set j.toNatClampNeg (.int x))) = A1) (h : WP w l Z n0 lay own D maxL ret nm R (pc + 1) ls st A1 cells slots Φ) : WP w l Z n0 lay own D maxL ret nm R pc ls (.int x :: .int j :: .ref i :: st) A cells slots Φ :=
  fun p e s s' m args below meth c T locs r X C' N H B => by
    subst hB
    obtain ⟨ce, h1, h2, h3, h4⟩ := arr_at (H.1 i _ hA).2
    exact st_fin h C' N H B hA rfl rfl (stI X C'.1 C'.2.1 rfl h1 (in_of hj (by rw [h2]; exact hv)) (g := mkF m pc (cl r ls) (ct r (.int x :: .int j :: .ref i :: st))) rfl rfl (C'.dec hl))
theorem W_lastore {i : Nat} {vs : List Value} {j : Int32} {x : Int64} (hl : D[jx]? = some (pc, .lastore, 1)) (hA : A[i]? = some (.inr (.long, vs))) (hj : ¬ j < 0) (hv : j.toNatClampNeg < vs.length)
    {A1 : List ACell} (hB : A.set i (.inr (.long, vs.set j.toNatClampNeg (.long x))) = A1) (h : WP w l Z n0 lay own D maxL ret nm R (pc + 1) ls st A1 cells slots Φ) : WP w l Z n0 lay own D maxL ret nm R pc ls (.long x :: .int j :: .ref i :: st) A cells slots Φ :=
  fun p e s s' m args below meth c T locs r X C' N H B => by
    subst hB
    obtain ⟨ce, h1, h2, h3, h4⟩ := arr_at (H.1 i _ hA).2
    exact st_fin h C' N H B hA rfl rfl (stJ X C'.1 C'.2.1 rfl h1 (in_of hj (by rw [h2]; exact hv)) (g := mkF m pc (cl r ls) (ct r (.long x :: .int j :: .ref i :: st))) rfl rfl (C'.dec hl))
theorem W_bastore {i : Nat} {vs : List Value} {j x y : Int32} (hl : D[jx]? = some (pc, .bastore, 1)) (hA : A[i]? = some (.inr (.byte, vs))) (hj : ¬ j < 0) (hv : j.toNatClampNeg < vs.length) (hy : x.toInt8.toInt32 = y)
    {A1 : List ACell} (hB : A.set i (.inr (.byte, vs.set j.toNatClampNeg (.int y))) = A1) (h : WP w l Z n0 lay own D maxL ret nm R (pc + 1) ls st A1 cells slots Φ) : WP w l Z n0 lay own D maxL ret nm R pc ls (.int x :: .int j :: .ref i :: st) A cells slots Φ :=
  fun p e s s' m args below meth c T locs r X C' N H B => by
    subst hy
    subst hB
    obtain ⟨ce, h1, h2, h3, h4⟩ := arr_at (H.1 i _ hA).2
    exact st_fin h C' N H B hA (fits_nar_byte x) rfl (stB X C'.1 C'.2.1 rfl h1 (in_of hj (by rw [h2]; exact hv)) (g := mkF m pc (cl r ls) (ct r (.int x :: .int j :: .ref i :: st))) rfl rfl (C'.dec hl))
theorem W_zastore {i : Nat} {vs : List Value} {j x y : Int32} (hl : D[jx]? = some (pc, .bastore, 1)) (hA : A[i]? = some (.inr (.boolean, vs))) (hj : ¬ j < 0) (hv : j.toNatClampNeg < vs.length) (hy : x &&& 1 = y)
    {A1 : List ACell} (hB : A.set i (.inr (.boolean, vs.set j.toNatClampNeg (.int y))) = A1) (h : WP w l Z n0 lay own D maxL ret nm R (pc + 1) ls st A1 cells slots Φ) : WP w l Z n0 lay own D maxL ret nm R pc ls (.int x :: .int j :: .ref i :: st) A cells slots Φ :=
  fun p e s s' m args below meth c T locs r X C' N H B => by
    subst hy
    subst hB
    obtain ⟨ce, h1, h2, h3, h4⟩ := arr_at (H.1 i _ hA).2
    exact st_fin h C' N H B hA (fits_nar_bool x) rfl (stZ X C'.1 C'.2.1 rfl h1 (in_of hj (by rw [h2]; exact hv)) (g := mkF m pc (cl r ls) (ct r (.int x :: .int j :: .ref i :: st))) rfl rfl (C'.dec hl))
/-! calls -/
theorem W_initO {idx i : Nat} (hl : D[jx]? = some (pc, .invokespecial idx, 3)) (w1 : (Jvm.Cond.methodLink own idx Lib.objectInit).before a0 Z = true) (w2 : (Jvm.Cond.instanceMethod Lib.objectInit).before a0 Z = true) (w3 : (Jvm.Cond.code Lib.objectInit ⟨#[0xb1]⟩ 1 none).before a0 Z = true)
    (hsz : ls.length = maxL) (hf : 1 ≤ R.frames) (hlo : (catS st + 12).ble R.locals = true) (h : WP w l Z n0 lay own D maxL ret nm R (pc + 3) ls st A cells slots Φ) : WP w l Z n0 lay own D maxL ret nm R pc ls (.ref i :: st) A cells slots Φ :=
  fun p e s s' m args below meth c T locs r X C' N H B => by
    obtain ⟨T', X', e', st'⟩ := initO X C'.1 C'.2.1 C'.2.2.1 w1 w2 w3 rfl (g := mkF m pc (cl r ls) (ct r (.ref i :: st))) rfl (by show (cl r ls).size = _; rw [cl_size, hsz, C'.2.2.2.2.2.2.1]) rfl (C'.dec hl) hf (W := catS st)
      (by show 2 * 0 + ((ct r st).map fun v => v.category).sum ≤ _; rw [ct_cat]; omega) (Nat.le_of_ble_eq_true hlo)
    exact (h p e s s' m args below meth c T' locs r X' C' N (e' ▸ H) (e' ▸ B)).back st' (Nat.le_refl _) (fun _ _ => rfl)
/-- what a call leaves -/
theorem after {rest : List Value} {pc' : Nat} {p : Program} {e : Env} {s s' : State} {m : MethodId} {args : Array Value} {below : List Frame} {meth : Method} {c : Code} {T' U : State} {locs L : List Loc} {r r' : Nat → Addr} {v v' : Option Value} {A' : List ACell}
    (hok : (ls.all (okS A.length) && rest.all (okV A.length)) = true) (q : (∀ i, i < A.length → r' i = r i) ∧ A.length ≤ A'.length)
    (h : WP w l Z n0 lay own D maxL ret nm R pc' ls (v'.toList ++ rest) A' cells slots Φ) (X : Stand p l e R s' m args below meth c T' (locs ++ L) cells slots) (C' : Cx Z own D maxL ret nm p s' m meth c) (N : Fr n0 locs) (N' : Fr n0 L) (H : Hp Z lay n0 r' T'.heap A') (B : Based w s s' T'.heap.size)
    (hv : v = v'.map (cv r')) (hst : ∀ t, Steps p.tables e below (T'.setTop (mkF m pc' (cl r ls) (v.toList ++ ct r rest))) t → Steps p.tables e below U t) : Fin w Z n0 lay R Φ A.length r p e below s U := by
  simp only [Bool.and_eq_true] at hok
  refine (h p e s s' m args below meth c T' _ r' X C' (N.app N') H B).back (fun t ht => hst t ?_) q.2 q.1
  have e1 : ct r' (v'.toList ++ rest) = v.toList ++ ct r rest := by
    rw [hv, ← ct_ag q.1 hok.2]
    simp only [ct, List.map_append]
    cases v' <;> rfl
  rw [cl_ag q.1 hok.1, e1] at ht
  exact ht
theorem Cx.re {p : Program} {s : State} {m : MethodId} {meth : Method} {c : Code} {vm' : Vm} (C' : Cx Z own D maxL ret nm p s m meth c) (hW : s.Warmed39 vm') : Cx Z own D maxL ret nm p (s.setVm vm') m meth c :=
  ⟨C'.1, State.Warmed39.trans (t := s) C'.2.1 hW, by show vm'.findClass own = _; rw [hW.alike.findClass]; exact C'.2.2.1, C'.2.2.2⟩
theorem Based.re {s s' : State} {k k' : Nat} {vm' : Vm} (B : Based true s s' k) (hS : s'.Since vm' k') (hk : k ≤ k') : Based true s (s'.setVm vm') k' := by
  obtain ⟨vm0, k0, rfl, h2, h3⟩ := B
  exact ⟨vm', k', rfl, h2.trans hS (Nat.le_trans h3 hk), Nat.le_refl _⟩
theorem stk {r : Nat → Addr} {as rest : List Value} : ct r (as.reverse ++ rest) = (ct r as).reverse ++ ct r rest := by simp [ct, List.map_append, List.map_reverse]
theorem stkI {r : Nat → Addr} {as rest : List Value} {i : Nat} : ct r (as.reverse ++ .ref i :: rest) = (ct r as).reverse ++ .ref (r i) :: ct r rest := by simp [ct, List.map_append, List.map_reverse, cv]
theorem W_callS {y : MethodName} {idx : Nat} {code : ByteArray} {mL : Nat} {rt : Option FieldType} {Rc : Room} {ps : List FieldType} {rr : Option FieldType} {Ψ : Option Value → List ACell → Prop} (as rest : List Value) (hM : MT w l Z n0 lay y code mL rt [] Rc as A Ψ) (hl : D[jx]? = some (pc, .invokestatic idx, 3))
    (w1 : (Jvm.Cond.methodLink own idx y).before a0 Z = true) (w2 : (Jvm.Cond.static y).before a0 Z = true) (w3 : (Jvm.Cond.initialized y.cls).before a0 Z = true) (w4 : (Jvm.Cond.code y code mL rt).before a0 Z = true) (hy : y.cls ≠ "java/lang/invoke/MethodHandle" ∧ y.cls ≠ "java/lang/invoke/VarHandle")
    (hpd : parseMethodDescriptor y.desc = some ⟨ps, rr⟩) (hlen : as.length = ps.length) (hst : st = as.reverse ++ rest) (hsz : ls.length = maxL) (hf : Rc.frames + 1 ≤ R.frames) (hlo : (catS rest + (mL + 11) + Rc.locals).ble R.locals = true) (hc : cells + Rc.cells ≤ R.cells) (hs : slots + Rc.slots ≤ R.slots)
    (hok : (ls.all (okS A.length) && rest.all (okV A.length)) = true) (h : ∀ v B, Ψ v B → WP w l Z n0 lay own D maxL ret nm R (pc + 3) ls (v.toList ++ rest) B (cells + Rc.cells) (slots + Rc.slots) Φ) : WP w l Z n0 lay own D maxL ret nm R pc ls st A cells slots Φ :=
  fun p e s s' m args below meth c T locs r X C' N H B => by
    subst hst
    have hsz' : (cl r ls).size = c.maxLocals := by rw [cl_size, hsz, C'.2.2.2.2.2.2.1]
    have hW : 2 * 0 + ((ct r rest).map fun v => v.category).sum ≤ catS rest := by rw [ct_cat]; omega
    have hlen' : (ct r as).length = ps.length := by simpa [ct] using hlen
    cases w
    · obtain ⟨v, vm₁, ⟨T', L', k', n'⟩, -, X', ⟨Lc, hQ, l1, y1, z1⟩, sp⟩ := Jvm.LawKit.callS X C'.1 (y := y) C'.2.2.1 (mvT C'.2.1 w1) (mvT C'.2.1 w2) (mvT C'.2.1 w3) (mvT C'.2.1 w4) hy (backOf (W := catS rest) (Q := QC Z lay n0 r A.length Ψ) (hM.nar r T.heap H) C'.2.1 w4 w3 hf (Nat.le_of_ble_eq_true hlo))
        (g := mkF m pc (cl r ls) (ct r (as.reverse ++ rest))) rfl hsz' (argsL := ct r as) (rest := ct r rest) (lenOf hpd hlen') stk hW (C'.dec hl) (fun _ _ => ⟨rfl, rfl, hc, hs⟩)
      dsimp only [Pt.U, Pt.locs, Pt.cells, Pt.slots] at X' l1 y1 z1 sp hQ
      subst l1 y1 z1
      obtain ⟨N', v', A', r', hv, H', q, hP⟩ := hQ
      exact after hok q (h v' A' hP) X' C' N N' H' B hv sp
    · obtain ⟨v, vm₁, ⟨T', L', k', n'⟩, -, X', hS, hgr, ⟨Lc, hQ, l1, y1, z1⟩, sp⟩ := callSS X C'.1 (y := y) C'.2.2.1 (mvT C'.2.1 w1) (mvT C'.2.1 w2) (mvT C'.2.1 w3) (mvT C'.2.1 w4) hy (backOfS (W := catS rest) (Q := QC Z lay n0 r A.length Ψ) (hM.wid r T.heap H) C'.2.1 w4 w3 hf (Nat.le_of_ble_eq_true hlo))
        (g := mkF m pc (cl r ls) (ct r (as.reverse ++ rest))) rfl hsz' (argsL := ct r as) (rest := ct r rest) (lenOf hpd hlen') stk hW (C'.dec hl) (fun _ _ => ⟨rfl, rfl, hc, hs⟩)
      dsimp only [Pt.U, Pt.locs, Pt.cells, Pt.slots] at X' hS hgr l1 y1 z1 sp hQ
      subst l1 y1 z1
      obtain ⟨N', v', A', r', hv, H', q, hP⟩ := hQ
      exact after hok q (h v' A' hP) X' (C'.re hS.1) N N' H' (B.re hS hgr) hv (fun t ht => sp.trans ht)
theorem W_callI {y : MethodName} {idx i : Nat} {code : ByteArray} {mL : Nat} {Rc : Room} {ps : List FieldType} {rr : Option FieldType} {Ψ : Option Value → List ACell → Prop} (as rest : List Value) (hM : MT w l Z n0 lay y code mL none [] Rc (.ref i :: as) A Ψ) (hl : D[jx]? = some (pc, .invokespecial idx, 3)) (hy1 : y.name = "<init>")
    (w1 : (Jvm.Cond.methodLink own idx y).before a0 Z = true) (w2 : (Jvm.Cond.instanceMethod y).before a0 Z = true) (w3 : (Jvm.Cond.initialized y.cls).before a0 Z = true) (w4 : (Jvm.Cond.code y code mL none).before a0 Z = true) (hy : y.cls ≠ "java/lang/invoke/MethodHandle" ∧ y.cls ≠ "java/lang/invoke/VarHandle")
    (hpd : parseMethodDescriptor y.desc = some ⟨ps, rr⟩) (hlen : as.length = ps.length) (hst : st = as.reverse ++ .ref i :: rest) (hsz : ls.length = maxL) (hf : Rc.frames + 1 ≤ R.frames) (hlo : (catS rest + (mL + 11) + Rc.locals).ble R.locals = true) (hc : cells + Rc.cells ≤ R.cells) (hs : slots + Rc.slots ≤ R.slots)
    (hok : (ls.all (okS A.length) && rest.all (okV A.length)) = true) (h : ∀ v B, Ψ v B → WP w l Z n0 lay own D maxL ret nm R (pc + 3) ls (v.toList ++ rest) B (cells + Rc.cells) (slots + Rc.slots) Φ) : WP w l Z n0 lay own D maxL ret nm R pc ls st A cells slots Φ :=
  fun p e s s' m args below meth c T locs r X C' N H B => by
    subst hst
    have hsz' : (cl r ls).size = c.maxLocals := by rw [cl_size, hsz, C'.2.2.2.2.2.2.1]
    have hW : 2 * 0 + ((ct r rest).map fun v => v.category).sum ≤ catS rest := by rw [ct_cat]; omega
    have hlen' : (ct r as).length = ps.length := by simpa [ct] using hlen
    cases w
    · obtain ⟨v, vm₁, ⟨T', L', k', n'⟩, -, X', ⟨Lc, hQ, l1, y1, z1⟩, sp⟩ := X.specialBack C'.1 (y := y) hy1 C'.2.2.1 (mvT C'.2.1 w1) (mvT C'.2.1 w2) (mvT C'.2.1 w4) hy (backOf (W := catS rest) (Q := QC Z lay n0 r A.length Ψ) (hM.nar r T.heap H) C'.2.1 w4 w3 hf (Nat.le_of_ble_eq_true hlo))
        (g := mkF m pc (cl r ls) (ct r (as.reverse ++ .ref i :: rest))) rfl hsz' (Steps.refl _) (a := r i) (argsL := ct r as) (rest := ct r rest) (lenOf hpd hlen') stkI hW (C'.dec hl) (fun _ _ => ⟨rfl, rfl, hc, hs⟩)
      dsimp only [Pt.U, Pt.locs, Pt.cells, Pt.slots] at X' l1 y1 z1 sp hQ
      subst l1 y1 z1
      obtain ⟨N', v', A', r', hv, H', q, hP⟩ := hQ
      exact after hok q (h v' A' hP) X' C' N N' H' B hv (fun t ht => sp.trans ht)
    · obtain ⟨v, vm₁, ⟨T', L', k', n'⟩, -, X', hS, hgr, ⟨Lc, hQ, l1, y1, z1⟩, sp⟩ := X.specialBackS C'.1 (y := y) hy1 C'.2.2.1 (mvT C'.2.1 w1) (mvT C'.2.1 w2) (mvT C'.2.1 w4) hy (backOfS (W := catS rest) (Q := QC Z lay n0 r A.length Ψ) (hM.wid r T.heap H) C'.2.1 w4 w3 hf (Nat.le_of_ble_eq_true hlo))
        (g := mkF m pc (cl r ls) (ct r (as.reverse ++ .ref i :: rest))) rfl hsz' (Steps.refl _) (a := r i) (argsL := ct r as) (rest := ct r rest) (lenOf hpd hlen') stkI hW (C'.dec hl) (fun _ _ => ⟨rfl, rfl, hc, hs⟩)
      dsimp only [Pt.U, Pt.locs, Pt.cells, Pt.slots] at X' hS hgr l1 y1 z1 sp hQ
      subst l1 y1 z1
      obtain ⟨N', v', A', r', hv, H', q, hP⟩ := hQ
      exact after hok q (h v' A' hP) X' (C'.re hS.1) N N' H' (B.re hS hgr) hv (fun t ht => sp.trans ht)
theorem W_callV {y : MethodName} {idx i ci : Nat} {C : String} {fs : List (String × String × String)} {vs : List Value} {code : ByteArray} {mL : Nat} {rt : Option FieldType} {Rc : Room} {ps : List FieldType} {rr : Option FieldType} {Ψ : Option Value → List ACell → Prop} (as rest : List Value) (hM : MT w l Z n0 lay y code mL rt [] Rc (.ref i :: as) A Ψ) (hl : D[jx]? = some (pc, .invokevirtual idx, 3)) (hC : lay[ci]? = some (C, fs)) (hA : A[i]? = some (.inl (ci, vs)))
    (w1 : (Jvm.Cond.methodLink own idx y).before a0 Z = true) (w2 : (Jvm.Cond.declares y).before a0 Z = true) (w5 : (Jvm.Cond.selects C y y).before a0 Z = true) (w6 : (Jvm.Cond.instanceMethod y).before a0 Z = true) (w3 : (Jvm.Cond.initialized y.cls).before a0 Z = true) (w4 : (Jvm.Cond.code y code mL rt).before a0 Z = true) (hy : y.cls ≠ "java/lang/invoke/MethodHandle" ∧ y.cls ≠ "java/lang/invoke/VarHandle")
    (hpd : parseMethodDescriptor y.desc = some ⟨ps, rr⟩) (hlen : as.length = ps.length) (hst : st = as.reverse ++ .ref i :: rest) (hsz : ls.length = maxL) (hf : Rc.frames + 1 ≤ R.frames) (hlo : (catS rest + (mL + 11) + Rc.locals).ble R.locals = true) (hc : cells + Rc.cells ≤ R.cells) (hs : slots + Rc.slots ≤ R.slots)
    (hok : (ls.all (okS A.length) && rest.all (okV A.length)) = true) (h : ∀ v B, Ψ v B → WP w l Z n0 lay own D maxL ret nm R (pc + 3) ls (v.toList ++ rest) B (cells + Rc.cells) (slots + Rc.slots) Φ) : WP w l Z n0 lay own D maxL ret nm R pc ls st A cells slots Φ :=
  fun p e s s' m args below meth c T locs r X C' N H B => by
    subst hst
    have hsz' : (cl r ls).size = c.maxLocals := by rw [cl_size, hsz, C'.2.2.2.2.2.2.1]
    have hW : 2 * 0 + ((ct r rest).map fun v => v.category).sum ≤ catS rest := by rw [ct_cat]; omega
    have hlen' : (ct r as).length = ps.length := by simpa [ct] using hlen
    have E : Exa Z T.heap (r i) C := by
      obtain ⟨-, C0, fs', h1, E, -⟩ := H.1 i _ hA
      cases hC.symm.trans h1
      exact E
    obtain ⟨cq, kq, qa, qb, qc⟩ := isOf C'.2.1 rfl E
    cases w
    · obtain ⟨v, vm₁, ⟨T', L', k', n'⟩, -, X', ⟨Lc, hQ, l1, y1, z1⟩, sp⟩ := X.virtualBack C'.1 (y := y) (z := y) C'.2.2.1 (mvT C'.2.1 w1) (mvT C'.2.1 w2) (notFace_of_selects (args := #[]) (mvT C'.2.1 w5)) (mvT C'.2.1 w5) (mvT C'.2.1 w6) hy (backOf (W := catS rest) (Q := QC Z lay n0 r A.length Ψ) (hM.nar r T.heap H) C'.2.1 w4 w3 hf (Nat.le_of_ble_eq_true hlo)) qa qc
        (g := mkF m pc (cl r ls) (ct r (as.reverse ++ .ref i :: rest))) rfl hsz' (Steps.refl _) (argsL := ct r as) (rest := ct r rest) (lenOf hpd hlen') stkI hW (C'.dec hl) (fun _ _ => ⟨rfl, rfl, hc, hs⟩)
      dsimp only [Pt.U, Pt.locs, Pt.cells, Pt.slots] at X' l1 y1 z1 sp hQ
      subst l1 y1 z1
      obtain ⟨N', v', A', r', hv, H', q, hP⟩ := hQ
      exact after hok q (h v' A' hP) X' C' N N' H' B hv (fun t ht => sp.trans ht)
    · obtain ⟨v, vm₁, ⟨T', L', k', n'⟩, -, X', hS, hgr, ⟨Lc, hQ, l1, y1, z1⟩, sp⟩ := X.virtualBackS C'.1 (y := y) (z := y) C'.2.2.1 (mvT C'.2.1 w1) (mvT C'.2.1 w2) (notFace_of_selects (args := #[]) (mvT C'.2.1 w5)) (mvT C'.2.1 w5) (mvT C'.2.1 w6) hy (backOfS (W := catS rest) (Q := QC Z lay n0 r A.length Ψ) (hM.wid r T.heap H) C'.2.1 w4 w3 hf (Nat.le_of_ble_eq_true hlo)) qa qc
        (g := mkF m pc (cl r ls) (ct r (as.reverse ++ .ref i :: rest))) rfl hsz' (Steps.refl _) (argsL := ct r as) (rest := ct r rest) (lenOf hpd hlen') stkI hW (C'.dec hl) (fun _ _ => ⟨rfl, rfl, hc, hs⟩)
      dsimp only [Pt.U, Pt.locs, Pt.cells, Pt.slots] at X' hS hgr l1 y1 z1 sp hQ
      subst l1 y1 z1
      obtain ⟨N', v', A', r', hv, H', q, hP⟩ := hQ
      exact after hok q (h v' A' hP) X' (C'.re hS.1) N N' H' (B.re hS hgr) hv (fun t ht => sp.trans ht)
end Rules
end Jvm.OwnKit
namespace Jvm.Pilot.@@N@@
open Jvm Jvm.ClassFile Sem Op Lib Jvm.Free Jvm.Stand Jvm.LawKit Jvm.RoadKit Bundle Jvm.OwnKit Jvm.Pilot.@@N@@.Jvm.D
def own_lay : Jvm.OwnKit.Lay := [("com/example/arcwise/arcwise/graph/DisjointSets", [("com/example/arcwise/arcwise/graph/DisjointSets", "parent", "[I"), ("com/example/arcwise/arcwise/graph/DisjointSets", "size", "[I"), ("com/example/arcwise/arcwise/graph/DisjointSets", "count", "I")])]
def own_fs0 : List (String × String × String) := [("com/example/arcwise/arcwise/graph/DisjointSets", "parent", "[I"), ("com/example/arcwise/arcwise/graph/DisjointSets", "size", "[I"), ("com/example/arcwise/arcwise/graph/DisjointSets", "count", "I")]
theorem own_nd0 : (own_fs0.map (fun f => f.2.1)).Nodup := by decide
theorem own_laid0 {Z : State} {a0 : Array Value} (hw : ∀ d ∈ tables_1, d.before a0 Z = true) : ∀ f ∈ own_fs0, Laid Z a0 "com/example/arcwise/arcwise/graph/DisjointSets" f.1 f.2.1 f.2.2 ∧ ∃ ty, parseFieldDescriptor f.2.2 = some ty := by
  intro f hf
  simp only [own_fs0, List.mem_cons, List.not_mem_nil, or_false] at hf
  rcases hf with rfl | rfl | rfl
  · exact ⟨Or.inr (hw _ (List.mem_of_getElem? (i := 11) rfl)), _, (by decide +kernel : parseFieldDescriptor "[I" = some (.array .int))⟩
  · exact ⟨Or.inr (hw _ (List.mem_of_getElem? (i := 13) rfl)), _, (by decide +kernel : parseFieldDescriptor "[I" = some (.array .int))⟩
  · exact ⟨Or.inl (hw _ (List.mem_of_getElem? (i := 15) rfl)), _, (by decide +kernel : parseFieldDescriptor "I" = some .int)⟩
theorem own_lay_ok {Z : State} {a0 : Array Value} (hw : ∀ d ∈ tables_1, d.before a0 Z = true) : LayOk Z a0 own_lay := fun ci C fs h => by
  match ci, h with
  | 0, h => cases h; exact ⟨own_laid0 hw, fun i j f g hi hj hne he => hne (own_nd_inj own_nd0 hi hj he)⟩
  | k + 1, h => simp [own_lay] at h
def own_D0 : Jvm.OwnKit.Dt := [(0, .new 8, 3), (3, .dup, 1), (4, .iconst 4, 1), (5, .invokespecial 19, 3), (8, .astore 5, 2), (10, .iconst 4, 1), (11, .newarray .int, 2), (13, .dup, 1), (14, .iconst 0, 1), (15, .iconst 0, 1), (16, .iastore, 1), (17, .dup, 1), (18, .iconst 1, 1), (19, .iconst 1, 1), (20, .iastore, 1), (21, .dup, 1), (22, .iconst 2, 1), (23, .iconst 2, 1), (24, .iastore, 1), (25, .dup, 1), (26, .iconst 3, 1), (27, .iconst 3, 1), (28, .iastore, 1), (29, .astore 6, 2), (31, .aload 5, 2), (33, .aload 6, 2), (35, .iload_n 0, 1), (36, .invokestatic 22, 3), (39, .aload 5, 2), (41, .aload 6, 2), (43, .iload_n 1, 1), (44, .invokestatic 22, 3), (47, .aload 5, 2), (49, .aload 6, 2), (51, .iload_n 2, 1), (52, .invokestatic 22, 3), (55, .aload 5, 2), (57, .aload 6, 2), (59, .iload_n 3, 1), (60, .invokestatic 22, 3), (63, .iconst 4, 1), (64, .newarray .int, 2), (66, .astore 7, 2), (68, .aload 7, 2), (70, .iconst 0, 1), (71, .aload 5, 2), (73, .iconst 0, 1), (74, .invokevirtual 26, 3), (77, .iastore, 1), (78, .aload 7, 2), (80, .iconst 1, 1), (81, .aload 5, 2), (83, .iconst 1, 1), (84, .invokevirtual 26, 3), (87, .iastore, 1), (88, .aload 7, 2), (90, .iconst 2, 1), (91, .aload 5, 2), (93, .iconst 2, 1), (94, .invokevirtual 26, 3), (97, .iastore, 1), (98, .aload 7, 2), (100, .iconst 3, 1), (101, .aload 5, 2), (103, .iconst 3, 1), (104, .invokevirtual 26, 3), (107, .iastore, 1), (108, .aload 7, 2), (110, .aload 6, 2), (112, .iconst 0, 1), (113, .invokestatic 30, 3), (116, .ifCond .eq 112, 3), (119, .aload 7, 2), (121, .aload 6, 2), (123, .iconst 1, 1), (124, .invokestatic 30, 3), (127, .ifCond .eq 101, 3), (130, .aload 7, 2), (132, .aload 6, 2), (134, .iconst 2, 1), (135, .invokestatic 30, 3), (138, .ifCond .eq 90, 3), (141, .aload 7, 2), (143, .aload 6, 2), (145, .iconst 3, 1), (146, .invokestatic 30, 3), (149, .ifCond .eq 79, 3), (152, .aload 7, 2), (154, .aload 6, 2), (156, .iconst 0, 1), (157, .iconst 1, 1), (158, .invokestatic 34, 3), (161, .ifCond .eq 67, 3), (164, .aload 7, 2), (166, .aload 6, 2), (168, .iconst 0, 1), (169, .iconst 2, 1), (170, .invokestatic 34, 3), (173, .ifCond .eq 55, 3), (176, .aload 7, 2), (178, .aload 6, 2), (180, .iconst 0, 1), (181, .iconst 3, 1), (182, .invokestatic 34, 3), (185, .ifCond .eq 43, 3), (188, .aload 7, 2), (190, .aload 6, 2), (192, .iconst 1, 1), (193, .iconst 2, 1), (194, .invokestatic 34, 3), (197, .ifCond .eq 31, 3), (200, .aload 7, 2), (202, .aload 6, 2), (204, .iconst 1, 1), (205, .iconst 3, 1), (206, .invokestatic 34, 3), (209, .ifCond .eq 19, 3), (212, .aload 7, 2), (214, .aload 6, 2), (216, .iconst 2, 1), (217, .iconst 3, 1), (218, .invokestatic 34, 3), (221, .ifCond .eq 7, 3), (224, .iconst 1, 1), (225, .goto 4, 3), (228, .iconst 0, 1), (229, .istore 8, 2), (231, .iload 8, 2), (233, .ifCond .ne 5, 3), (236, .iconst 0, 1), (237, .ireturn, 1), (238, .iload 4, 2), (240, .iconst 3, 1), (241, .iand, 1), (242, .istore 9, 2), (244, .aload 5, 2), (246, .aload 7, 2), (248, .iload 9, 2), (250, .iaload, 1), (251, .invokevirtual 26, 3), (254, .aload 7, 2), (256, .iload 9, 2), (258, .iaload, 1), (259, .if_icmp .ne 7, 3), (262, .iconst 1, 1), (263, .goto 4, 3), (266, .iconst 0, 1), (267, .ireturn, 1)]
set_option maxRecDepth 65536 in
theorem own_D0_ok : ∀ q ∈ own_D0, decode code q.1 = .ok q.2 := by decide +kernel
theorem own_pd0 : parseMethodDescriptor "(IIIII)Z" = some ⟨[.int, .int, .int, .int, .int], some .boolean⟩ := by decide +kernel
theorem own_pn0 : plainFor x = true := plainFor_of_name (by first | (simp [plainName, overriddenIn]; done) | decide +kernel)
def own_D1 : Jvm.OwnKit.Dt := [(0, .aload_n 0, 1), (1, .invokespecial 1, 3), (4, .iload_n 1, 1), (5, .ifCond .ge 17, 3), (8, .new 7, 3), (11, .dup, 1), (12, .iload_n 1, 1), (18, .invokespecial 13, 3), (21, .athrow, 1), (22, .aload_n 0, 1), (23, .iload_n 1, 1), (24, .newarray .int, 2), (26, .putfield 16, 3), (29, .aload_n 0, 1), (30, .iload_n 1, 1), (31, .newarray .int, 2), (33, .putfield 22, 3), (36, .iconst 0, 1), (37, .istore_n 2, 1), (38, .iload_n 2, 1), (39, .iload_n 1, 1), (40, .if_icmp .ge 23, 3), (43, .aload_n 0, 1), (44, .getfield 16, 3), (47, .iload_n 2, 1), (48, .iload_n 2, 1), (49, .iastore, 1), (50, .aload_n 0, 1), (51, .getfield 22, 3), (54, .iload_n 2, 1), (55, .iconst 1, 1), (56, .iastore, 1), (57, .iinc 2 1, 3), (60, .goto (-22), 3), (63, .aload_n 0, 1), (64, .iload_n 1, 1), (65, .putfield 25, 3), (68, .return_, 1)]
set_option maxRecDepth 65536 in
theorem own_D1_ok : ∀ q ∈ own_D1, decode prog_58_method_1_code q.1 = .ok q.2 := by decide +kernel
theorem own_pd1 : parseMethodDescriptor "(I)V" = some ⟨[.int], none⟩ := by decide +kernel
theorem own_pn1 : plainFor (⟨"com/example/arcwise/arcwise/graph/DisjointSets", "<init>", "(I)V"⟩ : MethodName) = true := plainFor_of_name (by first | (simp [plainName, overriddenIn]; done) | decide +kernel)
def own_D3 : Jvm.OwnKit.Dt := [(0, .iload_n 2, 1), (1, .iconst 3, 1), (2, .iand, 1), (3, .istore_n 3, 1), (4, .iload_n 2, 1), (5, .iconst 2, 1), (6, .iushr, 1), (7, .iconst 3, 1), (8, .iand, 1), (9, .istore 4, 2), (11, .aload_n 0, 1), (12, .iload_n 3, 1), (13, .iload 4, 2), (15, .invokevirtual 7, 3), (18, .pop, 1), (19, .aload_n 1, 1), (20, .iload_n 3, 1), (21, .iload 4, 2), (23, .invokestatic 13, 3), (26, .return_, 1)]
set_option maxRecDepth 65536 in
theorem own_D3_ok : ∀ q ∈ own_D3, decode method_3_code q.1 = .ok q.2 := by decide +kernel
theorem own_pd3 : parseMethodDescriptor "(Lcom/example/arcwise/arcwise/graph/DisjointSets;[II)V" = some ⟨[(.object "com/example/arcwise/arcwise/graph/DisjointSets"), (.array .int), .int], none⟩ := by decide +kernel
theorem own_pn3 : plainFor (⟨"com/example/arcwise/arcwise/graph/DisjointSetsFindPinLaw", "step", "(Lcom/example/arcwise/arcwise/graph/DisjointSets;[II)V"⟩ : MethodName) = true := plainFor_of_name (by first | (simp [plainName, overriddenIn]; done) | decide +kernel)
def own_D4 : Jvm.OwnKit.Dt := [(0, .aload_n 0, 1), (1, .iload_n 1, 1), (2, .invokevirtual 29, 3), (5, .istore_n 3, 1), (6, .aload_n 0, 1), (7, .iload_n 2, 1), (8, .invokevirtual 29, 3), (11, .istore 4, 2), (13, .iload_n 3, 1), (14, .iload 4, 2), (16, .if_icmp .ne 5, 3), (19, .iconst 0, 1), (20, .ireturn, 1), (21, .aload_n 0, 1), (22, .getfield 22, 3), (25, .iload_n 3, 1), (26, .iaload, 1), (27, .aload_n 0, 1), (28, .getfield 22, 3), (31, .iload 4, 2), (33, .iaload, 1), (34, .if_icmp .ge 13, 3), (37, .iload_n 3, 1), (38, .istore 5, 2), (40, .iload 4, 2), (42, .istore_n 3, 1), (43, .iload 5, 2), (45, .istore 4, 2), (47, .aload_n 0, 1), (48, .getfield 16, 3), (51, .iload 4, 2), (53, .iload_n 3, 1), (54, .iastore, 1), (55, .aload_n 0, 1), (56, .getfield 22, 3), (59, .iload_n 3, 1), (60, .dup2, 1), (61, .iaload, 1), (62, .aload_n 0, 1), (63, .getfield 22, 3), (66, .iload 4, 2), (68, .iaload, 1), (69, .iadd, 1), (70, .iastore, 1), (71, .aload_n 0, 1), (72, .dup, 1), (73, .getfield 25, 3), (76, .iconst 1, 1), (77, .isub, 1), (78, .putfield 25, 3), (81, .iconst 1, 1), (82, .ireturn, 1)]
set_option maxRecDepth 65536 in
theorem own_D4_ok : ∀ q ∈ own_D4, decode prog_58_method_3_code q.1 = .ok q.2 := by decide +kernel
theorem own_pd4 : parseMethodDescriptor "(II)Z" = some ⟨[.int, .int], some .boolean⟩ := by decide +kernel
theorem own_pn4 : plainFor (⟨"com/example/arcwise/arcwise/graph/DisjointSets", "union", "(II)Z"⟩ : MethodName) = true := plainFor_of_name (by first | (simp [plainName, overriddenIn]; done) | decide +kernel)
def own_D5 : Jvm.OwnKit.Dt := [(0, .aload_n 0, 1), (1, .getfield 16, 3), (4, .iload_n 1, 1), (5, .iaload, 1), (6, .iload_n 1, 1), (7, .if_icmp .eq 30, 3), (10, .aload_n 0, 1), (11, .getfield 16, 3), (14, .iload_n 1, 1), (15, .aload_n 0, 1), (16, .getfield 16, 3), (19, .aload_n 0, 1), (20, .getfield 16, 3), (23, .iload_n 1, 1), (24, .iaload, 1), (25, .iaload, 1), (26, .iastore, 1), (27, .aload_n 0, 1), (28, .getfield 16, 3), (31, .iload_n 1, 1), (32, .iaload, 1), (33, .istore_n 1, 1), (34, .goto (-34), 3), (37, .iload_n 1, 1), (38, .ireturn, 1)]
set_option maxRecDepth 65536 in
theorem own_D5_ok : ∀ q ∈ own_D5, decode prog_58_method_2_code q.1 = .ok q.2 := by decide +kernel
theorem own_pd5 : parseMethodDescriptor "(I)I" = some ⟨[.int], some .int⟩ := by decide +kernel
theorem own_pn5 : plainFor (⟨"com/example/arcwise/arcwise/graph/DisjointSets", "find", "(I)I"⟩ : MethodName) = true := plainFor_of_name (by first | (simp [plainName, overriddenIn]; done) | decide +kernel)
def own_D6 : Jvm.OwnKit.Dt := [(0, .aload_n 0, 1), (1, .iload_n 1, 1), (2, .iaload, 1), (3, .istore_n 3, 1), (4, .aload_n 0, 1), (5, .iload_n 2, 1), (6, .iaload, 1), (7, .istore 4, 2), (9, .aload_n 0, 1), (10, .iconst 0, 1), (11, .iaload, 1), (12, .iload 4, 2), (14, .if_icmp .ne 7, 3), (17, .aload_n 0, 1), (18, .iconst 0, 1), (19, .iload_n 3, 1), (20, .iastore, 1), (21, .aload_n 0, 1), (22, .iconst 1, 1), (23, .iaload, 1), (24, .iload 4, 2), (26, .if_icmp .ne 7, 3), (29, .aload_n 0, 1), (30, .iconst 1, 1), (31, .iload_n 3, 1), (32, .iastore, 1), (33, .aload_n 0, 1), (34, .iconst 2, 1), (35, .iaload, 1), (36, .iload 4, 2), (38, .if_icmp .ne 7, 3), (41, .aload_n 0, 1), (42, .iconst 2, 1), (43, .iload_n 3, 1), (44, .iastore, 1), (45, .aload_n 0, 1), (46, .iconst 3, 1), (47, .iaload, 1), (48, .iload 4, 2), (50, .if_icmp .ne 7, 3), (53, .aload_n 0, 1), (54, .iconst 3, 1), (55, .iload_n 3, 1), (56, .iastore, 1), (57, .return_, 1)]
set_option maxRecDepth 65536 in
theorem own_D6_ok : ∀ q ∈ own_D6, decode method_2_code q.1 = .ok q.2 := by decide +kernel
theorem own_pd6 : parseMethodDescriptor "([III)V" = some ⟨[(.array .int), .int, .int], none⟩ := by decide +kernel
theorem own_pn6 : plainFor (⟨"com/example/arcwise/arcwise/graph/DisjointSetsFindPinLaw", "merge", "([III)V"⟩ : MethodName) = true := plainFor_of_name (by first | (simp [plainName, overriddenIn]; done) | decide +kernel)
def own_D7 : Jvm.OwnKit.Dt := [(0, .aload_n 0, 1), (1, .iload_n 2, 1), (2, .iaload, 1), (3, .ifCond .lt 25, 3), (6, .aload_n 0, 1), (7, .iload_n 2, 1), (8, .iaload, 1), (9, .iconst 4, 1), (10, .if_icmp .ge 18, 3), (13, .aload_n 1, 1), (14, .aload_n 0, 1), (15, .iload_n 2, 1), (16, .iaload, 1), (17, .iaload, 1), (18, .aload_n 1, 1), (19, .iload_n 2, 1), (20, .iaload, 1), (21, .if_icmp .ne 7, 3), (24, .iconst 1, 1), (25, .goto 4, 3), (28, .iconst 0, 1), (29, .ireturn, 1)]
set_option maxRecDepth 65536 in
theorem own_D7_ok : ∀ q ∈ own_D7, decode method_4_code q.1 = .ok q.2 := by decide +kernel
theorem own_pd7 : parseMethodDescriptor "([I[II)Z" = some ⟨[(.array .int), (.array .int), .int], some .boolean⟩ := by decide +kernel
theorem own_pn7 : plainFor (⟨"com/example/arcwise/arcwise/graph/DisjointSetsFindPinLaw", "inSet", "([I[II)Z"⟩ : MethodName) = true := plainFor_of_name (by first | (simp [plainName, overriddenIn]; done) | decide +kernel)
def own_D8 : Jvm.OwnKit.Dt := [(0, .aload_n 0, 1), (1, .iload_n 2, 1), (2, .iaload, 1), (3, .aload_n 0, 1), (4, .iload_n 3, 1), (5, .iaload, 1), (6, .if_icmp .ne 7, 3), (9, .iconst 1, 1), (10, .goto 4, 3), (13, .iconst 0, 1), (14, .aload_n 1, 1), (15, .iload_n 2, 1), (16, .iaload, 1), (17, .aload_n 1, 1), (18, .iload_n 3, 1), (19, .iaload, 1), (20, .if_icmp .ne 7, 3), (23, .iconst 1, 1), (24, .goto 4, 3), (27, .iconst 0, 1), (28, .if_icmp .ne 7, 3), (31, .iconst 1, 1), (32, .goto 4, 3), (35, .iconst 0, 1), (36, .ireturn, 1)]
set_option maxRecDepth 65536 in
theorem own_D8_ok : ∀ q ∈ own_D8, decode method_5_code q.1 = .ok q.2 := by decide +kernel
theorem own_pd8 : parseMethodDescriptor "([I[III)Z" = some ⟨[(.array .int), (.array .int), .int, .int], some .boolean⟩ := by decide +kernel
theorem own_pn8 : plainFor (⟨"com/example/arcwise/arcwise/graph/DisjointSetsFindPinLaw", "same", "([I[III)Z"⟩ : MethodName) = true := plainFor_of_name (by first | (simp [plainName, overriddenIn]; done) | decide +kernel)
def own_fnd : Nat → List Int32 → Int32 → Option (Int32 × List Int32)
  | 0, _, _ => none
  | k + 1, ps, x => match ps[x.toNatClampNeg]? with
    | none => none
    | some a => if x < 0 then none else if a = x then some (x, ps) else if a < 0 then none else
      match ps[a.toNatClampNeg]? with
      | none => none
      | some b => own_fnd k (ps.set x.toNatClampNeg b) b
theorem own_fnd_succ {k : Nat} {ps ps' : List Int32} {x r : Int32} (h : own_fnd (k + 1) ps x = some (r, ps')) :
    ∃ a, ps[x.toNatClampNeg]? = some a ∧ ¬ x < 0 ∧ ((a = x ∧ r = x ∧ ps' = ps) ∨ (a ≠ x ∧ ¬ a < 0 ∧ ∃ b, ps[a.toNatClampNeg]? = some b ∧ own_fnd k (ps.set x.toNatClampNeg b) b = some (r, ps'))) := by
  simp only [own_fnd] at h
  split at h
  · cases h
  · rename_i a ha
    split at h
    · cases h
    · rename_i x0
      refine ⟨a, ha, x0, ?_⟩
      split at h
      · rename_i e
        cases h
        exact Or.inl ⟨e, rfl, rfl⟩
      · rename_i e
        split at h
        · cases h
        · rename_i a0
          split at h
          · cases h
          · rename_i b hb
            exact Or.inr ⟨e, a0, b, hb, h⟩
def own_un (a b : Int32) (p zs : List Int32) (c za zb : Int32) : List Int32 × List Int32 × Int32 :=
  if a = b then (p, zs, c) else if za < zb then (p.set a.toNatClampNeg b, zs.set b.toNatClampNeg (zb + za), c - 1) else (p.set b.toNatClampNeg a, zs.set a.toNatClampNeg (za + zb), c - 1)
abbrev own_St : Type := List Int32 × List Int32 × Int32 × List Int32
def own_ck (U : List own_St) (s : own_St) (x y : Int32) : Bool :=
  match own_fnd 8 s.1 x with
  | none => false
  | some (a, p1) => match own_fnd 8 p1 y with
    | none => false
    | some (b, p2) => match s.2.1[a.toNatClampNeg]?, s.2.1[b.toNatClampNeg]?, s.2.2.2 with
      | some za, some zb, [l0, l1, l2, l3] => match [l0, l1, l2, l3][x.toNatClampNeg]?, [l0, l1, l2, l3][y.toNatClampNeg]? with
        | some lx, some ly => !(decide (a < 0)) && (!(decide (b < 0)) && (!(decide (x < 0)) && (!(decide (y < 0)) && (Nat.blt a.toNatClampNeg p2.length && (Nat.blt b.toNatClampNeg p2.length &&
            (decide (((own_un a b p2 s.2.1 s.2.2.1 za zb).1, (own_un a b p2 s.2.1 s.2.2.1 za zb).2.1, (own_un a b p2 s.2.1 s.2.2.1 za zb).2.2, [l0, l1, l2, l3].map fun l => if l = ly then lx else l) ∈ U)))))))
        | _, _ => false
      | _, _, _ => false
theorem own_ck_ok {U : List own_St} {ps zs lb : List Int32} {c x y : Int32} (h : own_ck U (ps, zs, c, lb) x y = true) :
    ∃ a p1 b p2 za zb l0 l1 l2 l3 lx ly, own_fnd 8 ps x = some (a, p1) ∧ own_fnd 8 p1 y = some (b, p2) ∧ zs[a.toNatClampNeg]? = some za ∧ zs[b.toNatClampNeg]? = some zb ∧ lb = [l0, l1, l2, l3] ∧ [l0, l1, l2, l3][x.toNatClampNeg]? = some lx ∧ [l0, l1, l2, l3][y.toNatClampNeg]? = some ly ∧
      ¬ a < 0 ∧ ¬ b < 0 ∧ ¬ x < 0 ∧ ¬ y < 0 ∧ a.toNatClampNeg < p2.length ∧ b.toNatClampNeg < p2.length ∧
      ((own_un a b p2 zs c za zb).1, (own_un a b p2 zs c za zb).2.1, (own_un a b p2 zs c za zb).2.2, [l0, l1, l2, l3].map fun l => if l = ly then lx else l) ∈ U := by
  simp only [own_ck] at h
  split at h
  · cases h
  · rename_i a p1 h1
    split at h
    · cases h
    · rename_i b p2 h2
      split at h
      · rename_i za zb l0 l1 l2 l3 h3 h4
        split at h
        · rename_i lx ly h6 h7
          simp only [Bool.and_eq_true, Bool.not_eq_true', decide_eq_false_iff_not, decide_eq_true_eq] at h
          obtain ⟨q1, q2, q3, q4, q5, q6, q7⟩ := h
          exact ⟨a, p1, b, p2, za, zb, l0, l1, l2, l3, lx, ly, h1, h2, h3, h4, rfl, h6, h7, q1, q2, q3, q4, Nat.le_of_ble_eq_true q5, Nat.le_of_ble_eq_true q6, q7⟩
        · cases h
      · cases h
def own_U : List own_St := [([0, 0, 0, 0], [4, 1, 1, 1], 1, [0, 0, 0, 0]),
  ([0, 0, 0, 0], [4, 1, 1, 1], 1, [1, 1, 1, 1]),
  ([0, 0, 0, 0], [4, 1, 1, 1], 1, [2, 2, 2, 2]),
  ([0, 0, 0, 0], [4, 1, 1, 1], 1, [3, 3, 3, 3]),
  ([0, 0, 0, 0], [4, 1, 1, 2], 1, [0, 0, 0, 0]),
  ([0, 0, 0, 0], [4, 1, 2, 1], 1, [0, 0, 0, 0]),
  ([0, 0, 0, 0], [4, 2, 1, 1], 1, [0, 0, 0, 0]),
  ([0, 0, 0, 1], [4, 2, 1, 1], 1, [0, 0, 0, 0]),
  ([0, 0, 0, 2], [4, 1, 2, 1], 1, [0, 0, 0, 0]),
  ([0, 0, 0, 3], [3, 1, 1, 1], 2, [0, 0, 0, 3]),
  ([0, 0, 0, 3], [3, 1, 1, 1], 2, [1, 1, 1, 3]),
  ([0, 0, 0, 3], [3, 1, 1, 1], 2, [2, 2, 2, 3]),
  ([0, 0, 1, 0], [4, 2, 1, 1], 1, [0, 0, 0, 0]),
  ([0, 0, 2, 0], [3, 1, 1, 1], 2, [0, 0, 2, 0]),
  ([0, 0, 2, 0], [3, 1, 1, 1], 2, [1, 1, 2, 1]),
  ([0, 0, 2, 0], [3, 1, 1, 1], 2, [3, 3, 2, 3]),
  ([0, 0, 2, 2], [2, 1, 2, 1], 2, [0, 0, 2, 2]),
  ([0, 0, 2, 3], [2, 1, 1, 1], 3, [0, 0, 2, 3]),
  ([0, 0, 3, 0], [4, 1, 1, 2], 1, [0, 0, 0, 0]),
  ([0, 0, 3, 3], [2, 1, 1, 2], 2, [0, 0, 3, 3]),
  ([0, 1, 0, 0], [3, 1, 1, 1], 2, [0, 1, 0, 0]),
  ([0, 1, 0, 0], [3, 1, 1, 1], 2, [2, 1, 2, 2]),
  ([0, 1, 0, 0], [3, 1, 1, 1], 2, [3, 1, 3, 3]),
  ([0, 1, 0, 1], [2, 2, 1, 1], 2, [0, 1, 0, 1]),
  ([0, 1, 0, 3], [2, 1, 1, 1], 3, [0, 1, 0, 3]),
  ([0, 1, 1, 0], [2, 2, 1, 1], 2, [0, 1, 1, 0]),
  ([0, 1, 1, 1], [1, 3, 1, 1], 2, [0, 1, 1, 1]),
  ([0, 1, 1, 1], [1, 3, 1, 1], 2, [0, 2, 2, 2]),
  ([0, 1, 1, 1], [1, 3, 1, 1], 2, [0, 3, 3, 3]),
  ([0, 1, 1, 3], [1, 2, 1, 1], 3, [0, 1, 1, 3]),
  ([0, 1, 2, 0], [2, 1, 1, 1], 3, [0, 1, 2, 0]),
  ([0, 1, 2, 1], [1, 2, 1, 1], 3, [0, 1, 2, 1]),
  ([0, 1, 2, 2], [1, 1, 2, 1], 3, [0, 1, 2, 2]),
  ([0, 1, 2, 3], [1, 1, 1, 1], 4, [0, 1, 2, 3]),
  ([0, 1, 3, 3], [1, 1, 1, 2], 3, [0, 1, 3, 3]),
  ([0, 2, 0, 0], [4, 1, 2, 1], 1, [0, 0, 0, 0]),
  ([0, 2, 2, 0], [2, 1, 2, 1], 2, [0, 2, 2, 0]),
  ([0, 2, 2, 2], [1, 1, 3, 1], 2, [0, 1, 1, 1]),
  ([0, 2, 2, 2], [1, 1, 3, 1], 2, [0, 2, 2, 2]),
  ([0, 2, 2, 2], [1, 1, 3, 1], 2, [0, 3, 3, 3]),
  ([0, 2, 2, 3], [1, 1, 2, 1], 3, [0, 2, 2, 3]),
  ([0, 3, 0, 0], [4, 1, 1, 2], 1, [0, 0, 0, 0]),
  ([0, 3, 0, 3], [2, 1, 1, 2], 2, [0, 3, 0, 3]),
  ([0, 3, 2, 3], [1, 1, 1, 2], 3, [0, 3, 2, 3]),
  ([0, 3, 3, 3], [1, 1, 1, 3], 2, [0, 1, 1, 1]),
  ([0, 3, 3, 3], [1, 1, 1, 3], 2, [0, 2, 2, 2]),
  ([0, 3, 3, 3], [1, 1, 1, 3], 2, [0, 3, 3, 3]),
  ([1, 1, 0, 1], [2, 4, 1, 1], 1, [1, 1, 1, 1]),
  ([1, 1, 1, 0], [2, 4, 1, 1], 1, [1, 1, 1, 1]),
  ([1, 1, 1, 1], [1, 4, 1, 1], 1, [0, 0, 0, 0]),
  ([1, 1, 1, 1], [1, 4, 1, 1], 1, [1, 1, 1, 1]),
  ([1, 1, 1, 1], [1, 4, 1, 1], 1, [2, 2, 2, 2]),
  ([1, 1, 1, 1], [1, 4, 1, 1], 1, [3, 3, 3, 3]),
  ([1, 1, 1, 1], [1, 4, 1, 2], 1, [1, 1, 1, 1]),
  ([1, 1, 1, 1], [1, 4, 2, 1], 1, [1, 1, 1, 1]),
  ([1, 1, 1, 1], [2, 4, 1, 1], 1, [1, 1, 1, 1]),
  ([1, 1, 1, 2], [1, 4, 2, 1], 1, [1, 1, 1, 1]),
  ([1, 1, 1, 3], [1, 3, 1, 1], 2, [0, 0, 0, 3]),
  ([1, 1, 1, 3], [1, 3, 1, 1], 2, [1, 1, 1, 3]),
  ([1, 1, 1, 3], [1, 3, 1, 1], 2, [2, 2, 2, 3]),
  ([1, 1, 2, 1], [1, 3, 1, 1], 2, [0, 0, 2, 0]),
  ([1, 1, 2, 1], [1, 3, 1, 1], 2, [1, 1, 2, 1]),
  ([1, 1, 2, 1], [1, 3, 1, 1], 2, [3, 3, 2, 3]),
  ([1, 1, 2, 2], [1, 2, 2, 1], 2, [1, 1, 2, 2]),
  ([1, 1, 2, 3], [1, 2, 1, 1], 3, [1, 1, 2, 3]),
  ([1, 1, 3, 1], [1, 4, 1, 2], 1, [1, 1, 1, 1]),
  ([1, 1, 3, 3], [1, 2, 1, 2], 2, [1, 1, 3, 3]),
  ([1, 2, 2, 2], [1, 2, 4, 1], 1, [2, 2, 2, 2]),
  ([1, 3, 3, 3], [1, 2, 1, 4], 1, [3, 3, 3, 3]),
  ([2, 0, 2, 2], [2, 1, 4, 1], 1, [2, 2, 2, 2]),
  ([2, 1, 1, 1], [1, 4, 2, 1], 1, [1, 1, 1, 1]),
  ([2, 1, 2, 1], [1, 2, 2, 1], 2, [2, 1, 2, 1]),
  ([2, 1, 2, 2], [1, 1, 3, 1], 2, [0, 1, 0, 0]),
  ([2, 1, 2, 2], [1, 1, 3, 1], 2, [2, 1, 2, 2]),
  ([2, 1, 2, 2], [1, 1, 3, 1], 2, [3, 1, 3, 3]),
  ([2, 1, 2, 3], [1, 1, 2, 1], 3, [2, 1, 2, 3]),
  ([2, 2, 2, 0], [2, 1, 4, 1], 1, [2, 2, 2, 2]),
  ([2, 2, 2, 1], [1, 2, 4, 1], 1, [2, 2, 2, 2]),
  ([2, 2, 2, 2], [1, 1, 4, 1], 1, [0, 0, 0, 0]),
  ([2, 2, 2, 2], [1, 1, 4, 1], 1, [1, 1, 1, 1]),
  ([2, 2, 2, 2], [1, 1, 4, 1], 1, [2, 2, 2, 2]),
  ([2, 2, 2, 2], [1, 1, 4, 1], 1, [3, 3, 3, 3]),
  ([2, 2, 2, 2], [1, 1, 4, 2], 1, [2, 2, 2, 2]),
  ([2, 2, 2, 2], [1, 2, 4, 1], 1, [2, 2, 2, 2]),
  ([2, 2, 2, 2], [2, 1, 4, 1], 1, [2, 2, 2, 2]),
  ([2, 2, 2, 3], [1, 1, 3, 1], 2, [0, 0, 0, 3]),
  ([2, 2, 2, 3], [1, 1, 3, 1], 2, [1, 1, 1, 3]),
  ([2, 2, 2, 3], [1, 1, 3, 1], 2, [2, 2, 2, 3]),
  ([2, 3, 2, 2], [1, 1, 4, 2], 1, [2, 2, 2, 2]),
  ([2, 3, 2, 3], [1, 1, 2, 2], 2, [2, 3, 2, 3]),
  ([2, 3, 3, 3], [1, 1, 2, 4], 1, [3, 3, 3, 3]),
  ([3, 0, 3, 3], [2, 1, 1, 4], 1, [3, 3, 3, 3]),
  ([3, 1, 1, 1], [1, 4, 1, 2], 1, [1, 1, 1, 1]),
  ([3, 1, 1, 3], [1, 2, 1, 2], 2, [3, 1, 1, 3]),
  ([3, 1, 2, 3], [1, 1, 1, 2], 3, [3, 1, 2, 3]),
  ([3, 1, 3, 3], [1, 1, 1, 3], 2, [0, 1, 0, 0]),
  ([3, 1, 3, 3], [1, 1, 1, 3], 2, [2, 1, 2, 2]),
  ([3, 1, 3, 3], [1, 1, 1, 3], 2, [3, 1, 3, 3]),
  ([3, 2, 2, 2], [1, 1, 4, 2], 1, [2, 2, 2, 2]),
  ([3, 2, 2, 3], [1, 1, 2, 2], 2, [3, 2, 2, 3]),
  ([3, 2, 3, 3], [1, 1, 2, 4], 1, [3, 3, 3, 3]),
  ([3, 3, 0, 3], [2, 1, 1, 4], 1, [3, 3, 3, 3]),
  ([3, 3, 1, 3], [1, 2, 1, 4], 1, [3, 3, 3, 3]),
  ([3, 3, 2, 3], [1, 1, 1, 3], 2, [0, 0, 2, 0]),
  ([3, 3, 2, 3], [1, 1, 1, 3], 2, [1, 1, 2, 1]),
  ([3, 3, 2, 3], [1, 1, 1, 3], 2, [3, 3, 2, 3]),
  ([3, 3, 3, 3], [1, 1, 1, 4], 1, [0, 0, 0, 0]),
  ([3, 3, 3, 3], [1, 1, 1, 4], 1, [1, 1, 1, 1]),
  ([3, 3, 3, 3], [1, 1, 1, 4], 1, [2, 2, 2, 2]),
  ([3, 3, 3, 3], [1, 1, 1, 4], 1, [3, 3, 3, 3]),
  ([3, 3, 3, 3], [1, 1, 2, 4], 1, [3, 3, 3, 3]),
  ([3, 3, 3, 3], [1, 2, 1, 4], 1, [3, 3, 3, 3]),
  ([3, 3, 3, 3], [2, 1, 1, 4], 1, [3, 3, 3, 3])]
def own_I4 : List Int32 := [0, 1, 2, 3]
set_option maxRecDepth 65536 in
theorem own_all : (own_U.all fun s => own_I4.all fun x => own_I4.all fun y => own_ck own_U s x y) = true := by decide +kernel
theorem own_step_ok {ps zs lb : List Int32} {c x y : Int32} (hU : (ps, zs, c, lb) ∈ own_U) (hx : x = 0 ∨ x = 1 ∨ x = 2 ∨ x = 3) (hy : y = 0 ∨ y = 1 ∨ y = 2 ∨ y = 3) : own_ck own_U (ps, zs, c, lb) x y = true := by
  have h1 := List.all_eq_true.mp own_all _ hU
  have h2 := List.all_eq_true.mp h1 x (by simp only [own_I4, List.mem_cons, List.not_mem_nil, or_false]; exact hx)
  exact List.all_eq_true.mp h2 y (by simp only [own_I4, List.mem_cons, List.not_mem_nil, or_false]; exact hy)
def own_in4 (r li : Int32) (lb : List Int32) : Bool := !(decide (r < 0)) && (decide (r < 4) && decide (lb[r.toNatClampNeg]? = some li))
def own_sm (a b l m : Int32) : Bool := decide (a = b) == decide (l = m)
def own_tk (s : own_St) : Bool :=
  match s.2.2.2 with
  | [l0, l1, l2, l3] => match own_fnd 8 s.1 0 with
    | none => false
    | some (r0, p1) => match own_fnd 8 p1 1 with
      | none => false
      | some (r1, p2) => match own_fnd 8 p2 2 with
        | none => false
        | some (r2, p3) => match own_fnd 8 p3 3 with
          | none => false
          | some (r3, p4) => (own_in4 r0 l0 [l0, l1, l2, l3] && (own_in4 r1 l1 [l0, l1, l2, l3] && (own_in4 r2 l2 [l0, l1, l2, l3] && own_in4 r3 l3 [l0, l1, l2, l3]))) &&
            ((own_sm r0 r1 l0 l1 && (own_sm r0 r2 l0 l2 && (own_sm r0 r3 l0 l3 && (own_sm r1 r2 l1 l2 && (own_sm r1 r3 l1 l3 && own_sm r2 r3 l2 l3))))) &&
            (((own_fnd 8 p4 r0).map (·.1) == some r0) && (((own_fnd 8 p4 r1).map (·.1) == some r1) && (((own_fnd 8 p4 r2).map (·.1) == some r2) && ((own_fnd 8 p4 r3).map (·.1) == some r3)))))
  | _ => false
set_option maxRecDepth 65536 in
theorem own_tall : (own_U.all own_tk) = true := by decide +kernel
theorem own_fst {o : Option (Int32 × List Int32)} {r : Int32} (h : (o.map (·.1) == some r) = true) : ∃ p, o = some (r, p) := by
  cases o with
  | none => simp at h
  | some q => obtain ⟨a, p⟩ := q; simp at h; exact ⟨p, by rw [h]⟩
theorem own_in4_ok {r li : Int32} {lb : List Int32} (h : own_in4 r li lb = true) : ¬ r < 0 ∧ r < 4 ∧ lb[r.toNatClampNeg]? = some li := by
  simp only [own_in4, Bool.and_eq_true, Bool.not_eq_true', decide_eq_false_iff_not, decide_eq_true_eq] at h
  exact ⟨h.1, h.2.1, h.2.2⟩
theorem own_sm_ok {a b l m : Int32} (h : own_sm a b l m = true) : a = b ↔ l = m := by
  simp only [own_sm, beq_iff_eq, decide_eq_decide] at h
  exact h
theorem own_tk_ok {ps zs lb : List Int32} {c : Int32} (hU : (ps, zs, c, lb) ∈ own_U) : ∃ l0 l1 l2 l3 r0 p1 r1 p2 r2 p3 r3 p4 q0 q1 q2 q3, lb = [l0, l1, l2, l3] ∧ own_fnd 8 ps 0 = some (r0, p1) ∧ own_fnd 8 p1 1 = some (r1, p2) ∧ own_fnd 8 p2 2 = some (r2, p3) ∧ own_fnd 8 p3 3 = some (r3, p4) ∧
    ((¬ r0 < 0 ∧ r0 < 4 ∧ [l0, l1, l2, l3][r0.toNatClampNeg]? = some l0) ∧ (¬ r1 < 0 ∧ r1 < 4 ∧ [l0, l1, l2, l3][r1.toNatClampNeg]? = some l1) ∧ (¬ r2 < 0 ∧ r2 < 4 ∧ [l0, l1, l2, l3][r2.toNatClampNeg]? = some l2) ∧ (¬ r3 < 0 ∧ r3 < 4 ∧ [l0, l1, l2, l3][r3.toNatClampNeg]? = some l3)) ∧
    ((r0 = r1 ↔ l0 = l1) ∧ (r0 = r2 ↔ l0 = l2) ∧ (r0 = r3 ↔ l0 = l3) ∧ (r1 = r2 ↔ l1 = l2) ∧ (r1 = r3 ↔ l1 = l3) ∧ (r2 = r3 ↔ l2 = l3)) ∧
    own_fnd 8 p4 r0 = some (r0, q0) ∧ own_fnd 8 p4 r1 = some (r1, q1) ∧ own_fnd 8 p4 r2 = some (r2, q2) ∧ own_fnd 8 p4 r3 = some (r3, q3) := by
  have h := List.all_eq_true.mp own_tall _ hU
  simp only [own_tk] at h
  split at h
  · rename_i l0 l1 l2 l3
    split at h
    · cases h
    · rename_i r0 p1 h1
      split at h
      · cases h
      · rename_i r1 p2 h2
        split at h
        · cases h
        · rename_i r2 p3 h3
          split at h
          · cases h
          · rename_i r3 p4 h4
            simp only [Bool.and_eq_true] at h
            obtain ⟨⟨a0, a1, a2, a3⟩, ⟨b0, b1, b2, b3, b4, b5⟩, c0, c1, c2, c3⟩ := h
            obtain ⟨q0, d0⟩ := own_fst c0
            obtain ⟨q1, d1⟩ := own_fst c1
            obtain ⟨q2, d2⟩ := own_fst c2
            obtain ⟨q3, d3⟩ := own_fst c3
            exact ⟨l0, l1, l2, l3, r0, p1, r1, p2, r2, p3, r3, p4, q0, q1, q2, q3, rfl, h1, h2, h3, h4, ⟨own_in4_ok a0, own_in4_ok a1, own_in4_ok a2, own_in4_ok a3⟩, ⟨own_sm_ok b0, own_sm_ok b1, own_sm_ok b2, own_sm_ok b3, own_sm_ok b4, own_sm_ok b5⟩, d0, d1, d2, d3⟩
  · cases h

theorem own_n4 (x n : Int32) (h : (x &&& 3) = n) : n = 0 ∨ n = 1 ∨ n = 2 ∨ n = 3 := by
  have q := c_mask x 3 2 (by decide) (by decide)
  rw [h] at q
  simp only [← Int32.toInt_inj, Int32.reduceToInt]
  omega
theorem own_ix {vs : List Int32} {j v : Int32} (h : vs[j.toNatClampNeg]? = some v) : (vs.map Value.int)[j.toNatClampNeg]? = some (.int v) := by rw [List.getElem?_map, h]; rfl
theorem own_ixl {vs : List Int32} {j v : Int32} (h : vs[j.toNatClampNeg]? = some v) : j.toNatClampNeg < (vs.map Value.int).length := by rw [List.length_map]; exact (List.getElem?_eq_some_iff.mp h).1
theorem own_ixs {vs : List Int32} {j v b : Int32} (h : vs[j.toNatClampNeg]? = some v) : ((vs.set j.toNatClampNeg b).map Value.int)[j.toNatClampNeg]? = some (.int b) := by rw [List.getElem?_map, List.getElem?_set_self (List.getElem?_eq_some_iff.mp h).1]; rfl
set_option maxRecDepth 65536 in
theorem own_f4 {l : Launch} {Z : State} {a0 : Array Value} (hw : ∀ d ∈ tables_1, d.before a0 Z = true) {n0 : Nat} (zs lb : List Int32) (c : Int32) (k : Nat) : ∀ (ps ps' : List Int32) (x r : Int32) (h : own_fnd k ps x = some (r, ps')),
    WP false l Z n0 own_lay "com/example/arcwise/arcwise/graph/DisjointSets" own_D5 2 (some .int) "find" ({ frames := 0, cells := 0, slots := 0, locals := 0 } : Room) 0 [.val (.ref 0), .val (.int x)] [] [.inl (0, [.ref 1, .ref 2, .int c]), .inr (.int, (ps.map Value.int)), .inr (.int, (zs.map Value.int)), .inr (.int, (lb.map Value.int))] 0 0 (fun v B => v = some (.int r) ∧ B = [.inl (0, [.ref 1, .ref 2, .int c]), .inr (.int, (ps'.map Value.int)), .inr (.int, (zs.map Value.int)), .inr (.int, (lb.map Value.int))]) := by
  induction k with
  | zero => intro ps ps' x r h; cases h
  | succ k ih =>
    intro ps ps' x r h
    obtain ⟨a, ha, x0, hd⟩ := own_fnd_succ h
    refine W_run 0 1 (pc' := 1) (ls' := [.val (.ref 0), .val (.int x)]) (st' := [.ref 0]) rfl ?_
    refine W_getfield (jx := 1) (ci := 0) (k := 0) rfl (hw _ (List.mem_of_getElem? (i := 10) rfl)) rfl rfl rfl (v := .ref 1) rfl ?_
    refine W_run 2 1 (pc' := 5) (ls' := [.val (.ref 0), .val (.int x)]) (st' := [.int x, .ref 1]) rfl ?_
    refine W_iaload (jx := 3) rfl rfl x0 (v := .int a) (own_ix ha) ?_
    refine W_run 4 1 (pc' := 7) (ls' := [.val (.ref 0), .val (.int x)]) (st' := [.int x, .int a]) rfl ?_
    refine W_eq (jx := 5) rfl (by decide) (pc' := 37) rfl (fun h7 => ?_) (fun h7 => ?_)
    · skip
      obtain ⟨-, er, ep⟩ | ⟨e, -⟩ := hd
      rotate_left
      · exact absurd h7 e
      refine W_run 23 1 (pc' := 38) (ls' := [.val (.ref 0), .val (.int x)]) (st' := [.int x]) rfl ?_
      refine W_ireturn (jx := 24) rfl rfl (by decide) (by decide) ?_
      exact ⟨by rw [er], by rw [ep]⟩
    · skip
      obtain ⟨e, -⟩ | ⟨-, a0', b, hb, hf⟩ := hd
      · exact absurd e h7
      refine W_run 6 1 (pc' := 11) (ls' := [.val (.ref 0), .val (.int x)]) (st' := [.ref 0]) rfl ?_
      refine W_getfield (jx := 7) (ci := 0) (k := 0) rfl (hw _ (List.mem_of_getElem? (i := 10) rfl)) rfl rfl rfl (v := .ref 1) rfl ?_
      refine W_run 8 2 (pc' := 16) (ls' := [.val (.ref 0), .val (.int x)]) (st' := [.ref 0, .int x, .ref 1]) rfl ?_
      refine W_getfield (jx := 10) (ci := 0) (k := 0) rfl (hw _ (List.mem_of_getElem? (i := 10) rfl)) rfl rfl rfl (v := .ref 1) rfl ?_
      refine W_run 11 1 (pc' := 20) (ls' := [.val (.ref 0), .val (.int x)]) (st' := [.ref 0, .ref 1, .int x, .ref 1]) rfl ?_
      refine W_getfield (jx := 12) (ci := 0) (k := 0) rfl (hw _ (List.mem_of_getElem? (i := 10) rfl)) rfl rfl rfl (v := .ref 1) rfl ?_
      refine W_run 13 1 (pc' := 24) (ls' := [.val (.ref 0), .val (.int x)]) (st' := [.int x, .ref 1, .ref 1, .int x, .ref 1]) rfl ?_
      refine W_iaload (jx := 14) rfl rfl x0 (v := .int a) (own_ix ha) ?_
      refine W_iaload (jx := 15) rfl rfl a0' (v := .int b) (own_ix hb) ?_
      refine W_iastore (jx := 16) rfl rfl x0 (own_ixl ha) (A1 := [.inl (0, [.ref 1, .ref 2, .int c]), .inr (.int, ((ps.set x.toNatClampNeg b).map Value.int)), .inr (.int, (zs.map Value.int)), .inr (.int, (lb.map Value.int))]) (by rw [← List.map_set]; rfl) ?_
      refine W_run 17 1 (pc' := 28) (ls' := [.val (.ref 0), .val (.int x)]) (st' := [.ref 0]) rfl ?_
      refine W_getfield (jx := 18) (ci := 0) (k := 0) rfl (hw _ (List.mem_of_getElem? (i := 10) rfl)) rfl rfl rfl (v := .ref 1) rfl ?_
      refine W_run 19 1 (pc' := 32) (ls' := [.val (.ref 0), .val (.int x)]) (st' := [.int x, .ref 1]) rfl ?_
      refine W_iaload (jx := 20) rfl rfl x0 (v := .int b) (own_ixs ha) ?_
      refine W_run 21 1 (pc' := 34) (ls' := [.val (.ref 0), .val (.int b)]) (st' := []) rfl ?_
      refine W_run 22 1 (pc' := 0) (ls' := [.val (.ref 0), .val (.int b)]) (st' := []) rfl ?_
      exact ih _ ps' b r hf
theorem own_m5_4 {l : Launch} {Z : State} {a0 : Array Value} (hw : ∀ d ∈ tables_1, d.before a0 Z = true) {n0 : Nat} (zs lb : List Int32) (c : Int32) (k : Nat) (ps ps' : List Int32) (x r : Int32) (h : own_fnd k ps x = some (r, ps')) :
    MT false l Z n0 own_lay (⟨"com/example/arcwise/arcwise/graph/DisjointSets", "find", "(I)I"⟩ : MethodName) prog_58_method_2_code 2 (some .int) [] ({ frames := 0, cells := 0, slots := 0, locals := 0 } : Room) [.ref 0, .int x] [.inl (0, [.ref 1, .ref 2, .int c]), .inr (.int, (ps.map Value.int)), .inr (.int, (zs.map Value.int)), .inr (.int, (lb.map Value.int))] (fun v B => v = some (.int r) ∧ B = [.inl (0, [.ref 1, .ref 2, .int c]), .inr (.int, (ps'.map Value.int)), .inr (.int, (zs.map Value.int)), .inr (.int, (lb.map Value.int))]) := by
  refine W_enter (D := own_D5) own_pn5 own_D5_ok ?_
  exact own_f4 hw zs lb c k ps ps' x r h
set_option maxRecDepth 65536 in
theorem own_f5 {l : Launch} {Z : State} {a0 : Array Value} (hw : ∀ d ∈ tables_1, d.before a0 Z = true) {n0 : Nat} (R : List Value) (zs lb : List Int32) (c : Int32) (k : Nat) : ∀ (ps ps' : List Int32) (x r : Int32) (h : own_fnd k ps x = some (r, ps')),
    WP false l Z n0 own_lay "com/example/arcwise/arcwise/graph/DisjointSets" own_D5 2 (some .int) "find" ({ frames := 0, cells := 0, slots := 0, locals := 0 } : Room) 0 [.val (.ref 0), .val (.int x)] [] [.inl (0, [.ref 1, .ref 2, .int c]), .inr (.int, (ps.map Value.int)), .inr (.int, (zs.map Value.int)), .inr (.int, (lb.map Value.int)), .inr (.int, R)] 0 0 (fun v B => v = some (.int r) ∧ B = [.inl (0, [.ref 1, .ref 2, .int c]), .inr (.int, (ps'.map Value.int)), .inr (.int, (zs.map Value.int)), .inr (.int, (lb.map Value.int)), .inr (.int, R)]) := by
  induction k with
  | zero => intro ps ps' x r h; cases h
  | succ k ih =>
    intro ps ps' x r h
    obtain ⟨a, ha, x0, hd⟩ := own_fnd_succ h
    refine W_run 0 1 (pc' := 1) (ls' := [.val (.ref 0), .val (.int x)]) (st' := [.ref 0]) rfl ?_
    refine W_getfield (jx := 1) (ci := 0) (k := 0) rfl (hw _ (List.mem_of_getElem? (i := 10) rfl)) rfl rfl rfl (v := .ref 1) rfl ?_
    refine W_run 2 1 (pc' := 5) (ls' := [.val (.ref 0), .val (.int x)]) (st' := [.int x, .ref 1]) rfl ?_
    refine W_iaload (jx := 3) rfl rfl x0 (v := .int a) (own_ix ha) ?_
    refine W_run 4 1 (pc' := 7) (ls' := [.val (.ref 0), .val (.int x)]) (st' := [.int x, .int a]) rfl ?_
    refine W_eq (jx := 5) rfl (by decide) (pc' := 37) rfl (fun h7 => ?_) (fun h7 => ?_)
    · skip
      obtain ⟨-, er, ep⟩ | ⟨e, -⟩ := hd
      rotate_left
      · exact absurd h7 e
      refine W_run 23 1 (pc' := 38) (ls' := [.val (.ref 0), .val (.int x)]) (st' := [.int x]) rfl ?_
      refine W_ireturn (jx := 24) rfl rfl (by decide) (by decide) ?_
      exact ⟨by rw [er], by rw [ep]⟩
    · skip
      obtain ⟨e, -⟩ | ⟨-, a0', b, hb, hf⟩ := hd
      · exact absurd e h7
      refine W_run 6 1 (pc' := 11) (ls' := [.val (.ref 0), .val (.int x)]) (st' := [.ref 0]) rfl ?_
      refine W_getfield (jx := 7) (ci := 0) (k := 0) rfl (hw _ (List.mem_of_getElem? (i := 10) rfl)) rfl rfl rfl (v := .ref 1) rfl ?_
      refine W_run 8 2 (pc' := 16) (ls' := [.val (.ref 0), .val (.int x)]) (st' := [.ref 0, .int x, .ref 1]) rfl ?_
      refine W_getfield (jx := 10) (ci := 0) (k := 0) rfl (hw _ (List.mem_of_getElem? (i := 10) rfl)) rfl rfl rfl (v := .ref 1) rfl ?_
      refine W_run 11 1 (pc' := 20) (ls' := [.val (.ref 0), .val (.int x)]) (st' := [.ref 0, .ref 1, .int x, .ref 1]) rfl ?_
      refine W_getfield (jx := 12) (ci := 0) (k := 0) rfl (hw _ (List.mem_of_getElem? (i := 10) rfl)) rfl rfl rfl (v := .ref 1) rfl ?_
      refine W_run 13 1 (pc' := 24) (ls' := [.val (.ref 0), .val (.int x)]) (st' := [.int x, .ref 1, .ref 1, .int x, .ref 1]) rfl ?_
      refine W_iaload (jx := 14) rfl rfl x0 (v := .int a) (own_ix ha) ?_
      refine W_iaload (jx := 15) rfl rfl a0' (v := .int b) (own_ix hb) ?_
      refine W_iastore (jx := 16) rfl rfl x0 (own_ixl ha) (A1 := [.inl (0, [.ref 1, .ref 2, .int c]), .inr (.int, ((ps.set x.toNatClampNeg b).map Value.int)), .inr (.int, (zs.map Value.int)), .inr (.int, (lb.map Value.int)), .inr (.int, R)]) (by rw [← List.map_set]; rfl) ?_
      refine W_run 17 1 (pc' := 28) (ls' := [.val (.ref 0), .val (.int x)]) (st' := [.ref 0]) rfl ?_
      refine W_getfield (jx := 18) (ci := 0) (k := 0) rfl (hw _ (List.mem_of_getElem? (i := 10) rfl)) rfl rfl rfl (v := .ref 1) rfl ?_
      refine W_run 19 1 (pc' := 32) (ls' := [.val (.ref 0), .val (.int x)]) (st' := [.int x, .ref 1]) rfl ?_
      refine W_iaload (jx := 20) rfl rfl x0 (v := .int b) (own_ixs ha) ?_
      refine W_run 21 1 (pc' := 34) (ls' := [.val (.ref 0), .val (.int b)]) (st' := []) rfl ?_
      refine W_run 22 1 (pc' := 0) (ls' := [.val (.ref 0), .val (.int b)]) (st' := []) rfl ?_
      exact ih _ ps' b r hf
theorem own_m5_5 {l : Launch} {Z : State} {a0 : Array Value} (hw : ∀ d ∈ tables_1, d.before a0 Z = true) {n0 : Nat} (R : List Value) (zs lb : List Int32) (c : Int32) (k : Nat) (ps ps' : List Int32) (x r : Int32) (h : own_fnd k ps x = some (r, ps')) :
    MT false l Z n0 own_lay (⟨"com/example/arcwise/arcwise/graph/DisjointSets", "find", "(I)I"⟩ : MethodName) prog_58_method_2_code 2 (some .int) [] ({ frames := 0, cells := 0, slots := 0, locals := 0 } : Room) [.ref 0, .int x] [.inl (0, [.ref 1, .ref 2, .int c]), .inr (.int, (ps.map Value.int)), .inr (.int, (zs.map Value.int)), .inr (.int, (lb.map Value.int)), .inr (.int, R)] (fun v B => v = some (.int r) ∧ B = [.inl (0, [.ref 1, .ref 2, .int c]), .inr (.int, (ps'.map Value.int)), .inr (.int, (zs.map Value.int)), .inr (.int, (lb.map Value.int)), .inr (.int, R)]) := by
  refine W_enter (D := own_D5) own_pn5 own_D5_ok ?_
  exact own_f5 hw R zs lb c k ps ps' x r h
set_option maxRecDepth 65536 in
set_option maxHeartbeats 4000000 in
theorem own_m4 {l : Launch} {Z : State} {a0 : Array Value} (hw : ∀ d ∈ tables_1, d.before a0 Z = true) {n0 : Nat} (ps p1 p2 zs lb : List Int32) (c x y a b za zb : Int32) (hf1 : own_fnd 8 ps x = some (a, p1)) (hf2 : own_fnd 8 p1 y = some (b, p2)) (ha : zs[a.toNatClampNeg]? = some za) (hb : zs[b.toNatClampNeg]? = some zb) (a0' : ¬ a < 0) (b0' : ¬ b < 0) (la : a.toNatClampNeg < p2.length) (lb' : b.toNatClampNeg < p2.length) :
    MT false l Z n0 own_lay (⟨"com/example/arcwise/arcwise/graph/DisjointSets", "union", "(II)Z"⟩ : MethodName) prog_58_method_3_code 6 (some .boolean) [] ({ frames := 1, cells := 0, slots := 0, locals := 20 } : Room) [.ref 0, .int x, .int y] [.inl (0, [.ref 1, .ref 2, .int c]), .inr (.int, (ps.map Value.int)), .inr (.int, (zs.map Value.int)), .inr (.int, (lb.map Value.int))] (fun v B => (∃ z, v = some (.int z)) ∧ B = [.inl (0, [.ref 1, .ref 2, .int (own_un a b p2 zs c za zb).2.2]), .inr (.int, ((own_un a b p2 zs c za zb).1.map Value.int)), .inr (.int, ((own_un a b p2 zs c za zb).2.1.map Value.int)), .inr (.int, (lb.map Value.int))]) := by
  refine W_enter (D := own_D4) own_pn4 own_D4_ok ?_
  show WP _ _ _ _ _ _ _ _ _ _ _ 0 [.val (.ref 0), .val (.int x), .val (.int y), .unset, .unset, .unset] [] _ 0 0 _
  refine W_run 0 2 (pc' := 2) (ls' := [.val (.ref 0), .val (.int x), .val (.int y), .unset, .unset, .unset]) (st' := [.int x, .ref 0]) rfl ?_
  refine W_callV (jx := 2) [.int x] [] (own_m5_4 hw zs lb c 8 ps p1 x a hf1) rfl rfl rfl (hw _ (List.mem_of_getElem? (i := 25) rfl)) (hw _ (List.mem_of_getElem? (i := 26) rfl)) (hw _ (List.mem_of_getElem? (i := 28) rfl)) (hw _ (List.mem_of_getElem? (i := 27) rfl)) (hw _ (List.mem_of_getElem? (i := 2) rfl)) (hw _ (List.mem_of_getElem? (i := 29) rfl)) (by decide) own_pd5 rfl rfl rfl (by decide) rfl (by decide) (by decide) rfl ?_
  rintro _ _ ⟨rfl, rfl⟩
  show WP _ _ _ _ _ _ _ _ _ _ _ 5 [.val (.ref 0), .val (.int x), .val (.int y), .unset, .unset, .unset] [.int a] [.inl (0, [.ref 1, .ref 2, .int c]), .inr (.int, (p1.map Value.int)), .inr (.int, (zs.map Value.int)), .inr (.int, (lb.map Value.int))] _ _ _
  refine W_run 3 1 (pc' := 6) (ls' := [.val (.ref 0), .val (.int x), .val (.int y), .val (.int a), .unset, .unset]) (st' := []) rfl ?_
  refine W_run 4 2 (pc' := 8) (ls' := [.val (.ref 0), .val (.int x), .val (.int y), .val (.int a), .unset, .unset]) (st' := [.int y, .ref 0]) rfl ?_
  refine W_callV (jx := 6) [.int y] [] (own_m5_4 hw zs lb c 8 p1 p2 y b hf2) rfl rfl rfl (hw _ (List.mem_of_getElem? (i := 25) rfl)) (hw _ (List.mem_of_getElem? (i := 26) rfl)) (hw _ (List.mem_of_getElem? (i := 28) rfl)) (hw _ (List.mem_of_getElem? (i := 27) rfl)) (hw _ (List.mem_of_getElem? (i := 2) rfl)) (hw _ (List.mem_of_getElem? (i := 29) rfl)) (by decide) own_pd5 rfl rfl rfl (by decide) rfl (by decide) (by decide) rfl ?_
  rintro _ _ ⟨rfl, rfl⟩
  show WP _ _ _ _ _ _ _ _ _ _ _ 11 [.val (.ref 0), .val (.int x), .val (.int y), .val (.int a), .unset, .unset] [.int b] [.inl (0, [.ref 1, .ref 2, .int c]), .inr (.int, (p2.map Value.int)), .inr (.int, (zs.map Value.int)), .inr (.int, (lb.map Value.int))] _ _ _
  refine W_run 7 1 (pc' := 13) (ls' := [.val (.ref 0), .val (.int x), .val (.int y), .val (.int a), .val (.int b), .unset]) (st' := []) rfl ?_
  refine W_run 8 2 (pc' := 16) (ls' := [.val (.ref 0), .val (.int x), .val (.int y), .val (.int a), .val (.int b), .unset]) (st' := [.int b, .int a]) rfl ?_
  refine W_ne (jx := 10) rfl (by decide) (pc' := 21) rfl (fun h16 => ?_) (fun h16 => ?_)
  · skip
    refine W_run 13 1 (pc' := 22) (ls' := [.val (.ref 0), .val (.int x), .val (.int y), .val (.int a), .val (.int b), .unset]) (st' := [.ref 0]) rfl ?_
    refine W_getfield (jx := 14) (ci := 0) (k := 1) rfl (hw _ (List.mem_of_getElem? (i := 12) rfl)) rfl rfl rfl (v := .ref 2) rfl ?_
    refine W_run 15 1 (pc' := 26) (ls' := [.val (.ref 0), .val (.int x), .val (.int y), .val (.int a), .val (.int b), .unset]) (st' := [.int a, .ref 2]) rfl ?_
    refine W_iaload (jx := 16) rfl rfl a0' (v := .int za) (own_ix ha) ?_
    refine W_run 17 1 (pc' := 28) (ls' := [.val (.ref 0), .val (.int x), .val (.int y), .val (.int a), .val (.int b), .unset]) (st' := [.ref 0, .int za]) rfl ?_
    refine W_getfield (jx := 18) (ci := 0) (k := 1) rfl (hw _ (List.mem_of_getElem? (i := 12) rfl)) rfl rfl rfl (v := .ref 2) rfl ?_
    refine W_run 19 1 (pc' := 33) (ls' := [.val (.ref 0), .val (.int x), .val (.int y), .val (.int a), .val (.int b), .unset]) (st' := [.int b, .ref 2, .int za]) rfl ?_
    refine W_iaload (jx := 20) rfl rfl b0' (v := .int zb) (own_ix hb) ?_
    refine W_ge (jx := 21) rfl (by decide) (pc' := 47) rfl (fun h34 => ?_) (fun h34 => ?_)
    · skip
      refine W_run 28 1 (pc' := 48) (ls' := [.val (.ref 0), .val (.int x), .val (.int y), .val (.int a), .val (.int b), .unset]) (st' := [.ref 0]) rfl ?_
      refine W_getfield (jx := 29) (ci := 0) (k := 0) rfl (hw _ (List.mem_of_getElem? (i := 10) rfl)) rfl rfl rfl (v := .ref 1) rfl ?_
      refine W_run 30 2 (pc' := 54) (ls' := [.val (.ref 0), .val (.int x), .val (.int y), .val (.int a), .val (.int b), .unset]) (st' := [.int a, .int b, .ref 1]) rfl ?_
      refine W_iastore (jx := 32) rfl rfl b0' (by rw [List.length_map]; exact lb') (A1 := [.inl (0, [.ref 1, .ref 2, .int c]), .inr (.int, ((p2.set b.toNatClampNeg a).map Value.int)), .inr (.int, (zs.map Value.int)), .inr (.int, (lb.map Value.int))]) (by rw [← List.map_set]; rfl) ?_
      refine W_run 33 1 (pc' := 56) (ls' := [.val (.ref 0), .val (.int x), .val (.int y), .val (.int a), .val (.int b), .unset]) (st' := [.ref 0]) rfl ?_
      refine W_getfield (jx := 34) (ci := 0) (k := 1) rfl (hw _ (List.mem_of_getElem? (i := 12) rfl)) rfl rfl rfl (v := .ref 2) rfl ?_
      refine W_run 35 2 (pc' := 61) (ls' := [.val (.ref 0), .val (.int x), .val (.int y), .val (.int a), .val (.int b), .unset]) (st' := [.int a, .ref 2, .int a, .ref 2]) rfl ?_
      refine W_iaload (jx := 37) rfl rfl a0' (v := .int za) (own_ix ha) ?_
      refine W_run 38 1 (pc' := 63) (ls' := [.val (.ref 0), .val (.int x), .val (.int y), .val (.int a), .val (.int b), .unset]) (st' := [.ref 0, .int za, .int a, .ref 2]) rfl ?_
      refine W_getfield (jx := 39) (ci := 0) (k := 1) rfl (hw _ (List.mem_of_getElem? (i := 12) rfl)) rfl rfl rfl (v := .ref 2) rfl ?_
      refine W_run 40 1 (pc' := 68) (ls' := [.val (.ref 0), .val (.int x), .val (.int y), .val (.int a), .val (.int b), .unset]) (st' := [.int b, .ref 2, .int za, .int a, .ref 2]) rfl ?_
      refine W_iaload (jx := 41) rfl rfl b0' (v := .int zb) (own_ix hb) ?_
      refine W_run 42 1 (pc' := 70) (ls' := [.val (.ref 0), .val (.int x), .val (.int y), .val (.int a), .val (.int b), .unset]) (st' := [.int (za + zb), .int a, .ref 2]) rfl ?_
      refine W_iastore (jx := 43) rfl rfl a0' (own_ixl ha) (A1 := [.inl (0, [.ref 1, .ref 2, .int c]), .inr (.int, ((p2.set b.toNatClampNeg a).map Value.int)), .inr (.int, ((zs.set a.toNatClampNeg (za + zb)).map Value.int)), .inr (.int, (lb.map Value.int))]) (by rw [← List.map_set]; rfl) ?_
      refine W_run 44 2 (pc' := 73) (ls' := [.val (.ref 0), .val (.int x), .val (.int y), .val (.int a), .val (.int b), .unset]) (st' := [.ref 0, .ref 0]) rfl ?_
      refine W_getfield (jx := 46) (ci := 0) (k := 2) rfl (hw _ (List.mem_of_getElem? (i := 14) rfl)) rfl rfl rfl (v := .int c) rfl ?_
      refine W_run 47 2 (pc' := 78) (ls' := [.val (.ref 0), .val (.int x), .val (.int y), .val (.int a), .val (.int b), .unset]) (st' := [.int (c - 1), .ref 0]) rfl ?_
      refine W_putfield (jx := 49) (ci := 0) (k := 2) rfl (own_lay_ok hw) (hw _ (List.mem_of_getElem? (i := 14) rfl)) (Or.inl (hw _ (List.mem_of_getElem? (i := 15) rfl))) (hw _ (List.mem_of_getElem? (i := 1) rfl)) (by decide +kernel : parseFieldDescriptor "I" = some .int) (fun _ => rfl) (fun _ => rfl) rfl rfl rfl (A1 := [.inl (0, [.ref 1, .ref 2, .int (c - 1)]), .inr (.int, ((p2.set b.toNatClampNeg a).map Value.int)), .inr (.int, ((zs.set a.toNatClampNeg (za + zb)).map Value.int)), .inr (.int, (lb.map Value.int))]) rfl ?_
      refine W_run 50 1 (pc' := 82) (ls' := [.val (.ref 0), .val (.int x), .val (.int y), .val (.int a), .val (.int b), .unset]) (st' := [.int 1]) rfl ?_
      refine W_zreturn (jx := 51) rfl rfl rfl (by decide) (by decide) ?_
      refine ⟨⟨_, rfl⟩, ?_⟩
      unfold own_un
      first | rw [if_pos h16] | rw [if_neg h16, if_neg h34] | rw [if_neg h16, if_pos h34]
    · skip
      refine W_run 22 2 (pc' := 40) (ls' := [.val (.ref 0), .val (.int x), .val (.int y), .val (.int a), .val (.int b), .val (.int a)]) (st' := []) rfl ?_
      refine W_run 24 2 (pc' := 43) (ls' := [.val (.ref 0), .val (.int x), .val (.int y), .val (.int b), .val (.int b), .val (.int a)]) (st' := []) rfl ?_
      refine W_run 26 2 (pc' := 47) (ls' := [.val (.ref 0), .val (.int x), .val (.int y), .val (.int b), .val (.int a), .val (.int a)]) (st' := []) rfl ?_
      refine W_run 28 1 (pc' := 48) (ls' := [.val (.ref 0), .val (.int x), .val (.int y), .val (.int b), .val (.int a), .val (.int a)]) (st' := [.ref 0]) rfl ?_
      refine W_getfield (jx := 29) (ci := 0) (k := 0) rfl (hw _ (List.mem_of_getElem? (i := 10) rfl)) rfl rfl rfl (v := .ref 1) rfl ?_
      refine W_run 30 2 (pc' := 54) (ls' := [.val (.ref 0), .val (.int x), .val (.int y), .val (.int b), .val (.int a), .val (.int a)]) (st' := [.int b, .int a, .ref 1]) rfl ?_
      refine W_iastore (jx := 32) rfl rfl a0' (by rw [List.length_map]; exact la) (A1 := [.inl (0, [.ref 1, .ref 2, .int c]), .inr (.int, ((p2.set a.toNatClampNeg b).map Value.int)), .inr (.int, (zs.map Value.int)), .inr (.int, (lb.map Value.int))]) (by rw [← List.map_set]; rfl) ?_
      refine W_run 33 1 (pc' := 56) (ls' := [.val (.ref 0), .val (.int x), .val (.int y), .val (.int b), .val (.int a), .val (.int a)]) (st' := [.ref 0]) rfl ?_
      refine W_getfield (jx := 34) (ci := 0) (k := 1) rfl (hw _ (List.mem_of_getElem? (i := 12) rfl)) rfl rfl rfl (v := .ref 2) rfl ?_
      refine W_run 35 2 (pc' := 61) (ls' := [.val (.ref 0), .val (.int x), .val (.int y), .val (.int b), .val (.int a), .val (.int a)]) (st' := [.int b, .ref 2, .int b, .ref 2]) rfl ?_
      refine W_iaload (jx := 37) rfl rfl b0' (v := .int zb) (own_ix hb) ?_
      refine W_run 38 1 (pc' := 63) (ls' := [.val (.ref 0), .val (.int x), .val (.int y), .val (.int b), .val (.int a), .val (.int a)]) (st' := [.ref 0, .int zb, .int b, .ref 2]) rfl ?_
      refine W_getfield (jx := 39) (ci := 0) (k := 1) rfl (hw _ (List.mem_of_getElem? (i := 12) rfl)) rfl rfl rfl (v := .ref 2) rfl ?_
      refine W_run 40 1 (pc' := 68) (ls' := [.val (.ref 0), .val (.int x), .val (.int y), .val (.int b), .val (.int a), .val (.int a)]) (st' := [.int a, .ref 2, .int zb, .int b, .ref 2]) rfl ?_
      refine W_iaload (jx := 41) rfl rfl a0' (v := .int za) (own_ix ha) ?_
      refine W_run 42 1 (pc' := 70) (ls' := [.val (.ref 0), .val (.int x), .val (.int y), .val (.int b), .val (.int a), .val (.int a)]) (st' := [.int (zb + za), .int b, .ref 2]) rfl ?_
      refine W_iastore (jx := 43) rfl rfl b0' (own_ixl hb) (A1 := [.inl (0, [.ref 1, .ref 2, .int c]), .inr (.int, ((p2.set a.toNatClampNeg b).map Value.int)), .inr (.int, ((zs.set b.toNatClampNeg (zb + za)).map Value.int)), .inr (.int, (lb.map Value.int))]) (by rw [← List.map_set]; rfl) ?_
      refine W_run 44 2 (pc' := 73) (ls' := [.val (.ref 0), .val (.int x), .val (.int y), .val (.int b), .val (.int a), .val (.int a)]) (st' := [.ref 0, .ref 0]) rfl ?_
      refine W_getfield (jx := 46) (ci := 0) (k := 2) rfl (hw _ (List.mem_of_getElem? (i := 14) rfl)) rfl rfl rfl (v := .int c) rfl ?_
      refine W_run 47 2 (pc' := 78) (ls' := [.val (.ref 0), .val (.int x), .val (.int y), .val (.int b), .val (.int a), .val (.int a)]) (st' := [.int (c - 1), .ref 0]) rfl ?_
      refine W_putfield (jx := 49) (ci := 0) (k := 2) rfl (own_lay_ok hw) (hw _ (List.mem_of_getElem? (i := 14) rfl)) (Or.inl (hw _ (List.mem_of_getElem? (i := 15) rfl))) (hw _ (List.mem_of_getElem? (i := 1) rfl)) (by decide +kernel : parseFieldDescriptor "I" = some .int) (fun _ => rfl) (fun _ => rfl) rfl rfl rfl (A1 := [.inl (0, [.ref 1, .ref 2, .int (c - 1)]), .inr (.int, ((p2.set a.toNatClampNeg b).map Value.int)), .inr (.int, ((zs.set b.toNatClampNeg (zb + za)).map Value.int)), .inr (.int, (lb.map Value.int))]) rfl ?_
      refine W_run 50 1 (pc' := 82) (ls' := [.val (.ref 0), .val (.int x), .val (.int y), .val (.int b), .val (.int a), .val (.int a)]) (st' := [.int 1]) rfl ?_
      refine W_zreturn (jx := 51) rfl rfl rfl (by decide) (by decide) ?_
      refine ⟨⟨_, rfl⟩, ?_⟩
      unfold own_un
      first | rw [if_pos h16] | rw [if_neg h16, if_neg h34] | rw [if_neg h16, if_pos h34]
  · skip
    refine W_run 11 1 (pc' := 20) (ls' := [.val (.ref 0), .val (.int x), .val (.int y), .val (.int a), .val (.int b), .unset]) (st' := [.int 0]) rfl ?_
    refine W_zreturn (jx := 12) rfl rfl rfl (by decide) (by decide) ?_
    refine ⟨⟨_, rfl⟩, ?_⟩
    unfold own_un
    first | rw [if_pos h16] | rw [if_neg h16, if_neg h34] | rw [if_neg h16, if_pos h34]
set_option maxRecDepth 65536 in
set_option maxHeartbeats 4000000 in
theorem own_m6 {l : Launch} {Z : State} {a0 : Array Value} (hw : ∀ d ∈ tables_1, d.before a0 Z = true) {n0 : Nat} (ps zs : List Int32) (c x y l0 l1 l2 l3 lx ly : Int32) (hx : [l0, l1, l2, l3][x.toNatClampNeg]? = some lx) (hy : [l0, l1, l2, l3][y.toNatClampNeg]? = some ly) (x0 : ¬ x < 0) (y0 : ¬ y < 0) :
    MT false l Z n0 own_lay (⟨"com/example/arcwise/arcwise/graph/DisjointSetsFindPinLaw", "merge", "([III)V"⟩ : MethodName) method_2_code 5 none [] ({ frames := 0, cells := 0, slots := 0, locals := 0 } : Room) [.ref 3, .int x, .int y] [.inl (0, [.ref 1, .ref 2, .int c]), .inr (.int, (ps.map Value.int)), .inr (.int, (zs.map Value.int)), .inr (.int, ([l0, l1, l2, l3].map Value.int))] (fun v B => v = none ∧ B = [.inl (0, [.ref 1, .ref 2, .int c]), .inr (.int, (ps.map Value.int)), .inr (.int, (zs.map Value.int)), .inr (.int, (([l0, l1, l2, l3].map fun l => if l = ly then lx else l).map Value.int))]) := by
  refine W_enter (D := own_D6) own_pn6 own_D6_ok ?_
  show WP _ _ _ _ _ _ _ _ _ _ _ 0 [.val (.ref 3), .val (.int x), .val (.int y), .unset, .unset] [] _ 0 0 _
  refine W_run 0 2 (pc' := 2) (ls' := [.val (.ref 3), .val (.int x), .val (.int y), .unset, .unset]) (st' := [.int x, .ref 3]) rfl ?_
  refine W_iaload (jx := 2) rfl rfl x0 (v := .int lx) (own_ix hx) ?_
  refine W_run 3 1 (pc' := 4) (ls' := [.val (.ref 3), .val (.int x), .val (.int y), .val (.int lx), .unset]) (st' := []) rfl ?_
  refine W_run 4 2 (pc' := 6) (ls' := [.val (.ref 3), .val (.int x), .val (.int y), .val (.int lx), .unset]) (st' := [.int y, .ref 3]) rfl ?_
  refine W_iaload (jx := 6) rfl rfl y0 (v := .int ly) (own_ix hy) ?_
  refine W_run 7 1 (pc' := 9) (ls' := [.val (.ref 3), .val (.int x), .val (.int y), .val (.int lx), .val (.int ly)]) (st' := []) rfl ?_
  refine W_run 8 2 (pc' := 11) (ls' := [.val (.ref 3), .val (.int x), .val (.int y), .val (.int lx), .val (.int ly)]) (st' := [.int 0, .ref 3]) rfl ?_
  refine W_iaload (jx := 10) rfl rfl (by decide) (v := .int l0) rfl ?_
  refine W_run 11 1 (pc' := 14) (ls' := [.val (.ref 3), .val (.int x), .val (.int y), .val (.int lx), .val (.int ly)]) (st' := [.int ly, .int l0]) rfl ?_
  refine W_ne (jx := 12) rfl (by decide) (pc' := 21) rfl (fun h14 => ?_) (fun h14 => ?_)
  · skip
    refine W_run 17 2 (pc' := 23) (ls' := [.val (.ref 3), .val (.int x), .val (.int y), .val (.int lx), .val (.int ly)]) (st' := [.int 1, .ref 3]) rfl ?_
    refine W_iaload (jx := 19) rfl rfl (by decide) (v := .int l1) rfl ?_
    refine W_run 20 1 (pc' := 26) (ls' := [.val (.ref 3), .val (.int x), .val (.int y), .val (.int lx), .val (.int ly)]) (st' := [.int ly, .int l1]) rfl ?_
    refine W_ne (jx := 21) rfl (by decide) (pc' := 33) rfl (fun h26 => ?_) (fun h26 => ?_)
    · skip
      refine W_run 26 2 (pc' := 35) (ls' := [.val (.ref 3), .val (.int x), .val (.int y), .val (.int lx), .val (.int ly)]) (st' := [.int 2, .ref 3]) rfl ?_
      refine W_iaload (jx := 28) rfl rfl (by decide) (v := .int l2) rfl ?_
      refine W_run 29 1 (pc' := 38) (ls' := [.val (.ref 3), .val (.int x), .val (.int y), .val (.int lx), .val (.int ly)]) (st' := [.int ly, .int l2]) rfl ?_
      refine W_ne (jx := 30) rfl (by decide) (pc' := 45) rfl (fun h38 => ?_) (fun h38 => ?_)
      · skip
        refine W_run 35 2 (pc' := 47) (ls' := [.val (.ref 3), .val (.int x), .val (.int y), .val (.int lx), .val (.int ly)]) (st' := [.int 3, .ref 3]) rfl ?_
        refine W_iaload (jx := 37) rfl rfl (by decide) (v := .int l3) rfl ?_
        refine W_run 38 1 (pc' := 50) (ls' := [.val (.ref 3), .val (.int x), .val (.int y), .val (.int lx), .val (.int ly)]) (st' := [.int ly, .int l3]) rfl ?_
        refine W_ne (jx := 39) rfl (by decide) (pc' := 57) rfl (fun h50 => ?_) (fun h50 => ?_)
        · skip
          refine W_return (jx := 44) rfl rfl (by decide) (by decide) ?_
          refine ⟨rfl, ?_⟩
          simp only [List.map_cons, List.map_nil]
          first
          | rw [if_neg h14, if_neg h26, if_neg h38, if_neg h50]
          | rw [if_pos h14, if_neg h26, if_neg h38, if_neg h50]
          | rw [if_neg h14, if_pos h26, if_neg h38, if_neg h50]
          | rw [if_pos h14, if_pos h26, if_neg h38, if_neg h50]
          | rw [if_neg h14, if_neg h26, if_pos h38, if_neg h50]
          | rw [if_pos h14, if_neg h26, if_pos h38, if_neg h50]
          | rw [if_neg h14, if_pos h26, if_pos h38, if_neg h50]
          | rw [if_pos h14, if_pos h26, if_pos h38, if_neg h50]
          | rw [if_neg h14, if_neg h26, if_neg h38, if_pos h50]
          | rw [if_pos h14, if_neg h26, if_neg h38, if_pos h50]
          | rw [if_neg h14, if_pos h26, if_neg h38, if_pos h50]
          | rw [if_pos h14, if_pos h26, if_neg h38, if_pos h50]
          | rw [if_neg h14, if_neg h26, if_pos h38, if_pos h50]
          | rw [if_pos h14, if_neg h26, if_pos h38, if_pos h50]
          | rw [if_neg h14, if_pos h26, if_pos h38, if_pos h50]
          | rw [if_pos h14, if_pos h26, if_pos h38, if_pos h50]
        · skip
          refine W_run 40 3 (pc' := 56) (ls' := [.val (.ref 3), .val (.int x), .val (.int y), .val (.int lx), .val (.int ly)]) (st' := [.int lx, .int 3, .ref 3]) rfl ?_
          refine W_iastore (jx := 43) rfl rfl (by decide) (Nat.le_of_ble_eq_true rfl) (A1 := [.inl (0, [.ref 1, .ref 2, .int c]), .inr (.int, (ps.map Value.int)), .inr (.int, (zs.map Value.int)), .inr (.int, [.int l0, .int l1, .int l2, .int lx])]) rfl ?_
          refine W_return (jx := 44) rfl rfl (by decide) (by decide) ?_
          refine ⟨rfl, ?_⟩
          simp only [List.map_cons, List.map_nil]
          first
          | rw [if_neg h14, if_neg h26, if_neg h38, if_neg h50]
          | rw [if_pos h14, if_neg h26, if_neg h38, if_neg h50]
          | rw [if_neg h14, if_pos h26, if_neg h38, if_neg h50]
          | rw [if_pos h14, if_pos h26, if_neg h38, if_neg h50]
          | rw [if_neg h14, if_neg h26, if_pos h38, if_neg h50]
          | rw [if_pos h14, if_neg h26, if_pos h38, if_neg h50]
          | rw [if_neg h14, if_pos h26, if_pos h38, if_neg h50]
          | rw [if_pos h14, if_pos h26, if_pos h38, if_neg h50]
          | rw [if_neg h14, if_neg h26, if_neg h38, if_pos h50]
          | rw [if_pos h14, if_neg h26, if_neg h38, if_pos h50]
          | rw [if_neg h14, if_pos h26, if_neg h38, if_pos h50]
          | rw [if_pos h14, if_pos h26, if_neg h38, if_pos h50]
          | rw [if_neg h14, if_neg h26, if_pos h38, if_pos h50]
          | rw [if_pos h14, if_neg h26, if_pos h38, if_pos h50]
          | rw [if_neg h14, if_pos h26, if_pos h38, if_pos h50]
          | rw [if_pos h14, if_pos h26, if_pos h38, if_pos h50]
      · skip
        refine W_run 31 3 (pc' := 44) (ls' := [.val (.ref 3), .val (.int x), .val (.int y), .val (.int lx), .val (.int ly)]) (st' := [.int lx, .int 2, .ref 3]) rfl ?_
        refine W_iastore (jx := 34) rfl rfl (by decide) (Nat.le_of_ble_eq_true rfl) (A1 := [.inl (0, [.ref 1, .ref 2, .int c]), .inr (.int, (ps.map Value.int)), .inr (.int, (zs.map Value.int)), .inr (.int, [.int l0, .int l1, .int lx, .int l3])]) rfl ?_
        refine W_run 35 2 (pc' := 47) (ls' := [.val (.ref 3), .val (.int x), .val (.int y), .val (.int lx), .val (.int ly)]) (st' := [.int 3, .ref 3]) rfl ?_
        refine W_iaload (jx := 37) rfl rfl (by decide) (v := .int l3) rfl ?_
        refine W_run 38 1 (pc' := 50) (ls' := [.val (.ref 3), .val (.int x), .val (.int y), .val (.int lx), .val (.int ly)]) (st' := [.int ly, .int l3]) rfl ?_
        refine W_ne (jx := 39) rfl (by decide) (pc' := 57) rfl (fun h50 => ?_) (fun h50 => ?_)
        · skip
          refine W_return (jx := 44) rfl rfl (by decide) (by decide) ?_
          refine ⟨rfl, ?_⟩
          simp only [List.map_cons, List.map_nil]
          first
          | rw [if_neg h14, if_neg h26, if_neg h38, if_neg h50]
          | rw [if_pos h14, if_neg h26, if_neg h38, if_neg h50]
          | rw [if_neg h14, if_pos h26, if_neg h38, if_neg h50]
          | rw [if_pos h14, if_pos h26, if_neg h38, if_neg h50]
          | rw [if_neg h14, if_neg h26, if_pos h38, if_neg h50]
          | rw [if_pos h14, if_neg h26, if_pos h38, if_neg h50]
          | rw [if_neg h14, if_pos h26, if_pos h38, if_neg h50]
          | rw [if_pos h14, if_pos h26, if_pos h38, if_neg h50]
          | rw [if_neg h14, if_neg h26, if_neg h38, if_pos h50]
          | rw [if_pos h14, if_neg h26, if_neg h38, if_pos h50]
          | rw [if_neg h14, if_pos h26, if_neg h38, if_pos h50]
          | rw [if_pos h14, if_pos h26, if_neg h38, if_pos h50]
          | rw [if_neg h14, if_neg h26, if_pos h38, if_pos h50]
          | rw [if_pos h14, if_neg h26, if_pos h38, if_pos h50]
          | rw [if_neg h14, if_pos h26, if_pos h38, if_pos h50]
          | rw [if_pos h14, if_pos h26, if_pos h38, if_pos h50]
        · skip
          refine W_run 40 3 (pc' := 56) (ls' := [.val (.ref 3), .val (.int x), .val (.int y), .val (.int lx), .val (.int ly)]) (st' := [.int lx, .int 3, .ref 3]) rfl ?_
          refine W_iastore (jx := 43) rfl rfl (by decide) (Nat.le_of_ble_eq_true rfl) (A1 := [.inl (0, [.ref 1, .ref 2, .int c]), .inr (.int, (ps.map Value.int)), .inr (.int, (zs.map Value.int)), .inr (.int, [.int l0, .int l1, .int lx, .int lx])]) rfl ?_
          refine W_return (jx := 44) rfl rfl (by decide) (by decide) ?_
          refine ⟨rfl, ?_⟩
          simp only [List.map_cons, List.map_nil]
          first
          | rw [if_neg h14, if_neg h26, if_neg h38, if_neg h50]
          | rw [if_pos h14, if_neg h26, if_neg h38, if_neg h50]
          | rw [if_neg h14, if_pos h26, if_neg h38, if_neg h50]
          | rw [if_pos h14, if_pos h26, if_neg h38, if_neg h50]
          | rw [if_neg h14, if_neg h26, if_pos h38, if_neg h50]
          | rw [if_pos h14, if_neg h26, if_pos h38, if_neg h50]
          | rw [if_neg h14, if_pos h26, if_pos h38, if_neg h50]
          | rw [if_pos h14, if_pos h26, if_pos h38, if_neg h50]
          | rw [if_neg h14, if_neg h26, if_neg h38, if_pos h50]
          | rw [if_pos h14, if_neg h26, if_neg h38, if_pos h50]
          | rw [if_neg h14, if_pos h26, if_neg h38, if_pos h50]
          | rw [if_pos h14, if_pos h26, if_neg h38, if_pos h50]
          | rw [if_neg h14, if_neg h26, if_pos h38, if_pos h50]
          | rw [if_pos h14, if_neg h26, if_pos h38, if_pos h50]
          | rw [if_neg h14, if_pos h26, if_pos h38, if_pos h50]
          | rw [if_pos h14, if_pos h26, if_pos h38, if_pos h50]
    · skip
      refine W_run 22 3 (pc' := 32) (ls' := [.val (.ref 3), .val (.int x), .val (.int y), .val (.int lx), .val (.int ly)]) (st' := [.int lx, .int 1, .ref 3]) rfl ?_
      refine W_iastore (jx := 25) rfl rfl (by decide) (Nat.le_of_ble_eq_true rfl) (A1 := [.inl (0, [.ref 1, .ref 2, .int c]), .inr (.int, (ps.map Value.int)), .inr (.int, (zs.map Value.int)), .inr (.int, [.int l0, .int lx, .int l2, .int l3])]) rfl ?_
      refine W_run 26 2 (pc' := 35) (ls' := [.val (.ref 3), .val (.int x), .val (.int y), .val (.int lx), .val (.int ly)]) (st' := [.int 2, .ref 3]) rfl ?_
      refine W_iaload (jx := 28) rfl rfl (by decide) (v := .int l2) rfl ?_
      refine W_run 29 1 (pc' := 38) (ls' := [.val (.ref 3), .val (.int x), .val (.int y), .val (.int lx), .val (.int ly)]) (st' := [.int ly, .int l2]) rfl ?_
      refine W_ne (jx := 30) rfl (by decide) (pc' := 45) rfl (fun h38 => ?_) (fun h38 => ?_)
      · skip
        refine W_run 35 2 (pc' := 47) (ls' := [.val (.ref 3), .val (.int x), .val (.int y), .val (.int lx), .val (.int ly)]) (st' := [.int 3, .ref 3]) rfl ?_
        refine W_iaload (jx := 37) rfl rfl (by decide) (v := .int l3) rfl ?_
        refine W_run 38 1 (pc' := 50) (ls' := [.val (.ref 3), .val (.int x), .val (.int y), .val (.int lx), .val (.int ly)]) (st' := [.int ly, .int l3]) rfl ?_
        refine W_ne (jx := 39) rfl (by decide) (pc' := 57) rfl (fun h50 => ?_) (fun h50 => ?_)
        · skip
          refine W_return (jx := 44) rfl rfl (by decide) (by decide) ?_
          refine ⟨rfl, ?_⟩
          simp only [List.map_cons, List.map_nil]
          first
          | rw [if_neg h14, if_neg h26, if_neg h38, if_neg h50]
          | rw [if_pos h14, if_neg h26, if_neg h38, if_neg h50]
          | rw [if_neg h14, if_pos h26, if_neg h38, if_neg h50]
          | rw [if_pos h14, if_pos h26, if_neg h38, if_neg h50]
          | rw [if_neg h14, if_neg h26, if_pos h38, if_neg h50]
          | rw [if_pos h14, if_neg h26, if_pos h38, if_neg h50]
          | rw [if_neg h14, if_pos h26, if_pos h38, if_neg h50]
          | rw [if_pos h14, if_pos h26, if_pos h38, if_neg h50]
          | rw [if_neg h14, if_neg h26, if_neg h38, if_pos h50]
          | rw [if_pos h14, if_neg h26, if_neg h38, if_pos h50]
          | rw [if_neg h14, if_pos h26, if_neg h38, if_pos h50]
          | rw [if_pos h14, if_pos h26, if_neg h38, if_pos h50]
          | rw [if_neg h14, if_neg h26, if_pos h38, if_pos h50]
          | rw [if_pos h14, if_neg h26, if_pos h38, if_pos h50]
          | rw [if_neg h14, if_pos h26, if_pos h38, if_pos h50]
          | rw [if_pos h14, if_pos h26, if_pos h38, if_pos h50]
        · skip
          refine W_run 40 3 (pc' := 56) (ls' := [.val (.ref 3), .val (.int x), .val (.int y), .val (.int lx), .val (.int ly)]) (st' := [.int lx, .int 3, .ref 3]) rfl ?_
          refine W_iastore (jx := 43) rfl rfl (by decide) (Nat.le_of_ble_eq_true rfl) (A1 := [.inl (0, [.ref 1, .ref 2, .int c]), .inr (.int, (ps.map Value.int)), .inr (.int, (zs.map Value.int)), .inr (.int, [.int l0, .int lx, .int l2, .int lx])]) rfl ?_
          refine W_return (jx := 44) rfl rfl (by decide) (by decide) ?_
          refine ⟨rfl, ?_⟩
          simp only [List.map_cons, List.map_nil]
          first
          | rw [if_neg h14, if_neg h26, if_neg h38, if_neg h50]
          | rw [if_pos h14, if_neg h26, if_neg h38, if_neg h50]
          | rw [if_neg h14, if_pos h26, if_neg h38, if_neg h50]
          | rw [if_pos h14, if_pos h26, if_neg h38, if_neg h50]
          | rw [if_neg h14, if_neg h26, if_pos h38, if_neg h50]
          | rw [if_pos h14, if_neg h26, if_pos h38, if_neg h50]
          | rw [if_neg h14, if_pos h26, if_pos h38, if_neg h50]
          | rw [if_pos h14, if_pos h26, if_pos h38, if_neg h50]
          | rw [if_neg h14, if_neg h26, if_neg h38, if_pos h50]
          | rw [if_pos h14, if_neg h26, if_neg h38, if_pos h50]
          | rw [if_neg h14, if_pos h26, if_neg h38, if_pos h50]
          | rw [if_pos h14, if_pos h26, if_neg h38, if_pos h50]
          | rw [if_neg h14, if_neg h26, if_pos h38, if_pos h50]
          | rw [if_pos h14, if_neg h26, if_pos h38, if_pos h50]
          | rw [if_neg h14, if_pos h26, if_pos h38, if_pos h50]
          | rw [if_pos h14, if_pos h26, if_pos h38, if_pos h50]
      · skip
        refine W_run 31 3 (pc' := 44) (ls' := [.val (.ref 3), .val (.int x), .val (.int y), .val (.int lx), .val (.int ly)]) (st' := [.int lx, .int 2, .ref 3]) rfl ?_
        refine W_iastore (jx := 34) rfl rfl (by decide) (Nat.le_of_ble_eq_true rfl) (A1 := [.inl (0, [.ref 1, .ref 2, .int c]), .inr (.int, (ps.map Value.int)), .inr (.int, (zs.map Value.int)), .inr (.int, [.int l0, .int lx, .int lx, .int l3])]) rfl ?_
        refine W_run 35 2 (pc' := 47) (ls' := [.val (.ref 3), .val (.int x), .val (.int y), .val (.int lx), .val (.int ly)]) (st' := [.int 3, .ref 3]) rfl ?_
        refine W_iaload (jx := 37) rfl rfl (by decide) (v := .int l3) rfl ?_
        refine W_run 38 1 (pc' := 50) (ls' := [.val (.ref 3), .val (.int x), .val (.int y), .val (.int lx), .val (.int ly)]) (st' := [.int ly, .int l3]) rfl ?_
        refine W_ne (jx := 39) rfl (by decide) (pc' := 57) rfl (fun h50 => ?_) (fun h50 => ?_)
        · skip
          refine W_return (jx := 44) rfl rfl (by decide) (by decide) ?_
          refine ⟨rfl, ?_⟩
          simp only [List.map_cons, List.map_nil]
          first
          | rw [if_neg h14, if_neg h26, if_neg h38, if_neg h50]
          | rw [if_pos h14, if_neg h26, if_neg h38, if_neg h50]
          | rw [if_neg h14, if_pos h26, if_neg h38, if_neg h50]
          | rw [if_pos h14, if_pos h26, if_neg h38, if_neg h50]
          | rw [if_neg h14, if_neg h26, if_pos h38, if_neg h50]
          | rw [if_pos h14, if_neg h26, if_pos h38, if_neg h50]
          | rw [if_neg h14, if_pos h26, if_pos h38, if_neg h50]
          | rw [if_pos h14, if_pos h26, if_pos h38, if_neg h50]
          | rw [if_neg h14, if_neg h26, if_neg h38, if_pos h50]
          | rw [if_pos h14, if_neg h26, if_neg h38, if_pos h50]
          | rw [if_neg h14, if_pos h26, if_neg h38, if_pos h50]
          | rw [if_pos h14, if_pos h26, if_neg h38, if_pos h50]
          | rw [if_neg h14, if_neg h26, if_pos h38, if_pos h50]
          | rw [if_pos h14, if_neg h26, if_pos h38, if_pos h50]
          | rw [if_neg h14, if_pos h26, if_pos h38, if_pos h50]
          | rw [if_pos h14, if_pos h26, if_pos h38, if_pos h50]
        · skip
          refine W_run 40 3 (pc' := 56) (ls' := [.val (.ref 3), .val (.int x), .val (.int y), .val (.int lx), .val (.int ly)]) (st' := [.int lx, .int 3, .ref 3]) rfl ?_
          refine W_iastore (jx := 43) rfl rfl (by decide) (Nat.le_of_ble_eq_true rfl) (A1 := [.inl (0, [.ref 1, .ref 2, .int c]), .inr (.int, (ps.map Value.int)), .inr (.int, (zs.map Value.int)), .inr (.int, [.int l0, .int lx, .int lx, .int lx])]) rfl ?_
          refine W_return (jx := 44) rfl rfl (by decide) (by decide) ?_
          refine ⟨rfl, ?_⟩
          simp only [List.map_cons, List.map_nil]
          first
          | rw [if_neg h14, if_neg h26, if_neg h38, if_neg h50]
          | rw [if_pos h14, if_neg h26, if_neg h38, if_neg h50]
          | rw [if_neg h14, if_pos h26, if_neg h38, if_neg h50]
          | rw [if_pos h14, if_pos h26, if_neg h38, if_neg h50]
          | rw [if_neg h14, if_neg h26, if_pos h38, if_neg h50]
          | rw [if_pos h14, if_neg h26, if_pos h38, if_neg h50]
          | rw [if_neg h14, if_pos h26, if_pos h38, if_neg h50]
          | rw [if_pos h14, if_pos h26, if_pos h38, if_neg h50]
          | rw [if_neg h14, if_neg h26, if_neg h38, if_pos h50]
          | rw [if_pos h14, if_neg h26, if_neg h38, if_pos h50]
          | rw [if_neg h14, if_pos h26, if_neg h38, if_pos h50]
          | rw [if_pos h14, if_pos h26, if_neg h38, if_pos h50]
          | rw [if_neg h14, if_neg h26, if_pos h38, if_pos h50]
          | rw [if_pos h14, if_neg h26, if_pos h38, if_pos h50]
          | rw [if_neg h14, if_pos h26, if_pos h38, if_pos h50]
          | rw [if_pos h14, if_pos h26, if_pos h38, if_pos h50]
  · skip
    refine W_run 13 3 (pc' := 20) (ls' := [.val (.ref 3), .val (.int x), .val (.int y), .val (.int lx), .val (.int ly)]) (st' := [.int lx, .int 0, .ref 3]) rfl ?_
    refine W_iastore (jx := 16) rfl rfl (by decide) (Nat.le_of_ble_eq_true rfl) (A1 := [.inl (0, [.ref 1, .ref 2, .int c]), .inr (.int, (ps.map Value.int)), .inr (.int, (zs.map Value.int)), .inr (.int, [.int lx, .int l1, .int l2, .int l3])]) rfl ?_
    refine W_run 17 2 (pc' := 23) (ls' := [.val (.ref 3), .val (.int x), .val (.int y), .val (.int lx), .val (.int ly)]) (st' := [.int 1, .ref 3]) rfl ?_
    refine W_iaload (jx := 19) rfl rfl (by decide) (v := .int l1) rfl ?_
    refine W_run 20 1 (pc' := 26) (ls' := [.val (.ref 3), .val (.int x), .val (.int y), .val (.int lx), .val (.int ly)]) (st' := [.int ly, .int l1]) rfl ?_
    refine W_ne (jx := 21) rfl (by decide) (pc' := 33) rfl (fun h26 => ?_) (fun h26 => ?_)
    · skip
      refine W_run 26 2 (pc' := 35) (ls' := [.val (.ref 3), .val (.int x), .val (.int y), .val (.int lx), .val (.int ly)]) (st' := [.int 2, .ref 3]) rfl ?_
      refine W_iaload (jx := 28) rfl rfl (by decide) (v := .int l2) rfl ?_
      refine W_run 29 1 (pc' := 38) (ls' := [.val (.ref 3), .val (.int x), .val (.int y), .val (.int lx), .val (.int ly)]) (st' := [.int ly, .int l2]) rfl ?_
      refine W_ne (jx := 30) rfl (by decide) (pc' := 45) rfl (fun h38 => ?_) (fun h38 => ?_)
      · skip
        refine W_run 35 2 (pc' := 47) (ls' := [.val (.ref 3), .val (.int x), .val (.int y), .val (.int lx), .val (.int ly)]) (st' := [.int 3, .ref 3]) rfl ?_
        refine W_iaload (jx := 37) rfl rfl (by decide) (v := .int l3) rfl ?_
        refine W_run 38 1 (pc' := 50) (ls' := [.val (.ref 3), .val (.int x), .val (.int y), .val (.int lx), .val (.int ly)]) (st' := [.int ly, .int l3]) rfl ?_
        refine W_ne (jx := 39) rfl (by decide) (pc' := 57) rfl (fun h50 => ?_) (fun h50 => ?_)
        · skip
          refine W_return (jx := 44) rfl rfl (by decide) (by decide) ?_
          refine ⟨rfl, ?_⟩
          simp only [List.map_cons, List.map_nil]
          first
          | rw [if_neg h14, if_neg h26, if_neg h38, if_neg h50]
          | rw [if_pos h14, if_neg h26, if_neg h38, if_neg h50]
          | rw [if_neg h14, if_pos h26, if_neg h38, if_neg h50]
          | rw [if_pos h14, if_pos h26, if_neg h38, if_neg h50]
          | rw [if_neg h14, if_neg h26, if_pos h38, if_neg h50]
          | rw [if_pos h14, if_neg h26, if_pos h38, if_neg h50]
          | rw [if_neg h14, if_pos h26, if_pos h38, if_neg h50]
          | rw [if_pos h14, if_pos h26, if_pos h38, if_neg h50]
          | rw [if_neg h14, if_neg h26, if_neg h38, if_pos h50]
          | rw [if_pos h14, if_neg h26, if_neg h38, if_pos h50]
          | rw [if_neg h14, if_pos h26, if_neg h38, if_pos h50]
          | rw [if_pos h14, if_pos h26, if_neg h38, if_pos h50]
          | rw [if_neg h14, if_neg h26, if_pos h38, if_pos h50]
          | rw [if_pos h14, if_neg h26, if_pos h38, if_pos h50]
          | rw [if_neg h14, if_pos h26, if_pos h38, if_pos h50]
          | rw [if_pos h14, if_pos h26, if_pos h38, if_pos h50]
        · skip
          refine W_run 40 3 (pc' := 56) (ls' := [.val (.ref 3), .val (.int x), .val (.int y), .val (.int lx), .val (.int ly)]) (st' := [.int lx, .int 3, .ref 3]) rfl ?_
          refine W_iastore (jx := 43) rfl rfl (by decide) (Nat.le_of_ble_eq_true rfl) (A1 := [.inl (0, [.ref 1, .ref 2, .int c]), .inr (.int, (ps.map Value.int)), .inr (.int, (zs.map Value.int)), .inr (.int, [.int lx, .int l1, .int l2, .int lx])]) rfl ?_
          refine W_return (jx := 44) rfl rfl (by decide) (by decide) ?_
          refine ⟨rfl, ?_⟩
          simp only [List.map_cons, List.map_nil]
          first
          | rw [if_neg h14, if_neg h26, if_neg h38, if_neg h50]
          | rw [if_pos h14, if_neg h26, if_neg h38, if_neg h50]
          | rw [if_neg h14, if_pos h26, if_neg h38, if_neg h50]
          | rw [if_pos h14, if_pos h26, if_neg h38, if_neg h50]
          | rw [if_neg h14, if_neg h26, if_pos h38, if_neg h50]
          | rw [if_pos h14, if_neg h26, if_pos h38, if_neg h50]
          | rw [if_neg h14, if_pos h26, if_pos h38, if_neg h50]
          | rw [if_pos h14, if_pos h26, if_pos h38, if_neg h50]
          | rw [if_neg h14, if_neg h26, if_neg h38, if_pos h50]
          | rw [if_pos h14, if_neg h26, if_neg h38, if_pos h50]
          | rw [if_neg h14, if_pos h26, if_neg h38, if_pos h50]
          | rw [if_pos h14, if_pos h26, if_neg h38, if_pos h50]
          | rw [if_neg h14, if_neg h26, if_pos h38, if_pos h50]
          | rw [if_pos h14, if_neg h26, if_pos h38, if_pos h50]
          | rw [if_neg h14, if_pos h26, if_pos h38, if_pos h50]
          | rw [if_pos h14, if_pos h26, if_pos h38, if_pos h50]
      · skip
        refine W_run 31 3 (pc' := 44) (ls' := [.val (.ref 3), .val (.int x), .val (.int y), .val (.int lx), .val (.int ly)]) (st' := [.int lx, .int 2, .ref 3]) rfl ?_
        refine W_iastore (jx := 34) rfl rfl (by decide) (Nat.le_of_ble_eq_true rfl) (A1 := [.inl (0, [.ref 1, .ref 2, .int c]), .inr (.int, (ps.map Value.int)), .inr (.int, (zs.map Value.int)), .inr (.int, [.int lx, .int l1, .int lx, .int l3])]) rfl ?_
        refine W_run 35 2 (pc' := 47) (ls' := [.val (.ref 3), .val (.int x), .val (.int y), .val (.int lx), .val (.int ly)]) (st' := [.int 3, .ref 3]) rfl ?_
        refine W_iaload (jx := 37) rfl rfl (by decide) (v := .int l3) rfl ?_
        refine W_run 38 1 (pc' := 50) (ls' := [.val (.ref 3), .val (.int x), .val (.int y), .val (.int lx), .val (.int ly)]) (st' := [.int ly, .int l3]) rfl ?_
        refine W_ne (jx := 39) rfl (by decide) (pc' := 57) rfl (fun h50 => ?_) (fun h50 => ?_)
        · skip
          refine W_return (jx := 44) rfl rfl (by decide) (by decide) ?_
          refine ⟨rfl, ?_⟩
          simp only [List.map_cons, List.map_nil]
          first
          | rw [if_neg h14, if_neg h26, if_neg h38, if_neg h50]
          | rw [if_pos h14, if_neg h26, if_neg h38, if_neg h50]
          | rw [if_neg h14, if_pos h26, if_neg h38, if_neg h50]
          | rw [if_pos h14, if_pos h26, if_neg h38, if_neg h50]
          | rw [if_neg h14, if_neg h26, if_pos h38, if_neg h50]
          | rw [if_pos h14, if_neg h26, if_pos h38, if_neg h50]
          | rw [if_neg h14, if_pos h26, if_pos h38, if_neg h50]
          | rw [if_pos h14, if_pos h26, if_pos h38, if_neg h50]
          | rw [if_neg h14, if_neg h26, if_neg h38, if_pos h50]
          | rw [if_pos h14, if_neg h26, if_neg h38, if_pos h50]
          | rw [if_neg h14, if_pos h26, if_neg h38, if_pos h50]
          | rw [if_pos h14, if_pos h26, if_neg h38, if_pos h50]
          | rw [if_neg h14, if_neg h26, if_pos h38, if_pos h50]
          | rw [if_pos h14, if_neg h26, if_pos h38, if_pos h50]
          | rw [if_neg h14, if_pos h26, if_pos h38, if_pos h50]
          | rw [if_pos h14, if_pos h26, if_pos h38, if_pos h50]
        · skip
          refine W_run 40 3 (pc' := 56) (ls' := [.val (.ref 3), .val (.int x), .val (.int y), .val (.int lx), .val (.int ly)]) (st' := [.int lx, .int 3, .ref 3]) rfl ?_
          refine W_iastore (jx := 43) rfl rfl (by decide) (Nat.le_of_ble_eq_true rfl) (A1 := [.inl (0, [.ref 1, .ref 2, .int c]), .inr (.int, (ps.map Value.int)), .inr (.int, (zs.map Value.int)), .inr (.int, [.int lx, .int l1, .int lx, .int lx])]) rfl ?_
          refine W_return (jx := 44) rfl rfl (by decide) (by decide) ?_
          refine ⟨rfl, ?_⟩
          simp only [List.map_cons, List.map_nil]
          first
          | rw [if_neg h14, if_neg h26, if_neg h38, if_neg h50]
          | rw [if_pos h14, if_neg h26, if_neg h38, if_neg h50]
          | rw [if_neg h14, if_pos h26, if_neg h38, if_neg h50]
          | rw [if_pos h14, if_pos h26, if_neg h38, if_neg h50]
          | rw [if_neg h14, if_neg h26, if_pos h38, if_neg h50]
          | rw [if_pos h14, if_neg h26, if_pos h38, if_neg h50]
          | rw [if_neg h14, if_pos h26, if_pos h38, if_neg h50]
          | rw [if_pos h14, if_pos h26, if_pos h38, if_neg h50]
          | rw [if_neg h14, if_neg h26, if_neg h38, if_pos h50]
          | rw [if_pos h14, if_neg h26, if_neg h38, if_pos h50]
          | rw [if_neg h14, if_pos h26, if_neg h38, if_pos h50]
          | rw [if_pos h14, if_pos h26, if_neg h38, if_pos h50]
          | rw [if_neg h14, if_neg h26, if_pos h38, if_pos h50]
          | rw [if_pos h14, if_neg h26, if_pos h38, if_pos h50]
          | rw [if_neg h14, if_pos h26, if_pos h38, if_pos h50]
          | rw [if_pos h14, if_pos h26, if_pos h38, if_pos h50]
    · skip
      refine W_run 22 3 (pc' := 32) (ls' := [.val (.ref 3), .val (.int x), .val (.int y), .val (.int lx), .val (.int ly)]) (st' := [.int lx, .int 1, .ref 3]) rfl ?_
      refine W_iastore (jx := 25) rfl rfl (by decide) (Nat.le_of_ble_eq_true rfl) (A1 := [.inl (0, [.ref 1, .ref 2, .int c]), .inr (.int, (ps.map Value.int)), .inr (.int, (zs.map Value.int)), .inr (.int, [.int lx, .int lx, .int l2, .int l3])]) rfl ?_
      refine W_run 26 2 (pc' := 35) (ls' := [.val (.ref 3), .val (.int x), .val (.int y), .val (.int lx), .val (.int ly)]) (st' := [.int 2, .ref 3]) rfl ?_
      refine W_iaload (jx := 28) rfl rfl (by decide) (v := .int l2) rfl ?_
      refine W_run 29 1 (pc' := 38) (ls' := [.val (.ref 3), .val (.int x), .val (.int y), .val (.int lx), .val (.int ly)]) (st' := [.int ly, .int l2]) rfl ?_
      refine W_ne (jx := 30) rfl (by decide) (pc' := 45) rfl (fun h38 => ?_) (fun h38 => ?_)
      · skip
        refine W_run 35 2 (pc' := 47) (ls' := [.val (.ref 3), .val (.int x), .val (.int y), .val (.int lx), .val (.int ly)]) (st' := [.int 3, .ref 3]) rfl ?_
        refine W_iaload (jx := 37) rfl rfl (by decide) (v := .int l3) rfl ?_
        refine W_run 38 1 (pc' := 50) (ls' := [.val (.ref 3), .val (.int x), .val (.int y), .val (.int lx), .val (.int ly)]) (st' := [.int ly, .int l3]) rfl ?_
        refine W_ne (jx := 39) rfl (by decide) (pc' := 57) rfl (fun h50 => ?_) (fun h50 => ?_)
        · skip
          refine W_return (jx := 44) rfl rfl (by decide) (by decide) ?_
          refine ⟨rfl, ?_⟩
          simp only [List.map_cons, List.map_nil]
          first
          | rw [if_neg h14, if_neg h26, if_neg h38, if_neg h50]
          | rw [if_pos h14, if_neg h26, if_neg h38, if_neg h50]
          | rw [if_neg h14, if_pos h26, if_neg h38, if_neg h50]
          | rw [if_pos h14, if_pos h26, if_neg h38, if_neg h50]
          | rw [if_neg h14, if_neg h26, if_pos h38, if_neg h50]
          | rw [if_pos h14, if_neg h26, if_pos h38, if_neg h50]
          | rw [if_neg h14, if_pos h26, if_pos h38, if_neg h50]
          | rw [if_pos h14, if_pos h26, if_pos h38, if_neg h50]
          | rw [if_neg h14, if_neg h26, if_neg h38, if_pos h50]
          | rw [if_pos h14, if_neg h26, if_neg h38, if_pos h50]
          | rw [if_neg h14, if_pos h26, if_neg h38, if_pos h50]
          | rw [if_pos h14, if_pos h26, if_neg h38, if_pos h50]
          | rw [if_neg h14, if_neg h26, if_pos h38, if_pos h50]
          | rw [if_pos h14, if_neg h26, if_pos h38, if_pos h50]
          | rw [if_neg h14, if_pos h26, if_pos h38, if_pos h50]
          | rw [if_pos h14, if_pos h26, if_pos h38, if_pos h50]
        · skip
          refine W_run 40 3 (pc' := 56) (ls' := [.val (.ref 3), .val (.int x), .val (.int y), .val (.int lx), .val (.int ly)]) (st' := [.int lx, .int 3, .ref 3]) rfl ?_
          refine W_iastore (jx := 43) rfl rfl (by decide) (Nat.le_of_ble_eq_true rfl) (A1 := [.inl (0, [.ref 1, .ref 2, .int c]), .inr (.int, (ps.map Value.int)), .inr (.int, (zs.map Value.int)), .inr (.int, [.int lx, .int lx, .int l2, .int lx])]) rfl ?_
          refine W_return (jx := 44) rfl rfl (by decide) (by decide) ?_
          refine ⟨rfl, ?_⟩
          simp only [List.map_cons, List.map_nil]
          first
          | rw [if_neg h14, if_neg h26, if_neg h38, if_neg h50]
          | rw [if_pos h14, if_neg h26, if_neg h38, if_neg h50]
          | rw [if_neg h14, if_pos h26, if_neg h38, if_neg h50]
          | rw [if_pos h14, if_pos h26, if_neg h38, if_neg h50]
          | rw [if_neg h14, if_neg h26, if_pos h38, if_neg h50]
          | rw [if_pos h14, if_neg h26, if_pos h38, if_neg h50]
          | rw [if_neg h14, if_pos h26, if_pos h38, if_neg h50]
          | rw [if_pos h14, if_pos h26, if_pos h38, if_neg h50]
          | rw [if_neg h14, if_neg h26, if_neg h38, if_pos h50]
          | rw [if_pos h14, if_neg h26, if_neg h38, if_pos h50]
          | rw [if_neg h14, if_pos h26, if_neg h38, if_pos h50]
          | rw [if_pos h14, if_pos h26, if_neg h38, if_pos h50]
          | rw [if_neg h14, if_neg h26, if_pos h38, if_pos h50]
          | rw [if_pos h14, if_neg h26, if_pos h38, if_pos h50]
          | rw [if_neg h14, if_pos h26, if_pos h38, if_pos h50]
          | rw [if_pos h14, if_pos h26, if_pos h38, if_pos h50]
      · skip
        refine W_run 31 3 (pc' := 44) (ls' := [.val (.ref 3), .val (.int x), .val (.int y), .val (.int lx), .val (.int ly)]) (st' := [.int lx, .int 2, .ref 3]) rfl ?_
        refine W_iastore (jx := 34) rfl rfl (by decide) (Nat.le_of_ble_eq_true rfl) (A1 := [.inl (0, [.ref 1, .ref 2, .int c]), .inr (.int, (ps.map Value.int)), .inr (.int, (zs.map Value.int)), .inr (.int, [.int lx, .int lx, .int lx, .int l3])]) rfl ?_
        refine W_run 35 2 (pc' := 47) (ls' := [.val (.ref 3), .val (.int x), .val (.int y), .val (.int lx), .val (.int ly)]) (st' := [.int 3, .ref 3]) rfl ?_
        refine W_iaload (jx := 37) rfl rfl (by decide) (v := .int l3) rfl ?_
        refine W_run 38 1 (pc' := 50) (ls' := [.val (.ref 3), .val (.int x), .val (.int y), .val (.int lx), .val (.int ly)]) (st' := [.int ly, .int l3]) rfl ?_
        refine W_ne (jx := 39) rfl (by decide) (pc' := 57) rfl (fun h50 => ?_) (fun h50 => ?_)
        · skip
          refine W_return (jx := 44) rfl rfl (by decide) (by decide) ?_
          refine ⟨rfl, ?_⟩
          simp only [List.map_cons, List.map_nil]
          first
          | rw [if_neg h14, if_neg h26, if_neg h38, if_neg h50]
          | rw [if_pos h14, if_neg h26, if_neg h38, if_neg h50]
          | rw [if_neg h14, if_pos h26, if_neg h38, if_neg h50]
          | rw [if_pos h14, if_pos h26, if_neg h38, if_neg h50]
          | rw [if_neg h14, if_neg h26, if_pos h38, if_neg h50]
          | rw [if_pos h14, if_neg h26, if_pos h38, if_neg h50]
          | rw [if_neg h14, if_pos h26, if_pos h38, if_neg h50]
          | rw [if_pos h14, if_pos h26, if_pos h38, if_neg h50]
          | rw [if_neg h14, if_neg h26, if_neg h38, if_pos h50]
          | rw [if_pos h14, if_neg h26, if_neg h38, if_pos h50]
          | rw [if_neg h14, if_pos h26, if_neg h38, if_pos h50]
          | rw [if_pos h14, if_pos h26, if_neg h38, if_pos h50]
          | rw [if_neg h14, if_neg h26, if_pos h38, if_pos h50]
          | rw [if_pos h14, if_neg h26, if_pos h38, if_pos h50]
          | rw [if_neg h14, if_pos h26, if_pos h38, if_pos h50]
          | rw [if_pos h14, if_pos h26, if_pos h38, if_pos h50]
        · skip
          refine W_run 40 3 (pc' := 56) (ls' := [.val (.ref 3), .val (.int x), .val (.int y), .val (.int lx), .val (.int ly)]) (st' := [.int lx, .int 3, .ref 3]) rfl ?_
          refine W_iastore (jx := 43) rfl rfl (by decide) (Nat.le_of_ble_eq_true rfl) (A1 := [.inl (0, [.ref 1, .ref 2, .int c]), .inr (.int, (ps.map Value.int)), .inr (.int, (zs.map Value.int)), .inr (.int, [.int lx, .int lx, .int lx, .int lx])]) rfl ?_
          refine W_return (jx := 44) rfl rfl (by decide) (by decide) ?_
          refine ⟨rfl, ?_⟩
          simp only [List.map_cons, List.map_nil]
          first
          | rw [if_neg h14, if_neg h26, if_neg h38, if_neg h50]
          | rw [if_pos h14, if_neg h26, if_neg h38, if_neg h50]
          | rw [if_neg h14, if_pos h26, if_neg h38, if_neg h50]
          | rw [if_pos h14, if_pos h26, if_neg h38, if_neg h50]
          | rw [if_neg h14, if_neg h26, if_pos h38, if_neg h50]
          | rw [if_pos h14, if_neg h26, if_pos h38, if_neg h50]
          | rw [if_neg h14, if_pos h26, if_pos h38, if_neg h50]
          | rw [if_pos h14, if_pos h26, if_pos h38, if_neg h50]
          | rw [if_neg h14, if_neg h26, if_neg h38, if_pos h50]
          | rw [if_pos h14, if_neg h26, if_neg h38, if_pos h50]
          | rw [if_neg h14, if_pos h26, if_neg h38, if_pos h50]
          | rw [if_pos h14, if_pos h26, if_neg h38, if_pos h50]
          | rw [if_neg h14, if_neg h26, if_pos h38, if_pos h50]
          | rw [if_pos h14, if_neg h26, if_pos h38, if_pos h50]
          | rw [if_neg h14, if_pos h26, if_pos h38, if_pos h50]
          | rw [if_pos h14, if_pos h26, if_pos h38, if_pos h50]
set_option maxRecDepth 65536 in
set_option maxHeartbeats 4000000 in
theorem own_m3 {l : Launch} {Z : State} {a0 : Array Value} (hw : ∀ d ∈ tables_1, d.before a0 Z = true) {n0 : Nat} (ps zs lb : List Int32) (c u : Int32) (hU : (ps, zs, c, lb) ∈ own_U) :
    MT false l Z n0 own_lay (⟨"com/example/arcwise/arcwise/graph/DisjointSetsFindPinLaw", "step", "(Lcom/example/arcwise/arcwise/graph/DisjointSets;[II)V"⟩ : MethodName) method_3_code 5 none [] ({ frames := 2, cells := 0, slots := 0, locals := 50 } : Room) [.ref 0, .ref 3, .int u] [.inl (0, [.ref 1, .ref 2, .int c]), .inr (.int, (ps.map Value.int)), .inr (.int, (zs.map Value.int)), .inr (.int, (lb.map Value.int))] (fun v B => v = none ∧ ∃ ps' zs' c' lb', (ps', zs', c', lb') ∈ own_U ∧ B = [.inl (0, [.ref 1, .ref 2, .int c']), .inr (.int, (ps'.map Value.int)), .inr (.int, (zs'.map Value.int)), .inr (.int, (lb'.map Value.int))]) := by
  refine W_enter (D := own_D3) own_pn3 own_D3_ok ?_
  show WP _ _ _ _ _ _ _ _ _ _ _ 0 [.val (.ref 0), .val (.ref 3), .val (.int u), .unset, .unset] [] _ 0 0 _
  refine W_run 0 3 (pc' := 3) (ls' := [.val (.ref 0), .val (.ref 3), .val (.int u), .unset, .unset]) (st' := [.int (u &&& 3)]) rfl ?_
  generalize h_x : ((u &&& 3) : Int32) = x
  refine W_run 3 1 (pc' := 4) (ls' := [.val (.ref 0), .val (.ref 3), .val (.int u), .val (.int x), .unset]) (st' := []) rfl ?_
  refine W_run 4 5 (pc' := 9) (ls' := [.val (.ref 0), .val (.ref 3), .val (.int u), .val (.int x), .unset]) (st' := [.int ((XT.ushr u 2) &&& 3)]) rfl ?_
  generalize h_y : (((XT.ushr u 2) &&& 3) : Int32) = y
  refine W_run 9 1 (pc' := 11) (ls' := [.val (.ref 0), .val (.ref 3), .val (.int u), .val (.int x), .val (.int y)]) (st' := []) rfl ?_
  obtain ⟨a, p1, b, p2, za, zb, l0, l1, l2, l3, lx, ly, hf1, hf2, ha, hb, rfl, hx, hy, a0', b0', x0, y0, la, lb', hN⟩ := own_ck_ok (own_step_ok hU (own_n4 _ _ h_x) (own_n4 _ _ h_y))
  refine W_run 10 3 (pc' := 15) (ls' := [.val (.ref 0), .val (.ref 3), .val (.int u), .val (.int x), .val (.int y)]) (st' := [.int y, .int x, .ref 0]) rfl ?_
  refine W_callV (jx := 13) [.int x, .int y] [] (own_m4 hw ps p1 p2 zs [l0, l1, l2, l3] c x y a b za zb hf1 hf2 ha hb a0' b0' la lb') rfl rfl rfl (hw _ (List.mem_of_getElem? (i := 20) rfl)) (hw _ (List.mem_of_getElem? (i := 21) rfl)) (hw _ (List.mem_of_getElem? (i := 23) rfl)) (hw _ (List.mem_of_getElem? (i := 22) rfl)) (hw _ (List.mem_of_getElem? (i := 2) rfl)) (hw _ (List.mem_of_getElem? (i := 24) rfl)) (by decide) own_pd4 rfl rfl rfl (by decide) rfl (by decide) (by decide) rfl ?_
  rintro _ _ ⟨⟨z, rfl⟩, rfl⟩
  show WP _ _ _ _ _ _ _ _ _ _ _ 18 [.val (.ref 0), .val (.ref 3), .val (.int u), .val (.int x), .val (.int y)] [.int z] [.inl (0, [.ref 1, .ref 2, .int (own_un a b p2 zs c za zb).2.2]), .inr (.int, ((own_un a b p2 zs c za zb).1.map Value.int)), .inr (.int, ((own_un a b p2 zs c za zb).2.1.map Value.int)), .inr (.int, ([l0, l1, l2, l3].map Value.int))] _ _ _
  refine W_run 14 4 (pc' := 23) (ls' := [.val (.ref 0), .val (.ref 3), .val (.int u), .val (.int x), .val (.int y)]) (st' := [.int y, .int x, .ref 3]) rfl ?_
  refine W_callS (jx := 18) [.ref 3, .int x, .int y] [] (own_m6 hw (own_un a b p2 zs c za zb).1 (own_un a b p2 zs c za zb).2.1 (own_un a b p2 zs c za zb).2.2 x y l0 l1 l2 l3 lx ly hx hy x0 y0) rfl (hw _ (List.mem_of_getElem? (i := 30) rfl)) (hw _ (List.mem_of_getElem? (i := 31) rfl)) (hw _ (List.mem_of_getElem? (i := 18) rfl)) (hw _ (List.mem_of_getElem? (i := 32) rfl)) (by decide) own_pd6 rfl rfl rfl (by decide) rfl (by decide) (by decide) rfl ?_
  rintro _ _ ⟨rfl, rfl⟩
  show WP _ _ _ _ _ _ _ _ _ _ _ 26 [.val (.ref 0), .val (.ref 3), .val (.int u), .val (.int x), .val (.int y)] [] [.inl (0, [.ref 1, .ref 2, .int (own_un a b p2 zs c za zb).2.2]), .inr (.int, ((own_un a b p2 zs c za zb).1.map Value.int)), .inr (.int, ((own_un a b p2 zs c za zb).2.1.map Value.int)), .inr (.int, (([l0, l1, l2, l3].map fun l => if l = ly then lx else l).map Value.int))] _ _ _
  refine W_return (jx := 19) rfl rfl (by decide) (by decide) ?_
  exact ⟨rfl, _, _, _, _, hN, rfl⟩
set_option maxRecDepth 65536 in
theorem own_m1 {l : Launch} {Z : State} {a0 : Array Value} (hw : ∀ d ∈ tables_1, d.before a0 Z = true) {n0 : Nat}   :
    MT false l Z n0 own_lay (⟨"com/example/arcwise/arcwise/graph/DisjointSets", "<init>", "(I)V"⟩ : MethodName) prog_58_method_1_code 3 none [] ({ frames := 1, cells := 2, slots := 8, locals := 14 } : Room) [.ref 0, .int 4] [.inl (0, [.null, .null, .int 0])] (fun v B => v = none ∧ B = [.inl (0, [.ref 1, .ref 2, .int 4]), .inr (.int, [.int 0, .int 1, .int 2, .int 3]), .inr (.int, [.int 1, .int 1, .int 1, .int 1])]) := by
  refine W_enter (D := own_D1) own_pn1 own_D1_ok ?_
  show WP _ _ _ _ _ _ _ _ _ _ _ 0 [.val (.ref 0), .val (.int 4), .unset] [] _ 0 0 _
  refine W_run 0 1 (pc' := 1) (ls' := [.val (.ref 0), .val (.int 4), .unset]) (st' := [.ref 0]) rfl ?_
  refine W_initO (jx := 1) rfl (hw _ (List.mem_of_getElem? (i := 6) rfl)) (hw _ (List.mem_of_getElem? (i := 7) rfl)) (hw _ (List.mem_of_getElem? (i := 8) rfl)) rfl (by decide) rfl ?_
  refine W_run 2 2 (pc' := 22) (ls' := [.val (.ref 0), .val (.int 4), .unset]) (st' := []) rfl ?_
  refine W_run 9 2 (pc' := 24) (ls' := [.val (.ref 0), .val (.int 4), .unset]) (st' := [.int 4, .ref 0]) rfl ?_
  refine W_newarray (jx := 11) 4 (vs := [.int 0, .int 0, .int 0, .int 0]) rfl rfl (hw _ (List.mem_of_getElem? (i := 9) rfl)) (by decide) rfl (by decide) (by decide) (by decide) (by decide) rfl (N0 := 1) (A1 := [.inl (0, [.null, .null, .int 0]), .inr (.int, [.int 0, .int 0, .int 0, .int 0])]) rfl rfl ?_
  refine W_putfield (jx := 12) (ci := 0) (k := 0) rfl (own_lay_ok hw) (hw _ (List.mem_of_getElem? (i := 10) rfl)) (Or.inr ⟨(hw _ (List.mem_of_getElem? (i := 11) rfl)), rfl, rfl⟩) (hw _ (List.mem_of_getElem? (i := 1) rfl)) (by decide +kernel : parseFieldDescriptor "[I" = some (.array .int)) (fun _ => rfl) (fun _ => rfl) rfl rfl rfl (A1 := [.inl (0, [.ref 1, .null, .int 0]), .inr (.int, [.int 0, .int 0, .int 0, .int 0])]) rfl ?_
  refine W_run 13 2 (pc' := 31) (ls' := [.val (.ref 0), .val (.int 4), .unset]) (st' := [.int 4, .ref 0]) rfl ?_
  refine W_newarray (jx := 15) 4 (vs := [.int 0, .int 0, .int 0, .int 0]) rfl rfl (hw _ (List.mem_of_getElem? (i := 9) rfl)) (by decide) rfl (by decide) (by decide) (by decide) (by decide) rfl (N0 := 2) (A1 := [.inl (0, [.ref 1, .null, .int 0]), .inr (.int, [.int 0, .int 0, .int 0, .int 0]), .inr (.int, [.int 0, .int 0, .int 0, .int 0])]) rfl rfl ?_
  refine W_putfield (jx := 16) (ci := 0) (k := 1) rfl (own_lay_ok hw) (hw _ (List.mem_of_getElem? (i := 12) rfl)) (Or.inr ⟨(hw _ (List.mem_of_getElem? (i := 13) rfl)), rfl, rfl⟩) (hw _ (List.mem_of_getElem? (i := 1) rfl)) (by decide +kernel : parseFieldDescriptor "[I" = some (.array .int)) (fun _ => rfl) (fun _ => rfl) rfl rfl rfl (A1 := [.inl (0, [.ref 1, .ref 2, .int 0]), .inr (.int, [.int 0, .int 0, .int 0, .int 0]), .inr (.int, [.int 0, .int 0, .int 0, .int 0])]) rfl ?_
  refine W_run 17 2 (pc' := 38) (ls' := [.val (.ref 0), .val (.int 4), .val (.int 0)]) (st' := []) rfl ?_
  refine W_run 19 3 (pc' := 43) (ls' := [.val (.ref 0), .val (.int 4), .val (.int 0)]) (st' := []) rfl ?_
  refine W_run 22 1 (pc' := 44) (ls' := [.val (.ref 0), .val (.int 4), .val (.int 0)]) (st' := [.ref 0]) rfl ?_
  refine W_getfield (jx := 23) (ci := 0) (k := 0) rfl (hw _ (List.mem_of_getElem? (i := 10) rfl)) rfl rfl rfl (v := .ref 1) rfl ?_
  refine W_run 24 2 (pc' := 49) (ls' := [.val (.ref 0), .val (.int 4), .val (.int 0)]) (st' := [.int 0, .int 0, .ref 1]) rfl ?_
  refine W_iastore (jx := 26) rfl rfl (by decide) (Nat.le_of_ble_eq_true rfl) (A1 := [.inl (0, [.ref 1, .ref 2, .int 0]), .inr (.int, [.int 0, .int 0, .int 0, .int 0]), .inr (.int, [.int 0, .int 0, .int 0, .int 0])]) rfl ?_
  refine W_run 27 1 (pc' := 51) (ls' := [.val (.ref 0), .val (.int 4), .val (.int 0)]) (st' := [.ref 0]) rfl ?_
  refine W_getfield (jx := 28) (ci := 0) (k := 1) rfl (hw _ (List.mem_of_getElem? (i := 12) rfl)) rfl rfl rfl (v := .ref 2) rfl ?_
  refine W_run 29 2 (pc' := 56) (ls' := [.val (.ref 0), .val (.int 4), .val (.int 0)]) (st' := [.int 1, .int 0, .ref 2]) rfl ?_
  refine W_iastore (jx := 31) rfl rfl (by decide) (Nat.le_of_ble_eq_true rfl) (A1 := [.inl (0, [.ref 1, .ref 2, .int 0]), .inr (.int, [.int 0, .int 0, .int 0, .int 0]), .inr (.int, [.int 1, .int 0, .int 0, .int 0])]) rfl ?_
  refine W_run 32 1 (pc' := 60) (ls' := [.val (.ref 0), .val (.int 4), .val (.int 1)]) (st' := []) rfl ?_
  refine W_run 33 1 (pc' := 38) (ls' := [.val (.ref 0), .val (.int 4), .val (.int 1)]) (st' := []) rfl ?_
  refine W_run 19 3 (pc' := 43) (ls' := [.val (.ref 0), .val (.int 4), .val (.int 1)]) (st' := []) rfl ?_
  refine W_run 22 1 (pc' := 44) (ls' := [.val (.ref 0), .val (.int 4), .val (.int 1)]) (st' := [.ref 0]) rfl ?_
  refine W_getfield (jx := 23) (ci := 0) (k := 0) rfl (hw _ (List.mem_of_getElem? (i := 10) rfl)) rfl rfl rfl (v := .ref 1) rfl ?_
  refine W_run 24 2 (pc' := 49) (ls' := [.val (.ref 0), .val (.int 4), .val (.int 1)]) (st' := [.int 1, .int 1, .ref 1]) rfl ?_
  refine W_iastore (jx := 26) rfl rfl (by decide) (Nat.le_of_ble_eq_true rfl) (A1 := [.inl (0, [.ref 1, .ref 2, .int 0]), .inr (.int, [.int 0, .int 1, .int 0, .int 0]), .inr (.int, [.int 1, .int 0, .int 0, .int 0])]) rfl ?_
  refine W_run 27 1 (pc' := 51) (ls' := [.val (.ref 0), .val (.int 4), .val (.int 1)]) (st' := [.ref 0]) rfl ?_
  refine W_getfield (jx := 28) (ci := 0) (k := 1) rfl (hw _ (List.mem_of_getElem? (i := 12) rfl)) rfl rfl rfl (v := .ref 2) rfl ?_
  refine W_run 29 2 (pc' := 56) (ls' := [.val (.ref 0), .val (.int 4), .val (.int 1)]) (st' := [.int 1, .int 1, .ref 2]) rfl ?_
  refine W_iastore (jx := 31) rfl rfl (by decide) (Nat.le_of_ble_eq_true rfl) (A1 := [.inl (0, [.ref 1, .ref 2, .int 0]), .inr (.int, [.int 0, .int 1, .int 0, .int 0]), .inr (.int, [.int 1, .int 1, .int 0, .int 0])]) rfl ?_
  refine W_run 32 1 (pc' := 60) (ls' := [.val (.ref 0), .val (.int 4), .val (.int 2)]) (st' := []) rfl ?_
  refine W_run 33 1 (pc' := 38) (ls' := [.val (.ref 0), .val (.int 4), .val (.int 2)]) (st' := []) rfl ?_
  refine W_run 19 3 (pc' := 43) (ls' := [.val (.ref 0), .val (.int 4), .val (.int 2)]) (st' := []) rfl ?_
  refine W_run 22 1 (pc' := 44) (ls' := [.val (.ref 0), .val (.int 4), .val (.int 2)]) (st' := [.ref 0]) rfl ?_
  refine W_getfield (jx := 23) (ci := 0) (k := 0) rfl (hw _ (List.mem_of_getElem? (i := 10) rfl)) rfl rfl rfl (v := .ref 1) rfl ?_
  refine W_run 24 2 (pc' := 49) (ls' := [.val (.ref 0), .val (.int 4), .val (.int 2)]) (st' := [.int 2, .int 2, .ref 1]) rfl ?_
  refine W_iastore (jx := 26) rfl rfl (by decide) (Nat.le_of_ble_eq_true rfl) (A1 := [.inl (0, [.ref 1, .ref 2, .int 0]), .inr (.int, [.int 0, .int 1, .int 2, .int 0]), .inr (.int, [.int 1, .int 1, .int 0, .int 0])]) rfl ?_
  refine W_run 27 1 (pc' := 51) (ls' := [.val (.ref 0), .val (.int 4), .val (.int 2)]) (st' := [.ref 0]) rfl ?_
  refine W_getfield (jx := 28) (ci := 0) (k := 1) rfl (hw _ (List.mem_of_getElem? (i := 12) rfl)) rfl rfl rfl (v := .ref 2) rfl ?_
  refine W_run 29 2 (pc' := 56) (ls' := [.val (.ref 0), .val (.int 4), .val (.int 2)]) (st' := [.int 1, .int 2, .ref 2]) rfl ?_
  refine W_iastore (jx := 31) rfl rfl (by decide) (Nat.le_of_ble_eq_true rfl) (A1 := [.inl (0, [.ref 1, .ref 2, .int 0]), .inr (.int, [.int 0, .int 1, .int 2, .int 0]), .inr (.int, [.int 1, .int 1, .int 1, .int 0])]) rfl ?_
  refine W_run 32 1 (pc' := 60) (ls' := [.val (.ref 0), .val (.int 4), .val (.int 3)]) (st' := []) rfl ?_
  refine W_run 33 1 (pc' := 38) (ls' := [.val (.ref 0), .val (.int 4), .val (.int 3)]) (st' := []) rfl ?_
  refine W_run 19 3 (pc' := 43) (ls' := [.val (.ref 0), .val (.int 4), .val (.int 3)]) (st' := []) rfl ?_
  refine W_run 22 1 (pc' := 44) (ls' := [.val (.ref 0), .val (.int 4), .val (.int 3)]) (st' := [.ref 0]) rfl ?_
  refine W_getfield (jx := 23) (ci := 0) (k := 0) rfl (hw _ (List.mem_of_getElem? (i := 10) rfl)) rfl rfl rfl (v := .ref 1) rfl ?_
  refine W_run 24 2 (pc' := 49) (ls' := [.val (.ref 0), .val (.int 4), .val (.int 3)]) (st' := [.int 3, .int 3, .ref 1]) rfl ?_
  refine W_iastore (jx := 26) rfl rfl (by decide) (Nat.le_of_ble_eq_true rfl) (A1 := [.inl (0, [.ref 1, .ref 2, .int 0]), .inr (.int, [.int 0, .int 1, .int 2, .int 3]), .inr (.int, [.int 1, .int 1, .int 1, .int 0])]) rfl ?_
  refine W_run 27 1 (pc' := 51) (ls' := [.val (.ref 0), .val (.int 4), .val (.int 3)]) (st' := [.ref 0]) rfl ?_
  refine W_getfield (jx := 28) (ci := 0) (k := 1) rfl (hw _ (List.mem_of_getElem? (i := 12) rfl)) rfl rfl rfl (v := .ref 2) rfl ?_
  refine W_run 29 2 (pc' := 56) (ls' := [.val (.ref 0), .val (.int 4), .val (.int 3)]) (st' := [.int 1, .int 3, .ref 2]) rfl ?_
  refine W_iastore (jx := 31) rfl rfl (by decide) (Nat.le_of_ble_eq_true rfl) (A1 := [.inl (0, [.ref 1, .ref 2, .int 0]), .inr (.int, [.int 0, .int 1, .int 2, .int 3]), .inr (.int, [.int 1, .int 1, .int 1, .int 1])]) rfl ?_
  refine W_run 32 1 (pc' := 60) (ls' := [.val (.ref 0), .val (.int 4), .val (.int 4)]) (st' := []) rfl ?_
  refine W_run 33 1 (pc' := 38) (ls' := [.val (.ref 0), .val (.int 4), .val (.int 4)]) (st' := []) rfl ?_
  refine W_run 19 3 (pc' := 63) (ls' := [.val (.ref 0), .val (.int 4), .val (.int 4)]) (st' := []) rfl ?_
  refine W_run 34 2 (pc' := 65) (ls' := [.val (.ref 0), .val (.int 4), .val (.int 4)]) (st' := [.int 4, .ref 0]) rfl ?_
  refine W_putfield (jx := 36) (ci := 0) (k := 2) rfl (own_lay_ok hw) (hw _ (List.mem_of_getElem? (i := 14) rfl)) (Or.inl (hw _ (List.mem_of_getElem? (i := 15) rfl))) (hw _ (List.mem_of_getElem? (i := 1) rfl)) (by decide +kernel : parseFieldDescriptor "I" = some .int) (fun _ => rfl) (fun _ => rfl) rfl rfl rfl (A1 := [.inl (0, [.ref 1, .ref 2, .int 4]), .inr (.int, [.int 0, .int 1, .int 2, .int 3]), .inr (.int, [.int 1, .int 1, .int 1, .int 1])]) rfl ?_
  refine W_return (jx := 37) rfl rfl (by decide) (by decide) ?_
  exact ⟨rfl, rfl⟩
set_option maxRecDepth 65536 in
theorem own_m7_0 {l : Launch} {Z : State} {a0 : Array Value} (hw : ∀ d ∈ tables_1, d.before a0 Z = true) {n0 : Nat} (ps zs : List Int32) (c l0 l1 l2 l3 r0 r1 r2 r3 : Int32) (g : ¬ r0 < 0 ∧ r0 < 4 ∧ [l0, l1, l2, l3][r0.toNatClampNeg]? = some l0) :
    MT false l Z n0 own_lay (⟨"com/example/arcwise/arcwise/graph/DisjointSetsFindPinLaw", "inSet", "([I[II)Z"⟩ : MethodName) method_4_code 3 (some .boolean) [] ({ frames := 0, cells := 0, slots := 0, locals := 0 } : Room) [.ref 4, .ref 3, .int 0] [.inl (0, [.ref 1, .ref 2, .int c]), .inr (.int, (ps.map Value.int)), .inr (.int, (zs.map Value.int)), .inr (.int, [.int l0, .int l1, .int l2, .int l3]), .inr (.int, [.int r0, .int r1, .int r2, .int r3])] (fun v B => v = some (.int 1) ∧ B = [.inl (0, [.ref 1, .ref 2, .int c]), .inr (.int, (ps.map Value.int)), .inr (.int, (zs.map Value.int)), .inr (.int, [.int l0, .int l1, .int l2, .int l3]), .inr (.int, [.int r0, .int r1, .int r2, .int r3])]) := by
  refine W_enter (D := own_D7) own_pn7 own_D7_ok ?_
  show WP _ _ _ _ _ _ _ _ _ _ _ 0 [.val (.ref 4), .val (.ref 3), .val (.int 0)] [] _ 0 0 _
  refine W_run 0 2 (pc' := 2) (ls' := [.val (.ref 4), .val (.ref 3), .val (.int 0)]) (st' := [.int 0, .ref 4]) rfl ?_
  refine W_iaload (jx := 2) rfl rfl (by decide) (v := .int r0) rfl ?_
  refine W_iflt (jx := 3) rfl (by decide) (pc' := 28) rfl (fun h3 => ?_) (fun h3 => ?_)
  · skip
    exact absurd h3 g.1
  · skip
    refine W_run 4 2 (pc' := 8) (ls' := [.val (.ref 4), .val (.ref 3), .val (.int 0)]) (st' := [.int 0, .ref 4]) rfl ?_
    refine W_iaload (jx := 6) rfl rfl (by decide) (v := .int r0) rfl ?_
    refine W_run 7 1 (pc' := 10) (ls' := [.val (.ref 4), .val (.ref 3), .val (.int 0)]) (st' := [.int 4, .int r0]) rfl ?_
    refine W_ge (jx := 8) rfl (by decide) (pc' := 28) rfl (fun h10 => ?_) (fun h10 => ?_)
    · skip
      exact absurd g.2.1 h10
    · skip
      refine W_run 9 3 (pc' := 16) (ls' := [.val (.ref 4), .val (.ref 3), .val (.int 0)]) (st' := [.int 0, .ref 4, .ref 3]) rfl ?_
      refine W_iaload (jx := 12) rfl rfl (by decide) (v := .int r0) rfl ?_
      refine W_iaload (jx := 13) rfl rfl g.1 (v := .int l0) (own_ix g.2.2) ?_
      refine W_run 14 2 (pc' := 20) (ls' := [.val (.ref 4), .val (.ref 3), .val (.int 0)]) (st' := [.int 0, .ref 3, .int l0]) rfl ?_
      refine W_iaload (jx := 16) rfl rfl (by decide) (v := .int l0) rfl ?_
      refine W_ne (jx := 17) rfl (by decide) (pc' := 28) rfl (fun h21 => ?_) (fun h21 => ?_)
      · skip
        exact absurd rfl h21
      · skip
        refine W_run 18 2 (pc' := 29) (ls' := [.val (.ref 4), .val (.ref 3), .val (.int 0)]) (st' := [.int 1]) rfl ?_
        refine W_zreturn (jx := 21) rfl rfl rfl (by decide) (by decide) ?_
        exact ⟨rfl, rfl⟩
set_option maxRecDepth 65536 in
theorem own_m7_1 {l : Launch} {Z : State} {a0 : Array Value} (hw : ∀ d ∈ tables_1, d.before a0 Z = true) {n0 : Nat} (ps zs : List Int32) (c l0 l1 l2 l3 r0 r1 r2 r3 : Int32) (g : ¬ r1 < 0 ∧ r1 < 4 ∧ [l0, l1, l2, l3][r1.toNatClampNeg]? = some l1) :
    MT false l Z n0 own_lay (⟨"com/example/arcwise/arcwise/graph/DisjointSetsFindPinLaw", "inSet", "([I[II)Z"⟩ : MethodName) method_4_code 3 (some .boolean) [] ({ frames := 0, cells := 0, slots := 0, locals := 0 } : Room) [.ref 4, .ref 3, .int 1] [.inl (0, [.ref 1, .ref 2, .int c]), .inr (.int, (ps.map Value.int)), .inr (.int, (zs.map Value.int)), .inr (.int, [.int l0, .int l1, .int l2, .int l3]), .inr (.int, [.int r0, .int r1, .int r2, .int r3])] (fun v B => v = some (.int 1) ∧ B = [.inl (0, [.ref 1, .ref 2, .int c]), .inr (.int, (ps.map Value.int)), .inr (.int, (zs.map Value.int)), .inr (.int, [.int l0, .int l1, .int l2, .int l3]), .inr (.int, [.int r0, .int r1, .int r2, .int r3])]) := by
  refine W_enter (D := own_D7) own_pn7 own_D7_ok ?_
  show WP _ _ _ _ _ _ _ _ _ _ _ 0 [.val (.ref 4), .val (.ref 3), .val (.int 1)] [] _ 0 0 _
  refine W_run 0 2 (pc' := 2) (ls' := [.val (.ref 4), .val (.ref 3), .val (.int 1)]) (st' := [.int 1, .ref 4]) rfl ?_
  refine W_iaload (jx := 2) rfl rfl (by decide) (v := .int r1) rfl ?_
  refine W_iflt (jx := 3) rfl (by decide) (pc' := 28) rfl (fun h3 => ?_) (fun h3 => ?_)
  · skip
    exact absurd h3 g.1
  · skip
    refine W_run 4 2 (pc' := 8) (ls' := [.val (.ref 4), .val (.ref 3), .val (.int 1)]) (st' := [.int 1, .ref 4]) rfl ?_
    refine W_iaload (jx := 6) rfl rfl (by decide) (v := .int r1) rfl ?_
    refine W_run 7 1 (pc' := 10) (ls' := [.val (.ref 4), .val (.ref 3), .val (.int 1)]) (st' := [.int 4, .int r1]) rfl ?_
    refine W_ge (jx := 8) rfl (by decide) (pc' := 28) rfl (fun h10 => ?_) (fun h10 => ?_)
    · skip
      exact absurd g.2.1 h10
    · skip
      refine W_run 9 3 (pc' := 16) (ls' := [.val (.ref 4), .val (.ref 3), .val (.int 1)]) (st' := [.int 1, .ref 4, .ref 3]) rfl ?_
      refine W_iaload (jx := 12) rfl rfl (by decide) (v := .int r1) rfl ?_
      refine W_iaload (jx := 13) rfl rfl g.1 (v := .int l1) (own_ix g.2.2) ?_
      refine W_run 14 2 (pc' := 20) (ls' := [.val (.ref 4), .val (.ref 3), .val (.int 1)]) (st' := [.int 1, .ref 3, .int l1]) rfl ?_
      refine W_iaload (jx := 16) rfl rfl (by decide) (v := .int l1) rfl ?_
      refine W_ne (jx := 17) rfl (by decide) (pc' := 28) rfl (fun h21 => ?_) (fun h21 => ?_)
      · skip
        exact absurd rfl h21
      · skip
        refine W_run 18 2 (pc' := 29) (ls' := [.val (.ref 4), .val (.ref 3), .val (.int 1)]) (st' := [.int 1]) rfl ?_
        refine W_zreturn (jx := 21) rfl rfl rfl (by decide) (by decide) ?_
        exact ⟨rfl, rfl⟩
set_option maxRecDepth 65536 in
theorem own_m7_2 {l : Launch} {Z : State} {a0 : Array Value} (hw : ∀ d ∈ tables_1, d.before a0 Z = true) {n0 : Nat} (ps zs : List Int32) (c l0 l1 l2 l3 r0 r1 r2 r3 : Int32) (g : ¬ r2 < 0 ∧ r2 < 4 ∧ [l0, l1, l2, l3][r2.toNatClampNeg]? = some l2) :
    MT false l Z n0 own_lay (⟨"com/example/arcwise/arcwise/graph/DisjointSetsFindPinLaw", "inSet", "([I[II)Z"⟩ : MethodName) method_4_code 3 (some .boolean) [] ({ frames := 0, cells := 0, slots := 0, locals := 0 } : Room) [.ref 4, .ref 3, .int 2] [.inl (0, [.ref 1, .ref 2, .int c]), .inr (.int, (ps.map Value.int)), .inr (.int, (zs.map Value.int)), .inr (.int, [.int l0, .int l1, .int l2, .int l3]), .inr (.int, [.int r0, .int r1, .int r2, .int r3])] (fun v B => v = some (.int 1) ∧ B = [.inl (0, [.ref 1, .ref 2, .int c]), .inr (.int, (ps.map Value.int)), .inr (.int, (zs.map Value.int)), .inr (.int, [.int l0, .int l1, .int l2, .int l3]), .inr (.int, [.int r0, .int r1, .int r2, .int r3])]) := by
  refine W_enter (D := own_D7) own_pn7 own_D7_ok ?_
  show WP _ _ _ _ _ _ _ _ _ _ _ 0 [.val (.ref 4), .val (.ref 3), .val (.int 2)] [] _ 0 0 _
  refine W_run 0 2 (pc' := 2) (ls' := [.val (.ref 4), .val (.ref 3), .val (.int 2)]) (st' := [.int 2, .ref 4]) rfl ?_
  refine W_iaload (jx := 2) rfl rfl (by decide) (v := .int r2) rfl ?_
  refine W_iflt (jx := 3) rfl (by decide) (pc' := 28) rfl (fun h3 => ?_) (fun h3 => ?_)
  · skip
    exact absurd h3 g.1
  · skip
    refine W_run 4 2 (pc' := 8) (ls' := [.val (.ref 4), .val (.ref 3), .val (.int 2)]) (st' := [.int 2, .ref 4]) rfl ?_
    refine W_iaload (jx := 6) rfl rfl (by decide) (v := .int r2) rfl ?_
    refine W_run 7 1 (pc' := 10) (ls' := [.val (.ref 4), .val (.ref 3), .val (.int 2)]) (st' := [.int 4, .int r2]) rfl ?_
    refine W_ge (jx := 8) rfl (by decide) (pc' := 28) rfl (fun h10 => ?_) (fun h10 => ?_)
    · skip
      exact absurd g.2.1 h10
    · skip
      refine W_run 9 3 (pc' := 16) (ls' := [.val (.ref 4), .val (.ref 3), .val (.int 2)]) (st' := [.int 2, .ref 4, .ref 3]) rfl ?_
      refine W_iaload (jx := 12) rfl rfl (by decide) (v := .int r2) rfl ?_
      refine W_iaload (jx := 13) rfl rfl g.1 (v := .int l2) (own_ix g.2.2) ?_
      refine W_run 14 2 (pc' := 20) (ls' := [.val (.ref 4), .val (.ref 3), .val (.int 2)]) (st' := [.int 2, .ref 3, .int l2]) rfl ?_
      refine W_iaload (jx := 16) rfl rfl (by decide) (v := .int l2) rfl ?_
      refine W_ne (jx := 17) rfl (by decide) (pc' := 28) rfl (fun h21 => ?_) (fun h21 => ?_)
      · skip
        exact absurd rfl h21
      · skip
        refine W_run 18 2 (pc' := 29) (ls' := [.val (.ref 4), .val (.ref 3), .val (.int 2)]) (st' := [.int 1]) rfl ?_
        refine W_zreturn (jx := 21) rfl rfl rfl (by decide) (by decide) ?_
        exact ⟨rfl, rfl⟩
set_option maxRecDepth 65536 in
theorem own_m7_3 {l : Launch} {Z : State} {a0 : Array Value} (hw : ∀ d ∈ tables_1, d.before a0 Z = true) {n0 : Nat} (ps zs : List Int32) (c l0 l1 l2 l3 r0 r1 r2 r3 : Int32) (g : ¬ r3 < 0 ∧ r3 < 4 ∧ [l0, l1, l2, l3][r3.toNatClampNeg]? = some l3) :
    MT false l Z n0 own_lay (⟨"com/example/arcwise/arcwise/graph/DisjointSetsFindPinLaw", "inSet", "([I[II)Z"⟩ : MethodName) method_4_code 3 (some .boolean) [] ({ frames := 0, cells := 0, slots := 0, locals := 0 } : Room) [.ref 4, .ref 3, .int 3] [.inl (0, [.ref 1, .ref 2, .int c]), .inr (.int, (ps.map Value.int)), .inr (.int, (zs.map Value.int)), .inr (.int, [.int l0, .int l1, .int l2, .int l3]), .inr (.int, [.int r0, .int r1, .int r2, .int r3])] (fun v B => v = some (.int 1) ∧ B = [.inl (0, [.ref 1, .ref 2, .int c]), .inr (.int, (ps.map Value.int)), .inr (.int, (zs.map Value.int)), .inr (.int, [.int l0, .int l1, .int l2, .int l3]), .inr (.int, [.int r0, .int r1, .int r2, .int r3])]) := by
  refine W_enter (D := own_D7) own_pn7 own_D7_ok ?_
  show WP _ _ _ _ _ _ _ _ _ _ _ 0 [.val (.ref 4), .val (.ref 3), .val (.int 3)] [] _ 0 0 _
  refine W_run 0 2 (pc' := 2) (ls' := [.val (.ref 4), .val (.ref 3), .val (.int 3)]) (st' := [.int 3, .ref 4]) rfl ?_
  refine W_iaload (jx := 2) rfl rfl (by decide) (v := .int r3) rfl ?_
  refine W_iflt (jx := 3) rfl (by decide) (pc' := 28) rfl (fun h3 => ?_) (fun h3 => ?_)
  · skip
    exact absurd h3 g.1
  · skip
    refine W_run 4 2 (pc' := 8) (ls' := [.val (.ref 4), .val (.ref 3), .val (.int 3)]) (st' := [.int 3, .ref 4]) rfl ?_
    refine W_iaload (jx := 6) rfl rfl (by decide) (v := .int r3) rfl ?_
    refine W_run 7 1 (pc' := 10) (ls' := [.val (.ref 4), .val (.ref 3), .val (.int 3)]) (st' := [.int 4, .int r3]) rfl ?_
    refine W_ge (jx := 8) rfl (by decide) (pc' := 28) rfl (fun h10 => ?_) (fun h10 => ?_)
    · skip
      exact absurd g.2.1 h10
    · skip
      refine W_run 9 3 (pc' := 16) (ls' := [.val (.ref 4), .val (.ref 3), .val (.int 3)]) (st' := [.int 3, .ref 4, .ref 3]) rfl ?_
      refine W_iaload (jx := 12) rfl rfl (by decide) (v := .int r3) rfl ?_
      refine W_iaload (jx := 13) rfl rfl g.1 (v := .int l3) (own_ix g.2.2) ?_
      refine W_run 14 2 (pc' := 20) (ls' := [.val (.ref 4), .val (.ref 3), .val (.int 3)]) (st' := [.int 3, .ref 3, .int l3]) rfl ?_
      refine W_iaload (jx := 16) rfl rfl (by decide) (v := .int l3) rfl ?_
      refine W_ne (jx := 17) rfl (by decide) (pc' := 28) rfl (fun h21 => ?_) (fun h21 => ?_)
      · skip
        exact absurd rfl h21
      · skip
        refine W_run 18 2 (pc' := 29) (ls' := [.val (.ref 4), .val (.ref 3), .val (.int 3)]) (st' := [.int 1]) rfl ?_
        refine W_zreturn (jx := 21) rfl rfl rfl (by decide) (by decide) ?_
        exact ⟨rfl, rfl⟩
set_option maxRecDepth 65536 in
theorem own_m8_01 {l : Launch} {Z : State} {a0 : Array Value} (hw : ∀ d ∈ tables_1, d.before a0 Z = true) {n0 : Nat} (ps zs : List Int32) (c l0 l1 l2 l3 r0 r1 r2 r3 : Int32) (g : r0 = r1 ↔ l0 = l1) :
    MT false l Z n0 own_lay (⟨"com/example/arcwise/arcwise/graph/DisjointSetsFindPinLaw", "same", "([I[III)Z"⟩ : MethodName) method_5_code 4 (some .boolean) [] ({ frames := 0, cells := 0, slots := 0, locals := 0 } : Room) [.ref 4, .ref 3, .int 0, .int 1] [.inl (0, [.ref 1, .ref 2, .int c]), .inr (.int, (ps.map Value.int)), .inr (.int, (zs.map Value.int)), .inr (.int, [.int l0, .int l1, .int l2, .int l3]), .inr (.int, [.int r0, .int r1, .int r2, .int r3])] (fun v B => v = some (.int 1) ∧ B = [.inl (0, [.ref 1, .ref 2, .int c]), .inr (.int, (ps.map Value.int)), .inr (.int, (zs.map Value.int)), .inr (.int, [.int l0, .int l1, .int l2, .int l3]), .inr (.int, [.int r0, .int r1, .int r2, .int r3])]) := by
  refine W_enter (D := own_D8) own_pn8 own_D8_ok ?_
  show WP _ _ _ _ _ _ _ _ _ _ _ 0 [.val (.ref 4), .val (.ref 3), .val (.int 0), .val (.int 1)] [] _ 0 0 _
  refine W_run 0 2 (pc' := 2) (ls' := [.val (.ref 4), .val (.ref 3), .val (.int 0), .val (.int 1)]) (st' := [.int 0, .ref 4]) rfl ?_
  refine W_iaload (jx := 2) rfl rfl (by decide) (v := .int r0) rfl ?_
  refine W_run 3 2 (pc' := 5) (ls' := [.val (.ref 4), .val (.ref 3), .val (.int 0), .val (.int 1)]) (st' := [.int 1, .ref 4, .int r0]) rfl ?_
  refine W_iaload (jx := 5) rfl rfl (by decide) (v := .int r1) rfl ?_
  refine W_ne (jx := 6) rfl (by decide) (pc' := 13) rfl (fun h6 => ?_) (fun h6 => ?_)
  · skip
    refine W_run 9 3 (pc' := 16) (ls' := [.val (.ref 4), .val (.ref 3), .val (.int 0), .val (.int 1)]) (st' := [.int 0, .ref 3, .int 0]) rfl ?_
    refine W_iaload (jx := 12) rfl rfl (by decide) (v := .int l0) rfl ?_
    refine W_run 13 2 (pc' := 19) (ls' := [.val (.ref 4), .val (.ref 3), .val (.int 0), .val (.int 1)]) (st' := [.int 1, .ref 3, .int l0, .int 0]) rfl ?_
    refine W_iaload (jx := 15) rfl rfl (by decide) (v := .int l1) rfl ?_
    refine W_ne (jx := 16) rfl (by decide) (pc' := 27) rfl (fun h20 => ?_) (fun h20 => ?_)
    · skip
      refine W_run 19 2 (pc' := 31) (ls' := [.val (.ref 4), .val (.ref 3), .val (.int 0), .val (.int 1)]) (st' := []) rfl ?_
      refine W_run 21 2 (pc' := 36) (ls' := [.val (.ref 4), .val (.ref 3), .val (.int 0), .val (.int 1)]) (st' := [.int 1]) rfl ?_
      refine W_zreturn (jx := 24) rfl rfl rfl (by decide) (by decide) ?_
      exact ⟨rfl, rfl⟩
    · skip
      refine W_run 17 2 (pc' := 28) (ls' := [.val (.ref 4), .val (.ref 3), .val (.int 0), .val (.int 1)]) (st' := [.int 1, .int 0]) rfl ?_
      refine W_run 20 1 (pc' := 35) (ls' := [.val (.ref 4), .val (.ref 3), .val (.int 0), .val (.int 1)]) (st' := []) rfl ?_
      refine W_run 23 1 (pc' := 36) (ls' := [.val (.ref 4), .val (.ref 3), .val (.int 0), .val (.int 1)]) (st' := [.int 0]) rfl ?_
      refine W_zreturn (jx := 24) rfl rfl rfl (by decide) (by decide) ?_
      exfalso
      first | exact h20 (g.mp h6) | exact h6 (g.mpr h20)
  · skip
    refine W_run 7 2 (pc' := 14) (ls' := [.val (.ref 4), .val (.ref 3), .val (.int 0), .val (.int 1)]) (st' := [.int 1]) rfl ?_
    refine W_run 10 2 (pc' := 16) (ls' := [.val (.ref 4), .val (.ref 3), .val (.int 0), .val (.int 1)]) (st' := [.int 0, .ref 3, .int 1]) rfl ?_
    refine W_iaload (jx := 12) rfl rfl (by decide) (v := .int l0) rfl ?_
    refine W_run 13 2 (pc' := 19) (ls' := [.val (.ref 4), .val (.ref 3), .val (.int 0), .val (.int 1)]) (st' := [.int 1, .ref 3, .int l0, .int 1]) rfl ?_
    refine W_iaload (jx := 15) rfl rfl (by decide) (v := .int l1) rfl ?_
    refine W_ne (jx := 16) rfl (by decide) (pc' := 27) rfl (fun h20 => ?_) (fun h20 => ?_)
    · skip
      refine W_run 19 2 (pc' := 35) (ls' := [.val (.ref 4), .val (.ref 3), .val (.int 0), .val (.int 1)]) (st' := []) rfl ?_
      refine W_run 23 1 (pc' := 36) (ls' := [.val (.ref 4), .val (.ref 3), .val (.int 0), .val (.int 1)]) (st' := [.int 0]) rfl ?_
      refine W_zreturn (jx := 24) rfl rfl rfl (by decide) (by decide) ?_
      exfalso
      first | exact h20 (g.mp h6) | exact h6 (g.mpr h20)
    · skip
      refine W_run 17 2 (pc' := 28) (ls' := [.val (.ref 4), .val (.ref 3), .val (.int 0), .val (.int 1)]) (st' := [.int 1, .int 1]) rfl ?_
      refine W_run 20 1 (pc' := 31) (ls' := [.val (.ref 4), .val (.ref 3), .val (.int 0), .val (.int 1)]) (st' := []) rfl ?_
      refine W_run 21 2 (pc' := 36) (ls' := [.val (.ref 4), .val (.ref 3), .val (.int 0), .val (.int 1)]) (st' := [.int 1]) rfl ?_
      refine W_zreturn (jx := 24) rfl rfl rfl (by decide) (by decide) ?_
      exact ⟨rfl, rfl⟩
set_option maxRecDepth 65536 in
theorem own_m8_02 {l : Launch} {Z : State} {a0 : Array Value} (hw : ∀ d ∈ tables_1, d.before a0 Z = true) {n0 : Nat} (ps zs : List Int32) (c l0 l1 l2 l3 r0 r1 r2 r3 : Int32) (g : r0 = r2 ↔ l0 = l2) :
    MT false l Z n0 own_lay (⟨"com/example/arcwise/arcwise/graph/DisjointSetsFindPinLaw", "same", "([I[III)Z"⟩ : MethodName) method_5_code 4 (some .boolean) [] ({ frames := 0, cells := 0, slots := 0, locals := 0 } : Room) [.ref 4, .ref 3, .int 0, .int 2] [.inl (0, [.ref 1, .ref 2, .int c]), .inr (.int, (ps.map Value.int)), .inr (.int, (zs.map Value.int)), .inr (.int, [.int l0, .int l1, .int l2, .int l3]), .inr (.int, [.int r0, .int r1, .int r2, .int r3])] (fun v B => v = some (.int 1) ∧ B = [.inl (0, [.ref 1, .ref 2, .int c]), .inr (.int, (ps.map Value.int)), .inr (.int, (zs.map Value.int)), .inr (.int, [.int l0, .int l1, .int l2, .int l3]), .inr (.int, [.int r0, .int r1, .int r2, .int r3])]) := by
  refine W_enter (D := own_D8) own_pn8 own_D8_ok ?_
  show WP _ _ _ _ _ _ _ _ _ _ _ 0 [.val (.ref 4), .val (.ref 3), .val (.int 0), .val (.int 2)] [] _ 0 0 _
  refine W_run 0 2 (pc' := 2) (ls' := [.val (.ref 4), .val (.ref 3), .val (.int 0), .val (.int 2)]) (st' := [.int 0, .ref 4]) rfl ?_
  refine W_iaload (jx := 2) rfl rfl (by decide) (v := .int r0) rfl ?_
  refine W_run 3 2 (pc' := 5) (ls' := [.val (.ref 4), .val (.ref 3), .val (.int 0), .val (.int 2)]) (st' := [.int 2, .ref 4, .int r0]) rfl ?_
  refine W_iaload (jx := 5) rfl rfl (by decide) (v := .int r2) rfl ?_
  refine W_ne (jx := 6) rfl (by decide) (pc' := 13) rfl (fun h6 => ?_) (fun h6 => ?_)
  · skip
    refine W_run 9 3 (pc' := 16) (ls' := [.val (.ref 4), .val (.ref 3), .val (.int 0), .val (.int 2)]) (st' := [.int 0, .ref 3, .int 0]) rfl ?_
    refine W_iaload (jx := 12) rfl rfl (by decide) (v := .int l0) rfl ?_
    refine W_run 13 2 (pc' := 19) (ls' := [.val (.ref 4), .val (.ref 3), .val (.int 0), .val (.int 2)]) (st' := [.int 2, .ref 3, .int l0, .int 0]) rfl ?_
    refine W_iaload (jx := 15) rfl rfl (by decide) (v := .int l2) rfl ?_
    refine W_ne (jx := 16) rfl (by decide) (pc' := 27) rfl (fun h20 => ?_) (fun h20 => ?_)
    · skip
      refine W_run 19 2 (pc' := 31) (ls' := [.val (.ref 4), .val (.ref 3), .val (.int 0), .val (.int 2)]) (st' := []) rfl ?_
      refine W_run 21 2 (pc' := 36) (ls' := [.val (.ref 4), .val (.ref 3), .val (.int 0), .val (.int 2)]) (st' := [.int 1]) rfl ?_
      refine W_zreturn (jx := 24) rfl rfl rfl (by decide) (by decide) ?_
      exact ⟨rfl, rfl⟩
    · skip
      refine W_run 17 2 (pc' := 28) (ls' := [.val (.ref 4), .val (.ref 3), .val (.int 0), .val (.int 2)]) (st' := [.int 1, .int 0]) rfl ?_
      refine W_run 20 1 (pc' := 35) (ls' := [.val (.ref 4), .val (.ref 3), .val (.int 0), .val (.int 2)]) (st' := []) rfl ?_
      refine W_run 23 1 (pc' := 36) (ls' := [.val (.ref 4), .val (.ref 3), .val (.int 0), .val (.int 2)]) (st' := [.int 0]) rfl ?_
      refine W_zreturn (jx := 24) rfl rfl rfl (by decide) (by decide) ?_
      exfalso
      first | exact h20 (g.mp h6) | exact h6 (g.mpr h20)
  · skip
    refine W_run 7 2 (pc' := 14) (ls' := [.val (.ref 4), .val (.ref 3), .val (.int 0), .val (.int 2)]) (st' := [.int 1]) rfl ?_
    refine W_run 10 2 (pc' := 16) (ls' := [.val (.ref 4), .val (.ref 3), .val (.int 0), .val (.int 2)]) (st' := [.int 0, .ref 3, .int 1]) rfl ?_
    refine W_iaload (jx := 12) rfl rfl (by decide) (v := .int l0) rfl ?_
    refine W_run 13 2 (pc' := 19) (ls' := [.val (.ref 4), .val (.ref 3), .val (.int 0), .val (.int 2)]) (st' := [.int 2, .ref 3, .int l0, .int 1]) rfl ?_
    refine W_iaload (jx := 15) rfl rfl (by decide) (v := .int l2) rfl ?_
    refine W_ne (jx := 16) rfl (by decide) (pc' := 27) rfl (fun h20 => ?_) (fun h20 => ?_)
    · skip
      refine W_run 19 2 (pc' := 35) (ls' := [.val (.ref 4), .val (.ref 3), .val (.int 0), .val (.int 2)]) (st' := []) rfl ?_
      refine W_run 23 1 (pc' := 36) (ls' := [.val (.ref 4), .val (.ref 3), .val (.int 0), .val (.int 2)]) (st' := [.int 0]) rfl ?_
      refine W_zreturn (jx := 24) rfl rfl rfl (by decide) (by decide) ?_
      exfalso
      first | exact h20 (g.mp h6) | exact h6 (g.mpr h20)
    · skip
      refine W_run 17 2 (pc' := 28) (ls' := [.val (.ref 4), .val (.ref 3), .val (.int 0), .val (.int 2)]) (st' := [.int 1, .int 1]) rfl ?_
      refine W_run 20 1 (pc' := 31) (ls' := [.val (.ref 4), .val (.ref 3), .val (.int 0), .val (.int 2)]) (st' := []) rfl ?_
      refine W_run 21 2 (pc' := 36) (ls' := [.val (.ref 4), .val (.ref 3), .val (.int 0), .val (.int 2)]) (st' := [.int 1]) rfl ?_
      refine W_zreturn (jx := 24) rfl rfl rfl (by decide) (by decide) ?_
      exact ⟨rfl, rfl⟩
set_option maxRecDepth 65536 in
theorem own_m8_03 {l : Launch} {Z : State} {a0 : Array Value} (hw : ∀ d ∈ tables_1, d.before a0 Z = true) {n0 : Nat} (ps zs : List Int32) (c l0 l1 l2 l3 r0 r1 r2 r3 : Int32) (g : r0 = r3 ↔ l0 = l3) :
    MT false l Z n0 own_lay (⟨"com/example/arcwise/arcwise/graph/DisjointSetsFindPinLaw", "same", "([I[III)Z"⟩ : MethodName) method_5_code 4 (some .boolean) [] ({ frames := 0, cells := 0, slots := 0, locals := 0 } : Room) [.ref 4, .ref 3, .int 0, .int 3] [.inl (0, [.ref 1, .ref 2, .int c]), .inr (.int, (ps.map Value.int)), .inr (.int, (zs.map Value.int)), .inr (.int, [.int l0, .int l1, .int l2, .int l3]), .inr (.int, [.int r0, .int r1, .int r2, .int r3])] (fun v B => v = some (.int 1) ∧ B = [.inl (0, [.ref 1, .ref 2, .int c]), .inr (.int, (ps.map Value.int)), .inr (.int, (zs.map Value.int)), .inr (.int, [.int l0, .int l1, .int l2, .int l3]), .inr (.int, [.int r0, .int r1, .int r2, .int r3])]) := by
  refine W_enter (D := own_D8) own_pn8 own_D8_ok ?_
  show WP _ _ _ _ _ _ _ _ _ _ _ 0 [.val (.ref 4), .val (.ref 3), .val (.int 0), .val (.int 3)] [] _ 0 0 _
  refine W_run 0 2 (pc' := 2) (ls' := [.val (.ref 4), .val (.ref 3), .val (.int 0), .val (.int 3)]) (st' := [.int 0, .ref 4]) rfl ?_
  refine W_iaload (jx := 2) rfl rfl (by decide) (v := .int r0) rfl ?_
  refine W_run 3 2 (pc' := 5) (ls' := [.val (.ref 4), .val (.ref 3), .val (.int 0), .val (.int 3)]) (st' := [.int 3, .ref 4, .int r0]) rfl ?_
  refine W_iaload (jx := 5) rfl rfl (by decide) (v := .int r3) rfl ?_
  refine W_ne (jx := 6) rfl (by decide) (pc' := 13) rfl (fun h6 => ?_) (fun h6 => ?_)
  · skip
    refine W_run 9 3 (pc' := 16) (ls' := [.val (.ref 4), .val (.ref 3), .val (.int 0), .val (.int 3)]) (st' := [.int 0, .ref 3, .int 0]) rfl ?_
    refine W_iaload (jx := 12) rfl rfl (by decide) (v := .int l0) rfl ?_
    refine W_run 13 2 (pc' := 19) (ls' := [.val (.ref 4), .val (.ref 3), .val (.int 0), .val (.int 3)]) (st' := [.int 3, .ref 3, .int l0, .int 0]) rfl ?_
    refine W_iaload (jx := 15) rfl rfl (by decide) (v := .int l3) rfl ?_
    refine W_ne (jx := 16) rfl (by decide) (pc' := 27) rfl (fun h20 => ?_) (fun h20 => ?_)
    · skip
      refine W_run 19 2 (pc' := 31) (ls' := [.val (.ref 4), .val (.ref 3), .val (.int 0), .val (.int 3)]) (st' := []) rfl ?_
      refine W_run 21 2 (pc' := 36) (ls' := [.val (.ref 4), .val (.ref 3), .val (.int 0), .val (.int 3)]) (st' := [.int 1]) rfl ?_
      refine W_zreturn (jx := 24) rfl rfl rfl (by decide) (by decide) ?_
      exact ⟨rfl, rfl⟩
    · skip
      refine W_run 17 2 (pc' := 28) (ls' := [.val (.ref 4), .val (.ref 3), .val (.int 0), .val (.int 3)]) (st' := [.int 1, .int 0]) rfl ?_
      refine W_run 20 1 (pc' := 35) (ls' := [.val (.ref 4), .val (.ref 3), .val (.int 0), .val (.int 3)]) (st' := []) rfl ?_
      refine W_run 23 1 (pc' := 36) (ls' := [.val (.ref 4), .val (.ref 3), .val (.int 0), .val (.int 3)]) (st' := [.int 0]) rfl ?_
      refine W_zreturn (jx := 24) rfl rfl rfl (by decide) (by decide) ?_
      exfalso
      first | exact h20 (g.mp h6) | exact h6 (g.mpr h20)
  · skip
    refine W_run 7 2 (pc' := 14) (ls' := [.val (.ref 4), .val (.ref 3), .val (.int 0), .val (.int 3)]) (st' := [.int 1]) rfl ?_
    refine W_run 10 2 (pc' := 16) (ls' := [.val (.ref 4), .val (.ref 3), .val (.int 0), .val (.int 3)]) (st' := [.int 0, .ref 3, .int 1]) rfl ?_
    refine W_iaload (jx := 12) rfl rfl (by decide) (v := .int l0) rfl ?_
    refine W_run 13 2 (pc' := 19) (ls' := [.val (.ref 4), .val (.ref 3), .val (.int 0), .val (.int 3)]) (st' := [.int 3, .ref 3, .int l0, .int 1]) rfl ?_
    refine W_iaload (jx := 15) rfl rfl (by decide) (v := .int l3) rfl ?_
    refine W_ne (jx := 16) rfl (by decide) (pc' := 27) rfl (fun h20 => ?_) (fun h20 => ?_)
    · skip
      refine W_run 19 2 (pc' := 35) (ls' := [.val (.ref 4), .val (.ref 3), .val (.int 0), .val (.int 3)]) (st' := []) rfl ?_
      refine W_run 23 1 (pc' := 36) (ls' := [.val (.ref 4), .val (.ref 3), .val (.int 0), .val (.int 3)]) (st' := [.int 0]) rfl ?_
      refine W_zreturn (jx := 24) rfl rfl rfl (by decide) (by decide) ?_
      exfalso
      first | exact h20 (g.mp h6) | exact h6 (g.mpr h20)
    · skip
      refine W_run 17 2 (pc' := 28) (ls' := [.val (.ref 4), .val (.ref 3), .val (.int 0), .val (.int 3)]) (st' := [.int 1, .int 1]) rfl ?_
      refine W_run 20 1 (pc' := 31) (ls' := [.val (.ref 4), .val (.ref 3), .val (.int 0), .val (.int 3)]) (st' := []) rfl ?_
      refine W_run 21 2 (pc' := 36) (ls' := [.val (.ref 4), .val (.ref 3), .val (.int 0), .val (.int 3)]) (st' := [.int 1]) rfl ?_
      refine W_zreturn (jx := 24) rfl rfl rfl (by decide) (by decide) ?_
      exact ⟨rfl, rfl⟩
set_option maxRecDepth 65536 in
theorem own_m8_12 {l : Launch} {Z : State} {a0 : Array Value} (hw : ∀ d ∈ tables_1, d.before a0 Z = true) {n0 : Nat} (ps zs : List Int32) (c l0 l1 l2 l3 r0 r1 r2 r3 : Int32) (g : r1 = r2 ↔ l1 = l2) :
    MT false l Z n0 own_lay (⟨"com/example/arcwise/arcwise/graph/DisjointSetsFindPinLaw", "same", "([I[III)Z"⟩ : MethodName) method_5_code 4 (some .boolean) [] ({ frames := 0, cells := 0, slots := 0, locals := 0 } : Room) [.ref 4, .ref 3, .int 1, .int 2] [.inl (0, [.ref 1, .ref 2, .int c]), .inr (.int, (ps.map Value.int)), .inr (.int, (zs.map Value.int)), .inr (.int, [.int l0, .int l1, .int l2, .int l3]), .inr (.int, [.int r0, .int r1, .int r2, .int r3])] (fun v B => v = some (.int 1) ∧ B = [.inl (0, [.ref 1, .ref 2, .int c]), .inr (.int, (ps.map Value.int)), .inr (.int, (zs.map Value.int)), .inr (.int, [.int l0, .int l1, .int l2, .int l3]), .inr (.int, [.int r0, .int r1, .int r2, .int r3])]) := by
  refine W_enter (D := own_D8) own_pn8 own_D8_ok ?_
  show WP _ _ _ _ _ _ _ _ _ _ _ 0 [.val (.ref 4), .val (.ref 3), .val (.int 1), .val (.int 2)] [] _ 0 0 _
  refine W_run 0 2 (pc' := 2) (ls' := [.val (.ref 4), .val (.ref 3), .val (.int 1), .val (.int 2)]) (st' := [.int 1, .ref 4]) rfl ?_
  refine W_iaload (jx := 2) rfl rfl (by decide) (v := .int r1) rfl ?_
  refine W_run 3 2 (pc' := 5) (ls' := [.val (.ref 4), .val (.ref 3), .val (.int 1), .val (.int 2)]) (st' := [.int 2, .ref 4, .int r1]) rfl ?_
  refine W_iaload (jx := 5) rfl rfl (by decide) (v := .int r2) rfl ?_
  refine W_ne (jx := 6) rfl (by decide) (pc' := 13) rfl (fun h6 => ?_) (fun h6 => ?_)
  · skip
    refine W_run 9 3 (pc' := 16) (ls' := [.val (.ref 4), .val (.ref 3), .val (.int 1), .val (.int 2)]) (st' := [.int 1, .ref 3, .int 0]) rfl ?_
    refine W_iaload (jx := 12) rfl rfl (by decide) (v := .int l1) rfl ?_
    refine W_run 13 2 (pc' := 19) (ls' := [.val (.ref 4), .val (.ref 3), .val (.int 1), .val (.int 2)]) (st' := [.int 2, .ref 3, .int l1, .int 0]) rfl ?_
    refine W_iaload (jx := 15) rfl rfl (by decide) (v := .int l2) rfl ?_
    refine W_ne (jx := 16) rfl (by decide) (pc' := 27) rfl (fun h20 => ?_) (fun h20 => ?_)
    · skip
      refine W_run 19 2 (pc' := 31) (ls' := [.val (.ref 4), .val (.ref 3), .val (.int 1), .val (.int 2)]) (st' := []) rfl ?_
      refine W_run 21 2 (pc' := 36) (ls' := [.val (.ref 4), .val (.ref 3), .val (.int 1), .val (.int 2)]) (st' := [.int 1]) rfl ?_
      refine W_zreturn (jx := 24) rfl rfl rfl (by decide) (by decide) ?_
      exact ⟨rfl, rfl⟩
    · skip
      refine W_run 17 2 (pc' := 28) (ls' := [.val (.ref 4), .val (.ref 3), .val (.int 1), .val (.int 2)]) (st' := [.int 1, .int 0]) rfl ?_
      refine W_run 20 1 (pc' := 35) (ls' := [.val (.ref 4), .val (.ref 3), .val (.int 1), .val (.int 2)]) (st' := []) rfl ?_
      refine W_run 23 1 (pc' := 36) (ls' := [.val (.ref 4), .val (.ref 3), .val (.int 1), .val (.int 2)]) (st' := [.int 0]) rfl ?_
      refine W_zreturn (jx := 24) rfl rfl rfl (by decide) (by decide) ?_
      exfalso
      first | exact h20 (g.mp h6) | exact h6 (g.mpr h20)
  · skip
    refine W_run 7 2 (pc' := 14) (ls' := [.val (.ref 4), .val (.ref 3), .val (.int 1), .val (.int 2)]) (st' := [.int 1]) rfl ?_
    refine W_run 10 2 (pc' := 16) (ls' := [.val (.ref 4), .val (.ref 3), .val (.int 1), .val (.int 2)]) (st' := [.int 1, .ref 3, .int 1]) rfl ?_
    refine W_iaload (jx := 12) rfl rfl (by decide) (v := .int l1) rfl ?_
    refine W_run 13 2 (pc' := 19) (ls' := [.val (.ref 4), .val (.ref 3), .val (.int 1), .val (.int 2)]) (st' := [.int 2, .ref 3, .int l1, .int 1]) rfl ?_
    refine W_iaload (jx := 15) rfl rfl (by decide) (v := .int l2) rfl ?_
    refine W_ne (jx := 16) rfl (by decide) (pc' := 27) rfl (fun h20 => ?_) (fun h20 => ?_)
    · skip
      refine W_run 19 2 (pc' := 35) (ls' := [.val (.ref 4), .val (.ref 3), .val (.int 1), .val (.int 2)]) (st' := []) rfl ?_
      refine W_run 23 1 (pc' := 36) (ls' := [.val (.ref 4), .val (.ref 3), .val (.int 1), .val (.int 2)]) (st' := [.int 0]) rfl ?_
      refine W_zreturn (jx := 24) rfl rfl rfl (by decide) (by decide) ?_
      exfalso
      first | exact h20 (g.mp h6) | exact h6 (g.mpr h20)
    · skip
      refine W_run 17 2 (pc' := 28) (ls' := [.val (.ref 4), .val (.ref 3), .val (.int 1), .val (.int 2)]) (st' := [.int 1, .int 1]) rfl ?_
      refine W_run 20 1 (pc' := 31) (ls' := [.val (.ref 4), .val (.ref 3), .val (.int 1), .val (.int 2)]) (st' := []) rfl ?_
      refine W_run 21 2 (pc' := 36) (ls' := [.val (.ref 4), .val (.ref 3), .val (.int 1), .val (.int 2)]) (st' := [.int 1]) rfl ?_
      refine W_zreturn (jx := 24) rfl rfl rfl (by decide) (by decide) ?_
      exact ⟨rfl, rfl⟩
set_option maxRecDepth 65536 in
theorem own_m8_13 {l : Launch} {Z : State} {a0 : Array Value} (hw : ∀ d ∈ tables_1, d.before a0 Z = true) {n0 : Nat} (ps zs : List Int32) (c l0 l1 l2 l3 r0 r1 r2 r3 : Int32) (g : r1 = r3 ↔ l1 = l3) :
    MT false l Z n0 own_lay (⟨"com/example/arcwise/arcwise/graph/DisjointSetsFindPinLaw", "same", "([I[III)Z"⟩ : MethodName) method_5_code 4 (some .boolean) [] ({ frames := 0, cells := 0, slots := 0, locals := 0 } : Room) [.ref 4, .ref 3, .int 1, .int 3] [.inl (0, [.ref 1, .ref 2, .int c]), .inr (.int, (ps.map Value.int)), .inr (.int, (zs.map Value.int)), .inr (.int, [.int l0, .int l1, .int l2, .int l3]), .inr (.int, [.int r0, .int r1, .int r2, .int r3])] (fun v B => v = some (.int 1) ∧ B = [.inl (0, [.ref 1, .ref 2, .int c]), .inr (.int, (ps.map Value.int)), .inr (.int, (zs.map Value.int)), .inr (.int, [.int l0, .int l1, .int l2, .int l3]), .inr (.int, [.int r0, .int r1, .int r2, .int r3])]) := by
  refine W_enter (D := own_D8) own_pn8 own_D8_ok ?_
  show WP _ _ _ _ _ _ _ _ _ _ _ 0 [.val (.ref 4), .val (.ref 3), .val (.int 1), .val (.int 3)] [] _ 0 0 _
  refine W_run 0 2 (pc' := 2) (ls' := [.val (.ref 4), .val (.ref 3), .val (.int 1), .val (.int 3)]) (st' := [.int 1, .ref 4]) rfl ?_
  refine W_iaload (jx := 2) rfl rfl (by decide) (v := .int r1) rfl ?_
  refine W_run 3 2 (pc' := 5) (ls' := [.val (.ref 4), .val (.ref 3), .val (.int 1), .val (.int 3)]) (st' := [.int 3, .ref 4, .int r1]) rfl ?_
  refine W_iaload (jx := 5) rfl rfl (by decide) (v := .int r3) rfl ?_
  refine W_ne (jx := 6) rfl (by decide) (pc' := 13) rfl (fun h6 => ?_) (fun h6 => ?_)
  · skip
    refine W_run 9 3 (pc' := 16) (ls' := [.val (.ref 4), .val (.ref 3), .val (.int 1), .val (.int 3)]) (st' := [.int 1, .ref 3, .int 0]) rfl ?_
    refine W_iaload (jx := 12) rfl rfl (by decide) (v := .int l1) rfl ?_
    refine W_run 13 2 (pc' := 19) (ls' := [.val (.ref 4), .val (.ref 3), .val (.int 1), .val (.int 3)]) (st' := [.int 3, .ref 3, .int l1, .int 0]) rfl ?_
    refine W_iaload (jx := 15) rfl rfl (by decide) (v := .int l3) rfl ?_
    refine W_ne (jx := 16) rfl (by decide) (pc' := 27) rfl (fun h20 => ?_) (fun h20 => ?_)
    · skip
      refine W_run 19 2 (pc' := 31) (ls' := [.val (.ref 4), .val (.ref 3), .val (.int 1), .val (.int 3)]) (st' := []) rfl ?_
      refine W_run 21 2 (pc' := 36) (ls' := [.val (.ref 4), .val (.ref 3), .val (.int 1), .val (.int 3)]) (st' := [.int 1]) rfl ?_
      refine W_zreturn (jx := 24) rfl rfl rfl (by decide) (by decide) ?_
      exact ⟨rfl, rfl⟩
    · skip
      refine W_run 17 2 (pc' := 28) (ls' := [.val (.ref 4), .val (.ref 3), .val (.int 1), .val (.int 3)]) (st' := [.int 1, .int 0]) rfl ?_
      refine W_run 20 1 (pc' := 35) (ls' := [.val (.ref 4), .val (.ref 3), .val (.int 1), .val (.int 3)]) (st' := []) rfl ?_
      refine W_run 23 1 (pc' := 36) (ls' := [.val (.ref 4), .val (.ref 3), .val (.int 1), .val (.int 3)]) (st' := [.int 0]) rfl ?_
      refine W_zreturn (jx := 24) rfl rfl rfl (by decide) (by decide) ?_
      exfalso
      first | exact h20 (g.mp h6) | exact h6 (g.mpr h20)
  · skip
    refine W_run 7 2 (pc' := 14) (ls' := [.val (.ref 4), .val (.ref 3), .val (.int 1), .val (.int 3)]) (st' := [.int 1]) rfl ?_
    refine W_run 10 2 (pc' := 16) (ls' := [.val (.ref 4), .val (.ref 3), .val (.int 1), .val (.int 3)]) (st' := [.int 1, .ref 3, .int 1]) rfl ?_
    refine W_iaload (jx := 12) rfl rfl (by decide) (v := .int l1) rfl ?_
    refine W_run 13 2 (pc' := 19) (ls' := [.val (.ref 4), .val (.ref 3), .val (.int 1), .val (.int 3)]) (st' := [.int 3, .ref 3, .int l1, .int 1]) rfl ?_
    refine W_iaload (jx := 15) rfl rfl (by decide) (v := .int l3) rfl ?_
    refine W_ne (jx := 16) rfl (by decide) (pc' := 27) rfl (fun h20 => ?_) (fun h20 => ?_)
    · skip
      refine W_run 19 2 (pc' := 35) (ls' := [.val (.ref 4), .val (.ref 3), .val (.int 1), .val (.int 3)]) (st' := []) rfl ?_
      refine W_run 23 1 (pc' := 36) (ls' := [.val (.ref 4), .val (.ref 3), .val (.int 1), .val (.int 3)]) (st' := [.int 0]) rfl ?_
      refine W_zreturn (jx := 24) rfl rfl rfl (by decide) (by decide) ?_
      exfalso
      first | exact h20 (g.mp h6) | exact h6 (g.mpr h20)
    · skip
      refine W_run 17 2 (pc' := 28) (ls' := [.val (.ref 4), .val (.ref 3), .val (.int 1), .val (.int 3)]) (st' := [.int 1, .int 1]) rfl ?_
      refine W_run 20 1 (pc' := 31) (ls' := [.val (.ref 4), .val (.ref 3), .val (.int 1), .val (.int 3)]) (st' := []) rfl ?_
      refine W_run 21 2 (pc' := 36) (ls' := [.val (.ref 4), .val (.ref 3), .val (.int 1), .val (.int 3)]) (st' := [.int 1]) rfl ?_
      refine W_zreturn (jx := 24) rfl rfl rfl (by decide) (by decide) ?_
      exact ⟨rfl, rfl⟩
set_option maxRecDepth 65536 in
theorem own_m8_23 {l : Launch} {Z : State} {a0 : Array Value} (hw : ∀ d ∈ tables_1, d.before a0 Z = true) {n0 : Nat} (ps zs : List Int32) (c l0 l1 l2 l3 r0 r1 r2 r3 : Int32) (g : r2 = r3 ↔ l2 = l3) :
    MT false l Z n0 own_lay (⟨"com/example/arcwise/arcwise/graph/DisjointSetsFindPinLaw", "same", "([I[III)Z"⟩ : MethodName) method_5_code 4 (some .boolean) [] ({ frames := 0, cells := 0, slots := 0, locals := 0 } : Room) [.ref 4, .ref 3, .int 2, .int 3] [.inl (0, [.ref 1, .ref 2, .int c]), .inr (.int, (ps.map Value.int)), .inr (.int, (zs.map Value.int)), .inr (.int, [.int l0, .int l1, .int l2, .int l3]), .inr (.int, [.int r0, .int r1, .int r2, .int r3])] (fun v B => v = some (.int 1) ∧ B = [.inl (0, [.ref 1, .ref 2, .int c]), .inr (.int, (ps.map Value.int)), .inr (.int, (zs.map Value.int)), .inr (.int, [.int l0, .int l1, .int l2, .int l3]), .inr (.int, [.int r0, .int r1, .int r2, .int r3])]) := by
  refine W_enter (D := own_D8) own_pn8 own_D8_ok ?_
  show WP _ _ _ _ _ _ _ _ _ _ _ 0 [.val (.ref 4), .val (.ref 3), .val (.int 2), .val (.int 3)] [] _ 0 0 _
  refine W_run 0 2 (pc' := 2) (ls' := [.val (.ref 4), .val (.ref 3), .val (.int 2), .val (.int 3)]) (st' := [.int 2, .ref 4]) rfl ?_
  refine W_iaload (jx := 2) rfl rfl (by decide) (v := .int r2) rfl ?_
  refine W_run 3 2 (pc' := 5) (ls' := [.val (.ref 4), .val (.ref 3), .val (.int 2), .val (.int 3)]) (st' := [.int 3, .ref 4, .int r2]) rfl ?_
  refine W_iaload (jx := 5) rfl rfl (by decide) (v := .int r3) rfl ?_
  refine W_ne (jx := 6) rfl (by decide) (pc' := 13) rfl (fun h6 => ?_) (fun h6 => ?_)
  · skip
    refine W_run 9 3 (pc' := 16) (ls' := [.val (.ref 4), .val (.ref 3), .val (.int 2), .val (.int 3)]) (st' := [.int 2, .ref 3, .int 0]) rfl ?_
    refine W_iaload (jx := 12) rfl rfl (by decide) (v := .int l2) rfl ?_
    refine W_run 13 2 (pc' := 19) (ls' := [.val (.ref 4), .val (.ref 3), .val (.int 2), .val (.int 3)]) (st' := [.int 3, .ref 3, .int l2, .int 0]) rfl ?_
    refine W_iaload (jx := 15) rfl rfl (by decide) (v := .int l3) rfl ?_
    refine W_ne (jx := 16) rfl (by decide) (pc' := 27) rfl (fun h20 => ?_) (fun h20 => ?_)
    · skip
      refine W_run 19 2 (pc' := 31) (ls' := [.val (.ref 4), .val (.ref 3), .val (.int 2), .val (.int 3)]) (st' := []) rfl ?_
      refine W_run 21 2 (pc' := 36) (ls' := [.val (.ref 4), .val (.ref 3), .val (.int 2), .val (.int 3)]) (st' := [.int 1]) rfl ?_
      refine W_zreturn (jx := 24) rfl rfl rfl (by decide) (by decide) ?_
      exact ⟨rfl, rfl⟩
    · skip
      refine W_run 17 2 (pc' := 28) (ls' := [.val (.ref 4), .val (.ref 3), .val (.int 2), .val (.int 3)]) (st' := [.int 1, .int 0]) rfl ?_
      refine W_run 20 1 (pc' := 35) (ls' := [.val (.ref 4), .val (.ref 3), .val (.int 2), .val (.int 3)]) (st' := []) rfl ?_
      refine W_run 23 1 (pc' := 36) (ls' := [.val (.ref 4), .val (.ref 3), .val (.int 2), .val (.int 3)]) (st' := [.int 0]) rfl ?_
      refine W_zreturn (jx := 24) rfl rfl rfl (by decide) (by decide) ?_
      exfalso
      first | exact h20 (g.mp h6) | exact h6 (g.mpr h20)
  · skip
    refine W_run 7 2 (pc' := 14) (ls' := [.val (.ref 4), .val (.ref 3), .val (.int 2), .val (.int 3)]) (st' := [.int 1]) rfl ?_
    refine W_run 10 2 (pc' := 16) (ls' := [.val (.ref 4), .val (.ref 3), .val (.int 2), .val (.int 3)]) (st' := [.int 2, .ref 3, .int 1]) rfl ?_
    refine W_iaload (jx := 12) rfl rfl (by decide) (v := .int l2) rfl ?_
    refine W_run 13 2 (pc' := 19) (ls' := [.val (.ref 4), .val (.ref 3), .val (.int 2), .val (.int 3)]) (st' := [.int 3, .ref 3, .int l2, .int 1]) rfl ?_
    refine W_iaload (jx := 15) rfl rfl (by decide) (v := .int l3) rfl ?_
    refine W_ne (jx := 16) rfl (by decide) (pc' := 27) rfl (fun h20 => ?_) (fun h20 => ?_)
    · skip
      refine W_run 19 2 (pc' := 35) (ls' := [.val (.ref 4), .val (.ref 3), .val (.int 2), .val (.int 3)]) (st' := []) rfl ?_
      refine W_run 23 1 (pc' := 36) (ls' := [.val (.ref 4), .val (.ref 3), .val (.int 2), .val (.int 3)]) (st' := [.int 0]) rfl ?_
      refine W_zreturn (jx := 24) rfl rfl rfl (by decide) (by decide) ?_
      exfalso
      first | exact h20 (g.mp h6) | exact h6 (g.mpr h20)
    · skip
      refine W_run 17 2 (pc' := 28) (ls' := [.val (.ref 4), .val (.ref 3), .val (.int 2), .val (.int 3)]) (st' := [.int 1, .int 1]) rfl ?_
      refine W_run 20 1 (pc' := 31) (ls' := [.val (.ref 4), .val (.ref 3), .val (.int 2), .val (.int 3)]) (st' := []) rfl ?_
      refine W_run 21 2 (pc' := 36) (ls' := [.val (.ref 4), .val (.ref 3), .val (.int 2), .val (.int 3)]) (st' := [.int 1]) rfl ?_
      refine W_zreturn (jx := 24) rfl rfl rfl (by decide) (by decide) ?_
      exact ⟨rfl, rfl⟩
set_option maxRecDepth 65536 in
set_option maxHeartbeats 40000000 in
theorem own_s63 {l : Launch} {Z : State} {a0 : Array Value} (hw : ∀ d ∈ tables_1, d.before a0 Z = true) {n0 : Nat} (u1 u2 u3 u4 q : Int32) (ps zs lb : List Int32) (c : Int32) (hU : (ps, zs, c, lb) ∈ own_U) :
    WP false l Z n0 own_lay x.cls own_D0 maxLocals ret x.name room_1 63 [.val (.int u1), .val (.int u2), .val (.int u3), .val (.int u4), .val (.int q), .val (.ref 0), .val (.ref 3), .unset, .unset, .unset] [] [.inl (0, [.ref 1, .ref 2, .int c]), .inr (.int, (ps.map Value.int)), .inr (.int, (zs.map Value.int)), .inr (.int, (lb.map Value.int))] 4 15 (fun v B => v = some (.int 1)) := by
  obtain ⟨l0, l1, l2, l3, r0, p1, r1, p2, r2, p3, r3, p4, q0, q1, q2, q3, rfl, hf0, hf1, hf2, hf3, ⟨i0, i1, i2, i3⟩, ⟨j01, j02, j03, j12, j13, j23⟩, d0, d1, d2, d3⟩ := own_tk_ok hU
  refine W_run 40 1 (pc' := 64) (ls' := [.val (.int u1), .val (.int u2), .val (.int u3), .val (.int u4), .val (.int q), .val (.ref 0), .val (.ref 3), .unset, .unset, .unset]) (st' := [.int 4]) rfl ?_
  refine W_newarray (jx := 41) 4 (vs := [.int 0, .int 0, .int 0, .int 0]) rfl rfl (hw _ (List.mem_of_getElem? (i := 9) rfl)) (by decide) rfl (by decide) (by decide) (by decide) (by decide) rfl (N0 := 4) (A1 := [.inl (0, [.ref 1, .ref 2, .int c]), .inr (.int, (ps.map Value.int)), .inr (.int, (zs.map Value.int)), .inr (.int, [.int l0, .int l1, .int l2, .int l3]), .inr (.int, [.int 0, .int 0, .int 0, .int 0])]) rfl rfl ?_
  refine W_run 42 1 (pc' := 68) (ls' := [.val (.int u1), .val (.int u2), .val (.int u3), .val (.int u4), .val (.int q), .val (.ref 0), .val (.ref 3), .val (.ref 4), .unset, .unset]) (st' := []) rfl ?_
  refine W_run 43 4 (pc' := 74) (ls' := [.val (.int u1), .val (.int u2), .val (.int u3), .val (.int u4), .val (.int q), .val (.ref 0), .val (.ref 3), .val (.ref 4), .unset, .unset]) (st' := [.int 0, .ref 0, .int 0, .ref 4]) rfl ?_
  refine W_callV (jx := 47) [.int 0] [.int 0, .ref 4] (own_m5_5 hw [.int 0, .int 0, .int 0, .int 0] zs [l0, l1, l2, l3] c 8 ps p1 0 r0 hf0) rfl rfl rfl (hw _ (List.mem_of_getElem? (i := 33) rfl)) (hw _ (List.mem_of_getElem? (i := 26) rfl)) (hw _ (List.mem_of_getElem? (i := 28) rfl)) (hw _ (List.mem_of_getElem? (i := 27) rfl)) (hw _ (List.mem_of_getElem? (i := 2) rfl)) (hw _ (List.mem_of_getElem? (i := 29) rfl)) (by decide) own_pd5 rfl rfl rfl (by decide) rfl (by decide) (by decide) rfl ?_
  rintro _ _ ⟨rfl, rfl⟩
  show WP _ _ _ _ _ _ _ _ _ _ _ 77 [.val (.int u1), .val (.int u2), .val (.int u3), .val (.int u4), .val (.int q), .val (.ref 0), .val (.ref 3), .val (.ref 4), .unset, .unset] [.int r0, .int 0, .ref 4] [.inl (0, [.ref 1, .ref 2, .int c]), .inr (.int, (p1.map Value.int)), .inr (.int, (zs.map Value.int)), .inr (.int, [.int l0, .int l1, .int l2, .int l3]), .inr (.int, [.int 0, .int 0, .int 0, .int 0])] _ _ _
  refine W_iastore (jx := 48) rfl rfl (by decide) (Nat.le_of_ble_eq_true rfl) (A1 := [.inl (0, [.ref 1, .ref 2, .int c]), .inr (.int, (p1.map Value.int)), .inr (.int, (zs.map Value.int)), .inr (.int, [.int l0, .int l1, .int l2, .int l3]), .inr (.int, [.int r0, .int 0, .int 0, .int 0])]) rfl ?_
  refine W_run 49 4 (pc' := 84) (ls' := [.val (.int u1), .val (.int u2), .val (.int u3), .val (.int u4), .val (.int q), .val (.ref 0), .val (.ref 3), .val (.ref 4), .unset, .unset]) (st' := [.int 1, .ref 0, .int 1, .ref 4]) rfl ?_
  refine W_callV (jx := 53) [.int 1] [.int 1, .ref 4] (own_m5_5 hw [.int r0, .int 0, .int 0, .int 0] zs [l0, l1, l2, l3] c 8 p1 p2 1 r1 hf1) rfl rfl rfl (hw _ (List.mem_of_getElem? (i := 33) rfl)) (hw _ (List.mem_of_getElem? (i := 26) rfl)) (hw _ (List.mem_of_getElem? (i := 28) rfl)) (hw _ (List.mem_of_getElem? (i := 27) rfl)) (hw _ (List.mem_of_getElem? (i := 2) rfl)) (hw _ (List.mem_of_getElem? (i := 29) rfl)) (by decide) own_pd5 rfl rfl rfl (by decide) rfl (by decide) (by decide) rfl ?_
  rintro _ _ ⟨rfl, rfl⟩
  show WP _ _ _ _ _ _ _ _ _ _ _ 87 [.val (.int u1), .val (.int u2), .val (.int u3), .val (.int u4), .val (.int q), .val (.ref 0), .val (.ref 3), .val (.ref 4), .unset, .unset] [.int r1, .int 1, .ref 4] [.inl (0, [.ref 1, .ref 2, .int c]), .inr (.int, (p2.map Value.int)), .inr (.int, (zs.map Value.int)), .inr (.int, [.int l0, .int l1, .int l2, .int l3]), .inr (.int, [.int r0, .int 0, .int 0, .int 0])] _ _ _
  refine W_iastore (jx := 54) rfl rfl (by decide) (Nat.le_of_ble_eq_true rfl) (A1 := [.inl (0, [.ref 1, .ref 2, .int c]), .inr (.int, (p2.map Value.int)), .inr (.int, (zs.map Value.int)), .inr (.int, [.int l0, .int l1, .int l2, .int l3]), .inr (.int, [.int r0, .int r1, .int 0, .int 0])]) rfl ?_
  refine W_run 55 4 (pc' := 94) (ls' := [.val (.int u1), .val (.int u2), .val (.int u3), .val (.int u4), .val (.int q), .val (.ref 0), .val (.ref 3), .val (.ref 4), .unset, .unset]) (st' := [.int 2, .ref 0, .int 2, .ref 4]) rfl ?_
  refine W_callV (jx := 59) [.int 2] [.int 2, .ref 4] (own_m5_5 hw [.int r0, .int r1, .int 0, .int 0] zs [l0, l1, l2, l3] c 8 p2 p3 2 r2 hf2) rfl rfl rfl (hw _ (List.mem_of_getElem? (i := 33) rfl)) (hw _ (List.mem_of_getElem? (i := 26) rfl)) (hw _ (List.mem_of_getElem? (i := 28) rfl)) (hw _ (List.mem_of_getElem? (i := 27) rfl)) (hw _ (List.mem_of_getElem? (i := 2) rfl)) (hw _ (List.mem_of_getElem? (i := 29) rfl)) (by decide) own_pd5 rfl rfl rfl (by decide) rfl (by decide) (by decide) rfl ?_
  rintro _ _ ⟨rfl, rfl⟩
  show WP _ _ _ _ _ _ _ _ _ _ _ 97 [.val (.int u1), .val (.int u2), .val (.int u3), .val (.int u4), .val (.int q), .val (.ref 0), .val (.ref 3), .val (.ref 4), .unset, .unset] [.int r2, .int 2, .ref 4] [.inl (0, [.ref 1, .ref 2, .int c]), .inr (.int, (p3.map Value.int)), .inr (.int, (zs.map Value.int)), .inr (.int, [.int l0, .int l1, .int l2, .int l3]), .inr (.int, [.int r0, .int r1, .int 0, .int 0])] _ _ _
  refine W_iastore (jx := 60) rfl rfl (by decide) (Nat.le_of_ble_eq_true rfl) (A1 := [.inl (0, [.ref 1, .ref 2, .int c]), .inr (.int, (p3.map Value.int)), .inr (.int, (zs.map Value.int)), .inr (.int, [.int l0, .int l1, .int l2, .int l3]), .inr (.int, [.int r0, .int r1, .int r2, .int 0])]) rfl ?_
  refine W_run 61 4 (pc' := 104) (ls' := [.val (.int u1), .val (.int u2), .val (.int u3), .val (.int u4), .val (.int q), .val (.ref 0), .val (.ref 3), .val (.ref 4), .unset, .unset]) (st' := [.int 3, .ref 0, .int 3, .ref 4]) rfl ?_
  refine W_callV (jx := 65) [.int 3] [.int 3, .ref 4] (own_m5_5 hw [.int r0, .int r1, .int r2, .int 0] zs [l0, l1, l2, l3] c 8 p3 p4 3 r3 hf3) rfl rfl rfl (hw _ (List.mem_of_getElem? (i := 33) rfl)) (hw _ (List.mem_of_getElem? (i := 26) rfl)) (hw _ (List.mem_of_getElem? (i := 28) rfl)) (hw _ (List.mem_of_getElem? (i := 27) rfl)) (hw _ (List.mem_of_getElem? (i := 2) rfl)) (hw _ (List.mem_of_getElem? (i := 29) rfl)) (by decide) own_pd5 rfl rfl rfl (by decide) rfl (by decide) (by decide) rfl ?_
  rintro _ _ ⟨rfl, rfl⟩
  show WP _ _ _ _ _ _ _ _ _ _ _ 107 [.val (.int u1), .val (.int u2), .val (.int u3), .val (.int u4), .val (.int q), .val (.ref 0), .val (.ref 3), .val (.ref 4), .unset, .unset] [.int r3, .int 3, .ref 4] [.inl (0, [.ref 1, .ref 2, .int c]), .inr (.int, (p4.map Value.int)), .inr (.int, (zs.map Value.int)), .inr (.int, [.int l0, .int l1, .int l2, .int l3]), .inr (.int, [.int r0, .int r1, .int r2, .int 0])] _ _ _
  refine W_iastore (jx := 66) rfl rfl (by decide) (Nat.le_of_ble_eq_true rfl) (A1 := [.inl (0, [.ref 1, .ref 2, .int c]), .inr (.int, (p4.map Value.int)), .inr (.int, (zs.map Value.int)), .inr (.int, [.int l0, .int l1, .int l2, .int l3]), .inr (.int, [.int r0, .int r1, .int r2, .int r3])]) rfl ?_
  refine W_run 67 3 (pc' := 113) (ls' := [.val (.int u1), .val (.int u2), .val (.int u3), .val (.int u4), .val (.int q), .val (.ref 0), .val (.ref 3), .val (.ref 4), .unset, .unset]) (st' := [.int 0, .ref 3, .ref 4]) rfl ?_
  refine W_callS (jx := 70) [.ref 4, .ref 3, .int 0] [] (own_m7_0 hw p4 zs c l0 l1 l2 l3 r0 r1 r2 r3 i0) rfl (hw _ (List.mem_of_getElem? (i := 34) rfl)) (hw _ (List.mem_of_getElem? (i := 35) rfl)) (hw _ (List.mem_of_getElem? (i := 18) rfl)) (hw _ (List.mem_of_getElem? (i := 36) rfl)) (by decide) own_pd7 rfl rfl rfl (by decide) rfl (by decide) (by decide) rfl ?_
  rintro _ _ ⟨rfl, rfl⟩
  show WP _ _ _ _ _ _ _ _ _ _ _ 116 [.val (.int u1), .val (.int u2), .val (.int u3), .val (.int u4), .val (.int q), .val (.ref 0), .val (.ref 3), .val (.ref 4), .unset, .unset] [.int 1] [.inl (0, [.ref 1, .ref 2, .int c]), .inr (.int, (p4.map Value.int)), .inr (.int, (zs.map Value.int)), .inr (.int, [.int l0, .int l1, .int l2, .int l3]), .inr (.int, [.int r0, .int r1, .int r2, .int r3])] _ _ _
  refine W_run 71 1 (pc' := 119) (ls' := [.val (.int u1), .val (.int u2), .val (.int u3), .val (.int u4), .val (.int q), .val (.ref 0), .val (.ref 3), .val (.ref 4), .unset, .unset]) (st' := []) rfl ?_
  refine W_run 72 3 (pc' := 124) (ls' := [.val (.int u1), .val (.int u2), .val (.int u3), .val (.int u4), .val (.int q), .val (.ref 0), .val (.ref 3), .val (.ref 4), .unset, .unset]) (st' := [.int 1, .ref 3, .ref 4]) rfl ?_
  refine W_callS (jx := 75) [.ref 4, .ref 3, .int 1] [] (own_m7_1 hw p4 zs c l0 l1 l2 l3 r0 r1 r2 r3 i1) rfl (hw _ (List.mem_of_getElem? (i := 34) rfl)) (hw _ (List.mem_of_getElem? (i := 35) rfl)) (hw _ (List.mem_of_getElem? (i := 18) rfl)) (hw _ (List.mem_of_getElem? (i := 36) rfl)) (by decide) own_pd7 rfl rfl rfl (by decide) rfl (by decide) (by decide) rfl ?_
  rintro _ _ ⟨rfl, rfl⟩
  show WP _ _ _ _ _ _ _ _ _ _ _ 127 [.val (.int u1), .val (.int u2), .val (.int u3), .val (.int u4), .val (.int q), .val (.ref 0), .val (.ref 3), .val (.ref 4), .unset, .unset] [.int 1] [.inl (0, [.ref 1, .ref 2, .int c]), .inr (.int, (p4.map Value.int)), .inr (.int, (zs.map Value.int)), .inr (.int, [.int l0, .int l1, .int l2, .int l3]), .inr (.int, [.int r0, .int r1, .int r2, .int r3])] _ _ _
  refine W_run 76 1 (pc' := 130) (ls' := [.val (.int u1), .val (.int u2), .val (.int u3), .val (.int u4), .val (.int q), .val (.ref 0), .val (.ref 3), .val (.ref 4), .unset, .unset]) (st' := []) rfl ?_
  refine W_run 77 3 (pc' := 135) (ls' := [.val (.int u1), .val (.int u2), .val (.int u3), .val (.int u4), .val (.int q), .val (.ref 0), .val (.ref 3), .val (.ref 4), .unset, .unset]) (st' := [.int 2, .ref 3, .ref 4]) rfl ?_
  refine W_callS (jx := 80) [.ref 4, .ref 3, .int 2] [] (own_m7_2 hw p4 zs c l0 l1 l2 l3 r0 r1 r2 r3 i2) rfl (hw _ (List.mem_of_getElem? (i := 34) rfl)) (hw _ (List.mem_of_getElem? (i := 35) rfl)) (hw _ (List.mem_of_getElem? (i := 18) rfl)) (hw _ (List.mem_of_getElem? (i := 36) rfl)) (by decide) own_pd7 rfl rfl rfl (by decide) rfl (by decide) (by decide) rfl ?_
  rintro _ _ ⟨rfl, rfl⟩
  show WP _ _ _ _ _ _ _ _ _ _ _ 138 [.val (.int u1), .val (.int u2), .val (.int u3), .val (.int u4), .val (.int q), .val (.ref 0), .val (.ref 3), .val (.ref 4), .unset, .unset] [.int 1] [.inl (0, [.ref 1, .ref 2, .int c]), .inr (.int, (p4.map Value.int)), .inr (.int, (zs.map Value.int)), .inr (.int, [.int l0, .int l1, .int l2, .int l3]), .inr (.int, [.int r0, .int r1, .int r2, .int r3])] _ _ _
  refine W_run 81 1 (pc' := 141) (ls' := [.val (.int u1), .val (.int u2), .val (.int u3), .val (.int u4), .val (.int q), .val (.ref 0), .val (.ref 3), .val (.ref 4), .unset, .unset]) (st' := []) rfl ?_
  refine W_run 82 3 (pc' := 146) (ls' := [.val (.int u1), .val (.int u2), .val (.int u3), .val (.int u4), .val (.int q), .val (.ref 0), .val (.ref 3), .val (.ref 4), .unset, .unset]) (st' := [.int 3, .ref 3, .ref 4]) rfl ?_
  refine W_callS (jx := 85) [.ref 4, .ref 3, .int 3] [] (own_m7_3 hw p4 zs c l0 l1 l2 l3 r0 r1 r2 r3 i3) rfl (hw _ (List.mem_of_getElem? (i := 34) rfl)) (hw _ (List.mem_of_getElem? (i := 35) rfl)) (hw _ (List.mem_of_getElem? (i := 18) rfl)) (hw _ (List.mem_of_getElem? (i := 36) rfl)) (by decide) own_pd7 rfl rfl rfl (by decide) rfl (by decide) (by decide) rfl ?_
  rintro _ _ ⟨rfl, rfl⟩
  show WP _ _ _ _ _ _ _ _ _ _ _ 149 [.val (.int u1), .val (.int u2), .val (.int u3), .val (.int u4), .val (.int q), .val (.ref 0), .val (.ref 3), .val (.ref 4), .unset, .unset] [.int 1] [.inl (0, [.ref 1, .ref 2, .int c]), .inr (.int, (p4.map Value.int)), .inr (.int, (zs.map Value.int)), .inr (.int, [.int l0, .int l1, .int l2, .int l3]), .inr (.int, [.int r0, .int r1, .int r2, .int r3])] _ _ _
  refine W_run 86 1 (pc' := 152) (ls' := [.val (.int u1), .val (.int u2), .val (.int u3), .val (.int u4), .val (.int q), .val (.ref 0), .val (.ref 3), .val (.ref 4), .unset, .unset]) (st' := []) rfl ?_
  refine W_run 87 4 (pc' := 158) (ls' := [.val (.int u1), .val (.int u2), .val (.int u3), .val (.int u4), .val (.int q), .val (.ref 0), .val (.ref 3), .val (.ref 4), .unset, .unset]) (st' := [.int 1, .int 0, .ref 3, .ref 4]) rfl ?_
  refine W_callS (jx := 91) [.ref 4, .ref 3, .int 0, .int 1] [] (own_m8_01 hw p4 zs c l0 l1 l2 l3 r0 r1 r2 r3 j01) rfl (hw _ (List.mem_of_getElem? (i := 37) rfl)) (hw _ (List.mem_of_getElem? (i := 38) rfl)) (hw _ (List.mem_of_getElem? (i := 18) rfl)) (hw _ (List.mem_of_getElem? (i := 39) rfl)) (by decide) own_pd8 rfl rfl rfl (by decide) rfl (by decide) (by decide) rfl ?_
  rintro _ _ ⟨rfl, rfl⟩
  show WP _ _ _ _ _ _ _ _ _ _ _ 161 [.val (.int u1), .val (.int u2), .val (.int u3), .val (.int u4), .val (.int q), .val (.ref 0), .val (.ref 3), .val (.ref 4), .unset, .unset] [.int 1] [.inl (0, [.ref 1, .ref 2, .int c]), .inr (.int, (p4.map Value.int)), .inr (.int, (zs.map Value.int)), .inr (.int, [.int l0, .int l1, .int l2, .int l3]), .inr (.int, [.int r0, .int r1, .int r2, .int r3])] _ _ _
  refine W_run 92 1 (pc' := 164) (ls' := [.val (.int u1), .val (.int u2), .val (.int u3), .val (.int u4), .val (.int q), .val (.ref 0), .val (.ref 3), .val (.ref 4), .unset, .unset]) (st' := []) rfl ?_
  refine W_run 93 4 (pc' := 170) (ls' := [.val (.int u1), .val (.int u2), .val (.int u3), .val (.int u4), .val (.int q), .val (.ref 0), .val (.ref 3), .val (.ref 4), .unset, .unset]) (st' := [.int 2, .int 0, .ref 3, .ref 4]) rfl ?_
  refine W_callS (jx := 97) [.ref 4, .ref 3, .int 0, .int 2] [] (own_m8_02 hw p4 zs c l0 l1 l2 l3 r0 r1 r2 r3 j02) rfl (hw _ (List.mem_of_getElem? (i := 37) rfl)) (hw _ (List.mem_of_getElem? (i := 38) rfl)) (hw _ (List.mem_of_getElem? (i := 18) rfl)) (hw _ (List.mem_of_getElem? (i := 39) rfl)) (by decide) own_pd8 rfl rfl rfl (by decide) rfl (by decide) (by decide) rfl ?_
  rintro _ _ ⟨rfl, rfl⟩
  show WP _ _ _ _ _ _ _ _ _ _ _ 173 [.val (.int u1), .val (.int u2), .val (.int u3), .val (.int u4), .val (.int q), .val (.ref 0), .val (.ref 3), .val (.ref 4), .unset, .unset] [.int 1] [.inl (0, [.ref 1, .ref 2, .int c]), .inr (.int, (p4.map Value.int)), .inr (.int, (zs.map Value.int)), .inr (.int, [.int l0, .int l1, .int l2, .int l3]), .inr (.int, [.int r0, .int r1, .int r2, .int r3])] _ _ _
  refine W_run 98 1 (pc' := 176) (ls' := [.val (.int u1), .val (.int u2), .val (.int u3), .val (.int u4), .val (.int q), .val (.ref 0), .val (.ref 3), .val (.ref 4), .unset, .unset]) (st' := []) rfl ?_
  refine W_run 99 4 (pc' := 182) (ls' := [.val (.int u1), .val (.int u2), .val (.int u3), .val (.int u4), .val (.int q), .val (.ref 0), .val (.ref 3), .val (.ref 4), .unset, .unset]) (st' := [.int 3, .int 0, .ref 3, .ref 4]) rfl ?_
  refine W_callS (jx := 103) [.ref 4, .ref 3, .int 0, .int 3] [] (own_m8_03 hw p4 zs c l0 l1 l2 l3 r0 r1 r2 r3 j03) rfl (hw _ (List.mem_of_getElem? (i := 37) rfl)) (hw _ (List.mem_of_getElem? (i := 38) rfl)) (hw _ (List.mem_of_getElem? (i := 18) rfl)) (hw _ (List.mem_of_getElem? (i := 39) rfl)) (by decide) own_pd8 rfl rfl rfl (by decide) rfl (by decide) (by decide) rfl ?_
  rintro _ _ ⟨rfl, rfl⟩
  show WP _ _ _ _ _ _ _ _ _ _ _ 185 [.val (.int u1), .val (.int u2), .val (.int u3), .val (.int u4), .val (.int q), .val (.ref 0), .val (.ref 3), .val (.ref 4), .unset, .unset] [.int 1] [.inl (0, [.ref 1, .ref 2, .int c]), .inr (.int, (p4.map Value.int)), .inr (.int, (zs.map Value.int)), .inr (.int, [.int l0, .int l1, .int l2, .int l3]), .inr (.int, [.int r0, .int r1, .int r2, .int r3])] _ _ _
  refine W_run 104 1 (pc' := 188) (ls' := [.val (.int u1), .val (.int u2), .val (.int u3), .val (.int u4), .val (.int q), .val (.ref 0), .val (.ref 3), .val (.ref 4), .unset, .unset]) (st' := []) rfl ?_
  refine W_run 105 4 (pc' := 194) (ls' := [.val (.int u1), .val (.int u2), .val (.int u3), .val (.int u4), .val (.int q), .val (.ref 0), .val (.ref 3), .val (.ref 4), .unset, .unset]) (st' := [.int 2, .int 1, .ref 3, .ref 4]) rfl ?_
  refine W_callS (jx := 109) [.ref 4, .ref 3, .int 1, .int 2] [] (own_m8_12 hw p4 zs c l0 l1 l2 l3 r0 r1 r2 r3 j12) rfl (hw _ (List.mem_of_getElem? (i := 37) rfl)) (hw _ (List.mem_of_getElem? (i := 38) rfl)) (hw _ (List.mem_of_getElem? (i := 18) rfl)) (hw _ (List.mem_of_getElem? (i := 39) rfl)) (by decide) own_pd8 rfl rfl rfl (by decide) rfl (by decide) (by decide) rfl ?_
  rintro _ _ ⟨rfl, rfl⟩
  show WP _ _ _ _ _ _ _ _ _ _ _ 197 [.val (.int u1), .val (.int u2), .val (.int u3), .val (.int u4), .val (.int q), .val (.ref 0), .val (.ref 3), .val (.ref 4), .unset, .unset] [.int 1] [.inl (0, [.ref 1, .ref 2, .int c]), .inr (.int, (p4.map Value.int)), .inr (.int, (zs.map Value.int)), .inr (.int, [.int l0, .int l1, .int l2, .int l3]), .inr (.int, [.int r0, .int r1, .int r2, .int r3])] _ _ _
  refine W_run 110 1 (pc' := 200) (ls' := [.val (.int u1), .val (.int u2), .val (.int u3), .val (.int u4), .val (.int q), .val (.ref 0), .val (.ref 3), .val (.ref 4), .unset, .unset]) (st' := []) rfl ?_
  refine W_run 111 4 (pc' := 206) (ls' := [.val (.int u1), .val (.int u2), .val (.int u3), .val (.int u4), .val (.int q), .val (.ref 0), .val (.ref 3), .val (.ref 4), .unset, .unset]) (st' := [.int 3, .int 1, .ref 3, .ref 4]) rfl ?_
  refine W_callS (jx := 115) [.ref 4, .ref 3, .int 1, .int 3] [] (own_m8_13 hw p4 zs c l0 l1 l2 l3 r0 r1 r2 r3 j13) rfl (hw _ (List.mem_of_getElem? (i := 37) rfl)) (hw _ (List.mem_of_getElem? (i := 38) rfl)) (hw _ (List.mem_of_getElem? (i := 18) rfl)) (hw _ (List.mem_of_getElem? (i := 39) rfl)) (by decide) own_pd8 rfl rfl rfl (by decide) rfl (by decide) (by decide) rfl ?_
  rintro _ _ ⟨rfl, rfl⟩
  show WP _ _ _ _ _ _ _ _ _ _ _ 209 [.val (.int u1), .val (.int u2), .val (.int u3), .val (.int u4), .val (.int q), .val (.ref 0), .val (.ref 3), .val (.ref 4), .unset, .unset] [.int 1] [.inl (0, [.ref 1, .ref 2, .int c]), .inr (.int, (p4.map Value.int)), .inr (.int, (zs.map Value.int)), .inr (.int, [.int l0, .int l1, .int l2, .int l3]), .inr (.int, [.int r0, .int r1, .int r2, .int r3])] _ _ _
  refine W_run 116 1 (pc' := 212) (ls' := [.val (.int u1), .val (.int u2), .val (.int u3), .val (.int u4), .val (.int q), .val (.ref 0), .val (.ref 3), .val (.ref 4), .unset, .unset]) (st' := []) rfl ?_
  refine W_run 117 4 (pc' := 218) (ls' := [.val (.int u1), .val (.int u2), .val (.int u3), .val (.int u4), .val (.int q), .val (.ref 0), .val (.ref 3), .val (.ref 4), .unset, .unset]) (st' := [.int 3, .int 2, .ref 3, .ref 4]) rfl ?_
  refine W_callS (jx := 121) [.ref 4, .ref 3, .int 2, .int 3] [] (own_m8_23 hw p4 zs c l0 l1 l2 l3 r0 r1 r2 r3 j23) rfl (hw _ (List.mem_of_getElem? (i := 37) rfl)) (hw _ (List.mem_of_getElem? (i := 38) rfl)) (hw _ (List.mem_of_getElem? (i := 18) rfl)) (hw _ (List.mem_of_getElem? (i := 39) rfl)) (by decide) own_pd8 rfl rfl rfl (by decide) rfl (by decide) (by decide) rfl ?_
  rintro _ _ ⟨rfl, rfl⟩
  show WP _ _ _ _ _ _ _ _ _ _ _ 221 [.val (.int u1), .val (.int u2), .val (.int u3), .val (.int u4), .val (.int q), .val (.ref 0), .val (.ref 3), .val (.ref 4), .unset, .unset] [.int 1] [.inl (0, [.ref 1, .ref 2, .int c]), .inr (.int, (p4.map Value.int)), .inr (.int, (zs.map Value.int)), .inr (.int, [.int l0, .int l1, .int l2, .int l3]), .inr (.int, [.int r0, .int r1, .int r2, .int r3])] _ _ _
  refine W_run 122 1 (pc' := 224) (ls' := [.val (.int u1), .val (.int u2), .val (.int u3), .val (.int u4), .val (.int q), .val (.ref 0), .val (.ref 3), .val (.ref 4), .unset, .unset]) (st' := []) rfl ?_
  refine W_run 123 2 (pc' := 229) (ls' := [.val (.int u1), .val (.int u2), .val (.int u3), .val (.int u4), .val (.int q), .val (.ref 0), .val (.ref 3), .val (.ref 4), .unset, .unset]) (st' := [.int 1]) rfl ?_
  refine W_run 126 1 (pc' := 231) (ls' := [.val (.int u1), .val (.int u2), .val (.int u3), .val (.int u4), .val (.int q), .val (.ref 0), .val (.ref 3), .val (.ref 4), .val (.int 1), .unset]) (st' := []) rfl ?_
  refine W_run 127 2 (pc' := 238) (ls' := [.val (.int u1), .val (.int u2), .val (.int u3), .val (.int u4), .val (.int q), .val (.ref 0), .val (.ref 3), .val (.ref 4), .val (.int 1), .unset]) (st' := []) rfl ?_
  refine W_run 131 3 (pc' := 242) (ls' := [.val (.int u1), .val (.int u2), .val (.int u3), .val (.int u4), .val (.int q), .val (.ref 0), .val (.ref 3), .val (.ref 4), .val (.int 1), .unset]) (st' := [.int (q &&& 3)]) rfl ?_
  generalize h_k : ((q &&& 3) : Int32) = k
  have hk := own_n4 _ _ h_k
  rcases hk with rfl | rfl | rfl | rfl
  · clear h_k
    refine W_run 134 1 (pc' := 244) (ls' := [.val (.int u1), .val (.int u2), .val (.int u3), .val (.int u4), .val (.int q), .val (.ref 0), .val (.ref 3), .val (.ref 4), .val (.int 1), .val (.int 0)]) (st' := []) rfl ?_
    refine W_run 135 3 (pc' := 250) (ls' := [.val (.int u1), .val (.int u2), .val (.int u3), .val (.int u4), .val (.int q), .val (.ref 0), .val (.ref 3), .val (.ref 4), .val (.int 1), .val (.int 0)]) (st' := [.int 0, .ref 4, .ref 0]) rfl ?_
    refine W_iaload (jx := 138) rfl rfl (by decide) (v := .int r0) rfl ?_
    refine W_callV (jx := 139) [.int r0] [] (own_m5_5 hw [.int r0, .int r1, .int r2, .int r3] zs [l0, l1, l2, l3] c 8 p4 q0 r0 r0 d0) rfl rfl rfl (hw _ (List.mem_of_getElem? (i := 33) rfl)) (hw _ (List.mem_of_getElem? (i := 26) rfl)) (hw _ (List.mem_of_getElem? (i := 28) rfl)) (hw _ (List.mem_of_getElem? (i := 27) rfl)) (hw _ (List.mem_of_getElem? (i := 2) rfl)) (hw _ (List.mem_of_getElem? (i := 29) rfl)) (by decide) own_pd5 rfl rfl rfl (by decide) rfl (by decide) (by decide) rfl ?_
    rintro _ _ ⟨rfl, rfl⟩
    show WP _ _ _ _ _ _ _ _ _ _ _ 254 [.val (.int u1), .val (.int u2), .val (.int u3), .val (.int u4), .val (.int q), .val (.ref 0), .val (.ref 3), .val (.ref 4), .val (.int 1), .val (.int 0)] [.int r0] [.inl (0, [.ref 1, .ref 2, .int c]), .inr (.int, (q0.map Value.int)), .inr (.int, (zs.map Value.int)), .inr (.int, [.int l0, .int l1, .int l2, .int l3]), .inr (.int, [.int r0, .int r1, .int r2, .int r3])] _ _ _
    refine W_run 140 2 (pc' := 258) (ls' := [.val (.int u1), .val (.int u2), .val (.int u3), .val (.int u4), .val (.int q), .val (.ref 0), .val (.ref 3), .val (.ref 4), .val (.int 1), .val (.int 0)]) (st' := [.int 0, .ref 4, .int r0]) rfl ?_
    refine W_iaload (jx := 142) rfl rfl (by decide) (v := .int r0) rfl ?_
    refine W_ne (jx := 143) rfl (by decide) (pc' := 266) rfl (fun h259 => ?_) (fun h259 => ?_)
    · skip
      exact absurd rfl h259
    · skip
      refine W_run 144 2 (pc' := 267) (ls' := [.val (.int u1), .val (.int u2), .val (.int u3), .val (.int u4), .val (.int q), .val (.ref 0), .val (.ref 3), .val (.ref 4), .val (.int 1), .val (.int 0)]) (st' := [.int 1]) rfl ?_
      refine W_zreturn (jx := 147) rfl rfl rfl (by decide) (by decide) ?_
      exact rfl
  · clear h_k
    refine W_run 134 1 (pc' := 244) (ls' := [.val (.int u1), .val (.int u2), .val (.int u3), .val (.int u4), .val (.int q), .val (.ref 0), .val (.ref 3), .val (.ref 4), .val (.int 1), .val (.int 1)]) (st' := []) rfl ?_
    refine W_run 135 3 (pc' := 250) (ls' := [.val (.int u1), .val (.int u2), .val (.int u3), .val (.int u4), .val (.int q), .val (.ref 0), .val (.ref 3), .val (.ref 4), .val (.int 1), .val (.int 1)]) (st' := [.int 1, .ref 4, .ref 0]) rfl ?_
    refine W_iaload (jx := 138) rfl rfl (by decide) (v := .int r1) rfl ?_
    refine W_callV (jx := 139) [.int r1] [] (own_m5_5 hw [.int r0, .int r1, .int r2, .int r3] zs [l0, l1, l2, l3] c 8 p4 q1 r1 r1 d1) rfl rfl rfl (hw _ (List.mem_of_getElem? (i := 33) rfl)) (hw _ (List.mem_of_getElem? (i := 26) rfl)) (hw _ (List.mem_of_getElem? (i := 28) rfl)) (hw _ (List.mem_of_getElem? (i := 27) rfl)) (hw _ (List.mem_of_getElem? (i := 2) rfl)) (hw _ (List.mem_of_getElem? (i := 29) rfl)) (by decide) own_pd5 rfl rfl rfl (by decide) rfl (by decide) (by decide) rfl ?_
    rintro _ _ ⟨rfl, rfl⟩
    show WP _ _ _ _ _ _ _ _ _ _ _ 254 [.val (.int u1), .val (.int u2), .val (.int u3), .val (.int u4), .val (.int q), .val (.ref 0), .val (.ref 3), .val (.ref 4), .val (.int 1), .val (.int 1)] [.int r1] [.inl (0, [.ref 1, .ref 2, .int c]), .inr (.int, (q1.map Value.int)), .inr (.int, (zs.map Value.int)), .inr (.int, [.int l0, .int l1, .int l2, .int l3]), .inr (.int, [.int r0, .int r1, .int r2, .int r3])] _ _ _
    refine W_run 140 2 (pc' := 258) (ls' := [.val (.int u1), .val (.int u2), .val (.int u3), .val (.int u4), .val (.int q), .val (.ref 0), .val (.ref 3), .val (.ref 4), .val (.int 1), .val (.int 1)]) (st' := [.int 1, .ref 4, .int r1]) rfl ?_
    refine W_iaload (jx := 142) rfl rfl (by decide) (v := .int r1) rfl ?_
    refine W_ne (jx := 143) rfl (by decide) (pc' := 266) rfl (fun h259 => ?_) (fun h259 => ?_)
    · skip
      exact absurd rfl h259
    · skip
      refine W_run 144 2 (pc' := 267) (ls' := [.val (.int u1), .val (.int u2), .val (.int u3), .val (.int u4), .val (.int q), .val (.ref 0), .val (.ref 3), .val (.ref 4), .val (.int 1), .val (.int 1)]) (st' := [.int 1]) rfl ?_
      refine W_zreturn (jx := 147) rfl rfl rfl (by decide) (by decide) ?_
      exact rfl
  · clear h_k
    refine W_run 134 1 (pc' := 244) (ls' := [.val (.int u1), .val (.int u2), .val (.int u3), .val (.int u4), .val (.int q), .val (.ref 0), .val (.ref 3), .val (.ref 4), .val (.int 1), .val (.int 2)]) (st' := []) rfl ?_
    refine W_run 135 3 (pc' := 250) (ls' := [.val (.int u1), .val (.int u2), .val (.int u3), .val (.int u4), .val (.int q), .val (.ref 0), .val (.ref 3), .val (.ref 4), .val (.int 1), .val (.int 2)]) (st' := [.int 2, .ref 4, .ref 0]) rfl ?_
    refine W_iaload (jx := 138) rfl rfl (by decide) (v := .int r2) rfl ?_
    refine W_callV (jx := 139) [.int r2] [] (own_m5_5 hw [.int r0, .int r1, .int r2, .int r3] zs [l0, l1, l2, l3] c 8 p4 q2 r2 r2 d2) rfl rfl rfl (hw _ (List.mem_of_getElem? (i := 33) rfl)) (hw _ (List.mem_of_getElem? (i := 26) rfl)) (hw _ (List.mem_of_getElem? (i := 28) rfl)) (hw _ (List.mem_of_getElem? (i := 27) rfl)) (hw _ (List.mem_of_getElem? (i := 2) rfl)) (hw _ (List.mem_of_getElem? (i := 29) rfl)) (by decide) own_pd5 rfl rfl rfl (by decide) rfl (by decide) (by decide) rfl ?_
    rintro _ _ ⟨rfl, rfl⟩
    show WP _ _ _ _ _ _ _ _ _ _ _ 254 [.val (.int u1), .val (.int u2), .val (.int u3), .val (.int u4), .val (.int q), .val (.ref 0), .val (.ref 3), .val (.ref 4), .val (.int 1), .val (.int 2)] [.int r2] [.inl (0, [.ref 1, .ref 2, .int c]), .inr (.int, (q2.map Value.int)), .inr (.int, (zs.map Value.int)), .inr (.int, [.int l0, .int l1, .int l2, .int l3]), .inr (.int, [.int r0, .int r1, .int r2, .int r3])] _ _ _
    refine W_run 140 2 (pc' := 258) (ls' := [.val (.int u1), .val (.int u2), .val (.int u3), .val (.int u4), .val (.int q), .val (.ref 0), .val (.ref 3), .val (.ref 4), .val (.int 1), .val (.int 2)]) (st' := [.int 2, .ref 4, .int r2]) rfl ?_
    refine W_iaload (jx := 142) rfl rfl (by decide) (v := .int r2) rfl ?_
    refine W_ne (jx := 143) rfl (by decide) (pc' := 266) rfl (fun h259 => ?_) (fun h259 => ?_)
    · skip
      exact absurd rfl h259
    · skip
      refine W_run 144 2 (pc' := 267) (ls' := [.val (.int u1), .val (.int u2), .val (.int u3), .val (.int u4), .val (.int q), .val (.ref 0), .val (.ref 3), .val (.ref 4), .val (.int 1), .val (.int 2)]) (st' := [.int 1]) rfl ?_
      refine W_zreturn (jx := 147) rfl rfl rfl (by decide) (by decide) ?_
      exact rfl
  · clear h_k
    refine W_run 134 1 (pc' := 244) (ls' := [.val (.int u1), .val (.int u2), .val (.int u3), .val (.int u4), .val (.int q), .val (.ref 0), .val (.ref 3), .val (.ref 4), .val (.int 1), .val (.int 3)]) (st' := []) rfl ?_
    refine W_run 135 3 (pc' := 250) (ls' := [.val (.int u1), .val (.int u2), .val (.int u3), .val (.int u4), .val (.int q), .val (.ref 0), .val (.ref 3), .val (.ref 4), .val (.int 1), .val (.int 3)]) (st' := [.int 3, .ref 4, .ref 0]) rfl ?_
    refine W_iaload (jx := 138) rfl rfl (by decide) (v := .int r3) rfl ?_
    refine W_callV (jx := 139) [.int r3] [] (own_m5_5 hw [.int r0, .int r1, .int r2, .int r3] zs [l0, l1, l2, l3] c 8 p4 q3 r3 r3 d3) rfl rfl rfl (hw _ (List.mem_of_getElem? (i := 33) rfl)) (hw _ (List.mem_of_getElem? (i := 26) rfl)) (hw _ (List.mem_of_getElem? (i := 28) rfl)) (hw _ (List.mem_of_getElem? (i := 27) rfl)) (hw _ (List.mem_of_getElem? (i := 2) rfl)) (hw _ (List.mem_of_getElem? (i := 29) rfl)) (by decide) own_pd5 rfl rfl rfl (by decide) rfl (by decide) (by decide) rfl ?_
    rintro _ _ ⟨rfl, rfl⟩
    show WP _ _ _ _ _ _ _ _ _ _ _ 254 [.val (.int u1), .val (.int u2), .val (.int u3), .val (.int u4), .val (.int q), .val (.ref 0), .val (.ref 3), .val (.ref 4), .val (.int 1), .val (.int 3)] [.int r3] [.inl (0, [.ref 1, .ref 2, .int c]), .inr (.int, (q3.map Value.int)), .inr (.int, (zs.map Value.int)), .inr (.int, [.int l0, .int l1, .int l2, .int l3]), .inr (.int, [.int r0, .int r1, .int r2, .int r3])] _ _ _
    refine W_run 140 2 (pc' := 258) (ls' := [.val (.int u1), .val (.int u2), .val (.int u3), .val (.int u4), .val (.int q), .val (.ref 0), .val (.ref 3), .val (.ref 4), .val (.int 1), .val (.int 3)]) (st' := [.int 3, .ref 4, .int r3]) rfl ?_
    refine W_iaload (jx := 142) rfl rfl (by decide) (v := .int r3) rfl ?_
    refine W_ne (jx := 143) rfl (by decide) (pc' := 266) rfl (fun h259 => ?_) (fun h259 => ?_)
    · skip
      exact absurd rfl h259
    · skip
      refine W_run 144 2 (pc' := 267) (ls' := [.val (.int u1), .val (.int u2), .val (.int u3), .val (.int u4), .val (.int q), .val (.ref 0), .val (.ref 3), .val (.ref 4), .val (.int 1), .val (.int 3)]) (st' := [.int 1]) rfl ?_
      refine W_zreturn (jx := 147) rfl rfl rfl (by decide) (by decide) ?_
      exact rfl
set_option maxRecDepth 65536 in
set_option maxHeartbeats 40000000 in
theorem own_s55 {l : Launch} {Z : State} {a0 : Array Value} (hw : ∀ d ∈ tables_1, d.before a0 Z = true) {n0 : Nat} (u1 u2 u3 u4 q : Int32) (ps zs lb : List Int32) (c : Int32) (hU : (ps, zs, c, lb) ∈ own_U) :
    WP false l Z n0 own_lay x.cls own_D0 maxLocals ret x.name room_1 55 [.val (.int u1), .val (.int u2), .val (.int u3), .val (.int u4), .val (.int q), .val (.ref 0), .val (.ref 3), .unset, .unset, .unset] [] [.inl (0, [.ref 1, .ref 2, .int c]), .inr (.int, (ps.map Value.int)), .inr (.int, (zs.map Value.int)), .inr (.int, (lb.map Value.int))] 4 15 (fun v B => v = some (.int 1)) := by
  refine W_run 36 3 (pc' := 60) (ls' := [.val (.int u1), .val (.int u2), .val (.int u3), .val (.int u4), .val (.int q), .val (.ref 0), .val (.ref 3), .unset, .unset, .unset]) (st' := [.int u4, .ref 3, .ref 0]) rfl ?_
  refine W_callS (jx := 39) [.ref 0, .ref 3, .int u4] [] (own_m3 hw ps zs lb c u4 hU) rfl (hw _ (List.mem_of_getElem? (i := 16) rfl)) (hw _ (List.mem_of_getElem? (i := 17) rfl)) (hw _ (List.mem_of_getElem? (i := 18) rfl)) (hw _ (List.mem_of_getElem? (i := 19) rfl)) (by decide) own_pd3 rfl rfl rfl (by decide) rfl (by decide) (by decide) rfl ?_
  rintro _ _ ⟨rfl, ps, zs, c, lb, hU, rfl⟩
  show WP _ _ _ _ _ _ _ _ _ _ _ 63 [.val (.int u1), .val (.int u2), .val (.int u3), .val (.int u4), .val (.int q), .val (.ref 0), .val (.ref 3), .unset, .unset, .unset] [] [.inl (0, [.ref 1, .ref 2, .int c]), .inr (.int, (ps.map Value.int)), .inr (.int, (zs.map Value.int)), .inr (.int, (lb.map Value.int))] _ _ _
  exact own_s63 hw u1 u2 u3 u4 q _ _ _ _ hU
set_option maxRecDepth 65536 in
set_option maxHeartbeats 40000000 in
theorem own_s47 {l : Launch} {Z : State} {a0 : Array Value} (hw : ∀ d ∈ tables_1, d.before a0 Z = true) {n0 : Nat} (u1 u2 u3 u4 q : Int32) (ps zs lb : List Int32) (c : Int32) (hU : (ps, zs, c, lb) ∈ own_U) :
    WP false l Z n0 own_lay x.cls own_D0 maxLocals ret x.name room_1 47 [.val (.int u1), .val (.int u2), .val (.int u3), .val (.int u4), .val (.int q), .val (.ref 0), .val (.ref 3), .unset, .unset, .unset] [] [.inl (0, [.ref 1, .ref 2, .int c]), .inr (.int, (ps.map Value.int)), .inr (.int, (zs.map Value.int)), .inr (.int, (lb.map Value.int))] 4 15 (fun v B => v = some (.int 1)) := by
  refine W_run 32 3 (pc' := 52) (ls' := [.val (.int u1), .val (.int u2), .val (.int u3), .val (.int u4), .val (.int q), .val (.ref 0), .val (.ref 3), .unset, .unset, .unset]) (st' := [.int u3, .ref 3, .ref 0]) rfl ?_
  refine W_callS (jx := 35) [.ref 0, .ref 3, .int u3] [] (own_m3 hw ps zs lb c u3 hU) rfl (hw _ (List.mem_of_getElem? (i := 16) rfl)) (hw _ (List.mem_of_getElem? (i := 17) rfl)) (hw _ (List.mem_of_getElem? (i := 18) rfl)) (hw _ (List.mem_of_getElem? (i := 19) rfl)) (by decide) own_pd3 rfl rfl rfl (by decide) rfl (by decide) (by decide) rfl ?_
  rintro _ _ ⟨rfl, ps, zs, c, lb, hU, rfl⟩
  show WP _ _ _ _ _ _ _ _ _ _ _ 55 [.val (.int u1), .val (.int u2), .val (.int u3), .val (.int u4), .val (.int q), .val (.ref 0), .val (.ref 3), .unset, .unset, .unset] [] [.inl (0, [.ref 1, .ref 2, .int c]), .inr (.int, (ps.map Value.int)), .inr (.int, (zs.map Value.int)), .inr (.int, (lb.map Value.int))] _ _ _
  exact own_s55 hw u1 u2 u3 u4 q _ _ _ _ hU
set_option maxRecDepth 65536 in
set_option maxHeartbeats 40000000 in
theorem own_s39 {l : Launch} {Z : State} {a0 : Array Value} (hw : ∀ d ∈ tables_1, d.before a0 Z = true) {n0 : Nat} (u1 u2 u3 u4 q : Int32) (ps zs lb : List Int32) (c : Int32) (hU : (ps, zs, c, lb) ∈ own_U) :
    WP false l Z n0 own_lay x.cls own_D0 maxLocals ret x.name room_1 39 [.val (.int u1), .val (.int u2), .val (.int u3), .val (.int u4), .val (.int q), .val (.ref 0), .val (.ref 3), .unset, .unset, .unset] [] [.inl (0, [.ref 1, .ref 2, .int c]), .inr (.int, (ps.map Value.int)), .inr (.int, (zs.map Value.int)), .inr (.int, (lb.map Value.int))] 4 15 (fun v B => v = some (.int 1)) := by
  refine W_run 28 3 (pc' := 44) (ls' := [.val (.int u1), .val (.int u2), .val (.int u3), .val (.int u4), .val (.int q), .val (.ref 0), .val (.ref 3), .unset, .unset, .unset]) (st' := [.int u2, .ref 3, .ref 0]) rfl ?_
  refine W_callS (jx := 31) [.ref 0, .ref 3, .int u2] [] (own_m3 hw ps zs lb c u2 hU) rfl (hw _ (List.mem_of_getElem? (i := 16) rfl)) (hw _ (List.mem_of_getElem? (i := 17) rfl)) (hw _ (List.mem_of_getElem? (i := 18) rfl)) (hw _ (List.mem_of_getElem? (i := 19) rfl)) (by decide) own_pd3 rfl rfl rfl (by decide) rfl (by decide) (by decide) rfl ?_
  rintro _ _ ⟨rfl, ps, zs, c, lb, hU, rfl⟩
  show WP _ _ _ _ _ _ _ _ _ _ _ 47 [.val (.int u1), .val (.int u2), .val (.int u3), .val (.int u4), .val (.int q), .val (.ref 0), .val (.ref 3), .unset, .unset, .unset] [] [.inl (0, [.ref 1, .ref 2, .int c]), .inr (.int, (ps.map Value.int)), .inr (.int, (zs.map Value.int)), .inr (.int, (lb.map Value.int))] _ _ _
  exact own_s47 hw u1 u2 u3 u4 q _ _ _ _ hU
set_option maxRecDepth 65536 in
set_option maxHeartbeats 40000000 in
theorem own_s31 {l : Launch} {Z : State} {a0 : Array Value} (hw : ∀ d ∈ tables_1, d.before a0 Z = true) {n0 : Nat} (u1 u2 u3 u4 q : Int32) (ps zs lb : List Int32) (c : Int32) (hU : (ps, zs, c, lb) ∈ own_U) :
    WP false l Z n0 own_lay x.cls own_D0 maxLocals ret x.name room_1 31 [.val (.int u1), .val (.int u2), .val (.int u3), .val (.int u4), .val (.int q), .val (.ref 0), .val (.ref 3), .unset, .unset, .unset] [] [.inl (0, [.ref 1, .ref 2, .int c]), .inr (.int, (ps.map Value.int)), .inr (.int, (zs.map Value.int)), .inr (.int, (lb.map Value.int))] 4 15 (fun v B => v = some (.int 1)) := by
  refine W_run 24 3 (pc' := 36) (ls' := [.val (.int u1), .val (.int u2), .val (.int u3), .val (.int u4), .val (.int q), .val (.ref 0), .val (.ref 3), .unset, .unset, .unset]) (st' := [.int u1, .ref 3, .ref 0]) rfl ?_
  refine W_callS (jx := 27) [.ref 0, .ref 3, .int u1] [] (own_m3 hw ps zs lb c u1 hU) rfl (hw _ (List.mem_of_getElem? (i := 16) rfl)) (hw _ (List.mem_of_getElem? (i := 17) rfl)) (hw _ (List.mem_of_getElem? (i := 18) rfl)) (hw _ (List.mem_of_getElem? (i := 19) rfl)) (by decide) own_pd3 rfl rfl rfl (by decide) rfl (by decide) (by decide) rfl ?_
  rintro _ _ ⟨rfl, ps, zs, c, lb, hU, rfl⟩
  show WP _ _ _ _ _ _ _ _ _ _ _ 39 [.val (.int u1), .val (.int u2), .val (.int u3), .val (.int u4), .val (.int q), .val (.ref 0), .val (.ref 3), .unset, .unset, .unset] [] [.inl (0, [.ref 1, .ref 2, .int c]), .inr (.int, (ps.map Value.int)), .inr (.int, (zs.map Value.int)), .inr (.int, (lb.map Value.int))] _ _ _
  exact own_s39 hw u1 u2 u3 u4 q _ _ _ _ hU
set_option maxRecDepth 65536 in
set_option maxHeartbeats 40000000 in
theorem own_m0 {l : Launch} {Z : State} {a0 : Array Value} (hw : ∀ d ∈ tables_1, d.before a0 Z = true) {n0 : Nat} (u1 : Int32) (u2 : Int32) (u3 : Int32) (u4 : Int32) (q : Int32)  :
    MT false l Z n0 own_lay x code maxLocals ret tables_1 room_1 [.int u1, .int u2, .int u3, .int u4, .int q] [] (fun v B => v = some (.int 1)) := by
  refine W_enter (D := own_D0) own_pn0 own_D0_ok ?_
  show WP _ _ _ _ _ _ _ _ _ _ _ 0 [.val (.int u1), .val (.int u2), .val (.int u3), .val (.int u4), .val (.int q), .unset, .unset, .unset, .unset, .unset] [] _ 0 0 _
  refine W_new (jx := 0) (ci := 0) (vs := [.null, .null, .int 0]) rfl (own_lay_ok hw) (hw _ (List.mem_of_getElem? (i := 0) rfl)) (hw _ (List.mem_of_getElem? (i := 1) rfl)) (hw _ (List.mem_of_getElem? (i := 2) rfl)) rfl (by decide +kernel) rfl (by decide) (by decide) rfl (N0 := 0) (A1 := [.inl (0, [.null, .null, .int 0])]) rfl rfl ?_
  refine W_run 1 2 (pc' := 5) (ls' := [.val (.int u1), .val (.int u2), .val (.int u3), .val (.int u4), .val (.int q), .unset, .unset, .unset, .unset, .unset]) (st' := [.int 4, .ref 0, .ref 0]) rfl ?_
  refine W_callI (jx := 3) [.int 4] [.ref 0] (own_m1 hw) rfl rfl (hw _ (List.mem_of_getElem? (i := 3) rfl)) (hw _ (List.mem_of_getElem? (i := 4) rfl)) (hw _ (List.mem_of_getElem? (i := 2) rfl)) (hw _ (List.mem_of_getElem? (i := 5) rfl)) (by decide) own_pd1 rfl rfl rfl (by decide) rfl (by decide) (by decide) rfl ?_
  rintro _ _ ⟨rfl, rfl⟩
  show WP _ _ _ _ _ _ _ _ _ _ _ 8 [.val (.int u1), .val (.int u2), .val (.int u3), .val (.int u4), .val (.int q), .unset, .unset, .unset, .unset, .unset] [.ref 0] [.inl (0, [.ref 1, .ref 2, .int 4]), .inr (.int, [.int 0, .int 1, .int 2, .int 3]), .inr (.int, [.int 1, .int 1, .int 1, .int 1])] _ _ _
  refine W_run 4 1 (pc' := 10) (ls' := [.val (.int u1), .val (.int u2), .val (.int u3), .val (.int u4), .val (.int q), .val (.ref 0), .unset, .unset, .unset, .unset]) (st' := []) rfl ?_
  refine W_run 5 1 (pc' := 11) (ls' := [.val (.int u1), .val (.int u2), .val (.int u3), .val (.int u4), .val (.int q), .val (.ref 0), .unset, .unset, .unset, .unset]) (st' := [.int 4]) rfl ?_
  refine W_newarray (jx := 6) 4 (vs := [.int 0, .int 0, .int 0, .int 0]) rfl rfl (hw _ (List.mem_of_getElem? (i := 9) rfl)) (by decide) rfl (by decide) (by decide) (by decide) (by decide) rfl (N0 := 3) (A1 := [.inl (0, [.ref 1, .ref 2, .int 4]), .inr (.int, [.int 0, .int 1, .int 2, .int 3]), .inr (.int, [.int 1, .int 1, .int 1, .int 1]), .inr (.int, [.int 0, .int 0, .int 0, .int 0])]) rfl rfl ?_
  refine W_run 7 3 (pc' := 16) (ls' := [.val (.int u1), .val (.int u2), .val (.int u3), .val (.int u4), .val (.int q), .val (.ref 0), .unset, .unset, .unset, .unset]) (st' := [.int 0, .int 0, .ref 3, .ref 3]) rfl ?_
  refine W_iastore (jx := 10) rfl rfl (by decide) (Nat.le_of_ble_eq_true rfl) (A1 := [.inl (0, [.ref 1, .ref 2, .int 4]), .inr (.int, [.int 0, .int 1, .int 2, .int 3]), .inr (.int, [.int 1, .int 1, .int 1, .int 1]), .inr (.int, [.int 0, .int 0, .int 0, .int 0])]) rfl ?_
  refine W_run 11 3 (pc' := 20) (ls' := [.val (.int u1), .val (.int u2), .val (.int u3), .val (.int u4), .val (.int q), .val (.ref 0), .unset, .unset, .unset, .unset]) (st' := [.int 1, .int 1, .ref 3, .ref 3]) rfl ?_
  refine W_iastore (jx := 14) rfl rfl (by decide) (Nat.le_of_ble_eq_true rfl) (A1 := [.inl (0, [.ref 1, .ref 2, .int 4]), .inr (.int, [.int 0, .int 1, .int 2, .int 3]), .inr (.int, [.int 1, .int 1, .int 1, .int 1]), .inr (.int, [.int 0, .int 1, .int 0, .int 0])]) rfl ?_
  refine W_run 15 3 (pc' := 24) (ls' := [.val (.int u1), .val (.int u2), .val (.int u3), .val (.int u4), .val (.int q), .val (.ref 0), .unset, .unset, .unset, .unset]) (st' := [.int 2, .int 2, .ref 3, .ref 3]) rfl ?_
  refine W_iastore (jx := 18) rfl rfl (by decide) (Nat.le_of_ble_eq_true rfl) (A1 := [.inl (0, [.ref 1, .ref 2, .int 4]), .inr (.int, [.int 0, .int 1, .int 2, .int 3]), .inr (.int, [.int 1, .int 1, .int 1, .int 1]), .inr (.int, [.int 0, .int 1, .int 2, .int 0])]) rfl ?_
  refine W_run 19 3 (pc' := 28) (ls' := [.val (.int u1), .val (.int u2), .val (.int u3), .val (.int u4), .val (.int q), .val (.ref 0), .unset, .unset, .unset, .unset]) (st' := [.int 3, .int 3, .ref 3, .ref 3]) rfl ?_
  refine W_iastore (jx := 22) rfl rfl (by decide) (Nat.le_of_ble_eq_true rfl) (A1 := [.inl (0, [.ref 1, .ref 2, .int 4]), .inr (.int, [.int 0, .int 1, .int 2, .int 3]), .inr (.int, [.int 1, .int 1, .int 1, .int 1]), .inr (.int, [.int 0, .int 1, .int 2, .int 3])]) rfl ?_
  refine W_run 23 1 (pc' := 31) (ls' := [.val (.int u1), .val (.int u2), .val (.int u3), .val (.int u4), .val (.int q), .val (.ref 0), .val (.ref 3), .unset, .unset, .unset]) (st' := []) rfl ?_
  exact own_s31 hw u1 u2 u3 u4 q [0, 1, 2, 3] [1, 1, 1, 1] [0, 1, 2, 3] 4 (by decide +kernel)
theorem own_hp0 (s : State) : Hp s own_lay s.heap.size (fun _ => 0) s.heap [] := ⟨fun i c h => by simp at h, fun i j hi => absurd hi (Nat.not_lt_zero i), Nat.le_refl _⟩
set_option maxRecDepth 65536 in
set_option maxHeartbeats 40000000 in
theorem comes_1 {Post : Tables → Env → Array Value → State → Outcome → State → Prop} (hpost : ∀ tb e args s v u, (limb_1_1.after args s (.returned v) u = true ∧ limb_1_2.after args s (.returned v) u = true ∧ True) → FrameEnd s (.returned v) u (Jvm.fieldLocs frame_1_writes args s ++ Jvm.arrayLocs frame_1_arrays args s ++ Jvm.staticLocs frame_1_statics s) 24 128 → Post tb e args s (.returned v) u) :
    ArmFor flags0 classFile x code maxLocals ret World_1 tables_1 room_1 Calls_1 rest_1 Pre_1 Post := by
  intro l hfl _ _ p e ha hc hk s m args below hf hA hF happ hP
  obtain ⟨hcalls, hrest, hpre⟩ := hP
  obtain ⟨-, -, -, hnamed, -, -, -, hat⟩ := (Spec.applies_iff hf).mp happ
  obtain ⟨hg, hn⟩ := and_e (Cond.before_iff.mp (show (Jvm.Cond.and given_1 narrow_1).before args s = true from hpre))
  obtain ⟨g0, g1⟩ := and_e hg
  obtain ⟨w0, w1, w2, w3, w4, rfl⟩ : ∃ w0 w1 w2 w3 w4 : Value, args = #[w0, w1, w2, w3, w4] := by
    have hs : args.size = 5 := by simpa [Cond.value, given_1] using g0
    obtain ⟨L⟩ := args
    match L, hs with
    | [w0, w1, w2, w3, w4], _ => exact ⟨w0, w1, w2, w3, w4, rfl⟩
  have hw := fun d (hd : d ∈ tables_1) => atoms_spec (ws := Jvm.Cond.code x code maxLocals ret :: tables_1) hat d (List.mem_cons_of_mem _ hd)
  obtain ⟨q0, r0⟩ := and_e g1
  obtain ⟨i0, e0⟩ := is_v q0
  obtain rfl : w0 = (.int i0) := Option.some.inj e0
  obtain ⟨q1, r1⟩ := and_e r0
  obtain ⟨i1, e1⟩ := is_v q1
  obtain rfl : w1 = (.int i1) := Option.some.inj e1
  obtain ⟨q2, r2⟩ := and_e r1
  obtain ⟨i2, e2⟩ := is_v q2
  obtain rfl : w2 = (.int i2) := Option.some.inj e2
  obtain ⟨q3, r3⟩ := and_e r2
  obtain ⟨i3, e3⟩ := is_v q3
  obtain rfl : w3 = (.int i3) := Option.some.inj e3
  obtain ⟨i4, e4⟩ := is_v r3
  obtain rfl : w4 = (.int i4) := Option.some.inj e4
  obtain ⟨n, o, h1, h2, h3, _, L, rfl, ⟨N, v', A', r', rfl, -, -, rfl⟩, hq⟩ := own_m0 hw (n0 := s.heap.size) i0 i1 i2 i3 i4 (fun _ => 0) s.heap (own_hp0 s) p e ha hc hk s m _ below hf ((Spec.applies_iff_loose hf).mp happ).1 ⟨rfl, State.Warmed39.refl s, rfl⟩ trivial
  refine ⟨n, _, h1, h2, h3, hpost _ _ _ _ _ _ ⟨Cond.after_iff.mpr rfl, Cond.after_iff.mpr (eq_i res_at (Term.int_eval (1)) rfl), trivial⟩ ⟨hq.1, hq.2.1, (hq.2.2.sift fun y hy => Or.inr (N y hy)).mono (by decide) (by decide)⟩⟩
theorem main_1_1 : Claimed_1_1 := comes_1 fun _ _ _ _ _ _ h hF => ⟨h.1, hF⟩
theorem main_1_2 : Claimed_1_2 := comes_1 fun _ _ _ _ _ _ h hF => ⟨h.2.1, hF⟩
end Jvm.Pilot.@@N@@
namespace Jvm.Pilot.@@N@@
open Jvm Jvm.ClassFile Sem Op Lib Jvm.Free Jvm.Stand Jvm.Pilot.@@N@@.Jvm.D
/-! MADE BY PROGRAM (witnessworld.py) out of the Statement's table words and the real class files: 9 classes; the members and pool entries that the words name. The judged class is class 1, her method 5. -/
namespace start1
open Jvm.ClassFile
def u (s : String) : CpInfo := .utf8 (stringToUtf16 s)
/-- a pool by its gaps: so many unusable entries, then the entry; so many at the end -/
def gap : Nat → List CpInfo → List CpInfo
  | 0, r => r
  | n + 1, r => .unusable :: gap n r
def poolList (es : List (Nat × CpInfo)) (last : Nat) : List CpInfo := es.foldr (fun e r => gap e.1 (e.2 :: r)) (gap last [])
def pool (es : List (Nat × CpInfo)) (last : Nat) : Array CpInfo := ⟨poolList es last⟩
def fileOf (pool : Array CpInfo) (this : Nat) (attrs : Array Attribute := #[]) (ms : Array MethodInfo := #[]) (fl : Nat := 33) (sup : Nat := 0) (ifs : Array Nat := #[]) (fds : Array FieldInfo := #[]) : ClassFile where
  minorVersion := 0
  majorVersion := 65
  constantPool := pool
  accessFlags := fl
  thisClass := this
  superClass := sup
  interfaces := ifs
  fields := fds
  methods := ms
  attributes := attrs
def plain (name : String) (sup : Option ClassId) : Class where
  name := name
  kind := .ordinary
  loader := none
  accessFlags := 33
  super := sup
  interfaces := #[]
  cf := none
  fields := #[]
  methods := #[]
  instanceTypes := #[]
  staticTypes := #[]
  resolved := #[]
  callSites := []
  init := .initialized
  statics := none
  mirror := none

def pool0 : Array CpInfo := pool [(5, u "<init>"), (0, u "()V"), (1, .class_ 10), (1, u "java/lang/Object")] 113

def k0c0 : Code := { maxStack := 0, maxLocals := 1, code := object_method_1_code, exceptionTable := #[], attributes := #[] }
def k0m0 : Method := { name := "<init>", desc := "()V", sig := { parameters := [], returnType := none }, accessFlags := 1, code := some k0c0 }
/-- java/lang/Object -/
def k0 : Class := { plain "java/lang/Object" none with
  accessFlags := 33
  interfaces := #[]
  cf := some (fileOf pool0 8 #[] #[{ accessFlags := 1, nameIndex := 5, descriptorIndex := 6, attributes := #[] }] 33 0 #[] #[])
  fields := #[]
  methods := #[k0m0]
  instanceTypes := #[]
  staticTypes := #[]
  resolved := Array.replicate 124 none
  statics := none }

def pool1 : Array CpInfo := pool [(2, .class_ 4), (1, u "java/lang/Object"), (0, u "<init>"), (0, u "()V"), (0, .methodref 8 9), (0, .class_ 10), (0, .nameAndType 11 12), (0, u "com/example/arcwise/arcwise/graph/DisjointSets"), (0, u "union"), (0, u "(II)Z"), (0, .methodref 14 15), (0, .class_ 16), (0, .nameAndType 17 18), (0, u "com/example/arcwise/arcwise/graph/DisjointSetsFindPinLaw"), (0, u "merge"), (0, u "([III)V"), (0, .methodref 8 20), (0, .nameAndType 5 21), (0, u "(I)V"), (0, .methodref 14 23), (0, .nameAndType 24 25), (0, u "step"), (0, u "(Lcom/example/arcwise/arcwise/graph/DisjointSets;[II)V"), (0, .methodref 8 27), (0, .nameAndType 28 29), (0, u "find"), (0, u "(I)I"), (0, .methodref 14 31), (0, .nameAndType 32 33), (0, u "inSet"), (0, u "([I[II)Z"), (0, .methodref 14 35), (0, .nameAndType 36 37), (0, u "same"), (0, u "([I[III)Z"), (5, u "law"), (0, u "(IIIII)Z")] 2

def k1m0 : Method := { name := "<init>", desc := "()V", sig := { parameters := [], returnType := none }, accessFlags := 2, code := none }
def k1c1 : Code := { maxStack := 3, maxLocals := 5, code := method_2_code, exceptionTable := #[], attributes := #[] }
def k1m1 : Method := { name := "merge", desc := "([III)V", sig := { parameters := [(.array .int), .int, .int], returnType := none }, accessFlags := 10, code := some k1c1 }
def k1c2 : Code := { maxStack := 3, maxLocals := 5, code := method_3_code, exceptionTable := #[], attributes := #[] }
def k1m2 : Method := { name := "step", desc := "(Lcom/example/arcwise/arcwise/graph/DisjointSets;[II)V", sig := { parameters := [(.object "com/example/arcwise/arcwise/graph/DisjointSets"), (.array .int), .int], returnType := none }, accessFlags := 10, code := some k1c2 }
def k1c3 : Code := { maxStack := 3, maxLocals := 3, code := method_4_code, exceptionTable := #[], attributes := #[] }
def k1m3 : Method := { name := "inSet", desc := "([I[II)Z", sig := { parameters := [(.array .int), (.array .int), .int], returnType := some .boolean }, accessFlags := 10, code := some k1c3 }
def k1c4 : Code := { maxStack := 4, maxLocals := 4, code := method_5_code, exceptionTable := #[], attributes := #[] }
def k1m4 : Method := { name := "same", desc := "([I[III)Z", sig := { parameters := [(.array .int), (.array .int), .int, .int], returnType := some .boolean }, accessFlags := 10, code := some k1c4 }
def k1c5 : Code := { maxStack := 4, maxLocals := 10, code := code, exceptionTable := #[], attributes := #[] }
def k1m5 : Method := { name := "law", desc := "(IIIII)Z", sig := { parameters := [.int, .int, .int, .int, .int], returnType := some .boolean }, accessFlags := 9, code := some k1c5 }
/-- com/example/arcwise/arcwise/graph/DisjointSetsFindPinLaw -/
def k1 : Class := { plain "com/example/arcwise/arcwise/graph/DisjointSetsFindPinLaw" (some 0) with
  accessFlags := 49
  interfaces := #[]
  cf := some (fileOf pool1 14 #[] #[{ accessFlags := 2, nameIndex := 5, descriptorIndex := 6, attributes := #[] }, { accessFlags := 10, nameIndex := 17, descriptorIndex := 18, attributes := #[] }, { accessFlags := 10, nameIndex := 24, descriptorIndex := 25, attributes := #[] }, { accessFlags := 10, nameIndex := 32, descriptorIndex := 33, attributes := #[] }, { accessFlags := 10, nameIndex := 36, descriptorIndex := 37, attributes := #[] }, { accessFlags := 9, nameIndex := 43, descriptorIndex := 44, attributes := #[] }] 49 2 #[] #[])
  fields := #[]
  methods := #[k1m0, k1m1, k1m2, k1m3, k1m4, k1m5]
  instanceTypes := #[]
  staticTypes := #[]
  resolved := Array.replicate 47 none
  statics := none }

def pool2 : Array CpInfo := pool [(1, .methodref 2 3), (0, .class_ 4), (0, .nameAndType 5 6), (0, u "java/lang/Object"), (0, u "<init>"), (0, u "()V"), (9, .fieldref 17 18), (0, .class_ 19), (0, .nameAndType 20 21), (0, u "com/example/arcwise/arcwise/graph/DisjointSets"), (0, u "parent"), (0, u "[I"), (0, .fieldref 17 23), (0, .nameAndType 24 21), (0, u "size"), (0, .fieldref 17 26), (0, .nameAndType 27 28), (0, u "count"), (0, u "I"), (0, .methodref 17 30), (0, .nameAndType 31 32), (0, u "find"), (0, u "(I)I"), (0, u "(I)V"), (3, u "union"), (0, u "(II)Z")] 18

def k2c0 : Code := { maxStack := 3, maxLocals := 3, code := prog_58_method_1_code, exceptionTable := #[], attributes := #[] }
def k2m0 : Method := { name := "<init>", desc := "(I)V", sig := { parameters := [.int], returnType := none }, accessFlags := 1, code := some k2c0 }
def k2c1 : Code := { maxStack := 5, maxLocals := 2, code := prog_58_method_2_code, exceptionTable := #[], attributes := #[] }
def k2m1 : Method := { name := "find", desc := "(I)I", sig := { parameters := [.int], returnType := some .int }, accessFlags := 1, code := some k2c1 }
def k2c2 : Code := { maxStack := 5, maxLocals := 6, code := prog_58_method_3_code, exceptionTable := #[], attributes := #[] }
def k2m2 : Method := { name := "union", desc := "(II)Z", sig := { parameters := [.int, .int], returnType := some .boolean }, accessFlags := 1, code := some k2c2 }
/-- com/example/arcwise/arcwise/graph/DisjointSets -/
def k2 : Class := { plain "com/example/arcwise/arcwise/graph/DisjointSets" (some 0) with
  accessFlags := 49
  interfaces := #[]
  cf := some (fileOf pool2 17 #[] #[{ accessFlags := 1, nameIndex := 5, descriptorIndex := 33, attributes := #[] }, { accessFlags := 1, nameIndex := 31, descriptorIndex := 32, attributes := #[] }, { accessFlags := 1, nameIndex := 37, descriptorIndex := 38, attributes := #[] }] 49 2 #[] #[{ accessFlags := 18, nameIndex := 20, descriptorIndex := 21, attributes := #[] }, { accessFlags := 18, nameIndex := 24, descriptorIndex := 21, attributes := #[] }, { accessFlags := 2, nameIndex := 27, descriptorIndex := 28, attributes := #[] }])
  fields := #[{ name := "parent", type := (.array .int), accessFlags := 18, slot := 0, constantValue := 0 }, { name := "size", type := (.array .int), accessFlags := 18, slot := 1, constantValue := 0 }, { name := "count", type := .int, accessFlags := 2, slot := 2, constantValue := 0 }]
  methods := #[k2m0, k2m1, k2m2]
  instanceTypes := #[(.array .int), (.array .int), .int]
  staticTypes := #[]
  resolved := Array.replicate 57 none
  statics := none }

def pool3 : Array CpInfo := pool [(1, u "java/lang/Cloneable"), (0, .class_ 1), (0, u "java/lang/Object"), (0, .class_ 3)] 3

/-- java/lang/Cloneable -/
def k3 : Class := { plain "java/lang/Cloneable" (some 0) with
  accessFlags := 1537
  interfaces := #[]
  cf := some (fileOf pool3 2 #[] #[] 1537 4 #[] #[])
  fields := #[]
  methods := #[]
  instanceTypes := #[]
  staticTypes := #[]
  resolved := Array.replicate 8 none
  statics := none }

def pool4 : Array CpInfo := pool [(1, u "java/io/Serializable"), (0, .class_ 1), (0, u "java/lang/Object"), (0, .class_ 3)] 3

/-- java/io/Serializable -/
def k4 : Class := { plain "java/io/Serializable" (some 0) with
  accessFlags := 1537
  interfaces := #[]
  cf := some (fileOf pool4 2 #[] #[] 1537 4 #[] #[])
  fields := #[]
  methods := #[]
  instanceTypes := #[]
  staticTypes := #[]
  resolved := Array.replicate 8 none
  statics := none }

/-- the primitive byte -/
def k5 : Class := { plain "byte" none with kind := .primitive 'B', accessFlags := 0x411 }
/-- [B -/
def k6 : Class := { plain "[B" (some 0) with kind := .array 5 .byte, interfaces := #[3, 4], accessFlags := 1041 }

/-- the primitive int -/
def k7 : Class := { plain "int" none with kind := .primitive 'I', accessFlags := 0x411 }
/-- [I -/
def k8 : Class := { plain "[I" (some 0) with kind := .array 7 .int, interfaces := #[3, 4], accessFlags := 1041 }

def heap : Heap := #[]
def classes : Array Class := #[k0, k1, k2, k3, k4, k5, k6, k7, k8]
def interned : List (Array UInt16 × Addr) := []
def slotsUsed : Nat := 0
def theMethod : MethodId := ⟨1, 5⟩
def args0 : Array Value := #[.int 5, .int 6, .int 7, .int 3, .int 2]
def aboutOver (below : List Frame) : State where
  vm := { classes := classes, interned := interned.toArray }
  heap := heap
  slotsUsed := slotsUsed
  threads := #[{ frames := .invoking theMethod args0 :: below }]
def below0 : List Frame := [.native { method := ⟨0, 0⟩, args := #[] }]
def about1 : State := aboutOver below0
def p0 : Program := .bare "" "" ""
def e0 : Env := launch0.env 0 0 0
theorem w_frames : about1.frames = Frame.invoking theMethod args0 :: below0 := rfl
set_option maxRecDepth 65536 in
theorem w_args : argsFit about1.vm theMethod args0 = true := by decide +kernel
set_option maxRecDepth 65536 in
theorem w_heap : heapFits about1 = true := by decide +kernel
set_option maxRecDepth 65536 in
theorem w_runnable : about1.curStatus? = some .runnable := by decide +kernel
set_option maxRecDepth 65536 in
theorem w_alone : about1.alone = true := by decide +kernel
set_option maxRecDepth 65536 in
theorem w_named : about1.methodNamed? x = some theMethod := by decide +kernel
set_option maxRecDepth 65536 in
theorem w_hears : about1.hears theMethod below0 = true := by decide +kernel
set_option maxRecDepth 65536 in
theorem w_ripe : about1.ripe theMethod args0 below0 = true := by decide +kernel
theorem w_running : about1.status = .running := rfl
set_option maxRecDepth 65536 in
theorem w_room : about1.hasRoom e0.platform room_1 = true :=
  launch0.hasRoom_least _ room_1 (by decide +kernel) (by decide +kernel) (by decide +kernel) (by decide +kernel) (by decide +kernel) (by decide +kernel)
theorem allAtoms_all (ts : List Jvm.Cond) (a : Array Jvm.Value) (st : Jvm.State) : (allAtoms ts).before a st = ts.all (fun c => c.before a st) := by
  induction ts with
  | nil => rfl
  | cons c t ih =>
    show (Jvm.Cond.and c (allAtoms t)).before a st = _
    rw [Jvm.Cond.before_and, ih, List.all_cons]
def words1 : List Jvm.Cond := Jvm.Cond.code x code maxLocals ret :: tables_1
/-- a 'code' word, met by the world's own term for the bytes: nothing is compared byte by byte -/
theorem code_word {y : MethodName} {bytes : ByteArray} {mx : Nat} {rt : Option FieldType} {a : Array Value} {s : State} {m : MethodId} {meth : Method} {c : Code} (h1 : s.methodNamed? y = some m) (h2 : s.vm.method? m = some meth) (h3 : meth.code = some c) (h4 : c.code = bytes)
    (h5 : (c.maxLocals == mx && c.exceptionTable.isEmpty && decide (c.maxStack ≤ mostOperands) && decide (meth.sig.returnType = rt) && !meth.locks && decide (parseMethodDescriptor y.desc = some meth.sig)) = true) : (Jvm.Cond.code y bytes mx rt).before a s = true := by
  simp only [Bool.and_eq_true, beq_iff_eq, Bool.not_eq_true', decide_eq_true_eq] at h5
  obtain ⟨⟨⟨⟨⟨g1, g2⟩, g3⟩, g4⟩, g5⟩, g6⟩ := h5
  simp [Cond.before, Cond.holds, Cond.value, h1, h2, h3, h4, g1, g2, g3, g4, g5, g6]
def isCode : Jvm.Cond → Bool
  | .code _ _ _ _ => true
  | _ => false
theorem all_split {L : List Jvm.Cond} {P : Jvm.Cond → Bool} (h1 : L.all (fun c => isCode c || P c) = true) (h2 : ∀ c ∈ L.filter isCode, P c = true) : L.all P = true := by
  refine List.all_eq_true.mpr fun c hc => ?_
  have h := List.all_eq_true.mp h1 c hc
  rcases Bool.eq_false_or_eq_true (isCode c) with hi | hi
  · exact h2 c (List.mem_filter.mpr ⟨hc, hi⟩)
  · simpa [hi] using h
set_option maxRecDepth 65536 in
theorem w_c0 : (Jvm.Cond.code x code maxLocals ret).before args0 about1 = true := code_word (m := ⟨1, 5⟩) (meth := k1m5) (c := k1c5) (by decide +kernel) rfl rfl rfl (by decide +kernel)
set_option maxRecDepth 65536 in
theorem w_c1 : (Jvm.Cond.code ({ cls := "com/example/arcwise/arcwise/graph/DisjointSets", name := "<init>", desc := "(I)V" } : Jvm.MethodName) prog_58_method_1_code (3 : Nat) (Option.none : Option Jvm.ClassFile.FieldType)).before args0 about1 = true := code_word (m := ⟨2, 0⟩) (meth := k2m0) (c := k2c0) (by decide +kernel) rfl rfl rfl (by decide +kernel)
set_option maxRecDepth 65536 in
theorem w_c2 : (Jvm.Cond.code ({ cls := "java/lang/Object", name := "<init>", desc := "()V" } : Jvm.MethodName) object_method_1_code (1 : Nat) (Option.none : Option Jvm.ClassFile.FieldType)).before args0 about1 = true := code_word (m := ⟨0, 0⟩) (meth := k0m0) (c := k0c0) (by decide +kernel) rfl rfl rfl (by decide +kernel)
set_option maxRecDepth 65536 in
theorem w_c3 : (Jvm.Cond.code ({ cls := "com/example/arcwise/arcwise/graph/DisjointSetsFindPinLaw", name := "step", desc := "(Lcom/example/arcwise/arcwise/graph/DisjointSets;[II)V" } : Jvm.MethodName) method_3_code (5 : Nat) (Option.none : Option Jvm.ClassFile.FieldType)).before args0 about1 = true := code_word (m := ⟨1, 2⟩) (meth := k1m2) (c := k1c2) (by decide +kernel) rfl rfl rfl (by decide +kernel)
set_option maxRecDepth 65536 in
theorem w_c4 : (Jvm.Cond.code ({ cls := "com/example/arcwise/arcwise/graph/DisjointSets", name := "union", desc := "(II)Z" } : Jvm.MethodName) prog_58_method_3_code (6 : Nat) (Option.some Jvm.ClassFile.FieldType.boolean)).before args0 about1 = true := code_word (m := ⟨2, 2⟩) (meth := k2m2) (c := k2c2) (by decide +kernel) rfl rfl rfl (by decide +kernel)
set_option maxRecDepth 65536 in
theorem w_c5 : (Jvm.Cond.code ({ cls := "com/example/arcwise/arcwise/graph/DisjointSets", name := "find", desc := "(I)I" } : Jvm.MethodName) prog_58_method_2_code (2 : Nat) (Option.some Jvm.ClassFile.FieldType.int)).before args0 about1 = true := code_word (m := ⟨2, 1⟩) (meth := k2m1) (c := k2c1) (by decide +kernel) rfl rfl rfl (by decide +kernel)
set_option maxRecDepth 65536 in
theorem w_c6 : (Jvm.Cond.code ({ cls := "com/example/arcwise/arcwise/graph/DisjointSetsFindPinLaw", name := "merge", desc := "([III)V" } : Jvm.MethodName) method_2_code (5 : Nat) (Option.none : Option Jvm.ClassFile.FieldType)).before args0 about1 = true := code_word (m := ⟨1, 1⟩) (meth := k1m1) (c := k1c1) (by decide +kernel) rfl rfl rfl (by decide +kernel)
set_option maxRecDepth 65536 in
theorem w_c7 : (Jvm.Cond.code ({ cls := "com/example/arcwise/arcwise/graph/DisjointSetsFindPinLaw", name := "inSet", desc := "([I[II)Z" } : Jvm.MethodName) method_4_code (3 : Nat) (Option.some Jvm.ClassFile.FieldType.boolean)).before args0 about1 = true := code_word (m := ⟨1, 3⟩) (meth := k1m3) (c := k1c3) (by decide +kernel) rfl rfl rfl (by decide +kernel)
set_option maxRecDepth 65536 in
theorem w_c8 : (Jvm.Cond.code ({ cls := "com/example/arcwise/arcwise/graph/DisjointSetsFindPinLaw", name := "same", desc := "([I[III)Z" } : Jvm.MethodName) method_5_code (4 : Nat) (Option.some Jvm.ClassFile.FieldType.boolean)).before args0 about1 = true := code_word (m := ⟨1, 4⟩) (meth := k1m4) (c := k1c4) (by decide +kernel) rfl rfl rfl (by decide +kernel)
def codes1 : List Jvm.Cond := [Jvm.Cond.code x code maxLocals ret, Jvm.Cond.code ({ cls := "com/example/arcwise/arcwise/graph/DisjointSets", name := "<init>", desc := "(I)V" } : Jvm.MethodName) prog_58_method_1_code (3 : Nat) (Option.none : Option Jvm.ClassFile.FieldType), Jvm.Cond.code ({ cls := "java/lang/Object", name := "<init>", desc := "()V" } : Jvm.MethodName) object_method_1_code (1 : Nat) (Option.none : Option Jvm.ClassFile.FieldType), Jvm.Cond.code ({ cls := "com/example/arcwise/arcwise/graph/DisjointSetsFindPinLaw", name := "step", desc := "(Lcom/example/arcwise/arcwise/graph/DisjointSets;[II)V" } : Jvm.MethodName) method_3_code (5 : Nat) (Option.none : Option Jvm.ClassFile.FieldType), Jvm.Cond.code ({ cls := "com/example/arcwise/arcwise/graph/DisjointSets", name := "union", desc := "(II)Z" } : Jvm.MethodName) prog_58_method_3_code (6 : Nat) (Option.some Jvm.ClassFile.FieldType.boolean), Jvm.Cond.code ({ cls := "com/example/arcwise/arcwise/graph/DisjointSets", name := "find", desc := "(I)I" } : Jvm.MethodName) prog_58_method_2_code (2 : Nat) (Option.some Jvm.ClassFile.FieldType.int), Jvm.Cond.code ({ cls := "com/example/arcwise/arcwise/graph/DisjointSetsFindPinLaw", name := "merge", desc := "([III)V" } : Jvm.MethodName) method_2_code (5 : Nat) (Option.none : Option Jvm.ClassFile.FieldType), Jvm.Cond.code ({ cls := "com/example/arcwise/arcwise/graph/DisjointSetsFindPinLaw", name := "inSet", desc := "([I[II)Z" } : Jvm.MethodName) method_4_code (3 : Nat) (Option.some Jvm.ClassFile.FieldType.boolean), Jvm.Cond.code ({ cls := "com/example/arcwise/arcwise/graph/DisjointSetsFindPinLaw", name := "same", desc := "([I[III)Z" } : Jvm.MethodName) method_5_code (4 : Nat) (Option.some Jvm.ClassFile.FieldType.boolean)]
set_option maxRecDepth 65536 in
theorem codes_eq : words1.filter isCode = codes1 := rfl
theorem w_codes : ∀ c ∈ words1.filter isCode, c.before args0 about1 = true := by
  rw [codes_eq]
  intro c hc
  simp only [codes1, List.mem_cons, List.not_mem_nil, or_false] at hc
  rcases hc with rfl | rfl | rfl | rfl | rfl | rfl | rfl | rfl | rfl
  · exact w_c0
  · exact w_c1
  · exact w_c2
  · exact w_c3
  · exact w_c4
  · exact w_c5
  · exact w_c6
  · exact w_c7
  · exact w_c8
set_option maxRecDepth 65536 in
theorem w_t1 : (words1.take 24).all (fun c => isCode c || c.before args0 about1) = true := by decide +kernel
set_option maxRecDepth 65536 in
theorem w_t2 : (words1.drop 24).all (fun c => isCode c || c.before args0 about1) = true := by decide +kernel
theorem w_tables : (allAtoms (Jvm.Cond.code x code maxLocals ret :: tables_1)).before args0 about1 = true := by
  rw [allAtoms_all]
  show words1.all (fun c => c.before args0 about1) = true
  refine all_split ?_ w_codes
  rw [← List.take_append_drop 24 words1, List.all_append, w_t1, w_t2]
  rfl
set_option maxRecDepth 65536 in
theorem w_case : (Jvm.Cond.and given_1 narrow_1).before args0 about1 = true := by decide +kernel
theorem w_applies : (headSpec (Jvm.Cond.code x code maxLocals ret :: tables_1) room_1).applies x e0.platform about1 = true :=
  (Spec.applies_iff w_frames).mpr ⟨w_running, w_runnable, w_alone, w_named, w_hears, w_ripe, w_room, w_tables⟩
theorem atStart : AtStart classFile x code maxLocals ret World_1 tables_1 room_1 Calls_1 rest_1 Pre_1 launch0 p0 e0 about1 theMethod args0 below0 :=
  ⟨lists_1, trivial, launch0.admits_env _ _ _, launch0.least_env, fairChoices_fair.cas, fairChoices_fair.clock, w_frames, w_args, w_heap, w_applies, trivial, trivial, w_case⟩
end start1
theorem witness_1 : WitnessClaimed_1 := ⟨start1.p0, start1.e0, start1.about1, start1.theMethod, start1.args0, start1.below0, start1.atStart⟩
end Jvm.Pilot.@@N@@
