import JvmDerived
import JvmDerived.Pilot.@@N@@Statement
import JvmDerived.Pilot.@@N@@Code
set_option linter.unusedVariables false
set_option linter.unusedSimpArgs false
namespace Jvm.OwnKit
open Jvm Jvm.ClassFile Sem Op Lib Jvm.Free Jvm.Stand Jvm.LawKit Jvm.RoadKit Bundle

theorem own_b8 (x : Int32) : x.toInt8.toInt32.toInt8.toInt32 = x.toInt8.toInt32 := by simp
theorem own_nd_inj {fs : List (String × String × String)} (h : (fs.map (fun f => f.2.1)).Nodup) {i j : Nat} {f g : String × String × String} (hi : fs[i]? = some f) (hj : fs[j]? = some g) (e : f.2.1 = g.2.1) : i = j := by
  have hl : i < (fs.map (fun f => f.2.1)).length := by simpa using (List.getElem?_eq_some_iff.mp hi).1
  refine (List.getElem?_inj hl h).mp ?_
  simp [hi, hj, e]
/-! ## 1. Values that name their cells by number; r says at which address cell i lies -/
def cv (r : Nat → Addr) : Value → Value
  | .ref i => .ref (r i)
  | v => v
def cs (r : Nat → Addr) : Slot → Slot
  | .val v => .val (cv r v)
  | .unset => .unset
  | .second => .second
theorem cv_cat (r : Nat → Addr) (v : Value) : (cv r v).category = v.category := by cases v <;> rfl
theorem cv_isRef (r : Nat → Addr) (v : Value) : (cv r v).isRef = v.isRef := by cases v <;> rfl
abbrev cl (r : Nat → Addr) (ls : List Slot) : Array Slot := (ls.map (cs r)).toArray
abbrev ct (r : Nat → Addr) (st : List Value) : List Value := st.map (cv r)
theorem cl_get {r : Nat → Addr} {ls : List Slot} {k : Nat} {x : Slot} (h : ls[k]? = some x) : (cl r ls)[k]? = some (cs r x) := by simp [cl, h]
theorem cl_size {r : Nat → Addr} {ls : List Slot} : (cl r ls).size = ls.length := by simp [cl]
def catS (st : List Value) : Nat := (st.map fun v => v.category).sum
theorem ct_cat (r : Nat → Addr) (st : List Value) : ((ct r st).map fun v => v.category).sum = catS st := by
  simp only [ct, catS, List.map_map]
  congr 1
  exact List.map_congr_left fun v _ => cv_cat r v

/-! ## 2. The local variables as a list -/
def setL (l : List Slot) (i : Nat) (x : Slot) : Option (List Slot) := if i < l.length then some (l.set i x) else none
def stoS (l : List Slot) (i : Nat) (v : Value) : Option (List Slot) :=
  match setL l i (.val v) with
  | none => none
  | some l => if v.category = 2 then
      match l[i + 1]? with
      | none => none
      | some (.val old) => if old.category = 2 then (match setL l (i + 2) .unset with | none => none | some l => setL l (i + 1) .second) else setL l (i + 1) .second
      | some _ => setL l (i + 1) .second
    else some l
def stoL (l : List Slot) (i : Nat) (v : Value) : Option (List Slot) :=
  match l[i]? with
  | none => none
  | some .second => (match setL l (i - 1) .unset with | none => none | some l => stoS l i v)
  | some (.val old) => if old.category = 2 then (match setL l (i + 1) .unset with | none => none | some l => stoS l i v) else stoS l i v
  | some .unset => stoS l i v
theorem setL_ok {r : Nat → Addr} {l l' : List Slot} {i : Nat} {x : Slot} (h : setL l i x = some l') : setAt (cl r l) i (cs r x) = some (cl r l') := by
  unfold setL at h
  split at h
  · rename_i hi
    cases h
    simp [setAt, cl, hi, List.map_set]
  · cases h
theorem stoS_ok {r : Nat → Addr} {l l' : List Slot} {i : Nat} {v : Value} (h : stoS l i v = some l') : storeSelf (cl r l) i (cv r v) = some (cl r l') := by
  unfold stoS at h
  unfold storeSelf
  cases h1 : setL l i (.val v) with
  | none => simp [h1] at h
  | some l1 =>
    rw [h1] at h
    have q1 : setAt (cl r l) i (.val (cv r v)) = some (cl r l1) := setL_ok (x := .val v) h1
    simp only [q1, Option.bind_eq_bind, Option.bind_some, cv_cat]
    dsimp only at h
    split at h
    · rename_i hc
      simp only [hc, if_true]
      cases h2 : l1[i + 1]? with
      | none => simp [h2] at h
      | some y =>
        rw [h2] at h
        have q2 : (cl r l1)[i + 1]? = some (cs r y) := cl_get h2
        rw [q2]
        simp only [Option.bind_some]
        cases y with
        | val old =>
          simp only [cs, cv_cat]
          dsimp only at h
          split at h
          · rename_i ho
            simp only [ho, if_true]
            cases h3 : setL l1 (i + 2) .unset with
            | none => simp [h3] at h
            | some l3 =>
              rw [h3] at h
              have q3 : setAt (cl r l1) (i + 2) .unset = some (cl r l3) := setL_ok (x := .unset) h3
              rw [q3]
              exact setL_ok (x := .second) h
          · rename_i ho
            simp only [ho, if_false]
            exact setL_ok (x := .second) h
        | unset => exact setL_ok (x := .second) h
        | second => exact setL_ok (x := .second) h
    · rename_i hc
      simp only [hc, if_false]
      cases h
      rfl
theorem stoL_ok {r : Nat → Addr} {l l' : List Slot} {i : Nat} {v : Value} (h : stoL l i v = some l') : storeLocals (cl r l) i (cv r v) = some (cl r l') := by
  unfold stoL at h
  unfold storeLocals
  cases h1 : l[i]? with
  | none => simp [h1] at h
  | some y =>
    rw [h1] at h
    have q1 : (cl r l)[i]? = some (cs r y) := cl_get h1
    rw [q1]
    simp only [Option.bind_eq_bind, Option.bind_some]
    cases y with
    | unset => exact stoS_ok h
    | second =>
      simp only [cs]
      dsimp only at h
      cases h2 : setL l (i - 1) .unset with
      | none => simp [h2] at h
      | some l2 =>
        rw [h2] at h
        have q2 : setAt (cl r l) (i - 1) .unset = some (cl r l2) := setL_ok (x := .unset) h2
        rw [q2]
        exact stoS_ok h
    | val old =>
      simp only [cs, cv_cat]
      dsimp only at h
      split at h
      · rename_i ho
        simp only [ho, if_true]
        cases h2 : setL l (i + 1) .unset with
        | none => simp [h2] at h
        | some l2 =>
          rw [h2] at h
          have q2 : setAt (cl r l) (i + 1) .unset = some (cl r l2) := setL_ok (x := .unset) h2
          rw [q2]
          exact stoS_ok h
      · rename_i ho
        simp only [ho, if_false]
        exact stoS_ok h

/-! ## 3. One plain instruction as a function -/
abbrev Cf : Type := Nat × List Slot × List Value
def ldI (ls : List Slot) (k : Nat) (st : List Value) (pc : Nat) : Option Cf := match ls[k]? with | some (.val (.int v)) => some (pc, ls, .int v :: st) | _ => none
def ldJ (ls : List Slot) (k : Nat) (st : List Value) (pc : Nat) : Option Cf := match ls[k]? with | some (.val (.long v)) => some (pc, ls, .long v :: st) | _ => none
def ldA (ls : List Slot) (k : Nat) (st : List Value) (pc : Nat) : Option Cf := match ls[k]? with | some (.val v) => if v.isRef then some (pc, ls, v :: st) else none | _ => none
def sI (ls : List Slot) (k : Nat) (st : List Value) (pc : Nat) : Option Cf := match st with | .int x :: t => (match stoL ls k (.int x) with | some l => some (pc, l, t) | none => none) | _ => none
def sJ (ls : List Slot) (k : Nat) (st : List Value) (pc : Nat) : Option Cf := match st with | .long x :: t => (match stoL ls k (.long x) with | some l => some (pc, l, t) | none => none) | _ => none
def sA (ls : List Slot) (k : Nat) (st : List Value) (pc : Nat) : Option Cf := match st with | x :: t => if x.isRef then (match stoL ls k x with | some l => some (pc, l, t) | none => none) else none | _ => none
def un (f : Int32 → Value) (ls : List Slot) (st : List Value) (pc : Nat) : Option Cf := match st with | .int x :: t => some (pc, ls, f x :: t) | _ => none
def unL (f : Int64 → Value) (ls : List Slot) (st : List Value) (pc : Nat) : Option Cf := match st with | .long x :: t => some (pc, ls, f x :: t) | _ => none
def bin (f : Int32 → Int32 → Int32) (ls : List Slot) (st : List Value) (pc : Nat) : Option Cf := match st with | .int y :: .int x :: t => some (pc, ls, .int (f x y) :: t) | _ => none
def binD (f : Int32 → Int32 → Int32) (ls : List Slot) (st : List Value) (pc : Nat) : Option Cf := match st with | .int y :: .int x :: t => if y = 0 then none else some (pc, ls, .int (f x y) :: t) | _ => none
def binL (f : Int64 → Int64 → Value) (ls : List Slot) (st : List Value) (pc : Nat) : Option Cf := match st with | .long y :: .long x :: t => some (pc, ls, f x y :: t) | _ => none
def binLD (f : Int64 → Int64 → Int64) (ls : List Slot) (st : List Value) (pc : Nat) : Option Cf := match st with | .long y :: .long x :: t => if y = 0 then none else some (pc, ls, .long (f x y) :: t) | _ => none
def shf (f : Int64 → Int32 → Int64) (ls : List Slot) (st : List Value) (pc : Nat) : Option Cf := match st with | .int y :: .long x :: t => some (pc, ls, .long (f x y) :: t) | _ => none
def jmp (pc : Nat) (o : Int) (ls : List Slot) (st : List Value) : Option Cf := if 0 ≤ (pc : Int) + o then some (((pc : Int) + o).toNat, ls, st) else none
def ilen : Instr → Nat
  | .iload _ | .lload _ | .aload _ | .istore _ | .lstore _ | .astore _ | .bipush _ => 2
  | .iinc _ _ | .sipush _ | .goto _ | .if_icmp _ _ | .ifCond _ _ | .ifnull _ | .ifnonnull _ => 3
  | _ => 1
def pcore (ins : Instr) (pc : Nat) (ls : List Slot) (st : List Value) : Option Cf :=
  match ins with
  | .iload_n k => ldI ls k.val st (pc + 1)
  | .iload k => ldI ls k st (pc + 2)
  | .lload_n k => ldJ ls k.val st (pc + 1)
  | .lload k => ldJ ls k st (pc + 2)
  | .aload_n k => ldA ls k.val st (pc + 1)
  | .aload k => ldA ls k st (pc + 2)
  | .istore_n k => sI ls k.val st (pc + 1)
  | .istore k => sI ls k st (pc + 2)
  | .lstore_n k => sJ ls k.val st (pc + 1)
  | .lstore k => sJ ls k st (pc + 2)
  | .astore_n k => sA ls k.val st (pc + 1)
  | .astore k => sA ls k st (pc + 2)
  | .iconst i => some (pc + 1, ls, .int (Int32.ofInt i) :: st)
  | .bipush i => some (pc + 2, ls, .int (Int8.ofInt i).toInt32 :: st)
  | .sipush i => some (pc + 3, ls, .int (Int16.ofInt i).toInt32 :: st)
  | .lconst k => some (pc + 1, ls, .long (Int64.ofNat k) :: st)
  | .aconst_null => some (pc + 1, ls, .null :: st)
  | .iinc k c => match ls[k]? with
    | some (.val (.int x)) => (match stoL ls k (.int (x + Int32.ofInt c)) with | some l => some (pc + 3, l, st) | none => none)
    | _ => none
  | .iadd => bin (fun x y => x + y) ls st (pc + 1)
  | .isub => bin (fun x y => x - y) ls st (pc + 1)
  | .imul => bin (fun x y => x * y) ls st (pc + 1)
  | .iand => bin (fun x y => x &&& y) ls st (pc + 1)
  | .ior => bin (fun x y => x ||| y) ls st (pc + 1)
  | .ixor => bin (fun x y => x ^^^ y) ls st (pc + 1)
  | .ishl => bin (fun x y => x <<< (y &&& 31)) ls st (pc + 1)
  | .ishr => bin (fun x y => x >>> (y &&& 31)) ls st (pc + 1)
  | .iushr => bin (fun x y => XT.ushr x y) ls st (pc + 1)
  | .idiv => binD (fun x y => x / y) ls st (pc + 1)
  | .irem => binD (fun x y => x % y) ls st (pc + 1)
  | .ineg => un (fun x => .int (-x)) ls st (pc + 1)
  | .i2l => un (fun x => .long x.toInt64) ls st (pc + 1)
  | .i2b => un (fun x => .int x.toInt8.toInt32) ls st (pc + 1)
  | .i2c => un (fun x => .int x.toUInt32.toUInt16.toUInt32.toInt32) ls st (pc + 1)
  | .i2s => un (fun x => .int x.toInt16.toInt32) ls st (pc + 1)
  | .l2i => unL (fun x => .int x.toInt32) ls st (pc + 1)
  | .lneg => unL (fun x => .long (-x)) ls st (pc + 1)
  | .ladd => binL (fun x y => .long (x + y)) ls st (pc + 1)
  | .lsub => binL (fun x y => .long (x - y)) ls st (pc + 1)
  | .lmul => binL (fun x y => .long (x * y)) ls st (pc + 1)
  | .land => binL (fun x y => .long (x &&& y)) ls st (pc + 1)
  | .lor => binL (fun x y => .long (x ||| y)) ls st (pc + 1)
  | .lxor => binL (fun x y => .long (x ^^^ y)) ls st (pc + 1)
  | .lcmp => binL (fun x y => .int (XT.cmpL x y)) ls st (pc + 1)
  | .ldiv => binLD (fun x y => x / y) ls st (pc + 1)
  | .lrem => binLD (fun x y => x % y) ls st (pc + 1)
  | .lshl => shf (fun x y => x <<< (y.toInt64 &&& 63)) ls st (pc + 1)
  | .lshr => shf (fun x y => x >>> (y.toInt64 &&& 63)) ls st (pc + 1)
  | .lushr => shf (fun x y => XT.ushrL x y) ls st (pc + 1)
  | .dup => match st with | x :: t => if x.category = 1 then some (pc + 1, ls, x :: x :: t) else none | _ => none
  | .dup_x1 => match st with | x :: y :: t => if x.category = 1 then (if y.category = 1 then some (pc + 1, ls, x :: y :: x :: t) else none) else none | _ => none
  | .dup2 => match st with | x :: y :: t => if x.category = 1 then (if y.category = 1 then some (pc + 1, ls, x :: y :: x :: y :: t) else none) else none | _ => none
  | .pop => match st with | x :: t => if x.category = 1 then some (pc + 1, ls, t) else none | _ => none
  | .goto o => jmp pc o ls st
  | .if_icmp cd o => match st with | .int y :: .int x :: t => (match if_icmp.holds cd x y with | true => jmp pc o ls t | false => some (pc + 3, ls, t)) | _ => none
  | .ifCond cd o => match st with | .int x :: t => (match ifCond.holds cd x with | true => jmp pc o ls t | false => some (pc + 3, ls, t)) | _ => none
  | .ifnull o => match st with | .null :: t => jmp pc o ls t | .ref _ :: t => some (pc + 3, ls, t) | _ => none
  | .ifnonnull o => match st with | .ref _ :: t => jmp pc o ls t | .null :: t => some (pc + 3, ls, t) | _ => none
  | _ => none
def pst (ins : Instr) (len pc : Nat) (ls : List Slot) (st : List Value) : Option Cf := if len = ilen ins then pcore ins pc ls st else none

section Inv
variable {ls : List Slot} {st : List Value} {k pc : Nat} {q : Cf}
theorem ldI_v (h : ldI ls k st pc = some q) : ∃ v, ls[k]? = some (.val (.int v)) ∧ q = (pc, ls, .int v :: st) := by
  unfold ldI at h; split at h
  · rename_i v e; cases h; exact ⟨v, e, rfl⟩
  · cases h
theorem ldJ_v (h : ldJ ls k st pc = some q) : ∃ v, ls[k]? = some (.val (.long v)) ∧ q = (pc, ls, .long v :: st) := by
  unfold ldJ at h; split at h
  · rename_i v e; cases h; exact ⟨v, e, rfl⟩
  · cases h
theorem ldA_v (h : ldA ls k st pc = some q) : ∃ v, ls[k]? = some (.val v) ∧ v.isRef = true ∧ q = (pc, ls, v :: st) := by
  unfold ldA at h; split at h
  · rename_i v e; split at h
    · rename_i e2; cases h; exact ⟨v, e, e2, rfl⟩
    · cases h
  · cases h
theorem sI_v (h : sI ls k st pc = some q) : ∃ x t l, st = .int x :: t ∧ stoL ls k (.int x) = some l ∧ q = (pc, l, t) := by
  unfold sI at h; split at h
  · rename_i x t; split at h
    · rename_i l e; cases h; exact ⟨x, t, l, rfl, e, rfl⟩
    · cases h
  · cases h
theorem sJ_v (h : sJ ls k st pc = some q) : ∃ x t l, st = .long x :: t ∧ stoL ls k (.long x) = some l ∧ q = (pc, l, t) := by
  unfold sJ at h; split at h
  · rename_i x t; split at h
    · rename_i l e; cases h; exact ⟨x, t, l, rfl, e, rfl⟩
    · cases h
  · cases h
theorem sA_v (h : sA ls k st pc = some q) : ∃ x t l, st = x :: t ∧ x.isRef = true ∧ stoL ls k x = some l ∧ q = (pc, l, t) := by
  unfold sA at h; split at h
  · rename_i x t; split at h
    · rename_i e0; split at h
      · rename_i l e; cases h; exact ⟨x, t, l, rfl, e0, e, rfl⟩
      · cases h
    · cases h
  · cases h
theorem un_v {f : Int32 → Value} (h : un f ls st pc = some q) : ∃ x t, st = .int x :: t ∧ q = (pc, ls, f x :: t) := by
  unfold un at h; split at h
  · rename_i x t; cases h; exact ⟨x, t, rfl, rfl⟩
  · cases h
theorem unL_v {f : Int64 → Value} (h : unL f ls st pc = some q) : ∃ x t, st = .long x :: t ∧ q = (pc, ls, f x :: t) := by
  unfold unL at h; split at h
  · rename_i x t; cases h; exact ⟨x, t, rfl, rfl⟩
  · cases h
theorem bin_v {f : Int32 → Int32 → Int32} (h : bin f ls st pc = some q) : ∃ x y t, st = .int y :: .int x :: t ∧ q = (pc, ls, .int (f x y) :: t) := by
  unfold bin at h; split at h
  · rename_i y x t; cases h; exact ⟨x, y, t, rfl, rfl⟩
  · cases h
theorem binD_v {f : Int32 → Int32 → Int32} (h : binD f ls st pc = some q) : ∃ x y t, st = .int y :: .int x :: t ∧ y ≠ 0 ∧ q = (pc, ls, .int (f x y) :: t) := by
  unfold binD at h; split at h
  · rename_i y x t; split at h
    · cases h
    · rename_i e; cases h; exact ⟨x, y, t, rfl, e, rfl⟩
  · cases h
theorem binL_v {f : Int64 → Int64 → Value} (h : binL f ls st pc = some q) : ∃ x y t, st = .long y :: .long x :: t ∧ q = (pc, ls, f x y :: t) := by
  unfold binL at h; split at h
  · rename_i y x t; cases h; exact ⟨x, y, t, rfl, rfl⟩
  · cases h
theorem binLD_v {f : Int64 → Int64 → Int64} (h : binLD f ls st pc = some q) : ∃ x y t, st = .long y :: .long x :: t ∧ y ≠ 0 ∧ q = (pc, ls, .long (f x y) :: t) := by
  unfold binLD at h; split at h
  · rename_i y x t; split at h
    · cases h
    · rename_i e; cases h; exact ⟨x, y, t, rfl, e, rfl⟩
  · cases h
theorem shf_v {f : Int64 → Int32 → Int64} (h : shf f ls st pc = some q) : ∃ x y t, st = .int y :: .long x :: t ∧ q = (pc, ls, .long (f x y) :: t) := by
  unfold shf at h; split at h
  · rename_i y x t; cases h; exact ⟨x, y, t, rfl, rfl⟩
  · cases h
theorem jmp_v {o : Int} (h : jmp pc o ls st = some q) : 0 ≤ (pc : Int) + o ∧ q = (((pc : Int) + o).toNat, ls, st) := by
  unfold jmp at h; split at h
  · rename_i e; cases h; exact ⟨e, rfl⟩
  · cases h
end Inv

section Pure
variable {tb : Tables} [Ours tb] {e : Env} {below : List Frame} {T target : State} {m : MethodId} {c : Code}
theorem pcore_ok {r : Nat → Addr} {ins : Instr} {pc : Nat} {ls : List Slot} {st : List Value} {q : Cf} (X : At T m c below) (hx : tb.exec = Jvm.exec) (hd : decode c.code pc = .ok (ins, ilen ins)) (h : pcore ins pc ls st = some q)
    (hr : Steps tb e below (T.setTop (mkF m q.1 (cl r q.2.1) (ct r q.2.2))) target) : Steps tb e below (T.setTop (mkF m pc (cl r ls) (ct r st))) target := by
  cases ins <;> simp only [pcore, reduceCtorEq] at h <;> simp only [ilen] at hd
  case iload_n k => obtain ⟨v, e1, rfl⟩ := ldI_v h; exact XS.iloadN X hx rfl hd (cl_get e1) hr
  case iload k => obtain ⟨v, e1, rfl⟩ := ldI_v h; exact XS.iload X hx rfl hd (cl_get e1) hr
  case lload_n k => obtain ⟨v, e1, rfl⟩ := ldJ_v h; exact XT.lloadN X hx rfl hd (cl_get e1) hr
  case lload k => obtain ⟨v, e1, rfl⟩ := ldJ_v h; exact XT.lload X hx rfl hd (cl_get e1) hr
  case aload_n k => obtain ⟨v, e1, e2, rfl⟩ := ldA_v h; exact XS.aloadN X hx rfl hd (cl_get e1) ((cv_isRef r v).trans e2) hr
  case aload k => obtain ⟨v, e1, e2, rfl⟩ := ldA_v h; exact XS.aload X hx rfl hd (cl_get e1) ((cv_isRef r v).trans e2) hr
  case istore_n k => obtain ⟨x, t, l, rfl, e1, rfl⟩ := sI_v h; exact XS.istoreN X hx rfl hd rfl (stoL_ok (r := r) e1) hr
  case istore k => obtain ⟨x, t, l, rfl, e1, rfl⟩ := sI_v h; exact XS.istore X hx rfl hd rfl (stoL_ok (r := r) e1) hr
  case lstore_n k => obtain ⟨x, t, l, rfl, e1, rfl⟩ := sJ_v h; exact XT.lstoreN X hx rfl hd rfl (stoL_ok (r := r) e1) hr
  case lstore k => obtain ⟨x, t, l, rfl, e1, rfl⟩ := sJ_v h; exact XT.lstore X hx rfl hd rfl (stoL_ok (r := r) e1) hr
  case astore_n k => obtain ⟨x, t, l, rfl, e0, e1, rfl⟩ := sA_v h; exact XS.astoreN X hx rfl hd rfl ((cv_isRef r x).trans e0) (stoL_ok (r := r) e1) hr
  case astore k => obtain ⟨x, t, l, rfl, e0, e1, rfl⟩ := sA_v h; exact XS.astore X hx rfl hd rfl ((cv_isRef r x).trans e0) (stoL_ok (r := r) e1) hr
  case iconst i => cases h; exact XS.iconst X hx rfl hd hr
  case bipush i => cases h; exact XS.bipush X hx rfl hd hr
  case sipush i => cases h; exact XS.sipush X hx rfl hd hr
  case lconst i => cases h; exact XT.lconst X hx rfl hd hr
  case aconst_null => cases h; exact XS.aconstNull X hx rfl hd hr
  case iinc k cst =>
    split at h
    · rename_i x e1
      split at h
      · rename_i l e2
        cases h
        exact XS.iinc X hx rfl hd (cl_get e1) (stoL_ok (r := r) e2) hr
      · cases h
    · cases h
  case iadd => obtain ⟨x, y, t, rfl, rfl⟩ := bin_v h; exact XS.iadd X hx rfl hd rfl hr
  case isub => obtain ⟨x, y, t, rfl, rfl⟩ := bin_v h; exact XS.isub X hx rfl hd rfl hr
  case imul => obtain ⟨x, y, t, rfl, rfl⟩ := bin_v h; exact XS.imul X hx rfl hd rfl hr
  case iand => obtain ⟨x, y, t, rfl, rfl⟩ := bin_v h; exact XS.iand X hx rfl hd rfl hr
  case ior => obtain ⟨x, y, t, rfl, rfl⟩ := bin_v h; exact XT.ior X hx rfl hd rfl hr
  case ixor => obtain ⟨x, y, t, rfl, rfl⟩ := bin_v h; exact XT.ixor X hx rfl hd rfl hr
  case ishl => obtain ⟨x, y, t, rfl, rfl⟩ := bin_v h; exact XT.ishl X hx rfl hd rfl hr
  case ishr => obtain ⟨x, y, t, rfl, rfl⟩ := bin_v h; exact XT.ishr X hx rfl hd rfl hr
  case iushr => obtain ⟨x, y, t, rfl, rfl⟩ := bin_v h; exact XT.iushr X hx rfl hd rfl hr
  case idiv => obtain ⟨x, y, t, rfl, hy, rfl⟩ := binD_v h; exact XS.idiv X hx rfl hd rfl hy hr
  case irem =>
    obtain ⟨x, y, t, rfl, hy, rfl⟩ := binD_v h
    have q : x - x / y * y = x % y := irem_eq_mod x y
    exact XS.irem X hx rfl hd rfl hy (by rw [q]; exact hr)
  case ineg => obtain ⟨x, t, rfl, rfl⟩ := un_v h; exact XS.ineg X hx rfl hd rfl hr
  case i2l => obtain ⟨x, t, rfl, rfl⟩ := un_v h; exact XT.i2l X hx rfl hd rfl hr
  case i2b => obtain ⟨x, t, rfl, rfl⟩ := un_v h; exact XT.i2b X hx rfl hd rfl hr
  case i2c => obtain ⟨x, t, rfl, rfl⟩ := un_v h; exact XT.i2c X hx rfl hd rfl hr
  case i2s => obtain ⟨x, t, rfl, rfl⟩ := un_v h; exact XT.i2s X hx rfl hd rfl hr
  case l2i => obtain ⟨x, t, rfl, rfl⟩ := unL_v h; exact XT.l2i X hx rfl hd rfl hr
  case lneg => obtain ⟨x, t, rfl, rfl⟩ := unL_v h; exact XT.lneg X hx rfl hd rfl hr
  case ladd => obtain ⟨x, y, t, rfl, rfl⟩ := binL_v h; exact XT.ladd X hx rfl hd rfl hr
  case lsub => obtain ⟨x, y, t, rfl, rfl⟩ := binL_v h; exact XT.lsub X hx rfl hd rfl hr
  case lmul => obtain ⟨x, y, t, rfl, rfl⟩ := binL_v h; exact XT.lmul X hx rfl hd rfl hr
  case land => obtain ⟨x, y, t, rfl, rfl⟩ := binL_v h; exact XT.land X hx rfl hd rfl hr
  case lor => obtain ⟨x, y, t, rfl, rfl⟩ := binL_v h; exact XT.lor X hx rfl hd rfl hr
  case lxor => obtain ⟨x, y, t, rfl, rfl⟩ := binL_v h; exact XT.lxor X hx rfl hd rfl hr
  case lcmp => obtain ⟨x, y, t, rfl, rfl⟩ := binL_v h; exact XT.lcmp X hx rfl hd rfl hr
  case ldiv => obtain ⟨x, y, t, rfl, hy, rfl⟩ := binLD_v h; exact XT.ldiv X hx rfl hd rfl hy hr
  case lrem =>
    obtain ⟨x, y, t, rfl, hy, rfl⟩ := binLD_v h
    have q : x - (x / y) * y = x % y := lrem_mod x y
    exact XT.lrem X hx rfl hd rfl hy (by rw [q]; exact hr)
  case lshl => obtain ⟨x, y, t, rfl, rfl⟩ := shf_v h; exact XT.lshl X hx rfl hd rfl hr
  case lshr => obtain ⟨x, y, t, rfl, rfl⟩ := shf_v h; exact XT.lshr X hx rfl hd rfl hr
  case lushr => obtain ⟨x, y, t, rfl, rfl⟩ := shf_v h; exact XT.lushr X hx rfl hd rfl hr
  case dup =>
    split at h
    · rename_i x t
      split at h
      · rename_i hc; cases h; exact XS.dup X hx rfl hd rfl ((cv_cat r x).trans hc) hr
      · cases h
    · cases h
  case dup_x1 =>
    split at h
    · rename_i x y t
      split at h
      · rename_i hc
        split at h
        · rename_i hc'; cases h; exact XT.dupX1 X hx rfl hd rfl ((cv_cat r x).trans hc) ((cv_cat r y).trans hc') hr
        · cases h
      · cases h
    · cases h
  case dup2 =>
    split at h
    · rename_i x y t
      split at h
      · rename_i hc
        split at h
        · rename_i hc'; cases h; exact XT.dup2 X hx rfl hd rfl ((cv_cat r x).trans hc) ((cv_cat r y).trans hc') hr
        · cases h
      · cases h
    · cases h
  case pop =>
    split at h
    · rename_i x t
      split at h
      · rename_i hc; cases h; exact XT.pop X hx rfl hd rfl ((cv_cat r x).trans hc) hr
      · cases h
    · cases h
  case goto o => obtain ⟨h0, rfl⟩ := jmp_v h; exact XS.goto X hx rfl (pc0 := pc) rfl hd h0 rfl hr
  case if_icmp cd o =>
    split at h
    · rename_i y x t
      split at h
      · rename_i hb; obtain ⟨h0, rfl⟩ := jmp_v h; exact XS.icmpYes X hx rfl (pc0 := pc) rfl hd rfl hb h0 rfl hr
      · rename_i hb; cases h; exact XS.icmpNo X hx rfl hd rfl hb hr
    · cases h
  case ifCond cd o =>
    split at h
    · rename_i x t
      split at h
      · rename_i hb; obtain ⟨h0, rfl⟩ := jmp_v h; exact XS.ifYes X hx rfl (pc0 := pc) rfl hd rfl hb h0 rfl hr
      · rename_i hb; cases h; exact XS.ifNo X hx rfl hd rfl hb hr
    · cases h
  case ifnull o =>
    split at h
    · rename_i t; obtain ⟨h0, rfl⟩ := jmp_v h; exact XS.ifnullYes X hx rfl (pc0 := pc) rfl hd rfl h0 rfl hr
    · rename_i i t; cases h; exact XS.ifnullNo X hx rfl hd rfl hr
    · cases h
  case ifnonnull o =>
    split at h
    · rename_i i t; obtain ⟨h0, rfl⟩ := jmp_v h; exact XT.ifnonnullYes X hx rfl (pc0 := pc) rfl hd rfl h0 rfl hr
    · rename_i t; cases h; exact XT.ifnonnullNo X hx rfl hd rfl hr
    · cases h
theorem pst_ok {r : Nat → Addr} {ins : Instr} {len pc : Nat} {ls : List Slot} {st : List Value} {q : Cf} (X : At T m c below) (hx : tb.exec = Jvm.exec) (hd : decode c.code pc = .ok (ins, len)) (h : pst ins len pc ls st = some q)
    (hr : Steps tb e below (T.setTop (mkF m q.1 (cl r q.2.1) (ct r q.2.2))) target) : Steps tb e below (T.setTop (mkF m pc (cl r ls) (ct r st))) target := by
  unfold pst at h
  split at h
  · rename_i e1; subst e1; exact pcore_ok X hx hd h hr
  · cases h
end Pure

/-! ## 4. The heap: the cells that the walk has made, by number -/
abbrev ACell : Type := (Nat × List Value) ⊕ (FieldType × List Value)
abbrev Lay : Type := List (String × List (String × String × String))
def LayOk (Z : State) (a0 : Array Value) (lay : Lay) : Prop := ∀ (ci : Nat) C fs, lay[ci]? = some (C, fs) → (∀ f ∈ fs, Laid Z a0 C f.1 f.2.1 f.2.2 ∧ ∃ ty, parseFieldDescriptor f.2.2 = some ty) ∧
  ∀ (i j : Nat) f g, fs[i]? = some f → fs[j]? = some g → i ≠ j → f.2.1 ≠ g.2.1
def CellOk (Z : State) (lay : Lay) (r : Nat → Addr) (h : Heap) (a : Addr) : ACell → Prop
  | .inl (ci, vs) => ∃ C fs, lay[ci]? = some (C, fs) ∧ Exa Z h a C ∧ fs.length = vs.length ∧ ∀ (i : Nat) f v, fs[i]? = some f → vs[i]? = some v → Fld Z h a f.1 f.2.1 f.2.2 (cv r v)
  | .inr (ty, vs) => ∃ c : Cell, Arr Z h a c ty ∧ c.slots = (ct r vs).toArray ∧ (∀ v ∈ vs, fits ty v = true) ∧ Exa Z h a ("[" ++ ty.toString)
def Hp (Z : State) (lay : Lay) (n0 : Nat) (r : Nat → Addr) (h : Heap) (A : List ACell) : Prop :=
  (∀ (i : Nat) c, A[i]? = some c → n0 ≤ r i ∧ CellOk Z lay r h (r i) c) ∧ (∀ i j, i < A.length → j < A.length → r i = r j → i = j) ∧ n0 ≤ h.size
def prim : FieldType → Bool
  | .boolean | .byte | .char | .short | .int | .long | .float | .double => true
  | _ => false
def okV (N : Nat) : Value → Bool
  | .ref i => decide (i < N)
  | _ => true
def okS (N : Nat) : Slot → Bool
  | .val v => okV N v
  | _ => true
def okC (N : Nat) : ACell → Bool
  | .inl (_, vs) => vs.all (okV N)
  | .inr (ty, vs) => prim ty || vs.all (okV N)
theorem own_gs {A : List ACell} {i : Nat} {c c' : ACell} (h : A[i]? = some c) : (A.set i c')[i]? = some c' := List.getElem?_set_self (List.getElem?_eq_some_iff.mp h).1
theorem own_lt {A : List ACell} {i : Nat} {c : ACell} (h : A[i]? = some c) : i < A.length := (List.getElem?_eq_some_iff.mp h).1
section Agree
variable {N : Nat} {r r' : Nat → Addr}
theorem cv_ag (q : ∀ i, i < N → r' i = r i) {v : Value} (h : okV N v = true) : cv r' v = cv r v := by
  cases v <;> first | rfl | (simp only [okV, decide_eq_true_eq] at h; simp [cv, q _ h])
theorem cs_ag (q : ∀ i, i < N → r' i = r i) {v : Slot} (h : okS N v = true) : cs r' v = cs r v := by
  cases v <;> first | rfl | (simp only [okS] at h; simp [cs, cv_ag q h])
theorem ct_ag (q : ∀ i, i < N → r' i = r i) {st : List Value} (h : st.all (okV N) = true) : ct r' st = ct r st :=
  List.map_congr_left fun v hv => cv_ag q (List.all_eq_true.mp h v hv)
theorem cl_ag (q : ∀ i, i < N → r' i = r i) {ls : List Slot} (h : ls.all (okS N) = true) : cl r' ls = cl r ls := by
  simp only [cl]
  congr 1
  exact List.map_congr_left fun v hv => cs_ag q (List.all_eq_true.mp h v hv)
theorem prim_cv {ty : FieldType} {v : Value} (hp : prim ty = true) (hf : fits ty v = true) : cv r v = v := by
  cases v <;> first | rfl | (cases ty <;> simp_all [prim, fits])
theorem CellOk.ag {Z : State} {lay : Lay} {h : Heap} {a : Addr} (q : ∀ i, i < N → r' i = r i) : ∀ {c : ACell}, okC N c = true → CellOk Z lay r h a c → CellOk Z lay r' h a c
  | .inl (ci, vs), hk, ⟨C, fs, h1, E, h2, h3⟩ => ⟨C, fs, h1, E, h2, fun i f v hf hv => by
      rw [cv_ag q (List.all_eq_true.mp hk v (List.mem_of_getElem? hv))]
      exact h3 i f v hf hv⟩
  | .inr (ty, vs), hk, ⟨c, h1, h2, h3, h5⟩ => ⟨c, h1, by
      rw [h2]
      congr 1
      refine List.map_congr_left fun v hv => ?_
      simp only [okC, Bool.or_eq_true] at hk
      rcases hk with hk | hk
      · rw [prim_cv hk (h3 v hv), prim_cv hk (h3 v hv)]
      · exact (cv_ag q (List.all_eq_true.mp hk v hv)).symm, h3, h5⟩
end Agree
section Move
variable {Z : State} {lay : Lay} {r : Nat → Addr} {h h' : Heap} {a b : Addr} {sl : Nat} {v : Value} {n0 : Nat} {A : List ACell}
theorem CellOk.ext (E : Ext h h') : ∀ {c : ACell}, CellOk Z lay r h a c → CellOk Z lay r h' a c
  | .inl (ci, vs), ⟨C, fs, h1, F, h2, h3⟩ => ⟨C, fs, h1, F.ext E, h2, fun i f v hf hv => (h3 i f v hf hv).ext E⟩
  | .inr (ty, vs), ⟨c, h1, h2, h3, h5⟩ => ⟨c, h1.ext E, h2, h3, h5.ext E⟩
theorem CellOk.other (W : Wr h h' a sl v) (q : b ≠ a) : ∀ {c : ACell}, CellOk Z lay r h b c → CellOk Z lay r h' b c
  | .inl (ci, vs), ⟨C, fs, h1, F, h2, h3⟩ => ⟨C, fs, h1, F.wr W, h2, fun i f v hf hv => (h3 i f v hf hv).other W (Or.inl q)⟩
  | .inr (ty, vs), ⟨c, h1, h2, h3, h5⟩ => ⟨c, h1.other W q, h2, h3, h5.wr W⟩
theorem CellOk.lt : ∀ {c : ACell}, CellOk Z lay r h a c → a < h.size
  | .inl _, ⟨_, _, _, F, _⟩ => F.lt
  | .inr _, ⟨_, F, _⟩ => F.lt
theorem Hp.ext (E : Ext h h') (H : Hp Z lay n0 r h A) : Hp Z lay n0 r h' A := ⟨fun i c hc => ⟨(H.1 i c hc).1, (H.1 i c hc).2.ext E⟩, H.2.1, Nat.le_trans H.2.2 E.1⟩
theorem Hp.lt (H : Hp Z lay n0 r h A) {i : Nat} (hi : i < A.length) : r i < h.size := (H.1 i _ (List.getElem?_eq_getElem hi)).2.lt
/-- a cell is made: it bears the next number -/
theorem Hp.push (H : Hp Z lay n0 r h A) (E : Ext h h') {c : ACell} (hA : A.all (okC A.length) = true) (hc : CellOk Z lay (fun i => if i = A.length then h.size else r i) h' h.size c) :
    Hp Z lay n0 (fun i => if i = A.length then h.size else r i) h' (A ++ [c]) := by
  have q : ∀ i, i < A.length → (fun i => if i = A.length then h.size else r i) i = r i := fun i hi => if_neg (Nat.ne_of_lt hi)
  refine ⟨fun i x hx => ?_, fun i j hi hj e => ?_, Nat.le_trans H.2.2 E.1⟩
  · by_cases hi : i = A.length
    · subst hi
      simp at hx
      subst hx
      simp only [if_true]
      exact ⟨H.2.2, hc⟩
    · have hl : i < A.length := by
        have := (List.getElem?_eq_some_iff.mp hx).1
        simp at this
        omega
      rw [List.getElem?_append_left hl] at hx
      simp only [hi, if_false]
      obtain ⟨h1, h2⟩ := H.1 i x hx
      exact ⟨h1, (h2.ext E).ag q (List.all_eq_true.mp hA x (List.mem_of_getElem? hx))⟩
  · simp at hi hj
    by_cases h1 : i = A.length <;> by_cases h2 : j = A.length
    · omega
    · have e' : h.size = r j := by simpa [h1, h2] using e
      have hlt := H.lt (i := j) (by omega)
      rw [← e'] at hlt
      exact absurd hlt (Nat.lt_irrefl _)
    · have e' : r i = h.size := by simpa [h1, h2] using e
      have hlt := H.lt (i := i) (by omega)
      rw [e'] at hlt
      exact absurd hlt (Nat.lt_irrefl _)
    · have e' : r i = r j := by simpa [h1, h2] using e
      exact H.2.1 i j (by omega) (by omega) e'
/-- a cell is written -/
theorem Hp.set (H : Hp Z lay n0 r h A) {i : Nat} {x y : ACell} (hx : A[i]? = some x) (W : Wr h h' (r i) sl v) (hy : CellOk Z lay r h' (r i) y) : Hp Z lay n0 r h' (A.set i y) := by
  have hi := (List.getElem?_eq_some_iff.mp hx).1
  refine ⟨fun j z hz => ?_, fun j k hj hk e => H.2.1 j k (by simpa using hj) (by simpa using hk) e, by rw [W.size]; exact H.2.2⟩
  by_cases e : j = i
  · subst e
    rw [List.getElem?_set_self hi] at hz
    cases hz
    exact ⟨(H.1 j x hx).1, hy⟩
  · rw [List.getElem?_set_ne (Ne.symm e)] at hz
    refine ⟨(H.1 j z hz).1, (H.1 j z hz).2.other W fun q => e (H.2.1 j i (List.getElem?_eq_some_iff.mp hz).1 hi q)⟩
theorem CellOk.put {a0 : Array Value} (hL : LayOk Z a0 lay) {C : String} {ci : Nat} {vs : List Value} {fs : List (String × String × String)} {k : Nat} {f : String × String × String} {w : Value} (hC : lay[ci]? = some (C, fs)) (hf : fs[k]? = some f) (W : Wr h h' a (RoadKit.slotOf Z f.1 f.2.1 f.2.2) (cv r w))
    (H : CellOk Z lay r h a (.inl (ci, vs))) : CellOk Z lay r h' a (.inl (ci, vs.set k w)) := by
  obtain ⟨C', fs', h1, F, h2, h3⟩ := H
  cases hC.symm.trans h1
  have hk : k < fs.length := (List.getElem?_eq_some_iff.mp hf).1
  have hkv : k < vs.length := h2 ▸ hk
  refine ⟨C, fs, hC, F.wr W, by simpa using h2, fun i g u hg hu => ?_⟩
  by_cases e : i = k
  · subst e
    cases hf.symm.trans hg
    rw [List.getElem?_set_self hkv] at hu
    cases hu
    exact (h3 i f _ hf (List.getElem?_eq_getElem hkv)).same W
  · rw [List.getElem?_set_ne (Ne.symm e)] at hu
    obtain ⟨q1, q2⟩ := hL ci C fs hC
    obtain ⟨l1, t1, p1⟩ := q1 g (List.mem_of_getElem? hg)
    obtain ⟨l2, t2, p2⟩ := q1 f (List.mem_of_getElem? hf)
    exact (h3 i g u hg hu).other W (Or.inr (slot_ne l1 l2 (q2 i k g f hg hf e) p1 p2))
theorem CellOk.stA {ty : FieldType} {vs : List Value} {j : Nat} {w : Value} (hw : fits ty w = true) (H : CellOk Z lay r h a (.inr (ty, vs))) (W : Wr h h' a j (cv r w)) : CellOk Z lay r h' a (.inr (ty, vs.set j w)) := by
  obtain ⟨c, h1, h2, h3, h5⟩ := H
  refine ⟨_, h1.same W, ?_, fun v hv => ?_, h5.wr W⟩
  · simp [Cell.setSlot, h2, ct, List.map_set]
  · rcases List.mem_or_eq_of_mem_set hv with q | q
    · exact h3 v q
    · rw [q]; exact hw
end Move

/-! ## 5. Where a walk stands; that from there it ends well -/
abbrev Dt : Type := List (Nat × Instr × Nat)
def Cx (Z : State) (own : String) (D : Dt) (maxL : Nat) (ret : Option FieldType) (nm : String) (p : Program) (s : State) (m : MethodId) (meth : Method) (c : Code) : Prop :=
  p.tables.exec = Jvm.exec ∧ Z.Warmed39 s.vm ∧ s.vm.findClass own = some m.cls ∧ meth.sig.returnType = ret ∧ meth.locks = false ∧ (∀ q ∈ D, decode c.code q.1 = .ok q.2) ∧ c.maxLocals = maxL ∧ meth.name = nm
theorem Cx.dec {Z : State} {own : String} {D : Dt} {maxL : Nat} {ret : Option FieldType} {nm : String} {p : Program} {s : State} {m : MethodId} {meth : Method} {c : Code} (C : Cx Z own D maxL ret nm p s m meth c) {jx pc len : Nat} {ins : Instr} (hl : D[jx]? = some (pc, ins, len)) : decode c.code pc = .ok (ins, len) := by
  have h := C.2.2.2.2.2.1 (pc, ins, len) (List.mem_of_getElem? hl)
  dsimp only at h
  exact h
def Based (w : Bool) (s s' : State) (k : Nat) : Prop := match w with
  | false => s' = s
  | true => ∃ vm0 k0, s' = s.setVm vm0 ∧ s.Since vm0 k0 ∧ k0 ≤ k
def EndK (w : Bool) (s : State) (o : Outcome) (t : State) (L : List Loc) (k n : Nat) : Prop := match w with
  | false => FrameEnd s o t L k n
  | true => ReturnedEndW s o t L k n
def Fin (w : Bool) (Z : State) (n0 : Nat) (lay : Lay) (R : Room) (Φ : Option Value → List ACell → Prop) (N : Nat) (r : Nat → Addr) (p : Program) (e : Env) (below : List Frame) (s U : State) : Prop :=
  ∃ (s₂ : State) (v : Option Value) (L : List Loc) (A' : List ACell) (r' : Nat → Addr), Steps p.tables e below U s₂ ∧ s₂.status = .running ∧ Ended s₂ below (.returned (v.map (cv r'))) ∧ EndK w s (.returned (v.map (cv r'))) s₂ L R.cells R.slots ∧ Fr n0 L ∧
    Hp Z lay n0 r' s₂.heap A' ∧ ((∀ i, i < N → r' i = r i) ∧ N ≤ A'.length) ∧ Φ v A'
theorem Fin.back {w : Bool} {Z : State} {n0 : Nat} {lay : Lay} {R : Room} {Φ : Option Value → List ACell → Prop} {N N' : Nat} {r r' : Nat → Addr} {p : Program} {e : Env} {below : List Frame} {s U U' : State} (h : Fin w Z n0 lay R Φ N' r' p e below s U')
    (st : ∀ t, Steps p.tables e below U' t → Steps p.tables e below U t) (hN : N ≤ N') (hr : ∀ i, i < N → r' i = r i) : Fin w Z n0 lay R Φ N r p e below s U := by
  obtain ⟨s₂, v, L, A', r'', h1, h2, h3, h4, h5, h6, h7, h8⟩ := h
  exact ⟨s₂, v, L, A', r'', st _ h1, h2, h3, h4, h5, h6, ⟨fun i hi => (h7.1 i (Nat.lt_of_lt_of_le hi hN)).trans (hr i hi), Nat.le_trans hN h7.2⟩, h8⟩
/-- from pc, with these variables, this stack and these cells (so many cells and slots booked so far) the body comes to its end, and Φ holds of what it returns and of the cells then -/
def WP (w : Bool) (l : Launch) (Z : State) (n0 : Nat) (lay : Lay) (own : String) (D : Dt) (maxL : Nat) (ret : Option FieldType) (nm : String) (R : Room)
    (pc : Nat) (ls : List Slot) (st : List Value) (A : List ACell) (cells slots : Nat) (Φ : Option Value → List ACell → Prop) : Prop :=
  ∀ (p : Program) (e : Env) (s s' : State) (m : MethodId) (args : Array Value) (below : List Frame) (meth : Method) (c : Code) (T : State) (locs : List Loc) (r : Nat → Addr),
    Stand p l e R s' m args below meth c T locs cells slots → Cx Z own D maxL ret nm p s' m meth c → Fr n0 locs → Hp Z lay n0 r T.heap A → Based w s s' T.heap.size →
    Fin w Z n0 lay R Φ A.length r p e below s (T.setTop (mkF m pc (cl r ls) (ct r st)))
/-- what a call leaves, over the true heap -/
def QC (Z : State) (lay : Lay) (n0 : Nat) (r : Nat → Addr) (N : Nat) (Ψ : Option Value → List ACell → Prop) (v : Option Value) (h : Heap) (L : List Loc) : Prop :=
  Fr n0 L ∧ ∃ v' A' r', v = v'.map (cv r') ∧ Hp Z lay n0 r' h A' ∧ ((∀ i, i < N → r' i = r i) ∧ N ≤ A'.length) ∧ Ψ v' A'
/-- the contract of a method, at these arguments and these cells -/
def MT (w : Bool) (l : Launch) (Z : State) (n0 : Nat) (lay : Lay) (y : MethodName) (code : ByteArray) (maxL : Nat) (ret : Option FieldType) (ws : List Jvm.Cond) (R : Room) (as : List Value) (A : List ACell) (Φ : Option Value → List ACell → Prop) : Prop :=
  ∀ (r : Nat → Addr) (h : Heap), Hp Z lay n0 r h A → MetFree l y (head1 (Jvm.Cond.code y code maxL ret :: ws) R) (fun a U => a = (ct r as).toArray ∧ Z.Warmed39 U.vm ∧ U.heap = h) (fun _ _ _ _ _ => True)
    (fun _ U o U' => ∃ v L, o = .returned v ∧ QC Z lay n0 r A.length Φ v U'.heap L ∧ EndK w U o U' L R.cells R.slots)
theorem MT.nar {l : Launch} {Z : State} {n0 : Nat} {lay : Lay} {y : MethodName} {code : ByteArray} {maxL : Nat} {ret : Option FieldType} {ws : List Jvm.Cond} {R : Room} {as : List Value} {A : List ACell} {Φ : Option Value → List ACell → Prop} (h : MT false l Z n0 lay y code maxL ret ws R as A Φ) (r : Nat → Addr) (hp : Heap) (H : Hp Z lay n0 r hp A) :
    MetFree l y (head1 (Jvm.Cond.code y code maxL ret :: ws) R) (fun a U => a = (ct r as).toArray ∧ Z.Warmed39 U.vm ∧ U.heap = hp) (fun _ _ _ _ _ => True) (fun _ U o U' => ∃ v L, o = .returned v ∧ QC Z lay n0 r A.length Φ v U'.heap L ∧ FrameEnd U o U' L R.cells R.slots) := h r hp H
theorem MT.wid {l : Launch} {Z : State} {n0 : Nat} {lay : Lay} {y : MethodName} {code : ByteArray} {maxL : Nat} {ret : Option FieldType} {ws : List Jvm.Cond} {R : Room} {as : List Value} {A : List ACell} {Φ : Option Value → List ACell → Prop} (h : MT true l Z n0 lay y code maxL ret ws R as A Φ) (r : Nat → Addr) (hp : Heap) (H : Hp Z lay n0 r hp A) :
    MetFree l y (head1 (Jvm.Cond.code y code maxL ret :: ws) R) (fun a U => a = (ct r as).toArray ∧ Z.Warmed39 U.vm ∧ U.heap = hp) (fun _ _ _ _ _ => True) (fun _ U o U' => ∃ v L, o = .returned v ∧ QC Z lay n0 r A.length Φ v U'.heap L ∧ ReturnedEndW U o U' L R.cells R.slots) := h r hp H
def entL (as : List Value) (maxL : Nat) : List Slot :=
  let f := as.flatMap fun (v : Value) => if v.category = 2 then [Slot.val v, Slot.second] else [Slot.val v]
  f ++ List.replicate (maxL - f.length) .unset
theorem ent_ok (r : Nat → Addr) (as : List Value) (maxL : Nat) : argsToLocals (ct r as).toArray maxL = cl r (entL as maxL) := by
  have key : ∀ (as : List Value) (acc : List Slot), List.foldl (fun (acc : Array Slot) (v : Value) => if v.category = 2 then (acc.push (.val v)).push .second else acc.push (.val v)) (acc.map (cs r)).toArray (ct r as)
      = ((acc ++ as.flatMap fun (v : Value) => if v.category = 2 then [Slot.val v, Slot.second] else [Slot.val v]).map (cs r)).toArray := by
    intro as
    induction as with
    | nil => intro acc; simp [ct]
    | cons v as ih =>
      intro acc
      simp only [ct, List.map_cons, List.foldl_cons, cv_cat]
      by_cases hc : v.category = 2
      · have := ih (acc ++ [.val v, .second])
        simp only [ct] at this
        simp only [hc, if_true, List.flatMap_cons]
        rw [← List.append_assoc, ← this]
        congr 1
        simp [cs]
      · have := ih (acc ++ [.val v])
        simp only [ct] at this
        simp only [hc, if_false, List.flatMap_cons]
        rw [← List.append_assoc, ← this]
        congr 1
        simp [cs]
  have k0 := key as []
  simp only [List.map_nil, List.nil_append] at k0
  unfold argsToLocals entL
  simp only [List.size_toArray, List.foldl_toArray', k0, cl]
  simp [cs]

/-! ## 6. The rules -/
section Rules
variable {w : Bool} {l : Launch} {Z : State} {a0 : Array Value} {n0 : Nat} {lay : Lay} {own : String} {D : Dt} {maxL : Nat} {ret : Option FieldType} {nm : String} {R : Room}
  {pc jx : Nat} {ls : List Slot} {st : List Value} {A : List ACell} {cells slots : Nat} {Φ : Option Value → List ACell → Prop}
theorem W_enter {y : MethodName} {code : ByteArray} {ws : List Jvm.Cond} {as : List Value} (hpn : plainFor y = true) (hD : ∀ q ∈ D, decode code q.1 = .ok q.2) (h : WP w l Z n0 lay y.cls D maxL ret y.name R 0 (entL as maxL) [] A 0 0 Φ) :
    MT w l Z n0 lay y code maxL ret ws R as A Φ := by
  intro r hh HP
  refine MetFree.of_bodySF hpn hisR ?_
  intro p e s m args below meth c s₁ Bd hml hP hK
  obtain ⟨rfl, hZ, hh'⟩ := hP
  have X0 : Stand p l e R s m _ below meth c s₁ [] 0 0 := Stand.of_body Bd
  have e0 : s₁.heap = hh := by rw [← hh', Bd.state]; rfl
  have hby := Bd.bytes
  have C0 : Cx Z y.cls D maxL ret y.name p s m meth c := ⟨Bd.exec, hZ, findClass_of_methodNamed Bd.named, Bd.returns, Bd.notSynchronized, fun q hq => hb hby (hD q hq), hml, (name_of_methodNamed Bd.named Bd.method).1⟩
  obtain ⟨s₂, v, L, A', r', h1, h2, h3, h4, h5, h6, h7, h8⟩ := h p e s s m _ below meth c s₁ [] r X0 C0 (Fr.nil n0) (e0 ▸ HP) (by cases w; exact rfl; exact ⟨s.vm, 0, rfl, (State.WarmedH.refl s).since 0, Nat.zero_le _⟩)
  have hE : entryFrame m (ct r as).toArray maxL = mkF m 0 (cl r (entL as maxL)) (ct r []) := by unfold entryFrame; rw [ent_ok]; rfl
  exact ⟨s₂, _, castTop hE h1, h2, h3, _, L, rfl, ⟨h5, v, A', r', rfl, h6, h7, h8⟩, h4⟩
theorem W_pure {ins : Instr} {len pc' : Nat} {ls' : List Slot} {st' : List Value} (hl : D[jx]? = some (pc, ins, len)) (h : pst ins len pc ls st = some (pc', ls', st')) (hr : WP w l Z n0 lay own D maxL ret nm R pc' ls' st' A cells slots Φ) : WP w l Z n0 lay own D maxL ret nm R pc ls st A cells slots Φ :=
  fun p e s s' m args below meth c T locs r X C N H B => (hr p e s s' m args below meth c T locs r X C N H B).back (fun t ht => pst_ok X.here C.1 (C.dec hl) h ht) (Nat.le_refl _) (fun _ _ => rfl)
def srun : Dt → Nat → Nat → List Slot → List Value → Option Cf
  | _, 0, pc, ls, st => some (pc, ls, st)
  | [], _ + 1, _, _, _ => none
  | (k, ins, len) :: D, n + 1, pc, ls, st => if k = pc then (match pst ins len k ls st with | some (pc', ls', st') => srun D n pc' ls' st' | none => none) else none
theorem W_srun (n : Nat) {E : Dt} {pc' : Nat} {ls' : List Slot} {st' : List Value} (hE : ∀ q ∈ E, q ∈ D) (h : srun E n pc ls st = some (pc', ls', st')) (hr : WP w l Z n0 lay own D maxL ret nm R pc' ls' st' A cells slots Φ) : WP w l Z n0 lay own D maxL ret nm R pc ls st A cells slots Φ := by
  induction n generalizing pc ls st E with
  | zero =>
    have h' : some (pc, ls, st) = some (pc', ls', st') := by cases E <;> exact h
    cases h'; exact hr
  | succ n ih =>
    cases E with
    | nil => cases h
    | cons q E =>
      obtain ⟨k, ins, len⟩ := q
      simp only [srun] at h
      split at h
      · rename_i e0
        subst e0
        split at h
        · rename_i a b d e2
          obtain ⟨jx, hj⟩ := List.getElem?_of_mem (hE _ (List.mem_cons_self ..))
          exact W_pure hj e2 (ih (fun q hq => hE q (List.mem_cons_of_mem _ hq)) h)
        · cases h
      · cases h
/-- n plain instructions, from the jx-th row of the table -/
theorem W_run (jx n : Nat) {pc' : Nat} {ls' : List Slot} {st' : List Value} (h : srun (D.drop jx) n pc ls st = some (pc', ls', st')) (hr : WP w l Z n0 lay own D maxL ret nm R pc' ls' st' A cells slots Φ) : WP w l Z n0 lay own D maxL ret nm R pc ls st A cells slots Φ :=
  W_srun n (fun _ hq => List.mem_of_mem_drop hq) h hr
theorem W_icmp {cd : ClassFile.Cond} {o : Int} {x y : Int32} {pc' : Nat} (hl : D[jx]? = some (pc, .if_icmp cd o, 3)) (ho : 0 ≤ (pc : Int) + o) (hp : ((pc : Int) + o).toNat = pc') (h1 : if_icmp.holds cd x y = true → WP w l Z n0 lay own D maxL ret nm R pc' ls st A cells slots Φ)
    (h2 : if_icmp.holds cd x y = false → WP w l Z n0 lay own D maxL ret nm R (pc + 3) ls st A cells slots Φ) : WP w l Z n0 lay own D maxL ret nm R pc ls (.int y :: .int x :: st) A cells slots Φ := by
  subst hp
  cases hb : if_icmp.holds cd x y
  · exact W_pure hl (by simp [pst, ilen, pcore, hb]) (h2 hb)
  · exact W_pure hl (by simp [pst, ilen, pcore, hb, jmp, ho]) (h1 hb)
theorem W_if {cd : ClassFile.Cond} {o : Int} {x : Int32} {pc' : Nat} (hl : D[jx]? = some (pc, .ifCond cd o, 3)) (ho : 0 ≤ (pc : Int) + o) (hp : ((pc : Int) + o).toNat = pc') (h1 : ifCond.holds cd x = true → WP w l Z n0 lay own D maxL ret nm R pc' ls st A cells slots Φ)
    (h2 : ifCond.holds cd x = false → WP w l Z n0 lay own D maxL ret nm R (pc + 3) ls st A cells slots Φ) : WP w l Z n0 lay own D maxL ret nm R pc ls (.int x :: st) A cells slots Φ := by
  subst hp
  cases hb : ifCond.holds cd x
  · exact W_pure hl (by simp [pst, ilen, pcore, hb]) (h2 hb)
  · exact W_pure hl (by simp [pst, ilen, pcore, hb, jmp, ho]) (h1 hb)
theorem h_lt {x y : Int32} : (if_icmp.holds .lt x y = true ↔ x < y) ∧ (if_icmp.holds .lt x y = false ↔ ¬ x < y) := by
  by_cases h : x < y <;> simp [if_icmp.holds, h, Int32.not_lt, Int32.not_le, Int32.le_iff_toInt_le, Int32.lt_iff_toInt_lt] <;> (simp only [Int32.lt_iff_toInt_lt] at h; omega)
theorem h_ge {x y : Int32} : (if_icmp.holds .ge x y = true ↔ ¬ x < y) ∧ (if_icmp.holds .ge x y = false ↔ x < y) := by
  by_cases h : x < y <;> simp [if_icmp.holds, h, Int32.not_lt, Int32.not_le, Int32.le_iff_toInt_le, Int32.lt_iff_toInt_lt] <;> (simp only [Int32.lt_iff_toInt_lt] at h; omega)
theorem h_gt {x y : Int32} : (if_icmp.holds .gt x y = true ↔ y < x) ∧ (if_icmp.holds .gt x y = false ↔ ¬ y < x) := by
  by_cases h : y < x <;> simp [if_icmp.holds, h, Int32.not_lt, Int32.not_le, Int32.le_iff_toInt_le, Int32.lt_iff_toInt_lt] <;> (simp only [Int32.lt_iff_toInt_lt] at h; omega)
theorem h_le {x y : Int32} : (if_icmp.holds .le x y = true ↔ ¬ y < x) ∧ (if_icmp.holds .le x y = false ↔ y < x) := by
  by_cases h : y < x <;> simp [if_icmp.holds, h, Int32.not_lt, Int32.not_le, Int32.le_iff_toInt_le, Int32.lt_iff_toInt_lt] <;> (simp only [Int32.lt_iff_toInt_lt] at h; omega)
theorem h_eq {x y : Int32} : (if_icmp.holds .eq x y = true ↔ x = y) ∧ (if_icmp.holds .eq x y = false ↔ ¬ x = y) := by
  by_cases h : x = y <;> simp [if_icmp.holds, h, Int32.not_lt, Int32.not_le, Int32.le_iff_toInt_le, Int32.lt_iff_toInt_lt] <;> (simp only [Int32.lt_iff_toInt_lt] at h; omega)
theorem h_ne {x y : Int32} : (if_icmp.holds .ne x y = true ↔ ¬ x = y) ∧ (if_icmp.holds .ne x y = false ↔ x = y) := by
  by_cases h : x = y <;> simp [if_icmp.holds, h, Int32.not_lt, Int32.not_le, Int32.le_iff_toInt_le, Int32.lt_iff_toInt_lt] <;> (simp only [Int32.lt_iff_toInt_lt] at h; omega)
theorem W_lt {o : Int} {x y : Int32} {pc' : Nat} (hl : D[jx]? = some (pc, .if_icmp .lt o, 3)) (ho : 0 ≤ (pc : Int) + o) (hp : ((pc : Int) + o).toNat = pc') (h1 : x < y → WP w l Z n0 lay own D maxL ret nm R pc' ls st A cells slots Φ)
    (h2 : ¬ x < y → WP w l Z n0 lay own D maxL ret nm R (pc + 3) ls st A cells slots Φ) : WP w l Z n0 lay own D maxL ret nm R pc ls (.int y :: .int x :: st) A cells slots Φ :=
  W_icmp hl ho hp (fun h => h1 (h_lt.1.mp h)) (fun h => h2 (h_lt.2.mp h))
theorem W_ge {o : Int} {x y : Int32} {pc' : Nat} (hl : D[jx]? = some (pc, .if_icmp .ge o, 3)) (ho : 0 ≤ (pc : Int) + o) (hp : ((pc : Int) + o).toNat = pc') (h1 : ¬ x < y → WP w l Z n0 lay own D maxL ret nm R pc' ls st A cells slots Φ)
    (h2 : x < y → WP w l Z n0 lay own D maxL ret nm R (pc + 3) ls st A cells slots Φ) : WP w l Z n0 lay own D maxL ret nm R pc ls (.int y :: .int x :: st) A cells slots Φ :=
  W_icmp hl ho hp (fun h => h1 (h_ge.1.mp h)) (fun h => h2 (h_ge.2.mp h))
theorem W_gt {o : Int} {x y : Int32} {pc' : Nat} (hl : D[jx]? = some (pc, .if_icmp .gt o, 3)) (ho : 0 ≤ (pc : Int) + o) (hp : ((pc : Int) + o).toNat = pc') (h1 : y < x → WP w l Z n0 lay own D maxL ret nm R pc' ls st A cells slots Φ)
    (h2 : ¬ y < x → WP w l Z n0 lay own D maxL ret nm R (pc + 3) ls st A cells slots Φ) : WP w l Z n0 lay own D maxL ret nm R pc ls (.int y :: .int x :: st) A cells slots Φ :=
  W_icmp hl ho hp (fun h => h1 (h_gt.1.mp h)) (fun h => h2 (h_gt.2.mp h))
theorem W_le {o : Int} {x y : Int32} {pc' : Nat} (hl : D[jx]? = some (pc, .if_icmp .le o, 3)) (ho : 0 ≤ (pc : Int) + o) (hp : ((pc : Int) + o).toNat = pc') (h1 : ¬ y < x → WP w l Z n0 lay own D maxL ret nm R pc' ls st A cells slots Φ)
    (h2 : y < x → WP w l Z n0 lay own D maxL ret nm R (pc + 3) ls st A cells slots Φ) : WP w l Z n0 lay own D maxL ret nm R pc ls (.int y :: .int x :: st) A cells slots Φ :=
  W_icmp hl ho hp (fun h => h1 (h_le.1.mp h)) (fun h => h2 (h_le.2.mp h))
theorem W_eq {o : Int} {x y : Int32} {pc' : Nat} (hl : D[jx]? = some (pc, .if_icmp .eq o, 3)) (ho : 0 ≤ (pc : Int) + o) (hp : ((pc : Int) + o).toNat = pc') (h1 : x = y → WP w l Z n0 lay own D maxL ret nm R pc' ls st A cells slots Φ)
    (h2 : ¬ x = y → WP w l Z n0 lay own D maxL ret nm R (pc + 3) ls st A cells slots Φ) : WP w l Z n0 lay own D maxL ret nm R pc ls (.int y :: .int x :: st) A cells slots Φ :=
  W_icmp hl ho hp (fun h => h1 (h_eq.1.mp h)) (fun h => h2 (h_eq.2.mp h))
theorem W_ne {o : Int} {x y : Int32} {pc' : Nat} (hl : D[jx]? = some (pc, .if_icmp .ne o, 3)) (ho : 0 ≤ (pc : Int) + o) (hp : ((pc : Int) + o).toNat = pc') (h1 : ¬ x = y → WP w l Z n0 lay own D maxL ret nm R pc' ls st A cells slots Φ)
    (h2 : x = y → WP w l Z n0 lay own D maxL ret nm R (pc + 3) ls st A cells slots Φ) : WP w l Z n0 lay own D maxL ret nm R pc ls (.int y :: .int x :: st) A cells slots Φ :=
  W_icmp hl ho hp (fun h => h1 (h_ne.1.mp h)) (fun h => h2 (h_ne.2.mp h))
theorem W_iflt {o : Int} {x : Int32} {pc' : Nat} (hl : D[jx]? = some (pc, .ifCond .lt o, 3)) (ho : 0 ≤ (pc : Int) + o) (hp : ((pc : Int) + o).toNat = pc') (h1 : x < 0 → WP w l Z n0 lay own D maxL ret nm R pc' ls st A cells slots Φ)
    (h2 : ¬ x < 0 → WP w l Z n0 lay own D maxL ret nm R (pc + 3) ls st A cells slots Φ) : WP w l Z n0 lay own D maxL ret nm R pc ls (.int x :: st) A cells slots Φ :=
  W_if hl ho hp (fun h => h1 (h_lt.1.mp (by rw [if0] at h; exact h))) (fun h => h2 (h_lt.2.mp (by rw [if0] at h; exact h)))
theorem W_ifge {o : Int} {x : Int32} {pc' : Nat} (hl : D[jx]? = some (pc, .ifCond .ge o, 3)) (ho : 0 ≤ (pc : Int) + o) (hp : ((pc : Int) + o).toNat = pc') (h1 : ¬ x < 0 → WP w l Z n0 lay own D maxL ret nm R pc' ls st A cells slots Φ)
    (h2 : x < 0 → WP w l Z n0 lay own D maxL ret nm R (pc + 3) ls st A cells slots Φ) : WP w l Z n0 lay own D maxL ret nm R pc ls (.int x :: st) A cells slots Φ :=
  W_if hl ho hp (fun h => h1 (h_ge.1.mp (by rw [if0] at h; exact h))) (fun h => h2 (h_ge.2.mp (by rw [if0] at h; exact h)))
theorem W_ifgt {o : Int} {x : Int32} {pc' : Nat} (hl : D[jx]? = some (pc, .ifCond .gt o, 3)) (ho : 0 ≤ (pc : Int) + o) (hp : ((pc : Int) + o).toNat = pc') (h1 : 0 < x → WP w l Z n0 lay own D maxL ret nm R pc' ls st A cells slots Φ)
    (h2 : ¬ 0 < x → WP w l Z n0 lay own D maxL ret nm R (pc + 3) ls st A cells slots Φ) : WP w l Z n0 lay own D maxL ret nm R pc ls (.int x :: st) A cells slots Φ :=
  W_if hl ho hp (fun h => h1 (h_gt.1.mp (by rw [if0] at h; exact h))) (fun h => h2 (h_gt.2.mp (by rw [if0] at h; exact h)))
theorem W_ifle {o : Int} {x : Int32} {pc' : Nat} (hl : D[jx]? = some (pc, .ifCond .le o, 3)) (ho : 0 ≤ (pc : Int) + o) (hp : ((pc : Int) + o).toNat = pc') (h1 : ¬ 0 < x → WP w l Z n0 lay own D maxL ret nm R pc' ls st A cells slots Φ)
    (h2 : 0 < x → WP w l Z n0 lay own D maxL ret nm R (pc + 3) ls st A cells slots Φ) : WP w l Z n0 lay own D maxL ret nm R pc ls (.int x :: st) A cells slots Φ :=
  W_if hl ho hp (fun h => h1 (h_le.1.mp (by rw [if0] at h; exact h))) (fun h => h2 (h_le.2.mp (by rw [if0] at h; exact h)))
theorem W_ifeq {o : Int} {x : Int32} {pc' : Nat} (hl : D[jx]? = some (pc, .ifCond .eq o, 3)) (ho : 0 ≤ (pc : Int) + o) (hp : ((pc : Int) + o).toNat = pc') (h1 : x = 0 → WP w l Z n0 lay own D maxL ret nm R pc' ls st A cells slots Φ)
    (h2 : ¬ x = 0 → WP w l Z n0 lay own D maxL ret nm R (pc + 3) ls st A cells slots Φ) : WP w l Z n0 lay own D maxL ret nm R pc ls (.int x :: st) A cells slots Φ :=
  W_if hl ho hp (fun h => h1 (h_eq.1.mp (by rw [if0] at h; exact h))) (fun h => h2 (h_eq.2.mp (by rw [if0] at h; exact h)))
theorem W_ifne {o : Int} {x : Int32} {pc' : Nat} (hl : D[jx]? = some (pc, .ifCond .ne o, 3)) (ho : 0 ≤ (pc : Int) + o) (hp : ((pc : Int) + o).toNat = pc') (h1 : ¬ x = 0 → WP w l Z n0 lay own D maxL ret nm R pc' ls st A cells slots Φ)
    (h2 : x = 0 → WP w l Z n0 lay own D maxL ret nm R (pc + 3) ls st A cells slots Φ) : WP w l Z n0 lay own D maxL ret nm R pc ls (.int x :: st) A cells slots Φ :=
  W_if hl ho hp (fun h => h1 (h_ne.1.mp (by rw [if0] at h; exact h))) (fun h => h2 (h_ne.2.mp (by rw [if0] at h; exact h)))
theorem W_llt {o : Int} {x y : Int64} {pc' : Nat} (hl : D[jx]? = some (pc, .ifCond .lt o, 3)) (ho : 0 ≤ (pc : Int) + o) (hp : ((pc : Int) + o).toNat = pc') (h1 : x < y → WP w l Z n0 lay own D maxL ret nm R pc' ls st A cells slots Φ)
    (h2 : ¬ x < y → WP w l Z n0 lay own D maxL ret nm R (pc + 3) ls st A cells slots Φ) : WP w l Z n0 lay own D maxL ret nm R pc ls (.int (XT.cmpL x y) :: st) A cells slots Φ := by
  by_cases q : x < y
  · exact W_if hl ho hp (fun h => h1 q) (fun h => absurd h (by rw [XT.ll_lt_t q]; decide))
  · exact W_if hl ho hp (fun h => absurd h (by rw [XT.ll_lt_f q]; decide)) (fun h => h2 q)
theorem W_lge {o : Int} {x y : Int64} {pc' : Nat} (hl : D[jx]? = some (pc, .ifCond .ge o, 3)) (ho : 0 ≤ (pc : Int) + o) (hp : ((pc : Int) + o).toNat = pc') (h1 : ¬ x < y → WP w l Z n0 lay own D maxL ret nm R pc' ls st A cells slots Φ)
    (h2 : x < y → WP w l Z n0 lay own D maxL ret nm R (pc + 3) ls st A cells slots Φ) : WP w l Z n0 lay own D maxL ret nm R pc ls (.int (XT.cmpL x y) :: st) A cells slots Φ := by
  by_cases q : x < y
  · exact W_if hl ho hp (fun h => absurd h (by rw [XT.ll_ge_f q]; decide)) (fun h => h2 q)
  · exact W_if hl ho hp (fun h => h1 q) (fun h => absurd h (by rw [XT.ll_ge_t q]; decide))
theorem W_lgt {o : Int} {x y : Int64} {pc' : Nat} (hl : D[jx]? = some (pc, .ifCond .gt o, 3)) (ho : 0 ≤ (pc : Int) + o) (hp : ((pc : Int) + o).toNat = pc') (h1 : y < x → WP w l Z n0 lay own D maxL ret nm R pc' ls st A cells slots Φ)
    (h2 : ¬ y < x → WP w l Z n0 lay own D maxL ret nm R (pc + 3) ls st A cells slots Φ) : WP w l Z n0 lay own D maxL ret nm R pc ls (.int (XT.cmpL x y) :: st) A cells slots Φ := by
  by_cases q : y < x
  · exact W_if hl ho hp (fun h => h1 q) (fun h => absurd h (by rw [XT.ll_gt_t q]; decide))
  · exact W_if hl ho hp (fun h => absurd h (by rw [XT.ll_gt_f q]; decide)) (fun h => h2 q)
theorem W_lle {o : Int} {x y : Int64} {pc' : Nat} (hl : D[jx]? = some (pc, .ifCond .le o, 3)) (ho : 0 ≤ (pc : Int) + o) (hp : ((pc : Int) + o).toNat = pc') (h1 : ¬ y < x → WP w l Z n0 lay own D maxL ret nm R pc' ls st A cells slots Φ)
    (h2 : y < x → WP w l Z n0 lay own D maxL ret nm R (pc + 3) ls st A cells slots Φ) : WP w l Z n0 lay own D maxL ret nm R pc ls (.int (XT.cmpL x y) :: st) A cells slots Φ := by
  by_cases q : y < x
  · exact W_if hl ho hp (fun h => absurd h (by rw [XT.ll_le_f q]; decide)) (fun h => h2 q)
  · exact W_if hl ho hp (fun h => h1 q) (fun h => absurd h (by rw [XT.ll_le_t q]; decide))
theorem W_leq {o : Int} {x y : Int64} {pc' : Nat} (hl : D[jx]? = some (pc, .ifCond .eq o, 3)) (ho : 0 ≤ (pc : Int) + o) (hp : ((pc : Int) + o).toNat = pc') (h1 : x = y → WP w l Z n0 lay own D maxL ret nm R pc' ls st A cells slots Φ)
    (h2 : ¬ x = y → WP w l Z n0 lay own D maxL ret nm R (pc + 3) ls st A cells slots Φ) : WP w l Z n0 lay own D maxL ret nm R pc ls (.int (XT.cmpL x y) :: st) A cells slots Φ := by
  by_cases q : x = y
  · exact W_if hl ho hp (fun h => h1 q) (fun h => absurd h (by rw [XT.ll_eq_t q]; decide))
  · exact W_if hl ho hp (fun h => absurd h (by rw [XT.ll_eq_f q]; decide)) (fun h => h2 q)
theorem W_lne {o : Int} {x y : Int64} {pc' : Nat} (hl : D[jx]? = some (pc, .ifCond .ne o, 3)) (ho : 0 ≤ (pc : Int) + o) (hp : ((pc : Int) + o).toNat = pc') (h1 : ¬ x = y → WP w l Z n0 lay own D maxL ret nm R pc' ls st A cells slots Φ)
    (h2 : x = y → WP w l Z n0 lay own D maxL ret nm R (pc + 3) ls st A cells slots Φ) : WP w l Z n0 lay own D maxL ret nm R pc ls (.int (XT.cmpL x y) :: st) A cells slots Φ := by
  by_cases q : x = y
  · exact W_if hl ho hp (fun h => absurd h (by rw [XT.ll_ne_f q]; decide)) (fun h => h2 q)
  · exact W_if hl ho hp (fun h => h1 q) (fun h => absurd h (by rw [XT.ll_ne_t q]; decide))
theorem W_irem {x y : Int32} (hl : D[jx]? = some (pc, .irem, 1)) (hy : y ≠ 0) (h : WP w l Z n0 lay own D maxL ret nm R (pc + 1) ls (.int (x % y) :: st) A cells slots Φ) : WP w l Z n0 lay own D maxL ret nm R pc ls (.int y :: .int x :: st) A cells slots Φ :=
  W_pure hl (by simp [pst, ilen, pcore, binD, hy]) h
theorem W_lrem {x y : Int64} (hl : D[jx]? = some (pc, .lrem, 1)) (hy : y ≠ 0) (h : WP w l Z n0 lay own D maxL ret nm R (pc + 1) ls (.long (x % y) :: st) A cells slots Φ) : WP w l Z n0 lay own D maxL ret nm R pc ls (.long y :: .long x :: st) A cells slots Φ :=
  W_pure hl (by simp [pst, ilen, pcore, binLD, hy]) h
theorem W_idiv {x y : Int32} (hl : D[jx]? = some (pc, .idiv, 1)) (hy : y ≠ 0) (h : WP w l Z n0 lay own D maxL ret nm R (pc + 1) ls (.int (x / y) :: st) A cells slots Φ) : WP w l Z n0 lay own D maxL ret nm R pc ls (.int y :: .int x :: st) A cells slots Φ :=
  W_pure hl (by simp [pst, ilen, pcore, binD, hy]) h
theorem W_ldiv {x y : Int64} (hl : D[jx]? = some (pc, .ldiv, 1)) (hy : y ≠ 0) (h : WP w l Z n0 lay own D maxL ret nm R (pc + 1) ls (.long (x / y) :: st) A cells slots Φ) : WP w l Z n0 lay own D maxL ret nm R pc ls (.long y :: .long x :: st) A cells slots Φ :=
  W_pure hl (by simp [pst, ilen, pcore, binLD, hy]) h
theorem W_conseq {Ψ : Option Value → List ACell → Prop} (h : WP w l Z n0 lay own D maxL ret nm R pc ls st A cells slots Ψ) (hq : ∀ v B, Ψ v B → Φ v B) : WP w l Z n0 lay own D maxL ret nm R pc ls st A cells slots Φ :=
  fun p e s s' m args below meth c T locs r X C N H B => by
    obtain ⟨s₂, v, L, A', r', h1, h2, h3, h4, h5, h6, h7, h8⟩ := h p e s s' m args below meth c T locs r X C N H B
    exact ⟨s₂, v, L, A', r', h1, h2, h3, h4, h5, h6, h7, hq v A' h8⟩
theorem W_books {cells' slots' : Nat} (hc : cells ≤ cells') (hs : slots ≤ slots') (h : WP w l Z n0 lay own D maxL ret nm R pc ls st A cells' slots' Φ) : WP w l Z n0 lay own D maxL ret nm R pc ls st A cells slots Φ :=
  fun p e s s' m args below meth c T locs r X C N H B => h p e s s' m args below meth c T locs r (X.mono hc hs) C N H B
theorem MT.conseq {y : MethodName} {code : ByteArray} {ws : List Jvm.Cond} {as : List Value} {Ψ : Option Value → List ACell → Prop} (h : MT w l Z n0 lay y code maxL ret ws R as A Ψ) (hq : ∀ v B, Ψ v B → Φ v B) : MT w l Z n0 lay y code maxL ret ws R as A Φ :=
  fun r hh HP p e ha hc hk s m args below hf happ hP hK => by
    obtain ⟨n, o, h1, h2, h3, v, L, h4, ⟨h5, v', A', r', h6, h7, h8, h9⟩, h10⟩ := h r hh HP p e ha hc hk s m args below hf happ hP hK
    exact ⟨n, o, h1, h2, h3, v, L, h4, ⟨h5, v', A', r', h6, h7, h8, hq v' A' h9⟩, h10⟩
/-! returns -/
theorem Based.grow {s s' : State} {k k' : Nat} (h : Based w s s' k) (q : k ≤ k') : Based w s s' k' := by
  cases w
  · exact h
  · obtain ⟨vm0, k0, h1, h2, h3⟩ := h
    exact ⟨vm0, k0, h1, h2, Nat.le_trans h3 q⟩
theorem leaveK {p : Program} {e : Env} {s s' : State} {m : MethodId} {args : Array Value} {below : List Frame} {meth : Method} {c : Code} {T : State} {locs : List Loc} (X : Stand p l e R s' m args below meth c T locs cells slots) (B : Based w s s' T.heap.size) {v : Option Value} (hv : meth.sig.returnType = none → v = none) (hlk : meth.locks = false) (hc : cells ≤ R.cells) (hs : slots ≤ R.slots) :
    ∃ fs, (∀ (f : JFrame) (acts : List Action), f.method = m → f.locked = none → f.entered = [] → (doReturn e (T.setTop f) acts v).1 = T.setFrames fs) ∧ (T.setFrames fs).status = .running ∧ Ended (T.setFrames fs) below (.returned v) ∧ EndK w s (.returned v) (T.setFrames fs) locs R.cells R.slots := by
  cases w
  · cases B
    obtain ⟨fs, h1, h2, h3, h4, h5⟩ := X.leave hv hlk
    exact ⟨fs, h1, h2, h3, ⟨v, rfl⟩, h4, h5.mono hc hs⟩
  · obtain ⟨vm0, k0, rfl, h2, h3⟩ := B
    obtain ⟨fs, h4, h5, h6, h7, h8, h9, h10⟩ := X.leaveW h2 h3 hv hlk
    exact ⟨fs, h4, h5, h6, h7, h8, h9, h10.mono hc hs⟩
theorem W_ret {i : Instr} {v : Value} {t : FieldType} (hl : D[jx]? = some (pc, i, 1)) (hret : ret = some t) (hn : ∀ r : Nat → Addr, narrow t (cv r v) = cv r v)
    (hi : (i = .ireturn ∧ (t = .int ∨ t = .boolean ∨ t = .byte ∨ t = .char ∨ t = .short) ∧ ∃ z, v = .int z) ∨ (i = .lreturn ∧ t = .long ∧ ∃ z, v = .long z) ∨ (i = .areturn ∧ t.isReference = true ∧ v.isRef = true))
    (hc : cells ≤ R.cells) (hs : slots ≤ R.slots) (h : Φ (some v) A) : WP w l Z n0 lay own D maxL ret nm R pc ls (v :: st) A cells slots Φ :=
  fun p e s s' m args below meth c T locs r X C N H B => by
    have hD := @Cx.dec _ _ _ _ _ _ _ _ _ _ _ C
    obtain ⟨hx, hZ, hown, hre, hlk, -, hml, hnm⟩ := C
    obtain ⟨fs, h1, h2, h3, h4⟩ := leaveK X B (v := some (cv r v)) (fun q => by rw [hre, hret] at q; cases q) hlk hc hs
    refine ⟨_, some v, locs, A, r, ?_, h2, h3, h4, N, H, ⟨fun _ _ => rfl, Nat.le_refl _⟩, h⟩
    exact retOut X hx (hre.trans hret) (hn r) (by
      rcases hi with ⟨a, b, z, rfl⟩ | ⟨a, b, z, rfl⟩ | ⟨a, b, d⟩
      · exact Or.inl ⟨a, b, z, rfl⟩
      · exact Or.inr (Or.inl ⟨a, b, z, rfl⟩)
      · exact Or.inr (Or.inr (Or.inr (Or.inr ⟨a, b, (cv_isRef r v).trans d⟩)))) (hD hl) h1
theorem W_ireturn {z : Int32} (hl : D[jx]? = some (pc, .ireturn, 1)) (hret : ret = some .int) (hc : cells ≤ R.cells) (hs : slots ≤ R.slots) (h : Φ (some (.int z)) A) : WP w l Z n0 lay own D maxL ret nm R pc ls (.int z :: st) A cells slots Φ :=
  W_ret hl hret (fun _ => rfl) (Or.inl ⟨rfl, Or.inl rfl, z, rfl⟩) hc hs h
theorem W_zreturn {z : Int32} (hl : D[jx]? = some (pc, .ireturn, 1)) (hret : ret = some .boolean) (hz : narrow .boolean (.int z) = .int z) (hc : cells ≤ R.cells) (hs : slots ≤ R.slots) (h : Φ (some (.int z)) A) : WP w l Z n0 lay own D maxL ret nm R pc ls (.int z :: st) A cells slots Φ :=
  W_ret hl hret (fun _ => hz) (Or.inl ⟨rfl, Or.inr (Or.inl rfl), z, rfl⟩) hc hs h
theorem W_lreturn {z : Int64} (hl : D[jx]? = some (pc, .lreturn, 1)) (hret : ret = some .long) (hc : cells ≤ R.cells) (hs : slots ≤ R.slots) (h : Φ (some (.long z)) A) : WP w l Z n0 lay own D maxL ret nm R pc ls (.long z :: st) A cells slots Φ :=
  W_ret hl hret (fun _ => rfl) (Or.inr (Or.inl ⟨rfl, rfl, z, rfl⟩)) hc hs h
theorem W_areturn {v : Value} {t : FieldType} (hl : D[jx]? = some (pc, .areturn, 1)) (hret : ret = some t) (ht : t.isReference = true) (hv : v.isRef = true) (hc : cells ≤ R.cells) (hs : slots ≤ R.slots) (h : Φ (some v) A) : WP w l Z n0 lay own D maxL ret nm R pc ls (v :: st) A cells slots Φ :=
  W_ret hl hret (fun r => by cases v <;> simp [Value.isRef] at hv <;> cases t <;> simp [FieldType.isReference] at ht <;> rfl) (Or.inr (Or.inr ⟨rfl, ht, hv⟩)) hc hs h
theorem W_return (hl : D[jx]? = some (pc, .return_, 1)) (hret : ret = none) (hc : cells ≤ R.cells) (hs : slots ≤ R.slots) (h : Φ none A) : WP w l Z n0 lay own D maxL ret nm R pc ls [] A cells slots Φ :=
  fun p e s s' m args below meth c T locs r X C N H B => by
    have hD := @Cx.dec _ _ _ _ _ _ _ _ _ _ _ C
    obtain ⟨hx, hZ, hown, hre, hlk, -, hml, hnm⟩ := C
    obtain ⟨fs, h1, h2, h3, h4⟩ := leaveK X B (v := none) (fun _ => rfl) hlk hc hs
    exact ⟨_, none, locs, A, r, X.returnOut hx (hre.trans hret) (hD hl) h1, h2, h3, h4, N, H, ⟨fun _ _ => rfl, Nat.le_refl _⟩, h⟩
/-! constants of the pool -/
theorem W_ldcI {idx : Nat} {v : Int32} (hl : D[jx]? = some (pc, .ldc idx, 2)) (hk : (Jvm.Cond.constant own idx v).before a0 Z = true) (h : WP w l Z n0 lay own D maxL ret nm R (pc + 2) ls (.int v :: st) A cells slots Φ) : WP w l Z n0 lay own D maxL ret nm R pc ls st A cells slots Φ :=
  fun p e s s' m args below meth c T locs r X C N H B => (h p e s s' m args below meth c T locs r X C N H B).back (fun t ht => X.ldcI C.1 C.2.2.1 (mvT C.2.1 hk) rfl (C.dec hl) ht) (Nat.le_refl _) (fun _ _ => rfl)
theorem W_ldc2J {idx : Nat} {v : Int64} (hl : D[jx]? = some (pc, .ldc2_w idx, 3)) (hk : (Jvm.Cond.constantLong own idx v).before a0 Z = true) (h : WP w l Z n0 lay own D maxL ret nm R (pc + 3) ls (.long v :: st) A cells slots Φ) : WP w l Z n0 lay own D maxL ret nm R pc ls st A cells slots Φ :=
  fun p e s s' m args below meth c T locs r X C N H B => (h p e s s' m args below meth c T locs r X C N H B).back (fun t ht => X.ldc2J C.1 C.2.2.1 (mvT C.2.1 hk) rfl (C.dec hl) ht) (Nat.le_refl _) (fun _ _ => rfl)
/-! fields -/
theorem W_getfield {idx i k ci : Nat} {C : String} {vs : List Value} {v : Value} {fs : List (String × String × String)} {f : String × String × String} (hl : D[jx]? = some (pc, .getfield idx, 3)) (hk : (Jvm.Cond.fieldLink own idx f.1 f.2.1 f.2.2).before a0 Z = true) (hC : lay[ci]? = some (C, fs)) (hf : fs[k]? = some f)
    (hA : A[i]? = some (.inl (ci, vs))) (hv : vs[k]? = some v) (h : WP w l Z n0 lay own D maxL ret nm R (pc + 3) ls (v :: st) A cells slots Φ) : WP w l Z n0 lay own D maxL ret nm R pc ls (.ref i :: st) A cells slots Φ :=
  fun p e s s' m args below meth c T locs r X C' N H B => by
    obtain ⟨-, C0, fs', h1, E, h2, h3⟩ := H.1 i _ hA
    cases hC.symm.trans h1
    obtain ⟨T', X', e', st'⟩ := getF X C'.1 C'.2.1 C'.2.2.1 (host := "") (Or.inl hk) Via.refl rfl (h3 k f v hf hv) (g := mkF m pc (cl r ls) (ct r (.ref i :: st))) rfl rfl (C'.dec hl)
    exact (h p e s s' m args below meth c T' locs r X' C' N (e' ▸ H) (e' ▸ B)).back st' (Nat.le_refl _) (fun _ _ => rfl)
theorem W_putfield {idx i k kk ci : Nat} {C : String} {vs : List Value} {v : Value} {fs : List (String × String × String)} {f : String × String × String} {ty : FieldType} (hl : D[jx]? = some (pc, .putfield idx, 3)) (hL : LayOk Z a0 lay) (hk : (Jvm.Cond.fieldLink own idx f.1 f.2.1 f.2.2).before a0 Z = true)
    (hlay : (Jvm.Cond.lays C f.1 f.2.1 f.2.2).before a0 Z = true ∨ ((Jvm.Cond.laysFinal C f.1 f.2.1 f.2.2).before a0 Z = true ∧ own = f.1 ∧ nm = "<init>")) (hi : (Jvm.Cond.instantiable C kk).before a0 Z = true) (hty : parseFieldDescriptor f.2.2 = some ty)
    (hn : ∀ r : Nat → Addr, narrow ty (cv r v) = cv r v) (hfit : ∀ r : Nat → Addr, fits ty (cv r v) = true) (hC : lay[ci]? = some (C, fs)) (hf : fs[k]? = some f)
    (hA : A[i]? = some (.inl (ci, vs))) {A1 : List ACell} (hB : A.set i (.inl (ci, vs.set k v)) = A1) (h : WP w l Z n0 lay own D maxL ret nm R (pc + 3) ls st A1 cells slots Φ) : WP w l Z n0 lay own D maxL ret nm R pc ls (v :: .ref i :: st) A cells slots Φ :=
  fun p e s s' m args below meth c T locs r X C' N H B => by
    subst hB
    obtain ⟨hn0, hcell⟩ := H.1 i _ hA
    have hcell' := hcell
    obtain ⟨C0, fs', h1, E, h2, h3⟩ := hcell
    cases hC.symm.trans h1
    have hkl : k < vs.length := h2 ▸ (List.getElem?_eq_some_iff.mp hf).1
    obtain ⟨T', h', X', e', W, st'⟩ := putF X C'.1 C'.2.1 C'.2.2.1 (host := "") (Or.inl hk) Via.refl rfl (h3 k f _ hf (List.getElem?_eq_getElem hkl)) E (hlay.imp id fun q => ⟨q.1, q.2.1, C'.2.2.2.2.2.2.2.trans q.2.2⟩) hi hty (hn r) (hfit r)
      (g := mkF m pc (cl r ls) (ct r (v :: .ref i :: st))) rfl rfl (C'.dec hl)
    subst e'
    have H' := H.set hA W (hcell'.put hL hC hf W)
    refine (h p e s s' m args below meth c T' _ r X' C' (Fr.snoc X' N hn0) H' (B.grow (Nat.le_of_eq W.size.symm))).back st' (by simp) (fun _ _ => rfl)
/-! an object is made -/
theorem W_new {idx n ci : Nat} {C : String} {fs : List (String × String × String)} {vs : List Value} (hl : D[jx]? = some (pc, .new idx, 3)) (hL : LayOk Z a0 lay) (h1 : (Jvm.Cond.classLink own idx C).before a0 Z = true) (h2 : (Jvm.Cond.instantiable C n).before a0 Z = true) (h3 : (Jvm.Cond.initialized C).before a0 Z = true)
    (hC : lay[ci]? = some (C, fs)) (hvs : (fs.map fun f => (parseFieldDescriptor f.2.2).map defaultValue) = vs.map some) (hnr : vs.all (okV 0) = true) (hcc : cells + 1 ≤ R.cells) (hss : slots + n ≤ R.slots) (hck : (ls.all (okS A.length) && (st.all (okV A.length) && A.all (okC A.length))) = true)
    {N0 : Nat} {A1 : List ACell} (hN0 : A.length = N0) (hB : A ++ [.inl (ci, vs)] = A1) (h : WP w l Z n0 lay own D maxL ret nm R (pc + 3) ls (.ref N0 :: st) A1 (cells + 1) (slots + n) Φ) : WP w l Z n0 lay own D maxL ret nm R pc ls st A cells slots Φ :=
  fun p e s s' m args below meth c T locs r X C' N H B => by
    subst hN0 hB
    simp only [Bool.and_eq_true] at hck
    obtain ⟨k1, k2, k3⟩ := hck
    obtain ⟨T', h', X', e', E, Ex, Df, -, st'⟩ := newO X C'.1 C'.2.1 C'.2.2.1 h1 h2 h3 rfl (g := mkF m pc (cl r ls) (ct r st)) rfl (C'.dec hl) hcc hss
    subst e'
    have q : ∀ i, i < A.length → (fun i => if i = A.length then T.heap.size else r i) i = r i := fun i hi => if_neg (Nat.ne_of_lt hi)
    have H' := H.push E (c := .inl (ci, vs)) k3 ⟨C, fs, hC, Ex, by simpa using congrArg List.length hvs, fun i f v hf hv => by
      obtain ⟨l1, ty, p1⟩ := (hL ci C fs hC).1 f (List.mem_of_getElem? hf)
      have hi : ((fs.map fun f => (parseFieldDescriptor f.2.2).map defaultValue))[i]? = (vs.map some)[i]? := by rw [hvs]
      simp only [List.getElem?_map, hf, hv, Option.map_some, p1, Option.some.injEq] at hi
      have hcv : ∀ r, cv r v = v := fun r => by
        have := List.all_eq_true.mp hnr v (List.mem_of_getElem? hv)
        cases v <;> first | rfl | (simp [okV] at this)
      rw [hcv, ← hi]
      exact Df l1 p1⟩
    have hf := h p e s s' m args below meth c T' locs _ X' C' N H' (B.grow E.1)
    refine hf.back (fun t ht => st' t ?_) (by simp) q
    have hr1 : ct (fun i => if i = A.length then T.heap.size else r i) (.ref A.length :: st) = .ref T.heap.size :: ct r st := by
      show cv _ _ :: ct _ st = _
      rw [ct_ag q k2]
      simp [cv]
    rw [cl_ag q k1, hr1] at ht
    exact ht
/-! arrays -/
theorem W_newarray {aty : ArrayType} {n : Int32} {ty : FieldType} (cap : Nat) {vs : List Value} (hl : D[jx]? = some (pc, .newarray aty, 2)) (hty : newarray.typeOf aty = ty) (h1 : (Jvm.Cond.arrayClass ty).before a0 Z = true) (hn : ¬ n < 0) (hvs : vs = List.replicate n.toNatClampNeg (defaultValue ty))
    (hcap : n.toNatClampNeg ≤ cap) (hb : cap * 8 ≤ 536870912) (hcc : cells + 1 ≤ R.cells) (hss : slots + cap ≤ R.slots) (hck : (ls.all (okS A.length) && (st.all (okV A.length) && A.all (okC A.length))) = true)
    {N0 : Nat} {A1 : List ACell} (hN0 : A.length = N0) (hB : A ++ [.inr (ty, vs)] = A1) (h : WP w l Z n0 lay own D maxL ret nm R (pc + 2) ls (.ref N0 :: st) A1 (cells + 1) (slots + cap) Φ) : WP w l Z n0 lay own D maxL ret nm R pc ls (.int n :: st) A cells slots Φ :=
  fun p e s s' m args below meth c T locs r X C' N H B => by
    subst hty hN0 hB
    simp only [Bool.and_eq_true] at hck
    obtain ⟨k1, k2, k3⟩ := hck
    obtain ⟨T', h', cA, X', e', E, Ar, Ex, st'⟩ := newPE X C'.1 C'.2.1 h1 rfl (g := mkF m pc (cl r ls) (ct r (.int n :: st))) rfl (C'.dec hl) rfl hn hcap hb hcc hss (ad := _) rfl
    subst e'
    have q : ∀ i, i < A.length → (fun i => if i = A.length then T.heap.size else r i) i = r i := fun i hi => if_neg (Nat.ne_of_lt hi)
    have hdv : ∀ r : Nat → Addr, cv r (defaultValue (newarray.typeOf aty)) = defaultValue (newarray.typeOf aty) := fun r => by cases aty <;> rfl
    have H' := H.push E (c := .inr (newarray.typeOf aty, vs)) k3 ⟨_, Ar, by subst hvs; simp [newA, ct, hdv], fun v hv => by subst hvs; rw [List.eq_of_mem_replicate hv]; cases aty <;> rfl, Ex⟩
    have hf := h p e s s' m args below meth c T' locs _ X' C' N H' (B.grow E.1)
    refine hf.back (fun t ht => st' t ?_) (by simp) q
    have hr1 : ct (fun i => if i = A.length then T.heap.size else r i) (.ref A.length :: st) = .ref T.heap.size :: ct r st := by
      show cv _ _ :: ct _ st = _
      rw [ct_ag q k2]
      simp [cv]
    rw [cl_ag q k1, hr1] at ht
    exact ht
theorem arr_at {r : Nat → Addr} {h : Heap} {a : Addr} {ty : FieldType} {vs : List Value} (H : CellOk Z lay r h a (.inr (ty, vs))) : ∃ c : Cell, Arr Z h a c ty ∧ c.slots.size = vs.length ∧ (∀ k : Nat, c.slots[k]? = (vs[k]?).map (cv r)) ∧ ∀ v ∈ vs, fits ty v = true := by
  obtain ⟨c, h1, h2, h3, -⟩ := H
  exact ⟨c, h1, by simp [h2], fun k => by simp [h2], h3⟩
theorem W_arraylength {i : Nat} {ty : FieldType} {vs : List Value} {n : Int32} (hl : D[jx]? = some (pc, .arraylength, 1)) (hA : A[i]? = some (.inr (ty, vs))) (hn : vs.length.toInt32 = n) (h : WP w l Z n0 lay own D maxL ret nm R (pc + 1) ls (.int n :: st) A cells slots Φ) : WP w l Z n0 lay own D maxL ret nm R pc ls (.ref i :: st) A cells slots Φ :=
  fun p e s s' m args below meth c T locs r X C' N H B => by
    obtain ⟨ce, h1, h2, h3, h4⟩ := arr_at (H.1 i _ hA).2
    refine (h p e s s' m args below meth c T locs r X C' N H B).back (fun t ht => ?_) (Nat.le_refl _) (fun _ _ => rfl)
    refine X.arraylength C'.1 h1.1 (State.isArrayOf_alike C'.2.1.alike h1.2.1) (g := mkF m pc (cl r ls) (ct r (.ref i :: st))) rfl rfl (C'.dec hl) t ?_
    rw [h2, hn]
    exact ht
theorem in_of {j : Int32} {n : Nat} (h0 : ¬ j < 0) (h1 : j.toNatClampNeg < n) : ¬ (j < 0 ∨ n ≤ j.toNatClampNeg) := fun q => q.elim h0 fun q => Nat.lt_irrefl _ (Nat.lt_of_lt_of_le h1 q)
theorem W_xaload {ins : Instr} {i : Nat} {ty : FieldType} {vs : List Value} {j : Int32} {v : Value} (hk : (ins = .iaload ∧ ty = .int) ∨ (ins = .laload ∧ ty = .long) ∨ (ins = .baload ∧ ty = .byte) ∨ (ins = .baload ∧ ty = .boolean) ∨ (ins = .caload ∧ ty = .char) ∨ (ins = .saload ∧ ty = .short)) (hl : D[jx]? = some (pc, ins, 1)) (hA : A[i]? = some (.inr (ty, vs))) (hj : ¬ j < 0) (hv : vs[j.toNatClampNeg]? = some v)
    (h : WP w l Z n0 lay own D maxL ret nm R (pc + 1) ls (v :: st) A cells slots Φ) : WP w l Z n0 lay own D maxL ret nm R pc ls (.int j :: .ref i :: st) A cells slots Φ :=
  fun p e s s' m args below meth c T locs r X C' N H B => by
    obtain ⟨ce, h1, h2, h3, h4⟩ := arr_at (H.1 i _ hA).2
    have hin : ¬ (j < 0 ∨ ce.slots.size ≤ j.toNatClampNeg) := in_of hj (by rw [h2]; exact (List.getElem?_eq_some_iff.mp hv).1)
    have hv' : ce.slots[j.toNatClampNeg]? = some (cv r v) := by rw [h3, hv]; rfl
    have ha := State.isArrayOf_alike C'.2.1.alike h1.2.1
    have hd := C'.dec hl
    refine (h p e s s' m args below meth c T locs r X C' N H B).back (fun t ht => ?_) (Nat.le_refl _) (fun _ _ => rfl)
    rcases hk with ⟨rfl, rfl⟩ | ⟨rfl, rfl⟩ | ⟨rfl, rfl⟩ | ⟨rfl, rfl⟩ | ⟨rfl, rfl⟩ | ⟨rfl, rfl⟩
    · exact X.iaload C'.1 h1.1 ha h1.2.2 hin hv' (g := mkF m pc (cl r ls) (ct r (.int j :: .ref i :: st))) rfl rfl hd t ht
    · exact X.laload C'.1 h1.1 ha h1.2.2 hin hv' (g := mkF m pc (cl r ls) (ct r (.int j :: .ref i :: st))) rfl rfl hd t ht
    · exact X.baloadBytes C'.1 h1.1 ha h1.2.2 hin hv' (g := mkF m pc (cl r ls) (ct r (.int j :: .ref i :: st))) rfl rfl hd t ht
    · exact X.baloadBooleans C'.1 h1.1 ha h1.2.2 hin hv' (g := mkF m pc (cl r ls) (ct r (.int j :: .ref i :: st))) rfl rfl hd t ht
    · exact X.caload C'.1 h1.1 ha h1.2.2 hin hv' (g := mkF m pc (cl r ls) (ct r (.int j :: .ref i :: st))) rfl rfl hd t ht
    · exact X.saload C'.1 h1.1 ha h1.2.2 hin hv' (g := mkF m pc (cl r ls) (ct r (.int j :: .ref i :: st))) rfl rfl hd t ht
theorem W_iaload {i : Nat} {vs : List Value} {j : Int32} {v : Value} (hl : D[jx]? = some (pc, .iaload, 1)) (hA : A[i]? = some (.inr (.int, vs))) (hj : ¬ j < 0) (hv : vs[j.toNatClampNeg]? = some v) (h : WP w l Z n0 lay own D maxL ret nm R (pc + 1) ls (v :: st) A cells slots Φ) : WP w l Z n0 lay own D maxL ret nm R pc ls (.int j :: .ref i :: st) A cells slots Φ :=
  W_xaload (Or.inl ⟨rfl, rfl⟩) hl hA hj hv h
theorem W_laload {i : Nat} {vs : List Value} {j : Int32} {v : Value} (hl : D[jx]? = some (pc, .laload, 1)) (hA : A[i]? = some (.inr (.long, vs))) (hj : ¬ j < 0) (hv : vs[j.toNatClampNeg]? = some v) (h : WP w l Z n0 lay own D maxL ret nm R (pc + 1) ls (v :: st) A cells slots Φ) : WP w l Z n0 lay own D maxL ret nm R pc ls (.int j :: .ref i :: st) A cells slots Φ :=
  W_xaload (Or.inr (Or.inl ⟨rfl, rfl⟩)) hl hA hj hv h
theorem W_baload {i : Nat} {vs : List Value} {j : Int32} {v : Value} (hl : D[jx]? = some (pc, .baload, 1)) (hA : A[i]? = some (.inr (.byte, vs))) (hj : ¬ j < 0) (hv : vs[j.toNatClampNeg]? = some v) (h : WP w l Z n0 lay own D maxL ret nm R (pc + 1) ls (v :: st) A cells slots Φ) : WP w l Z n0 lay own D maxL ret nm R pc ls (.int j :: .ref i :: st) A cells slots Φ :=
  W_xaload (Or.inr (Or.inr (Or.inl ⟨rfl, rfl⟩))) hl hA hj hv h
theorem W_zaload {i : Nat} {vs : List Value} {j : Int32} {v : Value} (hl : D[jx]? = some (pc, .baload, 1)) (hA : A[i]? = some (.inr (.boolean, vs))) (hj : ¬ j < 0) (hv : vs[j.toNatClampNeg]? = some v) (h : WP w l Z n0 lay own D maxL ret nm R (pc + 1) ls (v :: st) A cells slots Φ) : WP w l Z n0 lay own D maxL ret nm R pc ls (.int j :: .ref i :: st) A cells slots Φ :=
  W_xaload (Or.inr (Or.inr (Or.inr (Or.inl ⟨rfl, rfl⟩)))) hl hA hj hv h
theorem st_fin {p : Program} {e : Env} {s s' : State} {m : MethodId} {args : Array Value} {below : List Frame} {meth : Method} {c : Code} {T : State} {locs : List Loc} {r : Nat → Addr} {i k pc' : Nat} {ty : FieldType} {vs : List Value} {x : Value} {st' : List Value}
    (h : WP w l Z n0 lay own D maxL ret nm R pc' ls st (A.set i (.inr (ty, vs.set k x))) cells slots Φ) (C' : Cx Z own D maxL ret nm p s' m meth c) (N : Fr n0 locs) (H : Hp Z lay n0 r T.heap A) (B : Based w s s' T.heap.size) (hA : A[i]? = some (.inr (ty, vs))) (hfit : fits ty x = true) (hcv : cv r x = x)
    (hs : ∃ T' h', Stand p l e R s' m args below meth c T' (locs ++ [⟨r i, k⟩]) cells slots ∧ T'.heap = h' ∧ Wr T.heap h' (r i) k x ∧ ∀ target, Steps p.tables e below (T'.setTop (mkF m pc' (cl r ls) (ct r st))) target → Steps p.tables e below (T.setTop (mkF m pc (cl r ls) st')) target) :
    Fin w Z n0 lay R Φ A.length r p e below s (T.setTop (mkF m pc (cl r ls) st')) := by
  obtain ⟨T', h', X', e', W, st'⟩ := hs
  subst e'
  obtain ⟨hn0, hcell⟩ := H.1 i _ hA
  have H' := H.set hA W (hcell.stA hfit (by rw [hcv]; exact W))
  exact (h p e s s' m args below meth c T' _ r X' C' (Fr.snoc X' N hn0) H' (B.grow (Nat.le_of_eq W.size.symm))).back st' (by simp) (fun _ _ => rfl)
theorem W_iastore {i : Nat} {vs : List Value} {j x : Int32} (hl : D[jx]? = some (pc, .iastore, 1)) (hA : A[i]? = some (.inr (.int, vs))) (hj : ¬ j < 0) (hv : j.toNatClampNeg < vs.length)
    {A1 : List ACell} (hB : A.set i (.inr (.int, vs.set j.toNatClampNeg (.int x))) = A1) (h : WP w l Z n0 lay own D maxL ret nm R (pc + 1) ls st A1 cells slots Φ) : WP w l Z n0 lay own D maxL ret nm R pc ls (.int x :: .int j :: .ref i :: st) A cells slots Φ :=
  fun p e s s' m args below meth c T locs r X C' N H B => by
    subst hB
    obtain ⟨ce, h1, h2, h3, h4⟩ := arr_at (H.1 i _ hA).2
    exact st_fin h C' N H B hA rfl rfl (stI X C'.1 C'.2.1 rfl h1 (in_of hj (by rw [h2]; exact hv)) (g := mkF m pc (cl r ls) (ct r (.int x :: .int j :: .ref i :: st))) rfl rfl (C'.dec hl))
theorem W_lastore {i : Nat} {vs : List Value} {j : Int32} {x : Int64} (hl : D[jx]? = some (pc, .lastore, 1)) (hA : A[i]? = some (.inr (.long, vs))) (hj : ¬ j < 0) (hv : j.toNatClampNeg < vs.length)
    {A1 : List ACell} (hB : A.set i (.inr (.long, vs.set j.toNatClampNeg (.long x))) = A1) (h : WP w l Z n0 lay own D maxL ret nm R (pc + 1) ls st A1 cells slots Φ) : WP w l Z n0 lay own D maxL ret nm R pc ls (.long x :: .int j :: .ref i :: st) A cells slots Φ :=
  fun p e s s' m args below meth c T locs r X C' N H B => by
    subst hB
    obtain ⟨ce, h1, h2, h3, h4⟩ := arr_at (H.1 i _ hA).2
    exact st_fin h C' N H B hA rfl rfl (stJ X C'.1 C'.2.1 rfl h1 (in_of hj (by rw [h2]; exact hv)) (g := mkF m pc (cl r ls) (ct r (.long x :: .int j :: .ref i :: st))) rfl rfl (C'.dec hl))
theorem W_bastore {i : Nat} {vs : List Value} {j x y : Int32} (hl : D[jx]? = some (pc, .bastore, 1)) (hA : A[i]? = some (.inr (.byte, vs))) (hj : ¬ j < 0) (hv : j.toNatClampNeg < vs.length) (hy : x.toInt8.toInt32 = y)
    {A1 : List ACell} (hB : A.set i (.inr (.byte, vs.set j.toNatClampNeg (.int y))) = A1) (h : WP w l Z n0 lay own D maxL ret nm R (pc + 1) ls st A1 cells slots Φ) : WP w l Z n0 lay own D maxL ret nm R pc ls (.int x :: .int j :: .ref i :: st) A cells slots Φ :=
  fun p e s s' m args below meth c T locs r X C' N H B => by
    subst hy
    subst hB
    obtain ⟨ce, h1, h2, h3, h4⟩ := arr_at (H.1 i _ hA).2
    exact st_fin h C' N H B hA (fits_nar_byte x) rfl (stB X C'.1 C'.2.1 rfl h1 (in_of hj (by rw [h2]; exact hv)) (g := mkF m pc (cl r ls) (ct r (.int x :: .int j :: .ref i :: st))) rfl rfl (C'.dec hl))
theorem W_zastore {i : Nat} {vs : List Value} {j x y : Int32} (hl : D[jx]? = some (pc, .bastore, 1)) (hA : A[i]? = some (.inr (.boolean, vs))) (hj : ¬ j < 0) (hv : j.toNatClampNeg < vs.length) (hy : x &&& 1 = y)
    {A1 : List ACell} (hB : A.set i (.inr (.boolean, vs.set j.toNatClampNeg (.int y))) = A1) (h : WP w l Z n0 lay own D maxL ret nm R (pc + 1) ls st A1 cells slots Φ) : WP w l Z n0 lay own D maxL ret nm R pc ls (.int x :: .int j :: .ref i :: st) A cells slots Φ :=
  fun p e s s' m args below meth c T locs r X C' N H B => by
    subst hy
    subst hB
    obtain ⟨ce, h1, h2, h3, h4⟩ := arr_at (H.1 i _ hA).2
    exact st_fin h C' N H B hA (fits_nar_bool x) rfl (stZ X C'.1 C'.2.1 rfl h1 (in_of hj (by rw [h2]; exact hv)) (g := mkF m pc (cl r ls) (ct r (.int x :: .int j :: .ref i :: st))) rfl rfl (C'.dec hl))
/-! calls -/
theorem W_initO {idx i : Nat} (hl : D[jx]? = some (pc, .invokespecial idx, 3)) (w1 : (Jvm.Cond.methodLink own idx Lib.objectInit).before a0 Z = true) (w2 : (Jvm.Cond.instanceMethod Lib.objectInit).before a0 Z = true) (w3 : (Jvm.Cond.code Lib.objectInit ⟨#[0xb1]⟩ 1 none).before a0 Z = true)
    (hsz : ls.length = maxL) (hf : 1 ≤ R.frames) (hlo : (catS st + 12).ble R.locals = true) (h : WP w l Z n0 lay own D maxL ret nm R (pc + 3) ls st A cells slots Φ) : WP w l Z n0 lay own D maxL ret nm R pc ls (.ref i :: st) A cells slots Φ :=
  fun p e s s' m args below meth c T locs r X C' N H B => by
    obtain ⟨T', X', e', st'⟩ := initO X C'.1 C'.2.1 C'.2.2.1 w1 w2 w3 rfl (g := mkF m pc (cl r ls) (ct r (.ref i :: st))) rfl (by show (cl r ls).size = _; rw [cl_size, hsz, C'.2.2.2.2.2.2.1]) rfl (C'.dec hl) hf (W := catS st)
      (by show 2 * 0 + ((ct r st).map fun v => v.category).sum ≤ _; rw [ct_cat]; omega) (Nat.le_of_ble_eq_true hlo)
    exact (h p e s s' m args below meth c T' locs r X' C' N (e' ▸ H) (e' ▸ B)).back st' (Nat.le_refl _) (fun _ _ => rfl)
/-- what a call leaves -/
theorem after {rest : List Value} {pc' : Nat} {p : Program} {e : Env} {s s' : State} {m : MethodId} {args : Array Value} {below : List Frame} {meth : Method} {c : Code} {T' U : State} {locs L : List Loc} {r r' : Nat → Addr} {v v' : Option Value} {A' : List ACell}
    (hok : (ls.all (okS A.length) && rest.all (okV A.length)) = true) (q : (∀ i, i < A.length → r' i = r i) ∧ A.length ≤ A'.length)
    (h : WP w l Z n0 lay own D maxL ret nm R pc' ls (v'.toList ++ rest) A' cells slots Φ) (X : Stand p l e R s' m args below meth c T' (locs ++ L) cells slots) (C' : Cx Z own D maxL ret nm p s' m meth c) (N : Fr n0 locs) (N' : Fr n0 L) (H : Hp Z lay n0 r' T'.heap A') (B : Based w s s' T'.heap.size)
    (hv : v = v'.map (cv r')) (hst : ∀ t, Steps p.tables e below (T'.setTop (mkF m pc' (cl r ls) (v.toList ++ ct r rest))) t → Steps p.tables e below U t) : Fin w Z n0 lay R Φ A.length r p e below s U := by
  simp only [Bool.and_eq_true] at hok
  refine (h p e s s' m args below meth c T' _ r' X C' (N.app N') H B).back (fun t ht => hst t ?_) q.2 q.1
  have e1 : ct r' (v'.toList ++ rest) = v.toList ++ ct r rest := by
    rw [hv, ← ct_ag q.1 hok.2]
    simp only [ct, List.map_append]
    cases v' <;> rfl
  rw [cl_ag q.1 hok.1, e1] at ht
  exact ht
theorem Cx.re {p : Program} {s : State} {m : MethodId} {meth : Method} {c : Code} {vm' : Vm} (C' : Cx Z own D maxL ret nm p s m meth c) (hW : s.Warmed39 vm') : Cx Z own D maxL ret nm p (s.setVm vm') m meth c :=
  ⟨C'.1, State.Warmed39.trans (t := s) C'.2.1 hW, by show vm'.findClass own = _; rw [hW.alike.findClass]; exact C'.2.2.1, C'.2.2.2⟩
theorem Based.re {s s' : State} {k k' : Nat} {vm' : Vm} (B : Based true s s' k) (hS : s'.Since vm' k') (hk : k ≤ k') : Based true s (s'.setVm vm') k' := by
  obtain ⟨vm0, k0, rfl, h2, h3⟩ := B
  exact ⟨vm', k', rfl, h2.trans hS (Nat.le_trans h3 hk), Nat.le_refl _⟩
theorem stk {r : Nat → Addr} {as rest : List Value} : ct r (as.reverse ++ rest) = (ct r as).reverse ++ ct r rest := by simp [ct, List.map_append, List.map_reverse]
theorem stkI {r : Nat → Addr} {as rest : List Value} {i : Nat} : ct r (as.reverse ++ .ref i :: rest) = (ct r as).reverse ++ .ref (r i) :: ct r rest := by simp [ct, List.map_append, List.map_reverse, cv]
theorem W_callS {y : MethodName} {idx : Nat} {code : ByteArray} {mL : Nat} {rt : Option FieldType} {Rc : Room} {ps : List FieldType} {rr : Option FieldType} {Ψ : Option Value → List ACell → Prop} (as rest : List Value) (hM : MT w l Z n0 lay y code mL rt [] Rc as A Ψ) (hl : D[jx]? = some (pc, .invokestatic idx, 3))
    (w1 : (Jvm.Cond.methodLink own idx y).before a0 Z = true) (w2 : (Jvm.Cond.static y).before a0 Z = true) (w3 : (Jvm.Cond.initialized y.cls).before a0 Z = true) (w4 : (Jvm.Cond.code y code mL rt).before a0 Z = true) (hy : y.cls ≠ "java/lang/invoke/MethodHandle" ∧ y.cls ≠ "java/lang/invoke/VarHandle")
    (hpd : parseMethodDescriptor y.desc = some ⟨ps, rr⟩) (hlen : as.length = ps.length) (hst : st = as.reverse ++ rest) (hsz : ls.length = maxL) (hf : Rc.frames + 1 ≤ R.frames) (hlo : (catS rest + (mL + 11) + Rc.locals).ble R.locals = true) (hc : cells + Rc.cells ≤ R.cells) (hs : slots + Rc.slots ≤ R.slots)
    (hok : (ls.all (okS A.length) && rest.all (okV A.length)) = true) (h : ∀ v B, Ψ v B → WP w l Z n0 lay own D maxL ret nm R (pc + 3) ls (v.toList ++ rest) B (cells + Rc.cells) (slots + Rc.slots) Φ) : WP w l Z n0 lay own D maxL ret nm R pc ls st A cells slots Φ :=
  fun p e s s' m args below meth c T locs r X C' N H B => by
    subst hst
    have hsz' : (cl r ls).size = c.maxLocals := by rw [cl_size, hsz, C'.2.2.2.2.2.2.1]
    have hW : 2 * 0 + ((ct r rest).map fun v => v.category).sum ≤ catS rest := by rw [ct_cat]; omega
    have hlen' : (ct r as).length = ps.length := by simpa [ct] using hlen
    cases w
    · obtain ⟨v, vm₁, ⟨T', L', k', n'⟩, -, X', ⟨Lc, hQ, l1, y1, z1⟩, sp⟩ := Jvm.LawKit.callS X C'.1 (y := y) C'.2.2.1 (mvT C'.2.1 w1) (mvT C'.2.1 w2) (mvT C'.2.1 w3) (mvT C'.2.1 w4) hy (backOf (W := catS rest) (Q := QC Z lay n0 r A.length Ψ) (hM.nar r T.heap H) C'.2.1 w4 w3 hf (Nat.le_of_ble_eq_true hlo))
        (g := mkF m pc (cl r ls) (ct r (as.reverse ++ rest))) rfl hsz' (argsL := ct r as) (rest := ct r rest) (lenOf hpd hlen') stk hW (C'.dec hl) (fun _ _ => ⟨rfl, rfl, hc, hs⟩)
      dsimp only [Pt.U, Pt.locs, Pt.cells, Pt.slots] at X' l1 y1 z1 sp hQ
      subst l1 y1 z1
      obtain ⟨N', v', A', r', hv, H', q, hP⟩ := hQ
      exact after hok q (h v' A' hP) X' C' N N' H' B hv sp
    · obtain ⟨v, vm₁, ⟨T', L', k', n'⟩, -, X', hS, hgr, ⟨Lc, hQ, l1, y1, z1⟩, sp⟩ := callSS X C'.1 (y := y) C'.2.2.1 (mvT C'.2.1 w1) (mvT C'.2.1 w2) (mvT C'.2.1 w3) (mvT C'.2.1 w4) hy (backOfS (W := catS rest) (Q := QC Z lay n0 r A.length Ψ) (hM.wid r T.heap H) C'.2.1 w4 w3 hf (Nat.le_of_ble_eq_true hlo))
        (g := mkF m pc (cl r ls) (ct r (as.reverse ++ rest))) rfl hsz' (argsL := ct r as) (rest := ct r rest) (lenOf hpd hlen') stk hW (C'.dec hl) (fun _ _ => ⟨rfl, rfl, hc, hs⟩)
      dsimp only [Pt.U, Pt.locs, Pt.cells, Pt.slots] at X' hS hgr l1 y1 z1 sp hQ
      subst l1 y1 z1
      obtain ⟨N', v', A', r', hv, H', q, hP⟩ := hQ
      exact after hok q (h v' A' hP) X' (C'.re hS.1) N N' H' (B.re hS hgr) hv (fun t ht => sp.trans ht)
theorem W_callI {y : MethodName} {idx i : Nat} {code : ByteArray} {mL : Nat} {Rc : Room} {ps : List FieldType} {rr : Option FieldType} {Ψ : Option Value → List ACell → Prop} (as rest : List Value) (hM : MT w l Z n0 lay y code mL none [] Rc (.ref i :: as) A Ψ) (hl : D[jx]? = some (pc, .invokespecial idx, 3)) (hy1 : y.name = "<init>")
    (w1 : (Jvm.Cond.methodLink own idx y).before a0 Z = true) (w2 : (Jvm.Cond.instanceMethod y).before a0 Z = true) (w3 : (Jvm.Cond.initialized y.cls).before a0 Z = true) (w4 : (Jvm.Cond.code y code mL none).before a0 Z = true) (hy : y.cls ≠ "java/lang/invoke/MethodHandle" ∧ y.cls ≠ "java/lang/invoke/VarHandle")
    (hpd : parseMethodDescriptor y.desc = some ⟨ps, rr⟩) (hlen : as.length = ps.length) (hst : st = as.reverse ++ .ref i :: rest) (hsz : ls.length = maxL) (hf : Rc.frames + 1 ≤ R.frames) (hlo : (catS rest + (mL + 11) + Rc.locals).ble R.locals = true) (hc : cells + Rc.cells ≤ R.cells) (hs : slots + Rc.slots ≤ R.slots)
    (hok : (ls.all (okS A.length) && rest.all (okV A.length)) = true) (h : ∀ v B, Ψ v B → WP w l Z n0 lay own D maxL ret nm R (pc + 3) ls (v.toList ++ rest) B (cells + Rc.cells) (slots + Rc.slots) Φ) : WP w l Z n0 lay own D maxL ret nm R pc ls st A cells slots Φ :=
  fun p e s s' m args below meth c T locs r X C' N H B => by
    subst hst
    have hsz' : (cl r ls).size = c.maxLocals := by rw [cl_size, hsz, C'.2.2.2.2.2.2.1]
    have hW : 2 * 0 + ((ct r rest).map fun v => v.category).sum ≤ catS rest := by rw [ct_cat]; omega
    have hlen' : (ct r as).length = ps.length := by simpa [ct] using hlen
    cases w
    · obtain ⟨v, vm₁, ⟨T', L', k', n'⟩, -, X', ⟨Lc, hQ, l1, y1, z1⟩, sp⟩ := X.specialBack C'.1 (y := y) hy1 C'.2.2.1 (mvT C'.2.1 w1) (mvT C'.2.1 w2) (mvT C'.2.1 w4) hy (backOf (W := catS rest) (Q := QC Z lay n0 r A.length Ψ) (hM.nar r T.heap H) C'.2.1 w4 w3 hf (Nat.le_of_ble_eq_true hlo))
        (g := mkF m pc (cl r ls) (ct r (as.reverse ++ .ref i :: rest))) rfl hsz' (Steps.refl _) (a := r i) (argsL := ct r as) (rest := ct r rest) (lenOf hpd hlen') stkI hW (C'.dec hl) (fun _ _ => ⟨rfl, rfl, hc, hs⟩)
      dsimp only [Pt.U, Pt.locs, Pt.cells, Pt.slots] at X' l1 y1 z1 sp hQ
      subst l1 y1 z1
      obtain ⟨N', v', A', r', hv, H', q, hP⟩ := hQ
      exact after hok q (h v' A' hP) X' C' N N' H' B hv (fun t ht => sp.trans ht)
    · obtain ⟨v, vm₁, ⟨T', L', k', n'⟩, -, X', hS, hgr, ⟨Lc, hQ, l1, y1, z1⟩, sp⟩ := X.specialBackS C'.1 (y := y) hy1 C'.2.2.1 (mvT C'.2.1 w1) (mvT C'.2.1 w2) (mvT C'.2.1 w4) hy (backOfS (W := catS rest) (Q := QC Z lay n0 r A.length Ψ) (hM.wid r T.heap H) C'.2.1 w4 w3 hf (Nat.le_of_ble_eq_true hlo))
        (g := mkF m pc (cl r ls) (ct r (as.reverse ++ .ref i :: rest))) rfl hsz' (Steps.refl _) (a := r i) (argsL := ct r as) (rest := ct r rest) (lenOf hpd hlen') stkI hW (C'.dec hl) (fun _ _ => ⟨rfl, rfl, hc, hs⟩)
      dsimp only [Pt.U, Pt.locs, Pt.cells, Pt.slots] at X' hS hgr l1 y1 z1 sp hQ
      subst l1 y1 z1
      obtain ⟨N', v', A', r', hv, H', q, hP⟩ := hQ
      exact after hok q (h v' A' hP) X' (C'.re hS.1) N N' H' (B.re hS hgr) hv (fun t ht => sp.trans ht)
theorem W_callV {y : MethodName} {idx i ci : Nat} {C : String} {fs : List (String × String × String)} {vs : List Value} {code : ByteArray} {mL : Nat} {rt : Option FieldType} {Rc : Room} {ps : List FieldType} {rr : Option FieldType} {Ψ : Option Value → List ACell → Prop} (as rest : List Value) (hM : MT w l Z n0 lay y code mL rt [] Rc (.ref i :: as) A Ψ) (hl : D[jx]? = some (pc, .invokevirtual idx, 3)) (hC : lay[ci]? = some (C, fs)) (hA : A[i]? = some (.inl (ci, vs)))
    (w1 : (Jvm.Cond.methodLink own idx y).before a0 Z = true) (w2 : (Jvm.Cond.declares y).before a0 Z = true) (w5 : (Jvm.Cond.selects C y y).before a0 Z = true) (w6 : (Jvm.Cond.instanceMethod y).before a0 Z = true) (w3 : (Jvm.Cond.initialized y.cls).before a0 Z = true) (w4 : (Jvm.Cond.code y code mL rt).before a0 Z = true) (hy : y.cls ≠ "java/lang/invoke/MethodHandle" ∧ y.cls ≠ "java/lang/invoke/VarHandle")
    (hpd : parseMethodDescriptor y.desc = some ⟨ps, rr⟩) (hlen : as.length = ps.length) (hst : st = as.reverse ++ .ref i :: rest) (hsz : ls.length = maxL) (hf : Rc.frames + 1 ≤ R.frames) (hlo : (catS rest + (mL + 11) + Rc.locals).ble R.locals = true) (hc : cells + Rc.cells ≤ R.cells) (hs : slots + Rc.slots ≤ R.slots)
    (hok : (ls.all (okS A.length) && rest.all (okV A.length)) = true) (h : ∀ v B, Ψ v B → WP w l Z n0 lay own D maxL ret nm R (pc + 3) ls (v.toList ++ rest) B (cells + Rc.cells) (slots + Rc.slots) Φ) : WP w l Z n0 lay own D maxL ret nm R pc ls st A cells slots Φ :=
  fun p e s s' m args below meth c T locs r X C' N H B => by
    subst hst
    have hsz' : (cl r ls).size = c.maxLocals := by rw [cl_size, hsz, C'.2.2.2.2.2.2.1]
    have hW : 2 * 0 + ((ct r rest).map fun v => v.category).sum ≤ catS rest := by rw [ct_cat]; omega
    have hlen' : (ct r as).length = ps.length := by simpa [ct] using hlen
    have E : Exa Z T.heap (r i) C := by
      obtain ⟨-, C0, fs', h1, E, -⟩ := H.1 i _ hA
      cases hC.symm.trans h1
      exact E
    obtain ⟨cq, kq, qa, qb, qc⟩ := isOf C'.2.1 rfl E
    cases w
    · obtain ⟨v, vm₁, ⟨T', L', k', n'⟩, -, X', ⟨Lc, hQ, l1, y1, z1⟩, sp⟩ := X.virtualBack C'.1 (y := y) (z := y) C'.2.2.1 (mvT C'.2.1 w1) (mvT C'.2.1 w2) (notFace_of_selects (args := #[]) (mvT C'.2.1 w5)) (mvT C'.2.1 w5) (mvT C'.2.1 w6) hy (backOf (W := catS rest) (Q := QC Z lay n0 r A.length Ψ) (hM.nar r T.heap H) C'.2.1 w4 w3 hf (Nat.le_of_ble_eq_true hlo)) qa qc
        (g := mkF m pc (cl r ls) (ct r (as.reverse ++ .ref i :: rest))) rfl hsz' (Steps.refl _) (argsL := ct r as) (rest := ct r rest) (lenOf hpd hlen') stkI hW (C'.dec hl) (fun _ _ => ⟨rfl, rfl, hc, hs⟩)
      dsimp only [Pt.U, Pt.locs, Pt.cells, Pt.slots] at X' l1 y1 z1 sp hQ
      subst l1 y1 z1
      obtain ⟨N', v', A', r', hv, H', q, hP⟩ := hQ
      exact after hok q (h v' A' hP) X' C' N N' H' B hv (fun t ht => sp.trans ht)
    · obtain ⟨v, vm₁, ⟨T', L', k', n'⟩, -, X', hS, hgr, ⟨Lc, hQ, l1, y1, z1⟩, sp⟩ := X.virtualBackS C'.1 (y := y) (z := y) C'.2.2.1 (mvT C'.2.1 w1) (mvT C'.2.1 w2) (notFace_of_selects (args := #[]) (mvT C'.2.1 w5)) (mvT C'.2.1 w5) (mvT C'.2.1 w6) hy (backOfS (W := catS rest) (Q := QC Z lay n0 r A.length Ψ) (hM.wid r T.heap H) C'.2.1 w4 w3 hf (Nat.le_of_ble_eq_true hlo)) qa qc
        (g := mkF m pc (cl r ls) (ct r (as.reverse ++ .ref i :: rest))) rfl hsz' (Steps.refl _) (argsL := ct r as) (rest := ct r rest) (lenOf hpd hlen') stkI hW (C'.dec hl) (fun _ _ => ⟨rfl, rfl, hc, hs⟩)
      dsimp only [Pt.U, Pt.locs, Pt.cells, Pt.slots] at X' hS hgr l1 y1 z1 sp hQ
      subst l1 y1 z1
      obtain ⟨N', v', A', r', hv, H', q, hP⟩ := hQ
      exact after hok q (h v' A' hP) X' (C'.re hS.1) N N' H' (B.re hS hgr) hv (fun t ht => sp.trans ht)
end Rules
end Jvm.OwnKit
namespace Jvm.Pilot.@@N@@
open Jvm Jvm.ClassFile Sem Op Lib Jvm.Free Jvm.Stand Jvm.LawKit Jvm.RoadKit Bundle Jvm.OwnKit Jvm.Pilot.@@N@@.Jvm.D
def own_lay : Jvm.OwnKit.Lay := []
theorem own_lay_ok {Z : State} {a0 : Array Value} : LayOk Z a0 own_lay := fun ci C fs h => by cases ci <;> cases h
def own_D0 : Jvm.OwnKit.Dt := [(0, .iload_n 0, 1), (1, .invokestatic 12, 3), (4, .istore 6, 2), (6, .iload_n 1, 1), (7, .invokestatic 12, 3), (10, .istore 7, 2), (12, .iload_n 2, 1), (13, .invokestatic 12, 3), (16, .istore 8, 2), (18, .iload_n 3, 1), (19, .invokestatic 12, 3), (22, .istore 9, 2), (24, .bipush 19, 2), (26, .newarray .byte, 2), (28, .astore 10, 2), (30, .aload 10, 2), (32, .iconst 0, 1), (33, .iload 4, 2), (35, .bipush 8, 2), (37, .iushr, 1), (38, .i2b, 1), (39, .bastore, 1), (40, .aload 10, 2), (42, .iconst 1, 1), (43, .iload 4, 2), (45, .bipush 16, 2), (47, .iushr, 1), (48, .i2b, 1), (49, .bastore, 1), (50, .aload 10, 2), (52, .iconst 2, 1), (53, .iload 4, 2), (55, .bipush 24, 2), (57, .iushr, 1), (58, .i2b, 1), (59, .bastore, 1), (60, .iload 4, 2), (62, .iconst 3, 1), (63, .iand, 1), (64, .istore 11, 2), (66, .iconst 5, 1), (67, .newarray .int, 2), (69, .astore 12, 2), (71, .iconst 5, 1), (72, .newarray .int, 2), (74, .astore 13, 2), (76, .aload 12, 2), (78, .iconst 0, 1), (79, .iload 11, 2), (81, .iastore, 1), (82, .aload 13, 2), (84, .iconst 0, 1), (85, .iconst 1, 1), (86, .iastore, 1), (87, .aload 12, 2), (89, .iconst 1, 1), (90, .aload 10, 2), (92, .aload 12, 2), (94, .iconst 0, 1), (95, .iaload, 1), (96, .iload 6, 2), (98, .invokestatic 18, 3), (101, .iastore, 1), (102, .aload 13, 2), (104, .iconst 1, 1), (105, .aload 13, 2), (107, .iconst 0, 1), (108, .iaload, 1), (109, .iload 6, 2), (111, .invokestatic 22, 3), (114, .iadd, 1), (115, .iastore, 1), (116, .aload 12, 2), (118, .iconst 2, 1), (119, .aload 10, 2), (121, .aload 12, 2), (123, .iconst 1, 1), (124, .iaload, 1), (125, .iload 7, 2), (127, .invokestatic 18, 3), (130, .iastore, 1), (131, .aload 13, 2), (133, .iconst 2, 1), (134, .aload 13, 2), (136, .iconst 1, 1), (137, .iaload, 1), (138, .iload 7, 2), (140, .invokestatic 22, 3), (143, .iadd, 1), (144, .iastore, 1), (145, .aload 12, 2), (147, .iconst 3, 1), (148, .aload 10, 2), (150, .aload 12, 2), (152, .iconst 2, 1), (153, .iaload, 1), (154, .iload 8, 2), (156, .invokestatic 18, 3), (159, .iastore, 1), (160, .aload 13, 2), (162, .iconst 3, 1), (163, .aload 13, 2), (165, .iconst 2, 1), (166, .iaload, 1), (167, .iload 8, 2), (169, .invokestatic 22, 3), (172, .iadd, 1), (173, .iastore, 1), (174, .aload 12, 2), (176, .iconst 4, 1), (177, .aload 10, 2), (179, .aload 12, 2), (181, .iconst 3, 1), (182, .iaload, 1), (183, .iload 9, 2), (185, .invokestatic 18, 3), (188, .iastore, 1), (189, .aload 13, 2), (191, .iconst 4, 1), (192, .aload 13, 2), (194, .iconst 3, 1), (195, .iaload, 1), (196, .iload 9, 2), (198, .invokestatic 22, 3), (201, .iadd, 1), (202, .iastore, 1), (203, .iload 5, 2), (205, .ldc 25, 2), (207, .iand, 1), (208, .iconst 5, 1), (209, .irem, 1), (210, .istore 14, 2), (212, .aload 10, 2), (214, .iload 11, 2), (216, .aload 12, 2), (218, .iload 14, 2), (220, .iaload, 1), (221, .invokestatic 26, 3), (224, .aload 13, 2), (226, .iload 14, 2), (228, .iaload, 1), (229, .if_icmp .ne 7, 3), (232, .iconst 1, 1), (233, .goto 4, 3), (236, .iconst 0, 1), (237, .ireturn, 1)]
set_option maxRecDepth 65536 in
theorem own_D0_ok : ∀ q ∈ own_D0, decode code q.1 = .ok q.2 := by decide +kernel
theorem own_pd0 : parseMethodDescriptor "(IIIIII)Z" = some ⟨[.int, .int, .int, .int, .int, .int], some .boolean⟩ := by decide +kernel
theorem own_pn0 : plainFor x = true := plainFor_of_name (by first | (simp [plainName, overriddenIn]; done) | decide +kernel)
def own_D1 : Jvm.OwnKit.Dt := [(0, .iload_n 0, 1), (1, .iconst 3, 1), (2, .iand, 1), (3, .istore_n 1, 1), (4, .iload_n 0, 1), (5, .iconst 2, 1), (6, .iushr, 1), (7, .istore_n 2, 1), (8, .iload_n 1, 1), (9, .ifCond .ne 9, 3), (12, .iload_n 2, 1), (13, .sipush 128, 3), (16, .irem, 1), (17, .ireturn, 1), (18, .iload_n 1, 1), (19, .iconst 1, 1), (20, .if_icmp .ne 13, 3), (23, .sipush 128, 3), (26, .iload_n 2, 1), (27, .sipush 1920, 3), (30, .irem, 1), (31, .iadd, 1), (32, .ireturn, 1), (33, .iload_n 1, 1), (34, .iconst 2, 1), (35, .if_icmp .ne 32, 3), (38, .sipush 2048, 3), (41, .iload_n 2, 1), (42, .ldc 7, 2), (44, .irem, 1), (45, .iadd, 1), (46, .istore_n 3, 1), (47, .iload_n 3, 1), (48, .ldc 8, 2), (50, .if_icmp .lt 15, 3), (53, .iload_n 3, 1), (54, .ldc 9, 2), (56, .if_icmp .gt 9, 3), (59, .iload_n 3, 1), (60, .sipush 2048, 3), (63, .ixor, 1), (64, .istore_n 3, 1), (65, .iload_n 3, 1), (66, .ireturn, 1), (67, .ldc 10, 2), (69, .iload_n 2, 1), (70, .ldc 11, 2), (72, .irem, 1), (73, .iadd, 1), (74, .ireturn, 1)]
set_option maxRecDepth 65536 in
theorem own_D1_ok : ∀ q ∈ own_D1, decode method_2_code q.1 = .ok q.2 := by decide +kernel
theorem own_pd1 : parseMethodDescriptor "(I)I" = some ⟨[.int], some .int⟩ := by decide +kernel
theorem own_pn1 : plainFor (⟨"com/example/sublink/sublink/Utf8ColumnPinLaw", "cp", "(I)I"⟩ : MethodName) = true := plainFor_of_name (by first | (simp [plainName, overriddenIn]; done) | decide +kernel)
def own_D2 : Jvm.OwnKit.Dt := [(0, .iload_n 2, 1), (1, .sipush 128, 3), (4, .if_icmp .ge 12, 3), (7, .aload_n 0, 1), (8, .iload_n 1, 1), (9, .iload_n 2, 1), (10, .i2b, 1), (11, .bastore, 1), (12, .iload_n 1, 1), (13, .iconst 1, 1), (14, .iadd, 1), (15, .ireturn, 1), (16, .iload_n 2, 1), (17, .sipush 2048, 3), (20, .if_icmp .ge 33, 3), (23, .aload_n 0, 1), (24, .iload_n 1, 1), (25, .sipush 192, 3), (28, .iload_n 2, 1), (29, .bipush 6, 2), (31, .ishr, 1), (32, .ior, 1), (33, .i2b, 1), (34, .bastore, 1), (35, .aload_n 0, 1), (36, .iload_n 1, 1), (37, .iconst 1, 1), (38, .iadd, 1), (39, .sipush 128, 3), (42, .iload_n 2, 1), (43, .bipush 63, 2), (45, .iand, 1), (46, .ior, 1), (47, .i2b, 1), (48, .bastore, 1), (49, .iload_n 1, 1), (50, .iconst 2, 1), (51, .iadd, 1), (52, .ireturn, 1), (53, .iload_n 2, 1), (54, .ldc 10, 2), (56, .if_icmp .ge 50, 3), (59, .aload_n 0, 1), (60, .iload_n 1, 1), (61, .sipush 224, 3), (64, .iload_n 2, 1), (65, .bipush 12, 2), (67, .ishr, 1), (68, .ior, 1), (69, .i2b, 1), (70, .bastore, 1), (71, .aload_n 0, 1), (72, .iload_n 1, 1), (73, .iconst 1, 1), (74, .iadd, 1), (75, .sipush 128, 3), (78, .iload_n 2, 1), (79, .bipush 6, 2), (81, .ishr, 1), (82, .bipush 63, 2), (84, .iand, 1), (85, .ior, 1), (86, .i2b, 1), (87, .bastore, 1), (88, .aload_n 0, 1), (89, .iload_n 1, 1), (90, .iconst 2, 1), (91, .iadd, 1), (92, .sipush 128, 3), (95, .iload_n 2, 1), (96, .bipush 63, 2), (98, .iand, 1), (99, .ior, 1), (100, .i2b, 1), (101, .bastore, 1), (102, .iload_n 1, 1), (103, .iconst 3, 1), (104, .iadd, 1), (105, .ireturn, 1), (106, .aload_n 0, 1), (107, .iload_n 1, 1), (108, .sipush 240, 3), (111, .iload_n 2, 1), (112, .bipush 18, 2), (114, .ishr, 1), (115, .ior, 1), (116, .i2b, 1), (117, .bastore, 1), (118, .aload_n 0, 1), (119, .iload_n 1, 1), (120, .iconst 1, 1), (121, .iadd, 1), (122, .sipush 128, 3), (125, .iload_n 2, 1), (126, .bipush 12, 2), (128, .ishr, 1), (129, .bipush 63, 2), (131, .iand, 1), (132, .ior, 1), (133, .i2b, 1), (134, .bastore, 1), (135, .aload_n 0, 1), (136, .iload_n 1, 1), (137, .iconst 2, 1), (138, .iadd, 1), (139, .sipush 128, 3), (142, .iload_n 2, 1), (143, .bipush 6, 2), (145, .ishr, 1), (146, .bipush 63, 2), (148, .iand, 1), (149, .ior, 1), (150, .i2b, 1), (151, .bastore, 1), (152, .aload_n 0, 1), (153, .iload_n 1, 1), (154, .iconst 3, 1), (155, .iadd, 1), (156, .sipush 128, 3), (159, .iload_n 2, 1), (160, .bipush 63, 2), (162, .iand, 1), (163, .ior, 1), (164, .i2b, 1), (165, .bastore, 1), (166, .iload_n 1, 1), (167, .iconst 4, 1), (168, .iadd, 1), (169, .ireturn, 1)]
set_option maxRecDepth 65536 in
theorem own_D2_ok : ∀ q ∈ own_D2, decode method_4_code q.1 = .ok q.2 := by decide +kernel
theorem own_pd2 : parseMethodDescriptor "([BII)I" = some ⟨[(.array .byte), .int, .int], some .int⟩ := by decide +kernel
theorem own_pn2 : plainFor (⟨"com/example/sublink/sublink/Utf8ColumnPinLaw", "put", "([BII)I"⟩ : MethodName) = true := plainFor_of_name (by first | (simp [plainName, overriddenIn]; done) | decide +kernel)
def own_D3 : Jvm.OwnKit.Dt := [(0, .iload_n 0, 1), (1, .ldc 10, 2), (3, .if_icmp .lt 5, 3), (6, .iconst 2, 1), (7, .ireturn, 1), (8, .iconst 1, 1), (9, .ireturn, 1)]
set_option maxRecDepth 65536 in
theorem own_D3_ok : ∀ q ∈ own_D3, decode method_3_code q.1 = .ok q.2 := by decide +kernel
theorem own_pd3 : parseMethodDescriptor "(I)I" = some ⟨[.int], some .int⟩ := by decide +kernel
theorem own_pn3 : plainFor (⟨"com/example/sublink/sublink/Utf8ColumnPinLaw", "units", "(I)I"⟩ : MethodName) = true := plainFor_of_name (by first | (simp [plainName, overriddenIn]; done) | decide +kernel)
def own_D4 : Jvm.OwnKit.Dt := [(0, .iconst 1, 1), (1, .istore_n 3, 1), (2, .iload_n 1, 1), (3, .istore 4, 2), (5, .iload 4, 2), (7, .iload_n 2, 1), (8, .if_icmp .ge 52, 3), (11, .aload_n 0, 1), (12, .iload 4, 2), (14, .baload, 1), (15, .sipush 255, 3), (18, .iand, 1), (19, .istore 5, 2), (21, .iload 5, 2), (23, .sipush 240, 3), (26, .if_icmp .lt 9, 3), (29, .iinc 3 2, 3), (32, .goto 22, 3), (35, .iload 5, 2), (37, .sipush 128, 3), (40, .if_icmp .lt 11, 3), (43, .iload 5, 2), (45, .sipush 192, 3), (48, .if_icmp .lt 6, 3), (51, .iinc 3 1, 3), (54, .iinc 4 1, 3), (57, .goto (-52), 3), (60, .iload_n 3, 1), (61, .ireturn, 1)]
set_option maxRecDepth 65536 in
theorem own_D4_ok : ∀ q ∈ own_D4, decode prog_47_method_4_code q.1 = .ok q.2 := by decide +kernel
theorem own_pd4 : parseMethodDescriptor "([BII)I" = some ⟨[(.array .byte), .int, .int], some .int⟩ := by decide +kernel
theorem own_pn4 : plainFor (⟨"com/example/sublink/sublink/Utf8", "column", "([BII)I"⟩ : MethodName) = true := plainFor_of_name (by first | (simp [plainName, overriddenIn]; done) | decide +kernel)
theorem own_ladd {x y : Int64} {a b : Int} (hx : x.toInt = a) (hy : y.toInt = b) (h : -9223372036854775808 ≤ a + b ∧ a + b < 9223372036854775808) : (x + y).toInt = a + b := by
  have h1 := c_ladd x y
  have h2 := rng64 (x + y)
  rw [hx, hy] at h1
  omega
theorem own_lsub {x y : Int64} {a b : Int} (hx : x.toInt = a) (hy : y.toInt = b) (h : -9223372036854775808 ≤ a - b ∧ a - b < 9223372036854775808) : (x - y).toInt = a - b := by
  have h1 := c_lsub x y
  have h2 := rng64 (x - y)
  rw [hx, hy] at h1
  omega
theorem own_lmul {x y : Int64} {a b : Int} (hx : x.toInt = a) (hy : y.toInt = b) (h : -9223372036854775808 ≤ a * b ∧ a * b < 9223372036854775808) : (x * y).toInt = a * b := by
  have h1 := c_lmul x y
  have h2 := rng64 (x * y)
  rw [hx, hy] at h1
  generalize a * b = p at *
  omega
theorem own_iadd {x y : Int32} {a b : Int} (hx : x.toInt = a) (hy : y.toInt = b) (h : -2147483648 ≤ a + b ∧ a + b < 2147483648) : (x + y).toInt = a + b := by
  have h1 := c_iadd x y
  have h2 := rng32 (x + y)
  rw [hx, hy] at h1
  omega
theorem own_isub {x y : Int32} {a b : Int} (hx : x.toInt = a) (hy : y.toInt = b) (h : -2147483648 ≤ a - b ∧ a - b < 2147483648) : (x - y).toInt = a - b := by
  have h1 := c_isub x y
  have h2 := rng32 (x - y)
  rw [hx, hy] at h1
  omega

def own_w (b : Int32) : Int32 := if 240 ≤ (b &&& 255).toInt then 2 else if (b &&& 255).toInt < 128 ∨ 192 ≤ (b &&& 255).toInt then 1 else 0
def own_fold (bs : List Int32) (a : Int32) : Int32 := bs.foldl (fun a b => a + own_w b) a
theorem own_fold_app (x y : List Int32) (a : Int32) : own_fold (x ++ y) a = own_fold y (own_fold x a) := List.foldl_append
def own_units (c : Int32) : Int32 := if c < 65536 then 1 else 2
def own_enc (c : Int32) : List Int32 := if c < 128 then [(c.toInt8.toInt32)]
  else if c < 2048 then [(((192 : Int32) ||| (c >>> (6 &&& 31) : Int32)) : Int32).toInt8.toInt32, (((128 : Int32) ||| (c &&& 63)) : Int32).toInt8.toInt32]
  else if c < 65536 then [(((224 : Int32) ||| (c >>> (12 &&& 31) : Int32)) : Int32).toInt8.toInt32, (((128 : Int32) ||| ((c >>> (6 &&& 31) : Int32) &&& 63)) : Int32).toInt8.toInt32, (((128 : Int32) ||| (c &&& 63)) : Int32).toInt8.toInt32]
  else [(((240 : Int32) ||| (c >>> (18 &&& 31) : Int32)) : Int32).toInt8.toInt32, (((128 : Int32) ||| ((c >>> (12 &&& 31) : Int32) &&& 63)) : Int32).toInt8.toInt32, (((128 : Int32) ||| ((c >>> (6 &&& 31) : Int32) &&& 63)) : Int32).toInt8.toInt32, (((128 : Int32) ||| (c &&& 63)) : Int32).toInt8.toInt32]
def own_len (c : Int32) : Int32 := if c < 128 then 1 else if c < 2048 then 2 else if c < 65536 then 3 else 4
theorem own_len_eq (c : Int32) : (own_len c).toInt = (own_enc c).length ∧ 1 ≤ (own_enc c).length ∧ (own_enc c).length ≤ 4 := by
  unfold own_len own_enc
  by_cases h1 : c < 128
  · rw [if_pos h1, if_pos h1]; exact ⟨rfl, by simp, by simp⟩
  · rw [if_neg h1, if_neg h1]
    by_cases h2 : c < 2048
    · rw [if_pos h2, if_pos h2]; exact ⟨rfl, by simp, by simp⟩
    · rw [if_neg h2, if_neg h2]
      by_cases h3 : c < 65536
      · rw [if_pos h3, if_pos h3]; exact ⟨rfl, by simp, by simp⟩
      · rw [if_neg h3, if_neg h3]; exact ⟨rfl, by simp, by simp⟩
/-- the weight of a byte that is b255 when read without its sign -/
theorem own_w_of (x : Int32) (h : 0 ≤ x.toInt ∧ x.toInt < 256) : own_w x.toInt8.toInt32 = if 240 ≤ x.toInt then 2 else if x.toInt < 128 ∨ 192 ≤ x.toInt then 1 else 0 := by
  have a := c_i2b x
  have m := c_mask x.toInt8.toInt32 255 8 (by decide) (by decide)
  have e : (x.toInt8.toInt32 &&& 255).toInt = x.toInt := by omega
  unfold own_w
  rw [e]
theorem own_or (a y : Int32) (k : Nat) (hk : k ≤ 31) (P : Int) (hP : P = (2 ^ k : Nat)) (ha : a.toInt % P = 0) (hy : 0 ≤ y.toInt ∧ y.toInt < P) (hs : 0 ≤ a.toInt ∧ a.toInt + y.toInt < 256) : (a ||| y).toInt = a.toInt + y.toInt := by
  have o := c_or a y k hk P hP ha hy.1 hy.2
  have r := rng32 (a ||| y)
  omega
theorem own_cont (y : Int32) : own_w (((128 : Int32) ||| (y &&& 63)) : Int32).toInt8.toInt32 = 0 := by
  have m := c_mask y 63 6 (by decide) (by decide)
  have k : (128 : Int32).toInt = 128 := by decide
  have o := own_or 128 (y &&& 63) 6 (by decide) 64 (by decide) (by rw [k]; decide) (by omega) (by omega)
  rw [own_w_of _ (by omega), if_neg (by omega), if_neg (by omega)]
theorem own_fold_enc (c : Int32) (h : 0 ≤ c.toInt ∧ c.toInt < 1114112) (a : Int32) : own_fold (own_enc c) a = a + own_units c := by
  have z : ∀ x : Int32, x + 0 = x := Int32.add_zero
  unfold own_enc own_units
  by_cases h1 : c < 128
  · have g1 : c.toInt < 128 := by simpa [Int32.lt_iff_toInt_lt] using h1
    rw [if_pos h1, if_pos (by simp only [Int32.lt_iff_toInt_lt, Int32.reduceToInt]; omega)]
    show a + own_w c.toInt8.toInt32 = _
    rw [own_w_of c (by omega), if_neg (by omega), if_pos (by omega)]
  · have g1 : ¬ c.toInt < 128 := by simpa [Int32.lt_iff_toInt_lt] using h1
    rw [if_neg h1]
    by_cases h2 : c < 2048
    · have g2 : c.toInt < 2048 := by simpa [Int32.lt_iff_toInt_lt] using h2
      rw [if_pos h2, if_pos (by simp only [Int32.lt_iff_toInt_lt, Int32.reduceToInt]; omega)]
      show a + own_w _ + own_w _ = _
      have s := c_ishr c 6 6 (by decide)
      have k : (192 : Int32).toInt = 192 := by decide
      have o := own_or 192 (c >>> ((6 : Int32) &&& 31)) 6 (by decide) 64 (by decide) (by rw [k]; decide) (by omega) (by omega)
      rw [own_cont, z, own_w_of _ (by omega), if_neg (by omega), if_pos (by omega)]
    · have g2 : ¬ c.toInt < 2048 := by simpa [Int32.lt_iff_toInt_lt] using h2
      rw [if_neg h2]
      by_cases h3 : c < 65536
      · have g3 : c.toInt < 65536 := by simpa [Int32.lt_iff_toInt_lt] using h3
        rw [if_pos h3, if_pos h3]
        show a + own_w _ + own_w _ + own_w _ = _
        have s := c_ishr c 12 12 (by decide)
        have k : (224 : Int32).toInt = 224 := by decide
        have o := own_or 224 (c >>> ((12 : Int32) &&& 31)) 4 (by decide) 16 (by decide) (by rw [k]; decide) (by omega) (by omega)
        rw [own_cont, own_cont, z, z, own_w_of _ (by omega), if_neg (by omega), if_pos (by omega)]
      · have g3 : ¬ c.toInt < 65536 := by simpa [Int32.lt_iff_toInt_lt] using h3
        rw [if_neg h3, if_neg h3]
        show a + own_w _ + own_w _ + own_w _ + own_w _ = _
        have s := c_ishr c 18 18 (by decide)
        have k : (240 : Int32).toInt = 240 := by decide
        have o := own_or 240 (c >>> ((18 : Int32) &&& 31)) 3 (by decide) 8 (by decide) (by rw [k]; decide) (by omega) (by omega)
        rw [own_cont, own_cont, own_cont, z, z, z, own_w_of _ (by omega), if_pos (by omega)]
theorem own_setk (xs zs ys : List Int32) (y v : Int32) (n : Nat) (hn : n = xs.length + zs.length) : ((xs ++ (zs ++ y :: ys)).map Value.int).set n (.int v) = ((xs ++ (zs ++ v :: ys)).map Value.int) := by
  subst hn
  rw [← List.map_set]
  congr 1
  rw [List.set_append_right _ _ (by omega), List.set_append_right _ _ (by omega)]
  simp
theorem own_pk (p : Int32) (n : Nat) (h : p.toInt = n) (hn : n ≤ 15) : (¬ p < 0 ∧ p.toNatClampNeg = n) ∧ (¬ (p + 1) < 0 ∧ (p + 1).toNatClampNeg = n + 1) ∧ (¬ (p + 2) < 0 ∧ (p + 2).toNatClampNeg = n + 2) ∧ (¬ (p + 3) < 0 ∧ (p + 3).toNatClampNeg = n + 3) := by
  have e1 := own_iadd h (show (1 : Int32).toInt = 1 by decide) (by omega)
  have e2 := own_iadd h (show (2 : Int32).toInt = 2 by decide) (by omega)
  have e3 := own_iadd h (show (3 : Int32).toInt = 3 by decide) (by omega)
  have t : ∀ q : Int32, q.toNatClampNeg = q.toInt.toNat := fun _ => rfl
  simp only [Int32.lt_iff_toInt_lt, Int32.reduceToInt, t]
  omega
theorem own_at (pre post : List Int32) (b : Int32) (i : Int32) (h : i.toInt = pre.length) : ¬ i < 0 ∧ ((pre ++ (b :: post)).map Value.int)[i.toNatClampNeg]? = some (.int b) := by
  have t : i.toNatClampNeg = i.toInt.toNat := rfl
  constructor
  · simp only [Int32.lt_iff_toInt_lt, Int32.reduceToInt]; omega
  · rw [t, h]; simp
theorem own_xor (v : Int32) (h0 : ¬ v < 55296) (h1 : ¬ 57343 < v) : 0 ≤ (v ^^^ 2048).toInt ∧ (v ^^^ 2048).toInt < 65536 := by
  simp only [Int32.lt_iff_toInt_lt, Int32.reduceToInt] at h0 h1
  have hv : v.toBitVec.toNat < 2 ^ 16 := by
    have e : v.toInt = v.toBitVec.toInt := rfl
    rw [BitVec.toInt_eq_toNat_cond] at e
    have := v.toBitVec.isLt
    split at e <;> omega
  have hx : (v ^^^ 2048).toBitVec.toNat < 2 ^ 16 := by
    show (v.toBitVec ^^^ 2048#32).toNat < _
    rw [BitVec.toNat_xor]
    exact Nat.xor_lt_two_pow hv (by decide)
  have e : (v ^^^ 2048).toInt = (v ^^^ 2048).toBitVec.toInt := rfl
  rw [BitVec.toInt_eq_toNat_cond, if_pos (by omega)] at e
  omega
theorem own_rem (r m : Int32) (d : Int) (hr : 0 ≤ r.toInt) (hm : m.toInt = d) (hd : 0 < d) : 0 ≤ (r % m).toInt ∧ (r % m).toInt < d := by
  have p := (c_irem r m d hm).1 hr
  have q1 := Int.emod_nonneg r.toInt (show d ≠ 0 by omega)
  have q2 := Int.emod_lt_of_pos r.toInt hd
  omega
theorem own_u2 (x r : Int32) (h : XT.ushr x 2 = r) : 0 ≤ r.toInt := by
  have e : XT.ushr x 2 = (x.toUInt32 >>> ((2 : Int32) &&& 31).toUInt32).toInt32 := rfl
  have q := c_iushr x 2 2 (by decide) (by decide)
  rw [← e, h] at q
  omega
theorem own_m1 {l : Launch} {Z : State} {a0 : Array Value} (hw : ∀ d ∈ tables_1, d.before a0 Z = true) {n0 : Nat} (x : Int32) {A : List ACell}  :
    MT false l Z n0 own_lay (⟨"com/example/sublink/sublink/Utf8ColumnPinLaw", "cp", "(I)I"⟩ : MethodName) method_2_code 4 (some .int) [] ({ frames := 0, cells := 0, slots := 0, locals := 0 } : Room) [.int x] A (fun v B => ∃ z : Int32, v = some (.int z) ∧ (0 ≤ z.toInt ∧ z.toInt < 1114112) ∧ B = A) := by
  refine W_enter (D := own_D1) own_pn1 own_D1_ok ?_
  show WP _ _ _ _ _ _ _ _ _ _ _ 0 [.val (.int x), .unset, .unset, .unset] [] _ 0 0 _
  refine W_run 0 4 (pc' := 4) (ls' := [.val (.int x), .val (.int (x &&& 3)), .unset, .unset]) (st' := []) rfl ?_
  refine W_run 4 3 (pc' := 7) (ls' := [.val (.int x), .val (.int (x &&& 3)), .unset, .unset]) (st' := [.int (XT.ushr x 2)]) rfl ?_
  generalize h_r : ((XT.ushr x 2) : Int32) = r
  have hr := own_u2 _ _ h_r
  refine W_run 7 1 (pc' := 8) (ls' := [.val (.int x), .val (.int (x &&& 3)), .val (.int r), .unset]) (st' := []) rfl ?_
  refine W_run 8 1 (pc' := 9) (ls' := [.val (.int x), .val (.int (x &&& 3)), .val (.int r), .unset]) (st' := [.int (x &&& 3)]) rfl ?_
  refine W_ifne (jx := 9) rfl (by decide) (pc' := 18) rfl (fun h9 => ?_) (fun h9 => ?_)
  · skip
    refine W_run 14 2 (pc' := 20) (ls' := [.val (.int x), .val (.int (x &&& 3)), .val (.int r), .unset]) (st' := [.int 1, .int (x &&& 3)]) rfl ?_
    refine W_ne (jx := 16) rfl (by decide) (pc' := 33) rfl (fun h20 => ?_) (fun h20 => ?_)
    · skip
      refine W_run 23 2 (pc' := 35) (ls' := [.val (.int x), .val (.int (x &&& 3)), .val (.int r), .unset]) (st' := [.int 2, .int (x &&& 3)]) rfl ?_
      refine W_ne (jx := 25) rfl (by decide) (pc' := 67) rfl (fun h35 => ?_) (fun h35 => ?_)
      · skip
        refine W_ldcI (jx := 44) rfl (hw _ (List.mem_of_getElem? (i := 4) rfl)) ?_
        refine W_run 45 1 (pc' := 70) (ls' := [.val (.int x), .val (.int (x &&& 3)), .val (.int r), .unset]) (st' := [.int r, .int 65536]) rfl ?_
        refine W_ldcI (jx := 46) rfl (hw _ (List.mem_of_getElem? (i := 5) rfl)) ?_
        refine W_run 47 2 (pc' := 74) (ls' := [.val (.int x), .val (.int (x &&& 3)), .val (.int r), .unset]) (st' := [.int (65536 + (r % 1048576))]) rfl ?_
        refine W_ireturn (jx := 49) rfl rfl (by decide) (by decide) ?_
        exact ⟨_, rfl, (by have a := own_rem r 1048576 1048576 hr (by decide) (by decide); have b := own_iadd (show (65536 : Int32).toInt = 65536 by decide) (rfl : (r % 1048576).toInt = (r % 1048576).toInt) (by omega); omega), rfl⟩
      · skip
        refine W_run 26 2 (pc' := 42) (ls' := [.val (.int x), .val (.int (x &&& 3)), .val (.int r), .unset]) (st' := [.int r, .int 2048]) rfl ?_
        refine W_ldcI (jx := 28) rfl (hw _ (List.mem_of_getElem? (i := 6) rfl)) ?_
        refine W_run 29 3 (pc' := 47) (ls' := [.val (.int x), .val (.int (x &&& 3)), .val (.int r), .val (.int (2048 + (r % 63488)))]) (st' := []) rfl ?_
        refine W_run 32 1 (pc' := 48) (ls' := [.val (.int x), .val (.int (x &&& 3)), .val (.int r), .val (.int (2048 + (r % 63488)))]) (st' := [.int (2048 + (r % 63488))]) rfl ?_
        refine W_ldcI (jx := 33) rfl (hw _ (List.mem_of_getElem? (i := 7) rfl)) ?_
        refine W_lt (jx := 34) rfl (by decide) (pc' := 65) rfl (fun h50 => ?_) (fun h50 => ?_)
        · skip
          refine W_run 42 1 (pc' := 66) (ls' := [.val (.int x), .val (.int (x &&& 3)), .val (.int r), .val (.int (2048 + (r % 63488)))]) (st' := [.int (2048 + (r % 63488))]) rfl ?_
          refine W_ireturn (jx := 43) rfl rfl (by decide) (by decide) ?_
          exact ⟨_, rfl, (by have a := own_rem r 63488 63488 hr (by decide) (by decide); have b := own_iadd (show (2048 : Int32).toInt = 2048 by decide) (rfl : (r % 63488).toInt = (r % 63488).toInt) (by omega); omega), rfl⟩
        · skip
          refine W_run 35 1 (pc' := 54) (ls' := [.val (.int x), .val (.int (x &&& 3)), .val (.int r), .val (.int (2048 + (r % 63488)))]) (st' := [.int (2048 + (r % 63488))]) rfl ?_
          refine W_ldcI (jx := 36) rfl (hw _ (List.mem_of_getElem? (i := 21) rfl)) ?_
          refine W_gt (jx := 37) rfl (by decide) (pc' := 65) rfl (fun h56 => ?_) (fun h56 => ?_)
          · skip
            refine W_run 42 1 (pc' := 66) (ls' := [.val (.int x), .val (.int (x &&& 3)), .val (.int r), .val (.int (2048 + (r % 63488)))]) (st' := [.int (2048 + (r % 63488))]) rfl ?_
            refine W_ireturn (jx := 43) rfl rfl (by decide) (by decide) ?_
            exact ⟨_, rfl, (by have a := own_rem r 63488 63488 hr (by decide) (by decide); have b := own_iadd (show (2048 : Int32).toInt = 2048 by decide) (rfl : (r % 63488).toInt = (r % 63488).toInt) (by omega); omega), rfl⟩
          · skip
            refine W_run 38 4 (pc' := 65) (ls' := [.val (.int x), .val (.int (x &&& 3)), .val (.int r), .val (.int ((2048 + (r % 63488)) ^^^ 2048))]) (st' := []) rfl ?_
            refine W_run 42 1 (pc' := 66) (ls' := [.val (.int x), .val (.int (x &&& 3)), .val (.int r), .val (.int ((2048 + (r % 63488)) ^^^ 2048))]) (st' := [.int ((2048 + (r % 63488)) ^^^ 2048)]) rfl ?_
            refine W_ireturn (jx := 43) rfl rfl (by decide) (by decide) ?_
            exact ⟨_, rfl, (by have a := own_xor _ h50 h56; omega), rfl⟩
    · skip
      refine W_run 17 5 (pc' := 32) (ls' := [.val (.int x), .val (.int (x &&& 3)), .val (.int r), .unset]) (st' := [.int (128 + (r % 1920))]) rfl ?_
      refine W_ireturn (jx := 22) rfl rfl (by decide) (by decide) ?_
      exact ⟨_, rfl, (by have a := own_rem r 1920 1920 hr (by decide) (by decide); have b := own_iadd (show (128 : Int32).toInt = 128 by decide) (rfl : (r % 1920).toInt = (r % 1920).toInt) (by omega); omega), rfl⟩
  · skip
    refine W_run 10 3 (pc' := 17) (ls' := [.val (.int x), .val (.int (x &&& 3)), .val (.int r), .unset]) (st' := [.int (r % 128)]) rfl ?_
    refine W_ireturn (jx := 13) rfl rfl (by decide) (by decide) ?_
    exact ⟨_, rfl, (by have a := own_rem r 128 128 hr (by decide) (by decide); omega), rfl⟩
theorem own_m3 {l : Launch} {Z : State} {a0 : Array Value} (hw : ∀ d ∈ tables_1, d.before a0 Z = true) {n0 : Nat} (x : Int32) {A : List ACell}  :
    MT false l Z n0 own_lay (⟨"com/example/sublink/sublink/Utf8ColumnPinLaw", "units", "(I)I"⟩ : MethodName) method_3_code 1 (some .int) [] ({ frames := 0, cells := 0, slots := 0, locals := 0 } : Room) [.int x] A (fun v B => v = some (.int (own_units x)) ∧ B = A) := by
  refine W_enter (D := own_D3) own_pn3 own_D3_ok ?_
  show WP _ _ _ _ _ _ _ _ _ _ _ 0 [.val (.int x)] [] _ 0 0 _
  refine W_run 0 1 (pc' := 1) (ls' := [.val (.int x)]) (st' := [.int x]) rfl ?_
  refine W_ldcI (jx := 1) rfl (hw _ (List.mem_of_getElem? (i := 4) rfl)) ?_
  refine W_lt (jx := 2) rfl (by decide) (pc' := 8) rfl (fun h3 => ?_) (fun h3 => ?_)
  · skip
    refine W_run 5 1 (pc' := 9) (ls' := [.val (.int x)]) (st' := [.int 1]) rfl ?_
    refine W_ireturn (jx := 6) rfl rfl (by decide) (by decide) ?_
    refine ⟨?_, rfl⟩
    unfold own_units
    first | rw [if_pos h3] | rw [if_neg h3]
  · skip
    refine W_run 3 1 (pc' := 7) (ls' := [.val (.int x)]) (st' := [.int 2]) rfl ?_
    refine W_ireturn (jx := 4) rfl rfl (by decide) (by decide) ?_
    refine ⟨?_, rfl⟩
    unfold own_units
    first | rw [if_pos h3] | rw [if_neg h3]
set_option maxRecDepth 65536 in
set_option maxHeartbeats 4000000 in
theorem own_m2 {l : Launch} {Z : State} {a0 : Array Value} (hw : ∀ d ∈ tables_1, d.before a0 Z = true) {n0 : Nat} (P Q : List Value) (xs : List Int32) (y0 y1 y2 y3 : Int32) (ys : List Int32) (p c : Int32) (hp : p.toInt = xs.length) (hx : xs.length ≤ 15) :
    MT false l Z n0 own_lay (⟨"com/example/sublink/sublink/Utf8ColumnPinLaw", "put", "([BII)I"⟩ : MethodName) method_4_code 3 (some .int) [] ({ frames := 0, cells := 0, slots := 0, locals := 0 } : Room) [.ref 0, .int p, .int c] [.inr (.byte, ((xs ++ (y0 :: y1 :: y2 :: y3 :: ys)).map Value.int)), .inr (.int, P), .inr (.int, Q)] (fun v B => v = some (.int (p + own_len c)) ∧ B = [.inr (.byte, ((xs ++ (own_enc c ++ (y0 :: y1 :: y2 :: y3 :: ys).drop (own_enc c).length)).map Value.int)), .inr (.int, P), .inr (.int, Q)]) := by
  obtain ⟨⟨a0', b0'⟩, ⟨a1', b1'⟩, ⟨a2', b2'⟩, ⟨a3', b3'⟩⟩ := own_pk p xs.length hp hx
  refine W_enter (D := own_D2) own_pn2 own_D2_ok ?_
  show WP _ _ _ _ _ _ _ _ _ _ _ 0 [.val (.ref 0), .val (.int p), .val (.int c)] [] _ 0 0 _
  refine W_run 0 2 (pc' := 4) (ls' := [.val (.ref 0), .val (.int p), .val (.int c)]) (st' := [.int 128, .int c]) rfl ?_
  refine W_ge (jx := 2) rfl (by decide) (pc' := 16) rfl (fun h4 => ?_) (fun h4 => ?_)
  · skip
    refine W_run 12 2 (pc' := 20) (ls' := [.val (.ref 0), .val (.int p), .val (.int c)]) (st' := [.int 2048, .int c]) rfl ?_
    refine W_ge (jx := 14) rfl (by decide) (pc' := 53) rfl (fun h20 => ?_) (fun h20 => ?_)
    · skip
      refine W_run 39 1 (pc' := 54) (ls' := [.val (.ref 0), .val (.int p), .val (.int c)]) (st' := [.int c]) rfl ?_
      refine W_ldcI (jx := 40) rfl (hw _ (List.mem_of_getElem? (i := 4) rfl)) ?_
      refine W_ge (jx := 41) rfl (by decide) (pc' := 106) rfl (fun h56 => ?_) (fun h56 => ?_)
      · skip
        refine W_run 79 6 (pc' := 115) (ls' := [.val (.ref 0), .val (.int p), .val (.int c)]) (st' := [.int (c >>> (18 &&& 31) : Int32), .int 240, .int p, .ref 0]) rfl ?_
        refine W_run 85 2 (pc' := 117) (ls' := [.val (.ref 0), .val (.int p), .val (.int c)]) (st' := [.int ((((240 : Int32) ||| (c >>> (18 &&& 31) : Int32)) : Int32).toInt8.toInt32), .int p, .ref 0]) rfl ?_
        refine W_bastore (jx := 87) rfl rfl a0' (by rw [b0']; simp <;> omega) (y := ((((240 : Int32) ||| (c >>> (18 &&& 31) : Int32)) : Int32).toInt8.toInt32)) (own_b8 _) (A1 := [.inr (.byte, ((xs ++ (((((240 : Int32) ||| (c >>> (18 &&& 31) : Int32)) : Int32).toInt8.toInt32) :: y1 :: y2 :: y3 :: ys)).map Value.int)), .inr (.int, P), .inr (.int, Q)]) (congrArg (fun z => [Sum.inr (FieldType.byte, z), .inr (.int, P), .inr (.int, Q)]) (own_setk xs [] (y1 :: y2 :: y3 :: ys) y0 ((((240 : Int32) ||| (c >>> (18 &&& 31) : Int32)) : Int32).toInt8.toInt32) _ (by rw [b0']; rfl))) ?_
        refine W_run 88 6 (pc' := 126) (ls' := [.val (.ref 0), .val (.int p), .val (.int c)]) (st' := [.int c, .int 128, .int (p + 1), .ref 0]) rfl ?_
        refine W_run 94 6 (pc' := 134) (ls' := [.val (.ref 0), .val (.int p), .val (.int c)]) (st' := [.int ((((128 : Int32) ||| ((c >>> (12 &&& 31) : Int32) &&& 63)) : Int32).toInt8.toInt32), .int (p + 1), .ref 0]) rfl ?_
        refine W_bastore (jx := 100) rfl rfl a1' (by rw [b1']; simp <;> omega) (y := ((((128 : Int32) ||| ((c >>> (12 &&& 31) : Int32) &&& 63)) : Int32).toInt8.toInt32)) (own_b8 _) (A1 := [.inr (.byte, ((xs ++ (((((240 : Int32) ||| (c >>> (18 &&& 31) : Int32)) : Int32).toInt8.toInt32) :: ((((128 : Int32) ||| ((c >>> (12 &&& 31) : Int32) &&& 63)) : Int32).toInt8.toInt32) :: y2 :: y3 :: ys)).map Value.int)), .inr (.int, P), .inr (.int, Q)]) (congrArg (fun z => [Sum.inr (FieldType.byte, z), .inr (.int, P), .inr (.int, Q)]) (own_setk xs [((((240 : Int32) ||| (c >>> (18 &&& 31) : Int32)) : Int32).toInt8.toInt32)] (y2 :: y3 :: ys) y1 ((((128 : Int32) ||| ((c >>> (12 &&& 31) : Int32) &&& 63)) : Int32).toInt8.toInt32) _ (by rw [b1']; rfl))) ?_
        refine W_run 101 6 (pc' := 143) (ls' := [.val (.ref 0), .val (.int p), .val (.int c)]) (st' := [.int c, .int 128, .int (p + 2), .ref 0]) rfl ?_
        refine W_run 107 6 (pc' := 151) (ls' := [.val (.ref 0), .val (.int p), .val (.int c)]) (st' := [.int ((((128 : Int32) ||| ((c >>> (6 &&& 31) : Int32) &&& 63)) : Int32).toInt8.toInt32), .int (p + 2), .ref 0]) rfl ?_
        refine W_bastore (jx := 113) rfl rfl a2' (by rw [b2']; simp <;> omega) (y := ((((128 : Int32) ||| ((c >>> (6 &&& 31) : Int32) &&& 63)) : Int32).toInt8.toInt32)) (own_b8 _) (A1 := [.inr (.byte, ((xs ++ (((((240 : Int32) ||| (c >>> (18 &&& 31) : Int32)) : Int32).toInt8.toInt32) :: ((((128 : Int32) ||| ((c >>> (12 &&& 31) : Int32) &&& 63)) : Int32).toInt8.toInt32) :: ((((128 : Int32) ||| ((c >>> (6 &&& 31) : Int32) &&& 63)) : Int32).toInt8.toInt32) :: y3 :: ys)).map Value.int)), .inr (.int, P), .inr (.int, Q)]) (congrArg (fun z => [Sum.inr (FieldType.byte, z), .inr (.int, P), .inr (.int, Q)]) (own_setk xs [((((240 : Int32) ||| (c >>> (18 &&& 31) : Int32)) : Int32).toInt8.toInt32), ((((128 : Int32) ||| ((c >>> (12 &&& 31) : Int32) &&& 63)) : Int32).toInt8.toInt32)] (y3 :: ys) y2 ((((128 : Int32) ||| ((c >>> (6 &&& 31) : Int32) &&& 63)) : Int32).toInt8.toInt32) _ (by rw [b2']; rfl))) ?_
        refine W_run 114 6 (pc' := 160) (ls' := [.val (.ref 0), .val (.int p), .val (.int c)]) (st' := [.int c, .int 128, .int (p + 3), .ref 0]) rfl ?_
        refine W_run 120 4 (pc' := 165) (ls' := [.val (.ref 0), .val (.int p), .val (.int c)]) (st' := [.int ((((128 : Int32) ||| (c &&& 63)) : Int32).toInt8.toInt32), .int (p + 3), .ref 0]) rfl ?_
        refine W_bastore (jx := 124) rfl rfl a3' (by rw [b3']; simp <;> omega) (y := ((((128 : Int32) ||| (c &&& 63)) : Int32).toInt8.toInt32)) (own_b8 _) (A1 := [.inr (.byte, ((xs ++ (((((240 : Int32) ||| (c >>> (18 &&& 31) : Int32)) : Int32).toInt8.toInt32) :: ((((128 : Int32) ||| ((c >>> (12 &&& 31) : Int32) &&& 63)) : Int32).toInt8.toInt32) :: ((((128 : Int32) ||| ((c >>> (6 &&& 31) : Int32) &&& 63)) : Int32).toInt8.toInt32) :: ((((128 : Int32) ||| (c &&& 63)) : Int32).toInt8.toInt32) :: ys)).map Value.int)), .inr (.int, P), .inr (.int, Q)]) (congrArg (fun z => [Sum.inr (FieldType.byte, z), .inr (.int, P), .inr (.int, Q)]) (own_setk xs [((((240 : Int32) ||| (c >>> (18 &&& 31) : Int32)) : Int32).toInt8.toInt32), ((((128 : Int32) ||| ((c >>> (12 &&& 31) : Int32) &&& 63)) : Int32).toInt8.toInt32), ((((128 : Int32) ||| ((c >>> (6 &&& 31) : Int32) &&& 63)) : Int32).toInt8.toInt32)] (ys) y3 ((((128 : Int32) ||| (c &&& 63)) : Int32).toInt8.toInt32) _ (by rw [b3']; rfl))) ?_
        refine W_run 125 3 (pc' := 169) (ls' := [.val (.ref 0), .val (.int p), .val (.int c)]) (st' := [.int (p + 4)]) rfl ?_
        refine W_ireturn (jx := 128) rfl rfl (by decide) (by decide) ?_
        refine ⟨?_, ?_⟩
        · unfold own_len
          first | rw [if_pos h4] | rw [if_neg h4, if_pos h20] | rw [if_neg h4, if_neg h20, if_pos h56] | rw [if_neg h4, if_neg h20, if_neg h56]
        · unfold own_enc
          first | (rw [if_pos h4] <;> rfl) | (rw [if_neg h4, if_pos h20] <;> rfl) | (rw [if_neg h4, if_neg h20, if_pos h56] <;> rfl) | (rw [if_neg h4, if_neg h20, if_neg h56] <;> rfl)
      · skip
        refine W_run 42 6 (pc' := 68) (ls' := [.val (.ref 0), .val (.int p), .val (.int c)]) (st' := [.int (c >>> (12 &&& 31) : Int32), .int 224, .int p, .ref 0]) rfl ?_
        refine W_run 48 2 (pc' := 70) (ls' := [.val (.ref 0), .val (.int p), .val (.int c)]) (st' := [.int ((((224 : Int32) ||| (c >>> (12 &&& 31) : Int32)) : Int32).toInt8.toInt32), .int p, .ref 0]) rfl ?_
        refine W_bastore (jx := 50) rfl rfl a0' (by rw [b0']; simp <;> omega) (y := ((((224 : Int32) ||| (c >>> (12 &&& 31) : Int32)) : Int32).toInt8.toInt32)) (own_b8 _) (A1 := [.inr (.byte, ((xs ++ (((((224 : Int32) ||| (c >>> (12 &&& 31) : Int32)) : Int32).toInt8.toInt32) :: y1 :: y2 :: y3 :: ys)).map Value.int)), .inr (.int, P), .inr (.int, Q)]) (congrArg (fun z => [Sum.inr (FieldType.byte, z), .inr (.int, P), .inr (.int, Q)]) (own_setk xs [] (y1 :: y2 :: y3 :: ys) y0 ((((224 : Int32) ||| (c >>> (12 &&& 31) : Int32)) : Int32).toInt8.toInt32) _ (by rw [b0']; rfl))) ?_
        refine W_run 51 6 (pc' := 79) (ls' := [.val (.ref 0), .val (.int p), .val (.int c)]) (st' := [.int c, .int 128, .int (p + 1), .ref 0]) rfl ?_
        refine W_run 57 6 (pc' := 87) (ls' := [.val (.ref 0), .val (.int p), .val (.int c)]) (st' := [.int ((((128 : Int32) ||| ((c >>> (6 &&& 31) : Int32) &&& 63)) : Int32).toInt8.toInt32), .int (p + 1), .ref 0]) rfl ?_
        refine W_bastore (jx := 63) rfl rfl a1' (by rw [b1']; simp <;> omega) (y := ((((128 : Int32) ||| ((c >>> (6 &&& 31) : Int32) &&& 63)) : Int32).toInt8.toInt32)) (own_b8 _) (A1 := [.inr (.byte, ((xs ++ (((((224 : Int32) ||| (c >>> (12 &&& 31) : Int32)) : Int32).toInt8.toInt32) :: ((((128 : Int32) ||| ((c >>> (6 &&& 31) : Int32) &&& 63)) : Int32).toInt8.toInt32) :: y2 :: y3 :: ys)).map Value.int)), .inr (.int, P), .inr (.int, Q)]) (congrArg (fun z => [Sum.inr (FieldType.byte, z), .inr (.int, P), .inr (.int, Q)]) (own_setk xs [((((224 : Int32) ||| (c >>> (12 &&& 31) : Int32)) : Int32).toInt8.toInt32)] (y2 :: y3 :: ys) y1 ((((128 : Int32) ||| ((c >>> (6 &&& 31) : Int32) &&& 63)) : Int32).toInt8.toInt32) _ (by rw [b1']; rfl))) ?_
        refine W_run 64 6 (pc' := 96) (ls' := [.val (.ref 0), .val (.int p), .val (.int c)]) (st' := [.int c, .int 128, .int (p + 2), .ref 0]) rfl ?_
        refine W_run 70 4 (pc' := 101) (ls' := [.val (.ref 0), .val (.int p), .val (.int c)]) (st' := [.int ((((128 : Int32) ||| (c &&& 63)) : Int32).toInt8.toInt32), .int (p + 2), .ref 0]) rfl ?_
        refine W_bastore (jx := 74) rfl rfl a2' (by rw [b2']; simp <;> omega) (y := ((((128 : Int32) ||| (c &&& 63)) : Int32).toInt8.toInt32)) (own_b8 _) (A1 := [.inr (.byte, ((xs ++ (((((224 : Int32) ||| (c >>> (12 &&& 31) : Int32)) : Int32).toInt8.toInt32) :: ((((128 : Int32) ||| ((c >>> (6 &&& 31) : Int32) &&& 63)) : Int32).toInt8.toInt32) :: ((((128 : Int32) ||| (c &&& 63)) : Int32).toInt8.toInt32) :: y3 :: ys)).map Value.int)), .inr (.int, P), .inr (.int, Q)]) (congrArg (fun z => [Sum.inr (FieldType.byte, z), .inr (.int, P), .inr (.int, Q)]) (own_setk xs [((((224 : Int32) ||| (c >>> (12 &&& 31) : Int32)) : Int32).toInt8.toInt32), ((((128 : Int32) ||| ((c >>> (6 &&& 31) : Int32) &&& 63)) : Int32).toInt8.toInt32)] (y3 :: ys) y2 ((((128 : Int32) ||| (c &&& 63)) : Int32).toInt8.toInt32) _ (by rw [b2']; rfl))) ?_
        refine W_run 75 3 (pc' := 105) (ls' := [.val (.ref 0), .val (.int p), .val (.int c)]) (st' := [.int (p + 3)]) rfl ?_
        refine W_ireturn (jx := 78) rfl rfl (by decide) (by decide) ?_
        refine ⟨?_, ?_⟩
        · unfold own_len
          first | rw [if_pos h4] | rw [if_neg h4, if_pos h20] | rw [if_neg h4, if_neg h20, if_pos h56] | rw [if_neg h4, if_neg h20, if_neg h56]
        · unfold own_enc
          first | (rw [if_pos h4] <;> rfl) | (rw [if_neg h4, if_pos h20] <;> rfl) | (rw [if_neg h4, if_neg h20, if_pos h56] <;> rfl) | (rw [if_neg h4, if_neg h20, if_neg h56] <;> rfl)
    · skip
      refine W_run 15 6 (pc' := 32) (ls' := [.val (.ref 0), .val (.int p), .val (.int c)]) (st' := [.int (c >>> (6 &&& 31) : Int32), .int 192, .int p, .ref 0]) rfl ?_
      refine W_run 21 2 (pc' := 34) (ls' := [.val (.ref 0), .val (.int p), .val (.int c)]) (st' := [.int ((((192 : Int32) ||| (c >>> (6 &&& 31) : Int32)) : Int32).toInt8.toInt32), .int p, .ref 0]) rfl ?_
      refine W_bastore (jx := 23) rfl rfl a0' (by rw [b0']; simp <;> omega) (y := ((((192 : Int32) ||| (c >>> (6 &&& 31) : Int32)) : Int32).toInt8.toInt32)) (own_b8 _) (A1 := [.inr (.byte, ((xs ++ (((((192 : Int32) ||| (c >>> (6 &&& 31) : Int32)) : Int32).toInt8.toInt32) :: y1 :: y2 :: y3 :: ys)).map Value.int)), .inr (.int, P), .inr (.int, Q)]) (congrArg (fun z => [Sum.inr (FieldType.byte, z), .inr (.int, P), .inr (.int, Q)]) (own_setk xs [] (y1 :: y2 :: y3 :: ys) y0 ((((192 : Int32) ||| (c >>> (6 &&& 31) : Int32)) : Int32).toInt8.toInt32) _ (by rw [b0']; rfl))) ?_
      refine W_run 24 6 (pc' := 43) (ls' := [.val (.ref 0), .val (.int p), .val (.int c)]) (st' := [.int c, .int 128, .int (p + 1), .ref 0]) rfl ?_
      refine W_run 30 4 (pc' := 48) (ls' := [.val (.ref 0), .val (.int p), .val (.int c)]) (st' := [.int ((((128 : Int32) ||| (c &&& 63)) : Int32).toInt8.toInt32), .int (p + 1), .ref 0]) rfl ?_
      refine W_bastore (jx := 34) rfl rfl a1' (by rw [b1']; simp <;> omega) (y := ((((128 : Int32) ||| (c &&& 63)) : Int32).toInt8.toInt32)) (own_b8 _) (A1 := [.inr (.byte, ((xs ++ (((((192 : Int32) ||| (c >>> (6 &&& 31) : Int32)) : Int32).toInt8.toInt32) :: ((((128 : Int32) ||| (c &&& 63)) : Int32).toInt8.toInt32) :: y2 :: y3 :: ys)).map Value.int)), .inr (.int, P), .inr (.int, Q)]) (congrArg (fun z => [Sum.inr (FieldType.byte, z), .inr (.int, P), .inr (.int, Q)]) (own_setk xs [((((192 : Int32) ||| (c >>> (6 &&& 31) : Int32)) : Int32).toInt8.toInt32)] (y2 :: y3 :: ys) y1 ((((128 : Int32) ||| (c &&& 63)) : Int32).toInt8.toInt32) _ (by rw [b1']; rfl))) ?_
      refine W_run 35 3 (pc' := 52) (ls' := [.val (.ref 0), .val (.int p), .val (.int c)]) (st' := [.int (p + 2)]) rfl ?_
      refine W_ireturn (jx := 38) rfl rfl (by decide) (by decide) ?_
      refine ⟨?_, ?_⟩
      · unfold own_len
        first | rw [if_pos h4] | rw [if_neg h4, if_pos h20] | rw [if_neg h4, if_neg h20, if_pos h56] | rw [if_neg h4, if_neg h20, if_neg h56]
      · unfold own_enc
        first | (rw [if_pos h4] <;> rfl) | (rw [if_neg h4, if_pos h20] <;> rfl) | (rw [if_neg h4, if_neg h20, if_pos h56] <;> rfl) | (rw [if_neg h4, if_neg h20, if_neg h56] <;> rfl)
  · skip
    refine W_run 3 4 (pc' := 11) (ls' := [.val (.ref 0), .val (.int p), .val (.int c)]) (st' := [.int (c.toInt8.toInt32), .int p, .ref 0]) rfl ?_
    refine W_bastore (jx := 7) rfl rfl a0' (by rw [b0']; simp <;> omega) (y := (c.toInt8.toInt32)) (own_b8 _) (A1 := [.inr (.byte, ((xs ++ ((c.toInt8.toInt32) :: y1 :: y2 :: y3 :: ys)).map Value.int)), .inr (.int, P), .inr (.int, Q)]) (congrArg (fun z => [Sum.inr (FieldType.byte, z), .inr (.int, P), .inr (.int, Q)]) (own_setk xs [] (y1 :: y2 :: y3 :: ys) y0 (c.toInt8.toInt32) _ (by rw [b0']; rfl))) ?_
    refine W_run 8 3 (pc' := 15) (ls' := [.val (.ref 0), .val (.int p), .val (.int c)]) (st' := [.int (p + 1)]) rfl ?_
    refine W_ireturn (jx := 11) rfl rfl (by decide) (by decide) ?_
    refine ⟨?_, ?_⟩
    · unfold own_len
      first | rw [if_pos h4] | rw [if_neg h4, if_pos h20] | rw [if_neg h4, if_neg h20, if_pos h56] | rw [if_neg h4, if_neg h20, if_neg h56]
    · unfold own_enc
      first | (rw [if_pos h4] <;> rfl) | (rw [if_neg h4, if_pos h20] <;> rfl) | (rw [if_neg h4, if_neg h20, if_pos h56] <;> rfl) | (rw [if_neg h4, if_neg h20, if_neg h56] <;> rfl)
set_option maxRecDepth 65536 in
set_option maxHeartbeats 4000000 in
theorem own_loop {l : Launch} {Z : State} {a0 : Array Value} (hw : ∀ d ∈ tables_1, d.before a0 Z = true) {n0 : Nat} (P Q : List Value) (post : List Int32) (f t : Int32) (mid : List Int32) : ∀ (pre : List Int32) (col i : Int32) (s5 : Slot) (hs : s5 = .unset ∨ ∃ z, s5 = .val (.int z)) (hi : i.toInt = pre.length) (ht : t.toInt = pre.length + mid.length) (hl : pre.length + mid.length ≤ 19),
    WP false l Z n0 own_lay "com/example/sublink/sublink/Utf8" own_D4 6 (some .int) "column" ({ frames := 0, cells := 0, slots := 0, locals := 0 } : Room) 5 [.val (.ref 0), .val (.int f), .val (.int t), .val (.int col), .val (.int i), s5] [] [.inr (.byte, ((pre ++ (mid ++ post)).map Value.int)), .inr (.int, P), .inr (.int, Q)] 0 0 (fun v B => v = some (.int (own_fold mid col)) ∧ B = [.inr (.byte, ((pre ++ (mid ++ post)).map Value.int)), .inr (.int, P), .inr (.int, Q)]) := by
  induction mid with
  | nil =>
    intro pre col i s5 hs hi ht hl
    refine W_run 4 2 (pc' := 8) (ls' := [.val (.ref 0), .val (.int f), .val (.int t), .val (.int col), .val (.int i), s5]) (st' := [.int t, .int i]) rfl ?_
    refine W_ge (jx := 6) rfl (by decide) (pc' := 60) rfl (fun h8 => ?_) (fun h8 => ?_)
    · skip
      refine W_run 27 1 (pc' := 61) (ls' := [.val (.ref 0), .val (.int f), .val (.int t), .val (.int col), .val (.int i), s5]) (st' := [.int col]) rfl ?_
      refine W_ireturn (jx := 28) rfl rfl (by decide) (by decide) ?_
      exact ⟨rfl, rfl⟩
    · skip
      exfalso
      simp only [Int32.lt_iff_toInt_lt] at h8
      simp at ht
      omega
  | cons b mid ih =>
    intro pre col i s5 hs hi ht hl
    simp only [List.length_cons] at ht hl
    have hi1 := own_iadd hi (show (1 : Int32).toInt = 1 by decide) (by omega)
    obtain ⟨g0, g1⟩ := own_at pre (mid ++ post) b i hi
    have eq : (pre ++ (b :: mid ++ post)) = ((pre ++ [b]) ++ (mid ++ post)) := by simp
    rcases hs with rfl | ⟨z, rfl⟩
    · skip
      refine W_run 4 2 (pc' := 8) (ls' := [.val (.ref 0), .val (.int f), .val (.int t), .val (.int col), .val (.int i), .unset]) (st' := [.int t, .int i]) rfl ?_
      refine W_ge (jx := 6) rfl (by decide) (pc' := 60) rfl (fun h8 => ?_) (fun h8 => ?_)
      · skip
        exfalso
        simp only [Int32.lt_iff_toInt_lt] at h8
        omega
      · skip
        refine W_run 7 2 (pc' := 14) (ls' := [.val (.ref 0), .val (.int f), .val (.int t), .val (.int col), .val (.int i), .unset]) (st' := [.int i, .ref 0]) rfl ?_
        refine W_baload (jx := 9) rfl rfl g0 (v := .int b) g1 ?_
        refine W_run 10 3 (pc' := 21) (ls' := [.val (.ref 0), .val (.int f), .val (.int t), .val (.int col), .val (.int i), .val (.int (b &&& 255))]) (st' := []) rfl ?_
        refine W_run 13 2 (pc' := 26) (ls' := [.val (.ref 0), .val (.int f), .val (.int t), .val (.int col), .val (.int i), .val (.int (b &&& 255))]) (st' := [.int 240, .int (b &&& 255)]) rfl ?_
        refine W_lt (jx := 15) rfl (by decide) (pc' := 35) rfl (fun h26 => ?_) (fun h26 => ?_)
        · skip
          refine W_run 18 2 (pc' := 40) (ls' := [.val (.ref 0), .val (.int f), .val (.int t), .val (.int col), .val (.int i), .val (.int (b &&& 255))]) (st' := [.int 128, .int (b &&& 255)]) rfl ?_
          refine W_lt (jx := 20) rfl (by decide) (pc' := 51) rfl (fun h40 => ?_) (fun h40 => ?_)
          · skip
            refine W_run 24 1 (pc' := 54) (ls' := [.val (.ref 0), .val (.int f), .val (.int t), .val (.int (col + 1)), .val (.int i), .val (.int (b &&& 255))]) (st' := []) rfl ?_
            refine W_run 25 1 (pc' := 57) (ls' := [.val (.ref 0), .val (.int f), .val (.int t), .val (.int (col + 1)), .val (.int (i + 1)), .val (.int (b &&& 255))]) (st' := []) rfl ?_
            refine W_run 26 1 (pc' := 5) (ls' := [.val (.ref 0), .val (.int f), .val (.int t), .val (.int (col + 1)), .val (.int (i + 1)), .val (.int (b &&& 255))]) (st' := []) rfl ?_
            have hw0 : own_w b = 1 := by
              unfold own_w
              rw [if_neg (by simp only [Int32.lt_iff_toInt_lt, Int32.reduceToInt] at *; omega), if_pos (by simp only [Int32.lt_iff_toInt_lt, Int32.reduceToInt] at *; omega)]
            have e1 : own_fold (b :: mid) col = own_fold mid (col + 1) := by
              show own_fold mid (col + own_w b) = _
              rw [hw0]
            rw [e1, eq]
            exact ih (pre ++ [b]) (col + 1) (i + 1) (.val (.int (b &&& 255))) (Or.inr ⟨_, rfl⟩) (by simpa using hi1) (by simp; omega) (by simp; omega)
          · skip
            refine W_run 21 2 (pc' := 48) (ls' := [.val (.ref 0), .val (.int f), .val (.int t), .val (.int col), .val (.int i), .val (.int (b &&& 255))]) (st' := [.int 192, .int (b &&& 255)]) rfl ?_
            refine W_lt (jx := 23) rfl (by decide) (pc' := 54) rfl (fun h48 => ?_) (fun h48 => ?_)
            · skip
              refine W_run 25 1 (pc' := 57) (ls' := [.val (.ref 0), .val (.int f), .val (.int t), .val (.int col), .val (.int (i + 1)), .val (.int (b &&& 255))]) (st' := []) rfl ?_
              refine W_run 26 1 (pc' := 5) (ls' := [.val (.ref 0), .val (.int f), .val (.int t), .val (.int col), .val (.int (i + 1)), .val (.int (b &&& 255))]) (st' := []) rfl ?_
              have hw0 : own_w b = 0 := by
                unfold own_w
                rw [if_neg (by simp only [Int32.lt_iff_toInt_lt, Int32.reduceToInt] at *; omega), if_neg (by simp only [Int32.lt_iff_toInt_lt, Int32.reduceToInt] at *; omega)]
              have e1 : own_fold (b :: mid) col = own_fold mid col := by
                show own_fold mid (col + own_w b) = _
                rw [hw0, Int32.add_zero]
              rw [e1, eq]
              exact ih (pre ++ [b]) col (i + 1) (.val (.int (b &&& 255))) (Or.inr ⟨_, rfl⟩) (by simpa using hi1) (by simp; omega) (by simp; omega)
            · skip
              refine W_run 24 1 (pc' := 54) (ls' := [.val (.ref 0), .val (.int f), .val (.int t), .val (.int (col + 1)), .val (.int i), .val (.int (b &&& 255))]) (st' := []) rfl ?_
              refine W_run 25 1 (pc' := 57) (ls' := [.val (.ref 0), .val (.int f), .val (.int t), .val (.int (col + 1)), .val (.int (i + 1)), .val (.int (b &&& 255))]) (st' := []) rfl ?_
              refine W_run 26 1 (pc' := 5) (ls' := [.val (.ref 0), .val (.int f), .val (.int t), .val (.int (col + 1)), .val (.int (i + 1)), .val (.int (b &&& 255))]) (st' := []) rfl ?_
              have hw0 : own_w b = 1 := by
                unfold own_w
                rw [if_neg (by simp only [Int32.lt_iff_toInt_lt, Int32.reduceToInt] at *; omega), if_pos (by simp only [Int32.lt_iff_toInt_lt, Int32.reduceToInt] at *; omega)]
              have e1 : own_fold (b :: mid) col = own_fold mid (col + 1) := by
                show own_fold mid (col + own_w b) = _
                rw [hw0]
              rw [e1, eq]
              exact ih (pre ++ [b]) (col + 1) (i + 1) (.val (.int (b &&& 255))) (Or.inr ⟨_, rfl⟩) (by simpa using hi1) (by simp; omega) (by simp; omega)
        · skip
          refine W_run 16 1 (pc' := 32) (ls' := [.val (.ref 0), .val (.int f), .val (.int t), .val (.int (col + 2)), .val (.int i), .val (.int (b &&& 255))]) (st' := []) rfl ?_
          refine W_run 17 1 (pc' := 54) (ls' := [.val (.ref 0), .val (.int f), .val (.int t), .val (.int (col + 2)), .val (.int i), .val (.int (b &&& 255))]) (st' := []) rfl ?_
          refine W_run 25 1 (pc' := 57) (ls' := [.val (.ref 0), .val (.int f), .val (.int t), .val (.int (col + 2)), .val (.int (i + 1)), .val (.int (b &&& 255))]) (st' := []) rfl ?_
          refine W_run 26 1 (pc' := 5) (ls' := [.val (.ref 0), .val (.int f), .val (.int t), .val (.int (col + 2)), .val (.int (i + 1)), .val (.int (b &&& 255))]) (st' := []) rfl ?_
          have hw0 : own_w b = 2 := by
            unfold own_w
            rw [if_pos (by simp only [Int32.lt_iff_toInt_lt, Int32.reduceToInt] at *; omega)]
          have e1 : own_fold (b :: mid) col = own_fold mid (col + 2) := by
            show own_fold mid (col + own_w b) = _
            rw [hw0]
          rw [e1, eq]
          exact ih (pre ++ [b]) (col + 2) (i + 1) (.val (.int (b &&& 255))) (Or.inr ⟨_, rfl⟩) (by simpa using hi1) (by simp; omega) (by simp; omega)
    · skip
      refine W_run 4 2 (pc' := 8) (ls' := [.val (.ref 0), .val (.int f), .val (.int t), .val (.int col), .val (.int i), .val (.int z)]) (st' := [.int t, .int i]) rfl ?_
      refine W_ge (jx := 6) rfl (by decide) (pc' := 60) rfl (fun h8 => ?_) (fun h8 => ?_)
      · skip
        exfalso
        simp only [Int32.lt_iff_toInt_lt] at h8
        omega
      · skip
        refine W_run 7 2 (pc' := 14) (ls' := [.val (.ref 0), .val (.int f), .val (.int t), .val (.int col), .val (.int i), .val (.int z)]) (st' := [.int i, .ref 0]) rfl ?_
        refine W_baload (jx := 9) rfl rfl g0 (v := .int b) g1 ?_
        refine W_run 10 3 (pc' := 21) (ls' := [.val (.ref 0), .val (.int f), .val (.int t), .val (.int col), .val (.int i), .val (.int (b &&& 255))]) (st' := []) rfl ?_
        refine W_run 13 2 (pc' := 26) (ls' := [.val (.ref 0), .val (.int f), .val (.int t), .val (.int col), .val (.int i), .val (.int (b &&& 255))]) (st' := [.int 240, .int (b &&& 255)]) rfl ?_
        refine W_lt (jx := 15) rfl (by decide) (pc' := 35) rfl (fun h26 => ?_) (fun h26 => ?_)
        · skip
          refine W_run 18 2 (pc' := 40) (ls' := [.val (.ref 0), .val (.int f), .val (.int t), .val (.int col), .val (.int i), .val (.int (b &&& 255))]) (st' := [.int 128, .int (b &&& 255)]) rfl ?_
          refine W_lt (jx := 20) rfl (by decide) (pc' := 51) rfl (fun h40 => ?_) (fun h40 => ?_)
          · skip
            refine W_run 24 1 (pc' := 54) (ls' := [.val (.ref 0), .val (.int f), .val (.int t), .val (.int (col + 1)), .val (.int i), .val (.int (b &&& 255))]) (st' := []) rfl ?_
            refine W_run 25 1 (pc' := 57) (ls' := [.val (.ref 0), .val (.int f), .val (.int t), .val (.int (col + 1)), .val (.int (i + 1)), .val (.int (b &&& 255))]) (st' := []) rfl ?_
            refine W_run 26 1 (pc' := 5) (ls' := [.val (.ref 0), .val (.int f), .val (.int t), .val (.int (col + 1)), .val (.int (i + 1)), .val (.int (b &&& 255))]) (st' := []) rfl ?_
            have hw0 : own_w b = 1 := by
              unfold own_w
              rw [if_neg (by simp only [Int32.lt_iff_toInt_lt, Int32.reduceToInt] at *; omega), if_pos (by simp only [Int32.lt_iff_toInt_lt, Int32.reduceToInt] at *; omega)]
            have e1 : own_fold (b :: mid) col = own_fold mid (col + 1) := by
              show own_fold mid (col + own_w b) = _
              rw [hw0]
            rw [e1, eq]
            exact ih (pre ++ [b]) (col + 1) (i + 1) (.val (.int (b &&& 255))) (Or.inr ⟨_, rfl⟩) (by simpa using hi1) (by simp; omega) (by simp; omega)
          · skip
            refine W_run 21 2 (pc' := 48) (ls' := [.val (.ref 0), .val (.int f), .val (.int t), .val (.int col), .val (.int i), .val (.int (b &&& 255))]) (st' := [.int 192, .int (b &&& 255)]) rfl ?_
            refine W_lt (jx := 23) rfl (by decide) (pc' := 54) rfl (fun h48 => ?_) (fun h48 => ?_)
            · skip
              refine W_run 25 1 (pc' := 57) (ls' := [.val (.ref 0), .val (.int f), .val (.int t), .val (.int col), .val (.int (i + 1)), .val (.int (b &&& 255))]) (st' := []) rfl ?_
              refine W_run 26 1 (pc' := 5) (ls' := [.val (.ref 0), .val (.int f), .val (.int t), .val (.int col), .val (.int (i + 1)), .val (.int (b &&& 255))]) (st' := []) rfl ?_
              have hw0 : own_w b = 0 := by
                unfold own_w
                rw [if_neg (by simp only [Int32.lt_iff_toInt_lt, Int32.reduceToInt] at *; omega), if_neg (by simp only [Int32.lt_iff_toInt_lt, Int32.reduceToInt] at *; omega)]
              have e1 : own_fold (b :: mid) col = own_fold mid col := by
                show own_fold mid (col + own_w b) = _
                rw [hw0, Int32.add_zero]
              rw [e1, eq]
              exact ih (pre ++ [b]) col (i + 1) (.val (.int (b &&& 255))) (Or.inr ⟨_, rfl⟩) (by simpa using hi1) (by simp; omega) (by simp; omega)
            · skip
              refine W_run 24 1 (pc' := 54) (ls' := [.val (.ref 0), .val (.int f), .val (.int t), .val (.int (col + 1)), .val (.int i), .val (.int (b &&& 255))]) (st' := []) rfl ?_
              refine W_run 25 1 (pc' := 57) (ls' := [.val (.ref 0), .val (.int f), .val (.int t), .val (.int (col + 1)), .val (.int (i + 1)), .val (.int (b &&& 255))]) (st' := []) rfl ?_
              refine W_run 26 1 (pc' := 5) (ls' := [.val (.ref 0), .val (.int f), .val (.int t), .val (.int (col + 1)), .val (.int (i + 1)), .val (.int (b &&& 255))]) (st' := []) rfl ?_
              have hw0 : own_w b = 1 := by
                unfold own_w
                rw [if_neg (by simp only [Int32.lt_iff_toInt_lt, Int32.reduceToInt] at *; omega), if_pos (by simp only [Int32.lt_iff_toInt_lt, Int32.reduceToInt] at *; omega)]
              have e1 : own_fold (b :: mid) col = own_fold mid (col + 1) := by
                show own_fold mid (col + own_w b) = _
                rw [hw0]
              rw [e1, eq]
              exact ih (pre ++ [b]) (col + 1) (i + 1) (.val (.int (b &&& 255))) (Or.inr ⟨_, rfl⟩) (by simpa using hi1) (by simp; omega) (by simp; omega)
        · skip
          refine W_run 16 1 (pc' := 32) (ls' := [.val (.ref 0), .val (.int f), .val (.int t), .val (.int (col + 2)), .val (.int i), .val (.int (b &&& 255))]) (st' := []) rfl ?_
          refine W_run 17 1 (pc' := 54) (ls' := [.val (.ref 0), .val (.int f), .val (.int t), .val (.int (col + 2)), .val (.int i), .val (.int (b &&& 255))]) (st' := []) rfl ?_
          refine W_run 25 1 (pc' := 57) (ls' := [.val (.ref 0), .val (.int f), .val (.int t), .val (.int (col + 2)), .val (.int (i + 1)), .val (.int (b &&& 255))]) (st' := []) rfl ?_
          refine W_run 26 1 (pc' := 5) (ls' := [.val (.ref 0), .val (.int f), .val (.int t), .val (.int (col + 2)), .val (.int (i + 1)), .val (.int (b &&& 255))]) (st' := []) rfl ?_
          have hw0 : own_w b = 2 := by
            unfold own_w
            rw [if_pos (by simp only [Int32.lt_iff_toInt_lt, Int32.reduceToInt] at *; omega)]
          have e1 : own_fold (b :: mid) col = own_fold mid (col + 2) := by
            show own_fold mid (col + own_w b) = _
            rw [hw0]
          rw [e1, eq]
          exact ih (pre ++ [b]) (col + 2) (i + 1) (.val (.int (b &&& 255))) (Or.inr ⟨_, rfl⟩) (by simpa using hi1) (by simp; omega) (by simp; omega)
set_option maxRecDepth 65536 in
theorem own_m4 {l : Launch} {Z : State} {a0 : Array Value} (hw : ∀ d ∈ tables_1, d.before a0 Z = true) {n0 : Nat} (P Q : List Value) (pre mid post : List Int32) (f t : Int32) (hf : f.toInt = pre.length) (ht : t.toInt = pre.length + mid.length) (hl : pre.length + mid.length ≤ 19) :
    MT false l Z n0 own_lay (⟨"com/example/sublink/sublink/Utf8", "column", "([BII)I"⟩ : MethodName) prog_47_method_4_code 6 (some .int) [] ({ frames := 0, cells := 0, slots := 0, locals := 0 } : Room) [.ref 0, .int f, .int t] [.inr (.byte, ((pre ++ (mid ++ post)).map Value.int)), .inr (.int, P), .inr (.int, Q)] (fun v B => v = some (.int (own_fold mid 1)) ∧ B = [.inr (.byte, ((pre ++ (mid ++ post)).map Value.int)), .inr (.int, P), .inr (.int, Q)]) := by
  refine W_enter (D := own_D4) own_pn4 own_D4_ok ?_
  show WP _ _ _ _ _ _ _ _ _ _ _ 0 [.val (.ref 0), .val (.int f), .val (.int t), .unset, .unset, .unset] [] _ 0 0 _
  refine W_run 0 2 (pc' := 2) (ls' := [.val (.ref 0), .val (.int f), .val (.int t), .val (.int 1), .unset, .unset]) (st' := []) rfl ?_
  refine W_run 2 2 (pc' := 5) (ls' := [.val (.ref 0), .val (.int f), .val (.int t), .val (.int 1), .val (.int f), .unset]) (st' := []) rfl ?_
  exact own_loop hw P Q post f t mid pre 1 f .unset (Or.inl rfl) hf ht hl
theorem own_k5 (x k : Int32) (h : ((x &&& 2147483647) % 5) = k) : k = 0 ∨ k = 1 ∨ k = 2 ∨ k = 3 ∨ k = 4 := by
  have q := c_mask x 2147483647 31 (by decide) (by decide)
  have p := (c_irem (x &&& 2147483647) 5 5 (by decide)).1 (by omega)
  rw [h] at p
  simp only [← Int32.toInt_inj, Int32.reduceToInt]
  omega
theorem own_f4 (x k : Int32) (h : (x &&& 3) = k) : k = 0 ∨ k = 1 ∨ k = 2 ∨ k = 3 := by
  have q := c_mask x 3 2 (by decide) (by decide)
  rw [h] at q
  simp only [← Int32.toInt_inj, Int32.reduceToInt]
  omega
/-- four at least are left -/
theorem own_four (ys : List Int32) (h : 4 ≤ ys.length) : ∃ y0 y1 y2 y3 zs, ys = y0 :: y1 :: y2 :: y3 :: zs := by
  match ys, h with
  | y0 :: y1 :: y2 :: y3 :: zs, _ => exact ⟨y0, y1, y2, y3, zs, rfl⟩
theorem own_next (p c : Int32) (xs : List Int32) (h : p.toInt = xs.length) (hx : xs.length ≤ 15) : (p + own_len c).toInt = (xs ++ own_enc c).length := by
  have e := own_len_eq c
  have a := own_iadd h e.1 (by omega)
  rw [a, List.length_append]
  omega
theorem own_m4z {l : Launch} {Z : State} {a0 : Array Value} (hw : ∀ d ∈ tables_1, d.before a0 Z = true) {n0 : Nat} (P Q : List Value) (pre post : List Int32) (f t : Int32) (hf : f.toInt = pre.length) (ht : t.toInt = pre.length) (hl : pre.length ≤ 19) :
    MT false l Z n0 own_lay (⟨"com/example/sublink/sublink/Utf8", "column", "([BII)I"⟩ : MethodName) prog_47_method_4_code 6 (some .int) [] ({ frames := 0, cells := 0, slots := 0, locals := 0 } : Room) [.ref 0, .int f, .int t] [.inr (.byte, ((pre ++ post).map Value.int)), .inr (.int, P), .inr (.int, Q)] (fun v B => v = some (.int 1) ∧ B = [.inr (.byte, ((pre ++ post).map Value.int)), .inr (.int, P), .inr (.int, Q)]) := by
  exact own_m4 hw P Q pre [] post f t hf (by simpa using ht) (by simpa using hl)
set_option maxRecDepth 65536 in
set_option maxHeartbeats 40000000 in
theorem own_K0 {l : Launch} {Z : State} {a0 : Array Value} (hw : ∀ d ∈ tables_1, d.before a0 Z = true) {n0 : Nat} (p0 p1 p2 p3 p4 p5 c0 c1 c2 c3 q0 q1 q2 q3 q4 : Int32) (xs ys4 : List Int32) (hq0 : q0.toInt = xs.length) (hq1 : q1.toInt = (xs ++ own_enc c0).length) (hq2 : q2.toInt = ((xs ++ own_enc c0) ++ own_enc c1).length) (hq3 : q3.toInt = (((xs ++ own_enc c0) ++ own_enc c1) ++ own_enc c2).length) (hq4 : q4.toInt = ((((xs ++ own_enc c0) ++ own_enc c1) ++ own_enc c2) ++ own_enc c3).length) (B4 : ((((xs ++ own_enc c0) ++ own_enc c1) ++ own_enc c2) ++ own_enc c3).length ≤ 19) (hc0 : 0 ≤ c0.toInt ∧ c0.toInt < 1114112) (hc1 : 0 ≤ c1.toInt ∧ c1.toInt < 1114112) (hc2 : 0 ≤ c2.toInt ∧ c2.toInt < 1114112) (hc3 : 0 ≤ c3.toInt ∧ c3.toInt < 1114112) :
    WP false l Z n0 own_lay x.cls own_D0 maxLocals ret x.name room_1 210 [.val (.int p0), .val (.int p1), .val (.int p2), .val (.int p3), .val (.int p4), .val (.int p5), .val (.int c0), .val (.int c1), .val (.int c2), .val (.int c3), .val (.ref 0), .val (.int q0), .val (.ref 1), .val (.ref 2), .unset] [.int 0] [.inr (.byte, ((((((xs ++ own_enc c0) ++ own_enc c1) ++ own_enc c2) ++ own_enc c3) ++ ys4).map Value.int)), .inr (.int, [.int q0, .int q1, .int q2, .int q3, .int q4]), .inr (.int, [.int 1, .int (1 + (own_units c0)), .int ((1 + (own_units c0)) + (own_units c1)), .int (((1 + (own_units c0)) + (own_units c1)) + (own_units c2)), .int ((((1 + (own_units c0)) + (own_units c1)) + (own_units c2)) + (own_units c3))])] 3 29 (fun v B => v = some (.int 1)) := by
  refine W_run 131 1 (pc' := 212) (ls' := [.val (.int p0), .val (.int p1), .val (.int p2), .val (.int p3), .val (.int p4), .val (.int p5), .val (.int c0), .val (.int c1), .val (.int c2), .val (.int c3), .val (.ref 0), .val (.int q0), .val (.ref 1), .val (.ref 2), .val (.int 0)]) (st' := []) rfl ?_
  refine W_run 132 4 (pc' := 220) (ls' := [.val (.int p0), .val (.int p1), .val (.int p2), .val (.int p3), .val (.int p4), .val (.int p5), .val (.int c0), .val (.int c1), .val (.int c2), .val (.int c3), .val (.ref 0), .val (.int q0), .val (.ref 1), .val (.ref 2), .val (.int 0)]) (st' := [.int 0, .ref 1, .int q0, .ref 0]) rfl ?_
  refine W_iaload (jx := 136) rfl rfl (by decide) (v := .int q0) rfl ?_
  rw [show (((((xs ++ own_enc c0) ++ own_enc c1) ++ own_enc c2) ++ own_enc c3) ++ ys4) = (xs ++ (own_enc c0 ++ (own_enc c1 ++ (own_enc c2 ++ (own_enc c3 ++ ys4))))) from by simp only [List.append_assoc]]
  refine W_callS (jx := 137) [.ref 0, .int q0, .int q0] [] (own_m4z hw [.int q0, .int q1, .int q2, .int q3, .int q4] [.int 1, .int (1 + (own_units c0)), .int ((1 + (own_units c0)) + (own_units c1)), .int (((1 + (own_units c0)) + (own_units c1)) + (own_units c2)), .int ((((1 + (own_units c0)) + (own_units c1)) + (own_units c2)) + (own_units c3))] xs ((own_enc c0 ++ (own_enc c1 ++ (own_enc c2 ++ (own_enc c3 ++ ys4))))) q0 q0 hq0 hq0 (by simp only [List.length_append] at B4; omega)) rfl (hw _ (List.mem_of_getElem? (i := 17) rfl)) (hw _ (List.mem_of_getElem? (i := 18) rfl)) (hw _ (List.mem_of_getElem? (i := 19) rfl)) (hw _ (List.mem_of_getElem? (i := 20) rfl)) (by decide) own_pd4 rfl rfl rfl (by decide) rfl (by decide) (by decide) rfl ?_
  rintro _ _ ⟨rfl, rfl⟩
  show WP _ _ _ _ _ _ _ _ _ _ _ 224 [.val (.int p0), .val (.int p1), .val (.int p2), .val (.int p3), .val (.int p4), .val (.int p5), .val (.int c0), .val (.int c1), .val (.int c2), .val (.int c3), .val (.ref 0), .val (.int q0), .val (.ref 1), .val (.ref 2), .val (.int 0)] [.int 1] [.inr (.byte, ((xs ++ (own_enc c0 ++ (own_enc c1 ++ (own_enc c2 ++ (own_enc c3 ++ ys4))))).map Value.int)), .inr (.int, [.int q0, .int q1, .int q2, .int q3, .int q4]), .inr (.int, [.int 1, .int (1 + (own_units c0)), .int ((1 + (own_units c0)) + (own_units c1)), .int (((1 + (own_units c0)) + (own_units c1)) + (own_units c2)), .int ((((1 + (own_units c0)) + (own_units c1)) + (own_units c2)) + (own_units c3))])] _ _ _
  refine W_run 138 2 (pc' := 228) (ls' := [.val (.int p0), .val (.int p1), .val (.int p2), .val (.int p3), .val (.int p4), .val (.int p5), .val (.int c0), .val (.int c1), .val (.int c2), .val (.int c3), .val (.ref 0), .val (.int q0), .val (.ref 1), .val (.ref 2), .val (.int 0)]) (st' := [.int 0, .ref 2, .int 1]) rfl ?_
  refine W_iaload (jx := 140) rfl rfl (by decide) (v := .int 1) rfl ?_
  refine W_run 141 1 (pc' := 232) (ls' := [.val (.int p0), .val (.int p1), .val (.int p2), .val (.int p3), .val (.int p4), .val (.int p5), .val (.int c0), .val (.int c1), .val (.int c2), .val (.int c3), .val (.ref 0), .val (.int q0), .val (.ref 1), .val (.ref 2), .val (.int 0)]) (st' := []) rfl ?_
  refine W_run 142 2 (pc' := 237) (ls' := [.val (.int p0), .val (.int p1), .val (.int p2), .val (.int p3), .val (.int p4), .val (.int p5), .val (.int c0), .val (.int c1), .val (.int c2), .val (.int c3), .val (.ref 0), .val (.int q0), .val (.ref 1), .val (.ref 2), .val (.int 0)]) (st' := [.int 1]) rfl ?_
  refine W_zreturn (jx := 145) rfl rfl rfl (by decide) (by decide) ?_
  exact rfl
set_option maxRecDepth 65536 in
set_option maxHeartbeats 40000000 in
theorem own_K1 {l : Launch} {Z : State} {a0 : Array Value} (hw : ∀ d ∈ tables_1, d.before a0 Z = true) {n0 : Nat} (p0 p1 p2 p3 p4 p5 c0 c1 c2 c3 q0 q1 q2 q3 q4 : Int32) (xs ys4 : List Int32) (hq0 : q0.toInt = xs.length) (hq1 : q1.toInt = (xs ++ own_enc c0).length) (hq2 : q2.toInt = ((xs ++ own_enc c0) ++ own_enc c1).length) (hq3 : q3.toInt = (((xs ++ own_enc c0) ++ own_enc c1) ++ own_enc c2).length) (hq4 : q4.toInt = ((((xs ++ own_enc c0) ++ own_enc c1) ++ own_enc c2) ++ own_enc c3).length) (B4 : ((((xs ++ own_enc c0) ++ own_enc c1) ++ own_enc c2) ++ own_enc c3).length ≤ 19) (hc0 : 0 ≤ c0.toInt ∧ c0.toInt < 1114112) (hc1 : 0 ≤ c1.toInt ∧ c1.toInt < 1114112) (hc2 : 0 ≤ c2.toInt ∧ c2.toInt < 1114112) (hc3 : 0 ≤ c3.toInt ∧ c3.toInt < 1114112) :
    WP false l Z n0 own_lay x.cls own_D0 maxLocals ret x.name room_1 210 [.val (.int p0), .val (.int p1), .val (.int p2), .val (.int p3), .val (.int p4), .val (.int p5), .val (.int c0), .val (.int c1), .val (.int c2), .val (.int c3), .val (.ref 0), .val (.int q0), .val (.ref 1), .val (.ref 2), .unset] [.int 1] [.inr (.byte, ((((((xs ++ own_enc c0) ++ own_enc c1) ++ own_enc c2) ++ own_enc c3) ++ ys4).map Value.int)), .inr (.int, [.int q0, .int q1, .int q2, .int q3, .int q4]), .inr (.int, [.int 1, .int (1 + (own_units c0)), .int ((1 + (own_units c0)) + (own_units c1)), .int (((1 + (own_units c0)) + (own_units c1)) + (own_units c2)), .int ((((1 + (own_units c0)) + (own_units c1)) + (own_units c2)) + (own_units c3))])] 3 29 (fun v B => v = some (.int 1)) := by
  refine W_run 131 1 (pc' := 212) (ls' := [.val (.int p0), .val (.int p1), .val (.int p2), .val (.int p3), .val (.int p4), .val (.int p5), .val (.int c0), .val (.int c1), .val (.int c2), .val (.int c3), .val (.ref 0), .val (.int q0), .val (.ref 1), .val (.ref 2), .val (.int 1)]) (st' := []) rfl ?_
  refine W_run 132 4 (pc' := 220) (ls' := [.val (.int p0), .val (.int p1), .val (.int p2), .val (.int p3), .val (.int p4), .val (.int p5), .val (.int c0), .val (.int c1), .val (.int c2), .val (.int c3), .val (.ref 0), .val (.int q0), .val (.ref 1), .val (.ref 2), .val (.int 1)]) (st' := [.int 1, .ref 1, .int q0, .ref 0]) rfl ?_
  refine W_iaload (jx := 136) rfl rfl (by decide) (v := .int q1) rfl ?_
  rw [show (((((xs ++ own_enc c0) ++ own_enc c1) ++ own_enc c2) ++ own_enc c3) ++ ys4) = (xs ++ (own_enc c0 ++ (own_enc c1 ++ (own_enc c2 ++ (own_enc c3 ++ ys4))))) from by simp [List.append_assoc]]
  refine W_callS (jx := 137) [.ref 0, .int q0, .int q1] [] (own_m4 hw [.int q0, .int q1, .int q2, .int q3, .int q4] [.int 1, .int (1 + (own_units c0)), .int ((1 + (own_units c0)) + (own_units c1)), .int (((1 + (own_units c0)) + (own_units c1)) + (own_units c2)), .int ((((1 + (own_units c0)) + (own_units c1)) + (own_units c2)) + (own_units c3))] xs (own_enc c0) ((own_enc c1 ++ (own_enc c2 ++ (own_enc c3 ++ ys4)))) q0 q1 hq0 (by rw [hq1]; simp only [List.length_append, List.length_nil]; omega) (by simp only [List.length_append, List.length_nil] at *; omega)) rfl (hw _ (List.mem_of_getElem? (i := 17) rfl)) (hw _ (List.mem_of_getElem? (i := 18) rfl)) (hw _ (List.mem_of_getElem? (i := 19) rfl)) (hw _ (List.mem_of_getElem? (i := 20) rfl)) (by decide) own_pd4 rfl rfl rfl (by decide) rfl (by decide) (by decide) rfl ?_
  rintro _ _ ⟨rfl, rfl⟩
  show WP _ _ _ _ _ _ _ _ _ _ _ 224 [.val (.int p0), .val (.int p1), .val (.int p2), .val (.int p3), .val (.int p4), .val (.int p5), .val (.int c0), .val (.int c1), .val (.int c2), .val (.int c3), .val (.ref 0), .val (.int q0), .val (.ref 1), .val (.ref 2), .val (.int 1)] [.int (own_fold (own_enc c0) 1)] [.inr (.byte, ((xs ++ (own_enc c0 ++ (own_enc c1 ++ (own_enc c2 ++ (own_enc c3 ++ ys4))))).map Value.int)), .inr (.int, [.int q0, .int q1, .int q2, .int q3, .int q4]), .inr (.int, [.int 1, .int (1 + (own_units c0)), .int ((1 + (own_units c0)) + (own_units c1)), .int (((1 + (own_units c0)) + (own_units c1)) + (own_units c2)), .int ((((1 + (own_units c0)) + (own_units c1)) + (own_units c2)) + (own_units c3))])] _ _ _
  refine W_run 138 2 (pc' := 228) (ls' := [.val (.int p0), .val (.int p1), .val (.int p2), .val (.int p3), .val (.int p4), .val (.int p5), .val (.int c0), .val (.int c1), .val (.int c2), .val (.int c3), .val (.ref 0), .val (.int q0), .val (.ref 1), .val (.ref 2), .val (.int 1)]) (st' := [.int 1, .ref 2, .int (own_fold (own_enc c0) 1)]) rfl ?_
  refine W_iaload (jx := 140) rfl rfl (by decide) (v := .int (1 + (own_units c0))) rfl ?_
  refine W_ne (jx := 141) rfl (by decide) (pc' := 236) rfl (fun h229 => ?_) (fun h229 => ?_)
  · skip
    exfalso
    apply h229
    first | rfl | (simp only [own_fold_app, own_fold_enc _ hc0, own_fold_enc _ hc1, own_fold_enc _ hc2, own_fold_enc _ hc3])
  · skip
    refine W_run 142 2 (pc' := 237) (ls' := [.val (.int p0), .val (.int p1), .val (.int p2), .val (.int p3), .val (.int p4), .val (.int p5), .val (.int c0), .val (.int c1), .val (.int c2), .val (.int c3), .val (.ref 0), .val (.int q0), .val (.ref 1), .val (.ref 2), .val (.int 1)]) (st' := [.int 1]) rfl ?_
    refine W_zreturn (jx := 145) rfl rfl rfl (by decide) (by decide) ?_
    exact rfl
set_option maxRecDepth 65536 in
set_option maxHeartbeats 40000000 in
theorem own_K2 {l : Launch} {Z : State} {a0 : Array Value} (hw : ∀ d ∈ tables_1, d.before a0 Z = true) {n0 : Nat} (p0 p1 p2 p3 p4 p5 c0 c1 c2 c3 q0 q1 q2 q3 q4 : Int32) (xs ys4 : List Int32) (hq0 : q0.toInt = xs.length) (hq1 : q1.toInt = (xs ++ own_enc c0).length) (hq2 : q2.toInt = ((xs ++ own_enc c0) ++ own_enc c1).length) (hq3 : q3.toInt = (((xs ++ own_enc c0) ++ own_enc c1) ++ own_enc c2).length) (hq4 : q4.toInt = ((((xs ++ own_enc c0) ++ own_enc c1) ++ own_enc c2) ++ own_enc c3).length) (B4 : ((((xs ++ own_enc c0) ++ own_enc c1) ++ own_enc c2) ++ own_enc c3).length ≤ 19) (hc0 : 0 ≤ c0.toInt ∧ c0.toInt < 1114112) (hc1 : 0 ≤ c1.toInt ∧ c1.toInt < 1114112) (hc2 : 0 ≤ c2.toInt ∧ c2.toInt < 1114112) (hc3 : 0 ≤ c3.toInt ∧ c3.toInt < 1114112) :
    WP false l Z n0 own_lay x.cls own_D0 maxLocals ret x.name room_1 210 [.val (.int p0), .val (.int p1), .val (.int p2), .val (.int p3), .val (.int p4), .val (.int p5), .val (.int c0), .val (.int c1), .val (.int c2), .val (.int c3), .val (.ref 0), .val (.int q0), .val (.ref 1), .val (.ref 2), .unset] [.int 2] [.inr (.byte, ((((((xs ++ own_enc c0) ++ own_enc c1) ++ own_enc c2) ++ own_enc c3) ++ ys4).map Value.int)), .inr (.int, [.int q0, .int q1, .int q2, .int q3, .int q4]), .inr (.int, [.int 1, .int (1 + (own_units c0)), .int ((1 + (own_units c0)) + (own_units c1)), .int (((1 + (own_units c0)) + (own_units c1)) + (own_units c2)), .int ((((1 + (own_units c0)) + (own_units c1)) + (own_units c2)) + (own_units c3))])] 3 29 (fun v B => v = some (.int 1)) := by
  refine W_run 131 1 (pc' := 212) (ls' := [.val (.int p0), .val (.int p1), .val (.int p2), .val (.int p3), .val (.int p4), .val (.int p5), .val (.int c0), .val (.int c1), .val (.int c2), .val (.int c3), .val (.ref 0), .val (.int q0), .val (.ref 1), .val (.ref 2), .val (.int 2)]) (st' := []) rfl ?_
  refine W_run 132 4 (pc' := 220) (ls' := [.val (.int p0), .val (.int p1), .val (.int p2), .val (.int p3), .val (.int p4), .val (.int p5), .val (.int c0), .val (.int c1), .val (.int c2), .val (.int c3), .val (.ref 0), .val (.int q0), .val (.ref 1), .val (.ref 2), .val (.int 2)]) (st' := [.int 2, .ref 1, .int q0, .ref 0]) rfl ?_
  refine W_iaload (jx := 136) rfl rfl (by decide) (v := .int q2) rfl ?_
  rw [show (((((xs ++ own_enc c0) ++ own_enc c1) ++ own_enc c2) ++ own_enc c3) ++ ys4) = (xs ++ ((own_enc c0 ++ own_enc c1) ++ (own_enc c2 ++ (own_enc c3 ++ ys4)))) from by simp [List.append_assoc]]
  refine W_callS (jx := 137) [.ref 0, .int q0, .int q2] [] (own_m4 hw [.int q0, .int q1, .int q2, .int q3, .int q4] [.int 1, .int (1 + (own_units c0)), .int ((1 + (own_units c0)) + (own_units c1)), .int (((1 + (own_units c0)) + (own_units c1)) + (own_units c2)), .int ((((1 + (own_units c0)) + (own_units c1)) + (own_units c2)) + (own_units c3))] xs ((own_enc c0 ++ own_enc c1)) ((own_enc c2 ++ (own_enc c3 ++ ys4))) q0 q2 hq0 (by rw [hq2]; simp only [List.length_append, List.length_nil]; omega) (by simp only [List.length_append, List.length_nil] at *; omega)) rfl (hw _ (List.mem_of_getElem? (i := 17) rfl)) (hw _ (List.mem_of_getElem? (i := 18) rfl)) (hw _ (List.mem_of_getElem? (i := 19) rfl)) (hw _ (List.mem_of_getElem? (i := 20) rfl)) (by decide) own_pd4 rfl rfl rfl (by decide) rfl (by decide) (by decide) rfl ?_
  rintro _ _ ⟨rfl, rfl⟩
  show WP _ _ _ _ _ _ _ _ _ _ _ 224 [.val (.int p0), .val (.int p1), .val (.int p2), .val (.int p3), .val (.int p4), .val (.int p5), .val (.int c0), .val (.int c1), .val (.int c2), .val (.int c3), .val (.ref 0), .val (.int q0), .val (.ref 1), .val (.ref 2), .val (.int 2)] [.int (own_fold ((own_enc c0 ++ own_enc c1)) 1)] [.inr (.byte, ((xs ++ ((own_enc c0 ++ own_enc c1) ++ (own_enc c2 ++ (own_enc c3 ++ ys4)))).map Value.int)), .inr (.int, [.int q0, .int q1, .int q2, .int q3, .int q4]), .inr (.int, [.int 1, .int (1 + (own_units c0)), .int ((1 + (own_units c0)) + (own_units c1)), .int (((1 + (own_units c0)) + (own_units c1)) + (own_units c2)), .int ((((1 + (own_units c0)) + (own_units c1)) + (own_units c2)) + (own_units c3))])] _ _ _
  refine W_run 138 2 (pc' := 228) (ls' := [.val (.int p0), .val (.int p1), .val (.int p2), .val (.int p3), .val (.int p4), .val (.int p5), .val (.int c0), .val (.int c1), .val (.int c2), .val (.int c3), .val (.ref 0), .val (.int q0), .val (.ref 1), .val (.ref 2), .val (.int 2)]) (st' := [.int 2, .ref 2, .int (own_fold ((own_enc c0 ++ own_enc c1)) 1)]) rfl ?_
  refine W_iaload (jx := 140) rfl rfl (by decide) (v := .int ((1 + (own_units c0)) + (own_units c1))) rfl ?_
  refine W_ne (jx := 141) rfl (by decide) (pc' := 236) rfl (fun h229 => ?_) (fun h229 => ?_)
  · skip
    exfalso
    apply h229
    first | rfl | (simp only [own_fold_app, own_fold_enc _ hc0, own_fold_enc _ hc1, own_fold_enc _ hc2, own_fold_enc _ hc3])
  · skip
    refine W_run 142 2 (pc' := 237) (ls' := [.val (.int p0), .val (.int p1), .val (.int p2), .val (.int p3), .val (.int p4), .val (.int p5), .val (.int c0), .val (.int c1), .val (.int c2), .val (.int c3), .val (.ref 0), .val (.int q0), .val (.ref 1), .val (.ref 2), .val (.int 2)]) (st' := [.int 1]) rfl ?_
    refine W_zreturn (jx := 145) rfl rfl rfl (by decide) (by decide) ?_
    exact rfl
set_option maxRecDepth 65536 in
set_option maxHeartbeats 40000000 in
theorem own_K3 {l : Launch} {Z : State} {a0 : Array Value} (hw : ∀ d ∈ tables_1, d.before a0 Z = true) {n0 : Nat} (p0 p1 p2 p3 p4 p5 c0 c1 c2 c3 q0 q1 q2 q3 q4 : Int32) (xs ys4 : List Int32) (hq0 : q0.toInt = xs.length) (hq1 : q1.toInt = (xs ++ own_enc c0).length) (hq2 : q2.toInt = ((xs ++ own_enc c0) ++ own_enc c1).length) (hq3 : q3.toInt = (((xs ++ own_enc c0) ++ own_enc c1) ++ own_enc c2).length) (hq4 : q4.toInt = ((((xs ++ own_enc c0) ++ own_enc c1) ++ own_enc c2) ++ own_enc c3).length) (B4 : ((((xs ++ own_enc c0) ++ own_enc c1) ++ own_enc c2) ++ own_enc c3).length ≤ 19) (hc0 : 0 ≤ c0.toInt ∧ c0.toInt < 1114112) (hc1 : 0 ≤ c1.toInt ∧ c1.toInt < 1114112) (hc2 : 0 ≤ c2.toInt ∧ c2.toInt < 1114112) (hc3 : 0 ≤ c3.toInt ∧ c3.toInt < 1114112) :
    WP false l Z n0 own_lay x.cls own_D0 maxLocals ret x.name room_1 210 [.val (.int p0), .val (.int p1), .val (.int p2), .val (.int p3), .val (.int p4), .val (.int p5), .val (.int c0), .val (.int c1), .val (.int c2), .val (.int c3), .val (.ref 0), .val (.int q0), .val (.ref 1), .val (.ref 2), .unset] [.int 3] [.inr (.byte, ((((((xs ++ own_enc c0) ++ own_enc c1) ++ own_enc c2) ++ own_enc c3) ++ ys4).map Value.int)), .inr (.int, [.int q0, .int q1, .int q2, .int q3, .int q4]), .inr (.int, [.int 1, .int (1 + (own_units c0)), .int ((1 + (own_units c0)) + (own_units c1)), .int (((1 + (own_units c0)) + (own_units c1)) + (own_units c2)), .int ((((1 + (own_units c0)) + (own_units c1)) + (own_units c2)) + (own_units c3))])] 3 29 (fun v B => v = some (.int 1)) := by
  refine W_run 131 1 (pc' := 212) (ls' := [.val (.int p0), .val (.int p1), .val (.int p2), .val (.int p3), .val (.int p4), .val (.int p5), .val (.int c0), .val (.int c1), .val (.int c2), .val (.int c3), .val (.ref 0), .val (.int q0), .val (.ref 1), .val (.ref 2), .val (.int 3)]) (st' := []) rfl ?_
  refine W_run 132 4 (pc' := 220) (ls' := [.val (.int p0), .val (.int p1), .val (.int p2), .val (.int p3), .val (.int p4), .val (.int p5), .val (.int c0), .val (.int c1), .val (.int c2), .val (.int c3), .val (.ref 0), .val (.int q0), .val (.ref 1), .val (.ref 2), .val (.int 3)]) (st' := [.int 3, .ref 1, .int q0, .ref 0]) rfl ?_
  refine W_iaload (jx := 136) rfl rfl (by decide) (v := .int q3) rfl ?_
  rw [show (((((xs ++ own_enc c0) ++ own_enc c1) ++ own_enc c2) ++ own_enc c3) ++ ys4) = (xs ++ (((own_enc c0 ++ own_enc c1) ++ own_enc c2) ++ (own_enc c3 ++ ys4))) from by simp [List.append_assoc]]
  refine W_callS (jx := 137) [.ref 0, .int q0, .int q3] [] (own_m4 hw [.int q0, .int q1, .int q2, .int q3, .int q4] [.int 1, .int (1 + (own_units c0)), .int ((1 + (own_units c0)) + (own_units c1)), .int (((1 + (own_units c0)) + (own_units c1)) + (own_units c2)), .int ((((1 + (own_units c0)) + (own_units c1)) + (own_units c2)) + (own_units c3))] xs (((own_enc c0 ++ own_enc c1) ++ own_enc c2)) ((own_enc c3 ++ ys4)) q0 q3 hq0 (by rw [hq3]; simp only [List.length_append, List.length_nil]; omega) (by simp only [List.length_append, List.length_nil] at *; omega)) rfl (hw _ (List.mem_of_getElem? (i := 17) rfl)) (hw _ (List.mem_of_getElem? (i := 18) rfl)) (hw _ (List.mem_of_getElem? (i := 19) rfl)) (hw _ (List.mem_of_getElem? (i := 20) rfl)) (by decide) own_pd4 rfl rfl rfl (by decide) rfl (by decide) (by decide) rfl ?_
  rintro _ _ ⟨rfl, rfl⟩
  show WP _ _ _ _ _ _ _ _ _ _ _ 224 [.val (.int p0), .val (.int p1), .val (.int p2), .val (.int p3), .val (.int p4), .val (.int p5), .val (.int c0), .val (.int c1), .val (.int c2), .val (.int c3), .val (.ref 0), .val (.int q0), .val (.ref 1), .val (.ref 2), .val (.int 3)] [.int (own_fold (((own_enc c0 ++ own_enc c1) ++ own_enc c2)) 1)] [.inr (.byte, ((xs ++ (((own_enc c0 ++ own_enc c1) ++ own_enc c2) ++ (own_enc c3 ++ ys4))).map Value.int)), .inr (.int, [.int q0, .int q1, .int q2, .int q3, .int q4]), .inr (.int, [.int 1, .int (1 + (own_units c0)), .int ((1 + (own_units c0)) + (own_units c1)), .int (((1 + (own_units c0)) + (own_units c1)) + (own_units c2)), .int ((((1 + (own_units c0)) + (own_units c1)) + (own_units c2)) + (own_units c3))])] _ _ _
  refine W_run 138 2 (pc' := 228) (ls' := [.val (.int p0), .val (.int p1), .val (.int p2), .val (.int p3), .val (.int p4), .val (.int p5), .val (.int c0), .val (.int c1), .val (.int c2), .val (.int c3), .val (.ref 0), .val (.int q0), .val (.ref 1), .val (.ref 2), .val (.int 3)]) (st' := [.int 3, .ref 2, .int (own_fold (((own_enc c0 ++ own_enc c1) ++ own_enc c2)) 1)]) rfl ?_
  refine W_iaload (jx := 140) rfl rfl (by decide) (v := .int (((1 + (own_units c0)) + (own_units c1)) + (own_units c2))) rfl ?_
  refine W_ne (jx := 141) rfl (by decide) (pc' := 236) rfl (fun h229 => ?_) (fun h229 => ?_)
  · skip
    exfalso
    apply h229
    first | rfl | (simp only [own_fold_app, own_fold_enc _ hc0, own_fold_enc _ hc1, own_fold_enc _ hc2, own_fold_enc _ hc3])
  · skip
    refine W_run 142 2 (pc' := 237) (ls' := [.val (.int p0), .val (.int p1), .val (.int p2), .val (.int p3), .val (.int p4), .val (.int p5), .val (.int c0), .val (.int c1), .val (.int c2), .val (.int c3), .val (.ref 0), .val (.int q0), .val (.ref 1), .val (.ref 2), .val (.int 3)]) (st' := [.int 1]) rfl ?_
    refine W_zreturn (jx := 145) rfl rfl rfl (by decide) (by decide) ?_
    exact rfl
set_option maxRecDepth 65536 in
set_option maxHeartbeats 40000000 in
theorem own_K4 {l : Launch} {Z : State} {a0 : Array Value} (hw : ∀ d ∈ tables_1, d.before a0 Z = true) {n0 : Nat} (p0 p1 p2 p3 p4 p5 c0 c1 c2 c3 q0 q1 q2 q3 q4 : Int32) (xs ys4 : List Int32) (hq0 : q0.toInt = xs.length) (hq1 : q1.toInt = (xs ++ own_enc c0).length) (hq2 : q2.toInt = ((xs ++ own_enc c0) ++ own_enc c1).length) (hq3 : q3.toInt = (((xs ++ own_enc c0) ++ own_enc c1) ++ own_enc c2).length) (hq4 : q4.toInt = ((((xs ++ own_enc c0) ++ own_enc c1) ++ own_enc c2) ++ own_enc c3).length) (B4 : ((((xs ++ own_enc c0) ++ own_enc c1) ++ own_enc c2) ++ own_enc c3).length ≤ 19) (hc0 : 0 ≤ c0.toInt ∧ c0.toInt < 1114112) (hc1 : 0 ≤ c1.toInt ∧ c1.toInt < 1114112) (hc2 : 0 ≤ c2.toInt ∧ c2.toInt < 1114112) (hc3 : 0 ≤ c3.toInt ∧ c3.toInt < 1114112) :
    WP false l Z n0 own_lay x.cls own_D0 maxLocals ret x.name room_1 210 [.val (.int p0), .val (.int p1), .val (.int p2), .val (.int p3), .val (.int p4), .val (.int p5), .val (.int c0), .val (.int c1), .val (.int c2), .val (.int c3), .val (.ref 0), .val (.int q0), .val (.ref 1), .val (.ref 2), .unset] [.int 4] [.inr (.byte, ((((((xs ++ own_enc c0) ++ own_enc c1) ++ own_enc c2) ++ own_enc c3) ++ ys4).map Value.int)), .inr (.int, [.int q0, .int q1, .int q2, .int q3, .int q4]), .inr (.int, [.int 1, .int (1 + (own_units c0)), .int ((1 + (own_units c0)) + (own_units c1)), .int (((1 + (own_units c0)) + (own_units c1)) + (own_units c2)), .int ((((1 + (own_units c0)) + (own_units c1)) + (own_units c2)) + (own_units c3))])] 3 29 (fun v B => v = some (.int 1)) := by
  refine W_run 131 1 (pc' := 212) (ls' := [.val (.int p0), .val (.int p1), .val (.int p2), .val (.int p3), .val (.int p4), .val (.int p5), .val (.int c0), .val (.int c1), .val (.int c2), .val (.int c3), .val (.ref 0), .val (.int q0), .val (.ref 1), .val (.ref 2), .val (.int 4)]) (st' := []) rfl ?_
  refine W_run 132 4 (pc' := 220) (ls' := [.val (.int p0), .val (.int p1), .val (.int p2), .val (.int p3), .val (.int p4), .val (.int p5), .val (.int c0), .val (.int c1), .val (.int c2), .val (.int c3), .val (.ref 0), .val (.int q0), .val (.ref 1), .val (.ref 2), .val (.int 4)]) (st' := [.int 4, .ref 1, .int q0, .ref 0]) rfl ?_
  refine W_iaload (jx := 136) rfl rfl (by decide) (v := .int q4) rfl ?_
  rw [show (((((xs ++ own_enc c0) ++ own_enc c1) ++ own_enc c2) ++ own_enc c3) ++ ys4) = (xs ++ ((((own_enc c0 ++ own_enc c1) ++ own_enc c2) ++ own_enc c3) ++ ys4)) from by simp [List.append_assoc]]
  refine W_callS (jx := 137) [.ref 0, .int q0, .int q4] [] (own_m4 hw [.int q0, .int q1, .int q2, .int q3, .int q4] [.int 1, .int (1 + (own_units c0)), .int ((1 + (own_units c0)) + (own_units c1)), .int (((1 + (own_units c0)) + (own_units c1)) + (own_units c2)), .int ((((1 + (own_units c0)) + (own_units c1)) + (own_units c2)) + (own_units c3))] xs ((((own_enc c0 ++ own_enc c1) ++ own_enc c2) ++ own_enc c3)) (ys4) q0 q4 hq0 (by rw [hq4]; simp only [List.length_append, List.length_nil]; omega) (by simp only [List.length_append, List.length_nil] at *; omega)) rfl (hw _ (List.mem_of_getElem? (i := 17) rfl)) (hw _ (List.mem_of_getElem? (i := 18) rfl)) (hw _ (List.mem_of_getElem? (i := 19) rfl)) (hw _ (List.mem_of_getElem? (i := 20) rfl)) (by decide) own_pd4 rfl rfl rfl (by decide) rfl (by decide) (by decide) rfl ?_
  rintro _ _ ⟨rfl, rfl⟩
  show WP _ _ _ _ _ _ _ _ _ _ _ 224 [.val (.int p0), .val (.int p1), .val (.int p2), .val (.int p3), .val (.int p4), .val (.int p5), .val (.int c0), .val (.int c1), .val (.int c2), .val (.int c3), .val (.ref 0), .val (.int q0), .val (.ref 1), .val (.ref 2), .val (.int 4)] [.int (own_fold ((((own_enc c0 ++ own_enc c1) ++ own_enc c2) ++ own_enc c3)) 1)] [.inr (.byte, ((xs ++ ((((own_enc c0 ++ own_enc c1) ++ own_enc c2) ++ own_enc c3) ++ ys4)).map Value.int)), .inr (.int, [.int q0, .int q1, .int q2, .int q3, .int q4]), .inr (.int, [.int 1, .int (1 + (own_units c0)), .int ((1 + (own_units c0)) + (own_units c1)), .int (((1 + (own_units c0)) + (own_units c1)) + (own_units c2)), .int ((((1 + (own_units c0)) + (own_units c1)) + (own_units c2)) + (own_units c3))])] _ _ _
  refine W_run 138 2 (pc' := 228) (ls' := [.val (.int p0), .val (.int p1), .val (.int p2), .val (.int p3), .val (.int p4), .val (.int p5), .val (.int c0), .val (.int c1), .val (.int c2), .val (.int c3), .val (.ref 0), .val (.int q0), .val (.ref 1), .val (.ref 2), .val (.int 4)]) (st' := [.int 4, .ref 2, .int (own_fold ((((own_enc c0 ++ own_enc c1) ++ own_enc c2) ++ own_enc c3)) 1)]) rfl ?_
  refine W_iaload (jx := 140) rfl rfl (by decide) (v := .int ((((1 + (own_units c0)) + (own_units c1)) + (own_units c2)) + (own_units c3))) rfl ?_
  refine W_ne (jx := 141) rfl (by decide) (pc' := 236) rfl (fun h229 => ?_) (fun h229 => ?_)
  · skip
    exfalso
    apply h229
    first | rfl | (simp only [own_fold_app, own_fold_enc _ hc0, own_fold_enc _ hc1, own_fold_enc _ hc2, own_fold_enc _ hc3])
  · skip
    refine W_run 142 2 (pc' := 237) (ls' := [.val (.int p0), .val (.int p1), .val (.int p2), .val (.int p3), .val (.int p4), .val (.int p5), .val (.int c0), .val (.int c1), .val (.int c2), .val (.int c3), .val (.ref 0), .val (.int q0), .val (.ref 1), .val (.ref 2), .val (.int 4)]) (st' := [.int 1]) rfl ?_
    refine W_zreturn (jx := 145) rfl rfl rfl (by decide) (by decide) ?_
    exact rfl
set_option maxRecDepth 65536 in
set_option maxHeartbeats 40000000 in
theorem own_K {l : Launch} {Z : State} {a0 : Array Value} (hw : ∀ d ∈ tables_1, d.before a0 Z = true) {n0 : Nat} (p0 p1 p2 p3 p4 p5 c0 c1 c2 c3 q0 q1 q2 q3 q4 : Int32) (xs ys4 : List Int32) (hq0 : q0.toInt = xs.length) (hq1 : q1.toInt = (xs ++ own_enc c0).length) (hq2 : q2.toInt = ((xs ++ own_enc c0) ++ own_enc c1).length) (hq3 : q3.toInt = (((xs ++ own_enc c0) ++ own_enc c1) ++ own_enc c2).length) (hq4 : q4.toInt = ((((xs ++ own_enc c0) ++ own_enc c1) ++ own_enc c2) ++ own_enc c3).length) (B4 : ((((xs ++ own_enc c0) ++ own_enc c1) ++ own_enc c2) ++ own_enc c3).length ≤ 19) (hc0 : 0 ≤ c0.toInt ∧ c0.toInt < 1114112) (hc1 : 0 ≤ c1.toInt ∧ c1.toInt < 1114112) (hc2 : 0 ≤ c2.toInt ∧ c2.toInt < 1114112) (hc3 : 0 ≤ c3.toInt ∧ c3.toInt < 1114112) :
    WP false l Z n0 own_lay x.cls own_D0 maxLocals ret x.name room_1 203 [.val (.int p0), .val (.int p1), .val (.int p2), .val (.int p3), .val (.int p4), .val (.int p5), .val (.int c0), .val (.int c1), .val (.int c2), .val (.int c3), .val (.ref 0), .val (.int q0), .val (.ref 1), .val (.ref 2), .unset] [] [.inr (.byte, ((((((xs ++ own_enc c0) ++ own_enc c1) ++ own_enc c2) ++ own_enc c3) ++ ys4).map Value.int)), .inr (.int, [.int q0, .int q1, .int q2, .int q3, .int q4]), .inr (.int, [.int 1, .int (1 + (own_units c0)), .int ((1 + (own_units c0)) + (own_units c1)), .int (((1 + (own_units c0)) + (own_units c1)) + (own_units c2)), .int ((((1 + (own_units c0)) + (own_units c1)) + (own_units c2)) + (own_units c3))])] 3 29 (fun v B => v = some (.int 1)) := by
  refine W_run 126 1 (pc' := 205) (ls' := [.val (.int p0), .val (.int p1), .val (.int p2), .val (.int p3), .val (.int p4), .val (.int p5), .val (.int c0), .val (.int c1), .val (.int c2), .val (.int c3), .val (.ref 0), .val (.int q0), .val (.ref 1), .val (.ref 2), .unset]) (st' := [.int p5]) rfl ?_
  refine W_ldcI (jx := 127) rfl (hw _ (List.mem_of_getElem? (i := 16) rfl)) ?_
  refine W_run 128 3 (pc' := 210) (ls' := [.val (.int p0), .val (.int p1), .val (.int p2), .val (.int p3), .val (.int p4), .val (.int p5), .val (.int c0), .val (.int c1), .val (.int c2), .val (.int c3), .val (.ref 0), .val (.int q0), .val (.ref 1), .val (.ref 2), .unset]) (st' := [.int ((p5 &&& 2147483647) % 5)]) rfl ?_
  generalize h_k : (((p5 &&& 2147483647) % 5) : Int32) = k
  have hk := own_k5 _ _ h_k
  rcases hk with rfl | rfl | rfl | rfl | rfl
  · clear h_k
    exact own_K0 hw p0 p1 p2 p3 p4 p5 c0 c1 c2 c3 q0 q1 q2 q3 q4 xs ys4 hq0 hq1 hq2 hq3 hq4 B4 hc0 hc1 hc2 hc3
  · clear h_k
    exact own_K1 hw p0 p1 p2 p3 p4 p5 c0 c1 c2 c3 q0 q1 q2 q3 q4 xs ys4 hq0 hq1 hq2 hq3 hq4 B4 hc0 hc1 hc2 hc3
  · clear h_k
    exact own_K2 hw p0 p1 p2 p3 p4 p5 c0 c1 c2 c3 q0 q1 q2 q3 q4 xs ys4 hq0 hq1 hq2 hq3 hq4 B4 hc0 hc1 hc2 hc3
  · clear h_k
    exact own_K3 hw p0 p1 p2 p3 p4 p5 c0 c1 c2 c3 q0 q1 q2 q3 q4 xs ys4 hq0 hq1 hq2 hq3 hq4 B4 hc0 hc1 hc2 hc3
  · clear h_k
    exact own_K4 hw p0 p1 p2 p3 p4 p5 c0 c1 c2 c3 q0 q1 q2 q3 q4 xs ys4 hq0 hq1 hq2 hq3 hq4 B4 hc0 hc1 hc2 hc3
set_option maxRecDepth 65536 in
set_option maxHeartbeats 40000000 in
theorem own_T3 {l : Launch} {Z : State} {a0 : Array Value} (hw : ∀ d ∈ tables_1, d.before a0 Z = true) {n0 : Nat} (p0 p1 p2 p3 p4 p5 c0 c1 c2 c3 q0 q1 q2 q3 : Int32) (xs ys3 : List Int32) (hq0 : q0.toInt = xs.length) (hq1 : q1.toInt = (xs ++ own_enc c0).length) (hq2 : q2.toInt = ((xs ++ own_enc c0) ++ own_enc c1).length) (hq3 : q3.toInt = (((xs ++ own_enc c0) ++ own_enc c1) ++ own_enc c2).length) (B3 : (((xs ++ own_enc c0) ++ own_enc c1) ++ own_enc c2).length ≤ 15) (L3 : (((xs ++ own_enc c0) ++ own_enc c1) ++ own_enc c2).length + ys3.length = 19) (hc0 : 0 ≤ c0.toInt ∧ c0.toInt < 1114112) (hc1 : 0 ≤ c1.toInt ∧ c1.toInt < 1114112) (hc2 : 0 ≤ c2.toInt ∧ c2.toInt < 1114112) (hc3 : 0 ≤ c3.toInt ∧ c3.toInt < 1114112) :
    WP false l Z n0 own_lay x.cls own_D0 maxLocals ret x.name room_1 174 [.val (.int p0), .val (.int p1), .val (.int p2), .val (.int p3), .val (.int p4), .val (.int p5), .val (.int c0), .val (.int c1), .val (.int c2), .val (.int c3), .val (.ref 0), .val (.int q0), .val (.ref 1), .val (.ref 2), .unset] [] [.inr (.byte, (((((xs ++ own_enc c0) ++ own_enc c1) ++ own_enc c2) ++ ys3).map Value.int)), .inr (.int, [.int q0, .int q1, .int q2, .int q3, .int 0]), .inr (.int, [.int 1, .int (1 + (own_units c0)), .int ((1 + (own_units c0)) + (own_units c1)), .int (((1 + (own_units c0)) + (own_units c1)) + (own_units c2)), .int 0])] 3 29 (fun v B => v = some (.int 1)) := by
  refine W_run 108 5 (pc' := 182) (ls' := [.val (.int p0), .val (.int p1), .val (.int p2), .val (.int p3), .val (.int p4), .val (.int p5), .val (.int c0), .val (.int c1), .val (.int c2), .val (.int c3), .val (.ref 0), .val (.int q0), .val (.ref 1), .val (.ref 2), .unset]) (st' := [.int 3, .ref 1, .ref 0, .int 4, .ref 1]) rfl ?_
  refine W_iaload (jx := 113) rfl rfl (by decide) (v := .int q3) rfl ?_
  refine W_run 114 1 (pc' := 185) (ls' := [.val (.int p0), .val (.int p1), .val (.int p2), .val (.int p3), .val (.int p4), .val (.int p5), .val (.int c0), .val (.int c1), .val (.int c2), .val (.int c3), .val (.ref 0), .val (.int q0), .val (.ref 1), .val (.ref 2), .unset]) (st' := [.int c3, .int q3, .ref 0, .int 4, .ref 1]) rfl ?_
  obtain ⟨y0_3, y1_3, y2_3, y3_3, zs_3, hy_3⟩ := own_four ys3 (by omega)
  subst hy_3
  refine W_callS (jx := 115) [.ref 0, .int q3, .int c3] [.int 4, .ref 1] (own_m2 hw [.int q0, .int q1, .int q2, .int q3, .int 0] [.int 1, .int (1 + (own_units c0)), .int ((1 + (own_units c0)) + (own_units c1)), .int (((1 + (own_units c0)) + (own_units c1)) + (own_units c2)), .int 0] ((((xs ++ own_enc c0) ++ own_enc c1) ++ own_enc c2)) y0_3 y1_3 y2_3 y3_3 zs_3 q3 c3 hq3 (by omega)) rfl (hw _ (List.mem_of_getElem? (i := 10) rfl)) (hw _ (List.mem_of_getElem? (i := 11) rfl)) (hw _ (List.mem_of_getElem? (i := 2) rfl)) (hw _ (List.mem_of_getElem? (i := 12) rfl)) (by decide) own_pd2 rfl rfl rfl (by decide) rfl (by decide) (by decide) rfl ?_
  rintro _ _ ⟨rfl, rfl⟩
  show WP _ _ _ _ _ _ _ _ _ _ _ 188 [.val (.int p0), .val (.int p1), .val (.int p2), .val (.int p3), .val (.int p4), .val (.int p5), .val (.int c0), .val (.int c1), .val (.int c2), .val (.int c3), .val (.ref 0), .val (.int q0), .val (.ref 1), .val (.ref 2), .unset] [.int (q3 + own_len c3), .int 4, .ref 1] [.inr (.byte, (((((xs ++ own_enc c0) ++ own_enc c1) ++ own_enc c2) ++ (own_enc c3 ++ (y0_3 :: y1_3 :: y2_3 :: y3_3 :: zs_3).drop (own_enc c3).length)).map Value.int)), .inr (.int, [.int q0, .int q1, .int q2, .int q3, .int 0]), .inr (.int, [.int 1, .int (1 + (own_units c0)), .int ((1 + (own_units c0)) + (own_units c1)), .int (((1 + (own_units c0)) + (own_units c1)) + (own_units c2)), .int 0])] _ _ _
  have hq4 := own_next q3 c3 ((((xs ++ own_enc c0) ++ own_enc c1) ++ own_enc c2)) hq3 (by omega)
  have he3 := own_len_eq c3
  rw [← List.append_assoc]
  obtain ⟨ys4, hz3⟩ : ∃ q, q = (y0_3 :: y1_3 :: y2_3 :: y3_3 :: zs_3).drop (own_enc c3).length := ⟨_, rfl⟩
  rw [← hz3]
  have L4 : ((((xs ++ own_enc c0) ++ own_enc c1) ++ own_enc c2) ++ own_enc c3).length + ys4.length = 19 := by
    rw [hz3, List.length_append, List.length_drop]
    simp only [List.length_cons] at L3 ⊢
    omega
  have B4 : ((((xs ++ own_enc c0) ++ own_enc c1) ++ own_enc c2) ++ own_enc c3).length ≤ 19 := by
    rw [List.length_append]
    omega
  generalize (q3 + own_len c3) = q4 at *
  refine W_iastore (jx := 116) rfl rfl (by decide) (Nat.le_of_ble_eq_true rfl) (A1 := [.inr (.byte, ((((((xs ++ own_enc c0) ++ own_enc c1) ++ own_enc c2) ++ own_enc c3) ++ ys4).map Value.int)), .inr (.int, [.int q0, .int q1, .int q2, .int q3, .int q4]), .inr (.int, [.int 1, .int (1 + (own_units c0)), .int ((1 + (own_units c0)) + (own_units c1)), .int (((1 + (own_units c0)) + (own_units c1)) + (own_units c2)), .int 0])]) rfl ?_
  refine W_run 117 4 (pc' := 195) (ls' := [.val (.int p0), .val (.int p1), .val (.int p2), .val (.int p3), .val (.int p4), .val (.int p5), .val (.int c0), .val (.int c1), .val (.int c2), .val (.int c3), .val (.ref 0), .val (.int q0), .val (.ref 1), .val (.ref 2), .unset]) (st' := [.int 3, .ref 2, .int 4, .ref 2]) rfl ?_
  refine W_iaload (jx := 121) rfl rfl (by decide) (v := .int (((1 + (own_units c0)) + (own_units c1)) + (own_units c2))) rfl ?_
  refine W_run 122 1 (pc' := 198) (ls' := [.val (.int p0), .val (.int p1), .val (.int p2), .val (.int p3), .val (.int p4), .val (.int p5), .val (.int c0), .val (.int c1), .val (.int c2), .val (.int c3), .val (.ref 0), .val (.int q0), .val (.ref 1), .val (.ref 2), .unset]) (st' := [.int c3, .int (((1 + (own_units c0)) + (own_units c1)) + (own_units c2)), .int 4, .ref 2]) rfl ?_
  refine W_callS (jx := 123) [.int c3] [.int (((1 + (own_units c0)) + (own_units c1)) + (own_units c2)), .int 4, .ref 2] (own_m3 hw c3) rfl (hw _ (List.mem_of_getElem? (i := 13) rfl)) (hw _ (List.mem_of_getElem? (i := 14) rfl)) (hw _ (List.mem_of_getElem? (i := 2) rfl)) (hw _ (List.mem_of_getElem? (i := 15) rfl)) (by decide) own_pd3 rfl rfl rfl (by decide) rfl (by decide) (by decide) rfl ?_
  rintro _ _ ⟨rfl, rfl⟩
  show WP _ _ _ _ _ _ _ _ _ _ _ 201 [.val (.int p0), .val (.int p1), .val (.int p2), .val (.int p3), .val (.int p4), .val (.int p5), .val (.int c0), .val (.int c1), .val (.int c2), .val (.int c3), .val (.ref 0), .val (.int q0), .val (.ref 1), .val (.ref 2), .unset] [.int (own_units c3), .int (((1 + (own_units c0)) + (own_units c1)) + (own_units c2)), .int 4, .ref 2] [.inr (.byte, ((((((xs ++ own_enc c0) ++ own_enc c1) ++ own_enc c2) ++ own_enc c3) ++ ys4).map Value.int)), .inr (.int, [.int q0, .int q1, .int q2, .int q3, .int q4]), .inr (.int, [.int 1, .int (1 + (own_units c0)), .int ((1 + (own_units c0)) + (own_units c1)), .int (((1 + (own_units c0)) + (own_units c1)) + (own_units c2)), .int 0])] _ _ _
  refine W_run 124 1 (pc' := 202) (ls' := [.val (.int p0), .val (.int p1), .val (.int p2), .val (.int p3), .val (.int p4), .val (.int p5), .val (.int c0), .val (.int c1), .val (.int c2), .val (.int c3), .val (.ref 0), .val (.int q0), .val (.ref 1), .val (.ref 2), .unset]) (st' := [.int ((((1 + (own_units c0)) + (own_units c1)) + (own_units c2)) + (own_units c3)), .int 4, .ref 2]) rfl ?_
  refine W_iastore (jx := 125) rfl rfl (by decide) (Nat.le_of_ble_eq_true rfl) (A1 := [.inr (.byte, ((((((xs ++ own_enc c0) ++ own_enc c1) ++ own_enc c2) ++ own_enc c3) ++ ys4).map Value.int)), .inr (.int, [.int q0, .int q1, .int q2, .int q3, .int q4]), .inr (.int, [.int 1, .int (1 + (own_units c0)), .int ((1 + (own_units c0)) + (own_units c1)), .int (((1 + (own_units c0)) + (own_units c1)) + (own_units c2)), .int ((((1 + (own_units c0)) + (own_units c1)) + (own_units c2)) + (own_units c3))])]) rfl ?_
  exact own_K hw p0 p1 p2 p3 p4 p5 c0 c1 c2 c3 q0 q1 q2 q3 q4 xs ys4 hq0 hq1 hq2 hq3 hq4 B4 hc0 hc1 hc2 hc3
set_option maxRecDepth 65536 in
set_option maxHeartbeats 40000000 in
theorem own_T2 {l : Launch} {Z : State} {a0 : Array Value} (hw : ∀ d ∈ tables_1, d.before a0 Z = true) {n0 : Nat} (p0 p1 p2 p3 p4 p5 c0 c1 c2 c3 q0 q1 q2 : Int32) (xs ys2 : List Int32) (hq0 : q0.toInt = xs.length) (hq1 : q1.toInt = (xs ++ own_enc c0).length) (hq2 : q2.toInt = ((xs ++ own_enc c0) ++ own_enc c1).length) (B2 : ((xs ++ own_enc c0) ++ own_enc c1).length ≤ 11) (L2 : ((xs ++ own_enc c0) ++ own_enc c1).length + ys2.length = 19) (hc0 : 0 ≤ c0.toInt ∧ c0.toInt < 1114112) (hc1 : 0 ≤ c1.toInt ∧ c1.toInt < 1114112) (hc2 : 0 ≤ c2.toInt ∧ c2.toInt < 1114112) (hc3 : 0 ≤ c3.toInt ∧ c3.toInt < 1114112) :
    WP false l Z n0 own_lay x.cls own_D0 maxLocals ret x.name room_1 145 [.val (.int p0), .val (.int p1), .val (.int p2), .val (.int p3), .val (.int p4), .val (.int p5), .val (.int c0), .val (.int c1), .val (.int c2), .val (.int c3), .val (.ref 0), .val (.int q0), .val (.ref 1), .val (.ref 2), .unset] [] [.inr (.byte, ((((xs ++ own_enc c0) ++ own_enc c1) ++ ys2).map Value.int)), .inr (.int, [.int q0, .int q1, .int q2, .int 0, .int 0]), .inr (.int, [.int 1, .int (1 + (own_units c0)), .int ((1 + (own_units c0)) + (own_units c1)), .int 0, .int 0])] 3 29 (fun v B => v = some (.int 1)) := by
  refine W_run 90 5 (pc' := 153) (ls' := [.val (.int p0), .val (.int p1), .val (.int p2), .val (.int p3), .val (.int p4), .val (.int p5), .val (.int c0), .val (.int c1), .val (.int c2), .val (.int c3), .val (.ref 0), .val (.int q0), .val (.ref 1), .val (.ref 2), .unset]) (st' := [.int 2, .ref 1, .ref 0, .int 3, .ref 1]) rfl ?_
  refine W_iaload (jx := 95) rfl rfl (by decide) (v := .int q2) rfl ?_
  refine W_run 96 1 (pc' := 156) (ls' := [.val (.int p0), .val (.int p1), .val (.int p2), .val (.int p3), .val (.int p4), .val (.int p5), .val (.int c0), .val (.int c1), .val (.int c2), .val (.int c3), .val (.ref 0), .val (.int q0), .val (.ref 1), .val (.ref 2), .unset]) (st' := [.int c2, .int q2, .ref 0, .int 3, .ref 1]) rfl ?_
  obtain ⟨y0_2, y1_2, y2_2, y3_2, zs_2, hy_2⟩ := own_four ys2 (by omega)
  subst hy_2
  refine W_callS (jx := 97) [.ref 0, .int q2, .int c2] [.int 3, .ref 1] (own_m2 hw [.int q0, .int q1, .int q2, .int 0, .int 0] [.int 1, .int (1 + (own_units c0)), .int ((1 + (own_units c0)) + (own_units c1)), .int 0, .int 0] (((xs ++ own_enc c0) ++ own_enc c1)) y0_2 y1_2 y2_2 y3_2 zs_2 q2 c2 hq2 (by omega)) rfl (hw _ (List.mem_of_getElem? (i := 10) rfl)) (hw _ (List.mem_of_getElem? (i := 11) rfl)) (hw _ (List.mem_of_getElem? (i := 2) rfl)) (hw _ (List.mem_of_getElem? (i := 12) rfl)) (by decide) own_pd2 rfl rfl rfl (by decide) rfl (by decide) (by decide) rfl ?_
  rintro _ _ ⟨rfl, rfl⟩
  show WP _ _ _ _ _ _ _ _ _ _ _ 159 [.val (.int p0), .val (.int p1), .val (.int p2), .val (.int p3), .val (.int p4), .val (.int p5), .val (.int c0), .val (.int c1), .val (.int c2), .val (.int c3), .val (.ref 0), .val (.int q0), .val (.ref 1), .val (.ref 2), .unset] [.int (q2 + own_len c2), .int 3, .ref 1] [.inr (.byte, ((((xs ++ own_enc c0) ++ own_enc c1) ++ (own_enc c2 ++ (y0_2 :: y1_2 :: y2_2 :: y3_2 :: zs_2).drop (own_enc c2).length)).map Value.int)), .inr (.int, [.int q0, .int q1, .int q2, .int 0, .int 0]), .inr (.int, [.int 1, .int (1 + (own_units c0)), .int ((1 + (own_units c0)) + (own_units c1)), .int 0, .int 0])] _ _ _
  have hq3 := own_next q2 c2 (((xs ++ own_enc c0) ++ own_enc c1)) hq2 (by omega)
  have he2 := own_len_eq c2
  rw [← List.append_assoc]
  obtain ⟨ys3, hz2⟩ : ∃ q, q = (y0_2 :: y1_2 :: y2_2 :: y3_2 :: zs_2).drop (own_enc c2).length := ⟨_, rfl⟩
  rw [← hz2]
  have L3 : (((xs ++ own_enc c0) ++ own_enc c1) ++ own_enc c2).length + ys3.length = 19 := by
    rw [hz2, List.length_append, List.length_drop]
    simp only [List.length_cons] at L2 ⊢
    omega
  have B3 : (((xs ++ own_enc c0) ++ own_enc c1) ++ own_enc c2).length ≤ 15 := by
    rw [List.length_append]
    omega
  generalize (q2 + own_len c2) = q3 at *
  refine W_iastore (jx := 98) rfl rfl (by decide) (Nat.le_of_ble_eq_true rfl) (A1 := [.inr (.byte, (((((xs ++ own_enc c0) ++ own_enc c1) ++ own_enc c2) ++ ys3).map Value.int)), .inr (.int, [.int q0, .int q1, .int q2, .int q3, .int 0]), .inr (.int, [.int 1, .int (1 + (own_units c0)), .int ((1 + (own_units c0)) + (own_units c1)), .int 0, .int 0])]) rfl ?_
  refine W_run 99 4 (pc' := 166) (ls' := [.val (.int p0), .val (.int p1), .val (.int p2), .val (.int p3), .val (.int p4), .val (.int p5), .val (.int c0), .val (.int c1), .val (.int c2), .val (.int c3), .val (.ref 0), .val (.int q0), .val (.ref 1), .val (.ref 2), .unset]) (st' := [.int 2, .ref 2, .int 3, .ref 2]) rfl ?_
  refine W_iaload (jx := 103) rfl rfl (by decide) (v := .int ((1 + (own_units c0)) + (own_units c1))) rfl ?_
  refine W_run 104 1 (pc' := 169) (ls' := [.val (.int p0), .val (.int p1), .val (.int p2), .val (.int p3), .val (.int p4), .val (.int p5), .val (.int c0), .val (.int c1), .val (.int c2), .val (.int c3), .val (.ref 0), .val (.int q0), .val (.ref 1), .val (.ref 2), .unset]) (st' := [.int c2, .int ((1 + (own_units c0)) + (own_units c1)), .int 3, .ref 2]) rfl ?_
  refine W_callS (jx := 105) [.int c2] [.int ((1 + (own_units c0)) + (own_units c1)), .int 3, .ref 2] (own_m3 hw c2) rfl (hw _ (List.mem_of_getElem? (i := 13) rfl)) (hw _ (List.mem_of_getElem? (i := 14) rfl)) (hw _ (List.mem_of_getElem? (i := 2) rfl)) (hw _ (List.mem_of_getElem? (i := 15) rfl)) (by decide) own_pd3 rfl rfl rfl (by decide) rfl (by decide) (by decide) rfl ?_
  rintro _ _ ⟨rfl, rfl⟩
  show WP _ _ _ _ _ _ _ _ _ _ _ 172 [.val (.int p0), .val (.int p1), .val (.int p2), .val (.int p3), .val (.int p4), .val (.int p5), .val (.int c0), .val (.int c1), .val (.int c2), .val (.int c3), .val (.ref 0), .val (.int q0), .val (.ref 1), .val (.ref 2), .unset] [.int (own_units c2), .int ((1 + (own_units c0)) + (own_units c1)), .int 3, .ref 2] [.inr (.byte, (((((xs ++ own_enc c0) ++ own_enc c1) ++ own_enc c2) ++ ys3).map Value.int)), .inr (.int, [.int q0, .int q1, .int q2, .int q3, .int 0]), .inr (.int, [.int 1, .int (1 + (own_units c0)), .int ((1 + (own_units c0)) + (own_units c1)), .int 0, .int 0])] _ _ _
  refine W_run 106 1 (pc' := 173) (ls' := [.val (.int p0), .val (.int p1), .val (.int p2), .val (.int p3), .val (.int p4), .val (.int p5), .val (.int c0), .val (.int c1), .val (.int c2), .val (.int c3), .val (.ref 0), .val (.int q0), .val (.ref 1), .val (.ref 2), .unset]) (st' := [.int (((1 + (own_units c0)) + (own_units c1)) + (own_units c2)), .int 3, .ref 2]) rfl ?_
  refine W_iastore (jx := 107) rfl rfl (by decide) (Nat.le_of_ble_eq_true rfl) (A1 := [.inr (.byte, (((((xs ++ own_enc c0) ++ own_enc c1) ++ own_enc c2) ++ ys3).map Value.int)), .inr (.int, [.int q0, .int q1, .int q2, .int q3, .int 0]), .inr (.int, [.int 1, .int (1 + (own_units c0)), .int ((1 + (own_units c0)) + (own_units c1)), .int (((1 + (own_units c0)) + (own_units c1)) + (own_units c2)), .int 0])]) rfl ?_
  exact own_T3 hw p0 p1 p2 p3 p4 p5 c0 c1 c2 c3 q0 q1 q2 q3 xs ys3 hq0 hq1 hq2 hq3 B3 L3 hc0 hc1 hc2 hc3
set_option maxRecDepth 65536 in
set_option maxHeartbeats 40000000 in
theorem own_T1 {l : Launch} {Z : State} {a0 : Array Value} (hw : ∀ d ∈ tables_1, d.before a0 Z = true) {n0 : Nat} (p0 p1 p2 p3 p4 p5 c0 c1 c2 c3 q0 q1 : Int32) (xs ys1 : List Int32) (hq0 : q0.toInt = xs.length) (hq1 : q1.toInt = (xs ++ own_enc c0).length) (B1 : (xs ++ own_enc c0).length ≤ 7) (L1 : (xs ++ own_enc c0).length + ys1.length = 19) (hc0 : 0 ≤ c0.toInt ∧ c0.toInt < 1114112) (hc1 : 0 ≤ c1.toInt ∧ c1.toInt < 1114112) (hc2 : 0 ≤ c2.toInt ∧ c2.toInt < 1114112) (hc3 : 0 ≤ c3.toInt ∧ c3.toInt < 1114112) :
    WP false l Z n0 own_lay x.cls own_D0 maxLocals ret x.name room_1 116 [.val (.int p0), .val (.int p1), .val (.int p2), .val (.int p3), .val (.int p4), .val (.int p5), .val (.int c0), .val (.int c1), .val (.int c2), .val (.int c3), .val (.ref 0), .val (.int q0), .val (.ref 1), .val (.ref 2), .unset] [] [.inr (.byte, (((xs ++ own_enc c0) ++ ys1).map Value.int)), .inr (.int, [.int q0, .int q1, .int 0, .int 0, .int 0]), .inr (.int, [.int 1, .int (1 + (own_units c0)), .int 0, .int 0, .int 0])] 3 29 (fun v B => v = some (.int 1)) := by
  refine W_run 72 5 (pc' := 124) (ls' := [.val (.int p0), .val (.int p1), .val (.int p2), .val (.int p3), .val (.int p4), .val (.int p5), .val (.int c0), .val (.int c1), .val (.int c2), .val (.int c3), .val (.ref 0), .val (.int q0), .val (.ref 1), .val (.ref 2), .unset]) (st' := [.int 1, .ref 1, .ref 0, .int 2, .ref 1]) rfl ?_
  refine W_iaload (jx := 77) rfl rfl (by decide) (v := .int q1) rfl ?_
  refine W_run 78 1 (pc' := 127) (ls' := [.val (.int p0), .val (.int p1), .val (.int p2), .val (.int p3), .val (.int p4), .val (.int p5), .val (.int c0), .val (.int c1), .val (.int c2), .val (.int c3), .val (.ref 0), .val (.int q0), .val (.ref 1), .val (.ref 2), .unset]) (st' := [.int c1, .int q1, .ref 0, .int 2, .ref 1]) rfl ?_
  obtain ⟨y0_1, y1_1, y2_1, y3_1, zs_1, hy_1⟩ := own_four ys1 (by omega)
  subst hy_1
  refine W_callS (jx := 79) [.ref 0, .int q1, .int c1] [.int 2, .ref 1] (own_m2 hw [.int q0, .int q1, .int 0, .int 0, .int 0] [.int 1, .int (1 + (own_units c0)), .int 0, .int 0, .int 0] ((xs ++ own_enc c0)) y0_1 y1_1 y2_1 y3_1 zs_1 q1 c1 hq1 (by omega)) rfl (hw _ (List.mem_of_getElem? (i := 10) rfl)) (hw _ (List.mem_of_getElem? (i := 11) rfl)) (hw _ (List.mem_of_getElem? (i := 2) rfl)) (hw _ (List.mem_of_getElem? (i := 12) rfl)) (by decide) own_pd2 rfl rfl rfl (by decide) rfl (by decide) (by decide) rfl ?_
  rintro _ _ ⟨rfl, rfl⟩
  show WP _ _ _ _ _ _ _ _ _ _ _ 130 [.val (.int p0), .val (.int p1), .val (.int p2), .val (.int p3), .val (.int p4), .val (.int p5), .val (.int c0), .val (.int c1), .val (.int c2), .val (.int c3), .val (.ref 0), .val (.int q0), .val (.ref 1), .val (.ref 2), .unset] [.int (q1 + own_len c1), .int 2, .ref 1] [.inr (.byte, (((xs ++ own_enc c0) ++ (own_enc c1 ++ (y0_1 :: y1_1 :: y2_1 :: y3_1 :: zs_1).drop (own_enc c1).length)).map Value.int)), .inr (.int, [.int q0, .int q1, .int 0, .int 0, .int 0]), .inr (.int, [.int 1, .int (1 + (own_units c0)), .int 0, .int 0, .int 0])] _ _ _
  have hq2 := own_next q1 c1 ((xs ++ own_enc c0)) hq1 (by omega)
  have he1 := own_len_eq c1
  rw [← List.append_assoc]
  obtain ⟨ys2, hz1⟩ : ∃ q, q = (y0_1 :: y1_1 :: y2_1 :: y3_1 :: zs_1).drop (own_enc c1).length := ⟨_, rfl⟩
  rw [← hz1]
  have L2 : ((xs ++ own_enc c0) ++ own_enc c1).length + ys2.length = 19 := by
    rw [hz1, List.length_append, List.length_drop]
    simp only [List.length_cons] at L1 ⊢
    omega
  have B2 : ((xs ++ own_enc c0) ++ own_enc c1).length ≤ 11 := by
    rw [List.length_append]
    omega
  generalize (q1 + own_len c1) = q2 at *
  refine W_iastore (jx := 80) rfl rfl (by decide) (Nat.le_of_ble_eq_true rfl) (A1 := [.inr (.byte, ((((xs ++ own_enc c0) ++ own_enc c1) ++ ys2).map Value.int)), .inr (.int, [.int q0, .int q1, .int q2, .int 0, .int 0]), .inr (.int, [.int 1, .int (1 + (own_units c0)), .int 0, .int 0, .int 0])]) rfl ?_
  refine W_run 81 4 (pc' := 137) (ls' := [.val (.int p0), .val (.int p1), .val (.int p2), .val (.int p3), .val (.int p4), .val (.int p5), .val (.int c0), .val (.int c1), .val (.int c2), .val (.int c3), .val (.ref 0), .val (.int q0), .val (.ref 1), .val (.ref 2), .unset]) (st' := [.int 1, .ref 2, .int 2, .ref 2]) rfl ?_
  refine W_iaload (jx := 85) rfl rfl (by decide) (v := .int (1 + (own_units c0))) rfl ?_
  refine W_run 86 1 (pc' := 140) (ls' := [.val (.int p0), .val (.int p1), .val (.int p2), .val (.int p3), .val (.int p4), .val (.int p5), .val (.int c0), .val (.int c1), .val (.int c2), .val (.int c3), .val (.ref 0), .val (.int q0), .val (.ref 1), .val (.ref 2), .unset]) (st' := [.int c1, .int (1 + (own_units c0)), .int 2, .ref 2]) rfl ?_
  refine W_callS (jx := 87) [.int c1] [.int (1 + (own_units c0)), .int 2, .ref 2] (own_m3 hw c1) rfl (hw _ (List.mem_of_getElem? (i := 13) rfl)) (hw _ (List.mem_of_getElem? (i := 14) rfl)) (hw _ (List.mem_of_getElem? (i := 2) rfl)) (hw _ (List.mem_of_getElem? (i := 15) rfl)) (by decide) own_pd3 rfl rfl rfl (by decide) rfl (by decide) (by decide) rfl ?_
  rintro _ _ ⟨rfl, rfl⟩
  show WP _ _ _ _ _ _ _ _ _ _ _ 143 [.val (.int p0), .val (.int p1), .val (.int p2), .val (.int p3), .val (.int p4), .val (.int p5), .val (.int c0), .val (.int c1), .val (.int c2), .val (.int c3), .val (.ref 0), .val (.int q0), .val (.ref 1), .val (.ref 2), .unset] [.int (own_units c1), .int (1 + (own_units c0)), .int 2, .ref 2] [.inr (.byte, ((((xs ++ own_enc c0) ++ own_enc c1) ++ ys2).map Value.int)), .inr (.int, [.int q0, .int q1, .int q2, .int 0, .int 0]), .inr (.int, [.int 1, .int (1 + (own_units c0)), .int 0, .int 0, .int 0])] _ _ _
  refine W_run 88 1 (pc' := 144) (ls' := [.val (.int p0), .val (.int p1), .val (.int p2), .val (.int p3), .val (.int p4), .val (.int p5), .val (.int c0), .val (.int c1), .val (.int c2), .val (.int c3), .val (.ref 0), .val (.int q0), .val (.ref 1), .val (.ref 2), .unset]) (st' := [.int ((1 + (own_units c0)) + (own_units c1)), .int 2, .ref 2]) rfl ?_
  refine W_iastore (jx := 89) rfl rfl (by decide) (Nat.le_of_ble_eq_true rfl) (A1 := [.inr (.byte, ((((xs ++ own_enc c0) ++ own_enc c1) ++ ys2).map Value.int)), .inr (.int, [.int q0, .int q1, .int q2, .int 0, .int 0]), .inr (.int, [.int 1, .int (1 + (own_units c0)), .int ((1 + (own_units c0)) + (own_units c1)), .int 0, .int 0])]) rfl ?_
  exact own_T2 hw p0 p1 p2 p3 p4 p5 c0 c1 c2 c3 q0 q1 q2 xs ys2 hq0 hq1 hq2 B2 L2 hc0 hc1 hc2 hc3
set_option maxRecDepth 65536 in
set_option maxHeartbeats 40000000 in
theorem own_T0 {l : Launch} {Z : State} {a0 : Array Value} (hw : ∀ d ∈ tables_1, d.before a0 Z = true) {n0 : Nat} (p0 p1 p2 p3 p4 p5 c0 c1 c2 c3 q0 : Int32) (xs ys0 : List Int32) (hq0 : q0.toInt = xs.length) (B0 : xs.length ≤ 3) (L0 : xs.length + ys0.length = 19) (hc0 : 0 ≤ c0.toInt ∧ c0.toInt < 1114112) (hc1 : 0 ≤ c1.toInt ∧ c1.toInt < 1114112) (hc2 : 0 ≤ c2.toInt ∧ c2.toInt < 1114112) (hc3 : 0 ≤ c3.toInt ∧ c3.toInt < 1114112) :
    WP false l Z n0 own_lay x.cls own_D0 maxLocals ret x.name room_1 87 [.val (.int p0), .val (.int p1), .val (.int p2), .val (.int p3), .val (.int p4), .val (.int p5), .val (.int c0), .val (.int c1), .val (.int c2), .val (.int c3), .val (.ref 0), .val (.int q0), .val (.ref 1), .val (.ref 2), .unset] [] [.inr (.byte, ((xs ++ ys0).map Value.int)), .inr (.int, [.int q0, .int 0, .int 0, .int 0, .int 0]), .inr (.int, [.int 1, .int 0, .int 0, .int 0, .int 0])] 3 29 (fun v B => v = some (.int 1)) := by
  refine W_run 54 5 (pc' := 95) (ls' := [.val (.int p0), .val (.int p1), .val (.int p2), .val (.int p3), .val (.int p4), .val (.int p5), .val (.int c0), .val (.int c1), .val (.int c2), .val (.int c3), .val (.ref 0), .val (.int q0), .val (.ref 1), .val (.ref 2), .unset]) (st' := [.int 0, .ref 1, .ref 0, .int 1, .ref 1]) rfl ?_
  refine W_iaload (jx := 59) rfl rfl (by decide) (v := .int q0) rfl ?_
  refine W_run 60 1 (pc' := 98) (ls' := [.val (.int p0), .val (.int p1), .val (.int p2), .val (.int p3), .val (.int p4), .val (.int p5), .val (.int c0), .val (.int c1), .val (.int c2), .val (.int c3), .val (.ref 0), .val (.int q0), .val (.ref 1), .val (.ref 2), .unset]) (st' := [.int c0, .int q0, .ref 0, .int 1, .ref 1]) rfl ?_
  obtain ⟨y0_0, y1_0, y2_0, y3_0, zs_0, hy_0⟩ := own_four ys0 (by omega)
  subst hy_0
  refine W_callS (jx := 61) [.ref 0, .int q0, .int c0] [.int 1, .ref 1] (own_m2 hw [.int q0, .int 0, .int 0, .int 0, .int 0] [.int 1, .int 0, .int 0, .int 0, .int 0] (xs) y0_0 y1_0 y2_0 y3_0 zs_0 q0 c0 hq0 (by omega)) rfl (hw _ (List.mem_of_getElem? (i := 10) rfl)) (hw _ (List.mem_of_getElem? (i := 11) rfl)) (hw _ (List.mem_of_getElem? (i := 2) rfl)) (hw _ (List.mem_of_getElem? (i := 12) rfl)) (by decide) own_pd2 rfl rfl rfl (by decide) rfl (by decide) (by decide) rfl ?_
  rintro _ _ ⟨rfl, rfl⟩
  show WP _ _ _ _ _ _ _ _ _ _ _ 101 [.val (.int p0), .val (.int p1), .val (.int p2), .val (.int p3), .val (.int p4), .val (.int p5), .val (.int c0), .val (.int c1), .val (.int c2), .val (.int c3), .val (.ref 0), .val (.int q0), .val (.ref 1), .val (.ref 2), .unset] [.int (q0 + own_len c0), .int 1, .ref 1] [.inr (.byte, ((xs ++ (own_enc c0 ++ (y0_0 :: y1_0 :: y2_0 :: y3_0 :: zs_0).drop (own_enc c0).length)).map Value.int)), .inr (.int, [.int q0, .int 0, .int 0, .int 0, .int 0]), .inr (.int, [.int 1, .int 0, .int 0, .int 0, .int 0])] _ _ _
  have hq1 := own_next q0 c0 (xs) hq0 (by omega)
  have he0 := own_len_eq c0
  rw [← List.append_assoc]
  obtain ⟨ys1, hz0⟩ : ∃ q, q = (y0_0 :: y1_0 :: y2_0 :: y3_0 :: zs_0).drop (own_enc c0).length := ⟨_, rfl⟩
  rw [← hz0]
  have L1 : (xs ++ own_enc c0).length + ys1.length = 19 := by
    rw [hz0, List.length_append, List.length_drop]
    simp only [List.length_cons] at L0 ⊢
    omega
  have B1 : (xs ++ own_enc c0).length ≤ 7 := by
    rw [List.length_append]
    omega
  generalize (q0 + own_len c0) = q1 at *
  refine W_iastore (jx := 62) rfl rfl (by decide) (Nat.le_of_ble_eq_true rfl) (A1 := [.inr (.byte, (((xs ++ own_enc c0) ++ ys1).map Value.int)), .inr (.int, [.int q0, .int q1, .int 0, .int 0, .int 0]), .inr (.int, [.int 1, .int 0, .int 0, .int 0, .int 0])]) rfl ?_
  refine W_run 63 4 (pc' := 108) (ls' := [.val (.int p0), .val (.int p1), .val (.int p2), .val (.int p3), .val (.int p4), .val (.int p5), .val (.int c0), .val (.int c1), .val (.int c2), .val (.int c3), .val (.ref 0), .val (.int q0), .val (.ref 1), .val (.ref 2), .unset]) (st' := [.int 0, .ref 2, .int 1, .ref 2]) rfl ?_
  refine W_iaload (jx := 67) rfl rfl (by decide) (v := .int 1) rfl ?_
  refine W_run 68 1 (pc' := 111) (ls' := [.val (.int p0), .val (.int p1), .val (.int p2), .val (.int p3), .val (.int p4), .val (.int p5), .val (.int c0), .val (.int c1), .val (.int c2), .val (.int c3), .val (.ref 0), .val (.int q0), .val (.ref 1), .val (.ref 2), .unset]) (st' := [.int c0, .int 1, .int 1, .ref 2]) rfl ?_
  refine W_callS (jx := 69) [.int c0] [.int 1, .int 1, .ref 2] (own_m3 hw c0) rfl (hw _ (List.mem_of_getElem? (i := 13) rfl)) (hw _ (List.mem_of_getElem? (i := 14) rfl)) (hw _ (List.mem_of_getElem? (i := 2) rfl)) (hw _ (List.mem_of_getElem? (i := 15) rfl)) (by decide) own_pd3 rfl rfl rfl (by decide) rfl (by decide) (by decide) rfl ?_
  rintro _ _ ⟨rfl, rfl⟩
  show WP _ _ _ _ _ _ _ _ _ _ _ 114 [.val (.int p0), .val (.int p1), .val (.int p2), .val (.int p3), .val (.int p4), .val (.int p5), .val (.int c0), .val (.int c1), .val (.int c2), .val (.int c3), .val (.ref 0), .val (.int q0), .val (.ref 1), .val (.ref 2), .unset] [.int (own_units c0), .int 1, .int 1, .ref 2] [.inr (.byte, (((xs ++ own_enc c0) ++ ys1).map Value.int)), .inr (.int, [.int q0, .int q1, .int 0, .int 0, .int 0]), .inr (.int, [.int 1, .int 0, .int 0, .int 0, .int 0])] _ _ _
  refine W_run 70 1 (pc' := 115) (ls' := [.val (.int p0), .val (.int p1), .val (.int p2), .val (.int p3), .val (.int p4), .val (.int p5), .val (.int c0), .val (.int c1), .val (.int c2), .val (.int c3), .val (.ref 0), .val (.int q0), .val (.ref 1), .val (.ref 2), .unset]) (st' := [.int (1 + (own_units c0)), .int 1, .ref 2]) rfl ?_
  refine W_iastore (jx := 71) rfl rfl (by decide) (Nat.le_of_ble_eq_true rfl) (A1 := [.inr (.byte, (((xs ++ own_enc c0) ++ ys1).map Value.int)), .inr (.int, [.int q0, .int q1, .int 0, .int 0, .int 0]), .inr (.int, [.int 1, .int (1 + (own_units c0)), .int 0, .int 0, .int 0])]) rfl ?_
  exact own_T1 hw p0 p1 p2 p3 p4 p5 c0 c1 c2 c3 q0 q1 xs ys1 hq0 hq1 B1 L1 hc0 hc1 hc2 hc3
set_option maxRecDepth 65536 in
set_option maxHeartbeats 40000000 in
theorem own_m0 {l : Launch} {Z : State} {a0 : Array Value} (hw : ∀ d ∈ tables_1, d.before a0 Z = true) {n0 : Nat} (p0 : Int32) (p1 : Int32) (p2 : Int32) (p3 : Int32) (p4 : Int32) (p5 : Int32)  :
    MT false l Z n0 own_lay x code maxLocals ret tables_1 room_1 [.int p0, .int p1, .int p2, .int p3, .int p4, .int p5] [] (fun v B => v = some (.int 1)) := by
  refine W_enter (D := own_D0) own_pn0 own_D0_ok ?_
  show WP _ _ _ _ _ _ _ _ _ _ _ 0 [.val (.int p0), .val (.int p1), .val (.int p2), .val (.int p3), .val (.int p4), .val (.int p5), .unset, .unset, .unset, .unset, .unset, .unset, .unset, .unset, .unset] [] _ 0 0 _
  refine W_run 0 1 (pc' := 1) (ls' := [.val (.int p0), .val (.int p1), .val (.int p2), .val (.int p3), .val (.int p4), .val (.int p5), .unset, .unset, .unset, .unset, .unset, .unset, .unset, .unset, .unset]) (st' := [.int p0]) rfl ?_
  refine W_callS (jx := 1) [.int p0] [] (own_m1 hw p0) rfl (hw _ (List.mem_of_getElem? (i := 0) rfl)) (hw _ (List.mem_of_getElem? (i := 1) rfl)) (hw _ (List.mem_of_getElem? (i := 2) rfl)) (hw _ (List.mem_of_getElem? (i := 3) rfl)) (by decide) own_pd1 rfl rfl rfl (by decide) rfl (by decide) (by decide) rfl ?_
  rintro _ _ ⟨c0, rfl, hc0, rfl⟩
  show WP _ _ _ _ _ _ _ _ _ _ _ 4 [.val (.int p0), .val (.int p1), .val (.int p2), .val (.int p3), .val (.int p4), .val (.int p5), .unset, .unset, .unset, .unset, .unset, .unset, .unset, .unset, .unset] [.int c0] [] _ _ _
  refine W_run 2 1 (pc' := 6) (ls' := [.val (.int p0), .val (.int p1), .val (.int p2), .val (.int p3), .val (.int p4), .val (.int p5), .val (.int c0), .unset, .unset, .unset, .unset, .unset, .unset, .unset, .unset]) (st' := []) rfl ?_
  refine W_run 3 1 (pc' := 7) (ls' := [.val (.int p0), .val (.int p1), .val (.int p2), .val (.int p3), .val (.int p4), .val (.int p5), .val (.int c0), .unset, .unset, .unset, .unset, .unset, .unset, .unset, .unset]) (st' := [.int p1]) rfl ?_
  refine W_callS (jx := 4) [.int p1] [] (own_m1 hw p1) rfl (hw _ (List.mem_of_getElem? (i := 0) rfl)) (hw _ (List.mem_of_getElem? (i := 1) rfl)) (hw _ (List.mem_of_getElem? (i := 2) rfl)) (hw _ (List.mem_of_getElem? (i := 3) rfl)) (by decide) own_pd1 rfl rfl rfl (by decide) rfl (by decide) (by decide) rfl ?_
  rintro _ _ ⟨c1, rfl, hc1, rfl⟩
  show WP _ _ _ _ _ _ _ _ _ _ _ 10 [.val (.int p0), .val (.int p1), .val (.int p2), .val (.int p3), .val (.int p4), .val (.int p5), .val (.int c0), .unset, .unset, .unset, .unset, .unset, .unset, .unset, .unset] [.int c1] [] _ _ _
  refine W_run 5 1 (pc' := 12) (ls' := [.val (.int p0), .val (.int p1), .val (.int p2), .val (.int p3), .val (.int p4), .val (.int p5), .val (.int c0), .val (.int c1), .unset, .unset, .unset, .unset, .unset, .unset, .unset]) (st' := []) rfl ?_
  refine W_run 6 1 (pc' := 13) (ls' := [.val (.int p0), .val (.int p1), .val (.int p2), .val (.int p3), .val (.int p4), .val (.int p5), .val (.int c0), .val (.int c1), .unset, .unset, .unset, .unset, .unset, .unset, .unset]) (st' := [.int p2]) rfl ?_
  refine W_callS (jx := 7) [.int p2] [] (own_m1 hw p2) rfl (hw _ (List.mem_of_getElem? (i := 0) rfl)) (hw _ (List.mem_of_getElem? (i := 1) rfl)) (hw _ (List.mem_of_getElem? (i := 2) rfl)) (hw _ (List.mem_of_getElem? (i := 3) rfl)) (by decide) own_pd1 rfl rfl rfl (by decide) rfl (by decide) (by decide) rfl ?_
  rintro _ _ ⟨c2, rfl, hc2, rfl⟩
  show WP _ _ _ _ _ _ _ _ _ _ _ 16 [.val (.int p0), .val (.int p1), .val (.int p2), .val (.int p3), .val (.int p4), .val (.int p5), .val (.int c0), .val (.int c1), .unset, .unset, .unset, .unset, .unset, .unset, .unset] [.int c2] [] _ _ _
  refine W_run 8 1 (pc' := 18) (ls' := [.val (.int p0), .val (.int p1), .val (.int p2), .val (.int p3), .val (.int p4), .val (.int p5), .val (.int c0), .val (.int c1), .val (.int c2), .unset, .unset, .unset, .unset, .unset, .unset]) (st' := []) rfl ?_
  refine W_run 9 1 (pc' := 19) (ls' := [.val (.int p0), .val (.int p1), .val (.int p2), .val (.int p3), .val (.int p4), .val (.int p5), .val (.int c0), .val (.int c1), .val (.int c2), .unset, .unset, .unset, .unset, .unset, .unset]) (st' := [.int p3]) rfl ?_
  refine W_callS (jx := 10) [.int p3] [] (own_m1 hw p3) rfl (hw _ (List.mem_of_getElem? (i := 0) rfl)) (hw _ (List.mem_of_getElem? (i := 1) rfl)) (hw _ (List.mem_of_getElem? (i := 2) rfl)) (hw _ (List.mem_of_getElem? (i := 3) rfl)) (by decide) own_pd1 rfl rfl rfl (by decide) rfl (by decide) (by decide) rfl ?_
  rintro _ _ ⟨c3, rfl, hc3, rfl⟩
  show WP _ _ _ _ _ _ _ _ _ _ _ 22 [.val (.int p0), .val (.int p1), .val (.int p2), .val (.int p3), .val (.int p4), .val (.int p5), .val (.int c0), .val (.int c1), .val (.int c2), .unset, .unset, .unset, .unset, .unset, .unset] [.int c3] [] _ _ _
  refine W_run 11 1 (pc' := 24) (ls' := [.val (.int p0), .val (.int p1), .val (.int p2), .val (.int p3), .val (.int p4), .val (.int p5), .val (.int c0), .val (.int c1), .val (.int c2), .val (.int c3), .unset, .unset, .unset, .unset, .unset]) (st' := []) rfl ?_
  refine W_run 12 1 (pc' := 26) (ls' := [.val (.int p0), .val (.int p1), .val (.int p2), .val (.int p3), .val (.int p4), .val (.int p5), .val (.int c0), .val (.int c1), .val (.int c2), .val (.int c3), .unset, .unset, .unset, .unset, .unset]) (st' := [.int 19]) rfl ?_
  refine W_newarray (jx := 13) 19 (vs := [.int 0, .int 0, .int 0, .int 0, .int 0, .int 0, .int 0, .int 0, .int 0, .int 0, .int 0, .int 0, .int 0, .int 0, .int 0, .int 0, .int 0, .int 0, .int 0]) rfl rfl (hw _ (List.mem_of_getElem? (i := 8) rfl)) (by decide) rfl (by decide) (by decide) (by decide) (by decide) rfl (N0 := 0) (A1 := [.inr (.byte, [.int 0, .int 0, .int 0, .int 0, .int 0, .int 0, .int 0, .int 0, .int 0, .int 0, .int 0, .int 0, .int 0, .int 0, .int 0, .int 0, .int 0, .int 0, .int 0])]) rfl rfl ?_
  refine W_run 14 1 (pc' := 30) (ls' := [.val (.int p0), .val (.int p1), .val (.int p2), .val (.int p3), .val (.int p4), .val (.int p5), .val (.int c0), .val (.int c1), .val (.int c2), .val (.int c3), .val (.ref 0), .unset, .unset, .unset, .unset]) (st' := []) rfl ?_
  refine W_run 15 6 (pc' := 39) (ls' := [.val (.int p0), .val (.int p1), .val (.int p2), .val (.int p3), .val (.int p4), .val (.int p5), .val (.int c0), .val (.int c1), .val (.int c2), .val (.int c3), .val (.ref 0), .unset, .unset, .unset, .unset]) (st' := [.int (((XT.ushr p4 8) : Int32).toInt8.toInt32), .int 0, .ref 0]) rfl ?_
  refine W_bastore (jx := 21) rfl rfl (by decide) (Nat.le_of_ble_eq_true rfl) (y := (((XT.ushr p4 8) : Int32).toInt8.toInt32)) (own_b8 _) (A1 := [.inr (.byte, [.int (((XT.ushr p4 8) : Int32).toInt8.toInt32), .int 0, .int 0, .int 0, .int 0, .int 0, .int 0, .int 0, .int 0, .int 0, .int 0, .int 0, .int 0, .int 0, .int 0, .int 0, .int 0, .int 0, .int 0])]) rfl ?_
  refine W_run 22 6 (pc' := 49) (ls' := [.val (.int p0), .val (.int p1), .val (.int p2), .val (.int p3), .val (.int p4), .val (.int p5), .val (.int c0), .val (.int c1), .val (.int c2), .val (.int c3), .val (.ref 0), .unset, .unset, .unset, .unset]) (st' := [.int (((XT.ushr p4 16) : Int32).toInt8.toInt32), .int 1, .ref 0]) rfl ?_
  refine W_bastore (jx := 28) rfl rfl (by decide) (Nat.le_of_ble_eq_true rfl) (y := (((XT.ushr p4 16) : Int32).toInt8.toInt32)) (own_b8 _) (A1 := [.inr (.byte, [.int (((XT.ushr p4 8) : Int32).toInt8.toInt32), .int (((XT.ushr p4 16) : Int32).toInt8.toInt32), .int 0, .int 0, .int 0, .int 0, .int 0, .int 0, .int 0, .int 0, .int 0, .int 0, .int 0, .int 0, .int 0, .int 0, .int 0, .int 0, .int 0])]) rfl ?_
  refine W_run 29 6 (pc' := 59) (ls' := [.val (.int p0), .val (.int p1), .val (.int p2), .val (.int p3), .val (.int p4), .val (.int p5), .val (.int c0), .val (.int c1), .val (.int c2), .val (.int c3), .val (.ref 0), .unset, .unset, .unset, .unset]) (st' := [.int (((XT.ushr p4 24) : Int32).toInt8.toInt32), .int 2, .ref 0]) rfl ?_
  refine W_bastore (jx := 35) rfl rfl (by decide) (Nat.le_of_ble_eq_true rfl) (y := (((XT.ushr p4 24) : Int32).toInt8.toInt32)) (own_b8 _) (A1 := [.inr (.byte, [.int (((XT.ushr p4 8) : Int32).toInt8.toInt32), .int (((XT.ushr p4 16) : Int32).toInt8.toInt32), .int (((XT.ushr p4 24) : Int32).toInt8.toInt32), .int 0, .int 0, .int 0, .int 0, .int 0, .int 0, .int 0, .int 0, .int 0, .int 0, .int 0, .int 0, .int 0, .int 0, .int 0, .int 0])]) rfl ?_
  refine W_run 36 3 (pc' := 64) (ls' := [.val (.int p0), .val (.int p1), .val (.int p2), .val (.int p3), .val (.int p4), .val (.int p5), .val (.int c0), .val (.int c1), .val (.int c2), .val (.int c3), .val (.ref 0), .unset, .unset, .unset, .unset]) (st' := [.int (p4 &&& 3)]) rfl ?_
  generalize h_fr : ((p4 &&& 3) : Int32) = fr
  have hf := own_f4 _ _ h_fr
  rcases hf with rfl | rfl | rfl | rfl
  · clear h_fr
    refine W_run 39 1 (pc' := 66) (ls' := [.val (.int p0), .val (.int p1), .val (.int p2), .val (.int p3), .val (.int p4), .val (.int p5), .val (.int c0), .val (.int c1), .val (.int c2), .val (.int c3), .val (.ref 0), .val (.int 0), .unset, .unset, .unset]) (st' := []) rfl ?_
    refine W_run 40 1 (pc' := 67) (ls' := [.val (.int p0), .val (.int p1), .val (.int p2), .val (.int p3), .val (.int p4), .val (.int p5), .val (.int c0), .val (.int c1), .val (.int c2), .val (.int c3), .val (.ref 0), .val (.int 0), .unset, .unset, .unset]) (st' := [.int 5]) rfl ?_
    refine W_newarray (jx := 41) 5 (vs := [.int 0, .int 0, .int 0, .int 0, .int 0]) rfl rfl (hw _ (List.mem_of_getElem? (i := 9) rfl)) (by decide) rfl (by decide) (by decide) (by decide) (by decide) rfl (N0 := 1) (A1 := [.inr (.byte, [.int (((XT.ushr p4 8) : Int32).toInt8.toInt32), .int (((XT.ushr p4 16) : Int32).toInt8.toInt32), .int (((XT.ushr p4 24) : Int32).toInt8.toInt32), .int 0, .int 0, .int 0, .int 0, .int 0, .int 0, .int 0, .int 0, .int 0, .int 0, .int 0, .int 0, .int 0, .int 0, .int 0, .int 0]), .inr (.int, [.int 0, .int 0, .int 0, .int 0, .int 0])]) rfl rfl ?_
    refine W_run 42 1 (pc' := 71) (ls' := [.val (.int p0), .val (.int p1), .val (.int p2), .val (.int p3), .val (.int p4), .val (.int p5), .val (.int c0), .val (.int c1), .val (.int c2), .val (.int c3), .val (.ref 0), .val (.int 0), .val (.ref 1), .unset, .unset]) (st' := []) rfl ?_
    refine W_run 43 1 (pc' := 72) (ls' := [.val (.int p0), .val (.int p1), .val (.int p2), .val (.int p3), .val (.int p4), .val (.int p5), .val (.int c0), .val (.int c1), .val (.int c2), .val (.int c3), .val (.ref 0), .val (.int 0), .val (.ref 1), .unset, .unset]) (st' := [.int 5]) rfl ?_
    refine W_newarray (jx := 44) 5 (vs := [.int 0, .int 0, .int 0, .int 0, .int 0]) rfl rfl (hw _ (List.mem_of_getElem? (i := 9) rfl)) (by decide) rfl (by decide) (by decide) (by decide) (by decide) rfl (N0 := 2) (A1 := [.inr (.byte, [.int (((XT.ushr p4 8) : Int32).toInt8.toInt32), .int (((XT.ushr p4 16) : Int32).toInt8.toInt32), .int (((XT.ushr p4 24) : Int32).toInt8.toInt32), .int 0, .int 0, .int 0, .int 0, .int 0, .int 0, .int 0, .int 0, .int 0, .int 0, .int 0, .int 0, .int 0, .int 0, .int 0, .int 0]), .inr (.int, [.int 0, .int 0, .int 0, .int 0, .int 0]), .inr (.int, [.int 0, .int 0, .int 0, .int 0, .int 0])]) rfl rfl ?_
    refine W_run 45 1 (pc' := 76) (ls' := [.val (.int p0), .val (.int p1), .val (.int p2), .val (.int p3), .val (.int p4), .val (.int p5), .val (.int c0), .val (.int c1), .val (.int c2), .val (.int c3), .val (.ref 0), .val (.int 0), .val (.ref 1), .val (.ref 2), .unset]) (st' := []) rfl ?_
    refine W_run 46 3 (pc' := 81) (ls' := [.val (.int p0), .val (.int p1), .val (.int p2), .val (.int p3), .val (.int p4), .val (.int p5), .val (.int c0), .val (.int c1), .val (.int c2), .val (.int c3), .val (.ref 0), .val (.int 0), .val (.ref 1), .val (.ref 2), .unset]) (st' := [.int 0, .int 0, .ref 1]) rfl ?_
    refine W_iastore (jx := 49) rfl rfl (by decide) (Nat.le_of_ble_eq_true rfl) (A1 := [.inr (.byte, [.int (((XT.ushr p4 8) : Int32).toInt8.toInt32), .int (((XT.ushr p4 16) : Int32).toInt8.toInt32), .int (((XT.ushr p4 24) : Int32).toInt8.toInt32), .int 0, .int 0, .int 0, .int 0, .int 0, .int 0, .int 0, .int 0, .int 0, .int 0, .int 0, .int 0, .int 0, .int 0, .int 0, .int 0]), .inr (.int, [.int 0, .int 0, .int 0, .int 0, .int 0]), .inr (.int, [.int 0, .int 0, .int 0, .int 0, .int 0])]) rfl ?_
    refine W_run 50 3 (pc' := 86) (ls' := [.val (.int p0), .val (.int p1), .val (.int p2), .val (.int p3), .val (.int p4), .val (.int p5), .val (.int c0), .val (.int c1), .val (.int c2), .val (.int c3), .val (.ref 0), .val (.int 0), .val (.ref 1), .val (.ref 2), .unset]) (st' := [.int 1, .int 0, .ref 2]) rfl ?_
    refine W_iastore (jx := 53) rfl rfl (by decide) (Nat.le_of_ble_eq_true rfl) (A1 := [.inr (.byte, [.int (((XT.ushr p4 8) : Int32).toInt8.toInt32), .int (((XT.ushr p4 16) : Int32).toInt8.toInt32), .int (((XT.ushr p4 24) : Int32).toInt8.toInt32), .int 0, .int 0, .int 0, .int 0, .int 0, .int 0, .int 0, .int 0, .int 0, .int 0, .int 0, .int 0, .int 0, .int 0, .int 0, .int 0]), .inr (.int, [.int 0, .int 0, .int 0, .int 0, .int 0]), .inr (.int, [.int 1, .int 0, .int 0, .int 0, .int 0])]) rfl ?_
    exact own_T0 hw p0 p1 p2 p3 p4 p5 c0 c1 c2 c3 0 [] [(((XT.ushr p4 8) : Int32).toInt8.toInt32), (((XT.ushr p4 16) : Int32).toInt8.toInt32), (((XT.ushr p4 24) : Int32).toInt8.toInt32), 0, 0, 0, 0, 0, 0, 0, 0, 0, 0, 0, 0, 0, 0, 0, 0] (by simp <;> decide) (by simp) (by simp) hc0 hc1 hc2 hc3
  · clear h_fr
    refine W_run 39 1 (pc' := 66) (ls' := [.val (.int p0), .val (.int p1), .val (.int p2), .val (.int p3), .val (.int p4), .val (.int p5), .val (.int c0), .val (.int c1), .val (.int c2), .val (.int c3), .val (.ref 0), .val (.int 1), .unset, .unset, .unset]) (st' := []) rfl ?_
    refine W_run 40 1 (pc' := 67) (ls' := [.val (.int p0), .val (.int p1), .val (.int p2), .val (.int p3), .val (.int p4), .val (.int p5), .val (.int c0), .val (.int c1), .val (.int c2), .val (.int c3), .val (.ref 0), .val (.int 1), .unset, .unset, .unset]) (st' := [.int 5]) rfl ?_
    refine W_newarray (jx := 41) 5 (vs := [.int 0, .int 0, .int 0, .int 0, .int 0]) rfl rfl (hw _ (List.mem_of_getElem? (i := 9) rfl)) (by decide) rfl (by decide) (by decide) (by decide) (by decide) rfl (N0 := 1) (A1 := [.inr (.byte, [.int (((XT.ushr p4 8) : Int32).toInt8.toInt32), .int (((XT.ushr p4 16) : Int32).toInt8.toInt32), .int (((XT.ushr p4 24) : Int32).toInt8.toInt32), .int 0, .int 0, .int 0, .int 0, .int 0, .int 0, .int 0, .int 0, .int 0, .int 0, .int 0, .int 0, .int 0, .int 0, .int 0, .int 0]), .inr (.int, [.int 0, .int 0, .int 0, .int 0, .int 0])]) rfl rfl ?_
    refine W_run 42 1 (pc' := 71) (ls' := [.val (.int p0), .val (.int p1), .val (.int p2), .val (.int p3), .val (.int p4), .val (.int p5), .val (.int c0), .val (.int c1), .val (.int c2), .val (.int c3), .val (.ref 0), .val (.int 1), .val (.ref 1), .unset, .unset]) (st' := []) rfl ?_
    refine W_run 43 1 (pc' := 72) (ls' := [.val (.int p0), .val (.int p1), .val (.int p2), .val (.int p3), .val (.int p4), .val (.int p5), .val (.int c0), .val (.int c1), .val (.int c2), .val (.int c3), .val (.ref 0), .val (.int 1), .val (.ref 1), .unset, .unset]) (st' := [.int 5]) rfl ?_
    refine W_newarray (jx := 44) 5 (vs := [.int 0, .int 0, .int 0, .int 0, .int 0]) rfl rfl (hw _ (List.mem_of_getElem? (i := 9) rfl)) (by decide) rfl (by decide) (by decide) (by decide) (by decide) rfl (N0 := 2) (A1 := [.inr (.byte, [.int (((XT.ushr p4 8) : Int32).toInt8.toInt32), .int (((XT.ushr p4 16) : Int32).toInt8.toInt32), .int (((XT.ushr p4 24) : Int32).toInt8.toInt32), .int 0, .int 0, .int 0, .int 0, .int 0, .int 0, .int 0, .int 0, .int 0, .int 0, .int 0, .int 0, .int 0, .int 0, .int 0, .int 0]), .inr (.int, [.int 0, .int 0, .int 0, .int 0, .int 0]), .inr (.int, [.int 0, .int 0, .int 0, .int 0, .int 0])]) rfl rfl ?_
    refine W_run 45 1 (pc' := 76) (ls' := [.val (.int p0), .val (.int p1), .val (.int p2), .val (.int p3), .val (.int p4), .val (.int p5), .val (.int c0), .val (.int c1), .val (.int c2), .val (.int c3), .val (.ref 0), .val (.int 1), .val (.ref 1), .val (.ref 2), .unset]) (st' := []) rfl ?_
    refine W_run 46 3 (pc' := 81) (ls' := [.val (.int p0), .val (.int p1), .val (.int p2), .val (.int p3), .val (.int p4), .val (.int p5), .val (.int c0), .val (.int c1), .val (.int c2), .val (.int c3), .val (.ref 0), .val (.int 1), .val (.ref 1), .val (.ref 2), .unset]) (st' := [.int 1, .int 0, .ref 1]) rfl ?_
    refine W_iastore (jx := 49) rfl rfl (by decide) (Nat.le_of_ble_eq_true rfl) (A1 := [.inr (.byte, [.int (((XT.ushr p4 8) : Int32).toInt8.toInt32), .int (((XT.ushr p4 16) : Int32).toInt8.toInt32), .int (((XT.ushr p4 24) : Int32).toInt8.toInt32), .int 0, .int 0, .int 0, .int 0, .int 0, .int 0, .int 0, .int 0, .int 0, .int 0, .int 0, .int 0, .int 0, .int 0, .int 0, .int 0]), .inr (.int, [.int 1, .int 0, .int 0, .int 0, .int 0]), .inr (.int, [.int 0, .int 0, .int 0, .int 0, .int 0])]) rfl ?_
    refine W_run 50 3 (pc' := 86) (ls' := [.val (.int p0), .val (.int p1), .val (.int p2), .val (.int p3), .val (.int p4), .val (.int p5), .val (.int c0), .val (.int c1), .val (.int c2), .val (.int c3), .val (.ref 0), .val (.int 1), .val (.ref 1), .val (.ref 2), .unset]) (st' := [.int 1, .int 0, .ref 2]) rfl ?_
    refine W_iastore (jx := 53) rfl rfl (by decide) (Nat.le_of_ble_eq_true rfl) (A1 := [.inr (.byte, [.int (((XT.ushr p4 8) : Int32).toInt8.toInt32), .int (((XT.ushr p4 16) : Int32).toInt8.toInt32), .int (((XT.ushr p4 24) : Int32).toInt8.toInt32), .int 0, .int 0, .int 0, .int 0, .int 0, .int 0, .int 0, .int 0, .int 0, .int 0, .int 0, .int 0, .int 0, .int 0, .int 0, .int 0]), .inr (.int, [.int 1, .int 0, .int 0, .int 0, .int 0]), .inr (.int, [.int 1, .int 0, .int 0, .int 0, .int 0])]) rfl ?_
    exact own_T0 hw p0 p1 p2 p3 p4 p5 c0 c1 c2 c3 1 [(((XT.ushr p4 8) : Int32).toInt8.toInt32)] [(((XT.ushr p4 16) : Int32).toInt8.toInt32), (((XT.ushr p4 24) : Int32).toInt8.toInt32), 0, 0, 0, 0, 0, 0, 0, 0, 0, 0, 0, 0, 0, 0, 0, 0] (by simp <;> decide) (by simp) (by simp) hc0 hc1 hc2 hc3
  · clear h_fr
    refine W_run 39 1 (pc' := 66) (ls' := [.val (.int p0), .val (.int p1), .val (.int p2), .val (.int p3), .val (.int p4), .val (.int p5), .val (.int c0), .val (.int c1), .val (.int c2), .val (.int c3), .val (.ref 0), .val (.int 2), .unset, .unset, .unset]) (st' := []) rfl ?_
    refine W_run 40 1 (pc' := 67) (ls' := [.val (.int p0), .val (.int p1), .val (.int p2), .val (.int p3), .val (.int p4), .val (.int p5), .val (.int c0), .val (.int c1), .val (.int c2), .val (.int c3), .val (.ref 0), .val (.int 2), .unset, .unset, .unset]) (st' := [.int 5]) rfl ?_
    refine W_newarray (jx := 41) 5 (vs := [.int 0, .int 0, .int 0, .int 0, .int 0]) rfl rfl (hw _ (List.mem_of_getElem? (i := 9) rfl)) (by decide) rfl (by decide) (by decide) (by decide) (by decide) rfl (N0 := 1) (A1 := [.inr (.byte, [.int (((XT.ushr p4 8) : Int32).toInt8.toInt32), .int (((XT.ushr p4 16) : Int32).toInt8.toInt32), .int (((XT.ushr p4 24) : Int32).toInt8.toInt32), .int 0, .int 0, .int 0, .int 0, .int 0, .int 0, .int 0, .int 0, .int 0, .int 0, .int 0, .int 0, .int 0, .int 0, .int 0, .int 0]), .inr (.int, [.int 0, .int 0, .int 0, .int 0, .int 0])]) rfl rfl ?_
    refine W_run 42 1 (pc' := 71) (ls' := [.val (.int p0), .val (.int p1), .val (.int p2), .val (.int p3), .val (.int p4), .val (.int p5), .val (.int c0), .val (.int c1), .val (.int c2), .val (.int c3), .val (.ref 0), .val (.int 2), .val (.ref 1), .unset, .unset]) (st' := []) rfl ?_
    refine W_run 43 1 (pc' := 72) (ls' := [.val (.int p0), .val (.int p1), .val (.int p2), .val (.int p3), .val (.int p4), .val (.int p5), .val (.int c0), .val (.int c1), .val (.int c2), .val (.int c3), .val (.ref 0), .val (.int 2), .val (.ref 1), .unset, .unset]) (st' := [.int 5]) rfl ?_
    refine W_newarray (jx := 44) 5 (vs := [.int 0, .int 0, .int 0, .int 0, .int 0]) rfl rfl (hw _ (List.mem_of_getElem? (i := 9) rfl)) (by decide) rfl (by decide) (by decide) (by decide) (by decide) rfl (N0 := 2) (A1 := [.inr (.byte, [.int (((XT.ushr p4 8) : Int32).toInt8.toInt32), .int (((XT.ushr p4 16) : Int32).toInt8.toInt32), .int (((XT.ushr p4 24) : Int32).toInt8.toInt32), .int 0, .int 0, .int 0, .int 0, .int 0, .int 0, .int 0, .int 0, .int 0, .int 0, .int 0, .int 0, .int 0, .int 0, .int 0, .int 0]), .inr (.int, [.int 0, .int 0, .int 0, .int 0, .int 0]), .inr (.int, [.int 0, .int 0, .int 0, .int 0, .int 0])]) rfl rfl ?_
    refine W_run 45 1 (pc' := 76) (ls' := [.val (.int p0), .val (.int p1), .val (.int p2), .val (.int p3), .val (.int p4), .val (.int p5), .val (.int c0), .val (.int c1), .val (.int c2), .val (.int c3), .val (.ref 0), .val (.int 2), .val (.ref 1), .val (.ref 2), .unset]) (st' := []) rfl ?_
    refine W_run 46 3 (pc' := 81) (ls' := [.val (.int p0), .val (.int p1), .val (.int p2), .val (.int p3), .val (.int p4), .val (.int p5), .val (.int c0), .val (.int c1), .val (.int c2), .val (.int c3), .val (.ref 0), .val (.int 2), .val (.ref 1), .val (.ref 2), .unset]) (st' := [.int 2, .int 0, .ref 1]) rfl ?_
    refine W_iastore (jx := 49) rfl rfl (by decide) (Nat.le_of_ble_eq_true rfl) (A1 := [.inr (.byte, [.int (((XT.ushr p4 8) : Int32).toInt8.toInt32), .int (((XT.ushr p4 16) : Int32).toInt8.toInt32), .int (((XT.ushr p4 24) : Int32).toInt8.toInt32), .int 0, .int 0, .int 0, .int 0, .int 0, .int 0, .int 0, .int 0, .int 0, .int 0, .int 0, .int 0, .int 0, .int 0, .int 0, .int 0]), .inr (.int, [.int 2, .int 0, .int 0, .int 0, .int 0]), .inr (.int, [.int 0, .int 0, .int 0, .int 0, .int 0])]) rfl ?_
    refine W_run 50 3 (pc' := 86) (ls' := [.val (.int p0), .val (.int p1), .val (.int p2), .val (.int p3), .val (.int p4), .val (.int p5), .val (.int c0), .val (.int c1), .val (.int c2), .val (.int c3), .val (.ref 0), .val (.int 2), .val (.ref 1), .val (.ref 2), .unset]) (st' := [.int 1, .int 0, .ref 2]) rfl ?_
    refine W_iastore (jx := 53) rfl rfl (by decide) (Nat.le_of_ble_eq_true rfl) (A1 := [.inr (.byte, [.int (((XT.ushr p4 8) : Int32).toInt8.toInt32), .int (((XT.ushr p4 16) : Int32).toInt8.toInt32), .int (((XT.ushr p4 24) : Int32).toInt8.toInt32), .int 0, .int 0, .int 0, .int 0, .int 0, .int 0, .int 0, .int 0, .int 0, .int 0, .int 0, .int 0, .int 0, .int 0, .int 0, .int 0]), .inr (.int, [.int 2, .int 0, .int 0, .int 0, .int 0]), .inr (.int, [.int 1, .int 0, .int 0, .int 0, .int 0])]) rfl ?_
    exact own_T0 hw p0 p1 p2 p3 p4 p5 c0 c1 c2 c3 2 [(((XT.ushr p4 8) : Int32).toInt8.toInt32), (((XT.ushr p4 16) : Int32).toInt8.toInt32)] [(((XT.ushr p4 24) : Int32).toInt8.toInt32), 0, 0, 0, 0, 0, 0, 0, 0, 0, 0, 0, 0, 0, 0, 0, 0] (by simp <;> decide) (by simp) (by simp) hc0 hc1 hc2 hc3
  · clear h_fr
    refine W_run 39 1 (pc' := 66) (ls' := [.val (.int p0), .val (.int p1), .val (.int p2), .val (.int p3), .val (.int p4), .val (.int p5), .val (.int c0), .val (.int c1), .val (.int c2), .val (.int c3), .val (.ref 0), .val (.int 3), .unset, .unset, .unset]) (st' := []) rfl ?_
    refine W_run 40 1 (pc' := 67) (ls' := [.val (.int p0), .val (.int p1), .val (.int p2), .val (.int p3), .val (.int p4), .val (.int p5), .val (.int c0), .val (.int c1), .val (.int c2), .val (.int c3), .val (.ref 0), .val (.int 3), .unset, .unset, .unset]) (st' := [.int 5]) rfl ?_
    refine W_newarray (jx := 41) 5 (vs := [.int 0, .int 0, .int 0, .int 0, .int 0]) rfl rfl (hw _ (List.mem_of_getElem? (i := 9) rfl)) (by decide) rfl (by decide) (by decide) (by decide) (by decide) rfl (N0 := 1) (A1 := [.inr (.byte, [.int (((XT.ushr p4 8) : Int32).toInt8.toInt32), .int (((XT.ushr p4 16) : Int32).toInt8.toInt32), .int (((XT.ushr p4 24) : Int32).toInt8.toInt32), .int 0, .int 0, .int 0, .int 0, .int 0, .int 0, .int 0, .int 0, .int 0, .int 0, .int 0, .int 0, .int 0, .int 0, .int 0, .int 0]), .inr (.int, [.int 0, .int 0, .int 0, .int 0, .int 0])]) rfl rfl ?_
    refine W_run 42 1 (pc' := 71) (ls' := [.val (.int p0), .val (.int p1), .val (.int p2), .val (.int p3), .val (.int p4), .val (.int p5), .val (.int c0), .val (.int c1), .val (.int c2), .val (.int c3), .val (.ref 0), .val (.int 3), .val (.ref 1), .unset, .unset]) (st' := []) rfl ?_
    refine W_run 43 1 (pc' := 72) (ls' := [.val (.int p0), .val (.int p1), .val (.int p2), .val (.int p3), .val (.int p4), .val (.int p5), .val (.int c0), .val (.int c1), .val (.int c2), .val (.int c3), .val (.ref 0), .val (.int 3), .val (.ref 1), .unset, .unset]) (st' := [.int 5]) rfl ?_
    refine W_newarray (jx := 44) 5 (vs := [.int 0, .int 0, .int 0, .int 0, .int 0]) rfl rfl (hw _ (List.mem_of_getElem? (i := 9) rfl)) (by decide) rfl (by decide) (by decide) (by decide) (by decide) rfl (N0 := 2) (A1 := [.inr (.byte, [.int (((XT.ushr p4 8) : Int32).toInt8.toInt32), .int (((XT.ushr p4 16) : Int32).toInt8.toInt32), .int (((XT.ushr p4 24) : Int32).toInt8.toInt32), .int 0, .int 0, .int 0, .int 0, .int 0, .int 0, .int 0, .int 0, .int 0, .int 0, .int 0, .int 0, .int 0, .int 0, .int 0, .int 0]), .inr (.int, [.int 0, .int 0, .int 0, .int 0, .int 0]), .inr (.int, [.int 0, .int 0, .int 0, .int 0, .int 0])]) rfl rfl ?_
    refine W_run 45 1 (pc' := 76) (ls' := [.val (.int p0), .val (.int p1), .val (.int p2), .val (.int p3), .val (.int p4), .val (.int p5), .val (.int c0), .val (.int c1), .val (.int c2), .val (.int c3), .val (.ref 0), .val (.int 3), .val (.ref 1), .val (.ref 2), .unset]) (st' := []) rfl ?_
    refine W_run 46 3 (pc' := 81) (ls' := [.val (.int p0), .val (.int p1), .val (.int p2), .val (.int p3), .val (.int p4), .val (.int p5), .val (.int c0), .val (.int c1), .val (.int c2), .val (.int c3), .val (.ref 0), .val (.int 3), .val (.ref 1), .val (.ref 2), .unset]) (st' := [.int 3, .int 0, .ref 1]) rfl ?_
    refine W_iastore (jx := 49) rfl rfl (by decide) (Nat.le_of_ble_eq_true rfl) (A1 := [.inr (.byte, [.int (((XT.ushr p4 8) : Int32).toInt8.toInt32), .int (((XT.ushr p4 16) : Int32).toInt8.toInt32), .int (((XT.ushr p4 24) : Int32).toInt8.toInt32), .int 0, .int 0, .int 0, .int 0, .int 0, .int 0, .int 0, .int 0, .int 0, .int 0, .int 0, .int 0, .int 0, .int 0, .int 0, .int 0]), .inr (.int, [.int 3, .int 0, .int 0, .int 0, .int 0]), .inr (.int, [.int 0, .int 0, .int 0, .int 0, .int 0])]) rfl ?_
    refine W_run 50 3 (pc' := 86) (ls' := [.val (.int p0), .val (.int p1), .val (.int p2), .val (.int p3), .val (.int p4), .val (.int p5), .val (.int c0), .val (.int c1), .val (.int c2), .val (.int c3), .val (.ref 0), .val (.int 3), .val (.ref 1), .val (.ref 2), .unset]) (st' := [.int 1, .int 0, .ref 2]) rfl ?_
    refine W_iastore (jx := 53) rfl rfl (by decide) (Nat.le_of_ble_eq_true rfl) (A1 := [.inr (.byte, [.int (((XT.ushr p4 8) : Int32).toInt8.toInt32), .int (((XT.ushr p4 16) : Int32).toInt8.toInt32), .int (((XT.ushr p4 24) : Int32).toInt8.toInt32), .int 0, .int 0, .int 0, .int 0, .int 0, .int 0, .int 0, .int 0, .int 0, .int 0, .int 0, .int 0, .int 0, .int 0, .int 0, .int 0]), .inr (.int, [.int 3, .int 0, .int 0, .int 0, .int 0]), .inr (.int, [.int 1, .int 0, .int 0, .int 0, .int 0])]) rfl ?_
    exact own_T0 hw p0 p1 p2 p3 p4 p5 c0 c1 c2 c3 3 [(((XT.ushr p4 8) : Int32).toInt8.toInt32), (((XT.ushr p4 16) : Int32).toInt8.toInt32), (((XT.ushr p4 24) : Int32).toInt8.toInt32)] [0, 0, 0, 0, 0, 0, 0, 0, 0, 0, 0, 0, 0, 0, 0, 0] (by simp <;> decide) (by simp) (by simp) hc0 hc1 hc2 hc3
theorem own_hp0 (s : State) : Hp s own_lay s.heap.size (fun _ => 0) s.heap [] := ⟨fun i c h => by simp at h, fun i j hi => absurd hi (Nat.not_lt_zero i), Nat.le_refl _⟩
set_option maxRecDepth 65536 in
set_option maxHeartbeats 40000000 in
theorem comes_1 {Post : Tables → Env → Array Value → State → Outcome → State → Prop} (hpost : ∀ tb e args s v u, (limb_1_1.after args s (.returned v) u = true ∧ limb_1_2.after args s (.returned v) u = true ∧ True) → FrameEnd s (.returned v) u (Jvm.fieldLocs frame_1_writes args s ++ Jvm.arrayLocs frame_1_arrays args s ++ Jvm.staticLocs frame_1_statics s) 16 128 → Post tb e args s (.returned v) u) :
    ArmFor flags0 classFile x code maxLocals ret World_1 tables_1 room_1 Calls_1 rest_1 Pre_1 Post := by
  intro l hfl _ _ p e ha hc hk s m args below hf hA hF happ hP
  obtain ⟨hcalls, hrest, hpre⟩ := hP
  obtain ⟨-, -, -, hnamed, -, -, -, hat⟩ := (Spec.applies_iff hf).mp happ
  obtain ⟨hg, hn⟩ := and_e (Cond.before_iff.mp (show (Jvm.Cond.and given_1 narrow_1).before args s = true from hpre))
  obtain ⟨g0, g1⟩ := and_e hg
  obtain ⟨w0, w1, w2, w3, w4, w5, rfl⟩ : ∃ w0 w1 w2 w3 w4 w5 : Value, args = #[w0, w1, w2, w3, w4, w5] := by
    have hs : args.size = 6 := by simpa [Cond.value, given_1] using g0
    obtain ⟨L⟩ := args
    match L, hs with
    | [w0, w1, w2, w3, w4, w5], _ => exact ⟨w0, w1, w2, w3, w4, w5, rfl⟩
  have hw := fun d (hd : d ∈ tables_1) => atoms_spec (ws := Jvm.Cond.code x code maxLocals ret :: tables_1) hat d (List.mem_cons_of_mem _ hd)
  obtain ⟨q0, r0⟩ := and_e g1
  obtain ⟨i0, e0⟩ := is_v q0
  obtain rfl : w0 = (.int i0) := Option.some.inj e0
  obtain ⟨q1, r1⟩ := and_e r0
  obtain ⟨i1, e1⟩ := is_v q1
  obtain rfl : w1 = (.int i1) := Option.some.inj e1
  obtain ⟨q2, r2⟩ := and_e r1
  obtain ⟨i2, e2⟩ := is_v q2
  obtain rfl : w2 = (.int i2) := Option.some.inj e2
  obtain ⟨q3, r3⟩ := and_e r2
  obtain ⟨i3, e3⟩ := is_v q3
  obtain rfl : w3 = (.int i3) := Option.some.inj e3
  obtain ⟨q4, r4⟩ := and_e r3
  obtain ⟨i4, e4⟩ := is_v q4
  obtain rfl : w4 = (.int i4) := Option.some.inj e4
  obtain ⟨i5, e5⟩ := is_v r4
  obtain rfl : w5 = (.int i5) := Option.some.inj e5
  obtain ⟨n, o, h1, h2, h3, _, L, rfl, ⟨N, v', A', r', rfl, -, -, rfl⟩, hq⟩ := own_m0 hw (n0 := s.heap.size) i0 i1 i2 i3 i4 i5 (fun _ => 0) s.heap (own_hp0 s) p e ha hc hk s m _ below hf ((Spec.applies_iff_loose hf).mp happ).1 ⟨rfl, State.Warmed39.refl s, rfl⟩ trivial
  refine ⟨n, _, h1, h2, h3, hpost _ _ _ _ _ _ ⟨Cond.after_iff.mpr rfl, Cond.after_iff.mpr (eq_i res_at (Term.int_eval (1)) rfl), trivial⟩ ⟨hq.1, hq.2.1, (hq.2.2.sift fun y hy => Or.inr (N y hy)).mono (by decide) (by decide)⟩⟩
theorem main_1_1 : Claimed_1_1 := comes_1 fun _ _ _ _ _ _ h hF => ⟨h.1, hF⟩
theorem main_1_2 : Claimed_1_2 := comes_1 fun _ _ _ _ _ _ h hF => ⟨h.2.1, hF⟩
end Jvm.Pilot.@@N@@
namespace Jvm.Pilot.@@N@@
open Jvm Jvm.ClassFile Sem Op Lib Jvm.Free Jvm.Stand Jvm.Pilot.@@N@@.Jvm.D
/-! MADE BY PROGRAM (witnessworld.py) out of the Statement's table words and the real class files: 9 classes; the members and pool entries that the words name. The judged class is class 1, her method 4. -/
namespace start1
open Jvm.ClassFile
def u (s : String) : CpInfo := .utf8 (stringToUtf16 s)
/-- a pool by its gaps: so many unusable entries, then the entry; so many at the end -/
def gap : Nat → List CpInfo → List CpInfo
  | 0, r => r
  | n + 1, r => .unusable :: gap n r
def poolList (es : List (Nat × CpInfo)) (last : Nat) : List CpInfo := es.foldr (fun e r => gap e.1 (e.2 :: r)) (gap last [])
def pool (es : List (Nat × CpInfo)) (last : Nat) : Array CpInfo := ⟨poolList es last⟩
def fileOf (pool : Array CpInfo) (this : Nat) (attrs : Array Attribute := #[]) (ms : Array MethodInfo := #[]) (fl : Nat := 33) (sup : Nat := 0) (ifs : Array Nat := #[]) (fds : Array FieldInfo := #[]) : ClassFile where
  minorVersion := 0
  majorVersion := 65
  constantPool := pool
  accessFlags := fl
  thisClass := this
  superClass := sup
  interfaces := ifs
  fields := fds
  methods := ms
  attributes := attrs
def plain (name : String) (sup : Option ClassId) : Class where
  name := name
  kind := .ordinary
  loader := none
  accessFlags := 33
  super := sup
  interfaces := #[]
  cf := none
  fields := #[]
  methods := #[]
  instanceTypes := #[]
  staticTypes := #[]
  resolved := #[]
  callSites := []
  init := .initialized
  statics := none
  mirror := none

def pool0 : Array CpInfo := pool [(5, u "<init>"), (0, u "()V"), (1, .class_ 10), (1, u "java/lang/Object")] 113

def k0m0 : Method := { name := "<init>", desc := "()V", sig := { parameters := [], returnType := none }, accessFlags := 1, code := none }
/-- java/lang/Object -/
def k0 : Class := { plain "java/lang/Object" none with
  accessFlags := 33
  interfaces := #[]
  cf := some (fileOf pool0 8 #[] #[{ accessFlags := 1, nameIndex := 5, descriptorIndex := 6, attributes := #[] }] 33 0 #[] #[])
  fields := #[]
  methods := #[k0m0]
  instanceTypes := #[]
  staticTypes := #[]
  resolved := Array.replicate 124 none
  statics := none }

def pool1 : Array CpInfo := pool [(2, .class_ 4), (1, u "java/lang/Object"), (0, u "<init>"), (0, u "()V"), (0, .integer 63488), (0, .integer 55296), (0, .integer 57343), (0, .integer 65536), (0, .integer 1048576), (0, .methodref 13 14), (0, .class_ 15), (0, .nameAndType 16 17), (0, u "com/example/sublink/sublink/Utf8ColumnPinLaw"), (0, u "cp"), (0, u "(I)I"), (0, .methodref 13 19), (0, .nameAndType 20 21), (0, u "put"), (0, u "([BII)I"), (0, .methodref 13 23), (0, .nameAndType 24 17), (0, u "units"), (0, .integer 2147483647), (0, .methodref 27 28), (0, .class_ 29), (0, .nameAndType 30 21), (0, u "com/example/sublink/sublink/Utf8"), (0, u "column"), (3, u "law"), (0, u "(IIIIII)Z")] 6

def k1m0 : Method := { name := "<init>", desc := "()V", sig := { parameters := [], returnType := none }, accessFlags := 2, code := none }
def k1c1 : Code := { maxStack := 3, maxLocals := 4, code := method_2_code, exceptionTable := #[], attributes := #[] }
def k1m1 : Method := { name := "cp", desc := "(I)I", sig := { parameters := [.int], returnType := some .int }, accessFlags := 10, code := some k1c1 }
def k1c2 : Code := { maxStack := 2, maxLocals := 1, code := method_3_code, exceptionTable := #[], attributes := #[] }
def k1m2 : Method := { name := "units", desc := "(I)I", sig := { parameters := [.int], returnType := some .int }, accessFlags := 10, code := some k1c2 }
def k1c3 : Code := { maxStack := 5, maxLocals := 3, code := method_4_code, exceptionTable := #[], attributes := #[] }
def k1m3 : Method := { name := "put", desc := "([BII)I", sig := { parameters := [(.array .byte), .int, .int], returnType := some .int }, accessFlags := 10, code := some k1c3 }
def k1c4 : Code := { maxStack := 5, maxLocals := 15, code := code, exceptionTable := #[], attributes := #[] }
def k1m4 : Method := { name := "law", desc := "(IIIIII)Z", sig := { parameters := [.int, .int, .int, .int, .int, .int], returnType := some .boolean }, accessFlags := 9, code := some k1c4 }
/-- com/example/sublink/sublink/Utf8ColumnPinLaw -/
def k1 : Class := { plain "com/example/sublink/sublink/Utf8ColumnPinLaw" (some 0) with
  accessFlags := 49
  interfaces := #[]
  cf := some (fileOf pool1 13 #[] #[{ accessFlags := 2, nameIndex := 5, descriptorIndex := 6, attributes := #[] }, { accessFlags := 10, nameIndex := 16, descriptorIndex := 17, attributes := #[] }, { accessFlags := 10, nameIndex := 24, descriptorIndex := 17, attributes := #[] }, { accessFlags := 10, nameIndex := 20, descriptorIndex := 21, attributes := #[] }, { accessFlags := 9, nameIndex := 34, descriptorIndex := 35, attributes := #[] }] 49 2 #[] #[])
  fields := #[]
  methods := #[k1m0, k1m1, k1m2, k1m3, k1m4]
  instanceTypes := #[]
  staticTypes := #[]
  resolved := Array.replicate 42 none
  statics := none }

def pool2 : Array CpInfo := pool [(2, .class_ 4), (1, u "java/lang/Object"), (0, u "<init>"), (0, u "()V"), (1, .class_ 10), (1, u "com/example/sublink/sublink/Utf8"), (49, u "column"), (0, u "([BII)I")] 19

def k2m0 : Method := { name := "<init>", desc := "()V", sig := { parameters := [], returnType := none }, accessFlags := 2, code := none }
def k2c1 : Code := { maxStack := 2, maxLocals := 6, code := prog_47_method_4_code, exceptionTable := #[], attributes := #[] }
def k2m1 : Method := { name := "column", desc := "([BII)I", sig := { parameters := [(.array .byte), .int, .int], returnType := some .int }, accessFlags := 8, code := some k2c1 }
/-- com/example/sublink/sublink/Utf8 -/
def k2 : Class := { plain "com/example/sublink/sublink/Utf8" (some 0) with
  accessFlags := 48
  interfaces := #[]
  cf := some (fileOf pool2 8 #[] #[{ accessFlags := 2, nameIndex := 5, descriptorIndex := 6, attributes := #[] }, { accessFlags := 8, nameIndex := 60, descriptorIndex := 61, attributes := #[] }] 48 2 #[] #[])
  fields := #[]
  methods := #[k2m0, k2m1]
  instanceTypes := #[]
  staticTypes := #[]
  resolved := Array.replicate 81 none
  statics := none }

def pool3 : Array CpInfo := pool [(1, u "java/lang/Cloneable"), (0, .class_ 1), (0, u "java/lang/Object"), (0, .class_ 3)] 3

/-- java/lang/Cloneable -/
def k3 : Class := { plain "java/lang/Cloneable" (some 0) with
  accessFlags := 1537
  interfaces := #[]
  cf := some (fileOf pool3 2 #[] #[] 1537 4 #[] #[])
  fields := #[]
  methods := #[]
  instanceTypes := #[]
  staticTypes := #[]
  resolved := Array.replicate 8 none
  statics := none }

def pool4 : Array CpInfo := pool [(1, u "java/io/Serializable"), (0, .class_ 1), (0, u "java/lang/Object"), (0, .class_ 3)] 3

/-- java/io/Serializable -/
def k4 : Class := { plain "java/io/Serializable" (some 0) with
  accessFlags := 1537
  interfaces := #[]
  cf := some (fileOf pool4 2 #[] #[] 1537 4 #[] #[])
  fields := #[]
  methods := #[]
  instanceTypes := #[]
  staticTypes := #[]
  resolved := Array.replicate 8 none
  statics := none }

/-- the primitive byte -/
def k5 : Class := { plain "byte" none with kind := .primitive 'B', accessFlags := 0x411 }
/-- [B -/
def k6 : Class := { plain "[B" (some 0) with kind := .array 5 .byte, interfaces := #[3, 4], accessFlags := 1041 }

/-- the primitive int -/
def k7 : Class := { plain "int" none with kind := .primitive 'I', accessFlags := 0x411 }
/-- [I -/
def k8 : Class := { plain "[I" (some 0) with kind := .array 7 .int, interfaces := #[3, 4], accessFlags := 1041 }

def heap : Heap := #[]
def classes : Array Class := #[k0, k1, k2, k3, k4, k5, k6, k7, k8]
def interned : List (Array UInt16 × Addr) := []
def slotsUsed : Nat := 0
def theMethod : MethodId := ⟨1, 4⟩
def args0 : Array Value := #[.int 5, .int 5, .int 5, .int 5, .int 5, .int 5]
def aboutOver (below : List Frame) : State where
  vm := { classes := classes, interned := interned.toArray }
  heap := heap
  slotsUsed := slotsUsed
  threads := #[{ frames := .invoking theMethod args0 :: below }]
def below0 : List Frame := [.native { method := ⟨0, 0⟩, args := #[] }]
def about1 : State := aboutOver below0
def p0 : Program := .bare "" "" ""
def e0 : Env := launch0.env 0 0 0
theorem w_frames : about1.frames = Frame.invoking theMethod args0 :: below0 := rfl
set_option maxRecDepth 65536 in
theorem w_args : argsFit about1.vm theMethod args0 = true := by decide +kernel
set_option maxRecDepth 65536 in
theorem w_heap : heapFits about1 = true := by decide +kernel
set_option maxRecDepth 65536 in
theorem w_runnable : about1.curStatus? = some .runnable := by decide +kernel
set_option maxRecDepth 65536 in
theorem w_alone : about1.alone = true := by decide +kernel
set_option maxRecDepth 65536 in
theorem w_named : about1.methodNamed? x = some theMethod := by decide +kernel
set_option maxRecDepth 65536 in
theorem w_hears : about1.hears theMethod below0 = true := by decide +kernel
set_option maxRecDepth 65536 in
theorem w_ripe : about1.ripe theMethod args0 below0 = true := by decide +kernel
theorem w_running : about1.status = .running := rfl
set_option maxRecDepth 65536 in
theorem w_room : about1.hasRoom e0.platform room_1 = true :=
  launch0.hasRoom_least _ room_1 (by decide +kernel) (by decide +kernel) (by decide +kernel) (by decide +kernel) (by decide +kernel) (by decide +kernel)
theorem allAtoms_all (ts : List Jvm.Cond) (a : Array Jvm.Value) (st : Jvm.State) : (allAtoms ts).before a st = ts.all (fun c => c.before a st) := by
  induction ts with
  | nil => rfl
  | cons c t ih =>
    show (Jvm.Cond.and c (allAtoms t)).before a st = _
    rw [Jvm.Cond.before_and, ih, List.all_cons]
def words1 : List Jvm.Cond := Jvm.Cond.code x code maxLocals ret :: tables_1
/-- a 'code' word, met by the world's own term for the bytes: nothing is compared byte by byte -/
theorem code_word {y : MethodName} {bytes : ByteArray} {mx : Nat} {rt : Option FieldType} {a : Array Value} {s : State} {m : MethodId} {meth : Method} {c : Code} (h1 : s.methodNamed? y = some m) (h2 : s.vm.method? m = some meth) (h3 : meth.code = some c) (h4 : c.code = bytes)
    (h5 : (c.maxLocals == mx && c.exceptionTable.isEmpty && decide (c.maxStack ≤ mostOperands) && decide (meth.sig.returnType = rt) && !meth.locks && decide (parseMethodDescriptor y.desc = some meth.sig)) = true) : (Jvm.Cond.code y bytes mx rt).before a s = true := by
  simp only [Bool.and_eq_true, beq_iff_eq, Bool.not_eq_true', decide_eq_true_eq] at h5
  obtain ⟨⟨⟨⟨⟨g1, g2⟩, g3⟩, g4⟩, g5⟩, g6⟩ := h5
  simp [Cond.before, Cond.holds, Cond.value, h1, h2, h3, h4, g1, g2, g3, g4, g5, g6]
def isCode : Jvm.Cond → Bool
  | .code _ _ _ _ => true
  | _ => false
theorem all_split {L : List Jvm.Cond} {P : Jvm.Cond → Bool} (h1 : L.all (fun c => isCode c || P c) = true) (h2 : ∀ c ∈ L.filter isCode, P c = true) : L.all P = true := by
  refine List.all_eq_true.mpr fun c hc => ?_
  have h := List.all_eq_true.mp h1 c hc
  rcases Bool.eq_false_or_eq_true (isCode c) with hi | hi
  · exact h2 c (List.mem_filter.mpr ⟨hc, hi⟩)
  · simpa [hi] using h
set_option maxRecDepth 65536 in
theorem w_c0 : (Jvm.Cond.code x code maxLocals ret).before args0 about1 = true := code_word (m := ⟨1, 4⟩) (meth := k1m4) (c := k1c4) (by decide +kernel) rfl rfl rfl (by decide +kernel)
set_option maxRecDepth 65536 in
theorem w_c1 : (Jvm.Cond.code ({ cls := "com/example/sublink/sublink/Utf8ColumnPinLaw", name := "cp", desc := "(I)I" } : Jvm.MethodName) method_2_code (4 : Nat) (Option.some Jvm.ClassFile.FieldType.int)).before args0 about1 = true := code_word (m := ⟨1, 1⟩) (meth := k1m1) (c := k1c1) (by decide +kernel) rfl rfl rfl (by decide +kernel)
set_option maxRecDepth 65536 in
theorem w_c2 : (Jvm.Cond.code ({ cls := "com/example/sublink/sublink/Utf8ColumnPinLaw", name := "put", desc := "([BII)I" } : Jvm.MethodName) method_4_code (3 : Nat) (Option.some Jvm.ClassFile.FieldType.int)).before args0 about1 = true := code_word (m := ⟨1, 3⟩) (meth := k1m3) (c := k1c3) (by decide +kernel) rfl rfl rfl (by decide +kernel)
set_option maxRecDepth 65536 in
theorem w_c3 : (Jvm.Cond.code ({ cls := "com/example/sublink/sublink/Utf8ColumnPinLaw", name := "units", desc := "(I)I" } : Jvm.MethodName) method_3_code (1 : Nat) (Option.some Jvm.ClassFile.FieldType.int)).before args0 about1 = true := code_word (m := ⟨1, 2⟩) (meth := k1m2) (c := k1c2) (by decide +kernel) rfl rfl rfl (by decide +kernel)
set_option maxRecDepth 65536 in
theorem w_c4 : (Jvm.Cond.code ({ cls := "com/example/sublink/sublink/Utf8", name := "column", desc := "([BII)I" } : Jvm.MethodName) prog_47_method_4_code (6 : Nat) (Option.some Jvm.ClassFile.FieldType.int)).before args0 about1 = true := code_word (m := ⟨2, 1⟩) (meth := k2m1) (c := k2c1) (by decide +kernel) rfl rfl rfl (by decide +kernel)
def codes1 : List Jvm.Cond := [Jvm.Cond.code x code maxLocals ret, Jvm.Cond.code ({ cls := "com/example/sublink/sublink/Utf8ColumnPinLaw", name := "cp", desc := "(I)I" } : Jvm.MethodName) method_2_code (4 : Nat) (Option.some Jvm.ClassFile.FieldType.int), Jvm.Cond.code ({ cls := "com/example/sublink/sublink/Utf8ColumnPinLaw", name := "put", desc := "([BII)I" } : Jvm.MethodName) method_4_code (3 : Nat) (Option.some Jvm.ClassFile.FieldType.int), Jvm.Cond.code ({ cls := "com/example/sublink/sublink/Utf8ColumnPinLaw", name := "units", desc := "(I)I" } : Jvm.MethodName) method_3_code (1 : Nat) (Option.some Jvm.ClassFile.FieldType.int), Jvm.Cond.code ({ cls := "com/example/sublink/sublink/Utf8", name := "column", desc := "([BII)I" } : Jvm.MethodName) prog_47_method_4_code (6 : Nat) (Option.some Jvm.ClassFile.FieldType.int)]
set_option maxRecDepth 65536 in
theorem codes_eq : words1.filter isCode = codes1 := rfl
theorem w_codes : ∀ c ∈ words1.filter isCode, c.before args0 about1 = true := by
  rw [codes_eq]
  intro c hc
  simp only [codes1, List.mem_cons, List.not_mem_nil, or_false] at hc
  rcases hc with rfl | rfl | rfl | rfl | rfl
  · exact w_c0
  · exact w_c1
  · exact w_c2
  · exact w_c3
  · exact w_c4
set_option maxRecDepth 65536 in
theorem w_t1 : words1.all (fun c => isCode c || c.before args0 about1) = true := by decide +kernel
theorem w_tables : (allAtoms (Jvm.Cond.code x code maxLocals ret :: tables_1)).before args0 about1 = true := by
  rw [allAtoms_all]
  show words1.all (fun c => c.before args0 about1) = true
  refine all_split ?_ w_codes
  rw [w_t1]
set_option maxRecDepth 65536 in
theorem w_case : (Jvm.Cond.and given_1 narrow_1).before args0 about1 = true := by decide +kernel
theorem w_applies : (headSpec (Jvm.Cond.code x code maxLocals ret :: tables_1) room_1).applies x e0.platform about1 = true :=
  (Spec.applies_iff w_frames).mpr ⟨w_running, w_runnable, w_alone, w_named, w_hears, w_ripe, w_room, w_tables⟩
theorem atStart : AtStart classFile x code maxLocals ret World_1 tables_1 room_1 Calls_1 rest_1 Pre_1 launch0 p0 e0 about1 theMethod args0 below0 :=
  ⟨lists_1, trivial, launch0.admits_env _ _ _, launch0.least_env, fairChoices_fair.cas, fairChoices_fair.clock, w_frames, w_args, w_heap, w_applies, trivial, trivial, w_case⟩
end start1
theorem witness_1 : WitnessClaimed_1 := ⟨start1.p0, start1.e0, start1.about1, start1.theMethod, start1.args0, start1.below0, start1.atStart⟩
end Jvm.Pilot.@@N@@
