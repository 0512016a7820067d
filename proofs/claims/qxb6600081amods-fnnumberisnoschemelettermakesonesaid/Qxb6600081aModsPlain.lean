/- Plain functions on bytes: what isNumber and isScheme answer. No Go here. -/
import Derived.WalkKit
namespace Go.Proofs.Qxb6600081aMods

def digI (a : Int) : Bool := decide (48 ≤ a ∧ a ≤ 57)
def ltrI (a : Int) : Bool := decide (97 ≤ a ∧ a ≤ 122) || decide (65 ≤ a ∧ a ≤ 90)
def tailI (a : Int) : Bool := ltrI a || digI a || decide (a = 43) || decide (a = 45) || decide (a = 46)

def digB (c : UInt8) : Bool := digI c.toNat
def ltrB (c : UInt8) : Bool := ltrI c.toNat
def tailB (c : UInt8) : Bool := tailI c.toNat

def isNum (l : List UInt8) : Bool := l.all digB && !l.isEmpty
def isSch : List UInt8 → Bool
  | [] => false
  | c :: r => ltrB c && r.all tailB

/-- What holds of the bytes of a scheme seen so far. -/
def schTo : List UInt8 → Bool
  | [] => true
  | c :: r => ltrB c && r.all tailB

theorem isSch_of (l : List UInt8) : isSch l = (schTo l && !l.isEmpty) := by cases l <;> simp [isSch, schTo]

theorem schTo_snoc (l : List UInt8) (c : UInt8) : schTo (l ++ [c]) = (schTo l && (if l = [] then ltrB c else tailB c)) := by
  cases l with
  | nil => simp [schTo]
  | cons d r => simp [schTo, Bool.and_assoc]

theorem take_snoc (s : ByteArray) (k : Nat) (h : k < s.size) : s.data.toList.take (k + 1) = s.data.toList.take k ++ [s[k]] := by
  rw [List.take_succ_eq_append_getElem (by simpa using h)]; rfl

theorem num_snoc (l : List UInt8) (c : UInt8) : (l ++ [c]).all digB = (l.all digB && digB c) := by simp

theorem all_take {p : UInt8 → Bool} (l : List UInt8) (k : Nat) (h : (l.take k).all p = false) : l.all p = false := by
  cases hl : l.all p with
  | false => rfl
  | true =>
    rw [List.all_eq_true] at hl
    have : (l.take k).all p = true := List.all_eq_true.2 fun x hx => hl x (List.mem_of_mem_take hx)
    rw [this] at h; cases h

theorem schTo_take (l : List UInt8) (k : Nat) (h : schTo (l.take k) = false) : schTo l = false := by
  cases l with
  | nil => simp [schTo] at h
  | cons c r =>
    cases k with
    | zero => simp [schTo] at h
    | succ k =>
      simp only [List.take_succ_cons, schTo] at h ⊢
      cases hc : ltrB c with
      | false => rfl
      | true =>
        rw [hc, Bool.true_and] at h
        rw [Bool.true_and]
        exact all_take r k h

theorem empty_iff (s : ByteArray) : s.data.toList.isEmpty = decide (s.size = 0) := by
  cases s with
  | mk d => cases d with
    | mk l => cases l <;> simp [ByteArray.size]

/-! ### the laws of the plain functions -/
theorem num_plus (l : List UInt8) (c : UInt8) (h : digB c = false) : isNum (c :: l) = false := by simp [isNum, h]
theorem num_then (l : List UInt8) (c : UInt8) (h : isNum l = true) : isNum (l ++ [c]) = digB c := by
  have h1 : l.all digB = true := by simp [isNum] at h; exact List.all_eq_true.2 h.1
  simp only [isNum, List.all_append, h1, List.all_cons, List.all_nil]
  simp
theorem dig_not_ltr (c : UInt8) (h : digB c = true) : ltrB c = false := by
  simp [digB, ltrB, digI, ltrI] at h ⊢
  omega
theorem dig_tail (c : UInt8) (h : digB c = true) : tailB c = true := by
  unfold tailB tailI
  have : digI c.toNat = true := h
  simp [this]
theorem num_no_sch (l : List UInt8) (h : isNum l = true) : isSch l = false := by
  cases l with
  | nil => rfl
  | cons c r =>
    simp [isNum] at h
    simp [isSch, dig_not_ltr c h.1]
theorem sch_before (l : List UInt8) (c : UInt8) (h : isNum l = true) : isSch (c :: l) = ltrB c := by
  simp [isNum] at h
  have : l.all tailB = true := List.all_eq_true.2 fun x hx => dig_tail x (h.1 x hx)
  simp [isSch, this]
theorem ltr_tail (c : UInt8) (h : ltrB c = true) : tailB c = true := by
  unfold tailB tailI
  have : ltrI c.toNat = true := h
  simp [this]

end Go.Proofs.Qxb6600081aMods
