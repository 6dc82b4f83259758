import Derived.WalkKit
namespace Go.Proofs.Qxb6617157a.Dig

/-- Is the byte an ASCII digit? -/
def digB (c : UInt8) : Bool := decide (48 ≤ (c.toNat : Int)) && decide ((c.toNat : Int) ≤ 57)
/-- Every byte is an ASCII digit. -/
def allDig (l : List UInt8) : Bool := l.all digB
/-- One or more ASCII digits. -/
def isDig (l : List UInt8) : Bool := !l.isEmpty && allDig l

theorem digB_true {c : UInt8} (h1 : ¬ (c.toNat : Int) < 48) (h2 : ¬ 57 < (c.toNat : Int)) : digB c = true := by
  unfold digB; simp; omega
theorem digB_lo {c : UInt8} (h1 : (c.toNat : Int) < 48) : digB c = false := by
  unfold digB; simp; omega
theorem digB_hi {c : UInt8} (h1 : 57 < (c.toNat : Int)) : digB c = false := by
  unfold digB; simp; omega

theorem allDig_nil : allDig [] = true := rfl
theorem allDig_append (a b : List UInt8) : allDig (a ++ b) = (allDig a && allDig b) := by
  unfold allDig; exact List.all_append
theorem allDig_one (c : UInt8) : allDig [c] = digB c := by simp [allDig]
theorem allDig_take_drop (l : List UInt8) (n : Nat) : allDig l = (allDig (l.take n) && allDig (l.drop n)) := by
  rw [← allDig_append, List.take_append_drop]

theorem take_snoc (s : ByteArray) (k : Nat) (h : k < s.size) : s.data.toList.take (k + 1) = s.data.toList.take k ++ [s[k]] := by
  rw [List.take_succ_eq_append_getElem (by simpa using h)]; rfl
theorem mem_of (s : ByteArray) (k : Nat) (h : k < s.size) : s[k] ∈ s.data.toList := by
  have h' : k < s.data.toList.length := by simpa using h
  have := List.getElem_mem h'
  exact this
theorem allDig_bad (s : ByteArray) (k : Nat) (h : k < s.size) (hb : digB s[k] = false) : allDig s.data.toList = false := by
  unfold allDig
  rw [List.all_eq_false]
  exact ⟨s[k], mem_of s k h, by simp [hb]⟩
theorem allDig_step (s : ByteArray) (k : Nat) (h : k < s.size) (ha : allDig (s.data.toList.take k) = true) (hb : digB s[k] = true) : allDig (s.data.toList.take (k + 1)) = true := by
  rw [take_snoc s k h, allDig_append, ha, allDig_one, hb]; rfl
theorem allDig_end (s : ByteArray) (k : Nat) (h : s.size ≤ k) (ha : allDig (s.data.toList.take k) = true) : allDig s.data.toList = true := by
  rwa [List.take_of_length_le (by simpa using h)] at ha
theorem isDig_one (c : UInt8) : isDig [c] = digB c := by
  unfold isDig; rw [allDig_one]; rfl
theorem isDig_put (l : List UInt8) (c : UInt8) (n m : Nat) (h : l.length - n ≤ m) : isDig (l.take n ++ c :: (l.drop n).take m) = (digB c && allDig l) := by
  have e1 : (l.drop n).take m = l.drop n := List.take_of_length_le (by simpa using h)
  have e2 : l.take n ++ c :: l.drop n = l.take n ++ ([c] ++ l.drop n) := rfl
  have e3 : (l.take n ++ ([c] ++ l.drop n)).isEmpty = false := by simp
  unfold isDig
  rw [e1, e2, e3, allDig_append, allDig_append, allDig_one, allDig_take_drop l n]
  cases allDig (l.take n) <;> cases digB c <;> cases allDig (l.drop n) <;> rfl
theorem isDig_nil : isDig [] = false := rfl
theorem isDig_cons {l : List UInt8} (h : l ≠ []) : isDig l = allDig l := by
  unfold isDig; rw [List.isEmpty_eq_false_iff.2 h]; rfl
end Go.Proofs.Qxb6617157a.Dig
