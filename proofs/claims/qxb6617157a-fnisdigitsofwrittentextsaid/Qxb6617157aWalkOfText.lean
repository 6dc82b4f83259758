import Derived.Test.Qxb6617157aWalkDig
import Derived.Test.Qxb6617157aWalkWrite
import Derived.Test.Qxb6617157aPlainLaws
import Derived.WalkKit
import Derived.ProofKit
namespace Go.Proofs.Qxb6617157a.Txt
open Go.RowKit

set_option maxHeartbeats 1000000 in
theorem oftext_short (s : ByteArray) (neg : Bool) (sc pl : Int) (hs : s.size ≤ 9223372036854775807)
    (h : 65536 < (s.size : Int) ∨ sc < 0 ∨ 65536 < sc ∨ 65536 < pl ∨ (0 < pl ∧ pl < sc)) (w : World) :
    Calls Try.prog 8 #[.string s, .bool neg, .int .i64 sc, .int .i64 pl] w fun e w' => e = .returned (.bool true) ∧ w' = w := by
  by_cases h1 : 1048576 < (s.size : Int)
  · go_enter Try.func8, Try.ntmps8
    go_wp2
    go_ret
    exact ⟨rfl, rfl⟩
  by_cases h2 : 65536 < (s.size : Int)
  · go_enter Try.func8, Try.ntmps8
    go_wp2
    go_ret
    exact ⟨rfl, rfl⟩
  by_cases h3 : sc < 0
  · go_enter Try.func8, Try.ntmps8
    go_wp2
    go_ret
    exact ⟨rfl, rfl⟩
  by_cases h4 : 65536 < sc
  · go_enter Try.func8, Try.ntmps8
    go_wp2
    go_ret
    exact ⟨rfl, rfl⟩
  by_cases h5 : 65536 < pl
  · go_enter Try.func8, Try.ntmps8
    go_wp2
    go_ret
    exact ⟨rfl, rfl⟩
  obtain ⟨h6, h7⟩ : 0 < pl ∧ pl < sc := by omega
  clear h
  go_enter Try.func8, Try.ntmps8
  go_wp2
  go_ret
  exact ⟨rfl, rfl⟩

set_option maxHeartbeats 400000 in
theorem bytes16 (s : ByteArray) (neg : Bool) (sc pl : Int) (h : (s.size : Int) ≤ 1048576) (w : World) :
    Calls Try.prog 16 #[.string s, .bool neg, .int .i64 sc, .int .i64 pl] w fun e w' => e = .returned (.bool true) ∧ w' = w := by
  go_enter Try.func16, Try.ntmps16
  go_wp2
  go_ret
  exact ⟨rfl, rfl⟩

theorem allDig_zeros (n : Nat) : Dig.allDig (zeros n) = true := by
  unfold Dig.allDig zeros
  rw [List.all_replicate]
  cases n <;> rfl
theorem allDig_padL {d : List UInt8} (sc : Nat) (h : Dig.allDig d = true) : Dig.allDig (padL d sc) = true := by
  unfold padL; rw [Dig.allDig_append, allDig_zeros, h]; rfl
theorem allDig_take {l : List UInt8} (n : Nat) (h : Dig.allDig l = true) : Dig.allDig (l.take n) = true := by
  rw [Dig.allDig_take_drop l n] at h
  simp at h; exact h.1
/-- Neither sign nor point: digits. -/
theorem isDig_plain {d : List UInt8} {sc : Nat} {pl : Int} (h : Dig.allDig d = true) (hp : ¬ 0 < pl) : Dig.isDig (text d false sc pl) = true := by
  have hl := body_length_neg d sc pl hp
  show Dig.isDig (body d sc pl) = true
  rw [Dig.isDig_cons (by intro e; rw [e] at hl; simp at hl; omega), body_neg hp]
  exact allDig_take _ (allDig_padL sc h)
/-- A point: no digits. -/
theorem isDig_point {d : List UInt8} {neg : Bool} {sc : Nat} {pl : Int} (hp : 0 < pl) : Dig.isDig (text d neg sc pl) = false := by
  unfold text Dig.isDig
  rw [body_pos hp, Dig.allDig_append, Dig.allDig_append]
  have e : ∀ l : List UInt8, Dig.allDig (46 :: l) = false := fun l => by simp [Dig.allDig, Dig.digB]
  rw [e]; simp
/-- A sign: no digits. -/
theorem isDig_sign {d : List UInt8} {sc : Nat} {pl : Int} : Dig.isDig (text d true sc pl) = false := by
  unfold text Dig.isDig
  rw [Dig.allDig_append]
  have e : Dig.allDig (if true = true then [45] else []) = false := by simp [Dig.allDig, Dig.digB]
  rw [e]; simp
theorem size_le' {t s : ByteArray} {neg : Bool} {sc pl : Int} (ht : t.data.toList = text s.data.toList neg sc.toNat pl) (hs : (s.size : Int) ≤ 65536) (h0 : 0 ≤ sc) (h2 : pl ≤ 65536) (h3 : pl ≤ 0 ∨ sc ≤ pl) : (t.size : Int) ≤ 200000 := by
  by_cases hp : 0 < pl
  · have e := size_pos _ _ ht h0 hp (by omega) rfl rfl
    split at e <;> omega
  · have e := size_neg _ _ ht h0 hp rfl rfl
    split at e <;> omega

set_option maxHeartbeats 1000000 in
theorem oftext_bad (s : ByteArray) (neg : Bool) (sc pl : Int) (hs : (s.size : Int) ≤ 65536) (h0 : 0 ≤ sc) (h1 : sc ≤ 65536) (h2 : pl ≤ 65536) (h3 : pl ≤ 0 ∨ sc ≤ pl) (ha : Dig.allDig s.data.toList = false) (w : World) :
    Calls Try.prog 8 #[.string s, .bool neg, .int .i64 sc, .int .i64 pl] w fun e w' => e = .returned (.bool true) ∧ Below w.heap.size w w' := by
  have hd : ¬ (0 < pl ∧ pl < sc) := by omega
  by_cases hp : 0 < pl
  all_goals
    go_enter Try.func8, Try.ntmps8
    go_wp2_with (first | (go_at_call 16; refine (bytes16 s _ _ _ (by omega) _).mono ?_; rintro e w' ⟨rfl, rfl⟩) | (go_at_call 17; refine (Dig.allDecimal s (by omega) _).mono ?_; rintro e w' ⟨rfl, rfl⟩))
    go_ret
    exact ⟨rfl, Below.refl _ _⟩

set_option maxHeartbeats 1000000 in
theorem oftext_good (s : ByteArray) (neg : Bool) (sc pl : Int) (hs : (s.size : Int) ≤ 65536) (h0 : 0 ≤ sc) (h1 : sc ≤ 65536) (h2 : pl ≤ 65536) (h3 : pl ≤ 0 ∨ sc ≤ pl) (ha : Dig.allDig s.data.toList = true) (w : World) :
    Calls Try.prog 8 #[.string s, .bool neg, .int .i64 sc, .int .i64 pl] w fun e w' => e = .returned (.bool true) ∧ Below w.heap.size w w' := by
  have hd : ¬ (0 < pl ∧ pl < sc) := by omega
  have hc : (0 < pl ∧ decide (pl ≤ 0) = false) ∨ (pl ≤ 0 ∧ decide (pl ≤ 0) = true) := by simp; omega
  rcases hc with ⟨hp, dp⟩ | ⟨hp, dp⟩
  all_goals
    cases neg
    all_goals
      go_enter Try.func8, Try.ntmps8
      go_wp2_with (first | (go_at_call 16; refine (bytes16 s _ _ _ (by omega) _).mono ?_; rintro e w' ⟨rfl, rfl⟩) | (go_at_call 17; refine (Dig.allDecimal s (by omega) _).mono ?_; rintro e w' ⟨rfl, rfl⟩))
      refine (zzwrite s _ sc pl (by omega) (by omega) (by omega) (by omega) (by omega) _).mono ?_
      rintro e w1 ⟨t, rfl, ht, hb1⟩
      have hz := size_le' ht hs h0 h2 h3
      first | have hq := (congrArg Dig.isDig ht).trans (isDig_point hp) | have hq := (congrArg Dig.isDig ht).trans isDig_sign | have hq := (congrArg Dig.isDig ht).trans (isDig_plain ha (Int.not_lt.2 hp))
      clear ht
      go_wp2_with fail
      refine (Dig.zzIsDigits t (by omega) _).mono ?_
      rintro e w2 ⟨rfl, rfl⟩
      go_wp2
      go_ret
      exact ⟨rfl, hb1⟩

theorem oftext (s : ByteArray) (neg : Bool) (sc pl : Int) (hs : (s.size : Int) ≤ 65536) (h0 : 0 ≤ sc) (h1 : sc ≤ 65536) (h2 : pl ≤ 65536) (h3 : pl ≤ 0 ∨ sc ≤ pl) (w : World) :
    Calls Try.prog 8 #[.string s, .bool neg, .int .i64 sc, .int .i64 pl] w fun e w' => e = .returned (.bool true) ∧ Below w.heap.size w w' := by
  cases ha : Dig.allDig s.data.toList
  · exact oftext_bad s neg sc pl hs h0 h1 h2 h3 ha w
  · exact oftext_good s neg sc pl hs h0 h1 h2 h3 ha w
end Go.Proofs.Qxb6617157a.Txt
