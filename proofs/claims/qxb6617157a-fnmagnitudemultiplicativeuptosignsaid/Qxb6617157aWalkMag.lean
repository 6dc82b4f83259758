import Derived.Test.Qxb6617157aRows
import Derived.WalkKit
import Derived.ProofKit
namespace Go.Proofs.Qxb6617157a.Mag
open Go.RowKit

/-- The magnitude of a number. -/
def mag (n : Int) : Int := if n < 0 then -n else n

theorem mag_neg {n : Int} (h : n < 0) : mag n = -n := by unfold mag; rw [if_pos h]
theorem mag_nonneg {n : Int} (h : ¬ n < 0) : mag n = n := by unfold mag; rw [if_neg h]
theorem mag_bounds {n : Int} (h0 : -9223372036854775808 ≤ n) (h1 : n ≤ 9223372036854775807) : 0 ≤ mag n ∧ mag n ≤ 9223372036854775808 := by
  unfold mag; split <;> omega
theorem wrap_neg {n : Int} (h0 : -9223372036854775808 ≤ n) (h : n < 0) : IntKind.u64.wrap (wrap64 (-n)) = mag n := by
  rw [mag_neg h, IntKind.wrap_u64]; unfold wrap64; omega
theorem wrap_pos {n : Int} (h1 : n ≤ 9223372036854775807) (h : ¬ n < 0) : IntKind.u64.wrap n = mag n := by
  rw [mag_nonneg h, IntKind.wrap_u64]; omega

theorem mag_wrap_neg {n : Int} (h0 : -9223372036854775808 ≤ n) (h1 : n ≤ 9223372036854775807) : mag (wrap64 (-n)) = mag n := by
  unfold mag wrap64
  split <;> split <;> omega
theorem u_or {n : Int} (h0 : -9223372036854775808 ≤ n) (h1 : n ≤ 9223372036854775807) :
    (IntKind.u64.wrap n == mag n) = true ∨ ((IntKind.u64.wrap n == mag n) = false ∧ (IntKind.u64.wrap (IntKind.u64.wrap n + mag n) == 0) = true) := by
  rw [IntKind.wrap_u64, IntKind.wrap_u64]
  by_cases h : n % 18446744073709551616 = mag n
  · left; simpa using h
  · right
    refine ⟨by simpa using h, ?_⟩
    rw [beq_iff_eq]
    unfold mag at *
    split at h <;> rename_i c <;> simp only [c, if_true, if_false] <;> omega

theorem mag_mul (a b : Int) : mag a * mag b = mag (a * b) := by
  by_cases ha : a < 0
  · by_cases hb : b < 0
    · rw [mag_neg ha, mag_neg hb, mag_nonneg (Int.not_lt.2 (Int.le_of_lt (Int.mul_pos_of_neg_of_neg ha hb))), Int.neg_mul_neg]
    · rw [mag_neg ha, mag_nonneg hb]
      by_cases h0 : b = 0
      · subst h0; simp [mag]
      · rw [mag_neg (Int.mul_neg_of_neg_of_pos ha (by omega)), Int.neg_mul]
  · by_cases hb : b < 0
    · rw [mag_nonneg ha, mag_neg hb]
      by_cases h0 : a = 0
      · subst h0; simp [mag]
      · rw [mag_neg (Int.mul_neg_of_pos_of_neg (by omega) hb), Int.mul_neg]
    · rw [mag_nonneg ha, mag_nonneg hb, mag_nonneg (Int.not_lt.2 (Int.mul_nonneg (by omega) (by omega)))]

theorem sq (a : Int) : (IntKind.u64.wrap (mag a * mag a) == IntKind.u64.wrap (IntKind.u64.wrap a * IntKind.u64.wrap a)) = true := by
  rw [beq_iff_eq]
  have e : mag a * mag a = a * a := by
    by_cases h : a < 0
    · rw [mag_neg h, Int.neg_mul_neg]
    · rw [mag_nonneg h]
  rw [e, IntKind.wrap_u64, IntKind.wrap_u64, IntKind.wrap_u64]
  exact Int.mul_emod a a _

theorem prod_or (a b : Int) :
    (mag (wrap64 (a * b)) == IntKind.u64.wrap (mag a * mag b)) = true ∨
    ((mag (wrap64 (a * b)) == IntKind.u64.wrap (mag a * mag b)) = false ∧
     (mag (wrap64 (a * b)) == IntKind.u64.wrap (-IntKind.u64.wrap (mag a * mag b))) = true) := by
  rw [mag_mul]
  generalize a * b = q
  rw [IntKind.wrap_u64, IntKind.wrap_u64]
  by_cases h : mag (wrap64 q) = mag q % 18446744073709551616
  · left; simpa using h
  · right
    refine ⟨by simpa using h, ?_⟩
    rw [beq_iff_eq]
    unfold mag wrap64 at *
    split at h <;> split at h <;> rename_i c d <;> simp only [c, d, if_true, if_false] <;> omega

set_option maxHeartbeats 400000 in
theorem magnitude (n : Int) (h0 : -9223372036854775808 ≤ n) (h1 : n ≤ 9223372036854775807) (w : World) :
    Calls Try.prog 18 #[.int .i64 n] w fun e w' => e = .returned (.int .u64 (mag n)) ∧ w' = w := by
  by_cases h : n < 0
  · have e := wrap_neg h0 h
    go_enter Try.func18, Try.ntmps18
    go_wp2
    go_ret
    exact ⟨rfl, rfl⟩
  · have e := wrap_pos h1 h
    go_enter Try.func18, Try.ntmps18
    go_wp2
    go_ret
    exact ⟨rfl, rfl⟩

set_option maxHeartbeats 400000 in
theorem zzmagnitude (n : Int) (h0 : -9223372036854775808 ≤ n) (h1 : n ≤ 9223372036854775807) (w : World) :
    Calls Try.prog 9 #[.int .i64 n] w fun e w' => e = .returned (.int .u64 (mag n)) ∧ w' = w := by
  go_enter Try.func9, Try.ntmps9
  go_wp2_with (go_at_call 18; refine (magnitude n h0 h1 _).mono ?_; rintro e w' ⟨rfl, rfl⟩)
  go_ret
  exact ⟨rfl, rfl⟩

end Go.Proofs.Qxb6617157a.Mag
