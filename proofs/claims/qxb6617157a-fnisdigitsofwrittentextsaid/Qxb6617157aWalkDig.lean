import Derived.Test.Qxb6617157aRows
import Derived.Test.Qxb6617157aPlainDig
import Derived.WalkKit
import Derived.ProofKit
import Derived.Outline
namespace Go.Proofs.Qxb6617157a.Dig
open Go.RowKit

theorem ret_bool {a b : Bool} (h : a = b) : Ending.returned (.bool a) = .returned (.bool b) := by rw [h]

set_option maxHeartbeats 400000 in
theorem isDigits (s : ByteArray) (hs : s.size ≤ 9223372036854775807) (w : World) :
    Calls Try.prog 21 #[.string s] w fun e w' => e = .returned (.bool (isDig s.data.toList)) ∧ w' = w := by
  by_cases he : s.data.toList = []
  · have e1 : (s.toList.isEmpty) = true := by rw [ByteArray.toList_eq, he]; rfl
    go_enter Try.func21, Try.ntmps21
    go_wp2
    go_ret
    exact ⟨ret_bool (by simp [isDig, he]), rfl⟩
  · have e1 : (s.toList.isEmpty) = false := by rw [ByteArray.toList_eq]; simpa using he
    have hd : isDig s.data.toList = allDig s.data.toList := by
      unfold isDig; rw [List.isEmpty_eq_false_iff.2 he]; rfl
    rw [hd]; clear hd he
    go_enter Try.func21, Try.ntmps21
    go_wp2
    go_loop [3] (fun i => ∃ k : Nat, k ≤ s.size ∧ i = .int .i64 k ∧ allDig (s.data.toList.take k) = true) (fun i => s.size - (intOf i).toNat)
    case atStart => exact ⟨0, Nat.zero_le _, rfl, rfl⟩
    case round =>
      obtain ⟨k, hk, rfl, ha⟩ := hrel
      have HA : Hid (allDig (s.data.toList.take k) = true) := ha
      clear ha
      by_cases hlt : k < s.size
      · go_wp2
        all_goals first
          | (go_ret; exact ⟨ret_bool (by rw [allDig_bad s k hlt]; first | exact digB_lo ‹_› | exact digB_hi (by omega)), rfl⟩)
          | (refine ⟨⟨k + 1, by omega, by go_num, allDig_step s k hlt HA (digB_true (by omega) (by omega))⟩, ?_⟩; simp [intOf]; omega)
      · go_wp2
        go_ret
        exact ⟨ret_bool (allDig_end s k (by omega) HA).symm, rfl⟩

set_option maxHeartbeats 400000 in
theorem zzIsDigits (s : ByteArray) (hs : s.size ≤ 9223372036854775807) (w : World) :
    Calls Try.prog 15 #[.string s] w fun e w' => e = .returned (.bool (isDig s.data.toList)) ∧ w' = w := by
  go_enter Try.func15, Try.ntmps15
  go_wp2_with (go_at_call 21; refine (isDigits s hs _).mono ?_; rintro e w' ⟨rfl, rfl⟩)
  go_ret
  exact ⟨rfl, rfl⟩

set_option maxHeartbeats 400000 in
theorem allDecimal (s : ByteArray) (hs : s.size ≤ 9223372036854775807) (w : World) :
    Calls Try.prog 17 #[.string s] w fun e w' => e = .returned (.bool (allDig s.data.toList)) ∧ w' = w := by
  go_enter Try.func17, Try.ntmps17
  go_wp2
  go_loop [3] (fun i => ∃ k : Nat, k ≤ s.size ∧ i = .int .i64 k ∧ allDig (s.data.toList.take k) = true) (fun i => s.size - (intOf i).toNat)
  case atStart => exact ⟨0, Nat.zero_le _, rfl, rfl⟩
  case round =>
    obtain ⟨k, hk, rfl, ha⟩ := hrel
    have HA : Hid (allDig (s.data.toList.take k) = true) := ha
    clear ha
    by_cases hlt : k < s.size
    · go_wp2
      all_goals first
        | (go_ret; exact ⟨ret_bool (by rw [allDig_bad s k hlt]; first | exact digB_lo ‹_› | exact digB_hi (by omega)), rfl⟩)
        | (refine ⟨⟨k + 1, by omega, by go_num, allDig_step s k hlt HA (digB_true (by omega) (by omega))⟩, ?_⟩; simp [intOf]; omega)
    · go_wp2
      go_ret
      exact ⟨ret_bool (allDig_end s k (by omega) HA).symm, rfl⟩
end Go.Proofs.Qxb6617157a.Dig
