import Derived.Test.Qxb6617157aWalkDig
import Derived.WalkKit
import Derived.Outline
import Derived.ProofKit
import Derived.OpenShut

import Derived.Deep.RegionWith
import Derived.Deep.DrawnRows
attribute [local go_sem ↓] Go.wp_at_zero Go.wp_at_succ
namespace Go.Proofs.Qxb6617157a.Dig
open Go.RowKit

set_option maxHeartbeats 400000 in
theorem short (s : ByteArray) (i c : Int) (w : World) (h : 65536 < (s.size : Int) ∨ i < 0 ∨ (s.size : Int) < i) (hs : s.size ≤ 9223372036854775807) :
    Calls Try.prog 7 #[.string s, .int .i64 i, .int .u8 c] w fun e w' => e = .returned (.bool true) ∧ w' = w := by
  by_cases h1 : 1048576 < (s.size : Int)
  · go_enter Try.func7, Try.ntmps7
    go_wp2
    go_ret
    exact ⟨rfl, rfl⟩
  · by_cases h2 : 65536 < (s.size : Int)
    · go_enter Try.func7, Try.ntmps7
      go_wp2
      go_ret
      exact ⟨rfl, rfl⟩
    · by_cases h3 : i < 0
      · go_enter Try.func7, Try.ntmps7
        go_wp2
        go_ret
        exact ⟨rfl, rfl⟩
      · have h4 : (s.size : Int) < i := by omega
        clear h
        go_enter Try.func7, Try.ntmps7
        go_wp2
        go_ret
        exact ⟨rfl, rfl⟩

set_option maxHeartbeats 400000 in
theorem bytes14 (s : ByteArray) (i c : Int) (h : (s.size : Int) ≤ 1048576) (w : World) :
    Calls Try.prog 14 #[.string s, .int .i64 i, .int .u8 c] w fun e w' => e = .returned (.bool true) ∧ w' = w := by
  go_enter Try.func14, Try.ntmps14
  go_wp2
  go_ret
  exact ⟨rfl, rfl⟩


theorem conv1 (b : UInt8) (W : World) (a : Addr) (h : W.cell? a = some (.int .u8 b.toNat)) :
    (convert 31 9 (.slice (some a) 1 1)).run Try.prog W = .ok (.string ⟨#[b]⟩) W := by
  rw [run_convert_bytes_string W 31 9 5 _ _ _ Try.underlying31 Try.underlying5 Try.underlying9]
  rw [run_bytesToString W a 1 1 [(b.toNat : Int)]]
  · simp
    rfl
  · have hl := run_loadCells W a 1 (fun _ => .int .u8 b.toNat) (P := Try.prog)
      (fun j hj => by
        have e : j = 0 := by omega
        subst e
        simpa [Addr.add] using h)
    rw [hl]
    rfl

theorem size_one (b : UInt8) : (⟨#[b]⟩ : ByteArray).size = 1 := rfl
theorem one_le (b : UInt8) : (⟨#[b]⟩ : ByteArray).size ≤ 9223372036854775807 := by
  show 1 ≤ _
  omega

set_option maxHeartbeats 2000000 in
theorem main (s : ByteArray) (i : Nat) (b : UInt8) (w : World) (h1 : (s.size : Int) ≤ 65536) (h2 : (i : Int) ≤ (s.size : Int)) :
    Calls Try.prog 7 #[.string s, .int .i64 i, .int .u8 b.toNat] w fun e w' => e = .returned (.bool true) ∧ Grown w w' := by
  have kc := conv1 b
  have h0 : (0 : Int) ≤ (i : Int) := by omega
  have hone : isDig [b] = digB b := isDig_one b
  have hput : isDig (List.take i s.data.toList ++ b :: List.take (s.size - i) (List.drop i s.data.toList)) = (digB b && allDig s.data.toList) :=
    isDig_put _ _ _ _ (by simp)
  have cases7 : (∃ lo : 48 ≤ (b.toNat : Int), (b.toNat : Int) ≤ 57 ∧ digB b = true ∧ ((s.toList.isEmpty = true ∧ isDig s.data.toList = false ∧ allDig s.data.toList = true) ∨ (s.toList.isEmpty = false ∧ isDig s.data.toList = true ∧ allDig s.data.toList = true) ∨ (s.toList.isEmpty = false ∧ isDig s.data.toList = false ∧ allDig s.data.toList = false)))
      ∨ (((b.toNat : Int) < 48 ∨ (48 ≤ (b.toNat : Int) ∧ decide ((b.toNat : Int) ≤ 57) = false)) ∧ digB b = false ∧ ((s.toList.isEmpty = true ∧ isDig s.data.toList = false) ∨ s.toList.isEmpty = false)) := by
    rw [ByteArray.toList_eq]
    by_cases hs : s.data.toList = []
    · rw [hs]
      by_cases hb1 : (b.toNat : Int) < 48
      · right; exact ⟨.inl hb1, digB_lo hb1, .inl ⟨rfl, rfl⟩⟩
      · by_cases hb2 : 57 < (b.toNat : Int)
        · right; exact ⟨.inr ⟨by omega, decide_eq_false (by omega)⟩, digB_hi hb2, .inl ⟨rfl, rfl⟩⟩
        · left; exact ⟨by omega, by omega, digB_true hb1 hb2, .inl ⟨rfl, rfl, rfl⟩⟩
    · rw [isDig_cons hs, List.isEmpty_eq_false_iff.2 hs]
      by_cases hb1 : (b.toNat : Int) < 48
      · right; exact ⟨.inl hb1, digB_lo hb1, .inr rfl⟩
      · by_cases hb2 : 57 < (b.toNat : Int)
        · right; exact ⟨.inr ⟨by omega, decide_eq_false (by omega)⟩, digB_hi hb2, .inr rfl⟩
        · left
          refine ⟨by omega, by omega, digB_true hb1 hb2, .inr ?_⟩
          cases h : allDig s.data.toList
          · exact .inr ⟨rfl, rfl, rfl⟩
          · exact .inl ⟨rfl, rfl, rfl⟩
  rcases cases7 with ⟨lo, hi, hb, ⟨g1, g2, g3⟩ | ⟨g1, g2, g3⟩ | ⟨g1, g2, g3⟩⟩ | ⟨lo | ⟨lo, hi⟩, hb, ⟨g1, g2⟩ | g1⟩
  all_goals
    go_enter Try.func7, Try.ntmps7
    go_wp2_with (first | (go_at_call 14; refine (bytes14 s _ _ (by omega) _).mono ?_; rintro e w' ⟨rfl, rfl⟩))
    refine (zzIsDigits _ (one_le b) _).mono ?_
    rintro e w1 ⟨rfl, rfl⟩
    go_wp2_with fail
    refine (zzIsDigits s (by omega) _).mono ?_
    rintro e w1 ⟨rfl, rfl⟩
    go_wp2_with fail
    go_region_with (first | (go_at_call 15; refine (zzIsDigits _ ?_ _).mono ?_; (simp only [ByteArray.size_append', size_one, ByteArray.size_extract]; omega); rintro e w' ⟨rfl, rfl⟩))
    go_wp2
    go_ret
    refine ⟨rfl, ?_⟩
    repeat (first | exact Grown.refl _ | apply Grown.drew | apply Grown.alloc)
end Go.Proofs.Qxb6617157a.Dig
