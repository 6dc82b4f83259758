import Derived.Test.Qxb6617157aRows
import Derived.Test.Qxb6617157aShelf
import Derived.Test.Qxb6617157aPlainText
import Derived.WalkKit
import Derived.ProofKit
import Derived.Outline
import Derived.Deep.RegionWith
import Derived.Deep.DrawnRows
attribute [local go_sem ↓] Go.wp_at_zero Go.wp_at_succ
namespace Go.Proofs.Qxb6617157a.Txt
open Go.RowKit

/-- strings.Repeat("0", n). -/
theorem rep0 (n : Int) (h0 : 0 ≤ n) (h1 : n ≤ 200000) (w : World) :
    Calls Try.prog 22 #[.string ⟨#[48]⟩, .int .i64 n] w fun e w' => ∃ z : ByteArray, e = .returned (.string z) ∧ Hid (z.data.toList = zeros n.toNat) ∧ (z.size : Int) ≤ n ∧ n ≤ (z.size : Int) ∧ Below w.heap.size w w' := by
  obtain ⟨c, rfl⟩ := Int.eq_ofNat_of_zero_le h0
  refine (Try.strings_Repeat ⟨#[48]⟩ c w (by omega) ?_).mono ?_
  · show 1 * c ≤ _
    omega
  · rintro e w' ⟨rfl, hb⟩
    have hz : (Lib.repeatL [48] c).length = c := by rw [repeatL_zero, zeros_length]
    have hz' : (⟨(Lib.repeatL (⟨#[48]⟩ : ByteArray).data.toList c).toArray⟩ : ByteArray).size = c := by
      show (Lib.repeatL [48] c).toArray.size = c
      simpa using hz
    refine ⟨_, rfl, ?_, by omega, by omega, hb⟩
    show Lib.repeatL [48] c = zeros c
    exact repeatL_zero c

/-- The world behind a call in a region that draws. -/
theorem bel1 {w w1 : World} (hb : Below w.drew.heap.size w.drew w1) : Below w.heap.size w w1 := (Below.drew (Below.refl _ w)).trans hb
theorem bel2 {w w1 w2 : World} (h1 : Below w.heap.size w w1) (h2 : Below w1.heap.size w1 w2) : Below w.heap.size w w2 := h1.trans (h2.mono h1.size)

set_option maxHeartbeats 1000000 in
theorem write_long (s : ByteArray) (neg : Bool) (sc pl : Int) (hs : (s.size : Int) ≤ 65537) (h0 : 0 ≤ sc) (h1 : sc < (s.size : Int)) (h2 : pl ≤ 65537) (h3 : pl ≤ 0 ∨ sc ≤ pl) (w : World) :
    Calls Try.prog 19 #[.string s, .bool neg, .int .i64 sc, .int .i64 pl] w fun e w' => ∃ t : ByteArray, e = .returned (.string t) ∧ t.data.toList = text s.data.toList neg sc.toNat pl ∧ Below w.heap.size w w' := by
  by_cases hp : 0 < pl
  · have h3' : sc ≤ pl := by omega
    clear h3
    have ew : IntKind.i64.wrap (pl - sc) = pl - sc := IntWalk.i64_in _ ⟨by omega, by omega⟩
    cases neg
    · go_enter Try.func19, Try.ntmps19
      go_wp2_with fail
      go_region_with (first | (go_at_call 22; refine (rep0 _ (by omega) (by omega) _).mono ?_; rintro e w' ⟨z, rfl, hz, hz1, hz2, hb⟩))
      all_goals go_wp2
      all_goals go_ret
      all_goals exact ⟨_, rfl, sign_no (fin_pos (pad_long h0 h1) hz h0 hp (by omega) (by omega)), bel1 hb⟩
    · go_enter Try.func19, Try.ntmps19
      go_wp2_with fail
      go_region_with (first | (go_at_call 22; refine (rep0 _ (by omega) (by omega) _).mono ?_; rintro e w' ⟨z, rfl, hz, hz1, hz2, hb⟩))
      all_goals go_wp2
      all_goals go_ret
      all_goals exact ⟨_, rfl, sign_yes (fin_pos (pad_long h0 h1) hz h0 hp (by omega) (by omega)), bel1 hb⟩
  · cases neg
    · go_enter Try.func19, Try.ntmps19
      go_wp2
      go_ret
      exact ⟨_, rfl, sign_no (fin_neg (pad_long h0 h1) (by omega) (by omega)), Below.refl _ _⟩
    · go_enter Try.func19, Try.ntmps19
      go_wp2
      go_ret
      exact ⟨_, rfl, sign_yes (fin_neg (pad_long h0 h1) (by omega) (by omega)), Below.refl _ _⟩

set_option maxHeartbeats 1000000 in
theorem write_short (s : ByteArray) (neg : Bool) (sc pl : Int) (h0 : 0 ≤ sc) (h1 : (s.size : Int) ≤ sc) (hs : sc ≤ 65537) (h2 : pl ≤ 65537) (h3 : pl ≤ 0 ∨ sc ≤ pl) (w : World) :
    Calls Try.prog 19 #[.string s, .bool neg, .int .i64 sc, .int .i64 pl] w fun e w' => ∃ t : ByteArray, e = .returned (.string t) ∧ t.data.toList = text s.data.toList neg sc.toNat pl ∧ Below w.heap.size w w' := by
  by_cases hp : 0 < pl
  · have h3' : sc ≤ pl := by omega
    clear h3
    have ew : IntKind.i64.wrap (pl - sc) = pl - sc := IntWalk.i64_in _ ⟨by omega, by omega⟩
    cases neg
    · go_enter Try.func19, Try.ntmps19
      go_wp2_with (first | (go_at_call 22; refine (rep0 _ (by omega) (by omega) _).mono ?_; rintro e w1 ⟨z0, rfl, hy, hy1, hy2, hb1⟩))
      go_region_with (first | (go_at_call 22; refine (rep0 _ (by omega) (by omega) _).mono ?_; rintro e w' ⟨z, rfl, hz, hz1, hz2, hb⟩))
      all_goals go_wp2
      all_goals go_ret
      all_goals exact ⟨_, rfl, sign_no (fin_pos (pad_short h0 hy) hz h0 hp (by simp; omega) (by simp)), bel2 hb1 (bel1 hb)⟩
    · go_enter Try.func19, Try.ntmps19
      go_wp2_with (first | (go_at_call 22; refine (rep0 _ (by omega) (by omega) _).mono ?_; rintro e w1 ⟨z0, rfl, hy, hy1, hy2, hb1⟩))
      go_region_with (first | (go_at_call 22; refine (rep0 _ (by omega) (by omega) _).mono ?_; rintro e w' ⟨z, rfl, hz, hz1, hz2, hb⟩))
      all_goals go_wp2
      all_goals go_ret
      all_goals exact ⟨_, rfl, sign_yes (fin_pos (pad_short h0 hy) hz h0 hp (by simp; omega) (by simp)), bel2 hb1 (bel1 hb)⟩
  · cases neg
    · go_enter Try.func19, Try.ntmps19
      go_wp2_with (first | (go_at_call 22; refine (rep0 _ (by omega) (by omega) _).mono ?_; rintro e w1 ⟨z0, rfl, hy, hy1, hy2, hb1⟩))
      go_ret
      exact ⟨_, rfl, sign_no (fin_neg (pad_short h0 hy) (by omega) (by simp; omega)), hb1⟩
    · go_enter Try.func19, Try.ntmps19
      go_wp2_with (first | (go_at_call 22; refine (rep0 _ (by omega) (by omega) _).mono ?_; rintro e w1 ⟨z0, rfl, hy, hy1, hy2, hb1⟩))
      go_ret
      exact ⟨_, rfl, sign_yes (fin_neg (pad_short h0 hy) (by omega) (by simp; omega)), hb1⟩

theorem write (s : ByteArray) (neg : Bool) (sc pl : Int) (hs : (s.size : Int) ≤ 65537) (h0 : 0 ≤ sc) (h1 : sc ≤ 65537) (h2 : pl ≤ 65537) (h3 : pl ≤ 0 ∨ sc ≤ pl) (w : World) :
    Calls Try.prog 19 #[.string s, .bool neg, .int .i64 sc, .int .i64 pl] w fun e w' => ∃ t : ByteArray, e = .returned (.string t) ∧ t.data.toList = text s.data.toList neg sc.toNat pl ∧ Below w.heap.size w w' := by
  by_cases h : sc < (s.size : Int)
  · exact write_long s neg sc pl hs h0 h h2 h3 w
  · exact write_short s neg sc pl h0 (by omega) h1 h2 h3 w

set_option maxHeartbeats 400000 in
theorem zzwrite (s : ByteArray) (neg : Bool) (sc pl : Int) (hs : (s.size : Int) ≤ 65537) (h0 : 0 ≤ sc) (h1 : sc ≤ 65537) (h2 : pl ≤ 65537) (h3 : pl ≤ 0 ∨ sc ≤ pl) (w : World) :
    Calls Try.prog 11 #[.string s, .bool neg, .int .i64 sc, .int .i64 pl] w fun e w' => ∃ t : ByteArray, e = .returned (.string t) ∧ t.data.toList = text s.data.toList neg sc.toNat pl ∧ Below w.heap.size w w' := by
  go_enter Try.func11, Try.ntmps11
  go_wp2_with (go_at_call 19; refine (write s neg sc pl hs h0 h1 h2 h3 _).mono ?_; rintro e w' ⟨t, rfl, ht, hb⟩)
  go_ret
  exact ⟨t, rfl, ht, hb⟩
end Go.Proofs.Qxb6617157a.Txt
