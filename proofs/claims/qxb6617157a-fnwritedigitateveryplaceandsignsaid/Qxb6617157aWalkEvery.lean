import Derived.Test.Qxb6617157aWalkPlaces
import Derived.WalkKit
import Derived.ProofKit
namespace Go.Proofs.Qxb6617157a.Txt
open Go.RowKit

set_option maxHeartbeats 1000000 in
theorem every_short (s : ByteArray) (neg : Bool) (sc pl : Int) (hs : s.size ≤ 9223372036854775807)
    (h : 65536 < (s.size : Int) ∨ sc < 0 ∨ 65536 < sc ∨ 65536 < pl ∨ (0 < pl ∧ pl < sc)) (w : World) :
    Calls Try.prog 5 #[.string s, .bool neg, .int .i64 sc, .int .i64 pl] w fun e w' => e = .returned (.bool true) ∧ w' = w := by
  by_cases h1 : 1048576 < (s.size : Int)
  · go_enter Try.func5, Try.ntmps5
    go_wp2
    go_ret
    exact ⟨rfl, rfl⟩
  by_cases h2 : 65536 < (s.size : Int)
  · go_enter Try.func5, Try.ntmps5
    go_wp2
    go_ret
    exact ⟨rfl, rfl⟩
  by_cases h3 : sc < 0
  · go_enter Try.func5, Try.ntmps5
    go_wp2
    go_ret
    exact ⟨rfl, rfl⟩
  by_cases h4 : 65536 < sc
  · go_enter Try.func5, Try.ntmps5
    go_wp2
    go_ret
    exact ⟨rfl, rfl⟩
  by_cases h5 : 65536 < pl
  · go_enter Try.func5, Try.ntmps5
    go_wp2
    go_ret
    exact ⟨rfl, rfl⟩
  obtain ⟨h6, h7⟩ : 0 < pl ∧ pl < sc := by omega
  clear h
  go_enter Try.func5, Try.ntmps5
  go_wp2
  go_ret
  exact ⟨rfl, rfl⟩

set_option maxHeartbeats 400000 in
theorem bytes10 (s : ByteArray) (neg : Bool) (sc pl : Int) (h : (s.size : Int) ≤ 1048576) (w : World) :
    Calls Try.prog 10 #[.string s, .bool neg, .int .i64 sc, .int .i64 pl] w fun e w' => e = .returned (.bool true) ∧ w' = w := by
  go_enter Try.func10, Try.ntmps10
  go_wp2
  go_ret
  exact ⟨rfl, rfl⟩

theorem sign_eq {u t : ByteArray} {d : List UInt8} {sc : Nat} {pl : Int} (hu : u.data.toList = text d true sc pl) (ht : t.data.toList = text d false sc pl) : u = ⟨#[45]⟩ ++ t := by
  apply ext_list'
  rw [hu, toList_append, ht]
  rfl
theorem size_le {t s : ByteArray} {neg : Bool} {sc pl : Int} (ht : t.data.toList = text s.data.toList neg sc.toNat pl) (hs : (s.size : Int) ≤ 65536) (h0 : 0 ≤ sc) (h2 : pl ≤ 65536) (h3 : pl ≤ 0 ∨ sc ≤ pl) : (t.size : Int) ≤ 200000 := by
  by_cases hp : 0 < pl
  · have e := size_pos _ _ ht h0 hp (by omega) rfl rfl
    split at e <;> omega
  · have e := size_neg _ _ ht h0 hp rfl rfl
    split at e <;> omega
theorem bel3 {w w1 w2 w3 : World} (h1 : Below w.heap.size w w1) (h2 : Below w1.heap.size w1 w2) (h3 : Below w2.heap.size w2 w3) : Below w.heap.size w w3 := bel2 (bel2 h1 h2) h3

set_option maxHeartbeats 1000000 in
theorem every (s : ByteArray) (neg : Bool) (sc pl : Int) (hs : (s.size : Int) ≤ 65536) (h0 : 0 ≤ sc) (h1 : sc ≤ 65536) (h2 : pl ≤ 65536) (h3 : pl ≤ 0 ∨ sc ≤ pl) (w : World) :
    Calls Try.prog 5 #[.string s, .bool neg, .int .i64 sc, .int .i64 pl] w fun e w' => e = .returned (.bool true) ∧ Below w.heap.size w w' := by
  have hd : ¬ (0 < pl ∧ pl < sc) := by omega
  by_cases hp : 0 < pl
  all_goals
    cases neg
    · go_enter Try.func5, Try.ntmps5
      go_wp2_with (first | (go_at_call 10; refine (bytes10 s _ _ _ (by omega) _).mono ?_; rintro e w' ⟨rfl, rfl⟩))
      refine (zzwrite s _ sc pl (by omega) (by omega) (by omega) (by omega) (by omega) _).mono ?_
      rintro e w1 ⟨t, rfl, ht, hb1⟩
      have HT : Hid (t.data.toList = text s.data.toList false sc.toNat pl) := ht
      have hz := size_le ht hs h0 h2 h3
      clear ht
      go_wp2_with fail
      refine (zzwrite s _ sc pl (by omega) (by omega) (by omega) (by omega) (by omega) _).mono ?_
      rintro e w2 ⟨u, rfl, hu, hb2⟩
      obtain rfl := sign_eq hu HT
      clear hu
      go_wp2_with fail
      refine (places t s sc pl hs h0 h1 h2 h3 HT _).mono ?_
      rintro e w3 ⟨rfl, hb3⟩
      go_wp2
      go_ret
      exact ⟨rfl, bel3 hb1 hb2 hb3⟩
    · go_enter Try.func5, Try.ntmps5
      go_wp2_with (first | (go_at_call 10; refine (bytes10 s _ _ _ (by omega) _).mono ?_; rintro e w' ⟨rfl, rfl⟩))
      refine (zzwrite s _ sc pl (by omega) (by omega) (by omega) (by omega) (by omega) _).mono ?_
      rintro e w1 ⟨u, rfl, hu, hb1⟩
      have HU : Hid (u.data.toList = text s.data.toList true sc.toNat pl) := hu
      clear hu
      go_wp2_with fail
      refine (zzwrite s _ sc pl (by omega) (by omega) (by omega) (by omega) (by omega) _).mono ?_
      rintro e w2 ⟨t, rfl, ht, hb2⟩
      have HT : Hid (t.data.toList = text s.data.toList false sc.toNat pl) := ht
      have hz := size_le ht hs h0 h2 h3
      clear ht
      obtain rfl := sign_eq HU HT
      clear HU
      go_wp2_with fail
      refine (places t s sc pl hs h0 h1 h2 h3 HT _).mono ?_
      rintro e w3 ⟨rfl, hb3⟩
      go_wp2
      go_ret
      exact ⟨rfl, bel3 hb1 hb2 hb3⟩
end Go.Proofs.Qxb6617157a.Txt
