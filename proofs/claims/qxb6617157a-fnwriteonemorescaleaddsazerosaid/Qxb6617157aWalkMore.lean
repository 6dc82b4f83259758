import Derived.Test.Qxb6617157aWalkWrite
import Derived.Test.Qxb6617157aPlainLaws
import Derived.WalkKit
import Derived.ProofKit
import Derived.PlainAid
namespace Go.Proofs.Qxb6617157a.Txt
open Go.RowKit Go.PlainAid

set_option maxHeartbeats 1000000 in
theorem more_short (s : ByteArray) (neg : Bool) (sc pl : Int) (hs : s.size ≤ 9223372036854775807)
    (h : 65536 < (s.size : Int) ∨ sc < 0 ∨ 65536 < sc ∨ 65536 < pl ∨ (0 < pl ∧ pl < sc)) (w : World) :
    Calls Try.prog 6 #[.string s, .bool neg, .int .i64 sc, .int .i64 pl] w fun e w' => e = .returned (.bool true) ∧ w' = w := by
  by_cases h1 : 1048576 < (s.size : Int)
  · go_enter Try.func6, Try.ntmps6
    go_wp2
    go_ret
    exact ⟨rfl, rfl⟩
  by_cases h2 : 65536 < (s.size : Int)
  · go_enter Try.func6, Try.ntmps6
    go_wp2
    go_ret
    exact ⟨rfl, rfl⟩
  by_cases h3 : sc < 0
  · go_enter Try.func6, Try.ntmps6
    go_wp2
    go_ret
    exact ⟨rfl, rfl⟩
  by_cases h4 : 65536 < sc
  · go_enter Try.func6, Try.ntmps6
    go_wp2
    go_ret
    exact ⟨rfl, rfl⟩
  by_cases h5 : 65536 < pl
  · go_enter Try.func6, Try.ntmps6
    go_wp2
    go_ret
    exact ⟨rfl, rfl⟩
  obtain ⟨h6, h7⟩ : 0 < pl ∧ pl < sc := by omega
  clear h
  go_enter Try.func6, Try.ntmps6
  go_wp2
  go_ret
  exact ⟨rfl, rfl⟩

set_option maxHeartbeats 400000 in
theorem bytes13 (s : ByteArray) (neg : Bool) (sc pl : Int) (h : (s.size : Int) ≤ 1048576) (w : World) :
    Calls Try.prog 13 #[.string s, .bool neg, .int .i64 sc, .int .i64 pl] w fun e w' => e = .returned (.bool true) ∧ w' = w := by
  go_enter Try.func13, Try.ntmps13
  go_wp2
  go_ret
  exact ⟨rfl, rfl⟩

theorem bt_of {t : ByteArray} {l : List UInt8} {n : Nat} {c : UInt8} (h : t.data.toList = l) (hc : l[n]? = some c) : bt t n = (c.toNat : Int) := by
  subst h
  obtain ⟨hn, hv⟩ := List.getElem?_eq_some_iff.1 hc
  have hn' : n < t.size := by rw [← toList_length]; exact hn
  rw [← get_bt t n hn', ← hv]
  rfl
theorem ext_list {a b : ByteArray} (h : a.data.toList = b.data.toList) : a = b := by
  apply ByteArray.ext
  exact Array.toList_inj.1 h

theorem point_of {t : ByteArray} {d : List UInt8} {neg : Bool} {sc pl : Int} (ht : t.data.toList = text d neg sc.toNat pl) (hp : 0 < pl) (hs : sc ≤ pl) : bt t ((t.size : Int) - 1 - pl).toNat = 46 := by
  have e := text_point d neg sc.toNat pl hp (by omega)
  rw [← ht, toList_length] at e
  rw [show ((t.size : Int) - 1 - pl).toNat = t.size - 1 - pl.toNat by omega]
  exact bt_of rfl e
theorem minus_of {t : ByteArray} {d : List UInt8} {sc : Nat} {pl : Int} (ht : t.data.toList = text d true sc pl) : bt t 0 = 45 := bt_of (c := 45) (n := 0) ht rfl
theorem more_eq_pos {u t s : ByteArray} {neg : Bool} {sc pl : Int} (hu : u.data.toList = text (s ++ ⟨#[48]⟩).data.toList neg (sc + 1).toNat (pl + 1)) (ht : t.data.toList = text s.data.toList neg sc.toNat pl)
    (h0 : 0 ≤ sc) (hp : 0 < pl) (hs : sc ≤ pl) : u = t ++ ⟨#[48]⟩ := by
  apply ext_list
  rw [hu, toList_append, toList_append, ht, show (sc + 1).toNat = sc.toNat + 1 by omega]
  exact text_snoc_pos _ _ _ _ hp (by omega)
theorem more_eq_neg {u t s : ByteArray} {neg : Bool} {sc pl : Int} (hu : u.data.toList = text (s ++ ⟨#[48]⟩).data.toList neg (sc + 1).toNat pl) (ht : t.data.toList = text s.data.toList neg sc.toNat pl)
    (h0 : 0 ≤ sc) (hp : ¬ 0 < pl) : u = t := by
  apply ext_list
  rw [hu, toList_append, ht, show (sc + 1).toNat = sc.toNat + 1 by omega]
  exact text_snoc_neg _ _ _ _ hp
theorem size_snoc {s : ByteArray} (h : (s.size : Int) ≤ 65536) : ((s ++ ⟨#[48]⟩ : ByteArray).size : Int) ≤ 65537 := by
  rw [ByteArray.size_append']; show ((s.size + 1 : Nat) : Int) ≤ _; omega

set_option maxHeartbeats 1600000 in
theorem more_pos (s : ByteArray) (neg : Bool) (sc pl : Int) (hs : (s.size : Int) ≤ 65536) (h0 : 0 ≤ sc) (h1 : sc ≤ 65536) (h2 : pl ≤ 65536) (hp : 0 < pl) (h3 : sc ≤ pl) (w : World) :
    Calls Try.prog 6 #[.string s, .bool neg, .int .i64 sc, .int .i64 pl] w fun e w' => e = .returned (.bool true) ∧ Below w.heap.size w w' := by
  cases neg
  · by_cases hi : (s.size : Int) - sc < 1
    · go_enter Try.func6, Try.ntmps6
      go_wp2_with (first | (go_at_call 13; refine (bytes13 s _ _ _ (by omega) _).mono ?_; rintro e w' ⟨rfl, rfl⟩))
      refine (zzwrite s false sc pl (by omega) (by omega) (by omega) (by omega) (by omega) _).mono ?_
      rintro e w1 ⟨t, rfl, ht, hb1⟩
      have b1 := Int.le_of_eq (size_pos 0 1 ht h0 hp h3 rfl (by omega))
      have b2 := Int.le_of_eq (size_pos 0 1 ht h0 hp h3 rfl (by omega)).symm
      have gb := get_bt t
      have g2 := point_of ht hp h3
      have HT : Hid (t.data.toList = text s.data.toList false sc.toNat pl) := ht
      clear ht
      go_wp2_with fail
      refine (zzwrite _ _ _ _ ?_ (by omega) (by omega) (by omega) (by omega) _).mono ?_
      · exact size_snoc hs
      rintro e w2 ⟨u, rfl, hu, hb2⟩
      obtain rfl := more_eq_pos hu HT h0 hp h3
      clear hu
      go_wp2
      go_ret
      exact ⟨rfl, bel2 hb1 hb2⟩
    · go_enter Try.func6, Try.ntmps6
      go_wp2_with (first | (go_at_call 13; refine (bytes13 s _ _ _ (by omega) _).mono ?_; rintro e w' ⟨rfl, rfl⟩))
      refine (zzwrite s false sc pl (by omega) (by omega) (by omega) (by omega) (by omega) _).mono ?_
      rintro e w1 ⟨t, rfl, ht, hb1⟩
      have b1 := Int.le_of_eq (size_pos 0 (s.size - sc) ht h0 hp h3 rfl (by omega))
      have b2 := Int.le_of_eq (size_pos 0 (s.size - sc) ht h0 hp h3 rfl (by omega)).symm
      have gb := get_bt t
      have g2 := point_of ht hp h3
      have HT : Hid (t.data.toList = text s.data.toList false sc.toNat pl) := ht
      clear ht
      go_wp2_with fail
      refine (zzwrite _ _ _ _ ?_ (by omega) (by omega) (by omega) (by omega) _).mono ?_
      · exact size_snoc hs
      rintro e w2 ⟨u, rfl, hu, hb2⟩
      obtain rfl := more_eq_pos hu HT h0 hp h3
      clear hu
      go_wp2
      go_ret
      exact ⟨rfl, bel2 hb1 hb2⟩
  · by_cases hi : (s.size : Int) - sc < 1
    · go_enter Try.func6, Try.ntmps6
      go_wp2_with (first | (go_at_call 13; refine (bytes13 s _ _ _ (by omega) _).mono ?_; rintro e w' ⟨rfl, rfl⟩))
      refine (zzwrite s true sc pl (by omega) (by omega) (by omega) (by omega) (by omega) _).mono ?_
      rintro e w1 ⟨t, rfl, ht, hb1⟩
      have b1 := Int.le_of_eq (size_pos 1 1 ht h0 hp h3 rfl (by omega))
      have b2 := Int.le_of_eq (size_pos 1 1 ht h0 hp h3 rfl (by omega)).symm
      have gb := get_bt t
      have g2 := point_of ht hp h3
      have g3 := minus_of ht
      have HT : Hid (t.data.toList = text s.data.toList true sc.toNat pl) := ht
      clear ht
      go_wp2_with fail
      refine (zzwrite _ _ _ _ ?_ (by omega) (by omega) (by omega) (by omega) _).mono ?_
      · exact size_snoc hs
      rintro e w2 ⟨u, rfl, hu, hb2⟩
      obtain rfl := more_eq_pos hu HT h0 hp h3
      clear hu
      go_wp2
      go_ret
      exact ⟨rfl, bel2 hb1 hb2⟩
    · go_enter Try.func6, Try.ntmps6
      go_wp2_with (first | (go_at_call 13; refine (bytes13 s _ _ _ (by omega) _).mono ?_; rintro e w' ⟨rfl, rfl⟩))
      refine (zzwrite s true sc pl (by omega) (by omega) (by omega) (by omega) (by omega) _).mono ?_
      rintro e w1 ⟨t, rfl, ht, hb1⟩
      have b1 := Int.le_of_eq (size_pos 1 (s.size - sc) ht h0 hp h3 rfl (by omega))
      have b2 := Int.le_of_eq (size_pos 1 (s.size - sc) ht h0 hp h3 rfl (by omega)).symm
      have gb := get_bt t
      have g2 := point_of ht hp h3
      have g3 := minus_of ht
      have HT : Hid (t.data.toList = text s.data.toList true sc.toNat pl) := ht
      clear ht
      go_wp2_with fail
      refine (zzwrite _ _ _ _ ?_ (by omega) (by omega) (by omega) (by omega) _).mono ?_
      · exact size_snoc hs
      rintro e w2 ⟨u, rfl, hu, hb2⟩
      obtain rfl := more_eq_pos hu HT h0 hp h3
      clear hu
      go_wp2
      go_ret
      exact ⟨rfl, bel2 hb1 hb2⟩

set_option maxHeartbeats 1600000 in
theorem more_neg (s : ByteArray) (neg : Bool) (sc pl : Int) (hs : (s.size : Int) ≤ 65536) (h0 : 0 ≤ sc) (h1 : sc ≤ 65536) (hp : pl ≤ 0) (w : World) :
    Calls Try.prog 6 #[.string s, .bool neg, .int .i64 sc, .int .i64 pl] w fun e w' => e = .returned (.bool true) ∧ Below w.heap.size w w' := by
  cases neg
  · by_cases hi : (s.size : Int) - sc < 1
    · go_enter Try.func6, Try.ntmps6
      go_wp2_with (first | (go_at_call 13; refine (bytes13 s _ _ _ (by omega) _).mono ?_; rintro e w' ⟨rfl, rfl⟩))
      refine (zzwrite s false sc pl (by omega) (by omega) (by omega) (by omega) (by omega) _).mono ?_
      rintro e w1 ⟨t, rfl, ht, hb1⟩
      have b1 := Int.le_of_eq (size_neg 0 1 ht h0 (by omega) rfl (by omega))
      have b2 := Int.le_of_eq (size_neg 0 1 ht h0 (by omega) rfl (by omega)).symm
      have HT : Hid (t.data.toList = text s.data.toList false sc.toNat pl) := ht
      clear ht
      go_wp2_with fail
      refine (zzwrite _ _ _ _ ?_ (by omega) (by omega) (by omega) (by omega) _).mono ?_
      · exact size_snoc hs
      rintro e w2 ⟨u, rfl, hu, hb2⟩
      obtain rfl := more_eq_neg hu HT h0 (by omega)
      clear hu
      go_wp2
      go_ret
      exact ⟨rfl, bel2 hb1 hb2⟩
    · go_enter Try.func6, Try.ntmps6
      go_wp2_with (first | (go_at_call 13; refine (bytes13 s _ _ _ (by omega) _).mono ?_; rintro e w' ⟨rfl, rfl⟩))
      refine (zzwrite s false sc pl (by omega) (by omega) (by omega) (by omega) (by omega) _).mono ?_
      rintro e w1 ⟨t, rfl, ht, hb1⟩
      have b1 := Int.le_of_eq (size_neg 0 (s.size - sc) ht h0 (by omega) rfl (by omega))
      have b2 := Int.le_of_eq (size_neg 0 (s.size - sc) ht h0 (by omega) rfl (by omega)).symm
      have HT : Hid (t.data.toList = text s.data.toList false sc.toNat pl) := ht
      clear ht
      go_wp2_with fail
      refine (zzwrite _ _ _ _ ?_ (by omega) (by omega) (by omega) (by omega) _).mono ?_
      · exact size_snoc hs
      rintro e w2 ⟨u, rfl, hu, hb2⟩
      obtain rfl := more_eq_neg hu HT h0 (by omega)
      clear hu
      go_wp2
      go_ret
      exact ⟨rfl, bel2 hb1 hb2⟩
  · by_cases hi : (s.size : Int) - sc < 1
    · go_enter Try.func6, Try.ntmps6
      go_wp2_with (first | (go_at_call 13; refine (bytes13 s _ _ _ (by omega) _).mono ?_; rintro e w' ⟨rfl, rfl⟩))
      refine (zzwrite s true sc pl (by omega) (by omega) (by omega) (by omega) (by omega) _).mono ?_
      rintro e w1 ⟨t, rfl, ht, hb1⟩
      have b1 := Int.le_of_eq (size_neg 1 1 ht h0 (by omega) rfl (by omega))
      have b2 := Int.le_of_eq (size_neg 1 1 ht h0 (by omega) rfl (by omega)).symm
      have gb := get_bt t
      have g3 := minus_of ht
      have HT : Hid (t.data.toList = text s.data.toList true sc.toNat pl) := ht
      clear ht
      go_wp2_with fail
      refine (zzwrite _ _ _ _ ?_ (by omega) (by omega) (by omega) (by omega) _).mono ?_
      · exact size_snoc hs
      rintro e w2 ⟨u, rfl, hu, hb2⟩
      obtain rfl := more_eq_neg hu HT h0 (by omega)
      clear hu
      go_wp2
      go_ret
      exact ⟨rfl, bel2 hb1 hb2⟩
    · go_enter Try.func6, Try.ntmps6
      go_wp2_with (first | (go_at_call 13; refine (bytes13 s _ _ _ (by omega) _).mono ?_; rintro e w' ⟨rfl, rfl⟩))
      refine (zzwrite s true sc pl (by omega) (by omega) (by omega) (by omega) (by omega) _).mono ?_
      rintro e w1 ⟨t, rfl, ht, hb1⟩
      have b1 := Int.le_of_eq (size_neg 1 (s.size - sc) ht h0 (by omega) rfl (by omega))
      have b2 := Int.le_of_eq (size_neg 1 (s.size - sc) ht h0 (by omega) rfl (by omega)).symm
      have gb := get_bt t
      have g3 := minus_of ht
      have HT : Hid (t.data.toList = text s.data.toList true sc.toNat pl) := ht
      clear ht
      go_wp2_with fail
      refine (zzwrite _ _ _ _ ?_ (by omega) (by omega) (by omega) (by omega) _).mono ?_
      · exact size_snoc hs
      rintro e w2 ⟨u, rfl, hu, hb2⟩
      obtain rfl := more_eq_neg hu HT h0 (by omega)
      clear hu
      go_wp2
      go_ret
      exact ⟨rfl, bel2 hb1 hb2⟩
end Go.Proofs.Qxb6617157a.Txt
