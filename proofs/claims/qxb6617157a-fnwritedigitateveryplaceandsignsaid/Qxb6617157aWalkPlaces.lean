import Derived.Test.Qxb6617157aWalkWrite
import Derived.Test.Qxb6617157aPlainAt
import Derived.WalkKit
import Derived.ProofKit
import Derived.PlainAid
import Derived.Deep.QuietTactic
import Derived.BigQuiet
import Derived.WalkSmall
namespace Go.Proofs.Qxb6617157a.Txt
open Go.RowKit Go.PlainAid

theorem ret_u8 {a b : Int} (h : a = b) : Ending.returned (.int .u8 a) = .returned (.int .u8 b) := by rw [h]

set_option maxHeartbeats 400000 in
theorem digitAt (s : ByteArray) (sc e : Int) (hs : (s.size : Int) ≤ 65536) (h0 : 0 ≤ sc) (h1 : sc ≤ 65536) (he0 : -65536 ≤ e) (he1 : e ≤ 65536) (w : World) :
    Calls Try.prog 20 #[.string s, .int .i64 sc, .int .i64 e] w fun e' w' => e' = .returned (.int .u8 (dAt s (s.size - 1 - sc - e))) ∧ w' = w := by
  by_cases c1 : (s.size : Int) - 1 - sc - e < 0
  · have hd := dAt_lo s c1
    rw [hd]; clear hd
    go_enter Try.func20, Try.ntmps20
    go_wp2
    go_ret
    exact ⟨rfl, rfl⟩
  · by_cases c2 : (s.size : Int) ≤ (s.size : Int) - 1 - sc - e
    · have hd := dAt_hi s c2
      rw [hd]; clear hd
      go_enter Try.func20, Try.ntmps20
      go_wp2
      go_ret
      exact ⟨rfl, rfl⟩
    · have hd := dAt_in s (i := (s.size : Int) - 1 - sc - e) (by omega) (by omega)
      rw [hd]; clear hd
      go_enter Try.func20, Try.ntmps20
      go_wp2
      go_ret
      exact ⟨rfl, rfl⟩

theorem digitAt' (s : ByteArray) (sc e v : Int) (hs : (s.size : Int) ≤ 65536) (h0 : 0 ≤ sc) (h1 : sc ≤ 65536) (he0 : -65536 ≤ e) (he1 : e ≤ 65536) (i : Int) (hv : v = dAt s i) (hi : i = s.size - 1 - sc - e) (w : World) :
    Calls Try.prog 20 #[.string s, .int .i64 sc, .int .i64 e] w fun e' w' => e' = .returned (.int .u8 v) ∧ w' = w := by
  subst hi; subst hv
  exact digitAt s sc e hs h0 h1 he0 he1 w

set_option maxHeartbeats 1000000 in
theorem places_pos (t s : ByteArray) (sc pl I : Int) (hs : (s.size : Int) ≤ 65536) (h0 : 0 ≤ sc) (h1 : sc ≤ 65536) (h2 : pl ≤ 65536) (hp : 0 < pl) (h3 : sc ≤ pl)
    (hI : I = max ((s.size : Int) - sc) 1) (ht : t.data.toList = body s.data.toList sc.toNat pl) (w : World) :
    Calls Try.prog 12 #[.string t, .string s, .int .i64 sc, .int .i64 pl] w fun e w' => e = .returned (.bool true) ∧ Below w.heap.size w w' := by
  have i0 : 1 ≤ I := by omega
  have i1 : I ≤ 65536 := by omega
  have b0 : (t.size : Int) = I + 1 + pl := by
    have e := body_length_pos s.data.toList sc.toNat pl hp (by omega)
    rw [← ht, toList_length, toList_length] at e
    omega
  have b1 : (t.size : Int) ≤ I + 1 + pl := by omega
  have b2 : I + 1 + pl ≤ (t.size : Int) := by omega
  clear b0
  have f1 : ∀ n : Nat, (n : Int) < I → bt t n = dAt s (s.size - 1 - sc - (I - 1 - n)) := fun n hn => by
    have e := body_int s.data.toList sc.toNat pl n I (by rw [toList_length]; omega) hn
    rw [toList_length, show (sc.toNat : Int) = sc by omega] at e
    exact bt_of' ht e
  have f2 : bt t I.toNat = 46 := by
    have e := body_point s.data.toList sc.toNat pl hp
    rw [toList_length, show max (s.size - sc.toNat) 1 = I.toNat by omega] at e
    exact bt_of' ht e
  have f3 : ∀ n : Nat, 1 ≤ n → (n : Int) ≤ pl → bt t (I + n).toNat = dAt s (s.size - 1 - sc - (-(n : Int))) := fun n h1 hn => by
    have e := body_frac s.data.toList sc.toNat pl n I (by rw [toList_length]; omega) hp (by omega) h1 hn
    rw [toList_length, show (sc.toNat : Int) = sc by omega] at e
    exact bt_of' ht e
  have F1 : Hid (∀ n : Nat, (n : Int) < I → bt t n = dAt s (s.size - 1 - sc - (I - 1 - n))) := f1
  have F2 : Hid (bt t I.toNat = 46) := f2
  have F3 : Hid (∀ n : Nat, 1 ≤ n → (n : Int) ≤ pl → bt t (I + n).toNat = dAt s (s.size - 1 - sc - (-(n : Int)))) := f3
  clear f1 f2 f3 ht
  by_cases hi : (s.size : Int) - sc < 1
  · obtain rfl : I = 1 := by omega
    clear hI
    have n1 : ((t.size : Int) != 2 + pl) = false := by simp; omega
    have f2 : bt t 1 = 46 := F2.out
    have gb := get_bt t
    go_enter Try.func12, Try.ntmps12
    go_wp2_with fail
    go_loopw [11] (fun k wr => ∃ n : Nat, (n : Int) ≤ 1 ∧ k = .int .i64 n ∧ Below w.heap.size w wr) (fun k _ => 1 - (intOf k).toNat)
    case atStart => exact ⟨0, by omega, rfl, Below.refl _ _⟩
    case round =>
      obtain ⟨n, hn, rfl, hb⟩ := hrel
      by_cases hlt : (n : Int) < 1
      · have k0 : (0 : Int) ≤ (n : Int) := by omega
        have k1 : (n : Int) < (t.size : Int) := by omega
        go_wp2_with fail
        go_quiet ((go_at_call 20; exact Calls.quiet_of_same (digitAt' _ _ _ (bt t n) (by omega) (by omega) (by omega) (by omega) (by omega) _ (F1.out n hlt) (by omega) _)))
        go_wp2
        refine ⟨⟨n + 1, by omega, by go_num, below_drewN hb nq⟩, ?_⟩
        simp [intOf]; omega
      · go_wp2_with fail
        go_loopw [12] (fun k wr => ∃ m : Nat, 1 ≤ m ∧ (m : Int) ≤ pl + 1 ∧ k = .int .i64 m ∧ Below w.heap.size w wr) (fun k _ => (pl + 1).toNat - (intOf k).toNat)
        case atStart => exact ⟨1, by omega, by omega, rfl, hb⟩
        case round =>
          obtain ⟨m, hm1, hm2, rfl, hb'⟩ := hrel
          by_cases hlt' : (m : Int) ≤ pl
          · have k0 : (1 : Int) ≤ (m : Int) := by omega
            have k1 : 1 + (m : Int) < (t.size : Int) := by omega
            have k2 : 0 ≤ 1 + (m : Int) := by omega
            go_wp2_with fail
            go_quiet ((go_at_call 20; exact Calls.quiet_of_same (digitAt' _ _ _ (bt t (1 + (m : Int)).toNat) (by omega) (by omega) (by omega) (by omega) (by omega) _ (F3.out m hm1 hlt') (by omega) _)))
            go_wp2
            refine ⟨⟨m + 1, by omega, by omega, by go_num, below_drewN hb' nq⟩, ?_⟩
            simp [intOf]; omega
          · go_wp2
            go_ret
            exact ⟨rfl, hb'⟩
  · obtain rfl : I = (s.size : Int) - sc := by omega
    clear hI
    have n1 : ((t.size : Int) != (s.size : Int) - sc + 1 + pl) = false := by simp; omega
    have f2 : bt t ((s.size : Int) - sc).toNat = 46 := F2.out
    have gb := get_bt t
    go_enter Try.func12, Try.ntmps12
    go_wp2_with fail
    go_loopw [11] (fun k wr => ∃ n : Nat, (n : Int) ≤ ((s.size : Int) - sc) ∧ k = .int .i64 n ∧ Below w.heap.size w wr) (fun k _ => (((s.size : Int) - sc)).toNat - (intOf k).toNat)
    case atStart => exact ⟨0, by omega, rfl, Below.refl _ _⟩
    case round =>
      obtain ⟨n, hn, rfl, hb⟩ := hrel
      by_cases hlt : (n : Int) < ((s.size : Int) - sc)
      · have k0 : (0 : Int) ≤ (n : Int) := by omega
        have k1 : (n : Int) < (t.size : Int) := by omega
        go_wp2_with fail
        go_quiet ((go_at_call 20; exact Calls.quiet_of_same (digitAt' _ _ _ (bt t n) (by omega) (by omega) (by omega) (by omega) (by omega) _ (F1.out n hlt) (by omega) _)))
        go_wp2
        refine ⟨⟨n + 1, by omega, by go_num, below_drewN hb nq⟩, ?_⟩
        simp [intOf]; omega
      · go_wp2_with fail
        go_loopw [12] (fun k wr => ∃ m : Nat, 1 ≤ m ∧ (m : Int) ≤ pl + 1 ∧ k = .int .i64 m ∧ Below w.heap.size w wr) (fun k _ => (pl + 1).toNat - (intOf k).toNat)
        case atStart => exact ⟨1, by omega, by omega, rfl, hb⟩
        case round =>
          obtain ⟨m, hm1, hm2, rfl, hb'⟩ := hrel
          by_cases hlt' : (m : Int) ≤ pl
          · have k0 : (1 : Int) ≤ (m : Int) := by omega
            have k1 : ((s.size : Int) - sc) + (m : Int) < (t.size : Int) := by omega
            have k2 : 0 ≤ ((s.size : Int) - sc) + (m : Int) := by omega
            go_wp2_with fail
            go_quiet ((go_at_call 20; exact Calls.quiet_of_same (digitAt' _ _ _ (bt t (((s.size : Int) - sc) + (m : Int)).toNat) (by omega) (by omega) (by omega) (by omega) (by omega) _ (F3.out m hm1 hlt') (by omega) _)))
            go_wp2
            refine ⟨⟨m + 1, by omega, by omega, by go_num, below_drewN hb' nq⟩, ?_⟩
            simp [intOf]; omega
          · go_wp2
            go_ret
            exact ⟨rfl, hb'⟩

set_option maxHeartbeats 1000000 in
theorem places_neg (t s : ByteArray) (sc pl I : Int) (hs : (s.size : Int) ≤ 65536) (h0 : 0 ≤ sc) (h1 : sc ≤ 65536) (hp : pl ≤ 0)
    (hI : I = max ((s.size : Int) - sc) 1) (ht : t.data.toList = body s.data.toList sc.toNat pl) (w : World) :
    Calls Try.prog 12 #[.string t, .string s, .int .i64 sc, .int .i64 pl] w fun e w' => e = .returned (.bool true) ∧ Below w.heap.size w w' := by
  have i0 : 1 ≤ I := by omega
  have i1 : I ≤ 65536 := by omega
  have b0 : (t.size : Int) = I := by
    have e := body_length_neg s.data.toList sc.toNat pl (by omega)
    rw [← ht, toList_length, toList_length] at e
    omega
  have b1 : (t.size : Int) ≤ I := by omega
  have b2 : I ≤ (t.size : Int) := by omega
  clear b0
  have f1 : ∀ n : Nat, (n : Int) < I → bt t n = dAt s (s.size - 1 - sc - (I - 1 - n)) := fun n hn => by
    have e := body_int s.data.toList sc.toNat pl n I (by rw [toList_length]; omega) hn
    rw [toList_length, show (sc.toNat : Int) = sc by omega] at e
    exact bt_of' ht e
  have F1 : Hid (∀ n : Nat, (n : Int) < I → bt t n = dAt s (s.size - 1 - sc - (I - 1 - n))) := f1
  clear f1 ht
  by_cases hi : (s.size : Int) - sc < 1
  · obtain rfl : I = 1 := by omega
    clear hI
    have n1 : ((t.size : Int) != 1) = false := by simp; omega
    have gb := get_bt t
    go_enter Try.func12, Try.ntmps12
    go_wp2_with fail
    go_loopw [11] (fun k wr => ∃ n : Nat, (n : Int) ≤ 1 ∧ k = .int .i64 n ∧ Below w.heap.size w wr) (fun k _ => (1 : Int).toNat - (intOf k).toNat)
    case atStart => exact ⟨0, by omega, rfl, Below.refl _ _⟩
    case round =>
      obtain ⟨n, hn, rfl, hb⟩ := hrel
      by_cases hlt : (n : Int) < 1
      · have k0 : (0 : Int) ≤ (n : Int) := by omega
        have k1 : (n : Int) < (t.size : Int) := by omega
        go_wp2_with fail
        go_quiet ((go_at_call 20; exact Calls.quiet_of_same (digitAt' _ _ _ (bt t n) (by omega) (by omega) (by omega) (by omega) (by omega) _ (F1.out n hlt) (by omega) _)))
        go_wp2
        refine ⟨⟨n + 1, by omega, by go_num, below_drewN hb nq⟩, ?_⟩
        simp [intOf]; omega
      · go_wp2
        go_ret
        exact ⟨rfl, hb⟩
  · obtain rfl : I = (s.size : Int) - sc := by omega
    clear hI
    have n1 : ((t.size : Int) != (s.size : Int) - sc) = false := by simp; omega
    have gb := get_bt t
    go_enter Try.func12, Try.ntmps12
    go_wp2_with fail
    go_loopw [11] (fun k wr => ∃ n : Nat, (n : Int) ≤ ((s.size : Int) - sc) ∧ k = .int .i64 n ∧ Below w.heap.size w wr) (fun k _ => (((s.size : Int) - sc) : Int).toNat - (intOf k).toNat)
    case atStart => exact ⟨0, by omega, rfl, Below.refl _ _⟩
    case round =>
      obtain ⟨n, hn, rfl, hb⟩ := hrel
      by_cases hlt : (n : Int) < ((s.size : Int) - sc)
      · have k0 : (0 : Int) ≤ (n : Int) := by omega
        have k1 : (n : Int) < (t.size : Int) := by omega
        go_wp2_with fail
        go_quiet ((go_at_call 20; exact Calls.quiet_of_same (digitAt' _ _ _ (bt t n) (by omega) (by omega) (by omega) (by omega) (by omega) _ (F1.out n hlt) (by omega) _)))
        go_wp2
        refine ⟨⟨n + 1, by omega, by go_num, below_drewN hb nq⟩, ?_⟩
        simp [intOf]; omega
      · go_wp2
        go_ret
        exact ⟨rfl, hb⟩

theorem places (t s : ByteArray) (sc pl : Int) (hs : (s.size : Int) ≤ 65536) (h0 : 0 ≤ sc) (h1 : sc ≤ 65536) (h2 : pl ≤ 65536) (h3 : pl ≤ 0 ∨ sc ≤ pl)
    (ht : t.data.toList = body s.data.toList sc.toNat pl) (w : World) :
    Calls Try.prog 12 #[.string t, .string s, .int .i64 sc, .int .i64 pl] w fun e w' => e = .returned (.bool true) ∧ Below w.heap.size w w' := by
  by_cases hp : 0 < pl
  · exact places_pos t s sc pl _ hs h0 h1 h2 hp (by omega) rfl ht w
  · exact places_neg t s sc pl _ hs h0 h1 (by omega) rfl ht w
end Go.Proofs.Qxb6617157a.Txt
