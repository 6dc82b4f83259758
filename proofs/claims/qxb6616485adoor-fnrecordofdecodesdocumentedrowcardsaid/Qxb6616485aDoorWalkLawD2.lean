import Derived.Test.Qxb6616485aDoorWalkUp
import Derived.WalkSpells
import Derived.Deep.QuietTactic
import Derived.BigQuiet
import Derived.WalkSmall
import Derived.LaidEqlPtr
namespace Go.Proofs.Qxb6616485aDoor.Wk
open Go.RowKit Go.PlainAid En

theorem size_le_sum (S : Nat → ByteArray) (i : Nat) : ∀ n, i < n → (S i).size ≤ sumS S n
  | 0, h => by omega
  | n + 1, h => by
    rw [sumS]
    by_cases hi : i < n
    · have := size_le_sum S i n hi; omega
    · obtain rfl : i = n := by omega
      omega
theorem below_w3 (w : World) (tn key row : ByteArray) : Below w.heap.size w (w3 w tn key row) := by
  unfold w3
  exact ((((Below.refl _ _).alloc (Nat.le_refl _) _).alloc (by simp) _).alloc (by simp; omega) _)

theorem row_heap {w : World} {B g n cap : Nat} {xs : List Value} (h : w.ownsRow B 37 3 (.slice (some ⟨g, 0, none⟩) n cap) n xs) : ∃ c, w.heap[g]? = some (.cells c 37 (0, 0)) := by
  rcases h.2 with ⟨h', _⟩ | ⟨g', cap', cur, h', hB, hh, r⟩
  · simp at h'
  · simp only [Value.slice.injEq, Option.some.injEq, Addr.mk.injEq, and_true, true_and] at h'
    obtain ⟨rfl, rfl⟩ := h'
    exact ⟨cur, hh⟩

/-- What decode hands back, and what it leaves of the world. -/
def DecR (B g n cap : Nat) (T : Nat → Bool) (N : Nat → Int) (S : Nat → ByteArray) (fr : Nat) (W : World) (v : Value) (w' : World) : Prop :=
  v = .slice (some ⟨g, 0, none⟩) n cap ∧ w'.ownsRow B 37 3 (.slice (some ⟨g, 0, none⟩) n cap) n (rcells T N S fr n) ∧ Below B W w'

set_option maxHeartbeats 4000000 in
theorem decLaw_main (tb key : ByteArray) (fa : Option Addr) (n fc : Nat) (F : Nat → ByteArray) (ta : Option Addr) (tc : Nat) (T : Nat → Bool) (na : Option Addr) (nc : Nat) (N : Nat → Int) (sa : Option Addr) (sc : Nat) (S : Nat → ByteArray) (d : Nat) (w : World)
    (hF : Strs w fa n F) (hT : Bools w ta n T) (hN : Ints w na n N) (hS : Strs w sa n S) (hnil : fa = none → n = 0 ∧ fc = 0) (l1 : tb.size ≤ 9223372036854775807) (l2 : key.size ≤ 9223372036854775807) (l3 : n ≤ 9223372036854775807) (hd : d ≤ 65536) :
    Calls Tryd.prog 4 #[.string tb, .string key, .slice fa n fc, .slice ta n tc, .slice na n nc, .slice sa n sc, .int .i64 d] w fun e w' => e = .returned (.bool true) ∧ Below w.heap.size w w' := by
  have hb12 := bytes12 tb key fa n fc F ta n tc na n nc sa n sc S d w hF hS l1 l2 l3 l3 l3 l3
  have hb6 := tooBig6 tb key fa n fc F ta n tc na n nc sa n sc S w hF hS l1 l2 l3 l3 l3 l3
  obtain ⟨i0, hi, hz0, hz1, hz2⟩ := info_parts info37
  have d0 : (0 : Int) ≤ (d : Int) := by omega
  have d1 : (d : Int) ≤ 65536 := by omega
  go_enter Tryd.func4, Tryd.ntmps4
  go_wp2_with fail
  refine hb12.mono ?_
  rintro e w1 ⟨⟨r, rfl⟩, hw⟩
  rw [hw]
  clear hw hb12
  cases r
  · go_wp2
    go_ret
    exact ⟨rfl, Below.refl _ _⟩
  go_wp2_with fail
  all_goals try (go_ret; exact ⟨rfl, Below.refl _ _⟩)
  refine hb6.mono ?_
  rintro e w2 ⟨h, hw⟩
  rw [hw]
  clear hw hb6
  rcases h with rfl | ⟨rfl, hsm⟩
  · go_wp2
    go_ret
    exact ⟨rfl, Below.refl _ _⟩
  obtain ⟨k1, k2, _, _, _, k6⟩ := hsm
  have hM : Hid (∀ i, i < n → (S i).size ≤ 1048576) := fun i hi => Nat.le_trans (size_le_sum S i n hi) k6
  have hNb : Hid (∀ i, i < n → -9223372036854775808 ≤ N (0 + i) ∧ N (0 + i) ≤ 9223372036854775807) := fun i hi => by
    obtain ⟨_, _, _, _, h0, h1⟩ := hN i hi
    rw [Nat.zero_add]; exact ⟨h0, h1⟩
  go_wp2_with fail
  refine (copy_any fa n fc F _ k2 hnil hF).mono ?_
  rintro e wa ⟨a', c', rfl, hba⟩
  go_wp2_with fail
  refine (newTable_any _ _ _ _).mono ?_
  rintro e wb ⟨rfl, hw⟩
  have hbb : Below wa.heap.size wa wb := by rw [hw]; exact (Below.refl _ _).alloc (Nat.le_refl _) _
  have htb : wb.cell? ⟨wa.heap.size, 0, none⟩ = some (.slice a' n c') := by rw [hw]; simp
  clear hw
  have hb0b : Below w.heap.size w wb := bel_up hba hbb
  generalize wa.heap.size = tbk at *
  go_wp2_with (at_make; refine wpList_make_full _ rfl _ _ 32 rfl wb.heap.size 37 i0 _ 3 Tryd.underlying32 hi hz0 hz1 .i64 .i64 _ _ d rfl rfl rfl rfl (by rw [hz2]; omega) (by unfold maxLen; omega) (Nat.le_refl _) ?_; intro wc hownc hgrowc)
  have hbc : Below wb.heap.size wb wc := (Below.refl _ _).grown hgrowc (Nat.le_refl _) (fun k h => by cases h)
  have hb0c : Below w.heap.size w wc := bel_up hb0b hbc
  have htc : wc.cell? ⟨tbk, 0, none⟩ = some (.slice a' n c') := cell_up hbc htb
  have htg : tbk < wb.heap.size := World.block_lt_of_cell? _ _ htb
  have hwg : w.heap.size ≤ wb.heap.size := hb0b.size
  clear hbc hgrowc htb hba hbb
  generalize wb.heap.size = g at *
  refine (encode ta n tc T na n nc N sa n sc S _ _ 0 n _ (hT.up hb0c) (hN.up hb0c) (hS.up hb0c) rfl rfl (by omega) (by omega) (by omega) (by omega) k2 (fun i hi => hM.out i hi)).mono ?_
  rintro e wd ⟨E, rfl, hE, hEs, hbd⟩
  rw [Nat.sub_zero] at hE
  have hk1 : (key.size : Int) ≤ 1048576 := by omega
  go_wp2_with fail
  have hbW : Below wc.heap.size wc (w3 wd tb key (key ++ E)) := bel_up hbd (below_w3 _ _ _ _)
  have hb0W : Below w.heap.size w (w3 wd tb key (key ++ E)) := bel_up hb0c hbW
  have htW := cell_up hbW htc
  have hoW := owns_up hownc hbW
  have hgW : g < (w3 wd tb key (key ++ E)).heap.size := (hoW.lt g rfl).2
  by_cases hr : n ≤ d
  · have hdec : Calls Tryd.prog 19 #[.pointer (some ⟨tbk, 0, none⟩), .slice (some ⟨g, 0, none⟩) d d, .string ((key ++ E).extract key.size (key ++ E).size)] (w3 wd tb key (key ++ E)) fun e w' => ∃ v, e = .returned v ∧ DecR g g n d T N S 0 (w3 wd tb key (key ++ E)) v w' := by
      rw [behind_key]
      exact (decode_room T N S 0 g tbk a' n c' g d _ E _ htW hoW hr k2 hE (fun i hi => by rw [Nat.zero_add]; exact hM i hi) hNb).mono fun e w' ⟨he, h1, h2⟩ => ⟨_, he, rfl, h1, h2⟩
    refine (record10 _ _ tb key (key ++ E) wd _ (key_le key E) (not_removal hE key) hdec).mono ?_
    rintro e we ⟨v, rfl, rfl, hoe, hbe⟩
    have hb0e : Below w.heap.size w we := hb0W.trans (hbe.mono hwg)
    go_wp2_with fail
    refine (holds11 T N S _ d ta n tc na n nc sa n sc n _ (recAt_of hoe) (hT.up hb0e) (hN.up hb0e) (hS.up hb0e) (Nat.le_refl n) (Nat.le_refl n) (Nat.le_refl n) k2 (fun i hi => hM.out i hi)).mono ?_
    rintro e wf ⟨rfl, hbf⟩
    have hfin := bel_up hb0e hbf
    clear hdec hoe hbe hb0e hbf hoW htW hb0W hbW hbd hownc htc hb0c hb0b hT hN hS hF
    by_cases hn0 : 0 < n
    · have hn0' : (0 : Int) < (n : Int) := by omega
      have hd0' : (0 : Int) < (d : Int) := by omega
      have hge : (n : Int) ≤ (d : Int) := by omega
      have hpe := fun w => run_eql_ptr_same (P := Tryd.prog) w ⟨g, 0, none⟩ Tryd.underlying41 hi
      go_wp2_with fail
      go_quiet (fail)
      go_wp2
      go_ret
      exact ⟨rfl, below_drewN hfin nq⟩
    · have hn0' : ¬ (0 : Int) < (n : Int) := by omega
      go_wp2
      go_ret
      exact ⟨rfl, hfin⟩
  · have hdec : Calls Tryd.prog 19 #[.pointer (some ⟨tbk, 0, none⟩), .slice (some ⟨g, 0, none⟩) d d, .string ((key ++ E).extract key.size (key ++ E).size)] (w3 wd tb key (key ++ E)) fun e w' => ∃ v, e = .returned v ∧ DecR (w3 wd tb key (key ++ E)).heap.size (w3 wd tb key (key ++ E)).heap.size n n T N S 0 (w3 wd tb key (key ++ E)) v w' := by
      rw [behind_key]
      exact (decode_small T N S 0 tbk a' n c' _ g d (by omega) E _ rfl htW k2 hE (fun i hi => by rw [Nat.zero_add]; exact hM i hi) hNb).mono fun e w' ⟨he, h1, h2⟩ => ⟨_, he, rfl, h1, h2⟩
    refine (record10 _ _ tb key (key ++ E) wd _ (key_le key E) (not_removal hE key) hdec).mono ?_
    rintro e we ⟨v, rfl, rfl, hoe, hbe⟩
    have hb0e : Below w.heap.size w we := bel_up hb0W hbe
    have hoe2 := owns_up hoW hbe
    clear hdec
    have hne : Hid ((w3 wd tb key (key ++ E)).heap.size ≠ g) := by show _ ≠ _; omega
    generalize (w3 wd tb key (key ++ E)).heap.size = g2 at *
    go_wp2_with fail
    refine (holds11 T N S _ n ta n tc na n nc sa n sc n _ (recAt_of hoe) (hT.up hb0e) (hN.up hb0e) (hS.up hb0e) (Nat.le_refl n) (Nat.le_refl n) (Nat.le_refl n) k2 (fun i hi => hM.out i hi)).mono ?_
    rintro e wf ⟨rfl, hbf⟩
    have hfin := bel_up hb0e hbf
    have hf1 := owns_up hoe hbf
    have hf2 := owns_up hoe2 hbf
    obtain ⟨c1, hh1⟩ := row_heap hf1
    obtain ⟨c2, hh2⟩ := row_heap hf2
    have hpe : ∀ m, (binOp .eql 41 (.pointer (some ⟨g2, 0, none⟩)) (.pointer (some ⟨g, 0, none⟩))).run Tryd.prog (wf.drewN m) = .ok (.bool false) (wf.drewN m) := fun m =>
      run_eql_ptr_other (P := Tryd.prog) (wf.drewN m) Tryd.underlying41 hi (by rw [hz1]; decide) (fun e => hne.out (by simpa using congrArg Addr.block e)) (show (wf.drewN m).heap[g2]? = _ from hh1) (show (wf.drewN m).heap[g]? = _ from hh2)
    clear hoe hbe hb0e hbf hoW htW hb0W hbd hownc htc hb0c hb0b hT hN hS hF hh1 hh2 hf1 hf2 hoe2
    by_cases hd0 : 0 < d
    · have hn0' : (0 : Int) < (n : Int) := by omega
      have hd0' : (0 : Int) < (d : Int) := by omega
      have hge : decide ((n : Int) ≤ (d : Int)) = false := decide_eq_false (by omega)
      go_wp2_with fail
      go_quiet (fail)
      go_wp2
      go_ret
      exact ⟨rfl, below_drewN hfin nq⟩
    · have hn0' : (0 : Int) < (n : Int) := by omega
      have hd0' : ¬ (0 : Int) < (d : Int) := by omega
      go_wp2
      go_ret
      exact ⟨rfl, hfin⟩
end Go.Proofs.Qxb6616485aDoor.Wk
