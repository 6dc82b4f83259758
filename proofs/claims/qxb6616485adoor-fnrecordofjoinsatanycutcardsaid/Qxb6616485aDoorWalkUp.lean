import Derived.Test.Qxb6616485aDoorWalkHolds
import Derived.Test.Qxb6616485aDoorWalkCopy
import Derived.WalkSpells
namespace Go.Proofs.Qxb6616485aDoor.Wk
open Go.RowKit Go.PlainAid En

theorem Strs.up {w w' : World} {a : Option Addr} {n : Nat} {S : Nat → ByteArray} (h : Strs w a n S) (hb : Below w.heap.size w w') : Strs w' a n S := fun i hi => by
  obtain ⟨b, off, ha, hc, hs⟩ := h i hi
  exact ⟨b, off, ha, cell_up hb hc, hs⟩
theorem Bools.up {w w' : World} {a : Option Addr} {n : Nat} {T : Nat → Bool} (h : Bools w a n T) (hb : Below w.heap.size w w') : Bools w' a n T := fun i hi => by
  obtain ⟨b, off, ha, hc⟩ := h i hi
  exact ⟨b, off, ha, cell_up hb hc⟩
theorem Ints.up {w w' : World} {a : Option Addr} {n : Nat} {N : Nat → Int} (h : Ints w a n N) (hb : Below w.heap.size w w') : Ints w' a n N := fun i hi => by
  obtain ⟨b, off, ha, hc, h0, h1⟩ := h i hi
  exact ⟨b, off, ha, cell_up hb hc, h0, h1⟩
theorem owns_up {w w' : World} {B e size n cap g : Nat} {xs : List Value} (h : w.ownsRow B e size (.slice (some ⟨g, 0, none⟩) n cap) n xs) (hb : Below w.heap.size w w') : w'.ownsRow B e size (.slice (some ⟨g, 0, none⟩) n cap) n xs := by
  have hg := (h.lt g rfl).2
  refine ⟨h.1, ?_⟩
  rcases h.2 with h' | ⟨g', cap', cur, h', hB, hh, r⟩
  · exact .inl h'
  · simp only [Value.slice.injEq, Option.some.injEq, Addr.mk.injEq, and_true, true_and] at h'
    obtain ⟨rfl, rfl⟩ := h'
    exact .inr ⟨g, cap, cur, rfl, hB, (hb.block g hg).trans hh, r⟩
theorem recAt_of {w : World} {B g n cap fr : Nat} {T : Nat → Bool} {N : Nat → Int} {S : Nat → ByteArray} (h : w.ownsRow B 37 3 (.slice (some ⟨g, 0, none⟩) n cap) n (rcells T N S fr n)) : RecAt w (.slice (some ⟨g, 0, none⟩) n cap) T N S fr n :=
  ⟨_, _, rfl, fun j hj => ⟨g, rfl, (h.cellAt _ (by omega)).trans (rcells_get T N S fr j 0 (by omega) n hj), (h.cellAt _ (by omega)).trans (rcells_get T N S fr j 1 (by omega) n hj), (h.cellAt _ (by omega)).trans (rcells_get T N S fr j 2 (by omega) n hj)⟩⟩
theorem RecAt.up {w w' : World} {v : Value} {T : Nat → Bool} {N : Nat → Int} {S : Nat → ByteArray} {fr n : Nat} (h : RecAt w v T N S fr n) (hb : Below w.heap.size w w') : RecAt w' v T N S fr n := by
  obtain ⟨a, cap, hv, hc⟩ := h
  refine ⟨a, cap, hv, fun j hj => ?_⟩
  obtain ⟨g, ha, h0, h1, h2⟩ := hc j hj
  have hg : g < w.heap.size := by
    cases ht : T (fr + j)
    · rw [vcells_int ht] at h0; exact World.block_lt_of_cell? w ⟨g, j * 3, none⟩ h0
    · rw [vcells_text ht] at h0; exact World.block_lt_of_cell? w ⟨g, j * 3, none⟩ h0
  exact ⟨g, ha, (hb.cell (p := ⟨g, j * 3, none⟩) hg).trans h0, (hb.cell (p := ⟨g, j * 3 + 1, none⟩) hg).trans h1, (hb.cell (p := ⟨g, j * 3 + 2, none⟩) hg).trans h2⟩

set_option maxHeartbeats 400000 in
theorem copy_zero (a : Addr) (c : Nat) (w : World) :
    Calls Tryd.prog 8 #[.slice (some a) 0 c] w fun e w' => ∃ a' c', e = .returned (.slice a' 0 c') ∧ Below w.heap.size w w' := by
  obtain ⟨i0, hi, hz0, hz1, hz2⟩ := info_parts info9
  have hne := fun w => Lib.run_eql_slice_nil (P := Tryd.prog) w 22 9 (some a) 0 c 0 0 Tryd.underlying22
  go_enter Tryd.func8, Tryd.ntmps8
  go_wp2_with (first
    | (at_make; refine wpList_make_full _ rfl _ _ 22 rfl w.heap.size 9 i0 (.string ⟨#[]⟩) 1 Tryd.underlying22 hi hz0 hz1 .i64 .i64 _ _ 0 rfl rfl rfl rfl (by omega) (by unfold maxLen; omega) (Nat.le_refl _) ?_; intro w0 hown0 hgrow0))
  refine wp_loop_rounds 1 ?_
  rw [rounds_succ]
  go_wp2
  go_ret
  exact ⟨_, _, rfl, (Below.refl _ _).grown hgrow0 (Nat.le_refl _) (fun k h => by cases h)⟩

theorem copy_any (fa : Option Addr) (n c : Nat) (F : Nat → ByteArray) (w : World) (hn : n ≤ 65536) (hnil : fa = none → n = 0 ∧ c = 0) (hF : Strs w fa n F) :
    Calls Tryd.prog 8 #[.slice fa n c] w fun e w' => ∃ a' c', e = .returned (.slice a' n c') ∧ Below w.heap.size w w' := by
  cases fa with
  | none =>
    obtain ⟨rfl, rfl⟩ := hnil rfl
    refine (copy_nil w).mono ?_
    rintro e w' ⟨he, hw⟩
    exact ⟨_, _, he, hw ▸ Below.refl _ _⟩
  | some a =>
    by_cases h0 : n = 0
    · subst h0; exact copy_zero a c w
    · obtain ⟨b, off, ha, _⟩ := hF 0 (by omega)
      simp only [Option.some.injEq] at ha
      subst ha
      refine copy_some b off n c F w hn fun i hi => ?_
      obtain ⟨b', off', ha', hc, _⟩ := hF i hi
      simp only [Option.some.injEq, Addr.mk.injEq, and_true] at ha'
      obtain ⟨rfl, rfl⟩ := ha'
      exact hc

theorem encode (ta : Option Addr) (tn tc : Nat) (T : Nat → Bool) (na : Option Addr) (nn nc : Nat) (N : Nat → Int) (sa : Option Addr) (sn sc : Nat) (S : Nat → ByteArray) (f0 t0 : Int) (fr tt : Nat) (w : World)
    (hT : Bools w ta tn T) (hN : Ints w na nn N) (hS : Strs w sa sn S) (hf : f0 = (fr : Int)) (ht : t0 = (tt : Int)) (h0 : fr ≤ tt) (h1 : tt ≤ tn) (h2 : tt ≤ nn) (h3 : tt ≤ sn) (h4 : tt ≤ 65536) (hM : ∀ i, i < sn → (S i).size ≤ 1048576) :
    Calls Tryd.prog 9 #[.slice ta tn tc, .slice na nn nc, .slice sa sn sc, .int .i64 f0, .int .i64 t0] w fun e w' => ∃ E : ByteArray, e = .returned (.string E) ∧ Hid (E.data.toList = encs T N S fr (tt - fr)) ∧ (E.size : Int) ≤ 70000000000 ∧ Below w.heap.size w w' := by
  refine (encode9 ta tn tc T na nn nc N sa sn sc S f0 t0 fr tt w hT hN hS hf ht h0 h1 h2 h3 h4 hM).mono ?_
  rintro e w' ⟨he, hb⟩
  refine ⟨_, he, rfl, ?_, hb⟩
  have hl := encs_length T N S fr 1048576 (tt - fr) (fun i hi => hM _ (by omega))
  have hs : (⟨(encs T N S fr (tt - fr)).toArray⟩ : ByteArray).size = (encs T N S fr (tt - fr)).length := by
    show (encs T N S fr (tt - fr)).toArray.size = _
    simp
  rw [hs]
  omega

/-- What the row holds behind its key. -/
theorem behind_key (key E : ByteArray) : (key ++ E).extract key.size (key ++ E).size = E := by
  apply ext_list
  rw [toList_extract, toList_append, List.take_of_length_le (by rw [← toList_append, ← size_of (r := key ++ E) rfl]; exact Nat.le_refl _), size_of (r := key) rfl, List.drop_left]
theorem enc_ne (T : Nat → Bool) (N : Nat → Int) (S : Nat → ByteArray) (fr : Nat) : ∀ n, encs T N S fr n ≠ [0]
  | 0 => by simp [encs]
  | 1 => by
    show [] ++ enc T N S (fr + 0) ≠ [0]
    cases h : T (fr + 0)
    · rw [enc_int h]; simp
    · rw [enc_text h]; simp
  | n + 2 => by
    intro e
    have hl : ∀ i, 2 ≤ (enc T N S i).length := fun i => by
      cases h : T i
      · rw [enc_int h, List.length_cons, le_length]; omega
      · rw [enc_text h, List.length_cons, List.length_append]
        have : 1 ≤ (uvar (S i).size).length := by unfold uvar uvarF; split <;> simp
        omega
    have h2 := congrArg List.length e
    rw [encs, List.length_append] at h2
    have := hl (fr + (n + 1))
    simp at h2
    omega
theorem not_removal {E : ByteArray} {T : Nat → Bool} {N : Nat → Int} {S : Nat → ByteArray} {fr n : Nat} (h : E.data.toList = encs T N S fr n) (key : ByteArray) : (((key ++ E).extract key.size (key ++ E).size).toList == [0]) = false := by
  rw [behind_key, ByteArray.toList_eq, h]
  exact beq_eq_false_iff_ne.2 (enc_ne T N S fr n)
theorem key_le (key E : ByteArray) : (key.size : Int) ≤ ((key ++ E).size : Int) := by
  rw [ByteArray.size_append']; omega
end Go.Proofs.Qxb6616485aDoor.Wk
