import Derived.Test.Qxb6616485aDoorWalkRec
import Derived.WalkSpells
import Derived.Deep.RegionWith
import Derived.Deep.RegionHeld
import Derived.Deep.DrawnRows
attribute [local go_sem ↓] Go.wp_at_zero Go.wp_at_succ
attribute [local go_sem] Go.World.cell?_alloc_some
namespace Go.Proofs.Qxb6616485aDoor.Wk
open Go.RowKit Go.PlainAid En

theorem rcells_length (T : Nat → Bool) (N : Nat → Int) (S : Nat → ByteArray) (fr : Nat) : ∀ k, (rcells T N S fr k).length = k * 3
  | 0 => rfl
  | k + 1 => by
    rw [rcells, List.length_append, rcells_length T N S fr k, Nat.succ_mul]
    cases h : T (fr + k)
    · rw [vcells_int h]; rfl
    · rw [vcells_text h]; rfl
theorem rcells_get (T : Nat → Bool) (N : Nat → Int) (S : Nat → ByteArray) (fr j c : Nat) (hc : c < 3) : ∀ k, j < k → (rcells T N S fr k)[j * 3 + c]? = (vcells T N S (fr + j))[c]?
  | 0, h => by omega
  | k + 1, h => by
    have hl := rcells_length T N S fr k
    rw [rcells]
    by_cases hj : j < k
    · rw [List.getElem?_append_left (by omega)]
      exact rcells_get T N S fr j c hc k hj
    · obtain rfl : j = k := by omega
      rw [List.getElem?_append_right (by omega), hl, show j * 3 + c - j * 3 = c by omega]

theorem cell_up {W w1 : World} {a : Addr} {v : Value} (hb : Below W.heap.size W w1) (h : W.cell? a = some v) : w1.cell? a = some v := (hb.cell (World.block_lt_of_cell? _ _ h)).trans h
theorem cell_alloc {W : World} {a : Addr} {v : Value} {o : Obj} (h : W.cell? a = some v) : (W.alloc o).cell? a = some v := (World.cell?_alloc_some W a o (by rw [h]; rfl)).trans h
theorem cell_drew {W : World} {a : Addr} {v : Value} (h : W.cell? a = some v) : W.drew.cell? a = some v := h

theorem bel_up {w W w1 : World} (h : Below w.heap.size w W) (h1 : Below W.heap.size W w1) : Below w.heap.size w w1 := h.trans (h1.mono h.size)
theorem bel_alloc {w W : World} {o : Obj} (h : Below w.heap.size w W) : Below w.heap.size w (W.alloc o) := h.alloc h.size _

/-- A record of n Values in memory. -/
def RecAt (w : World) (v : Value) (T : Nat → Bool) (N : Nat → Int) (S : Nat → ByteArray) (fr n : Nat) : Prop :=
  ∃ a cap, v = .slice a n cap ∧ ∀ j, j < n → ∃ g, a = some ⟨g, 0, none⟩ ∧ w.cell? ⟨g, j * 3, none⟩ = (vcells T N S (fr + j))[0]? ∧ w.cell? ⟨g, j * 3 + 1, none⟩ = (vcells T N S (fr + j))[1]? ∧ w.cell? ⟨g, j * 3 + 2, none⟩ = (vcells T N S (fr + j))[2]?

set_option maxRecDepth 100000 in
set_option maxHeartbeats 2000000 in
theorem holds11 (T : Nat → Bool) (N : Nat → Int) (S : Nat → ByteArray) (ra : Option Addr) (rc : Nat) (ta : Option Addr) (tn tc : Nat) (na : Option Addr) (nn nc : Nat) (sa : Option Addr) (sn sc : Nat) (n : Nat) (w : World)
    (hR : RecAt w (.slice ra n rc) T N S 0 n) (hT : Bools w ta tn T) (hN : Ints w na nn N) (hS : Strs w sa sn S) (h1 : n ≤ tn) (h2 : n ≤ nn) (h3 : n ≤ sn) (h6 : n ≤ 65536) (hM : ∀ i, i < n → (S i).size ≤ 1048576) :
    Calls Tryd.prog 11 #[.slice ra n rc, .slice ta tn tc, .slice na nn nc, .slice sa sn sc, .int .i64 0, .int .i64 n] w fun e w' => e = .returned (.bool true) ∧ Below w.heap.size w w' := by
  obtain ⟨ra', rc', hv, hcells⟩ := hR
  simp only [Value.slice.injEq, true_and] at hv
  obtain ⟨rfl, rfl⟩ := hv
  go_enter Tryd.func11, Tryd.ntmps11
  go_wp2_with fail
  go_loopw [13] (fun i wr => ∃ k : Nat, k ≤ n ∧ i = .int .i64 k ∧ Below w.heap.size w wr) (fun i _ => n - (intOf i).toNat)
  case atStart => exact ⟨0, by omega, rfl, Below.refl _ _⟩
  case round =>
    obtain ⟨k, hk, rfl, hb⟩ := hrel
    by_cases hlt : k < n
    · obtain ⟨g, rfl, r0, r1, r2⟩ := hcells k hlt
      obtain ⟨tb, toff, rfl, hcT⟩ := hT k (by omega)
      have htb := World.block_lt_of_cell? _ _ hcT
      have hcT' : wr.cell? ⟨tb, toff + k, none⟩ = some (.bool (T k)) := (hb.cell htb).trans hcT
      rw [Nat.zero_add] at r0 r1 r2
      cases hTk : T k
      · rw [vcells_int hTk] at r0 r1 r2
        have hgw := World.block_lt_of_cell? w ⟨g, k * 3, none⟩ r0
        have r0' : wr.cell? ⟨g, k * 3, none⟩ = some (.int .u8 1) := (hb.cell (p := ⟨g, k * 3, none⟩) hgw).trans r0
        have r1' : wr.cell? ⟨g, k * 3 + 1, none⟩ = some (.int .i64 (N k)) := (hb.cell (p := ⟨g, k * 3 + 1, none⟩) hgw).trans r1
        have r2' : wr.cell? ⟨g, k * 3 + 2, none⟩ = some (.string ⟨#[]⟩) := (hb.cell (p := ⟨g, k * 3 + 2, none⟩) hgw).trans r2
        rw [hTk] at hcT'
        obtain ⟨nb, noff, rfl, hcN, _, _⟩ := hN k (by omega)
        have hnb := World.block_lt_of_cell? _ _ hcN
        have hcN' : wr.cell? ⟨nb, noff + k, none⟩ = some (.int .i64 (N k)) := (hb.cell hnb).trans hcN
        have hA1 := fun o1 => cell_alloc (o := o1) hcN'
        have hA2 := fun o1 o2 => cell_alloc (o := o2) (hA1 o1)
        have hA3 := fun o1 o2 o3 => cell_alloc (o := o3) (hA2 o1 o2)
        have hbs := hb.size
        clear hcT r0 r1 r2 hcN
        go_wp2_with fail
        go_region_with (first
          | (go_at_call 14; refine (kind_any _ _ _ _).mono ?_; rintro e w1 ⟨rfl, rfl⟩)
          | (go_at_call 17; refine (int_any _ _).mono ?_; rintro e w1 ⟨rfl, rfl⟩))
        all_goals
          go_wp2
          refine ⟨⟨k + 1, by omega, by go_num, by repeat (first | exact hb | refine bel_alloc ?_ | refine Below.drew ?_)⟩, ?_⟩
          simp [intOf]; omega
      · rw [vcells_text hTk] at r0 r1 r2
        have hgw := World.block_lt_of_cell? w ⟨g, k * 3, none⟩ r0
        have r0' : wr.cell? ⟨g, k * 3, none⟩ = some (.int .u8 2) := (hb.cell (p := ⟨g, k * 3, none⟩) hgw).trans r0
        have r1' : wr.cell? ⟨g, k * 3 + 1, none⟩ = some (.int .i64 0) := (hb.cell (p := ⟨g, k * 3 + 1, none⟩) hgw).trans r1
        have r2' : wr.cell? ⟨g, k * 3 + 2, none⟩ = some (.string (S k)) := (hb.cell (p := ⟨g, k * 3 + 2, none⟩) hgw).trans r2
        rw [hTk] at hcT'
        obtain ⟨sb, soff, rfl, hcS, _⟩ := hS k (by omega)
        have hsb := World.block_lt_of_cell? _ _ hcS
        have hcS' : wr.cell? ⟨sb, soff + k, none⟩ = some (.string (S k)) := (hb.cell hsb).trans hcS
        have hA1 := fun o1 => cell_alloc (o := o1) hcS'
        have hA2 := fun o1 o2 => cell_alloc (o := o2) (hA1 o1)
        have hA3 := fun o1 o2 o3 => cell_alloc (o := o3) (hA2 o1 o2)
        have hbs := hb.size
        have hM' := hM k hlt
        clear hcT r0 r1 r2 hcS
        go_wp2_with fail
        go_region_with (first
          | (go_at_call 14; refine (kind_any _ _ _ _).mono ?_; rintro e w1 ⟨rfl, rfl⟩)
          | (go_at_call 15; refine (text_any _ _).mono ?_; rintro e w1 ⟨rfl, rfl⟩)
          | (go_at_call 16; refine (string16 _ _ (by omega) _).mono ?_; rintro e w1 ⟨rfl, hb1⟩; have hs1 : w1.cell? ⟨sb, soff + k, none⟩ = some (.string (S k)) := cell_up hb1 (by repeat (first | exact hcS' | refine cell_alloc ?_ | refine cell_drew ?_)); have hB1 : Below w.heap.size w w1 := bel_up (by repeat (first | exact hb | refine bel_alloc ?_ | refine Below.drew ?_)) hb1))
        all_goals
          go_wp2
          refine ⟨⟨k + 1, by omega, by go_num, hB1⟩, ?_⟩
          simp [intOf]; omega
    · go_wp2
      go_ret
      exact ⟨rfl, hb⟩
end Go.Proofs.Qxb6616485aDoor.Wk
