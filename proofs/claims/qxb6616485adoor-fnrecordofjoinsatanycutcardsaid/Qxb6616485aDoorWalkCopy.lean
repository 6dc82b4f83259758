import Derived.Test.Qxb6616485aDoorWalkSmall
import Derived.WalkSpells
namespace Go.Proofs.Qxb6616485aDoor.Wk
open Go.RowKit

theorem info9 : (Tryd.prog.info? 9).map (fun i => (i.zero, i.size, i.bytes)) = some (some (.string ⟨#[]⟩), 1, 16) := by kernel_rfl

set_option maxHeartbeats 400000 in
theorem copy_nil (w : World) :
    Calls Tryd.prog 8 #[.slice none 0 0] w fun e w' => e = .returned (.slice none 0 0) ∧ w' = w := by
  have hne := fun w => Lib.run_eql_slice_nil (P := Tryd.prog) w 22 9 none 0 0 0 0 Tryd.underlying22
  go_enter Tryd.func8, Tryd.ntmps8
  go_wp2
  go_ret
  exact ⟨rfl, rfl⟩

set_option maxHeartbeats 1000000 in
theorem copy_some (b off n c : Nat) (S : Nat → ByteArray) (w : World) (hn : n ≤ 65536) (hc : ∀ i, i < n → w.cell? ⟨b, off + i, none⟩ = some (.string (S i))) :
    Calls Tryd.prog 8 #[.slice (some ⟨b, off, none⟩) n c] w fun e w' => ∃ a' c', e = .returned (.slice a' n c') ∧ Below w.heap.size w w' := by
  obtain ⟨i0, hi, hz0, hz1, hz2⟩ := info_parts info9
  have hne := fun w => Lib.run_eql_slice_nil (P := Tryd.prog) w 22 9 (some ⟨b, off, none⟩) n c 0 0 Tryd.underlying22
  go_enter Tryd.func8, Tryd.ntmps8
  go_wp2_with (first
    | (at_make; refine wpList_make_full _ rfl _ _ 22 rfl w.heap.size 9 i0 (.string ⟨#[]⟩) 1 Tryd.underlying22 hi hz0 hz1 .i64 .i64 _ _ n rfl rfl rfl rfl (by rw [hz2]; omega) (by unfold maxLen; omega) (Nat.le_refl _) ?_; intro w0 hown0 hgrow0))
  go_loopw [4] (fun i wr => ∃ k : Nat, k ≤ n ∧ i = .int .i64 k ∧ (∃ xs, wr.ownsRow w.heap.size 9 1 (.slice (some ⟨w.heap.size, 0, none⟩) n n) n xs) ∧ Below w.heap.size w wr) (fun i _ => n - (intOf i).toNat)
  case atStart => exact ⟨0, by omega, rfl, ⟨_, hown0⟩, (Below.refl _ _).grown hgrow0 (Nat.le_refl _) (fun k h => by cases h)⟩
  case round =>
    obtain ⟨k, hk, rfl, ⟨xs, hown⟩, hb⟩ := hrel
    by_cases hlt : k < n
    · have hbk := World.block_lt_of_cell? _ _ (hc k hlt)
      have hcx : wr.cell? ⟨b, off + k, none⟩ = some (.string (S k)) := (hb.cell hbk).trans (hc k hlt)
      have hl : k < xs.length := by rw [hown.1]; omega
      have hox : wr.cell? ⟨w.heap.size, k, none⟩ = some xs[k] := (hown.cellAt k (by omega)).trans (List.getElem?_eq_getElem hl)
      have hof := hown.frozenAt k
      have hst := hown.stored k (.string (S k))
      have HS := hst.1
      have HG : Below w.heap.size w (wr.setCell ⟨w.heap.size, k, none⟩ (.string (S k))) := hb.setCell (Nat.le_refl _) _
      clear hst
      have HH : Hid (∃ xs, (wr.setCell ⟨w.heap.size, k, none⟩ (.string (S k))).ownsRow w.heap.size 9 1 (.slice (some ⟨w.heap.size, 0, none⟩) n n) n xs) := ⟨_, HS⟩
      clear HS
      go_wp2
      refine ⟨⟨k + 1, by omega, by go_num, HH, HG⟩, ?_⟩
      simp [intOf]; omega
    · go_wp2
      go_ret
      exact ⟨_, _, rfl, hb⟩
end Go.Proofs.Qxb6616485aDoor.Wk
