import Derived.Test.Qxb6616485aDoorWalkSmall
import Derived.WalkSpells
namespace Go.Proofs.Qxb6616485aDoor.Wk
open Go.RowKit

/-- A slice of n strings S that came in: whatever its address where it is empty. -/
def Strs (w : World) (a : Option Addr) (n : Nat) (S : Nat → ByteArray) : Prop := ∀ i, i < n → ∃ b off, a = some ⟨b, off, none⟩ ∧ w.cell? ⟨b, off + i, none⟩ = some (.string (S i)) ∧ (S i).size ≤ 9223372036854775807

/-- The call returns a bool. -/
def RetB (e : Ending) : Prop := ∃ r : Bool, e = .returned (.bool r)
theorem retB (r : Bool) : RetB (.returned (.bool r)) := ⟨r, rfl⟩

set_option maxHeartbeats 4000000 in
theorem bytes12 (tb key : ByteArray) (fa : Option Addr) (fn fc : Nat) (F : Nat → ByteArray) (ta : Option Addr) (tn tc : Nat) (na : Option Addr) (nn nc : Nat) (sa : Option Addr) (sn sc : Nat) (S : Nat → ByteArray) (d : Int) (w : World)
    (hF : Strs w fa fn F) (hS : Strs w sa sn S) (l1 : tb.size ≤ 9223372036854775807) (l2 : key.size ≤ 9223372036854775807) (l3 : fn ≤ 9223372036854775807) (l4 : tn ≤ 9223372036854775807) (l5 : nn ≤ 9223372036854775807) (l6 : sn ≤ 9223372036854775807) :
    Calls Tryd.prog 12 #[.string tb, .string key, .slice fa fn fc, .slice ta tn tc, .slice na nn nc, .slice sa sn sc, .int .i64 d] w fun e w' => RetB e ∧ w' = w := by
  go_enter Tryd.func12, Tryd.ntmps12
  go_wp2
  all_goals (try (go_ret; exact ⟨retB false, rfl⟩))
  go_loop [15, 16] (fun z i => ∃ (k : Nat) (x : Int), k ≤ fn ∧ 0 ≤ x ∧ x ≤ 1048576 ∧ z = .int .i64 x ∧ i = .int .i64 k) (fun _ i => fn - (intOf i).toNat)
  case atStart => exact ⟨0, _, by omega, by omega, by omega, rfl, rfl⟩
  case round =>
    obtain ⟨k, x, hk, hx0, hx1, rfl, rfl⟩ := hrel
    by_cases hlt : k < fn
    · obtain ⟨b, off, rfl, hc, hl⟩ := hF k hlt
      go_wp2
      all_goals first
        | (go_ret; exact ⟨retB false, rfl⟩)
        | (refine ⟨⟨k + 1, _, by omega, by omega, by omega, rfl, by go_num⟩, ?_⟩; simp [intOf]; omega)
    · go_wp2
      all_goals (try (go_ret; exact ⟨retB false, rfl⟩))
      go_loop [15, 17] (fun z i => ∃ (k : Nat) (x : Int), k ≤ sn ∧ 0 ≤ x ∧ x ≤ 1048576 ∧ z = .int .i64 x ∧ i = .int .i64 k) (fun _ i => sn - (intOf i).toNat)
      case atStart => exact ⟨0, _, by omega, by omega, by omega, rfl, rfl⟩
      case round =>
        obtain ⟨k, x, hk, hx0, hx1, rfl, rfl⟩ := hrel
        by_cases hlt : k < sn
        · obtain ⟨b, off, rfl, hc, hl⟩ := hS k hlt
          go_wp2
          all_goals first
            | (go_ret; exact ⟨retB false, rfl⟩)
            | (refine ⟨⟨k + 1, _, by omega, by omega, by omega, rfl, by go_num⟩, ?_⟩; simp [intOf]; omega)
        · go_wp2
          go_ret
          exact ⟨retB true, rfl⟩
set_option maxHeartbeats 4000000 in
theorem bytes5 (tb key : ByteArray) (fa : Option Addr) (fn fc : Nat) (F : Nat → ByteArray) (ta : Option Addr) (tn tc : Nat) (na : Option Addr) (nn nc : Nat) (sa : Option Addr) (sn sc : Nat) (S : Nat → ByteArray) (d d' : Int) (w : World)
    (hF : Strs w fa fn F) (hS : Strs w sa sn S) (l1 : tb.size ≤ 9223372036854775807) (l2 : key.size ≤ 9223372036854775807) (l3 : fn ≤ 9223372036854775807) (l4 : tn ≤ 9223372036854775807) (l5 : nn ≤ 9223372036854775807) (l6 : sn ≤ 9223372036854775807) :
    Calls Tryd.prog 5 #[.string tb, .string key, .slice fa fn fc, .slice ta tn tc, .slice na nn nc, .slice sa sn sc, .int .i64 d, .int .i64 d'] w fun e w' => RetB e ∧ w' = w := by
  go_enter Tryd.func5, Tryd.ntmps5
  go_wp2
  all_goals (try (go_ret; exact ⟨retB false, rfl⟩))
  go_loop [17, 18] (fun z i => ∃ (k : Nat) (x : Int), k ≤ fn ∧ 0 ≤ x ∧ x ≤ 1048576 ∧ z = .int .i64 x ∧ i = .int .i64 k) (fun _ i => fn - (intOf i).toNat)
  case atStart => exact ⟨0, _, by omega, by omega, by omega, rfl, rfl⟩
  case round =>
    obtain ⟨k, x, hk, hx0, hx1, rfl, rfl⟩ := hrel
    by_cases hlt : k < fn
    · obtain ⟨b, off, rfl, hc, hl⟩ := hF k hlt
      go_wp2
      all_goals first
        | (go_ret; exact ⟨retB false, rfl⟩)
        | (refine ⟨⟨k + 1, _, by omega, by omega, by omega, rfl, by go_num⟩, ?_⟩; simp [intOf]; omega)
    · go_wp2
      all_goals (try (go_ret; exact ⟨retB false, rfl⟩))
      go_loop [17, 19] (fun z i => ∃ (k : Nat) (x : Int), k ≤ sn ∧ 0 ≤ x ∧ x ≤ 1048576 ∧ z = .int .i64 x ∧ i = .int .i64 k) (fun _ i => sn - (intOf i).toNat)
      case atStart => exact ⟨0, _, by omega, by omega, by omega, rfl, rfl⟩
      case round =>
        obtain ⟨k, x, hk, hx0, hx1, rfl, rfl⟩ := hrel
        by_cases hlt : k < sn
        · obtain ⟨b, off, rfl, hc, hl⟩ := hS k hlt
          go_wp2
          all_goals first
            | (go_ret; exact ⟨retB false, rfl⟩)
            | (refine ⟨⟨k + 1, _, by omega, by omega, by omega, rfl, by go_num⟩, ?_⟩; simp [intOf]; omega)
        · go_wp2
          go_ret
          exact ⟨retB true, rfl⟩

/-- The bytes of the first n strings. -/
def sumS (S : Nat → ByteArray) : Nat → Nat
  | 0 => 0
  | n + 1 => sumS S n + (S n).size
/-- What the laws know where the arguments are not too big. -/
def Small (key : ByteArray) (fn tn nn sn : Nat) (S : Nat → ByteArray) : Prop := key.size ≤ 1048576 ∧ fn ≤ 65536 ∧ tn ≤ 65536 ∧ nn ≤ 65536 ∧ sn ≤ 65536 ∧ sumS S sn ≤ 1048576
def BigRet (p : Prop) (e : Ending) : Prop := e = .returned (.bool true) ∨ (e = .returned (.bool false) ∧ p)
theorem bigRet_yes (p : Prop) : BigRet p (.returned (.bool true)) := .inl rfl
theorem bigRet_no {p : Prop} (h : p) : BigRet p (.returned (.bool false)) := .inr ⟨rfl, h⟩

set_option maxHeartbeats 4000000 in
theorem tooBig6 (tb key : ByteArray) (fa : Option Addr) (fn fc : Nat) (F : Nat → ByteArray) (ta : Option Addr) (tn tc : Nat) (na : Option Addr) (nn nc : Nat) (sa : Option Addr) (sn sc : Nat) (S : Nat → ByteArray) (w : World)
    (hF : Strs w fa fn F) (hS : Strs w sa sn S) (l1 : tb.size ≤ 9223372036854775807) (l2 : key.size ≤ 9223372036854775807) (l3 : fn ≤ 9223372036854775807) (l4 : tn ≤ 9223372036854775807) (l5 : nn ≤ 9223372036854775807) (l6 : sn ≤ 9223372036854775807) :
    Calls Tryd.prog 6 #[.string tb, .string key, .slice fa fn fc, .slice ta tn tc, .slice na nn nc, .slice sa sn sc] w fun e w' => BigRet (Small key fn tn nn sn S) e ∧ w' = w := by
  go_enter Tryd.func6, Tryd.ntmps6
  go_wp2
  all_goals (try (go_ret; exact ⟨bigRet_yes _, rfl⟩))
  go_loop [13, 14] (fun z i => ∃ (k : Nat) (x : Int), k ≤ fn ∧ 0 ≤ x ∧ x ≤ 1048576 ∧ z = .int .i64 x ∧ i = .int .i64 k) (fun _ i => fn - (intOf i).toNat)
  case atStart => exact ⟨0, _, by omega, by omega, by omega, rfl, rfl⟩
  case round =>
    obtain ⟨k, x, hk, hx0, hx1, rfl, rfl⟩ := hrel
    by_cases hlt : k < fn
    · obtain ⟨b, off, rfl, hc, hl⟩ := hF k hlt
      go_wp2
      all_goals first
        | (go_ret; exact ⟨bigRet_yes _, rfl⟩)
        | (refine ⟨⟨k + 1, _, by omega, by omega, by omega, rfl, by go_num⟩, ?_⟩; simp [intOf]; omega)
    · go_wp2
      go_loop [13, 15] (fun z i => ∃ (k : Nat) (x : Int), k ≤ sn ∧ (sumS S k : Int) ≤ x ∧ x ≤ 1048576 ∧ z = .int .i64 x ∧ i = .int .i64 k) (fun _ i => sn - (intOf i).toNat)
      case atStart => exact ⟨0, _, by omega, by simp [sumS]; omega, by omega, rfl, rfl⟩
      case round =>
        obtain ⟨k, x, hk, hx0, hx1, rfl, rfl⟩ := hrel
        by_cases hlt : k < sn
        · obtain ⟨b, off, rfl, hc, hl⟩ := hS k hlt
          go_wp2
          all_goals first
            | (go_ret; exact ⟨bigRet_yes _, rfl⟩)
            | (refine ⟨⟨k + 1, _, by omega, by simp only [sumS]; omega, by omega, rfl, by go_num⟩, ?_⟩; simp [intOf]; omega)
        · obtain rfl : k = sn := by omega
          go_wp2
          go_ret
          refine ⟨bigRet_no ?_, rfl⟩
          unfold Small
          omega
end Go.Proofs.Qxb6616485aDoor.Wk
