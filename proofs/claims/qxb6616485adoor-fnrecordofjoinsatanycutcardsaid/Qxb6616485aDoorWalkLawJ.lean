import Derived.Test.Qxb6616485aDoorWalkUp
import Derived.WalkSpells
import Derived.Deep.QuietTactic
import Derived.BigQuiet
import Derived.WalkSmall
namespace Go.Proofs.Qxb6616485aDoor.Wk
open Go.RowKit Go.PlainAid En

set_option maxRecDepth 100000 in
set_option maxHeartbeats 8000000 in
theorem joinLaw_short (tb key : ByteArray) (fa : Option Addr) (fn fc : Nat) (F : Nat → ByteArray) (ta : Option Addr) (tn tc : Nat) (na : Option Addr) (nn nc : Nat) (sa : Option Addr) (sn sc : Nat) (S : Nat → ByteArray) (cut d : Int) (w : World)
    (hF : Strs w fa fn F) (hS : Strs w sa sn S) (l1 : tb.size ≤ 9223372036854775807) (l2 : key.size ≤ 9223372036854775807) (l3 : fn ≤ 9223372036854775807) (l4 : tn ≤ 9223372036854775807) (l5 : nn ≤ 9223372036854775807) (l6 : sn ≤ 9223372036854775807)
    (hbad : d < 0 ∨ 65536 < d ∨ tn ≠ fn ∨ nn ≠ fn ∨ sn ≠ fn ∨ cut < 0 ∨ (fn : Int) < cut) :
    Calls Tryd.prog 3 #[.string tb, .string key, .slice fa fn fc, .slice ta tn tc, .slice na nn nc, .slice sa sn sc, .int .i64 cut, .int .i64 d] w fun e w' => e = .returned (.bool true) ∧ Below w.heap.size w w' := by
  have hb5 := bytes5 tb key fa fn fc F ta tn tc na nn nc sa sn sc S cut d w hF hS l1 l2 l3 l4 l5 l6
  have hb6 := tooBig6 tb key fa fn fc F ta tn tc na nn nc sa sn sc S w hF hS l1 l2 l3 l4 l5 l6
  have hc : d < 0 ∨ (¬ d < 0 ∧ 65536 < d) ∨ (0 ≤ d ∧ d ≤ 65536 ∧ ((tn : Int) != (fn : Int)) = true) ∨ (0 ≤ d ∧ d ≤ 65536 ∧ tn = fn ∧ ((nn : Int) != (fn : Int)) = true) ∨ (0 ≤ d ∧ d ≤ 65536 ∧ tn = fn ∧ nn = fn ∧ ((sn : Int) != (fn : Int)) = true) ∨ (0 ≤ d ∧ d ≤ 65536 ∧ tn = fn ∧ nn = fn ∧ sn = fn ∧ cut < 0) ∨ (0 ≤ d ∧ d ≤ 65536 ∧ tn = fn ∧ nn = fn ∧ sn = fn ∧ 0 ≤ cut ∧ (fn : Int) < cut) := by
    simp only [bne_iff_ne]; omega
  clear hbad
  rcases hc with c1 | ⟨c1, c2⟩ | ⟨c1, c2, c3⟩ | ⟨c1, c2, rfl, c3⟩ | ⟨c1, c2, rfl, rfl, c3⟩ | ⟨c1, c2, rfl, rfl, rfl, c3⟩ | ⟨c1, c2, rfl, rfl, rfl, c3, c4⟩
  all_goals
    go_enter Tryd.func3, Tryd.ntmps3
    go_wp2_with fail
    refine hb5.mono ?_
    rintro e w1 ⟨⟨r, rfl⟩, hw⟩
    rw [hw]
    clear hw hb5
    cases r
    · go_wp2
      go_ret
      exact ⟨rfl, Below.refl _ _⟩
    · go_wp2_with fail
      all_goals try (go_ret; exact ⟨rfl, Below.refl _ _⟩)
      refine hb6.mono ?_
      rintro e w2 ⟨h, hw⟩
      rw [hw]
      clear hw hb6
      rcases h with rfl | ⟨rfl, hsm⟩
      · go_wp2
        go_ret
        exact ⟨rfl, Below.refl _ _⟩
      · go_wp2
        go_ret
        exact ⟨rfl, Below.refl _ _⟩
end Go.Proofs.Qxb6616485aDoor.Wk
