import Derived.Test.Qxb6616485aDoorWalkDec
import Derived.Test.Qxb6616485aDoorWalkDec2
import Derived.Test.Qxb6616485aDoorWalkDec3
import Derived.WalkSpells
namespace Go.Proofs.Qxb6616485aDoor.Wk
open Go.RowKit Go.PlainAid En

set_option maxHeartbeats 400000 in
theorem decode_zero (tb : Nat) (fa : Option Addr) (fc : Nat) (s : ByteArray) (w : World) (ht : w.cell? ⟨tb, 0, none⟩ = some (.slice fa 0 fc)) :
    Calls Tryd.prog 19 #[.pointer (some ⟨tb, 0, none⟩), .slice none 0 0, .string s] w fun e w' => e = .returned (.slice none 0 0) ∧ w' = w := by
  go_enter Tryd.func19, Tryd.ntmps19
  go_wp2_with fail
  refine wp_loop_rounds 1 ?_
  rw [rounds_succ]
  go_wp2
  go_ret
  exact ⟨rfl, rfl⟩

/-- The world in which decode is called: the write has been boxed three times. -/
def w3 (w : World) (tn key row : ByteArray) : World := ((w.alloc (.cells #[.string tn, .string key, .string row] 52)).alloc (.cells #[.string tn, .string key, .string row] 52)).alloc (.cells #[.string tn, .string key, .string row] 52)

set_option maxHeartbeats 400000 in
theorem record13 (t d : Value) (tn key row : ByteArray) (w : World) (R : Value → World → Prop) (h : (key.size : Int) ≤ (row.size : Int)) (hb : ((row.extract key.size row.size).toList == [0]) = false)
    (hdec : Calls Tryd.prog 19 #[t, d, .string (row.extract key.size row.size)] (w3 w tn key row) fun e w' => ∃ v, e = .returned v ∧ R v w') :
    Calls Tryd.prog 13 #[t, d, .agg #[.string tn, .string key, .string row]] w fun e w' => ∃ v, e = .returned (.tuple #[v, .bool true]) ∧ R v w' := by
  unfold w3 at hdec
  go_enter Tryd.func13, Tryd.ntmps13
  go_wp2_with (first | (go_at_call 18; refine (removes18 tn key row _ h false hb).mono ?_; rintro e w1 ⟨rfl, hw⟩; rw [hw]) | (go_at_call 20; refine (values20 tn key row _ h).mono ?_; rintro e w1 ⟨rfl, hw⟩; rw [hw]))
  refine hdec.mono ?_
  rintro e w2 ⟨v, rfl, hR⟩
  go_wp2
  go_ret2
  exact ⟨v, rfl, hR⟩

set_option maxHeartbeats 400000 in
theorem record10 (t d : Value) (tn key row : ByteArray) (w : World) (R : Value → World → Prop) (h : (key.size : Int) ≤ (row.size : Int)) (hb : ((row.extract key.size row.size).toList == [0]) = false)
    (hdec : Calls Tryd.prog 19 #[t, d, .string (row.extract key.size row.size)] (w3 w tn key row) fun e w' => ∃ v, e = .returned v ∧ R v w') :
    Calls Tryd.prog 10 #[t, d, .string tn, .string key, .string row] w fun e w' => ∃ v, e = .returned (.tuple #[v, .bool true]) ∧ R v w' := by
  have hrec := record13 t d tn key row w R h hb hdec
  clear hdec
  go_enter Tryd.func10, Tryd.ntmps10
  go_wp2_with fail
  refine hrec.mono ?_
  rintro e w2 ⟨v, rfl, hR⟩
  go_wp2
  go_ret2
  exact ⟨v, rfl, hR⟩

set_option maxHeartbeats 400000 in
theorem remove13 (t : Value) (db dc : Nat) (tn key row : ByteArray) (w : World) (h : (key.size : Int) ≤ (row.size : Int)) (hb : ((row.extract key.size row.size).toList == [0]) = true) :
    Calls Tryd.prog 13 #[t, .slice (some ⟨db, 0, none⟩) dc dc, .agg #[.string tn, .string key, .string row]] w fun e w' => e = .returned (.tuple #[.slice (some ⟨db, 0, none⟩) 0 dc, .bool false]) ∧ Below w.heap.size w w' := by
  go_enter Tryd.func13, Tryd.ntmps13
  go_wp2_with (first | (go_at_call 18; refine (removes18 tn key row _ h true hb).mono ?_; rintro e w1 ⟨rfl, hw⟩; rw [hw]))
  go_ret2
  exact ⟨rfl, ((Below.refl _ _).alloc (Nat.le_refl _) _).alloc (by simp) _⟩

set_option maxHeartbeats 400000 in
theorem remove10 (t : Value) (db dc : Nat) (tn key row : ByteArray) (w : World) (h : (key.size : Int) ≤ (row.size : Int)) (hb : ((row.extract key.size row.size).toList == [0]) = true) :
    Calls Tryd.prog 10 #[t, .slice (some ⟨db, 0, none⟩) dc dc, .string tn, .string key, .string row] w fun e w' => e = .returned (.tuple #[.slice (some ⟨db, 0, none⟩) 0 dc, .bool false]) ∧ Below w.heap.size w w' := by
  have hrec := remove13 t db dc tn key row w h hb
  go_enter Tryd.func10, Tryd.ntmps10
  go_wp2_with fail
  refine hrec.mono ?_
  rintro e w2 ⟨rfl, hR⟩
  go_wp2
  go_ret2
  exact ⟨rfl, hR⟩
end Go.Proofs.Qxb6616485aDoor.Wk
