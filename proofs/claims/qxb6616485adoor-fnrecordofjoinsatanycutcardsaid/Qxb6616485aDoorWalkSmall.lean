import Derived.Test.Qxb6616485aDoorRows
import Derived.WalkKit
import Derived.ProofKit
import Derived.Lib.AppendStr
import Derived.Outline
namespace Go.Proofs.Qxb6616485aDoor.Wk
open Go.RowKit

/-- A Value as its three cells. -/
def val (k : Int) (n : Int) (s : ByteArray) : Value := .agg #[.int .u8 k, .int .i64 n, .string s]

set_option maxHeartbeats 400000 in
theorem kind_any (k n : Int) (s : ByteArray) (w : World) :
    Calls Tryd.prog 14 #[.agg #[.int .u8 k, .int .i64 n, .string s]] w fun e w' => e = .returned (.int .u8 k) ∧ w' = w.alloc (.cells #[.int .u8 k, .int .i64 n, .string s] 37) := by
  go_enter Tryd.func14, Tryd.ntmps14
  go_wp2
  go_ret
  exact ⟨rfl, rfl⟩

set_option maxHeartbeats 400000 in
theorem int_any (n : Int) (w : World) :
    Calls Tryd.prog 17 #[.int .i64 n] w fun e w' => e = .returned (.agg #[.int .u8 1, .int .i64 n, .string ⟨#[]⟩]) ∧ w' = w.alloc (.cells #[.int .u8 1, .int .i64 n, .string ⟨#[]⟩] 37) := by
  go_enter Tryd.func17, Tryd.ntmps17
  go_wp2
  exact bodyPost_ret (v := .agg #[.int .u8 1, .int .i64 n, .string ⟨#[]⟩]) (by simp [results, Tryd.results17, go_sem]) rfl ⟨rfl, rfl⟩

set_option maxHeartbeats 400000 in
theorem text_any (s : ByteArray) (w : World) :
    Calls Tryd.prog 15 #[.string s] w fun e w' => e = .returned (.agg #[.int .u8 2, .int .i64 0, .string s]) ∧ w' = w.alloc (.cells #[.int .u8 2, .int .i64 0, .string s] 37) := by
  go_enter Tryd.func15, Tryd.ntmps15
  go_wp2
  exact bodyPost_ret (v := .agg #[.int .u8 2, .int .i64 0, .string s]) (by simp [results, Tryd.results15, go_sem]) rfl ⟨rfl, rfl⟩

set_option maxHeartbeats 400000 in
theorem newTable_any (a : Option Addr) (n c : Nat) (w : World) :
    Calls Tryd.prog 7 #[.slice a n c] w fun e w' => e = .returned (.pointer (some ⟨w.heap.size, 0, none⟩)) ∧ w' = w.alloc (.cells #[.slice a n c, .slice none 0 0, .slice none 0 0] 45) := by
  go_enter Tryd.func7, Tryd.ntmps7
  go_wp2
  go_ret
  exact ⟨rfl, rfl⟩

set_option maxHeartbeats 400000 in
theorem removes22 (key row : ByteArray) (w : World) (h : (key.size : Int) ≤ (row.size : Int)) :
    Calls Tryd.prog 22 #[.string key, .string row] w fun e w' => e = .returned (.bool ((row.extract key.size row.size).toList == [0])) ∧ w' = w := by
  go_enter Tryd.func22, Tryd.ntmps22
  go_wp2
  go_ret
  exact ⟨rfl, rfl⟩

set_option maxHeartbeats 400000 in
theorem removes18 (tb key row : ByteArray) (w : World) (h : (key.size : Int) ≤ (row.size : Int)) (b : Bool) (hb : ((row.extract key.size row.size).toList == [0]) = b) :
    Calls Tryd.prog 18 #[.agg #[.string tb, .string key, .string row]] w fun e w' => e = .returned (.bool b) ∧ w' = w.alloc (.cells #[.string tb, .string key, .string row] 52) := by
  go_enter Tryd.func18, Tryd.ntmps18
  go_wp2_with (go_at_call 22; refine (removes22 key row _ h).mono ?_; rintro e w' ⟨rfl, hw⟩; rw [hw])
  go_ret
  exact ⟨rfl, rfl⟩

set_option maxHeartbeats 400000 in
theorem values20 (tb key row : ByteArray) (w : World) (h : (key.size : Int) ≤ (row.size : Int)) :
    Calls Tryd.prog 20 #[.agg #[.string tb, .string key, .string row]] w fun e w' => e = .returned (.string (row.extract key.size row.size)) ∧ w' = w.alloc (.cells #[.string tb, .string key, .string row] 52) := by
  go_enter Tryd.func20, Tryd.ntmps20
  go_wp2
  go_ret
  exact ⟨rfl, rfl⟩

theorem info5 : (Tryd.prog.info? 5).map (fun i => (i.zero, i.size, i.bytes)) = some (some (.int .u8 0), 1, 1) := by kernel_rfl

/-- Bytes as cells. -/
def bcells (l : List UInt8) : List Value := l.map fun b => Value.int .u8 b.toNat
theorem bcells_append (a b : List UInt8) : bcells (a ++ b) = bcells a ++ bcells b := by unfold bcells; exact List.map_append
theorem bcells_length (a : List UInt8) : (bcells a).length = a.length := by simp [bcells]
theorem bcells_one (a : List UInt8) : ∀ u ∈ bcells a, u.oneCell' = true := fun u hu => by
  obtain ⟨_, _, rfl⟩ := List.mem_map.1 hu
  rfl

/-- What a row of bytes reads as, turned to a string. -/
theorem foldl_push : ∀ (l : List UInt8) (s : ByteArray), (l.map fun b => (b.toNat : Int)).foldl (fun r n => r.push (UInt8.ofNat n.toNat)) s = s ++ ⟨l.toArray⟩ := by
  intro l
  induction l with
  | nil => intro s; apply ByteArray.ext; simp
  | cons b l ih =>
    intro s
    rw [List.map_cons, List.foldl_cons, ih]
    apply ByteArray.ext
    simp [ByteArray.push]
theorem conv_own {B : Nat} {v : Value} {l : List UInt8} {w : World} (h : w.ownsRow B 5 1 v l.length (bcells l)) :
    (convert 39 9 v).run Tryd.prog w = .ok (.string ⟨l.toArray⟩) w := by
  rcases h.2 with ⟨rfl, hn⟩ | ⟨g, cap, cur, rfl, hg, hb, hle, hm, hs, ht⟩
  · rw [run_convert_bytes_string w 39 9 5 _ _ _ Tryd.underlying39 Tryd.underlying5 Tryd.underlying9]
    obtain rfl : l = [] := List.eq_nil_of_length_eq_zero hn
    simp [Conv.bytesToString]
    rfl
  · rw [run_convert_bytes_string w 39 9 5 _ _ _ Tryd.underlying39 Tryd.underlying5 Tryd.underlying9]
    have hl := run_loadCells_list (P := Tryd.prog) w ⟨g, 0, none⟩ (bcells l) (fun j u hu => h.cells (g := g) rfl j u hu)
    rw [bcells_length] at hl
    rw [run_bytesToString w ⟨g, 0, none⟩ l.length cap (l.map fun b => (b.toNat : Int)) (by rw [hl]; simp [bcells]), foldl_push]
    congr 2

set_option maxHeartbeats 400000 in
theorem appendTo21 (n : Int) (s : ByteArray) (hs : s.size ≤ 140737488355328) (w : World) :
    Calls Tryd.prog 21 #[.agg #[.int .u8 2, .int .i64 n, .string s], .slice none 0 0] w fun e w' => ∃ v, e = .returned v ∧ w'.ownsRow w.heap.size 5 1 v s.size (Lib.strCells s) ∧ Below w.heap.size w w' := by
  obtain ⟨i0, hi, hz0, hz1, hz2⟩ := info_parts info5
  go_enter Tryd.func21, Tryd.ntmps21
  go_wp2_with (at_builtin; refine Lib.wpList_append_own_string _ rfl _ _ 39 9 rfl w.heap.size 5 i0 Tryd.underlying39 Tryd.underlying9 hi hz0 hz1 hz2 _ _ _ rfl (World.ownsRow_nil _ _ _ _) s rfl ?c3 ?c4 ?c5 ?_)
  case c3 => unfold maxLen; omega
  case c4 => omega
  case c5 => simp
  intro v' w1 hown hgrow _
  go_wp2
  go_ret
  refine ⟨v', rfl, by simpa using hown, ?_⟩
  exact ((Below.refl _ _).alloc (Nat.le_refl _) _).grown hgrow (by simp) (fun k h => by cases h)

theorem strCells_eq (s : ByteArray) : Lib.strCells s = bcells s.data.toList := rfl
theorem size_eq (s : ByteArray) : s.size = s.data.toList.length := by cases s; rfl
theorem mk_eq (s : ByteArray) : (⟨s.data.toList.toArray⟩ : ByteArray) = s := by cases s; rfl

set_option maxHeartbeats 400000 in
theorem string16 (n : Int) (s : ByteArray) (hs : s.size ≤ 140737488355328) (w : World) :
    Calls Tryd.prog 16 #[.agg #[.int .u8 2, .int .i64 n, .string s]] w fun e w' => e = .returned (.string s) ∧ Below w.heap.size w w' := by
  go_enter Tryd.func16, Tryd.ntmps16
  go_wp2_with fail
  refine (appendTo21 n s hs _).mono ?_
  rintro e w1 ⟨v, rfl, hown, hb⟩
  have hc : (convert 39 9 v).run Tryd.prog w1 = .ok (.string s) w1 := by
    rw [size_eq, strCells_eq] at hown
    have := conv_own hown
    rwa [mk_eq] at this
  go_wp2
  go_ret
  refine ⟨rfl, ?_⟩
  exact ((Below.refl _ _).alloc (Nat.le_refl _) _).trans (hb.mono (by simp))
end Go.Proofs.Qxb6616485aDoor.Wk
