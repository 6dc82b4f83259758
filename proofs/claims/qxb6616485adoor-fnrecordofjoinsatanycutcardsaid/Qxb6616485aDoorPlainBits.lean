import Derived.Test.Qxb6616485aDoorPlain
import Derived.Lib.EndianBits
namespace Go.Proofs.Qxb6616485aDoor.En

/-- Where the reading of a length stands: behind j bytes. -/
def St (V m y j : Nat) : Prop := (j = 0 ∧ m = 0 ∧ y = V ∧ V ≤ 1048576) ∨ (j = 1 ∧ m = V % 128 ∧ y = V / 128 ∧ V ≤ 1048576) ∨ (j = 2 ∧ m = V % 16384 ∧ y = V / 16384 ∧ V ≤ 1048576)
theorem st_start {V : Nat} (h : V ≤ 1048576) : St V 0 V 0 := .inl ⟨rfl, rfl, rfl, h⟩

theorem and127 (c x : Nat) (h : c < 256) (hx : x = c % 128) : bits .and .u8 (c : Int) 127 = (x : Int) := by
  have e := u8_and_nat c 127 h (by omega)
  refine e.trans ?_
  rw [nat_mask7, hx]
theorem wraps_i64 (n : Int) (h0 : 0 ≤ n) (h1 : n < 2 ^ 63) : IntKind.i64.wrap n = n := by
  have : n < 9223372036854775808 := h1
  rw [IntKind.wrap_i64]; omega
theorem or0 (x : Nat) (hx : x < 128) : bits .or .i64 0 (x : Int) = (x : Int) := by
  have := bits_join_low .i64 63 (by decide) wraps_i64 0 0 (x : Int) (by omega) (by omega) (by omega) (by omega) (by omega) (by omega)
  rw [this]; omega
theorem or7 (m x t : Nat) (hm : m < 128) (hx : x < 128) (ht : t = m + x * 128) : bits .or .i64 (m : Int) ((x : Int) * 128) = (t : Int) := by
  have := bits_join_low .i64 63 (by decide) wraps_i64 7 (m : Int) ((x : Int) * 128) (by omega) (by omega) (by omega) (by omega) (by omega) (by omega)
  rw [this, ht]; omega
theorem or14 (m x t : Nat) (hm : m < 16384) (hx : x < 128) (ht : t = m + x * 16384) : bits .or .i64 (m : Int) ((x : Int) * 16384) = (t : Int) := by
  have := bits_join_low .i64 63 (by decide) wraps_i64 14 (m : Int) ((x : Int) * 16384) (by omega) (by omega) (by omega) (by omega) (by omega) (by omega)
  rw [this, ht]; omega
theorem contB_val (y : Nat) : ((contB y).toNat : Int) = ((y % 128 + 128 : Nat) : Int) := by
  unfold contB; rw [UInt8.toNat_ofNat']; omega
theorem toList_append (a b : ByteArray) : (a ++ b).data.toList = a.data.toList ++ b.data.toList := by
  rw [ByteArray.data_append, Array.toList_append]
theorem toList_extract (a : ByteArray) (i j : Nat) : (a.extract i j).data.toList = (a.data.toList.take j).drop i := by
  rw [ByteArray.data_extract, Array.toList_extract, List.extract_eq_take_drop, List.drop_take]
theorem ext_list {a b : ByteArray} (h : a.data.toList = b.data.toList) : a = b := by
  apply ByteArray.ext
  exact Array.toList_inj.1 h
/-- The text read off, and what is left. -/
theorem read_text {q s : ByteArray} {l : List UInt8} (h : q.data.toList = s.data.toList ++ l) : q.extract 0 s.size = s := by
  apply ext_list
  rw [toList_extract, h, List.drop_zero, size_of (r := s) rfl, List.take_left]
theorem read_rest {q s : ByteArray} {l : List UInt8} {m : Nat} (h : q.data.toList = s.data.toList ++ l) (hm : q.size ≤ m) : (q.extract s.size m).data.toList = l := by
  rw [toList_extract, List.take_of_length_le (by rw [← size_of (r := q) rfl]; exact hm), h, size_of (r := s) rfl, List.drop_left]
theorem read_drop {q : ByteArray} {a l : List UInt8} {k m : Nat} (h : q.data.toList = a ++ l) (hk : a.length = k) (hm : q.size ≤ m) : (q.extract k m).data.toList = l := by
  rw [toList_extract, List.take_of_length_le (by rw [← size_of (r := q) rfl]; exact hm), h, ← hk, List.drop_left]
end Go.Proofs.Qxb6616485aDoor.En
