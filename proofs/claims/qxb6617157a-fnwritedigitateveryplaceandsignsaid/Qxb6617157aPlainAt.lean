import Derived.Test.Qxb6617157aPlainLaws
import Derived.PlainAid
namespace Go.Proofs.Qxb6617157a.Txt

/-- The byte at place i of the digits; a zero outside. -/
def dA (l : List UInt8) (i : Int) : UInt8 := if 0 ≤ i then (l[i.toNat]?).getD 48 else 48
/-- The same, as the number that the walk carries. -/
def dAt (s : ByteArray) (i : Int) : Int := ((dA s.data.toList i).toNat : Int)

theorem dAt_lo (s : ByteArray) {i : Int} (h : i < 0) : dAt s i = 48 := by
  unfold dAt dA; rw [if_neg (by omega)]; rfl
theorem dAt_hi (s : ByteArray) {i : Int} (h : (s.size : Int) ≤ i) : dAt s i = 48 := by
  unfold dAt dA
  rw [if_pos (by omega), List.getElem?_eq_none (by rw [toList_length]; omega)]; rfl
theorem dAt_in (s : ByteArray) {i : Int} (h0 : 0 ≤ i) (h : i.toNat < s.size) : dAt s i = ((s[i.toNat]'h).toNat : Int) := by
  unfold dAt dA
  have h' : i.toNat < s.data.toList.length := by rw [toList_length]; exact h
  rw [if_pos h0, List.getElem?_eq_getElem h']; rfl

theorem padL_get (d : List UInt8) (sc k : Nat) (h : k < (padL d sc).length) : (padL d sc)[k]? = some (dA d ((k : Int) - ((sc + 1 - d.length : Nat) : Int))) := by
  rw [padL_length] at h
  unfold padL dA
  by_cases hk : k < sc + 1 - d.length
  · rw [List.getElem?_append_left (by rw [zeros_length]; exact hk), if_neg (by omega)]
    unfold zeros
    rw [List.getElem?_replicate, if_pos hk]
  · rw [List.getElem?_append_right (by rw [zeros_length]; omega), zeros_length, if_pos (by omega)]
    rw [show ((k : Int) - ((sc + 1 - d.length : Nat) : Int)).toNat = k - (sc + 1 - d.length) by omega]
    rw [List.getElem?_eq_getElem (by omega)]
    rfl

/-- The places ahead of the point. -/
theorem body_int (d : List UInt8) (sc : Nat) (pl : Int) (k : Nat) (I : Int) (hI : I = max ((d.length : Int) - sc) 1) (h : (k : Int) < I) : (body d sc pl)[k]? = some (dA d ((d.length : Int) - 1 - sc - (I - 1 - k))) := by
  have hl := padL_length d sc
  have e : (body d sc pl)[k]? = (padL d sc)[k]? := by
    unfold body
    rw [List.getElem?_append_left (by rw [List.length_take]; omega), List.getElem?_take, if_pos (by omega)]
  rw [e, padL_get d sc k (by omega)]
  by_cases hs : d.length ≤ sc
  · have hk : k = 0 := by omega
    subst hk
    unfold dA
    rw [if_neg (by omega), if_neg (by omega)]
  · rw [show ((k : Int) - ((sc + 1 - d.length : Nat) : Int)) = (d.length : Int) - 1 - sc - (I - 1 - k) by omega]
/-- The places behind the point. -/
theorem body_frac (d : List UInt8) (sc : Nat) (pl : Int) (j : Nat) (I : Int) (hI : I = max ((d.length : Int) - sc) 1) (hp : 0 < pl) (hs : (sc : Int) ≤ pl) (h0 : 1 ≤ j) (h : (j : Int) ≤ pl) :
    (body d sc pl)[(I + j).toNat]? = some (dA d ((d.length : Int) - 1 - sc - (-(j : Int)))) := by
  have hl := padL_length d sc
  rw [body_pos hp, List.getElem?_append_right (by rw [List.length_take]; omega), List.length_take]
  rw [show (I + j).toNat - min ((padL d sc).length - sc) (padL d sc).length = (j - 1) + 1 by omega, List.getElem?_cons_succ]
  by_cases hj : j - 1 < sc
  · rw [List.getElem?_append_left (by rw [List.length_drop]; omega), List.getElem?_drop, padL_get d sc _ (by omega)]
    rw [show ((((padL d sc).length - sc + (j - 1) : Nat) : Int) - ((sc + 1 - d.length : Nat) : Int)) = (d.length : Int) - 1 - sc - (-(j : Int)) by omega]
  · rw [List.getElem?_append_right (by rw [List.length_drop]; omega), List.length_drop]
    unfold zeros dA
    rw [List.getElem?_replicate, if_pos (by omega), if_pos (by omega), List.getElem?_eq_none (by omega)]
    rfl

open Go.PlainAid in
theorem bt_of' {t : ByteArray} {l : List UInt8} {n : Nat} {c : UInt8} (h : t.data.toList = l) (hc : l[n]? = some c) : bt t n = (c.toNat : Int) := by
  subst h
  obtain ⟨hn, hv⟩ := List.getElem?_eq_some_iff.1 hc
  have hn' : n < t.size := by rw [← toList_length]; exact hn
  rw [← get_bt t n hn', ← hv]
  rfl
theorem ext_list' {a b : ByteArray} (h : a.data.toList = b.data.toList) : a = b := by
  apply ByteArray.ext
  exact Array.toList_inj.1 h
end Go.Proofs.Qxb6617157a.Txt
