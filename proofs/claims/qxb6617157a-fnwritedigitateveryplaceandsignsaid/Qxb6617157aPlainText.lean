import Derived.WalkKit
import Derived.Lib.Repeat
namespace Go.Proofs.Qxb6617157a.Txt

/-- n zeros. -/
def zeros (n : Nat) : List UInt8 := List.replicate n 48
theorem zeros_length (n : Nat) : (zeros n).length = n := by simp [zeros]
theorem repeatL_zero (n : Nat) : Lib.repeatL [48] n = zeros n := by
  have := Lib.repeatL_replicate 48 1 n
  simpa [zeros] using this

/-- The digits, with zeros ahead so that one stands ahead of the point. -/
def padL (d : List UInt8) (sc : Nat) : List UInt8 := zeros (sc + 1 - d.length) ++ d
/-- The unsigned text. -/
def body (d : List UInt8) (sc : Nat) (pl : Int) : List UInt8 :=
  (padL d sc).take ((padL d sc).length - sc) ++ (if 0 < pl then 46 :: ((padL d sc).drop ((padL d sc).length - sc) ++ zeros (pl.toNat - sc)) else [])
/-- What write writes. -/
def text (d : List UInt8) (neg : Bool) (sc : Nat) (pl : Int) : List UInt8 := (if neg then [45] else []) ++ body d sc pl

theorem padL_length (d : List UInt8) (sc : Nat) : (padL d sc).length = max d.length (sc + 1) := by
  unfold padL; rw [List.length_append, zeros_length]; omega

theorem body_pos {d : List UInt8} {sc : Nat} {pl : Int} (h : 0 < pl) : body d sc pl = (padL d sc).take ((padL d sc).length - sc) ++ 46 :: ((padL d sc).drop ((padL d sc).length - sc) ++ zeros (pl.toNat - sc)) := by
  unfold body; rw [if_pos h]
theorem body_neg {d : List UInt8} {sc : Nat} {pl : Int} (h : ¬ 0 < pl) : body d sc pl = (padL d sc).take ((padL d sc).length - sc) := by
  unfold body; rw [if_neg h, List.append_nil]

/-- The padded digits, as the walk comes to them: behind z zeros. -/
theorem padL_of {d z : List UInt8} {sc : Nat} (hz : z = zeros (sc + 1 - d.length)) : padL d sc = z ++ d := by unfold padL; rw [hz]
theorem padL_long {d : List UInt8} {sc : Nat} (h : sc < d.length) : padL d sc = d := by
  unfold padL; rw [show sc + 1 - d.length = 0 by omega]; rfl

theorem toList_append (a b : ByteArray) : (a ++ b).data.toList = a.data.toList ++ b.data.toList := by
  rw [ByteArray.data_append, Array.toList_append]
theorem toList_extract (a : ByteArray) (i j : Nat) : (a.extract i j).data.toList = (a.data.toList.take j).drop i := by
  rw [ByteArray.data_extract, Array.toList_extract, List.extract_eq_take_drop, List.drop_take]
theorem toList_length (a : ByteArray) : a.data.toList.length = a.size := by cases a; rfl

/-- The unsigned text with places, as the walk comes to it. -/
theorem fin_pos {p z : ByteArray} {d : List UInt8} {sc pl : Int} {n m : Nat} (hp : p.data.toList = padL d sc.toNat) (hz : z.data.toList = zeros (pl - sc).toNat)
    (h0 : 0 ≤ sc) (hpl : 0 < pl) (hn : n + sc.toNat = p.size) (hm : p.size ≤ m) :
    (p.extract 0 n ++ (⟨#[46]⟩ ++ p.extract n m ++ z)).data.toList = body d sc.toNat pl := by
  have hl := toList_length p
  have e1 : (padL d sc.toNat).length - sc.toNat = n := by rw [← hp]; omega
  have e2 : (p.data.toList.take m) = p.data.toList := List.take_of_length_le (by omega)
  have e3 : (pl - sc).toNat = pl.toNat - sc.toNat := by omega
  rw [body_pos hpl, e1, toList_append, toList_append, toList_append, toList_extract, toList_extract, e2, hz, e3, hp]
  rfl
theorem fin_neg {p : ByteArray} {d : List UInt8} {sc pl : Int} {n : Nat} (hp : p.data.toList = padL d sc.toNat)
    (hpl : ¬ 0 < pl) (hn : n + sc.toNat = p.size) :
    (p.extract 0 n).data.toList = body d sc.toNat pl := by
  have hl := toList_length p
  have e1 : (padL d sc.toNat).length - sc.toNat = n := by rw [← hp]; omega
  rw [body_neg hpl, e1, toList_extract, hp]
  rfl
theorem sign_no {t : ByteArray} {d : List UInt8} {sc : Nat} {pl : Int} (h : t.data.toList = body d sc pl) : t.data.toList = text d false sc pl := by
  rw [h]; rfl
theorem sign_yes {t : ByteArray} {d : List UInt8} {sc : Nat} {pl : Int} (h : t.data.toList = body d sc pl) : ((⟨#[45]⟩ : ByteArray) ++ t).data.toList = text d true sc pl := by
  rw [toList_append, h]; rfl
theorem pad_long {s : ByteArray} {sc : Int} (h0 : 0 ≤ sc) (h1 : sc < (s.size : Int)) : s.data.toList = padL s.data.toList sc.toNat := by
  rw [padL_long (by rw [toList_length]; omega)]
theorem pad_short {s z : ByteArray} {sc : Int} (h0 : 0 ≤ sc) (hz : z.data.toList = zeros (sc + 1 - (s.size : Int)).toNat) : (z ++ s).data.toList = padL s.data.toList sc.toNat := by
  rw [toList_append, padL, hz, toList_length, show (sc + 1 - (s.size : Int)).toNat = sc.toNat + 1 - s.size by omega]
end Go.Proofs.Qxb6617157a.Txt
