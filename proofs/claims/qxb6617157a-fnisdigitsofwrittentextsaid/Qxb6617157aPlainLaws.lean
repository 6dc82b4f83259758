import Derived.Test.Qxb6617157aPlainText
namespace Go.Proofs.Qxb6617157a.Txt

theorem padL_snoc (d : List UInt8) (sc : Nat) : padL (d ++ [48]) (sc + 1) = padL d sc ++ [48] := by
  unfold padL
  rw [List.length_append, List.length_singleton, show sc + 1 + 1 - (d.length + 1) = sc + 1 - d.length by omega, List.append_assoc]
theorem zeros_snoc (n : Nat) : 48 :: zeros n = zeros n ++ [48] := by
  unfold zeros
  rw [← List.replicate_succ, List.replicate_succ']
theorem body_snoc_pos (d : List UInt8) (sc : Nat) (pl : Int) (h : 0 < pl) (hs : (sc : Int) ≤ pl) : body (d ++ [48]) (sc + 1) (pl + 1) = body d sc pl ++ [48] := by
  have hl := padL_length d sc
  rw [body_pos h, body_pos (by omega), padL_snoc, List.length_append, List.length_singleton]
  have e1 : (padL d sc).length + 1 - (sc + 1) = (padL d sc).length - sc := by omega
  have e2 : (pl + 1).toNat - (sc + 1) = pl.toNat - sc := by omega
  rw [e1, e2, List.take_append_of_le_length (by omega), List.drop_append_of_le_length (by omega), List.append_assoc, List.append_assoc]
  simp [zeros_snoc]
theorem body_snoc_neg (d : List UInt8) (sc : Nat) (pl : Int) (h : ¬ 0 < pl) : body (d ++ [48]) (sc + 1) pl = body d sc pl := by
  have hl := padL_length d sc
  rw [body_neg h, body_neg h, padL_snoc, List.length_append, List.length_singleton]
  have e1 : (padL d sc).length + 1 - (sc + 1) = (padL d sc).length - sc := by omega
  rw [e1, List.take_append_of_le_length (by omega)]
theorem text_snoc_pos (d : List UInt8) (neg : Bool) (sc : Nat) (pl : Int) (h : 0 < pl) (hs : (sc : Int) ≤ pl) : text (d ++ [48]) neg (sc + 1) (pl + 1) = text d neg sc pl ++ [48] := by
  unfold text; rw [body_snoc_pos d sc pl h hs, List.append_assoc]
theorem text_snoc_neg (d : List UInt8) (neg : Bool) (sc : Nat) (pl : Int) (h : ¬ 0 < pl) : text (d ++ [48]) neg (sc + 1) pl = text d neg sc pl := by
  unfold text; rw [body_snoc_neg d sc pl h]

theorem body_length_pos (d : List UInt8) (sc : Nat) (pl : Int) (h : 0 < pl) (hs : (sc : Int) ≤ pl) : (body d sc pl).length = max (d.length - sc) 1 + 1 + pl.toNat := by
  have hl := padL_length d sc
  rw [body_pos h, List.length_append, List.length_cons, List.length_append, zeros_length, List.length_take, List.length_drop]
  omega
theorem body_length_neg (d : List UInt8) (sc : Nat) (pl : Int) (h : ¬ 0 < pl) : (body d sc pl).length = max (d.length - sc) 1 := by
  have hl := padL_length d sc
  rw [body_neg h, List.length_take]
  omega
theorem text_length (d : List UInt8) (neg : Bool) (sc : Nat) (pl : Int) : (text d neg sc pl).length = (if neg then 1 else 0) + (body d sc pl).length := by
  unfold text; rw [List.length_append]; cases neg <;> rfl

/-- The byte at the point's place. -/
theorem body_point (d : List UInt8) (sc : Nat) (pl : Int) (h : 0 < pl) : (body d sc pl)[max (d.length - sc) 1]? = some 46 := by
  have hl := padL_length d sc
  rw [body_pos h, List.getElem?_append_right (by rw [List.length_take]; omega), List.length_take]
  rw [show max (d.length - sc) 1 - min ((padL d sc).length - sc) (padL d sc).length = 0 by omega]
  rfl
theorem text_point (d : List UInt8) (neg : Bool) (sc : Nat) (pl : Int) (h : 0 < pl) (hs : (sc : Int) ≤ pl) : (text d neg sc pl)[(text d neg sc pl).length - 1 - pl.toNat]? = some 46 := by
  have e := body_point d sc pl h
  have hb := body_length_pos d sc pl h hs
  have ht := text_length d neg sc pl
  have hx : ∀ n, n = (if neg then 1 else 0) + max (d.length - sc) 1 → (text d neg sc pl)[n]? = some 46 := by
    intro n hn
    unfold text
    rw [List.getElem?_append_right (by cases neg <;> simp at hn ⊢; omega)]
    rw [show n - (if neg = true then [(45 : UInt8)] else []).length = max (d.length - sc) 1 by cases neg <;> simp at hn ⊢ <;> omega]
    exact e
  apply hx
  omega
theorem size_pos {t s : ByteArray} {neg : Bool} {sc pl : Int} (m I : Int) (ht : t.data.toList = text s.data.toList neg sc.toNat pl) (h0 : 0 ≤ sc) (hp : 0 < pl) (hs : sc ≤ pl)
    (hm : m = if neg then 1 else 0) (hI : I = max ((s.size : Int) - sc) 1) : (t.size : Int) = m + I + 1 + pl := by
  have e := text_length s.data.toList neg sc.toNat pl
  rw [body_length_pos _ _ _ hp (by omega), ← ht, toList_length, toList_length] at e
  cases neg <;> simp at e hm <;> omega
theorem size_neg {t s : ByteArray} {neg : Bool} {sc pl : Int} (m I : Int) (ht : t.data.toList = text s.data.toList neg sc.toNat pl) (h0 : 0 ≤ sc) (hp : ¬ 0 < pl)
    (hm : m = if neg then 1 else 0) (hI : I = max ((s.size : Int) - sc) 1) : (t.size : Int) = m + I := by
  have e := text_length s.data.toList neg sc.toNat pl
  rw [body_length_neg _ _ _ hp, ← ht, toList_length, toList_length] at e
  cases neg <;> simp at e hm <;> omega
theorem text_minus (d : List UInt8) (sc : Nat) (pl : Int) : (text d true sc pl)[0]? = some 45 := rfl
end Go.Proofs.Qxb6617157a.Txt
