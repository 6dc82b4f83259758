import Derived.WalkKit
namespace Go.Proofs.Qxb6616485aDoor.En

/-- A number as a uvarint, with fuel. -/
def uvarF : Nat → Nat → List UInt8
  | 0, v => [UInt8.ofNat v]
  | f + 1, v => if v < 128 then [UInt8.ofNat v] else UInt8.ofNat (v % 128 + 128) :: uvarF f (v / 128)
/-- A number as a uvarint (below 2^70). -/
def uvar (v : Nat) : List UInt8 := uvarF 9 v
/-- The j-th byte and what is left above it. -/
def shr8 (u j : Nat) : Nat := u / 256 ^ j
/-- The first k bytes, the lowest first. -/
def le (u : Nat) : Nat → List UInt8
  | 0 => []
  | k + 1 => le u k ++ [UInt8.ofNat (shr8 u k % 256)]
/-- One field's value as a row holds it. -/
def enc (T : Nat → Bool) (N : Nat → Int) (S : Nat → ByteArray) (i : Nat) : List UInt8 :=
  if T i then 2 :: (uvar (S i).size ++ (S i).data.toList) else 1 :: le (N i % 18446744073709551616).toNat 8
/-- The values of the fields fr .. fr + k - 1. -/
def encs (T : Nat → Bool) (N : Nat → Int) (S : Nat → ByteArray) (fr : Nat) : Nat → List UInt8
  | 0 => []
  | k + 1 => encs T N S fr k ++ enc T N S (fr + k)

theorem uvarF_lt (f v : Nat) (h : v < 128) : uvarF f v = [UInt8.ofNat v] := by
  cases f with
  | zero => rfl
  | succ f => unfold uvarF; rw [if_pos h]
theorem uvarF_ge (f v : Nat) (h : ¬ v < 128) : uvarF (f + 1) v = UInt8.ofNat (v % 128 + 128) :: uvarF f (v / 128) := by
  rw [uvarF, if_neg h]
theorem uvarF_length : ∀ f v, (uvarF f v).length ≤ f + 1
  | 0, v => by simp [uvarF]
  | f + 1, v => by
    unfold uvarF
    split
    · simp
    · have := uvarF_length f (v / 128)
      simp; omega
/-- The fuel is enough. -/
def Fit (f y : Nat) : Prop := y < 128 ^ (f + 1)
theorem fit_start {y : Nat} (h : y ≤ 1048576) : Fit 9 y := by
  unfold Fit
  exact Nat.lt_of_le_of_lt h (by decide +kernel)
theorem fit_step {f y : Nat} (h : Fit f y) (hy : ¬ y < 128) : ∃ f', f = f' + 1 ∧ Fit f' (y / 128) := by
  unfold Fit at *
  cases f with
  | zero => simp at h; omega
  | succ f =>
    refine ⟨f, rfl, ?_⟩
    rw [Nat.pow_succ] at h
    exact Nat.div_lt_of_lt_mul (by rw [Nat.mul_comm]; exact h)
theorem shr8_zero (u : Nat) : shr8 u 0 = u := by simp [shr8]
theorem shr8_succ (u j : Nat) : shr8 u (j + 1) = shr8 u j / 256 := by
  unfold shr8; rw [Nat.pow_succ, Nat.div_div_eq_div_mul]
theorem shr8_le (u j : Nat) : shr8 u j ≤ u := Nat.div_le_self _ _
theorem le_length (u : Nat) : ∀ k, (le u k).length = k
  | 0 => rfl
  | k + 1 => by simp [le, le_length u k]
theorem enc_text {T : Nat → Bool} {N : Nat → Int} {S : Nat → ByteArray} {i : Nat} (h : T i = true) : enc T N S i = 2 :: (uvar (S i).size ++ (S i).data.toList) := by
  unfold enc; rw [if_pos h]
theorem enc_int {T : Nat → Bool} {N : Nat → Int} {S : Nat → ByteArray} {i : Nat} (h : T i = false) : enc T N S i = 1 :: le (N i % 18446744073709551616).toNat 8 := by
  unfold enc; rw [if_neg (by simp [h])]
theorem enc_length (T : Nat → Bool) (N : Nat → Int) (S : Nat → ByteArray) (i : Nat) : (enc T N S i).length ≤ 11 + (S i).size := by
  cases h : T i
  · rw [enc_int h, List.length_cons, le_length]; omega
  · rw [enc_text h, List.length_cons, List.length_append]
    have := uvarF_length 9 (S i).size
    have e : (S i).data.toList.length = (S i).size := by cases S i; rfl
    unfold uvar
    omega
theorem encs_length (T : Nat → Bool) (N : Nat → Int) (S : Nat → ByteArray) (fr : Nat) (M : Nat) : ∀ k, (∀ i, i < k → (S (fr + i)).size ≤ M) → (encs T N S fr k).length ≤ k * (11 + M)
  | 0, _ => by simp [encs]
  | k + 1, h => by
    have := encs_length T N S fr M k (fun i hi => h i (by omega))
    have := enc_length T N S (fr + k)
    have := h k (by omega)
    rw [encs, List.length_append, Nat.succ_mul]
    omega
theorem encs_add (T : Nat → Bool) (N : Nat → Int) (S : Nat → ByteArray) (fr a : Nat) : ∀ b, encs T N S fr (a + b) = encs T N S fr a ++ encs T N S (fr + a) b
  | 0 => by simp [encs]
  | b + 1 => by
    rw [← Nat.add_assoc, encs, encs, encs_add T N S fr a b, List.append_assoc, Nat.add_assoc]

theorem nat_or_128 : ∀ y, y < 256 → y ||| 128 = y % 128 + 128 := by decide +kernel
/-- A byte with its high bit set. -/
theorem or_128 (x : Nat) : bits .or .u8 (IntKind.u8.wrap (x : Int)) 128 = ((UInt8.ofNat (x % 128 + 128)).toNat : Int) := by
  have e1 : IntKind.u8.wrap (x : Int) = ((x % 256 : Nat) : Int) := by rw [IntKind.wrap_u8]; omega
  have e2 := u8_or_nat (x % 256) 128 (by omega) (by omega)
  rw [e1]
  refine e2.trans ?_
  rw [nat_or_128 _ (by omega), UInt8.toNat_ofNat']
  omega
theorem or_128' (x : Nat) : bits .or .u8 ((x : Int) % 256) 128 = ((UInt8.ofNat (x % 128 + 128)).toNat : Int) := by
  have := or_128 x
  rwa [IntKind.wrap_u8] at this
/-- A byte of a uvarint that goes on; the last one; the j-th byte of a number. -/
def contB (y : Nat) : UInt8 := UInt8.ofNat (y % 128 + 128)
def lastB (y : Nat) : UInt8 := UInt8.ofNat y
def numB (u j : Nat) : UInt8 := UInt8.ofNat (shr8 u j % 256)
theorem contB_or (x : Nat) : bits .or .u8 ((x : Int) % 256) 128 = ((contB x).toNat : Int) := or_128' x
theorem lastB_val (x : Nat) (h : x < 128) : ((lastB x).toNat : Int) = (x : Int) := by
  unfold lastB; rw [UInt8.toNat_ofNat']; omega
theorem numB_val (u j : Nat) : ((numB u j).toNat : Int) = (shr8 u j : Int) % 256 := by
  unfold numB; rw [UInt8.toNat_ofNat']; omega
/-- A text's bytes behind l: its kind, and part of its length. -/
def txt (l pre : List UInt8) : List UInt8 := l ++ 2 :: pre
/-- An integer's bytes behind l: its kind, and its first j bytes. -/
def num (l : List UInt8) (u j : Nat) : List UInt8 := l ++ 1 :: le u j
theorem txt_nil (l : List UInt8) : l ++ [2] = txt l [] := rfl
theorem txt_snoc (l pre : List UInt8) (c : UInt8) : txt l pre ++ [c] = txt l (pre ++ [c]) := by unfold txt; rw [List.append_assoc]; rfl
theorem num_nil (l : List UInt8) (u : Nat) : l ++ [1] = num l u 0 := rfl
theorem num_snoc (l : List UInt8) (u j : Nat) : num l u j ++ [numB u j] = num l u (j + 1) := by unfold num; rw [List.append_assoc]; rfl
theorem txt_length (l pre : List UInt8) : (txt l pre).length = l.length + 1 + pre.length := by unfold txt; rw [List.length_append, List.length_cons]; omega
theorem num_length (l : List UInt8) (u j : Nat) : (num l u j).length = l.length + 1 + j := by unfold num; rw [List.length_append, List.length_cons, le_length]; omega
theorem pre_cont {f y : Nat} {pre l : List UInt8} (h : pre ++ uvarF (f + 1) y = l) (hy : ¬ y < 128) : (pre ++ [contB y]) ++ uvarF f (y / 128) = l := by
  rw [← h, uvarF_ge f y hy, List.append_assoc]; rfl
theorem pre_last {f y : Nat} {pre l : List UInt8} (h : pre ++ uvarF f y = l) (hy : y < 128) : pre ++ [lastB y] = l := by
  rw [← h, uvarF_lt f y hy]; rfl
theorem encs_txt {T : Nat → Bool} {N : Nat → Int} {S : Nat → ByteArray} {fr k : Nat} (h : T (fr + k) = true) : txt (encs T N S fr k) (uvar (S (fr + k)).size) ++ (S (fr + k)).data.toList = encs T N S fr (k + 1) := by
  rw [encs, enc_text h, txt, List.append_assoc]; rfl
theorem encs_num {T : Nat → Bool} {N : Nat → Int} {S : Nat → ByteArray} {fr k : Nat} (h : T (fr + k) = false) : num (encs T N S fr k) (N (fr + k) % 18446744073709551616).toNat 8 = encs T N S fr (k + 1) := by
  rw [encs, enc_int h, num]
theorem encs_head (T : Nat → Bool) (N : Nat → Int) (S : Nat → ByteArray) (fr k n : Nat) (h : k < n) : encs T N S (fr + k) (n - k) = enc T N S (fr + k) ++ encs T N S (fr + (k + 1)) (n - (k + 1)) := by
  have e := encs_add T N S (fr + k) 1 (n - (k + 1))
  rw [show 1 + (n - (k + 1)) = n - k by omega] at e
  rw [e]
  simp [encs, Nat.add_assoc]
/-- What is left of a string behind its first byte. -/
theorem ext1 {r : ByteArray} {c : UInt8} {l : List UInt8} (h : r.data.toList = c :: l) : (r.extract 1 r.size).data.toList = l := by
  have hl : r.data.toList.length = r.size := by cases r; rfl
  rw [ByteArray.data_extract, Array.toList_extract, List.extract_eq_take_drop, h, List.drop_one, List.tail_cons]
  refine List.take_of_length_le ?_
  rw [h, List.length_cons] at hl
  omega
theorem size_of {r : ByteArray} {l : List UInt8} (h : r.data.toList = l) : r.size = l.length := by
  rw [← h]; cases r; rfl
theorem le8 (u : Nat) : le u 8 = [numB u 0, numB u 1, numB u 2, numB u 3, numB u 4, numB u 5, numB u 6, numB u 7] := rfl
end Go.Proofs.Qxb6616485aDoor.En
