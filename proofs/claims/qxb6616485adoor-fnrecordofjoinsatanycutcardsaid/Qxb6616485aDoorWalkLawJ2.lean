import Derived.Test.Qxb6616485aDoorWalkUp
import Derived.WalkSpells
import Derived.Deep.QuietTactic
import Derived.BigQuiet
import Derived.WalkSmall
namespace Go.Proofs.Qxb6616485aDoor.Wk
open Go.RowKit Go.PlainAid En

theorem size_le_sum' (S : Nat → ByteArray) (i : Nat) : ∀ n, i < n → (S i).size ≤ sumS S n
  | 0, h => by omega
  | n + 1, h => by
    rw [sumS]
    by_cases hi : i < n
    · have := size_le_sum' S i n hi; omega
    · obtain rfl : i = n := by omega
      omega
theorem below_w3' (w : World) (tn key row : ByteArray) : Below w.heap.size w (w3 w tn key row) := by
  unfold w3
  exact ((((Below.refl _ _).alloc (Nat.le_refl _) _).alloc (by simp) _).alloc (by simp; omega) _)

/-- What decode hands back at a nil dst. -/
def DecN (T : Nat → Bool) (N : Nat → Int) (S : Nat → ByteArray) (fr m : Nat) (W : World) (v : Value) (w' : World) : Prop := RecAt w' v T N S fr m ∧ Below W.heap.size W w'

theorem decodeN (T : Nat → Bool) (N : Nat → Int) (S : Nat → ByteArray) (fr tb : Nat) (fa : Option Addr) (m fc : Nat) (s : ByteArray) (W : World) (ht : W.cell? ⟨tb, 0, none⟩ = some (.slice fa m fc)) (hm6 : m ≤ 65536) (hs : s.data.toList = encs T N S fr m)
    (hM : ∀ i, i < m → (S (fr + i)).size ≤ 1048576) (hNb : ∀ i, i < m → -9223372036854775808 ≤ N (fr + i) ∧ N (fr + i) ≤ 9223372036854775807) :
    Calls Tryd.prog 19 #[.pointer (some ⟨tb, 0, none⟩), .slice none 0 0, .string s] W fun e w' => ∃ v, e = .returned v ∧ DecN T N S fr m W v w' := by
  by_cases h0 : m = 0
  · subst h0
    refine (decode_zero tb fa fc s W ht).mono ?_
    rintro e w' ⟨he, hw⟩
    exact ⟨_, he, ⟨_, _, rfl, fun j hj => by omega⟩, hw ▸ Below.refl _ _⟩
  · exact (decode_nil T N S fr tb fa m fc _ (by omega) s W rfl ht hm6 hs hM hNb).mono fun e w' ⟨he, h1, h2⟩ => ⟨_, he, recAt_of h1, h2⟩

/-- What a row holds behind its key. -/
theorem behind_row {key row : ByteArray} {l : List UInt8} (h : row.data.toList = key.data.toList ++ l) : (row.extract key.size row.size).data.toList = l := by
  rw [toList_extract, List.take_of_length_le (by rw [← size_of (r := row) rfl]; exact Nat.le_refl _), h, size_of (r := key) rfl, List.drop_left]
theorem row_le {key row : ByteArray} {l : List UInt8} (h : row.data.toList = key.data.toList ++ l) : (key.size : Int) ≤ (row.size : Int) := by
  have := size_of h
  rw [List.length_append, ← size_of (r := key) rfl] at this
  omega
theorem not_removal' {key row : ByteArray} {T : Nat → Bool} {N : Nat → Int} {S : Nat → ByteArray} {fr n : Nat} (h : row.data.toList = key.data.toList ++ encs T N S fr n) : ((row.extract key.size row.size).toList == [0]) = false := by
  rw [ByteArray.toList_eq, behind_row h]
  exact beq_eq_false_iff_ne.2 (enc_ne T N S fr n)

/-- recordOf of the row of the fields fr .. fr + m - 1 at a nil dst. -/
theorem recordN (T : Nat → Bool) (N : Nat → Int) (S : Nat → ByteArray) (fr tb : Nat) (fa : Option Addr) (m fc : Nat) (tn key row : ByteArray) (w : World) (ht : w.cell? ⟨tb, 0, none⟩ = some (.slice fa m fc)) (hm6 : m ≤ 65536)
    (hrow : row.data.toList = key.data.toList ++ encs T N S fr m) (hM : ∀ i, i < m → (S (fr + i)).size ≤ 1048576) (hNb : ∀ i, i < m → -9223372036854775808 ≤ N (fr + i) ∧ N (fr + i) ≤ 9223372036854775807) :
    Calls Tryd.prog 10 #[.pointer (some ⟨tb, 0, none⟩), .slice none 0 0, .string tn, .string key, .string row] w fun e w' => ∃ a cap, e = .returned (.tuple #[.slice a m cap, .bool true]) ∧ RecAt w' (.slice a m cap) T N S fr m ∧ Below w.heap.size w w' := by
  have hW := below_w3' w tn key row
  refine (record10 _ _ tn key row w _ (row_le hrow) (not_removal' hrow) (decodeN T N S fr tb fa m fc _ _ (cell_up hW ht) hm6 (behind_row hrow) hM hNb)).mono ?_
  rintro e w' ⟨v, rfl, hr, hb⟩
  obtain ⟨a, cap, rfl, hc⟩ := hr
  exact ⟨a, cap, rfl, ⟨a, cap, rfl, hc⟩, bel_up hW hb⟩

theorem conv0 (W : World) (a : Addr) (h : W.cell? a = some (.int .u8 0)) :
    (convert 39 9 (.slice (some a) 1 1)).run Tryd.prog W = .ok (.string ⟨#[0]⟩) W := by
  rw [run_convert_bytes_string W 39 9 5 _ _ _ Tryd.underlying39 Tryd.underlying5 Tryd.underlying9]
  rw [run_bytesToString W a 1 1 [0]]
  · simp
    rfl
  · have hl := run_loadCells W a 1 (fun _ => .int .u8 0) (P := Tryd.prog)
      (fun j hj => by
        have e : j = 0 := by omega
        subst e
        simpa [Addr.add] using h)
    rw [hl]
    rfl

theorem holdsN (T : Nat → Bool) (N : Nat → Int) (S : Nat → ByteArray) (ra : Option Addr) (rc : Nat) (ta : Option Addr) (tc : Nat) (na : Option Addr) (nc : Nat) (sa : Option Addr) (sc : Nat) (n : Nat) (x : Int) (hx : x = (n : Int)) (w : World)
    (hR : RecAt w (.slice ra n rc) T N S 0 n) (hT : Bools w ta n T) (hN : Ints w na n N) (hS : Strs w sa n S) (h6 : n ≤ 65536) (hM : ∀ i, i < n → (S i).size ≤ 1048576) :
    Calls Tryd.prog 11 #[.slice ra n rc, .slice ta n tc, .slice na n nc, .slice sa n sc, .int .i64 0, .int .i64 x] w fun e w' => e = .returned (.bool true) ∧ Below w.heap.size w w' := by
  subst hx
  exact holds11 T N S ra rc ta n tc na n nc sa n sc n w hR hT hN hS (Nat.le_refl n) (Nat.le_refl n) (Nat.le_refl n) h6 hM

/-- The row of a removal. -/
theorem removal (key : ByteArray) : ((((key ++ ⟨#[0]⟩).extract key.size (key ++ ⟨#[0]⟩ : ByteArray).size).toList == [0]) = true) ∧ (key.size : Int) ≤ ((key ++ ⟨#[0]⟩ : ByteArray).size : Int) := by
  have h : (key ++ (⟨#[0]⟩ : ByteArray)).data.toList = key.data.toList ++ [0] := toList_append _ _
  refine ⟨?_, row_le h⟩
  rw [ByteArray.toList_eq, behind_row h]
  rfl

set_option maxRecDepth 1000000 in
set_option maxHeartbeats 8000000 in
theorem joinLaw_main (tb key : ByteArray) (fa : Option Addr) (m q fc : Nat) (F : Nat → ByteArray) (ta : Option Addr) (tc : Nat) (T : Nat → Bool) (na : Option Addr) (nc : Nat) (N : Nat → Int) (sa : Option Addr) (sc : Nat) (S : Nat → ByteArray) (d : Nat) (w : World)
    (hF : Strs w fa (m + q) F) (hT : Bools w ta (m + q) T) (hN : Ints w na (m + q) N) (hS : Strs w sa (m + q) S) (hnil : fa = none → m + q = 0 ∧ fc = 0) (hcap : m + q ≤ fc) (l1 : tb.size ≤ 9223372036854775807) (l2 : key.size ≤ 9223372036854775807) (l3 : m + q ≤ 9223372036854775807) (hd : d ≤ 65536)
    (xb : Option Addr) (cb : Nat) (hsl : ∀ w, (Instr.slice 22 (.slice fa (m + q) fc) (some (.int .i64 m)) none none).run Tryd.prog w = .ok (.slice xb q cb) w) (hxb : Strs w xb q (fun i => F (m + i))) (hxn : xb = none → q = 0 ∧ cb = 0) :
    Calls Tryd.prog 3 #[.string tb, .string key, .slice fa (m + q) fc, .slice ta (m + q) tc, .slice na (m + q) nc, .slice sa (m + q) sc, .int .i64 m, .int .i64 d] w fun e w' => e = .returned (.bool true) ∧ Below w.heap.size w w' := by
  have hb5 := bytes5 tb key fa (m + q) fc F ta (m + q) tc na (m + q) nc sa (m + q) sc S m d w hF hS l1 l2 l3 l3 l3 l3
  have hb6 := tooBig6 tb key fa (m + q) fc F ta (m + q) tc na (m + q) nc sa (m + q) sc S w hF hS l1 l2 l3 l3 l3 l3
  obtain ⟨i0, hi, hz0, hz1, hz2⟩ := info_parts info37
  have d0 : (0 : Int) ≤ (d : Int) := by omega
  have d1 : (d : Int) ≤ 65536 := by omega
  have m0 : (0 : Int) ≤ (m : Int) := by omega
  have m1 : (m : Int) ≤ (fc : Int) := by omega
  go_enter Tryd.func3, Tryd.ntmps3
  go_wp2_with fail
  refine hb5.mono ?_
  rintro e w1 ⟨⟨r, rfl⟩, hw⟩
  rw [hw]
  clear hw hb5
  cases r
  · go_wp2
    go_ret
    exact ⟨rfl, Below.refl _ _⟩
  go_wp2_with fail
  all_goals try (go_ret; exact ⟨rfl, Below.refl _ _⟩)
  refine hb6.mono ?_
  rintro e w2 ⟨h, hw⟩
  rw [hw]
  clear hw hb6
  rcases h with rfl | ⟨rfl, hsm⟩
  · go_wp2
    go_ret
    exact ⟨rfl, Below.refl _ _⟩
  obtain ⟨k1, k2, _, _, _, k6⟩ := hsm
  have hM : Hid (∀ i, i < m + q → (S i).size ≤ 1048576) := fun i hi => Nat.le_trans (size_le_sum' S i (m + q) hi) k6
  have hNb : Hid (∀ i, i < m + q → -9223372036854775808 ≤ N i ∧ N i ≤ 9223372036854775807) := fun i hi => by
    obtain ⟨_, _, _, _, h0, h1⟩ := hN i hi
    exact ⟨h0, h1⟩
  go_wp2_with fail
  refine (copy_any fa (m + q) fc F _ k2 hnil hF).mono ?_
  rintro e wa ⟨a1, c1, rfl, hba⟩
  go_wp2_with fail
  refine (newTable_any _ _ _ _).mono ?_
  rintro e wb ⟨rfl, hw⟩
  have hb0b : Below w.heap.size w wb := bel_up hba (by rw [hw]; exact (Below.refl _ _).alloc (Nat.le_refl _) _)
  have ht1 : wb.cell? ⟨wa.heap.size, 0, none⟩ = some (.slice a1 (m + q) c1) := by rw [hw]; simp
  clear hw hba
  generalize wa.heap.size = kAB at *
  go_wp2_with fail
  refine (copy_any fa m fc F _ (by omega) (fun h => by obtain ⟨h1, h2⟩ := hnil h; exact ⟨by omega, h2⟩) (fun i hi => hF.up hb0b i (by omega))).mono ?_
  rintro e wc ⟨a2, c2, rfl, hbc⟩
  have hb0c := bel_up hb0b hbc
  have ht1c := cell_up hbc ht1
  clear ht1 hbc
  go_wp2_with fail
  refine (newTable_any _ _ _ _).mono ?_
  rintro e wd ⟨rfl, hw⟩
  have hbd : Below wc.heap.size wc wd := by rw [hw]; exact (Below.refl _ _).alloc (Nat.le_refl _) _
  have ht2 : wd.cell? ⟨wc.heap.size, 0, none⟩ = some (.slice a2 m c2) := by rw [hw]; simp
  clear hw
  have hb0d := bel_up hb0c hbd
  have ht1d := cell_up hbd ht1c
  clear ht1c hbd
  generalize wc.heap.size = kA at *
  go_wp2_with fail
  clear hsl
  refine (copy_any xb q cb _ _ (by omega) hxn (hxb.up hb0d)).mono ?_
  rintro e we ⟨a3, c3, rfl, hbe⟩
  have hb0e := bel_up hb0d hbe
  have ht1e := cell_up hbe ht1d
  have ht2e := cell_up hbe ht2
  clear ht1d ht2 hbe
  go_wp2_with fail
  refine (newTable_any _ _ _ _).mono ?_
  rintro e wf ⟨rfl, hw⟩
  have hbf : Below we.heap.size we wf := by rw [hw]; exact (Below.refl _ _).alloc (Nat.le_refl _) _
  have ht3 : wf.cell? ⟨we.heap.size, 0, none⟩ = some (.slice a3 q c3) := by rw [hw]; simp
  clear hw
  have hb0f := bel_up hb0e hbf
  have ht1f := cell_up hbf ht1e
  have ht2f := cell_up hbf ht2e
  clear ht1e ht2e hbf
  generalize we.heap.size = kB at *
  go_wp2_with fail
  refine (encode ta (m + q) tc T na (m + q) nc N sa (m + q) sc S _ _ 0 m _ (hT.up hb0f) (hN.up hb0f) (hS.up hb0f) rfl rfl (by omega) (by omega) (by omega) (by omega) (by omega) (fun i hi => hM.out i hi)).mono ?_
  rintro e wg ⟨EA, rfl, hEA, hEAs, hbg⟩
  rw [Nat.sub_zero] at hEA
  have hb0g := bel_up hb0f hbg
  have ht1g := cell_up hbg ht1f
  have ht2g := cell_up hbg ht2f
  have ht3g := cell_up hbg ht3
  clear ht1f ht2f ht3 hbg
  go_wp2_with fail
  refine (encode ta (m + q) tc T na (m + q) nc N sa (m + q) sc S _ _ m (m + q) _ (hT.up hb0g) (hN.up hb0g) (hS.up hb0g) rfl (by omega) (by omega) (by omega) (by omega) (by omega) k2 (fun i hi => hM.out i hi)).mono ?_
  rintro e wh ⟨EB, rfl, hEB, hEBs, hbh⟩
  rw [Nat.add_sub_cancel_left] at hEB
  have hb0h := bel_up hb0g hbh
  have ht1h := cell_up hbh ht1g
  have ht2h := cell_up hbh ht2g
  have ht3h := cell_up hbh ht3g
  clear ht1g ht2g ht3g hbh
  have hk1 : (key.size : Int) ≤ 1048576 := by omega
  have rowA : Hid ((key ++ EA).data.toList = key.data.toList ++ encs T N S 0 m) := by show _ = _; rw [toList_append, hEA.out]
  have rowB : Hid ((key ++ EB).data.toList = key.data.toList ++ encs T N S m q) := by show _ = _; rw [toList_append, hEB.out]
  have rowAB : Hid ((key ++ EA ++ EB).data.toList = key.data.toList ++ encs T N S 0 (m + q)) := by
    show _ = _
    rw [toList_append, toList_append, hEA.out, hEB.out, encs_add, Nat.zero_add, List.append_assoc]
  go_wp2_with fail
  refine (recordN T N S 0 kA a2 m c2 tb key (key ++ EA) _ ht2h (by omega) rowA (fun i hi => by rw [Nat.zero_add]; exact hM.out i (by omega)) (fun i hi => by rw [Nat.zero_add]; exact hNb.out i (by omega))).mono ?_
  rintro e wi ⟨ra, rca, rfl, hRA, hbi⟩
  have hb0i := bel_up hb0h hbi
  have ht1i := cell_up hbi ht1h
  have ht3i := cell_up hbi ht3h
  clear ht1h ht2h ht3h hbi
  go_wp2_with fail
  refine (recordN T N S m kB a3 q c3 tb key (key ++ EB) _ ht3i (by omega) rowB (fun i hi => hM.out (m + i) (by omega)) (fun i hi => hNb.out (m + i) (by omega))).mono ?_
  rintro e wj ⟨rb, rcb, rfl, hRB, hbj⟩
  have hb0j := bel_up hb0i hbj
  have ht1j := cell_up hbj ht1i
  have hRA' := hRA.up hbj
  clear ht1i ht3i hbj hRA
  go_wp2_with fail
  refine (recordN T N S 0 kAB a1 (m + q) c1 tb key (key ++ EA ++ EB) _ ht1j k2 rowAB (fun i hi => by rw [Nat.zero_add]; exact hM.out i (by omega)) (fun i hi => by rw [Nat.zero_add]; exact hNb.out i (by omega))).mono ?_
  rintro e wk ⟨rc, rcc, rfl, hRC, hbk⟩
  have hb0k := bel_up hb0j hbk
  have hRA2 := hRA'.up hbk
  have hRB2 := hRB.up hbk
  clear ht1j hbk hRA' hRB rowA rowB rowAB hEA hEB
  have e1 : (m : Int) + q - m = q := by omega
  go_wp2_with fail
  clear hF hxb hi hz0 hz1 hz2 hcap hxn hnil l1 l2 l3 hEAs hEBs
  have hRAw := hRA2
  have hRBw := hRB2
  have hRCw := hRC
  obtain ⟨_, _, hv, hcA⟩ := hRAw
  simp only [Value.slice.injEq, true_and] at hv
  obtain ⟨rfl, rfl⟩ := hv
  obtain ⟨_, _, hv, hcB⟩ := hRBw
  simp only [Value.slice.injEq, true_and] at hv
  obtain ⟨rfl, rfl⟩ := hv
  obtain ⟨_, _, hv, hcC⟩ := hRCw
  simp only [Value.slice.injEq, true_and] at hv
  obtain ⟨rfl, rfl⟩ := hv
  go_loopw [29] (fun i wr => ∃ k : Nat, k ≤ m ∧ i = .int .i64 k ∧ Below wk.heap.size wk wr) (fun i _ => m - (intOf i).toNat)
  case atStart => exact ⟨0, by omega, rfl, Below.refl _ _⟩
  case round =>
    obtain ⟨k, hk, rfl, hb⟩ := hrel
    by_cases hlt : k < m
    · obtain ⟨g, rfl, r0, r1, r2⟩ := hcA k hlt
      obtain ⟨h, rfl, s0, s1, s2⟩ := hcC k (by omega)
      rw [Nat.zero_add] at r0 r1 r2 s0 s1 s2
      cases hTk : T k
      · rw [vcells_int hTk] at r0 r1 r2 s0 s1 s2
        have r0' : wr.cell? ⟨g, k * 3, none⟩ = some (.int .u8 1) := cell_up hb r0
        have r1' : wr.cell? ⟨g, k * 3 + 1, none⟩ = some (.int .i64 (N k)) := cell_up hb r1
        have r2' : wr.cell? ⟨g, k * 3 + 2, none⟩ = some (.string ⟨#[]⟩) := cell_up hb r2
        have s0' : wr.cell? ⟨h, k * 3, none⟩ = some (.int .u8 1) := cell_up hb s0
        have s1' : wr.cell? ⟨h, k * 3 + 1, none⟩ = some (.int .i64 (N k)) := cell_up hb s1
        have s2' : wr.cell? ⟨h, k * 3 + 2, none⟩ = some (.string ⟨#[]⟩) := cell_up hb s2
        clear hRA2 hRB2 hRC hcA hcB hcC hT hN hS hb0k r0 r1 r2 s0 s1 s2
        go_wp2_with fail
        go_quiet (fail)
        go_wp2
        refine ⟨⟨k + 1, by omega, by go_num, below_drewN hb nq⟩, ?_⟩
        simp [intOf]; omega
      · rw [vcells_text hTk] at r0 r1 r2 s0 s1 s2
        have r0' : wr.cell? ⟨g, k * 3, none⟩ = some (.int .u8 2) := cell_up hb r0
        have r1' : wr.cell? ⟨g, k * 3 + 1, none⟩ = some (.int .i64 0) := cell_up hb r1
        have r2' : wr.cell? ⟨g, k * 3 + 2, none⟩ = some (.string (S k)) := cell_up hb r2
        have s0' : wr.cell? ⟨h, k * 3, none⟩ = some (.int .u8 2) := cell_up hb s0
        have s1' : wr.cell? ⟨h, k * 3 + 1, none⟩ = some (.int .i64 0) := cell_up hb s1
        have s2' : wr.cell? ⟨h, k * 3 + 2, none⟩ = some (.string (S k)) := cell_up hb s2
        clear hRA2 hRB2 hRC hcA hcB hcC hT hN hS hb0k r0 r1 r2 s0 s1 s2
        go_wp2_with fail
        go_quiet (fail)
        go_wp2
        refine ⟨⟨k + 1, by omega, by go_num, below_drewN hb nq⟩, ?_⟩
        simp [intOf]; omega
    have hk0 : m = k := by omega
    subst hk0
    clear hlt hRA2 hcA
    have hb0r := bel_up hb0k hb
    have hRC3 := hRC
    go_wp2_with fail
    clear hRC hRB2
    go_loopw [30] (fun i wr => ∃ j : Nat, j ≤ q ∧ i = .int .i64 j ∧ Below wk.heap.size wk wr) (fun i _ => q - (intOf i).toNat)
    case atStart => exact ⟨0, by omega, rfl, hb⟩
    case round =>
      clear hb
      obtain ⟨j, hj, rfl, hb⟩ := hrel
      by_cases hlt : j < q
      · obtain ⟨g, rfl, r0, r1, r2⟩ := hcB j hlt
        obtain ⟨h, rfl, s0, s1, s2⟩ := hcC (m + j) (by omega)
        rw [Nat.zero_add] at s0 s1 s2
        have hix : ((m : Int) + (j : Int)).toNat = m + j := by omega
        cases hTk : T (m + j)
        · rw [vcells_int hTk] at r0 r1 r2 s0 s1 s2
          have r0' : wr.cell? ⟨g, j * 3, none⟩ = some (.int .u8 1) := cell_up hb r0
          have r1' : wr.cell? ⟨g, j * 3 + 1, none⟩ = some (.int .i64 (N (m + j))) := cell_up hb r1
          have r2' : wr.cell? ⟨g, j * 3 + 2, none⟩ = some (.string ⟨#[]⟩) := cell_up hb r2
          have s0' : wr.cell? ⟨h, (m + j) * 3, none⟩ = some (.int .u8 1) := cell_up hb s0
          have s1' : wr.cell? ⟨h, (m + j) * 3 + 1, none⟩ = some (.int .i64 (N (m + j))) := cell_up hb s1
          have s2' : wr.cell? ⟨h, (m + j) * 3 + 2, none⟩ = some (.string ⟨#[]⟩) := cell_up hb s2
          clear hRC3 hcB hcC hT hN hS hb0k hb0r r0 r1 r2 s0 s1 s2
          go_wp2_with fail
          go_quiet (fail)
          go_wp2
          refine ⟨⟨j + 1, by omega, by go_num, below_drewN hb nq⟩, ?_⟩
          simp [intOf]; omega
        · rw [vcells_text hTk] at r0 r1 r2 s0 s1 s2
          have r0' : wr.cell? ⟨g, j * 3, none⟩ = some (.int .u8 2) := cell_up hb r0
          have r1' : wr.cell? ⟨g, j * 3 + 1, none⟩ = some (.int .i64 0) := cell_up hb r1
          have r2' : wr.cell? ⟨g, j * 3 + 2, none⟩ = some (.string (S (m + j))) := cell_up hb r2
          have s0' : wr.cell? ⟨h, (m + j) * 3, none⟩ = some (.int .u8 2) := cell_up hb s0
          have s1' : wr.cell? ⟨h, (m + j) * 3 + 1, none⟩ = some (.int .i64 0) := cell_up hb s1
          have s2' : wr.cell? ⟨h, (m + j) * 3 + 2, none⟩ = some (.string (S (m + j))) := cell_up hb s2
          clear hRC3 hcB hcC hT hN hS hb0k hb0r r0 r1 r2 s0 s1 s2
          go_wp2_with fail
          go_quiet (fail)
          go_wp2
          refine ⟨⟨j + 1, by omega, by go_num, below_drewN hb nq⟩, ?_⟩
          simp [intOf]; omega
      clear hcB hcC hb0r
      have hj0 : q = j := by omega
      subst hj0
      have hb0r := bel_up hb0k hb
      have hRC4 := hRC3
      clear hlt
      go_wp2_with fail
      refine (holdsN T N S rc rcc ta tc na nc sa sc (m + q) _ (by omega) _ (hRC4.up hb) (hT.up hb0r) (hN.up hb0r) (hS.up hb0r) k2 (fun i hi => hM.out i hi)).mono ?_
      rintro e wl ⟨rfl, hbl⟩
      have hb0l := bel_up hb0r hbl
      clear hRC4 hRC3 hT hN hS hbl hb0r hb hb0k
      obtain ⟨i1, hi, hz0, hz1, hz2⟩ := info_parts info37
      have kc := conv0
      go_wp2_with (at_make; refine wpList_make_full _ rfl _ _ 32 rfl wl.heap.size 37 i1 _ 3 Tryd.underlying32 hi hz0 hz1 .i64 .i64 _ _ d rfl rfl rfl rfl (by rw [hz2]; omega) (by unfold maxLen; omega) (Nat.le_refl _) ?_; intro wm hownm hgrowm)
      have hbm : Below wl.heap.size wl wm := (Below.refl _ _).grown hgrowm (Nat.le_refl _) (fun k h => by cases h)
      have hb0m := bel_alloc (o := Obj.cells #[Value.int IntKind.u8 0] 5) (bel_up hb0l hbm)
      clear hgrowm hownm hbm hi hz0 hz1 hz2 kc
      refine (remove10 _ _ d tb key _ _ (removal key).2 (removal key).1).mono ?_
      rintro e wn ⟨rfl, hbn⟩
      have hfin := bel_up hb0m hbn
      clear hbn hb0m
      go_wp2
      all_goals
        go_ret
        exact ⟨rfl, hfin⟩
end Go.Proofs.Qxb6616485aDoor.Wk
