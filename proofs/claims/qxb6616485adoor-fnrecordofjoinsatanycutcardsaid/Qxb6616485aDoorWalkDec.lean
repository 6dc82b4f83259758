import Derived.Test.Qxb6616485aDoorWalkEnc
import Derived.Test.Qxb6616485aDoorPlainBits
import Derived.PlainAid
import Derived.WalkSpells
import Derived.Deep.RegionHeld3
import Derived.Deep.RegionWith
import Derived.Deep.DrawnRows
attribute [local go_sem ↓] Go.wp_at_zero Go.wp_at_succ
set_option linter.unusedSimpArgs false
namespace Go.Proofs.Qxb6616485aDoor.Wk
open Go.RowKit Go.PlainAid En

theorem info37 : (Tryd.prog.info? 37).map (fun i => (i.zero, i.size, i.bytes)) = some (some (.agg #[.int .u8 0, .int .i64 0, .string ⟨#[]⟩]), 3, 32) := by kernel_rfl

/-- The three cells of a field's Value. -/
def vcells (T : Nat → Bool) (N : Nat → Int) (S : Nat → ByteArray) (i : Nat) : List Value :=
  if T i then [.int .u8 2, .int .i64 0, .string (S i)] else [.int .u8 1, .int .i64 (N i), .string ⟨#[]⟩]
/-- The cells of the fields fr .. fr + k - 1. -/
def rcells (T : Nat → Bool) (N : Nat → Int) (S : Nat → ByteArray) (fr : Nat) : Nat → List Value
  | 0 => []
  | k + 1 => rcells T N S fr k ++ vcells T N S (fr + k)

theorem bt_of {t : ByteArray} {l : List UInt8} {n : Nat} {c : UInt8} (h : t.data.toList = l) (hc : l[n]? = some c) : bt t n = (c.toNat : Int) := by
  subst h
  obtain ⟨hn, hv⟩ := List.getElem?_eq_some_iff.1 hc
  have hn' : n < t.size := by rw [size_of rfl]; exact hn
  rw [← get_bt t n hn', ← hv]
  rfl

theorem rec_step {wr w : World} {B g n dc k : Nat} {zs : List Value} (h : wr.ownsRow B 37 3 (.slice (some ⟨g, 0, none⟩) n dc) n zs) (hb : Below B w wr) (a b c : Value) :
    (((wr.setCell ⟨g, k * 3, none⟩ a).setCell ⟨g, k * 3 + 1, none⟩ b).setCell ⟨g, k * 3 + 2, none⟩ c).ownsRow B 37 3 (.slice (some ⟨g, 0, none⟩) n dc) n (((zs.set (k * 3) a).set (k * 3 + 1) b).set (k * 3 + 2) c) ∧
    Below B w (((wr.setCell ⟨g, k * 3, none⟩ a).setCell ⟨g, k * 3 + 1, none⟩ b).setCell ⟨g, k * 3 + 2, none⟩ c) := by
  have hg : B ≤ g := (h.lt g rfl).1
  exact ⟨(((h.stored _ a).1.stored _ b).1.stored _ c).1, ((hb.setCell hg _).setCell hg _).setCell hg _⟩
theorem take_step {T : Nat → Bool} {N : Nat → Int} {S : Nat → ByteArray} {fr k n : Nat} {zs : List Value} {a b c : Value} (hl : zs.length = n * 3) (hk : k < n) (hz : zs.take (3 * k) = rcells T N S fr k) (hv : vcells T N S (fr + k) = [a, b, c]) :
    (((zs.set (k * 3) a).set (k * 3 + 1) b).set (k * 3 + 2) c).take (3 * (k + 1)) = rcells T N S fr (k + 1) := by
  rw [rcells, hv, ← hz]
  apply List.ext_getElem?
  intro i
  by_cases h1 : i < 3 * k
  · rw [List.getElem?_take, if_pos (by omega), List.getElem?_append_left (by rw [List.length_take]; omega), List.getElem?_take, if_pos h1]
    simp only [List.getElem?_set]
    rw [if_neg (by omega), if_neg (by omega), if_neg (by omega)]
  · rw [List.getElem?_append_right (by rw [List.length_take]; omega), List.length_take, show min (3 * k) zs.length = 3 * k by omega, List.getElem?_take]
    by_cases h2 : i < 3 * (k + 1)
    · rw [if_pos h2]
      simp only [List.getElem?_set, List.length_set]
      by_cases e0 : i = k * 3
      · subst e0; rw [if_neg (by omega), if_neg (by omega), if_pos rfl, if_pos (by omega), show k * 3 - 3 * k = 0 by omega]; rfl
      · by_cases e1 : i = k * 3 + 1
        · subst e1; rw [if_neg (by omega), if_pos rfl, if_pos (by omega), show k * 3 + 1 - 3 * k = 1 by omega]; rfl
        · obtain rfl : i = k * 3 + 2 := by omega
          rw [if_pos rfl, if_pos (by omega), show k * 3 + 2 - 3 * k = 2 by omega]; rfl
    · rw [if_neg h2, List.getElem?_eq_none (by simp; omega)]
theorem vcells_text {T : Nat → Bool} {N : Nat → Int} {S : Nat → ByteArray} {i : Nat} (h : T i = true) : vcells T N S i = [.int .u8 2, .int .i64 0, .string (S i)] := by unfold vcells; rw [if_pos h]
theorem vcells_int {T : Nat → Bool} {N : Nat → Int} {S : Nat → ByteArray} {i : Nat} (h : T i = false) : vcells T N S i = [.int .u8 1, .int .i64 (N i), .string ⟨#[]⟩] := by unfold vcells; rw [if_neg (by simp [h])]

/-- An operation that yields v in whatever world is taken first (Derived.OrdersHeld). -/
theorem take_at {P : Program} {ops : Array Oper} {Q : Exit → Act → World → Prop} {fuel : Nat} {listed : Array Bool} {a : Act} {w : World} (i : Nat) (d : Option Tmp) (v : Value) {oi : Oper} (hi : ops[i]? = some oi) (hd : oi.dst = d)
    (hs : Region.noSelect ops = true) (hf : Region.free .any ops listed i = true) (hr : (Region.ready .any ops listed).contains i = true)
    (hQ : ∀ c a w, Q (.panic c) (a.put d v) w → Q (.panic c) a w) (hw : Region.wanted oi (yielded ops a.tmps) = true) (hy : ∀ w, (execOp a.eval oi).run P w = .ok (.value v) w)
    (h : wpAnyH P .any ops Q (fun _ => True) fuel (listed.setIfInBounds i true) (a.put d v) w) : wpAnyH P .any ops Q (fun _ => True) (fuel + 1) listed a w := by
  subst hd
  exact wpAnyH_take hi hs hf hr hQ (.inl ⟨hw, fun w _ => hy w⟩) trivial h

/-- The same row, cut to m elements. -/
theorem reslice {w : World} {B g n cap m : Nat} {xs : List Value} (h : w.ownsRow B 37 3 (.slice (some ⟨g, 0, none⟩) n cap) n xs) (hm : m ≤ cap) : ∃ zs, w.ownsRow B 37 3 (.slice (some ⟨g, 0, none⟩) m cap) m zs := by
  rcases h.2 with ⟨h', _⟩ | ⟨g', cap', cur, h', hb, hg, hnc, hcm, hcs, htake⟩
  · simp at h'
  · simp only [Value.slice.injEq, Option.some.injEq, Addr.mk.injEq, and_true, true_and] at h'
    obtain ⟨rfl, rfl⟩ := h'
    refine ⟨cur.toList.take (m * 3), ?_, .inr ⟨g, cap, cur, rfl, hb, hg, hm, hcm, hcs, rfl⟩⟩
    rw [List.length_take, Array.length_toList, hcs]
    have : m * 3 ≤ cap * 3 := Nat.mul_le_mul_right 3 hm
    omega

theorem int_eq (m n : Int) (h : m = n) (w : World) :
    Calls Tryd.prog 17 #[.int .i64 m] w fun e w' => e = .returned (.agg #[.int .u8 1, .int .i64 n, .string ⟨#[]⟩]) ∧ w' = w.alloc (.cells #[.int .u8 1, .int .i64 n, .string ⟨#[]⟩] 37) := by
  subst h; exact int_any m w

/-- The eight bytes spell the number. -/
theorem sum8 (U : Nat) (h : U < 18446744073709551616) : ((numB U 0).toNat : Int) + (numB U 1).toNat * 256 + (numB U 2).toNat * 65536 + (numB U 3).toNat * 16777216 + (numB U 4).toNat * 4294967296 + (numB U 5).toNat * 1099511627776 + (numB U 6).toNat * 281474976710656 + (numB U 7).toNat * 72057594037927936 = (U : Int) := by
  simp only [numB_val, shr8]
  omega

set_option maxRecDepth 100000 in
set_option maxHeartbeats 2000000 in
theorem decode_room (T : Nat → Bool) (N : Nat → Int) (S : Nat → ByteArray) (fr : Nat) (B tb : Nat) (fa : Option Addr) (n fc g dc : Nat) (ys : List Value) (s : ByteArray) (w : World)
    (ht : w.cell? ⟨tb, 0, none⟩ = some (.slice fa n fc)) (hown : w.ownsRow B 37 3 (.slice (some ⟨g, 0, none⟩) dc dc) dc ys) (hn : n ≤ dc) (hn6 : n ≤ 65536) (hs : s.data.toList = encs T N S fr n) (hM : ∀ i, i < n → (S (fr + i)).size ≤ 1048576) (hNb : ∀ i, i < n → -9223372036854775808 ≤ N (fr + i) ∧ N (fr + i) ≤ 9223372036854775807) :
    Calls Tryd.prog 19 #[.pointer (some ⟨tb, 0, none⟩), .slice (some ⟨g, 0, none⟩) dc dc, .string s] w fun e w' => e = .returned (.slice (some ⟨g, 0, none⟩) n dc) ∧ w'.ownsRow B 37 3 (.slice (some ⟨g, 0, none⟩) n dc) n (rcells T N S fr n) ∧ Below B w w' := by
  have hn' : (n : Int) ≤ (dc : Int) := by omega
  have hdn : decide (dc < n) = false := decide_eq_false (by omega)
  go_enter Tryd.func19, Tryd.ntmps19
  go_wp2_with fail
  go_loopw [2, 38] (fun v i wr => ∃ (k : Nat) (r : ByteArray), k ≤ n ∧ i = .int .i64 k ∧ v = .string r ∧ Hid (r.data.toList = encs T N S (fr + k) (n - k)) ∧ (∃ zs, wr.ownsRow B 37 3 (.slice (some ⟨g, 0, none⟩) n dc) n zs ∧ zs.take (3 * k) = rcells T N S fr k) ∧ Below B w wr) (fun _ i _ => n - (intOf i).toNat)
  case atStart =>
    obtain ⟨zs, hz⟩ := reslice hown hn
    exact ⟨0, s, by omega, rfl, rfl, hs, ⟨zs, hz, rfl⟩, Below.refl _ _⟩
  case round =>
    obtain ⟨k, r, hk, rfl, rfl, hr, ⟨zs, hown2, hzs⟩, hbel⟩ := hrel
    by_cases hlt : k < n
    · have hzl : zs.length = n * 3 := hown2.1
      obtain ⟨y0, g0⟩ : ∃ v, wr.cell? ⟨g, k * 3, none⟩ = some v := ⟨_, (hown2.cellAt _ (by omega)).trans (List.getElem?_eq_getElem (by omega))⟩
      obtain ⟨y1, g1⟩ : ∃ v, wr.cell? ⟨g, k * 3 + 1, none⟩ = some v := ⟨_, (hown2.cellAt _ (by omega)).trans (List.getElem?_eq_getElem (by omega))⟩
      obtain ⟨y2, g2⟩ : ∃ v, wr.cell? ⟨g, k * 3 + 2, none⟩ = some v := ⟨_, (hown2.cellAt _ (by omega)).trans (List.getElem?_eq_getElem (by omega))⟩
      have f0 := hown2.frozenAt (k * 3)
      have f1 := hown2.frozenAt (k * 3 + 1)
      have f2 := hown2.frozenAt (k * 3 + 2)
      have hgw : g < wr.heap.size := World.block_lt_of_cell? _ _ g0
      have hr' := hr.out
      rw [encs_head T N S fr k n hlt] at hr'
      cases hTk : T (fr + k)
      · rw [enc_int hTk, le8] at hr'
        obtain ⟨U, hU⟩ : ∃ U : Nat, U = (N (fr + k) % 18446744073709551616).toNat := ⟨_, rfl⟩
        rw [← hU] at hr'
        have hsz := size_of hr'
        simp only [List.cons_append, List.length_cons] at hsz
        have q0 : (0 : Int) < (r.size : Int) := by omega
        have q9 : 9 ≤ r.size := by omega
        clear hsz
        have HR1 : (r.extract 1 r.size).data.toList = [numB U 0, numB U 1, numB U 2, numB U 3, numB U 4, numB U 5, numB U 6, numB U 7] ++ encs T N S (fr + (k + 1)) (n - (k + 1)) := ext1 hr'
        have gb := get_bt r
        have b0 : bt r 0 = 1 := bt_of (c := 1) hr' rfl
        clear hr'
        go_wp2_with fail
        generalize hr1 : r.extract 1 r.size = r1 at *
        clear hr1
        have HU : Hid (U = (N (fr + k) % 18446744073709551616).toNat) := hU
        have hUlt : U < 18446744073709551616 := by omega
        clear hU
        have hsum := sum8 U hUlt
        clear hUlt
        have d0 : bt r1 0 = (numB U 0).toNat := bt_of HR1 rfl
        have l0 : ((numB U 0).toNat : Int) < 256 := by have := (numB U 0).toNat_lt; omega
        have o0 : 0 ≤ ((numB U 0).toNat : Int) := by omega
        have d1 : bt r1 1 = (numB U 1).toNat := bt_of HR1 rfl
        have l1 : ((numB U 1).toNat : Int) < 256 := by have := (numB U 1).toNat_lt; omega
        have o1 : 0 ≤ ((numB U 1).toNat : Int) := by omega
        have d2 : bt r1 2 = (numB U 2).toNat := bt_of HR1 rfl
        have l2 : ((numB U 2).toNat : Int) < 256 := by have := (numB U 2).toNat_lt; omega
        have o2 : 0 ≤ ((numB U 2).toNat : Int) := by omega
        have d3 : bt r1 3 = (numB U 3).toNat := bt_of HR1 rfl
        have l3 : ((numB U 3).toNat : Int) < 256 := by have := (numB U 3).toNat_lt; omega
        have o3 : 0 ≤ ((numB U 3).toNat : Int) := by omega
        have d4 : bt r1 4 = (numB U 4).toNat := bt_of HR1 rfl
        have l4 : ((numB U 4).toNat : Int) < 256 := by have := (numB U 4).toNat_lt; omega
        have o4 : 0 ≤ ((numB U 4).toNat : Int) := by omega
        have d5 : bt r1 5 = (numB U 5).toNat := bt_of HR1 rfl
        have l5 : ((numB U 5).toNat : Int) < 256 := by have := (numB U 5).toNat_lt; omega
        have o5 : 0 ≤ ((numB U 5).toNat : Int) := by omega
        have d6 : bt r1 6 = (numB U 6).toNat := bt_of HR1 rfl
        have l6 : ((numB U 6).toNat : Int) < 256 := by have := (numB U 6).toNat_lt; omega
        have o6 : 0 ≤ ((numB U 6).toNat : Int) := by omega
        have d7 : bt r1 7 = (numB U 7).toNat := bt_of HR1 rfl
        have l7 : ((numB U 7).toNat : Int) < 256 := by have := (numB U 7).toNat_lt; omega
        have o7 : 0 ≤ ((numB U 7).toNat : Int) := by omega
        have hz1 := size_of HR1
        simp only [List.cons_append, List.length_cons] at hz1
        have s8 : (8 : Int) ≤ (r1.size : Int) := by omega
        have t0 : 0 < r1.size := by omega
        have i0 : (0 : Int) < (r1.size : Int) := by omega
        generalize ((numB U 0).toNat : Int) = c0 at *
        have t1 : 1 < r1.size := by omega
        have i1 : (1 : Int) < (r1.size : Int) := by omega
        generalize ((numB U 1).toNat : Int) = c1 at *
        have t2 : 2 < r1.size := by omega
        have i2 : (2 : Int) < (r1.size : Int) := by omega
        generalize ((numB U 2).toNat : Int) = c2 at *
        have t3 : 3 < r1.size := by omega
        have i3 : (3 : Int) < (r1.size : Int) := by omega
        generalize ((numB U 3).toNat : Int) = c3 at *
        have t4 : 4 < r1.size := by omega
        have i4 : (4 : Int) < (r1.size : Int) := by omega
        generalize ((numB U 4).toNat : Int) = c4 at *
        have t5 : 5 < r1.size := by omega
        have i5 : (5 : Int) < (r1.size : Int) := by omega
        generalize ((numB U 5).toNat : Int) = c5 at *
        have t6 : 6 < r1.size := by omega
        have i6 : (6 : Int) < (r1.size : Int) := by omega
        generalize ((numB U 6).toNat : Int) = c6 at *
        have t7 : 7 < r1.size := by omega
        have i7 : (7 : Int) < (r1.size : Int) := by omega
        generalize ((numB U 7).toNat : Int) = c7 at *
        clear hz1
        have HR2 : Hid (r1.data.toList = [numB U 0, numB U 1, numB U 2, numB U 3, numB U 4, numB U 5, numB U 6, numB U 7] ++ encs T N S (fr + (k + 1)) (n - (k + 1))) := HR1
        clear HR1
        have kk : (k : Int) < (n : Int) := by omega
        have k0 : (0 : Int) ≤ (k : Int) := by omega
        have HSum : Hid (c0 + c1 * 256 + c2 * 65536 + c3 * 16777216 + c4 * 4294967296 + c5 * 1099511627776 + c6 * 281474976710656 + c7 * 72057594037927936 = (U : Int)) := hsum
        clear hsum
        obtain ⟨hNl, hNh⟩ := hNb k hlt
        have gb1 := get_bt r1
        have HZ : Hid (zs.length = n * 3) := hzl
        have HZS : Hid (zs.take (3 * k) = rcells T N S fr k) := hzs
        clear hzl hzs hs hown ht hdn hn hNb hM gb b0 q0 q9
        obtain ⟨a1, ha1⟩ : ∃ x : Int, x = c0 + c1 * 256 := ⟨_, rfl⟩
        have e1 : bits .or .u64 c0 (c1 * 256) = a1 := by rw [ha1]; exact u64_or8 _ _ (by omega) (by omega) (by omega) (by omega) (by omega)
        obtain ⟨a2, ha2⟩ : ∃ x : Int, x = a1 + c2 * 65536 := ⟨_, rfl⟩
        have e2 : bits .or .u64 a1 (c2 * 65536) = a2 := by rw [ha2]; exact u64_or16 _ _ (by omega) (by omega) (by omega) (by omega) (by omega)
        obtain ⟨a3, ha3⟩ : ∃ x : Int, x = a2 + c3 * 16777216 := ⟨_, rfl⟩
        have e3 : bits .or .u64 a2 (c3 * 16777216) = a3 := by rw [ha3]; exact u64_or24 _ _ (by omega) (by omega) (by omega) (by omega) (by omega)
        obtain ⟨a4, ha4⟩ : ∃ x : Int, x = a3 + c4 * 4294967296 := ⟨_, rfl⟩
        have e4 : bits .or .u64 a3 (c4 * 4294967296) = a4 := by rw [ha4]; exact u64_or32 _ _ (by omega) (by omega) (by omega) (by omega) (by omega)
        obtain ⟨a5, ha5⟩ : ∃ x : Int, x = a4 + c5 * 1099511627776 := ⟨_, rfl⟩
        have e5 : bits .or .u64 a4 (c5 * 1099511627776) = a5 := by rw [ha5]; exact u64_or40 _ _ (by omega) (by omega) (by omega) (by omega) (by omega)
        obtain ⟨a6, ha6⟩ : ∃ x : Int, x = a5 + c6 * 281474976710656 := ⟨_, rfl⟩
        have e6 : bits .or .u64 a5 (c6 * 281474976710656) = a6 := by rw [ha6]; exact u64_or48 _ _ (by omega) (by omega) (by omega) (by omega) (by omega)
        obtain ⟨a7, ha7⟩ : ∃ x : Int, x = a6 + c7 * 72057594037927936 := ⟨_, rfl⟩
        have e7 : bits .or .u64 a6 (c7 * 72057594037927936) = a7 := by rw [ha7]; exact u64_or56 _ _ (by omega) (by omega) (by omega) (by omega) (by omega)
        have hA7 : a7 = (U : Int) := by have := HSum.out; omega
        have eN : IntKind.i64.wrap a7 = N (fr + k) := by rw [hA7, IntKind.wrap_i64]; have := HU.out; omega
        clear ha1 ha2 ha3 ha4 ha5 ha6 ha7 hA7
        refine wp_region_noPanic ?_
        refine wp_region_held_drew (S := fun _ => True) (by kernel_rfl) trivial (fun hHeld => ?_)
        refine take_at 0 (some 47) (.slice (some ⟨g, 0, none⟩) n dc) rfl rfl (by kernel_rfl) (by kernel_rfl) (by kernel_rfl) (fun _ _ _ h => h) (by rfl) ?x0 ?_
        case x0 => intro w; go_simp
        simp only [Act.put, List.setIfInBounds_toArray, List.set_cons_zero, List.set_cons_succ]
        refine take_at 1 (some 48) (.int .i64 k) rfl rfl (by kernel_rfl) (by kernel_rfl) (by kernel_rfl) (fun _ _ _ h => h) (by rfl) ?x1 ?_
        case x1 => intro w; go_simp
        simp only [Act.put, List.setIfInBounds_toArray, List.set_cons_zero, List.set_cons_succ]
        refine take_at 2 (some 49) (.string r1) rfl rfl (by kernel_rfl) (by kernel_rfl) (by kernel_rfl) (fun _ _ _ h => h) (by rfl) ?x2 ?_
        case x2 => intro w; go_simp
        simp only [Act.put, List.setIfInBounds_toArray, List.set_cons_zero, List.set_cons_succ]
        refine take_at 3 (some 50) (.int .u8 c0) rfl rfl (by kernel_rfl) (by kernel_rfl) (by kernel_rfl) (fun _ _ _ h => h) (by rfl) ?x3 ?_
        case x3 => intro w; go_simp
        simp only [Act.put, List.setIfInBounds_toArray, List.set_cons_zero, List.set_cons_succ]
        refine take_at 4 (some 51) (.int .u64 c0) rfl rfl (by kernel_rfl) (by kernel_rfl) (by kernel_rfl) (fun _ _ _ h => h) (by rfl) ?x4 ?_
        case x4 => intro w; go_simp; exact IntWalk.u64_in _ ⟨by omega, by omega⟩
        simp only [Act.put, List.setIfInBounds_toArray, List.set_cons_zero, List.set_cons_succ]
        refine take_at 5 (some 52) (.string r1) rfl rfl (by kernel_rfl) (by kernel_rfl) (by kernel_rfl) (fun _ _ _ h => h) (by rfl) ?x5 ?_
        case x5 => intro w; go_simp
        simp only [Act.put, List.setIfInBounds_toArray, List.set_cons_zero, List.set_cons_succ]
        refine take_at 6 (some 53) (.int .u8 c1) rfl rfl (by kernel_rfl) (by kernel_rfl) (by kernel_rfl) (fun _ _ _ h => h) (by rfl) ?x6 ?_
        case x6 => intro w; go_simp
        simp only [Act.put, List.setIfInBounds_toArray, List.set_cons_zero, List.set_cons_succ]
        refine take_at 7 (some 54) (.int .u64 c1) rfl rfl (by kernel_rfl) (by kernel_rfl) (by kernel_rfl) (fun _ _ _ h => h) (by rfl) ?x7 ?_
        case x7 => intro w; go_simp; exact IntWalk.u64_in _ ⟨by omega, by omega⟩
        simp only [Act.put, List.setIfInBounds_toArray, List.set_cons_zero, List.set_cons_succ]
        refine take_at 8 (some 55) (.int .u64 (c1 * 256)) rfl rfl (by kernel_rfl) (by kernel_rfl) (by kernel_rfl) (fun _ _ _ h => h) (by rfl) ?x8 ?_
        case x8 => intro w; go_simp; exact IntWalk.u64_in _ ⟨by omega, by omega⟩
        simp only [Act.put, List.setIfInBounds_toArray, List.set_cons_zero, List.set_cons_succ]
        refine take_at 9 (some 56) (.int .u64 a1) rfl rfl (by kernel_rfl) (by kernel_rfl) (by kernel_rfl) (fun _ _ _ h => h) (by rfl) ?x9 ?_
        case x9 => intro w; go_simp
        simp only [Act.put, List.setIfInBounds_toArray, List.set_cons_zero, List.set_cons_succ]
        refine take_at 10 (some 57) (.string r1) rfl rfl (by kernel_rfl) (by kernel_rfl) (by kernel_rfl) (fun _ _ _ h => h) (by rfl) ?x10 ?_
        case x10 => intro w; go_simp
        simp only [Act.put, List.setIfInBounds_toArray, List.set_cons_zero, List.set_cons_succ]
        refine take_at 11 (some 58) (.int .u8 c2) rfl rfl (by kernel_rfl) (by kernel_rfl) (by kernel_rfl) (fun _ _ _ h => h) (by rfl) ?x11 ?_
        case x11 => intro w; go_simp
        simp only [Act.put, List.setIfInBounds_toArray, List.set_cons_zero, List.set_cons_succ]
        refine take_at 12 (some 59) (.int .u64 c2) rfl rfl (by kernel_rfl) (by kernel_rfl) (by kernel_rfl) (fun _ _ _ h => h) (by rfl) ?x12 ?_
        case x12 => intro w; go_simp; exact IntWalk.u64_in _ ⟨by omega, by omega⟩
        simp only [Act.put, List.setIfInBounds_toArray, List.set_cons_zero, List.set_cons_succ]
        refine take_at 13 (some 60) (.int .u64 (c2 * 65536)) rfl rfl (by kernel_rfl) (by kernel_rfl) (by kernel_rfl) (fun _ _ _ h => h) (by rfl) ?x13 ?_
        case x13 => intro w; go_simp; exact IntWalk.u64_in _ ⟨by omega, by omega⟩
        simp only [Act.put, List.setIfInBounds_toArray, List.set_cons_zero, List.set_cons_succ]
        refine take_at 14 (some 61) (.int .u64 a2) rfl rfl (by kernel_rfl) (by kernel_rfl) (by kernel_rfl) (fun _ _ _ h => h) (by rfl) ?x14 ?_
        case x14 => intro w; go_simp
        simp only [Act.put, List.setIfInBounds_toArray, List.set_cons_zero, List.set_cons_succ]
        refine take_at 15 (some 62) (.string r1) rfl rfl (by kernel_rfl) (by kernel_rfl) (by kernel_rfl) (fun _ _ _ h => h) (by rfl) ?x15 ?_
        case x15 => intro w; go_simp
        simp only [Act.put, List.setIfInBounds_toArray, List.set_cons_zero, List.set_cons_succ]
        refine take_at 16 (some 63) (.int .u8 c3) rfl rfl (by kernel_rfl) (by kernel_rfl) (by kernel_rfl) (fun _ _ _ h => h) (by rfl) ?x16 ?_
        case x16 => intro w; go_simp
        simp only [Act.put, List.setIfInBounds_toArray, List.set_cons_zero, List.set_cons_succ]
        refine take_at 17 (some 64) (.int .u64 c3) rfl rfl (by kernel_rfl) (by kernel_rfl) (by kernel_rfl) (fun _ _ _ h => h) (by rfl) ?x17 ?_
        case x17 => intro w; go_simp; exact IntWalk.u64_in _ ⟨by omega, by omega⟩
        simp only [Act.put, List.setIfInBounds_toArray, List.set_cons_zero, List.set_cons_succ]
        refine take_at 18 (some 65) (.int .u64 (c3 * 16777216)) rfl rfl (by kernel_rfl) (by kernel_rfl) (by kernel_rfl) (fun _ _ _ h => h) (by rfl) ?x18 ?_
        case x18 => intro w; go_simp; exact IntWalk.u64_in _ ⟨by omega, by omega⟩
        simp only [Act.put, List.setIfInBounds_toArray, List.set_cons_zero, List.set_cons_succ]
        refine take_at 19 (some 66) (.int .u64 a3) rfl rfl (by kernel_rfl) (by kernel_rfl) (by kernel_rfl) (fun _ _ _ h => h) (by rfl) ?x19 ?_
        case x19 => intro w; go_simp
        simp only [Act.put, List.setIfInBounds_toArray, List.set_cons_zero, List.set_cons_succ]
        refine take_at 20 (some 67) (.string r1) rfl rfl (by kernel_rfl) (by kernel_rfl) (by kernel_rfl) (fun _ _ _ h => h) (by rfl) ?x20 ?_
        case x20 => intro w; go_simp
        simp only [Act.put, List.setIfInBounds_toArray, List.set_cons_zero, List.set_cons_succ]
        refine take_at 21 (some 68) (.int .u8 c4) rfl rfl (by kernel_rfl) (by kernel_rfl) (by kernel_rfl) (fun _ _ _ h => h) (by rfl) ?x21 ?_
        case x21 => intro w; go_simp
        simp only [Act.put, List.setIfInBounds_toArray, List.set_cons_zero, List.set_cons_succ]
        refine take_at 22 (some 69) (.int .u64 c4) rfl rfl (by kernel_rfl) (by kernel_rfl) (by kernel_rfl) (fun _ _ _ h => h) (by rfl) ?x22 ?_
        case x22 => intro w; go_simp; exact IntWalk.u64_in _ ⟨by omega, by omega⟩
        simp only [Act.put, List.setIfInBounds_toArray, List.set_cons_zero, List.set_cons_succ]
        refine take_at 23 (some 70) (.int .u64 (c4 * 4294967296)) rfl rfl (by kernel_rfl) (by kernel_rfl) (by kernel_rfl) (fun _ _ _ h => h) (by rfl) ?x23 ?_
        case x23 => intro w; go_simp; exact IntWalk.u64_in _ ⟨by omega, by omega⟩
        simp only [Act.put, List.setIfInBounds_toArray, List.set_cons_zero, List.set_cons_succ]
        refine take_at 24 (some 71) (.int .u64 a4) rfl rfl (by kernel_rfl) (by kernel_rfl) (by kernel_rfl) (fun _ _ _ h => h) (by rfl) ?x24 ?_
        case x24 => intro w; go_simp
        simp only [Act.put, List.setIfInBounds_toArray, List.set_cons_zero, List.set_cons_succ]
        refine take_at 25 (some 72) (.string r1) rfl rfl (by kernel_rfl) (by kernel_rfl) (by kernel_rfl) (fun _ _ _ h => h) (by rfl) ?x25 ?_
        case x25 => intro w; go_simp
        simp only [Act.put, List.setIfInBounds_toArray, List.set_cons_zero, List.set_cons_succ]
        refine take_at 26 (some 73) (.int .u8 c5) rfl rfl (by kernel_rfl) (by kernel_rfl) (by kernel_rfl) (fun _ _ _ h => h) (by rfl) ?x26 ?_
        case x26 => intro w; go_simp
        simp only [Act.put, List.setIfInBounds_toArray, List.set_cons_zero, List.set_cons_succ]
        refine take_at 27 (some 74) (.int .u64 c5) rfl rfl (by kernel_rfl) (by kernel_rfl) (by kernel_rfl) (fun _ _ _ h => h) (by rfl) ?x27 ?_
        case x27 => intro w; go_simp; exact IntWalk.u64_in _ ⟨by omega, by omega⟩
        simp only [Act.put, List.setIfInBounds_toArray, List.set_cons_zero, List.set_cons_succ]
        refine take_at 28 (some 75) (.int .u64 (c5 * 1099511627776)) rfl rfl (by kernel_rfl) (by kernel_rfl) (by kernel_rfl) (fun _ _ _ h => h) (by rfl) ?x28 ?_
        case x28 => intro w; go_simp; exact IntWalk.u64_in _ ⟨by omega, by omega⟩
        simp only [Act.put, List.setIfInBounds_toArray, List.set_cons_zero, List.set_cons_succ]
        refine take_at 29 (some 76) (.int .u64 a5) rfl rfl (by kernel_rfl) (by kernel_rfl) (by kernel_rfl) (fun _ _ _ h => h) (by rfl) ?x29 ?_
        case x29 => intro w; go_simp
        simp only [Act.put, List.setIfInBounds_toArray, List.set_cons_zero, List.set_cons_succ]
        refine take_at 30 (some 77) (.string r1) rfl rfl (by kernel_rfl) (by kernel_rfl) (by kernel_rfl) (fun _ _ _ h => h) (by rfl) ?x30 ?_
        case x30 => intro w; go_simp
        simp only [Act.put, List.setIfInBounds_toArray, List.set_cons_zero, List.set_cons_succ]
        refine take_at 31 (some 78) (.int .u8 c6) rfl rfl (by kernel_rfl) (by kernel_rfl) (by kernel_rfl) (fun _ _ _ h => h) (by rfl) ?x31 ?_
        case x31 => intro w; go_simp
        simp only [Act.put, List.setIfInBounds_toArray, List.set_cons_zero, List.set_cons_succ]
        refine take_at 32 (some 79) (.int .u64 c6) rfl rfl (by kernel_rfl) (by kernel_rfl) (by kernel_rfl) (fun _ _ _ h => h) (by rfl) ?x32 ?_
        case x32 => intro w; go_simp; exact IntWalk.u64_in _ ⟨by omega, by omega⟩
        simp only [Act.put, List.setIfInBounds_toArray, List.set_cons_zero, List.set_cons_succ]
        refine take_at 33 (some 80) (.int .u64 (c6 * 281474976710656)) rfl rfl (by kernel_rfl) (by kernel_rfl) (by kernel_rfl) (fun _ _ _ h => h) (by rfl) ?x33 ?_
        case x33 => intro w; go_simp; exact IntWalk.u64_in _ ⟨by omega, by omega⟩
        simp only [Act.put, List.setIfInBounds_toArray, List.set_cons_zero, List.set_cons_succ]
        refine take_at 34 (some 81) (.int .u64 a6) rfl rfl (by kernel_rfl) (by kernel_rfl) (by kernel_rfl) (fun _ _ _ h => h) (by rfl) ?x34 ?_
        case x34 => intro w; go_simp
        simp only [Act.put, List.setIfInBounds_toArray, List.set_cons_zero, List.set_cons_succ]
        refine take_at 35 (some 82) (.string r1) rfl rfl (by kernel_rfl) (by kernel_rfl) (by kernel_rfl) (fun _ _ _ h => h) (by rfl) ?x35 ?_
        case x35 => intro w; go_simp
        simp only [Act.put, List.setIfInBounds_toArray, List.set_cons_zero, List.set_cons_succ]
        refine take_at 36 (some 83) (.int .u8 c7) rfl rfl (by kernel_rfl) (by kernel_rfl) (by kernel_rfl) (fun _ _ _ h => h) (by rfl) ?x36 ?_
        case x36 => intro w; go_simp
        simp only [Act.put, List.setIfInBounds_toArray, List.set_cons_zero, List.set_cons_succ]
        refine take_at 37 (some 84) (.int .u64 c7) rfl rfl (by kernel_rfl) (by kernel_rfl) (by kernel_rfl) (fun _ _ _ h => h) (by rfl) ?x37 ?_
        case x37 => intro w; go_simp; exact IntWalk.u64_in _ ⟨by omega, by omega⟩
        simp only [Act.put, List.setIfInBounds_toArray, List.set_cons_zero, List.set_cons_succ]
        refine take_at 38 (some 85) (.int .u64 (c7 * 72057594037927936)) rfl rfl (by kernel_rfl) (by kernel_rfl) (by kernel_rfl) (fun _ _ _ h => h) (by rfl) ?x38 ?_
        case x38 => intro w; go_simp; exact IntWalk.u64_in _ ⟨by omega, by omega⟩
        simp only [Act.put, List.setIfInBounds_toArray, List.set_cons_zero, List.set_cons_succ]
        refine take_at 39 (some 86) (.int .u64 a7) rfl rfl (by kernel_rfl) (by kernel_rfl) (by kernel_rfl) (fun _ _ _ h => h) (by rfl) ?x39 ?_
        case x39 => intro w; go_simp
        simp only [Act.put, List.setIfInBounds_toArray, List.set_cons_zero, List.set_cons_succ]
        refine take_at 40 (some 87) (.int .i64 (N (fr + k))) rfl rfl (by kernel_rfl) (by kernel_rfl) (by kernel_rfl) (fun _ _ _ h => h) (by rfl) ?x40 ?_
        case x40 => intro w; go_simp
        simp only [Act.put, List.setIfInBounds_toArray, List.set_cons_zero, List.set_cons_succ]
        refine wpAnyH_ready (rs := [41]) (by kernel_rfl) (by simp) ?_
        refine AllReadyH.cons rfl (fun K hK => ?_) AllReadyH.nil
        go_simp
        refine (int_any _ _).mono ?_
        rintro e w' ⟨rfl, rfl⟩
        refine hK.out _ _ trivial (fun _ => ?_)
        clear hK K
        refine take_at 42 (some 89) (.pointer (some ⟨g, k * 3, none⟩)) rfl rfl (by kernel_rfl) (by kernel_rfl) (by kernel_rfl) (fun _ _ _ h => h) (by rfl) ?x42 ?_
        case x42 => intro w; go_simp
        simp only [Act.put, List.setIfInBounds_toArray, List.set_cons_zero, List.set_cons_succ]
        refine wpAnyH_ready (rs := [43]) (by kernel_rfl) (by simp) ?_
        refine AllReadyH.cons rfl (fun K hK => ?_) AllReadyH.nil
        go_simp
        refine hK.out _ _ trivial (fun _ => ?_)
        clear hK K
        refine wpAnyH_done (by kernel_rfl) ?_ _
        refine NoPanic.normal ?_
        clear d0 d1 d2 d3 d4 d5 d6 d7 gb1 e1 e2 e3 e4 e5 e6 e7 eN
        go_wp2
        obtain ⟨o3, b3⟩ := rec_step (k := k) hown2 hbel (.int .u8 1) (.int .i64 (N (fr + k))) (.string ⟨#[]⟩)
        refine ⟨⟨k + 1, _, by omega, by go_num, rfl, read_drop HR2 rfl (Nat.le_refl _), ⟨_, o3.alloc _, take_step HZ hlt HZS (vcells_int hTk)⟩, (b3.alloc ?_ _).drew⟩, ?_⟩
        · have h1 := hown2.lt g rfl
          have h2 := b3.size
          have h3 := hbel.size
          simp
          omega
        · simp [intOf]; omega
      · rw [enc_text hTk] at hr'
        have HR1 : (r.extract 1 r.size).data.toList = uvar (S (fr + k)).size ++ ((S (fr + k)).data.toList ++ encs T N S (fr + (k + 1)) (n - (k + 1))) := by
          have := ext1 hr'
          rw [← List.append_assoc]; exact this
        have hsz := size_of hr'
        simp only [List.cons_append, List.length_cons] at hsz
        have q0 : (0 : Int) < (r.size : Int) := by omega
        clear hsz
        have gb := get_bt r
        have b0 : bt r 0 = 2 := bt_of (c := 2) hr' rfl
        clear hr'
        go_wp2_with fail
        generalize hr1 : r.extract 1 r.size = r1 at *
        clear hr1
        go_loop [2, 10, 11] (fun v a b => ∃ (q : ByteArray) (m y j f : Nat), v = .string q ∧ a = .int .i64 m ∧ b = .int .i64 (7 * j : Nat) ∧ Hid (q.data.toList = uvarF f y ++ ((S (fr + k)).data.toList ++ encs T N S (fr + (k + 1)) (n - (k + 1)))) ∧ Fit f y ∧ St (S (fr + k)).size m y j) (fun _ _ b => 21 - (intOf b).toNat)
        case atStart => exact ⟨r1, 0, _, 0, 9, rfl, rfl, rfl, HR1, fit_start (hM k hlt), st_start (hM k hlt)⟩
        case round =>
          obtain ⟨q, m, y, j, f, rfl, rfl, rfl, hq, hfit, hst⟩ := hrel
          have hq' := hq.out
          by_cases hy : y < 128
          · rw [uvarF_lt f y hy] at hq'
            have hsq := size_of hq'
            simp only [List.cons_append, List.length_cons] at hsq
            have p0 : (0 : Int) < (q.size : Int) := by omega
            clear hsq
            have gq := get_bt q
            have c0 : bt q 0 = (y : Int) := (bt_of (c := lastB y) hq' rfl).trans (lastB_val y hy)
            have hy' : (y : Int) < 128 := by omega
            have hq1 : (q.extract 1 q.size).data.toList = (S (fr + k)).data.toList ++ encs T N S (fr + (k + 1)) (n - (k + 1)) := ext1 hq'
            have hz1 := size_of hq1
            rw [ByteArray.size_extract, List.length_append, ← size_eq] at hz1
            have z1 : ((S (fr + k)).size : Int) ≤ (q.size : Int) - 1 := by omega
            clear hz1
            have hx := read_text hq1
            have HX : Hid ((q.extract 1 q.size).data.toList = (S (fr + k)).data.toList ++ encs T N S (fr + (k + 1)) (n - (k + 1))) := hq1
            clear hq1 hq'
            have e1 := and127 y y (by omega) (by omega)
            have hcs : (j = 0 ∧ m = 0 ∧ bits .or .i64 0 (y : Int) = ((S (fr + k)).size : Int)) ∨ (j = 1 ∧ m < 128 ∧ bits .or .i64 (m : Int) ((y : Int) * 128) = ((S (fr + k)).size : Int)) ∨ (j = 2 ∧ m < 16384 ∧ bits .or .i64 (m : Int) ((y : Int) * 16384) = ((S (fr + k)).size : Int)) := by
              rcases hst with ⟨rfl, rfl, hv, hV⟩ | ⟨rfl, hm, hv, hV⟩ | ⟨rfl, hm, hv, hV⟩
              · exact .inl ⟨rfl, rfl, hv ▸ or0 y hy⟩
              · exact .inr (.inl ⟨rfl, by omega, or7 m y _ (by omega) hy (by omega)⟩)
              · exact .inr (.inr ⟨rfl, by omega, or14 m y _ (by omega) hy (by omega)⟩)
            clear hst
            rcases hcs with ⟨rfl, rfl, e2⟩ | ⟨rfl, hm, e2⟩ | ⟨rfl, hm, e2⟩
            all_goals
              go_wp2_with fail
              refine (text_any _ _).mono ?_
              rintro e w1 ⟨rfl, rfl⟩
              go_wp2
              obtain ⟨o3, b3⟩ := rec_step (k := k) hown2 hbel (.int .u8 2) (.int .i64 0) (.string (S (fr + k)))
              refine ⟨⟨k + 1, _, by omega, by go_num, rfl, read_rest HX (by rw [ByteArray.size_extract]; omega), ⟨_, o3.alloc _, take_step hzl hlt hzs (vcells_text hTk)⟩, b3.alloc ?_ _⟩, ?_⟩
              · have h1 := hown2.lt g rfl
                have h2 := b3.size
                have h3 := hbel.size
                simp
                omega
              · simp [intOf]; omega
          · obtain ⟨f', rfl, hfit'⟩ := fit_step hfit hy
            rw [uvarF_ge f' y hy] at hq'
            have hsq := size_of hq'
            simp only [List.cons_append, List.length_cons] at hsq
            have p0 : (0 : Int) < (q.size : Int) := by omega
            clear hsq
            have gq := get_bt q
            obtain ⟨c, hc⟩ : ∃ c : Nat, c = y % 128 + 128 := ⟨_, rfl⟩
            obtain ⟨x, hx⟩ : ∃ x : Nat, x = y % 128 := ⟨_, rfl⟩
            have c0 : bt q 0 = (c : Int) := by
              have := (bt_of (c := contB y) (n := 0) hq' rfl).trans (contB_val y)
              rw [hc]; exact this
            have e1 := and127 c x (by omega) (by omega)
            have x128 : (x : Int) < 128 := by omega
            have c128 : (128 : Int) ≤ (c : Int) := by omega
            have HX : Hid ((q.extract 1 q.size).data.toList = uvarF f' (y / 128) ++ ((S (fr + k)).data.toList ++ encs T N S (fr + (k + 1)) (n - (k + 1)))) := ext1 hq'
            clear hq'
            have hcs : (j = 0 ∧ m = 0 ∧ St (S (fr + k)).size x (y / 128) 1) ∨ (j = 1 ∧ m < 128 ∧ St (S (fr + k)).size (m + x * 128) (y / 128) 2) := by
              rcases hst with ⟨rfl, rfl, hv, hV⟩ | ⟨rfl, hm, hv, hV⟩ | ⟨rfl, hm, hv, hV⟩
              · exact .inl ⟨rfl, rfl, .inr (.inl ⟨rfl, by omega, by omega, hV⟩)⟩
              · exact .inr ⟨rfl, by omega, .inr (.inr ⟨rfl, by omega, by omega, hV⟩)⟩
              · omega
            clear hst
            rcases hcs with ⟨rfl, rfl, hst⟩ | ⟨rfl, hm, hst⟩
            · have e2 := or0 x (by omega)
              clear hc hx
              go_wp2
              refine ⟨⟨_, x, _, 1, f', rfl, rfl, rfl, HX, hfit', hst⟩, ?_⟩
              simp [intOf]
            · obtain ⟨t, ht⟩ : ∃ t : Nat, t = m + x * 128 := ⟨_, rfl⟩
              have e2 := or7 m x t hm (by omega) ht
              rw [← ht] at hst
              clear hc hx ht
              go_wp2
              refine ⟨⟨_, t, _, 2, f', rfl, rfl, rfl, HX, hfit', hst⟩, ?_⟩
              simp [intOf]
    · obtain rfl : k = n := by omega
      go_wp2
      go_ret
      refine ⟨rfl, ?_, hbel⟩
      rw [← hzs, List.take_of_length_le (by rw [hown2.1]; omega)]
      exact hown2
end Go.Proofs.Qxb6616485aDoor.Wk
