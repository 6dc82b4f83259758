import Derived.Test.Qxb6616485aDoorWalkBig
import Derived.Test.Qxb6616485aDoorPlain
import Derived.WalkSpells
namespace Go.Proofs.Qxb6616485aDoor.Wk
open Go.RowKit En

def Bools (w : World) (a : Option Addr) (n : Nat) (T : Nat → Bool) : Prop := ∀ i, i < n → ∃ b off, a = some ⟨b, off, none⟩ ∧ w.cell? ⟨b, off + i, none⟩ = some (.bool (T i))
def Ints (w : World) (a : Option Addr) (n : Nat) (N : Nat → Int) : Prop := ∀ i, i < n → ∃ b off, a = some ⟨b, off, none⟩ ∧ w.cell? ⟨b, off + i, none⟩ = some (.int .i64 (N i)) ∧ -9223372036854775808 ≤ N i ∧ N i ≤ 9223372036854775807

/-- The bytes gathered so far. -/
def Buf (B : Nat) (w : World) (v : Value) (l : List UInt8) : Prop := w.ownsRow B 5 1 v l.length (bcells l)

theorem Buf.alloc {B : Nat} {w : World} {v : Value} {l : List UInt8} (h : Buf B w v l) (o : Obj) : Buf B (w.alloc o) v l := World.ownsRow.alloc h o
theorem Buf.own {B : Nat} {w : World} {v : Value} {l : List UInt8} (h : Buf B w v l) : ∀ k, v.ownBlock = some k → B ≤ k := fun k hk => (World.ownsRow.lt h k hk).1

theorem wpList_push (w : World) {ops : Array Oper} {rest : List Oper} {o : Oper} {a : Act} {Q : Exit → Act → World → Prop} (hgd : o.guard = none) (s x : Operand)
    (ho : o.op = .call { callee := .builtin .append, args := #[s, x], argTypes := #[39, 39] }) (B : Nat) (W : World) (l : List UInt8) (v : Value) (hs : a.eval s = v) (hbuf : Buf B w v l) (hbel : Below B W w) (hBw : B ≤ w.heap.size)
    (ad : Addr) (cp : Nat) (hx : a.eval x = .slice (some ad) 1 cp) (c : UInt8) (hc : w.cell? ad = some (.int .u8 c.toNat)) (hlen : l.length + 1 ≤ 140737488355328)
    (l' : List UInt8) (hl' : l ++ [c] = l') (hK : ∀ v' w', Buf B w' v' l' → Below B W w' → wpList Tryd.prog ops Q rest (a.put o.dst v') w') : wpList Tryd.prog ops Q (o :: rest) a w := by
  subst hl'
  obtain ⟨i0, hi, hz0, hz1, hz2⟩ := info_parts info5
  refine wpList_append_own w hgd s x 39 ho B 5 i0 (.int .u8 0) 1 1 Tryd.underlying39 hi hz0 hz1 hz2 rfl (by decide) v l.length (bcells l) hs hbuf ad 1 cp [.int .u8 c.toNat] hx rfl ?_ ?_ ?_ ?_ hBw ?_
  · intro j u hu
    match j, hu with
    | 0, hu => simp at hu; subst hu; simpa [Addr.add] using hc
  · intro u hu; simp at hu; subst hu; rfl
  · unfold maxLen; omega
  · omega
  · intro v' w' hown hgrow _
    refine hK v' w' ?_ (hbel.grown hgrow hBw hbuf.own)
    unfold Buf
    rw [List.length_append, bcells_append]
    exact hown

theorem wpList_pushS (w : World) {ops : Array Oper} {rest : List Oper} {o : Oper} {a : Act} {Q : Exit → Act → World → Prop} (hgd : o.guard = none) (s x : Operand)
    (ho : o.op = .call { callee := .builtin .append, args := #[s, x], argTypes := #[39, 9] }) (B : Nat) (W : World) (l : List UInt8) (v : Value) (hs : a.eval s = v) (hbuf : Buf B w v l) (hbel : Below B W w) (hBw : B ≤ w.heap.size)
    (str : ByteArray) (hx : a.eval x = .string str) (hlen : l.length + str.size ≤ 140737488355328)
    (l' : List UInt8) (hl' : l ++ str.data.toList = l') (hK : ∀ v' w', Buf B w' v' l' → Below B W w' → wpList Tryd.prog ops Q rest (a.put o.dst v') w') : wpList Tryd.prog ops Q (o :: rest) a w := by
  subst hl'
  obtain ⟨i0, hi, hz0, hz1, hz2⟩ := info_parts info5
  refine Lib.wpList_append_own_string w hgd s x 39 9 ho B 5 i0 Tryd.underlying39 Tryd.underlying9 hi hz0 hz1 hz2 v l.length (bcells l) hs hbuf str hx ?_ hlen hBw ?_
  · unfold maxLen; omega
  · intro v' w' hown hgrow _
    refine hK v' w' ?_ (hbel.grown hgrow hBw hbuf.own)
    unfold Buf
    rw [List.length_append, bcells_append, ← strCells_eq, ← size_eq]
    exact hown

set_option maxRecDepth 100000 in
set_option maxHeartbeats 2000000 in
theorem encode9 (ta : Option Addr) (tn tc : Nat) (T : Nat → Bool) (na : Option Addr) (nn nc : Nat) (N : Nat → Int) (sa : Option Addr) (sn sc : Nat) (S : Nat → ByteArray) (f0 t0 : Int) (fr tt : Nat) (w : World)
    (hT : Bools w ta tn T) (hN : Ints w na nn N) (hS : Strs w sa sn S) (hf : f0 = (fr : Int)) (ht : t0 = (tt : Int)) (h0 : fr ≤ tt) (h1 : tt ≤ tn) (h2 : tt ≤ nn) (h3 : tt ≤ sn) (h4 : tt ≤ 65536) (hM : ∀ i, i < sn → (S i).size ≤ 1048576) :
    Calls Tryd.prog 9 #[.slice ta tn tc, .slice na nn nc, .slice sa sn sc, .int .i64 f0, .int .i64 t0] w fun e w' => e = .returned (.string ⟨(encs T N S fr (tt - fr)).toArray⟩) ∧ Below w.heap.size w w' := by
  subst hf; subst ht
  go_enter Tryd.func9, Tryd.ntmps9
  go_wp2_with fail
  go_loopw [11, 12] (fun v i wr => ∃ k : Nat, fr + k ≤ tt ∧ i = .int .i64 ((fr + k : Nat) : Int) ∧ Buf w.heap.size wr v (encs T N S fr k) ∧ Below w.heap.size w wr) (fun _ i _ => tt - (intOf i).toNat)
  case atStart => exact ⟨0, by omega, rfl, World.ownsRow_nil _ _ _ _, Below.refl _ _⟩
  case round =>
    obtain ⟨k, hk, rfl, hbuf, hbel⟩ := hrel
    have hlen : (encs T N S fr k).length ≤ k * (11 + 1048576) := encs_length T N S fr 1048576 k (fun i hi => hM _ (by omega))
    have hk6 : k ≤ 65536 := by omega
    have hlen' : (encs T N S fr k).length ≤ 70000000000 := by omega
    clear hlen
    by_cases hlt : fr + k < tt
    · obtain ⟨tb, toff, rfl, hcT⟩ := hT (fr + k) (by omega)
      have htb := World.block_lt_of_cell? _ _ hcT
      have hcT' : wr.cell? ⟨tb, toff + (fr + k), none⟩ = some (.bool (T (fr + k))) := (hbel.cell htb).trans hcT
      cases hTk : T (fr + k)
      · obtain ⟨nb, noff, rfl, hcN, hN0, hN1⟩ := hN (fr + k) (by omega)
        have hnb := World.block_lt_of_cell? _ _ hcN
        rw [hTk] at hcT'
        obtain ⟨U, hU⟩ : ∃ U : Nat, U = (N (fr + k) % 18446744073709551616).toNat := ⟨_, rfl⟩
        have hw : IntKind.u64.wrap (N (fr + k)) = (U : Int) := by rw [IntKind.wrap_u64, hU]; omega
        have hUlt : U < 18446744073709551616 := by omega
        have HU : Hid (U = (N (fr + k) % 18446744073709551616).toNat) := hU
        clear hU
        go_wp2_with (at_builtin; refine wpList_push _ rfl _ _ rfl w.heap.size w (encs T N S fr k) _ rfl ?e1 ?e2 ?e3 _ _ rfl 1 ?e4 ?e5 (num (encs T N S fr k) U 0) (num_nil _ _) ?_)
        case e1 => exact hbuf.alloc _
        case e2 => exact hbel.alloc (by have := hbel.size; omega) _
        case e3 => have := hbel.size; omega
        case e5 => omega
        intro v1 w1 hb1 hbel1
        have hcN1 : w1.cell? ⟨nb, noff + (fr + k), none⟩ = some (.int .i64 (N (fr + k))) := (hbel1.cell hnb).trans hcN
        go_wp2_with fail
        go_loopw [11, 14, 15] (fun v u j wr => ∃ m : Nat, m ≤ 8 ∧ j = .int .i64 m ∧ u = .int .u64 (shr8 U m : Nat) ∧ Buf w.heap.size wr v (num (encs T N S fr k) U m) ∧ Below w.heap.size w wr) (fun _ _ j _ => 8 - (intOf j).toNat)
        case atStart => exact ⟨0, by omega, rfl, by rw [shr8_zero], hb1, hbel1⟩
        case round =>
          obtain ⟨m, hm, rfl, rfl, hbuf2, hbel2⟩ := hrel
          have hl2 := num_length (encs T N S fr k) U m
          have hbs := hbel2.size
          have hsh := shr8_le U m
          by_cases hm8 : m < 8
          · have HV : Hid (((numB U m).toNat : Int) = (shr8 U m : Int) % 256) := numB_val U m
            have HS : Hid (shr8 U (m + 1) = shr8 U m / 256) := shr8_succ U m
            go_wp2_with (at_builtin; refine wpList_push _ rfl _ _ rfl w.heap.size w (num (encs T N S fr k) U m) _ rfl ?f1 ?f2 ?f3 _ _ rfl (numB U m) ?f4 ?f5 (num (encs T N S fr k) U (m + 1)) (num_snoc _ _ _) ?_)
            case f1 => exact hbuf2.alloc _
            case f2 => exact hbel2.alloc (by omega) _
            case f3 => simp; omega
            case f4 => rw [HV.out]; simp
            case f5 => rw [hl2]; omega
            intro v2 w2 hb3 hbel3
            go_wp2
            refine ⟨⟨m + 1, by omega, by go_num, by rw [HS.out]; go_num, hb3, hbel3⟩, ?_⟩
            simp [intOf]; omega
          · obtain rfl : m = 8 := by omega
            have HE := hbuf2
            rw [HU.out, encs_num hTk] at HE
            go_wp2
            refine ⟨⟨k + 1, by omega, by go_num, HE, hbel2⟩, ?_⟩
            simp [intOf]; omega
      · obtain ⟨sb, soff, rfl, hcS, _⟩ := hS (fr + k) (by omega)
        have hsb := World.block_lt_of_cell? _ _ hcS
        have hsz := hM (fr + k) (by omega)
        rw [hTk] at hcT'
        go_wp2_with (at_builtin; refine wpList_push _ rfl _ _ rfl w.heap.size w (encs T N S fr k) _ rfl ?a1 ?a2 ?a3 _ _ rfl 2 ?a4 ?a5 (txt (encs T N S fr k) []) (txt_nil _) ?_)
        case a1 => exact hbuf.alloc _
        case a2 => exact hbel.alloc (by have := hbel.size; omega) _
        case a3 => have := hbel.size; omega
        case a5 => omega
        intro v1 w1 hb1 hbel1
        have hcS1 : w1.cell? ⟨sb, soff + (fr + k), none⟩ = some (.string (S (fr + k))) := (hbel1.cell hsb).trans hcS
        go_wp2_with fail
        go_loopw [11, 13] (fun v x wr => ∃ (f y : Nat) (pre : List UInt8), x = .int .u64 y ∧ y ≤ 1048576 ∧ Fit f y ∧ Hid (pre ++ uvarF f y = uvar (S (fr + k)).size) ∧ pre.length + f = 9 ∧ Buf w.heap.size wr v (txt (encs T N S fr k) pre) ∧ Below w.heap.size w wr) (fun _ x _ => (intOf x).toNat)
        case atStart => exact ⟨9, (S (fr + k)).size, [], by simp, hsz, fit_start hsz, rfl, rfl, hb1, hbel1⟩
        case round =>
          obtain ⟨f, y, pre, rfl, hy, hfit, hpre, hpl, hbuf2, hbel2⟩ := hrel
          have hl2 := txt_length (encs T N S fr k) pre
          have hbs := hbel2.size
          by_cases h128 : y < 128
          · have HV : Hid (((lastB y).toNat : Int) = (y : Int)) := lastB_val y h128
            have HL := pre_last hpre.out h128
            go_wp2_with (first
              | (at_builtin; refine wpList_push _ rfl _ _ rfl w.heap.size w (txt (encs T N S fr k) pre) _ rfl ?c1 ?c2 ?c3 _ _ rfl (lastB y) ?c4 ?c5 (txt (encs T N S fr k) (pre ++ [lastB y])) (txt_snoc _ _ _) ?_))
            case c1 => exact hbuf2.alloc _
            case c2 => exact hbel2.alloc (by omega) _
            case c3 => simp; omega
            case c4 => rw [HV.out]; simp
            case c5 => rw [hl2]; omega
            intro v2 w2 hb3 hbel3
            have hcS2 : w2.cell? ⟨sb, soff + (fr + k), none⟩ = some (.string (S (fr + k))) := (hbel3.cell hsb).trans hcS
            have hl3 := txt_length (encs T N S fr k) (uvar (S (fr + k)).size)
            have hl4 := uvarF_length 9 (S (fr + k)).size
            clear HV HL
            go_wp2_with (at_builtin; refine wpList_pushS _ rfl _ _ rfl w.heap.size w (txt (encs T N S fr k) (uvar (S (fr + k)).size)) _ rfl ?d1 ?d2 ?d3 (S (fr + k)) rfl ?d4 (encs T N S fr (k + 1)) (encs_txt hTk) ?_)
            case d1 => exact hb3
            case d2 => exact hbel3
            case d3 => exact hbel3.size
            case d4 => rw [hl3]; unfold uvar; omega
            intro v3 w3 hb4 hbel4
            go_wp2
            refine ⟨⟨k + 1, by omega, by go_num, hb4, hbel4⟩, ?_⟩
            simp [intOf]; omega
          · obtain ⟨f', rfl, hfit'⟩ := fit_step hfit h128
            have e128 := contB_or y
            have HP : Hid ((pre ++ [contB y]) ++ uvarF f' (y / 128) = uvar (S (fr + k)).size) := pre_cont hpre.out h128
            go_wp2_with (at_builtin; refine wpList_push _ rfl _ _ rfl w.heap.size w (txt (encs T N S fr k) pre) _ rfl ?b1 ?b2 ?b3 _ _ rfl (contB y) ?b4 ?b5 (txt (encs T N S fr k) (pre ++ [contB y])) (txt_snoc _ _ _) ?_)
            case b1 => exact hbuf2.alloc _
            case b2 => exact hbel2.alloc (by omega) _
            case b3 => simp; omega
            case b4 => simp
            case b5 => rw [hl2]; omega
            intro v2 w2 hb3 hbel3
            clear e128
            go_wp2
            refine ⟨⟨f', y / 128, pre ++ [contB y], by go_num, by omega, hfit', HP, by simp; omega, hb3, hbel3⟩, ?_⟩
            simp [intOf]; omega
    · have hce := conv_own hbuf
      go_wp2
      go_ret
      obtain rfl : k = tt - fr := by omega
      exact ⟨rfl, hbel⟩
end Go.Proofs.Qxb6616485aDoor.Wk
