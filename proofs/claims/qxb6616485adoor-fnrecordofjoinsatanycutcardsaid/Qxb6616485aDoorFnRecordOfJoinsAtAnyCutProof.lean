import Derived.Test.Qxb6616485aDoorRows
import Derived.Test.Qxb6616485aDoorTie
import Derived.Test.Qxb6616485aDoorCards
import Derived.Test.Qxb6616485aDoorProofCommon
import Derived.Test.Qxb6616485aDoorWalkLawJ
import Derived.Test.Qxb6616485aDoorWalkLawJ2
import Derived.SevenTiedAt
namespace Go.Proofs.Qxb6616485aDoor.fnRecordOfJoinsAtAnyCut
open Go.ChangeShapes Go.WideShapes Go.ChangeAt Go.RowKit Go.Deep Wk Pf
open Go.ChangeMaps (open_string shut_string)

/-- The door's own heap meets the condition. -/
theorem door_met (os : Os) (args : Array Value) : laidMetH Tryd.prog Rows.fnRecordOfJoinsAtAnyCutRow.laid ((World.doorLaid Tryd.prog 400 os).forCall (fun _ _ => 0) ⟨#[], args, []⟩).memory :=
  laidMetH_of_parts3 (fuel := 8) (laidMet_of_run' 8 (by kernel_rfl) (by kernel_rfl)) (by kernel_rfl) (by kernel_rfl)

theorem size9 (w : World) : (sizeOf 9).run Tryd.prog w = .ok 1 w := by
  simp [sizeOf, go_sem]
  rfl

/-- fields[cut:]. -/
theorem cut_from {fa : Option Addr} {m q fc : Nat} {F : Nat → ByteArray} {w : World} (hF : Strs w fa (m + q) F) (hnil : fa = none → m + q = 0 ∧ fc = 0) (hcap : m + q ≤ fc) :
    ∃ xb cb, (∀ w, (Instr.slice 22 (.slice fa (m + q) fc) (some (.int .i64 m)) none none).run Tryd.prog w = .ok (.slice xb q cb) w) ∧ Strs w xb q (fun i => F (m + i)) ∧ (xb = none → q = 0 ∧ cb = 0) := by
  refine ⟨if fc = m then fa else fa.map (·.add (m * 1)), fc - m, fun w => ?_, fun i hi => ?_, fun h => ?_⟩
  · rw [run_slice_l w 22 fa (m + q) fc Tryd.underlying22 .i64 m (by omega) (by omega)]
    show ((sizeOf 9).run Tryd.prog w).andThen _ = _
    rw [size9]
    simp [Result.andThen, sliced]
  · obtain ⟨b, off, rfl, hc, hs⟩ := hF (m + i) (by omega)
    refine ⟨b, off + m, ?_, ?_, hs⟩
    · rw [if_neg (by omega)]
      by_cases h0 : m = 0
      · subst h0; simp [Addr.add]
      · simp [Addr.add, h0]
    · rw [show off + m + i = off + (m + i) by omega]; exact hc
  · have hn : fa = none := by
      split at h
      · exact h
      · simpa using h
    obtain ⟨h1, h2⟩ := hnil hn
    omega

/-- A slice of strings that came in: its length is within its capacity. -/
theorem strs_cap {H : Type} {enc : TypeId × Value → H} {W : World} {a : Option Addr} {n c : Nat} {d : DataW H} {p : List MemPlace} (h : DataW.Trod enc Tryd.prog W 0 (fun _ => true) true 22 (.slice a n c) d p) : n ≤ c := by
  obtain ⟨fuel, hf⟩ := h
  rcases open_strings Tryd.underlying22 Tryd.underlying9 cells9 hf with ⟨hcs, _⟩ | ⟨x, l, cp, ss, hcs, _, hl, hm, hz, _, hcell, hws⟩
  · simp [Value.cells] at hcs
    obtain ⟨rfl, rfl, rfl⟩ := hcs
    omega
  · simp [Value.cells] at hcs
    obtain ⟨rfl, rfl, rfl⟩ := hcs
    omega

theorem walk (tb key : ByteArray) (fa : Option Addr) (fn fc : Nat) (ta : Option Addr) (tn tc : Nat) (na : Option Addr) (nn nc : Nat) (sa : Option Addr) (sn sc : Nat) (F S : Nat → ByteArray) (T : Nat → Bool) (N : Nat → Int) (cut d : Int) (w : World)
    (l1 : tb.size ≤ maxLen) (l2 : key.size ≤ maxLen) (hF : Strs w fa fn F) (hnil : fa = none → fn = 0 ∧ fc = 0) (hcap : fn ≤ fc) (l3 : fn ≤ 9223372036854775807) (hT : Bools w ta tn T) (l4 : tn ≤ 9223372036854775807) (hN : Ints w na nn N) (l5 : nn ≤ 9223372036854775807) (hS : Strs w sa sn S) (l6 : sn ≤ 9223372036854775807) :
    Calls Tryd.prog 3 #[.string tb, .string key, .slice fa fn fc, .slice ta tn tc, .slice na nn nc, .slice sa sn sc, .int .i64 cut, .int .i64 d] w fun e w' => e = .returned (.bool true) ∧ Below w.heap.size w w' := by
  unfold maxLen at l1 l2
  by_cases h : d < 0 ∨ 65536 < d ∨ tn ≠ fn ∨ nn ≠ fn ∨ sn ≠ fn ∨ cut < 0 ∨ (fn : Int) < cut
  · exact joinLaw_short tb key fa fn fc F ta tn tc na nn nc sa sn sc S cut d w hF hS l1 l2 l3 l4 l5 l6 h
  · obtain ⟨e, rfl⟩ := Int.eq_ofNat_of_zero_le (show 0 ≤ d by omega)
    obtain ⟨m, rfl⟩ := Int.eq_ofNat_of_zero_le (show 0 ≤ cut by omega)
    obtain ⟨q, rfl⟩ : ∃ q, fn = m + q := ⟨fn - m, by omega⟩
    obtain rfl : tn = m + q := by omega
    obtain rfl : nn = m + q := by omega
    obtain rfl : sn = m + q := by omega
    obtain ⟨xb, cb, hsl, hxb, hxn⟩ := cut_from hF hnil hcap
    exact joinLaw_main tb key fa m q fc F ta tc T na nc N sa sc S e w hF hT hN hS hnil hcap l1 l2 l3 (by omega) xb cb hsl hxb hxn

set_option maxRecDepth 100000 in
theorem lifted (os : Os) (started : os.Started) (H : Type) (enc : TypeId × Value → H) :
    ReturnsInHanded {} Tryd.checked os 3 .any (fun w args => (Rows.fnRecordOfJoinsAtAnyCutSpec.pre enc Tryd.prog Tryd.f3 [] false w args ∧ laidMetH Tryd.prog Rows.fnRecordOfJoinsAtAnyCutRow.laid w) ∧ sizedMet enc Tryd.prog Tryd.f3 (OpenSpec.ofChange Rows.fnRecordOfJoinsAtAnyCutSpec) false w args)
      (Rows.fnRecordOfJoinsAtAnyCutSpec.post enc Tryd.prog Tryd.f3 false true false false) := by
  refine returnsInHanded_of_change_and (C := Tryd.checked) (X := fun w _ => laidMetH Tryd.prog Rows.fnRecordOfJoinsAtAnyCutRow.laid w) (fun _ _ _ hh h => h.of_heap hh) own started (by kernel_rfl) Tryd.func3
    (ChangeSpec.witness_shaped (enc := enc) (C := Tryd.checked) (os := os) (X := fun w _ => laidMetH Tryd.prog Rows.fnRecordOfJoinsAtAnyCutRow.laid w) false (World.doorLaid Tryd.prog 400 os) #[.string ByteArray.empty, .string ByteArray.empty, .slice none 0 0, .slice none 0 0, .slice none 0 0, .slice none 0 0, .int .i64 0, .int .i64 0] 8 rfl (World.shaped_of_RefB (by kernel_rfl) (by kernel_rfl)) (by kernel_rfl) (by kernel_rfl) (by kernel_rfl) (door_met os _)) ?_
  intro W base args ds gs before hval0 hW _ _ hL _
  clear hL
  have hval : ∀ (j : Nat) t v, Tryd.f3.params[j]? = some t → args[j]? = some v → Value.okWide Tryd.prog W .any base t v := hval0
  have hW' := hW
  obtain ⟨p, q, hA0, hV, rfl, hfz, hnd⟩ := hW
  have hA : DataW.TrodAll enc Tryd.prog W 0 (fun _ => true) true Tryd.f3.params.toList args.toList ds p := hA0
  rw [Tryd.params3] at hA hval
  obtain ⟨v0, vs0, d0, ds0, p0, q0, hargs, rfl, rfl, h0, r0⟩ := trodAll_cons hA
  obtain ⟨v1, vs1, d1, ds1, p1, q1, rfl, rfl, rfl, h1, r1⟩ := trodAll_cons r0
  obtain ⟨v2, vs2, d2, ds2, p2, q2, rfl, rfl, rfl, h2, r2⟩ := trodAll_cons r1
  obtain ⟨v3, vs3, d3, ds3, p3, q3, rfl, rfl, rfl, h3, r3⟩ := trodAll_cons r2
  obtain ⟨v4, vs4, d4, ds4, p4, q4, rfl, rfl, rfl, h4, r4⟩ := trodAll_cons r3
  obtain ⟨v5, vs5, d5, ds5, p5, q5, rfl, rfl, rfl, h5, r5⟩ := trodAll_cons r4
  obtain ⟨v6, vs6, d6, ds6, p6, q6, rfl, rfl, rfl, h6, r6⟩ := trodAll_cons r5
  obtain ⟨v7, vs7, d7, ds7, p7, q7, rfl, rfl, rfl, h7, r7⟩ := trodAll_cons r6
  obtain ⟨rfl, rfl, rfl⟩ := trodAll_nil r7
  obtain rfl : args = #[v0, v1, v2, v3, v4, v5, v6, v7] := by cases args; simp_all
  obtain ⟨rfl, rfl⟩ := trodVars_none hV
  obtain ⟨a0, rfl, rfl, rfl, w0⟩ := open_string Tryd.underlying9 (hval 0 9 v0 rfl rfl) h0
  obtain ⟨a1, rfl, rfl, rfl, w1⟩ := open_string Tryd.underlying9 (hval 1 9 v1 rfl rfl) h1
  obtain ⟨a2, n2, c2, rfl⟩ := okWide_slice Tryd.underlying22 (hval 2 22 v2 rfl rfl)
  obtain ⟨a3, n3, c3, rfl⟩ := okWide_slice Tryd.underlying23 (hval 3 23 v3 rfl rfl)
  obtain ⟨a4, n4, c4, rfl⟩ := okWide_slice Tryd.underlying24 (hval 4 24 v4 rfl rfl)
  obtain ⟨a5, n5, c5, rfl⟩ := okWide_slice Tryd.underlying22 (hval 5 22 v5 rfl rfl)
  obtain ⟨a6, rfl, rfl, rfl, w6⟩ := open_int Tryd.underlying3 (hval 6 3 v6 rfl rfl) h6
  obtain ⟨a7, rfl, rfl, rfl, w7⟩ := open_int Tryd.underlying3 (hval 7 3 v7 rfl rfl) h7
  have lt2 : ∀ x ∈ p2, x.block < W.heap.size := by obtain ⟨m, hm⟩ := h2; exact DataW.trod_lt m _ _ _ hm
  have lt3 : ∀ x ∈ p3, x.block < W.heap.size := by obtain ⟨m, hm⟩ := h3; exact DataW.trod_lt m _ _ _ hm
  have lt4 : ∀ x ∈ p4, x.block < W.heap.size := by obtain ⟨m, hm⟩ := h4; exact DataW.trod_lt m _ _ _ hm
  have lt5 : ∀ x ∈ p5, x.block < W.heap.size := by obtain ⟨m, hm⟩ := h5; exact DataW.trod_lt m _ _ _ hm
  obtain ⟨F, hF, hnil, l3⟩ := strs_in h2
  obtain ⟨T, hT, l4⟩ := bools_in h3
  obtain ⟨N, hN, l5⟩ := ints_in h4
  obtain ⟨S, hS, _, l6⟩ := strs_in h5
  clear hA0 hval0
  refine (walk a0 a1 a2 n2 c2 a3 n3 c3 a4 n4 c4 a5 n5 c5 F S T N a6 a7 W w0 w1 hF hnil (strs_cap h2) l3 hT l4 hN l5 hS l6).mono fun e W' ⟨he, bel⟩ => ?_
  subst he
  exact ⟨_, rfl, _, _, _, [], _, [], hW', trodAll_mk1 (shut_bool Tryd.underlying4 _),
    (trodAll_cons_mk (shut_string Tryd.underlying9 w0) (trodAll_cons_mk (shut_string Tryd.underlying9 w1)
      (trodAll_cons_mk (Below.trod laidOut (by kernel_rfl) (of_decide_eq_true (by kernel_rfl)) h2 bel lt2)
      (trodAll_cons_mk (Below.trod laidOut (by kernel_rfl) (of_decide_eq_true (by kernel_rfl)) h3 bel lt3)
      (trodAll_cons_mk (Below.trod laidOut (by kernel_rfl) (of_decide_eq_true (by kernel_rfl)) h4 bel lt4)
      (trodAll_cons_mk (Below.trod laidOut (by kernel_rfl) (of_decide_eq_true (by kernel_rfl)) h5 bel lt5)
      (trodAll_cons_mk (shut_int Tryd.underlying3 w6) (trodAll_cons_mk (shut_int Tryd.underlying3 w7) trodAll_mk0)))))))), rfl, bel.frame _, fun h => by cases h⟩

theorem over : Rows.FnRecordOfJoinsAtAnyCutSaid :=
  OpenClaim.holds_of_wide 3 Tryd.f3 rfl rfl rfl rfl rfl rfl rfl ⟨rfl, rfl, rfl, rfl, rfl⟩ rfl rfl rfl rfl rfl (by kernel_rfl) Tryd.func3 (by kernel_rfl)
    (of_decide_eq_true (by kernel_rfl)) (by unfold Func.isWrapper; first | (rw [if_pos (by decide +kernel)]; kernel_rfl) | (rw [if_neg (by decide +kernel)]; exact ⟨rfl, rfl⟩))
    (fun os started H enc _ => lifted os started H enc)

/-- The given statement: the tied card. -/
theorem proved : Rows.FnRecordOfJoinsAtAnyCutCardSaid :=
  Claim7.holds_tied_plain_at .later [] [.data, .data, .data] true (true, "44f5e674349d0269d1554cc352392825286b2273e1378dc49119e50cf59efd58") false
    over (fun _ h => by cases h) (by kernel_rfl) (fun _ h => by cases h) fnRecordOfJoinsAtAnyCut_row_tie rfl ⟨rfl, rfl⟩ (by kernel_rfl) rfl
    (fun f fn hf hfn => by
      obtain rfl : f = 3 := Option.some.inj ((show Tryd.prog.funcNamed Rows.fnRecordOfJoinsAtAnyCutRow.func = some 3 by kernel_rfl).symm.trans hf) |>.symm
      obtain rfl : fn = Tryd.f3 := (Option.some.inj (Tryd.func3.symm.trans hfn)).symm
      exact ⟨by kernel_rfl, fun j t ht => by
        rw [Tryd.params3] at ht
        have hm : t ∈ [9, 9, 22, 23, 24, 22, 3, 3] := by simpa using Array.mem_of_getElem? ht
        have hall : ([9, 9, 22, 23, 24, 22, 3, 3].all fun u => !Tryd.prog.wantsStandIn u) = true := by kernel_rfl
        exact (show Tryd.prog.wantsStandIn t = false by simpa using List.all_eq_true.1 hall t hm)⟩)
    (by kernel_rfl)
end Go.Proofs.Qxb6616485aDoor.fnRecordOfJoinsAtAnyCut
