/- LawS5721AWhole: the row, and its tied card. -/
import Derived.Test.YbulkdnloDoorWhP
import Derived.Test.YbulkdnloDoorWhQ
import Derived.Test.YbulkdnloDoorLaid
import Derived.Test.YbulkdnloDoorTie
import Derived.Test.YbulkdnloDoorCards
namespace Go.Proofs.YbulkdnloDoor
open Go.ChangeShapes Go.WideShapes Go.ChangeAt Go.RowKit
set_option linter.unusedVariables false

namespace Whole
set_option maxRecDepth 100000 in
/-- LawS5721AWhole, whatever the input. -/
theorem whole_any (a0 : Option Addr) (len cap db off : Nat) (zs : List Int) (aE aU : Addr) (ch ik io : Int) (fl ok0 : Bool) (j0 j1 j2 j3 j4 j5 j6 j7 j8 j9 j10 j11 : Int) (w : World) (hin : In w a0 len cap db off zs aE aU) (hn0 : a0 = none → len = 0 ∧ cap = 0) (hc0 : 0 ≤ ch) (hc1 : ch < 256) (hm : len ≤ maxLen) :
    Calls Ybad.prog 3 #[.slice a0 len cap, .int .u8 ch, .bool fl, .int .u32 ik, .int .u64 io, .bool ok0, .agg #[.int .u8 j0, .int .u8 j1, .int .u8 j2, .int .u8 j3, .int .u8 j4, .int .u8 j5, .int .u8 j6, .int .u8 j7, .int .u8 j8, .int .u8 j9, .int .u8 j10, .int .u8 j11]] w fun e w' => e = .returned (.bool true) ∧ Below w.heap.size w w' := by
  by_cases hlen : len ≤ 1048576
  · by_cases h12 : 12 < len
    · cases fl
      · exact whole_eof_P a0 len cap db off zs aE aU ch ik io ok0 j0 j1 j2 j3 j4 j5 j6 j7 j8 j9 j10 j11 w hin hn0 hc0 hc1 hlen h12
      · exact whole_fail_P a0 len cap db off zs aE aU ch ik io ok0 j0 j1 j2 j3 j4 j5 j6 j7 j8 j9 j10 j11 w hin hn0 hc0 hc1 hlen h12
    · cases fl
      · exact whole_eof_Q a0 len cap db off zs aE aU ch ik io ok0 j0 j1 j2 j3 j4 j5 j6 j7 j8 j9 j10 j11 w hin hn0 hc0 hc1 hlen (by omega)
      · exact whole_fail_Q a0 len cap db off zs aE aU ch ik io ok0 j0 j1 j2 j3 j4 j5 j6 j7 j8 j9 j10 j11 w hin hn0 hc0 hc1 hlen (by omega)
  · unfold maxLen at hm
    have t1 : decide ((1048576 : Int) < (len : Int)) = true := by simp; omega
    go_enter Ybad.func3, Ybad.ntmps3
    go_wp2
    go_ret
    exact ⟨rfl, (Below.refl _ _).alloc (Nat.le_refl _) _⟩

theorem cells25 : Ybad.prog.cellsOf 25 = 12 := by kernel_rfl
theorem cells5 : Ybad.prog.cellsOf 5 = 1 := by kernel_rfl
theorem okWide_arr {P : Program} {w : World} {r : Reach} {base : Nat} {t e : TypeId} {n : Nat} {v : Value} (ht : P.underlying t = some (.array n e)) (h : Value.okWide P w r base t v) : ∃ cs, v = .agg cs ∧ cs.size = P.cellsOf t := by
  simp only [Value.okWide, ht] at h
  obtain ⟨cs, h1, h2, _⟩ := h
  exact ⟨cs, h1, h2⟩
theorem array12 {α : Type} {cs : Array α} (h : cs.size = 12) : ∃ c0 c1 c2 c3 c4 c5 c6 c7 c8 c9 c10 c11, cs = #[c0, c1, c2, c3, c4, c5, c6, c7, c8, c9, c10, c11] := by
  obtain ⟨l⟩ := cs
  match l, h with
  | [c0, c1, c2, c3, c4, c5, c6, c7, c8, c9, c10, c11], _ => exact ⟨c0, c1, c2, c3, c4, c5, c6, c7, c8, c9, c10, c11, rfl⟩

set_option maxRecDepth 100000 in
/-- The array that came in, opened. -/
theorem open25 {H : Type} {enc : TypeId × Value → H} {W : World} {r : Reach} {b0 base : Nat} {sp : Nat → Bool} {b : Bool} {v : Value} {d : DataW H} {p : List MemPlace} (hv : Value.okWide Ybad.prog W r b0 25 v) (h : DataW.Trod enc Ybad.prog W base sp b 25 v d p) :
    ∃ j0 j1 j2 j3 j4 j5 j6 j7 j8 j9 j10 j11 : Int, v = .agg #[.int .u8 j0, .int .u8 j1, .int .u8 j2, .int .u8 j3, .int .u8 j4, .int .u8 j5, .int .u8 j6, .int .u8 j7, .int .u8 j8, .int .u8 j9, .int .u8 j10, .int .u8 j11] := by
  obtain ⟨cs, rfl, hsz⟩ := okWide_arr Ybad.underlying25 hv
  rw [cells25] at hsz
  obtain ⟨c0, c1, c2, c3, c4, c5, c6, c7, c8, c9, c10, c11, rfl⟩ := array12 hsz
  obtain ⟨fuel, hf⟩ := h
  obtain ⟨xs, m, _, _, _, hl, hel⟩ := DataW.trod_array Ybad.underlying25 hf
  have one : ∀ i c, i < 12 → (#[c0, c1, c2, c3, c4, c5, c6, c7, c8, c9, c10, c11] : Array Value).toList[i]? = some c → ∃ k : Int, c = .int .u8 k := by
    intro i c hi hc
    have h1 := hel i hi
    have hx : xs[i]? = some xs[i] := List.getElem?_eq_getElem (by omega)
    rw [hx] at h1
    obtain ⟨k, e1, _, _⟩ := DataW.trod_int Ybad.underlying5 h1
    rw [cells5, Nat.mul_one] at e1
    have e2 : ((Value.agg #[c0, c1, c2, c3, c4, c5, c6, c7, c8, c9, c10, c11]).cells.toList.drop i).take 1 = [c] := by
      have e3 : (Value.agg #[c0, c1, c2, c3, c4, c5, c6, c7, c8, c9, c10, c11]).cells.toList = [c0, c1, c2, c3, c4, c5, c6, c7, c8, c9, c10, c11] := rfl
      have hc' : [c0, c1, c2, c3, c4, c5, c6, c7, c8, c9, c10, c11][i]? = some c := hc
      obtain ⟨hlt, hget⟩ := List.getElem?_eq_some_iff.1 hc'
      rw [e3, List.drop_eq_getElem_cons hlt, hget]
      rfl
    rw [e2] at e1
    simp at e1
    exact ⟨k, e1⟩
  obtain ⟨j0, rfl⟩ := one 0 c0 (by omega) rfl
  obtain ⟨j1, rfl⟩ := one 1 c1 (by omega) rfl
  obtain ⟨j2, rfl⟩ := one 2 c2 (by omega) rfl
  obtain ⟨j3, rfl⟩ := one 3 c3 (by omega) rfl
  obtain ⟨j4, rfl⟩ := one 4 c4 (by omega) rfl
  obtain ⟨j5, rfl⟩ := one 5 c5 (by omega) rfl
  obtain ⟨j6, rfl⟩ := one 6 c6 (by omega) rfl
  obtain ⟨j7, rfl⟩ := one 7 c7 (by omega) rfl
  obtain ⟨j8, rfl⟩ := one 8 c8 (by omega) rfl
  obtain ⟨j9, rfl⟩ := one 9 c9 (by omega) rfl
  obtain ⟨j10, rfl⟩ := one 10 c10 (by omega) rfl
  obtain ⟨j11, rfl⟩ := one 11 c11 (by omega) rfl
  exact ⟨j0, j1, j2, j3, j4, j5, j6, j7, j8, j9, j10, j11, rfl⟩

theorem nil_of {H : Type} {enc : TypeId × Value → H} {W : World} {a0 : Option Addr} {len0 cap0 fuel : Nat} {base : Nat} {sp : Nat → Bool} {b : Bool} {y : DataW H × List MemPlace}
    (hf : DataW.trod enc Ybad.prog W base sp b fuel 22 (Value.slice a0 len0 cap0).cells.toList = some y) : a0 = none → len0 = 0 ∧ cap0 = 0 := by
  intro h0
  subst h0
  rcases open_ints Ybad.underlying22 Ybad.underlying5 (by kernel_rfl) hf with ⟨hcs, _⟩ | ⟨x, l, c, zs, hcs, _⟩
  · simp [Value.cells] at hcs
    exact hcs
  · simp [Value.cells] at hcs

set_option maxRecDepth 100000 in
theorem lifted (os : Os) (started : os.Started) (H : Type) (enc : TypeId × Value → H) :
    ReturnsInHanded {} Ybad.checked os 3 .any (fun w args => (Rows.lawS5721AWholeSpec.pre enc Ybad.prog Ybad.f3 [] false w args ∧ laidMetH Ybad.prog laid3 w) ∧ sizedMet enc Ybad.prog Ybad.f3 (OpenSpec.ofChange Rows.lawS5721AWholeSpec) false w args)
      (Rows.lawS5721AWholeSpec.post enc Ybad.prog Ybad.f3 false true false false) := by
  refine returnsInHanded_of_change_and (C := Ybad.checked) (X := fun w _ => laidMetH Ybad.prog laid3 w) (fun _ _ _ hh h => h.of_heap hh) own started (by kernel_rfl) Ybad.func3
    (ChangeSpec.witness_shaped (enc := enc) (C := Ybad.checked) (os := os) (X := fun w _ => laidMetH Ybad.prog laid3 w) false (World.doorLaid Ybad.prog 85 os) #[.slice none 0 0, .int .u8 0, .bool false, .int .u32 0, .int .u64 0, .bool false, .agg #[.int .u8 0, .int .u8 0, .int .u8 0, .int .u8 0, .int .u8 0, .int .u8 0, .int .u8 0, .int .u8 0, .int .u8 0, .int .u8 0, .int .u8 0, .int .u8 0]] 8 rfl (World.shaped_of_RefB (by kernel_rfl) (by kernel_rfl)) (by kernel_rfl) (by kernel_rfl) (by kernel_rfl) (door_met os _)) ?_
  intro W base args ds gs before hval0 hW _ _ hL _
  have hval : ∀ (j : Nat) t v, Ybad.f3.params[j]? = some t → args[j]? = some v → Value.okWide Ybad.prog W .any base t v := hval0
  have hW' := hW
  obtain ⟨p, q, hA0, hV, rfl, hfz, hnd⟩ := hW
  have hA : DataW.TrodAll enc Ybad.prog W 0 (fun _ => true) true Ybad.f3.params.toList args.toList ds p := hA0
  rw [Ybad.params3] at hA hval
  obtain ⟨v0, vs0, d0, ds0, p0, q0, hargs, rfl, rfl, h0, r0⟩ := trodAll_cons hA
  obtain ⟨v1, vs1, d1, ds1, p1, q1, rfl, rfl, rfl, h1, r1⟩ := trodAll_cons r0
  obtain ⟨v2, vs2, d2, ds2, p2, q2, rfl, rfl, rfl, h2, r2⟩ := trodAll_cons r1
  obtain ⟨v3, vs3, d3, ds3, p3, q3, rfl, rfl, rfl, h3, r3⟩ := trodAll_cons r2
  obtain ⟨v4, vs4, d4, ds4, p4, q4, rfl, rfl, rfl, h4, r4⟩ := trodAll_cons r3
  obtain ⟨v5, vs5, d5, ds5, p5, q5, rfl, rfl, rfl, h5, r5⟩ := trodAll_cons r4
  obtain ⟨v6, vs6, d6, ds6, p6, q6, rfl, rfl, rfl, h6, r6⟩ := trodAll_cons r5
  obtain ⟨rfl, rfl, rfl⟩ := trodAll_nil r6
  obtain rfl : args = #[v0, v1, v2, v3, v4, v5, v6] := by cases args; simp_all
  obtain ⟨rfl, rfl⟩ := trodVars_none hV
  obtain ⟨a0, len0, cap0, rfl⟩ := okWide_slice Ybad.underlying22 (hval 0 22 v0 rfl rfl)
  have k0 := h0
  have lt0 : ∀ x ∈ p0, x.block < W.heap.size := by obtain ⟨m, hm⟩ := k0; exact DataW.trod_lt m _ _ _ hm
  obtain ⟨ch, rfl, rfl, rfl, w1⟩ := open_int Ybad.underlying5 (hval 1 5 v1 rfl rfl) h1
  obtain ⟨fl, rfl, rfl, rfl⟩ := open_bool Ybad.underlying4 (hval 2 4 v2 rfl rfl) h2
  obtain ⟨ik, rfl, rfl, rfl, w3⟩ := open_int Ybad.underlying23 (hval 3 23 v3 rfl rfl) h3
  obtain ⟨io, rfl, rfl, rfl, w4⟩ := open_int Ybad.underlying24 (hval 4 24 v4 rfl rfl) h4
  obtain ⟨ok0, rfl, rfl, rfl⟩ := open_bool Ybad.underlying4 (hval 5 4 v5 rfl rfl) h5
  have k6 := h6
  have lt6 : ∀ x ∈ p6, x.block < W.heap.size := by obtain ⟨m, hm⟩ := k6; exact DataW.trod_lt m _ _ _ hm
  obtain ⟨j0, j1, j2, j3, j4, j5, j6, j7, j8, j9, j10, j11, rfl⟩ := open25 (hval 6 25 v6 rfl rfl) h6
  obtain ⟨aE, aU, g0, g1, bE, bU, hne⟩ := sentinels hL
  have hn0 : a0 = none → len0 = 0 ∧ cap0 = 0 := by
    obtain ⟨fuel, hf⟩ := h0
    exact nil_of hf
  obtain ⟨db, off, zs, hm, hin⟩ : ∃ db off zs, len0 ≤ maxLen ∧ In W a0 len0 cap0 db off zs aE aU := by
    obtain ⟨fuel, hf⟩ := h0
    exact in_of hf g0 g1 bE bU hne
  clear hA0 hval0
  have hch := bounds_u8 w1
  refine (whole_any a0 len0 cap0 db off zs aE aU ch ik io fl ok0 j0 j1 j2 j3 j4 j5 j6 j7 j8 j9 j10 j11 W hin hn0 hch.1 (by omega) hm).mono fun e W' ⟨he, bel⟩ => ?_
  subst he
  exact ⟨_, rfl, _, _, _, [], _, [], hW', trodAll_mk1 (shut_bool Ybad.underlying4 _), (trodAll_cons_mk (Below.trod laidOut (by kernel_rfl) (of_decide_eq_true (by kernel_rfl)) k0 bel lt0) (trodAll_cons_mk (shut_int Ybad.underlying5 w1) (trodAll_cons_mk (shut_bool Ybad.underlying4 _) (trodAll_cons_mk (shut_int Ybad.underlying23 w3) (trodAll_cons_mk (shut_int Ybad.underlying24 w4) (trodAll_cons_mk (shut_bool Ybad.underlying4 _) (trodAll_cons_mk (Below.trod laidOut (by kernel_rfl) (of_decide_eq_true (by kernel_rfl)) k6 bel lt6) trodAll_mk0))))))), rfl, bel.frame _, fun h => by cases h⟩

theorem holds : Rows.LawS5721AWholeSaid :=
  OpenClaim.holds_of_wide 3 Ybad.f3 rfl rfl rfl rfl rfl rfl rfl ⟨rfl, rfl, rfl, rfl, rfl⟩ rfl rfl rfl rfl rfl (by kernel_rfl) Ybad.func3 (by kernel_rfl)
    (of_decide_eq_true (by kernel_rfl)) (by unfold Func.isWrapper; first | (rw [if_pos (by decide +kernel)]; kernel_rfl) | (rw [if_neg (by decide +kernel)]; exact ⟨rfl, rfl⟩))
    (fun os started H enc _ => lifted os started H enc)
end Whole

/-- THE CARD. -/
theorem whole_card : Rows.LawS5721AWholeCardSaid :=
  Claim7.holds_tied_plain_at .later [] [.sentinel, .sentinel, .sentinel] true Rows.lawS5721AWholeCard.stood.harness true
    Whole.holds (fun _ h => by cases h) (by kernel_rfl) (fun _ h => by cases h) lawS5721AWhole_row_tie rfl ⟨rfl, rfl⟩ (by kernel_rfl) rfl
    (fun f fn hf hfn => by
      obtain rfl : f = 3 := Option.some.inj ((show Ybad.prog.funcNamed Rows.lawS5721AWholeRow.func = some 3 by kernel_rfl).symm.trans hf) |>.symm
      obtain rfl : fn = Ybad.f3 := (Option.some.inj (Ybad.func3.symm.trans hfn)).symm
      exact ⟨by kernel_rfl, fun j t ht => by
        rw [Ybad.params3] at ht
        have hm : t ∈ [22, 5, 4, 23, 24, 4, 25] := by simpa using Array.mem_of_getElem? ht
        have hall : ([22, 5, 4, 23, 24, 4, 25].all fun u => !Ybad.prog.wantsStandIn u) = true := by kernel_rfl
        exact (show Ybad.prog.wantsStandIn t = false by simpa using List.all_eq_true.1 hall t hm)⟩)
    (by kernel_rfl)
end Go.Proofs.YbulkdnloDoor
