/- LawS5722BWhole: the told row and her tied card. -/
import Derived.Test.YbulkdnmcFmtAll
import Derived.Test.YbulkdnmcFmtTie
import Derived.Test.YbulkdnmcFmtCards
import Derived.ProofKit
import Derived.LaidMore
import Derived.LaidLaws
import Derived.OpenShut
import Derived.OpenVars
import Derived.ChangeOld
import Derived.Stop.Joined
import Derived.Stop.LaidErr
import Derived.Stop.JoinedAt
import Derived.Stop.JoinedTold
import Derived.Deep.DeepWitnessRef
import Derived.SevenTiedAt
namespace Go.Proofs.YbulkdnmcFmt
open Go.ChangeShapes Go.WideShapes Go.ChangeAt Go.RowKit Go.Kit
open Go.Extern.Stop Go.Stop Go.Extern
set_option linter.unusedVariables false
set_option linter.unusedSimpArgs false

theorem own : ownKnob Ybaf.prog.godebug = none := by kernel_rfl
theorem laidOut : laidOutB Ybaf.prog = true := by kernel_rfl
/-- The listed variable's name. -/
def varNm : String := (Rows.lawS5722BWholeRow.laid.map (·.1)).headD ""
theorem gErr : Ybaf.prog.globalNamed varNm = some 1 := by kernel_rfl
theorem tErr : (Ybaf.prog.globals[1]?).map (·.type) = some 94 := by kernel_rfl
theorem cells109 : Ybaf.prog.cellsOf 109 = 1 := by kernel_rfl
theorem cells9 : Ybaf.prog.cellsOf 9 = 1 := by kernel_rfl
/-- The name that the listed error's type bears. -/
def errName : String := match (Rows.laid_example_com_countersign_countersign_ErrValue : DataW Unit) with | .iface n _ => n | _ => ""
theorem row107 (u : TypeId) (h : Ybaf.prog.typeName? 3 u = some errName) : u = 107 :=
  typeName_ptr_named (nm := "errors.errorString") (by kernel_rfl) (by kernel_rfl) (by decide) u h
def laid1 : List (String × DataW Unit) := Rows.lawS5722BWholeRow.laid

/-- The door's own heap meets the condition. -/
theorem door_met (os : Os) (args : Array Value) : laidMetH Ybaf.prog laid1 ((World.doorLaid Ybaf.prog 28 os).forCall (fun _ _ => 0) ⟨#[], args, []⟩).memory :=
  laidMetH_of_parts3 (fuel := 8) (laidMet_of_run' 8 (by kernel_rfl) (by kernel_rfl)) (by kernel_rfl) (by kernel_rfl)

set_option maxRecDepth 100000 in
theorem sentinel {W : World} (h : laidMetH Ybaf.prog laid1 W) : Sen W := by
  rw [MakeChecks.laidMetH_plain _ _ _ (by kernel_rfl)] at h
  obtain ⟨ps, ⟨g0, t0, cs0, f0, p0, q0, hg0, ht0, hv0, hd0, hq0, e0⟩, hnd, hrows⟩ := h
  obtain rfl := Option.some.inj (gErr.symm.trans hg0)
  obtain rfl := Option.some.inj (tErr.symm.trans ht0)
  have hq0' : q0 = [] := hq0
  subst hq0'
  subst e0
  obtain ⟨l0⟩ := cs0
  have ok0 : ∀ u v, l0 = [.iface u v] → Value.okWide Ybaf.prog W .any 0 u v := fun u v e => by
    subst e
    exact (hrows 1 0 (by simp [MemPlace.row])).2 u v (by simpa using World.var?_cell hg0 hv0 0)
  obtain ⟨a0, s0, rfl, hc0, hs0, hz0, rfl⟩ := errorString_of_trod Ybaf.underlying94 row107 Ybaf.underlying107 Ybaf.underlying109 rfl rfl Ybaf.underlying9 cells109 cells9 hd0 ok0
  exact ⟨a0, s0, by simpa using World.var?_cell hg0 hv0 0, hc0⟩

theorem addr_none {W : World} {x : Addr} {v : Value} (h : W.cell? x = some v) : x = ⟨x.block, x.off, none⟩ := by
  obtain ⟨b, o, sp⟩ := x
  cases sp with
  | none => rfl
  | some z =>
    exfalso
    unfold World.cell? at h
    split at h
    · simp at h
    · cases h

/-- A slice of bytes that came in. -/
theorem ref_of {H : Type} {enc : TypeId × Value → H} {W : World} {a0 : Option Addr} {len0 cap0 fuel : Nat} {base : Nat} {sp : Nat → Bool} {b : Bool} {y : DataW H × List MemPlace} (hpos : 0 < W.heap.size)
    (hf : DataW.trod enc Ybaf.prog W base sp b fuel 23 (Value.slice a0 len0 cap0).cells.toList = some y) :
    ∃ r : Ref, r.a = a0 ∧ r.n = len0 ∧ r.c = cap0 ∧ r.ok W ∧ r.b < W.heap.size ∧ (r.a = none → r.n = 0 ∧ r.c = 0) ∧ r.n ≤ maxLen := by
  rcases open_ints Ybaf.underlying23 Ybaf.underlying5 (by kernel_rfl) hf with ⟨hcs, _⟩ | ⟨x, l, c, zs, hcs, _, hl, hm, hz, _, hcell, hwz⟩
  · simp [Value.cells] at hcs
    obtain ⟨rfl, rfl, rfl⟩ := hcs
    exact ⟨⟨0, 0, none, 0, 0, []⟩, rfl, rfl, rfl, Sl.nil _ _ _, hpos, fun _ => ⟨rfl, rfl⟩, by decide⟩
  · simp [Value.cells] at hcs
    obtain ⟨rfl, rfl, rfl⟩ := hcs
    have hzl : len0 ≤ zs.length := by rw [hz]; split <;> omega
    rcases Nat.eq_zero_or_pos len0 with h0 | h0
    · subst h0
      exact ⟨⟨0, 0, some x, 0, cap0, []⟩, rfl, rfl, rfl, ⟨rfl, Nat.zero_le _, fun h => absurd h (by simp), fun j hj => by simp at hj⟩, hpos, fun h => by simp at h, Nat.zero_le _⟩
    · have hx := hcell 0 (by omega)
      rw [show x.add 0 = x from rfl] at hx
      have e := addr_none hx
      refine ⟨⟨x.block, x.off, some x, len0, cap0, (zs.take len0).map (fun z => UInt8.ofNat z.toNat)⟩, rfl, rfl, rfl, ⟨by simp; omega, hl, fun _ => by rw [← e], fun j hj => ?_⟩, World.block_lt_of_cell? W _ hx, fun h => by simp at h, Nat.le_trans hl hm⟩
      simp only [List.length_map, List.length_take] at hj
      have h2 := hcell j (by omega)
      rw [e, Addr.add_mid'] at h2
      rw [h2]
      have hj2 : j < zs.length := by omega
      have hb := bounds_u8 (hwz (zs[j]) (List.getElem_mem _))
      simp [hj2]
      omega

/-- The signers that came in. -/
theorem nums_of {H : Type} {enc : TypeId × Value → H} {W : World} {a0 : Option Addr} {len0 cap0 fuel : Nat} {base : Nat} {sp : Nat → Bool} {b : Bool} {y : DataW H × List MemPlace} (hpos : 0 < W.heap.size)
    (hf : DataW.trod enc Ybaf.prog W base sp b fuel 24 (Value.slice a0 len0 cap0).cells.toList = some y) :
    ∃ (sb so : Nat) (xs : Nat → Nat), len0 ≤ cap0 ∧ len0 ≤ maxLen ∧ (0 < len0 → a0 = some ⟨sb, so, none⟩) ∧ (∀ j, j < len0 → W.cell? ⟨sb, so + j, none⟩ = some (.int .u16 (xs j)) ∧ xs j < 65536) ∧ sb < W.heap.size := by
  rcases open_ints Ybaf.underlying24 Ybaf.underlying22 (by kernel_rfl) hf with ⟨hcs, _⟩ | ⟨x, l, c, zs, hcs, _, hl, hm, hz, _, hcell, hwz⟩
  · simp [Value.cells] at hcs
    obtain ⟨rfl, rfl, rfl⟩ := hcs
    exact ⟨0, 0, fun _ => 0, Nat.le_refl _, by decide, fun h => by omega, fun j hj => by omega, hpos⟩
  · simp [Value.cells] at hcs
    obtain ⟨rfl, rfl, rfl⟩ := hcs
    have hzl : len0 ≤ zs.length := by rw [hz]; split <;> omega
    rcases Nat.eq_zero_or_pos len0 with h0 | h0
    · subst h0
      exact ⟨0, 0, fun _ => 0, Nat.zero_le _, by omega, fun h => by omega, fun j hj => by omega, hpos⟩
    · have hx := hcell 0 (by omega)
      rw [show x.add 0 = x from rfl] at hx
      have e := addr_none hx
      refine ⟨x.block, x.off, fun j => (zs.getD j 0).toNat, hl, by omega, fun _ => by rw [← e], fun j hj => ?_, World.block_lt_of_cell? W _ hx⟩
      have h2 := hcell j (by omega)
      rw [e, Addr.add_mid'] at h2
      have hj2 : j < zs.length := by omega
      have hb := bounds_u16 (hwz (zs.getD j 0) (by simp [List.getD, hj2]))
      refine ⟨by rw [h2, Int.toNat_of_nonneg hb.1], ?_⟩
      show (zs.getD j 0).toNat < 65536
      omega

set_option maxRecDepth 100000 in
theorem lifted (os : Os) (started : os.Started) (H : Type) (enc : TypeId × Value → H) :
    ReturnsInTold none {} Ybaf.checked os 3 .any Input.okWide ((OpenSpec.ofChange Rows.lawS5722BWholeSpec).preRow enc Ybaf.prog Ybaf.f3 [] false laid1) (fun F => ((OpenSpec.ofChange Rows.lawS5722BWholeSpec).at F).post enc Ybaf.prog Ybaf.f3 false true false false) (aloneAtReturn Ybaf.prog) nothingAlways := by
  refine returnsInTold_of_row (C := Ybaf.checked) (s := OpenSpec.ofChange Rows.lawS5722BWholeSpec) (by kernel_rfl) own started (by kernel_rfl) Ybaf.func3
    (OpenSpec.witness_stopped_atRef (enc := enc) (C := Ybaf.checked) (os := os) false (World.doorLaid Ybaf.prog 28 os) #[.int .u8 0, .int .u8 0, .int .u8 0, .int .u8 0, .int .u8 0, .int .u8 0, .int .u16 0, .slice none 0 0, .slice none 0 0, .slice none 0 0, .slice none 0 0, .slice none 0 0] rfl (by kernel_rfl) (by kernel_rfl) (by kernel_rfl) (OpenSpec.preRow_of_B rfl 8 (by kernel_rfl) (by kernel_rfl) (door_met os _))) ?_
  intro F W base args ds gs before _ hF hval0 hW _ _ _ hL _
  have hval : ∀ (j : Nat) t v, Ybaf.f3.params[j]? = some t → args[j]? = some v → Value.okWide Ybaf.prog W .any base t v := hval0
  have hW' := hW
  obtain ⟨p, q, hA0, hV, rfl, hfz, hnd⟩ := hW
  have hA : DataW.TrodAll enc Ybaf.prog W 0 (fun _ => true) true Ybaf.f3.params.toList args.toList ds p := hA0
  rw [Ybaf.params3] at hA hval
  obtain ⟨v0, vs0, d0, ds0, p0, q0, hargs, rfl, rfl, h0, r0⟩ := trodAll_cons hA
  obtain ⟨v1, vs1, d1, ds1, p1, q1, rfl, rfl, rfl, h1, r1⟩ := trodAll_cons r0
  obtain ⟨v2, vs2, d2, ds2, p2, q2, rfl, rfl, rfl, h2, r2⟩ := trodAll_cons r1
  obtain ⟨v3, vs3, d3, ds3, p3, q3, rfl, rfl, rfl, h3, r3⟩ := trodAll_cons r2
  obtain ⟨v4, vs4, d4, ds4, p4, q4, rfl, rfl, rfl, h4, r4⟩ := trodAll_cons r3
  obtain ⟨v5, vs5, d5, ds5, p5, q5, rfl, rfl, rfl, h5, r5⟩ := trodAll_cons r4
  obtain ⟨v6, vs6, d6, ds6, p6, q6, rfl, rfl, rfl, h6, r6⟩ := trodAll_cons r5
  obtain ⟨v7, vs7, d7, ds7, p7, q7, rfl, rfl, rfl, h7, r7⟩ := trodAll_cons r6
  obtain ⟨v8, vs8, d8, ds8, p8, q8, rfl, rfl, rfl, h8, r8⟩ := trodAll_cons r7
  obtain ⟨v9, vs9, d9, ds9, p9, q9, rfl, rfl, rfl, h9, r9⟩ := trodAll_cons r8
  obtain ⟨v10, vs10, d10, ds10, p10, q10, rfl, rfl, rfl, h10, r10⟩ := trodAll_cons r9
  obtain ⟨v11, vs11, d11, ds11, p11, q11, rfl, rfl, rfl, h11, r11⟩ := trodAll_cons r10
  obtain ⟨rfl, rfl, rfl⟩ := trodAll_nil r11
  obtain rfl : args = #[v0, v1, v2, v3, v4, v5, v6, v7, v8, v9, v10, v11] := by cases args; simp_all
  obtain ⟨g1, rfl⟩ : ∃ g1, gs = [g1] := by
    have hV2 : DataW.TrodVars enc Ybaf.prog W (fun _ => true) [varNm] gs q := hV
    match gs, hV2 with
    | [], h => exact h.elim
    | [d], _ => exact ⟨d, rfl⟩
    | _ :: _ :: _, h =>
      obtain ⟨_, _, _, _, _, _, _, _, _, _, h, _⟩ := h
      exact h.elim
  obtain ⟨n, rfl, rfl, rfl, w0⟩ := open_int Ybaf.underlying5 (hval 0 5 v0 rfl rfl) h0
  obtain ⟨t, rfl, rfl, rfl, w1⟩ := open_int Ybaf.underlying5 (hval 1 5 v1 rfl rfl) h1
  obtain ⟨r, rfl, rfl, rfl, w2⟩ := open_int Ybaf.underlying5 (hval 2 5 v2 rfl rfl) h2
  obtain ⟨id, rfl, rfl, rfl, w3⟩ := open_int Ybaf.underlying5 (hval 3 5 v3 rfl rfl) h3
  obtain ⟨sel, rfl, rfl, rfl, w4⟩ := open_int Ybaf.underlying5 (hval 4 5 v4 rfl rfl) h4
  obtain ⟨mode, rfl, rfl, rfl, w5⟩ := open_int Ybaf.underlying5 (hval 5 5 v5 rfl rfl) h5
  obtain ⟨held, rfl, rfl, rfl, w6⟩ := open_int Ybaf.underlying22 (hval 6 22 v6 rfl rfl) h6
  obtain ⟨a7, l7, c7, rfl⟩ := okWide_slice Ybaf.underlying23 (hval 7 23 v7 rfl rfl)
  obtain ⟨a8, l8, c8, rfl⟩ := okWide_slice Ybaf.underlying23 (hval 8 23 v8 rfl rfl)
  obtain ⟨a9, l9, c9, rfl⟩ := okWide_slice Ybaf.underlying23 (hval 9 23 v9 rfl rfl)
  obtain ⟨a10, l10, c10, rfl⟩ := okWide_slice Ybaf.underlying23 (hval 10 23 v10 rfl rfl)
  obtain ⟨a11, l11, c11, rfl⟩ := okWide_slice Ybaf.underlying24 (hval 11 24 v11 rfl rfl)
  have k7 := h7
  have k8 := h8
  have k9 := h9
  have k10 := h10
  have k11 := h11
  have lt7 : ∀ x ∈ p7, x.block < W.heap.size := by obtain ⟨m, hm⟩ := k7; exact DataW.trod_lt m _ _ _ hm
  have lt8 : ∀ x ∈ p8, x.block < W.heap.size := by obtain ⟨m, hm⟩ := k8; exact DataW.trod_lt m _ _ _ hm
  have lt9 : ∀ x ∈ p9, x.block < W.heap.size := by obtain ⟨m, hm⟩ := k9; exact DataW.trod_lt m _ _ _ hm
  have lt10 : ∀ x ∈ p10, x.block < W.heap.size := by obtain ⟨m, hm⟩ := k10; exact DataW.trod_lt m _ _ _ hm
  have lt11 : ∀ x ∈ p11, x.block < W.heap.size := by obtain ⟨m, hm⟩ := k11; exact DataW.trod_lt m _ _ _ hm
  have hS := sentinel hL
  have hpos : 0 < W.heap.size := by
    obtain ⟨aE, s, hc, _⟩ := hS
    have := World.block_lt_of_cell? W _ hc
    exact Nat.lt_of_le_of_lt (Nat.zero_le _) this
  obtain ⟨rA, ea1, ea2, ea3, oA, bA, nA, mA⟩ : ∃ r : Ref, r.a = a7 ∧ r.n = l7 ∧ r.c = c7 ∧ r.ok W ∧ r.b < W.heap.size ∧ (r.a = none → r.n = 0 ∧ r.c = 0) ∧ r.n ≤ maxLen := by
    obtain ⟨fuel, hf⟩ := h7
    exact ref_of hpos hf
  obtain ⟨rB, eb1, eb2, eb3, oB, bB, nB, mB⟩ : ∃ r : Ref, r.a = a8 ∧ r.n = l8 ∧ r.c = c8 ∧ r.ok W ∧ r.b < W.heap.size ∧ (r.a = none → r.n = 0 ∧ r.c = 0) ∧ r.n ≤ maxLen := by
    obtain ⟨fuel, hf⟩ := h8
    exact ref_of hpos hf
  obtain ⟨rW, ew1, ew2, ew3, oW, bW, nW, mW⟩ : ∃ r : Ref, r.a = a9 ∧ r.n = l9 ∧ r.c = c9 ∧ r.ok W ∧ r.b < W.heap.size ∧ (r.a = none → r.n = 0 ∧ r.c = 0) ∧ r.n ≤ maxLen := by
    obtain ⟨fuel, hf⟩ := h9
    exact ref_of hpos hf
  obtain ⟨rV, ev1, ev2, ev3, oV, bV, nV, mV⟩ : ∃ r : Ref, r.a = a10 ∧ r.n = l10 ∧ r.c = c10 ∧ r.ok W ∧ r.b < W.heap.size ∧ (r.a = none → r.n = 0 ∧ r.c = 0) ∧ r.n ≤ maxLen := by
    obtain ⟨fuel, hf⟩ := h10
    exact ref_of hpos hf
  obtain ⟨sb, so, xs, x1, x2, x3, x4, x5⟩ : ∃ (sb so : Nat) (xs : Nat → Nat), l11 ≤ c11 ∧ l11 ≤ maxLen ∧ (0 < l11 → a11 = some ⟨sb, so, none⟩) ∧ (∀ j, j < l11 → W.cell? ⟨sb, so + j, none⟩ = some (.int .u16 (xs j)) ∧ xs j < 65536) ∧ sb < W.heap.size := by
    obtain ⟨fuel, hf⟩ := h11
    exact nums_of hpos hf
  subst ea1 ea2 ea3 eb1 eb2 eb3 ew1 ew2 ew3 ev1 ev2 ev3
  have u0 := bounds_u8 w0
  have u1 := bounds_u8 w1
  have u2 := bounds_u8 w2
  have u3 := bounds_u8 w3
  have u4 := bounds_u8 w4
  have u5 := bounds_u8 w5
  have u6 := bounds_u16 w6
  obtain ⟨n, rfl⟩ : ∃ m : Nat, n = (m : Int) := ⟨n.toNat, by omega⟩
  obtain ⟨t, rfl⟩ : ∃ m : Nat, t = (m : Int) := ⟨t.toNat, by omega⟩
  obtain ⟨r, rfl⟩ : ∃ m : Nat, r = (m : Int) := ⟨r.toNat, by omega⟩
  obtain ⟨id, rfl⟩ : ∃ m : Nat, id = (m : Int) := ⟨id.toNat, by omega⟩
  obtain ⟨sel, rfl⟩ : ∃ m : Nat, sel = (m : Int) := ⟨sel.toNat, by omega⟩
  obtain ⟨mode, rfl⟩ : ∃ m : Nat, mode = (m : Int) := ⟨mode.toNat, by omega⟩
  obtain ⟨held, rfl⟩ : ∃ m : Nat, held = (m : Int) := ⟨held.toNat, by omega⟩
  clear hA0 hval0
  refine (law_any F.told n t r id sel mode held rA rB rW rV a11 l11 c11 sb so xs W (by omega) (by omega) (by omega) (by omega) (by omega) (by omega) (by omega) oA oB oW oV bA bB bW bV nA nB nW nV mA mB mW mV x2 x1 x3 x4 x5 hF hS).mono fun e W' ⟨he, hfr⟩ => ?_
  subst he
  have bel : Below W.heap.size W W' := hfr.out.below (Nat.le_refl _) (by simp)
  exact ⟨_, rfl, _, _, _, [], _, _, hW', trodAll_mk1 (shut_bool Ybaf.underlying4 _), (trodAll_cons_mk (shut_int Ybaf.underlying5 w0) (trodAll_cons_mk (shut_int Ybaf.underlying5 w1) (trodAll_cons_mk (shut_int Ybaf.underlying5 w2) (trodAll_cons_mk (shut_int Ybaf.underlying5 w3) (trodAll_cons_mk (shut_int Ybaf.underlying5 w4) (trodAll_cons_mk (shut_int Ybaf.underlying5 w5) (trodAll_cons_mk (shut_int Ybaf.underlying22 w6)
    (trodAll_cons_mk (Below.trod laidOut (by kernel_rfl) (of_decide_eq_true (by kernel_rfl)) k7 bel lt7) (trodAll_cons_mk (Below.trod laidOut (by kernel_rfl) (of_decide_eq_true (by kernel_rfl)) k8 bel lt8) (trodAll_cons_mk (Below.trod laidOut (by kernel_rfl) (of_decide_eq_true (by kernel_rfl)) k9 bel lt9) (trodAll_cons_mk (Below.trod laidOut (by kernel_rfl) (of_decide_eq_true (by kernel_rfl)) k10 bel lt10) (trodAll_cons_mk (Below.trod laidOut (by kernel_rfl) (of_decide_eq_true (by kernel_rfl)) k11 bel lt11) trodAll_mk0)))))))))))), Below.trodVars laidOut bel (by kernel_rfl) hV, bel.frame _, fun h => by cases h⟩

theorem stops : Ybaf.pinned.checked.prog.stops = Rows.lawS5722BWholeRow.stops := by kernel_rfl
theorem stopKnobs : Ybaf.pinned.checked.prog.stopKnobs = [] := by kernel_rfl
theorem quietAll (os : Os) : Stop.quiet Ybaf.pinned.checked.prog os := by
  intro k hk
  rw [stopKnobs] at hk
  cases hk

/-- THE CARD. -/
theorem whole_told_card : Rows.LawS5722BWholeToldSaid :=
  Claim7.holds_of_told_tied_any_at .later 3 Ybaf.f3 "fmt.errorf" [] [] _ _ _ _ _ (by kernel_rfl) rfl rfl rfl laidOut (by kernel_rfl) rfl ⟨rfl, rfl, rfl, rfl, rfl, rfl, rfl⟩ rfl rfl (by kernel_rfl) (by kernel_rfl) Ybaf.func3 (by kernel_rfl)
    (of_decide_eq_true (by kernel_rfl)) (of_decide_eq_true (by kernel_rfl)) stops.symm rfl stopKnobs.symm (by kernel_rfl)
    (by kernel_rfl) (by kernel_rfl) (by kernel_rfl) (by kernel_rfl) (by kernel_rfl) (by kernel_rfl) (by kernel_rfl) (by kernel_rfl) (by kernel_rfl) rfl (by kernel_rfl) rfl rfl
    rfl rfl
    rfl (by kernel_rfl) (by kernel_rfl) (by kernel_rfl) (by decide) (by kernel_rfl) lawS5722BWhole_row_tie
    (OpenClaim.moreEntering_of (by kernel_rfl) (by kernel_rfl) (by kernel_rfl) (by kernel_rfl) (by kernel_rfl) (by kernel_rfl) (by kernel_rfl) (by kernel_rfl) (by kernel_rfl) (by kernel_rfl))
    ⟨_, WideRow.started_initial, quietAll _⟩
    (fun os started _ H enc _ => lifted os started H enc)
end Go.Proofs.YbulkdnmcFmt
