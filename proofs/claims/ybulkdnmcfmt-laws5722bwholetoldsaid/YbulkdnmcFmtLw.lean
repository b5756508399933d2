/- LawS5722BWhole (3). -/
import Derived.Test.YbulkdnmcFmtL5
namespace Go.Proofs.YbulkdnmcFmt
open Go.RowKit Go.Extern.Stop Go.Stop Go.Extern
set_option linter.unusedSimpArgs false
set_option linter.unusedVariables false

set_option maxRecDepth 100000 in
set_option maxHeartbeats 8000000 in
theorem law3 (I : Interp) (n t r id sel mode held : Nat) (rA rB rW rV : Ref) (sa : Option Addr) (sn sc sb so : Nat) (xs : Nat → Nat) (w : World)
    (hn : n < 256) (ht : t < 256) (hr : r < 256) (hid : id < 256) (hsel : sel < 256) (hmode : mode < 256) (hheld : held < 65536)
    (hA : rA.ok w) (hB : rB.ok w) (hW : rW.ok w) (hV : rV.ok w) (hAb : rA.b < w.heap.size) (hBb : rB.b < w.heap.size) (hWb : rW.b < w.heap.size) (hVb : rV.b < w.heap.size)
    (hA0 : rA.a = none → rA.n = 0 ∧ rA.c = 0) (hB0 : rB.a = none → rB.n = 0 ∧ rB.c = 0) (hW0 : rW.a = none → rW.n = 0 ∧ rW.c = 0) (hV0 : rV.a = none → rV.n = 0 ∧ rV.c = 0)
    (hAl : rA.n ≤ 1048576) (hBl : rB.n ≤ 1048576) (hWl : rW.n ≤ 1048576) (hVl : rV.n ≤ 1048576)
    (hsn : sn ≤ 4096) (hsc : sn ≤ sc) (hsa : 0 < sn → sa = some ⟨sb, so, none⟩) (hsx : ∀ j, j < sn → w.cell? ⟨sb, so + j, none⟩ = some (.int .u16 (xs j)) ∧ xs j < 65536) (hsb : sb < w.heap.size)
    (hI : I.answers w.tape) (hS : Sen w) :
    Calls Ybaf.prog 3 #[.int .u8 n, .int .u8 t, .int .u8 r, .int .u8 id, .int .u8 sel, .int .u8 mode, .int .u16 held, .slice rA.a rA.n rA.c, .slice rB.a rB.n rB.c, .slice rW.a rW.n rW.c, .slice rV.a rV.n rV.c, .slice sa sn sc] w fun e w' => e = .returned (.bool true) ∧ Hid (Fr [] w w') := by
  have l1 : decide ((1048576 : Int) < (rW.n : Int)) = false := by simp; omega
  have l2 : decide ((1048576 : Int) < (rV.n : Int)) = false := by simp; omega
  have l3 : decide ((1048576 : Int) < (rA.n : Int)) = false := by simp; omega
  have l4 : decide ((1048576 : Int) < (rB.n : Int)) = false := by simp; omega
  have l5 : decide ((4096 : Int) < (sn : Int)) = false := by simp; omega
  obtain ⟨N, hN⟩ : ∃ N : Nat, N = 3 + n % 6 := ⟨_, rfl⟩
  have e1 : 3 + (n : Int) % 6 = (N : Int) := by omega
  have hN3 : 3 ≤ N := by omega
  have hN8 : N ≤ 8 := by omega
  have hN2 : ((N - 2 : Nat) : Int) = (N : Int) - 2 := by omega
  obtain ⟨T, hT⟩ : ∃ T : Nat, T = 1 + t % (N - 2) := ⟨_, rfl⟩
  have e2 : 1 + (t : Int) % ((N : Int) - 2) = (T : Int) := by rw [← hN2, hT]; simp
  have hT1 : 1 ≤ T := by omega
  have hT6 : T ≤ 6 := by have := Nat.mod_lt t (show 0 < N - 2 by omega); omega
  obtain ⟨R, hR⟩ : ∃ R : Nat, R = 1 + r % (T + 3) := ⟨_, rfl⟩
  have e3 : 1 + (r : Int) % ((T : Int) + 3) = (R : Int) := by rw [hR]; simp
  have hR1 : 1 ≤ R := by omega
  have hR9 : R ≤ 9 := by have := Nat.mod_lt r (show 0 < T + 3 by omega); omega
  obtain ⟨me, hme⟩ : ∃ me : Nat, me = id % N := ⟨_, rfl⟩
  have e4 : (id : Int) % (N : Int) = (me : Int) := by rw [hme]; simp
  have hme8 : me < N := by rw [hme]; exact Nat.mod_lt _ (by omega)
  have z1 : ¬ ((N : Int) - 2 = 0) := by omega
  have z2 : ¬ ((T : Int) + 3 = 0) := by omega
  have z3 : ¬ ((N : Int) = 0) := by omega
  have z4 : ((N : Int) - 2 == 0) = false := by simp; omega
  have z5 : ((T : Int) + 3 == 0) = false := by simp; omega
  have z6 : ((N : Int) == 0) = false := by simp; omega
  have m1 : (N : Int) - 2 ≠ -1 := by omega
  clear hN hT hR hme hN2
  go_enter Ybaf.func3, Ybaf.ntmps3
  go_upto_if 114 with fail
  go_cut [28, 29] from 114 to 114 (fun v0 v wx => v0 = .int .i64 me ∧ w = wx ∧ ∃ md : Int, v = .int .i64 md ∧ (md = 0 ∨ md = 1))
  case first =>
    go_wp2_with fail
    · go_meet
      case rel => exact ⟨by rw [e4], rfl, 1, rfl, Or.inr rfl⟩
    · go_meet
      case rel => exact ⟨by rw [e4], rfl, 0, rfl, Or.inl rfl⟩
  case rest =>
  obtain ⟨rfl, rfl, md, rfl, hmd⟩ := hcut
  clear e1 e2 e3 e4 z1 z2 z3 z4 z5 z6 m1 l1 l2 l3 l4 l5
  go_upto_if 117 with fail
  go_cut [30] from 118 to 119 (fun v wx => ∃ cp, v = .pointer cp ∧ Fr [] w wx)
  case first =>
    go_wp2_with fail
    · go_meet
      case rel => exact ⟨_, rfl, (Fr.refl _ _).alloc _⟩
    · go_meet
      case rel => exact ⟨_, rfl, Fr.refl _ _⟩
  case rest =>
  obtain ⟨cp, rfl, hfc⟩ := hcut
  obtain ⟨X1, z1, hmk1, hbk1⟩ := mkAny 37 128 1 24 Ybaf.underlying37 inf128 N (by omega) (by omega)
  obtain ⟨X2, z2, hmk2, hbk2⟩ := mkAny 43 46 1 8 Ybaf.underlying43 inf46 N (by omega) (by omega)
  go_upto_region 16 with fail
  refine at_world (p := fun v => Code.wp _ _ _ _ v) (F := fun v => Fr [] w v ∧ v.heap.size = wc.heap.size + 4 ∧ Blk v (wc.heap.size + 1 + 1 + 1) [.slice (some ⟨wc.heap.size + 1 + 1, 0, none⟩) N N, .int .i64 0] 45 ∧ Blk v (wc.heap.size + 1 + 1) (Pre N 0 (fun _ => .pointer none) z2) 46) ?_ ?_
  · have e2 : ∀ v : World, Blk (v.alloc X2) v.heap.size (Pre N 0 (fun _ => .pointer none) z2) 46 := fun v => by simpa using hbk2 v (fun _ => .pointer none)
    have e3 : ∀ (v : World) (o1 o2 : Obj), Blk (((v.alloc o1).alloc o2).alloc X2) (v.heap.size + 1 + 1) (Pre N 0 (fun _ => .pointer none) z2) 46 := fun v o1 o2 => by simpa using e2 ((v.alloc o1).alloc o2)
    have e4 : ∀ (v : World) (o1 o2 o3 : Obj) (cs : Array Value) (t : TypeId), Blk ((((v.alloc o1).alloc o2).alloc o3).alloc (.cells cs t)) (v.heap.size + 1 + 1 + 1) cs.toList t := fun v o1 o2 o3 cs t => by simpa using Blk.new (((v.alloc o1).alloc o2).alloc o3) cs t
    exact ⟨(((hfc.alloc _).alloc _).alloc _).alloc _, by simp, e4 _ _ _ _ _ _, (e3 _ _ _).alloc _⟩
  intro W ⟨hf, hsz, hBv, hBn⟩
  obtain ⟨kb, hkb⟩ : ∃ kb, kb = wc.heap.size := ⟨_, rfl⟩
  rw [← hkb] at hsz hBv hBn ⊢
  have hkw : Hid (w.heap.size ≤ kb) := by show _ ≤ _; rw [hkb]; exact hfc.size
  clear hkb hmk1 hbk1 hmk2 hbk2 hfc
  go_wp2_with fail
  go_loopw [34] (fun vs wr => ∃ (s : Nat) (nd : Nat → Nat) (ev hv : Nat → Value), vs = .int .i64 s ∧ s ≤ N ∧ Fr [kb + 1 + 1] W wr ∧ Blk wr (kb + 1 + 1) (Pre N s (fun j => .pointer (some ⟨nd j, 0, none⟩)) z2) 46 ∧
      Hid (∀ j, j < s → NodeAt wr (nd j) (some ⟨kb, 0, none⟩) (some ⟨kb + 1, 0, none⟩) cp (ev j) (hv j) N T R me j md (rsF held rA rB j) ∧ W.heap.size ≤ nd j ∧ nd j < wr.heap.size ∧ ∀ i, i < j → nd i < nd j))
    (fun vs _ => N - (intOf vs).toNat)
  case atStart => exact ⟨0, fun _ => 0, fun _ => undef, fun _ => undef, rfl, Nat.zero_le _, Fr.refl _ _, hBn, fun j hj => absurd hj (Nat.not_lt_zero _)⟩
  case round =>
    obtain ⟨s, nd, ev, hv, rfl, hsN, hFr, hRn, hnodes⟩ := hrel
    by_cases hs : s < N
    · have hAc := fun v => active4 md T s me (by omega) (by omega) (by omega) v
      go_upto_region 20 with fail
      refine at_world (p := fun v => Code.wp _ _ _ _ v) (F := fun v => Fr [] wr v ∧ wr.heap.size < v.heap.size ∧ Blk v wr.heap.size (nodeC (some ⟨kb, 0, none⟩) (.pointer (some ⟨kb + 1, 0, none⟩)) (.pointer cp) (.slice none 0 0) (.pointer none) N T R me s md 0) 55) ?_ ?_
      · exact ⟨(Fr.refl _ _).alloc _, by simp, Blk.new _ _ _⟩
      intro v1 ⟨hG1, hz1, hN1⟩
      obtain ⟨nb, hnb⟩ : ∃ nb, nb = wr.heap.size := ⟨_, rfl⟩
      rw [← hnb] at hz1 hN1 ⊢
      have HNB : Hid (nb = wr.heap.size) := hnb
      clear hnb
      go_wp2_with fail
      refine (hAc _).mono ?_
      rintro e v1 ⟨rfl, rfl⟩
      clear hAc
      go_upto_if 149 with fail
      go_cut [35] from 148 to 154 (fun v wx => v = .pointer (some ⟨nb, 0, none⟩) ∧ ∃ hv2, (act md T s me = true → hv2 = .pointer none) ∧ (act md T s me = false → ∃ x, hv2 = .pointer (some x)) ∧ Fr [nb] v1 wx ∧ Blk wx nb (nodeC (some ⟨kb, 0, none⟩) (.pointer (some ⟨kb + 1, 0, none⟩)) (.pointer cp) (.slice none 0 0) hv2 N T R me s md 0) 55)
      case first =>
        cases hac : act md T s me with
        | true =>
          go_wp2_with fail
          go_meet
          case rel => exact ⟨rfl, _, fun _ => rfl, fun h => (by rw [hac] at h; cases h), Fr.refl _ _, hN1⟩
        | false =>
          unfold nodeC at hN1
          have y1 := fun o => (hN1.alloc o).cell 14 rfl
          have y2 := fun o => (hN1.alloc o).frozen 14
          go_wp2_with fail
          go_meet
          case rel =>
            refine ⟨rfl, .pointer (some ⟨v1.heap.size, 0, none⟩), fun h => (by rw [hac] at h; cases h), fun _ => ⟨_, rfl⟩, ?_, ?_⟩
            · exact ((Fr.refl [nb] v1).setCell (p := ⟨nb, 14, none⟩) (List.mem_singleton.2 rfl) _).alloc _
            · exact (hN1.setCell 14 (.pointer (some ⟨v1.heap.size, 0, none⟩))).alloc _
      case rest =>
      obtain ⟨rfl, hv2, hh1, hh2, hG2, hN2⟩ := hcut
      rename World => v3
      have hf13 : Fr [nb] wr v3 := (Fr.mono hG1 (by simp)).trans hG2
      have hz3 : nb < v3.heap.size := hN2.lt
      clear hG1 hG2 hN1 hz1
      go_upto_if 160 with fail
      go_cut [36] from 160 to 164 (fun v wx => Fr [] v3 wx ∧ wx.ownsRow v3.heap.size 23 1 v (if bitH held (2 * s) = true then [rA] else []).length ((if bitH held (2 * s) = true then [rA] else []).map Ref.val))
      case first =>
        obtain ⟨v', w', happ, hown, hgr⟩ := app23 (w := v3) (rs := []) (World.ownsRow_nil v3 v3.heap.size 23 1) (Nat.le_refl _) rA (by simp) 50
        have hfr : Fr [] v3 w' := grown_fr (World.ownsRow_nil _ v3.heap.size 23 1) ((Fr.refl _ _).alloc _) (Nat.le_refl _) hgr
        clear hgr hN2 hf13
        go_wp2_with (at_builtin; refine wpList_app50 rfl _ _ rfl rfl rfl happ ?_)
        · go_meet
          case rel =>
            have hb : bitH held (2 * s) = true := by unfold bitH; assumption
            rw [if_pos hb]
            exact ⟨hfr, hown⟩
        · go_meet
          case rel =>
            have hb : bitH held (2 * s) = false := by unfold bitH; assumption
            rw [if_neg (by rw [hb]; simp)]
            exact ⟨Fr.refl _ _, World.ownsRow_nil _ _ _ _⟩
      case rest =>
      obtain ⟨hG4, hO4⟩ := hcut
      rename World => v4
      go_upto_if 171 with fail
      go_cut [36] from 171 to 175 (fun v wx => Fr [] v3 wx ∧ wx.ownsRow v3.heap.size 23 1 v (rsF held rA rB s).length ((rsF held rA rB s).map Ref.val))
      case first =>
        obtain ⟨v', w', happ, hown, hgr⟩ := app23 hO4 hG4.size rB (by split <;> simp) 50
        have hfr : Fr [] v3 w' := grown_fr (own_fr hO4 ((Fr.refl _ _).alloc _)) (hG4.alloc _) (Nat.le_refl _) hgr
        clear hgr hN2 hf13
        go_wp2_with (at_builtin; refine wpList_app50 rfl _ _ rfl rfl rfl happ ?_)
        · go_meet
          case rel =>
            have hb : bitH held (2 * s + 1) = true := by unfold bitH; assumption
            unfold rsF
            rw [show (if bitH held (2 * s + 1) = true then [rB] else []) = [rB] from if_pos hb]
            exact ⟨hfr, hown⟩
        · go_meet
          case rel =>
            have hb : bitH held (2 * s + 1) = false := by unfold bitH; assumption
            unfold rsF
            rw [show (if bitH held (2 * s + 1) = true then [rB] else []) = [] from if_neg (by rw [hb]; simp), List.append_nil]
            exact ⟨hG4, hO4⟩
      case rest =>
      obtain ⟨hG5, hO5⟩ := hcut
      rename World => v5
      clear hO4 hG4
      have hext := own_ext hO5
      have hf15 : Fr [nb] wr v5 := hf13.trans (Fr.mono hG5 (by simp))
      have hN5 := hG5.blk hN2 (by simp)
      obtain ⟨ea, ec, gx, csx, rfl, hea, hcs⟩ := hext
      have HE : Hid (Ext v5 (.slice ea (rsF held rA rB s).length ec) (rsF held rA rB s)) := ⟨ea, ec, gx, csx, rfl, hea, hcs⟩
      obtain ⟨xn, hxn⟩ : ∃ xn, xn = (rsF held rA rB s).length := ⟨_, rfl⟩
      rw [← hxn] at HE ⊢
      have hsz5 : nb < v5.heap.size := hN5.lt
      have hnw : W.heap.size ≤ nb := by have := HNB.out; have := hFr.size; omega
      have hRn5 := hf15.blk hRn (by simp; omega)
      have hBv5 := hf15.blk (hFr.blk hBv (by simp)) (by simp; omega)
      have hne : kb + 1 + 1 ≠ nb := by omega
      have hne' : kb + 1 + 1 + 1 ≠ nb := by omega
      unfold nodeC at hN5
      have y1 := hN5.cell 11 rfl
      have y2 := hN5.frozen 11
      have hRn6 := hRn5.setCell_ne (a := ⟨nb, 11, none⟩) hne (.slice ea xn ec)
      have hBv6 := hBv5.setCell_ne (a := ⟨nb, 11, none⟩) hne' (.slice ea xn ec)
      have y3 := hBv6.cell 0 rfl
      have y4 := hRn6.pre (m := s) hs
      rw [if_neg (by omega)] at y4
      have y5 := hRn6.frozen s
      have b0 : (0 : Int) ≤ (s : Int) := by omega
      have b1 : (s : Int) < (N : Int) := by omega
      have hN6 := hN5.setCell 11 (.slice ea xn ec)
      clear hO5 hea hcs hxn hN2 hf13 hG5 hBv6 hBv5
      go_wp2_with fail
      go_roundw
      case rel =>
        have hFx : Fr [kb + 1 + 1, nb] v5 ((v5.setCell ⟨nb, 11, none⟩ (.slice ea xn ec)).setCell ⟨kb + 1 + 1, s, none⟩ (.pointer (some ⟨nb, 0, none⟩))) := ((Fr.refl _ _).setCell (by simp) _).setCell (by simp) _
        have hFy : Fr [kb + 1 + 1, nb] wr ((v5.setCell ⟨nb, 11, none⟩ (.slice ea xn ec)).setCell ⟨kb + 1 + 1, s, none⟩ (.pointer (some ⟨nb, 0, none⟩))) := (Fr.mono hf15 (by simp)).trans hFx
        have hnbw : nb = wr.heap.size := HNB.out
        refine ⟨s + 1, fun j => if j = s then nb else nd j, fun j => if j = s then .slice ea xn ec else ev j, fun j => if j = s then hv2 else hv j, by simp, by omega, ?_, ?_, ?_⟩
        · exact Fr.sift ((Fr.mono hFr (by simp)).trans hFy) (by simp; omega)
        · have h0 := (hRn6.congr (Pre.congr (g := fun j => .pointer (some ⟨if j = s then nb else nd j, 0, none⟩)) (fun j hj => by simp [show j ≠ s by omega]))).step
          rw [if_pos rfl] at h0
          exact h0
        · intro j hj
          by_cases hjs : j = s
          · subst hjs
            simp only [↓reduceIte]
            refine ⟨⟨hN6.setCell_ne hne.symm _, HE.out.fr hFx (fun g cs hg => ?_), hh1, hh2⟩, hnw, ?_, fun i hi => ?_⟩
            · have q1 := hg.ne hRn5 (by decide)
              have q2 := hg.ne hN5 (by decide)
              simp [q1, q2]
            · have := hFx.size; omega
            · rw [if_neg (by omega)]
              have := (hnodes.out i hi).2.2.1
              omega
          · have hj' : j < s := by omega
            simp only [if_neg hjs]
            obtain ⟨k1, k2, k3, k4⟩ := hnodes.out j hj'
            refine ⟨k1.fr hFy (by simp; omega) (fun g cs hg => ?_), k2, ?_, fun i hi => ?_⟩
            · have q1 := hg.ne hRn (by decide)
              have q2 := hg.lt
              simp [q1]
              omega
            · have := hFy.size; omega
            · rw [if_neg (by omega)]
              exact k4 i hi
      case measure => simp [intOf]; omega
    · obtain rfl : N = s := by omega
      have hkw' := hkw.out
      have hF0 : Fr [] w wr := Fr.drop ((Fr.mono hf (by simp)).trans hFr) (by simp; omega)
      have hnet : Net wr (kb + 1 + 1 + 1) (kb + 1 + 1) nd N T R me md (some ⟨kb, 0, none⟩) (some ⟨kb + 1, 0, none⟩) cp ev hv (rsF held rA rB) :=
        ⟨hFr.blk hBv (by simp), ⟨z2, hRn⟩, fun j hj => (hnodes.out j hj).1.1, fun j hj => (hnodes.out j hj).1.2.1, fun j hj => by
            cases h : act md T j me with
            | true => exact Or.inl ((hnodes.out j hj).1.2.2.1 h)
            | false => exact Or.inr ((hnodes.out j hj).1.2.2.2 h),
          fun j hj r hr => by
            have h1 : r = rA ∨ r = rB := by
              unfold rsF at hr
              simp only [List.mem_append] at hr
              rcases hr with h | h
              · split at h
                · exact Or.inl (by simpa using h)
                · simp at h
              · split at h
                · exact Or.inr (by simpa using h)
                · simp at h
            rcases h1 with rfl | rfl
            · exact Ref.fr hA hF0 (by simp)
            · exact Ref.fr hB hF0 (by simp), fun j hj => rsF_len _ _ _ _⟩
      have HNet : Hid (Net wr (kb + 1 + 1 + 1) (kb + 1 + 1) nd N T R me md (some ⟨kb, 0, none⟩) (some ⟨kb + 1, 0, none⟩) cp ev hv (rsF held rA rB)) := hnet
      have HNds : Hid ((∀ j, j < N → w.heap.size ≤ nd j ∧ nd j < wr.heap.size ∧ (∀ i, i < j → nd i < nd j) ∧ (act md T j me = true → hv j = .pointer none) ∧ (act md T j me = false → ∃ x, hv j = .pointer (some x))) ∧ w.heap.size ≤ kb ∧ kb + 4 ≤ wr.heap.size) := by
        refine ⟨fun j hj => ?_, hkw', by have := hFr.size; omega⟩
        obtain ⟨k1, k2, k3, k4⟩ := hnodes.out j hj
        exact ⟨by omega, k3, k4, k1.2.2⟩
      clear hnet hnodes hRn hFr hBn hBv hkw hkw' hf hsz
      rename World => w1
      go_upto_region 30 with fail
      go_cut [196] from 188 to 195 (fun v wx => w1 = wx ∧ ∃ b : Bool, v = .bool b ∧ (b = true → R < sn))
      case first =>
        go_wp2_with fail
        all_goals go_meet
        case rel => exact ⟨rfl, _, rfl, fun h => by first | (simp at h; exact h.2) | (simp at h)⟩
        case rel => exact ⟨rfl, _, rfl, fun h => by first | (simp at h; exact h.2) | (simp at h)⟩
      case rest =>
      obtain ⟨rfl, bq, rfl, hbq⟩ := hcut
      go_upto_if 196 with fail
      go_cut [37] from 196 to 199 (fun v wx => w1 = wx ∧ ∃ sn' sc', v = .slice sa sn' sc' ∧ sn' ≤ sn)
      case first =>
        cases bq with
        | true =>
          have hRs := hbq rfl
          have hslc : ∀ q, (Instr.slice 24 (.slice sa sn sc) none (some (.int .i64 (R : Int))) none).run Ybaf.prog q = .ok (.slice (cut sa 0 sc) R sc) q := fun q => by
            rw [run_slice_h q 24 sa sn sc (by kernel_rfl) .i64 (R : Int) (by omega) (by omega)]
            simp [go_sem, cut]
          go_wp2_with fail
          go_meet
          case rel => exact ⟨rfl, R, sc, by rw [cut_zero], by omega⟩
        | false =>
          go_wp2_with fail
          go_meet
          case rel => exact ⟨rfl, sn, sc, rfl, Nat.le_refl _⟩
      case rest =>
      obtain ⟨rfl, sn', sc', rfl, hsn'⟩ := hcut
      go_upto_region 32 with fail
      go_cut [38] from 38 to 38 (fun v wx => v = .slice none 0 0 ∧ w1 = wx)
      case first =>
        go_wp2_with fail
        go_meet
        case rel => exact ⟨rfl, rfl⟩
      case rest =>
      obtain ⟨rfl, rfl⟩ := hcut
      refine ‹∀ (a : Act) (v : World), Code.wp _ _ _ a v → _› _ _ ?_
      exact law5 I w w1 rA rB rW rV sel held N T R me kb sn sn' sc' sb so md cp sa xs nd ev hv hsel hheld hN3 hN8 hT1 hT6 hR1 hR9 hme8 hA hB hW hV hAb hBb hWb hVb hA0 hB0 hW0 hV0 hAl hBl hWl hVl hsn hsn' hsa hsx hsb hI hS hF0 HNet HNds
end Go.Proofs.YbulkdnmcFmt
