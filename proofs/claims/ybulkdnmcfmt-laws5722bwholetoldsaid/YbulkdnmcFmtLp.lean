/- For the law (3): appends onto own rows, rows of nodes. -/
import Derived.Test.YbulkdnmcFmtBn
import Derived.Deep.DeepCutAuto
namespace Go.Proofs.YbulkdnmcFmt
open Go.RowKit
set_option linter.unusedSimpArgs false
set_option linter.unusedVariables false

theorem own_fr {w w' : World} {base sz n : Nat} {e : TypeId} {v : Value} {xs : List Value} (h : w.ownsRow base e sz v n xs) (hF : Fr [] w w') : w'.ownsRow base e sz v n xs := by
  obtain ⟨h0, h1 | ⟨g, cap, cur, h1, h2, h3, h4⟩⟩ := h
  · exact ⟨h0, Or.inl h1⟩
  · exact ⟨h0, Or.inr ⟨g, cap, cur, h1, h2, (hF.block g (Array.getElem?_eq_some_iff.1 h3).1 (by simp)).trans h3, h4⟩⟩
theorem grown_fr {w0 w w' : World} {base sz n : Nat} {e : TypeId} {v : Value} {xs : List Value} (h : w.ownsRow base e sz v n xs) (hF : Fr [] w0 w) (hb : w0.heap.size ≤ base) (hg : w.grownBy w' v.ownBlock) : Fr [] w0 w' := by
  refine ⟨hg.os.trans hF.os, hg.tape.trans hF.tape, hg.output.trans hF.output, Nat.le_trans hF.size hg.size, fun k hk _ => ?_⟩
  rw [hg.block k (Nat.lt_of_lt_of_le hk hF.size) ?_, hF.block k hk (by simp)]
  obtain ⟨_, ⟨rfl, _⟩ | ⟨g, cap, cur, rfl, h2, _⟩⟩ := h
  · simp [Value.ownBlock]
  · simp [Value.ownBlock]; omega

theorem info23 : (Ybaf.prog.info? 23).map (fun i => (i.zero, i.size, i.bytes)) = some (some (.slice none 0 0), 1, 24) := by kernel_rfl
theorem Blk.sl {w : World} {b : Nat} {l : List UInt8} {t : TypeId} (h : Blk w b (Lib.byteCells l) t) : Sl w b 0 (some ⟨b, 0, none⟩) l.length l.length l :=
  ⟨rfl, Nat.le_refl _, fun _ => rfl, fun j hj => by rw [Nat.zero_add]; exact h.cell j (bc_get hj)⟩

/-- One more slice onto an own row of slices. -/
theorem app23 {w : World} {base : Nat} {v : Value} {rs : List Ref} (hown : w.ownsRow base 23 1 v rs.length (rs.map Ref.val)) (hb : base ≤ w.heap.size) (r : Ref) (hl : rs.length ≤ 10) (ty : TypeId) :
    ∃ v' w', (Builtin.append_ #[50, 50] ty #[v, .slice (some ⟨w.heap.size, 0, none⟩) 1 1]).run Ybaf.prog (w.alloc (.cells #[.slice r.a r.n r.c] 23)) = .ok v' w' ∧ w'.ownsRow base 23 1 v' (rs ++ [r]).length ((rs ++ [r]).map Ref.val) ∧ (w.alloc (.cells #[.slice r.a r.n r.c] 23)).grownBy w' v.ownBlock := by
  obtain ⟨i0, hi, hzz⟩ := Option.map_eq_some_iff.1 info23
  simp only [Prod.mk.injEq] at hzz
  obtain ⟨hz0, hz1, hz2⟩ := hzz
  have hF : Fr [] w (w.alloc (.cells #[.slice r.a r.n r.c] 23)) := (Fr.refl _ _).alloc _
  have hn : Blk (w.alloc (.cells #[.slice r.a r.n r.c] 23)) w.heap.size [.slice r.a r.n r.c] 23 := Blk.new _ _ _
  obtain ⟨v', w', h1, h2, h3, _⟩ := run_append_own (P := Ybaf.prog) (w.alloc (.cells #[.slice r.a r.n r.c] 23)) base 50 ty 23 i0 (.slice none 0 0) 1 24 Ybaf.underlying50 hi hz0 hz1 hz2 rfl (by decide) v rs.length _ (own_fr hown hF) ⟨w.heap.size, 0, none⟩ 1 1 [.slice r.a r.n r.c] rfl
    (fun j u hu => by
      have hj : j = 0 := by have := (List.getElem?_eq_some_iff.1 hu).1; simpa using this
      subst hj
      rw [Addr.add_mid', Nat.zero_add]
      exact hn.cell 0 hu) (by simp [Value.oneCell']) (by unfold maxLen; omega) (by omega) (by have := hF.size; omega)
  refine ⟨v', w', h1, ?_, h3⟩
  simpa [Ref.val] using h2

theorem own_ext {w : World} {base : Nat} {v : Value} {rs : List Ref} (h : w.ownsRow base 23 1 v rs.length (rs.map Ref.val)) : Ext w v rs := by
  obtain ⟨h0, ⟨rfl, h1⟩ | ⟨g, cap, cur, rfl, h2, h3, h4, h5, h6, h7⟩⟩ := h
  · obtain rfl := List.eq_nil_of_length_eq_zero h1
    exact ⟨none, 0, 0, [], rfl, fun h => by simp at h, fun j hj => by simp at hj⟩
  · refine ⟨_, cap, g, cur.toList, rfl, fun _ => ⟨rfl, h3⟩, fun j hj => ?_⟩
    have e : (cur.toList.take (rs.length * 1))[j]? = some (rs[j]).val := by rw [h7]; simp [hj]
    rw [List.getElem?_take, if_pos (by omega)] at e
    exact e

/-- Some bytes onto an own row of bytes. -/
theorem app5 {w : World} {base n : Nat} {v : Value} {xs : List UInt8} (hown : w.ownsRow base 5 1 v n (Lib.byteCells xs)) (hb : base ≤ w.heap.size) (hlim : n ≤ 100000000) (l : List UInt8) (hl : l.length ≤ 100) (ty : TypeId) :
    ∃ v' w', (Builtin.append_ #[23, 23] ty #[v, .slice (some ⟨w.heap.size, 0, none⟩) l.length l.length]).run Ybaf.prog (w.alloc (.cells (Lib.byteCells l).toArray 5)) = .ok v' w' ∧ w'.ownsRow base 5 1 v' (n + l.length) (Lib.byteCells (xs ++ l)) ∧ (w.alloc (.cells (Lib.byteCells l).toArray 5)).grownBy w' v.ownBlock := by
  have hF : Fr [] w (w.alloc (.cells (Lib.byteCells l).toArray 5)) := (Fr.refl _ _).alloc _
  have hn : Blk (w.alloc (.cells (Lib.byteCells l).toArray 5)) w.heap.size (Lib.byteCells l) 5 := Blk.new _ _ _
  exact run_app (own_fr hown hF) (by have := hF.size; omega) hn.sl (by simp) (by omega) ty

/-- A number under a byte's kind is a byte. -/
theorem byte_of (x : Int) : ∃ b : UInt8, IntKind.u8.wrap x = (b.toNat : Int) := by
  refine ⟨UInt8.ofNat (x % 256).toNat, ?_⟩
  have h : IntKind.u8.wrap x = x % 256 := by rw [IntKind.wrap_u8]
  rw [h]
  have : (x % 256).toNat < 256 := by omega
  simp
  omega

theorem Pre.congr {n p : Nat} {f g z : Nat → Value} (h : ∀ j, j < p → f j = g j) : Pre n p f z = Pre n p g z := by
  unfold Pre
  apply List.map_congr_left
  intro m _
  split
  · exact h m (by assumption)
  · rfl

/-- The step of the walk at an append of slices whose run is known. -/
theorem wpList_app50 {w : World} {ops : Array Oper} {rest : List Oper} {o : Oper} {a : Act} {Q : Exit → Act → World → Prop} (hgd : o.guard = none) (s x : Operand)
    (ho : o.op = .call { callee := .builtin .append, args := #[s, x], argTypes := #[50, 50] }) {v x' v' : Value} {w' : World} (hs : a.eval s = v) (hx : a.eval x = x')
    (hr : (Builtin.append_ #[50, 50] o.type #[v, x']).run Ybaf.prog w = .ok v' w') (h : wpList Ybaf.prog ops Q rest (a.put o.dst v') w') : wpList Ybaf.prog ops Q (o :: rest) a w := by
  refine wpList_plain hgd fun K hK => ?_
  unfold Oper.wp execOp
  simp only [ho, resolve, invoke, builtin, Sem.run_bind, Sem.run_pure, Result.andThen_ok, List.map_toArray, List.map_cons, List.map_nil, hs, hx, hr]
  exact hK _ _ h

theorem inf128 : (Ybaf.prog.info? 128).map (fun i => (i.size, i.bytes, i.zero.isSome)) = some (1, 24, true) := by kernel_rfl
theorem inf46 : (Ybaf.prog.info? 46).map (fun i => (i.size, i.bytes, i.zero.isSome)) = some (1, 8, true) := by kernel_rfl

/-- What the law knows of one node. -/
def NodeAt (w : World) (b : Nat) (kp sp cp : Option Addr) (ev hv : Value) (N T R me s : Nat) (md : Int) (rs : List Ref) : Prop :=
  Blk w b (nodeC kp (.pointer sp) (.pointer cp) ev hv N T R me s md 0) 55 ∧ Ext w ev rs ∧ (act md T s me = true → hv = .pointer none) ∧ (act md T s me = false → ∃ x, hv = .pointer (some x))
theorem NodeAt.fr {own : List Nat} {w w' : World} {b : Nat} {kp sp cp : Option Addr} {ev hv : Value} {N T R me s : Nat} {md : Int} {rs : List Ref} (h : NodeAt w b kp sp cp ev hv N T R me s md rs) (hF : Fr own w w') (hb : b ∉ own) (hn : ∀ g cs, Blk w g cs 23 → g ∉ own) : NodeAt w' b kp sp cp ev hv N T R me s md rs :=
  ⟨hF.blk h.1 hb, h.2.1.fr hF hn, h.2.2⟩

/-- Bit k of held, as the law asks it. -/
def bitH (held k : Nat) : Bool := bits .and .u16 ((held : Int) / 2 ^ k) 1 == 1
/-- What node s holds. -/
def rsF (held : Nat) (rA rB : Ref) (s : Nat) : List Ref := (if bitH held (2 * s) = true then [rA] else []) ++ (if bitH held (2 * s + 1) = true then [rB] else [])
theorem rsF_len (held : Nat) (rA rB : Ref) (s : Nat) : (rsF held rA rB s).length ≤ 2 := by
  unfold rsF
  split <;> split <;> simp
theorem Fr.sift {own own' : List Nat} {w w' : World} (h : Fr own' w w') (hs : ∀ k ∈ own', k ∈ own ∨ w.heap.size ≤ k) : Fr own w w' :=
  ⟨h.os, h.tape, h.output, h.size, fun k hk hn => h.block k hk (fun hm => by rcases hs k hm with h1 | h1; exact hn h1; omega)⟩
theorem cut_zero (a : Option Addr) (c : Nat) : cut a 0 c = a := by
  unfold cut
  split
  · rfl
  · cases a with
    | none => rfl
    | some x => simp [Addr.add]
theorem nbyte (x : Int) (h0 : 0 ≤ x) (h1 : x < 256) : ∃ b : UInt8, x = (b.toNat : Int) := ⟨UInt8.ofNat x.toNat, by simp; omega⟩
/-- What is owned is a slice of a block above the base. -/
theorem own_slB {w : World} {base n : Nat} {v : Value} {l : List UInt8} (h : w.ownsRow base 5 1 v n (Lib.byteCells l)) :
    ∃ a c g, v = .slice a n c ∧ (a = none → n = 0 ∧ c = 0) ∧ base ≤ g ∧ Sl w g 0 a n c l := by
  obtain ⟨hl, ⟨rfl, rfl⟩ | ⟨g, cap, cur, rfl, hbg, hg, hnc, hcm, hcs, htk⟩⟩ := h
  · rw [bc_length] at hl
    obtain rfl := List.eq_nil_of_length_eq_zero (by simpa using hl)
    exact ⟨none, 0, base, rfl, fun _ => ⟨rfl, rfl⟩, Nat.le_refl _, Sl.nil _ _ _⟩
  · rw [bc_length] at hl
    refine ⟨_, cap, g, rfl, by simp, hbg, by omega, hnc, fun _ => rfl, fun j hj => ?_⟩
    have h1 := bc_get hj
    rw [← htk] at h1
    rw [List.getElem?_take, if_pos (by omega)] at h1
    simp only [World.cell?, hg, Nat.zero_add]
    simpa using h1

set_option maxHeartbeats 2000000 in
theorem clone5B {w : World} {db off : Nat} {a : Option Addr} {n c : Nat} {l : List UInt8} (hs : Sl w db off a n c l) (hnone : a = none → n = 0 ∧ c = 0) (hlim : n ≤ 140737488355328) :
    Calls Ybaf.prog 5 #[.slice a n c] w fun e w' => ∃ a' c', e = .returned (.slice a' n c') ∧ Hid (∃ g, Fr [] w w' ∧ w.heap.size ≤ g ∧ Sl w' g 0 a' n c' l) := by
  cases a with
  | none =>
    obtain ⟨rfl, rfl⟩ := hnone rfl
    obtain rfl := List.eq_nil_of_length_eq_zero hs.len
    have hq := nil_eq_nil
    go_enter Ybaf.func5, Ybaf.ntmps5
    go_wp2
    go_ret
    exact ⟨none, 0, rfl, by first | exact ⟨w.heap.size, Fr.refl _ _, Nat.le_refl _, Sl.nil _ _ _⟩ | exact ⟨Fr.refl _ _, w.heap.size, Nat.le_refl _, Sl.nil _ _ _⟩⟩
  | some x =>
    have hq := some_ne_nil x n c
    have hb := build0 w
    have hF0 : Fr [] w (w.alloc (.cells #[] 5)) := (Fr.refl _ _).alloc _
    have hown : (w.alloc (.cells #[] 5)).ownsRow w.heap.size 5 1 (.slice (some ⟨w.heap.size, 0, none⟩) 0 0) 0 (Lib.byteCells []) :=
      ⟨rfl, Or.inr ⟨w.heap.size, 0, #[], rfl, Nat.le_refl _, heap_alloc_new w _, Nat.le_refl _, by decide, rfl, rfl⟩⟩
    obtain ⟨v', w', happ, hown', hgrow⟩ := run_app hown (by simp) (hs.fr hF0 (by simp)) hnone (by omega) 23
    rw [Nat.zero_add, List.nil_append] at hown'
    obtain ⟨a', c', g, rfl, _, hgs, hsl⟩ := own_slB hown'
    have hF1 : Fr [w.heap.size] (w.alloc (.cells #[] 5)) w' := ⟨hgrow.os, hgrow.tape, hgrow.output, hgrow.size, fun k hk hn => hgrow.block k hk (fun e => hn (by simp [Value.ownBlock] at e; simp [e]))⟩
    have hF : Fr [] w w' := Fr.drop (((Fr.refl [w.heap.size] w).alloc _).trans hF1) (by simp)
    clear hown hown' hgrow hF1 hs hF0
    go_enter Ybaf.func5, Ybaf.ntmps5
    go_wp2_with (at_builtin; refine wpList_app rfl _ _ rfl rfl rfl happ ?_)
    go_wp2
    go_ret
    exact ⟨a', c', rfl, g, hF, hgs, hsl⟩

/-- What the law awaits: the count of the whole, the node that counts, the broadcast that goes on. -/
def ExpR (F : List UInt8) (N T R : Nat) (md : Int) (hv : Nat → Value) (rs : Nat → List Ref) (dv dn es : Int) : Prop :=
  (T + 1 < R ∧ dv = 0 ∧ dn = -1 ∧ es = -1) ∨
  (R ≤ T + 1 ∧ ¬ (Takes F T ∧ 0 < cnt F ∧ sgn F 0 < N) ∧ dv = 1 ∧ dn = -1 ∧ es = -1) ∨
  (R ≤ T + 1 ∧ (Takes F T ∧ 0 < cnt F ∧ sgn F 0 < N) ∧
    ((Skips (hv (sgn F 0)) (rs (sgn F 0)) (valF F) ∧ dv = 0 ∧ dn = -1 ∧ es = -1) ∨
     (¬ Skips (hv (sgn F 0)) (rs (sgn F 0)) (valF F) ∧ ¬ Conf F N T (sgn F 0) md R ∧ dv = 0 ∧ dn = (sgn F 0 : Nat) ∧ es = -1) ∨
     (¬ Skips (hv (sgn F 0)) (rs (sgn F 0)) (valF F) ∧ Conf F N T (sgn F 0) md R ∧ dv = 0 ∧ dn = -1 ∧ es = (sgn F 0 : Nat))))
/-- The marks' loop: what is left. -/
def msr (c : Nat) (vb vi : Value) : Nat := match vb with
  | .bool true => c + 1 - (intOf vi).toNat
  | _ => 0
end Go.Proofs.YbulkdnmcFmt
