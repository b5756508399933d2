/- Heap facts by whole blocks ('Blk'), a frame by a list of own blocks ('Fr'). No Go of the program in sight. -/
import Derived.Test.YbulkdnmcFmtRows
import Derived.WalkKit
import Derived.WalkSpells
import Derived.StillTactics
import Derived.Laws.Pointers
import Derived.Laws.CopyOwn
import Derived.RowKit3
import Derived.Below
import Derived.Deep.Draws
namespace Go.Proofs.YbulkdnmcFmt
open Go.RowKit

/-- Block b holds just these cells, none of them frozen. -/
def Blk (w : World) (b : Nat) (cs : List Value) (t : TypeId) : Prop := w.heap[b]? = some (.cells cs.toArray t (0, 0))

theorem Blk.lt {w : World} {b : Nat} {cs : List Value} {t : TypeId} (h : Blk w b cs t) : b < w.heap.size := (Array.getElem?_eq_some_iff.1 h).1
theorem Blk.cell? {w : World} {b : Nat} {cs : List Value} {t : TypeId} (h : Blk w b cs t) (i : Nat) : w.cell? ⟨b, i, none⟩ = cs[i]? := by
  unfold Blk at h; simp [World.cell?, h]
theorem Blk.cell {w : World} {b : Nat} {cs : List Value} {t : TypeId} (h : Blk w b cs t) (i : Nat) {v : Value} (hv : cs[i]? = some v) : w.cell? ⟨b, i, none⟩ = some v := by
  rw [h.cell?, hv]
theorem Blk.frozen {w : World} {b : Nat} {cs : List Value} {t : TypeId} (h : Blk w b cs t) (i : Nat) : w.frozen? ⟨b, i, none⟩ = false := by
  unfold Blk at h; simp [World.frozen?, h]
theorem Blk.setCell {w : World} {b : Nat} {cs : List Value} {t : TypeId} (h : Blk w b cs t) (i : Nat) (v : Value) : Blk (w.setCell ⟨b, i, none⟩ v) b (cs.set i v) t := by
  have hlt := h.lt
  unfold Blk at h ⊢
  simp [World.setCell, Array.getElem?_modify, h]
theorem Blk.setCell_ne {w : World} {b : Nat} {cs : List Value} {t : TypeId} (h : Blk w b cs t) {a : Addr} (hne : b ≠ a.block) (v : Value) : Blk (w.setCell a v) b cs t := by
  unfold Blk at h ⊢
  rw [Below.heap_setCell _ _ _ _ hne]; exact h
theorem Blk.drew {w : World} {b : Nat} {cs : List Value} {t : TypeId} (h : Blk w b cs t) : Blk w.drew b cs t := h
theorem Blk.drewN {w : World} {b : Nat} {cs : List Value} {t : TypeId} (h : Blk w b cs t) (n : Nat) : Blk (w.drewN n) b cs t := h
theorem Blk.alloc {w : World} {b : Nat} {cs : List Value} {t : TypeId} (h : Blk w b cs t) (o : Obj) : Blk (w.alloc o) b cs t := by
  have hlt := h.lt
  unfold Blk at h ⊢
  rw [Below.heap_alloc _ _ _ hlt]; exact h
theorem Blk.new (w : World) (cs : Array Value) (t : TypeId) : Blk (w.alloc (.cells cs t)) w.heap.size cs.toList t := by
  unfold Blk; rw [(MapKept.heap_alloc w _).1]
theorem Blk.setRow {w : World} {b : Nat} {cs : List Value} {t : TypeId} (h : Blk w b cs t) (ds : List Value) : Blk (w.setRow b ds.toArray) b ds t := setRow_heap w b _ _ t _ h
theorem Blk.setRow_ne {w : World} {b : Nat} {cs : List Value} {t : TypeId} (h : Blk w b cs t) {g : Nat} (hne : b ≠ g) (ds : Array Value) : Blk (w.setRow g ds) b cs t := by
  unfold Blk at h ⊢
  rw [setRow_other _ _ _ _ hne]; exact h
theorem Blk.congr {w : World} {b : Nat} {cs ds : List Value} {t : TypeId} (h : Blk w b cs t) (e : cs = ds) : Blk w b ds t := e ▸ h
theorem Blk.uniq {w : World} {b : Nat} {cs ds : List Value} {t u : TypeId} (h : Blk w b cs t) (k : Blk w b ds u) : cs = ds := by
  unfold Blk at h k; rw [h] at k; simp at k; exact k.1

/-- Every block that was there, but for those of 'own', is as it was. -/
structure Fr (own : List Nat) (w w' : World) : Prop where
  os : w'.os = w.os
  tape : w'.tape = w.tape
  output : w'.output = w.output
  size : w.heap.size ≤ w'.heap.size
  block : ∀ k, k < w.heap.size → k ∉ own → w'.heap[k]? = w.heap[k]?

theorem Fr.refl (own : List Nat) (w : World) : Fr own w w := ⟨rfl, rfl, rfl, Nat.le_refl _, fun _ _ _ => rfl⟩
theorem Fr.trans {own : List Nat} {a b c : World} (h : Fr own a b) (k : Fr own b c) : Fr own a c :=
  ⟨k.os.trans h.os, k.tape.trans h.tape, k.output.trans h.output, Nat.le_trans h.size k.size, fun i hi hn => (k.block i (Nat.lt_of_lt_of_le hi h.size) hn).trans (h.block i hi hn)⟩
theorem Fr.mono {own own' : List Nat} {a b : World} (h : Fr own a b) (hs : ∀ k ∈ own, k ∈ own') : Fr own' a b :=
  ⟨h.os, h.tape, h.output, h.size, fun i hi hn => h.block i hi (fun hm => hn (hs i hm))⟩
theorem Fr.drew {own : List Nat} {a w : World} (h : Fr own a w) : Fr own a w.drew := ⟨h.os, h.tape, h.output, h.size, h.block⟩
theorem Fr.drewN {own : List Nat} {a w : World} (h : Fr own a w) (n : Nat) : Fr own a (w.drewN n) := ⟨h.os, h.tape, h.output, h.size, h.block⟩
theorem Fr.alloc {own : List Nat} {a w : World} (h : Fr own a w) (o : Obj) : Fr own a (w.alloc o) :=
  h.trans ⟨rfl, rfl, rfl, by simp, fun k hk _ => Below.heap_alloc _ _ _ hk⟩
theorem Fr.setCell {own : List Nat} {a w : World} (h : Fr own a w) {p : Addr} (hp : p.block ∈ own) (u : Value) : Fr own a (w.setCell p u) :=
  h.trans ⟨rfl, rfl, rfl, by simp [World.setCell], fun k _ hn => Below.heap_setCell _ _ _ _ (fun e => hn (e ▸ hp))⟩
theorem Fr.setRow {own : List Nat} {a w : World} (h : Fr own a w) {g : Nat} (hp : g ∈ own) (cs : Array Value) : Fr own a (w.setRow g cs) :=
  h.trans ⟨rfl, rfl, rfl, by simp, fun k _ hn => setRow_other _ _ _ _ (fun e => hn (e ▸ hp))⟩
theorem Fr.below {own : List Nat} {w w' : World} (h : Fr own w w') {B : Nat} (hB : B ≤ w.heap.size) (ho : ∀ k ∈ own, B ≤ k) : Below B w w' :=
  ⟨h.os, h.tape, h.output, h.size, fun k hk => h.block k (Nat.lt_of_lt_of_le hk hB) (fun hm => by have := ho k hm; omega)⟩
theorem Fr.blk {own : List Nat} {w w' : World} (h : Fr own w w') {b : Nat} {cs : List Value} {t : TypeId} (hb : Blk w b cs t) (hn : b ∉ own) : Blk w' b cs t := by
  have := h.block b hb.lt hn; unfold Blk at hb ⊢; rw [this]; exact hb
theorem Fr.cell {own : List Nat} {w w' : World} (h : Fr own w w') {p : Addr} (hlt : p.block < w.heap.size) (hn : p.block ∉ own) : w'.cell? p = w.cell? p :=
  World.cell?_of_block (w := w) (h.block p.block hlt hn)
/-- Blocks that were not there need not be named. -/
theorem Fr.drop {own : List Nat} {w w' : World} (h : Fr own w w') (hn : ∀ k ∈ own, w.heap.size ≤ k) : Fr [] w w' :=
  ⟨h.os, h.tape, h.output, h.size, fun k hk _ => h.block k hk (fun hm => by have := hn k hm; omega)⟩
/-- The world at hand, under a letter of its own. -/
theorem at_world {p : World → Prop} {W : World} (F : World → Prop) (hF : F W) (h : ∀ w2, F w2 → p w2) : p W := h W hF
/-- What lies in a block that is none of the own ones reads as it did. -/
theorem Fr.dat {own : List Nat} {w w' : World} (h : Fr own w w') {db off len : Nat} {f : Nat → Value} (hn : db ∉ own) (hd : ∀ i, i < len → w.cell? ⟨db, off + i, none⟩ = some (f i)) :
    ∀ i, i < len → w'.cell? ⟨db, off + i, none⟩ = some (f i) := fun i hi => by
  rw [h.cell (p := ⟨db, off + i, none⟩) (World.block_lt_of_cell? w _ (hd i hi)) hn]; exact hd i hi
theorem drewN_drewN (w : World) (a b : Nat) : (w.drewN a).drewN b = w.drewN (a + b) := by
  simp [World.drewN, Nat.add_assoc]
theorem Addr.add_mid' (b o j : Nat) : (⟨b, o, none⟩ : Addr).add j = ⟨b, o + j, none⟩ := by unfold Addr.add; split <;> simp_all
end Go.Proofs.YbulkdnmcFmt
