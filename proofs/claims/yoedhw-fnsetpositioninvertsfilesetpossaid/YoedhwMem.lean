/-
  Memory words for this seat: a block that is a row of cells; a frame over worlds. No program in sight.
-/
import Derived.WalkKit
namespace Go.Proofs.Yoedhw
open Go.RowKit

/-- Block b is a row of the cells cs, of element type t, none of them frozen. -/
def Blk (w : World) (b : Nat) (cs : Array Value) (t : TypeId) : Prop := w.heap[b]? = some (.cells cs t (0, 0))

theorem Blk.lt {w : World} {b : Nat} {cs : Array Value} {t : TypeId} (h : Blk w b cs t) : b < w.heap.size := lt_of_block h
theorem Blk.cell {w : World} {b : Nat} {cs : Array Value} {t : TypeId} (h : Blk w b cs t) {o : Nat} {v : Value} (hv : cs[o]? = some v) : w.cell? ⟨b, o, none⟩ = some v := by
  rw [cell_of_row w b o cs t (0, 0) h, hv]
theorem Blk.free {w : World} {b : Nat} {cs : Array Value} {t : TypeId} (h : Blk w b cs t) (o : Nat) : w.frozen? ⟨b, o, none⟩ = false := frozen_of_row w b o cs t h
theorem Blk.alloc {w : World} {b : Nat} {cs : Array Value} {t : TypeId} (h : Blk w b cs t) (o : Obj) : Blk (w.alloc o) b cs t := by
  unfold Blk; rw [Below.heap_alloc w o b h.lt]; exact h
theorem Blk.drew {w : World} {b : Nat} {cs : Array Value} {t : TypeId} (h : Blk w b cs t) : Blk w.drew b cs t := h
theorem Blk.new (w : World) (cs : Array Value) (t : TypeId) : Blk (w.alloc (.cells cs t)) w.heap.size cs t := Go.heap_alloc_new w _
theorem Blk.set {w : World} {b : Nat} {cs : Array Value} {t : TypeId} (h : Blk w b cs t) (o : Nat) (v : Value) : Blk (w.setCell ⟨b, o, none⟩ v) b (cs.setIfInBounds o v) t :=
  Go.heap_setCell_same w b o cs t v h
theorem Blk.other {w : World} {b : Nat} {cs : Array Value} {t : TypeId} (h : Blk w b cs t) {a : Addr} (hne : b ≠ a.block) (v : Value) : Blk (w.setCell a v) b cs t := by
  unfold Blk; rw [Go.heap_setCell_other w a b v hne]; exact h
theorem Blk.inj {w : World} {b : Nat} {cs cs' : Array Value} {t t' : TypeId} (h : Blk w b cs t) (h' : Blk w b cs' t') : cs = cs' ∧ t = t' := by
  unfold Blk at h h'; rw [h] at h'; simpa using h'

/-- From w to w' nothing has turned that was there but the blocks in S. -/
structure Fr (w w' : World) (S : Nat → Prop) : Prop where
  os : w'.os = w.os
  tape : w'.tape = w.tape
  output : w'.output = w.output
  size : w.heap.size ≤ w'.heap.size
  block : ∀ k, k < w.heap.size → ¬ S k → w'.heap[k]? = w.heap[k]?

theorem Fr.refl (w : World) (S : Nat → Prop) : Fr w w S := ⟨rfl, rfl, rfl, Nat.le_refl _, fun _ _ _ => rfl⟩
theorem Fr.trans {a b c : World} {S T U : Nat → Prop} (h : Fr a b S) (k : Fr b c T) (hS : ∀ i, S i → U i) (hT : ∀ i, i < a.heap.size → T i → U i) : Fr a c U :=
  ⟨k.os.trans h.os, k.tape.trans h.tape, k.output.trans h.output, Nat.le_trans h.size k.size,
    fun i hi hn => (k.block i (Nat.lt_of_lt_of_le hi h.size) (fun x => hn (hT i hi x))).trans (h.block i hi (fun x => hn (hS i x)))⟩
theorem Fr.mono {a b : World} {S U : Nat → Prop} (h : Fr a b S) (hS : ∀ i, i < a.heap.size → S i → U i) : Fr a b U :=
  ⟨h.os, h.tape, h.output, h.size, fun i hi hn => h.block i hi (fun x => hn (hS i hi x))⟩
theorem Fr.alloc {a w : World} {S : Nat → Prop} (h : Fr a w S) (o : Obj) : Fr a (w.alloc o) S :=
  ⟨h.os, h.tape, h.output, by have := h.size; simp; omega, fun i hi hn => by rw [Below.heap_alloc w o i (Nat.lt_of_lt_of_le hi h.size)]; exact h.block i hi hn⟩
theorem Fr.drew {a w : World} {S : Nat → Prop} (h : Fr a w S) : Fr a w.drew S := ⟨h.os, h.tape, h.output, h.size, h.block⟩
theorem Fr.setCell {a w : World} {S : Nat → Prop} (h : Fr a w S) {p : Addr} (hp : p.block < a.heap.size → S p.block) (u : Value) : Fr a (w.setCell p u) S :=
  ⟨h.os, h.tape, h.output, by simpa using h.size, fun i hi hn => by
    by_cases e : i = p.block
    · subst e; exact absurd (hp hi) hn
    · rw [Go.heap_setCell_other w p i u e]; exact h.block i hi hn⟩
theorem Fr.grown {a w w' : World} {S : Nat → Prop} {row : Option Nat} (h : Fr a w S) (hg : w.grownBy w' row) (hr : ∀ k, k < a.heap.size → row = some k → S k) : Fr a w' S :=
  ⟨hg.os.trans h.os, hg.tape.trans h.tape, hg.output.trans h.output, Nat.le_trans h.size hg.size, fun i hi hn =>
    (hg.block i (Nat.lt_of_lt_of_le hi h.size) (fun e => hn (hr i hi e.symm))).trans (h.block i hi hn)⟩
theorem Fr.below {B : Nat} {w w' : World} {S : Nat → Prop} (h : Fr w w' S) (hB : B ≤ w.heap.size) (hS : ∀ k, k < B → ¬ S k) : Below B w w' :=
  ⟨h.os, h.tape, h.output, h.size, fun k hk => h.block k (by omega) (hS k hk)⟩
theorem Fr.of_below {w w' : World} (h : Below w.heap.size w w') (S : Nat → Prop) : Fr w w' S := ⟨h.os, h.tape, h.output, h.size, fun k hk _ => h.block k hk⟩
theorem Fr.blk {w w' : World} {S : Nat → Prop} (h : Fr w w' S) {b : Nat} {cs : Array Value} {t : TypeId} (hb : Blk w b cs t) (hn : ¬ S b) : Blk w' b cs t := by
  unfold Blk; rw [h.block b hb.lt hn]; exact hb
theorem Fr.owns {w w' : World} {S : Nat → Prop} (h : Fr w w' S) {base : Nat} {e : TypeId} {size : Nat} {v : Value} {n : Nat} {xs : List Value} (ho : w.ownsRow base e size v n xs) (hn : ∀ k, v.ownBlock = some k → ¬ S k) : w'.ownsRow base e size v n xs := by
  refine ⟨ho.1, ?_⟩
  rcases ho.2 with hnil | ⟨g, cap, cur, rfl, hb, hgg, rest⟩
  · exact .inl hnil
  · refine .inr ⟨g, cap, cur, rfl, hb, ?_, rest⟩
    rw [h.block g (lt_of_block hgg) (hn g rfl)]; exact hgg
theorem Fr.cell {w w' : World} {S : Nat → Prop} (h : Fr w w' S) {a : Addr} {v : Value} (hc : w.cell? a = some v) (hn : ¬ S a.block) : w'.cell? a = some v :=
  (World.cell?_of_block (w := w) (h.block a.block (block_lt_of_cell hc) hn)).trans hc
theorem cell_alloc_later {w : World} {a : Addr} {v : Value} (h : w.cell? a = some v) (o : Obj) : (w.alloc o).cell? a = some v := by
  rw [World.cell?_alloc_lt _ _ _ (block_lt_of_cell h)]; exact h
/-- A row that is owned, its base forgotten. -/
theorem owns_base {w : World} {base base' : Nat} {e : TypeId} {size : Nat} {v : Value} {n : Nat} {xs : List Value} (h : w.ownsRow base e size v n xs) (hb : base' ≤ base) : w.ownsRow base' e size v n xs := by
  refine ⟨h.1, ?_⟩
  rcases h.2 with hnil | ⟨g, cap, cur, rfl, hb', r⟩
  · exact .inl hnil
  · exact .inr ⟨g, cap, cur, rfl, by omega, r⟩
end Go.Proofs.Yoedhw
