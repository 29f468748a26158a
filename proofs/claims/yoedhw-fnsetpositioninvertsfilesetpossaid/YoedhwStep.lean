/-
  What zzBuildStepped keeps: the lines of a file; the files one right behind the other.
-/
import Derived.Test.YoedhwLine
namespace Go.Proofs.Yoedhw
open Go.RowKit
set_option linter.unusedVariables false

/-- The first j multiples of step. -/
def lin (step : Int) (j : Nat) : List Int := (List.range j).map (fun i : Nat => (i : Int) * step)
theorem lin_length (step : Int) (j : Nat) : (lin step j).length = j := by simp [lin]
theorem lin_succ (step : Int) (j : Nat) : lin step (j + 1) = lin step j ++ [(j : Int) * step] := by simp [lin, List.range_succ]
theorem lin_at (step : Int) (j i : Nat) (h : i < j) : (lin step j)[i]? = some ((i : Int) * step) := by simp [lin, h]
theorem lin_getD (step : Int) (j i : Nat) (h : i < j) : (lin step j).getD i 0 = (i : Int) * step := by simp [List.getD, lin_at step j i h]
theorem mul_ge (j : Nat) (step : Int) (h : 1 ≤ step) : (j : Int) ≤ (j : Int) * step := by
  have := Int.mul_le_mul_of_nonneg_left h (Int.natCast_nonneg j)
  omega

/-- A file's lines: the multiples of step below its size, and 0. -/
def LinesOk (step size : Int) (ls : List Int) : Prop := ∃ j : Nat, ls = lin step j ∧ 1 ≤ j ∧ size ≤ (j : Int) * step ∧ ∀ i : Nat, 1 ≤ i → i < j → (i : Int) * step < size

/-- What may turn while the lines of the file that was just laid are added. -/
def Lines (wA : World) (LB : Nat) (k : Nat) : Prop := k = LB + 1 ∨ (LB ≤ k ∧ ∃ cs, Blk wA k cs 3)

theorem Lines.step {wA wr w' : World} {LB : Nat} {lv : Value} {n : Nat} {xs : List Value} (fr : Fr wA wr (Lines wA LB)) (hrow : wr.ownsRow LB 3 1 lv n xs) (fr' : Fr wr w' (fun k => k = LB + 1 ∨ lv.ownBlock = some k)) : Fr wA w' (Lines wA LB) := by
  refine ⟨fr'.os.trans fr.os, fr'.tape.trans fr.tape, fr'.output.trans fr.output, Nat.le_trans fr.size fr'.size, fun k hk hn => ?_⟩
  have h1 := fr.block k hk hn
  rw [fr'.block k (Nat.lt_of_lt_of_le hk fr.size) ?_]
  · exact h1
  · rintro (h | h)
    · exact hn (.inl h)
    · obtain ⟨hb, cur, hc⟩ := owned_blk hrow h
      refine hn (.inr ⟨hb, cur, ?_⟩)
      unfold Blk at hc ⊢
      rw [← h1]; exact hc

/-- The set behind the added lines. -/
theorem SetIs.lines {wn wA wr : World} {B sb : Nat} {fv fv' last l' lv : Value} {fs : List FRec} {base base' b size : Int} {name : ByteArray} {ls : List Int} (h0 : SetIs wn B sb fv fs base last)
    (hA : SetIs wA B sb fv' (fs ++ [newRec wn.heap.size name b size]) base' l') (fr : Fr wA wr (Lines wA wn.heap.size)) (hB : B ≤ wn.heap.size)
    (hb : Blk wr (wn.heap.size + 1) #[.pointer (some ⟨sb, 0, none⟩), .string name, .int .i64 b, .int .i64 size, lv] 45) (ho : wr.ownsRow wn.heap.size 3 1 lv ls.length (ls.map (Value.int .i64))) :
    SetIs wr B sb fv' (fs ++ [⟨wn.heap.size + 1, b, size, name, lv, ls⟩]) base' l' := by
  have hbA := hA.file (newRec wn.heap.size name b size) (List.mem_append_right _ (by simp))
  have hno : ∀ k cs t, Blk wA k cs t → t ≠ 45 → t ≠ 3 → ¬ Lines wA wn.heap.size k := by
    rintro k cs t hk h1 h2 (rfl | ⟨_, cs', hc⟩)
    · exact h1 (hk.inj hbA).2
    · exact h2 (hk.inj hc).2
  have hlow : ∀ k, k < wn.heap.size → ¬ Lines wA wn.heap.size k := by
    rintro k hk (h | ⟨h, _⟩) <;> omega
  refine ⟨fr.blk hA.set (hno _ _ _ hA.set (by decide) (by decide)), ?_, fun h => by simp at h, ?_, ?_, ?_⟩
  · have := fr.owns hA.row (fun k hk => by
      obtain ⟨_, cur, hc⟩ := owned_blk hA.row hk
      exact hno _ _ _ hc (by decide) (by decide))
    simpa [FRec.ptr, newRec] using this
  · intro f hf
    rcases List.mem_append.1 hf with hf | hf
    · exact fr.blk (hA.file f (List.mem_append_left _ hf)) (hlow _ (h0.file f hf).lt)
    · simp at hf; subst hf; exact hb
  · intro f hf
    rcases List.mem_append.1 hf with hf | hf
    · refine fr.owns (hA.line f (List.mem_append_left _ hf)) (fun k hk => hlow _ ?_)
      obtain ⟨_, cur, hc⟩ := owned_blk (h0.line f hf) hk
      exact hc.lt
    · simp at hf; subst hf; exact owns_base ho hB
  · rcases hA.last with ⟨_, h⟩ | ⟨f, hf, h⟩
    · simp at h
    · refine .inr ?_
      rcases List.mem_append.1 hf with hf | hf
      · exact ⟨f, List.mem_append_left _ hf, h⟩
      · simp at hf; subst hf
        exact ⟨⟨wn.heap.size + 1, b, size, name, lv, ls⟩, List.mem_append_right _ (by simp), h⟩

/-- zzBuildStepped's memory after k rounds: the set lies at N, the files' slice at N + 1. -/
def Stp (w wr : World) (xs : List Int) (step : Int) (k : Nat) : Prop :=
  ∃ fv fs base last, Made wr (w.heap.size + 2) w.heap.size (w.heap.size + 1) xs.length fv fs base last ∧ fs.length = k ∧ Lay fs base ∧ base = 1 + (xs.take k).sum + k ∧
    (∀ (i : Nat) (f : FRec), fs[i]? = some f → f.base = 1 + (xs.take i).sum + i ∧ f.size = xs.getD i 0 ∧ f.name = nameOf i ∧ LinesOk step f.size f.lines) ∧ Below w.heap.size w wr ∧ w.heap.size + 2 ≤ wr.heap.size

theorem Stp.start (w : World) (xs : List Int) (step : Int) :
    Stp w ((w.alloc (.cells #[.int .i64 1, .slice none 0 0, .pointer none] 49)).alloc (.cells (madeCells #[.pointer none] xs.length) 36)) xs step 0 := by
  generalize hA : (Obj.cells (madeCells #[.pointer none] xs.length) 36) = oA
  have s1 := set_new w (w.heap.size + 2)
  generalize (Obj.cells #[.int .i64 1, .slice none 0 0, .pointer none] 49) = o at *
  have b1 : Below (w.alloc o).heap.size (w.alloc o) ((w.alloc o).alloc oA) := (Below.refl _ _).alloc (Nat.le_refl _) _
  have bb : Below w.heap.size w ((w.alloc o).alloc oA) := ((Below.refl _ _).alloc (Nat.le_refl _) _).alloc (by simp) _
  have k1 : Blk ((w.alloc o).alloc oA) (w.heap.size + 1) (madeCells #[.pointer none] xs.length) 36 := by
    have := Blk.new (w.alloc o) (madeCells #[.pointer none] xs.length) 36
    rw [World.size_alloc, hA] at this; exact this
  exact ⟨_, [], 1, _, ⟨s1.below b1, ⟨_, k1, size_madeCells _ _, fun i f h => by simp at h⟩, by omega⟩, rfl, Lay.nil, by simp, fun i f h => by simp at h, bb, by simp⟩

/-- What a round leans on, and what it leaves. -/
theorem Stp.use {w wr : World} {xs : List Int} {step : Int} {k : Nat} (h : Stp w wr xs step k) (hf : fitB xs = true) (hk : k < xs.length) :
    ∃ fv fs base last, SetIs wr (w.heap.size + 2) w.heap.size fv fs base last ∧ fs.length = k ∧ 1 ≤ base ∧ base ≤ 4294967296 ∧ Below w.heap.size w wr ∧ w.heap.size + 2 ≤ wr.heap.size ∧
      ∀ wn wA w1 fv' l' lv ls, Below wr.heap.size wr wn → SetIs wA (w.heap.size + 2) w.heap.size fv' (fs ++ [newRec wn.heap.size (nameOf k) base (xs.getD k 0)]) (base + (xs.getD k 0 + 1)) l' → Fr wn wA (fun j => j = w.heap.size ∨ fv.ownBlock = some j) →
        Fr wA w1 (Lines wA wn.heap.size) → Blk w1 (wn.heap.size + 1) #[.pointer (some ⟨w.heap.size, 0, none⟩), .string (nameOf k), .int .i64 base, .int .i64 (xs.getD k 0), lv] 45 → w1.ownsRow wn.heap.size 3 1 lv ls.length (ls.map (Value.int .i64)) → LinesOk step (xs.getD k 0) ls →
        (∃ v, w1.cell? ⟨w.heap.size + 1, k, none⟩ = some v) ∧ w1.frozen? ⟨w.heap.size + 1, k, none⟩ = false ∧ Stp w (w1.setCell ⟨w.heap.size + 1, k, none⟩ (.pointer (some ⟨wn.heap.size + 1, 0, none⟩))) xs step (k + 1) := by
  obtain ⟨fv, fs, base, last, hm, hl, hlay, hbase, heach, hbel, hN⟩ := h
  have hst := fit_sum_take hf k
  have hlen := fit_length hf
  refine ⟨fv, fs, base, last, hm.set, hl, hlay.pos, by omega, hbel, hN, ?_⟩
  intro wn wA w1 fv' l' lv ls hbn hA frA frL hblk how hls
  have hx := fit_at hf k
  have hsn := hm.set.below hbn
  have hset := hsn.lines hA frL (by have := hbn.size; omega) hblk how
  have fr1 : Fr wr w1 (fun j => j = w.heap.size ∨ fv.ownBlock = some j) := ((Fr.of_below hbn (fun j => j = w.heap.size ∨ fv.ownBlock = some j)).trans frA (fun _ h => h) (fun _ _ h => h)).trans frL (fun _ h => h) (fun i hi h => by
    have := hbn.size
    rcases h with h | ⟨h, _⟩ <;> omega)
  obtain ⟨hmade, frT⟩ := hm.step hset fr1 (by omega)
  rw [hl] at hmade frT
  obtain ⟨ca, hca, hcas, hcaat⟩ := hm.arr
  have hown : ∀ j, fv.ownBlock = some j → w.heap.size + 2 ≤ j := fun j hj => (owned_blk hm.set.row hj).1
  have hca1 := fr1.blk hca (by rintro (h | h); omega; have := hown _ h; omega)
  have bel1 : Below w.heap.size w w1 := hbel.trans (fr1.below hbel.size (fun j hj h => by
    rcases h with h | h
    · omega
    · have := hown _ h; omega))
  refine ⟨⟨ca[k]'(by omega), hca1.cell (Array.getElem?_eq_getElem (by omega))⟩, hca1.free _, ?_⟩
  refine ⟨fv', _, _, l', hmade, by simp [hl], hlay.snoc ⟨wn.heap.size + 1, base, xs.getD k 0, nameOf k, lv, ls⟩ (by show base ≤ base; omega) (by show 0 ≤ xs.getD k 0; omega), ?_, ?_, bel1.setCell (by show _ ≤ w.heap.size + 1; omega) _, ?_⟩
  · rw [sum_take_succ xs k hk]; omega
  · intro i f hif
    by_cases e : i < fs.length
    · rw [List.getElem?_append_left e] at hif
      exact heach i f hif
    · rw [List.getElem?_append_right (by omega)] at hif
      have hi : i = k := by
        have := (List.getElem?_eq_some_iff.1 hif).1
        simp at this; omega
      subst hi
      rw [show i - fs.length = 0 by omega] at hif
      simp at hif
      subst hif
      exact ⟨hbase, rfl, rfl, hls⟩
  · have := frT.size; exact Nat.le_trans hN this
end Go.Proofs.Yoedhw
