/-
  zzGapAt; how zzBuildGapped's files lie; what its loop keeps.
-/
import Derived.Test.YoedhwTwo
namespace Go.Proofs.Yoedhw
open Go.RowKit
set_option linter.unusedVariables false

set_option maxHeartbeats 400000 in
/-- zzGapAt. -/
theorem gap_any (a : Option Addr) (gs : List Int) (B i : Nat) (w : World) (h : Cln w B a gs) (hn : gs.length ≤ 4096) (hi : i ≤ 4096) :
    Calls Edhg.prog 39 #[.slice a gs.length gs.length, .int .i64 i] w fun e w' => e = .returned (.int .i64 (gs.getD i 0)) ∧ w' = w := by
  by_cases hlt : i < gs.length
  · obtain ⟨g, rfl, _, _, hc⟩ := h.at hlt
    generalize gs.getD i 0 = x at *
    go_enter Edhg.func39, Edhg.ntmps39
    go_wp2
    go_ret
    exact ⟨rfl, rfl⟩
  · have e : gs.getD i 0 = 0 := by simp [List.getD, hlt]
    rw [e]
    clear e h
    go_enter Edhg.func39, Edhg.ntmps39
    go_wp2
    go_ret
    exact ⟨rfl, rfl⟩

/-- How the files of a set lie: one behind the other, all below base. -/
structure Lay (fs : List FRec) (base : Int) : Prop where
  pair : fs.Pairwise (fun f g => f.base + f.size < g.base)
  each : ∀ f, f ∈ fs → 1 ≤ f.base ∧ 0 ≤ f.size ∧ f.base + f.size < base
  pos : 1 ≤ base

theorem Lay.nil : Lay [] 1 := ⟨List.Pairwise.nil, fun f hf => (by cases hf), by omega⟩
theorem Lay.snoc {fs : List FRec} {base : Int} (h : Lay fs base) (f : FRec) (hb : base ≤ f.base) (hs : 0 ≤ f.size) : Lay (fs ++ [f]) (f.base + (f.size + 1)) := by
  have hp := h.pos
  refine ⟨List.pairwise_append.2 ⟨h.pair, List.pairwise_singleton _ _, fun g hg k hk => ?_⟩, fun g hg => ?_, by omega⟩
  · simp at hk; subst hk; have := (h.each g hg).2.2; omega
  · rcases List.mem_append.1 hg with hg | hg
    · have := h.each g hg; omega
    · simp at hg; subst hg; omega

/-- zzBuildGapped's memory after k rounds: N: the blocks that were there; the set lies at N, the files' slice at N + 1, the bases' at N + 2. -/
def Gap (w : World) (wr : World) (xs : List Int) (k : Nat) : Prop :=
  ∃ fv fs base last, Made wr (w.heap.size + 3) w.heap.size (w.heap.size + 1) xs.length fv fs base last ∧ fs.length = k ∧
    (∃ cb, Blk wr (w.heap.size + 1 + 1) cb 3 ∧ cb.size = xs.length ∧ ∀ (i : Nat) (f : FRec), fs[i]? = some f → cb[i]? = some (.int .i64 f.base)) ∧
    Lay fs base ∧ fs.map FRec.size = xs.take k ∧ base ≤ 1 + 131073 * k ∧ Below w.heap.size w wr ∧ w.heap.size + 3 ≤ wr.heap.size

theorem take_snoc (xs : List Int) (k : Nat) (h : k < xs.length) : xs.take (k + 1) = xs.take k ++ [xs.getD k 0] := by
  rw [List.take_succ_eq_append_getElem h]; simp [List.getD, h]

theorem Gap.start (w : World) (xs : List Int) :
    Gap w (((w.alloc (.cells #[.int .i64 1, .slice none 0 0, .pointer none] 49)).alloc (.cells (madeCells #[.pointer none] xs.length) 36)).alloc (.cells (madeCells #[.int .i64 0] xs.length) 3)) xs 0 := by
  generalize hA : (Obj.cells (madeCells #[.pointer none] xs.length) 36) = oA
  generalize hB : (Obj.cells (madeCells #[.int .i64 0] xs.length) 3) = oB
  have s1 := set_new w (w.heap.size + 3)
  generalize (Obj.cells #[.int .i64 1, .slice none 0 0, .pointer none] 49) = o at *
  have b1 : Below (w.alloc o).heap.size (w.alloc o) (((w.alloc o).alloc oA).alloc oB) := ((Below.refl _ _).alloc (Nat.le_refl _) _).alloc (by simp) _
  have bb : Below w.heap.size w (((w.alloc o).alloc oA).alloc oB) := (((Below.refl _ _).alloc (Nat.le_refl _) _).alloc (by simp) _).alloc (by simp; omega) _
  have k1 : Blk (((w.alloc o).alloc oA).alloc oB) (w.heap.size + 1) (madeCells #[.pointer none] xs.length) 36 := by
    have := (Blk.new (w.alloc o) (madeCells #[.pointer none] xs.length) 36).alloc oB
    rw [World.size_alloc, hA] at this; exact this
  have k2 : Blk (((w.alloc o).alloc oA).alloc oB) (w.heap.size + 1 + 1) (madeCells #[.int .i64 0] xs.length) 3 := by
    have := Blk.new ((w.alloc o).alloc oA) (madeCells #[.int .i64 0] xs.length) 3
    rw [World.size_alloc, World.size_alloc, hB] at this; exact this
  exact ⟨_, [], 1, _, ⟨s1.below b1, ⟨_, k1, size_madeCells _ _, fun i f h => by simp at h⟩, by omega⟩, rfl, ⟨_, k2, size_madeCells _ _, fun i f h => by simp at h⟩, Lay.nil, by simp, by omega, bb, by simp⟩

/-- A store into the bases' slice turns nothing of the set. -/
theorem Made.beside {w : World} {B sb fab n : Nat} {fv last : Value} {fs : List FRec} {base : Int} (h : Made w B sb fab n fv fs base last) {b : Nat} {cs : Array Value} (hb : Blk w b cs 3) (hlt : b < B) (o : Nat) (v : Value) : Made (w.setCell ⟨b, o, none⟩ v) B sb fab n fv fs base last := by
  have fr : Fr w (w.setCell ⟨b, o, none⟩ v) (fun k => k = b) := (Fr.refl w (fun k => k = b)).setCell (p := ⟨b, o, none⟩) (fun _ => rfl) _
  have hno : ∀ k cs t, Blk w k cs t → t ≠ 3 → ¬ k = b := by
    rintro k cs t hk ht rfl
    exact ht (hk.inj hb).2
  obtain ⟨ca, hca, hsz, hat⟩ := h.arr
  refine ⟨h.set.frame fr (hno _ _ _ h.set.set (by decide)) (fun k hk => ?_) (fun f hf => hno _ _ _ (h.set.file f hf) (by decide)) (fun f hf k hk => ?_), ⟨ca, fr.blk hca (hno _ _ _ hca (by decide)), hsz, hat⟩, h.lt⟩
  · obtain ⟨_, cur, hc⟩ := owned_blk h.set.row hk
    exact hno _ _ _ hc (by decide)
  · have := (owned_blk (h.set.line f hf) hk).1; omega

/-- What a round leans on, and what it leaves. -/
theorem Gap.use {w wr : World} {xs : List Int} {k : Nat} (h : Gap w wr xs k) (hf : fitB xs = true) (hk : k < xs.length) :
    ∃ fv fs base last, SetIs wr (w.heap.size + 3) w.heap.size fv fs base last ∧ fs.length = k ∧ 1 ≤ base ∧ base ≤ 1 + 131073 * k ∧ Below w.heap.size w wr ∧ w.heap.size + 3 ≤ wr.heap.size ∧
      wr.cell? ⟨w.heap.size, 0, none⟩ = some (.int .i64 base) ∧
      ∀ w1 fv' l' f, base ≤ f.base → f.base ≤ base + 65536 → f.size = xs.getD k 0 → SetIs w1 (w.heap.size + 3) w.heap.size fv' (fs ++ [f]) (f.base + (f.size + 1)) l' → Fr wr w1 (fun j => j = w.heap.size ∨ fv.ownBlock = some j) →
        Below w.heap.size w w1 ∧ (∀ p, Below w.heap.size w (w1.setCell ⟨w.heap.size + 1, k, none⟩ p)) ∧ (∃ v, w1.cell? ⟨w.heap.size + 1, k, none⟩ = some v) ∧ w1.frozen? ⟨w.heap.size + 1, k, none⟩ = false ∧
        (∃ v, (w1.setCell ⟨w.heap.size + 1, k, none⟩ f.ptr).cell? ⟨w.heap.size + 1 + 1, k, none⟩ = some v) ∧ (w1.setCell ⟨w.heap.size + 1, k, none⟩ f.ptr).frozen? ⟨w.heap.size + 1 + 1, k, none⟩ = false ∧
        Gap w ((w1.setCell ⟨w.heap.size + 1, k, none⟩ f.ptr).setCell ⟨w.heap.size + 1 + 1, k, none⟩ (.int .i64 f.base)) xs (k + 1) := by
  obtain ⟨fv, fs, base, last, hm, hl, ⟨cb, hcb, hcs, hcat⟩, hlay, hsz, hb, hbel, hN⟩ := h
  refine ⟨fv, fs, base, last, hm.set, hl, hlay.pos, hb, hbel, hN, hm.set.set.cell rfl, ?_⟩
  intro w1 fv' l' f h1 h2 h3 hs fr
  have hx := fit_at hf k
  obtain ⟨hmade, frT⟩ := hm.step hs fr (by omega)
  rw [hl] at hmade frT
  obtain ⟨ca, hca, hcas, hcaat⟩ := hm.arr
  have hown : ∀ j, fv.ownBlock = some j → w.heap.size + 3 ≤ j := fun j hj => (owned_blk hm.set.row hj).1
  have hca1 := fr.blk hca (by rintro (h | h); omega; have := hown _ h; omega)
  have hcb2 := frT.blk hcb (hm.not hcb (by decide) (by decide))
  have bel1 : Below w.heap.size w w1 := hbel.trans (fr.below hbel.size (fun j hj h => by
    rcases h with h | h
    · omega
    · have := hown _ h; omega))
  have bel2 : ∀ p, Below w.heap.size w (w1.setCell ⟨w.heap.size + 1, k, none⟩ p) := fun p => bel1.setCell (by show _ ≤ w.heap.size + 1; omega) _
  refine ⟨bel1, bel2, ⟨ca[k]'(by omega), hca1.cell (Array.getElem?_eq_getElem (by omega))⟩, hca1.free _, ⟨cb[k]'(by omega), hcb2.cell (Array.getElem?_eq_getElem (by omega))⟩, hcb2.free _, ?_⟩
  refine ⟨fv', fs ++ [f], _, l', hmade.beside hcb2 (by omega) _ _, by simp [hl], ⟨_, hcb2.set k (.int .i64 f.base), by simpa using hcs, ?_⟩, hlay.snoc f h1 (by omega), ?_, ?_, (bel2 _).setCell (by show _ ≤ w.heap.size + 1 + 1; omega) _, ?_⟩
  · intro i g hg
    rw [Array.getElem?_setIfInBounds]
    by_cases e : k = i
    · subst e
      rw [List.getElem?_append_right (by omega), hl] at hg
      simp at hg
      subst hg
      simp [hcs, hk]
    · rw [if_neg e]
      refine hcat i g ?_
      rw [← hg, List.getElem?_append]
      split
      · rfl
      · rw [List.getElem?_eq_none (by omega), List.getElem?_eq_none (by simp; omega)]
  · rw [List.map_append, hsz, take_snoc xs k hk, List.map_singleton, h3]
  · omega
  · have := frT.size; simpa using Nat.le_trans hN this
end Go.Proofs.Yoedhw
