/-
  FnSetReturnsTheMakingSet: what its building loop keeps.
-/
import Derived.Test.YoedhwSets
namespace Go.Proofs.Yoedhw
open Go.RowKit

theorem Cln.below {w w' : World} {B : Nat} {a : Option Addr} {xs : List Int} (h : Cln w B a xs) (hb : Below w.heap.size w w') : Cln w' B a xs := by
  rcases h with h | ⟨g, ha, hg, hblk⟩
  · exact .inl h
  · exact .inr ⟨g, ha, hg, (Fr.of_below hb (fun _ => False)).blk hblk (fun h => h)⟩

theorem Cln.base {w : World} {B B' : Nat} {a : Option Addr} {xs : List Int} (h : Cln w B a xs) (hb : B' ≤ B) : Cln w B' a xs := by
  rcases h with h | ⟨g, ha, hg, hblk⟩
  · exact .inl h
  · exact .inr ⟨g, ha, by omega, hblk⟩
theorem Arr.below {w w' : World} {a : Option Addr} {xs : List Int} (h : Arr w a xs) (hb : Below w.heap.size w w') : Arr w' a xs := by
  rcases h with h | ⟨b, o, ha, hc⟩
  · exact .inl h
  · exact .inr ⟨b, o, ha, fun i hi => (Fr.of_below hb (fun _ => False)).cell (hc i hi) (fun h => h)⟩

theorem Cln.at {w : World} {B : Nat} {a : Option Addr} {xs : List Int} (h : Cln w B a xs) {k : Nat} (hk : k < xs.length) : ∃ g, a = some ⟨g, 0, none⟩ ∧ B ≤ g ∧ Blk w g (ints xs) 3 ∧ w.cell? ⟨g, k, none⟩ = some (.int .i64 (xs.getD k 0)) := by
  rcases h with rfl | ⟨g, ha, hg, hblk⟩
  · simp at hk
  · exact ⟨g, ha, hg, hblk, hblk.cell (ints_at xs k hk)⟩
theorem Cln.frame {w w' : World} {B : Nat} {a : Option Addr} {xs : List Int} {S : Nat → Prop} (h : Cln w B a xs) (fr : Fr w w' S) (hS : ∀ g cs, Blk w g cs 3 → ¬ S g) : Cln w' B a xs := by
  rcases h with h | ⟨g, ha, hg, hblk⟩
  · exact .inl h
  · exact .inr ⟨g, ha, hg, fr.blk hblk (hS _ _ hblk)⟩

/-- The law's memory while it builds: of the first set kA files have been asked for, of the second kB. -/
def Two (w : World) (N : Nat) (wr : World) (a0 a1 : Option Addr) (xs ys : List Int) (kA kB : Nat) : Prop :=
  ∃ fvA fsA bA lA fvB fsB bB lB, Made wr (N + 4) N (N + 1 + 1) xs.length fvA fsA bA lA ∧ Made wr (N + 4) (N + 1) (N + 1 + 1 + 1) ys.length fvB fsB bB lB ∧
    fsA.length = min kA xs.length ∧ fsB.length = min kB ys.length ∧ 0 ≤ bA ∧ bA ≤ 1 + 65537 * kA ∧ 0 ≤ bB ∧ bB ≤ 1 + 65537 * kB ∧
    Cln wr w.heap.size a0 xs ∧ Cln wr w.heap.size a1 ys ∧ Below w.heap.size w wr ∧ N + 4 ≤ wr.heap.size ∧ w.heap.size ≤ N

theorem Two.skipA {w wr : World} {N : Nat} {a0 a1 : Option Addr} {xs ys : List Int} {k kB : Nat} (h : Two w N wr a0 a1 xs ys k kB) (hk : ¬ k < xs.length) : Two w N wr a0 a1 xs ys (k + 1) kB := by
  obtain ⟨fvA, fsA, bA, lA, fvB, fsB, bB, lB, h1, h2, h3, h4, h5, h6, h7⟩ := h
  exact ⟨fvA, fsA, bA, lA, fvB, fsB, bB, lB, h1, h2, by omega, h4, h5, by omega, h7⟩
theorem Two.skipB {w wr : World} {N : Nat} {a0 a1 : Option Addr} {xs ys : List Int} {k kA : Nat} (h : Two w N wr a0 a1 xs ys kA k) (hk : ¬ k < ys.length) : Two w N wr a0 a1 xs ys kA (k + 1) := by
  obtain ⟨fvA, fsA, bA, lA, fvB, fsB, bB, lB, h1, h2, h3, h4, h5, h6, h7, h8, h9⟩ := h
  exact ⟨fvA, fsA, bA, lA, fvB, fsB, bB, lB, h1, h2, h3, by omega, h5, h6, h7, by omega, h9⟩

/-- What the first half of a round leans on, and what it leaves. -/
theorem Two.useA {w wr : World} {N : Nat} {a0 a1 : Option Addr} {xs ys : List Int} {k kB : Nat} (h : Two w N wr a0 a1 xs ys k kB) (hk : k < xs.length) (hf : fitB xs = true) (hN : k ≤ 4096) :
    ∃ g fv fs b l x, a0 = some ⟨g, 0, none⟩ ∧ wr.cell? ⟨g, k, none⟩ = some (.int .i64 x) ∧ 0 ≤ x ∧ x ≤ 65536 ∧ SetIs wr (N + 4) N fv fs b l ∧ fs.length = k ∧ 0 ≤ b ∧ b ≤ 4294967296 ∧ N + 4 ≤ wr.heap.size ∧
      ∀ w1 fv' l' f, SetIs w1 (N + 4) N fv' (fs ++ [f]) (b + (x + 1)) l' → Fr wr w1 (fun j => j = N ∨ fv.ownBlock = some j) →
        w1.cell? ⟨g, k, none⟩ = some (.int .i64 x) ∧ (∀ p, (w1.setCell ⟨N + 1 + 1, k, none⟩ p).cell? ⟨g, k, none⟩ = some (.int .i64 x)) ∧ (∃ v, w1.cell? ⟨N + 1 + 1, k, none⟩ = some v) ∧ w1.frozen? ⟨N + 1 + 1, k, none⟩ = false ∧ Two w N (w1.setCell ⟨N + 1 + 1, k, none⟩ f.ptr) a0 a1 xs ys (k + 1) kB := by
  obtain ⟨fvA, fsA, bA, lA, fvB, fsB, bB, lB, h1, h2, h3, h4, h5, h6, h7, h8, h9, h10, h11, h12, h13⟩ := h
  obtain ⟨g, ha, hg, hblk, hcell⟩ := h9.at hk
  have hx := fit_at hf k
  have hlen : fsA.length = k := by omega
  refine ⟨g, fvA, fsA, bA, lA, xs.getD k 0, ha, hcell, hx.1, hx.2, h1.set, hlen, h5, by omega, h12, ?_⟩
  intro w1 fv' l' f hs fr
  obtain ⟨hm, frT⟩ := h1.step hs fr (by omega)
  have hnot : ¬ (g = N ∨ fvA.ownBlock = some g) := by
    have := h1.not hblk (by decide) (by decide)
    intro h; exact this (Or.elim h .inl (fun h => .inr (.inl h)))
  obtain ⟨ca, hca, hsz, hat⟩ := h1.arr
  have hfab : ¬ (N + 1 + 1 = N ∨ fvA.ownBlock = some (N + 1 + 1)) := by
    rintro (h | h)
    · omega
    · have := (owned_blk h1.set.row h).1; omega
  have hca1 := fr.blk hca hfab
  have hgf := fun e : g = _ => h1.not hblk (by decide) (by decide) (.inr (.inr e))
  rw [hlen] at hm frT
  refine ⟨fr.cell hcell hnot, fun p => (World.cell?_setCell_other _ _ _ _ (fun e => hgf (Addr.mk.inj e).1.symm)).trans (fr.cell hcell hnot), ⟨ca[k]'(by omega), hca1.cell (Array.getElem?_eq_getElem (by omega))⟩, hca1.free _, ?_⟩
  refine ⟨fv', fsA ++ [f], _, l', fvB, fsB, bB, lB, hm, h1.other h2 (by omega) (by omega) frT, by simp; omega, h4, by omega, by omega, h7, h8, ?_, ?_, ?_, ?_, h13⟩
  · exact h9.frame frT (fun g cs hb => h1.not hb (by decide) (by decide))
  · exact h10.frame frT (fun g cs hb => h1.not hb (by decide) (by decide))
  · refine h11.trans (frT.below (by have := h11.size; omega) (fun j hj h => ?_))
    rcases h with h | h | h
    · omega
    · have := (owned_blk h1.set.row h).1; omega
    · omega
  · have := frT.size; omega

/-- The second half. -/
theorem Two.useB {w wr : World} {N : Nat} {a0 a1 : Option Addr} {xs ys : List Int} {k kA : Nat} (h : Two w N wr a0 a1 xs ys kA k) (hk : k < ys.length) (hf : fitB ys = true) (hN : k ≤ 4096) :
    ∃ g fv fs b l x, a1 = some ⟨g, 0, none⟩ ∧ wr.cell? ⟨g, k, none⟩ = some (.int .i64 x) ∧ 0 ≤ x ∧ x ≤ 65536 ∧ SetIs wr (N + 4) (N + 1) fv fs b l ∧ fs.length = k ∧ 0 ≤ b ∧ b ≤ 4294967296 ∧ N + 4 ≤ wr.heap.size ∧
      ∀ w1 fv' l' f, SetIs w1 (N + 4) (N + 1) fv' (fs ++ [f]) (b + (x + 1)) l' → Fr wr w1 (fun j => j = N + 1 ∨ fv.ownBlock = some j) →
        w1.cell? ⟨g, k, none⟩ = some (.int .i64 x) ∧ (∀ p, (w1.setCell ⟨N + 1 + 1 + 1, k, none⟩ p).cell? ⟨g, k, none⟩ = some (.int .i64 x)) ∧ (∃ v, w1.cell? ⟨N + 1 + 1 + 1, k, none⟩ = some v) ∧ w1.frozen? ⟨N + 1 + 1 + 1, k, none⟩ = false ∧ Two w N (w1.setCell ⟨N + 1 + 1 + 1, k, none⟩ f.ptr) a0 a1 xs ys kA (k + 1) := by
  obtain ⟨fvA, fsA, bA, lA, fvB, fsB, bB, lB, h1, h2, h3, h4, h5, h6, h7, h8, h9, h10, h11, h12, h13⟩ := h
  obtain ⟨g, ha, hg, hblk, hcell⟩ := h10.at hk
  have hx := fit_at hf k
  have hlen : fsB.length = k := by omega
  refine ⟨g, fvB, fsB, bB, lB, ys.getD k 0, ha, hcell, hx.1, hx.2, h2.set, hlen, h7, by omega, h12, ?_⟩
  intro w1 fv' l' f hs fr
  obtain ⟨hm, frT⟩ := h2.step hs fr (by omega)
  have hnot : ¬ (g = N + 1 ∨ fvB.ownBlock = some g) := by
    have := h2.not hblk (by decide) (by decide)
    intro h; exact this (Or.elim h .inl (fun h => .inr (.inl h)))
  obtain ⟨ca, hca, hsz, hat⟩ := h2.arr
  have hfab : ¬ (N + 1 + 1 + 1 = N + 1 ∨ fvB.ownBlock = some (N + 1 + 1 + 1)) := by
    rintro (h | h)
    · omega
    · have := (owned_blk h2.set.row h).1; omega
  have hca1 := fr.blk hca hfab
  have hgf := fun e : g = _ => h2.not hblk (by decide) (by decide) (.inr (.inr e))
  rw [hlen] at hm frT
  refine ⟨fr.cell hcell hnot, fun p => (World.cell?_setCell_other _ _ _ _ (fun e => hgf (Addr.mk.inj e).1.symm)).trans (fr.cell hcell hnot), ⟨ca[k]'(by omega), hca1.cell (Array.getElem?_eq_getElem (by omega))⟩, hca1.free _, ?_⟩
  refine ⟨fvA, fsA, bA, lA, fv', fsB ++ [f], _, l', h2.other h1 (by omega) (by omega) frT, hm, h3, by simp; omega, h5, h6, by omega, by omega, ?_, ?_, ?_, ?_, h13⟩
  · exact h9.frame frT (fun g cs hb => h2.not hb (by decide) (by decide))
  · exact h10.frame frT (fun g cs hb => h2.not hb (by decide) (by decide))
  · refine h11.trans (frT.below (by have := h11.size; omega) (fun j hj h => ?_))
    rcases h with h | h | h
    · omega
    · have := (owned_blk h2.set.row h).1; omega
    · omega
  · have := frT.size; omega

/-- As the loop begins. -/
theorem Two.start {w w2 : World} {a0 a1 : Option Addr} {xs ys : List Int} (h0 : Cln w2 w.heap.size a0 xs) (h1 : Cln w2 w.heap.size a1 ys) (hb : Below w.heap.size w w2) :
    Two w w2.heap.size ((((w2.alloc (.cells #[.int .i64 1, .slice none 0 0, .pointer none] 49)).alloc (.cells #[.int .i64 1, .slice none 0 0, .pointer none] 49)).alloc (.cells (madeCells #[.pointer none] xs.length) 36)).alloc (.cells (madeCells #[.pointer none] ys.length) 36)) a0 a1 xs ys 0 0 := by
  generalize ho : (Obj.cells #[.int .i64 1, .slice none 0 0, .pointer none] 49) = o
  generalize hA : (Obj.cells (madeCells #[.pointer none] xs.length) 36) = oA
  generalize hB : (Obj.cells (madeCells #[.pointer none] ys.length) 36) = oB
  have bb : Below w2.heap.size w2 ((((w2.alloc o).alloc o).alloc oA).alloc oB) := ((((Below.refl _ _).alloc (Nat.le_refl _) _).alloc (by simp) _).alloc (by simp; omega) _).alloc (by simp; omega) _
  have s1 : SetIs (w2.alloc o) (w2.heap.size + 4) w2.heap.size (.slice none 0 0) [] 1 (.pointer none) := by rw [← ho]; exact set_new w2 _
  have s2 : SetIs ((w2.alloc o).alloc o) (w2.heap.size + 4) (w2.heap.size + 1) (.slice none 0 0) [] 1 (.pointer none) := by
    have := set_new (w2.alloc o) (w2.heap.size + 4)
    rw [World.size_alloc, ho] at this; exact this
  have b2 : Below (w2.alloc o).heap.size (w2.alloc o) ((((w2.alloc o).alloc o).alloc oA).alloc oB) := (((Below.refl _ _).alloc (Nat.le_refl _) _).alloc (by simp) _).alloc (by simp) _
  have b3 : Below ((w2.alloc o).alloc o).heap.size ((w2.alloc o).alloc o) ((((w2.alloc o).alloc o).alloc oA).alloc oB) := ((Below.refl _ _).alloc (Nat.le_refl _) _).alloc (by simp) _
  have k1 : Blk ((((w2.alloc o).alloc o).alloc oA).alloc oB) (w2.heap.size + 1 + 1) (madeCells #[.pointer none] xs.length) 36 := by
    have := (Blk.new ((w2.alloc o).alloc o) (madeCells #[.pointer none] xs.length) 36).alloc oB
    rw [World.size_alloc, World.size_alloc, hA] at this; exact this
  have k2 : Blk ((((w2.alloc o).alloc o).alloc oA).alloc oB) (w2.heap.size + 1 + 1 + 1) (madeCells #[.pointer none] ys.length) 36 := by
    have := Blk.new (((w2.alloc o).alloc o).alloc oA) (madeCells #[.pointer none] ys.length) 36
    rw [World.size_alloc, World.size_alloc, World.size_alloc, hB] at this; exact this
  refine ⟨_, [], 1, _, _, [], 1, _, ⟨s1.below b2, ⟨_, k1, size_madeCells _ _, fun i f h => by simp at h⟩, by omega⟩, ⟨s2.below b3, ⟨_, k2, size_madeCells _ _, fun i f h => by simp at h⟩, by omega⟩, by simp, by simp, by omega, by omega, by omega, by omega, h0.below bb, h1.below bb, hb.trans (bb.mono hb.size), by simp, hb.size⟩

/-- What the slice of files leads to. -/
theorem Made.reads {w : World} {B sb fab n : Nat} {fv last : Value} {fs : List FRec} {base : Int} (h : Made w B sb fab n fv fs base last) {i : Nat} (hi : i < fs.length) :
    ∃ p, w.cell? ⟨fab, i, none⟩ = some (.pointer (some ⟨p, 0, none⟩)) ∧ w.cell? ⟨p, 0, none⟩ = some (.pointer (some ⟨sb, 0, none⟩)) := by
  obtain ⟨ca, hca, hsz, hat⟩ := h.arr
  have hf : fs[i]? = some fs[i] := List.getElem?_eq_getElem hi
  exact ⟨fs[i].blk, hca.cell (hat i _ hf), (h.set.file _ (List.getElem_mem hi)).cell rfl⟩

/-- Behind the building loop. -/
theorem Two.done {w wr : World} {N : Nat} {a0 a1 : Option Addr} {xs ys : List Int} {k : Nat} (h : Two w N wr a0 a1 xs ys k k) (hx : xs.length ≤ k) (hy : ys.length ≤ k) :
    (∀ i, i < xs.length → ∃ p, wr.cell? ⟨N + 1 + 1, i, none⟩ = some (.pointer (some ⟨p, 0, none⟩)) ∧ wr.cell? ⟨p, 0, none⟩ = some (.pointer (some ⟨N, 0, none⟩))) ∧
    (∀ i, i < ys.length → ∃ p, wr.cell? ⟨N + 1 + 1 + 1, i, none⟩ = some (.pointer (some ⟨p, 0, none⟩)) ∧ wr.cell? ⟨p, 0, none⟩ = some (.pointer (some ⟨N + 1, 0, none⟩))) ∧ Below w.heap.size w wr ∧ (∃ cA, Blk wr N cA 49) ∧ ∃ cB, Blk wr (N + 1) cB 49 := by
  obtain ⟨fvA, fsA, bA, lA, fvB, fsB, bB, lB, h1, h2, h3, h4, h5, h6, h7, h8, h9, h10, h11, h12, h13⟩ := h
  exact ⟨fun i hi => h1.reads (by omega), fun i hi => h2.reads (by omega), h11, ⟨_, h1.set.set⟩, ⟨_, h2.set.set⟩⟩
end Go.Proofs.Yoedhw
