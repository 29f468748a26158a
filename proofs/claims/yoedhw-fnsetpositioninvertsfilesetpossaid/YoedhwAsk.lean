/-
  What is known of memory once zzBuildGapped is through, while the set is asked again and again.
-/
import Derived.Test.YoedhwFind
import Derived.Test.YoedhwPtr
namespace Go.Proofs.Yoedhw
open Go.RowKit

/-- Of all that was there in w3 only the set's own block (its LastFile) may have turned. -/
def Asked (w3 : World) (N : Nat) (fv : Value) (fs : List FRec) (base : Int) (wr : World) : Prop := ∃ last, SetIs wr (N + 3) N fv fs base last ∧ Fr w3 wr (fun k => k = N)

theorem Asked.draws {w3 wr : World} {N : Nat} {fv : Value} {fs : List FRec} {base : Int} (h : Asked w3 N fv fs base wr) (q : Nat) : Asked w3 N fv fs base (wr.drewN q) := by
  obtain ⟨last, h1, h2⟩ := h
  exact ⟨last, h1.below (below_draws wr q), h2.trans (Fr.of_below (below_draws wr q) (fun k => k = N)) (fun _ h => h) (fun _ _ h => h)⟩
theorem Asked.next {w3 wr w' : World} {N : Nat} {fv : Value} {fs : List FRec} {base : Int} (h : Asked w3 N fv fs base wr) (h' : ∃ last', SetIs w' (N + 3) N fv fs base last' ∧ Fr wr w' (fun k => k = N)) : Asked w3 N fv fs base w' := by
  obtain ⟨last, h1, h2⟩ := h
  obtain ⟨last', h3, h4⟩ := h'
  exact ⟨last', h3, h2.trans h4 (fun _ h => h) (fun _ _ h => h)⟩

/-- zzBuildGapped's leavings, opened. -/
theorem Gap.open {w w3 : World} {xs : List Int} (h : Gap w w3 xs xs.length) (hl : xs.length ≤ 4096) :
    ∃ fv fs base, fs.length = xs.length ∧ Lay fs base ∧ base ≤ 8589934592 ∧ Asked w3 w.heap.size fv fs base w3 ∧ Below w.heap.size w w3 ∧ (∀ i (hi : i < fs.length), fs[i].size = xs.getD i 0) ∧
      ∀ wr, Asked w3 w.heap.size fv fs base wr → Below w.heap.size w wr ∧ (∀ i (hi : i < fs.length), wr.cell? ⟨w.heap.size + 1, i, none⟩ = some fs[i].ptr) ∧ (∀ i (hi : i < fs.length), wr.cell? ⟨w.heap.size + 1 + 1, i, none⟩ = some (.int .i64 fs[i].base)) ∧
        (∀ f, f ∈ fs → Blk wr f.blk (f.cells w.heap.size) 45) := by
  obtain ⟨fv, fs, base, last, hm, hlen, ⟨cb, hcb, hcs, hcat⟩, hlay, hsz, hbb, hbel, hN⟩ := h
  refine ⟨fv, fs, base, hlen, hlay, by omega, ⟨last, hm.set, Fr.refl _ _⟩, hbel, fun i hi => ?_, ?_⟩
  · have := congrArg (·.getD i 0) hsz
    rw [List.take_of_length_le (Nat.le_refl _)] at this
    simp only [List.getD, List.getElem?_map, List.getElem?_eq_getElem hi, Option.map_some, Option.getD_some] at this
    exact this
  · rintro wr ⟨last', h1, fr⟩
    obtain ⟨ca, hca, hcas, hcaat⟩ := hm.arr
    refine ⟨hbel.trans (fr.below hbel.size (fun k hk h => by omega)), fun i hi => ?_, fun i hi => ?_, fun f hf => h1.file f hf⟩
    · exact fr.cell (hca.cell (hcaat i fs[i] (List.getElem?_eq_getElem hi))) (by show ¬ (w.heap.size + 1 = w.heap.size); omega)
    · exact fr.cell (hcb.cell (hcat i fs[i] (List.getElem?_eq_getElem hi))) (by show ¬ (w.heap.size + 1 + 1 = w.heap.size); omega)
end Go.Proofs.Yoedhw
