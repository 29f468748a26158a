/-
  Position and zzModelPosition answer alike.
-/
import Derived.Test.YoedhwModelB
namespace Go.Proofs.Yoedhw
open Go.RowKit
set_option linter.unusedVariables false

/-- Of all that was there in w3 only the set's own block may have turned. -/
def Ask2 (w3 : World) (B N : Nat) (fv : Value) (fs : List FRec) (base : Int) (wr : World) : Prop := ∃ last, SetIs wr B N fv fs base last ∧ Fr w3 wr (fun k => k = N)

theorem Ask2.next {w3 wr w' : World} {B N : Nat} {fv : Value} {fs : List FRec} {base : Int} (h : Ask2 w3 B N fv fs base wr) (h' : ∃ last', SetIs w' B N fv fs base last' ∧ Fr wr w' (fun k => k = N)) : Ask2 w3 B N fv fs base w' := by
  obtain ⟨last, h1, h2⟩ := h
  obtain ⟨last', h3, h4⟩ := h'
  exact ⟨last', h3, h2.trans h4 (fun _ h => h) (fun _ _ h => h)⟩
theorem Ask2.below {w3 wr w' : World} {B N : Nat} {fv : Value} {fs : List FRec} {base : Int} (h : Ask2 w3 B N fv fs base wr) (hb : Below wr.heap.size wr w') : Ask2 w3 B N fv fs base w' := by
  obtain ⟨last, h1, h2⟩ := h
  exact ⟨last, h1.below hb, h2.trans (Fr.of_below hb (fun k => k = N)) (fun _ h => h) (fun _ _ h => h)⟩

/-- What the files of a stepped set are. -/
def Files (xs : List Int) (step : Int) (fs : List FRec) : Prop := ∀ (i : Nat) (f : FRec), fs[i]? = some f → f.base = baseAt xs i ∧ f.size = xs.getD i 0 ∧ f.name = nameOf i ∧ LinesOk step f.size f.lines

theorem lines_len {step size : Int} {ls : List Int} (h : LinesOk step size ls) (h1 : 1 ≤ step) (h2 : size ≤ 65536) : 1 ≤ ls.length ∧ ls.length ≤ 65537 := by
  obtain ⟨j, rfl, hj, hs, hall⟩ := h
  rw [lin_length]
  refine ⟨hj, ?_⟩
  refine Nat.le_of_not_lt (fun hlt => ?_)
  have h3 := hall (j - 1) (by omega) (by omega)
  have h4 := mul_ge (j - 1) step h1
  omega

/-- The two answers, at whatever position. -/
theorem both {xs : List Int} {step : Int} {fs : List FRec} {base : Int} (fx : fitB xs = true) (hs1 : 1 ≤ step) (hs2 : step ≤ 65536) (hlen : fs.length = xs.length) (hl : Lay fs base) (hb : base ≤ 4294967296) (hfs : Files xs step fs) (p : Int) :
    ∃ (s : ByteArray) (a b c : Int),
      (∀ (w3 wr : World) (B N : Nat) (fv : Value), Ask2 w3 B N fv fs base wr → Calls Edhg.prog 15 #[.pointer (some ⟨N, 0, none⟩), .int .i64 p] wr fun e w' => e = .returned (.agg #[.string s, .int .i64 a, .int .i64 b, .int .i64 c]) ∧ Ask2 w3 B N fv fs base w') ∧
      (∀ (wr : World) (ao : Option Addr) (B : Nat), Cln wr B ao xs → Calls Edhg.prog 16 #[.slice ao xs.length xs.length, .int .i64 step, .int .i64 p] wr fun e w' => e = .returned (.agg #[.string s, .int .i64 a, .int .i64 b, .int .i64 c]) ∧ Below wr.heap.size wr w') := by
  have l0 := fit_length fx
  cases ho : owner fs p with
  | none =>
    have hno : ∀ j, j < xs.length → ¬ (baseAt xs j ≤ p ∧ p ≤ baseAt xs j + xs.getD j 0) := by
      intro j hj hh
      have hjf : fs[j]? = some fs[j] := List.getElem?_eq_getElem (by omega)
      obtain ⟨e1, e2, _⟩ := hfs j _ hjf
      rw [← e1, ← e2] at hh
      rw [owner_of hl (List.mem_of_getElem? hjf) ((FRec.has_iff _ _).2 hh)] at ho
      cases ho
    refine ⟨⟨#[]⟩, 0, 0, 0, ?_, ?_⟩
    · rintro w3 wr B N fv ⟨last, h1, h2⟩
      exact (setpos_miss h1 hl hb (by omega) p (.inr ho)).mono fun e w' ⟨he, hx⟩ => ⟨he, Ask2.next ⟨last, h1, h2⟩ hx⟩
    · intro wr ao B hc
      exact model_miss ao xs step p B wr hc fx (.inr hno)
  | some f =>
    obtain ⟨hm, hhas⟩ := owner_mem ho
    rw [FRec.has_iff] at hhas
    obtain ⟨i, hi⟩ := List.getElem?_of_mem hm
    obtain ⟨e1, e2, e3, e4⟩ := hfs i f hi
    have hil : i < xs.length := by have := (List.getElem?_eq_some_iff.1 hi).1; omega
    have hxi := fit_at fx i
    obtain ⟨idx, b1, b2, b3⟩ := idx_ok (off := p - f.base) e4 (by omega) (by omega) hs1
    have hll := lines_len e4 hs1 (by omega)
    have hge : 0 ≤ (idx : Int) * step := by have := mul_ge idx step hs1; omega
    have hno : ∀ j, j < i → ¬ (baseAt xs j ≤ p ∧ p ≤ baseAt xs j + xs.getD j 0) := by
      intro j hj hh
      have hjf : fs[j]? = some fs[j] := List.getElem?_eq_getElem (by omega)
      obtain ⟨q1, q2, _⟩ := hfs j _ hjf
      rw [← q1, ← q2] at hh
      have := pair_at hl.pair hjf hi hj
      omega
    refine ⟨nameOf i, p - baseAt xs i, (idx : Int) + 1, p - baseAt xs i - (idx : Int) * step + 1, ?_, ?_⟩
    · rintro w3 wr B N fv ⟨last, h1, h2⟩
      refine (setpos_hit h1 hl hb (by omega) p f idx ho b1 (by rw [b2]; exact hge) (by omega)).mono fun e w' ⟨he, hx⟩ => ⟨?_, Ask2.next ⟨last, h1, h2⟩ hx⟩
      rw [he, e1, e3, b2]; rfl
    · intro wr ao B hc
      rw [e1, e2] at b3
      exact model_hit ao xs step p i idx B wr hc fx hs1 hs2 hil (by omega) (by omega) hno b3

/-- zzBuildStepped's leavings, opened. -/
theorem Stp.open {w w3 : World} {xs : List Int} {step : Int} (h : Stp w w3 xs step xs.length) (fx : fitB xs = true) :
    ∃ fv fs base, fs.length = xs.length ∧ Lay fs base ∧ base ≤ 4294967296 ∧ Files xs step fs ∧ Ask2 w3 (w.heap.size + 2) w.heap.size fv fs base w3 ∧
      ∀ wr, Ask2 w3 (w.heap.size + 2) w.heap.size fv fs base wr → Below w.heap.size w wr ∧ (∀ i (hi : i < fs.length), wr.cell? ⟨w.heap.size + 1, i, none⟩ = some fs[i].ptr) := by
  obtain ⟨fv, fs, base, last, hm, hlen, hlay, hbase, heach, hbel, hN⟩ := h
  have l0 := fit_length fx
  have hst := fit_sum_take fx xs.length
  refine ⟨fv, fs, base, hlen, hlay, by omega, heach, ⟨last, hm.set, Fr.refl _ _⟩, ?_⟩
  rintro wr ⟨last', h1, fr⟩
  obtain ⟨ca, hca, hcas, hcaat⟩ := hm.arr
  refine ⟨hbel.trans (fr.below hbel.size (fun k hk h => by omega)), fun i hi => ?_⟩
  exact fr.cell (hca.cell (hcaat i fs[i] (List.getElem?_eq_getElem hi))) (by show ¬ (w.heap.size + 1 = w.heap.size); omega)
end Go.Proofs.Yoedhw
