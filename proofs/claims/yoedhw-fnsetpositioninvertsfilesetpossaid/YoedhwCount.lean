/-
  The laws over searchFiles: FnSearchFilesCountsBasesAtMost, FnSearchFilesMonotoneAndBounded.
-/
import Derived.Test.YoedhwGapped
import Derived.Test.YoedhwHeads
namespace Go.Proofs.Yoedhw
open Go.RowKit

/-- How many files begin at x or before. -/
def cnt (fs : List FRec) (x : Int) : Nat := fs.countP (fun f => decide (f.base ≤ x))

theorem cnt_le (fs : List FRec) (x : Int) : cnt fs x ≤ fs.length := List.countP_le_length
theorem cnt_mono (fs : List FRec) {x y : Int} (h : x ≤ y) : cnt fs x ≤ cnt fs y := by
  refine List.countP_mono_left (fun f _ hf => ?_)
  simp only [decide_eq_true_eq] at hf ⊢
  omega

theorem parts_cnt (x : Int) : ∀ (fs : List FRec), fs.Pairwise (fun f g => f.base + f.size < g.base) → (∀ f, f ∈ fs → 0 ≤ f.size) → Parts fs x (cnt fs x)
  | [], _, _ => ⟨by simp [cnt], fun i f h => by simp at h, fun i f h => by simp at h⟩
  | f :: fs, hp, hs => by
    obtain ⟨h1, h2⟩ := List.pairwise_cons.1 hp
    obtain ⟨q0, q1, q2⟩ := parts_cnt x fs h2 (fun g hg => hs g (List.mem_cons_of_mem _ hg))
    have hf0 := hs f (by simp)
    by_cases hf : f.base ≤ x
    · have e : cnt (f :: fs) x = cnt fs x + 1 := by simp [cnt, hf]
      rw [e]
      refine ⟨by simp; omega, fun i g hg hi => ?_, fun i g hg hi => ?_⟩
      · cases i with
        | zero => simp at hg; subst hg; exact hf
        | succ i => exact q1 i g (by simpa using hg) (by omega)
      · cases i with
        | zero => omega
        | succ i => exact q2 i g (by simpa using hg) (by omega)
    · have hz : cnt fs x = 0 := by
        rw [cnt, List.countP_eq_zero]
        intro g hg
        have := h1 g hg
        simp only [decide_eq_true_eq]
        omega
      have e : cnt (f :: fs) x = 0 := by
        have : cnt (f :: fs) x = cnt fs x := by simp [cnt, hf]
        omega
      rw [e]
      refine ⟨Nat.zero_le _, fun i g hg hi => by omega, fun i g hg hi => ?_⟩
      have hm := List.mem_of_getElem? hg
      rcases List.mem_cons.1 hm with rfl | hm
      · omega
      · have := h1 g hm; omega

theorem Lay.parts {fs : List FRec} {base : Int} (h : Lay fs base) (x : Int) : Parts fs x (cnt fs x) := parts_cnt x fs h.pair (fun f hf => (h.each f hf).2.1)

/-- How many of the first k files begin at x or before. -/
theorem cnt_take_succ (fs : List FRec) (x : Int) (k : Nat) (hk : k < fs.length) : cnt (fs.take (k + 1)) x = cnt (fs.take k) x + if fs[k].base ≤ x then 1 else 0 := by
  rw [List.take_succ_eq_append_getElem hk, cnt, List.countP_append]
  simp [cnt, List.countP_cons]

set_option maxHeartbeats 1000000 in
set_option maxRecDepth 100000 in
theorem count_good (a0 a1 : Option Addr) (c0 c1 : Nat) (xs gs : List Int) (x : Int) (w : World) (hx : Arr w a0 xs) (hy : Arr w a1 gs) (hn0 : a0 = none → xs = [] ∧ c0 = 0) (hn1 : a1 = none → gs = [] ∧ c1 = 0) (h0 : fitB xs = true) (h1 : fitB gs = true) :
    Calls Edhg.prog 7 #[.slice a0 xs.length c0, .slice a1 gs.length c1, .int .i64 x] w fun e w' => e = .returned (.bool true) ∧ Below w.heap.size w w' := by
  have l0 := fit_length h0
  have l1 := fit_length h1
  have HB : Hid (Calls Edhg.prog 26 #[.slice a0 xs.length c0, .slice a1 gs.length c1, .int .i64 x] w fun e w' => e = .returned (.bool true) ∧ w' = w) := bytes26_yes a0 xs.length c0 a1 gs.length c1 x w (by omega)
  have hf0 := fits_any a0 c0 xs w hx (by unfold maxLen; omega)
  have hf1 := fits_any a1 c1 gs w hy (by unfold maxLen; omega)
  rw [h0] at hf0
  rw [h1] at hf1
  have H0 : Hid (Calls Edhg.prog 12 #[.slice a0 xs.length c0] w fun e w' => e = .returned (.bool true) ∧ w' = w) := hf0
  have H1 : Hid (Calls Edhg.prog 12 #[.slice a1 gs.length c1] w fun e w' => e = .returned (.bool true) ∧ w' = w) := hf1
  have HX : Hid (Arr w a0 xs ∧ Arr w a1 gs ∧ (a0 = none → xs = [] ∧ c0 = 0) ∧ (a1 = none → gs = [] ∧ c1 = 0) ∧ fitB xs = true ∧ fitB gs = true) := ⟨hx, hy, hn0, hn1, h0, h1⟩
  clear hf0 hf1 hx hy hn0 hn1 h0 h1
  go_enter Edhg.func7, Edhg.ntmps7
  go_wp2_with fail
  refine HB.out.mono ?_
  rintro e w' ⟨rfl, hw⟩; subst w'
  go_wp2_with fail
  refine H0.out.mono ?_
  rintro e w' ⟨rfl, hw⟩; subst w'
  go_wp2_with fail
  refine H1.out.mono ?_
  rintro e w' ⟨rfl, hw⟩; subst w'
  clear HB H0 H1
  go_wp2_with fail
  refine (clone_any a0 c0 xs _ HX.out.1 HX.out.2.2.1 l0).mono ?_
  rintro e w1 ⟨a0', rfl, hc0, hb1⟩
  have HC0 : Hid (Cln w1 w.heap.size a0' xs ∧ Below w.heap.size w w1) := ⟨hc0, hb1⟩
  clear hc0 hb1
  go_wp2_with fail
  refine (clone_any a1 c1 gs _ (HX.out.2.1.below HC0.out.2) HX.out.2.2.2.1 l1).mono ?_
  rintro e w2 ⟨a1', rfl, hc1, hb2⟩
  have hbel : Below w.heap.size w w2 := HC0.out.2.trans (hb2.mono HC0.out.2.size)
  have HC : Hid (Cln w2 w.heap.size a0' xs ∧ Cln w2 w.heap.size a1' gs ∧ Below w.heap.size w w2 ∧ fitB xs = true ∧ fitB gs = true) := ⟨HC0.out.1.below hb2, hc1.base HC0.out.2.size, hbel, HX.out.2.2.2.2⟩
  clear hc1 hb2 hbel HC0 HX
  go_wp2_with fail
  refine (gapped_any a0' a1' xs gs w.heap.size w2 HC.out.1 HC.out.2.1 HC.out.2.2.2.1 HC.out.2.2.2.2).mono ?_
  rintro e w3 ⟨rfl, hG⟩
  have hb3 : Below w.heap.size w w2 := HC.out.2.2.1
  obtain ⟨fv, fs, base, last, hm, hl, ⟨cb, hcb, hcs, hcat⟩, hlay, hsz, hbb, hbel, hN⟩ := hG
  have hcells := fun i (hi : i < fs.length) => hcb.cell (hcat i fs[i] (List.getElem?_eq_getElem hi))
  have hfv : w3.cell? ⟨w2.heap.size, 1, none⟩ = some fv := hm.set.set.cell rfl
  have hz := zzfiles_any hm.set x (cnt fs x) (hlay.parts x) (by omega)
  have hbw : Below w.heap.size w w3 := hb3.trans (hbel.mono hb3.size)
  have hcl := cnt_le fs x
  have HZ : Hid _ := hz
  have HW : Hid (Below w.heap.size w w3 ∧ ∀ i (hi : i < fs.length), w3.cell? ⟨w2.heap.size + 1 + 1, i, none⟩ = some (.int .i64 fs[i].base)) := ⟨hbw, hcells⟩
  have HN : Hid (fs.length = xs.length) := hl
  have h3 := hm.set.set.lt
  clear hz hbw hcells hcb hcs hcat hlay hsz hbb hbel hb3 hm hl HC
  go_wp2_with fail
  refine Calls.mono HZ.out ?_
  rintro e w4 ⟨rfl, hb4⟩
  have HW4 : Hid (Below w.heap.size w w4 ∧ ∀ i (hi : i < fs.length), w4.cell? ⟨w2.heap.size + 1 + 1, i, none⟩ = some (.int .i64 fs[i].base)) := ⟨HW.out.1.trans (hb4.mono HW.out.1.size), fun i hi => (Fr.of_below hb4 (fun _ => False)).cell (HW.out.2 i hi) (fun h => h)⟩
  clear HZ HW hb4 hfv h3
  generalize hM : w2.heap.size = M at *
  clear hM
  go_wp2
  go_loop [11, 12] (fun t i => ∃ k : Nat, k ≤ xs.length ∧ i = .int .i64 k ∧ t = .int .i64 ((cnt (fs.take k) x : Int) - 1)) (fun _ i => xs.length - (intOf i).toNat)
  case atStart => exact ⟨0, Nat.zero_le _, rfl, by simp [cnt]⟩
  case round =>
    obtain ⟨k, hk, rfl, rfl⟩ := hrel
    have hck := cnt_le (fs.take k) x
    have hlk : (fs.take k).length ≤ k := List.length_take_le _ _
    by_cases hlt : k < xs.length
    · have hkf : k < fs.length := by have := HN.out; omega
      have hc := HW4.out.2 k hkf
      have hs := cnt_take_succ fs x k hkf
      generalize fs[k].base = bk at hc hs
      by_cases hle : bk ≤ x
      · rw [if_pos hle] at hs
        have HS : Hid _ := hs
        clear hs
        generalize cnt (fs.take k) x = ck at *
        go_wp2
        go_round
        case rel => exact ⟨k + 1, by omega, by go_num, by rw [HS.out]; go_num⟩
        case measure => simp [intOf]; omega
      · rw [if_neg hle] at hs
        have HS : Hid _ := hs
        clear hs
        generalize cnt (fs.take k) x = ck at *
        go_wp2
        go_round
        case rel => exact ⟨k + 1, by omega, by go_num, by rw [HS.out]; go_num⟩
        case measure => simp [intOf]; omega
    · have e : fs.take k = fs := List.take_of_length_le (by have := HN.out; omega)
      rw [e]
      generalize cnt fs x = cx at *
      go_wp2
      go_ret
      exact ⟨ret_bool (by simp), HW4.out.1⟩
end Go.Proofs.Yoedhw
