/-
  FnFileContainsAndKeepsOrder: the walk where all fits.
-/
import Derived.Test.YoedhwAsk
namespace Go.Proofs.Yoedhw
open Go.RowKit

/-- A later position never leads to a file with a smaller base. -/
theorem owner_mono {fs : List FRec} {base : Int} (hl : Lay fs base) {p q : Int} {f g : FRec} (hf : owner fs p = some f) (hg : owner fs q = some g) (h : q ≤ p) : g.base ≤ f.base := by
  obtain ⟨f1, f2⟩ := owner_mem hf
  obtain ⟨g1, g2⟩ := owner_mem hg
  rw [FRec.has_iff] at f2 g2
  obtain ⟨i, hi⟩ := List.getElem?_of_mem f1
  obtain ⟨j, hj⟩ := List.getElem?_of_mem g1
  have hs := (hl.each g g1).2.1
  rcases Nat.lt_trichotomy i j with h1 | h1 | h1
  · have := pair_at hl.pair hi hj h1; omega
  · subst h1
    rw [hi] at hj
    obtain rfl := Option.some.inj hj
    omega
  · have := pair_at hl.pair hj hi h1; omega

set_option maxHeartbeats 2000000 in
set_option maxRecDepth 100000 in
theorem keep_good (a0 a1 a2 : Option Addr) (c0 c1 c2 : Nat) (xs gs ps : List Int) (w : World) (hx : Arr w a0 xs) (hy : Arr w a1 gs) (hq : Arr w a2 ps) (hn0 : a0 = none → xs = [] ∧ c0 = 0) (hn1 : a1 = none → gs = [] ∧ c1 = 0) (hn2 : a2 = none → ps = [] ∧ c2 = 0) (h0 : fitB xs = true) (h1 : fitB gs = true) (l2 : ps.length ≤ 4096) :
    Calls Edhg.prog 6 #[.slice a0 xs.length c0, .slice a1 gs.length c1, .slice a2 ps.length c2] w fun e w' => e = .returned (.bool true) ∧ Below w.heap.size w w' := by
  have l0 := fit_length h0
  have l1 := fit_length h1
  have HB : Hid (Calls Edhg.prog 25 #[.slice a0 xs.length c0, .slice a1 gs.length c1, .slice a2 ps.length c2] w fun e w' => e = .returned (.bool true) ∧ w' = w) := bytes25_yes a0 xs.length c0 a1 gs.length c1 a2 ps.length c2 w (by omega)
  have hf0 := fits_any a0 c0 xs w hx (by unfold maxLen; omega)
  have hf1 := fits_any a1 c1 gs w hy (by unfold maxLen; omega)
  rw [h0] at hf0
  rw [h1] at hf1
  have H0 : Hid (Calls Edhg.prog 12 #[.slice a0 xs.length c0] w fun e w' => e = .returned (.bool true) ∧ w' = w) := hf0
  have H1 : Hid (Calls Edhg.prog 12 #[.slice a1 gs.length c1] w fun e w' => e = .returned (.bool true) ∧ w' = w) := hf1
  have HX : Hid (Arr w a0 xs ∧ Arr w a1 gs ∧ Arr w a2 ps ∧ (a0 = none → xs = [] ∧ c0 = 0) ∧ (a1 = none → gs = [] ∧ c1 = 0) ∧ (a2 = none → ps = [] ∧ c2 = 0) ∧ fitB xs = true ∧ fitB gs = true) := ⟨hx, hy, hq, hn0, hn1, hn2, h0, h1⟩
  clear hf0 hf1 hx hy hq hn0 hn1 hn2 h0 h1
  go_enter Edhg.func6, Edhg.ntmps6
  go_wp2_with fail
  refine HB.out.mono ?_
  rintro e w' ⟨rfl, hw⟩; subst w'
  go_wp2_with fail
  refine H0.out.mono ?_
  rintro e w' ⟨rfl, hw⟩; subst w'
  go_wp2_with fail
  refine H1.out.mono ?_
  rintro e w' ⟨rfl, hw⟩; subst w'
  clear HB H0 H1
  go_wp2_with fail
  refine (clone_any a0 c0 xs _ HX.out.1 HX.out.2.2.2.1 l0).mono ?_
  rintro e w1 ⟨a0', rfl, hc0, hb1⟩
  have HC0 : Hid (Cln w1 w.heap.size a0' xs ∧ Below w.heap.size w w1) := ⟨hc0, hb1⟩
  clear hc0 hb1
  go_wp2_with fail
  refine (clone_any a1 c1 gs _ (HX.out.2.1.below HC0.out.2) HX.out.2.2.2.2.1 l1).mono ?_
  rintro e w1b ⟨a1', rfl, hc1, hb2⟩
  have hbel : Below w.heap.size w w1b := HC0.out.2.trans (hb2.mono HC0.out.2.size)
  have HC1 : Hid (Cln w1b w.heap.size a0' xs ∧ Cln w1b w.heap.size a1' gs ∧ Below w.heap.size w w1b) := ⟨HC0.out.1.below hb2, hc1.base HC0.out.2.size, hbel⟩
  clear hc1 hb2 hbel HC0
  go_wp2_with fail
  refine (clone_any a2 c2 ps _ (HX.out.2.2.1.below HC1.out.2.2) HX.out.2.2.2.2.2.1 l2).mono ?_
  rintro e w2 ⟨a2', rfl, hc2, hb2⟩
  have hbel : Below w.heap.size w w2 := HC1.out.2.2.trans (hb2.mono HC1.out.2.2.size)
  have HC : Hid (Cln w2 w.heap.size a0' xs ∧ Cln w2 w.heap.size a1' gs ∧ Cln w2 w.heap.size a2' ps ∧ Below w.heap.size w w2 ∧ fitB xs = true ∧ fitB gs = true) := ⟨HC1.out.1.below hb2, HC1.out.2.1.below hb2, hc2.base HC1.out.2.2.size, hbel, HX.out.2.2.2.2.2.2⟩
  clear hc2 hb2 hbel HC1 HX
  go_wp2_with fail
  refine (gapped_any a0' a1' xs gs w.heap.size w2 HC.out.1 HC.out.2.1 HC.out.2.2.2.2.1 HC.out.2.2.2.2.2).mono ?_
  rintro e w3 ⟨rfl, hG⟩
  obtain ⟨fv, fs, base, hlen, hlay, hbb, hask, hbel, hsz, hall⟩ := hG.open l0
  have hcx := HC.out.1
  have hcp := HC.out.2.2.1
  have hbw := HC.out.2.2.2.1
  have HL : Hid (Lay fs base ∧ fs.length = xs.length ∧ ∀ i (hi : i < fs.length), fs[i].size = xs.getD i 0) := ⟨hlay, hlen, hsz⟩
  have HA : Hid _ := hall
  have HK : Hid (Cln w2 w.heap.size a0' xs ∧ Cln w2 w.heap.size a2' ps ∧ Below w.heap.size w w2) := ⟨hcx, hcp, hbw⟩
  have T : Hid (Asked w3 w2.heap.size fv fs base w3) := hask
  clear hG hlay hlen hsz hall hcx hcp hbw hask hbel HC
  go_wp2
  go_loopw [10, 11, 12, 13, 14] (fun s10 s11 s _ _ wr => ∃ (j : Nat) (o : Option FRec) (pp : Int), j ≤ ps.length ∧ s = .int .i64 j ∧ s10 = ptrOf o ∧ s11 = .int .i64 pp ∧ Hid (Asked w3 w2.heap.size fv fs base wr ∧ (o = none ∨ owner fs pp = o))) (fun _ _ s _ _ _ => ps.length - (intOf s).toNat)
  case atStart => exact ⟨0, none, 0, Nat.zero_le _, rfl, rfl, rfl, T, .inl rfl⟩
  case round =>
    obtain ⟨j, o, pp, hj, rfl, rfl, rfl, H⟩ := hrel
    clear T
    by_cases hlt : j < ps.length
    · obtain ⟨g, ha, _, hblk, hc0⟩ := HK.out.2.1.at hlt
      have hcell := (((HA.out wr H.out.1).1).cell (p := ⟨g, j, none⟩) hblk.lt).trans hc0
      subst ha
      clear hblk hc0
      generalize ps.getD j 0 = p at *
      obtain ⟨last, hset, hfr⟩ := H.out.1
      have hz := zzfile_any hset HL.out.1 hbb (by have := HL.out.2.1; omega) p
      have HZ : Hid _ := hz
      clear hz hset hfr
      go_wp2_with fail
      refine Calls.mono HZ.out ?_
      rintro e w4 ⟨rfl, hx⟩
      have H4 : Hid (Asked w3 w2.heap.size fv fs base w4 ∧ (o = none ∨ owner fs pp = o)) := ⟨H.out.1.next hx, H.out.2⟩
      clear HZ hx H hcell
      cases ho : owner fs p with
      | none =>
        clear ho
        unfold ptrOf
        go_wp2
        go_roundw
        case rel => exact ⟨j + 1, none, p, by omega, by go_num, rfl, rfl, H4.out.1, .inl rfl⟩
        case measure => simp [intOf]; omega
      | some f =>
        have hm := owner_mem ho
        have hhas := (FRec.has_iff _ _).1 hm.2
        have hfb := (HA.out _ H4.out.1).2.2.2 f hm.1
        have hbd := HL.out.1.each f hm.1
        have k2 : w4.cell? ⟨f.blk, 2, none⟩ = some (.int .i64 f.base) := hfb.cell rfl
        have k3 : w4.cell? ⟨f.blk, 3, none⟩ = some (.int .i64 f.size) := hfb.cell rfl
        have d1 : decide (p < f.base) = false := by simp; omega
        have d2 : decide (f.base + f.size < p) = false := by simp; omega
        have HO : Hid (owner fs p = some f) := ho
        clear ho hm hfb
        cases o with
        | none =>
          unfold ptrOf FRec.ptr
          go_wp2_with fail
          go_quiet (fail)
          go_wp2_with fail
          go_quiet (fail)
          go_wp2
          go_roundw
          case rel => exact ⟨j + 1, some f, p, by omega, by go_num, rfl, rfl, H4.out.1.draws _, .inr HO.out⟩
          case measure => simp [intOf]; omega
        | some g1 =>
          have hg1 : owner fs pp = some g1 := H4.out.2.resolve_left (by simp)
          have hgm := owner_mem hg1
          have hgb := (HA.out _ H4.out.1).2.2.2 g1 hgm.1
          have k4 : w4.cell? ⟨g1.blk, 2, none⟩ = some (.int .i64 g1.base) := hgb.cell rfl
          have hmono := fun h => owner_mono HL.out.1 HO.out hg1 h
          have HM : Hid _ := hmono
          clear hg1 hgm hgb hmono
          unfold ptrOf FRec.ptr
          by_cases hpp : pp ≤ p
          · have hle := HM.out hpp
            have d3 : decide (f.base < g1.base) = false := by simp; omega
            go_wp2_with fail
            go_quiet (fail)
            go_wp2_with fail
            go_quiet (fail)
            go_wp2
            go_roundw
            case rel => exact ⟨j + 1, some f, p, by omega, by go_num, rfl, rfl, H4.out.1.draws _, .inr HO.out⟩
            case measure => simp [intOf]; omega
          · have d3 : decide (pp ≤ p) = false := by simpa using hpp
            go_wp2_with fail
            go_quiet (fail)
            go_wp2_with fail
            go_quiet (fail)
            go_wp2
            go_roundw
            case rel => exact ⟨j + 1, some f, p, by omega, by go_num, rfl, rfl, H4.out.1.draws _, .inr HO.out⟩
            case measure => simp [intOf]; omega
    · go_wp2
      go_ret
      exact ⟨rfl, HK.out.2.2.trans ((HA.out wr H.out.1).1.mono HK.out.2.2.size)⟩
end Go.Proofs.Yoedhw
