/-
  FnFileFindsOwnerOrNil: the walk where all fits.
-/
import Derived.Test.YoedhwAsk
import Derived.Deep.CutBlock
namespace Go.Proofs.Yoedhw
open Go.RowKit

set_option maxHeartbeats 2000000 in
set_option maxRecDepth 100000 in
theorem own_good (a0 a1 a2 : Option Addr) (c0 c1 c2 : Nat) (xs gs ps : List Int) (w : World) (hx : Arr w a0 xs) (hy : Arr w a1 gs) (hq : Arr w a2 ps) (hn0 : a0 = none → xs = [] ∧ c0 = 0) (hn1 : a1 = none → gs = [] ∧ c1 = 0) (hn2 : a2 = none → ps = [] ∧ c2 = 0) (h0 : fitB xs = true) (h1 : fitB gs = true) (l2 : ps.length ≤ 4096) :
    Calls Edhg.prog 5 #[.slice a0 xs.length c0, .slice a1 gs.length c1, .slice a2 ps.length c2] w fun e w' => e = .returned (.bool true) ∧ Below w.heap.size w w' := by
  have l0 := fit_length h0
  have l1 := fit_length h1
  have HB : Hid (Calls Edhg.prog 22 #[.slice a0 xs.length c0, .slice a1 gs.length c1, .slice a2 ps.length c2] w fun e w' => e = .returned (.bool true) ∧ w' = w) := bytes22_yes a0 xs.length c0 a1 gs.length c1 a2 ps.length c2 w (by omega)
  have hf0 := fits_any a0 c0 xs w hx (by unfold maxLen; omega)
  have hf1 := fits_any a1 c1 gs w hy (by unfold maxLen; omega)
  rw [h0] at hf0
  rw [h1] at hf1
  have H0 : Hid (Calls Edhg.prog 12 #[.slice a0 xs.length c0] w fun e w' => e = .returned (.bool true) ∧ w' = w) := hf0
  have H1 : Hid (Calls Edhg.prog 12 #[.slice a1 gs.length c1] w fun e w' => e = .returned (.bool true) ∧ w' = w) := hf1
  have HX : Hid (Arr w a0 xs ∧ Arr w a1 gs ∧ Arr w a2 ps ∧ (a0 = none → xs = [] ∧ c0 = 0) ∧ (a1 = none → gs = [] ∧ c1 = 0) ∧ (a2 = none → ps = [] ∧ c2 = 0) ∧ fitB xs = true ∧ fitB gs = true) := ⟨hx, hy, hq, hn0, hn1, hn2, h0, h1⟩
  clear hf0 hf1 hx hy hq hn0 hn1 hn2 h0 h1
  go_enter Edhg.func5, Edhg.ntmps5
  go_wp2_with fail
  refine HB.out.mono ?_
  rintro e w' ⟨rfl, hw⟩; subst w'
  go_wp2_with fail
  refine H0.out.mono ?_
  rintro e w' ⟨rfl, hw⟩; subst w'
  go_wp2_with fail
  refine H1.out.mono ?_
  rintro e w' ⟨rfl, hw⟩; subst w'
  clear HB H0 H1
  go_wp2_with fail
  refine (clone_any a0 c0 xs _ HX.out.1 HX.out.2.2.2.1 l0).mono ?_
  rintro e w1 ⟨a0', rfl, hc0, hb1⟩
  have HC0 : Hid (Cln w1 w.heap.size a0' xs ∧ Below w.heap.size w w1) := ⟨hc0, hb1⟩
  clear hc0 hb1
  go_wp2_with fail
  refine (clone_any a1 c1 gs _ (HX.out.2.1.below HC0.out.2) HX.out.2.2.2.2.1 l1).mono ?_
  rintro e w1b ⟨a1', rfl, hc1, hb2⟩
  have hbel : Below w.heap.size w w1b := HC0.out.2.trans (hb2.mono HC0.out.2.size)
  have HC1 : Hid (Cln w1b w.heap.size a0' xs ∧ Cln w1b w.heap.size a1' gs ∧ Below w.heap.size w w1b) := ⟨HC0.out.1.below hb2, hc1.base HC0.out.2.size, hbel⟩
  clear hc1 hb2 hbel HC0
  go_wp2_with fail
  refine (clone_any a2 c2 ps _ (HX.out.2.2.1.below HC1.out.2.2) HX.out.2.2.2.2.2.1 l2).mono ?_
  rintro e w2 ⟨a2', rfl, hc2, hb2⟩
  have hbel : Below w.heap.size w w2 := HC1.out.2.2.trans (hb2.mono HC1.out.2.2.size)
  have HC : Hid (Cln w2 w.heap.size a0' xs ∧ Cln w2 w.heap.size a1' gs ∧ Cln w2 w.heap.size a2' ps ∧ Below w.heap.size w w2 ∧ fitB xs = true ∧ fitB gs = true) := ⟨HC1.out.1.below hb2, HC1.out.2.1.below hb2, hc2.base HC1.out.2.2.size, hbel, HX.out.2.2.2.2.2.2⟩
  clear hc2 hb2 hbel HC1 HX
  go_wp2_with fail
  refine (gapped_any a0' a1' xs gs w.heap.size w2 HC.out.1 HC.out.2.1 HC.out.2.2.2.2.1 HC.out.2.2.2.2.2).mono ?_
  rintro e w3 ⟨rfl, hG⟩
  obtain ⟨fv, fs, base, hlen, hlay, hbb, hask, hbel, hsz, hall⟩ := hG.open l0
  have hcx := HC.out.1
  have hcp := HC.out.2.2.1
  have hbw := HC.out.2.2.2.1
  have HL : Hid (Lay fs base ∧ fs.length = xs.length ∧ ∀ i (hi : i < fs.length), fs[i].size = xs.getD i 0) := ⟨hlay, hlen, hsz⟩
  have HA : Hid _ := hall
  have HK : Hid (Cln w2 w.heap.size a0' xs ∧ Cln w2 w.heap.size a2' ps ∧ Below w.heap.size w w2) := ⟨hcx, hcp, hbw⟩
  have T : Hid (Asked w3 w2.heap.size fv fs base w3) := hask
  clear hG hlay hlen hsz hall hcx hcp hbw hask hbel HC
  go_wp2
  go_loopw [10, 11, 12, 13, 14] (fun s _ _ _ _ wr => ∃ j : Nat, j ≤ ps.length ∧ s = .int .i64 j ∧ Hid (Asked w3 w2.heap.size fv fs base wr)) (fun s _ _ _ _ _ => ps.length - (intOf s).toNat)
  case atStart => exact ⟨0, Nat.zero_le _, rfl, T⟩
  case round =>
    obtain ⟨j, hj, rfl, H⟩ := hrel
    clear T
    by_cases hlt : j < ps.length
    · obtain ⟨g, ha, _, hblk, hc0⟩ := HK.out.2.1.at hlt
      have hcell := (((HA.out wr H.out).1).cell (p := ⟨g, j, none⟩) hblk.lt).trans hc0
      subst ha
      clear hblk hc0
      generalize ps.getD j 0 = p at *
      obtain ⟨last, hset, hfr⟩ := H.out
      have hz := zzfile_any hset HL.out.1 hbb (by have := HL.out.2.1; omega) p
      have HZ : Hid _ := hz
      clear hz hset hfr
      go_wp2_with fail
      refine Calls.mono HZ.out ?_
      rintro e w4 ⟨rfl, hx⟩
      have H4 : Hid (Asked w3 w2.heap.size fv fs base w4) := H.out.next hx
      clear HZ hx H hcell
      go_upto_block 2 with fail
      go_cut [13, 14] (fun t _ wc => t = ptrOf (owner fs p) ∧ Hid (Asked w3 w2.heap.size fv fs base wc))
      case first =>
        go_wp2_with fail
        go_loopw [13, 14] (fun t i wr => ∃ (k q : Nat), k ≤ xs.length ∧ i = .int .i64 k ∧ t = .pointer none ∧ wr = w4.drewN q ∧ Hid (∀ i (hi : i < fs.length), i < k → fs[i].has p = false)) (fun _ i _ => xs.length - (intOf i).toNat)
        case atStart => exact ⟨0, 0, Nat.zero_le _, rfl, rfl, rfl, (fun i _ h => absurd h (Nat.not_lt_zero _) : ∀ i (hi : i < fs.length), i < 0 → fs[i].has p = false)⟩
        case round =>
          obtain ⟨k, q, hk, rfl, rfl, rfl, HI⟩ := hrel
          by_cases hkl : k < xs.length
          · have hkf : k < fs.length := by have := HL.out.2.1; omega
            have hA := HA.out w4 H4.out
            obtain ⟨g0, ha0, _, hblk0, hc00⟩ := HK.out.1.at hkl
            have hc0 := (hA.1.cell (p := ⟨g0, k, none⟩) hblk0.lt).trans hc00
            have hc1 := hA.2.2.1 k hkf
            have hc2 := hA.2.1 k hkf
            rw [← HL.out.2.2 k hkf] at hc0
            have hbd := HL.out.1.each _ (List.getElem_mem hkf)
            have hown := owner_of (p := p) HL.out.1 (List.getElem_mem hkf)
            have hnext : ∀ (hno : fs[k].has p = false), ∀ i (hi : i < fs.length), i < k + 1 → fs[i].has p = false := fun hno i hi hik => by
              by_cases e : i = k
              · subst e; exact hno
              · exact HI.out i hi (by omega)
            have hsub := ha0
            subst hsub
            clear hA hblk0 hc00 HI
            have hiff := FRec.has_iff fs[k] p
            generalize fs[k] = f at *
            have HO : Hid _ := And.intro hown (And.intro hnext hiff)
            clear hown hnext hiff
            unfold FRec.ptr at hc2
            have hki : (k : Int) < (xs.length : Int) := by omega
            by_cases h1 : f.base ≤ p
            · by_cases h2 : p ≤ f.base + f.size
              · go_wp2_with fail
                go_quiet (fail)
                go_wp2
                go_meet
                case rel => exact ⟨by rw [HO.out.1 (HO.out.2.2.2 ⟨h1, h2⟩)]; rfl, H4.out.draws (q + nq)⟩
              · have hd : decide (p ≤ f.base + f.size) = false := by simpa using h2
                go_wp2_with fail
                go_quiet (fail)
                go_wp2
                go_roundw
                case rel => exact ⟨k + 1, q + nq, by omega, by go_num, rfl, rfl, HO.out.2.1 (by rw [← Bool.not_eq_true, HO.out.2.2]; omega)⟩
                case measure => simp [intOf]; omega
            · have hd : decide (f.base ≤ p) = false := by simpa using h1
              go_wp2_with fail
              go_quiet (fail)
              go_wp2
              go_roundw
              case rel => exact ⟨k + 1, q + nq, by omega, by go_num, rfl, rfl, HO.out.2.1 (by rw [← Bool.not_eq_true, HO.out.2.2]; omega)⟩
              case measure => simp [intOf]; omega
          · have ho : owner fs p = none := owner_none (fun f hf => by
              obtain ⟨i, hi, rfl⟩ := List.getElem_of_mem hf
              exact HI.out i hi (by have := HL.out.2.1; omega))
            have HO : Hid _ := ho
            clear ho HI
            go_wp2
            go_meet
            case rel => exact ⟨by rw [HO.out]; rfl, H4.out.draws q⟩
      case rest =>
        obtain ⟨rfl, H5⟩ := hcut
        cases ho : owner fs p with
        | none =>
          clear ho
          unfold ptrOf
          go_wp2
          go_roundw
          case rel => exact ⟨j + 1, by omega, by go_num, H5.out⟩
          case measure => simp [intOf]; omega
        | some f =>
          have hb := (HA.out _ H5.out).2.2.2 f (owner_mem ho).1
          have e := run_ptr_neq Edhg.underlying36 Edhg.size45 hb hb
          rw [decide_eq_true rfl] at e
          clear ho hb
          unfold ptrOf FRec.ptr
          go_wp2
          go_roundw
          case rel => exact ⟨j + 1, by omega, by go_num, H5.out⟩
          case measure => simp [intOf]; omega
    · go_wp2
      go_ret
      exact ⟨rfl, HK.out.2.2.trans ((HA.out wr H.out).1.mono HK.out.2.2.size)⟩
end Go.Proofs.Yoedhw
