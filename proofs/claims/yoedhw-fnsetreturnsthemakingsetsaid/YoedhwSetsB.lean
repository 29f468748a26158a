/-
  The walk of FnSetReturnsTheMakingSet where all fits.
-/
import Derived.Test.YoedhwTwo
import Derived.Test.YoedhwPtr
import Derived.Deep.DeepCutAuto
namespace Go.Proofs.Yoedhw
open Go.RowKit

set_option maxHeartbeats 1000000 in
set_option maxRecDepth 100000 in
theorem sets_good (a0 a1 : Option Addr) (c0 c1 : Nat) (xs ys : List Int) (w : World) (hx : Arr w a0 xs) (hy : Arr w a1 ys) (hn0 : a0 = none → xs = [] ∧ c0 = 0) (hn1 : a1 = none → ys = [] ∧ c1 = 0) (h0 : fitB xs = true) (h1 : fitB ys = true) :
    Calls Edhg.prog 9 #[.slice a0 xs.length c0, .slice a1 ys.length c1] w fun e w' => e = .returned (.bool true) ∧ Below w.heap.size w w' := by
  have l0 := fit_length h0
  have l1 := fit_length h1
  have HB : Hid (Calls Edhg.prog 29 #[.slice a0 xs.length c0, .slice a1 ys.length c1] w fun e w' => e = .returned (.bool true) ∧ w' = w) := bytes29_yes a0 xs.length c0 a1 ys.length c1 w (by omega)
  have hf0 := fits_any a0 c0 xs w hx (by unfold maxLen; omega)
  have hf1 := fits_any a1 c1 ys w hy (by unfold maxLen; omega)
  rw [h0] at hf0
  rw [h1] at hf1
  have H0 : Hid (Calls Edhg.prog 12 #[.slice a0 xs.length c0] w fun e w' => e = .returned (.bool true) ∧ w' = w) := hf0
  have H1 : Hid (Calls Edhg.prog 12 #[.slice a1 ys.length c1] w fun e w' => e = .returned (.bool true) ∧ w' = w) := hf1
  have HX : Hid (Arr w a0 xs ∧ Arr w a1 ys ∧ (a0 = none → xs = [] ∧ c0 = 0) ∧ (a1 = none → ys = [] ∧ c1 = 0) ∧ fitB xs = true ∧ fitB ys = true) := ⟨hx, hy, hn0, hn1, h0, h1⟩
  clear hf0 hf1 hx hy hn0 hn1 h0 h1
  have hmk0 := Edhg.make27 xs.length (by omega)
  have hmk1 := Edhg.make27 ys.length (by omega)
  go_enter Edhg.func9, Edhg.ntmps9
  go_wp2_with fail
  refine HB.out.mono ?_
  rintro e w' ⟨rfl, hw⟩; subst w'
  go_wp2_with fail
  refine H0.out.mono ?_
  rintro e w' ⟨rfl, hw⟩; subst w'
  go_wp2_with fail
  refine H1.out.mono ?_
  rintro e w' ⟨rfl, hw⟩; subst w'
  clear HB H0 H1
  go_wp2_with fail
  refine (clone_any a0 c0 xs _ HX.out.1 HX.out.2.2.1 l0).mono ?_
  rintro e w1 ⟨a0', rfl, hc0, hb1⟩
  have HC0 : Hid (Cln w1 w.heap.size a0' xs ∧ Below w.heap.size w w1) := ⟨hc0, hb1⟩
  clear hc0 hb1
  go_wp2_with fail
  refine (clone_any a1 c1 ys _ (HX.out.2.1.below HC0.out.2) HX.out.2.2.2.1 l1).mono ?_
  rintro e w2 ⟨a1', rfl, hc1, hb2⟩
  have hbel : Below w.heap.size w w2 := HC0.out.2.trans (hb2.mono HC0.out.2.size)
  have HC : Hid (Cln w2 w.heap.size a0' xs ∧ Cln w2 w.heap.size a1' ys ∧ Below w.heap.size w w2 ∧ fitB xs = true ∧ fitB ys = true) := ⟨HC0.out.1.below hb2, hc1.base HC0.out.2.size, hbel, HX.out.2.2.2.2⟩
  clear hc1 hb2 hbel HC0 HX
  go_upto_if 58 with (go_at_call 30; refine (new_any _).mono ?_; rintro e w' ⟨rfl, hw⟩; subst w')
  go_cut [9] (fun s wc => ∃ N : Nat, s = .int .i64 N ∧ xs.length ≤ N ∧ ys.length ≤ N ∧ N ≤ 4096 ∧ wc = (((w2.alloc (.cells #[.int .i64 1, .slice none 0 0, .pointer none] 49)).alloc (.cells #[.int .i64 1, .slice none 0 0, .pointer none] 49)).alloc (.cells (madeCells #[.pointer none] xs.length) 36)).alloc (.cells (madeCells #[.pointer none] ys.length) 36))
  case first =>
    go_wp2
    · go_meet
      case rel => exact ⟨ys.length, rfl, by omega, by omega, l1, rfl⟩
    · go_meet
      case rel => exact ⟨xs.length, rfl, by omega, by omega, l0, rfl⟩
  case rest =>
    obtain ⟨N, rfl, hN0, hN1, hN, rfl⟩ := hcut
    clear hmk0 hmk1
    have T := Two.start HC.out.1 HC.out.2.1 HC.out.2.2.1
    have HF : Hid (fitB xs = true ∧ fitB ys = true) := HC.out.2.2.2
    generalize w2.heap.size = M at *
    go_wp2
    go_loopw [10] (fun i wr => ∃ k : Nat, k ≤ N ∧ i = .int .i64 k ∧ Hid (Two w M wr a0' a1' xs ys k k)) (fun i _ => N - (intOf i).toNat)
    case atStart => exact ⟨0, Nat.zero_le _, rfl, T⟩
    case round =>
      obtain ⟨k, hk, rfl, H⟩ := hrel
      clear T HC
      by_cases hlt : k < N
      · go_upto_if 69 with fail
        go_cut [] (fun wc => Hid (Two w M wc a0' a1' xs ys (k + 1) k))
        case first =>
          by_cases hA : k < xs.length
          · obtain ⟨g, fv, fs, b, l, x, ha, hcell, hx0, hx1, hset, hlen, hb0, hb1, hM, hstep⟩ := H.out.useA hA HF.out.1 (by omega)
            subst ha
            have HS : Hid _ := hstep
            have HL : Hid (SetIs wr (M + 4) M fv fs b l ∧ fs.length = k) := ⟨hset, hlen⟩
            clear hstep hset hlen
            go_wp2_with fail
            go_region_held3 (fun w' => w'.cell? ⟨g, k, none⟩ = some (.int .i64 x)) (first | assumption | exact hc4 _ | go_keep)
              (first
                | (go_at_call 19; refine (name_any k (by omega) _).mono ?_; rintro e wn ⟨rfl, hbn⟩; have hbn' : Below wr.heap.size wr wn := ((Below.refl _ _).drew).trans hbn; have hcn : wn.cell? ⟨g, k, none⟩ = some (.int .i64 x) := (Fr.of_below hbn' (fun _ => False)).cell hcell (fun h => h))
                | (go_at_call 31; refine (addFile_neg (HL.out.1.below hbn') hb0 hb1 hx0 hx1 ?_ ?_).mono ?_; (have := HL.out.2; omega); (have := hbn'.size; omega); rintro e w3 ⟨rfl, fv', hs', hsz', fr'⟩; obtain ⟨hc3, hc4, ⟨vold, hv3⟩, hf3, hT⟩ := HS.out w3 fv' _ _ hs' ((Fr.of_below hbn' _).trans fr' (fun _ h => h) (fun _ _ h => h))))
            have HT : Hid _ := hT
            clear hT hs' fr' HS HL
            go_wp2
            go_meet
            case rel => exact HT.out
          · go_wp2
            go_meet
            case rel => exact H.out.skipA hA
        case rest =>
          clear H
          have H : Hid (Two w M wc a0' a1' xs ys (k + 1) k) := hcut
          clear hcut
          by_cases hA : k < ys.length
          · obtain ⟨g, fv, fs, b, l, x, ha, hcell, hx0, hx1, hset, hlen, hb0, hb1, hM, hstep⟩ := H.out.useB hA HF.out.2 (by omega)
            subst ha
            have HS : Hid _ := hstep
            have HL : Hid (SetIs wc (M + 4) (M + 1) fv fs b l ∧ fs.length = k) := ⟨hset, hlen⟩
            clear hstep hset hlen
            go_wp2_with fail
            go_region_held3 (fun w' => w'.cell? ⟨g, k, none⟩ = some (.int .i64 x)) (first | assumption | exact hc4 _ | go_keep)
              (first
                | (go_at_call 19; refine (name_any k (by omega) _).mono ?_; rintro e wn ⟨rfl, hbn⟩; have hbn' : Below wc.heap.size wc wn := ((Below.refl _ _).drew).trans hbn; have hcn : wn.cell? ⟨g, k, none⟩ = some (.int .i64 x) := (Fr.of_below hbn' (fun _ => False)).cell hcell (fun h => h))
                | (go_at_call 31; refine (addFile_neg (HL.out.1.below hbn') hb0 hb1 hx0 hx1 ?_ ?_).mono ?_; (have := HL.out.2; omega); (have := hbn'.size; omega); rintro e w3 ⟨rfl, fv', hs', hsz', fr'⟩; obtain ⟨hc3, hc4, ⟨vold, hv3⟩, hf3, hT⟩ := HS.out w3 fv' _ _ hs' ((Fr.of_below hbn' _).trans fr' (fun _ h => h) (fun _ _ h => h))))
            have HT : Hid _ := hT
            clear hT hs' fr' HS HL
            go_wp2
            go_roundw
            case rel => exact ⟨k + 1, by omega, by go_num, HT.out⟩
            case measure => simp [intOf]; omega
          · go_wp2
            go_roundw
            case rel => exact ⟨k + 1, by omega, by go_num, H.out.skipB hA⟩
            case measure => simp [intOf]; omega
      · have D := H.out.done (by omega) (by omega)
        obtain ⟨cA, hcA⟩ := D.2.2.2.1
        obtain ⟨cB, hcB⟩ := D.2.2.2.2
        have eAA := run_ptr_neq Edhg.underlying26 Edhg.size49 hcA hcA
        have eAB := run_ptr_eql Edhg.underlying26 Edhg.size49 hcA hcB
        have eBB := run_ptr_neq Edhg.underlying26 Edhg.size49 hcB hcB
        have eBA := run_ptr_eql Edhg.underlying26 Edhg.size49 hcB hcA
        rw [decide_eq_true rfl] at eAA eBB
        rw [decide_eq_false (by omega)] at eAB eBA
        have HD : Hid _ := D
        clear D H hcA hcB
        go_wp2
        go_loop [11] (fun i => ∃ j : Nat, j ≤ xs.length ∧ i = .int .i64 j) (fun i => xs.length - (intOf i).toNat)
        case atStart => exact ⟨0, Nat.zero_le _, rfl⟩
        case round =>
          obtain ⟨j, hj, rfl⟩ := hrel
          by_cases hjl : j < xs.length
          · obtain ⟨p, hp1, hp2⟩ := HD.out.1 j hjl
            go_wp2_with (go_at_call 32; refine (set_any _ _ _ hp2).mono ?_; rintro e w' ⟨rfl, hw⟩; subst w')
            go_round
            case rel => exact ⟨j + 1, by omega, by go_num⟩
            case measure => simp [intOf]; omega
          · go_wp2
            go_loop [12] (fun i => ∃ j : Nat, j ≤ ys.length ∧ i = .int .i64 j) (fun i => ys.length - (intOf i).toNat)
            case atStart => exact ⟨0, Nat.zero_le _, rfl⟩
            case round =>
              obtain ⟨m, hm, rfl⟩ := hrel
              by_cases hml : m < ys.length
              · obtain ⟨p, hp1, hp2⟩ := HD.out.2.1 m hml
                go_wp2_with (go_at_call 32; refine (set_any _ _ _ hp2).mono ?_; rintro e w' ⟨rfl, hw⟩; subst w')
                go_round
                case rel => exact ⟨m + 1, by omega, by go_num⟩
                case measure => simp [intOf]; omega
              · go_wp2
                go_ret
                exact ⟨rfl, HD.out.2.2.1⟩
end Go.Proofs.Yoedhw
