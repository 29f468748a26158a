/-
  FnSetPositionMatchesLinearModel: the walk.
-/
import Derived.Test.YoedhwBoth
import Derived.Test.YoedhwHeads
namespace Go.Proofs.Yoedhw
open Go.RowKit
set_option linter.unusedVariables false

set_option maxHeartbeats 400000 in
/-- The step out of range. -/
theorem step3 (a0 : Option Addr) (c0 : Nat) (z0 : List Int) (x1 : Int) (a2 : Option Addr) (c2 : Nat) (z2 : List Int) (w : World) (k0 : Arr w a0 z0) (h2 : z2.length ≤ 4096) (hf : fitB z0 = true) (hb : x1 < 1 ∨ 65536 < x1) :
    Calls Edhg.prog 3 #[.slice a0 z0.length c0, .int .i64 x1, .slice a2 z2.length c2] w fun e w' => e = .returned (.bool true) ∧ Below w.heap.size w w' := by
  have h0 := fit_length hf
  have HB : Hid (Calls Edhg.prog 11 #[.slice a0 z0.length c0, .int .i64 x1, .slice a2 z2.length c2] w fun e w' => e = .returned (.bool true) ∧ w' = w) := bytes11_yes a0 z0.length c0 x1 a2 z2.length c2 w (by omega)
  have g0 := fits_any a0 c0 z0 w k0 (by unfold maxLen; omega)
  rw [hf] at g0
  have H0 : Hid (Calls Edhg.prog 12 #[.slice a0 z0.length c0] w fun e w' => e = .returned (.bool true) ∧ w' = w) := g0
  clear g0 hf k0
  rcases hb with hb | hb
  · go_enter Edhg.func3, Edhg.ntmps3
    go_wp2_with fail
    refine Calls.mono HB.out ?_
    rintro e w' ⟨rfl, rfl⟩
    go_wp2_with fail
    refine Calls.mono H0.out ?_
    rintro e w' ⟨rfl, rfl⟩
    go_wp2
    go_ret
    exact ⟨rfl, Below.refl _ _⟩
  · go_enter Edhg.func3, Edhg.ntmps3
    go_wp2_with fail
    refine Calls.mono HB.out ?_
    rintro e w' ⟨rfl, rfl⟩
    go_wp2_with fail
    refine Calls.mono H0.out ?_
    rintro e w' ⟨rfl, rfl⟩
    go_wp2
    go_ret
    exact ⟨rfl, Below.refl _ _⟩

set_option maxHeartbeats 2000000 in
set_option maxRecDepth 100000 in
theorem match_good (a0 : Option Addr) (c0 : Nat) (xs : List Int) (step : Int) (a2 : Option Addr) (c2 : Nat) (ps : List Int) (w : World) (hx : Arr w a0 xs) (hq : Arr w a2 ps) (hn0 : a0 = none → xs = [] ∧ c0 = 0) (hn2 : a2 = none → ps = [] ∧ c2 = 0) (h0 : fitB xs = true) (l2 : ps.length ≤ 4096) (hs1 : 1 ≤ step) (hs2 : step ≤ 65536) :
    Calls Edhg.prog 3 #[.slice a0 xs.length c0, .int .i64 step, .slice a2 ps.length c2] w fun e w' => e = .returned (.bool true) ∧ Below w.heap.size w w' := by
  have l0 := fit_length h0
  have HB : Hid (Calls Edhg.prog 11 #[.slice a0 xs.length c0, .int .i64 step, .slice a2 ps.length c2] w fun e w' => e = .returned (.bool true) ∧ w' = w) := bytes11_yes a0 xs.length c0 step a2 ps.length c2 w (by omega)
  have hf0 := fits_any a0 c0 xs w hx (by unfold maxLen; omega)
  rw [h0] at hf0
  have H0 : Hid (Calls Edhg.prog 12 #[.slice a0 xs.length c0] w fun e w' => e = .returned (.bool true) ∧ w' = w) := hf0
  have HX : Hid (Arr w a0 xs ∧ Arr w a2 ps ∧ (a0 = none → xs = [] ∧ c0 = 0) ∧ (a2 = none → ps = [] ∧ c2 = 0) ∧ fitB xs = true) := ⟨hx, hq, hn0, hn2, h0⟩
  clear hf0 hx hq hn0 hn2 h0
  go_enter Edhg.func3, Edhg.ntmps3
  go_wp2_with fail
  refine HB.out.mono ?_
  rintro e w' ⟨rfl, hw⟩; subst w'
  go_wp2_with fail
  refine H0.out.mono ?_
  rintro e w' ⟨rfl, hw⟩; subst w'
  clear HB H0
  go_wp2_with fail
  refine (clone_any a0 c0 xs _ HX.out.1 HX.out.2.2.1 l0).mono ?_
  rintro e w1 ⟨a0', rfl, hc0, hb1⟩
  have HC0 : Hid (Cln w1 w.heap.size a0' xs ∧ Below w.heap.size w w1) := ⟨hc0, hb1⟩
  clear hc0 hb1
  go_wp2_with fail
  refine (clone_any a2 c2 ps _ (HX.out.2.1.below HC0.out.2) HX.out.2.2.2.1 l2).mono ?_
  rintro e w2 ⟨a2', rfl, hc2, hb2⟩
  have hbel : Below w.heap.size w w2 := HC0.out.2.trans (hb2.mono HC0.out.2.size)
  have HC : Hid (Cln w2 w.heap.size a0' xs ∧ Cln w2 w.heap.size a2' ps ∧ Below w.heap.size w w2 ∧ fitB xs = true) := ⟨HC0.out.1.below hb2, hc2.base HC0.out.2.size, hbel, HX.out.2.2.2.2⟩
  clear hc2 hb2 hbel HC0 HX
  go_wp2_with fail
  refine (stepped_any a0' xs step w.heap.size w2 HC.out.1 HC.out.2.2.2 hs1 hs2).mono ?_
  rintro e w3 ⟨rfl, hG⟩
  obtain ⟨fv, fs, base, hlen, hlay, hbb, hfiles, hask, hall⟩ := hG.open HC.out.2.2.2
  have HL : Hid (Lay fs base ∧ fs.length = xs.length ∧ Files xs step fs ∧ base ≤ 4294967296) := ⟨hlay, hlen, hfiles, hbb⟩
  have HA : Hid _ := hall
  have T : Hid (Ask2 w3 (w2.heap.size + 2) w2.heap.size fv fs base w3) := hask
  clear hG hlay hlen hfiles hall hask hbb
  go_wp2
  go_loopw [9, 10, 11] (fun s _ _ wr => ∃ j : Nat, j ≤ ps.length ∧ s = .int .i64 j ∧ Hid (Ask2 w3 (w2.heap.size + 2) w2.heap.size fv fs base wr)) (fun s _ _ _ => ps.length - (intOf s).toNat)
  case atStart => exact ⟨0, Nat.zero_le _, rfl, T⟩
  case round =>
    obtain ⟨j, hj, rfl, H⟩ := hrel
    clear T
    by_cases hlt : j < ps.length
    · obtain ⟨g, ha, _, hblk, hc0⟩ := HC.out.2.1.at hlt
      have hcw : ∀ W, Below w2.heap.size w2 W → W.cell? ⟨g, j, none⟩ = some (.int .i64 (ps.getD j 0)) := fun W hW => (hW.cell (p := ⟨g, j, none⟩) hblk.lt).trans hc0
      have hcell := hcw wr (HA.out wr H.out).1
      subst ha
      clear hblk hc0
      generalize ps.getD j 0 = p at *
      obtain ⟨s, a, b, c, hp1, hp2⟩ := both HC.out.2.2.2 hs1 hs2 HL.out.2.1 HL.out.1 HL.out.2.2.2 HL.out.2.2.1 p
      have HP1 : Hid _ := hp1 w3 wr _ _ _ H.out
      have HP2 : Hid _ := hp2
      have HCW : Hid _ := hcw
      clear hp1 hp2 hcw H
      go_wp2_with fail
      refine Calls.mono HP1.out ?_
      rintro e w4 ⟨rfl, h4⟩
      have hb4 : Below w2.heap.size w2 w4 := (HA.out w4 h4).1
      have hc4 := fun o => cell_alloc_later (HCW.out w4 hb4) o
      have H4 : Hid (Ask2 w3 (w2.heap.size + 2) w2.heap.size fv fs base w4 ∧ Below w2.heap.size w2 w4) := ⟨h4, hb4⟩
      clear HP1 h4 hb4 hcell
      go_wp2_with fail
      refine Calls.mono (HP2.out _ a0' w.heap.size (HC.out.1.below (H4.out.2.alloc H4.out.2.size _))) ?_
      rintro e w6 ⟨rfl, hb6⟩
      have hg6 := (Fr.of_below hb6 (fun _ => False)).blk (Blk.new w4 _ _) (fun h => h)
      obtain ⟨⟨r0, r1, r2, r3⟩, _⟩ := four_at hg6
      have hlt6 := hg6.lt
      have H6 : Hid (Ask2 w3 (w2.heap.size + 2) w2.heap.size fv fs base w6) := (H4.out.1.below ((Below.refl _ _).alloc (Nat.le_refl _) _)).below hb6
      clear hg6 hb6 HP2 H4 hc4 HCW
      go_wp2
      go_roundw
      case rel => exact ⟨j + 1, by omega, by go_num, H6.out.below ((Below.refl _ _).alloc (Nat.le_refl _) _)⟩
      case measure => simp [intOf]; omega
    · go_wp2
      go_ret
      exact ⟨rfl, HC.out.2.2.1.trans ((HA.out wr H.out).1.mono HC.out.2.2.1.size)⟩
end Go.Proofs.Yoedhw
