/-
  FnSearchFilesMonotoneAndBounded.
-/
import Derived.Test.YoedhwCount
namespace Go.Proofs.Yoedhw
open Go.RowKit

set_option maxHeartbeats 1000000 in
set_option maxRecDepth 100000 in
theorem mono_le (a0 a1 : Option Addr) (c0 c1 : Nat) (xs gs : List Int) (x y : Int) (hxy : x ≤ y) (w : World) (hx : Arr w a0 xs) (hy : Arr w a1 gs) (hn0 : a0 = none → xs = [] ∧ c0 = 0) (hn1 : a1 = none → gs = [] ∧ c1 = 0) (h0 : fitB xs = true) (h1 : fitB gs = true) :
    Calls Edhg.prog 8 #[.slice a0 xs.length c0, .slice a1 gs.length c1, .int .i64 x, .int .i64 y] w fun e w' => e = .returned (.bool true) ∧ Below w.heap.size w w' := by
  have l0 := fit_length h0
  have l1 := fit_length h1
  have HB : Hid (Calls Edhg.prog 28 #[.slice a0 xs.length c0, .slice a1 gs.length c1, .int .i64 x, .int .i64 y] w fun e w' => e = .returned (.bool true) ∧ w' = w) := bytes28_yes a0 xs.length c0 a1 gs.length c1 x y w (by omega)
  have hf0 := fits_any a0 c0 xs w hx (by unfold maxLen; omega)
  have hf1 := fits_any a1 c1 gs w hy (by unfold maxLen; omega)
  rw [h0] at hf0
  rw [h1] at hf1
  have H0 : Hid (Calls Edhg.prog 12 #[.slice a0 xs.length c0] w fun e w' => e = .returned (.bool true) ∧ w' = w) := hf0
  have H1 : Hid (Calls Edhg.prog 12 #[.slice a1 gs.length c1] w fun e w' => e = .returned (.bool true) ∧ w' = w) := hf1
  have HX : Hid (Arr w a0 xs ∧ Arr w a1 gs ∧ (a0 = none → xs = [] ∧ c0 = 0) ∧ (a1 = none → gs = [] ∧ c1 = 0) ∧ fitB xs = true ∧ fitB gs = true) := ⟨hx, hy, hn0, hn1, h0, h1⟩
  clear hf0 hf1 hx hy hn0 hn1 h0 h1
  go_enter Edhg.func8, Edhg.ntmps8
  go_wp2_with fail
  refine HB.out.mono ?_
  rintro e w' ⟨rfl, hw⟩; subst w'
  go_wp2_with fail
  refine H0.out.mono ?_
  rintro e w' ⟨rfl, hw⟩; subst w'
  go_wp2_with fail
  refine H1.out.mono ?_
  rintro e w' ⟨rfl, hw⟩; subst w'
  clear HB H0 H1
  go_wp2_with fail
  refine (clone_any a0 c0 xs _ HX.out.1 HX.out.2.2.1 l0).mono ?_
  rintro e w1 ⟨a0', rfl, hc0, hb1⟩
  have HC0 : Hid (Cln w1 w.heap.size a0' xs ∧ Below w.heap.size w w1) := ⟨hc0, hb1⟩
  clear hc0 hb1
  go_wp2_with fail
  refine (clone_any a1 c1 gs _ (HX.out.2.1.below HC0.out.2) HX.out.2.2.2.1 l1).mono ?_
  rintro e w2 ⟨a1', rfl, hc1, hb2⟩
  have hbel : Below w.heap.size w w2 := HC0.out.2.trans (hb2.mono HC0.out.2.size)
  have HC : Hid (Cln w2 w.heap.size a0' xs ∧ Cln w2 w.heap.size a1' gs ∧ Below w.heap.size w w2 ∧ fitB xs = true ∧ fitB gs = true) := ⟨HC0.out.1.below hb2, hc1.base HC0.out.2.size, hbel, HX.out.2.2.2.2⟩
  clear hc1 hb2 hbel HC0 HX
  go_wp2_with fail
  refine (gapped_any a0' a1' xs gs w.heap.size w2 HC.out.1 HC.out.2.1 HC.out.2.2.2.1 HC.out.2.2.2.2).mono ?_
  rintro e w3 ⟨rfl, hG⟩
  have hb3 : Below w.heap.size w w2 := HC.out.2.2.1
  obtain ⟨fv, fs, base, last, hm, hl, ⟨cb, hcb, hcs, hcat⟩, hlay, hsz, hbb, hbel, hN⟩ := hG
  have hfv : w3.cell? ⟨w2.heap.size, 1, none⟩ = some fv := hm.set.set.cell rfl
  have hz := zzfiles_any hm.set x (cnt fs x) (hlay.parts x) (by omega)
  have hz2 : ∀ w4, Below w3.heap.size w3 w4 → Calls Edhg.prog 27 #[fv, .int .i64 y] w4 fun e w' => e = .returned (.int .i64 ((cnt fs y : Int) - 1)) ∧ Below w4.heap.size w4 w' := fun w4 hb => zzfiles_any (hm.set.below hb) y (cnt fs y) (hlay.parts y) (by omega)
  have hbw : Below w.heap.size w w3 := hb3.trans (hbel.mono hb3.size)
  have hcl := cnt_le fs y
  have hcm := cnt_mono fs (x := x) (y := y) (by omega)
  rw [hl] at hcl
  have HZ : Hid _ := hz
  have HZ2 : Hid _ := hz2
  have HW : Hid (Below w.heap.size w w3) := hbw
  have h3 := hm.set.set.lt
  clear hz hz2 hbw hcb hcs hcat hlay hsz hbb hbel hb3 hm hl HC
  go_wp2_with fail
  refine Calls.mono HZ.out ?_
  rintro e w4 ⟨rfl, hb4⟩
  have hfv4 := (Fr.of_below hb4 (fun _ => False)).cell hfv (fun h => h)
  have HB4 : Hid (Below w3.heap.size w3 w4) := hb4
  clear HZ hb4
  go_wp2_with fail
  refine Calls.mono (HZ2.out w4 HB4.out) ?_
  rintro e w5 ⟨rfl, hb5⟩
  have HE : Hid (Below w.heap.size w w5) := HW.out.trans ((HB4.out.trans (hb5.mono HB4.out.size)).mono HW.out.size)
  clear HZ2 HB4 HW hb5 hfv hfv4 h3
  generalize cnt fs x = cx at *
  generalize cnt fs y = cy at *
  go_wp2
  go_ret
  exact ⟨ret_bool (by simp), HE.out⟩

set_option maxHeartbeats 1000000 in
set_option maxRecDepth 100000 in
theorem mono_gt (a0 a1 : Option Addr) (c0 c1 : Nat) (xs gs : List Int) (x y : Int) (hxy : y < x) (w : World) (hx : Arr w a0 xs) (hy : Arr w a1 gs) (hn0 : a0 = none → xs = [] ∧ c0 = 0) (hn1 : a1 = none → gs = [] ∧ c1 = 0) (h0 : fitB xs = true) (h1 : fitB gs = true) :
    Calls Edhg.prog 8 #[.slice a0 xs.length c0, .slice a1 gs.length c1, .int .i64 x, .int .i64 y] w fun e w' => e = .returned (.bool true) ∧ Below w.heap.size w w' := by
  have l0 := fit_length h0
  have l1 := fit_length h1
  have HB : Hid (Calls Edhg.prog 28 #[.slice a0 xs.length c0, .slice a1 gs.length c1, .int .i64 x, .int .i64 y] w fun e w' => e = .returned (.bool true) ∧ w' = w) := bytes28_yes a0 xs.length c0 a1 gs.length c1 x y w (by omega)
  have hf0 := fits_any a0 c0 xs w hx (by unfold maxLen; omega)
  have hf1 := fits_any a1 c1 gs w hy (by unfold maxLen; omega)
  rw [h0] at hf0
  rw [h1] at hf1
  have H0 : Hid (Calls Edhg.prog 12 #[.slice a0 xs.length c0] w fun e w' => e = .returned (.bool true) ∧ w' = w) := hf0
  have H1 : Hid (Calls Edhg.prog 12 #[.slice a1 gs.length c1] w fun e w' => e = .returned (.bool true) ∧ w' = w) := hf1
  have HX : Hid (Arr w a0 xs ∧ Arr w a1 gs ∧ (a0 = none → xs = [] ∧ c0 = 0) ∧ (a1 = none → gs = [] ∧ c1 = 0) ∧ fitB xs = true ∧ fitB gs = true) := ⟨hx, hy, hn0, hn1, h0, h1⟩
  clear hf0 hf1 hx hy hn0 hn1 h0 h1
  go_enter Edhg.func8, Edhg.ntmps8
  go_wp2_with fail
  refine HB.out.mono ?_
  rintro e w' ⟨rfl, hw⟩; subst w'
  go_wp2_with fail
  refine H0.out.mono ?_
  rintro e w' ⟨rfl, hw⟩; subst w'
  go_wp2_with fail
  refine H1.out.mono ?_
  rintro e w' ⟨rfl, hw⟩; subst w'
  clear HB H0 H1
  go_wp2_with fail
  refine (clone_any a0 c0 xs _ HX.out.1 HX.out.2.2.1 l0).mono ?_
  rintro e w1 ⟨a0', rfl, hc0, hb1⟩
  have HC0 : Hid (Cln w1 w.heap.size a0' xs ∧ Below w.heap.size w w1) := ⟨hc0, hb1⟩
  clear hc0 hb1
  go_wp2_with fail
  refine (clone_any a1 c1 gs _ (HX.out.2.1.below HC0.out.2) HX.out.2.2.2.1 l1).mono ?_
  rintro e w2 ⟨a1', rfl, hc1, hb2⟩
  have hbel : Below w.heap.size w w2 := HC0.out.2.trans (hb2.mono HC0.out.2.size)
  have HC : Hid (Cln w2 w.heap.size a0' xs ∧ Cln w2 w.heap.size a1' gs ∧ Below w.heap.size w w2 ∧ fitB xs = true ∧ fitB gs = true) := ⟨HC0.out.1.below hb2, hc1.base HC0.out.2.size, hbel, HX.out.2.2.2.2⟩
  clear hc1 hb2 hbel HC0 HX
  go_wp2_with fail
  refine (gapped_any a0' a1' xs gs w.heap.size w2 HC.out.1 HC.out.2.1 HC.out.2.2.2.1 HC.out.2.2.2.2).mono ?_
  rintro e w3 ⟨rfl, hG⟩
  have hb3 : Below w.heap.size w w2 := HC.out.2.2.1
  obtain ⟨fv, fs, base, last, hm, hl, ⟨cb, hcb, hcs, hcat⟩, hlay, hsz, hbb, hbel, hN⟩ := hG
  have hfv : w3.cell? ⟨w2.heap.size, 1, none⟩ = some fv := hm.set.set.cell rfl
  have hz := zzfiles_any hm.set y (cnt fs y) (hlay.parts y) (by omega)
  have hz2 : ∀ w4, Below w3.heap.size w3 w4 → Calls Edhg.prog 27 #[fv, .int .i64 x] w4 fun e w' => e = .returned (.int .i64 ((cnt fs x : Int) - 1)) ∧ Below w4.heap.size w4 w' := fun w4 hb => zzfiles_any (hm.set.below hb) x (cnt fs x) (hlay.parts x) (by omega)
  have hbw : Below w.heap.size w w3 := hb3.trans (hbel.mono hb3.size)
  have hcl := cnt_le fs x
  have hcm := cnt_mono fs (x := y) (y := x) (by omega)
  rw [hl] at hcl
  have HZ : Hid _ := hz
  have HZ2 : Hid _ := hz2
  have HW : Hid (Below w.heap.size w w3) := hbw
  have h3 := hm.set.set.lt
  clear hz hz2 hbw hcb hcs hcat hlay hsz hbb hbel hb3 hm hl HC
  go_wp2_with fail
  refine Calls.mono HZ.out ?_
  rintro e w4 ⟨rfl, hb4⟩
  have hfv4 := (Fr.of_below hb4 (fun _ => False)).cell hfv (fun h => h)
  have HB4 : Hid (Below w3.heap.size w3 w4) := hb4
  clear HZ hb4
  go_wp2_with fail
  refine Calls.mono (HZ2.out w4 HB4.out) ?_
  rintro e w5 ⟨rfl, hb5⟩
  have HE : Hid (Below w.heap.size w w5) := HW.out.trans ((HB4.out.trans (hb5.mono HB4.out.size)).mono HW.out.size)
  clear HZ2 HB4 HW hb5 hfv hfv4 h3
  generalize cnt fs y = cx at *
  generalize cnt fs x = cy at *
  go_wp2
  go_ret
  exact ⟨ret_bool (by simp), HE.out⟩

end Go.Proofs.Yoedhw
