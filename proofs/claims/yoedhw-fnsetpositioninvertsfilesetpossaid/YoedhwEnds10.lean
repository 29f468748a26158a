/-
  FnSetFindsFileAtItsEnds: the walk where all fits.
-/
import Derived.Test.YoedhwAsk
namespace Go.Proofs.Yoedhw
open Go.RowKit

set_option maxHeartbeats 400000 in
/-- FileSetPos. -/
theorem fsp_any (fb : Nat) (base size off r : Int) (w : World) (h2 : w.cell? ⟨fb, 2, none⟩ = some (.int .i64 base)) (h3 : w.cell? ⟨fb, 3, none⟩ = some (.int .i64 size)) (h0 : 0 ≤ off) (h1 : off ≤ size) (hb : 0 ≤ base) (hm : base + size ≤ 8589934592) (hr : base + off = r) :
    Calls Edhg.prog 18 #[.pointer (some ⟨fb, 0, none⟩), .int .i64 off] w fun e w' => e = .returned (.int .i64 r) ∧ w' = w := by
  subst hr
  go_enter Edhg.func18, Edhg.ntmps18
  go_wp2
  go_ret
  exact ⟨rfl, rfl⟩

set_option maxHeartbeats 2000000 in
set_option maxRecDepth 100000 in
theorem ends_good (a0 a1 : Option Addr) (c0 c1 : Nat) (xs gs : List Int) (w : World) (hx : Arr w a0 xs) (hy : Arr w a1 gs) (hn0 : a0 = none → xs = [] ∧ c0 = 0) (hn1 : a1 = none → gs = [] ∧ c1 = 0) (h0 : fitB xs = true) (h1 : fitB gs = true) :
    Calls Edhg.prog 10 #[.slice a0 xs.length c0, .slice a1 gs.length c1] w fun e w' => e = .returned (.bool true) ∧ Below w.heap.size w w' := by
  have l0 := fit_length h0
  have l1 := fit_length h1
  have HB : Hid (Calls Edhg.prog 33 #[.slice a0 xs.length c0, .slice a1 gs.length c1] w fun e w' => e = .returned (.bool true) ∧ w' = w) := bytes33_yes a0 xs.length c0 a1 gs.length c1 w (by omega)
  have hf0 := fits_any a0 c0 xs w hx (by unfold maxLen; omega)
  have hf1 := fits_any a1 c1 gs w hy (by unfold maxLen; omega)
  rw [h0] at hf0
  rw [h1] at hf1
  have H0 : Hid (Calls Edhg.prog 12 #[.slice a0 xs.length c0] w fun e w' => e = .returned (.bool true) ∧ w' = w) := hf0
  have H1 : Hid (Calls Edhg.prog 12 #[.slice a1 gs.length c1] w fun e w' => e = .returned (.bool true) ∧ w' = w) := hf1
  have HX : Hid (Arr w a0 xs ∧ Arr w a1 gs ∧ (a0 = none → xs = [] ∧ c0 = 0) ∧ (a1 = none → gs = [] ∧ c1 = 0) ∧ fitB xs = true ∧ fitB gs = true) := ⟨hx, hy, hn0, hn1, h0, h1⟩
  clear hf0 hf1 hx hy hn0 hn1 h0 h1
  go_enter Edhg.func10, Edhg.ntmps10
  go_wp2_with fail
  refine HB.out.mono ?_
  rintro e w' ⟨rfl, hw⟩; subst w'
  go_wp2_with fail
  refine H0.out.mono ?_
  rintro e w' ⟨rfl, hw⟩; subst w'
  go_wp2_with fail
  refine H1.out.mono ?_
  rintro e w' ⟨rfl, hw⟩; subst w'
  clear HB H0 H1
  go_wp2_with fail
  refine (clone_any a0 c0 xs _ HX.out.1 HX.out.2.2.1 l0).mono ?_
  rintro e w1 ⟨a0', rfl, hc0, hb1⟩
  have HC0 : Hid (Cln w1 w.heap.size a0' xs ∧ Below w.heap.size w w1) := ⟨hc0, hb1⟩
  clear hc0 hb1
  go_wp2_with fail
  refine (clone_any a1 c1 gs _ (HX.out.2.1.below HC0.out.2) HX.out.2.2.2.1 l1).mono ?_
  rintro e w2 ⟨a1', rfl, hc1, hb2⟩
  have hbel : Below w.heap.size w w2 := HC0.out.2.trans (hb2.mono HC0.out.2.size)
  have HC : Hid (Cln w2 w.heap.size a0' xs ∧ Cln w2 w.heap.size a1' gs ∧ Below w.heap.size w w2 ∧ fitB xs = true ∧ fitB gs = true) := ⟨HC0.out.1.below hb2, hc1.base HC0.out.2.size, hbel, HX.out.2.2.2.2⟩
  clear hc1 hb2 hbel HC0 HX
  go_wp2_with fail
  refine (gapped_any a0' a1' xs gs w.heap.size w2 HC.out.1 HC.out.2.1 HC.out.2.2.2.1 HC.out.2.2.2.2).mono ?_
  rintro e w3 ⟨rfl, hG⟩
  obtain ⟨fv, fs, base, hlen, hlay, hbb, hask, hbel, hsz, hall⟩ := hG.open l0
  have hbw := HC.out.2.2.1
  have HL : Hid (Lay fs base ∧ fs.length = xs.length) := ⟨hlay, hlen⟩
  have HA : Hid _ := hall
  have HK : Hid (Below w.heap.size w w2) := hbw
  have T : Hid (Asked w3 w2.heap.size fv fs base w3) := hask
  clear hG hlay hlen hsz hall hbw hask hbel HC
  go_wp2
  go_loopw [8, 9, 10] (fun s _ _ wr => ∃ k : Nat, k ≤ xs.length ∧ s = .int .i64 k ∧ Hid (Asked w3 w2.heap.size fv fs base wr)) (fun s _ _ _ => xs.length - (intOf s).toNat)
  case atStart => exact ⟨0, Nat.zero_le _, rfl, T⟩
  case round =>
    obtain ⟨k, hk, rfl, H⟩ := hrel
    clear T
    by_cases hlt : k < xs.length
    · have hkf : k < fs.length := by have := HL.out.2; omega
      have hA := HA.out wr H.out
      have hc := hA.2.1 k hkf
      have hmem := List.getElem_mem hkf
      have hbd := HL.out.1.each _ hmem
      have hfb := hA.2.2.2 _ hmem
      have HM : Hid (fs[k] ∈ fs ∧ owner fs fs[k].base = some fs[k] ∧ owner fs (fs[k].base + fs[k].size) = some fs[k]) := ⟨hmem, owner_of HL.out.1 hmem ((FRec.has_iff _ _).2 ⟨by omega, by omega⟩), owner_of HL.out.1 hmem ((FRec.has_iff _ _).2 ⟨by omega, by omega⟩)⟩
      clear hA hmem
      generalize fs[k] = f at *
      have k0 : wr.cell? ⟨f.blk, 0, none⟩ = some (.pointer (some ⟨w2.heap.size, 0, none⟩)) := hfb.cell rfl
      have k2 : wr.cell? ⟨f.blk, 2, none⟩ = some (.int .i64 f.base) := hfb.cell rfl
      have k3 : wr.cell? ⟨f.blk, 3, none⟩ = some (.int .i64 f.size) := hfb.cell rfl
      clear hfb
      obtain ⟨last, hset, hfr⟩ := H.out
      have hz := File_any hset HL.out.1 hbb (by have := HL.out.2; omega) f.base (by omega)
      rw [HM.out.2.1] at hz
      unfold ptrOf FRec.ptr at hz
      unfold FRec.ptr at hc
      have HZ : Hid _ := hz
      clear hz hset hfr
      have hle : f.base + f.size ≤ 8589934592 := by omega
      go_wp2_with (go_at_call 32; refine (set_any _ _ _ k0).mono ?_; rintro e w' ⟨rfl, hw⟩; subst w')
      refine (fsp_any f.blk f.base f.size 0 f.base _ k2 k3 (by omega) (by omega) (by omega) (by omega) (by omega)).mono ?_
      rintro e w' ⟨rfl, hw⟩; subst w'
      go_wp2_with fail
      refine Calls.mono HZ.out ?_
      rintro e w4 ⟨rfl, hx4⟩
      have H4 : Hid (Asked w3 w2.heap.size fv fs base w4) := H.out.next hx4
      have hfb4 := (HA.out w4 H4.out).2.2.2 f HM.out.1
      have e4 := run_ptr_neq Edhg.underlying36 Edhg.size45 hfb4 hfb4
      rw [decide_eq_true rfl] at e4
      have j2 : w4.cell? ⟨f.blk, 2, none⟩ = some (.int .i64 f.base) := hfb4.cell rfl
      have j3 : w4.cell? ⟨f.blk, 3, none⟩ = some (.int .i64 f.size) := hfb4.cell rfl
      obtain ⟨last4, hset4, hfr4⟩ := H4.out
      have hz4 := File_any hset4 HL.out.1 hbb (by have := HL.out.2; omega) (f.base + f.size) (by omega)
      rw [HM.out.2.2] at hz4
      unfold ptrOf FRec.ptr at hz4
      have HZ4 : Hid _ := hz4
      clear hz4 hset4 hfr4 hfb4 HZ hx4 H k0 k2 k3 hc
      go_wp2_with fail
      refine (fsp_any f.blk f.base f.size f.size (f.base + f.size) _ j2 j3 (by omega) (by omega) (by omega) (by omega) (by omega)).mono ?_
      rintro e w' ⟨rfl, hw⟩; subst w'
      go_wp2_with fail
      refine Calls.mono HZ4.out ?_
      rintro e w5 ⟨rfl, hx5⟩
      have H5 : Hid (Asked w3 w2.heap.size fv fs base w5) := H4.out.next hx5
      have hfb5 := (HA.out w5 H5.out).2.2.2 f HM.out.1
      have e5 := run_ptr_neq Edhg.underlying36 Edhg.size45 hfb5 hfb5
      rw [decide_eq_true rfl] at e5
      clear hfb5 HZ4 hx5 H4 j2 j3 e4
      go_wp2
      go_roundw
      case rel => exact ⟨k + 1, by omega, by go_num, H5.out⟩
      case measure => simp [intOf]; omega
    · go_wp2
      go_ret
      exact ⟨rfl, HK.out.trans ((HA.out wr H.out).1.mono HK.out.size)⟩
end Go.Proofs.Yoedhw
