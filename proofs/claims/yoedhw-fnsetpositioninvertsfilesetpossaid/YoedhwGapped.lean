/-
  zzBuildGapped.
-/
import Derived.Test.YoedhwGap
import Derived.Test.YoedhwSearch
import Derived.Deep.DeepCutAuto
namespace Go.Proofs.Yoedhw
open Go.RowKit

theorem below_draws (w : World) (q : Nat) : Below w.heap.size w (w.drewN q) := ⟨rfl, rfl, rfl, Nat.le_refl _, fun _ _ => rfl⟩

set_option maxHeartbeats 1000000 in
set_option maxRecDepth 100000 in
/-- zzBuildGapped. -/
theorem gapped_any (a a' : Option Addr) (xs gs : List Int) (B : Nat) (w : World) (hx : Cln w B a xs) (hg : Cln w B a' gs) (fx : fitB xs = true) (fg : fitB gs = true) :
    Calls Edhg.prog 23 #[.slice a xs.length xs.length, .slice a' gs.length gs.length] w fun e w' =>
      e = .returned (.tuple #[.pointer (some ⟨w.heap.size, 0, none⟩), .slice (some ⟨w.heap.size + 1, 0, none⟩) xs.length xs.length, .slice (some ⟨w.heap.size + 1 + 1, 0, none⟩) xs.length xs.length]) ∧ Gap w w' xs xs.length := by
  have l0 := fit_length fx
  have l1 := fit_length fg
  have hmk0 := Edhg.make27 xs.length (by omega)
  have hmk1 := make22 xs.length (by omega)
  have HX : Hid (Cln w B a xs ∧ Cln w B a' gs ∧ fitB xs = true ∧ fitB gs = true) := ⟨hx, hg, fx, fg⟩
  clear hx hg fx fg
  go_enter Edhg.func23, Edhg.ntmps23
  go_wp2_with (go_at_call 30; refine (new_any _).mono ?_; rintro e w' ⟨rfl, hw⟩; subst w')
  have T := Gap.start w xs
  go_loopw [10, 11] (fun i _ wr => ∃ k : Nat, k ≤ xs.length ∧ i = .int .i64 k ∧ Hid (Gap w wr xs k)) (fun i _ _ => xs.length - (intOf i).toNat)
  case atStart => exact ⟨0, Nat.zero_le _, rfl, T⟩
  case round =>
    obtain ⟨k, hk, rfl, H⟩ := hrel
    clear T hmk0 hmk1
    by_cases hlt : k < xs.length
    · obtain ⟨fv, fs, base, last, hset, hlen, hb0, hb1, hbel, hN, hbase, hstep⟩ := H.out.use HX.out.2.2.1 hlt
      have hgp := fit_at HX.out.2.2.2 k
      have hxp := fit_at HX.out.2.2.1 k
      obtain ⟨g, ha, _, hblk, hcell0⟩ := HX.out.1.at hlt
      have hcw : ∀ W, Below w.heap.size w W → W.cell? ⟨g, k, none⟩ = some (.int .i64 (xs.getD k 0)) := fun W hW => (hW.cell (p := ⟨g, k, none⟩) hblk.lt).trans hcell0
      have hcell := hcw wr hbel
      have hgap := fun q => gap_any a' gs B k (wr.drewN q) ((HX.out.2.1.below hbel).below (below_draws wr q)) l1 (by omega)
      generalize gs.getD k 0 = gp at *
      generalize xs.getD k 0 = x at *
      subst ha
      have HS : Hid _ := hstep
      have HL : Hid (SetIs wr (w.heap.size + 3) w.heap.size fv fs base last ∧ fs.length = k ∧ Below w.heap.size w wr) := ⟨hset, hlen, hbel⟩
      have HC : Hid _ := hcw
      have HG : Hid _ := hgap
      clear hstep hset hlen hbel hblk hgap H hcw hcell0
      go_wp2_with fail
      go_quiet ((go_at_call 39; exact Calls.quiet_of_same (HG.out _)))
      go_wp2_with fail
      go_region_held3 (fun w' => w'.cell? ⟨g, k, none⟩ = some (.int .i64 x)) (first | assumption | exact hc4 _ | go_keep)
        (first
          | (go_at_call 19; refine (name_any k (by omega) _).mono ?_; rintro e wn ⟨rfl, hbn⟩; have hbn' : Below wr.heap.size wr wn := ((below_draws wr nq).drew).trans hbn; have hcn : wn.cell? ⟨g, k, none⟩ = some (.int .i64 x) := (Fr.of_below hbn' (fun _ => False)).cell hcell (fun h => h))
          | (go_at_call 31; refine (addFile_at (HL.out.1.below hbn') ?_ ?_ ?_ hxp.1 hxp.2 ?_ ?_).mono ?_; omega; omega; omega; (have := HL.out.2.1; omega); (have := hbn'.size; omega); rintro e w3 ⟨rfl, fv', hs', hsz', fr'⟩; obtain ⟨hb3, hb4, ⟨vold, hv3⟩, hf3, ⟨vold4, hv4⟩, hf4, hT⟩ := HS.out w3 fv' _ (newRec wn.heap.size (nameOf k) (base + gp) x) (by show base ≤ base + gp; omega) (by show base + gp ≤ base + 65536; omega) rfl hs' ((Fr.of_below hbn' _).trans fr' (fun _ h => h) (fun _ _ h => h)); have hc3 := HC.out w3 hb3; have hc4 := fun p => HC.out _ (hb4 p)))
      simp only [FRec.ptr, newRec] at hv4 hf4 hT
      have HT : Hid _ := hT
      clear hT hs' fr' HS HL HC HG hb3 hb4 hc3 hc4
      go_wp2
      go_roundw
      case rel => exact ⟨k + 1, by omega, by go_num, HT.out⟩
      case measure => simp [intOf]; omega
    · go_wp2
      have e : k = xs.length := by omega
      subst e
      go_ret3
      exact ⟨rfl, H.out⟩
end Go.Proofs.Yoedhw
