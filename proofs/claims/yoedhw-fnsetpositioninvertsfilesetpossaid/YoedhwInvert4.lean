/-
  FnSetPositionInvertsFileSetPos: the walk.
-/
import Derived.Test.YoedhwBoth
import Derived.Test.YoedhwHeads
import Derived.Test.YoedhwEnds10
namespace Go.Proofs.Yoedhw
open Go.RowKit
set_option linter.unusedVariables false

/-- LineCount. -/
theorem count_any (fb n cap : Nat) (ao : Option Addr) (w : World) (h : w.cell? ⟨fb, 4, none⟩ = some (.slice ao n cap)) :
    Calls Edhg.prog 20 #[.pointer (some ⟨fb, 0, none⟩)] w fun e w' => e = .returned (.int .i64 n) ∧ w' = w := by
  go_enter Edhg.func20, Edhg.ntmps20
  go_wp2
  go_ret
  exact ⟨rfl, rfl⟩

set_option maxHeartbeats 400000 in
/-- LineStart, at a line that is there. -/
theorem start_any (fb n cap g i : Nat) (base l line r : Int) (w : World) (h2 : w.cell? ⟨fb, 2, none⟩ = some (.int .i64 base)) (h4 : w.cell? ⟨fb, 4, none⟩ = some (.slice (some ⟨g, 0, none⟩) n cap)) (hc : w.cell? ⟨g, i, none⟩ = some (.int .i64 l)) (hi : i < n) (hn : n ≤ 1048576)
    (hl : line = (i : Int) + 1) (hb0 : 0 ≤ base) (hb1 : base ≤ 4294967296) (hl0 : 0 ≤ l) (hl1 : l ≤ 4294967296) (hr : base + l = r) :
    Calls Edhg.prog 21 #[.pointer (some ⟨fb, 0, none⟩), .int .i64 line] w fun e w' => e = .returned (.int .i64 r) ∧ ∃ q, w' = w.drewN q := by
  subst hl
  subst hr
  have hii : (i : Int) < (n : Int) := by omega
  go_enter Edhg.func21, Edhg.ntmps21
  go_wp2_with fail
  go_quiet (fail)
  go_wp2
  go_ret
  exact ⟨rfl, _, rfl⟩

set_option maxHeartbeats 400000 in
/-- The step out of range. -/
theorem step4 (a0 : Option Addr) (c0 : Nat) (z0 : List Int) (x1 : Int) (w : World) (k0 : Arr w a0 z0) (hf : fitB z0 = true) (hb : x1 < 1 ∨ 65536 < x1) :
    Calls Edhg.prog 4 #[.slice a0 z0.length c0, .int .i64 x1] w fun e w' => e = .returned (.bool true) ∧ Below w.heap.size w w' := by
  have h0 := fit_length hf
  have HB : Hid (Calls Edhg.prog 17 #[.slice a0 z0.length c0, .int .i64 x1] w fun e w' => e = .returned (.bool true) ∧ w' = w) := bytes17_yes a0 z0.length c0 x1 w (by omega)
  have g0 := fits_any a0 c0 z0 w k0 (by unfold maxLen; omega)
  rw [hf] at g0
  have H0 : Hid (Calls Edhg.prog 12 #[.slice a0 z0.length c0] w fun e w' => e = .returned (.bool true) ∧ w' = w) := g0
  clear g0 hf k0
  rcases hb with hb | hb
  · go_enter Edhg.func4, Edhg.ntmps4
    go_wp2_with fail
    refine Calls.mono HB.out ?_
    rintro e w' ⟨rfl, rfl⟩
    go_wp2_with fail
    refine Calls.mono H0.out ?_
    rintro e w' ⟨rfl, rfl⟩
    go_wp2
    go_ret
    exact ⟨rfl, Below.refl _ _⟩
  · go_enter Edhg.func4, Edhg.ntmps4
    go_wp2_with fail
    refine Calls.mono HB.out ?_
    rintro e w' ⟨rfl, rfl⟩
    go_wp2_with fail
    refine Calls.mono H0.out ?_
    rintro e w' ⟨rfl, rfl⟩
    go_wp2
    go_ret
    exact ⟨rfl, Below.refl _ _⟩
/-- What a file leads to. -/
theorem file_cells {W : World} {B N : Nat} {fv last : Value} {fs : List FRec} {base : Int} (h : SetIs W B N fv fs base last) {f : FRec} (hf : f ∈ fs) {g cap : Nat} (hv : f.lv = .slice (some ⟨g, 0, none⟩) f.lines.length cap) (h1 : 1 ≤ f.lines.length) :
    W.cell? ⟨f.blk, 2, none⟩ = some (.int .i64 f.base) ∧ W.cell? ⟨f.blk, 3, none⟩ = some (.int .i64 f.size) ∧ W.cell? ⟨f.blk, 4, none⟩ = some (.slice (some ⟨g, 0, none⟩) f.lines.length cap) ∧ ∀ i, i < f.lines.length → W.cell? ⟨g, i, none⟩ = some (.int .i64 (f.lines.getD i 0)) := by
  have hb := h.file f hf
  obtain ⟨g', cap', e, hc⟩ := lines_at (h.line f hf) h1
  rw [hv] at e
  simp only [Value.slice.injEq, Option.some.injEq, Addr.mk.injEq] at e
  obtain ⟨⟨rfl, _⟩, _, rfl⟩ := e
  refine ⟨hb.cell rfl, hb.cell rfl, ?_, hc⟩
  rw [← hv]
  exact hb.cell rfl

/-- The line of an offset in a file. -/
theorem inv_facts {step size off : Int} {ls : List Int} (h : LinesOk step size ls) (h0 : 0 ≤ off) (h1 : off ≤ size) (hs : 1 ≤ step) :
    ∃ idx : Nat, Bnd ls off (idx + 1) ∧ 0 ≤ ls.getD idx 0 ∧ ls.getD idx 0 ≤ off ∧ idx < ls.length ∧ (idx + 1 < ls.length → off < ls.getD (idx + 1) 0) := by
  obtain ⟨idx, b1, b2, _⟩ := idx_ok h h0 h1 hs
  have hge := mul_ge idx step hs
  exact ⟨idx, b1, by rw [b2]; omega, b1.2.1 idx (by omega), by have := b1.1; omega, fun hlt => b1.2.2 (idx + 1) (by omega) hlt⟩

theorem line_bound {step size : Int} {ls : List Int} (h : LinesOk step size ls) (h0 : 0 ≤ size) (hs : 1 ≤ step) (i : Nat) : 0 ≤ ls.getD i 0 ∧ ls.getD i 0 ≤ size := by
  obtain ⟨j, rfl, hj, hsz, hall⟩ := h
  by_cases hi : i < j
  · rw [lin_getD step j i hi]
    have := mul_ge i step hs
    rcases Nat.eq_zero_or_pos i with rfl | hp
    · simp; exact h0
    · have := hall i hp hi; omega
  · have : (lin step j).getD i 0 = 0 := by simp only [List.getD]; rw [List.getElem?_eq_none (by rw [lin_length]; omega)]; rfl
    rw [this]; omega

set_option maxHeartbeats 4000000 in
set_option maxRecDepth 100000 in
theorem invert_good (a0 : Option Addr) (c0 : Nat) (xs : List Int) (step : Int) (w : World) (hx : Arr w a0 xs) (hn0 : a0 = none → xs = [] ∧ c0 = 0) (h0 : fitB xs = true) (hs1 : 1 ≤ step) (hs2 : step ≤ 65536) :
    Calls Edhg.prog 4 #[.slice a0 xs.length c0, .int .i64 step] w fun e w' => e = .returned (.bool true) ∧ Below w.heap.size w w' := by
  have l0 := fit_length h0
  have HB : Hid (Calls Edhg.prog 17 #[.slice a0 xs.length c0, .int .i64 step] w fun e w' => e = .returned (.bool true) ∧ w' = w) := bytes17_yes a0 xs.length c0 step w (by omega)
  have hf0 := fits_any a0 c0 xs w hx (by unfold maxLen; omega)
  rw [h0] at hf0
  have H0 : Hid (Calls Edhg.prog 12 #[.slice a0 xs.length c0] w fun e w' => e = .returned (.bool true) ∧ w' = w) := hf0
  have HX : Hid (Arr w a0 xs ∧ (a0 = none → xs = [] ∧ c0 = 0) ∧ fitB xs = true) := ⟨hx, hn0, h0⟩
  clear hf0 hx hn0 h0
  go_enter Edhg.func4, Edhg.ntmps4
  go_wp2_with fail
  refine HB.out.mono ?_
  rintro e w' ⟨rfl, hw⟩; subst w'
  go_wp2_with fail
  refine H0.out.mono ?_
  rintro e w' ⟨rfl, hw⟩; subst w'
  clear HB H0
  go_wp2_with fail
  refine (clone_any a0 c0 xs _ HX.out.1 HX.out.2.1 l0).mono ?_
  rintro e w2 ⟨a0', rfl, hc0, hb1⟩
  have HC : Hid (Cln w2 w.heap.size a0' xs ∧ Below w.heap.size w w2 ∧ fitB xs = true) := ⟨hc0, hb1, HX.out.2.2⟩
  clear hc0 hb1 HX
  go_wp2_with fail
  refine (stepped_any a0' xs step w.heap.size w2 HC.out.1 HC.out.2.2 hs1 hs2).mono ?_
  rintro e w3 ⟨rfl, hG⟩
  obtain ⟨fv, fs, base, hlen, hlay, hbb, hfiles, hask, hall⟩ := hG.open HC.out.2.2
  have HL : Hid (Lay fs base ∧ fs.length = xs.length ∧ Files xs step fs ∧ base ≤ 4294967296) := ⟨hlay, hlen, hfiles, hbb⟩
  have hbase : base ≤ 4294967296 := hbb
  have HA : Hid _ := hall
  have T : Hid (Ask2 w3 (w2.heap.size + 2) w2.heap.size fv fs base w3) := hask
  clear hG hlay hlen hfiles hall hask hbb
  go_wp2
  go_loopw [7, 8, 9, 10, 11] (fun s7 _ _ _ _ wr => ∃ k : Nat, k ≤ xs.length ∧ s7 = .int .i64 ((k : Int) - 1) ∧ Hid (Ask2 w3 (w2.heap.size + 2) w2.heap.size fv fs base wr)) (fun s7 _ _ _ _ _ => (intOf s7 + 1).toNat)
  case atStart => exact ⟨xs.length, Nat.le_refl _, rfl, T⟩
  case round =>
    obtain ⟨k, hk, rfl, H⟩ := hrel
    clear T
    cases k with
    | zero =>
      go_wp2
      go_ret
      exact ⟨rfl, HC.out.2.1.trans ((HA.out wr H.out).1.mono HC.out.2.1.size)⟩
    | succ m =>
      rw [show ((m + 1 : Nat) : Int) - 1 = (m : Int) by omega]
      have hmf : m < fs.length := by have := HL.out.2.1; omega
      have hmx : m < xs.length := by omega
      have hmem := List.getElem_mem hmf
      obtain ⟨e1, e2, e3, e4⟩ := HL.out.2.2.1 m fs[m] (List.getElem?_eq_getElem hmf)
      have hc := (HA.out wr H.out).2 m hmf
      have hbd := HL.out.1.each _ hmem
      have hxm := fit_at HC.out.2.2 m
      have hll := lines_len e4 hs1 (by omega)
      obtain ⟨g, ha, _, hblk, hcx⟩ := HC.out.1.at hmx
      have hcw : ∀ W, Below w2.heap.size w2 W → W.cell? ⟨g, m, none⟩ = some (.int .i64 (xs.getD m 0)) := fun W hW => (hW.cell (p := ⟨g, m, none⟩) hblk.lt).trans hcx
      subst ha
      rw [← e2] at hcw hxm
      obtain ⟨last0, hs0, _⟩ := H.out
      obtain ⟨gl, cap, hlv, _⟩ := lines_at (hs0.line fs[m] hmem) hll.1
      have hfc : ∀ W, Ask2 w3 (w2.heap.size + 2) w2.heap.size fv fs base W → _ := fun W ⟨last, hs, _⟩ => file_cells hs hmem hlv hll.1
      have HF : Hid _ := hfc
      have HW : Hid _ := hcw
      have HM : Hid (fs[m] ∈ fs ∧ fs[m].name = nameOf m ∧ LinesOk step fs[m].size fs[m].lines) := ⟨hmem, e3, e4⟩
      clear hmem e1 e2 e3 e4 hs0 hcx hblk hfc hcw hlv
      unfold FRec.ptr at hc
      generalize fs[m] = f at *
      go_wp2
      go_loopw [9, 10, 11] (fun s9 _ _ wi => ∃ o : Nat, (o : Int) ≤ f.size + 1 ∧ s9 = .int .i64 o ∧ Hid (Ask2 w3 (w2.heap.size + 2) w2.heap.size fv fs base wi)) (fun s9 _ _ _ => (f.size + 1 - intOf s9).toNat)
      case atStart => exact ⟨0, by omega, rfl, H.out⟩
      case round =>
        obtain ⟨o, ho, rfl, H2⟩ := hrel
        clear H hc
        have hcx := HW.out wr (HA.out wr H2.out).1
        by_cases hle : (o : Int) ≤ f.size
        · obtain ⟨idx, b1, b2, b3, b4, b5⟩ := inv_facts HM.out.2.2 (by omega) hle hs1
          have hown := owner_of HL.out.1 HM.out.1 ((FRec.has_iff f (f.base + (o : Int))).2 ⟨by omega, by omega⟩)
          obtain ⟨k2, k3, k4, kl⟩ := HF.out wr H2.out
          have hz : Calls Edhg.prog 15 #[.pointer (some ⟨w2.heap.size, 0, none⟩), .int .i64 (f.base + (o : Int))] wr fun e w' => e = .returned (.agg #[.string (nameOf m), .int .i64 (o : Int), .int .i64 ((idx : Int) + 1), .int .i64 ((o : Int) - f.lines.getD idx 0 + 1)]) ∧ Ask2 w3 (w2.heap.size + 2) w2.heap.size fv fs base w' := by
            obtain ⟨last, hs, hfr⟩ := H2.out
            have eo : f.base + (o : Int) - f.base = (o : Int) := by omega
            refine (setpos_hit hs HL.out.1 HL.out.2.2.2 (by have := HL.out.2.1; omega) (f.base + (o : Int)) f idx hown (by rw [eo]; exact b1) b2 (by omega)).mono fun e w' ⟨he, hx⟩ => ⟨?_, Ask2.next ⟨last, hs, hfr⟩ hx⟩
            rw [he, eo, HM.out.2.1]; rfl
          have HZ : Hid _ := hz
          have hlb := line_bound HM.out.2.2 (by omega) hs1 (idx + 1)
          have hlx := b3
          generalize hlxe : f.lines.getD idx 0 = lx at *
          have HI : Hid (f.lines.getD idx 0 = lx ∧ (idx + 1 < f.lines.length → (o : Int) < f.lines.getD (idx + 1) 0) ∧ 0 ≤ f.lines.getD (idx + 1) 0 ∧ f.lines.getD (idx + 1) 0 ≤ f.size) := ⟨hlxe, b5, hlb.1, hlb.2⟩
          clear hz b1 hown kl b5 hlb hlxe
          have hpz : (f.base + (o : Int) == 0) = false := by rw [beq_eq_false_iff_ne]; omega
          go_wp2_with fail
          refine (fsp_any f.blk f.base f.size (o : Int) (f.base + (o : Int)) _ k2 k3 (by omega) (by omega) (by omega) (by omega) rfl).mono ?_
          rintro e w' ⟨rfl, hw⟩; subst w'
          go_wp2_with fail
          refine Calls.mono HZ.out ?_
          rintro e w4 ⟨rfl, h4⟩
          obtain ⟨j2, _, j4, jl⟩ := HF.out w4 h4
          have H4 : Hid (Ask2 w3 (w2.heap.size + 2) w2.heap.size fv fs base w4 ∧ w4.cell? ⟨f.blk, 2, none⟩ = some (.int .i64 f.base) ∧ w4.cell? ⟨f.blk, 4, none⟩ = some (.slice (some ⟨gl, 0, none⟩) f.lines.length cap) ∧ ∀ i, i < f.lines.length → w4.cell? ⟨gl, i, none⟩ = some (.int .i64 (f.lines.getD i 0))) := ⟨h4, j2, j4, jl⟩
          clear h4 j2 j4 jl k2 k3 k4 HZ hcx
          go_upto_region 24 with fail
          go_cut [77] (fun t wc => t = .bool false ∧ Hid (Below (w4.heap.size + 1) (w4.alloc (.cells #[.string (nameOf m), .int .i64 (o : Int), .int .i64 ((idx : Int) + 1), .int .i64 ((o : Int) - lx + 1)] 31)) wc))
          case first =>
            have p0 : (w4.alloc (.cells #[.string (nameOf m), .int .i64 (o : Int), .int .i64 ((idx : Int) + 1), .int .i64 ((o : Int) - lx + 1)] 31)).cell? ⟨w4.heap.size, 0, none⟩ = some (.string (nameOf m)) := (Blk.new w4 _ _).cell rfl
            have p1 : (w4.alloc (.cells #[.string (nameOf m), .int .i64 (o : Int), .int .i64 ((idx : Int) + 1), .int .i64 ((o : Int) - lx + 1)] 31)).cell? ⟨w4.heap.size, 1, none⟩ = some (.int .i64 (o : Int)) := (Blk.new w4 _ _).cell rfl
            go_region_held3 (fun w' => w'.cell? ⟨w4.heap.size, 0, none⟩ = some (.string (nameOf m)) ∧ w'.cell? ⟨w4.heap.size, 1, none⟩ = some (.int .i64 (o : Int))) (first | exact ⟨p0, p1⟩ | exact ⟨n0, n1⟩ | go_keep)
              (first
                | (go_at_call 19; refine (name_any m (by omega) _).mono ?_; rintro e wn ⟨rfl, hbn⟩; have n0 : wn.cell? ⟨w4.heap.size, 0, none⟩ = some (.string (nameOf m)) := (Fr.of_below hbn (fun _ => False)).cell (v := .string (nameOf m)) p0 (fun h => h); have n1 : wn.cell? ⟨w4.heap.size, 1, none⟩ = some (.int .i64 (o : Int)) := (Fr.of_below hbn (fun _ => False)).cell (v := .int .i64 (o : Int)) p1 (fun h => h)))
            have HBn : Hid (Below (w4.heap.size + 1) (w4.alloc (.cells #[.string (nameOf m), .int .i64 (o : Int), .int .i64 ((idx : Int) + 1), .int .i64 ((o : Int) - lx + 1)] 31)) wn) := ((Below.refl _ _).drew).trans (hbn.mono (by simp))
            clear hbn p0 p1 n0 n1
            go_wp2
            go_meet
            case rel => exact ⟨by simp, HBn.out⟩
          case rest =>
            obtain ⟨rfl, HBc⟩ := hcut
            have frc : Fr (w4.alloc (.cells #[.string (nameOf m), .int .i64 (o : Int), .int .i64 ((idx : Int) + 1), .int .i64 ((o : Int) - lx + 1)] 31)) wc (fun _ => False) := by
              have := HBc.out
              exact Fr.of_below (by rw [World.size_alloc]; exact this) _
            have bP := frc.blk (Blk.new w4 _ _) (fun h => h)
            have p2 : wc.cell? ⟨w4.heap.size, 2, none⟩ = some (.int .i64 ((idx : Int) + 1)) := bP.cell rfl
            have p3 : wc.cell? ⟨w4.heap.size, 3, none⟩ = some (.int .i64 ((o : Int) - lx + 1)) := bP.cell rfl
            have c2 := frc.cell (cell_alloc_later H4.out.2.1 _) (fun h => h)
            have c4 := frc.cell (cell_alloc_later H4.out.2.2.1 _) (fun h => h)
            have hcl : ∀ i, i < f.lines.length → wc.cell? ⟨gl, i, none⟩ = some (.int .i64 (f.lines.getD i 0)) := fun i hi => frc.cell (cell_alloc_later (H4.out.2.2.2 i hi) _) (fun h => h)
            have cx := hcl idx b4
            rw [HI.out.1] at cx
            have HLn : Hid _ := hcl
            have H5 : Hid (Ask2 w3 (w2.heap.size + 2) w2.heap.size fv fs base wc) := (H4.out.1.below ((Below.refl _ _).alloc (Nat.le_refl _) _)).below (by have := HBc.out; rw [World.size_alloc]; exact this)
            clear HBc frc bP hcl H4
            have d1 : decide ((idx : Int) + 1 < 1) = false := by simp; omega
            have d2 : decide ((f.lines.length : Int) < (idx : Int) + 1) = false := by simp; omega
            have d3 : decide ((o : Int) - lx + 1 < 1) = false := by simp; omega
            go_wp2_with fail
            go_quiet ((go_at_call 20; exact Calls.quiet_of_same (count_any _ _ _ _ _ (cell_drewN c4 _))))
            go_wp2_with fail
            have t2 := cell_drewN c2 nq
            have t4 := cell_drewN c4 nq
            have tx := cell_drewN cx nq
            have tp2 := cell_drewN p2 nq
            have tp3 := cell_drewN p3 nq
            have HLn' : Hid (∀ i, i < f.lines.length → (wc.drewN nq).cell? ⟨gl, i, none⟩ = some (.int .i64 (f.lines.getD i 0))) := fun i hi => cell_drewN (HLn.out i hi) nq
            have H5' : Hid (Ask2 w3 (w2.heap.size + 2) w2.heap.size fv fs base (wc.drewN nq)) := H5.out.below (below_draws _ _)
            clear c2 c4 cx p2 p3 HLn H5
            generalize wc.drewN nq = wd at *
            have c2 := t2
            have c4 := t4
            have cx := tx
            have p2 := tp2
            have p3 := tp3
            have HLn := HLn'
            have H5 := H5'
            clear t2 t4 tx tp2 tp3 HLn' H5'
            have hne : (f.base + lx + ((o : Int) - lx + 1 - 1) != f.base + (o : Int)) = false := by rw [bne_eq_false_iff_eq]; omega
            go_quiet ((go_at_call 21; exact Calls.quiet_of (start_any f.blk f.lines.length cap gl idx f.base lx ((idx : Int) + 1) (f.base + lx) _ (cell_drewN c2 _) (cell_drewN c4 _) (cell_drewN cx _) b4 (by omega) rfl (by omega) (by omega) (by omega) (by omega) rfl)))
            go_wp2_with fail
            have t2 := cell_drewN c2 nq
            have t4 := cell_drewN c4 nq
            have tp2 := cell_drewN p2 nq
            have HLn' : Hid (∀ i, i < f.lines.length → (wd.drewN nq).cell? ⟨gl, i, none⟩ = some (.int .i64 (f.lines.getD i 0))) := fun i hi => cell_drewN (HLn.out i hi) nq
            have H5' : Hid (Ask2 w3 (w2.heap.size + 2) w2.heap.size fv fs base (wd.drewN nq)) := H5.out.below (below_draws _ _)
            clear c2 c4 cx p2 p3 HLn H5 hne d1 d2 d3
            generalize wd.drewN nq = we at *
            have c2 := t2
            have c4 := t4
            have p2 := tp2
            have HLn := HLn'
            have H5 := H5'
            clear t2 t4 tp2 HLn' H5'
            by_cases hnx : idx + 1 < f.lines.length
            · have cy := HLn.out (idx + 1) hnx
              have hoy := HI.out.2.1 hnx
              have hy0 := HI.out.2.2.1
              have hy1 := HI.out.2.2.2
              generalize f.lines.getD (idx + 1) 0 = ly at *
              have hd : decide (f.base + ly ≤ f.base + (o : Int)) = false := by simp; omega
              have hg : ((idx : Int) + 1 < (f.lines.length : Int)) := by omega
              go_quiet ((first | (go_at_call 20; exact Calls.quiet_of_same (count_any _ _ _ _ _ (cell_drewN c4 _))) | (go_at_call 21; exact Calls.quiet_of (start_any f.blk f.lines.length cap gl (idx + 1) f.base ly ((idx : Int) + 1 + 1) (f.base + ly) _ (cell_drewN c2 _) (cell_drewN c4 _) (cell_drewN cy _) hnx (by omega) (by omega) (by omega) (by omega) (by omega) (by omega) rfl))))
              go_wp2
              go_roundw
              case rel => exact ⟨o + 1, by omega, by go_num, H5.out.below (below_draws _ _)⟩
              case measure => simp [intOf]; omega
            · have hg : decide ((idx : Int) + 1 < (f.lines.length : Int)) = false := by simp; omega
              go_quiet ((go_at_call 20; exact Calls.quiet_of_same (count_any _ _ _ _ _ (cell_drewN c4 _))))
              go_wp2
              go_roundw
              case rel => exact ⟨o + 1, by omega, by go_num, H5.out.below (below_draws _ _)⟩
              case measure => simp [intOf]; omega
        · go_wp2
          go_roundw
          case rel => exact ⟨m, by omega, rfl, H2.out⟩
          case measure => simp [intOf]
end Go.Proofs.Yoedhw
