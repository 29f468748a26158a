/-
  Position where no file owns the position; zzModelPosition.
-/
import Derived.Test.YoedhwPos
namespace Go.Proofs.Yoedhw
open Go.RowKit
set_option linter.unusedVariables false

/-- The zero SourceFilePos. -/
def posZero : Value := .agg #[.string ⟨#[]⟩, .int .i64 0, .int .i64 0, .int .i64 0]

set_option maxHeartbeats 800000 in
set_option maxRecDepth 100000 in
theorem setpos_zero {w : World} {B sb : Nat} {fv last : Value} {fs : List FRec} {base : Int} (h : SetIs w B sb fv fs base last) :
    Calls Edhg.prog 15 #[.pointer (some ⟨sb, 0, none⟩), .int .i64 0] w fun e w' => e = .returned posZero ∧ ∃ last', SetIs w' B sb fv fs base last' ∧ Fr w w' (fun k => k = sb) := by
  have H : Hid _ := h
  clear h
  go_enter Edhg.func15, Edhg.ntmps15
  go_wp2
  refine bodyPost_ret (v := posZero) (by simp [results, Edhg.results15, go_sem, posZero]) rfl ⟨rfl, last, H.out.below ((Below.refl _ _).alloc (Nat.le_refl _) _), (Fr.refl w _).alloc _⟩

set_option maxHeartbeats 800000 in
set_option maxRecDepth 100000 in
theorem setpos_none {w : World} {B sb : Nat} {fv last : Value} {fs : List FRec} {base : Int} (h : SetIs w B sb fv fs base last) (hl : Lay fs base) (hb : base ≤ 4294967296) (hn : fs.length ≤ 1048576) (p : Int) (hp : (p != 0) = true) (ho : owner fs p = none) :
    Calls Edhg.prog 15 #[.pointer (some ⟨sb, 0, none⟩), .int .i64 p] w fun e w' => e = .returned posZero ∧ ∃ last', SetIs w' B sb fv fs base last' ∧ Fr w w' (fun k => k = sb) := by
  have hlt := h.set.lt
  have hfile := fun o => file_any (h.below ((Below.refl w.heap.size w).alloc (Nat.le_refl _) o)) hl (by omega) hn p
  simp only [ho, ptrOf] at hfile
  have HF : Hid _ := hfile
  clear hfile ho h hl
  go_enter Edhg.func15, Edhg.ntmps15
  go_wp2_with fail
  refine Calls.mono (HF.out _) ?_
  rintro e w4 ⟨rfl, last', h4, fr4⟩
  have hb4 := fr4.blk (Blk.new w _ _) (by omega)
  have H4 : Hid (SetIs w4 B sb fv fs base last') := h4
  have F4 : Hid _ := fr4
  have a0 := hb4.cell (o := 0) rfl
  have a1 := hb4.cell (o := 1) rfl
  have a2 := hb4.cell (o := 2) rfl
  have a3 := hb4.cell (o := 3) rfl
  clear h4 fr4 HF hb4
  go_wp2
  refine bodyPost_ret (v := posZero) (by simp [results, Edhg.results15, go_sem, posZero, a0, a1, a2, a3]) rfl ⟨rfl, last', H4.out, ((Fr.refl w (fun k => k = sb)).alloc _).trans F4.out (fun _ h => h) (fun _ _ h => h)⟩

/-- Position, at a position that no file owns. -/
theorem setpos_miss {w : World} {B sb : Nat} {fv last : Value} {fs : List FRec} {base : Int} (h : SetIs w B sb fv fs base last) (hl : Lay fs base) (hb : base ≤ 4294967296) (hn : fs.length ≤ 1048576) (p : Int) (ho : p = 0 ∨ owner fs p = none) :
    Calls Edhg.prog 15 #[.pointer (some ⟨sb, 0, none⟩), .int .i64 p] w fun e w' => e = .returned posZero ∧ ∃ last', SetIs w' B sb fv fs base last' ∧ Fr w w' (fun k => k = sb) := by
  by_cases hp : p = 0
  · subst hp; exact setpos_zero h
  · exact setpos_none h hl hb hn p (by simpa using hp) (ho.resolve_left hp)

/-- Where file i begins. -/
def baseAt (xs : List Int) (i : Nat) : Int := 1 + (xs.take i).sum + i
theorem baseAt_succ (xs : List Int) (i : Nat) (h : i < xs.length) : baseAt xs (i + 1) = baseAt xs i + (xs.getD i 0 + 1) := by
  unfold baseAt; rw [sum_take_succ xs i h]; omega
theorem baseAt_bound {xs : List Int} (h : fitB xs = true) (i : Nat) (hi : i ≤ 4096) : 1 ≤ baseAt xs i ∧ baseAt xs i ≤ 1052673 := by
  have := fit_sum_take h i
  unfold baseAt; omega

/-- The line of an offset, as the model reckons it. -/
def IdxOk (step size off : Int) (idx : Nat) : Prop := (off / step = (idx : Int) ∧ (idx = 0 ∨ (idx : Int) * step < size)) ∨ (off / step = (idx : Int) + 1 ∧ size ≤ ((idx : Int) + 1) * step)

theorem div_facts (off step : Int) (h0 : 0 ≤ off) (h1 : 1 ≤ step) : 0 ≤ off / step ∧ (off / step) * step ≤ off ∧ off < (off / step + 1) * step := by
  refine ⟨Int.ediv_nonneg h0 (by omega), Int.ediv_mul_le _ (by omega), ?_⟩
  exact Int.lt_ediv_add_one_mul_self _ (by omega)

/-- The line's place among the file's lines. -/
theorem idx_ok {step size off : Int} {ls : List Int} (h : LinesOk step size ls) (h0 : 0 ≤ off) (h1 : off ≤ size) (hs : 1 ≤ step) : ∃ idx : Nat, Bnd ls off (idx + 1) ∧ ls.getD idx 0 = (idx : Int) * step ∧ IdxOk step size off idx := by
  obtain ⟨j, rfl, hj, hsz, hall⟩ := h
  obtain ⟨d0, d1, d2⟩ := div_facts off step h0 hs
  obtain ⟨q, hq⟩ := Int.eq_ofNat_of_zero_le d0
  rw [hq] at d1 d2
  have mono : ∀ a b : Nat, a ≤ b → (a : Int) * step ≤ (b : Int) * step := fun a b hab => Int.mul_le_mul_of_nonneg_right (by omega) (by omega)
  have succ : ∀ a : Nat, ((a : Int) + 1) * step = (a : Int) * step + step := fun a => by rw [Int.add_mul, Int.one_mul]
  by_cases hc : q = 0 ∨ (q : Int) * step < size
  · have hqj : q < j := by
      rcases hc with hc | hc
      · omega
      · refine Nat.lt_of_not_le (fun hle => ?_)
        have := mono j q hle
        omega
    refine ⟨q, ⟨by rw [lin_length]; omega, fun i hi => ?_, fun i h2 h3 => ?_⟩, lin_getD step j q hqj, .inl ⟨by rw [hq], hc⟩⟩
    · rw [lin_getD step j i (by omega)]
      have := mono i q (by omega)
      omega
    · rw [lin_length] at h3
      rw [lin_getD step j i h3]
      have := mono (q + 1) i (by omega)
      have e : ((q + 1 : Nat) : Int) * step = ((q : Int) + 1) * step := by simp
      have := succ q
      omega
  · have hq1 : 1 ≤ q := by omega
    have hge : size ≤ (q : Int) * step := by omega
    have hjq : j = q := by
      refine Nat.le_antisymm (Nat.le_of_not_lt (fun hlt => ?_)) (Nat.le_of_not_lt (fun hlt => ?_))
      · have := hall q hq1 hlt; omega
      · have := mono (j + 1) q hlt
        have e : ((j + 1 : Nat) : Int) * step = ((j : Int) + 1) * step := by simp
        have := succ j
        omega
    subst hjq
    obtain ⟨i0, rfl⟩ : ∃ i0, j = i0 + 1 := ⟨j - 1, by omega⟩
    refine ⟨i0, ⟨by rw [lin_length]; omega, fun i hi => ?_, fun i h2 h3 => ?_⟩, lin_getD step _ i0 (by omega), .inr ⟨by rw [hq]; simp, by simpa using hge⟩⟩
    · rw [lin_getD step _ i (by omega)]
      have := mono i (i0 + 1) (by omega)
      omega
    · rw [lin_length] at h3; omega

/-- Four stores into a row of four cells, read again. -/
theorem four {W : World} {b : Nat} {c0 c1 c2 c3 : Value} {t : TypeId} (h : Blk W b #[c0, c1, c2, c3] t) (v0 v1 v2 v3 : Value) :
    (W.setCell ⟨b, 0, none⟩ v0).cell? ⟨b, 0, none⟩ = some v0 ∧ ((W.setCell ⟨b, 0, none⟩ v0).setCell ⟨b, 1, none⟩ v1).cell? ⟨b, 1, none⟩ = some v1 ∧
    (((W.setCell ⟨b, 0, none⟩ v0).setCell ⟨b, 1, none⟩ v1).setCell ⟨b, 2, none⟩ v2).cell? ⟨b, 2, none⟩ = some v2 ∧
    ((((W.setCell ⟨b, 0, none⟩ v0).setCell ⟨b, 1, none⟩ v1).setCell ⟨b, 2, none⟩ v2).setCell ⟨b, 3, none⟩ v3).cell? ⟨b, 3, none⟩ = some v3 :=
  ⟨(h.set 0 v0).cell rfl, ((h.set 0 v0).set 1 v1).cell rfl, (((h.set 0 v0).set 1 v1).set 2 v2).cell rfl, ((((h.set 0 v0).set 1 v1).set 2 v2).set 3 v3).cell rfl⟩
theorem four_at {W : World} {b : Nat} {c0 c1 c2 c3 : Value} {t : TypeId} (h : Blk W b #[c0, c1, c2, c3] t) :
    (W.cell? ⟨b, 0, none⟩ = some c0 ∧ W.cell? ⟨b, 1, none⟩ = some c1 ∧ W.cell? ⟨b, 2, none⟩ = some c2 ∧ W.cell? ⟨b, 3, none⟩ = some c3) ∧ W.frozen? ⟨b, 0, none⟩ = false ∧ W.frozen? ⟨b, 1, none⟩ = false ∧ W.frozen? ⟨b, 2, none⟩ = false ∧ W.frozen? ⟨b, 3, none⟩ = false :=
  ⟨⟨h.cell rfl, h.cell rfl, h.cell rfl, h.cell rfl⟩, h.free 0, h.free 1, h.free 2, h.free 3⟩

/-- The two blocks that zzModelPosition lays: its result and 'want', both zero. -/
def zeroPos : Obj := .cells #[.string ⟨#[]⟩, .int .i64 0, .int .i64 0, .int .i64 0] 31

set_option maxHeartbeats 2000000 in
set_option maxRecDepth 100000 in
/-- zzModelPosition, the position lying in file i. -/
theorem model_hit (a : Option Addr) (xs : List Int) (step p : Int) (i idx B : Nat) (w : World) (hx : Cln w B a xs) (fx : fitB xs = true) (hs1 : 1 ≤ step) (hs2 : step ≤ 65536) (hi : i < xs.length) (hp1 : baseAt xs i ≤ p) (hp2 : p ≤ baseAt xs i + xs.getD i 0)
    (hno : ∀ j, j < i → ¬ (baseAt xs j ≤ p ∧ p ≤ baseAt xs j + xs.getD j 0)) (hidx : IdxOk step (xs.getD i 0) (p - baseAt xs i) idx) :
    Calls Edhg.prog 16 #[.slice a xs.length xs.length, .int .i64 step, .int .i64 p] w fun e w' => e = .returned (posVal (nameOf i) (p - baseAt xs i) ((idx : Int) + 1) (p - baseAt xs i - (idx : Int) * step + 1)) ∧ Below w.heap.size w w' := by
  have l0 := fit_length fx
  have hbi := baseAt_bound fx i (by omega)
  have hpz : (p == 0) = false := by rw [beq_eq_false_iff_ne]; omega
  obtain ⟨g, ha, _, hblk, _⟩ := hx.at hi
  subst ha
  have hcells : ∀ k, k < xs.length → ((w.alloc zeroPos).alloc zeroPos).cell? ⟨g, k, none⟩ = some (.int .i64 (xs.getD k 0)) := fun k hk => cell_alloc_later (cell_alloc_later (hblk.cell (ints_at xs k hk)) _) _
  have HX : Hid (fitB xs = true ∧ (∀ k, k < xs.length → ((w.alloc zeroPos).alloc zeroPos).cell? ⟨g, k, none⟩ = some (.int .i64 (xs.getD k 0))) ∧ (∀ j, j < i → ¬ (baseAt xs j ≤ p ∧ p ≤ baseAt xs j + xs.getD j 0)) ∧ IdxOk step (xs.getD i 0) (p - baseAt xs i) idx) := ⟨fx, hcells, hno, hidx⟩
  clear hx fx hcells hno hidx hblk
  go_enter Edhg.func16, Edhg.ntmps16
  go_wp2
  go_loop [8, 9, 10, 11, 12] (fun s8 s9 _ _ _ => ∃ k : Nat, k ≤ i ∧ s9 = .int .i64 k ∧ s8 = .int .i64 (baseAt xs k)) (fun _ s9 _ _ _ => xs.length - (intOf s9).toNat)
  case atStart => exact ⟨0, Nat.zero_le _, rfl, by simp [baseAt]⟩
  case round =>
    obtain ⟨k, hk, rfl, rfl⟩ := hrel
    have hc := HX.out.2.1 k (by omega)
    unfold zeroPos at hc
    have hbk := baseAt_bound HX.out.1 k (by omega)
    have hxk := fit_at HX.out.1 k
    have hkl : k < xs.length := by omega
    by_cases hki : k < i
    · have hnk := HX.out.2.2.1 k hki
      have hbs := baseAt_succ xs k (by omega)
      have HBS : Hid _ := hbs
      clear hbs
      generalize baseAt xs k = b at *
      generalize xs.getD k 0 = x at *
      by_cases h1 : b ≤ p
      · have h2 : ¬ p ≤ b + x := fun h => hnk ⟨h1, h⟩
        clear hnk
        go_wp2
        go_round
        case rel => exact ⟨k + 1, by omega, by go_num, by rw [HBS.out]⟩
        case measure => simp [intOf]; omega
      · clear hnk
        go_wp2
        go_round
        case rel => exact ⟨k + 1, by omega, by go_num, by rw [HBS.out]⟩
        case measure => simp [intOf]; omega
    · obtain rfl : k = i := by omega
      have hid := HX.out.2.2.2
      have hdv := div_facts (p - baseAt xs k) step (by omega) hs1
      have hoff0 : 0 ≤ p - baseAt xs k := by omega
      have hoff1 : p - baseAt xs k ≤ xs.getD k 0 := by omega
      have hname := fun o1 o2 => name_any k (by omega) ((w.alloc o1).alloc o2)
      have HNm : Hid _ := hname
      clear HX hname
      generalize hbe : baseAt xs k = b at *
      have HBE : Hid _ := hbe
      clear hbe
      generalize xs.getD k 0 = x at *
      generalize hoff : p - b = off at *
      unfold IdxOk at hid
      rcases hid with ⟨hq, hid⟩ | ⟨hq, hid⟩
      · rw [hq] at hdv
        rcases Nat.eq_zero_or_pos idx with hz | hz
        · subst hz
          clear hid
          go_wp2_with fail
          refine Calls.mono (HNm.out _ _) ?_
          rintro e wn ⟨rfl, hbn⟩
          have bW : Blk wn (w.heap.size + 1) _ 31 := (Fr.of_below hbn (fun _ => False)).blk (by have := Blk.new (w.alloc zeroPos) #[.string ⟨#[]⟩, .int .i64 0, .int .i64 0, .int .i64 0] 31; rw [World.size_alloc] at this; exact this) (fun h => h)
          have bR : Blk wn w.heap.size _ 31 := (Fr.of_below hbn (fun _ => False)).blk ((Blk.new w #[.string ⟨#[]⟩, .int .i64 0, .int .i64 0, .int .i64 0] 31).alloc zeroPos) (fun h => h)
          have HBW : Hid (Below w.heap.size w wn) := (((Below.refl w.heap.size w).alloc (Nat.le_refl _) zeroPos).alloc (by simp) zeroPos).trans (hbn.mono (by simp; omega))
          obtain ⟨⟨x0, x1, x2, x3⟩, y0, y1, y2, y3⟩ := four_at bW
          obtain ⟨⟨r0, r1, r2, r3⟩, q0, q1, q2, q3⟩ := four_at bR
          have hsz : w.heap.size + 1 < wn.heap.size := bW.lt
          obtain ⟨s0, s1, s2, s3⟩ := four bW (.string (nameOf k)) (.int .i64 off) (.int .i64 (1)) (.int .i64 (off + 1))
          have bR4 := (((bR.other (a := ⟨w.heap.size + 1, 0, none⟩) (by show w.heap.size ≠ w.heap.size + 1; omega) (.string (nameOf k))).other (a := ⟨w.heap.size + 1, 1, none⟩) (by show w.heap.size ≠ w.heap.size + 1; omega) (.int .i64 off)).other (a := ⟨w.heap.size + 1, 2, none⟩) (by show w.heap.size ≠ w.heap.size + 1; omega) (.int .i64 (1))).other (a := ⟨w.heap.size + 1, 3, none⟩) (by show w.heap.size ≠ w.heap.size + 1; omega) (.int .i64 (off + 1))
          have HT : Hid _ := four bR4 (.string (nameOf k)) (.int .i64 off) (.int .i64 (1)) (.int .i64 (off + 1))
          clear HNm hbn bW bR bR4
          go_wp2
          obtain ⟨t0, t1, t2, t3⟩ := HT.out
          refine bodyPost_ret (v := posVal (nameOf k) off (1) (off + 1)) (by simp [results, Edhg.results16, go_sem, posVal, t0, t1, t2, t3]) rfl ⟨?_, ?_⟩
          · rw [HBE.out, hoff]; simp
          · exact (((((((HBW.out.setCell (p := ⟨w.heap.size + 1, 0, none⟩) (Nat.le_succ _) _).setCell (p := ⟨w.heap.size + 1, 1, none⟩) (Nat.le_succ _) _).setCell (p := ⟨w.heap.size + 1, 2, none⟩) (Nat.le_succ _) _).setCell (p := ⟨w.heap.size + 1, 3, none⟩) (Nat.le_succ _) _).setCell (p := ⟨w.heap.size, 0, none⟩) (Nat.le_refl _) _).setCell (p := ⟨w.heap.size, 1, none⟩) (Nat.le_refl _) _).setCell (p := ⟨w.heap.size, 2, none⟩) (Nat.le_refl _) _).setCell (p := ⟨w.heap.size, 3, none⟩) (Nat.le_refl _) _
        · have hid' : (idx : Int) * step < x := hid.resolve_left (by omega)
          have hge := mul_ge idx step hs1
          have hid2 : 0 < (idx : Int) := by omega
          clear hid
          go_wp2_with fail
          refine Calls.mono (HNm.out _ _) ?_
          rintro e wn ⟨rfl, hbn⟩
          have bW : Blk wn (w.heap.size + 1) _ 31 := (Fr.of_below hbn (fun _ => False)).blk (by have := Blk.new (w.alloc zeroPos) #[.string ⟨#[]⟩, .int .i64 0, .int .i64 0, .int .i64 0] 31; rw [World.size_alloc] at this; exact this) (fun h => h)
          have bR : Blk wn w.heap.size _ 31 := (Fr.of_below hbn (fun _ => False)).blk ((Blk.new w #[.string ⟨#[]⟩, .int .i64 0, .int .i64 0, .int .i64 0] 31).alloc zeroPos) (fun h => h)
          have HBW : Hid (Below w.heap.size w wn) := (((Below.refl w.heap.size w).alloc (Nat.le_refl _) zeroPos).alloc (by simp) zeroPos).trans (hbn.mono (by simp; omega))
          obtain ⟨⟨x0, x1, x2, x3⟩, y0, y1, y2, y3⟩ := four_at bW
          obtain ⟨⟨r0, r1, r2, r3⟩, q0, q1, q2, q3⟩ := four_at bR
          have hsz : w.heap.size + 1 < wn.heap.size := bW.lt
          obtain ⟨s0, s1, s2, s3⟩ := four bW (.string (nameOf k)) (.int .i64 off) (.int .i64 ((idx : Int) + 1)) (.int .i64 (off - (idx : Int) * step + 1))
          have bR4 := (((bR.other (a := ⟨w.heap.size + 1, 0, none⟩) (by show w.heap.size ≠ w.heap.size + 1; omega) (.string (nameOf k))).other (a := ⟨w.heap.size + 1, 1, none⟩) (by show w.heap.size ≠ w.heap.size + 1; omega) (.int .i64 off)).other (a := ⟨w.heap.size + 1, 2, none⟩) (by show w.heap.size ≠ w.heap.size + 1; omega) (.int .i64 ((idx : Int) + 1))).other (a := ⟨w.heap.size + 1, 3, none⟩) (by show w.heap.size ≠ w.heap.size + 1; omega) (.int .i64 (off - (idx : Int) * step + 1))
          have HT : Hid _ := four bR4 (.string (nameOf k)) (.int .i64 off) (.int .i64 ((idx : Int) + 1)) (.int .i64 (off - (idx : Int) * step + 1))
          clear HNm hbn bW bR bR4
          go_wp2
          obtain ⟨t0, t1, t2, t3⟩ := HT.out
          refine bodyPost_ret (v := posVal (nameOf k) off ((idx : Int) + 1) (off - (idx : Int) * step + 1)) (by simp [results, Edhg.results16, go_sem, posVal, t0, t1, t2, t3]) rfl ⟨?_, ?_⟩
          · rw [HBE.out, hoff]
          · exact (((((((HBW.out.setCell (p := ⟨w.heap.size + 1, 0, none⟩) (Nat.le_succ _) _).setCell (p := ⟨w.heap.size + 1, 1, none⟩) (Nat.le_succ _) _).setCell (p := ⟨w.heap.size + 1, 2, none⟩) (Nat.le_succ _) _).setCell (p := ⟨w.heap.size + 1, 3, none⟩) (Nat.le_succ _) _).setCell (p := ⟨w.heap.size, 0, none⟩) (Nat.le_refl _) _).setCell (p := ⟨w.heap.size, 1, none⟩) (Nat.le_refl _) _).setCell (p := ⟨w.heap.size, 2, none⟩) (Nat.le_refl _) _).setCell (p := ⟨w.heap.size, 3, none⟩) (Nat.le_refl _) _
      · rw [hq] at hdv
        have hge := mul_ge idx step hs1
        have hle : (idx : Int) * step ≤ ((idx : Int) + 1) * step := by rw [Int.add_mul, Int.one_mul]; omega
        go_wp2_with fail
        refine Calls.mono (HNm.out _ _) ?_
        rintro e wn ⟨rfl, hbn⟩
        have bW : Blk wn (w.heap.size + 1) _ 31 := (Fr.of_below hbn (fun _ => False)).blk (by have := Blk.new (w.alloc zeroPos) #[.string ⟨#[]⟩, .int .i64 0, .int .i64 0, .int .i64 0] 31; rw [World.size_alloc] at this; exact this) (fun h => h)
        have bR : Blk wn w.heap.size _ 31 := (Fr.of_below hbn (fun _ => False)).blk ((Blk.new w #[.string ⟨#[]⟩, .int .i64 0, .int .i64 0, .int .i64 0] 31).alloc zeroPos) (fun h => h)
        have HBW : Hid (Below w.heap.size w wn) := (((Below.refl w.heap.size w).alloc (Nat.le_refl _) zeroPos).alloc (by simp) zeroPos).trans (hbn.mono (by simp; omega))
        obtain ⟨⟨x0, x1, x2, x3⟩, y0, y1, y2, y3⟩ := four_at bW
        obtain ⟨⟨r0, r1, r2, r3⟩, q0, q1, q2, q3⟩ := four_at bR
        have hsz : w.heap.size + 1 < wn.heap.size := bW.lt
        obtain ⟨s0, s1, s2, s3⟩ := four bW (.string (nameOf k)) (.int .i64 off) (.int .i64 ((idx : Int) + 1)) (.int .i64 (off - (idx : Int) * step + 1))
        have bR4 := (((bR.other (a := ⟨w.heap.size + 1, 0, none⟩) (by show w.heap.size ≠ w.heap.size + 1; omega) (.string (nameOf k))).other (a := ⟨w.heap.size + 1, 1, none⟩) (by show w.heap.size ≠ w.heap.size + 1; omega) (.int .i64 off)).other (a := ⟨w.heap.size + 1, 2, none⟩) (by show w.heap.size ≠ w.heap.size + 1; omega) (.int .i64 ((idx : Int) + 1))).other (a := ⟨w.heap.size + 1, 3, none⟩) (by show w.heap.size ≠ w.heap.size + 1; omega) (.int .i64 (off - (idx : Int) * step + 1))
        have HT : Hid _ := four bR4 (.string (nameOf k)) (.int .i64 off) (.int .i64 ((idx : Int) + 1)) (.int .i64 (off - (idx : Int) * step + 1))
        clear HNm hbn bW bR bR4
        go_wp2
        obtain ⟨t0, t1, t2, t3⟩ := HT.out
        refine bodyPost_ret (v := posVal (nameOf k) off ((idx : Int) + 1) (off - (idx : Int) * step + 1)) (by simp [results, Edhg.results16, go_sem, posVal, t0, t1, t2, t3]) rfl ⟨?_, ?_⟩
        · rw [HBE.out, hoff]
        · exact (((((((HBW.out.setCell (p := ⟨w.heap.size + 1, 0, none⟩) (Nat.le_succ _) _).setCell (p := ⟨w.heap.size + 1, 1, none⟩) (Nat.le_succ _) _).setCell (p := ⟨w.heap.size + 1, 2, none⟩) (Nat.le_succ _) _).setCell (p := ⟨w.heap.size + 1, 3, none⟩) (Nat.le_succ _) _).setCell (p := ⟨w.heap.size, 0, none⟩) (Nat.le_refl _) _).setCell (p := ⟨w.heap.size, 1, none⟩) (Nat.le_refl _) _).setCell (p := ⟨w.heap.size, 2, none⟩) (Nat.le_refl _) _).setCell (p := ⟨w.heap.size, 3, none⟩) (Nat.le_refl _) _
end Go.Proofs.Yoedhw
