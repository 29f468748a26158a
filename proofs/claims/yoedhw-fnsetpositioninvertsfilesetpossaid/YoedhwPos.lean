/-
  searchInts, unpack, position, Position.
-/
import Derived.Test.YoedhwStepped
import Derived.Test.YoedhwFind
namespace Go.Proofs.Yoedhw
open Go.RowKit
set_option linter.unusedVariables false

theorem below_drawn {B : Nat} {a w : World} (h : Below B a w) (q : Nat) : Below B a (w.drewN q) := ⟨h.os, h.tape, h.output, h.size, h.block⟩

/-- Place m parts the numbers: those ahead of it are at most x, those from it on more. -/
def Bnd (ls : List Int) (x : Int) (m : Nat) : Prop := m ≤ ls.length ∧ (∀ i, i < m → ls.getD i 0 ≤ x) ∧ ∀ i, m ≤ i → i < ls.length → x < ls.getD i 0

set_option maxHeartbeats 800000 in
set_option maxRecDepth 100000 in
/-- searchInts. -/
theorem ints_any (g cap : Nat) (ls : List Int) (x : Int) (m : Nat) (w : World) (hc : ∀ i, i < ls.length → w.cell? ⟨g, i, none⟩ = some (.int .i64 (ls.getD i 0))) (hb : Bnd ls x m) (hn : ls.length ≤ 1048576) :
    Calls Edhg.prog 44 #[.slice (some ⟨g, 0, none⟩) ls.length cap, .int .i64 x] w fun e w' => e = .returned (.int .i64 ((m : Int) - 1)) ∧ w' = w := by
  have hm := hb.1
  have HB : Hid ((∀ i, i < m → ls.getD i 0 ≤ x) ∧ (∀ i, m ≤ i → i < ls.length → x < ls.getD i 0)) := hb.2
  have HC : Hid _ := hc
  clear hb hc
  go_enter Edhg.func44, Edhg.ntmps44
  go_wp2
  go_loop [5, 6, 7] (fun s5 s6 _ => ∃ (lo hi : Nat), s5 = .int .i64 lo ∧ s6 = .int .i64 hi ∧ lo ≤ m ∧ m ≤ hi ∧ hi ≤ ls.length) (fun s5 s6 _ => (intOf s6).toNat - (intOf s5).toNat)
  case atStart => exact ⟨0, ls.length, rfl, rfl, Nat.zero_le _, hm, Nat.le_refl _⟩
  case round =>
    obtain ⟨lo, hi, rfl, rfl, h1, h2, h3⟩ := hrel
    by_cases hlt : lo < hi
    · have hcell := HC.out (lo + (hi - lo) / 2) (by omega)
      by_cases hp : lo + (hi - lo) / 2 < m
      · have hle := HB.out.1 _ hp
        generalize ls.getD (lo + (hi - lo) / 2) 0 = y at *
        go_wp2
        go_round
        case rel => exact ⟨lo + (hi - lo) / 2 + 1, hi, by go_num, rfl, by omega, h2, h3⟩
        case measure => simp [intOf]; omega
      · have hgt := HB.out.2 (lo + (hi - lo) / 2) (by omega) (by omega)
        generalize ls.getD (lo + (hi - lo) / 2) 0 = y at *
        go_wp2
        go_round
        case rel => exact ⟨lo, lo + (hi - lo) / 2, rfl, by go_num, h1, by omega, by omega⟩
        case measure => simp [intOf]; omega
    · obtain rfl : lo = m := by omega
      go_wp2
      go_ret
      exact ⟨rfl, rfl⟩

/-- A file's lines in memory. -/
theorem lines_at {w : World} {B : Nat} {lv : Value} {ls : List Int} (h : w.ownsRow B 3 1 lv ls.length (ls.map (Value.int .i64))) (h1 : 1 ≤ ls.length) :
    ∃ g cap, lv = .slice (some ⟨g, 0, none⟩) ls.length cap ∧ ∀ i, i < ls.length → w.cell? ⟨g, i, none⟩ = some (.int .i64 (ls.getD i 0)) := by
  obtain ⟨n, hn⟩ : ∃ n, ls.length = n + 1 := ⟨ls.length - 1, by omega⟩
  have h' := h
  rw [hn] at h'
  obtain ⟨g, cap, cur, hv, hc, _, hat⟩ := owned_shape h'
  refine ⟨g, cap, by rw [hn]; exact hv, fun i hi => hc.cell (hat i _ ?_)⟩
  simp [List.getD, hi]

set_option maxHeartbeats 800000 in
set_option maxRecDepth 100000 in
/-- unpack. -/
theorem unpack_any (fb sb B idx : Nat) (name : ByteArray) (bs size off lx : Int) (lv : Value) (ls : List Int) (w : World) (hf : Blk w fb #[.pointer (some ⟨sb, 0, none⟩), .string name, .int .i64 bs, .int .i64 size, lv] 45) (ho : w.ownsRow B 3 1 lv ls.length (ls.map (Value.int .i64)))
    (hb : Bnd ls off (idx + 1)) (hlx : ls.getD idx 0 = lx) (hn : ls.length ≤ 1048576) (h0 : 0 ≤ off) (h1 : off ≤ 4294967296) (h2 : 0 ≤ lx) :
    Calls Edhg.prog 41 #[.pointer (some ⟨fb, 0, none⟩), .int .i64 off] w fun e w' => e = .returned (.tuple #[.string name, .int .i64 ((idx : Int) + 1), .int .i64 (off - lx + 1)]) ∧ ∃ q, w' = w.drewN q := by
  have hi := hb.1
  have hle := hb.2.1 idx (by omega)
  obtain ⟨g, cap, hv, hc⟩ := lines_at ho (by omega)
  subst hv
  have c1 : w.cell? ⟨fb, 1, none⟩ = some (.string name) := hf.cell rfl
  have c4 : w.cell? ⟨fb, 4, none⟩ = some (.slice (some ⟨g, 0, none⟩) ls.length cap) := hf.cell rfl
  have hcx := hc idx (by omega)
  have hs := ints_any g cap ls off (idx + 1) w hc hb hn
  rw [hlx] at hcx hle
  have HS : Hid _ := hs
  clear hs hc hb ho hf hlx
  have hii : (idx : Int) < (ls.length : Int) := by omega
  go_enter Edhg.func41, Edhg.ntmps41
  go_wp2_with fail
  refine Calls.mono HS.out ?_
  rintro e w' ⟨rfl, hw⟩; subst w'
  clear HS
  go_wp2_with fail
  go_quiet (fail)
  go_wp2
  go_ret3
  exact ⟨rfl, nq, rfl⟩

set_option maxHeartbeats 800000 in
set_option maxRecDepth 100000 in
/-- position. -/
theorem position_any (fb sb B idx : Nat) (name : ByteArray) (bs size p off lx : Int) (lv : Value) (ls : List Int) (w : World) (hf : Blk w fb #[.pointer (some ⟨sb, 0, none⟩), .string name, .int .i64 bs, .int .i64 size, lv] 45) (ho : w.ownsRow B 3 1 lv ls.length (ls.map (Value.int .i64)))
    (hb : Bnd ls off (idx + 1)) (hlx : ls.getD idx 0 = lx) (hn : ls.length ≤ 1048576) (hp : p - bs = off) (h0 : 0 ≤ off) (h1 : off ≤ 4294967296) (h2 : 0 ≤ lx) (h3 : 0 ≤ bs) (h4 : bs ≤ 4294967296) :
    Calls Edhg.prog 37 #[.pointer (some ⟨fb, 0, none⟩), .int .i64 p] w fun e w' => e = .returned (.agg #[.string name, .int .i64 off, .int .i64 ((idx : Int) + 1), .int .i64 (off - lx + 1)]) ∧ Below w.heap.size w w' := by
  have c2 : w.cell? ⟨fb, 2, none⟩ = some (.int .i64 bs) := hf.cell rfl
  have hlt := hf.lt
  have hu := fun o => unpack_any fb sb B idx name bs size off lx lv ls (w.alloc o) (hf.alloc o) (ho.alloc o) hb hlx hn h0 h1 h2
  have HU : Hid _ := hu
  have hpb : p ≤ 8589934592 := by omega
  have hpb0 : 0 ≤ p := by omega
  clear hu hf ho hb hlx
  go_enter Edhg.func37, Edhg.ntmps37
  go_wp2_with fail
  refine Calls.mono (HU.out _) ?_
  rintro e w' ⟨rfl, q, rfl⟩
  clear HU
  go_wp2
  refine bodyPost_ret (v := .agg #[.string name, .int .i64 off, .int .i64 ((idx : Int) + 1), .int .i64 (off - lx + 1)]) (by simp [results, Edhg.results37, go_sem]) rfl ⟨rfl, ?_⟩
  exact (((below_drawn ((Below.refl w.heap.size w).alloc (Nat.le_refl _) _) q).setCell (Nat.le_refl _) _).setCell (Nat.le_refl _) _).setCell (Nat.le_refl _) _

/-- A store into a block of another make turns nothing of the set. -/
theorem SetIs.scratch {w : World} {B sb : Nat} {fv last : Value} {fs : List FRec} {base : Int} (h : SetIs w B sb fv fs base last) {b : Nat} {cs : Array Value} (hb : Blk w b cs 31) (o : Nat) (v : Value) : SetIs (w.setCell ⟨b, o, none⟩ v) B sb fv fs base last := by
  have fr : Fr w (w.setCell ⟨b, o, none⟩ v) (fun k => k = b) := (Fr.refl w (fun k => k = b)).setCell (p := ⟨b, o, none⟩) (fun _ => rfl) _
  have hno : ∀ k cs t, Blk w k cs t → t ≠ 31 → ¬ k = b := by
    rintro k cs t hk ht rfl
    exact ht (hk.inj hb).2
  refine h.frame fr (hno _ _ _ h.set (by decide)) (fun k hk => ?_) (fun f hf => hno _ _ _ (h.file f hf) (by decide)) (fun f hf k hk => ?_)
  · obtain ⟨_, cur, hc⟩ := owned_blk h.row hk
    exact hno _ _ _ hc (by decide)
  · obtain ⟨_, cur, hc⟩ := owned_blk (h.line f hf) hk
    exact hno _ _ _ hc (by decide)
theorem SetIs.scratch4 {w : World} {B sb : Nat} {fv last : Value} {fs : List FRec} {base : Int} (h : SetIs w B sb fv fs base last) {b : Nat} {cs : Array Value} (hb : Blk w b cs 31) (v0 v1 v2 v3 : Value) :
    SetIs ((((w.setCell ⟨b, 0, none⟩ v0).setCell ⟨b, 1, none⟩ v1).setCell ⟨b, 2, none⟩ v2).setCell ⟨b, 3, none⟩ v3) B sb fv fs base last :=
  (((h.scratch hb 0 v0).scratch (hb.set 0 v0) 1 v1).scratch ((hb.set 0 v0).set 1 v1) 2 v2).scratch (((hb.set 0 v0).set 1 v1).set 2 v2) 3 v3

/-- The value of a SourceFilePos. -/
def posVal (name : ByteArray) (off line col : Int) : Value := .agg #[.string name, .int .i64 off, .int .i64 line, .int .i64 col]

set_option maxHeartbeats 800000 in
set_option maxRecDepth 100000 in
/-- Position, at a position that a file owns. -/
theorem setpos_hit {w : World} {B sb : Nat} {fv last : Value} {fs : List FRec} {base : Int} (h : SetIs w B sb fv fs base last) (hl : Lay fs base) (hb : base ≤ 4294967296) (hn : fs.length ≤ 1048576) (p : Int) (f : FRec) (idx : Nat) (ho : owner fs p = some f)
    (hbd : Bnd f.lines (p - f.base) (idx + 1)) (h0 : 0 ≤ f.lines.getD idx 0) (hln : f.lines.length ≤ 1048576) :
    Calls Edhg.prog 15 #[.pointer (some ⟨sb, 0, none⟩), .int .i64 p] w fun e w' => e = .returned (posVal f.name (p - f.base) ((idx : Int) + 1) (p - f.base - f.lines.getD idx 0 + 1)) ∧ ∃ last', SetIs w' B sb fv fs base last' ∧ Fr w w' (fun k => k = sb) := by
  obtain ⟨hf, hhas⟩ := owner_mem ho
  have hfb := hl.each f hf
  rw [FRec.has_iff] at hhas
  have hp0 : 0 < p := by omega
  have hlt := h.set.lt
  have hfile := fun o => file_any (h.below ((Below.refl w.heap.size w).alloc (Nat.le_refl _) o)) hl (by omega) hn p
  simp only [ho, ptrOf] at hfile
  have hpos := fun (w4 : World) (last' : Value) (h4 : SetIs w4 B sb fv fs base last') => position_any f.blk sb B idx f.name f.base f.size p (p - f.base) (f.lines.getD idx 0) f.lv f.lines w4 (h4.file f hf) (h4.line f hf) hbd rfl hln rfl (by omega) (by omega) h0 (by omega) (by omega)
  generalize f.lines.getD idx 0 = lx at *
  generalize hoff : p - f.base = off at *
  have HF : Hid _ := hfile
  have HP : Hid _ := hpos
  clear hfile hpos hbd ho hf hln h hl hoff
  unfold FRec.ptr at HF
  go_enter Edhg.func15, Edhg.ntmps15
  go_wp2_with fail
  refine Calls.mono (HF.out _) ?_
  rintro e w4 ⟨rfl, last', h4, fr4⟩
  have H4 : Hid (SetIs w4 B sb fv fs base last') := h4
  have hb4 := fr4.blk (Blk.new w _ _) (by omega)
  have F4 : Hid _ := fr4
  clear h4 fr4 HF
  go_wp2_with fail
  refine Calls.mono (HP.out w4 last' H4.out) ?_
  rintro e w5 ⟨rfl, hb5⟩
  have hb5' := (Fr.of_below hb5 (fun _ => False)).blk hb4 (fun h => h)
  have H5 : Hid (SetIs w5 B sb fv fs base last') := H4.out.below hb5
  have F5 : Hid (Fr w w5 (fun k => k = sb)) := (((Fr.refl w (fun k => k = sb)).alloc _).trans F4.out (fun _ h => h) (fun _ _ h => h)).trans (Fr.of_below hb5 (fun k => k = sb)) (fun _ h => h) (fun _ _ h => h)
  have E := H5.out.scratch4 hb5' (.string f.name) (.int .i64 off) (.int .i64 ((idx : Int) + 1)) (.int .i64 (off - lx + 1))
  have HE : Hid _ := E
  have a0 := hb5'.cell (o := 0) rfl
  have a1 := hb5'.cell (o := 1) rfl
  have a2 := hb5'.cell (o := 2) rfl
  have a3 := hb5'.cell (o := 3) rfl
  have z0 := hb5'.free 0
  have z1 := hb5'.free 1
  have z2 := hb5'.free 2
  have z3 := hb5'.free 3
  clear hb5 HP E hb5' hb4 H4 F4
  have s0 := World.cell?_setCell_same w5 ⟨w.heap.size, 0, none⟩ (.string f.name) a0
  have b1 : (w5.setCell ⟨w.heap.size, 0, none⟩ (.string f.name)).cell? ⟨w.heap.size, 1, none⟩ = _ := (World.cell?_setCell_other _ _ _ _ (by simp)).trans a1
  have s1 := World.cell?_setCell_same _ ⟨w.heap.size, 1, none⟩ (.int .i64 off) b1
  have b2 : ((w5.setCell ⟨w.heap.size, 0, none⟩ (.string f.name)).setCell ⟨w.heap.size, 1, none⟩ (.int .i64 off)).cell? ⟨w.heap.size, 2, none⟩ = _ := (World.cell?_setCell_other _ _ _ _ (by simp)).trans ((World.cell?_setCell_other _ _ _ _ (by simp)).trans a2)
  have s2 := World.cell?_setCell_same _ ⟨w.heap.size, 2, none⟩ (.int .i64 ((idx : Int) + 1)) b2
  have b3 : (((w5.setCell ⟨w.heap.size, 0, none⟩ (.string f.name)).setCell ⟨w.heap.size, 1, none⟩ (.int .i64 off)).setCell ⟨w.heap.size, 2, none⟩ (.int .i64 ((idx : Int) + 1))).cell? ⟨w.heap.size, 3, none⟩ = _ := (World.cell?_setCell_other _ _ _ _ (by simp)).trans ((World.cell?_setCell_other _ _ _ _ (by simp)).trans ((World.cell?_setCell_other _ _ _ _ (by simp)).trans a3))
  have s3 := World.cell?_setCell_same _ ⟨w.heap.size, 3, none⟩ (.int .i64 (off - lx + 1)) b3
  have HSS : Hid _ := And.intro s0 (And.intro s1 (And.intro s2 s3))
  clear s0 s1 s2 s3 b1 b2 b3
  go_wp2
  obtain ⟨s0, s1, s2, s3⟩ := HSS.out
  refine bodyPost_ret (v := posVal f.name off ((idx : Int) + 1) (off - lx + 1)) (by simp [results, Edhg.results15, go_sem, posVal, s0, s1, s2, s3]) rfl ⟨rfl, last', HE.out, ?_⟩
  exact (((F5.out.setCell (p := ⟨w.heap.size, 0, none⟩) (fun h => absurd h (Nat.lt_irrefl _)) _).setCell (p := ⟨w.heap.size, 1, none⟩) (fun h => absurd h (Nat.lt_irrefl _)) _).setCell (p := ⟨w.heap.size, 2, none⟩) (fun h => absurd h (Nat.lt_irrefl _)) _).setCell (p := ⟨w.heap.size, 3, none⟩) (fun h => absurd h (Nat.lt_irrefl _)) _
end Go.Proofs.Yoedhw
