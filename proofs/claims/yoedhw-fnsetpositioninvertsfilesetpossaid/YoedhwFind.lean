/-
  (*SourceFileSet).file, the rest; ZZfile; File.
-/
import Derived.Test.YoedhwOwner
namespace Go.Proofs.Yoedhw
open Go.RowKit

/-- The file that was looked up last does not hold p. -/
def Cold (fs : List FRec) (last : Value) (p : Int) : Prop := last = .pointer none ∨ ∃ f, f ∈ fs ∧ last = f.ptr ∧ (p < f.base ∨ (f.base ≤ p ∧ f.base + f.size < p))

set_option maxHeartbeats 1000000 in
set_option maxRecDepth 100000 in
theorem file_cold {w : World} {B sb : Nat} {fv last : Value} {fs : List FRec} {base : Int} (h : SetIs w B sb fv fs base last) (hl : Lay fs base) (hb : base ≤ 8589934592) (hn : fs.length ≤ 1048576) (p : Int) (hc : Cold fs last p) :
    Calls Edhg.prog 36 #[.pointer (some ⟨sb, 0, none⟩), .int .i64 p] w fun e w' => e = .returned (ptrOf (owner fs p)) ∧ ∃ last', SetIs w' B sb fv fs base last' ∧ Fr w w' (fun k => k = sb) := by
  have c1 : w.cell? ⟨sb, 1, none⟩ = some fv := h.set.cell rfl
  have c2 : w.cell? ⟨sb, 2, none⟩ = some last := h.set.cell rfl
  have HH : Hid (SetIs w B sb fv fs base last ∧ Lay fs base ∧ Cold fs last p) := ⟨h, hl, hc⟩
  clear h hl hc
  go_enter Edhg.func36, Edhg.ntmps36
  go_upto_region 2 with fail
  go_cut [34] (fun t wc => t = .bool false ∧ ∃ q, wc = w.drewN q)
  case first =>
    obtain ⟨h, hl, hc⟩ := HH.out
    clear HH
    rcases hc with rfl | ⟨f, hf, rfl, hc⟩
    · clear h hl
      go_quiet (fail)
      go_wp2
      go_meet
      case rel => exact ⟨rfl, _, rfl⟩
    · have k2 : w.cell? ⟨f.blk, 2, none⟩ = some (.int .i64 f.base) := (h.file f hf).cell rfl
      have k3 : w.cell? ⟨f.blk, 3, none⟩ = some (.int .i64 f.size) := (h.file f hf).cell rfl
      have hbd := hl.each f hf
      clear h hl hf
      unfold FRec.ptr at *
      obtain ⟨fb, bs, sz, nm, lv, ls⟩ := f
      simp only at *
      rcases hc with hc | ⟨hc, hc2⟩
      · have hd : decide (bs ≤ p) = false := by simp; omega
        go_quiet (fail)
        go_wp2
        go_meet
        case rel => exact ⟨rfl, _, rfl⟩
      · have hd : decide (p ≤ bs + sz) = false := by simp; omega
        go_quiet (fail)
        go_wp2
        go_meet
        case rel => exact ⟨by simp, _, rfl⟩
  case rest =>
    obtain ⟨rfl, q, rfl⟩ := hcut
    have hs : SetIs (w.drewN q) B sb fv fs base last := HH.out.1.below (below_draws w q)
    have hz := files_any hs p (cnt fs p) (HH.out.2.1.parts p) hn
    have hcl := cnt_le fs p
    have HZ : Hid _ := hz
    have HS : Hid (SetIs (w.drewN q) B sb fv fs base last) := hs
    clear hz hs
    go_wp2_with fail
    refine Calls.mono HZ.out ?_
    rintro e w4 ⟨rfl, hb4⟩
    have h4 := HS.out.below hb4
    have fr4 : Fr w w4 (fun k => k = sb) := Fr.of_below ((below_draws w q).trans hb4) _
    have H4 : Hid (SetIs w4 B sb fv fs base last ∧ Fr w w4 (fun k => k = sb)) := ⟨h4, fr4⟩
    have d1 : w4.cell? ⟨sb, 1, none⟩ = some fv := h4.set.cell rfl
    have d2 : w4.cell? ⟨sb, 2, none⟩ = some last := h4.set.cell rfl
    have d3 := h4.set.free 2
    clear HZ HS hb4 h4 fr4
    have hpt := HH.out.2.1.parts p
    have hlay := HH.out.2.1
    generalize hm : cnt fs p = m at *
    clear hm HH
    cases m with
    | zero =>
      have HO : Hid (owner fs p = none) := owner_parts_zero hpt
      clear hpt hlay
      go_wp2
      go_ret
      rw [HO.out]
      exact ⟨rfl, last, H4.out⟩
    | succ k =>
      have hk : k < fs.length := by omega
      obtain ⟨g, cap, e, hcell⟩ := H4.out.1.cells hk
      have hfk : fs[k]? = some fs[k] := List.getElem?_eq_getElem hk
      have hmem := List.getElem_mem hk
      have k2 : w4.cell? ⟨fs[k].blk, 2, none⟩ = some (.int .i64 fs[k].base) := (H4.out.1.file _ hmem).cell rfl
      have k3 : w4.cell? ⟨fs[k].blk, 3, none⟩ = some (.int .i64 fs[k].size) := (H4.out.1.file _ hmem).cell rfl
      have hbd := hlay.each _ hmem
      have hset := H4.out.1.setLast hmem
      have hhit := owner_parts_hit hlay hpt hfk
      have hmiss := owner_parts_miss hlay hpt hfk
      subst e
      generalize hfe : fs[k] = f at *
      have HK : Hid _ := And.intro hset (And.intro hhit hmiss)
      clear hset hhit hmiss hpt hlay hfk hmem hfe
      unfold FRec.ptr at hcell HK
      have hki : (k : Int) < (fs.length : Int) := by omega
      by_cases hle : p ≤ f.base + f.size
      · go_wp2_with fail
        go_quiet (fail)
        go_wp2
        go_ret
        rw [HK.out.2.1 hle]
        exact ⟨rfl, _, HK.out.1.1.below (below_draws _ nq), H4.out.2.trans (HK.out.1.2.trans (Fr.of_below (below_draws _ nq) (fun k => k = sb)) (fun _ h => h) (fun _ _ h => h)) (fun _ h => h) (fun _ _ h => h)⟩
      · have hd : decide (p ≤ f.base + f.size) = false := by simpa using hle
        go_wp2_with fail
        go_quiet (fail)
        go_wp2
        go_ret
        rw [HK.out.2.2 (by omega)]
        exact ⟨rfl, last, H4.out.1.below (below_draws _ nq), H4.out.2.trans (Fr.of_below (below_draws _ nq) (fun k => k = sb)) (fun _ h => h) (fun _ _ h => h)⟩

/-- (*SourceFileSet).file. -/
theorem file_any {w : World} {B sb : Nat} {fv last : Value} {fs : List FRec} {base : Int} (h : SetIs w B sb fv fs base last) (hl : Lay fs base) (hb : base ≤ 8589934592) (hn : fs.length ≤ 1048576) (p : Int) :
    Calls Edhg.prog 36 #[.pointer (some ⟨sb, 0, none⟩), .int .i64 p] w fun e w' => e = .returned (ptrOf (owner fs p)) ∧ ∃ last', SetIs w' B sb fv fs base last' ∧ Fr w w' (fun k => k = sb) := by
  rcases h.last with ⟨e, _⟩ | ⟨f, hf, e⟩
  · exact file_cold h hl hb hn p (.inl e)
  · by_cases h1 : f.base ≤ p
    · by_cases h2 : p ≤ f.base + f.size
      · subst e
        have hbd := hl.each f hf
        refine (file_hit h hf p h1 h2 (by omega) (by omega) (by omega)).mono fun e w' ⟨he, q, hw⟩ => ⟨?_, f.ptr, ?_, ?_⟩
        · rw [he, owner_of hl hf ((FRec.has_iff _ _).2 ⟨h1, h2⟩)]; rfl
        · rw [hw]; exact h.below (below_draws w q)
        · rw [hw]; exact Fr.of_below (below_draws w q) _
      · exact file_cold h hl hb hn p (.inr ⟨f, hf, e, .inr ⟨h1, by omega⟩⟩)
    · exact file_cold h hl hb hn p (.inr ⟨f, hf, e, .inl (by omega)⟩)

/-- ZZfile. -/
theorem zzfile_any {w : World} {B sb : Nat} {fv last : Value} {fs : List FRec} {base : Int} (h : SetIs w B sb fv fs base last) (hl : Lay fs base) (hb : base ≤ 8589934592) (hn : fs.length ≤ 1048576) (p : Int) :
    Calls Edhg.prog 24 #[.pointer (some ⟨sb, 0, none⟩), .int .i64 p] w fun e w' => e = .returned (ptrOf (owner fs p)) ∧ ∃ last', SetIs w' B sb fv fs base last' ∧ Fr w w' (fun k => k = sb) := by
  have HF : Hid _ := file_any h hl hb hn p
  clear h hl hb hn
  go_enter Edhg.func24, Edhg.ntmps24
  go_wp2_with fail
  refine Calls.mono HF.out ?_
  rintro e w' ⟨rfl, hx⟩
  have HX : Hid _ := hx
  clear hx
  go_wp2
  go_ret
  exact ⟨rfl, HX.out⟩

/-- File, at a position that is not nought. -/
theorem File_any {w : World} {B sb : Nat} {fv last : Value} {fs : List FRec} {base : Int} (h : SetIs w B sb fv fs base last) (hl : Lay fs base) (hb : base ≤ 8589934592) (hn : fs.length ≤ 1048576) (p : Int) (hp : 0 < p) :
    Calls Edhg.prog 34 #[.pointer (some ⟨sb, 0, none⟩), .int .i64 p] w fun e w' => e = .returned (ptrOf (owner fs p)) ∧ ∃ last', SetIs w' B sb fv fs base last' ∧ Fr w w' (fun k => k = sb) := by
  have HF : Hid _ := file_any h hl hb hn p
  clear h hl hb hn
  go_enter Edhg.func34, Edhg.ntmps34
  go_wp2_with fail
  refine Calls.mono HF.out ?_
  rintro e w' ⟨rfl, hx⟩
  have HX : Hid _ := hx
  clear hx
  go_wp2
  go_ret
  exact ⟨rfl, HX.out⟩
end Go.Proofs.Yoedhw
