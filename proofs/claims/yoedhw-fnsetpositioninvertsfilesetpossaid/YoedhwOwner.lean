/-
  (*SourceFileSet).file: the file that owns a position.
-/
import Derived.Test.YoedhwCount
namespace Go.Proofs.Yoedhw
open Go.RowKit

/-- The file holds the position. -/
def FRec.has (f : FRec) (p : Int) : Bool := decide (f.base ≤ p) && decide (p ≤ f.base + f.size)
theorem FRec.has_iff (f : FRec) (p : Int) : f.has p = true ↔ f.base ≤ p ∧ p ≤ f.base + f.size := by simp [FRec.has]
/-- The file that owns the position. -/
def owner (fs : List FRec) (p : Int) : Option FRec := fs.find? (fun f => f.has p)
/-- A pointer to it; nil where there is none. -/
def ptrOf : Option FRec → Value
  | some f => f.ptr
  | none => .pointer none

theorem pair_one : ∀ (fs : List FRec), fs.Pairwise (fun f g => f.base + f.size < g.base) → ∀ p f g, f ∈ fs → g ∈ fs → f.has p = true → g.has p = true → f = g
  | [], _, p, f, g, hf, _, _, _ => by cases hf
  | a :: fs, hp, p, f, g, hf, hg, h1, h2 => by
    obtain ⟨q1, q2⟩ := List.pairwise_cons.1 hp
    rw [FRec.has_iff] at h1 h2
    rcases List.mem_cons.1 hf with rfl | hf'
    · rcases List.mem_cons.1 hg with rfl | hg'
      · rfl
      · have := q1 g hg'; omega
    · rcases List.mem_cons.1 hg with rfl | hg'
      · have := q1 f hf'; omega
      · exact pair_one fs q2 p f g hf' hg' ((FRec.has_iff _ _).2 h1) ((FRec.has_iff _ _).2 h2)

theorem owner_mem {fs : List FRec} {p : Int} {f : FRec} (h : owner fs p = some f) : f ∈ fs ∧ f.has p = true := by
  unfold owner at h
  exact ⟨List.mem_of_find?_eq_some h, List.find?_some (p := fun f : FRec => f.has p) h⟩
theorem owner_of {fs : List FRec} {base : Int} (hl : Lay fs base) {p : Int} {f : FRec} (hf : f ∈ fs) (hp : f.has p = true) : owner fs p = some f := by
  cases h : owner fs p with
  | none =>
    unfold owner at h
    rw [List.find?_eq_none] at h
    exact absurd hp (h f hf)
  | some g =>
    obtain ⟨h1, h2⟩ := owner_mem h
    rw [pair_one fs hl.pair p g f h1 hf h2 hp]
theorem owner_none {fs : List FRec} {p : Int} (h : ∀ f, f ∈ fs → f.has p = false) : owner fs p = none := by
  unfold owner
  rw [List.find?_eq_none]
  intro f hf
  simp [h f hf]

theorem pair_at {fs : List FRec} (h : fs.Pairwise (fun f g => f.base + f.size < g.base)) {i j : Nat} {f g : FRec} (hf : fs[i]? = some f) (hg : fs[j]? = some g) (hij : i < j) : f.base + f.size < g.base := by
  obtain ⟨h1, e1⟩ := List.getElem?_eq_some_iff.1 hf
  obtain ⟨h2, e2⟩ := List.getElem?_eq_some_iff.1 hg
  rw [← e1, ← e2]
  exact List.pairwise_iff_getElem.1 h i j h1 h2 hij

/-- The search's place tells the owner. -/
theorem owner_parts_zero {fs : List FRec} {p : Int} (hp : Parts fs p 0) : owner fs p = none := by
  refine owner_none (fun f hf => ?_)
  obtain ⟨i, hi⟩ := List.getElem?_of_mem hf
  have := hp.2.2 i f hi (Nat.zero_le _)
  rw [← Bool.not_eq_true, FRec.has_iff]
  omega
theorem owner_parts_hit {fs : List FRec} {base : Int} (hl : Lay fs base) {p : Int} {k : Nat} (hp : Parts fs p (k + 1)) {f : FRec} (hf : fs[k]? = some f) (h : p ≤ f.base + f.size) : owner fs p = some f :=
  owner_of hl (List.mem_of_getElem? hf) ((FRec.has_iff _ _).2 ⟨hp.2.1 k f hf (by omega), h⟩)
theorem owner_parts_miss {fs : List FRec} {base : Int} (hl : Lay fs base) {p : Int} {k : Nat} (hp : Parts fs p (k + 1)) {f : FRec} (hf : fs[k]? = some f) (h : f.base + f.size < p) : owner fs p = none := by
  refine owner_none (fun g hg => ?_)
  obtain ⟨i, hi⟩ := List.getElem?_of_mem hg
  rw [← Bool.not_eq_true, FRec.has_iff]
  rintro ⟨h1, h2⟩
  by_cases hik : i < k
  · have := pair_at hl.pair hi hf hik
    have := (hl.each f (List.mem_of_getElem? hf)).2.1
    omega
  · by_cases e : i = k
    · subst e
      rw [hf] at hi
      obtain rfl := Option.some.inj hi
      omega
    · have := hp.2.2 i g hi (by omega)
      omega

theorem SetIs.setLast {w : World} {B sb : Nat} {fv last : Value} {fs : List FRec} {base : Int} (h : SetIs w B sb fv fs base last) {f : FRec} (hf : f ∈ fs) :
    SetIs (w.setCell ⟨sb, 2, none⟩ f.ptr) B sb fv fs base f.ptr ∧ Fr w (w.setCell ⟨sb, 2, none⟩ f.ptr) (fun k => k = sb) := by
  have fr : Fr w (w.setCell ⟨sb, 2, none⟩ f.ptr) (fun k => k = sb) := (Fr.refl w (fun k => k = sb)).setCell (p := ⟨sb, 2, none⟩) (fun _ => rfl) _
  have hno : ∀ k cs t, Blk w k cs t → t ≠ 49 → ¬ k = sb := by
    rintro k cs t hk ht rfl
    exact ht (hk.inj h.set).2
  refine ⟨⟨h.set.set 2 f.ptr, fr.owns h.row (fun k hk => ?_), h.nil, fun g hg => fr.blk (h.file g hg) (hno _ _ _ (h.file g hg) (by decide)), fun g hg => fr.owns (h.line g hg) (fun k hk => ?_), .inr ⟨f, hf, rfl⟩⟩, fr⟩
  · obtain ⟨_, cur, hc⟩ := owned_blk h.row hk
    exact hno _ _ _ hc (by decide)
  · obtain ⟨_, cur, hc⟩ := owned_blk (h.line g hg) hk
    exact hno _ _ _ hc (by decide)

set_option maxHeartbeats 1000000 in
set_option maxRecDepth 100000 in
/-- (*SourceFileSet).file, the position lying in the file that was looked up last. -/
theorem file_hit {w : World} {B sb : Nat} {fv : Value} {fs : List FRec} {base : Int} {f : FRec} (h : SetIs w B sb fv fs base f.ptr) (hf : f ∈ fs) (p : Int) (h1 : f.base ≤ p) (h2 : p ≤ f.base + f.size) (h3 : 0 ≤ f.base) (h4 : f.base + f.size ≤ 8589934592) (h5 : 0 ≤ f.size) :
    Calls Edhg.prog 36 #[.pointer (some ⟨sb, 0, none⟩), .int .i64 p] w fun e w' => e = .returned f.ptr ∧ ∃ q, w' = w.drewN q := by
  have c2 : w.cell? ⟨sb, 2, none⟩ = some f.ptr := h.set.cell rfl
  have k2 : w.cell? ⟨f.blk, 2, none⟩ = some (.int .i64 f.base) := (h.file f hf).cell rfl
  have k3 : w.cell? ⟨f.blk, 3, none⟩ = some (.int .i64 f.size) := (h.file f hf).cell rfl
  clear h hf
  unfold FRec.ptr at *
  obtain ⟨fb, bs, sz, nm, lv, ls⟩ := f
  simp only at *
  go_enter Edhg.func36, Edhg.ntmps36
  go_wp2_with fail
  go_quiet (fail)
  go_wp2
  go_ret
  exact ⟨rfl, _, rfl⟩
end Go.Proofs.Yoedhw
