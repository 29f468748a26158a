/-
  sort.Search at the closure of searchFiles; searchFiles; ZZsearchFiles.
-/
import Derived.Test.YoedhwMade
import Derived.Deep.Draws
import Derived.Deep.QuietTactic
import Derived.BigQuiet
namespace Go.Proofs.Yoedhw
open Go.RowKit

set_option maxHeartbeats 400000 in
/-- The closure: 'func(i int) bool { return a[i].Base > x }'. -/
theorem closure_any (pa px g n cap fb i : Nat) (x base : Int) (W : World) (hi : i < n) (ha : W.cell? ⟨pa, 0, none⟩ = some (.slice (some ⟨g, 0, none⟩) n cap)) (hx : W.cell? ⟨px, 0, none⟩ = some (.int .i64 x))
    (hp : W.cell? ⟨g, i, none⟩ = some (.pointer (some ⟨fb, 0, none⟩))) (hb : W.cell? ⟨fb, 2, none⟩ = some (.int .i64 base)) :
    Calls Edhg.prog 43 #[.int .i64 i, .pointer (some ⟨pa, 0, none⟩), .pointer (some ⟨px, 0, none⟩)] W fun e w' => e = .returned (.bool (decide (x < base))) ∧ ∃ q, w' = W.drewN q := by
  have hiz : (i : Int) < (n : Int) := by omega
  go_enter Edhg.func43, Edhg.ntmps43
  go_wp2
  go_quiet (fail)
  go_wp2
  go_ret
  exact ⟨rfl, _, rfl⟩

set_option maxHeartbeats 1000000 in
set_option maxRecDepth 100000 in
/-- sort.Search, at a predicate that turns from false to true at place m. -/
theorem search_any (pa px n m : Nat) (w : World) (p : Nat → Bool) (hn : n ≤ 1048576) (hm : m ≤ n) (hlo : ∀ i, i < m → p i = false) (hhi : ∀ i, m ≤ i → i < n → p i = true)
    (hf : ∀ q i, i < n → Calls Edhg.prog 43 #[.int .i64 (i : Nat), .pointer (some ⟨pa, 0, none⟩), .pointer (some ⟨px, 0, none⟩)] (w.drewN q) fun e w' => e = .returned (.bool (p i)) ∧ ∃ q, w' = w.drewN q) :
    Calls Edhg.prog 42 #[.int .i64 n, .func (.func 43) #[] #[.pointer (some ⟨pa, 0, none⟩), .pointer (some ⟨px, 0, none⟩)]] w fun e w' => e = .returned (.int .i64 m) ∧ ∃ q, w' = w.drewN q := by
  have HF : Hid _ := hf
  have HP : Hid ((∀ i, i < m → p i = false) ∧ (∀ i, m ≤ i → i < n → p i = true)) := ⟨hlo, hhi⟩
  clear hf hlo hhi
  go_enter Edhg.func42, Edhg.ntmps42
  go_wp2
  go_loopw [5, 6] (fun s5 s6 wr => ∃ (lo hi q : Nat), s5 = .int .i64 lo ∧ s6 = .int .i64 hi ∧ lo ≤ m ∧ m ≤ hi ∧ hi ≤ n ∧ wr = w.drewN q) (fun s5 s6 _ => (intOf s6).toNat - (intOf s5).toNat)
  case atStart => exact ⟨0, n, 0, rfl, rfl, Nat.zero_le _, hm, Nat.le_refl _, rfl⟩
  case round =>
    obtain ⟨lo, hi, q, rfl, rfl, h1, h2, h3, rfl⟩ := hrel
    by_cases hlt : lo < hi
    · have hc := HF.out q ((lo + hi) / 2) (by omega)
      rw [show (((lo + hi) / 2 : Nat) : Int) = ((lo : Int) + (hi : Int)) / 2 by omega] at hc
      by_cases hp : (lo + hi) / 2 < m
      · rw [HP.out.1 _ hp] at hc
        go_wp2_with (go_at_call 43; refine hc.mono ?_; rintro e w' ⟨rfl, nq, rfl⟩)
        go_roundw
        case rel => exact ⟨(lo + hi) / 2 + 1, hi, nq, by go_num, rfl, by omega, h2, h3, rfl⟩
        case measure => simp [intOf]; omega
      · rw [HP.out.2 _ (by omega) (by omega)] at hc
        go_wp2_with (go_at_call 43; refine hc.mono ?_; rintro e w' ⟨rfl, nq, rfl⟩)
        go_roundw
        case rel => exact ⟨lo, (lo + hi) / 2, nq, rfl, by go_num, h1, by omega, by omega, rfl⟩
        case measure => simp [intOf]; omega
    · obtain rfl : lo = m := by omega
      go_wp2
      go_ret
      exact ⟨rfl, q, rfl⟩
/-- Place m parts the files: those ahead of it begin at x or before, those from it on behind x. -/
def Parts (fs : List FRec) (x : Int) (m : Nat) : Prop := m ≤ fs.length ∧ (∀ i f, fs[i]? = some f → i < m → f.base ≤ x) ∧ ∀ i f, fs[i]? = some f → m ≤ i → x < f.base

theorem cell_drewN {w : World} {a : Addr} {v : Value} (h : w.cell? a = some v) (q : Nat) : (w.drewN q).cell? a = some v := h

/-- What the files of a set lead to. -/
theorem SetIs.cells {w : World} {B sb : Nat} {fv last : Value} {fs : List FRec} {base : Int} (h : SetIs w B sb fv fs base last) {i : Nat} (hi : i < fs.length) :
    ∃ g cap, fv = .slice (some ⟨g, 0, none⟩) fs.length cap ∧ w.cell? ⟨g, i, none⟩ = some fs[i].ptr := by
  rcases h.row.2 with ⟨_, e⟩ | ⟨g, cap, cur, e, _, hg, _, _, _, ht⟩
  · omega
  · refine ⟨g, cap, e, ?_⟩
    have hb : Blk w g cur 36 := hg
    refine hb.cell ?_
    have := congrArg (·[i]?) ht
    simp only [Nat.mul_one, List.getElem?_take, List.getElem?_map, List.getElem?_eq_getElem hi, Option.map_some] at this
    rw [if_pos hi] at this
    simpa using this

set_option maxHeartbeats 400000 in
/-- searchFiles. -/
theorem files_any {w : World} {B sb : Nat} {fv last : Value} {fs : List FRec} {base : Int} (h : SetIs w B sb fv fs base last) (x : Int) (m : Nat) (hp : Parts fs x m) (hn : fs.length ≤ 1048576) :
    Calls Edhg.prog 40 #[fv, .int .i64 x] w fun e w' => e = .returned (.int .i64 ((m : Int) - 1)) ∧ Below w.heap.size w w' := by
  obtain ⟨hm, p1, p2⟩ := hp
  have hv : ∃ ao cap, fv = .slice ao fs.length cap := by
    rcases h.row.2 with ⟨e, e0⟩ | ⟨g, cap, cur, e, _⟩
    · exact ⟨none, 0, by rw [e, e0]⟩
    · exact ⟨_, cap, e⟩
  have hcl : ∀ q i, i < fs.length → Calls Edhg.prog 43 #[.int .i64 (i : Nat), .pointer (some ⟨w.heap.size, 0, none⟩), .pointer (some ⟨w.heap.size + 1, 0, none⟩)] (((w.alloc (.cells #[fv] 27)).alloc (.cells #[.int .i64 x] 3)).drewN q) fun e w' => e = .returned (.bool ((fun i => decide (x < (fs[i]?.map FRec.base).getD 0)) i)) ∧ ∃ q, w' = ((w.alloc (.cells #[fv] 27)).alloc (.cells #[.int .i64 x] 3)).drewN q := by
    intro q i hi
    obtain ⟨g, cap, e, hc⟩ := h.cells hi
    have hb := (h.file fs[i] (List.getElem_mem hi)).cell (o := 2) (v := .int .i64 fs[i].base) rfl
    have c := closure_any w.heap.size (w.heap.size + 1) g fs.length cap fs[i].blk i x fs[i].base (((w.alloc (.cells #[fv] 27)).alloc (.cells #[.int .i64 x] 3)).drewN q) hi
      (cell_drewN (cell_alloc_later (by rw [e]; exact (Blk.new w _ _).cell rfl) _) q) (cell_drewN (by have := (Blk.new (w.alloc (.cells #[fv] 27)) #[.int .i64 x] 3).cell (o := 0) (v := .int .i64 x) rfl; rwa [World.size_alloc] at this) q)
      (cell_drewN (cell_alloc_later (cell_alloc_later hc _) _) q) (cell_drewN (cell_alloc_later (cell_alloc_later hb _) _) q)
    refine c.mono fun e w' ⟨he, q', hq⟩ => ⟨by rw [he]; simp [hi], q + q', by rw [hq, World.drewN_drewN]⟩
  have hs := search_any w.heap.size (w.heap.size + 1) fs.length m ((w.alloc (.cells #[fv] 27)).alloc (.cells #[.int .i64 x] 3)) (fun i => decide (x < (fs[i]?.map FRec.base).getD 0)) hn hm (fun i hi => by
    have hl : i < fs.length := by omega
    have := p1 i fs[i] (List.getElem?_eq_getElem hl) hi
    simp [hl]; omega) (fun i hi hl => by
    have := p2 i fs[i] (List.getElem?_eq_getElem hl) hi
    simp [hl]; omega) hcl
  clear hcl p1 p2
  obtain ⟨ao, cap, rfl⟩ := hv
  have HS : Hid _ := hs
  clear hs h
  go_enter Edhg.func40, Edhg.ntmps40
  go_wp2_with fail
  refine Calls.mono HS.out ?_
  rintro e w' ⟨rfl, q, rfl⟩
  go_wp2
  go_ret
  exact ⟨rfl, ⟨rfl, rfl, rfl, by simp [World.drewN]; omega, fun k hk => by
    show (((w.alloc _).alloc _).heap)[k]? = _
    rw [Below.heap_alloc _ _ _ (by simp; omega), Below.heap_alloc _ _ _ hk]⟩⟩

/-- ZZsearchFiles. -/
theorem zzfiles_any {w : World} {B sb : Nat} {fv last : Value} {fs : List FRec} {base : Int} (h : SetIs w B sb fv fs base last) (x : Int) (m : Nat) (hp : Parts fs x m) (hn : fs.length ≤ 1048576) :
    Calls Edhg.prog 27 #[fv, .int .i64 x] w fun e w' => e = .returned (.int .i64 ((m : Int) - 1)) ∧ Below w.heap.size w w' := by
  have HS : Hid _ := files_any h x m hp hn
  clear h hp hn
  go_enter Edhg.func27, Edhg.ntmps27
  go_wp2_with fail
  refine Calls.mono HS.out ?_
  rintro e w' ⟨rfl, hb⟩
  go_wp2
  go_ret
  exact ⟨rfl, hb⟩
end Go.Proofs.Yoedhw
