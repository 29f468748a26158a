/-
  The walk of FnSetReturnsTheMakingSet.
-/
import Derived.Test.YoedhwMade
import Derived.Deep.RegionHeld3
import Derived.OpenShut
namespace Go.Proofs.Yoedhw
open Go.RowKit

theorem Edhg.make27 (n : Nat) (h : n ≤ 1048576) (w : World) : (Instr.makeSlice 27 (.int .i64 (n : Int)) (.int .i64 (n : Int))).run Edhg.prog w = .ok (.slice (some ⟨w.heap.size, 0, none⟩) n n) (w.alloc (.cells (madeCells #[.pointer none] n) 36)) :=
  run_make_row' (P := Edhg.prog) 27 36 (.pointer none) 8 Edhg.underlying27 Edhg.info36 rfl .i64 .i64 n (by omega) (by omega) w

/-- What the frame says of a slice of numbers, in the walk's words. -/
theorem row_arr {w : World} {a : Option Addr} {len cap : Nat} {zs : List Int} (h : (a = none ∧ len = 0 ∧ cap = 0 ∧ zs = []) ∨ ∃ x, a = some x ∧ len ≤ cap ∧ cap ≤ maxLen ∧ zs.length = cap ∧ (∀ i, i < zs.length → w.cell? (x.add i) = some (.int .i64 (zs.getD i 0))) ∧ ∀ n ∈ zs, (Lit.int .i64 n).wf = true) :
    ∃ xs : List Int, len = xs.length ∧ Arr w a xs ∧ xs.length ≤ maxLen ∧ (a = none → xs = [] ∧ cap = 0) ∧ ∀ i, -9223372036854775808 ≤ xs.getD i 0 ∧ xs.getD i 0 ≤ 9223372036854775807 := by
  rcases h with ⟨rfl, rfl, rfl, rfl⟩ | ⟨x, rfl, h1, h2, h3, h4, h5⟩
  · exact ⟨[], rfl, .inl rfl, by simp, fun _ => ⟨rfl, rfl⟩, fun i => by simp⟩
  · refine ⟨zs.take len, by rw [List.length_take]; omega, ?_, by rw [List.length_take]; omega, fun h => (by cases h), ?_⟩
    · rcases Nat.eq_zero_or_pos len with rfl | hp
      · exact .inl rfl
      · right
        have hx : ∃ b o, x = ⟨b, o, none⟩ := by
          have := h4 0 (by omega)
          obtain ⟨b, o, s⟩ := x
          cases s with
          | none => exact ⟨b, o, rfl⟩
          | some s => exfalso; revert this; simp [Addr.add, World.cell?]; split <;> simp
        obtain ⟨b, o, rfl⟩ := hx
        refine ⟨b, o, rfl, fun i hi => ?_⟩
        rw [List.length_take] at hi
        have := h4 i (by omega)
        rw [Addr.add_lit] at this
        rw [this]
        congr 2
        simp only [List.getD, List.getElem?_take]
        rw [if_pos (by omega)]
    · intro i
      by_cases hi : i < (zs.take len).length
      · have hm : (zs.take len).getD i 0 ∈ zs := by
          simp only [List.getD, List.getElem?_eq_getElem hi, Option.getD_some]
          exact List.mem_of_mem_take (List.getElem_mem hi)
        have := h5 _ hm
        generalize (zs.take len).getD i 0 = z at this ⊢
        exact bounds_i64 this
      · simp only [List.getD, List.getElem?_eq_none (Nat.le_of_not_lt hi), Option.getD_none]
        omega

set_option maxHeartbeats 400000 in
theorem sets_long (a0 a1 : Option Addr) (l0 l1 c0 c1 : Nat) (w : World) (h0 : l0 ≤ maxLen) (h1 : l1 ≤ maxLen) (h : 4096 < l0 ∨ 4096 < l1) :
    Calls Edhg.prog 9 #[.slice a0 l0 c0, .slice a1 l1 c1] w fun e w' => e = .returned (.bool true) ∧ Below w.heap.size w w' := by
  by_cases q : 1048576 < l0 + l1
  · go_enter Edhg.func9, Edhg.ntmps9
    go_wp2_with fail
    refine (bytes29_no a0 l0 c0 a1 l1 c1 _ h0 h1 q).mono ?_
    rintro e w' ⟨rfl, rfl⟩
    go_wp2
    go_ret
    exact ⟨rfl, Below.refl _ _⟩
  · have hb := bytes29_yes a0 l0 c0 a1 l1 c1 w (by omega)
    have HB : Hid (Calls Edhg.prog 29 #[.slice a0 l0 c0, .slice a1 l1 c1] w fun e w' => e = .returned (.bool true) ∧ w' = w) := hb
    clear hb
    by_cases q1 : 1048576 < l0 * 8 + l1 * 8
    · go_enter Edhg.func9, Edhg.ntmps9
      go_wp2_with fail
      refine HB.out.mono ?_
      rintro e w' ⟨rfl, rfl⟩
      go_wp2
      go_ret
      exact ⟨rfl, Below.refl _ _⟩
    · by_cases q2 : 4096 < l0
      · go_enter Edhg.func9, Edhg.ntmps9
        go_wp2_with fail
        refine HB.out.mono ?_
        rintro e w' ⟨rfl, rfl⟩
        go_wp2
        go_ret
        exact ⟨rfl, Below.refl _ _⟩
      · have q3 : 4096 < l1 := by omega
        go_enter Edhg.func9, Edhg.ntmps9
        go_wp2_with fail
        refine HB.out.mono ?_
        rintro e w' ⟨rfl, rfl⟩
        go_wp2
        go_ret
        exact ⟨rfl, Below.refl _ _⟩

set_option maxHeartbeats 400000 in
theorem sets_unfit (a0 a1 : Option Addr) (c0 c1 : Nat) (xs ys : List Int) (w : World) (hx : Arr w a0 xs) (hy : Arr w a1 ys) (h0 : xs.length ≤ 4096) (h1 : ys.length ≤ 4096) (h : fitB xs = false ∨ fitB ys = false) :
    Calls Edhg.prog 9 #[.slice a0 xs.length c0, .slice a1 ys.length c1] w fun e w' => e = .returned (.bool true) ∧ Below w.heap.size w w' := by
  have HB : Hid (Calls Edhg.prog 29 #[.slice a0 xs.length c0, .slice a1 ys.length c1] w fun e w' => e = .returned (.bool true) ∧ w' = w) := bytes29_yes a0 xs.length c0 a1 ys.length c1 w (by omega)
  have hf0 := fits_any a0 c0 xs w hx (by unfold maxLen; omega)
  have hf1 := fits_any a1 c1 ys w hy (by unfold maxLen; omega)
  cases hfx : fitB xs with
  | false =>
    rw [hfx] at hf0
    have H0 : Hid (Calls Edhg.prog 12 #[.slice a0 xs.length c0] w fun e w' => e = .returned (.bool false) ∧ w' = w) := hf0
    clear hf0 hf1 h hfx hx hy
    go_enter Edhg.func9, Edhg.ntmps9
    go_wp2_with fail
    refine HB.out.mono ?_
    rintro e w' ⟨rfl, rfl⟩
    go_wp2_with fail
    refine H0.out.mono ?_
    rintro e w' ⟨rfl, rfl⟩
    go_wp2
    go_ret
    exact ⟨rfl, Below.refl _ _⟩
  | true =>
    have hfy : fitB ys = false := by rcases h with h | h; (rw [hfx] at h; cases h); exact h
    rw [hfx] at hf0
    rw [hfy] at hf1
    have H0 : Hid (Calls Edhg.prog 12 #[.slice a0 xs.length c0] w fun e w' => e = .returned (.bool true) ∧ w' = w) := hf0
    have H1 : Hid (Calls Edhg.prog 12 #[.slice a1 ys.length c1] w fun e w' => e = .returned (.bool false) ∧ w' = w) := hf1
    clear hf0 hf1 h hfx hfy hx hy
    go_enter Edhg.func9, Edhg.ntmps9
    go_wp2_with fail
    refine HB.out.mono ?_
    rintro e w' ⟨rfl, rfl⟩
    go_wp2_with fail
    refine H0.out.mono ?_
    rintro e w' ⟨rfl, rfl⟩
    go_wp2_with fail
    refine H1.out.mono ?_
    rintro e w' ⟨rfl, rfl⟩
    go_wp2
    go_ret
    exact ⟨rfl, Below.refl _ _⟩
end Go.Proofs.Yoedhw
