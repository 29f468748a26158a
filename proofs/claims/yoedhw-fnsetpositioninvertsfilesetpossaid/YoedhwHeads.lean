/-
  The heads of the laws: where a bound is not met the answer is true and nothing has turned.
-/
import Derived.Test.YoedhwSets
namespace Go.Proofs.Yoedhw
open Go.RowKit

set_option maxHeartbeats 400000 in
theorem long7 (a0 : Option Addr) (l0 c0 : Nat) (a1 : Option Addr) (l1 c1 : Nat) (x2 : Int) (w : World) (h0 : l0 ≤ maxLen) (h1 : l1 ≤ maxLen) (h : 4096 < l0 ∨ 4096 < l1) :
    Calls Edhg.prog 7 #[.slice a0 l0 c0, .slice a1 l1 c1, .int .i64 x2] w fun e w' => e = .returned (.bool true) ∧ Below w.heap.size w w' := by
  by_cases q : 1048576 < l0 + l1
  · have HB : Hid (Calls Edhg.prog 26 #[.slice a0 l0 c0, .slice a1 l1 c1, .int .i64 x2] w fun e w' => e = .returned (.bool false) ∧ w' = w) := bytes26_no a0 l0 c0 a1 l1 c1 x2 w h0 h1 q
    go_enter Edhg.func7, Edhg.ntmps7
    go_wp2_with fail
    refine Calls.mono HB.out ?_
    rintro e w' ⟨rfl, rfl⟩
    go_wp2
    go_ret
    exact ⟨rfl, Below.refl _ _⟩
  · have HB : Hid (Calls Edhg.prog 26 #[.slice a0 l0 c0, .slice a1 l1 c1, .int .i64 x2] w fun e w' => e = .returned (.bool true) ∧ w' = w) := bytes26_yes a0 l0 c0 a1 l1 c1 x2 w (by omega)
    by_cases q1 : 1048576 < l0 * 8 + l1 * 8
    · go_enter Edhg.func7, Edhg.ntmps7
      go_wp2_with fail
      refine Calls.mono HB.out ?_
      rintro e w' ⟨rfl, rfl⟩
      go_wp2
      go_ret
      exact ⟨rfl, Below.refl _ _⟩
    · by_cases q20 : 4096 < l0
      · go_enter Edhg.func7, Edhg.ntmps7
        go_wp2_with fail
        refine Calls.mono HB.out ?_
        rintro e w' ⟨rfl, rfl⟩
        go_wp2
        go_ret
        exact ⟨rfl, Below.refl _ _⟩
      · have q21 : 4096 < l1 := by omega
        go_enter Edhg.func7, Edhg.ntmps7
        go_wp2_with fail
        refine Calls.mono HB.out ?_
        rintro e w' ⟨rfl, rfl⟩
        go_wp2
        go_ret
        exact ⟨rfl, Below.refl _ _⟩

set_option maxHeartbeats 400000 in
theorem unfit7 (a0 : Option Addr) (c0 : Nat) (z0 : List Int) (a1 : Option Addr) (c1 : Nat) (z1 : List Int) (x2 : Int) (w : World) (k0 : Arr w a0 z0) (k1 : Arr w a1 z1) (h0 : z0.length ≤ 4096) (h1 : z1.length ≤ 4096) (h : fitB z0 = false ∨ fitB z1 = false) :
    Calls Edhg.prog 7 #[.slice a0 z0.length c0, .slice a1 z1.length c1, .int .i64 x2] w fun e w' => e = .returned (.bool true) ∧ Below w.heap.size w w' := by
  have HB : Hid (Calls Edhg.prog 26 #[.slice a0 z0.length c0, .slice a1 z1.length c1, .int .i64 x2] w fun e w' => e = .returned (.bool true) ∧ w' = w) := bytes26_yes a0 z0.length c0 a1 z1.length c1 x2 w (by omega)
  have g0 := fits_any a0 c0 z0 w k0 (by unfold maxLen; omega)
  have g1 := fits_any a1 c1 z1 w k1 (by unfold maxLen; omega)
  cases f0 : fitB z0 with
  | false =>
    have H0 : Hid (Calls Edhg.prog 12 #[.slice a0 z0.length c0] w fun e w' => e = .returned (.bool false) ∧ w' = w) := by rw [f0] at g0; exact g0
    clear g0 g1 f0 h k0 k1
    go_enter Edhg.func7, Edhg.ntmps7
    go_wp2_with fail
    refine Calls.mono HB.out ?_
    rintro e w' ⟨rfl, rfl⟩
    go_wp2_with fail
    refine Calls.mono H0.out ?_
    rintro e w' ⟨rfl, rfl⟩
    go_wp2
    go_ret
    exact ⟨rfl, Below.refl _ _⟩
  | true =>
    have f1 : fitB z1 = false := h.resolve_left (by rw [f0]; decide)
    have H0 : Hid (Calls Edhg.prog 12 #[.slice a0 z0.length c0] w fun e w' => e = .returned (.bool true) ∧ w' = w) := by rw [f0] at g0; exact g0
    have H1 : Hid (Calls Edhg.prog 12 #[.slice a1 z1.length c1] w fun e w' => e = .returned (.bool false) ∧ w' = w) := by rw [f1] at g1; exact g1
    clear g0 g1 f0 f1 h k0 k1
    go_enter Edhg.func7, Edhg.ntmps7
    go_wp2_with fail
    refine Calls.mono HB.out ?_
    rintro e w' ⟨rfl, rfl⟩
    go_wp2_with fail
    refine Calls.mono H0.out ?_
    rintro e w' ⟨rfl, rfl⟩
    go_wp2_with fail
    refine Calls.mono H1.out ?_
    rintro e w' ⟨rfl, rfl⟩
    go_wp2
    go_ret
    exact ⟨rfl, Below.refl _ _⟩

set_option maxHeartbeats 400000 in
theorem long8 (a0 : Option Addr) (l0 c0 : Nat) (a1 : Option Addr) (l1 c1 : Nat) (x2 : Int) (x3 : Int) (w : World) (h0 : l0 ≤ maxLen) (h1 : l1 ≤ maxLen) (h : 4096 < l0 ∨ 4096 < l1) :
    Calls Edhg.prog 8 #[.slice a0 l0 c0, .slice a1 l1 c1, .int .i64 x2, .int .i64 x3] w fun e w' => e = .returned (.bool true) ∧ Below w.heap.size w w' := by
  by_cases q : 1048576 < l0 + l1
  · have HB : Hid (Calls Edhg.prog 28 #[.slice a0 l0 c0, .slice a1 l1 c1, .int .i64 x2, .int .i64 x3] w fun e w' => e = .returned (.bool false) ∧ w' = w) := bytes28_no a0 l0 c0 a1 l1 c1 x2 x3 w h0 h1 q
    go_enter Edhg.func8, Edhg.ntmps8
    go_wp2_with fail
    refine Calls.mono HB.out ?_
    rintro e w' ⟨rfl, rfl⟩
    go_wp2
    go_ret
    exact ⟨rfl, Below.refl _ _⟩
  · have HB : Hid (Calls Edhg.prog 28 #[.slice a0 l0 c0, .slice a1 l1 c1, .int .i64 x2, .int .i64 x3] w fun e w' => e = .returned (.bool true) ∧ w' = w) := bytes28_yes a0 l0 c0 a1 l1 c1 x2 x3 w (by omega)
    by_cases q1 : 1048576 < l0 * 8 + l1 * 8
    · go_enter Edhg.func8, Edhg.ntmps8
      go_wp2_with fail
      refine Calls.mono HB.out ?_
      rintro e w' ⟨rfl, rfl⟩
      go_wp2
      go_ret
      exact ⟨rfl, Below.refl _ _⟩
    · by_cases q20 : 4096 < l0
      · go_enter Edhg.func8, Edhg.ntmps8
        go_wp2_with fail
        refine Calls.mono HB.out ?_
        rintro e w' ⟨rfl, rfl⟩
        go_wp2
        go_ret
        exact ⟨rfl, Below.refl _ _⟩
      · have q21 : 4096 < l1 := by omega
        go_enter Edhg.func8, Edhg.ntmps8
        go_wp2_with fail
        refine Calls.mono HB.out ?_
        rintro e w' ⟨rfl, rfl⟩
        go_wp2
        go_ret
        exact ⟨rfl, Below.refl _ _⟩

set_option maxHeartbeats 400000 in
theorem unfit8 (a0 : Option Addr) (c0 : Nat) (z0 : List Int) (a1 : Option Addr) (c1 : Nat) (z1 : List Int) (x2 : Int) (x3 : Int) (w : World) (k0 : Arr w a0 z0) (k1 : Arr w a1 z1) (h0 : z0.length ≤ 4096) (h1 : z1.length ≤ 4096) (h : fitB z0 = false ∨ fitB z1 = false) :
    Calls Edhg.prog 8 #[.slice a0 z0.length c0, .slice a1 z1.length c1, .int .i64 x2, .int .i64 x3] w fun e w' => e = .returned (.bool true) ∧ Below w.heap.size w w' := by
  have HB : Hid (Calls Edhg.prog 28 #[.slice a0 z0.length c0, .slice a1 z1.length c1, .int .i64 x2, .int .i64 x3] w fun e w' => e = .returned (.bool true) ∧ w' = w) := bytes28_yes a0 z0.length c0 a1 z1.length c1 x2 x3 w (by omega)
  have g0 := fits_any a0 c0 z0 w k0 (by unfold maxLen; omega)
  have g1 := fits_any a1 c1 z1 w k1 (by unfold maxLen; omega)
  cases f0 : fitB z0 with
  | false =>
    have H0 : Hid (Calls Edhg.prog 12 #[.slice a0 z0.length c0] w fun e w' => e = .returned (.bool false) ∧ w' = w) := by rw [f0] at g0; exact g0
    clear g0 g1 f0 h k0 k1
    go_enter Edhg.func8, Edhg.ntmps8
    go_wp2_with fail
    refine Calls.mono HB.out ?_
    rintro e w' ⟨rfl, rfl⟩
    go_wp2_with fail
    refine Calls.mono H0.out ?_
    rintro e w' ⟨rfl, rfl⟩
    go_wp2
    go_ret
    exact ⟨rfl, Below.refl _ _⟩
  | true =>
    have f1 : fitB z1 = false := h.resolve_left (by rw [f0]; decide)
    have H0 : Hid (Calls Edhg.prog 12 #[.slice a0 z0.length c0] w fun e w' => e = .returned (.bool true) ∧ w' = w) := by rw [f0] at g0; exact g0
    have H1 : Hid (Calls Edhg.prog 12 #[.slice a1 z1.length c1] w fun e w' => e = .returned (.bool false) ∧ w' = w) := by rw [f1] at g1; exact g1
    clear g0 g1 f0 f1 h k0 k1
    go_enter Edhg.func8, Edhg.ntmps8
    go_wp2_with fail
    refine Calls.mono HB.out ?_
    rintro e w' ⟨rfl, rfl⟩
    go_wp2_with fail
    refine Calls.mono H0.out ?_
    rintro e w' ⟨rfl, rfl⟩
    go_wp2_with fail
    refine Calls.mono H1.out ?_
    rintro e w' ⟨rfl, rfl⟩
    go_wp2
    go_ret
    exact ⟨rfl, Below.refl _ _⟩

set_option maxHeartbeats 400000 in
theorem long10 (a0 : Option Addr) (l0 c0 : Nat) (a1 : Option Addr) (l1 c1 : Nat) (w : World) (h0 : l0 ≤ maxLen) (h1 : l1 ≤ maxLen) (h : 4096 < l0 ∨ 4096 < l1) :
    Calls Edhg.prog 10 #[.slice a0 l0 c0, .slice a1 l1 c1] w fun e w' => e = .returned (.bool true) ∧ Below w.heap.size w w' := by
  by_cases q : 1048576 < l0 + l1
  · have HB : Hid (Calls Edhg.prog 33 #[.slice a0 l0 c0, .slice a1 l1 c1] w fun e w' => e = .returned (.bool false) ∧ w' = w) := bytes33_no a0 l0 c0 a1 l1 c1 w h0 h1 q
    go_enter Edhg.func10, Edhg.ntmps10
    go_wp2_with fail
    refine Calls.mono HB.out ?_
    rintro e w' ⟨rfl, rfl⟩
    go_wp2
    go_ret
    exact ⟨rfl, Below.refl _ _⟩
  · have HB : Hid (Calls Edhg.prog 33 #[.slice a0 l0 c0, .slice a1 l1 c1] w fun e w' => e = .returned (.bool true) ∧ w' = w) := bytes33_yes a0 l0 c0 a1 l1 c1 w (by omega)
    by_cases q1 : 1048576 < l0 * 8 + l1 * 8
    · go_enter Edhg.func10, Edhg.ntmps10
      go_wp2_with fail
      refine Calls.mono HB.out ?_
      rintro e w' ⟨rfl, rfl⟩
      go_wp2
      go_ret
      exact ⟨rfl, Below.refl _ _⟩
    · by_cases q20 : 4096 < l0
      · go_enter Edhg.func10, Edhg.ntmps10
        go_wp2_with fail
        refine Calls.mono HB.out ?_
        rintro e w' ⟨rfl, rfl⟩
        go_wp2
        go_ret
        exact ⟨rfl, Below.refl _ _⟩
      · have q21 : 4096 < l1 := by omega
        go_enter Edhg.func10, Edhg.ntmps10
        go_wp2_with fail
        refine Calls.mono HB.out ?_
        rintro e w' ⟨rfl, rfl⟩
        go_wp2
        go_ret
        exact ⟨rfl, Below.refl _ _⟩

set_option maxHeartbeats 400000 in
theorem unfit10 (a0 : Option Addr) (c0 : Nat) (z0 : List Int) (a1 : Option Addr) (c1 : Nat) (z1 : List Int) (w : World) (k0 : Arr w a0 z0) (k1 : Arr w a1 z1) (h0 : z0.length ≤ 4096) (h1 : z1.length ≤ 4096) (h : fitB z0 = false ∨ fitB z1 = false) :
    Calls Edhg.prog 10 #[.slice a0 z0.length c0, .slice a1 z1.length c1] w fun e w' => e = .returned (.bool true) ∧ Below w.heap.size w w' := by
  have HB : Hid (Calls Edhg.prog 33 #[.slice a0 z0.length c0, .slice a1 z1.length c1] w fun e w' => e = .returned (.bool true) ∧ w' = w) := bytes33_yes a0 z0.length c0 a1 z1.length c1 w (by omega)
  have g0 := fits_any a0 c0 z0 w k0 (by unfold maxLen; omega)
  have g1 := fits_any a1 c1 z1 w k1 (by unfold maxLen; omega)
  cases f0 : fitB z0 with
  | false =>
    have H0 : Hid (Calls Edhg.prog 12 #[.slice a0 z0.length c0] w fun e w' => e = .returned (.bool false) ∧ w' = w) := by rw [f0] at g0; exact g0
    clear g0 g1 f0 h k0 k1
    go_enter Edhg.func10, Edhg.ntmps10
    go_wp2_with fail
    refine Calls.mono HB.out ?_
    rintro e w' ⟨rfl, rfl⟩
    go_wp2_with fail
    refine Calls.mono H0.out ?_
    rintro e w' ⟨rfl, rfl⟩
    go_wp2
    go_ret
    exact ⟨rfl, Below.refl _ _⟩
  | true =>
    have f1 : fitB z1 = false := h.resolve_left (by rw [f0]; decide)
    have H0 : Hid (Calls Edhg.prog 12 #[.slice a0 z0.length c0] w fun e w' => e = .returned (.bool true) ∧ w' = w) := by rw [f0] at g0; exact g0
    have H1 : Hid (Calls Edhg.prog 12 #[.slice a1 z1.length c1] w fun e w' => e = .returned (.bool false) ∧ w' = w) := by rw [f1] at g1; exact g1
    clear g0 g1 f0 f1 h k0 k1
    go_enter Edhg.func10, Edhg.ntmps10
    go_wp2_with fail
    refine Calls.mono HB.out ?_
    rintro e w' ⟨rfl, rfl⟩
    go_wp2_with fail
    refine Calls.mono H0.out ?_
    rintro e w' ⟨rfl, rfl⟩
    go_wp2_with fail
    refine Calls.mono H1.out ?_
    rintro e w' ⟨rfl, rfl⟩
    go_wp2
    go_ret
    exact ⟨rfl, Below.refl _ _⟩

set_option maxHeartbeats 400000 in
theorem long5 (a0 : Option Addr) (l0 c0 : Nat) (a1 : Option Addr) (l1 c1 : Nat) (a2 : Option Addr) (l2 c2 : Nat) (w : World) (h0 : l0 ≤ maxLen) (h1 : l1 ≤ maxLen) (h2 : l2 ≤ maxLen) (h : 4096 < l0 ∨ 4096 < l1 ∨ 4096 < l2) :
    Calls Edhg.prog 5 #[.slice a0 l0 c0, .slice a1 l1 c1, .slice a2 l2 c2] w fun e w' => e = .returned (.bool true) ∧ Below w.heap.size w w' := by
  by_cases q : 1048576 < l0 + l1 + l2
  · have HB : Hid (Calls Edhg.prog 22 #[.slice a0 l0 c0, .slice a1 l1 c1, .slice a2 l2 c2] w fun e w' => e = .returned (.bool false) ∧ w' = w) := bytes22_no a0 l0 c0 a1 l1 c1 a2 l2 c2 w h0 h1 h2 q
    go_enter Edhg.func5, Edhg.ntmps5
    go_wp2_with fail
    refine Calls.mono HB.out ?_
    rintro e w' ⟨rfl, rfl⟩
    go_wp2
    go_ret
    exact ⟨rfl, Below.refl _ _⟩
  · have HB : Hid (Calls Edhg.prog 22 #[.slice a0 l0 c0, .slice a1 l1 c1, .slice a2 l2 c2] w fun e w' => e = .returned (.bool true) ∧ w' = w) := bytes22_yes a0 l0 c0 a1 l1 c1 a2 l2 c2 w (by omega)
    by_cases q1 : 1048576 < l0 * 8 + l1 * 8 + l2 * 8
    · go_enter Edhg.func5, Edhg.ntmps5
      go_wp2_with fail
      refine Calls.mono HB.out ?_
      rintro e w' ⟨rfl, rfl⟩
      go_wp2
      go_ret
      exact ⟨rfl, Below.refl _ _⟩
    · by_cases q20 : 4096 < l0
      · go_enter Edhg.func5, Edhg.ntmps5
        go_wp2_with fail
        refine Calls.mono HB.out ?_
        rintro e w' ⟨rfl, rfl⟩
        go_wp2
        go_ret
        exact ⟨rfl, Below.refl _ _⟩
      · by_cases q21 : 4096 < l1
        · go_enter Edhg.func5, Edhg.ntmps5
          go_wp2_with fail
          refine Calls.mono HB.out ?_
          rintro e w' ⟨rfl, rfl⟩
          go_wp2
          go_ret
          exact ⟨rfl, Below.refl _ _⟩
        · have q22 : 4096 < l2 := by omega
          go_enter Edhg.func5, Edhg.ntmps5
          go_wp2_with fail
          refine Calls.mono HB.out ?_
          rintro e w' ⟨rfl, rfl⟩
          go_wp2
          go_ret
          exact ⟨rfl, Below.refl _ _⟩

set_option maxHeartbeats 400000 in
theorem unfit5 (a0 : Option Addr) (c0 : Nat) (z0 : List Int) (a1 : Option Addr) (c1 : Nat) (z1 : List Int) (a2 : Option Addr) (c2 : Nat) (z2 : List Int) (w : World) (k0 : Arr w a0 z0) (k1 : Arr w a1 z1) (h0 : z0.length ≤ 4096) (h1 : z1.length ≤ 4096) (h2 : z2.length ≤ 4096) (h : fitB z0 = false ∨ fitB z1 = false) :
    Calls Edhg.prog 5 #[.slice a0 z0.length c0, .slice a1 z1.length c1, .slice a2 z2.length c2] w fun e w' => e = .returned (.bool true) ∧ Below w.heap.size w w' := by
  have HB : Hid (Calls Edhg.prog 22 #[.slice a0 z0.length c0, .slice a1 z1.length c1, .slice a2 z2.length c2] w fun e w' => e = .returned (.bool true) ∧ w' = w) := bytes22_yes a0 z0.length c0 a1 z1.length c1 a2 z2.length c2 w (by omega)
  have g0 := fits_any a0 c0 z0 w k0 (by unfold maxLen; omega)
  have g1 := fits_any a1 c1 z1 w k1 (by unfold maxLen; omega)
  cases f0 : fitB z0 with
  | false =>
    have H0 : Hid (Calls Edhg.prog 12 #[.slice a0 z0.length c0] w fun e w' => e = .returned (.bool false) ∧ w' = w) := by rw [f0] at g0; exact g0
    clear g0 g1 f0 h k0 k1
    go_enter Edhg.func5, Edhg.ntmps5
    go_wp2_with fail
    refine Calls.mono HB.out ?_
    rintro e w' ⟨rfl, rfl⟩
    go_wp2_with fail
    refine Calls.mono H0.out ?_
    rintro e w' ⟨rfl, rfl⟩
    go_wp2
    go_ret
    exact ⟨rfl, Below.refl _ _⟩
  | true =>
    have f1 : fitB z1 = false := h.resolve_left (by rw [f0]; decide)
    have H0 : Hid (Calls Edhg.prog 12 #[.slice a0 z0.length c0] w fun e w' => e = .returned (.bool true) ∧ w' = w) := by rw [f0] at g0; exact g0
    have H1 : Hid (Calls Edhg.prog 12 #[.slice a1 z1.length c1] w fun e w' => e = .returned (.bool false) ∧ w' = w) := by rw [f1] at g1; exact g1
    clear g0 g1 f0 f1 h k0 k1
    go_enter Edhg.func5, Edhg.ntmps5
    go_wp2_with fail
    refine Calls.mono HB.out ?_
    rintro e w' ⟨rfl, rfl⟩
    go_wp2_with fail
    refine Calls.mono H0.out ?_
    rintro e w' ⟨rfl, rfl⟩
    go_wp2_with fail
    refine Calls.mono H1.out ?_
    rintro e w' ⟨rfl, rfl⟩
    go_wp2
    go_ret
    exact ⟨rfl, Below.refl _ _⟩

set_option maxHeartbeats 400000 in
theorem long6 (a0 : Option Addr) (l0 c0 : Nat) (a1 : Option Addr) (l1 c1 : Nat) (a2 : Option Addr) (l2 c2 : Nat) (w : World) (h0 : l0 ≤ maxLen) (h1 : l1 ≤ maxLen) (h2 : l2 ≤ maxLen) (h : 4096 < l0 ∨ 4096 < l1 ∨ 4096 < l2) :
    Calls Edhg.prog 6 #[.slice a0 l0 c0, .slice a1 l1 c1, .slice a2 l2 c2] w fun e w' => e = .returned (.bool true) ∧ Below w.heap.size w w' := by
  by_cases q : 1048576 < l0 + l1 + l2
  · have HB : Hid (Calls Edhg.prog 25 #[.slice a0 l0 c0, .slice a1 l1 c1, .slice a2 l2 c2] w fun e w' => e = .returned (.bool false) ∧ w' = w) := bytes25_no a0 l0 c0 a1 l1 c1 a2 l2 c2 w h0 h1 h2 q
    go_enter Edhg.func6, Edhg.ntmps6
    go_wp2_with fail
    refine Calls.mono HB.out ?_
    rintro e w' ⟨rfl, rfl⟩
    go_wp2
    go_ret
    exact ⟨rfl, Below.refl _ _⟩
  · have HB : Hid (Calls Edhg.prog 25 #[.slice a0 l0 c0, .slice a1 l1 c1, .slice a2 l2 c2] w fun e w' => e = .returned (.bool true) ∧ w' = w) := bytes25_yes a0 l0 c0 a1 l1 c1 a2 l2 c2 w (by omega)
    by_cases q1 : 1048576 < l0 * 8 + l1 * 8 + l2 * 8
    · go_enter Edhg.func6, Edhg.ntmps6
      go_wp2_with fail
      refine Calls.mono HB.out ?_
      rintro e w' ⟨rfl, rfl⟩
      go_wp2
      go_ret
      exact ⟨rfl, Below.refl _ _⟩
    · by_cases q20 : 4096 < l0
      · go_enter Edhg.func6, Edhg.ntmps6
        go_wp2_with fail
        refine Calls.mono HB.out ?_
        rintro e w' ⟨rfl, rfl⟩
        go_wp2
        go_ret
        exact ⟨rfl, Below.refl _ _⟩
      · by_cases q21 : 4096 < l1
        · go_enter Edhg.func6, Edhg.ntmps6
          go_wp2_with fail
          refine Calls.mono HB.out ?_
          rintro e w' ⟨rfl, rfl⟩
          go_wp2
          go_ret
          exact ⟨rfl, Below.refl _ _⟩
        · have q22 : 4096 < l2 := by omega
          go_enter Edhg.func6, Edhg.ntmps6
          go_wp2_with fail
          refine Calls.mono HB.out ?_
          rintro e w' ⟨rfl, rfl⟩
          go_wp2
          go_ret
          exact ⟨rfl, Below.refl _ _⟩

set_option maxHeartbeats 400000 in
theorem unfit6 (a0 : Option Addr) (c0 : Nat) (z0 : List Int) (a1 : Option Addr) (c1 : Nat) (z1 : List Int) (a2 : Option Addr) (c2 : Nat) (z2 : List Int) (w : World) (k0 : Arr w a0 z0) (k1 : Arr w a1 z1) (h0 : z0.length ≤ 4096) (h1 : z1.length ≤ 4096) (h2 : z2.length ≤ 4096) (h : fitB z0 = false ∨ fitB z1 = false) :
    Calls Edhg.prog 6 #[.slice a0 z0.length c0, .slice a1 z1.length c1, .slice a2 z2.length c2] w fun e w' => e = .returned (.bool true) ∧ Below w.heap.size w w' := by
  have HB : Hid (Calls Edhg.prog 25 #[.slice a0 z0.length c0, .slice a1 z1.length c1, .slice a2 z2.length c2] w fun e w' => e = .returned (.bool true) ∧ w' = w) := bytes25_yes a0 z0.length c0 a1 z1.length c1 a2 z2.length c2 w (by omega)
  have g0 := fits_any a0 c0 z0 w k0 (by unfold maxLen; omega)
  have g1 := fits_any a1 c1 z1 w k1 (by unfold maxLen; omega)
  cases f0 : fitB z0 with
  | false =>
    have H0 : Hid (Calls Edhg.prog 12 #[.slice a0 z0.length c0] w fun e w' => e = .returned (.bool false) ∧ w' = w) := by rw [f0] at g0; exact g0
    clear g0 g1 f0 h k0 k1
    go_enter Edhg.func6, Edhg.ntmps6
    go_wp2_with fail
    refine Calls.mono HB.out ?_
    rintro e w' ⟨rfl, rfl⟩
    go_wp2_with fail
    refine Calls.mono H0.out ?_
    rintro e w' ⟨rfl, rfl⟩
    go_wp2
    go_ret
    exact ⟨rfl, Below.refl _ _⟩
  | true =>
    have f1 : fitB z1 = false := h.resolve_left (by rw [f0]; decide)
    have H0 : Hid (Calls Edhg.prog 12 #[.slice a0 z0.length c0] w fun e w' => e = .returned (.bool true) ∧ w' = w) := by rw [f0] at g0; exact g0
    have H1 : Hid (Calls Edhg.prog 12 #[.slice a1 z1.length c1] w fun e w' => e = .returned (.bool false) ∧ w' = w) := by rw [f1] at g1; exact g1
    clear g0 g1 f0 f1 h k0 k1
    go_enter Edhg.func6, Edhg.ntmps6
    go_wp2_with fail
    refine Calls.mono HB.out ?_
    rintro e w' ⟨rfl, rfl⟩
    go_wp2_with fail
    refine Calls.mono H0.out ?_
    rintro e w' ⟨rfl, rfl⟩
    go_wp2_with fail
    refine Calls.mono H1.out ?_
    rintro e w' ⟨rfl, rfl⟩
    go_wp2
    go_ret
    exact ⟨rfl, Below.refl _ _⟩

set_option maxHeartbeats 400000 in
theorem long3 (a0 : Option Addr) (l0 c0 : Nat) (x1 : Int) (a2 : Option Addr) (l2 c2 : Nat) (w : World) (h0 : l0 ≤ maxLen) (h2 : l2 ≤ maxLen) (h : 4096 < l0 ∨ 4096 < l2) :
    Calls Edhg.prog 3 #[.slice a0 l0 c0, .int .i64 x1, .slice a2 l2 c2] w fun e w' => e = .returned (.bool true) ∧ Below w.heap.size w w' := by
  by_cases q : 1048576 < l0 + l2
  · have HB : Hid (Calls Edhg.prog 11 #[.slice a0 l0 c0, .int .i64 x1, .slice a2 l2 c2] w fun e w' => e = .returned (.bool false) ∧ w' = w) := bytes11_no a0 l0 c0 x1 a2 l2 c2 w h0 h2 q
    go_enter Edhg.func3, Edhg.ntmps3
    go_wp2_with fail
    refine Calls.mono HB.out ?_
    rintro e w' ⟨rfl, rfl⟩
    go_wp2
    go_ret
    exact ⟨rfl, Below.refl _ _⟩
  · have HB : Hid (Calls Edhg.prog 11 #[.slice a0 l0 c0, .int .i64 x1, .slice a2 l2 c2] w fun e w' => e = .returned (.bool true) ∧ w' = w) := bytes11_yes a0 l0 c0 x1 a2 l2 c2 w (by omega)
    by_cases q1 : 1048576 < l0 * 8 + l2 * 8
    · go_enter Edhg.func3, Edhg.ntmps3
      go_wp2_with fail
      refine Calls.mono HB.out ?_
      rintro e w' ⟨rfl, rfl⟩
      go_wp2
      go_ret
      exact ⟨rfl, Below.refl _ _⟩
    · by_cases q20 : 4096 < l0
      · go_enter Edhg.func3, Edhg.ntmps3
        go_wp2_with fail
        refine Calls.mono HB.out ?_
        rintro e w' ⟨rfl, rfl⟩
        go_wp2
        go_ret
        exact ⟨rfl, Below.refl _ _⟩
      · have q22 : 4096 < l2 := by omega
        go_enter Edhg.func3, Edhg.ntmps3
        go_wp2_with fail
        refine Calls.mono HB.out ?_
        rintro e w' ⟨rfl, rfl⟩
        go_wp2
        go_ret
        exact ⟨rfl, Below.refl _ _⟩

set_option maxHeartbeats 400000 in
theorem unfit3 (a0 : Option Addr) (c0 : Nat) (z0 : List Int) (x1 : Int) (a2 : Option Addr) (c2 : Nat) (z2 : List Int) (w : World) (k0 : Arr w a0 z0) (h0 : z0.length ≤ 4096) (h2 : z2.length ≤ 4096) (h : fitB z0 = false) :
    Calls Edhg.prog 3 #[.slice a0 z0.length c0, .int .i64 x1, .slice a2 z2.length c2] w fun e w' => e = .returned (.bool true) ∧ Below w.heap.size w w' := by
  have HB : Hid (Calls Edhg.prog 11 #[.slice a0 z0.length c0, .int .i64 x1, .slice a2 z2.length c2] w fun e w' => e = .returned (.bool true) ∧ w' = w) := bytes11_yes a0 z0.length c0 x1 a2 z2.length c2 w (by omega)
  have g0 := fits_any a0 c0 z0 w k0 (by unfold maxLen; omega)
  have f0 := h
  have H0 : Hid (Calls Edhg.prog 12 #[.slice a0 z0.length c0] w fun e w' => e = .returned (.bool false) ∧ w' = w) := by rw [f0] at g0; exact g0
  clear g0 f0 h k0
  go_enter Edhg.func3, Edhg.ntmps3
  go_wp2_with fail
  refine Calls.mono HB.out ?_
  rintro e w' ⟨rfl, rfl⟩
  go_wp2_with fail
  refine Calls.mono H0.out ?_
  rintro e w' ⟨rfl, rfl⟩
  go_wp2
  go_ret
  exact ⟨rfl, Below.refl _ _⟩

set_option maxHeartbeats 400000 in
theorem long4 (a0 : Option Addr) (l0 c0 : Nat) (x1 : Int) (w : World) (h0 : l0 ≤ maxLen) (h : 4096 < l0) :
    Calls Edhg.prog 4 #[.slice a0 l0 c0, .int .i64 x1] w fun e w' => e = .returned (.bool true) ∧ Below w.heap.size w w' := by
  by_cases q : 1048576 < l0
  · have HB : Hid (Calls Edhg.prog 17 #[.slice a0 l0 c0, .int .i64 x1] w fun e w' => e = .returned (.bool false) ∧ w' = w) := bytes17_no a0 l0 c0 x1 w h0 q
    go_enter Edhg.func4, Edhg.ntmps4
    go_wp2_with fail
    refine Calls.mono HB.out ?_
    rintro e w' ⟨rfl, rfl⟩
    go_wp2
    go_ret
    exact ⟨rfl, Below.refl _ _⟩
  · have HB : Hid (Calls Edhg.prog 17 #[.slice a0 l0 c0, .int .i64 x1] w fun e w' => e = .returned (.bool true) ∧ w' = w) := bytes17_yes a0 l0 c0 x1 w (by omega)
    by_cases q1 : 1048576 < l0 * 8
    · go_enter Edhg.func4, Edhg.ntmps4
      go_wp2_with fail
      refine Calls.mono HB.out ?_
      rintro e w' ⟨rfl, rfl⟩
      go_wp2
      go_ret
      exact ⟨rfl, Below.refl _ _⟩
    · have q20 : 4096 < l0 := by omega
      go_enter Edhg.func4, Edhg.ntmps4
      go_wp2_with fail
      refine Calls.mono HB.out ?_
      rintro e w' ⟨rfl, rfl⟩
      go_wp2
      go_ret
      exact ⟨rfl, Below.refl _ _⟩

set_option maxHeartbeats 400000 in
theorem unfit4 (a0 : Option Addr) (c0 : Nat) (z0 : List Int) (x1 : Int) (w : World) (k0 : Arr w a0 z0) (h0 : z0.length ≤ 4096) (h : fitB z0 = false) :
    Calls Edhg.prog 4 #[.slice a0 z0.length c0, .int .i64 x1] w fun e w' => e = .returned (.bool true) ∧ Below w.heap.size w w' := by
  have HB : Hid (Calls Edhg.prog 17 #[.slice a0 z0.length c0, .int .i64 x1] w fun e w' => e = .returned (.bool true) ∧ w' = w) := bytes17_yes a0 z0.length c0 x1 w (by omega)
  have g0 := fits_any a0 c0 z0 w k0 (by unfold maxLen; omega)
  have f0 := h
  have H0 : Hid (Calls Edhg.prog 12 #[.slice a0 z0.length c0] w fun e w' => e = .returned (.bool false) ∧ w' = w) := by rw [f0] at g0; exact g0
  clear g0 f0 h k0
  go_enter Edhg.func4, Edhg.ntmps4
  go_wp2_with fail
  refine Calls.mono HB.out ?_
  rintro e w' ⟨rfl, rfl⟩
  go_wp2_with fail
  refine Calls.mono H0.out ?_
  rintro e w' ⟨rfl, rfl⟩
  go_wp2
  go_ret
  exact ⟨rfl, Below.refl _ _⟩

end Go.Proofs.Yoedhw
