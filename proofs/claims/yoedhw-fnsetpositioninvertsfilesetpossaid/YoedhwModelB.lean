/-
  zzModelPosition where no file holds the position.
-/
import Derived.Test.YoedhwModel
namespace Go.Proofs.Yoedhw
open Go.RowKit
set_option linter.unusedVariables false

set_option maxHeartbeats 2000000 in
set_option maxRecDepth 100000 in
theorem model_zero (a : Option Addr) (n : Nat) (step : Int) (w : World) :
    Calls Edhg.prog 16 #[.slice a n n, .int .i64 step, .int .i64 0] w fun e w' => e = .returned posZero ∧ Below w.heap.size w w' := by
  go_enter Edhg.func16, Edhg.ntmps16
  go_wp2
  refine bodyPost_ret (v := posZero) (by simp [results, Edhg.results16, go_sem, posZero]) rfl ⟨rfl, ?_⟩
  exact ((Below.refl w.heap.size w).alloc (Nat.le_refl _) _).alloc (by simp) _

set_option maxHeartbeats 2000000 in
set_option maxRecDepth 100000 in
theorem model_none (a : Option Addr) (xs : List Int) (step p : Int) (B : Nat) (w : World) (hx : Cln w B a xs) (fx : fitB xs = true) (hpz : (p == 0) = false)
    (hno : ∀ j, j < xs.length → ¬ (baseAt xs j ≤ p ∧ p ≤ baseAt xs j + xs.getD j 0)) :
    Calls Edhg.prog 16 #[.slice a xs.length xs.length, .int .i64 step, .int .i64 p] w fun e w' => e = .returned posZero ∧ Below w.heap.size w w' := by
  have l0 := fit_length fx
  have HX : Hid (fitB xs = true ∧ Cln w B a xs ∧ (∀ j, j < xs.length → ¬ (baseAt xs j ≤ p ∧ p ≤ baseAt xs j + xs.getD j 0))) := ⟨fx, hx, hno⟩
  clear hx fx hno
  go_enter Edhg.func16, Edhg.ntmps16
  go_wp2
  go_loop [8, 9, 10, 11, 12] (fun s8 s9 _ _ _ => ∃ k : Nat, k ≤ xs.length ∧ s9 = .int .i64 k ∧ s8 = .int .i64 (baseAt xs k)) (fun _ s9 _ _ _ => xs.length - (intOf s9).toNat)
  case atStart => exact ⟨0, Nat.zero_le _, rfl, by simp [baseAt]⟩
  case round =>
    obtain ⟨k, hk, rfl, rfl⟩ := hrel
    by_cases hkl : k < xs.length
    · obtain ⟨g, ha, _, hblk, hc0⟩ := HX.out.2.1.at hkl
      have hc : ((w.alloc zeroPos).alloc zeroPos).cell? ⟨g, k, none⟩ = some (.int .i64 (xs.getD k 0)) := cell_alloc_later (cell_alloc_later hc0 _) _
      unfold zeroPos at hc
      subst ha
      clear hblk hc0
      have hbk := baseAt_bound HX.out.1 k (by omega)
      have hxk := fit_at HX.out.1 k
      have hnk := HX.out.2.2 k hkl
      have hbs := baseAt_succ xs k (by omega)
      have HBS : Hid _ := hbs
      clear hbs
      generalize baseAt xs k = b at *
      generalize xs.getD k 0 = x at *
      by_cases h1 : b ≤ p
      · have h2 : ¬ p ≤ b + x := fun h => hnk ⟨h1, h⟩
        clear hnk
        go_wp2
        go_round
        case rel => exact ⟨k + 1, by omega, by go_num, by rw [HBS.out]⟩
        case measure => simp [intOf]; omega
      · clear hnk
        go_wp2
        go_round
        case rel => exact ⟨k + 1, by omega, by go_num, by rw [HBS.out]⟩
        case measure => simp [intOf]; omega
    · go_wp2
      refine bodyPost_ret (v := posZero) (by simp [results, Edhg.results16, go_sem, posZero]) rfl ⟨rfl, ?_⟩
      exact ((Below.refl w.heap.size w).alloc (Nat.le_refl _) _).alloc (by simp) _

/-- zzModelPosition, at a position that no file holds. -/
theorem model_miss (a : Option Addr) (xs : List Int) (step p : Int) (B : Nat) (w : World) (hx : Cln w B a xs) (fx : fitB xs = true)
    (hno : p = 0 ∨ ∀ j, j < xs.length → ¬ (baseAt xs j ≤ p ∧ p ≤ baseAt xs j + xs.getD j 0)) :
    Calls Edhg.prog 16 #[.slice a xs.length xs.length, .int .i64 step, .int .i64 p] w fun e w' => e = .returned posZero ∧ Below w.heap.size w w' := by
  by_cases hp : p = 0
  · subst hp; exact model_zero a xs.length step w
  · exact model_none a xs step p B w hx fx (by simpa using hp) (hno.resolve_left hp)
end Go.Proofs.Yoedhw
