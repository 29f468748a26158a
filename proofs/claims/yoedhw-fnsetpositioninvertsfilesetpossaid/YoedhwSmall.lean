/-
  The small callees: zzBytes_.., zzPiecesFit, zzCloneInts, NewFileSet, Set.
-/
import Derived.Test.YoedhwProg
import Derived.Test.YoedhwMem
import Derived.Test.YoedhwPlain
import Derived.WalkSpells
namespace Go.Proofs.Yoedhw
open Go.RowKit

theorem ret_bool {a b : Bool} (h : a = b) : Ending.returned (.bool a) = .returned (.bool b) := by rw [h]

/-- The slice that begins at a holds the numbers xs (where it holds none, nothing is said of a). -/
def Arr (w : World) (a : Option Addr) (xs : List Int) : Prop := xs = [] ∨ ∃ b o, a = some ⟨b, o, none⟩ ∧ ∀ i, i < xs.length → w.cell? ⟨b, o + i, none⟩ = some (.int .i64 (xs.getD i 0))

set_option maxHeartbeats 400000 in
theorem fits_some (b o cap : Nat) (xs : List Int) (w : World) (hc : ∀ i, i < xs.length → w.cell? ⟨b, o + i, none⟩ = some (.int .i64 (xs.getD i 0))) (hm : xs.length ≤ maxLen) :
    Calls Edhg.prog 12 #[.slice (some ⟨b, o, none⟩) xs.length cap] w fun e w' => e = .returned (.bool (fitB xs)) ∧ w' = w := by
  unfold maxLen at hm
  by_cases hl : 4096 < xs.length
  · go_enter Edhg.func12, Edhg.ntmps12
    go_wp2
    go_ret
    exact ⟨ret_bool (fit_long xs hl).symm, rfl⟩
  · go_enter Edhg.func12, Edhg.ntmps12
    go_wp2
    go_loop [3, 4] (fun t i => ∃ k : Nat, k ≤ xs.length ∧ i = .int .i64 k ∧ t = .int .i64 (xs.take k).sum ∧ (xs.take k).all okB = true) (fun _ i => xs.length - (intOf i).toNat)
    case atStart => exact ⟨0, Nat.zero_le _, rfl, rfl, rfl⟩
    case round =>
      obtain ⟨k, hk, rfl, rfl, hall⟩ := hrel
      have HA : Hid ((xs.take k).all okB = true) := hall
      clear hall
      have hb := sum_bound (xs.take k) HA.out
      have hle : (xs.take k).length ≤ 4096 := by rw [List.length_take]; omega
      have hle' : ((xs.take k).length : Int) ≤ 4096 := by omega
      by_cases hlt : k < xs.length
      · have hcell := hc k hlt
        have hsum := sum_take_succ xs k hlt
        have hal := all_take_succ xs k hlt
        have hbad := fit_bad xs k hlt
        have HS : Hid ((xs.take (k + 1)).sum = (xs.take k).sum + xs.getD k 0) := hsum
        have HL : Hid ((xs.take (k + 1)).all okB = ((xs.take k).all okB && okB (xs.getD k 0))) := hal
        have HB : Hid (okB (xs.getD k 0) = false → fitB xs = false) := hbad
        clear hsum hal hbad hc
        generalize hx : xs.getD k 0 = x at *
        have HX : Hid (xs.getD k 0 = x) := hx
        clear hx
        go_wp2
        · go_ret
          have h : okB x = false := by have : x < 0 ∨ 65536 < x := by assumption
                                       simp only [okB, Bool.and_eq_false_iff, decide_eq_false_iff_not]; omega
          exact ⟨ret_bool (HB.out h).symm, rfl⟩
        · go_round
          case rel =>
            have h : 0 ≤ x ∧ x ≤ 65536 := by assumption
            exact ⟨k + 1, by omega, by go_num, by rw [HS.out], by rw [HL.out, HA.out]; simp [okB, h]⟩
          case measure => simp [intOf]; omega
        · go_ret
          have h : okB x = false := by have : x < 0 := by assumption
                                       simp only [okB, Bool.and_eq_false_iff, decide_eq_false_iff_not]; omega
          exact ⟨ret_bool (HB.out h).symm, rfl⟩
      · go_wp2
        go_ret
        have e : xs.take k = xs := List.take_of_length_le (by omega)
        rw [e]
        exact ⟨ret_bool (fit_end xs (by omega) (by have := HA.out; rwa [e] at this)).symm, rfl⟩

theorem fits_none (a : Option Addr) (cap : Nat) (w : World) :
    Calls Edhg.prog 12 #[.slice a 0 cap] w fun e w' => e = .returned (.bool true) ∧ w' = w := by
  go_enter Edhg.func12, Edhg.ntmps12
  go_wp2
  refine wp_loop_rounds 1 ?_
  rw [rounds_succ]
  go_wp2
  go_ret
  exact ⟨rfl, rfl⟩

/-- zzPiecesFit. -/
theorem fits_any (a : Option Addr) (cap : Nat) (xs : List Int) (w : World) (ha : Arr w a xs) (hm : xs.length ≤ maxLen) :
    Calls Edhg.prog 12 #[.slice a xs.length cap] w fun e w' => e = .returned (.bool (fitB xs)) ∧ w' = w := by
  rcases ha with rfl | ⟨b, o, rfl, hc⟩
  · exact fits_none a cap w
  · exact fits_some b o cap xs w hc hm

theorem new_any (w : World) : Calls Edhg.prog 30 #[] w fun e w' => e = .returned (.pointer (some ⟨w.heap.size, 0, none⟩)) ∧ w' = w.alloc (.cells #[.int .i64 1, .slice none 0 0, .pointer none] 49) := by
  go_enter Edhg.func30, Edhg.ntmps30
  go_wp2
  go_ret
  exact ⟨rfl, rfl⟩

theorem set_any (fb : Nat) (v : Value) (w : World) (h : w.cell? ⟨fb, 0, none⟩ = some v) : Calls Edhg.prog 32 #[.pointer (some ⟨fb, 0, none⟩)] w fun e w' => e = .returned v ∧ w' = w := by
  go_enter Edhg.func32, Edhg.ntmps32
  go_wp2
  go_ret
  exact ⟨rfl, rfl⟩
end Go.Proofs.Yoedhw
