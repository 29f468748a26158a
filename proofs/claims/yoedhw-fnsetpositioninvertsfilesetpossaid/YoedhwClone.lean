/-
  zzCloneInts.
-/
import Derived.Test.YoedhwSmall
import Derived.Deep.OwnRows
import Derived.Lib.SliceRun
namespace Go.Proofs.Yoedhw
open Go.RowKit

/-- The numbers xs as a row's cells. -/
def ints (xs : List Int) : Array Value := (xs.map (Value.int .i64)).toArray
theorem ints_size (xs : List Int) : (ints xs).size = xs.length := by simp [ints]
theorem ints_at (xs : List Int) (k : Nat) (h : k < xs.length) : (ints xs)[k]? = some (.int .i64 (xs.getD k 0)) := by simp [ints, List.getD, h]
theorem ints_ext (c : Array Value) (xs : List Int) (hs : c.size = xs.length) (h : ∀ i, i < xs.length → c[i]? = some (.int .i64 (xs.getD i 0))) : c = ints xs := by
  apply Array.ext_getElem?
  intro i
  by_cases hi : i < xs.length
  · rw [h i hi, ints_at xs i hi]
  · rw [Array.getElem?_eq_none (by omega), Array.getElem?_eq_none (by rw [ints_size]; omega)]

/-- A copy of xs that the call made: it begins at a; its block lies from B on. -/
def Cln (w : World) (B : Nat) (a : Option Addr) (xs : List Int) : Prop := xs = [] ∨ ∃ g, a = some ⟨g, 0, none⟩ ∧ B ≤ g ∧ Blk w g (ints xs) 3

theorem Edhg.info3 : (Edhg.prog.info? 3).map (fun i => (i.zero, i.size, i.bytes)) = some (some (.int .i64 0), 1, 8) := by kernel_rfl
theorem make22 (n : Nat) (h : n ≤ 1048576) (w : World) : (Instr.makeSlice 22 (.int .i64 (n : Int)) (.int .i64 (n : Int))).run Edhg.prog w = .ok (.slice (some ⟨w.heap.size, 0, none⟩) n n) (w.alloc (.cells (madeCells #[.int .i64 0] n) 3)) :=
  run_make_row' (P := Edhg.prog) 22 3 (.int .i64 0) 8 Edhg.underlying22 Edhg.info3 rfl .i64 .i64 n (by omega) (by omega) w

/-- One element copied. -/
theorem clone_step (c : Array Value) (xs : List Int) (k : Nat) (hs : c.size = xs.length) (hk : k < xs.length) (h : ∀ i, i < k → c[i]? = some (.int .i64 (xs.getD i 0))) :
    ∀ i, i < k + 1 → (c.setIfInBounds k (.int .i64 xs[k]))[i]? = some (.int .i64 (xs.getD i 0)) := by
  intro i hi
  rw [Array.getElem?_setIfInBounds]
  by_cases e : k = i
  · subst e; simp [show k < c.size by omega, List.getD, hk]
  · simp only [e, if_false]; exact h i (by omega)

set_option maxHeartbeats 400000 in
theorem clone_some (b o cap : Nat) (xs : List Int) (w : World) (hc : ∀ i, i < xs.length → w.cell? ⟨b, o + i, none⟩ = some (.int .i64 (xs.getD i 0))) (hm : xs.length ≤ 4096) :
    Calls Edhg.prog 13 #[.slice (some ⟨b, o, none⟩) xs.length cap] w fun e w' => e = .returned (.slice (some ⟨w.heap.size, 0, none⟩) xs.length xs.length) ∧ w' = w.alloc (.cells (ints xs) 3) := by
  have hmk := make22 xs.length (by omega)
  have hn := fun w => Lib.run_eql_slice_nil (P := Edhg.prog) w 22 3 (some ⟨b, o, none⟩) xs.length cap 0 0 Edhg.underlying22
  go_enter Edhg.func13, Edhg.ntmps13
  go_wp2
  go_loopw [4] (fun i wr => ∃ (k : Nat) (c : Array Value), k ≤ xs.length ∧ i = .int .i64 k ∧ c.size = xs.length ∧ wr = w.alloc (.cells c 3) ∧ Hid (∀ i, i < k → c[i]? = some (.int .i64 (xs.getD i 0)))) (fun i _ => xs.length - (intOf i).toNat)
  case atStart => exact ⟨0, _, Nat.zero_le _, rfl, size_madeCells _ _, rfl, (fun i hi => by omega : ∀ i, i < 0 → _)⟩
  case round =>
    obtain ⟨k, c, hk, rfl, hs, rfl, HI⟩ := hrel
    clear hmk hn
    by_cases hlt : k < xs.length
    · have hcell := cell_alloc_later (hc k hlt) (.cells c 3)
      have hget : c[k]? = some c[k] := Array.getElem?_eq_getElem (by omega)
      go_wp2
      go_roundw
      case rel => exact ⟨k + 1, _, by omega, by go_num, by simpa using hs, rfl, clone_step c xs k hs hlt HI.out⟩
      case measure => simp [intOf]; omega
    · go_wp2
      go_ret
      have e := ints_ext c xs hs (fun i hi => HI.out i (by omega))
      rw [e]
      exact ⟨rfl, rfl⟩

theorem clone_none (w : World) : Calls Edhg.prog 13 #[.slice none 0 0] w fun e w' => e = .returned (.slice none 0 0) ∧ w' = w := by
  have hn := fun w => Lib.run_eql_slice_nil (P := Edhg.prog) w 22 3 none 0 0 0 0 Edhg.underlying22
  go_enter Edhg.func13, Edhg.ntmps13
  go_wp2
  go_ret
  exact ⟨rfl, rfl⟩

set_option maxHeartbeats 400000 in
/-- An empty slice that is not nil. -/
theorem clone_bare (x : Addr) (cap : Nat) (w : World) : Calls Edhg.prog 13 #[.slice (some x) 0 cap] w fun e w' => e = .returned (.slice (some ⟨w.heap.size, 0, none⟩) 0 0) ∧ w' = w.alloc (.cells (madeCells #[.int .i64 0] 0) 3) := by
  have hmk : ∀ w, (Instr.makeSlice 22 (.int .i64 0) (.int .i64 0)).run Edhg.prog w = .ok (.slice (some ⟨w.heap.size, 0, none⟩) 0 0) (w.alloc (.cells (madeCells #[.int .i64 0] 0) 3)) := make22 0 (by omega)
  have hn := fun w => Lib.run_eql_slice_nil (P := Edhg.prog) w 22 3 (some x) 0 cap 0 0 Edhg.underlying22
  go_enter Edhg.func13, Edhg.ntmps13
  go_wp2
  refine wp_loop_rounds 1 ?_
  rw [rounds_succ]
  go_wp2
  go_ret
  exact ⟨rfl, rfl⟩

/-- zzCloneInts. -/
theorem clone_any (a : Option Addr) (cap : Nat) (xs : List Int) (w : World) (ha : Arr w a xs) (hnil : a = none → xs = [] ∧ cap = 0) (hm : xs.length ≤ 4096) :
    Calls Edhg.prog 13 #[.slice a xs.length cap] w fun e w' => ∃ a', e = .returned (.slice a' xs.length xs.length) ∧ Cln w' w.heap.size a' xs ∧ Below w.heap.size w w' := by
  rcases ha with rfl | ⟨b, o, rfl, hc⟩
  · cases a with
    | none =>
      obtain ⟨-, rfl⟩ := hnil rfl
      exact (clone_none w).mono fun e w' ⟨he, hw⟩ => ⟨none, he, .inl rfl, by rw [hw]; exact Below.refl _ _⟩
    | some x => exact (clone_bare x cap w).mono fun e w' ⟨he, hw⟩ => ⟨_, he, .inl rfl, by rw [hw]; exact (Below.refl _ _).alloc (Nat.le_refl _) _⟩
  · exact (clone_some b o cap xs w hc hm).mono fun e w' ⟨he, hw⟩ => ⟨_, he, .inr ⟨w.heap.size, rfl, Nat.le_refl _, by rw [hw]; exact Blk.new _ _ _⟩, by rw [hw]; exact (Below.refl _ _).alloc (Nat.le_refl _) _⟩
end Go.Proofs.Yoedhw
