/-
  zzItoa, zzName.
-/
import Derived.Test.YoedhwClone
namespace Go.Proofs.Yoedhw
open Go.RowKit

/-- The decimal digits of n, as bytes; f: so many at most. -/
def dg : Nat → Nat → List Int
  | 0, _ => []
  | f + 1, n => if n = 0 then [] else dg f (n / 10) ++ [((48 + n % 10 : Nat) : Int)]
def strOf (ns : List Int) : ByteArray := ns.foldl (fun r n => r.push (UInt8.ofNat n.toNat)) ByteArray.empty
/-- What zzItoa hands back. -/
def itoa (n : Nat) : ByteArray := if n = 0 then ⟨#[48]⟩ else strOf (dg 5 n)

theorem lim_step (k m : Nat) (hk : k ≤ 4) (h : m < 10 ^ (4 - k)) (h0 : 0 < m) : k < 4 ∧ m / 10 < 10 ^ (4 - (k + 1)) := by
  match k, hk with
  | 0, _ => simp at h ⊢; omega
  | 1, _ => simp at h ⊢; omega
  | 2, _ => simp at h ⊢; omega
  | 3, _ => simp at h ⊢; omega
  | 4, _ => simp at h; omega

theorem dg_zero (f : Nat) : dg f 0 = [] := by cases f <;> simp [dg]
theorem dg_step (f n : Nat) (h : 0 < n) : dg (f + 1) n = dg f (n / 10) ++ [((48 + n % 10 : Nat) : Int)] := by
  rw [dg, if_neg (by omega)]

/-- The cells behind place 24 - k, one digit more. -/
theorem drop_set (c : Array Value) (k : Nat) (ds : List Int) (x : Int) (hs : c.size = 24) (hk : k < 4) (h : c.toList.drop (24 - k) = ds.map (Value.int .u8)) :
    (c.setIfInBounds (23 - k) (.int .u8 x)).toList.drop (24 - (k + 1)) = (x :: ds).map (Value.int .u8) := by
  rw [Array.toList_setIfInBounds, show 24 - (k + 1) = 23 - k by omega]
  rw [List.drop_eq_getElem_cons (by simp; omega)]
  simp only [List.getElem_set_self, List.map_cons]
  congr 1
  rw [List.drop_set, if_pos (by omega), show 23 - k + 1 = 24 - k by omega, h]

theorem run_load (w : World) (c : Array Value) (t : TypeId) (k : Nat) (ds : List Int) (hd : ds.length = k) (h : c.toList.drop (24 - k) = ds.map (Value.int .u8)) :
    (loadCells ⟨w.heap.size, 24 - k, none⟩ k).run Edhg.prog (w.alloc (.cells c t)) = .ok (ds.map (Value.int .u8)).toArray (w.alloc (.cells c t)) := by
  have e := run_loadCells_list (P := Edhg.prog) (w.alloc (.cells c t)) ⟨w.heap.size, 24 - k, none⟩ (ds.map (Value.int .u8)) (fun j v hj => by
    rw [Addr.add_lit, World.cell?_alloc_at _ _ _ _ rfl, ← Array.getElem?_toList, ← List.getElem?_drop, h]
    exact hj)
  rw [List.length_map, hd] at e
  exact e

theorem Edhg.one5 : ((Edhg.prog.info? 5).map (·.size)) = some 1 := by kernel_rfl

theorem run_cut (B k : Nat) (W : World) (h1 : 1 ≤ k) (h2 : k ≤ 4) : (Instr.sliceAt 59 (.pointer (some ⟨B, 0, none⟩)) (some (.int .i64 (24 - (k : Int)))) none none).run Edhg.prog W = .ok (.slice (some ⟨B, 24 - k, none⟩) k k) W := by
  obtain ⟨i, hi, hs⟩ := Option.map_eq_some_iff.1 Edhg.one5
  have hb := fun code => run_sliceBound (P := Edhg.prog) W .i64 (24 - (k : Int)) 24 code (by omega) (by omega)
  have e1 : (24 - (k : Int)).toNat = 24 - k := by omega
  have e2 : ¬ (24 = 24 - k) := by omega
  have e3 : 24 - (24 - k) = k := by omega
  simp [Instr.sliceAt, run_underlying Edhg.underlying59, Instr.sliceBounds, hb, sizeOf, typeInfo, hi, hs, Instr.sureAddr, e1, e2, e3, Addr.add_lit]

set_option maxHeartbeats 400000 in
theorem itoa_pos (n : Nat) (h0 : 0 < n) (h1 : n < 10000) (w : World) : Calls Edhg.prog 38 #[.int .i64 n] w fun e w' => e = .returned (.string (strOf (dg 5 n))) ∧ Below w.heap.size w w' := by
  have hz : decide ((n : Int) ≤ 0) = false := by simp; omega
  have hgo : Hid (0 < n) := h0
  go_enter Edhg.func38, Edhg.ntmps38
  go_wp2
  go_loopw [0, 4] (fun s i wr => ∃ (k m : Nat) (c : Array Value) (ds : List Int), k ≤ 4 ∧ s = .int .i64 m ∧ i = .int .i64 (24 - k) ∧ c.size = 24 ∧ wr = w.alloc (.cells c 59) ∧ m < 10000 ∧
    Hid (m < 10 ^ (4 - k) ∧ ds.length = k ∧ dg 5 n = dg (5 - k) m ++ ds ∧ c.toList.drop (24 - k) = ds.map (Value.int .u8))) (fun s _ _ => (intOf s).toNat)
  case atStart => exact ⟨0, n, _, [], by omega, rfl, rfl, rfl, rfl, h1, ⟨by simpa using h1, rfl, by simp, rfl⟩⟩
  case round =>
    obtain ⟨k, m, c, ds, hk, rfl, rfl, hs, rfl, hm, H⟩ := hrel
    clear h0 h1 hz
    by_cases hlt : 0 < m
    · have hk4 := (lim_step k m hk H.out.1 hlt).1
      have hget : c[24 - k - 1]? = some c[24 - k - 1] := Array.getElem?_eq_getElem (by omega)
      go_wp2
      go_roundw
      case rel =>
        obtain ⟨g1, g2, g3, g4⟩ := H.out
        refine ⟨k + 1, m / 10, _, ((48 + m % 10 : Nat) : Int) :: ds, by omega, by go_num, by go_num, by simpa using hs, rfl, by omega, (lim_step k m hk g1 hlt).2, by simp [g2], ?_, ?_⟩
        · rw [g3, show 5 - k = (5 - (k + 1)) + 1 by omega, dg_step _ _ hlt]; simp
        · have := drop_set c k ds ((48 + m % 10 : Nat) : Int) hs hk4 g4
          rw [show 23 - k = 24 - k - 1 by omega] at this
          rw [← this]; congr 4
      case measure => simp [intOf]; omega
    · obtain rfl : m = 0 := by omega
      obtain ⟨g1, g2, g3, g4⟩ := H.out
      rw [dg_zero, List.nil_append] at g3
      have hk1 : 1 ≤ k := by
        rcases Nat.eq_zero_or_pos k with e | e
        · exfalso
          have hp := hgo.out
          have hl : (dg 5 n).length = 0 := by rw [g3, g2, e]
          rw [dg_step 4 n hp] at hl; simp at hl
        · exact e
      have hcut := run_cut w.heap.size k (w.alloc (.cells c 59)) hk1 hk
      have hconv := run_convert_bytes_string (P := Edhg.prog) (w.alloc (.cells c 59)) 60 9 5 (some ⟨w.heap.size, 24 - k, none⟩) k k Edhg.underlying60 Edhg.underlying5 Edhg.underlying9
      rw [run_bytesToString (P := Edhg.prog) _ _ k k ds (run_load w c 59 k ds g2 g4)] at hconv
      have HG : Hid (dg 5 n = ds) := g3
      clear g1 g2 g3 g4 H hgo
      go_wp2
      go_ret
      rw [HG.out]
      exact ⟨rfl, (Below.refl _ _).alloc (Nat.le_refl _) _⟩

theorem itoa_zero (w : World) : Calls Edhg.prog 38 #[.int .i64 0] w fun e w' => e = .returned (.string ⟨#[48]⟩) ∧ w' = w := by
  go_enter Edhg.func38, Edhg.ntmps38
  go_wp2
  go_ret
  exact ⟨rfl, rfl⟩

/-- zzItoa. -/
theorem itoa_any (n : Nat) (h1 : n < 10000) (w : World) : Calls Edhg.prog 38 #[.int .i64 n] w fun e w' => e = .returned (.string (itoa n)) ∧ Below w.heap.size w w' := by
  rcases Nat.eq_zero_or_pos n with rfl | h
  · exact (itoa_zero w).mono fun e w' ⟨he, hw⟩ => ⟨he, by rw [hw]; exact Below.refl _ _⟩
  · unfold itoa
    rw [if_neg (by omega)]
    exact itoa_pos n h h1 w

/-- What zzName hands back: a name for i. -/
def nameOf (n : Nat) : ByteArray := ⟨#[102]⟩ ++ itoa n

theorem strOf_size (ns : List Int) : (strOf ns).size = ns.length := by
  have h : ∀ (ns : List Int) (s : ByteArray), (ns.foldl (fun r n => r.push (UInt8.ofNat n.toNat)) s).size = s.size + ns.length := by
    intro ns
    induction ns with
    | nil => intro s; simp
    | cons x xs ih => intro s; simp only [List.foldl_cons, ih, List.length_cons]; simp [ByteArray.size_push]; omega
  have := h ns ByteArray.empty
  simpa [strOf] using this
theorem dg_len (f n : Nat) : (dg f n).length ≤ f := by
  induction f generalizing n with
  | zero => simp [dg]
  | succ f ih =>
    rw [dg]; split
    · simp
    · have := ih (n / 10); simp; omega
theorem itoa_size (n : Nat) : (itoa n).size ≤ 5 := by
  unfold itoa; split
  · decide
  · rw [strOf_size]; exact dg_len 5 n

theorem name_core (n : Nat) (s : ByteArray) (hs : s.size ≤ 5) (w : World) (hit : ∀ w, Calls Edhg.prog 38 #[.int .i64 n] w fun e w' => e = .returned (.string s) ∧ Below w.heap.size w w') :
    Calls Edhg.prog 19 #[.int .i64 n] w fun e w' => e = .returned (.string (⟨#[102]⟩ ++ s)) ∧ Below w.heap.size w w' := by
  have hadd := fun w => run_string_add_sum (P := Edhg.prog) w ⟨#[102]⟩ s (by have : (⟨#[102]⟩ : ByteArray).size = 1 := rfl
                                                                             omega)
  have HI : Hid (∀ w, Calls Edhg.prog 38 #[.int .i64 n] w fun e w' => e = .returned (.string s) ∧ Below w.heap.size w w') := hit
  clear hit
  go_enter Edhg.func19, Edhg.ntmps19
  go_wp2_with fail
  refine (HI.out _).mono ?_
  rintro e w' ⟨rfl, hb⟩
  go_wp2
  go_ret
  exact ⟨rfl, hb⟩
/-- zzName. -/
theorem name_any (n : Nat) (h1 : n < 10000) (w : World) : Calls Edhg.prog 19 #[.int .i64 n] w fun e w' => e = .returned (.string (nameOf n)) ∧ Below w.heap.size w w' :=
  name_core n (itoa n) (itoa_size n) w (itoa_any n h1)
end Go.Proofs.Yoedhw
