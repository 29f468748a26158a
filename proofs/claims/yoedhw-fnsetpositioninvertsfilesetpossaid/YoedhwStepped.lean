/-
  zzBuildStepped.
-/
import Derived.Test.YoedhwStep
import Derived.Test.YoedhwTwo
import Derived.Deep.CutBlock
import Derived.Deep.DeepCutAuto
namespace Go.Proofs.Yoedhw
open Go.RowKit
set_option linter.unusedVariables false

/-- The lines of one file while they are added: m + 1 of them. -/
def Adds (wA wr : World) (LB sb : Nat) (name : ByteArray) (base x step : Int) (m : Nat) (lv : Value) : Prop :=
  Blk wr (LB + 1) #[.pointer (some ⟨sb, 0, none⟩), .string name, .int .i64 base, .int .i64 x, lv] 45 ∧ wr.ownsRow LB 3 1 lv (m + 1) ((lin step (m + 1)).map (Value.int .i64)) ∧ Fr wA wr (Lines wA LB) ∧ ∀ i : Nat, 1 ≤ i → i < m + 1 → (i : Int) * step < x

theorem Adds.start {wA : World} {B sb LB : Nat} {fv' l' : Value} {fs : List FRec} {base x step b' : Int} {name : ByteArray} (hA : SetIs wA B sb fv' (fs ++ [newRec LB name base x]) b' l') : Adds wA wA LB sb name base x step 0 (.slice (some ⟨LB, 0, none⟩) 1 1) := by
  have hm : newRec LB name base x ∈ fs ++ [newRec LB name base x] := List.mem_append_right _ (by simp)
  refine ⟨hA.file _ hm, ?_, Fr.refl _ _, fun i h1 h2 => by omega⟩
  have := hA.line _ hm
  obtain ⟨h1, h2⟩ := this
  refine ⟨by simp [lin], ?_⟩
  rcases h2 with ⟨h2, _⟩ | ⟨g, cap, cur, hv, hb, hg, r1, r2, r3, r4⟩
  · cases h2
  · right
    simp only [newRec, Value.slice.injEq, Option.some.injEq, Addr.mk.injEq] at hv
    obtain ⟨⟨rfl, _⟩, _, rfl⟩ := hv
    exact ⟨LB, 1, cur, rfl, Nat.le_refl _, hg, by omega, r2, r3, by simpa [newRec, lin] using r4⟩

theorem Adds.lines_ok {step x : Int} {m : Nat} (h : ∀ i : Nat, 1 ≤ i → i < m + 1 → (i : Int) * step < x) (hx : x ≤ ((m : Int) + 1) * step) : LinesOk step x (lin step (m + 1)) :=
  ⟨m + 1, rfl, by omega, by simpa using hx, h⟩

set_option maxHeartbeats 2000000 in
set_option maxRecDepth 100000 in
/-- zzBuildStepped. -/
theorem stepped_any (a : Option Addr) (xs : List Int) (step : Int) (B : Nat) (w : World) (hx : Cln w B a xs) (fx : fitB xs = true) (hs1 : 1 ≤ step) (hs2 : step ≤ 65536) :
    Calls Edhg.prog 14 #[.slice a xs.length xs.length, .int .i64 step] w fun e w' =>
      e = .returned (.tuple #[.pointer (some ⟨w.heap.size, 0, none⟩), .slice (some ⟨w.heap.size + 1, 0, none⟩) xs.length xs.length]) ∧ Stp w w' xs step xs.length := by
  have l0 := fit_length fx
  have hmk0 := Edhg.make27 xs.length (by omega)
  have HX : Hid (Cln w B a xs ∧ fitB xs = true) := ⟨hx, fx⟩
  clear hx fx
  go_enter Edhg.func14, Edhg.ntmps14
  go_wp2_with (go_at_call 30; refine (new_any _).mono ?_; rintro e w' ⟨rfl, hw⟩; subst w')
  have T := Stp.start w xs step
  go_loopw [8, 9, 10] (fun i _ _ wr => ∃ k : Nat, k ≤ xs.length ∧ i = .int .i64 k ∧ Hid (Stp w wr xs step k)) (fun i _ _ _ => xs.length - (intOf i).toNat)
  case atStart => exact ⟨0, Nat.zero_le _, rfl, T⟩
  case round =>
    obtain ⟨k, hk, rfl, H⟩ := hrel
    clear T hmk0
    by_cases hlt : k < xs.length
    · obtain ⟨fv, fs, base, last, hset, hlen, hb0, hb1, hbel, hN, hstep⟩ := H.out.use HX.out.2 hlt
      have hxp := fit_at HX.out.2 k
      obtain ⟨g, ha, _, hblk, hcell0⟩ := HX.out.1.at hlt
      have hcw : ∀ W, Below w.heap.size w W → W.cell? ⟨g, k, none⟩ = some (.int .i64 (xs.getD k 0)) := fun W hW => (hW.cell (p := ⟨g, k, none⟩) hblk.lt).trans hcell0
      have hcell := hcw wr hbel
      have hnb : ∀ W, Fr wr W (fun j => j = w.heap.size ∨ fv.ownBlock = some j) → Below w.heap.size w W := fun W fr => hbel.trans (fr.below hbel.size (fun j hj h => by
        rcases h with h | h
        · omega
        · have := (owned_blk hset.row h).1; omega))
      generalize xs.getD k 0 = x at *
      subst ha
      have HS : Hid _ := hstep
      have HL : Hid (SetIs wr (w.heap.size + 2) w.heap.size fv fs base last ∧ fs.length = k ∧ Below w.heap.size w wr) := ⟨hset, hlen, hbel⟩
      have HC : Hid _ := hcw
      have HN : Hid _ := hnb
      clear hstep hset hlen hbel hblk H hcw hcell0 hnb
      go_wp2_with fail
      go_region_held3 (fun w' => w'.cell? ⟨g, k, none⟩ = some (.int .i64 x)) (first | assumption | go_keep)
        (first
          | (go_at_call 19; refine (name_any k (by omega) _).mono ?_; rintro e wn ⟨rfl, hbn⟩; have hbn' : Below wr.heap.size wr wn := ((Below.refl _ _).drew).trans hbn; have hcn : wn.cell? ⟨g, k, none⟩ = some (.int .i64 x) := (Fr.of_below hbn' (fun _ => False)).cell hcell (fun h => h))
          | (go_at_call 31; refine (addFile_neg (HL.out.1.below hbn') ?_ ?_ hxp.1 hxp.2 ?_ ?_).mono ?_; omega; omega; (have := HL.out.2.1; omega); (have := hbn'.size; omega); rintro e wA ⟨rfl, fv', hs', hsz', fr'⟩; have hbA := HN.out wA ((Fr.of_below hbn' _).trans fr' (fun _ h => h) (fun _ _ h => h)); have hcA := HC.out wA hbA))
      have HA : Hid (Below wr.heap.size wr wn ∧ SetIs wA (w.heap.size + 2) w.heap.size fv' (fs ++ [newRec wn.heap.size (nameOf k) base x]) (base + (x + 1)) (.pointer (some ⟨wn.heap.size + 1, 0, none⟩)) ∧ Fr wn wA (fun j => j = w.heap.size ∨ fv.ownBlock = some j) ∧ Below w.heap.size w wA ∧ w.heap.size ≤ wn.heap.size ∧ wn.heap.size + 1 < wA.heap.size) := ⟨hbn', hs', fr', hbA, by have := hbn'.size; omega, hsz'⟩
      clear hbn hbn' hs' fr' hbA hcA hcn hcell HL hsz'
      have S0 : Hid (Adds wA wA wn.heap.size w.heap.size (nameOf k) base x step 0 (.slice (some ⟨wn.heap.size, 0, none⟩) 1 1)) := Adds.start HA.out.2.1
      generalize hLB : wn.heap.size = LB at *
      have HLB : Hid (wn.heap.size = LB) := hLB
      clear hLB
      go_wp2_with fail
      go_loopw [10] (fun s10 wi => ∃ (m : Nat) (lv : Value) (o : Int), s10 = .int .i64 o ∧ 1 ≤ o ∧ o ≤ 131072 ∧ m ≤ 65536 ∧ Hid (o = ((m : Int) + 1) * step ∧ Adds wA wi LB w.heap.size (nameOf k) base x step m lv)) (fun s10 _ => (x - intOf s10).toNat)
      case atStart => exact ⟨0, _, step, rfl, hs1, by omega, by omega, by simp, S0.out⟩
      case round =>
        obtain ⟨m, lv, o, rfl, ho1, ho2, hm, HD⟩ := hrel
        clear S0
        obtain ⟨ho, hblk, hown, frL, hall⟩ := HD.out
        have hbi : Below w.heap.size w wr := HA.out.2.2.2.1.trans (frL.below HA.out.2.2.2.1.size (fun j hj h => by
          have := HA.out.2.2.2.2.1
          rcases h with h | ⟨h, _⟩ <;> omega))
        have hci := HC.out wr hbi
        by_cases hox : o < x
        · have hB : LB ≤ wr.heap.size := by have := frL.size; have := HA.out.2.2.2.2.2; omega
          have hl := line_any (LB + 1) LB m _ _ _ lv x o ((m : Int) * step) ((lin step (m + 1)).map (Value.int .i64)) wr hblk hown (by rw [List.getElem?_map, lin_at step (m + 1) m (by omega)]; rfl) (by rw [ho, Int.add_mul]; omega) hox (by omega) hB
          have hge := mul_ge (m + 1) step hs1
          have hnext : ∀ (w' : World) (lv' : Value), Blk w' (LB + 1) #[.pointer (some ⟨w.heap.size, 0, none⟩), .string (nameOf k), .int .i64 base, .int .i64 x, lv'] 45 → w'.ownsRow LB 3 1 lv' (m + 1 + 1) ((lin step (m + 1)).map (Value.int .i64) ++ [.int .i64 o]) → Fr wr w' (fun k => k = LB + 1 ∨ lv.ownBlock = some k) →
              o + step = (((m + 1 : Nat) : Int) + 1) * step ∧ Adds wA w' LB w.heap.size (nameOf k) base x step (m + 1) lv' := fun w' lv' q1 q2 q3 => by
            refine ⟨by rw [ho]; simp only [Int.natCast_add, Int.add_mul]; omega, q1, ?_, Lines.step frL hown q3, fun i h1 h2 => ?_⟩
            · rw [lin_succ, List.map_append]
              rw [ho] at q2
              simpa using q2
            · by_cases e : i < m + 1
              · exact hall i h1 e
              · have : i = m + 1 := by omega
                subst this
                rw [ho] at hox
                simpa using hox
          have hmb : m + 1 ≤ 65536 := by
            have : ((m + 1 : Nat) : Int) * step = o := by rw [ho]; simp
            omega
          have HLn : Hid _ := hl
          have HNx : Hid _ := hnext
          clear hl hnext hge hall frL hown hblk ho HD hB hbi
          go_wp2_with fail
          refine Calls.mono HLn.out ?_
          rintro e w6 ⟨rfl, lv', q1, q2, q3⟩
          have HQ : Hid _ := HNx.out w6 lv' q1 q2 q3
          clear q1 q2 q3 HNx HLn hci
          go_wp2
          go_roundw
          case rel => exact ⟨m + 1, lv', o + step, rfl, by omega, by omega, by omega, HQ.out⟩
          case measure => simp [intOf]; omega
        · have hok : LinesOk step x (lin step (m + 1)) := Adds.lines_ok hall (by omega)
          have hfin := HS.out wn wA wr fv' _ lv (lin step (m + 1)) HA.out.1 (by rw [HLB.out]; exact HA.out.2.1) HA.out.2.2.1 (by rw [HLB.out]; exact frL) (by rw [HLB.out]; exact hblk) (by rw [HLB.out, lin_length]; exact hown) hok
          rw [HLB.out] at hfin
          obtain ⟨⟨vold, hv⟩, hfz, hT⟩ := hfin
          have HT : Hid _ := hT
          clear hT hok hall frL hown hblk ho HD hbi HA HS HC HN
          go_wp2
          go_roundw
          case rel => exact ⟨k + 1, by omega, by go_num, HT.out⟩
          case measure => simp [intOf]; omega
    · go_wp2
      have e : k = xs.length := by omega
      subst e
      go_ret2
      exact ⟨rfl, H.out⟩
end Go.Proofs.Yoedhw
