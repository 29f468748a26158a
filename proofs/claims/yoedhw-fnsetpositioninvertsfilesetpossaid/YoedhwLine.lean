/-
  AddLine.
-/
import Derived.Test.YoedhwGap
namespace Go.Proofs.Yoedhw
open Go.RowKit
set_option linter.unusedVariables false

theorem owned_shape {w : World} {B n : Nat} {e : TypeId} {v : Value} {xs : List Value} (h : w.ownsRow B e 1 v (n + 1) xs) : ∃ g cap cur, v = .slice (some ⟨g, 0, none⟩) (n + 1) cap ∧ Blk w g cur e ∧ B ≤ g ∧ ∀ (i : Nat) (u : Value), xs[i]? = some u → cur[i]? = some u := by
  have hl := h.1
  rcases h.2 with ⟨_, h⟩ | ⟨g, cap, cur, h, hb, hg, _, _, _, ht⟩
  · omega
  · refine ⟨g, cap, cur, h, hg, hb, fun i u hu => ?_⟩
    have hi : i < xs.length := (List.getElem?_eq_some_iff.1 hu).1
    rw [← ht, List.getElem?_take] at hu
    rw [if_pos (by omega)] at hu
    simpa using hu

/-- The world of AddLine as the append begins. -/
theorem line_mid {w w1 : World} {fb B n : Nat} {sp nm bs sz lv : Value} {xs : List Value} {o : Obj} (hf : Blk w fb #[sp, nm, bs, sz, lv] 45) (hrow : w.ownsRow B 3 1 lv n xs) (hg : (w.alloc o).grownBy w1 lv.ownBlock) :
    Blk w1 fb #[sp, nm, bs, sz, lv] 45 ∧ Fr w w1 (fun k => lv.ownBlock = some k) := by
  have hn := owns_not hrow hf (by decide)
  have fr : Fr w w1 (fun k => lv.ownBlock = some k) := ((Fr.refl w (fun k => lv.ownBlock = some k)).alloc o).grown hg (fun k _ h => h)
  exact ⟨fr.blk hf (fun h => hn h), fr⟩
theorem line_end {w w1 : World} {fb B n : Nat} {sp nm bs sz lv lv' : Value} {xs : List Value} (m : Blk w1 fb #[sp, nm, bs, sz, lv] 45 ∧ Fr w w1 (fun k => lv.ownBlock = some k)) (hown : w1.ownsRow B 3 1 lv' n xs) :
    Blk (w1.setCell ⟨fb, 4, none⟩ lv') fb #[sp, nm, bs, sz, lv'] 45 ∧ (w1.setCell ⟨fb, 4, none⟩ lv').ownsRow B 3 1 lv' n xs ∧ Fr w (w1.setCell ⟨fb, 4, none⟩ lv') (fun k => k = fb ∨ lv.ownBlock = some k) := by
  obtain ⟨m1, m2⟩ := m
  have hn := owns_not hown m1 (by decide)
  exact ⟨m1.set 4 lv', ownsRow_setCell_other hown hn _, (m2.mono (fun _ _ h => .inr h)).setCell (p := ⟨fb, 4, none⟩) (fun _ => .inl rfl) _⟩

set_option maxHeartbeats 800000 in
set_option maxRecDepth 100000 in
/-- AddLine, the offset behind the last line's and inside the file. -/
theorem line_any (fb B m : Nat) (sp nm bs lv : Value) (size off lst : Int) (xs : List Value) (w : World) (hf : Blk w fb #[sp, nm, bs, .int .i64 size, lv] 45) (hrow : w.ownsRow B 3 1 lv (m + 1) xs)
    (hlst : xs[m]? = some (.int .i64 lst)) (h1 : lst < off) (h2 : off < size) (hm : m ≤ 1048576) (hB : B ≤ w.heap.size) :
    Calls Edhg.prog 35 #[.pointer (some ⟨fb, 0, none⟩), .int .i64 off] w fun e w' => e = .returned (.tuple #[]) ∧
      ∃ lv', Blk w' fb #[sp, nm, bs, .int .i64 size, lv'] 45 ∧ w'.ownsRow B 3 1 lv' (m + 1 + 1) (xs ++ [.int .i64 off]) ∧ Fr w w' (fun k => k = fb ∨ lv.ownBlock = some k) := by
  obtain ⟨i0, hi, hz0, hz1, hz2⟩ := info_parts Edhg.info3
  have c3 : w.cell? ⟨fb, 3, none⟩ = some (.int .i64 size) := hf.cell rfl
  have c4 : w.cell? ⟨fb, 4, none⟩ = some lv := hf.cell rfl
  have f4 := hf.free 4
  have hlt := hf.lt
  obtain ⟨g, cap, cur, hv, hcur, hBg, hat⟩ := owned_shape hrow
  have cl : w.cell? ⟨g, m, none⟩ = some (.int .i64 lst) := hcur.cell (hat m _ hlst)
  have hglt := hcur.lt
  have HF : Hid (Blk w fb #[sp, nm, bs, .int .i64 size, lv] 45) := hf
  have HR : Hid (w.ownsRow B 3 1 lv (m + 1) xs) := hrow
  clear hf hrow hat hlst hcur
  subst hv
  go_enter Edhg.func35, Edhg.ntmps35
  go_wp2_with (at_builtin; refine wpList_append_own _ rfl (.tmp 36) (.tmp 38) 22 rfl B 3 i0 (.int .i64 0) 1 8 Edhg.underlying22 hi hz0 hz1 hz2 rfl (by decide) _ (m + 1) xs rfl (HR.out.alloc _) ⟨w.heap.size, 0, none⟩ 1 1 [.int .i64 off] rfl rfl ?c1 ?c2 ?c3 ?c4 ?c5 ?_)
  case c1 =>
    intro j u hj
    match j, hj with
    | 0, hj => simp at hj; subst hj; rw [Addr.add_lit, World.cell?_alloc_at _ _ _ _ rfl]; rfl
  case c2 => intro u hu; simp at hu; subst hu; rfl
  case c3 => unfold maxLen; omega
  case c4 => omega
  case c5 => simp; omega
  intro lv' w1 hown hgrow _
  have M := line_mid HF.out HR.out hgrow
  obtain ⟨g', cap', hv'⟩ := owns_shape hown
  have E := line_end M hown
  have k4 : w1.cell? ⟨fb, 4, none⟩ = some (.slice (some ⟨g, 0, none⟩) (m + 1) cap) := M.1.cell rfl
  have g4 := M.1.free 4
  have hlt1 := M.1.lt
  rw [hv'] at E ⊢
  have HE : Hid _ := E
  clear E M hown hgrow hv' hi hz0 hz1 hz2 HF HR c3 c4 f4 cl
  go_wp2
  go_end0
  exact ⟨rfl, _, HE.out⟩
end Go.Proofs.Yoedhw
