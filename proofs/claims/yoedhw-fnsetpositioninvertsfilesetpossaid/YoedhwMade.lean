/-
  A set together with the slice of its files that the law keeps; two sets side by side.
-/
import Derived.Test.YoedhwBytes
namespace Go.Proofs.Yoedhw
open Go.RowKit

/-- A set with the slice of its files: block fab, n cells, the first of them the files so far. -/
structure Made (w : World) (B sb fab n : Nat) (fv : Value) (fs : List FRec) (base : Int) (last : Value) : Prop where
  set : SetIs w B sb fv fs base last
  arr : ∃ ca, Blk w fab ca 36 ∧ ca.size = n ∧ ∀ (i : Nat) (f : FRec), fs[i]? = some f → ca[i]? = some f.ptr
  lt : fab < B

/-- The blocks that one file more may turn. -/
def Turns (sb fab : Nat) (fv : Value) (k : Nat) : Prop := k = sb ∨ fv.ownBlock = some k ∨ k = fab

theorem owned_blk {w : World} {B n k : Nat} {e : TypeId} {v : Value} {xs : List Value} (h : w.ownsRow B e 1 v n xs) (hk : v.ownBlock = some k) : B ≤ k ∧ ∃ cur, Blk w k cur e := by
  rcases h.2 with ⟨rfl, _⟩ | ⟨g, cap, cur, rfl, hb, hg, _⟩
  · cases hk
  · simp only [Value.ownBlock, Option.some.injEq] at hk
    subst hk
    exact ⟨hb, cur, hg⟩

theorem Made.not {w : World} {B sb fab n : Nat} {fv last : Value} {fs : List FRec} {base : Int} (hm : Made w B sb fab n fv fs base last) {b : Nat} {cs : Array Value} {t : TypeId} (hb : Blk w b cs t) (h1 : t ≠ 49) (h2 : t ≠ 36) : ¬ Turns sb fab fv b := by
  obtain ⟨ca, hca, _⟩ := hm.arr
  intro h
  rcases h with rfl | h | rfl
  · exact h1 (hb.inj hm.set.set).2
  · exact owns_not hm.set.row hb (fun e => h2 e.symm) h
  · exact h2 (hb.inj hca).2

/-- One file more, and its pointer laid into the slice. -/
theorem Made.step {w w1 : World} {B sb fab n : Nat} {fv fv' last last' : Value} {fs : List FRec} {f : FRec} {base base' : Int} (hm : Made w B sb fab n fv fs base last) (ha : SetIs w1 B sb fv' (fs ++ [f]) base' last')
    (fr : Fr w w1 (fun k => k = sb ∨ fv.ownBlock = some k)) (hk : fs.length < n) :
    Made (w1.setCell ⟨fab, fs.length, none⟩ f.ptr) B sb fab n fv' (fs ++ [f]) base' last' ∧ Fr w (w1.setCell ⟨fab, fs.length, none⟩ f.ptr) (Turns sb fab fv) := by
  obtain ⟨ca, hca, hsz, hat⟩ := hm.arr
  have hlt := hm.lt
  have hfab : ¬ (fab = sb ∨ fv.ownBlock = some fab) := by
    rintro (rfl | h)
    · have := (hca.inj hm.set.set).2; revert this; decide
    · have := (owned_blk hm.set.row h).1; omega
  have hca1 : Blk w1 fab ca 36 := fr.blk hca hfab
  have fr1 : Fr w1 (w1.setCell ⟨fab, fs.length, none⟩ f.ptr) (fun k => k = fab) := (Fr.refl w1 (fun k => k = fab)).setCell (p := ⟨fab, fs.length, none⟩) (fun _ => rfl) _
  have hno : ∀ b cs t, Blk w1 b cs t → t ≠ 36 → ¬ b = fab := by
    rintro b cs t hb ht rfl
    exact ht (hb.inj hca1).2
  refine ⟨⟨ha.frame fr1 (hno _ _ _ ha.set (by decide)) (fun k hk => ?_) (fun g hg => hno _ _ _ (ha.file g hg) (by decide)) (fun g hg k hk => ?_), ⟨_, hca1.set fs.length f.ptr, by simpa using hsz, ?_⟩, hlt⟩, ?_⟩
  · have := (owned_blk ha.row hk).1; omega
  · obtain ⟨_, cur, hc⟩ := owned_blk (ha.line g hg) hk
    exact hno _ _ _ hc (by decide)
  · intro i g hg
    rw [Array.getElem?_setIfInBounds]
    by_cases e : fs.length = i
    · subst e
      simp at hg
      subst hg
      simp [hsz, hk]
    · rw [if_neg e]
      refine hat i g ?_
      rw [← hg, List.getElem?_append]
      split
      · rfl
      · rw [List.getElem?_eq_none (by omega), List.getElem?_eq_none (by simp; omega)]
  · exact fr.trans fr1 (fun i hi => Or.elim hi Or.inl (fun h => .inr (.inl h))) (fun i _ hi => .inr (.inr hi))

/-- Two sets in one world share no block of files. -/
theorem sets_apart {w : World} {B sb sb2 : Nat} {fv fv2 last last2 : Value} {fs fs2 : List FRec} {base base2 : Int} (h : SetIs w B sb fv fs base last) (h2 : SetIs w B sb2 fv2 fs2 base2 last2) (hne : sb ≠ sb2)
    {k : Nat} (e1 : fv.ownBlock = some k) (e2 : fv2.ownBlock = some k) : False := by
  rcases h.row.2 with ⟨rfl, _⟩ | ⟨g, cap, cur, rfl, _, hg, _, _, _, ht⟩
  · cases e1
  rcases h2.row.2 with ⟨rfl, _⟩ | ⟨g2, cap2, cur2, rfl, _, hg2, _, _, _, ht2⟩
  · cases e2
  simp only [Value.ownBlock, Option.some.injEq] at e1 e2
  subst e1
  subst e2
  have hc := (Blk.inj (w := w) hg hg2).1
  subst hc
  cases fs with
  | nil => have := h.nil rfl; cases this
  | cons f fs =>
    cases fs2 with
    | nil => have := h2.nil rfl; cases this
    | cons f2 fs2 =>
      have a1 : cur.toList[0]? = some f.ptr := by
        have := congrArg (·[0]?) ht
        simpa [List.getElem?_take] using this
      have a2 : cur.toList[0]? = some f2.ptr := by
        have := congrArg (·[0]?) ht2
        simpa [List.getElem?_take] using this
      rw [a1] at a2
      have e : f.blk = f2.blk := by simpa [FRec.ptr] using a2
      have b1 := h.file f (by simp)
      have b2 := h2.file f2 (by simp)
      rw [e] at b1
      have := (b1.inj b2).1
      simp [FRec.cells] at this

/-- While one set gains a file the other stays as it is. -/
theorem Made.other {w w' : World} {B sb fab n sb2 fab2 n2 : Nat} {fv last fv2 last2 : Value} {fs fs2 : List FRec} {base base2 : Int} (hm : Made w B sb fab n fv fs base last) (ho : Made w B sb2 fab2 n2 fv2 fs2 base2 last2) (hne : sb ≠ sb2) (hfab : fab ≠ fab2)
    (fr : Fr w w' (Turns sb fab fv)) : Made w' B sb2 fab2 n2 fv2 fs2 base2 last2 := by
  obtain ⟨ca, hca, hsz, hat⟩ := hm.arr
  obtain ⟨ca2, hca2, hsz2, hat2⟩ := ho.arr
  have hlt := hm.lt
  have hlt2 := ho.lt
  refine ⟨ho.set.frame fr ?_ (fun k hk h => ?_) (fun f hf => hm.not (ho.set.file f hf) (by decide) (by decide)) (fun f hf k hk => ?_), ⟨ca2, fr.blk hca2 ?_, hsz2, hat2⟩, hlt2⟩
  · rintro (h | h | h)
    · exact hne h.symm
    · exact owns_not hm.set.row ho.set.set (by decide) h
    · subst h; have := (hca.inj ho.set.set).2; revert this; decide
  · rcases h with rfl | h | rfl
    · exact owns_not ho.set.row hm.set.set (by decide) hk
    · exact sets_apart hm.set ho.set hne h hk
    · have := (owned_blk ho.set.row hk).1; omega
  · obtain ⟨_, cur, hc⟩ := owned_blk (ho.set.line f hf) hk
    exact hm.not hc (by decide) (by decide)
  · rintro (rfl | h | h)
    · have := (hca2.inj hm.set.set).2; revert this; decide
    · have := (owned_blk hm.set.row h).1; omega
    · exact hfab h.symm
theorem Made.below {w w' : World} {B sb fab n : Nat} {fv last : Value} {fs : List FRec} {base : Int} (hm : Made w B sb fab n fv fs base last) (h : Below w.heap.size w w') : Made w' B sb fab n fv fs base last := by
  obtain ⟨ca, hca, hsz, hat⟩ := hm.arr
  exact ⟨hm.set.below h, ⟨ca, (Fr.of_below h (fun _ => False)).blk hca (fun h => h), hsz, hat⟩, hm.lt⟩
end Go.Proofs.Yoedhw
