/-
  '==' and '!=' on pointers to files and to sets.
-/
import Derived.Test.YoedhwMade
import Derived.LaidEqlPtr
namespace Go.Proofs.Yoedhw
open Go.RowKit

theorem Edhg.size49 : ((Edhg.prog.info? 49).map (·.size)) = some 3 := by kernel_rfl
theorem Edhg.size45 : ((Edhg.prog.info? 45).map (·.size)) = some 5 := by kernel_rfl

theorem run_ptr {tp te : TypeId} {n : Nat} (hp : Edhg.prog.underlying tp = some (.pointer te)) (hs : ((Edhg.prog.info? te).map (·.size)) = some (n + 1)) {W : World} {a b : Nat} {ca cb : Array Value} {ta tb : TypeId} (ha : Blk W a ca ta) (hb : Blk W b cb tb) :
    (Op.equal tp (.pointer (some ⟨a, 0, none⟩)) (.pointer (some ⟨b, 0, none⟩))).run Edhg.prog W = .ok (decide (a = b)) W := by
  obtain ⟨j, hj, hjs⟩ := Option.map_eq_some_iff.1 hs
  have h : ∀ d : Nat, (Op.equalIn (d + 1) tp (.pointer (some ⟨a, 0, none⟩)) (.pointer (some ⟨b, 0, none⟩))).run Edhg.prog W = .ok (decide (a = b)) W := fun d => by
    by_cases e : a = b
    · subst e
      simp [Op.equalIn, run_underlying hp, sizeOf, typeInfo, hj, run_sameAddr_same]
    · have hne : (⟨a, 0, none⟩ : Addr) ≠ ⟨b, 0, none⟩ := fun h => e (Addr.mk.inj h).1
      simp [Op.equalIn, run_underlying hp, sizeOf, typeInfo, hj, hjs, run_sameAddr_other W hne ha hb, e]
  simp [Op.equal, Op.maxDepth, h 9999]
theorem run_ptr_eql {tp te : TypeId} {n : Nat} (hp : Edhg.prog.underlying tp = some (.pointer te)) (hs : ((Edhg.prog.info? te).map (·.size)) = some (n + 1)) {W : World} {a b : Nat} {ca cb : Array Value} {ta tb : TypeId} (ha : Blk W a ca ta) (hb : Blk W b cb tb) :
    (binOp .eql tp (.pointer (some ⟨a, 0, none⟩)) (.pointer (some ⟨b, 0, none⟩))).run Edhg.prog W = .ok (.bool (decide (a = b))) W := by
  simp only [binOp]
  simp [run_ptr hp hs ha hb]
theorem run_ptr_neq {tp te : TypeId} {n : Nat} (hp : Edhg.prog.underlying tp = some (.pointer te)) (hs : ((Edhg.prog.info? te).map (·.size)) = some (n + 1)) {W : World} {a b : Nat} {ca cb : Array Value} {ta tb : TypeId} (ha : Blk W a ca ta) (hb : Blk W b cb tb) :
    (binOp .neq tp (.pointer (some ⟨a, 0, none⟩)) (.pointer (some ⟨b, 0, none⟩))).run Edhg.prog W = .ok (.bool (!decide (a = b))) W := by
  simp only [binOp]
  simp [run_ptr hp hs ha hb]
end Go.Proofs.Yoedhw
