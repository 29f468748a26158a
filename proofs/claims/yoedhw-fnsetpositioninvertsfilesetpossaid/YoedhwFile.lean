/-
  A file set in memory; AddFile.
-/
import Derived.Test.YoedhwName
namespace Go.Proofs.Yoedhw
open Go.RowKit

/-- A file: its block, base, size, name; its lines as a value and as numbers. -/
structure FRec where
  blk : Nat
  base : Int
  size : Int
  name : ByteArray
  lv : Value
  lines : List Int
def FRec.cells (f : FRec) (sb : Nat) : Array Value := #[.pointer (some ⟨sb, 0, none⟩), .string f.name, .int .i64 f.base, .int .i64 f.size, f.lv]
def FRec.ptr (f : FRec) : Value := .pointer (some ⟨f.blk, 0, none⟩)

/-- Block sb is a file set whose files are fs: fv its field Files, base its field Base, last its field LastFile. -/
structure SetIs (w : World) (B sb : Nat) (fv : Value) (fs : List FRec) (base : Int) (last : Value) : Prop where
  set : Blk w sb #[.int .i64 base, fv, last] 49
  row : w.ownsRow B 36 1 fv fs.length (fs.map FRec.ptr)
  nil : fs = [] → fv = .slice none 0 0
  file : ∀ f, f ∈ fs → Blk w f.blk (f.cells sb) 45
  line : ∀ f, f ∈ fs → w.ownsRow B 3 1 f.lv f.lines.length (f.lines.map (Value.int .i64))
  last : (last = .pointer none ∧ fs = []) ∨ ∃ f, f ∈ fs ∧ last = f.ptr

theorem Edhg.info36 : (Edhg.prog.info? 36).map (fun i => (i.zero, i.size, i.bytes)) = some (some (.pointer none), 1, 8) := by kernel_rfl

/-- A row that is owned does not lie in a block of another element type. -/
theorem owns_not {w : World} {B n b : Nat} {e t : TypeId} {v : Value} {xs : List Value} {cs : Array Value} (h : w.ownsRow B e 1 v n xs) (hb : Blk w b cs t) (hne : e ≠ t) : v.ownBlock ≠ some b := by
  intro hv
  rcases h.2 with ⟨rfl, _⟩ | ⟨g, cap, cur, rfl, _, hg, _⟩
  · cases hv
  · simp only [Value.ownBlock, Option.some.injEq] at hv
    subst hv
    exact hne (Blk.inj (w := w) hg hb).2

theorem owns_shape {w : World} {B n : Nat} {e : TypeId} {v : Value} {xs : List Value} (h : w.ownsRow B e 1 v (n + 1) xs) : ∃ g cap, v = .slice (some ⟨g, 0, none⟩) (n + 1) cap := by
  rcases h.2 with ⟨_, h⟩ | ⟨g, cap, _, h, _⟩
  · omega
  · exact ⟨g, cap, h⟩

/-- The world of AddFile as the append begins: the set's base has been stored, the file's lines, the file and the one-element slice laid. -/
def addAt (w : World) (sb : Nat) (base' : Int) (fc : Array Value) : World :=
  (((w.setCell ⟨sb, 0, none⟩ (.int .i64 base')).alloc (.cells #[.int .i64 0] 3)).alloc (.cells fc 45)).alloc (.cells #[.pointer (some ⟨w.heap.size + 1, 0, none⟩)] 36)

/-- What AddFile's append leaves. -/
theorem add_mid {w : World} {sb B n : Nat} {base base' : Int} {fv last : Value} {ps : List Value} {fc : Array Value} (hset : Blk w sb #[.int .i64 base, fv, last] 49) (hrow : w.ownsRow B 36 1 fv n ps)
    {w1 : World} (hg : (addAt w sb base' fc).grownBy w1 fv.ownBlock) :
    Blk w1 sb #[.int .i64 base', fv, last] 49 ∧ Blk w1 (w.heap.size + 1) fc 45 ∧ Blk w1 w.heap.size #[.int .i64 0] 3 ∧ Fr w w1 (fun k => k = sb ∨ fv.ownBlock = some k) := by
  have hn := owns_not hrow hset (by decide)
  have hlt := hset.lt
  have hown : ∀ k, fv.ownBlock = some k → k < w.heap.size := fun k hk => (hrow.lt k hk).2
  have s1 : (w.setCell ⟨sb, 0, none⟩ (.int .i64 base')).heap.size = w.heap.size := by simp
  have fr : Fr (addAt w sb base' fc) w1 (fun k => fv.ownBlock = some k) := (Fr.refl _ _).grown hg (fun k _ h => h)
  have b1 : Blk (addAt w sb base' fc) sb #[.int .i64 base', fv, last] 49 := by
    have := (((hset.set 0 (.int .i64 base')).alloc (.cells #[.int .i64 0] 3)).alloc (.cells fc 45)).alloc (.cells #[.pointer (some ⟨w.heap.size + 1, 0, none⟩)] 36)
    exact this
  have b2 : Blk (addAt w sb base' fc) (w.heap.size + 1) fc 45 := by
    have := (Blk.new ((w.setCell ⟨sb, 0, none⟩ (.int .i64 base')).alloc (.cells #[.int .i64 0] 3)) fc 45).alloc (.cells #[.pointer (some ⟨w.heap.size + 1, 0, none⟩)] 36)
    rw [World.size_alloc, s1] at this
    exact this
  have b3 : Blk (addAt w sb base' fc) w.heap.size #[.int .i64 0] 3 := by
    have := ((Blk.new (w.setCell ⟨sb, 0, none⟩ (.int .i64 base')) #[.int .i64 0] 3).alloc (.cells fc 45)).alloc (.cells #[.pointer (some ⟨w.heap.size + 1, 0, none⟩)] 36)
    rw [s1] at this
    exact this
  have fr0 : Fr w (addAt w sb base' fc) (fun k => k = sb) := ((((Fr.refl w (fun k => k = sb)).setCell (p := ⟨sb, 0, none⟩) (fun _ => rfl) _).alloc _).alloc _).alloc _
  refine ⟨fr.blk b1 (fun h => hn h), fr.blk b2 (fun h => ?_), fr.blk b3 (fun h => ?_), fr0.trans fr (fun i hi => .inl hi) (fun i _ hi => .inr hi)⟩
  · have := hown _ h; omega
  · have := hown _ h; omega

/-- The two stores behind the append. -/
theorem add_end {w w1 : World} {sb B n : Nat} {base' : Int} {fv fv' last p : Value} {ps : List Value} {fc : Array Value} (m : Blk w1 sb #[.int .i64 base', fv, last] 49 ∧ Blk w1 (w.heap.size + 1) fc 45 ∧ Blk w1 w.heap.size #[.int .i64 0] 3 ∧ Fr w w1 (fun k => k = sb ∨ fv.ownBlock = some k))
    (hlt : sb < w.heap.size) (hown : w1.ownsRow B 36 1 fv' (n + 1) ps) :
    Blk ((w1.setCell ⟨sb, 1, none⟩ fv').setCell ⟨sb, 2, none⟩ p) sb #[.int .i64 base', fv', p] 49 ∧ ((w1.setCell ⟨sb, 1, none⟩ fv').setCell ⟨sb, 2, none⟩ p).ownsRow B 36 1 fv' (n + 1) ps ∧
      Blk ((w1.setCell ⟨sb, 1, none⟩ fv').setCell ⟨sb, 2, none⟩ p) (w.heap.size + 1) fc 45 ∧ Blk ((w1.setCell ⟨sb, 1, none⟩ fv').setCell ⟨sb, 2, none⟩ p) w.heap.size #[.int .i64 0] 3 ∧ Fr w ((w1.setCell ⟨sb, 1, none⟩ fv').setCell ⟨sb, 2, none⟩ p) (fun k => k = sb ∨ fv.ownBlock = some k) := by
  obtain ⟨m1, m2, m3, m4⟩ := m
  have hn := owns_not hown m1 (by decide)
  refine ⟨(m1.set 1 fv').set 2 p, ownsRow_setCell_other (ownsRow_setCell_other hown hn _) hn _, (m2.other (by show _ ≠ sb; omega) _).other (by show _ ≠ sb; omega) _, (m3.other (by show _ ≠ sb; omega) _).other (by show _ ≠ sb; omega) _, (m4.setCell (fun _ => .inl rfl) _).setCell (fun _ => .inl rfl) _⟩

set_option maxHeartbeats 800000 in
/-- AddFile, its base not below the set's. -/
theorem add_core (sb : Nat) (name : ByteArray) (b size base : Int) (fv last : Value) (n B : Nat) (ps : List Value) (w : World)
    (hset : Blk w sb #[.int .i64 base, fv, last] 49) (hrow : w.ownsRow B 36 1 fv n ps)
    (hb : base ≤ b) (h0 : 0 ≤ b) (h1 : b ≤ 4294967296) (hs0 : 0 ≤ size) (hs1 : size ≤ 65536) (hn : n ≤ 1048576) (hB : B ≤ w.heap.size) :
    Calls Edhg.prog 31 #[.pointer (some ⟨sb, 0, none⟩), .string name, .int .i64 b, .int .i64 size] w fun e w' => e = .returned (.pointer (some ⟨w.heap.size + 1, 0, none⟩)) ∧
      ∃ fv', Blk w' sb #[.int .i64 (b + (size + 1)), fv', .pointer (some ⟨w.heap.size + 1, 0, none⟩)] 49 ∧ w'.ownsRow B 36 1 fv' (n + 1) (ps ++ [.pointer (some ⟨w.heap.size + 1, 0, none⟩)]) ∧
        Blk w' (w.heap.size + 1) #[.pointer (some ⟨sb, 0, none⟩), .string name, .int .i64 b, .int .i64 size, .slice (some ⟨w.heap.size, 0, none⟩) 1 1] 45 ∧ Blk w' w.heap.size #[.int .i64 0] 3 ∧
        Fr w w' (fun k => k = sb ∨ fv.ownBlock = some k) := by
  obtain ⟨i0, hi, hz0, hz1, hz2⟩ := info_parts Edhg.info36
  have c0 : w.cell? ⟨sb, 0, none⟩ = some (.int .i64 base) := hset.cell rfl
  have c1 : w.cell? ⟨sb, 1, none⟩ = some fv := hset.cell rfl
  have f0 := hset.free 0
  have f1 := hset.free 1
  have f2 := hset.free 2
  have hlt := hset.lt
  have HS : Hid (Blk w sb #[.int .i64 base, fv, last] 49) := hset
  have HR : Hid (w.ownsRow B 36 1 fv n ps) := hrow
  have HN : Hid (fv.ownBlock ≠ some sb) := owns_not hrow hset (by decide)
  clear hset hrow
  go_enter Edhg.func31, Edhg.ntmps31
  go_wp2_with (at_builtin; refine wpList_append_own _ rfl (.tmp 49) (.tmp 51) 27 rfl B 36 i0 (.pointer none) 1 8 Edhg.underlying27 hi hz0 hz1 hz2 rfl (by decide) fv n ps rfl ((((ownsRow_setCell_other HR.out HN.out _).alloc _).alloc _).alloc _) ⟨w.heap.size + 1 + 1, 0, none⟩ 1 1 [.pointer (some ⟨w.heap.size + 1, 0, none⟩)] rfl rfl ?c1 ?c2 ?c3 ?c4 ?c5 ?_)
  case c1 =>
    intro j u hj
    match j, hj with
    | 0, hj => simp at hj; subst hj; rw [Addr.add_lit, World.cell?_alloc_at _ _ _ _ (by simp)]; rfl
  case c2 => intro u hu; simp at hu; subst hu; rfl
  case c3 => unfold maxLen; omega
  case c4 => omega
  case c5 => simp; omega
  intro fv' w1 hown hgrow _
  have M := add_mid (base' := b + (size + 1)) HS.out HR.out hgrow
  obtain ⟨g, cap', hv⟩ := owns_shape hown
  have E := add_end (p := .pointer (some ⟨w.heap.size + 1, 0, none⟩)) M hlt hown
  have k1 : w1.cell? ⟨sb, 1, none⟩ = some fv := M.1.cell rfl
  have k2 : w1.cell? ⟨sb, 2, none⟩ = some last := M.1.cell rfl
  have g1 := M.1.free 1
  have g2 := M.1.free 2
  have hlt1 := M.1.lt
  rw [hv] at E ⊢
  have HE : Hid _ := E
  clear E M hown hgrow hv c0 c1 f0 f1 f2 hi hz0 hz1 hz2 HS HR HN
  go_wp2
  go_ret
  exact ⟨rfl, _, HE.out⟩
set_option maxHeartbeats 800000 in
/-- AddFile, the base handed in being -1: the set's own is taken. -/
theorem add_neg (sb : Nat) (name : ByteArray) (size b : Int) (fv last : Value) (n B : Nat) (ps : List Value) (w : World)
    (hset : Blk w sb #[.int .i64 b, fv, last] 49) (hrow : w.ownsRow B 36 1 fv n ps)
    (h0 : 0 ≤ b) (h1 : b ≤ 4294967296) (hs0 : 0 ≤ size) (hs1 : size ≤ 65536) (hn : n ≤ 1048576) (hB : B ≤ w.heap.size) :
    Calls Edhg.prog 31 #[.pointer (some ⟨sb, 0, none⟩), .string name, .int .i64 (-1), .int .i64 size] w fun e w' => e = .returned (.pointer (some ⟨w.heap.size + 1, 0, none⟩)) ∧
      ∃ fv', Blk w' sb #[.int .i64 (b + (size + 1)), fv', .pointer (some ⟨w.heap.size + 1, 0, none⟩)] 49 ∧ w'.ownsRow B 36 1 fv' (n + 1) (ps ++ [.pointer (some ⟨w.heap.size + 1, 0, none⟩)]) ∧
        Blk w' (w.heap.size + 1) #[.pointer (some ⟨sb, 0, none⟩), .string name, .int .i64 b, .int .i64 size, .slice (some ⟨w.heap.size, 0, none⟩) 1 1] 45 ∧ Blk w' w.heap.size #[.int .i64 0] 3 ∧
        Fr w w' (fun k => k = sb ∨ fv.ownBlock = some k) := by
  obtain ⟨i0, hi, hz0, hz1, hz2⟩ := info_parts Edhg.info36
  have c0 : w.cell? ⟨sb, 0, none⟩ = some (.int .i64 b) := hset.cell rfl
  have c1 : w.cell? ⟨sb, 1, none⟩ = some fv := hset.cell rfl
  have f0 := hset.free 0
  have f1 := hset.free 1
  have f2 := hset.free 2
  have hlt := hset.lt
  have HS : Hid (Blk w sb #[.int .i64 b, fv, last] 49) := hset
  have HR : Hid (w.ownsRow B 36 1 fv n ps) := hrow
  have HN : Hid (fv.ownBlock ≠ some sb) := owns_not hrow hset (by decide)
  clear hset hrow
  go_enter Edhg.func31, Edhg.ntmps31
  go_wp2_with (at_builtin; refine wpList_append_own _ rfl (.tmp 49) (.tmp 51) 27 rfl B 36 i0 (.pointer none) 1 8 Edhg.underlying27 hi hz0 hz1 hz2 rfl (by decide) fv n ps rfl ((((ownsRow_setCell_other HR.out HN.out _).alloc _).alloc _).alloc _) ⟨w.heap.size + 1 + 1, 0, none⟩ 1 1 [.pointer (some ⟨w.heap.size + 1, 0, none⟩)] rfl rfl ?c1 ?c2 ?c3 ?c4 ?c5 ?_)
  case c1 =>
    intro j u hj
    match j, hj with
    | 0, hj => simp at hj; subst hj; rw [Addr.add_lit, World.cell?_alloc_at _ _ _ _ (by simp)]; rfl
  case c2 => intro u hu; simp at hu; subst hu; rfl
  case c3 => unfold maxLen; omega
  case c4 => omega
  case c5 => simp; omega
  intro fv' w1 hown hgrow _
  have M := add_mid (base' := b + (size + 1)) HS.out HR.out hgrow
  obtain ⟨g, cap', hv⟩ := owns_shape hown
  have E := add_end (p := .pointer (some ⟨w.heap.size + 1, 0, none⟩)) M hlt hown
  have k1 : w1.cell? ⟨sb, 1, none⟩ = some fv := M.1.cell rfl
  have k2 : w1.cell? ⟨sb, 2, none⟩ = some last := M.1.cell rfl
  have g1 := M.1.free 1
  have g2 := M.1.free 2
  have hlt1 := M.1.lt
  rw [hv] at E ⊢
  have HE : Hid _ := E
  clear E M hown hgrow hv c0 c1 f0 f1 f2 hi hz0 hz1 hz2 HS HR HN
  go_wp2
  go_ret
  exact ⟨rfl, _, HE.out⟩

/-- The record of a file that AddFile has just laid, in a world of so many blocks. -/
def newRec (N : Nat) (name : ByteArray) (b size : Int) : FRec := ⟨N + 1, b, size, name, .slice (some ⟨N, 0, none⟩) 1 1, [0]⟩

/-- What AddFile leaves of a set: one file more. -/
theorem set_add {w w' : World} {B sb : Nat} {fv fv' last : Value} {fs : List FRec} {base b size : Int} {name : ByteArray} (hs : SetIs w B sb fv fs base last) (hB : B ≤ w.heap.size)
    (h : Blk w' sb #[.int .i64 (b + (size + 1)), fv', .pointer (some ⟨w.heap.size + 1, 0, none⟩)] 49 ∧ w'.ownsRow B 36 1 fv' (fs.length + 1) (fs.map FRec.ptr ++ [.pointer (some ⟨w.heap.size + 1, 0, none⟩)]) ∧
        Blk w' (w.heap.size + 1) #[.pointer (some ⟨sb, 0, none⟩), .string name, .int .i64 b, .int .i64 size, .slice (some ⟨w.heap.size, 0, none⟩) 1 1] 45 ∧ Blk w' w.heap.size #[.int .i64 0] 3 ∧
        Fr w w' (fun k => k = sb ∨ fv.ownBlock = some k)) :
    SetIs w' B sb fv' (fs ++ [newRec w.heap.size name b size]) (b + (size + 1)) (.pointer (some ⟨w.heap.size + 1, 0, none⟩)) := by
  obtain ⟨h1, h2, h3, h4, fr⟩ := h
  have hno : ∀ b cs t, Blk w b cs t → t ≠ 49 → t ≠ 36 → ¬ (b = sb ∨ fv.ownBlock = some b) := by
    intro b cs t hb h49 h36 h
    rcases h with rfl | h
    · exact h49 (hb.inj hs.set).2
    · exact owns_not hs.row hb (fun e => h36 e.symm) h
  refine ⟨h1, by simpa [newRec, FRec.ptr] using h2, fun h => by simp at h, ?_, ?_, .inr ⟨newRec w.heap.size name b size, by simp, rfl⟩⟩
  · intro f hf
    rcases List.mem_append.1 hf with hf | hf
    · exact fr.blk (hs.file f hf) (hno _ _ _ (hs.file f hf) (by decide) (by decide))
    · simp at hf; subst hf; exact h3
  · intro f hf
    rcases List.mem_append.1 hf with hf | hf
    · refine fr.owns (hs.line f hf) (fun k hk => ?_)
      rcases (hs.line f hf).2 with ⟨e, _⟩ | ⟨g, cap, cur, e, _, hg, _⟩
      · rw [e] at hk; cases hk
      · rw [e] at hk; simp only [Value.ownBlock, Option.some.injEq] at hk; subst hk
        exact hno _ _ _ hg (by decide) (by decide)
    · simp at hf; subst hf
      exact ⟨by simp [newRec], .inr ⟨w.heap.size, 1, _, rfl, hB, h4, Nat.le_refl _, by decide, rfl, by simp [newRec]⟩⟩

/-- AddFile at a base that is not below the set's. -/
theorem addFile_at {w : World} {B sb : Nat} {fv last : Value} {fs : List FRec} {base b size : Int} {name : ByteArray} (hs : SetIs w B sb fv fs base last) (hb : base ≤ b) (h0 : 0 ≤ b) (h1 : b ≤ 4294967296) (hs0 : 0 ≤ size) (hs1 : size ≤ 65536) (hn : fs.length ≤ 1048576) (hB : B ≤ w.heap.size) :
    Calls Edhg.prog 31 #[.pointer (some ⟨sb, 0, none⟩), .string name, .int .i64 b, .int .i64 size] w fun e w' => e = .returned (.pointer (some ⟨w.heap.size + 1, 0, none⟩)) ∧
      ∃ fv', SetIs w' B sb fv' (fs ++ [newRec w.heap.size name b size]) (b + (size + 1)) (.pointer (some ⟨w.heap.size + 1, 0, none⟩)) ∧ w.heap.size + 1 < w'.heap.size ∧ Fr w w' (fun k => k = sb ∨ fv.ownBlock = some k) :=
  (add_core sb name b size base fv last fs.length B _ w hs.set hs.row hb h0 h1 hs0 hs1 hn hB).mono fun _ _ ⟨he, fv', h⟩ => ⟨he, fv', set_add hs hB h, h.2.2.1.lt, h.2.2.2.2⟩

/-- AddFile at -1. -/
theorem addFile_neg {w : World} {B sb : Nat} {fv last : Value} {fs : List FRec} {b size : Int} {name : ByteArray} (hs : SetIs w B sb fv fs b last) (h0 : 0 ≤ b) (h1 : b ≤ 4294967296) (hs0 : 0 ≤ size) (hs1 : size ≤ 65536) (hn : fs.length ≤ 1048576) (hB : B ≤ w.heap.size) :
    Calls Edhg.prog 31 #[.pointer (some ⟨sb, 0, none⟩), .string name, .int .i64 (-1), .int .i64 size] w fun e w' => e = .returned (.pointer (some ⟨w.heap.size + 1, 0, none⟩)) ∧
      ∃ fv', SetIs w' B sb fv' (fs ++ [newRec w.heap.size name b size]) (b + (size + 1)) (.pointer (some ⟨w.heap.size + 1, 0, none⟩)) ∧ w.heap.size + 1 < w'.heap.size ∧ Fr w w' (fun k => k = sb ∨ fv.ownBlock = some k) :=
  (add_neg sb name size b fv last fs.length B _ w hs.set hs.row h0 h1 hs0 hs1 hn hB).mono fun _ _ ⟨he, fv', h⟩ => ⟨he, fv', set_add hs hB h, h.2.2.1.lt, h.2.2.2.2⟩

/-- A new set. -/
theorem set_new (w : World) (B : Nat) : SetIs (w.alloc (.cells #[.int .i64 1, .slice none 0 0, .pointer none] 49)) B w.heap.size (.slice none 0 0) [] 1 (.pointer none) :=
  ⟨Blk.new _ _ _, World.ownsRow_nil _ _ _ _, fun _ => rfl, fun f hf => (by cases hf), fun f hf => (by cases hf), .inl ⟨rfl, rfl⟩⟩

/-- A set in a world that keeps its blocks. -/
theorem SetIs.frame {w w' : World} {B sb : Nat} {fv last : Value} {fs : List FRec} {base : Int} {S : Nat → Prop} (hs : SetIs w B sb fv fs base last) (fr : Fr w w' S) (h1 : ¬ S sb) (h2 : ∀ k, fv.ownBlock = some k → ¬ S k)
    (h3 : ∀ f, f ∈ fs → ¬ S f.blk) (h4 : ∀ f, f ∈ fs → ∀ k, f.lv.ownBlock = some k → ¬ S k) : SetIs w' B sb fv fs base last :=
  ⟨fr.blk hs.set h1, fr.owns hs.row h2, hs.nil, fun f hf => fr.blk (hs.file f hf) (h3 f hf), fun f hf => fr.owns (hs.line f hf) (h4 f hf), hs.last⟩
theorem SetIs.below {w w' : World} {B sb : Nat} {fv last : Value} {fs : List FRec} {base : Int} (hs : SetIs w B sb fv fs base last) (h : Below w.heap.size w w') : SetIs w' B sb fv fs base last :=
  hs.frame (Fr.of_below h (fun _ => False)) (fun h => h) (fun _ _ h => h) (fun _ _ h => h) (fun _ _ _ _ h => h)
end Go.Proofs.Yoedhw
