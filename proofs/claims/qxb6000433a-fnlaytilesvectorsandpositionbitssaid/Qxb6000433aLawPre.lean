import Derived.Test.Qxb6000433aWalkG
import Derived.Test.Qxb6000433aWalkI
import Derived.Test.Qxb6000433aWalkJ
namespace Go.Proofs.Qxb6000433a
open Go.RowKit
open Plain (Whole P fac S B)

theorem zzLay_any (base bp gn n : Nat) (F : Nat → Nat → Int) (K : Nat → List Nat) (par : Nat → Nat) (w : World) (hW : Whole F n K par) (hA : LayAt w base w bp gn n (N0 F) 0 0) (hn : n ≤ 5000)
    (hM : ∀ c, c < n → P F par n c ≤ 67108864) (hS : S (P F par n) n ≤ 1048576) (hB : B F (P F par n) n ≤ 4194304) :
    Calls Try.prog 30 #[.pointer (some ⟨bp, 0, none⟩)] w fun e w' => e = .returned (.tuple #[]) ∧ ∃ N, LayAt w base w' bp gn n N (B F (P F par n) n) (S (P F par n) n) ∧ LaidOut F (P F par n) n n N := by
  have HC := Kept.mk (lay_any base bp gn n F K par w hW hA hn hM hS hB)
  clear hW hA hM hS hB
  go_enter Try.func30, Try.ntmps30
  go_wp2_with fail
  refine HC.out.mono ?_
  rintro e W ⟨rfl, N, h1, h2⟩
  have HR := Kept.mk (And.intro h1 h2)
  clear HC h1 h2
  go_wp2
  go_end0
  exact ⟨rfl, N, HR.out.1, HR.out.2⟩

/-- The law's own tree. -/
theorem tree_new {w : World} {A : Nat → Option Addr} {m : Nat} {C g : Nat → Nat} {F : Nat → Nat → Int} (hA : ∀ i, i < 9 → A i = some ⟨g i, 0, none⟩) (hv : ∀ i, i < 9 → ∀ v, v < m → w.cell? ⟨g i, v, none⟩ = some (.int (kt i) (F i v))) :
    TreeR (w.alloc (.cells #[.slice (A 0) m (C 0), .slice (A 1) m (C 1), .slice (A 2) m (C 2), .slice (A 3) m (C 3), .slice (A 4) m (C 4), .slice (A 5) m (C 5), .slice (A 6) m (C 6), .slice (A 7) m (C 7), .slice (A 8) m (C 8)] 28)) w.heap.size m F C g := by
  refine ⟨fun i hi => ?_, fun i hi v hvm => ?_⟩
  · rw [cell_of_row _ _ _ _ _ _ (Deep.blk_alloc_new w _), ← hA i hi]
    match i, hi with
    | 0, _ => rfl
    | 1, _ => rfl
    | 2, _ => rfl
    | 3, _ => rfl
    | 4, _ => rfl
    | 5, _ => rfl
    | 6, _ => rfl
    | 7, _ => rfl
    | 8, _ => rfl
  have h2 := hv i hi v hvm
  have h3 := World.block_lt_of_cell? _ _ h2
  rw [← h2]
  exact World.cell?_of_block (Deep.blk_alloc_lt _ _ _ h3)

/-- A row of bools, true below s. -/
def tr (s : Nat) : Nat → Value := fun i => .bool (decide (i < s))

theorem tr_step {w : World} {b n s : Nat} (h : w.rowIs b 4 n (tr s)) : (w.setCell ⟨b, s, none⟩ (.bool true)).rowIs b 4 n (tr (s + 1)) := by
  refine World.rowIs.congr (World.rowIs.set h s (.bool true)) fun j hj => ?_
  unfold tr
  by_cases e : j = s
  · subst e; rw [if_pos rfl]; simp
  · rw [if_neg e]
    have : decide (j < s + 1) = decide (j < s) := by
      by_cases h : j < s
      · simp [h]; omega
      · simp [h]; omega
    rw [this]

theorem Try.info4 : (Try.prog.info? 4).map (fun i => (i.zero, i.size, i.bytes)) = some (some (.bool false), 1, 1) := by kernel_rfl

/-- What the law does to the memory behind ZZSizes. -/
structure Law (W4 wr : World) (vw bits sw sb : Nat) : Prop where
  bel : Below W4.heap.size W4 wr
  words : wr.rowIs W4.heap.size 4 vw (tr sw)
  cover : wr.rowIs (W4.heap.size + 1) 4 bits (tr sb)

theorem Law.later {W4 wr w' : World} {vw bits sw sb : Nat} (h : Law W4 wr vw bits sw sb) (hb : Below wr.heap.size wr w') : Law W4 w' vw bits sw sb :=
  ⟨h.bel.trans (hb.mono (Nat.le_of_lt (World.rowIs.lt h.words))), World.rowIs.of_block h.words (hb.block _ (World.rowIs.lt h.words)), World.rowIs.of_block h.cover (hb.block _ (World.rowIs.lt h.cover))⟩

theorem Law.setW {W4 wr : World} {vw bits sw sb : Nat} (h : Law W4 wr vw bits sw sb) : Law W4 (wr.setCell ⟨W4.heap.size, sw, none⟩ (.bool true)) vw bits (sw + 1) sb :=
  ⟨h.bel.setCell (p := ⟨W4.heap.size, sw, none⟩) (Nat.le_refl _) _, tr_step h.words, World.rowIs.setOther h.cover (a := ⟨W4.heap.size, sw, none⟩) (by simp) _⟩

theorem Law.setC {W4 wr : World} {vw bits sw sb : Nat} (h : Law W4 wr vw bits sw sb) : Law W4 (wr.setCell ⟨W4.heap.size + 1, sb, none⟩ (.bool true)) vw bits sw (sb + 1) :=
  ⟨h.bel.setCell (p := ⟨W4.heap.size + 1, sb, none⟩) (Nat.le_succ _) _, World.rowIs.setOther h.words (a := ⟨W4.heap.size + 1, sb, none⟩) (by simp) _, tr_step h.cover⟩

theorem Law.start (W : World) (vw bits : Nat) : Law W ((W.alloc (.cells (madeCells #[.bool false] vw) 4)).alloc (.cells (madeCells #[.bool false] bits) 4)) vw bits 0 0 where
  bel := ((Below.refl _ _).alloc (Nat.le_refl _) _).alloc (by simp) _
  words := (World.rowIs.alloc (World.rowIs_made W (.bool false) vw 4) _).congr fun i _ => by simp [tr]
  cover := by
    have := World.rowIs_made (W.alloc (.cells (madeCells #[.bool false] vw) 4)) (.bool false) bits 4
    rw [show (W.alloc (.cells (madeCells #[.bool false] vw) 4)).heap.size = W.heap.size + 1 by simp] at this
    exact this.congr fun i _ => by simp [tr]

end Go.Proofs.Qxb6000433a
