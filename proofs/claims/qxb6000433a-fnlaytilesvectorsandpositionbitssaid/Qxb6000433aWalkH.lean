import Derived.Test.Qxb6000433aGrow
import Derived.Deep.Cut
namespace Go.Proofs.Qxb6000433a
open Go.RowKit

theorem Try.info5 : (Try.prog.info? 5).map (fun i => (i.zero, i.size, i.bytes)) = some (some (.int .u8 0), 1, 1) := by kernel_rfl
theorem Try.info21 : (Try.prog.info? 21).map (fun i => (i.zero, i.size, i.bytes)) = some (some (.int .i32 0), 1, 4) := by kernel_rfl

/-- The fields, with a new node n. -/
def addF (F : Nat → Nat → Int) (n : Nat) (x0 x1 x4 x5 x6 x7 x8 : Int) : Nat → Nat → Int := fun i v => if v = n then (match i with | 0 => x0 | 1 => x1 | 2 => -1 | 3 => -1 | 4 => x4 | 5 => x5 | 6 => x6 | 7 => x7 | 8 => x8 | _ => 0) else F i v

/-- What add leaves. -/
def Added (w : World) (base bt n : Nat) (F' : Nat → Nat → Int) (V : Nat → Value) (e : Ending) (w' : World) : Prop := e = .returned (.int .i32 (n : Int)) ∧ ∃ V', TreeK w' base bt (n + 1) 0 F' V' ∧ Grew w w' bt V V'

/-- Between two appends. -/
structure Mid (w0 w : World) (base bt n k : Nat) (F : Nat → Nat → Int) (V0 V : Nat → Value) : Prop where
  tree : TreeK w base bt n k F V
  grew : Grew w0 w bt V0 V
  le : base ≤ w.heap.size

theorem Mid.row {w0 w : World} {base bt n k : Nat} {F : Nat → Nat → Int} {V0 V : Nat → Value} (h : Mid w0 w base bt n k F V0 V) (hk : k < 9) : w.ownsRow base (et k) 1 (V k) n (vals (kt k) (F k) n) := by
  have := h.tree.row k hk
  rw [if_neg (by omega)] at this
  exact this

theorem Mid.push {w0 w w1 : World} {base bt n k : Nat} {F : Nat → Nat → Int} {V0 V : Nat → Value} (h : Mid w0 w base bt n k F V0 V) (hk : k < 9) {o : Obj} {g cap : Nat} {x : Int} (hx : F k n = x)
    (hown : w1.ownsRow base (et k) 1 (.slice (some ⟨g, 0, none⟩) (n + 1) cap) (n + 1) (vals (kt k) (F k) n ++ [.int (kt k) x]))
    (hgrow : (w.alloc o).grownBy w1 (V k).ownBlock) (hat : (V k).ownBlock = some g ∨ g = (w.alloc o).heap.size) :
    Mid w0 (w1.setCell ⟨bt, k, none⟩ (.slice (some ⟨g, 0, none⟩) (n + 1) cap)) base bt n (k + 1) F V0 (upV V k (.slice (some ⟨g, 0, none⟩) (n + 1) cap)) := by
  have h1 := h.tree.push hk (World.grownBy_alloc w o none) hx hown hgrow hat (by simp)
  exact ⟨h1.1, h.grew.trans h1.2, Nat.le_trans h.le h1.2.size⟩

theorem Mid.at {w0 w w1 : World} {base bt n k : Nat} {F : Nat → Nat → Int} {V0 V : Nat → Value} (h : Mid w0 w base bt n k F V0 V) (hk : k < 9) {o : Obj} (hgrow : (w.alloc o).grownBy w1 (V k).ownBlock) :
    w1.cell? ⟨bt, k, none⟩ = some (V k) ∧ w1.frozen? ⟨bt, k, none⟩ = false := by
  have hne : some bt ≠ (V k).ownBlock := fun e => h.tree.off k hk e.symm
  have hlt : bt < (w.alloc o).heap.size := by have := h.tree.bt_lt; simp; omega
  have h1 := World.grownBy_alloc w o none
  refine ⟨hgrow.cell (h1.cell (h.tree.cell k hk) (by simp)) hne, ?_⟩
  rw [World.frozen?_of_block (a := ⟨bt, k, none⟩) (hgrow.block bt hlt hne), World.frozen?_of_block (a := ⟨bt, k, none⟩) (h1.block bt h.tree.bt_lt (by simp))]
  exact h.tree.fz k

set_option maxRecDepth 100000 in
set_option maxHeartbeats 3200000 in
theorem add_any (base bt n : Nat) (F : Nat → Nat → Int) (V : Nat → Value) (w : World) (hT : TreeK w base bt n 0 F V) (hb : base ≤ w.heap.size) (hn : n ≤ 5000) (x0 x1 x4 x5 x6 x7 x8 : Int) :
    Calls Try.prog 34 #[.pointer (some ⟨bt, 0, none⟩), .int .u8 x0, .int .u8 x1, .int .i32 x4, .int .i32 x5, .int .i32 x6, .int .i32 x7, .int .i32 x8] w fun e w' => Added w base bt n (addF F n x0 x1 x4 x5 x6 x7 x8) V e w' := by
  obtain ⟨i5, hi5, hz5, hs5, hb5⟩ := info_parts Try.info5
  obtain ⟨i21, hi21, hz21, hs21, hb21⟩ := info_parts Try.info21
  have HI5 := Kept.mk (And.intro hi5 (And.intro hz5 (And.intro hs5 hb5)))
  have HI21 := Kept.mk (And.intro hi21 (And.intro hz21 (And.intro hs21 hb21)))
  clear hi5 hz5 hs5 hb5 hi21 hz21 hs21 hb21
  obtain ⟨G, hG⟩ : ∃ G, G = addF F n x0 x1 x4 x5 x6 x7 x8 := ⟨_, rfl⟩
  have HT : Kept (Mid w w base bt n 0 G V V) := ⟨⟨hT.congr (fun i v hi hv => by rw [if_neg (by omega)] at hv; rw [hG]; unfold addF; rw [if_neg (by omega)]), Grew.refl _ _ _, hb⟩⟩
  rw [← hG]
  have hx0 : Kept (G 0 n = x0) := ⟨by rw [hG]; unfold addF; rw [if_pos rfl]; rfl⟩
  have hx1 : Kept (G 1 n = x1) := ⟨by rw [hG]; unfold addF; rw [if_pos rfl]; rfl⟩
  have hx2 : Kept (G 2 n = (-1)) := ⟨by rw [hG]; unfold addF; rw [if_pos rfl]; rfl⟩
  have hx3 : Kept (G 3 n = (-1)) := ⟨by rw [hG]; unfold addF; rw [if_pos rfl]; rfl⟩
  have hx4 : Kept (G 4 n = x4) := ⟨by rw [hG]; unfold addF; rw [if_pos rfl]; rfl⟩
  have hx5 : Kept (G 5 n = x5) := ⟨by rw [hG]; unfold addF; rw [if_pos rfl]; rfl⟩
  have hx6 : Kept (G 6 n = x6) := ⟨by rw [hG]; unfold addF; rw [if_pos rfl]; rfl⟩
  have hx7 : Kept (G 7 n = x7) := ⟨by rw [hG]; unfold addF; rw [if_pos rfl]; rfl⟩
  have hx8 : Kept (G 8 n = x8) := ⟨by rw [hG]; unfold addF; rw [if_pos rfl]; rfl⟩
  clear hG hT hb
  go_enter Try.func34, Try.ntmps34
  go_upto_region 1 with fail
  have c0 := HT.out.tree.cell 0 (by omega)
  have r0 : Kept (w.ownsRow base 5 1 (V 0) n (vals .u8 (G 0) n)) := ⟨HT.out.row (by omega)⟩
  go_upto_region 2 with (at_builtin; refine wpList_append_lies _ rfl (.tmp 21) (.tmp 23) 25 rfl base 5 i5 (.int .u8 0) 1 1 Try.underlying25 HI5.out.1 HI5.out.2.1 HI5.out.2.2.1 HI5.out.2.2.2 rfl (by decide) _ n _ rfl (r0.out.alloc _) ⟨w.heap.size, 0, none⟩ 1 1 [.int .u8 x0] rfl rfl (cell_one_new _ _ _) (ints_oneCell .u8 [x0]) (by decide) (by unfold maxLen; omega) (by omega) (by have := HT.out.le; simp; omega) _ rfl ?_; intro g cap w1 hown hgrow hat hlt; obtain ⟨d1, d2⟩ := HT.out.at (by omega) hgrow)
  have HP := Kept.mk (HT.out.push (by omega) hx0.out hown hgrow hat)
  clear hown hgrow hat hlt d1 d2 c0 r0 HT
  generalize w1.setCell ⟨bt, 0, none⟩ (.slice (some ⟨g, 0, none⟩) (n + 1) cap) = W1 at HP ⊢
  generalize upV V 0 (.slice (some ⟨g, 0, none⟩) (n + 1) cap) = V1 at HP
  have HT := HP
  clear HP
  have c1 := HT.out.tree.cell 1 (by omega)
  have r1 : Kept (W1.ownsRow base 5 1 (V1 1) n (vals .u8 (G 1) n)) := ⟨HT.out.row (by omega)⟩
  go_upto_region 3 with (at_builtin; refine wpList_append_lies _ rfl (.tmp 31) (.tmp 33) 25 rfl base 5 i5 (.int .u8 0) 1 1 Try.underlying25 HI5.out.1 HI5.out.2.1 HI5.out.2.2.1 HI5.out.2.2.2 rfl (by decide) _ n _ rfl (r1.out.alloc _) ⟨W1.heap.size, 0, none⟩ 1 1 [.int .u8 x1] rfl rfl (cell_one_new _ _ _) (ints_oneCell .u8 [x1]) (by decide) (by unfold maxLen; omega) (by omega) (by have := HT.out.le; simp; omega) _ rfl ?_; intro g cap w1 hown hgrow hat hlt; obtain ⟨d1, d2⟩ := HT.out.at (by omega) hgrow)
  have HP := Kept.mk (HT.out.push (by omega) hx1.out hown hgrow hat)
  clear hown hgrow hat hlt d1 d2 c1 r1 HT
  generalize w1.setCell ⟨bt, 1, none⟩ (.slice (some ⟨g, 0, none⟩) (n + 1) cap) = W2 at HP ⊢
  generalize upV V1 1 (.slice (some ⟨g, 0, none⟩) (n + 1) cap) = V2 at HP
  have HT := HP
  clear HP
  have c2 := HT.out.tree.cell 2 (by omega)
  have r2 : Kept (W2.ownsRow base 21 1 (V2 2) n (vals .i32 (G 2) n)) := ⟨HT.out.row (by omega)⟩
  go_upto_region 4 with (at_builtin; refine wpList_append_lies _ rfl (.tmp 41) (.tmp 42) 26 rfl base 21 i21 (.int .i32 0) 1 4 Try.underlying26 HI21.out.1 HI21.out.2.1 HI21.out.2.2.1 HI21.out.2.2.2 rfl (by decide) _ n _ rfl (r2.out.alloc _) ⟨W2.heap.size, 0, none⟩ 1 1 [.int .i32 (-1)] rfl rfl (cell_one_new _ _ _) (ints_oneCell .i32 [(-1)]) (by decide) (by unfold maxLen; omega) (by omega) (by have := HT.out.le; simp; omega) _ rfl ?_; intro g cap w1 hown hgrow hat hlt; obtain ⟨d1, d2⟩ := HT.out.at (by omega) hgrow)
  have HP := Kept.mk (HT.out.push (by omega) hx2.out hown hgrow hat)
  clear hown hgrow hat hlt d1 d2 c2 r2 HT
  generalize w1.setCell ⟨bt, 2, none⟩ (.slice (some ⟨g, 0, none⟩) (n + 1) cap) = W3 at HP ⊢
  generalize upV V2 2 (.slice (some ⟨g, 0, none⟩) (n + 1) cap) = V3 at HP
  have HT := HP
  clear HP
  have c3 := HT.out.tree.cell 3 (by omega)
  have r3 : Kept (W3.ownsRow base 21 1 (V3 3) n (vals .i32 (G 3) n)) := ⟨HT.out.row (by omega)⟩
  go_upto_region 5 with (at_builtin; refine wpList_append_lies _ rfl (.tmp 50) (.tmp 51) 26 rfl base 21 i21 (.int .i32 0) 1 4 Try.underlying26 HI21.out.1 HI21.out.2.1 HI21.out.2.2.1 HI21.out.2.2.2 rfl (by decide) _ n _ rfl (r3.out.alloc _) ⟨W3.heap.size, 0, none⟩ 1 1 [.int .i32 (-1)] rfl rfl (cell_one_new _ _ _) (ints_oneCell .i32 [(-1)]) (by decide) (by unfold maxLen; omega) (by omega) (by have := HT.out.le; simp; omega) _ rfl ?_; intro g cap w1 hown hgrow hat hlt; obtain ⟨d1, d2⟩ := HT.out.at (by omega) hgrow)
  have HP := Kept.mk (HT.out.push (by omega) hx3.out hown hgrow hat)
  clear hown hgrow hat hlt d1 d2 c3 r3 HT
  generalize w1.setCell ⟨bt, 3, none⟩ (.slice (some ⟨g, 0, none⟩) (n + 1) cap) = W4 at HP ⊢
  generalize upV V3 3 (.slice (some ⟨g, 0, none⟩) (n + 1) cap) = V4 at HP
  have HT := HP
  clear HP
  have c4 := HT.out.tree.cell 4 (by omega)
  have r4 : Kept (W4.ownsRow base 21 1 (V4 4) n (vals .i32 (G 4) n)) := ⟨HT.out.row (by omega)⟩
  go_upto_region 6 with (at_builtin; refine wpList_append_lies _ rfl (.tmp 59) (.tmp 61) 26 rfl base 21 i21 (.int .i32 0) 1 4 Try.underlying26 HI21.out.1 HI21.out.2.1 HI21.out.2.2.1 HI21.out.2.2.2 rfl (by decide) _ n _ rfl (r4.out.alloc _) ⟨W4.heap.size, 0, none⟩ 1 1 [.int .i32 x4] rfl rfl (cell_one_new _ _ _) (ints_oneCell .i32 [x4]) (by decide) (by unfold maxLen; omega) (by omega) (by have := HT.out.le; simp; omega) _ rfl ?_; intro g cap w1 hown hgrow hat hlt; obtain ⟨d1, d2⟩ := HT.out.at (by omega) hgrow)
  have HP := Kept.mk (HT.out.push (by omega) hx4.out hown hgrow hat)
  clear hown hgrow hat hlt d1 d2 c4 r4 HT
  generalize w1.setCell ⟨bt, 4, none⟩ (.slice (some ⟨g, 0, none⟩) (n + 1) cap) = W5 at HP ⊢
  generalize upV V4 4 (.slice (some ⟨g, 0, none⟩) (n + 1) cap) = V5 at HP
  have HT := HP
  clear HP
  have c5 := HT.out.tree.cell 5 (by omega)
  have r5 : Kept (W5.ownsRow base 21 1 (V5 5) n (vals .i32 (G 5) n)) := ⟨HT.out.row (by omega)⟩
  go_upto_region 7 with (at_builtin; refine wpList_append_lies _ rfl (.tmp 69) (.tmp 71) 26 rfl base 21 i21 (.int .i32 0) 1 4 Try.underlying26 HI21.out.1 HI21.out.2.1 HI21.out.2.2.1 HI21.out.2.2.2 rfl (by decide) _ n _ rfl (r5.out.alloc _) ⟨W5.heap.size, 0, none⟩ 1 1 [.int .i32 x5] rfl rfl (cell_one_new _ _ _) (ints_oneCell .i32 [x5]) (by decide) (by unfold maxLen; omega) (by omega) (by have := HT.out.le; simp; omega) _ rfl ?_; intro g cap w1 hown hgrow hat hlt; obtain ⟨d1, d2⟩ := HT.out.at (by omega) hgrow)
  have HP := Kept.mk (HT.out.push (by omega) hx5.out hown hgrow hat)
  clear hown hgrow hat hlt d1 d2 c5 r5 HT
  generalize w1.setCell ⟨bt, 5, none⟩ (.slice (some ⟨g, 0, none⟩) (n + 1) cap) = W6 at HP ⊢
  generalize upV V5 5 (.slice (some ⟨g, 0, none⟩) (n + 1) cap) = V6 at HP
  have HT := HP
  clear HP
  have c6 := HT.out.tree.cell 6 (by omega)
  have r6 : Kept (W6.ownsRow base 21 1 (V6 6) n (vals .i32 (G 6) n)) := ⟨HT.out.row (by omega)⟩
  go_upto_region 8 with (at_builtin; refine wpList_append_lies _ rfl (.tmp 79) (.tmp 81) 26 rfl base 21 i21 (.int .i32 0) 1 4 Try.underlying26 HI21.out.1 HI21.out.2.1 HI21.out.2.2.1 HI21.out.2.2.2 rfl (by decide) _ n _ rfl (r6.out.alloc _) ⟨W6.heap.size, 0, none⟩ 1 1 [.int .i32 x6] rfl rfl (cell_one_new _ _ _) (ints_oneCell .i32 [x6]) (by decide) (by unfold maxLen; omega) (by omega) (by have := HT.out.le; simp; omega) _ rfl ?_; intro g cap w1 hown hgrow hat hlt; obtain ⟨d1, d2⟩ := HT.out.at (by omega) hgrow)
  have HP := Kept.mk (HT.out.push (by omega) hx6.out hown hgrow hat)
  clear hown hgrow hat hlt d1 d2 c6 r6 HT
  generalize w1.setCell ⟨bt, 6, none⟩ (.slice (some ⟨g, 0, none⟩) (n + 1) cap) = W7 at HP ⊢
  generalize upV V6 6 (.slice (some ⟨g, 0, none⟩) (n + 1) cap) = V7 at HP
  have HT := HP
  clear HP
  have c7 := HT.out.tree.cell 7 (by omega)
  have r7 : Kept (W7.ownsRow base 21 1 (V7 7) n (vals .i32 (G 7) n)) := ⟨HT.out.row (by omega)⟩
  go_upto_region 9 with (at_builtin; refine wpList_append_lies _ rfl (.tmp 89) (.tmp 91) 26 rfl base 21 i21 (.int .i32 0) 1 4 Try.underlying26 HI21.out.1 HI21.out.2.1 HI21.out.2.2.1 HI21.out.2.2.2 rfl (by decide) _ n _ rfl (r7.out.alloc _) ⟨W7.heap.size, 0, none⟩ 1 1 [.int .i32 x7] rfl rfl (cell_one_new _ _ _) (ints_oneCell .i32 [x7]) (by decide) (by unfold maxLen; omega) (by omega) (by have := HT.out.le; simp; omega) _ rfl ?_; intro g cap w1 hown hgrow hat hlt; obtain ⟨d1, d2⟩ := HT.out.at (by omega) hgrow)
  have HP := Kept.mk (HT.out.push (by omega) hx7.out hown hgrow hat)
  clear hown hgrow hat hlt d1 d2 c7 r7 HT
  generalize w1.setCell ⟨bt, 7, none⟩ (.slice (some ⟨g, 0, none⟩) (n + 1) cap) = W8 at HP ⊢
  generalize upV V7 7 (.slice (some ⟨g, 0, none⟩) (n + 1) cap) = V8 at HP
  have HT := HP
  clear HP
  have c8 := HT.out.tree.cell 8 (by omega)
  have r8 : Kept (W8.ownsRow base 21 1 (V8 8) n (vals .i32 (G 8) n)) := ⟨HT.out.row (by omega)⟩
  go_upto_region 10 with (at_builtin; refine wpList_append_lies _ rfl (.tmp 99) (.tmp 101) 26 rfl base 21 i21 (.int .i32 0) 1 4 Try.underlying26 HI21.out.1 HI21.out.2.1 HI21.out.2.2.1 HI21.out.2.2.2 rfl (by decide) _ n _ rfl (r8.out.alloc _) ⟨W8.heap.size, 0, none⟩ 1 1 [.int .i32 x8] rfl rfl (cell_one_new _ _ _) (ints_oneCell .i32 [x8]) (by decide) (by unfold maxLen; omega) (by omega) (by have := HT.out.le; simp; omega) _ rfl ?_; intro g cap w1 hown hgrow hat hlt; obtain ⟨d1, d2⟩ := HT.out.at (by omega) hgrow)
  have HP := Kept.mk (HT.out.push (by omega) hx8.out hown hgrow hat)
  clear hown hgrow hat hlt d1 d2 c8 r8 HT
  generalize w1.setCell ⟨bt, 8, none⟩ (.slice (some ⟨g, 0, none⟩) (n + 1) cap) = W9 at HP ⊢
  generalize upV V8 8 (.slice (some ⟨g, 0, none⟩) (n + 1) cap) = V9 at HP
  have HT := HP
  clear HP
  have hN := HT.out.tree.next
  obtain ⟨g, cap, hV⟩ := hN.form (by omega) 0 (by omega)
  have c9 := hN.cell 0 (by omega)
  rw [hV] at c9
  have HR := Kept.mk (show Added w base bt n G V (.returned (.int .i32 (n : Int))) W9 from ⟨rfl, V9, hN, HT.out.grew⟩)
  clear hN hV HT
  go_wp2
  go_ret
  exact HR.out

end Go.Proofs.Qxb6000433a
