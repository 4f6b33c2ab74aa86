import Derived.Test.Qxb6000433aWalkC
namespace Go.Proofs.Qxb6000433a
open Go.RowKit

def zeroNode : Value := .agg #[.int .u8 0, .int .u8 0, .int .i32 0, .int .i32 0, .int .i32 0, .int .i32 0, .int .i32 0, .int .i32 0, .int .i32 0, .int .i32 0, .int .i32 0, .int .i32 0, .int .i32 0, .int .i32 0]
theorem Try.info80 : (Try.prog.info? 80).map (fun i => (i.zero, i.size, i.bytes)) = some (some zeroNode, 14, 52) := by kernel_rfl

def madeN (n : Nat) : Array Value := madeCells zeroNode.cells (n * 14)

theorem run_make14 (n : Nat) (hn : n ≤ 5000) (w : World) :
    (Instr.makeSlice 73 (.int .i64 (n : Int)) (.int .i64 (n : Int))).run Try.prog w = .ok (.slice (some ⟨w.heap.size, 0, none⟩) n n) (w.alloc (.cells (madeN n) 80)) := by
  obtain ⟨i, hi, hz, hs, hb⟩ := info_parts Try.info80
  have hr := run_make (P := Try.prog) w 73 80 i _ Try.underlying73 hi hz .i64 .i64 n n (by omega) (Int.le_refl _) (by rw [hb]; omega) (by omega)
  simp only [Int.toNat_natCast, hs] at hr
  exact hr

theorem nrow_made (w : World) (n : Nat) : NRow (w.alloc (.cells (madeN n) 80)) w.heap.size n (fun _ _ => 0) := by
  refine ⟨_, Deep.blk_alloc_new _ _, by simp [madeN, size_madeCells], fun i hi => ?_⟩
  have h4 : i % 14 < 14 := by omega
  simp [madeN, madeCells, hi, zeroNode, Value.cells]
  match i % 14, h4 with
  | 0, _ => rfl
  | 1, _ => rfl
  | 2, _ => rfl
  | 3, _ => rfl
  | 4, _ => rfl
  | 5, _ => rfl
  | 6, _ => rfl
  | 7, _ => rfl
  | 8, _ => rfl
  | 9, _ => rfl
  | 10, _ => rfl
  | 11, _ => rfl
  | 12, _ => rfl
  | 13, _ => rfl

theorem NRow.congr {w : World} {gn n : Nat} {N N' : Nat → Nat → Int} (h : NRow w gn n N) (e : ∀ i v, i < 14 → v < n → N i v = N' i v) : NRow w gn n N' :=
  World.rowIs.congr h fun j hj => by rw [e (j % 14) (j / 14) (by omega) (by omega)]

/-- A whole node stored. -/
def setNode (w : World) (gn k : Nat) (x0 x1 x2 x3 x4 x5 x6 x7 x8 x9 x10 x11 x12 x13 : Int) : World := ((((((((((((((w.setCell ⟨gn, k * 14, none⟩ (.int .u8 x0)).setCell ⟨gn, k * 14 + 1, none⟩ (.int .u8 x1)).setCell ⟨gn, k * 14 + 2, none⟩ (.int .i32 x2)).setCell ⟨gn, k * 14 + 3, none⟩ (.int .i32 x3)).setCell ⟨gn, k * 14 + 4, none⟩ (.int .i32 x4)).setCell ⟨gn, k * 14 + 5, none⟩ (.int .i32 x5)).setCell ⟨gn, k * 14 + 6, none⟩ (.int .i32 x6)).setCell ⟨gn, k * 14 + 7, none⟩ (.int .i32 x7)).setCell ⟨gn, k * 14 + 8, none⟩ (.int .i32 x8)).setCell ⟨gn, k * 14 + 9, none⟩ (.int .i32 x9)).setCell ⟨gn, k * 14 + 10, none⟩ (.int .i32 x10)).setCell ⟨gn, k * 14 + 11, none⟩ (.int .i32 x11)).setCell ⟨gn, k * 14 + 12, none⟩ (.int .i32 x12)).setCell ⟨gn, k * 14 + 13, none⟩ (.int .i32 x13))

theorem NRow.setNode {w : World} {gn n : Nat} {N : Nat → Nat → Int} (h : NRow w gn n N) (k : Nat) (x0 x1 x2 x3 x4 x5 x6 x7 x8 x9 x10 x11 x12 x13 : Int) :
    NRow (setNode w gn k x0 x1 x2 x3 x4 x5 x6 x7 x8 x9 x10 x11 x12 x13) gn n (set2 (set2 (set2 (set2 (set2 (set2 (set2 (set2 (set2 (set2 (set2 (set2 (set2 (set2 N 0 k x0) 1 k x1) 2 k x2) 3 k x3) 4 k x4) 5 k x5) 6 k x6) 7 k x7) 8 k x8) 9 k x9) 10 k x10) 11 k x11) 12 k x12) 13 k x13) := by
  have h0 := NRow.set h 0 k (by omega) x0
  have h1 := NRow.set h0 1 k (by omega) x1
  have h2 := NRow.set h1 2 k (by omega) x2
  have h3 := NRow.set h2 3 k (by omega) x3
  have h4 := NRow.set h3 4 k (by omega) x4
  have h5 := NRow.set h4 5 k (by omega) x5
  have h6 := NRow.set h5 6 k (by omega) x6
  have h7 := NRow.set h6 7 k (by omega) x7
  have h8 := NRow.set h7 8 k (by omega) x8
  have h9 := NRow.set h8 9 k (by omega) x9
  have h10 := NRow.set h9 10 k (by omega) x10
  have h11 := NRow.set h10 11 k (by omega) x11
  have h12 := NRow.set h11 12 k (by omega) x12
  have h13 := NRow.set h12 13 k (by omega) x13
  exact h13

theorem below_setNode {B : Nat} {w wr : World} (h : Below B w wr) {gn : Nat} (hb : B ≤ gn) (k : Nat) (x0 x1 x2 x3 x4 x5 x6 x7 x8 x9 x10 x11 x12 x13 : Int) : Below B w (setNode wr gn k x0 x1 x2 x3 x4 x5 x6 x7 x8 x9 x10 x11 x12 x13) := by
  have h0 := h.setCell (p := ⟨gn, k * 14, none⟩) hb (.int .u8 x0)
  have h1 := h0.setCell (p := ⟨gn, k * 14 + 1, none⟩) hb (.int .u8 x1)
  have h2 := h1.setCell (p := ⟨gn, k * 14 + 2, none⟩) hb (.int .i32 x2)
  have h3 := h2.setCell (p := ⟨gn, k * 14 + 3, none⟩) hb (.int .i32 x3)
  have h4 := h3.setCell (p := ⟨gn, k * 14 + 4, none⟩) hb (.int .i32 x4)
  have h5 := h4.setCell (p := ⟨gn, k * 14 + 5, none⟩) hb (.int .i32 x5)
  have h6 := h5.setCell (p := ⟨gn, k * 14 + 6, none⟩) hb (.int .i32 x6)
  have h7 := h6.setCell (p := ⟨gn, k * 14 + 7, none⟩) hb (.int .i32 x7)
  have h8 := h7.setCell (p := ⟨gn, k * 14 + 8, none⟩) hb (.int .i32 x8)
  have h9 := h8.setCell (p := ⟨gn, k * 14 + 9, none⟩) hb (.int .i32 x9)
  have h10 := h9.setCell (p := ⟨gn, k * 14 + 10, none⟩) hb (.int .i32 x10)
  have h11 := h10.setCell (p := ⟨gn, k * 14 + 11, none⟩) hb (.int .i32 x11)
  have h12 := h11.setCell (p := ⟨gn, k * 14 + 12, none⟩) hb (.int .i32 x12)
  have h13 := h12.setCell (p := ⟨gn, k * 14 + 13, none⟩) hb (.int .i32 x13)
  exact h13

/-- The nodes as ZZProgram lays them. -/
def N0 (F : Nat → Nat → Int) : Nat → Nat → Int := fun i v => if i < 9 then F i v else 0

theorem N0_step {F N : Nat → Nat → Int} {n k : Nat} (hN : ∀ i v, i < 14 → v < n → N i v = if v < k then N0 F i v else 0) : ∀ i v, i < 14 → v < n →
    (set2 (set2 (set2 (set2 (set2 (set2 (set2 (set2 (set2 (set2 (set2 (set2 (set2 (set2 N 0 k (F 0 k)) 1 k (F 1 k)) 2 k (F 2 k)) 3 k (F 3 k)) 4 k (F 4 k)) 5 k (F 5 k)) 6 k (F 6 k)) 7 k (F 7 k)) 8 k (F 8 k)) 9 k 0) 10 k 0) 11 k 0) 12 k 0) 13 k 0) i v = if v < k + 1 then N0 F i v else 0 := fun i v hi hv => by
  by_cases e : v = k
  · subst e
    rw [if_pos (by omega)]
    match i, hi with
    | 0, _ => simp [set2, N0]
    | 1, _ => simp [set2, N0]
    | 2, _ => simp [set2, N0]
    | 3, _ => simp [set2, N0]
    | 4, _ => simp [set2, N0]
    | 5, _ => simp [set2, N0]
    | 6, _ => simp [set2, N0]
    | 7, _ => simp [set2, N0]
    | 8, _ => simp [set2, N0]
    | 9, _ => simp [set2, N0]
    | 10, _ => simp [set2, N0]
    | 11, _ => simp [set2, N0]
    | 12, _ => simp [set2, N0]
    | 13, _ => simp [set2, N0]
  · have hq : ∀ (M : Nat → Nat → Int) (j : Nat) (x : Int), set2 M j k x i v = M i v := fun M j x => by unfold set2; rw [if_neg (fun h => e h.2)]
    rw [hq, hq, hq, hq, hq, hq, hq, hq, hq, hq, hq, hq, hq, hq, hN i v hi hv]
    by_cases h : v < k
    · rw [if_pos h, if_pos (by omega)]
    · rw [if_neg h, if_neg (by omega)]

end Go.Proofs.Qxb6000433a
