import Derived.Test.Qxb6000433aRounds
import Derived.Laws.Cover3
namespace Go.Proofs.Qxb6000433a
open Go.RowKit

def k3 (i : Nat) : IntKind := if i = 0 then .u8 else .i32
def zeroOp : Value := .agg #[.int .u8 0, .int .i32 0, .int .i32 0]
theorem Try.info63 : (Try.prog.info? 63).map (fun i => (i.zero, i.size, i.bytes)) = some (some zeroOp, 3, 12) := by kernel_rfl

def madeO (n : Nat) : Array Value := madeCells zeroOp.cells (n * 3)

theorem run_make3 (n : Nat) (hn : n ≤ 4096) (w : World) :
    (Instr.makeSlice 22 (.int .i64 (n : Int)) (.int .i64 (n : Int))).run Try.prog w = .ok (.slice (some ⟨w.heap.size, 0, none⟩) n n) (w.alloc (.cells (madeO n) 63)) := by
  obtain ⟨i, hi, hz, hs, hb⟩ := info_parts Try.info63
  have hr := run_make (P := Try.prog) w 22 63 i _ Try.underlying22 hi hz .i64 .i64 n n (by omega) (Int.le_refl _) (by rw [hb]; omega) (by omega)
  simp only [Int.toNat_natCast, hs] at hr
  exact hr

/-- The copy as it lies. -/
def ORow (w : World) (go n : Nat) (M : Nat → Nat → Int) : Prop := w.rowIs go 63 (n * 3) (fun j => .int (k3 (j % 3)) (M (j % 3) (j / 3)))

theorem orow_made (w : World) (n : Nat) : ORow (w.alloc (.cells (madeO n) 63)) w.heap.size n (fun _ _ => 0) := by
  refine ⟨_, Deep.blk_alloc_new _ _, by simp [madeO, size_madeCells], fun i hi => ?_⟩
  have h4 : i % 3 < 3 := by omega
  simp [madeO, madeCells, hi, zeroOp, Value.cells]
  match i % 3, h4 with
  | 0, _ => rfl
  | 1, _ => rfl
  | 2, _ => rfl

theorem ORow.cell {w : World} {go n : Nat} {M : Nat → Nat → Int} (h : ORow w go n M) (i v : Nat) (hi : i < 3) (hv : v < n) : w.cell? ⟨go, v * 3 + i, none⟩ = some (.int (k3 i) (M i v)) := by
  have := World.rowIs.cell h (i := v * 3 + i) (by omega)
  simp only [show (v * 3 + i) % 3 = i by omega, show (v * 3 + i) / 3 = v by omega] at this
  exact this

theorem ORow.set {w : World} {go n : Nat} {M : Nat → Nat → Int} (h : ORow w go n M) (i v : Nat) (hi : i < 3) (x : Int) : ORow (w.setCell ⟨go, v * 3 + i, none⟩ (.int (k3 i) x)) go n (set2 M i v x) := by
  refine World.rowIs.congr (World.rowIs.set h (v * 3 + i) _) fun j hj => ?_
  unfold set2
  by_cases e : j = v * 3 + i
  · subst e
    rw [if_pos rfl, if_pos (by omega), show (v * 3 + i) % 3 = i by omega]
  · rw [if_neg e, if_neg (by omega)]

theorem ORow.put {w : World} {go n : Nat} {M : Nat → Nat → Int} (h : ORow w go n M) (v : Nat) (x y z : Int) :
    ORow (((w.setCell ⟨go, v * 3, none⟩ (.int .u8 x)).setCell ⟨go, v * 3 + 1, none⟩ (.int .i32 y)).setCell ⟨go, v * 3 + 2, none⟩ (.int .i32 z)) go n (set2 (set2 (set2 M 0 v x) 1 v y) 2 v z) :=
  ((h.set 0 v (by omega) x).set 1 v (by omega) y).set 2 v (by omega) z

/-- The script as it came in. -/
structure OpsSrc (w : World) (b o l : Nat) (kz az bz : Nat → Int) : Prop where
  ck : ∀ i, i < l → w.cell? ⟨b, o + i * 3, none⟩ = some (.int .u8 (kz i)) ∧ 0 ≤ kz i ∧ kz i ≤ 255
  ca : ∀ i, i < l → w.cell? ⟨b, o + i * 3 + 1, none⟩ = some (.int .i32 (az i)) ∧ -2147483648 ≤ az i ∧ az i ≤ 2147483647
  cb : ∀ i, i < l → w.cell? ⟨b, o + i * 3 + 2, none⟩ = some (.int .i32 (bz i)) ∧ -2147483648 ≤ bz i ∧ bz i ≤ 2147483647

def Copied (w : World) (l : Nat) (kz az bz : Nat → Int) (e : Ending) (w' : World) : Prop := ∃ go, e = .returned (.slice (some ⟨go, 0, none⟩) l l) ∧ OpsAt w' go l kz az bz ∧ Below w.heap.size w w'

theorem eql_nil (w : World) (a : Option Addr) (l c : Nat) : (binOp .eql 22 (.slice a l c) (.slice none 0 0)).run Try.prog w = .ok (.bool a.isNone) w := by
  simp only [binOp]
  simp [run_equal_slice_nil w 22 63 a l c Try.underlying22]

theorem cloneOps_nil (w : World) : Calls Try.prog 11 #[.slice none 0 0] w fun e w' => e = .returned (.slice none 0 0) ∧ w' = w := by
  have hnil := eql_nil
  go_enter Try.func11, Try.ntmps11
  go_wp2
  go_ret
  exact ⟨rfl, rfl⟩

set_option maxRecDepth 100000 in
set_option maxHeartbeats 1600000 in
theorem cloneOps_any (ad : Addr) (b o l cp : Nat) (kz az bz : Nat → Int) (w : World) (had : 0 < l → ad = ⟨b, o, none⟩) (hS : OpsSrc w b o l kz az bz) (hl : l ≤ 4096) : Calls Try.prog 11 #[.slice (some ad) l cp] w fun e w' => Copied w l kz az bz e w' := by
  have HS := Kept.mk hS
  have HD := Kept.mk had
  clear hS had
  have hmk := run_make3 l hl
  have hrow := orow_made w l
  have HM := Kept.mk hrow
  clear hrow
  have hnil := eql_nil
  go_enter Try.func11, Try.ntmps11
  go_wp2
  clear hmk
  go_loopg [4] l (fun g' i wr => ∃ (k : Nat) (M : Nat → Nat → Int), k ≤ l ∧ g' = l - k ∧ i = .int .i64 k ∧ Below w.heap.size w wr ∧ ORow wr w.heap.size l M ∧ ∀ v, v < k → M 0 v = kz v ∧ M 1 v = az v ∧ M 2 v = bz v)
  case atStart => exact ⟨0, _, Nat.zero_le _, rfl, rfl, (Below.refl _ _).alloc (Nat.le_refl _) _, HM.out, fun v hv => by omega⟩
  case round =>
    clear HM
    obtain ⟨k, M, hk, rfl, rfl, hbel, hrow, hM⟩ := hrel
    by_cases hlt : k < l
    · obtain rfl := HD.out (by omega)
      have c0 := (HS.out.ck k hlt).1
      have c1 := (HS.out.ca k hlt).1
      have c2 := (HS.out.cb k hlt).1
      rw [← hbel.cell (World.block_lt_of_cell? _ _ c0)] at c0
      rw [← hbel.cell (World.block_lt_of_cell? _ _ c1)] at c1
      rw [← hbel.cell (World.block_lt_of_cell? _ _ c2)] at c2
      have m0 : wr.cell? ⟨w.heap.size, k * 3, none⟩ = some (.int .u8 (M 0 k)) := hrow.cell 0 k (by omega) hlt
      have m1 : wr.cell? ⟨w.heap.size, k * 3 + 1, none⟩ = some (.int .i32 (M 1 k)) := hrow.cell 1 k (by omega) hlt
      have m2 : wr.cell? ⟨w.heap.size, k * 3 + 2, none⟩ = some (.int .i32 (M 2 k)) := hrow.cell 2 k (by omega) hlt
      have f0 := World.rowIs.frozen hrow (k * 3)
      have f1 := World.rowIs.frozen hrow (k * 3 + 1)
      have f2 := World.rowIs.frozen hrow (k * 3 + 2)
      have HB := Kept.mk (((hbel.setCell (p := ⟨w.heap.size, k * 3, none⟩) (Nat.le_refl _) (.int .u8 (kz k))).setCell (p := ⟨w.heap.size, k * 3 + 1, none⟩) (Nat.le_refl _) (.int .i32 (az k))).setCell (p := ⟨w.heap.size, k * 3 + 2, none⟩) (Nat.le_refl _) (.int .i32 (bz k)))
      have HP := Kept.mk (hrow.put k (kz k) (az k) (bz k))
      have HN := Kept.mk (show ∀ v, v < k + 1 → set2 (set2 (set2 M 0 k (kz k)) 1 k (az k)) 2 k (bz k) 0 v = kz v ∧ set2 (set2 (set2 M 0 k (kz k)) 1 k (az k)) 2 k (bz k) 1 v = az v ∧ set2 (set2 (set2 M 0 k (kz k)) 1 k (az k)) 2 k (bz k) 2 v = bz v from fun v hv => by
        by_cases e : v = k
        · subst e; simp [set2]
        · have := hM v (by omega); simp [set2, e, this])
      clear hbel hrow hM
      go_wp2
      go_roundg (l - (k + 1))
      case measure => omega
      case rel => exact ⟨k + 1, _, by omega, rfl, by go_num, HB.out, HP.out, HN.out⟩
    · obtain rfl : k = l := by omega
      have hat : OpsAt wr w.heap.size k kz az bz := ⟨fun i hi => ⟨by have := hrow.cell 0 i (by omega) hi; rw [(hM i hi).1] at this; exact this, (HS.out.ck i hi).2⟩, fun i hi => ⟨by have := hrow.cell 1 i (by omega) hi; rw [(hM i hi).2.1] at this; exact this, (HS.out.ca i hi).2⟩, fun i hi => ⟨by have := hrow.cell 2 i (by omega) hi; rw [(hM i hi).2.2] at this; exact this, (HS.out.cb i hi).2⟩⟩
      have HR := Kept.mk (show Copied w k kz az bz (.returned (.slice (some ⟨w.heap.size, 0, none⟩) k k)) wr from ⟨_, rfl, hat, hbel⟩)
      clear hat hbel hrow hM
      go_wp2
      go_ret
      exact HR.out

end Go.Proofs.Qxb6000433a
