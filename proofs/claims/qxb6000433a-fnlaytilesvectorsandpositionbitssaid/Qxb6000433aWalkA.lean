import Derived.Test.Qxb6000433aRows
import Derived.Test.Qxb6000433aPlain
import Derived.Test.Qxb6000433aLater
import Derived.WalkKit
import Derived.WalkSpells
import Derived.WalkLawsBesides
import Derived.Deep.LoopGhost
import Derived.Deep.OwnRows
import Derived.RegionTactic
import Derived.ChangeAlike
import Derived.BigRegion
import Derived.BigQuiet
import Derived.Deep.QuietTactic
import Derived.Deep.RegionWith
import Derived.OwnWalk
import Derived.WalkSmall
namespace Go.Proofs.Qxb6000433a
open Go.RowKit

/-- A fact kept from the walk. -/
structure Kept (p : Prop) : Prop where
  out : p

def kt (i : Nat) : IntKind := if i < 2 then .u8 else .i32

/-- The structure 'tree' as it is read: nine slices of n numbers. -/
structure TreeR (w : World) (bt n : Nat) (F : Nat → Nat → Int) (cp g : Nat → Nat) : Prop where
  cell : ∀ i, i < 9 → w.cell? ⟨bt, i, none⟩ = some (.slice (some ⟨g i, 0, none⟩) n (cp i))
  val : ∀ i, i < 9 → ∀ v, v < n → w.cell? ⟨g i, v, none⟩ = some (.int (kt i) (F i v))

theorem TreeR.later {w w' : World} {bt n : Nat} {F : Nat → Nat → Int} {cp g : Nat → Nat} (h : TreeR w bt n F cp g) (hb : Below w.heap.size w w') : TreeR w' bt n F cp g where
  cell := fun i hi => by rw [hb.cell (World.block_lt_of_cell? _ _ (h.cell i hi))]; exact h.cell i hi
  val := fun i hi v hv => by rw [hb.cell (World.block_lt_of_cell? _ _ (h.val i hi v hv))]; exact h.val i hi v hv

/-- The nodes as they lie: N i v is field i of node v. -/
def NRow (w : World) (gn n : Nat) (N : Nat → Nat → Int) : Prop := w.rowIs gn 80 (n * 14) (fun j => .int (kt (j % 14)) (N (j % 14) (j / 14)))

theorem NRow.cell {w : World} {gn n : Nat} {N : Nat → Nat → Int} (h : NRow w gn n N) (i v : Nat) (hi : i < 14) (hv : v < n) : w.cell? ⟨gn, v * 14 + i, none⟩ = some (.int (kt i) (N i v)) := by
  have := World.rowIs.cell h (i := v * 14 + i) (by omega)
  simp only [show (v * 14 + i) % 14 = i by omega, show (v * 14 + i) / 14 = v by omega] at this
  exact this

theorem NRow.later {w w' : World} {gn n : Nat} {N : Nat → Nat → Int} (h : NRow w gn n N) (hb : Below w.heap.size w w') : NRow w' gn n N :=
  World.rowIs.of_block h (hb.block _ (World.rowIs.lt h))

def set2 (N : Nat → Nat → Int) (i v : Nat) (x : Int) : Nat → Nat → Int := fun i' v' => if i' = i ∧ v' = v then x else N i' v'

theorem NRow.set {w : World} {gn n : Nat} {N : Nat → Nat → Int} (h : NRow w gn n N) (i v : Nat) (hi : i < 14) (x : Int) : NRow (w.setCell ⟨gn, v * 14 + i, none⟩ (.int (kt i) x)) gn n (set2 N i v x) := by
  refine World.rowIs.congr (World.rowIs.set h (v * 14 + i) _) fun j hj => ?_
  unfold set2
  by_cases e : j = v * 14 + i
  · subst e
    rw [if_pos rfl, if_pos (by omega), show (v * 14 + i) % 14 = i by omega]
  · rw [if_neg e, if_neg (by omega)]

theorem wordsOf_any (m : Nat) (hm : m ≤ 1152921504606846976) (w : World) : Calls Try.prog 47 #[.int .i64 (m : Int)] w fun e w' => e = .returned (.int .i64 ((Plain.words m : Nat) : Int)) ∧ w' = w := by
  have e : ((Plain.words m : Nat) : Int) = ((m : Int) + 63) / 64 := by unfold Plain.words; omega
  rw [e]; clear e
  go_enter Try.func47, Try.ntmps47
  go_wp2
  go_ret
  exact ⟨rfl, rfl⟩

theorem zzBytes_any (a : Option Addr) (l c : Nat) (w : World) (h : l ≤ 1048576) : Calls Try.prog 33 #[.slice a l c] w fun e w' => e = .returned (.bool true) ∧ w' = w := by
  go_enter Try.func33, Try.ntmps33
  go_wp2
  go_ret
  exact ⟨rfl, rfl⟩

theorem zzBytes_big (a : Option Addr) (l c : Nat) (w : World) (h : 1048576 < l) (hl : l ≤ maxLen) : Calls Try.prog 33 #[.slice a l c] w fun e w' => e = .returned (.bool false) ∧ w' = w := by
  unfold maxLen at hl
  go_enter Try.func33, Try.ntmps33
  go_wp2
  go_ret
  exact ⟨rfl, rfl⟩

theorem copiesOf_any (bt n v : Nat) (F : Nat → Nat → Int) (cp g : Nat → Nat) (w : World) (hT : TreeR w bt n F cp g) (hv : v < n) (h7 : 0 ≤ F 7 v ∧ F 7 v ≤ 4) (h8 : -1 ≤ F 8 v ∧ F 8 v ≤ 7) :
    Calls Try.prog 42 #[.pointer (some ⟨bt, 0, none⟩), .int .i64 (v : Int)] w fun e w' => e = .returned (.int .i64 (Plain.copies F v)) ∧ w' = w := by
  have c7 := hT.cell 7 (by omega)
  have c8 := hT.cell 8 (by omega)
  have v7 : w.cell? ⟨g 7, v, none⟩ = some (.int .i32 (F 7 v)) := hT.val 7 (by omega) v hv
  have v8 : w.cell? ⟨g 8, v, none⟩ = some (.int .i32 (F 8 v)) := hT.val 8 (by omega) v hv
  clear hT
  obtain ⟨a1, a2⟩ := h7
  obtain ⟨a3, a4⟩ := h8
  by_cases h : F 8 v < 0
  · by_cases h1 : F 7 v < 1
    · have e : Plain.copies F v = 1 := by unfold Plain.copies; rw [if_pos h, if_pos h1]
      rw [e]; clear e
      go_enter Try.func42, Try.ntmps42
      go_wp2
      go_ret
      exact ⟨rfl, rfl⟩
    · have e : Plain.copies F v = F 7 v := by unfold Plain.copies; rw [if_pos h, if_neg h1]
      rw [e]; clear e
      go_enter Try.func42, Try.ntmps42
      go_wp2
      go_ret
      exact ⟨rfl, rfl⟩
  · have e : Plain.copies F v = F 8 v := by unfold Plain.copies; rw [if_neg h]
    rw [e]; clear e
    go_enter Try.func42, Try.ntmps42
    go_wp2
    go_ret
    exact ⟨rfl, rfl⟩

theorem copies_any (gn n v : Nat) (N : Nat → Nat → Int) (w : World) (hT : NRow w gn n N) (hv : v < n) (h7 : 0 ≤ N 7 v ∧ N 7 v ≤ 4) (h8 : -1 ≤ N 8 v ∧ N 8 v ≤ 7) :
    Calls Try.prog 46 #[.pointer (some ⟨gn, v * 14, none⟩)] w fun e w' => e = .returned (.int .i64 (Plain.copies N v)) ∧ w' = w := by
  have v7 : w.cell? ⟨gn, v * 14 + 7, none⟩ = some (.int .i32 (N 7 v)) := hT.cell 7 v (by omega) hv
  have v8 : w.cell? ⟨gn, v * 14 + 8, none⟩ = some (.int .i32 (N 8 v)) := hT.cell 8 v (by omega) hv
  clear hT
  obtain ⟨a1, a2⟩ := h7
  obtain ⟨a3, a4⟩ := h8
  by_cases h : N 8 v < 0
  · have h' : N 8 v = -1 := by omega
    have hb : (N 8 v == -1) = true := by rw [h']; rfl
    by_cases h1 : N 7 v < 1
    · have e : Plain.copies N v = 1 := by unfold Plain.copies; rw [if_pos h, if_pos h1]
      rw [e]; clear e
      go_enter Try.func46, Try.ntmps46
      go_wp2
      go_ret
      exact ⟨rfl, rfl⟩
    · have e : Plain.copies N v = N 7 v := by unfold Plain.copies; rw [if_pos h, if_neg h1]
      rw [e]; clear e
      go_enter Try.func46, Try.ntmps46
      go_wp2
      go_ret
      exact ⟨rfl, rfl⟩
  · have e : Plain.copies N v = N 8 v := by unfold Plain.copies; rw [if_neg h]
    have h' : N 8 v ≠ -1 := by omega
    rw [e]; clear e
    go_enter Try.func46, Try.ntmps46
    go_wp2
    go_ret
    exact ⟨rfl, rfl⟩

/-- The program as it lies: its nodes, its bits, its words. -/
structure PAt (w : World) (bp gn n : Nat) (bits vw : Nat) : Prop where
  c0 : w.cell? ⟨bp, 0, none⟩ = some (.slice (some ⟨gn, 0, none⟩) n n)
  c3 : w.cell? ⟨bp, 3, none⟩ = some (.int .i64 (bits : Int))
  c4 : w.cell? ⟨bp, 4, none⟩ = some (.int .i64 (vw : Int))

theorem sizes_any (bp gn n bits vw : Nat) (w : World) (h : PAt w bp gn n bits vw) :
    Calls Try.prog 31 #[.pointer (some ⟨bp, 0, none⟩)] w fun e w' => e = .returned (.tuple #[.int .i64 (bits : Int), .int .i64 (vw : Int)]) ∧ Below w.heap.size w w' := by
  obtain ⟨c0, c3, c4⟩ := h
  go_enter Try.func31, Try.ntmps31
  go_wp2
  go_quiet (fail)
  go_wp2
  refine bodyPost_ret (results_tmp2 rfl _ _ _) rfl ?_
  exact ⟨rfl, below_drewN (Below.refl _ _) _⟩

theorem results_tmp4 {fn : Func} {t u v x : Tmp} (h : fn.results = #[.tmp t, .tmp u, .tmp v, .tmp x]) (tmps : Array Value) (P : Program) (w : World) :
    (results fn tmps).run P w = .ok (.tuple #[tmps.getD t undef, tmps.getD u undef, tmps.getD v undef, tmps.getD x undef]) w := by
  simp [results, h]

theorem layout_any (bp gn n bits vw v : Nat) (N : Nat → Nat → Int) (w : World) (h : PAt w bp gn n bits vw) (hN : NRow w gn n N) (hv : v < n) :
    Calls Try.prog 32 #[.pointer (some ⟨bp, 0, none⟩), .int .i64 (v : Int)] w fun e w' => e = .returned (.tuple #[.int .i32 (N 10 v), .int .i32 (N 11 v), .int .i32 (N 12 v), .int .i32 (N 13 v)]) ∧ Below w.heap.size w w' := by
  obtain ⟨c0, c3, c4⟩ := h
  have v0 : w.cell? ⟨gn, v * 14 + 10, none⟩ = some (.int .i32 (N 10 v)) := hN.cell 10 v (by omega) hv
  have v1 : w.cell? ⟨gn, v * 14 + 11, none⟩ = some (.int .i32 (N 11 v)) := hN.cell 11 v (by omega) hv
  have v2 : w.cell? ⟨gn, v * 14 + 12, none⟩ = some (.int .i32 (N 12 v)) := hN.cell 12 v (by omega) hv
  have v3 : w.cell? ⟨gn, v * 14 + 13, none⟩ = some (.int .i32 (N 13 v)) := hN.cell 13 v (by omega) hv
  clear hN
  go_enter Try.func32, Try.ntmps32
  go_wp2
  go_quiet (fail)
  go_wp2
  refine bodyPost_ret (results_tmp4 rfl _ _ _) rfl ?_
  exact ⟨rfl, below_drewN (Below.refl _ _) _⟩

end Go.Proofs.Qxb6000433a
