import Derived.Test.Qxb6000750aRows
import Derived.Test.Qxb6000750aLater
import Derived.Laws.Rows
namespace Go.Proofs.Qxb6000750a
open Go.RowKit

/-- Numbers modulo 2^64. -/
def wr (x : Int) : Int := IntKind.u64.wrap x
/-- Subtraction that stops at 0. -/
def sat (a b : Int) : Int := if a ≤ b then 0 else a - b

def Fits (a : Int) : Prop := 0 ≤ a ∧ a < 18446744073709551616

theorem Try.size24 : (Try.prog.info? 24).map (·.size) = some 3 := by kernel_rfl

theorem out24 {fn : Func} {p : Tmp} (h : fn.results = #[.cell p 24]) (tmps : Array Value) (w : World) (g : Nat) (x y z : Value) (fr : Nat × Nat)
    (hp : tmps.getD p undef = .pointer (some ⟨g, 0, none⟩)) (hg : w.heap[g]? = some (.cells #[x, y, z] 24 fr)) : (results fn tmps).run Try.prog w = .ok (.agg #[x, y, z]) w := by
  exact results_cell_row h tmps w g 24 #[x, y, z] fr _ hp hg Try.underlying24 rfl (by rw [Try.size24]; rfl)

set_option maxRecDepth 100000 in
theorem zzCost_any (a b c : Int) (w : World) : Calls Try.prog 7 #[.int .u64 a, .int .u64 b, .int .u64 c] w fun e w' => e = .returned (.agg #[.int .u64 a, .int .u64 b, .int .u64 c]) ∧ Below w.heap.size w w' := by
  go_enter Try.func7, Try.ntmps7
  go_wp2
  refine bodyPost_ret (out24 rfl _ _ w.heap.size _ _ _ _ rfl (heap_alloc_new _ _)) rfl ?_
  exact ⟨rfl, (Below.refl _ _).alloc (Nat.le_refl _) _⟩

theorem below3 (w : World) (A B C : Obj) : Below w.heap.size w (((w.alloc A).alloc B).alloc C) := by
  have h1 := (Below.refl w.heap.size w).alloc (Nat.le_refl _) A
  have h2 := h1.alloc h1.size B
  exact h2.alloc h2.size C

theorem heap3 (w : World) (A B C : Obj) : (((w.alloc A).alloc B).alloc C).heap[w.heap.size + 1 + 1]? = some C := by
  have h := heap_alloc_new ((w.alloc A).alloc B) C
  have e : ((w.alloc A).alloc B).heap.size = w.heap.size + 1 + 1 := by
    show ((w.heap.push A).push B).size = _
    simp
  rwa [e] at h

set_option maxRecDepth 100000 in
theorem add_any (a b c x y z : Int) (w : World) :
    Calls Try.prog 8 #[.agg #[.int .u64 a, .int .u64 b, .int .u64 c], .agg #[.int .u64 x, .int .u64 y, .int .u64 z]] w fun e w' => e = .returned (.agg #[.int .u64 (wr (a + x)), .int .u64 (wr (b + y)), .int .u64 (wr (c + z))]) ∧ Below w.heap.size w w' := by
  go_enter Try.func8, Try.ntmps8
  go_wp2
  refine bodyPost_ret (out24 rfl _ _ (w.heap.size + 1 + 1) _ _ _ _ rfl (heap3 _ _ _ _)) rfl ?_
  exact ⟨rfl, below3 _ _ _ _⟩

set_option maxRecDepth 100000 in
theorem sub_any (a b c x y z : Int) (ha : Fits a) (hx : Fits x) (w : World) :
    Calls Try.prog 9 #[.agg #[.int .u64 a, .int .u64 b, .int .u64 c], .agg #[.int .u64 x, .int .u64 y, .int .u64 z]] w fun e w' => e = .returned (.agg #[.int .u64 (sat a x), .int .u64 (wr (b - y)), .int .u64 (wr (c - z))]) ∧ Below w.heap.size w w' := by
  obtain ⟨h0, h1⟩ := ha
  obtain ⟨h2, h3⟩ := hx
  by_cases h : a ≤ x
  · have e : sat a x = 0 := by unfold sat; rw [if_pos h]
    rw [e]; clear e
    go_enter Try.func9, Try.ntmps9
    go_wp2
    refine bodyPost_ret (out24 rfl _ _ (w.heap.size + 1 + 1) _ _ _ _ rfl (heap3 _ _ _ _)) rfl ?_
    exact ⟨rfl, below3 _ _ _ _⟩
  · have e : sat a x = a - x := by unfold sat; rw [if_neg h]
    rw [e]; clear e
    go_enter Try.func9, Try.ntmps9
    go_wp2
    refine bodyPost_ret (out24 rfl _ _ (w.heap.size + 1 + 1) _ _ _ _ rfl (heap3 _ _ _ _)) rfl ?_
    exact ⟨rfl, below3 _ _ _ _⟩

theorem sat_fits {a b : Int} (ha : Fits a) (hb : Fits b) : Fits (sat a b) := by
  unfold sat Fits at *
  split <;> omega

theorem wr_fits (a : Int) : Fits (wr a) := by
  unfold wr Fits
  rw [IntKind.wrap_u64]; omega

theorem wr_of_fits {a : Int} (h : Fits a) : wr a = a := by
  unfold wr; unfold Fits at h
  rw [IntKind.wrap_u64]; omega

theorem msgs {c d e : Int} (hd : Fits d) (he : Fits e) (h : ¬ 18446744073709551615 - e < d) : sat (sat c d) e = sat c (wr (d + e)) := by
  rw [wr_of_fits (by unfold Fits at *; omega)]
  unfold sat Fits at *
  by_cases h1 : c ≤ d
  · rw [if_pos h1, if_pos he.1, if_pos (by omega)]
  · rw [if_neg h1]
    by_cases h2 : c - d ≤ e
    · rw [if_pos h2, if_pos (by omega)]
    · rw [if_neg h2, if_neg (by omega)]; omega

theorem wraps (c d e : Int) : wr (wr (c - d) - e) = wr (c - wr (d + e)) := by
  unfold wr
  simp only [IntKind.wrap_u64]; omega
end Go.Proofs.Qxb6000750a
