import Derived.Test.Qxb6001457aSeg
import Derived.RegionTactic
import Derived.ChangeAlike
import Derived.BigRegion
namespace Go.Proofs.Qxb6001457a
open Go.RowKit

/-- Block g is a row of numbers from 'off' on, m of them; of its length nothing has turned since w. -/
structure Rv (w wr : World) (g off m size : Nat) : Prop where
  row : ∃ cur : Array Value, wr.heap[g]? = some (.cells cur 3 (0, 0)) ∧ cur.size = size ∧ ∀ j, j < m → ∃ z : Int, cur[off + j]? = some (.int .i64 z)
  grown : w.grownBy wr (some g)
  same : wr.heap.size = w.heap.size

theorem Rv.set {w wr : World} {g off m size : Nat} (h : Rv w wr g off m size) (k : Nat) (z : Int) : Rv w (wr.setCell ⟨g, off + k, none⟩ (.int .i64 z)) g off m size := by
  obtain ⟨⟨cur, hh, hs, hc⟩, hg, hz⟩ := h
  refine ⟨⟨cur.setIfInBounds (off + k) (.int .i64 z), ?_, by simpa using hs, fun j hj => ?_⟩, ⟨hg.os, hg.tape, hg.output, by simpa [World.setCell] using hg.size, fun i hi hne => ?_⟩, by simpa [World.setCell] using hz⟩
  · simp [World.setCell, Array.getElem?_modify, hh]
  · rw [Array.getElem?_setIfInBounds]
    obtain ⟨y, hy⟩ := hc j hj
    have hlt := (Array.getElem?_eq_some_iff.1 hy).1
    by_cases e : off + k = off + j
    · rw [if_pos e, if_pos (by omega)]; exact ⟨z, rfl⟩
    · rw [if_neg e]; exact ⟨y, hy⟩
  · rw [Below.heap_setCell _ _ _ _ (fun e => hne (by rw [e]))]
    exact hg.block i hi hne

theorem Rv.drew {w wr : World} {g off m size : Nat} (h : Rv w wr g off m size) : Rv w wr.drew g off m size := ⟨h.row, ⟨h.grown.os, h.grown.tape, h.grown.output, h.grown.size, h.grown.block⟩, h.same⟩

theorem Rv.cell {w wr : World} {g off m size : Nat} (h : Rv w wr g off m size) {j : Nat} (hj : j < m) : ∃ z : Int, wr.cell? ⟨g, off + j, none⟩ = some (.int .i64 z) := by
  obtain ⟨⟨cur, hh, hs, hc⟩, _, _⟩ := h
  obtain ⟨z, hz⟩ := hc j hj
  exact ⟨z, by simp [World.cell?, hh, hz]⟩
theorem Rv.frozen {w wr : World} {g off m size : Nat} (h : Rv w wr g off m size) (j : Nat) : wr.frozen? ⟨g, off + j, none⟩ = false := by
  obtain ⟨⟨cur, hh, hs, hc⟩, _, _⟩ := h
  simp [World.frozen?, hh]

set_option maxHeartbeats 1600000 in
theorem reverse_any (ao : Option Addr) (m c g off : Nat) (size : Nat) (w : World) (hm : m ≤ 4096) (hao : 0 < m → ao = some ⟨g, off, none⟩) (h : Rv w w g off m size) :
    Calls Try.prog 21 #[.slice ao m c] w fun e w' => e = .returned (.tuple #[]) ∧ Rv w w' g off m size := by
  go_enter Try.func21, Try.ntmps21
  go_wp2
  go_loopg [2, 3] m (fun gk i j wr => ∃ (k : Nat) (q : Int), q + k + 1 = m ∧ k ≤ m ∧ gk = m - k ∧ i = .int .i64 k ∧ j = .int .i64 q ∧ Rv w wr g off m size)
  case atStart => exact ⟨0, _, by omega, by omega, rfl, rfl, rfl, h⟩
  case round =>
    obtain ⟨k, q, hq, hk, rfl, rfl, rfl, hr⟩ := hrel
    clear h
    by_cases hlt : (k : Int) < q
    · obtain ⟨jn, rfl⟩ := Int.eq_ofNat_of_zero_le (show 0 ≤ q by omega)
      have hix := index26 (cap := c) (hao (by omega)) (show k < m by omega)
      have hiy := index26 (cap := c) (hao (by omega)) (show jn < m by omega)
      obtain ⟨zi, hci⟩ := hr.cell (show k < m by omega)
      obtain ⟨zj, hcj⟩ := hr.cell (show jn < m by omega)
      have hfi := hr.frozen k
      have hfj := hr.frozen jn
      have hkj : k < jn := by omega
      have hjm : jn < m := by omega
      have HQ : Hid ((jn : Int) + k + 1 = m) := hq
      clear hq hao
      go_wp2
      go_region
      all_goals go_wp2
      go_roundg (m - (k + 1))
      case measure => omega
      case rel =>
        have hq := HQ.out
        exact ⟨k + 1, (jn : Int) - 1, by omega, by omega, rfl, by go_num, by go_num, ((hr.set k zj).set jn zi).drew⟩
    · go_wp2
      go_end0
      exact ⟨rfl, hr⟩

end Go.Proofs.Qxb6001457a
