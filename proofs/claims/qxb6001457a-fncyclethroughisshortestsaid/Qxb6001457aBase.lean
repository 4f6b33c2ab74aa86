import Derived.Test.Qxb6001457aRows
import Derived.WalkKit
import Derived.WalkSpells
import Derived.WalkLawsBesides
import Derived.Deep.LoopGhost
import Derived.Deep.OwnRows
namespace Go.Proofs.Qxb6001457a
open Go.RowKit

/-- A slice of rows of numbers, as it lies in a world: 'n' rows behind 'a'; row i is '.slice (A i) (L i) (C i)', its numbers 'Z i t'. -/
structure RowsAt (w : World) (a : Option Addr) (n b o : Nat) (A : Nat → Option Addr) (L C Ab Ao : Nat → Nat) (Z : Nat → Nat → Int) : Prop where
  top : 0 < n → a = some ⟨b, o, none⟩
  row : ∀ i, i < n → w.cell? ⟨b, o + i, none⟩ = some (.slice (A i) (L i) (C i))
  spot : ∀ i, i < n → 0 < L i → A i = some ⟨Ab i, Ao i, none⟩
  cell : ∀ i t, i < n → t < L i → w.cell? ⟨Ab i, Ao i + t, none⟩ = some (.int .i64 (Z i t))

theorem RowsAt.later {w w' : World} {a : Option Addr} {n b o : Nat} {A : Nat → Option Addr} {L C Ab Ao : Nat → Nat} {Z : Nat → Nat → Int}
    (h : RowsAt w a n b o A L C Ab Ao Z) {B : Nat} (hB : w.heap.size ≤ B) (hb : Below B w w') : RowsAt w' a n b o A L C Ab Ao Z where
  top := h.top
  row := fun i hi => by
    rw [hb.cell (p := ⟨b, o + i, none⟩) (Nat.lt_of_lt_of_le (World.block_lt_of_cell? _ _ (h.row i hi)) hB)]; exact h.row i hi
  spot := h.spot
  cell := fun i t hi ht => by
    rw [hb.cell (p := ⟨Ab i, Ao i + t, none⟩) (Nat.lt_of_lt_of_le (World.block_lt_of_cell? _ _ (h.cell i t hi ht)) hB)]; exact h.cell i t hi ht

/-- 'xs[k]', the slice's address whatever 'Option Addr'. -/
theorem run_index {P : Program} {t e : TypeId} {ti : TypeInfo} (ht : P.underlying t = some (.slice e)) (hi : P.info? e = some ti) (hs : ti.size = 1) {ao : Option Addr} {b o n cap k : Nat}
    (hao : ao = some ⟨b, o, none⟩) (hk : k < n) (w : World) : (Instr.indexAt t (.slice ao n cap) (.int .i64 (k : Int))).run P w = .ok (.pointer (some ⟨b, o + k, none⟩)) w := by
  subst hao
  simp [Instr.indexAt, run_underlying ht, asIntOf, sizeOf, typeInfo, hi, hs, Addr.add_lit, hk]

theorem Try.info26 : (Try.prog.info? 26).map (fun i => (i.zero, i.size, i.bytes)) = some (some (.slice none 0 0), 1, 24) := by kernel_rfl
theorem Try.info3 : (Try.prog.info? 3).map (fun i => (i.zero, i.size, i.bytes)) = some (some (.int .i64 0), 1, 8) := by kernel_rfl
theorem Try.info4 : (Try.prog.info? 4).map (fun i => (i.zero, i.size, i.bytes)) = some (some (.bool false), 1, 1) := by kernel_rfl

theorem index22 {ao : Option Addr} {b o n cap k : Nat} (hao : ao = some ⟨b, o, none⟩) (hk : k < n) (w : World) :
    (Instr.indexAt 22 (.slice ao n cap) (.int .i64 (k : Int))).run Try.prog w = .ok (.pointer (some ⟨b, o + k, none⟩)) w := by
  obtain ⟨ti, hi, _, h1, _⟩ := info_parts Try.info26
  exact run_index Try.underlying22 hi h1 hao hk w

theorem index26 {ao : Option Addr} {b o n cap k : Nat} (hao : ao = some ⟨b, o, none⟩) (hk : k < n) (w : World) :
    (Instr.indexAt 26 (.slice ao n cap) (.int .i64 (k : Int))).run Try.prog w = .ok (.pointer (some ⟨b, o + k, none⟩)) w := by
  obtain ⟨ti, hi, _, h1, _⟩ := info_parts Try.info3
  exact run_index Try.underlying26 hi h1 hao hk w

end Go.Proofs.Qxb6001457a
