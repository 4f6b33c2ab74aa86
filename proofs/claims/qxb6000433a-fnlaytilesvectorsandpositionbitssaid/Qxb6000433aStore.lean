import Derived.Test.Qxb6000433aNodes
namespace Go.Proofs.Qxb6000433a
open Go.RowKit

theorem wpList_of_store {P : Program} (w w' : World) {ops : Array Oper} {rest : List Oper} {o : Oper} {a : Act} {Q : Exit → Act → World → Prop}
    (hg : o.guard = none) (x y : Operand) (t : TypeId) (hop : o.op = Op.store t x y) (vx vy : Value) (hx : a.eval x = vx) (hy : a.eval y = vy)
    (hrun : (Instr.storeAt t vx vy).run P w = .ok () w') (hK : wpList P ops Q rest (a.put o.dst undef) w') : wpList P ops Q (o :: rest) a w := by
  refine wpList_plain hg fun K hK' => ?_
  unfold Oper.wp
  simp [execOp, hop, hx, hy, hrun, Result.andThen]
  exact hK' _ _ hK

set_option maxRecDepth 100000 in
set_option maxHeartbeats 1600000 in
theorem run_store80 {w : World} {gn n : Nat} {N : Nat → Nat → Int} (h : NRow w gn n N) {k : Nat} (hk : k < n) (x0 x1 x2 x3 x4 x5 x6 x7 x8 x9 x10 x11 x12 x13 : Int) :
    (Instr.storeAt 80 (.pointer (some ⟨gn, k * 14, none⟩)) (.agg #[.int .u8 x0, .int .u8 x1, .int .i32 x2, .int .i32 x3, .int .i32 x4, .int .i32 x5, .int .i32 x6, .int .i32 x7, .int .i32 x8, .int .i32 x9, .int .i32 x10, .int .i32 x11, .int .i32 x12, .int .i32 x13])).run Try.prog w = .ok () (setNode w gn k x0 x1 x2 x3 x4 x5 x6 x7 x8 x9 x10 x11 x12 x13) := by
  have m0 : w.cell? ⟨gn, k * 14, none⟩ = some (.int .u8 (N 0 k)) := h.cell 0 k (by omega) hk
  have m1 : w.cell? ⟨gn, k * 14 + 1, none⟩ = some (.int .u8 (N 1 k)) := h.cell 1 k (by omega) hk
  have m2 : w.cell? ⟨gn, k * 14 + 2, none⟩ = some (.int .i32 (N 2 k)) := h.cell 2 k (by omega) hk
  have m3 : w.cell? ⟨gn, k * 14 + 3, none⟩ = some (.int .i32 (N 3 k)) := h.cell 3 k (by omega) hk
  have m4 : w.cell? ⟨gn, k * 14 + 4, none⟩ = some (.int .i32 (N 4 k)) := h.cell 4 k (by omega) hk
  have m5 : w.cell? ⟨gn, k * 14 + 5, none⟩ = some (.int .i32 (N 5 k)) := h.cell 5 k (by omega) hk
  have m6 : w.cell? ⟨gn, k * 14 + 6, none⟩ = some (.int .i32 (N 6 k)) := h.cell 6 k (by omega) hk
  have m7 : w.cell? ⟨gn, k * 14 + 7, none⟩ = some (.int .i32 (N 7 k)) := h.cell 7 k (by omega) hk
  have m8 : w.cell? ⟨gn, k * 14 + 8, none⟩ = some (.int .i32 (N 8 k)) := h.cell 8 k (by omega) hk
  have m9 : w.cell? ⟨gn, k * 14 + 9, none⟩ = some (.int .i32 (N 9 k)) := h.cell 9 k (by omega) hk
  have m10 : w.cell? ⟨gn, k * 14 + 10, none⟩ = some (.int .i32 (N 10 k)) := h.cell 10 k (by omega) hk
  have m11 : w.cell? ⟨gn, k * 14 + 11, none⟩ = some (.int .i32 (N 11 k)) := h.cell 11 k (by omega) hk
  have m12 : w.cell? ⟨gn, k * 14 + 12, none⟩ = some (.int .i32 (N 12 k)) := h.cell 12 k (by omega) hk
  have m13 : w.cell? ⟨gn, k * 14 + 13, none⟩ = some (.int .i32 (N 13 k)) := h.cell 13 k (by omega) hk
  have f0 := World.rowIs.frozen h (k * 14)
  have f1 := World.rowIs.frozen h (k * 14 + 1)
  have f2 := World.rowIs.frozen h (k * 14 + 2)
  have f3 := World.rowIs.frozen h (k * 14 + 3)
  have f4 := World.rowIs.frozen h (k * 14 + 4)
  have f5 := World.rowIs.frozen h (k * 14 + 5)
  have f6 := World.rowIs.frozen h (k * 14 + 6)
  have f7 := World.rowIs.frozen h (k * 14 + 7)
  have f8 := World.rowIs.frozen h (k * 14 + 8)
  have f9 := World.rowIs.frozen h (k * 14 + 9)
  have f10 := World.rowIs.frozen h (k * 14 + 10)
  have f11 := World.rowIs.frozen h (k * 14 + 11)
  have f12 := World.rowIs.frozen h (k * 14 + 12)
  have f13 := World.rowIs.frozen h (k * 14 + 13)
  clear h
  unfold setNode
  go_simp

end Go.Proofs.Qxb6000433a
