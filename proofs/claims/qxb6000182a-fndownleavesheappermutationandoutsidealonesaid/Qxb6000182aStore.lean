/-
  A whole turn stored into a row of turns: the world behind it under a name.
-/
import Derived.Test.Qxb6000182aBase
import Derived.Test.Qxb6000182aLater
namespace Go.Proofs.Qxb6000182a
open Go.RowKit
open Plain (Tn bef upd)

theorem wpList_of_store {P : Program} (w w' : World) {ops : Array Oper} {rest : List Oper} {o : Oper} {a : Act} {Q : Exit → Act → World → Prop}
    (hg : o.guard = none) (x y : Operand) (t : TypeId) (hop : o.op = Op.store t x y) (vx vy : Value) (hx : a.eval x = vx) (hy : a.eval y = vy)
    (hrun : (Instr.storeAt t vx vy).run P w = .ok () w') (hK : wpList P ops Q rest (a.put o.dst undef) w') : wpList P ops Q (o :: rest) a w := by
  refine wpList_plain hg fun K hK' => ?_
  unfold Oper.wp
  simp [execOp, hop, hx, hy, hrun, Result.andThen]
  exact hK' _ _ hK

theorem run_store57 (w : World) (b k : Nat) (v u : Tn) (h : At4 w b (k * 4) v) (hf : ∀ j, w.frozen? ⟨b, j, none⟩ = false) :
    (Instr.storeAt 57 (.pointer (some ⟨b, k * 4, none⟩)) (.agg #[.int .i64 u.sec, .int .i32 u.nsec, .int .i64 u.rank, .int .i64 u.run])).run Try.prog w =
      .ok () ((((w.setCell ⟨b, k * 4, none⟩ (.int .i64 u.sec)).setCell ⟨b, k * 4 + 1, none⟩ (.int .i32 u.nsec)).setCell ⟨b, k * 4 + 2, none⟩ (.int .i64 u.rank)).setCell ⟨b, k * 4 + 3, none⟩ (.int .i64 u.run)) := by
  obtain ⟨h0, h1, h2, h3⟩ := h
  go_simp

theorem run_store75 (w : World) (b k : Nat) (v u : Tn) (h : At4 w b (k * 4) v) (hf : ∀ j, w.frozen? ⟨b, j, none⟩ = false) :
    (Instr.storeAt 75 (.pointer (some ⟨b, k * 4, none⟩)) (.agg #[.int .i64 u.sec, .int .i32 u.nsec, .int .i64 u.rank, .int .i64 u.run])).run Try.prog w =
      .ok () ((((w.setCell ⟨b, k * 4, none⟩ (.int .i64 u.sec)).setCell ⟨b, k * 4 + 1, none⟩ (.int .i32 u.nsec)).setCell ⟨b, k * 4 + 2, none⟩ (.int .i64 u.rank)).setCell ⟨b, k * 4 + 3, none⟩ (.int .i64 u.run)) := by
  obtain ⟨h0, h1, h2, h3⟩ := h
  go_simp

theorem grown_set (w : World) (a : Addr) (v : Value) : w.grownBy (w.setCell a v) (some a.block) :=
  ⟨rfl, rfl, rfl, by simp [World.setCell], fun _ _ hne => Below.heap_setCell _ _ _ _ (fun e => hne (by rw [e]))⟩

theorem grown_set4 (w : World) (b o0 o1 o2 o3 : Nat) (v0 v1 v2 v3 : Value) :
    w.grownBy ((((w.setCell ⟨b, o0, none⟩ v0).setCell ⟨b, o1, none⟩ v1).setCell ⟨b, o2, none⟩ v2).setCell ⟨b, o3, none⟩ v3) (some b) :=
  (((grown_set w ⟨b, o0, none⟩ v0).trans (grown_set _ ⟨b, o1, none⟩ v1)).trans (grown_set _ ⟨b, o2, none⟩ v2)).trans (grown_set _ ⟨b, o3, none⟩ v3)

/-- 'q[k] = u' in a row of the law's own turns. -/
theorem TRow.store57 {w : World} {b n : Nat} {q : Nat → Tn} (h : TRow w b 57 n q) {k : Nat} (hk : k < n) (u : Tn) :
    ∃ w', (Instr.storeAt 57 (.pointer (some ⟨b, k * 4, none⟩)) (.agg #[.int .i64 u.sec, .int .i32 u.nsec, .int .i64 u.rank, .int .i64 u.run])).run Try.prog w = .ok () w' ∧ TRow w' b 57 n (upd q k u) ∧ w.grownBy w' (some b) ∧ w'.heap.size = w.heap.size :=
  ⟨_, run_store57 w b k (q k) u (h.at4 hk) (fun j => World.rowIs.frozen h j), h.set k u, grown_set4 _ _ _ _ _ _ _ _ _ _, by simp [World.setCell]⟩

/-- .. of the package's. -/
theorem TRow.store75 {w : World} {b n : Nat} {q : Nat → Tn} (h : TRow w b 75 n q) {k : Nat} (hk : k < n) (u : Tn) :
    ∃ w', (Instr.storeAt 75 (.pointer (some ⟨b, k * 4, none⟩)) (.agg #[.int .i64 u.sec, .int .i32 u.nsec, .int .i64 u.rank, .int .i64 u.run])).run Try.prog w = .ok () w' ∧ TRow w' b 75 n (upd q k u) ∧ w.grownBy w' (some b) ∧ w'.heap.size = w.heap.size :=
  ⟨_, run_store75 w b k (q k) u (h.at4 hk) (fun j => World.rowIs.frozen h j), h.set k u, grown_set4 _ _ _ _ _ _ _ _ _ _, by simp [World.setCell]⟩

/-- A turn in another block stays. -/
theorem At4.grown {w w' : World} {b o : Nat} {u : Tn} {row : Option Nat} (h : At4 w b o u) (hg : w.grownBy w' row) (hne : some b ≠ row) : At4 w' b o u :=
  ⟨hg.cell h.c0 hne, hg.cell h.c1 hne, hg.cell h.c2 hne, hg.cell h.c3 hne⟩

/-- A new block of one turn. -/
theorem at4_new (w : World) (t : TypeId) (u : Tn) : At4 (w.alloc (.cells #[.int .i64 u.sec, .int .i32 u.nsec, .int .i64 u.rank, .int .i64 u.run] t)) w.heap.size 0 u := by
  have hb := Deep.blk_alloc_new w (.cells #[.int .i64 u.sec, .int .i32 u.nsec, .int .i64 u.rank, .int .i64 u.run] t)
  refine ⟨?_, ?_, ?_, ?_⟩ <;> (unfold World.cell?; simp only [hb]; simp)

theorem TRow.grown {w w' : World} {b : Nat} {t : TypeId} {n : Nat} {q : Nat → Tn} {row : Option Nat} (h : TRow w b t n q) (hg : w.grownBy w' row) (hne : some b ≠ row) : TRow w' b t n q :=
  World.rowIs.of_block h (hg.block b (World.rowIs.lt h) hne)

end Go.Proofs.Qxb6000182a
