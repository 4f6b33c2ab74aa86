import Derived.Test.Qxb6000182aWalkA
namespace Go.Proofs.Qxb6000182a
open Go.RowKit
open Plain (Tn bef upd)

/-- A slice of numbers as it lies. -/
structure Sl (w : World) (ao : Option Addr) (n b o : Nat) (k : IntKind) (z : Nat → Int) : Prop where
  top : 0 < n → ao = some ⟨b, o, none⟩
  cell : ∀ j, j < n → w.cell? ⟨b, o + j, none⟩ = some (.int k (z j))

theorem Sl.later {w w' : World} {ao : Option Addr} {n b o : Nat} {k : IntKind} {z : Nat → Int} (h : Sl w ao n b o k z) (hb : Below w.heap.size w w') : Sl w' ao n b o k z where
  top := h.top
  cell := fun j hj => by
    rw [hb.cell (p := ⟨b, o + j, none⟩) (World.block_lt_of_cell? _ _ (h.cell j hj))]; exact h.cell j hj

/-- 'xs[k]', the slice's address whatever 'Option Addr'. -/
theorem run_index {P : Program} {t e : TypeId} {ti : TypeInfo} (ht : P.underlying t = some (.slice e)) (hi : P.info? e = some ti) (hs : ti.size = 1) {ao : Option Addr} {b o n cap k : Nat}
    (hao : ao = some ⟨b, o, none⟩) (hk : k < n) (w : World) : (Instr.indexAt t (.slice ao n cap) (.int .i64 (k : Int))).run P w = .ok (.pointer (some ⟨b, o + k, none⟩)) w := by
  subst hao
  simp [Instr.indexAt, run_underlying ht, asIntOf, sizeOf, typeInfo, hi, hs, Addr.add_lit, hk]

theorem Try.info2 : (Try.prog.info? 2).map (fun i => (i.zero, i.size, i.bytes)) = some (some (.int .i64 0), 1, 8) := by kernel_rfl
theorem Try.info21 : (Try.prog.info? 21).map (fun i => (i.zero, i.size, i.bytes)) = some (some (.int .i32 0), 1, 4) := by kernel_rfl
theorem Try.info3 : (Try.prog.info? 3).map (fun i => (i.zero, i.size, i.bytes)) = some (some (.int .i64 0), 1, 8) := by kernel_rfl
theorem Try.info57 : (Try.prog.info? 57).map (fun i => (i.zero, i.size, i.bytes)) = some (some (.agg #[.int .i64 0, .int .i32 0, .int .i64 0, .int .i64 0]), 4, 32) := by kernel_rfl
theorem Try.info75 : (Try.prog.info? 75).map (fun i => (i.zero, i.size, i.bytes)) = some (some (.agg #[.int .i64 0, .int .i32 0, .int .i64 0, .int .i64 0]), 4, 32) := by kernel_rfl

theorem index44 {ao : Option Addr} {b o n cap k : Nat} (hao : ao = some ⟨b, o, none⟩) (hk : k < n) (w : World) :
    (Instr.indexAt 44 (.slice ao n cap) (.int .i64 (k : Int))).run Try.prog w = .ok (.pointer (some ⟨b, o + k, none⟩)) w := by
  obtain ⟨ti, hi, _, h1, _⟩ := info_parts Try.info2
  exact run_index Try.underlying44 hi h1 hao hk w
theorem index45 {ao : Option Addr} {b o n cap k : Nat} (hao : ao = some ⟨b, o, none⟩) (hk : k < n) (w : World) :
    (Instr.indexAt 45 (.slice ao n cap) (.int .i64 (k : Int))).run Try.prog w = .ok (.pointer (some ⟨b, o + k, none⟩)) w := by
  obtain ⟨ti, hi, _, h1, _⟩ := info_parts Try.info21
  exact run_index Try.underlying45 hi h1 hao hk w
theorem index46 {ao : Option Addr} {b o n cap k : Nat} (hao : ao = some ⟨b, o, none⟩) (hk : k < n) (w : World) :
    (Instr.indexAt 46 (.slice ao n cap) (.int .i64 (k : Int))).run Try.prog w = .ok (.pointer (some ⟨b, o + k, none⟩)) w := by
  obtain ⟨ti, hi, _, h1, _⟩ := info_parts Try.info3
  exact run_index Try.underlying46 hi h1 hao hk w

/-- The four cells of a turn. -/
def cf (u : Tn) : Nat → Value
  | 0 => .int .i64 u.sec
  | 1 => .int .i32 u.nsec
  | 2 => .int .i64 u.rank
  | _ => .int .i64 u.run

/-- Block b is a row of n turns. -/
def TRow (w : World) (b : Nat) (t : TypeId) (n : Nat) (q : Nat → Tn) : Prop := w.rowIs b t (n * 4) (fun j => cf (q (j / 4)) (j % 4))

theorem TRow.at4 {w : World} {b : Nat} {t : TypeId} {n : Nat} {q : Nat → Tn} (h : TRow w b t n q) {k : Nat} (hk : k < n) : At4 w b (k * 4) (q k) := by
  have e0 : k * 4 / 4 = k ∧ k * 4 % 4 = 0 := by omega
  have e1 : (k * 4 + 1) / 4 = k ∧ (k * 4 + 1) % 4 = 1 := by omega
  have e2 : (k * 4 + 2) / 4 = k ∧ (k * 4 + 2) % 4 = 2 := by omega
  have e3 : (k * 4 + 3) / 4 = k ∧ (k * 4 + 3) % 4 = 3 := by omega
  refine ⟨?_, ?_, ?_, ?_⟩
  · have := World.rowIs.cell h (i := k * 4) (by omega); simp only [e0] at this; exact this
  · have := World.rowIs.cell h (i := k * 4 + 1) (by omega); simp only [e1] at this; exact this
  · have := World.rowIs.cell h (i := k * 4 + 2) (by omega); simp only [e2] at this; exact this
  · have := World.rowIs.cell h (i := k * 4 + 3) (by omega); simp only [e3] at this; exact this

theorem TRow.later {w w' : World} {b : Nat} {t : TypeId} {n : Nat} {q : Nat → Tn} (h : TRow w b t n q) (hb : Below w.heap.size w w') : TRow w' b t n q :=
  World.rowIs.of_block h (hb.block b (World.rowIs.lt h))

theorem TRow.congr {w : World} {b : Nat} {t : TypeId} {n : Nat} {q q' : Nat → Tn} (h : TRow w b t n q) (e : ∀ k, k < n → q k = q' k) : TRow w b t n q' :=
  World.rowIs.congr h fun j hj => by rw [e (j / 4) (by omega)]

/-- A whole turn stored. -/
theorem TRow.set {w : World} {b : Nat} {t : TypeId} {n : Nat} {q : Nat → Tn} (h : TRow w b t n q) (k : Nat) (u : Tn) :
    TRow ((((w.setCell ⟨b, k * 4, none⟩ (.int .i64 u.sec)).setCell ⟨b, k * 4 + 1, none⟩ (.int .i32 u.nsec)).setCell ⟨b, k * 4 + 2, none⟩ (.int .i64 u.rank)).setCell ⟨b, k * 4 + 3, none⟩ (.int .i64 u.run)) b t n (upd q k u) := by
  refine World.rowIs.congr ((((World.rowIs.set h (k * 4) _).set (k * 4 + 1) _).set (k * 4 + 2) _).set (k * 4 + 3) _) fun j hj => ?_
  show _ = cf (if j / 4 = k then u else q (j / 4)) (j % 4)
  by_cases e3 : j = k * 4 + 3
  · subst e3
    rw [if_pos rfl, if_pos (by omega), show (k * 4 + 3) % 4 = 3 by omega]; rfl
  rw [if_neg e3]
  by_cases e2 : j = k * 4 + 2
  · subst e2
    rw [if_pos rfl, if_pos (by omega), show (k * 4 + 2) % 4 = 2 by omega]; rfl
  rw [if_neg e2]
  by_cases e1 : j = k * 4 + 1
  · subst e1
    rw [if_pos rfl, if_pos (by omega), show (k * 4 + 1) % 4 = 1 by omega]; rfl
  rw [if_neg e1]
  by_cases e0 : j = k * 4
  · subst e0
    rw [if_pos rfl, if_pos (by omega), show (k * 4) % 4 = 0 by omega]; rfl
  rw [if_neg e0, if_neg (by omega)]

def madeT (n : Nat) : Array Value := madeCells (Value.agg #[.int .i64 0, .int .i32 0, .int .i64 0, .int .i64 0]).cells (n * 4)

theorem run_make4 {P : Program} (t e : TypeId) (ht : P.underlying t = some (.slice e))
    (hinfo : (P.info? e).map (fun i => (i.zero, i.size, i.bytes)) = some (some (.agg #[.int .i64 0, .int .i32 0, .int .i64 0, .int .i64 0]), 4, 32)) (n : Nat) (hn : n ≤ 1048576) (w : World) :
    (Instr.makeSlice t (.int .i64 (n : Int)) (.int .i64 (n : Int))).run P w = .ok (.slice (some ⟨w.heap.size, 0, none⟩) n n) (w.alloc (.cells (madeT n) e)) := by
  obtain ⟨i, hi, hz, hs, hb⟩ := info_parts hinfo
  have hr := run_make (P := P) w t e i _ ht hi hz .i64 .i64 n n (by omega) (Int.le_refl _) (by rw [hb]; omega) (by omega)
  simp only [Int.toNat_natCast, hs] at hr
  exact hr

theorem trow_made (w : World) (t : TypeId) (n : Nat) : TRow (w.alloc (.cells (madeT n) t)) w.heap.size t n (fun _ => ⟨0, 0, 0, 0⟩) := by
  refine ⟨_, Deep.blk_alloc_new _ _, by simp [madeT, size_madeCells], fun i hi => ?_⟩
  have h4 : i % 4 < 4 := by omega
  simp [madeT, madeCells, hi, Value.cells]
  match i % 4, h4 with
  | 0, _ => rfl
  | 1, _ => rfl
  | 2, _ => rfl
  | 3, _ => rfl

end Go.Proofs.Qxb6000182a
