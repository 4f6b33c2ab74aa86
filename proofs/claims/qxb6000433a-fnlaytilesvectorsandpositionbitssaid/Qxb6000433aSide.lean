import Derived.Test.Qxb6000433aLink
namespace Go.Proofs.Qxb6000433a
open Go.RowKit

def ns (L : List Nat) : List Value := L.map (fun (v : Nat) => Value.int .i32 (v : Int))
theorem ns_len (L : List Nat) : (ns L).length = L.length := by simp [ns]

theorem own_of_block {w w' : World} {base : Nat} {e : TypeId} {size n : Nat} {v : Value} {xs : List Value} (h : w.ownsRow base e size v n xs) (hb : ∀ k, v.ownBlock = some k → w'.heap[k]? = w.heap[k]?) : w'.ownsRow base e size v n xs := by
  refine ⟨h.1, ?_⟩
  rcases h.2 with hn | ⟨g, cap, cur, rfl, hbb, hgg, rest⟩
  · exact .inl hn
  · exact .inr ⟨g, cap, cur, rfl, hbb, by rw [hb g rfl]; exact hgg, rest⟩

/-- All blocks below base but bt are as they were. -/
structure Aside (w0 w : World) (base bt : Nat) : Prop where
  os : w.os = w0.os
  tape : w.tape = w0.tape
  output : w.output = w0.output
  size : w0.heap.size ≤ w.heap.size
  block : ∀ k, k < base → k ≠ bt → w.heap[k]? = w0.heap[k]?

theorem Aside.drew {w0 w : World} {base bt : Nat} (h : Aside w0 w base bt) : Aside w0 w.drew base bt := ⟨h.os, h.tape, h.output, h.size, h.block⟩

/-- The stack beside the tree. -/
structure Side (w0 w : World) (base bt : Nat) (V : Nat → Value) (stk : List Nat) (sv : Value) : Prop where
  row : w.ownsRow base 21 1 sv stk.length (ns stk)
  apart : ∀ i, i < 9 → (V i).ownBlock = none ∨ (V i).ownBlock ≠ sv.ownBlock
  low : ∀ i, i < 9 → ∀ k, (V i).ownBlock = some k → base ≤ k
  lt : ∀ i, i < 9 → ∀ k, (V i).ownBlock = some k → k < w.heap.size
  hbt : bt < base
  le : base ≤ w.heap.size
  aside : Aside w0 w base bt

theorem Side.drew {w0 w : World} {base bt : Nat} {V : Nat → Value} {stk : List Nat} {sv : Value} (h : Side w0 w base bt V stk sv) : Side w0 w.drew base bt V stk sv := ⟨h.row, h.apart, h.low, h.lt, h.hbt, h.le, h.aside.drew⟩

theorem Side.grew {w0 w w' : World} {base bt n : Nat} {F : Nat → Nat → Int} {V V' : Nat → Value} {stk : List Nat} {sv : Value} (h : Side w0 w base bt V stk sv) (hG : Grew w w' bt V V') (hT : TreeK w' base bt n 0 F V') : Side w0 w' base bt V' stk sv where
  row := own_of_block h.row (fun k hk => by
    have h1 := h.row.lt k hk
    refine hG.block k h1.2 (by have := h.hbt; omega) (fun i hi e => ?_)
    rcases h.apart i hi with h2 | h2
    · rw [h2] at e; cases e
    · exact h2 (e.trans hk.symm))
  apart := fun i hi => by
    cases hb : (V' i).ownBlock with
    | none => exact .inl rfl
    | some k =>
      right; intro e
      have h1 := h.row.lt k e.symm
      rcases hG.new i hi k hb with h2 | h2
      · rcases h.apart i hi with h3 | h3
        · rw [h3] at h2; cases h2
        · exact h3 (h2.trans e)
      · omega
  low := fun i hi k hk => ((hT.row i hi).lt k hk).1
  lt := fun i hi k hk => ((hT.row i hi).lt k hk).2
  hbt := h.hbt
  le := Nat.le_trans h.le hG.size
  aside := ⟨hG.os.trans h.aside.os, hG.tape.trans h.aside.tape, hG.output.trans h.aside.output, Nat.le_trans h.aside.size hG.size,
    fun k hk hkb => (hG.block k (Nat.lt_of_lt_of_le hk h.le) hkb (fun i hi e => by have := h.low i hi k e; omega)).trans (h.aside.block k hk hkb)⟩

theorem grown_two {w w1 : World} {o : Obj} {row : Option Nat} (h : (w.alloc o).grownBy w1 row) : w.grownBy w1 row :=
  ⟨h.os, h.tape, h.output, Nat.le_trans (World.grownBy_alloc w o none).size h.size, fun k hk hne => (h.block k (Nat.lt_of_lt_of_le hk (World.grownBy_alloc w o none).size) hne).trans ((World.grownBy_alloc w o none).block k hk (by simp))⟩

theorem Side.own {w0 w : World} {base bt : Nat} {V : Nat → Value} {stk : List Nat} {sv : Value} (h : Side w0 w base bt V stk sv) (k : Nat) (hk : sv.ownBlock = some k) : base ≤ k ∧ k < w.heap.size := h.row.lt k hk

/-- A write into the stack's own row leaves the tree. -/
theorem Side.tree {w0 w w1 : World} {base bt n : Nat} {F : Nat → Nat → Int} {V : Nat → Value} {stk : List Nat} {sv : Value} (h : Side w0 w base bt V stk sv) (hT : TreeK w base bt n 0 F V) (hg : w.grownBy w1 sv.ownBlock) : TreeK w1 base bt n 0 F V :=
  hT.kept hg (fun e => by have := h.own bt e.symm; have := h.hbt; omega) (fun i hi => h.apart i hi)

theorem Side.aside' {w0 w w1 : World} {base bt : Nat} {V : Nat → Value} {stk : List Nat} {sv : Value} (h : Side w0 w base bt V stk sv) (hg : w.grownBy w1 sv.ownBlock) : Aside w0 w1 base bt :=
  ⟨hg.os.trans h.aside.os, hg.tape.trans h.aside.tape, hg.output.trans h.aside.output, Nat.le_trans h.aside.size hg.size,
    fun k hk hkb => (hg.block k (Nat.lt_of_lt_of_le hk h.le) (fun e => by have := h.own k e.symm; omega)).trans (h.aside.block k hk hkb)⟩

theorem Side.push {w0 w w1 : World} {base bt : Nat} {V : Nat → Value} {stk : List Nat} {sv : Value} (h : Side w0 w base bt V stk sv) {o : Obj} {g cap v : Nat}
    (hown : w1.ownsRow base 21 1 (.slice (some ⟨g, 0, none⟩) (stk.length + 1) cap) (stk.length + 1) (ns stk ++ [.int .i32 (v : Int)]))
    (hgrow : (w.alloc o).grownBy w1 sv.ownBlock) (hat : sv.ownBlock = some g ∨ g = (w.alloc o).heap.size) :
    Side w0 w1 base bt V (stk ++ [v]) (.slice (some ⟨g, 0, none⟩) (stk.length + 1) cap) := by
  have hg := grown_two hgrow
  refine ⟨by have : (stk ++ [v]).length = stk.length + 1 := by simp
             rw [this]; simpa [ns] using hown, fun i hi => ?_, h.low, fun i hi k hk => Nat.lt_of_lt_of_le (h.lt i hi k hk) hg.size, h.hbt, Nat.le_trans h.le hg.size, h.aside' hg⟩
  cases hb : (V i).ownBlock with
  | none => exact .inl rfl
  | some k =>
    right; intro e
    have e2 : k = g := by simpa [Value.ownBlock] using e
    subst e2
    rcases hat with h1 | h1
    · rcases h.apart i hi with h2 | h2
      · rw [h2] at hb; cases hb
      · exact h2 (hb.trans h1.symm)
    · have := h.lt i hi k hb; simp at h1; omega

theorem Side.cut {w0 w : World} {base bt : Nat} {V : Nat → Value} {pre ks : List Nat} {g len cap : Nat} (h : Side w0 w base bt V (pre ++ ks) (.slice (some ⟨g, 0, none⟩) len cap)) : Side w0 w base bt V pre (.slice (some ⟨g, 0, none⟩) pre.length cap) := by
  refine ⟨⟨by simp [ns_len], .inr ?_⟩, h.apart, h.low, h.lt, h.hbt, h.le, h.aside⟩
  rcases h.row.2 with ⟨h', _⟩ | ⟨g', cap', cur, h', hb, hg, hnc, hcm, hcs, htake⟩
  · simp at h'
  · simp only [Value.slice.injEq, Option.some.injEq, Addr.mk.injEq, and_true] at h'
    obtain ⟨rfl, rfl, rfl⟩ := h'
    refine ⟨g, cap, cur, rfl, hb, hg, by simp at hnc; omega, hcm, hcs, ?_⟩
    have h2 := congrArg (List.take (pre.length * 1)) htake
    rw [List.take_take] at h2
    rw [show min (pre.length * 1) ((pre ++ ks).length * 1) = pre.length * 1 by simp] at h2
    rw [h2]
    simp [ns]

theorem Side.form {w0 w : World} {base bt : Nat} {V : Nat → Value} {stk : List Nat} {sv : Value} (h : Side w0 w base bt V stk sv) (hn : 0 < stk.length) : ∃ g cap, sv = .slice (some ⟨g, 0, none⟩) stk.length cap ∧ stk.length ≤ cap ∧ cap ≤ maxLen := by
  rcases h.row.2 with ⟨_, h0⟩ | ⟨g, cap, cur, h', _, _, hnc, hcm, _, _⟩
  · omega
  · exact ⟨g, cap, h', hnc, hcm⟩

theorem Side.cell {w0 w : World} {base bt : Nat} {V : Nat → Value} {stk : List Nat} {g cap : Nat} (h : Side w0 w base bt V stk (.slice (some ⟨g, 0, none⟩) stk.length cap)) (j : Nat) (hj : j < stk.length) : w.cell? ⟨g, j, none⟩ = some (.int .i32 ((stk.getD j 0 : Nat) : Int)) := by
  rw [h.row.cellAt j (by omega)]
  simp [ns, hj]

theorem Side.frz {w0 w : World} {base bt : Nat} {V : Nat → Value} {stk : List Nat} {g cap : Nat} (h : Side w0 w base bt V stk (.slice (some ⟨g, 0, none⟩) stk.length cap)) (j : Nat) : w.frozen? ⟨g, j, none⟩ = false := h.row.frozenAt j

theorem Side.off {w0 w : World} {base bt : Nat} {V : Nat → Value} {stk : List Nat} {g len cap : Nat} (h : Side w0 w base bt V stk (.slice (some ⟨g, 0, none⟩) len cap)) : g ≠ bt ∧ ∀ i, i < 9 → (V i).ownBlock ≠ some g := by
  refine ⟨by have := (h.own g rfl).1; have := h.hbt; omega, fun i hi e => ?_⟩
  rcases h.apart i hi with h2 | h2
  · rw [h2] at e; cases e
  · exact h2 e

theorem Side.set {w0 w : World} {base bt : Nat} {V : Nat → Value} {pre : List Nat} {c g cap : Nat} (h : Side w0 w base bt V (pre ++ [c]) (.slice (some ⟨g, 0, none⟩) (pre ++ [c]).length cap)) (v : Nat) :
    Side w0 (w.setCell ⟨g, pre.length, none⟩ (.int .i32 (v : Int))) base bt V (pre ++ [v]) (.slice (some ⟨g, 0, none⟩) (pre ++ [c]).length cap) := by
  have hs := h.row.stored pre.length (.int .i32 (v : Int))
  have e1 : (pre ++ [c]).length = (pre ++ [v]).length := by simp
  refine ⟨?_, h.apart, h.low, fun i hi k hk => by simpa using h.lt i hi k hk, h.hbt, by simpa using h.le, h.aside' (row_of h)⟩
  · have h1 := hs.1
    rw [e1] at h1 ⊢
    have e2 : (ns (pre ++ [c])).set pre.length (.int .i32 (v : Int)) = ns (pre ++ [v]) := by simp [ns]
    rw [e2] at h1
    exact h1
where row_of (h : Side w0 w base bt V (pre ++ [c]) (.slice (some ⟨g, 0, none⟩) (pre ++ [c]).length cap)) : w.grownBy (w.setCell ⟨g, pre.length, none⟩ (.int .i32 (v : Int))) (Value.slice (some ⟨g, 0, none⟩) (pre ++ [c]).length cap).ownBlock := (h.row.stored pre.length (.int .i32 (v : Int))).2

/-! ### The fields of a new node -/
open Plain (Inv Chain)

theorem addF_old {F : Nat → Nat → Int} {n : Nat} {x0 x1 x4 x5 x6 x7 x8 : Int} {i v : Nat} (h : v < n) : addF F n x0 x1 x4 x5 x6 x7 x8 i v = F i v := by unfold addF; rw [if_neg (by omega)]

theorem addF_at {F : Nat → Nat → Int} {n : Nat} {x0 x1 x4 x5 x6 x7 x8 : Int} : addF F n x0 x1 x4 x5 x6 x7 x8 0 n = x0 ∧ addF F n x0 x1 x4 x5 x6 x7 x8 2 n = -1 ∧ addF F n x0 x1 x4 x5 x6 x7 x8 3 n = -1 ∧ addF F n x0 x1 x4 x5 x6 x7 x8 4 n = x4 ∧ addF F n x0 x1 x4 x5 x6 x7 x8 5 n = x5 ∧ addF F n x0 x1 x4 x5 x6 x7 x8 7 n = x7 ∧ addF F n x0 x1 x4 x5 x6 x7 x8 8 n = x8 := by
  unfold addF; simp

theorem inv_leaf {F : Nat → Nat → Int} {n : Nat} {stk : List Nat} {K : Nat → List Nat} (h : Inv F n stk K) (x0 x1 x4 x5 x6 x7 x8 : Int) (hk : 0 ≤ x0 ∧ x0 ≤ 3) (hr : x0 = 0 → 0 ≤ x4 ∧ x4 + 1 ≤ x5 ∧ x5 ≤ x4 + 8 ∧ x5 ≤ 40000) : ∃ K', Inv (addF F n x0 x1 x4 x5 x6 x7 x8) (n + 1) (stk ++ [n]) K' := by
  obtain ⟨e0, e2, e3, e4, e5, e7, e8⟩ := addF_at (F := F) (n := n) (x0 := x0) (x1 := x1) (x4 := x4) (x5 := x5) (x6 := x6) (x7 := x7) (x8 := x8)
  refine ⟨_, Inv.node (ks := []) (by rw [List.append_nil]; exact h) (fun i v hv _ => addF_old hv) (fun v hv _ => addF_old hv) e3 ?_ ?_ ?_ ?_⟩
  · rw [e2]; exact .nil
  · rw [e0]; omega
  · rw [e0, e4, e5]; exact hr
  · rw [e0]; intro h4; omega

theorem inv_group {F F' : Nat → Nat → Int} {n : Nat} {pre ks : List Nat} {K : Nat → List Nat} (h : Inv F n (pre ++ ks) K) (hl : Linked F F' n ks) (hk : F' 0 n = 2 ∨ F' 0 n = 3) : ∃ K', Inv F' (n + 1) (pre ++ [n]) K' :=
  ⟨_, Inv.node h hl.old hl.oldN hl.mine hl.chain (by omega) (fun e => by omega) (fun e => by omega)⟩

theorem inv_rep {F : Nat → Nat → Int} {n c : Nat} {pre : List Nat} {K : Nat → List Nat} (h : Inv F n (pre ++ [c]) K) (x1 x4 x5 x6 mn mx : Int) (h1 : 0 ≤ mn ∧ mn ≤ 4) (h2 : -1 ≤ mx ∧ mx ≤ 7) :
    ∃ K', Inv (set2 (addF F n 4 x1 x4 x5 x6 mn mx) 2 n (c : Int)) (n + 1) (pre ++ [n]) K' := by
  obtain ⟨e0, e2, e3, e4, e5, e7, e8⟩ := addF_at (F := F) (n := n) (x0 := 4) (x1 := x1) (x4 := x4) (x5 := x5) (x6 := x6) (x7 := mn) (x8 := mx)
  have hq : ∀ i v, i ≠ 2 → set2 (addF F n 4 x1 x4 x5 x6 mn mx) 2 n (c : Int) i v = addF F n 4 x1 x4 x5 x6 mn mx i v := fun i v hi => by unfold set2; rw [if_neg (fun e => hi e.1)]
  have hc := h.root c (by simp)
  refine ⟨_, Inv.node (ks := [c]) h (fun i v hv _ => ?_) (fun v hv _ => ?_) ?_ ?_ ?_ ?_ ?_⟩
  · unfold set2; rw [if_neg (by omega)]; exact addF_old hv
  · rw [hq 3 v (by omega)]; exact addF_old hv
  · rw [hq 3 n (by omega)]; exact e3
  · have e : set2 (addF F n 4 x1 x4 x5 x6 mn mx) 2 n (c : Int) 2 n = (c : Int) := by unfold set2; rw [if_pos ⟨rfl, rfl⟩]
    rw [e]
    refine .cons ?_
    rw [hq 3 c (by omega), addF_old hc.1, hc.2]
    exact .nil
  · rw [hq 0 n (by omega), e0]; omega
  · rw [hq 0 n (by omega), e0]; intro h; omega
  · intro _; rw [hq 7 n (by omega), hq 8 n (by omega), e7, e8]; exact ⟨h1.1, h1.2, h2.1, h2.2, by simp⟩

end Go.Proofs.Qxb6000433a
