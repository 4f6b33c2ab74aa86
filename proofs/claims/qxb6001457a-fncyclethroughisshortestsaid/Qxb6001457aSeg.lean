/-
  A slice that the call itself made, CUT AT ITS FRONT ('queue = queue[1:]') and appended to: it no longer begins at its row's head.
-/
import Derived.Test.Qxb6001457aBase
import Derived.ArgAppend
namespace Go.Proofs.Qxb6001457a
open Go.RowKit

def OwnsSeg (w : World) (base : Nat) (e : TypeId) (v : Value) (xs : List Value) : Prop :=
  ∃ g off cap cur, v = .slice (some ⟨g, off, none⟩) xs.length cap ∧ base ≤ g ∧ w.heap[g]? = some (.cells cur e (0, 0)) ∧ xs.length ≤ cap ∧ cap ≤ maxLen ∧ off + cap ≤ cur.size ∧ ∀ j u, xs[j]? = some u → cur[off + j]? = some u

theorem OwnsSeg.kept {w w' : World} {base : Nat} {e : TypeId} {v : Value} {xs : List Value} {row : Option Nat} (h : OwnsSeg w base e v xs) (hg : w.grownBy w' row) (hne : v.ownBlock ≠ row) : OwnsSeg w' base e v xs := by
  obtain ⟨g, off, cap, cur, rfl, hb, hh, r⟩ := h
  exact ⟨g, off, cap, cur, rfl, hb, (hg.block g (Array.getElem?_eq_some_iff.1 hh).1 (by simpa [Value.ownBlock] using hne)).trans hh, r⟩

theorem OwnsSeg.alloc {w : World} {base : Nat} {e : TypeId} {v : Value} {xs : List Value} (h : OwnsSeg w base e v xs) (o : Obj) : OwnsSeg (w.alloc o) base e v xs :=
  h.kept (World.grownBy_alloc w o none) (by obtain ⟨g, off, cap, cur, rfl, _⟩ := h; simp [Value.ownBlock])

theorem OwnsSeg.made (w : World) {base : Nat} {e : TypeId} (x : Value) (hb : base ≤ w.heap.size) : OwnsSeg (w.alloc (.cells #[x] e)) base e (.slice (some ⟨w.heap.size, 0, none⟩) 1 1) [x] :=
  ⟨w.heap.size, 0, 1, #[x], rfl, hb, heap_alloc_new w _, by simp, by unfold maxLen; omega, by simp, fun j u hu => by simpa using hu⟩

theorem OwnsSeg.lt {w : World} {base : Nat} {e : TypeId} {v : Value} {xs : List Value} (h : OwnsSeg w base e v xs) : ∀ k, v.ownBlock = some k → base ≤ k ∧ k < w.heap.size := by
  obtain ⟨g, off, cap, cur, rfl, hb, hh, r⟩ := h
  intro k hk
  obtain rfl : g = k := by simpa [Value.ownBlock] using hk
  exact ⟨hb, (Array.getElem?_eq_some_iff.1 hh).1⟩

/-- The block that a slice of the call's own lies in, and what kind it is. -/
theorem OwnsSeg.block {w : World} {base : Nat} {e : TypeId} {v : Value} {xs : List Value} (h : OwnsSeg w base e v xs) : ∃ g cur, v.ownBlock = some g ∧ w.heap[g]? = some (.cells cur e (0, 0)) := by
  obtain ⟨g, off, cap, cur, rfl, hb, hh, r⟩ := h
  exact ⟨g, cur, rfl, hh⟩

/-- 'queue[0]', 'queue[1:]'. -/
theorem OwnsSeg.front {w : World} {base : Nat} {e : TypeId} {v x : Value} {xs : List Value} (h : OwnsSeg w base e v (x :: xs)) :
    ∃ g off cap, v = .slice (some ⟨g, off, none⟩) (xs.length + 1) (cap + 1) ∧ xs.length ≤ cap ∧ cap < maxLen ∧ w.cell? ⟨g, off, none⟩ = some x ∧
      OwnsSeg w base e (.slice (some (if cap = 0 then ⟨g, off, none⟩ else ⟨g, off + 1, none⟩)) xs.length cap) xs := by
  obtain ⟨g, off, cap, cur, rfl, hb, hh, hl, hm, hs, hc⟩ := h
  simp only [List.length_cons] at hl
  obtain ⟨c, rfl⟩ : ∃ c, cap = c + 1 := ⟨cap - 1, by omega⟩
  refine ⟨g, off, c, rfl, by omega, by omega, ?_, ?_⟩
  · have := hc 0 x rfl
    simpa [World.cell?, hh] using this
  · by_cases h0 : c = 0
    · subst h0
      have hx : xs = [] := List.eq_nil_of_length_eq_zero (by omega)
      subst hx
      exact ⟨g, off, 0, cur, rfl, hb, hh, by simp, by omega, by omega, fun j u hu => by simp at hu⟩
    · rw [if_neg h0]
      exact ⟨g, off + 1, c, cur, rfl, hb, hh, by omega, by omega, by omega, fun j u hu => by rw [show off + 1 + j = off + (j + 1) by omega]; exact hc (j + 1) u (by simpa using hu)⟩

/-- 'queue = append(queue, x)'. -/
theorem wpList_append_seg {P : Program} (w : World) {ops : Array Oper} {rest : List Oper} {o : Oper} {a : Act} {Q : Exit → Act → World → Prop}
    (hg : o.guard = none) (s x : Operand) (t : TypeId) (hop : o.op = Op.call { callee := Callee.builtin Builtin.append, args := #[s, x], argTypes := #[t, t] })
    (e : TypeId) (i : TypeInfo) (z : Value) (bytes : Nat) (h1 : P.underlying t = some (.slice e)) (h2 : P.info? e = some i) (h3 : i.zero = some z) (h4 : i.size = 1) (h5 : i.bytes = bytes) (h6 : z.cells.size = 1)
    (base : Nat) (v : Value) (xs : List Value) (hs : a.eval s = v) (hown : OwnsSeg w base e v xs)
    (ad : Addr) (c : Nat) (y : Value) (hx : a.eval x = .slice (some ad) 1 c) (hc : w.cell? ad = some y) (h1c : y.oneCell' = true)
    (b1 : xs.length + 1 ≤ maxLen) (b2 : (xs.length + 1) * bytes ≤ 140737488355328) (hbase : base ≤ w.heap.size)
    (hK : ∀ v' w', OwnsSeg w' base e v' (xs ++ [y]) → w.grownBy w' v.ownBlock → wpList P ops Q rest (a.put o.dst v') w') :
    wpList P ops Q (o :: rest) a w := by
  refine wpList_plain hg fun K hK' => ?_
  obtain ⟨g, off, cap, cur, rfl, hb, hh, hl, hm, hsz, hcur⟩ := hown
  have hnews : ∀ j u, [y][j]? = some u → w.cell? (ad.add j) = some u := by
    intro j u hj
    match j, hj with
    | 0, hj => simp at hj; subst hj; simpa [Addr.add] using hc
  have h1c' : ∀ u ∈ [y], u.oneCell' = true := by intro u hu; simp at hu; subst hu; exact h1c
  by_cases hr : xs.length + 1 ≤ cap
  · have hrun := run_append_room_cells (P := P) w t o.type e i h1 h2 g off xs.length cap ad 1 c [y] (by simp [h4]) hnews h1c' hr
      (fun j hj => by simp at hj; subst hj; simp [World.cell?, hh, h4]; omega) (fun j _ => by simp [World.frozen?, hh])
    unfold Oper.wp
    simp [execOp, hop, resolve, invoke, builtin, hs, hx, hrun, Result.andThen]
    refine hK' _ _ (hK _ _ ?_ ?_)
    · refine ⟨g, off, cap, cur.setIfInBounds (off + xs.length) y, by simp, hb, ?_, by simpa using hr, hm, by simpa using hsz, fun j u hu => ?_⟩
      · simp [World.setCells, World.setCell, Array.getElem?_modify, hh, h4]
      · rw [Array.getElem?_setIfInBounds]
        by_cases ej : j = xs.length
        · subst ej
          rw [if_pos rfl, if_pos (by omega)]
          simpa using hu
        · have hj : j < xs.length := by
            have := (List.getElem?_eq_some_iff.1 hu).1
            simp at this; omega
          rw [if_neg (by omega)]
          exact hcur j u (by rwa [List.getElem?_append_left hj] at hu)
    · refine ⟨rfl, rfl, rfl, by simp [World.setCells, World.setCell], fun k hk hne => ?_⟩
      simp only [World.setCells]
      exact Below.heap_setCell _ _ _ _ (fun ek => hne (by simp [Value.ownBlock, ek]))
  · obtain ⟨v', w', hrun, r1, r2⟩ := run_append_arg_grows (P := P) w t o.type e i z 1 bytes h1 h2 h3 h4 h5 h6 (by decide) ⟨g, off, none⟩ xs.length cap xs (by simp)
      (fun j u hj => by rw [Addr.add_lit]; simpa [World.cell?, hh] using hcur j u hj) ad 1 c [y] (by simp) hnews (by omega) b1 b2
    unfold Oper.wp
    simp [execOp, hop, resolve, invoke, builtin, hs, hx, hrun, Result.andThen]
    refine hK' _ _ (hK _ _ ?_ ⟨r2.os, r2.tape, r2.output, r2.size, fun k hk _ => r2.block k hk (by simp)⟩)
    rcases r1.2 with ⟨_, h0⟩ | ⟨g', cap', cur', rfl, hb', hh', hn', hm', hs', htake⟩
    · omega
    · refine ⟨g', 0, cap', cur', by simp, by omega, hh', by simpa using hn', hm', by omega, fun j u hu => ?_⟩
      rw [← htake, List.getElem?_take] at hu
      split at hu
      · simpa using hu
      · cases hu

end Go.Proofs.Qxb6001457a
