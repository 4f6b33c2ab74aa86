import Derived.Test.Qxb6000433aWalkA
import Derived.Deep.AppendLies
namespace Go.Proofs.Qxb6000433a
open Go.RowKit

theorem grow_other {w : World} {a b : Addr} {v : Value} (h : a ≠ b) : (w.setCell a v).cell? b = w.cell? b := by apply World.cell?_setCell_other; exact h
theorem grow_same {w : World} {a : Addr} {u v : Value} (h : w.cell? a = some u) : (w.setCell a v).cell? a = some v := by apply World.cell?_setCell_same; exact h

/-- The element type of field i. -/
def et (i : Nat) : TypeId := if i < 2 then 5 else 21

def vals (k : IntKind) (f : Nat → Int) (n : Nat) : List Value := (List.range n).map (fun v => Value.int k (f v))

theorem vals_len (k : IntKind) (f : Nat → Int) (n : Nat) : (vals k f n).length = n := by simp [vals]
theorem vals_succ (k : IntKind) (f : Nat → Int) (n : Nat) : vals k f (n + 1) = vals k f n ++ [.int k (f n)] := by simp [vals, List.range_succ]
theorem vals_get (k : IntKind) (f : Nat → Int) {n v : Nat} (hv : v < n) : (vals k f n)[v]? = some (.int k (f v)) := by simp [vals, hv]
theorem vals_congr (k : IntKind) {f f' : Nat → Int} {n : Nat} (h : ∀ v, v < n → f v = f' v) : vals k f n = vals k f' n := by
  refine List.map_congr_left fun v hv => ?_
  rw [h v (List.mem_range.1 hv)]
theorem vals_set (k : IntKind) (f : Nat → Int) {n v : Nat} (x : Int) : (vals k f n).set v (.int k x) = vals k (fun v' => if v' = v then x else f v') n := by
  apply List.ext_getElem?
  intro j
  rw [List.getElem?_set]
  by_cases hj : j < n
  · rw [vals_get k _ hj, vals_get k _ hj, vals_len]
    by_cases e : v = j
    · subst e; simp [hj]
    · rw [if_neg e, if_neg (fun h => e h.symm)]
  · rw [List.getElem?_eq_none (by rw [vals_len]; omega), List.getElem?_eq_none (by rw [vals_len]; omega), vals_len]
    by_cases e : v = j
    · subst e; simp [hj]
    · rw [if_neg e]

/-- The tree while it grows: its first k fields own n + 1 numbers, the others n. -/
structure TreeK (w : World) (base bt n k : Nat) (F : Nat → Nat → Int) (V : Nat → Value) : Prop where
  cell : ∀ i, i < 9 → w.cell? ⟨bt, i, none⟩ = some (V i)
  fz : ∀ i, w.frozen? ⟨bt, i, none⟩ = false
  row : ∀ i, i < 9 → w.ownsRow base (et i) 1 (V i) (if i < k then n + 1 else n) (vals (kt i) (F i) (if i < k then n + 1 else n))
  apart : ∀ i j, i < 9 → j < 9 → i ≠ j → (V i).ownBlock = none ∨ (V i).ownBlock ≠ (V j).ownBlock
  off : ∀ i, i < 9 → (V i).ownBlock ≠ some bt

/-- What has changed: the tree's own memory, and new memory. -/
structure Grew (w w' : World) (bt : Nat) (V V' : Nat → Value) : Prop where
  os : w'.os = w.os
  tape : w'.tape = w.tape
  output : w'.output = w.output
  size : w.heap.size ≤ w'.heap.size
  block : ∀ k, k < w.heap.size → k ≠ bt → (∀ i, i < 9 → (V i).ownBlock ≠ some k) → w'.heap[k]? = w.heap[k]?
  new : ∀ i, i < 9 → ∀ k, (V' i).ownBlock = some k → (V i).ownBlock = some k ∨ w.heap.size ≤ k

theorem Grew.refl (w : World) (bt : Nat) (V : Nat → Value) : Grew w w bt V V := ⟨rfl, rfl, rfl, Nat.le_refl _, fun _ _ _ _ => rfl, fun _ _ _ h => .inl h⟩
theorem Grew.trans {w w' w'' : World} {bt : Nat} {V V' V'' : Nat → Value} (h : Grew w w' bt V V') (k : Grew w' w'' bt V' V'') : Grew w w'' bt V V'' where
  os := k.os.trans h.os
  tape := k.tape.trans h.tape
  output := k.output.trans h.output
  size := Nat.le_trans h.size k.size
  block := fun b hb hbt hV => (k.block b (Nat.lt_of_lt_of_le hb h.size) hbt (fun i hi e => by
    rcases h.new i hi b e with h1 | h1
    · exact hV i hi h1
    · omega)).trans (h.block b hb hbt hV)
  new := fun i hi b e => by
    rcases k.new i hi b e with h1 | h1
    · exact h.new i hi b h1
    · exact .inr (Nat.le_trans h.size h1)
theorem Grew.drew {w w' : World} {bt : Nat} {V V' : Nat → Value} (h : Grew w w' bt V V') : Grew w w'.drew bt V V' := ⟨h.os, h.tape, h.output, h.size, h.block, h.new⟩
theorem Grew.drewN {w w' : World} {bt : Nat} {V V' : Nat → Value} (h : Grew w w' bt V V') (k : Nat) : Grew w (w'.drewN k) bt V V' := ⟨h.os, h.tape, h.output, h.size, h.block, h.new⟩
theorem Grew.pre_drew {w w' : World} {bt : Nat} {V V' : Nat → Value} (h : Grew w.drew w' bt V V') : Grew w w' bt V V' := ⟨h.os, h.tape, h.output, h.size, h.block, h.new⟩

theorem TreeK.drew {w : World} {base bt n k : Nat} {F : Nat → Nat → Int} {V : Nat → Value} (h : TreeK w base bt n k F V) : TreeK w.drew base bt n k F V := ⟨h.cell, h.fz, h.row, h.apart, h.off⟩
theorem TreeK.drewN {w : World} {base bt n k : Nat} {F : Nat → Nat → Int} {V : Nat → Value} (h : TreeK w base bt n k F V) (m : Nat) : TreeK (w.drewN m) base bt n k F V := ⟨h.cell, h.fz, h.row, h.apart, h.off⟩

theorem TreeK.congr {w : World} {base bt n k : Nat} {F F' : Nat → Nat → Int} {V : Nat → Value} (h : TreeK w base bt n k F V) (e : ∀ i v, i < 9 → v < (if i < k then n + 1 else n) → F i v = F' i v) : TreeK w base bt n k F' V where
  cell := h.cell
  fz := h.fz
  row := fun i hi => by rw [← vals_congr (kt i) (fun v hv => e i v hi hv)]; exact h.row i hi
  apart := h.apart
  off := h.off

theorem TreeK.next {w : World} {base bt n : Nat} {F : Nat → Nat → Int} {V : Nat → Value} (h : TreeK w base bt n 9 F V) : TreeK w base bt (n + 1) 0 F V where
  cell := h.cell
  fz := h.fz
  row := fun i hi => by have := h.row i hi; rw [if_pos hi] at this; rw [if_neg (by omega)]; exact this
  apart := h.apart
  off := h.off

theorem TreeK.bt_lt {w : World} {base bt n k : Nat} {F : Nat → Nat → Int} {V : Nat → Value} (h : TreeK w base bt n k F V) : bt < w.heap.size := World.block_lt_of_cell? _ _ (h.cell 0 (by omega))

/-- The tree, seen from a world in which only other blocks have changed. -/
theorem TreeK.kept {w w' : World} {base bt n k : Nat} {F : Nat → Nat → Int} {V : Nat → Value} {row : Option Nat} (h : TreeK w base bt n k F V) (hg : w.grownBy w' row) (hb : some bt ≠ row) (hV : ∀ i, i < 9 → (V i).ownBlock = none ∨ (V i).ownBlock ≠ row) : TreeK w' base bt n k F V where
  cell := fun i hi => hg.cell (h.cell i hi) hb
  fz := fun i => by rw [World.frozen?_of_block (a := ⟨bt, i, none⟩) (hg.block bt h.bt_lt hb)]; exact h.fz i
  row := fun i hi => (h.row i hi).kept hg (hV i hi)
  apart := h.apart
  off := h.off

theorem Grew.of_grown {w w' : World} {bt : Nat} {V : Nat → Value} (hg : w.grownBy w' none) : Grew w w' bt V V := ⟨hg.os, hg.tape, hg.output, hg.size, fun k hk _ _ => hg.block k hk (by simp), fun _ _ _ h => .inl h⟩

def upV (V : Nat → Value) (k : Nat) (x : Value) : Nat → Value := fun i => if i = k then x else V i

theorem grown_setCell (w : World) (a : Addr) (v : Value) : w.grownBy (w.setCell a v) (some a.block) :=
  ⟨rfl, rfl, rfl, by simp, fun k _ hne => Deep.blk_setCell_other _ _ _ _ (fun e => hne (by rw [e]))⟩

theorem TreeK.push {w wa w1 : World} {base bt n k : Nat} {F : Nat → Nat → Int} {V : Nat → Value} (h : TreeK w base bt n k F V) (hk : k < 9) (hA : w.grownBy wa none) {g cap H : Nat} {x : Int} (hx : F k n = x)
    (hown : w1.ownsRow base (et k) 1 (.slice (some ⟨g, 0, none⟩) (n + 1) cap) (n + 1) (vals (kt k) (F k) n ++ [.int (kt k) x]))
    (hgrow : wa.grownBy w1 (V k).ownBlock) (hat : (V k).ownBlock = some g ∨ g = H) (hH : w.heap.size ≤ H) :
    TreeK (w1.setCell ⟨bt, k, none⟩ (.slice (some ⟨g, 0, none⟩) (n + 1) cap)) base bt n (k + 1) F (upV V k (.slice (some ⟨g, 0, none⟩) (n + 1) cap)) ∧
      Grew w (w1.setCell ⟨bt, k, none⟩ (.slice (some ⟨g, 0, none⟩) (n + 1) cap)) bt V (upV V k (.slice (some ⟨g, 0, none⟩) (n + 1) cap)) := by
  have hG : w.grownBy w1 (V k).ownBlock := ⟨hgrow.os.trans hA.os, hgrow.tape.trans hA.tape, hgrow.output.trans hA.output, Nat.le_trans hA.size hgrow.size,
    fun b hb hne => (hgrow.block b (Nat.lt_of_lt_of_le hb hA.size) hne).trans (hA.block b hb (by simp))⟩
  have hbt := h.bt_lt
  have hof : some bt ≠ (V k).ownBlock := fun e => h.off k hk e.symm
  have hgb : g ≠ bt := by
    rcases hat with h1 | h1
    · intro e; rw [e] at h1; exact h.off k hk h1
    · omega
  have hset := grown_setCell w1 ⟨bt, k, none⟩ (.slice (some ⟨g, 0, none⟩) (n + 1) cap)
  refine ⟨⟨fun i hi => ?_, fun i => ?_, fun i hi => ?_, fun i j hi hj hij => ?_, fun i hi => ?_⟩, ?_⟩
  · have h1 : w1.cell? ⟨bt, i, none⟩ = some (V i) := hG.cell (h.cell i hi) hof
    unfold upV
    by_cases e : i = k
    · subst e; rw [if_pos rfl]; exact grow_same h1
    · rw [if_neg e, grow_other (by intro h; exact e (by simpa using h.symm))]; exact h1
  · rw [World.frozen?_setCell, World.frozen?_of_block (a := ⟨bt, i, none⟩) (hG.block bt hbt hof)]; exact h.fz i
  · unfold upV
    by_cases e : i = k
    · subst e
      rw [if_pos rfl, if_pos (by omega), vals_succ, hx]
      exact hown.kept hset (.inr (by simp [Value.ownBlock, hgb]))
    · rw [if_neg e]
      have h1 := (h.row i hi).kept hG (h.apart i k hi hk e)
      have h2 := h1.kept hset (.inr (h.off i hi))
      by_cases e2 : i < k
      · rw [if_pos e2] at h2; rw [if_pos (by omega)]; exact h2
      · rw [if_neg e2] at h2; rw [if_neg (by omega)]; exact h2
  · have hnew : ∀ j, j < 9 → j ≠ k → (V j).ownBlock ≠ some g := fun j hj hjk e => by
      rcases hat with h1 | h1
      · rcases h.apart j k hj hk hjk with h2 | h2
        · rw [h2] at e; cases e
        · exact h2 (e.trans h1.symm)
      · have := ((h.row j hj).lt g e).2; omega
    unfold upV
    by_cases e : i = k <;> by_cases e' : j = k
    · omega
    · rw [if_pos e, if_neg e']
      right; intro h3
      exact hnew j hj e' h3.symm
    · rw [if_neg e, if_pos e']
      right; intro h3
      exact hnew i hi e h3
    · rw [if_neg e, if_neg e']; exact h.apart i j hi hj hij
  · unfold upV
    by_cases e : i = k
    · rw [if_pos e]; simp [Value.ownBlock, hgb]
    · rw [if_neg e]; exact h.off i hi
  · refine ⟨hG.os, hG.tape, hG.output, by simpa using hG.size, fun b hb hbb hV => ?_, fun i hi b hb => ?_⟩
    · rw [hset.block b (Nat.lt_of_lt_of_le hb hG.size) (by simp; omega)]
      exact hG.block b hb (fun e => hV k hk e.symm)
    · unfold upV at hb
      by_cases e : i = k
      · rw [if_pos e] at hb
        have hbg : g = b := by simpa [Value.ownBlock] using hb
        subst hbg; subst e
        rcases hat with h1 | h1
        · exact .inl h1
        · right; omega
      · rw [if_neg e] at hb; exact .inl hb

theorem TreeK.form {w : World} {base bt n : Nat} {F : Nat → Nat → Int} {V : Nat → Value} (h : TreeK w base bt n 0 F V) (hn : 0 < n) (i : Nat) (hi : i < 9) : ∃ g cap, V i = .slice (some ⟨g, 0, none⟩) n cap := by
  have h1 := h.row i hi
  rw [if_neg (by omega)] at h1
  obtain ⟨g, cap, h2, _⟩ := h1.form hn
  exact ⟨g, cap, h2⟩

theorem TreeK.at {w : World} {base bt n : Nat} {F : Nat → Nat → Int} {V : Nat → Value} (h : TreeK w base bt n 0 F V) {i g cap : Nat} (hi : i < 9) (hV : V i = .slice (some ⟨g, 0, none⟩) n cap) {v : Nat} (hv : v < n) : w.cell? ⟨g, v, none⟩ = some (.int (kt i) (F i v)) := by
  have h1 := h.row i hi
  rw [if_neg (by omega), hV] at h1
  rw [h1.cellAt v (by omega), vals_get _ _ hv]

theorem TreeK.frz {w : World} {base bt n : Nat} {F : Nat → Nat → Int} {V : Nat → Value} (h : TreeK w base bt n 0 F V) {i g cap : Nat} (hi : i < 9) (hV : V i = .slice (some ⟨g, 0, none⟩) n cap) (v : Nat) : w.frozen? ⟨g, v, none⟩ = false := by
  have h1 := h.row i hi
  rw [if_neg (by omega), hV] at h1
  exact h1.frozenAt v

theorem TreeK.store {w : World} {base bt n : Nat} {F : Nat → Nat → Int} {V : Nat → Value} (h : TreeK w base bt n 0 F V) {i g cap : Nat} (hi : i < 9) (hV : V i = .slice (some ⟨g, 0, none⟩) n cap) (v : Nat) (x : Int) :
    TreeK (w.setCell ⟨g, v, none⟩ (.int (kt i) x)) base bt n 0 (set2 F i v x) V ∧ Grew w (w.setCell ⟨g, v, none⟩ (.int (kt i) x)) bt V V := by
  have h1 := h.row i hi
  rw [if_neg (by omega), hV] at h1
  have h2 := h1.stored v (.int (kt i) x)
  have hob : (V i).ownBlock = some g := by rw [hV]; rfl
  have hne : some bt ≠ some g := fun e => h.off i hi (hob.trans e.symm)
  have hbt := h.bt_lt
  refine ⟨⟨fun j hj => h2.2.cell (h.cell j hj) hne, fun j => ?_, fun j hj => ?_, h.apart, h.off⟩, ⟨rfl, rfl, rfl, by simp, fun b hb hbb hVb => h2.2.block b hb (fun e => hVb i hi (hob.trans e.symm)), fun _ _ _ e => .inl e⟩⟩
  · rw [World.frozen?_setCell]; exact h.fz j
  · rw [if_neg (by omega)]
    by_cases e : j = i
    · subst e
      rw [hV]
      have h3 := h2.1
      rw [vals_set] at h3
      rw [vals_congr (kt j) (f := set2 F j v x j) (f' := fun v' => if v' = v then x else F j v') (fun v' _ => by simp [set2])]
      exact h3
    · have h3 := h.row j hj
      rw [if_neg (by omega)] at h3
      have h4 := h3.kept h2.2 (by rw [← hob]; exact h.apart j i hj hi e)
      rw [vals_congr (kt j) (f := set2 F i v x j) (f' := F j) (fun v' _ => by simp [set2, e])]
      exact h4

theorem TreeK.read {w : World} {base bt n : Nat} {F : Nat → Nat → Int} {V : Nat → Value} (h : TreeK w base bt n 0 F V) (hn : 0 < n) : ∃ cp g, TreeR w bt n F cp g := by
  have hex : ∀ i, ∃ p : Nat × Nat, i < 9 → V i = .slice (some ⟨p.1, 0, none⟩) n p.2 := fun i => by
    by_cases hi : i < 9
    · obtain ⟨g, cap, e⟩ := h.form hn i hi; exact ⟨(g, cap), fun _ => e⟩
    · exact ⟨(0, 0), fun h => absurd h hi⟩
  refine ⟨fun i => (Classical.choose (hex i)).2, fun i => (Classical.choose (hex i)).1, fun i hi => ?_, fun i hi v hv => ?_⟩
  · rw [h.cell i hi]; exact congrArg some (Classical.choose_spec (hex i) hi)
  · exact h.at hi (Classical.choose_spec (hex i) hi) hv

theorem Grew.below {w w' : World} {bt base : Nat} {V V' : Nat → Value} (h : Grew w w' bt V V') (hbt : base ≤ bt) (hV : ∀ i, i < 9 → ∀ k, (V i).ownBlock = some k → base ≤ k) (hb : base ≤ w.heap.size) : Below base w w' :=
  ⟨h.os, h.tape, h.output, h.size, fun k hk => h.block k (by omega) (by omega) (fun i hi e => by have := hV i hi k e; omega)⟩

end Go.Proofs.Qxb6000433a
