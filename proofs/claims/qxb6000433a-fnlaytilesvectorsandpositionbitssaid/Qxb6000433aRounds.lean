import Derived.Test.Qxb6000433aSide
namespace Go.Proofs.Qxb6000433a
open Go.RowKit
open Plain (Inv Whole)

/-- The script as it lies. -/
structure OpsAt (w : World) (go l : Nat) (kz az bz : Nat → Int) : Prop where
  ck : ∀ i, i < l → w.cell? ⟨go, i * 3, none⟩ = some (.int .u8 (kz i)) ∧ 0 ≤ kz i ∧ kz i ≤ 255
  ca : ∀ i, i < l → w.cell? ⟨go, i * 3 + 1, none⟩ = some (.int .i32 (az i)) ∧ -2147483648 ≤ az i ∧ az i ≤ 2147483647
  cb : ∀ i, i < l → w.cell? ⟨go, i * 3 + 2, none⟩ = some (.int .i32 (bz i)) ∧ -2147483648 ≤ bz i ∧ bz i ≤ 2147483647

def agg9 (A : Nat → Option Addr) (m : Nat) (C : Nat → Nat) : Value := .agg #[.slice (A 0) m (C 0), .slice (A 1) m (C 1), .slice (A 2) m (C 2), .slice (A 3) m (C 3), .slice (A 4) m (C 4), .slice (A 5) m (C 5), .slice (A 6) m (C 6), .slice (A 7) m (C 7), .slice (A 8) m (C 8)]

/-- What build leaves. -/
def Tree9 (w0 : World) (e : Ending) (w' : World) : Prop :=
  ∃ (A : Nat → Option Addr) (m : Nat) (C : Nat → Nat) (ok : Bool), e = .returned (.tuple #[agg9 A m C, .bool ok]) ∧ Below w0.heap.size w0 w' ∧
    (ok = true → ∃ (F : Nat → Nat → Int) (K : Nat → List Nat) (par : Nat → Nat) (g : Nat → Nat), (∀ i, i < 9 → A i = some ⟨g i, 0, none⟩) ∧ (∀ i, i < 9 → ∀ v, v < m → w'.cell? ⟨g i, v, none⟩ = some (.int (kt i) (F i v))) ∧ Whole F m K par ∧ m ≤ 4097)

/-- The round's state. -/
structure Round (w0 wr : World) (base bt n : Nat) (F : Nat → Nat → Int) (V : Nat → Value) (stk : List Nat) (sv : Value) : Prop where
  tree : TreeK wr base bt n 0 F V
  inv : ∃ K, Inv F n stk K
  side : Side w0 wr base bt V stk sv

theorem OpsAt.later {w w' : World} {go l : Nat} {kz az bz : Nat → Int} (h : OpsAt w go l kz az bz) (hb : Below w.heap.size w w') : OpsAt w' go l kz az bz where
  ck := fun i hi => ⟨by rw [hb.cell (World.block_lt_of_cell? _ _ (h.ck i hi).1)]; exact (h.ck i hi).1, (h.ck i hi).2⟩
  ca := fun i hi => ⟨by rw [hb.cell (World.block_lt_of_cell? _ _ (h.ca i hi).1)]; exact (h.ca i hi).1, (h.ca i hi).2⟩
  cb := fun i hi => ⟨by rw [hb.cell (World.block_lt_of_cell? _ _ (h.cb i hi).1)]; exact (h.cb i hi).1, (h.cb i hi).2⟩

def nil9 : Obj := .cells #[.slice none 0 0, .slice none 0 0, .slice none 0 0, .slice none 0 0, .slice none 0 0, .slice none 0 0, .slice none 0 0, .slice none 0 0, .slice none 0 0] 28

/-- The world behind build's two new blocks. -/
structure Fresh (w W : World) : Prop where
  bel : Below w.heap.size w W
  size : W.heap.size = w.heap.size + 2
  res : W.heap[w.heap.size]? = some nil9
  start : Round W W (w.heap.size + 2) (w.heap.size + 1) 0 (fun _ _ => 0) (fun _ => .slice none 0 0) [] (.slice none 0 0)

theorem fresh (w : World) : Fresh w ((w.alloc nil9).alloc nil9) := by
  have h1 : ((w.alloc nil9).alloc nil9).heap[w.heap.size + 1]? = some nil9 := by
    have := Deep.blk_alloc_new (w.alloc nil9) nil9
    rw [show (w.alloc nil9).heap.size = w.heap.size + 1 by simp] at this
    exact this
  have hs : ((w.alloc nil9).alloc nil9).heap.size = w.heap.size + 2 := by simp
  refine ⟨((Below.refl _ _).alloc (Nat.le_refl _) _).alloc (by simp) _, hs, ?_, ⟨⟨fun i hi => ?_, fun i => ?_, fun i hi => World.ownsRow_nil _ _ _ _, fun i j _ _ _ => .inl rfl, fun i _ => by simp [Value.ownBlock]⟩, ⟨fun _ => [], Plain.Inv.start _ _⟩, ⟨World.ownsRow_nil _ _ _ _, fun i _ => .inl rfl, fun i _ k hk => by simp [Value.ownBlock] at hk, fun i _ k hk => by simp [Value.ownBlock] at hk, by omega, by omega, ⟨rfl, rfl, rfl, Nat.le_refl _, fun _ _ _ => rfl⟩⟩⟩⟩
  · rw [Deep.blk_alloc_lt _ _ _ (by simp)]; exact Deep.blk_alloc_new _ _
  · rw [cell_of_row _ _ _ _ _ _ h1]
    match i, hi with
    | 0, _ => rfl
    | 1, _ => rfl
    | 2, _ => rfl
    | 3, _ => rfl
    | 4, _ => rfl
    | 5, _ => rfl
    | 6, _ => rfl
    | 7, _ => rfl
    | 8, _ => rfl
  · exact frozen_of_row _ _ _ _ _ h1

theorem Round.below {w W wr : World} {n : Nat} {F : Nat → Nat → Int} {V : Nat → Value} {stk : List Nat} {sv : Value} (h : Round W wr (w.heap.size + 2) (w.heap.size + 1) n F V stk sv) (hf : Fresh w W) : Below w.heap.size w wr :=
  hf.bel.trans ⟨h.side.aside.os, h.side.aside.tape, h.side.aside.output, h.side.aside.size, fun k hk => h.side.aside.block k (by omega) (by omega)⟩

theorem Round.inv_len {W wr : World} {base bt n : Nat} {F : Nat → Nat → Int} {V : Nat → Value} {stk : List Nat} {sv : Value} (h : Round W wr base bt n F V stk sv) : stk.Nodup ∧ ∀ c, c ∈ stk → c < n ∧ F 3 c = -1 := by
  obtain ⟨K, hK⟩ := h.inv
  exact ⟨hK.nodup, hK.root⟩

/-- A leaf, laid on the stack. -/
theorem Round.leaf {W wr W1 w2 : World} {base bt n : Nat} {F F1 : Nat → Nat → Int} {V V1 : Nat → Value} {stk : List Nat} {sv : Value} (h : Round W wr base bt n F V stk sv)
    (hT1 : TreeK W1 base bt (n + 1) 0 F1 V1) (hG : Grew wr W1 bt V V1) (hI : ∀ K, Inv F n stk K → ∃ K', Inv F1 (n + 1) (stk ++ [n]) K') {o : Obj} {g cap : Nat}
    (hown : w2.ownsRow base 21 1 (.slice (some ⟨g, 0, none⟩) (stk.length + 1) cap) (stk.length + 1) (ns stk ++ [.int .i32 (n : Int)]))
    (hgrow : (W1.alloc o).grownBy w2 sv.ownBlock) (hat : sv.ownBlock = some g ∨ g = (W1.alloc o).heap.size) :
    Round W w2 base bt (n + 1) F1 V1 (stk ++ [n]) (.slice (some ⟨g, 0, none⟩) (stk.length + 1) cap) := by
  have h1 := h.side.grew hG hT1
  obtain ⟨K, hK⟩ := h.inv
  exact ⟨h1.tree hT1 (grown_two hgrow), hI K hK, h1.push hown hgrow hat⟩

/-- A group, laid on the stack in place of its children. -/
theorem Round.group {W wr W1 w2 : World} {base bt n : Nat} {F F1 : Nat → Nat → Int} {V V1 : Nat → Value} {pre ks : List Nat} {gs len cap0 top : Nat} (h : Round W wr base bt n F V (pre ++ ks) (.slice (some ⟨gs, 0, none⟩) len cap0)) (htop : pre.length = top)
    (hT1 : TreeK W1 base bt (n + 1) 0 F1 V1) (hG : Grew wr W1 bt V V1) (hL : Linked F F1 n ks) (hk : F1 0 n = 2 ∨ F1 0 n = 3) {o : Obj} {g cap : Nat}
    (hown : w2.ownsRow base 21 1 (.slice (some ⟨g, 0, none⟩) (top + 1) cap) (top + 1) (ns pre ++ [.int .i32 (n : Int)]))
    (hgrow : (W1.alloc o).grownBy w2 (Value.slice (some ⟨gs, 0, none⟩) top cap0).ownBlock) (hat : (Value.slice (some ⟨gs, 0, none⟩) top cap0).ownBlock = some g ∨ g = (W1.alloc o).heap.size) :
    Round W w2 base bt (n + 1) F1 V1 (pre ++ [n]) (.slice (some ⟨g, 0, none⟩) (top + 1) cap) := by
  subst htop
  have h1 := (h.side.grew hG hT1).cut
  obtain ⟨K, hK⟩ := h.inv
  exact ⟨h1.tree hT1 (grown_two hgrow), inv_group hK hL hk, h1.push hown hgrow hat⟩

/-- The stack's row when the group is made. -/
theorem Round.cutRow {W wr W1 : World} {base bt n : Nat} {F F1 : Nat → Nat → Int} {V V1 : Nat → Value} {pre ks : List Nat} {gs len cap0 top : Nat} (h : Round W wr base bt n F V (pre ++ ks) (.slice (some ⟨gs, 0, none⟩) len cap0)) (htop : pre.length = top)
    (hT1 : TreeK W1 base bt (n + 1) 0 F1 V1) (hG : Grew wr W1 bt V V1) : W1.ownsRow base 21 1 (.slice (some ⟨gs, 0, none⟩) top cap0) top (ns pre) := by
  subst htop
  exact (h.side.grew hG hT1).cut.row

/-- A repetition, laid on the stack in place of what it repeats. -/
theorem Round.rep {W wr W1 : World} {base bt n : Nat} {F : Nat → Nat → Int} {V V1 : Nat → Value} {pre : List Nat} {gs cap c len top : Nat} (h : Round W wr base bt n F V (pre ++ [c]) (.slice (some ⟨gs, 0, none⟩) len cap)) (hlen : len = top + 1) (htop : pre.length = top) {mn mx : Int} (h1 : 0 ≤ mn ∧ mn ≤ 4) (h2 : -1 ≤ mx ∧ mx ≤ 7)
    (hT1 : TreeK W1 base bt (n + 1) 0 (addF F n 4 0 0 0 0 mn mx) V1) (hG : Grew wr W1 bt V V1) {g2 c2 : Nat} (hV2 : V1 2 = .slice (some ⟨g2, 0, none⟩) (n + 1) c2) :
    Round W ((W1.setCell ⟨g2, n, none⟩ (.int .i32 (c : Int))).drew.setCell ⟨gs, top, none⟩ (.int .i32 (n : Int))) base bt (n + 1) (set2 (addF F n 4 0 0 0 0 mn mx) 2 n (c : Int)) V1 (pre ++ [n]) (.slice (some ⟨gs, 0, none⟩) len cap) := by
  have e : len = (pre ++ [c]).length := by simp; omega
  subst e
  subst htop
  have hs1 := h.side.grew hG hT1
  have hst := hT1.store (by omega) hV2 n (c : Int)
  have hs2 := (hs1.grew hst.2 hst.1).drew
  obtain ⟨K, hK⟩ := h.inv
  exact ⟨hs2.tree hst.1.drew (Side.set.row_of n hs2), inv_rep hK 0 0 0 0 mn mx h1 h2, hs2.set n⟩

/-- What the repetition's region reads. -/
theorem Round.top {W wr W1 : World} {base bt n : Nat} {F F1 : Nat → Nat → Int} {V V1 : Nat → Value} {pre : List Nat} {gs cap c len top : Nat} (h : Round W wr base bt n F V (pre ++ [c]) (.slice (some ⟨gs, 0, none⟩) len cap)) (hlen : len = top + 1) (htop : pre.length = top)
    (hT1 : TreeK W1 base bt (n + 1) 0 F1 V1) (hG : Grew wr W1 bt V V1) {g2 c2 : Nat} (hV2 : V1 2 = .slice (some ⟨g2, 0, none⟩) (n + 1) c2) :
    W1.cell? ⟨gs, top, none⟩ = some (.int .i32 (c : Int)) ∧ (W1.setCell ⟨g2, n, none⟩ (.int .i32 (c : Int))).cell? ⟨gs, top, none⟩ = some (.int .i32 (c : Int)) ∧ (W1.setCell ⟨g2, n, none⟩ (.int .i32 (c : Int))).frozen? ⟨gs, top, none⟩ = false := by
  have e : len = (pre ++ [c]).length := by simp; omega
  subst e
  subst htop
  have hs1 := h.side.grew hG hT1
  have hst := hT1.store (by omega) hV2 n (c : Int)
  have hs2 := hs1.grew hst.2 hst.1
  have a1 := hs1.cell pre.length (by simp)
  have a2 := hs2.cell pre.length (by simp)
  have e3 : (pre ++ [c]).getD pre.length 0 = c := by simp
  rw [e3] at a1 a2
  exact ⟨a1, a2, hs2.frz pre.length⟩

theorem Round.shape {W wr : World} {base bt n : Nat} {F : Nat → Nat → Int} {V : Nat → Value} {stk : List Nat} {sv : Value} (h : Round W wr base bt n F V stk sv) : ∃ A C, sv = .slice A stk.length C := by
  rcases h.side.row.2 with ⟨h', h0⟩ | ⟨g, cap, cur, h', _⟩
  · exact ⟨none, 0, by rw [h0]; exact h'⟩
  · exact ⟨_, _, h'⟩

/-- The last k of the stack. -/
theorem stack_split (stk : List Nat) {len k top : Nat} (h : stk.length = len) (ht : top + k = len) : ∃ pre ks, stk = pre ++ ks ∧ pre.length = top ∧ ks.length = k :=
  ⟨stk.take top, stk.drop top, (List.take_append_drop _ _).symm, by simp; omega, by simp; omega⟩

/-- The cells of the children. -/
theorem Round.kids {W wr : World} {base bt n : Nat} {F : Nat → Nat → Int} {V : Nat → Value} {pre ks : List Nat} {gs len cap top : Nat} (h : Round W wr base bt n F V (pre ++ ks) (.slice (some ⟨gs, 0, none⟩) len cap)) (hlen : (pre ++ ks).length = len) (htop : pre.length = top) :
    ∀ j, j < ks.length → wr.cell? ⟨gs, top + j, none⟩ = some (.int .i32 ((ks.getD j 0 : Nat) : Int)) := fun j hj => by
  subst hlen
  subst htop
  have h1 := h.side.cell (pre.length + j) (by simp; omega)
  have e : (pre ++ ks).getD (pre.length + j) 0 = ks.getD j 0 := by rw [List.getD_eq_getElem?_getD, List.getD_eq_getElem?_getD, List.getElem?_append_right (by omega), show pre.length + j - pre.length = j by omega]
  rw [e] at h1
  exact h1

theorem TreeK.slices {w : World} {base bt n : Nat} {F : Nat → Nat → Int} {V : Nat → Value} (h : TreeK w base bt n 0 F V) : ∃ (A : Nat → Option Addr) (C : Nat → Nat), ∀ i, i < 9 → V i = .slice (A i) n (C i) := by
  have hex : ∀ i, ∃ p : Option Addr × Nat, i < 9 → V i = .slice p.1 n p.2 := fun i => by
    by_cases hi : i < 9
    · have h1 := h.row i hi
      rw [if_neg (by omega)] at h1
      rcases h1.2 with ⟨h', h0⟩ | ⟨g, cap, cur, h', _⟩
      · exact ⟨(none, 0), fun _ => by rw [h', h0]⟩
      · exact ⟨(_, _), fun _ => h'⟩
    · exact ⟨(none, 0), fun h => absurd h hi⟩
  exact ⟨fun i => (Classical.choose (hex i)).1, fun i => (Classical.choose (hex i)).2, fun i hi => Classical.choose_spec (hex i) hi⟩

/-- The block of build's first result. -/
theorem Aside.res {w W wr : World} (h : Aside W wr (w.heap.size + 2) (w.heap.size + 1)) (hf : Fresh w W) :
    (∀ i, i < 9 → wr.cell? ⟨w.heap.size, i, none⟩ = some (.slice none 0 0)) ∧ ∀ i, wr.frozen? ⟨w.heap.size, i, none⟩ = false := by
  have h1 : wr.heap[w.heap.size]? = some nil9 := (h.block w.heap.size (by omega) (by omega)).trans hf.res
  refine ⟨fun i hi => ?_, fun i => frozen_of_row _ _ _ _ _ h1⟩
  rw [cell_of_row _ _ _ _ _ _ h1]
  match i, hi with
  | 0, _ => rfl
  | 1, _ => rfl
  | 2, _ => rfl
  | 3, _ => rfl
  | 4, _ => rfl
  | 5, _ => rfl
  | 6, _ => rfl
  | 7, _ => rfl
  | 8, _ => rfl

theorem Aside.below {w W wr : World} (h : Aside W wr (w.heap.size + 2) (w.heap.size + 1)) (hf : Fresh w W) : Below w.heap.size w wr :=
  hf.bel.trans ⟨h.os, h.tape, h.output, h.size, fun k hk => h.block k (by omega) (by omega)⟩

def st9 (w : World) (b : Nat) (A : Nat → Option Addr) (m : Nat) (C : Nat → Nat) : World :=
  (((((((((w.setCell ⟨b, 0, none⟩ (.slice (A 0) m (C 0))).setCell ⟨b, 1, none⟩ (.slice (A 1) m (C 1))).setCell ⟨b, 2, none⟩ (.slice (A 2) m (C 2))).setCell ⟨b, 3, none⟩ (.slice (A 3) m (C 3))).setCell ⟨b, 4, none⟩ (.slice (A 4) m (C 4))).setCell ⟨b, 5, none⟩ (.slice (A 5) m (C 5))).setCell ⟨b, 6, none⟩ (.slice (A 6) m (C 6))).setCell ⟨b, 7, none⟩ (.slice (A 7) m (C 7))).setCell ⟨b, 8, none⟩ (.slice (A 8) m (C 8)))

theorem st9_below {B : Nat} {w wr : World} (h : Below B w wr) {b : Nat} (hb : B ≤ b) (A : Nat → Option Addr) (m : Nat) (C : Nat → Nat) : Below B w (st9 wr b A m C) := by
  have h0 := h.setCell (p := ⟨b, 0, none⟩) hb (.slice (A 0) m (C 0))
  have h1 := h0.setCell (p := ⟨b, 1, none⟩) hb (.slice (A 1) m (C 1))
  have h2 := h1.setCell (p := ⟨b, 2, none⟩) hb (.slice (A 2) m (C 2))
  have h3 := h2.setCell (p := ⟨b, 3, none⟩) hb (.slice (A 3) m (C 3))
  have h4 := h3.setCell (p := ⟨b, 4, none⟩) hb (.slice (A 4) m (C 4))
  have h5 := h4.setCell (p := ⟨b, 5, none⟩) hb (.slice (A 5) m (C 5))
  have h6 := h5.setCell (p := ⟨b, 6, none⟩) hb (.slice (A 6) m (C 6))
  have h7 := h6.setCell (p := ⟨b, 7, none⟩) hb (.slice (A 7) m (C 7))
  have h8 := h7.setCell (p := ⟨b, 8, none⟩) hb (.slice (A 8) m (C 8))
  exact h8

theorem st9_cell (w : World) {b : Nat} (A : Nat → Option Addr) (m : Nat) (C : Nat → Nat) {g v : Nat} (h : g ≠ b) : (st9 w b A m C).cell? ⟨g, v, none⟩ = w.cell? ⟨g, v, none⟩ := by
  have hne : ∀ j, (⟨b, j, none⟩ : Addr) ≠ ⟨g, v, none⟩ := fun j e => h (by simpa using (congrArg Addr.block e).symm)
  unfold st9
  rw [grow_other (hne _), grow_other (hne _), grow_other (hne _), grow_other (hne _), grow_other (hne _), grow_other (hne _), grow_other (hne _), grow_other (hne _), grow_other (hne _)]

theorem tree9_of {w W9 : World} {n : Nat} {F : Nat → Nat → Int} {V : Nat → Value} {A : Nat → Option Addr} {C : Nat → Nat} (hbel : Below w.heap.size w W9) (hT : TreeK W9 (w.heap.size + 2) (w.heap.size + 1) n 0 F V) (hA : ∀ i, i < 9 → V i = .slice (A i) n (C i)) (ok : Bool)
    (hok : ok = true → n ≤ 4097 ∧ ∃ K r, Inv F n [r] K) : Tree9 w (.returned (.tuple #[agg9 A n C, .bool ok])) (st9 W9 w.heap.size A n C) := by
  refine ⟨A, n, C, ok, rfl, st9_below hbel (Nat.le_refl _) A n C, fun h => ?_⟩
  obtain ⟨hn, K, r, hI⟩ := hok h
  obtain ⟨par, hW⟩ := hI.whole
  have hex : ∀ i, ∃ g, i < 9 → A i = some ⟨g, 0, none⟩ ∧ V i = .slice (some ⟨g, 0, none⟩) n (C i) ∧ w.heap.size + 2 ≤ g := fun i => by
    by_cases hi : i < 9
    · obtain ⟨g, cap, e⟩ := hT.form hW.pos i hi
      have e2 := hA i hi
      rw [e] at e2
      simp only [Value.slice.injEq, true_and] at e2
      have h3 := ((hT.row i hi).lt g (by rw [e]; rfl)).1
      exact ⟨g, fun _ => ⟨e2.1.symm, by rw [e, e2.2], h3⟩⟩
    · exact ⟨0, fun h => absurd h hi⟩
  refine ⟨F, K, par, fun i => Classical.choose (hex i), fun i hi => (Classical.choose_spec (hex i) hi).1, fun i hi v hv => ?_, hW, hn⟩
  have h4 := Classical.choose_spec (hex i) hi
  have h5 : Classical.choose (hex i) ≠ w.heap.size := by have := h4.2.2; exact fun e => by rw [e] at this; omega
  rw [st9_cell _ _ _ _ h5]
  exact hT.at hi h4.2.1 hv

end Go.Proofs.Qxb6000433a
