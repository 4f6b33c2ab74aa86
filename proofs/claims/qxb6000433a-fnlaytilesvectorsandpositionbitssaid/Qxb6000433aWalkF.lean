import Derived.Test.Qxb6000433aWalkE
namespace Go.Proofs.Qxb6000433a
open Go.RowKit
open Plain (Whole P fac S B)

/-- The program while it is laid out. -/
structure LayAt (w0 : World) (base : Nat) (w : World) (bp gn n : Nat) (N : Nat → Nat → Int) (bits vw : Nat) : Prop where
  row : NRow w gn n N
  pat : PAt w bp gn n bits vw
  fz : ∀ i, w.frozen? ⟨bp, i, none⟩ = false
  ne : gn ≠ bp
  bg : base ≤ gn
  bb : base ≤ bp
  bel : Below base w0 w

theorem LayAt.setN {w0 w : World} {base bp gn n bits vw : Nat} {N : Nat → Nat → Int} (h : LayAt w0 base w bp gn n N bits vw) (i v : Nat) (hi : i < 14) (h2 : kt i = .i32) (x : Int) :
    LayAt w0 base (w.setCell ⟨gn, v * 14 + i, none⟩ (.int .i32 x)) bp gn n (set2 N i v x) bits vw where
  row := by have := h.row.set i v hi x; rw [h2] at this; exact this
  pat := by
    have e : ∀ j, (w.setCell ⟨gn, v * 14 + i, none⟩ (.int .i32 x)).cell? ⟨bp, j, none⟩ = w.cell? ⟨bp, j, none⟩ := fun j => World.cell?_of_block (Below.heap_setCell _ _ _ _ (fun e => h.ne e.symm))
    exact ⟨by rw [e]; exact h.pat.c0, by rw [e]; exact h.pat.c3, by rw [e]; exact h.pat.c4⟩
  fz := fun j => by rw [World.frozen?_of_block (a := ⟨bp, j, none⟩) (Below.heap_setCell _ _ _ _ (fun e => h.ne e.symm))]; exact h.fz j
  ne := h.ne
  bg := h.bg
  bb := h.bb
  bel := h.bel.setCell (p := ⟨gn, v * 14 + i, none⟩) h.bg _

theorem LayAt.setP {w0 w : World} {base bp gn n bits vw : Nat} {N : Nat → Nat → Int} (h : LayAt w0 base w bp gn n N bits vw) (j : Nat) (x : Value) (bits' vw' : Nat) (hp : PAt (w.setCell ⟨bp, j, none⟩ x) bp gn n bits' vw') :
    LayAt w0 base (w.setCell ⟨bp, j, none⟩ x) bp gn n N bits' vw' where
  row := World.rowIs.setOther h.row (a := ⟨bp, j, none⟩) h.ne x
  pat := hp
  fz := fun i => by
    rw [World.frozen?_setCell]; exact h.fz i
  ne := h.ne
  bg := h.bg
  bb := h.bb
  bel := h.bel.setCell (p := ⟨bp, j, none⟩) h.bb _

theorem cell_other {w : World} {a b : Addr} {v : Value} (h : a ≠ b) : (w.setCell a v).cell? b = w.cell? b := by apply World.cell?_setCell_other; exact h
theorem cell_same {w : World} {a : Addr} {u v : Value} (h : w.cell? a = some u) : (w.setCell a v).cell? a = some v := by apply World.cell?_setCell_same; exact h

theorem LayAt.setVw {w0 w : World} {base bp gn n bits vw : Nat} {N : Nat → Nat → Int} (h : LayAt w0 base w bp gn n N bits vw) (vw' : Nat) : LayAt w0 base (w.setCell ⟨bp, 4, none⟩ (.int .i64 (vw' : Int))) bp gn n N bits vw' :=
  h.setP 4 _ bits vw' ⟨by rw [cell_other (by simp)]; exact h.pat.c0, by rw [cell_other (by simp)]; exact h.pat.c3, cell_same h.pat.c4⟩
theorem LayAt.setBits {w0 w : World} {base bp gn n bits vw : Nat} {N : Nat → Nat → Int} (h : LayAt w0 base w bp gn n N bits vw) (bits' : Nat) : LayAt w0 base (w.setCell ⟨bp, 3, none⟩ (.int .i64 (bits' : Int))) bp gn n N bits' vw :=
  h.setP 3 _ bits' vw ⟨by rw [cell_other (by simp)]; exact h.pat.c0, cell_same h.pat.c3, by rw [cell_other (by simp)]; exact h.pat.c4⟩

theorem LayAt.drew {w0 w : World} {base bp gn n bits vw : Nat} {N : Nat → Nat → Int} (h : LayAt w0 base w bp gn n N bits vw) : LayAt w0 base w.drew bp gn n N bits vw :=
  ⟨h.row, ⟨h.pat.c0, h.pat.c3, h.pat.c4⟩, h.fz, h.ne, h.bg, h.bb, h.bel.drew⟩

theorem LayAt.drewN {w0 w : World} {base bp gn n bits vw : Nat} {N : Nat → Nat → Int} (h : LayAt w0 base w bp gn n N bits vw) (k : Nat) : LayAt w0 base (w.drewN k) bp gn n N bits vw :=
  ⟨h.row, ⟨h.pat.c0, h.pat.c3, h.pat.c4⟩, h.fz, h.ne, h.bg, h.bb, below_drewN h.bel k⟩

/-- The copies laid so far: of the nodes whose parent is at least k, and of L0. -/
def Mu (F : Nat → Nat → Int) (par : Nat → Nat) (n k : Nat) (L0 : List Nat) (N : Nat → Nat → Int) : Prop :=
  (∀ c, c < n → (c + 1 = n ∨ (c + 1 < n ∧ k ≤ par c) ∨ c ∈ L0) → N 10 c = (P F par n c : Int)) ∧ ∀ i c, i ≠ 10 → N i c = N0 F i c

theorem Mu.at {F : Nat → Nat → Int} {n : Nat} {K : Nat → List Nat} {par : Nat → Nat} (hW : Whole F n K par) {k : Nat} {N : Nat → Nat → Int} (h : Mu F par n (k + 1) [] N) (hk : k < n) : N 10 k = (P F par n k : Int) :=
  h.1 k hk (by
    by_cases e : k + 1 = n
    · exact .inl e
    · have := (hW.par_lt k (by omega)).1
      exact .inr (.inl ⟨by omega, by omega⟩))

theorem Mu.step {F : Nat → Nat → Int} {n : Nat} {K : Nat → List Nat} {par : Nat → Nat} (hW : Whole F n K par) {k c : Nat} {L0 R : List Nat} {N : Nat → Nat → Int} (h : Mu F par n (k + 1) L0 N) (hk : k < n) (hK : K k = L0 ++ c :: R) :
    Mu F par n (k + 1) (L0 ++ [c]) (set2 N 10 c ((P F par n k * fac F k : Nat) : Int)) := by
  have hc := hW.kids k hk c (by rw [hK]; simp)
  refine ⟨fun j hj hcond => ?_, fun i j hi => ?_⟩
  · unfold set2
    by_cases e : j = c
    · subst e
      rw [if_pos ⟨rfl, rfl⟩, Plain.P_step hW hc.1, hc.2]
    · rw [if_neg (fun h => e h.2)]
      refine h.1 j hj ?_
      rcases hcond with h1 | h1 | h1
      · exact .inl h1
      · exact .inr (.inl h1)
      · simp [e] at h1; exact .inr (.inr h1)
  · unfold set2
    rw [if_neg (fun h => hi h.1)]
    exact h.2 i j hi

theorem Mu.next {F : Nat → Nat → Int} {n : Nat} {K : Nat → List Nat} {par : Nat → Nat} (hW : Whole F n K par) {k : Nat} {N : Nat → Nat → Int} (h : Mu F par n (k + 1) (K k) N) : Mu F par n k [] N := by
  refine ⟨fun j hj hcond => h.1 j hj ?_, h.2⟩
  rcases hcond with h1 | ⟨h1, h2⟩ | h1
  · exact .inl h1
  · by_cases e : par j = k
    · have := (hW.par_lt j h1).2.2
      rw [e] at this
      exact .inr (.inr this)
    · exact .inr (.inl ⟨h1, by omega⟩)
  · cases h1

theorem Mu.start (F : Nat → Nat → Int) (par : Nat → Nat) (n : Nat) {K : Nat → List Nat} (hW : Whole F n K par) : Mu F par n n [] (set2 (N0 F) 10 (n - 1) 1) := by
  refine ⟨fun j hj hcond => ?_, fun i j hi => ?_⟩
  · rcases hcond with h1 | ⟨h1, h2⟩ | h1
    · unfold set2
      rw [if_pos ⟨rfl, by omega⟩, Plain.P_root F par n j (by omega)]; rfl
    · have := (hW.par_lt j h1).2.1; omega
    · cases h1
  · unfold set2
    rw [if_neg (fun h => hi h.1)]

theorem copies_is (gn n v : Nat) (F N : Nat → Nat → Int) (w : World) (hT : NRow w gn n N) (hv : v < n) (e7 : N 7 v = F 7 v) (e8 : N 8 v = F 8 v) (h7 : 0 ≤ F 7 v ∧ F 7 v ≤ 4) (h8 : -1 ≤ F 8 v ∧ F 8 v ≤ 7) {fc : Nat} (he : (fc : Int) = Plain.copies F v) :
    Calls Try.prog 46 #[.pointer (some ⟨gn, v * 14, none⟩)] w fun e w' => e = .returned (.int .i64 (fc : Int)) ∧ w' = w := by
  have e : (fc : Int) = Plain.copies N v := by rw [he]; unfold Plain.copies; rw [e7, e8]
  rw [e]; exact copies_any gn n v N w hT hv (by rw [e7]; exact h7) (by rw [e8]; exact h8)

end Go.Proofs.Qxb6000433a
