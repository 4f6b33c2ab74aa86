import Derived.Test.Qxb6000182aWalkE
namespace Go.Proofs.Qxb6000182a
open Go.RowKit
open Plain (Tn bef upd pick path Put Sh Sifted Downed)

/-- What 'down' leaves, i inside the heap or not. -/
def DownOut (n : Nat) (q : Nat → Tn) (i : Nat) (r : Nat → Tn) : Prop := (n ≤ i ∧ ∀ k, k < n → r k = q k) ∨ (i < n ∧ Downed n q i r)

theorem DownOut.zero (q r : Nat → Tn) (i : Nat) : DownOut 0 q i r := .inl ⟨Nat.zero_le _, fun k hk => by omega⟩

/-- Four rows of numbers of the call's own. -/
structure Rows4 (w : World) (b0 b1 b2 b3 n : Nat) (f0 f1 f2 f3 : Nat → Int) : Prop where
  r0 : w.rowIs b0 2 n (fun j => .int .i64 (f0 j))
  r1 : w.rowIs b1 21 n (fun j => .int .i32 (f1 j))
  r2 : w.rowIs b2 3 n (fun j => .int .i64 (f2 j))
  r3 : w.rowIs b3 3 n (fun j => .int .i64 (f3 j))
  h01 : b0 < b1
  h12 : b1 < b2
  h23 : b2 < b3

theorem Rows4.later {w w' : World} {b0 b1 b2 b3 n : Nat} {f0 f1 f2 f3 : Nat → Int} (h : Rows4 w b0 b1 b2 b3 n f0 f1 f2 f3) (hb : Below w.heap.size w w') : Rows4 w' b0 b1 b2 b3 n f0 f1 f2 f3 :=
  ⟨h.r0.of_block (hb.block _ h.r0.lt), h.r1.of_block (hb.block _ h.r1.lt), h.r2.of_block (hb.block _ h.r2.lt), h.r3.of_block (hb.block _ h.r3.lt), h.h01, h.h12, h.h23⟩

theorem Rows4.congr {w : World} {b0 b1 b2 b3 n : Nat} {f0 f1 f2 f3 g0 g1 g2 g3 : Nat → Int} (h : Rows4 w b0 b1 b2 b3 n f0 f1 f2 f3) (e0 : ∀ j, j < n → f0 j = g0 j) (e1 : ∀ j, j < n → f1 j = g1 j) (e2 : ∀ j, j < n → f2 j = g2 j) (e3 : ∀ j, j < n → f3 j = g3 j) :
    Rows4 w b0 b1 b2 b3 n g0 g1 g2 g3 :=
  ⟨h.r0.congr fun j hj => by rw [e0 j hj], h.r1.congr fun j hj => by rw [e1 j hj], h.r2.congr fun j hj => by rw [e2 j hj], h.r3.congr fun j hj => by rw [e3 j hj], h.h01, h.h12, h.h23⟩

/-- Nothing but four blocks has turned. -/
structure Fr4 (w w' : World) (b0 b1 b2 b3 : Nat) : Prop where
  os : w'.os = w.os
  tape : w'.tape = w.tape
  output : w'.output = w.output
  size : w.heap.size ≤ w'.heap.size
  block : ∀ k, k < w.heap.size → k ≠ b0 → k ≠ b1 → k ≠ b2 → k ≠ b3 → w'.heap[k]? = w.heap[k]?

theorem Fr4.of_below {w w' : World} (h : Below w.heap.size w w') (b0 b1 b2 b3 : Nat) : Fr4 w w' b0 b1 b2 b3 := ⟨h.os, h.tape, h.output, h.size, fun k hk _ _ _ _ => h.block k hk⟩

theorem Fr4.below {w w' : World} {b0 b1 b2 b3 B : Nat} (h : Fr4 w w' b0 b1 b2 b3) (hB : B ≤ w.heap.size) (h0 : B ≤ b0) (h1 : B ≤ b1) (h2 : B ≤ b2) (h3 : B ≤ b3) : Below B w w' :=
  ⟨h.os, h.tape, h.output, h.size, fun k hk => h.block k (by omega) (by omega) (by omega) (by omega) (by omega)⟩

theorem Fr4.set {w w' : World} {b0 b1 b2 b3 : Nat} (h : Fr4 w w' b0 b1 b2 b3) (a : Addr) (ha : a.block = b0 ∨ a.block = b1 ∨ a.block = b2 ∨ a.block = b3) (v : Value) : Fr4 w (w'.setCell a v) b0 b1 b2 b3 :=
  ⟨h.os, h.tape, h.output, by simpa [World.setCell] using h.size, fun k hk n0 n1 n2 n3 => by
    rw [Below.heap_setCell _ _ _ _ (by omega)]; exact h.block k hk n0 n1 n2 n3⟩

def mix (k : Nat) (f g : Nat → Int) : Nat → Int := fun j => if j < k then f j else g j

theorem mix_step {k : Nat} {f g : Nat → Int} (j : Nat) : (if j = k then f k else mix k f g j) = mix (k + 1) f g j := by
  unfold mix
  by_cases e : j = k
  · subst e; rw [if_pos rfl, if_pos (by omega)]
  · rw [if_neg e]
    by_cases hj : j < k
    · rw [if_pos hj, if_pos (by omega)]
    · rw [if_neg hj, if_neg (by omega)]

/-- One round of the writing back. -/
theorem back_step {w wr : World} {b0 b1 b2 b3 bq n k : Nat} {z0 z1 z2 z3 : Nat → Int} {r : Nat → Tn} (h : Rows4 wr b0 b1 b2 b3 n (mix k (fun j => (r j).sec) z0) (mix k (fun j => (r j).nsec) z1) (mix k (fun j => (r j).rank) z2) (mix k (fun j => (r j).run) z3))
    (hq : TRow wr bq 75 n r) (hb : b3 < bq) (hf : Fr4 w wr b0 b1 b2 b3) :
    Rows4 ((((wr.setCell ⟨b0, k, none⟩ (.int .i64 (r k).sec)).setCell ⟨b1, k, none⟩ (.int .i32 (r k).nsec)).setCell ⟨b2, k, none⟩ (.int .i64 (r k).rank)).setCell ⟨b3, k, none⟩ (.int .i64 (r k).run)) b0 b1 b2 b3 n
        (mix (k + 1) (fun j => (r j).sec) z0) (mix (k + 1) (fun j => (r j).nsec) z1) (mix (k + 1) (fun j => (r j).rank) z2) (mix (k + 1) (fun j => (r j).run) z3) ∧
      TRow ((((wr.setCell ⟨b0, k, none⟩ (.int .i64 (r k).sec)).setCell ⟨b1, k, none⟩ (.int .i32 (r k).nsec)).setCell ⟨b2, k, none⟩ (.int .i64 (r k).rank)).setCell ⟨b3, k, none⟩ (.int .i64 (r k).run)) bq 75 n r ∧
      Fr4 w ((((wr.setCell ⟨b0, k, none⟩ (.int .i64 (r k).sec)).setCell ⟨b1, k, none⟩ (.int .i32 (r k).nsec)).setCell ⟨b2, k, none⟩ (.int .i64 (r k).rank)).setCell ⟨b3, k, none⟩ (.int .i64 (r k).run)) b0 b1 b2 b3 := by
  have h01 := h.h01
  have h12 := h.h12
  have h23 := h.h23
  refine ⟨⟨?_, ?_, ?_, ?_, h01, h12, h23⟩, ?_, ?_⟩
  · refine World.rowIs.congr ((((h.r0.set k _).setOther (a := ⟨b1, k, none⟩) (by show b0 ≠ b1; omega) _).setOther (a := ⟨b2, k, none⟩) (by show b0 ≠ b2; omega) _).setOther (a := ⟨b3, k, none⟩) (by show b0 ≠ b3; omega) _) fun j _ => ?_
    rw [← mix_step (f := fun j => (r j).sec) j]; split <;> rfl
  · refine World.rowIs.congr ((((h.r1.setOther (a := ⟨b0, k, none⟩) (by show b1 ≠ b0; omega) _).set k _).setOther (a := ⟨b2, k, none⟩) (by show b1 ≠ b2; omega) _).setOther (a := ⟨b3, k, none⟩) (by show b1 ≠ b3; omega) _) fun j _ => ?_
    rw [← mix_step (f := fun j => (r j).nsec) j]; split <;> rfl
  · refine World.rowIs.congr ((((h.r2.setOther (a := ⟨b0, k, none⟩) (by show b2 ≠ b0; omega) _).setOther (a := ⟨b1, k, none⟩) (by show b2 ≠ b1; omega) _).set k _).setOther (a := ⟨b3, k, none⟩) (by show b2 ≠ b3; omega) _) fun j _ => ?_
    rw [← mix_step (f := fun j => (r j).rank) j]; split <;> rfl
  · refine World.rowIs.congr ((((h.r3.setOther (a := ⟨b0, k, none⟩) (by show b3 ≠ b0; omega) _).setOther (a := ⟨b1, k, none⟩) (by show b3 ≠ b1; omega) _).setOther (a := ⟨b2, k, none⟩) (by show b3 ≠ b2; omega) _).set k _) fun j _ => ?_
    rw [← mix_step (f := fun j => (r j).run) j]; split <;> rfl
  · exact World.rowIs.setOther (a := ⟨b3, k, none⟩) (World.rowIs.setOther (a := ⟨b2, k, none⟩) (World.rowIs.setOther (a := ⟨b1, k, none⟩) (World.rowIs.setOther (a := ⟨b0, k, none⟩) hq (by show bq ≠ b0; omega) _) (by show bq ≠ b1; omega) _) (by show bq ≠ b2; omega) _) (by show bq ≠ b3; omega) _
  · exact (((hf.set ⟨b0, k, none⟩ (.inl rfl) _).set ⟨b1, k, none⟩ (.inr (.inl rfl)) _).set ⟨b2, k, none⟩ (.inr (.inr (.inl rfl))) _).set ⟨b3, k, none⟩ (.inr (.inr (.inr rfl))) _

set_option maxHeartbeats 400000 in
theorem turnsDown_nil (a0 a1 a2 a3 : Option Addr) (c0 c1 c2 c3 i : Nat) (w : World) :
    Calls Try.prog 32 #[.slice a0 0 c0, .slice a1 0 c1, .slice a2 0 c2, .slice a3 0 c3, .int .i64 (i : Int)] w fun e w' => e = .returned (.tuple #[]) ∧ Below w.heap.size w w' := by
  have hmk : ∀ W, (Instr.makeSlice 73 (.int .i64 0) (.int .i64 0)).run Try.prog W = .ok (.slice (some ⟨W.heap.size, 0, none⟩) 0 0) (W.alloc (.cells (madeT 0) 75)) := fun W => run_make4 (P := Try.prog) 73 75 Try.underlying73 Try.info75 0 (by omega) W
  go_enter Try.func32, Try.ntmps32
  go_wp2
  refine wp_loop_rounds 1 ?_
  rw [rounds_succ]
  go_wp2_with fail
  refine (down_out _ 0 i _ (Nat.zero_le _)).mono ?_
  rintro e W ⟨rfl, rfl⟩
  go_wp2
  refine wp_loop_rounds 1 ?_
  rw [rounds_succ]
  go_wp2
  go_end0
  exact ⟨rfl, (Below.refl _ _).alloc (Nat.le_refl _) _⟩

set_option maxHeartbeats 1600000 in
theorem turnsDown_any (b0 b1 b2 b3 n i : Nat) (z0 z1 z2 z3 : Nat → Int) (w : World) (h : Rows4 w b0 b1 b2 b3 n z0 z1 z2 z3) (hn : n ≤ 1048576) :
    Calls Try.prog 32 #[.slice (some ⟨b0, 0, none⟩) n n, .slice (some ⟨b1, 0, none⟩) n n, .slice (some ⟨b2, 0, none⟩) n n, .slice (some ⟨b3, 0, none⟩) n n, .int .i64 (i : Int)] w fun e w' =>
      e = .returned (.tuple #[]) ∧ Fr4 w w' b0 b1 b2 b3 ∧ ∃ r, DownOut n (zipT z0 z1 z2 z3) i r ∧ Rows4 w' b0 b1 b2 b3 n (fun j => (r j).sec) (fun j => (r j).nsec) (fun j => (r j).rank) (fun j => (r j).run) := by
  have hmk := run_make4 (P := Try.prog) 73 75 Try.underlying73 Try.info75 n hn
  have HR := Kept.mk h
  have h3w := h.r3.lt
  have h01 := h.h01
  have h12 := h.h12
  have h23 := h.h23
  clear h
  go_enter Try.func32, Try.ntmps32
  go_wp2
  clear hmk
  go_loopg [11] n (fun g x wr => ∃ k : Nat, k ≤ n ∧ g = n - k ∧ x = .int .i64 k ∧ Below w.heap.size w wr ∧ TRow wr w.heap.size 75 n (fun j => if j < k then zipT z0 z1 z2 z3 j else ⟨0, 0, 0, 0⟩))
  case atStart => exact ⟨0, Nat.zero_le _, rfl, rfl, (Below.refl _ _).alloc (Nat.le_refl _) _, (trow_made w 75 n).congr (fun j _ => by simp)⟩
  case round =>
    obtain ⟨k, hk, rfl, rfl, hbel, hrow⟩ := hrel
    by_cases hlt : k < n
    · have hR := HR.out.later hbel
      have d0 := hR.r0.cell hlt
      have d1 := hR.r1.cell hlt
      have d2 := hR.r2.cell hlt
      have d3 := hR.r3.cell hlt
      clear hR
      obtain ⟨m0, m1, m2, m3⟩ := hrow.at4 hlt
      have f0 := World.rowIs.frozen hrow (k * 4)
      have f1 := World.rowIs.frozen hrow (k * 4 + 1)
      have f2 := World.rowIs.frozen hrow (k * 4 + 2)
      have f3 := World.rowIs.frozen hrow (k * 4 + 3)
      simp only [if_neg (Nat.lt_irrefl k)] at m0 m1 m2 m3
      go_wp2
      go_region
      all_goals go_wp2
      go_roundg (n - (k + 1))
      case measure => omega
      case rel => exact ⟨k + 1, by omega, rfl, by go_num, (below_set4 hbel (Nat.le_refl _) (k * 4) (k * 4 + 1) (k * 4 + 2) (k * 4 + 3) _ _ _ _).drew, zip_step (q := zipT z0 z1 z2 z3) hrow⟩
    · obtain rfl : k = n := by omega
      have hrow1 := hrow.congr (q' := zipT z0 z1 z2 z3) fun j hj => by rw [if_pos hj]
      clear hrow
      have HB := Kept.mk hbel
      have HT := Kept.mk hrow1
      clear hbel hrow1
      go_wp2_with fail
      have hdown : Calls Try.prog 42 #[.slice (some ⟨w.heap.size, 0, none⟩) k k, .int .i64 (i : Int)] wr fun e w' => e = .returned (.tuple #[]) ∧ wr.grownBy w' (some w.heap.size) ∧ ∃ r, DownOut k (zipT z0 z1 z2 z3) i r ∧ TRow w' w.heap.size 75 k r := by
        by_cases hin : i < k
        · exact (down_any w.heap.size k i _ wr HT.out hn hin).mono fun e W ⟨he, hg, r, hr, ht⟩ => ⟨he, hg, r, .inr ⟨hin, hr⟩, ht⟩
        · exact (down_out w.heap.size k i wr (by omega)).mono fun e W ⟨he, hw⟩ => ⟨he, by rw [hw]; exact World.grownBy.refl _ _, _, .inl ⟨by omega, fun _ _ => rfl⟩, by rw [hw]; exact HT.out⟩
      refine hdown.mono ?_
      clear hdown
      rintro e W ⟨rfl, hg, r, hr, ht⟩
      have hbW : Below w.heap.size w W := HB.out.grown hg HB.out.size (fun k hk => by cases hk; exact Nat.le_refl _)
      have HO := Kept.mk hr
      have HS := Kept.mk (show Rows4 W b0 b1 b2 b3 k (mix 0 (fun j => (r j).sec) z0) (mix 0 (fun j => (r j).nsec) z1) (mix 0 (fun j => (r j).rank) z2) (mix 0 (fun j => (r j).run) z3) from
        (HR.out.later hbW).congr (fun j _ => by simp [mix]) (fun j _ => by simp [mix]) (fun j _ => by simp [mix]) (fun j _ => by simp [mix]))
      have HF := Kept.mk (And.intro (Fr4.of_below hbW b0 b1 b2 b3) ht)
      clear hg hr ht hbW HB HT HR
      go_wp2
      go_loopg [12] k (fun g x wr => ∃ t : Nat, t ≤ k ∧ g = k - t ∧ x = .int .i64 t ∧ Rows4 wr b0 b1 b2 b3 k (mix t (fun j => (r j).sec) z0) (mix t (fun j => (r j).nsec) z1) (mix t (fun j => (r j).rank) z2) (mix t (fun j => (r j).run) z3) ∧ TRow wr w.heap.size 75 k r ∧ Fr4 w wr b0 b1 b2 b3)
      case atStart => exact ⟨0, Nat.zero_le _, rfl, rfl, HS.out, HF.out.2, HF.out.1⟩
      case round =>
        clear HS HF
        obtain ⟨t, ht, rfl, rfl, hR, hrow, hfr⟩ := hrel
        by_cases htk : t < k
        · have d0 := hR.r0.cell htk
          have d1 := hR.r1.cell htk
          have d2 := hR.r2.cell htk
          have d3 := hR.r3.cell htk
          have f0 := hR.r0.frozen t
          have f1 := hR.r1.frozen t
          have f2 := hR.r2.frozen t
          have f3 := hR.r3.frozen t
          obtain ⟨m0, m1, m2, m3⟩ := hrow.at4 htk
          have HB := Kept.mk (back_step hR hrow h3w hfr)
          clear hR hrow hfr
          go_wp2
          go_roundg (k - (t + 1))
          case measure => omega
          case rel => exact ⟨t + 1, by omega, rfl, by go_num, HB.out.1, HB.out.2.1, HB.out.2.2⟩
        · obtain rfl : t = k := by omega
          have HE := Kept.mk (And.intro hfr (hR.congr (g0 := fun j => (r j).sec) (g1 := fun j => (r j).nsec) (g2 := fun j => (r j).rank) (g3 := fun j => (r j).run) (fun j hj => by simp [mix, hj]) (fun j hj => by simp [mix, hj]) (fun j hj => by simp [mix, hj]) (fun j hj => by simp [mix, hj])))
          clear hR hfr hrow
          go_wp2
          go_end0
          exact ⟨rfl, HE.out.1, r, HO.out, HE.out.2⟩

/-- Both together. -/
theorem turnsDown_all (a0 a1 a2 a3 : Option Addr) (b0 b1 b2 b3 n i : Nat) (z0 z1 z2 z3 : Nat → Int) (w : World)
    (h : 0 < n → a0 = some ⟨b0, 0, none⟩ ∧ a1 = some ⟨b1, 0, none⟩ ∧ a2 = some ⟨b2, 0, none⟩ ∧ a3 = some ⟨b3, 0, none⟩ ∧ Rows4 w b0 b1 b2 b3 n z0 z1 z2 z3) (hn : n ≤ 1048576) :
    Calls Try.prog 32 #[.slice a0 n n, .slice a1 n n, .slice a2 n n, .slice a3 n n, .int .i64 (i : Int)] w fun e w' =>
      e = .returned (.tuple #[]) ∧ Fr4 w w' b0 b1 b2 b3 ∧ ∃ r, DownOut n (zipT z0 z1 z2 z3) i r ∧ (0 < n → Rows4 w' b0 b1 b2 b3 n (fun j => (r j).sec) (fun j => (r j).nsec) (fun j => (r j).rank) (fun j => (r j).run)) := by
  rcases Nat.eq_zero_or_pos n with h0 | h0
  · subst h0
    exact (turnsDown_nil a0 a1 a2 a3 0 0 0 0 i w).mono fun e W ⟨he, hb⟩ => ⟨he, Fr4.of_below hb _ _ _ _, zipT z0 z1 z2 z3, DownOut.zero _ _ _, fun h => absurd h (Nat.lt_irrefl _)⟩
  · obtain ⟨rfl, rfl, rfl, rfl, hR⟩ := h h0
    exact (turnsDown_any b0 b1 b2 b3 n i z0 z1 z2 z3 w hR hn).mono fun e W ⟨he, hf, r, hr, hR⟩ => ⟨he, hf, r, hr, fun _ => hR⟩

end Go.Proofs.Qxb6000182a
