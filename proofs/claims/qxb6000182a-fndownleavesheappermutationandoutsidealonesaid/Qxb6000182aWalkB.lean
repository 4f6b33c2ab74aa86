import Derived.Test.Qxb6000182aBase
namespace Go.Proofs.Qxb6000182a
open Go.RowKit
open Plain (Tn bef upd)

/-- What a clone of n numbers hands back. -/
def Cloned (w : World) (n : Nat) (e : TypeId) (k : IntKind) (z : Nat → Int) (en : Ending) (w' : World) : Prop :=
  ∃ ao, en = .returned (.slice ao n n) ∧ Below w.heap.size w w' ∧ (0 < n → ao = some ⟨w.heap.size, 0, none⟩ ∧ w'.rowIs w.heap.size e n (fun j => .int k (z j)))

theorem rowIs_step {w : World} {b : Nat} {t : TypeId} {n k : Nat} {f : Nat → Value} {d : Value} (h : w.rowIs b t n (fun j => if j < k then f j else d)) :
    (w.setCell ⟨b, k, none⟩ (f k)).rowIs b t n (fun j => if j < k + 1 then f j else d) :=
  (h.set k _).congr fun j _ => by
    by_cases e : j = k
    · subst e; simp
    · rw [if_neg e]
      by_cases hj : j < k
      · rw [if_pos hj, if_pos (by omega)]
      · rw [if_neg hj, if_neg (by omega)]

set_option maxHeartbeats 400000 in
theorem cloneI64_any (ao : Option Addr) (n cap b o : Nat) (z : Nat → Int) (w : World) (h : Sl w ao n b o .i64 z) (hn : n ≤ 1048576) :
    Calls Try.prog 27 #[.slice ao n cap] w fun e w' => Cloned w n 2 .i64 z e w' := by
  have heq := fun W => Lib.run_eql_slice_nil (P := Try.prog) W 44 2 ao n cap 0 0 Try.underlying44
  have HS : Hid (Sl w ao n b o .i64 z) := h
  cases hA : ao.isNone with
  | true =>
    have h0 : n = 0 := by
      rcases Nat.eq_zero_or_pos n with h0 | h0
      · exact h0
      · rw [h.top h0] at hA; cases hA
    subst h0
    clear h HS
    go_enter Try.func27, Try.ntmps27
    go_wp2
    go_ret
    exact ⟨_, rfl, Below.refl _ _, fun h => absurd h (Nat.lt_irrefl _)⟩
  | false =>
    have hmk := run_make_row' (P := Try.prog) 44 2 (.int .i64 0) 8 Try.underlying44 Try.info2 rfl .i64 .i64 n (by omega) (by omega)
    clear h
    go_enter Try.func27, Try.ntmps27
    go_wp2
    clear hmk heq hA
    go_loopg [4] n (fun g i wr => ∃ k : Nat, k ≤ n ∧ g = n - k ∧ i = .int .i64 k ∧ Below w.heap.size w wr ∧ wr.rowIs w.heap.size 2 n (fun j => if j < k then .int .i64 (z j) else .int .i64 0))
    case atStart => exact ⟨0, Nat.zero_le _, rfl, rfl, (Below.refl _ _).alloc (Nat.le_refl _) _, (World.rowIs_made w _ n 2).congr (fun j _ => by simp)⟩
    case round =>
      obtain ⟨k, hk, rfl, rfl, hbel, hrow⟩ := hrel
      by_cases hlt : k < n
      · have hc := HS.out.cell k hlt
        have hix := index44 (cap := cap) (HS.out.top (by omega)) hlt
        rw [← hbel.cell (p := ⟨b, o + k, none⟩) (World.block_lt_of_cell? _ _ hc)] at hc
        have hc2 := hrow.cell hlt
        rw [if_neg (Nat.lt_irrefl _)] at hc2
        have hf2 := hrow.frozen k
        go_wp2
        go_roundg (n - (k + 1))
        case measure => omega
        case rel => exact ⟨k + 1, by omega, rfl, by go_num, hbel.setCell (p := ⟨w.heap.size, k, none⟩) (Nat.le_refl _) _, rowIs_step hrow⟩
      · obtain rfl : k = n := by omega
        go_wp2
        go_ret
        exact ⟨_, rfl, hbel, fun _ => ⟨rfl, hrow.congr fun j hj => by rw [if_pos hj]⟩⟩

set_option maxHeartbeats 400000 in
theorem cloneI32_any (ao : Option Addr) (n cap b o : Nat) (z : Nat → Int) (w : World) (h : Sl w ao n b o .i32 z) (hn : n ≤ 1048576) :
    Calls Try.prog 28 #[.slice ao n cap] w fun e w' => Cloned w n 21 .i32 z e w' := by
  have heq := fun W => Lib.run_eql_slice_nil (P := Try.prog) W 45 21 ao n cap 0 0 Try.underlying45
  have HS : Hid (Sl w ao n b o .i32 z) := h
  cases hA : ao.isNone with
  | true =>
    have h0 : n = 0 := by
      rcases Nat.eq_zero_or_pos n with h0 | h0
      · exact h0
      · rw [h.top h0] at hA; cases hA
    subst h0
    clear h HS
    go_enter Try.func28, Try.ntmps28
    go_wp2
    go_ret
    exact ⟨_, rfl, Below.refl _ _, fun h => absurd h (Nat.lt_irrefl _)⟩
  | false =>
    have hmk := run_make_row' (P := Try.prog) 45 21 (.int .i32 0) 4 Try.underlying45 Try.info21 rfl .i64 .i64 n (by omega) (by omega)
    clear h
    go_enter Try.func28, Try.ntmps28
    go_wp2
    clear hmk heq hA
    go_loopg [4] n (fun g i wr => ∃ k : Nat, k ≤ n ∧ g = n - k ∧ i = .int .i64 k ∧ Below w.heap.size w wr ∧ wr.rowIs w.heap.size 21 n (fun j => if j < k then .int .i32 (z j) else .int .i32 0))
    case atStart => exact ⟨0, Nat.zero_le _, rfl, rfl, (Below.refl _ _).alloc (Nat.le_refl _) _, (World.rowIs_made w _ n 21).congr (fun j _ => by simp)⟩
    case round =>
      obtain ⟨k, hk, rfl, rfl, hbel, hrow⟩ := hrel
      by_cases hlt : k < n
      · have hc := HS.out.cell k hlt
        have hix := index45 (cap := cap) (HS.out.top (by omega)) hlt
        rw [← hbel.cell (p := ⟨b, o + k, none⟩) (World.block_lt_of_cell? _ _ hc)] at hc
        have hc2 := hrow.cell hlt
        rw [if_neg (Nat.lt_irrefl _)] at hc2
        have hf2 := hrow.frozen k
        go_wp2
        go_roundg (n - (k + 1))
        case measure => omega
        case rel => exact ⟨k + 1, by omega, rfl, by go_num, hbel.setCell (p := ⟨w.heap.size, k, none⟩) (Nat.le_refl _) _, rowIs_step hrow⟩
      · obtain rfl : k = n := by omega
        go_wp2
        go_ret
        exact ⟨_, rfl, hbel, fun _ => ⟨rfl, hrow.congr fun j hj => by rw [if_pos hj]⟩⟩

set_option maxHeartbeats 400000 in
theorem cloneInt_any (ao : Option Addr) (n cap b o : Nat) (z : Nat → Int) (w : World) (h : Sl w ao n b o .i64 z) (hn : n ≤ 1048576) :
    Calls Try.prog 29 #[.slice ao n cap] w fun e w' => Cloned w n 3 .i64 z e w' := by
  have heq := fun W => Lib.run_eql_slice_nil (P := Try.prog) W 46 3 ao n cap 0 0 Try.underlying46
  have HS : Hid (Sl w ao n b o .i64 z) := h
  cases hA : ao.isNone with
  | true =>
    have h0 : n = 0 := by
      rcases Nat.eq_zero_or_pos n with h0 | h0
      · exact h0
      · rw [h.top h0] at hA; cases hA
    subst h0
    clear h HS
    go_enter Try.func29, Try.ntmps29
    go_wp2
    go_ret
    exact ⟨_, rfl, Below.refl _ _, fun h => absurd h (Nat.lt_irrefl _)⟩
  | false =>
    have hmk := run_make_row' (P := Try.prog) 46 3 (.int .i64 0) 8 Try.underlying46 Try.info3 rfl .i64 .i64 n (by omega) (by omega)
    clear h
    go_enter Try.func29, Try.ntmps29
    go_wp2
    clear hmk heq hA
    go_loopg [4] n (fun g i wr => ∃ k : Nat, k ≤ n ∧ g = n - k ∧ i = .int .i64 k ∧ Below w.heap.size w wr ∧ wr.rowIs w.heap.size 3 n (fun j => if j < k then .int .i64 (z j) else .int .i64 0))
    case atStart => exact ⟨0, Nat.zero_le _, rfl, rfl, (Below.refl _ _).alloc (Nat.le_refl _) _, (World.rowIs_made w _ n 3).congr (fun j _ => by simp)⟩
    case round =>
      obtain ⟨k, hk, rfl, rfl, hbel, hrow⟩ := hrel
      by_cases hlt : k < n
      · have hc := HS.out.cell k hlt
        have hix := index46 (cap := cap) (HS.out.top (by omega)) hlt
        rw [← hbel.cell (p := ⟨b, o + k, none⟩) (World.block_lt_of_cell? _ _ hc)] at hc
        have hc2 := hrow.cell hlt
        rw [if_neg (Nat.lt_irrefl _)] at hc2
        have hf2 := hrow.frozen k
        go_wp2
        go_roundg (n - (k + 1))
        case measure => omega
        case rel => exact ⟨k + 1, by omega, rfl, by go_num, hbel.setCell (p := ⟨w.heap.size, k, none⟩) (Nat.le_refl _) _, rowIs_step hrow⟩
      · obtain rfl : k = n := by omega
        go_wp2
        go_ret
        exact ⟨_, rfl, hbel, fun _ => ⟨rfl, hrow.congr fun j hj => by rw [if_pos hj]⟩⟩

/-- The turns that four slices of numbers make up. -/
def zipT (z0 z1 z2 z3 : Nat → Int) : Nat → Tn := fun k => ⟨z0 k, z1 k, z2 k, z3 k⟩

theorem zip_step {w : World} {b : Nat} {t : TypeId} {n k : Nat} {q : Nat → Tn} {d : Tn} (h : TRow w b t n (fun j => if j < k then q j else d)) :
    TRow ((((w.setCell ⟨b, k * 4, none⟩ (.int .i64 (q k).sec)).setCell ⟨b, k * 4 + 1, none⟩ (.int .i32 (q k).nsec)).setCell ⟨b, k * 4 + 2, none⟩ (.int .i64 (q k).rank)).setCell ⟨b, k * 4 + 3, none⟩ (.int .i64 (q k).run)) b t n
      (fun j => if j < k + 1 then q j else d) :=
  (h.set k (q k)).congr fun j _ => by
    unfold Plain.upd
    by_cases e : j = k
    · subst e; simp
    · rw [if_neg e]
      show (if j < k then q j else d) = _
      by_cases hj : j < k
      · rw [if_pos hj, if_pos (by omega)]
      · rw [if_neg hj, if_neg (by omega)]

theorem below_set4 {B : Nat} {w wr : World} (h : Below B w wr) {b : Nat} (hb : B ≤ b) (o0 o1 o2 o3 : Nat) (v0 v1 v2 v3 : Value) :
    Below B w ((((wr.setCell ⟨b, o0, none⟩ v0).setCell ⟨b, o1, none⟩ v1).setCell ⟨b, o2, none⟩ v2).setCell ⟨b, o3, none⟩ v3) :=
  (((h.setCell (p := ⟨b, o0, none⟩) hb _).setCell (p := ⟨b, o1, none⟩) hb _).setCell (p := ⟨b, o2, none⟩) hb _).setCell (p := ⟨b, o3, none⟩) hb _

set_option maxHeartbeats 1600000 in
theorem b1Zip_any (a0 a1 a2 a3 : Option Addr) (n c0 c1 c2 c3 b0 o0 b1 o1 b2 o2 b3 o3 : Nat) (z0 z1 z2 z3 : Nat → Int) (w : World) (h0 : Sl w a0 n b0 o0 .i64 z0) (h1 : Sl w a1 n b1 o1 .i32 z1) (h2 : Sl w a2 n b2 o2 .i64 z2) (h3 : Sl w a3 n b3 o3 .i64 z3) (hn : n ≤ 1048576) :
    Calls Try.prog 30 #[.slice a0 n c0, .slice a1 n c1, .slice a2 n c2, .slice a3 n c3] w fun e w' =>
      e = .returned (.slice (some ⟨w.heap.size, 0, none⟩) n n) ∧ Below w.heap.size w w' ∧ TRow w' w.heap.size 57 n (zipT z0 z1 z2 z3) := by
  have hmk := run_make4 (P := Try.prog) 51 57 Try.underlying51 Try.info57 n hn
  have HS : Hid (Sl w a0 n b0 o0 .i64 z0 ∧ Sl w a1 n b1 o1 .i32 z1 ∧ Sl w a2 n b2 o2 .i64 z2 ∧ Sl w a3 n b3 o3 .i64 z3) := ⟨h0, h1, h2, h3⟩
  clear h0 h1 h2 h3
  go_enter Try.func30, Try.ntmps30
  go_wp2
  clear hmk
  go_loopg [10] n (fun g i wr => ∃ k : Nat, k ≤ n ∧ g = n - k ∧ i = .int .i64 k ∧ Below w.heap.size w wr ∧ TRow wr w.heap.size 57 n (fun j => if j < k then zipT z0 z1 z2 z3 j else ⟨0, 0, 0, 0⟩))
  case atStart => exact ⟨0, Nat.zero_le _, rfl, rfl, (Below.refl _ _).alloc (Nat.le_refl _) _, (trow_made w 57 n).congr (fun j _ => by simp)⟩
  case round =>
    obtain ⟨k, hk, rfl, rfl, hbel, hrow⟩ := hrel
    by_cases hlt : k < n
    · obtain ⟨g0, g1, g2, g3⟩ := HS.out
      have d0 := g0.cell k hlt
      have d1 := g1.cell k hlt
      have d2 := g2.cell k hlt
      have d3 := g3.cell k hlt
      have x0 := index44 (cap := c0) (g0.top (by omega)) hlt
      have x1 := index45 (cap := c1) (g1.top (by omega)) hlt
      have x2 := index46 (cap := c2) (g2.top (by omega)) hlt
      have x3 := index46 (cap := c3) (g3.top (by omega)) hlt
      rw [← hbel.cell (p := ⟨b0, o0 + k, none⟩) (World.block_lt_of_cell? _ _ d0)] at d0
      rw [← hbel.cell (p := ⟨b1, o1 + k, none⟩) (World.block_lt_of_cell? _ _ d1)] at d1
      rw [← hbel.cell (p := ⟨b2, o2 + k, none⟩) (World.block_lt_of_cell? _ _ d2)] at d2
      rw [← hbel.cell (p := ⟨b3, o3 + k, none⟩) (World.block_lt_of_cell? _ _ d3)] at d3
      clear g0 g1 g2 g3
      obtain ⟨m0, m1, m2, m3⟩ := hrow.at4 hlt
      have f0 := World.rowIs.frozen hrow (k * 4)
      have f1 := World.rowIs.frozen hrow (k * 4 + 1)
      have f2 := World.rowIs.frozen hrow (k * 4 + 2)
      have f3 := World.rowIs.frozen hrow (k * 4 + 3)
      simp only [if_neg (Nat.lt_irrefl k)] at m0 m1 m2 m3
      go_wp2
      go_region
      all_goals go_wp2
      go_roundg (n - (k + 1))
      case measure => omega
      case rel => exact ⟨k + 1, by omega, rfl, by go_num, (below_set4 hbel (Nat.le_refl _) (k * 4) (k * 4 + 1) (k * 4 + 2) (k * 4 + 3) _ _ _ _).drew, zip_step (q := zipT z0 z1 z2 z3) hrow⟩
    · obtain rfl : k = n := by omega
      go_wp2
      go_ret
      exact ⟨rfl, hbel, hrow.congr fun j hj => by rw [if_pos hj]⟩


set_option maxHeartbeats 400000 in
theorem b1InBelow_any (c i : Nat) (hc : c ≤ 1048576) (hi : i ≤ 9223372036854775807) (w : World) :
    Calls Try.prog 35 #[.int .i64 (c : Int), .int .i64 (i : Int)] w fun e w' => e = .returned (.bool (Plain.inB c c i)) ∧ w' = w := by
  go_enter Try.func35, Try.ntmps35
  go_wp2
  go_loopg [0] c (fun g x wr => wr = w ∧ ∃ y : Nat, y ≤ c ∧ g = y ∧ x = .int .i64 y ∧ Plain.inB y y i = Plain.inB c c i)
  case atStart => exact ⟨rfl, c, Nat.le_refl _, rfl, rfl, rfl⟩
  case round =>
    obtain ⟨rfl, y, hy, rfl, rfl, he⟩ := hrel
    have HE : Hid (Plain.inB gk gk i = Plain.inB c c i) := he
    clear he
    by_cases hlt : i < gk
    · have e1 : ((gk : Int) - 1) / 2 = (((gk - 1) / 2 : Nat) : Int) := by omega
      by_cases hp : (gk - 1) / 2 = i
      · have HF : Hid (Plain.inB gk gk i = true) := Plain.inB_hit hlt hp
        have hb : (((gk : Int) - 1) / 2 == (i : Int)) = true := beq_iff_eq.2 (by omega)
        clear hp e1
        go_wp2
        go_ret
        exact ⟨ret_bool (HF.out.symm.trans HE.out), rfl⟩
      · have HF : Hid (Plain.inB gk gk i = Plain.inB ((gk - 1) / 2) ((gk - 1) / 2) i) := Plain.inB_up hlt hp
        have hb : (((gk : Int) - 1) / 2 == (i : Int)) = false := beq_eq_false_iff_ne.2 (by omega)
        clear hp e1
        go_wp2
        go_roundg ((gk - 1) / 2)
        case measure => omega
        case rel => exact ⟨rfl, (gk - 1) / 2, by omega, rfl, by go_num, HF.out.symm.trans HE.out⟩
    · have HF : Hid (Plain.inB gk gk i = false) := Plain.inB_out hlt
      go_wp2
      go_ret
      exact ⟨ret_bool (HF.out.symm.trans HE.out), rfl⟩

end Go.Proofs.Qxb6000182a
