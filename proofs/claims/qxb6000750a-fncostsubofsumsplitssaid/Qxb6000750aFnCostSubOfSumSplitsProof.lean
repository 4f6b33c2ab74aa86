import Derived.Test.Qxb6000750aWalkA
import Derived.WalkKit
import Derived.ProofKit
import Derived.OpenShut
import Derived.Below
import Derived.ShutString
namespace Go.Proofs.Qxb6000750a.fnCostSubOfSumSplits
open Go.ChangeShapes Go.WideShapes Go.ChangeAt Go.RowKit
open Go.ChangeMaps (open_string shut_string)
set_option linter.unusedVariables false      -- a walk need not use every 'w<i>' (that an integer argument fits its kind)

theorem own : ownKnob Try.prog.godebug = none := by kernel_rfl

theorem fits_of {a : Int} (h : (Lit.int .u64 a).wf = true) : Fits a := by
  have h2 : (0 : Int) ≤ a ∧ a ≤ 18446744073709551615 := by
    have h3 : (decide (IntKind.u64.min ≤ a) && decide (a ≤ IntKind.u64.max)) = true := h
    simp only [Bool.and_eq_true, decide_eq_true_eq] at h3
    exact h3
  exact ⟨h2.1, by omega⟩

/-- A fact kept from the walk. -/
structure Kept (p : Prop) : Prop where
  out : p

theorem sub2 {a b c x y z p q r : Int} (ha : Fits a) (hx : Fits x) (hp : Fits p) (h : x ≤ 18446744073709551615 - p) (w : World) :
    Calls Try.prog 9 #[.agg #[.int .u64 (sat a x), .int .u64 (wr (b - y)), .int .u64 (wr (c - z))], .agg #[.int .u64 p, .int .u64 q, .int .u64 r]] w fun e w' =>
      e = .returned (.agg #[.int .u64 (sat a (wr (x + p))), .int .u64 (wr (b - wr (y + q))), .int .u64 (wr (c - wr (z + r)))]) ∧ Below w.heap.size w w' := by
  rw [← msgs hx hp (by omega), ← wraps, ← wraps]
  exact sub_any _ _ _ _ _ _ (sat_fits ha hx) hp w

theorem below_alloc {w v : World} (h : Below w.heap.size w v) (o : Obj) : Below w.heap.size w (v.alloc o) := h.alloc h.size o

/-- Three cells in a row. -/
structure At3 (w : World) (b : Nat) (x y z : Int) : Prop where
  c0 : w.cell? ⟨b, 0, none⟩ = some (.int .u64 x)
  c1 : w.cell? ⟨b, 1, none⟩ = some (.int .u64 y)
  c2 : w.cell? ⟨b, 2, none⟩ = some (.int .u64 z)

theorem At3.later {w w' : World} {b : Nat} {x y z : Int} (h : At3 w b x y z) (hb : Below w.heap.size w w') : At3 w' b x y z := by
  refine ⟨?_, ?_, ?_⟩
  · rw [hb.cell (World.block_lt_of_cell? _ _ h.c0)]; exact h.c0
  · rw [hb.cell (World.block_lt_of_cell? _ _ h.c1)]; exact h.c1
  · rw [hb.cell (World.block_lt_of_cell? _ _ h.c2)]; exact h.c2

theorem At3.alloc {w : World} {b : Nat} {x y z : Int} (h : At3 w b x y z) (o : Obj) : At3 (w.alloc o) b x y z := h.later ((Below.refl _ _).alloc (Nat.le_refl _) o)

theorem at3_new (w : World) (x y z : Int) : At3 (w.alloc (.cells #[.int .u64 x, .int .u64 y, .int .u64 z] 24)) w.heap.size x y z := by
  refine ⟨?_, ?_, ?_⟩ <;> (rw [World.cell?_alloc_new]; rfl)

set_option maxRecDepth 100000 in
set_option maxHeartbeats 800000 in
theorem walk (a0 : Int) (a1 : Int) (a2 : Int) (a3 : Int) (a4 : Int) (a5 : Int) (a6 : Int) (a7 : Int) (a8 : Int) (w0 : (Lit.int .u64 a0).wf = true) (w1 : (Lit.int .u64 a1).wf = true) (w2 : (Lit.int .u64 a2).wf = true) (w3 : (Lit.int .u64 a3).wf = true) (w4 : (Lit.int .u64 a4).wf = true) (w5 : (Lit.int .u64 a5).wf = true) (w6 : (Lit.int .u64 a6).wf = true) (w7 : (Lit.int .u64 a7).wf = true) (w8 : (Lit.int .u64 a8).wf = true) (w : World) :
    Calls Try.prog 5 #[.int .u64 a0, .int .u64 a1, .int .u64 a2, .int .u64 a3, .int .u64 a4, .int .u64 a5, .int .u64 a6, .int .u64 a7, .int .u64 a8] w fun e w' => e = .returned (.bool true) ∧ Below w.heap.size w w' := by
  have H0 := Kept.mk (fits_of w0)
  have H3 := Kept.mk (fits_of w3)
  have H6 := Kept.mk (fits_of w6)
  have f3 : 0 ≤ a3 ∧ a3 < 18446744073709551616 := fits_of w3
  have f6 : 0 ≤ a6 ∧ a6 < 18446744073709551616 := fits_of w6
  obtain ⟨g0, g1⟩ := f3
  obtain ⟨g2, g3⟩ := f6
  clear w0 w1 w2 w3 w4 w5 w6 w7 w8
  by_cases h : 18446744073709551615 - a6 < a3
  · go_enter Try.func5, Try.ntmps5
    go_wp2
    go_ret
    exact ⟨rfl, Below.refl _ _⟩
  · have HH := Kept.mk (show a3 ≤ 18446744073709551615 - a6 by omega)
    go_enter Try.func5, Try.ntmps5
    go_wp2_with fail
    refine (zzCost_any a0 a1 a2 _).mono ?_
    rintro e W1 ⟨rfl, hb1⟩
    have C1 := Kept.mk (at3_new W1 a0 a1 a2)
    have B1 := Kept.mk (hb1.alloc hb1.size (.cells #[.int .u64 a0, .int .u64 a1, .int .u64 a2] 24))
    clear hb1
    go_wp2_with fail
    refine (zzCost_any a3 a4 a5 _).mono ?_
    rintro e W2 ⟨rfl, hb2⟩
    have C1' := Kept.mk ((C1.out.later hb2).alloc (.cells #[.int .u64 a3, .int .u64 a4, .int .u64 a5] 24))
    have C2 := Kept.mk (at3_new W2 a3 a4 a5)
    have B2 := Kept.mk (below_alloc (B1.out.trans (hb2.mono B1.out.size)) (.cells #[.int .u64 a3, .int .u64 a4, .int .u64 a5] 24))
    clear hb2 C1 B1
    go_wp2_with fail
    refine (zzCost_any a6 a7 a8 _).mono ?_
    rintro e W3 ⟨rfl, hb3⟩
    obtain ⟨x0, x1, x2⟩ := (C1'.out.later hb3).alloc (.cells #[.int .u64 a6, .int .u64 a7, .int .u64 a8] 24)
    obtain ⟨y0, y1, y2⟩ := (C2.out.later hb3).alloc (.cells #[.int .u64 a6, .int .u64 a7, .int .u64 a8] 24)
    obtain ⟨z0, z1, z2⟩ := at3_new W3 a6 a7 a8
    have B3 := Kept.mk (below_alloc (B2.out.trans (hb3.mono B2.out.size)) (.cells #[.int .u64 a6, .int .u64 a7, .int .u64 a8] 24))
    clear hb3 C1' C2 B2
    go_wp2
    have X0 := Later.cell x0
    have X1 := Later.cell x1
    have X2 := Later.cell x2
    have Y0 := Later.cell y0
    have Y1 := Later.cell y1
    have Y2 := Later.cell y2
    have Z0 := Later.cell z0
    have Z1 := Later.cell z1
    have Z2 := Later.cell z2
    clear x0 x1 x2 y0 y1 y2 z0 z1 z2
    have hne := Later.here (W3.alloc (.cells #[.int .u64 a6, .int .u64 a7, .int .u64 a8] 24))
    refine wp_region_later (by kernel_rfl) (by kernel_rfl) ?_
    repeat (go_big_quiet_step ((go_at_call 8; exact later_of _ (add_any _ _ _ _ _ _ _))))
    go_big_quiet_step ((go_at_call 9; exact later_of _ (sub_any a0 a1 a2 (wr (a3 + a6)) (wr (a4 + a7)) (wr (a5 + a8)) H0.out (wr_fits _) _)))
    repeat (go_big_quiet_step (fail))
    go_big_quiet_step ((go_at_call 9; exact later_of _ (sub_any a0 a1 a2 a3 a4 a5 H0.out H3.out _)))
    repeat (go_big_quiet_step (fail))
    go_big_quiet_step ((go_at_call 9; exact later_of _ (sub2 H0.out H3.out H6.out HH.out _)))
    repeat (go_big_quiet_step (fail))
    refine wpQuiet_nil ?_
    rintro W ⟨⟨_, hW⟩, rfl⟩
    have hB := B3.out.trans (hW.mono B3.out.size)
    clear hW B3 hne X0 X1 X2 Y0 Y1 Y2 Z0 Z1 Z2
    go_wp2
    go_ret
    exact ⟨rfl, hB⟩


/-! ### THE ROW's STEP: WRITTEN OUT: LEAVE IT -/
set_option maxRecDepth 100000 in
theorem lifted (os : Os) (started : os.Started) (H : Type) (enc : TypeId × Value → H) :
    ReturnsInHanded {} Try.checked os 5 .any (Rows.fnCostSubOfSumSplitsSpec.pre6 enc Try.prog Try.f5 Rows.fnCostSubOfSumSplitsRow.domain false) (Rows.fnCostSubOfSumSplitsSpec.post enc Try.prog Try.f5 false true false false) := by
  refine returnsInHanded_of_change (C := Try.checked) own started (by kernel_rfl) Try.func5
    (ChangeSpec.witness6 (enc := enc) (C := Try.checked) false ⟨#[], #[.int .u64 0, .int .u64 0, .int .u64 0, .int .u64 0, .int .u64 0, .int .u64 0, .int .u64 0, .int .u64 0, .int .u64 0], []⟩ 8 (by kernel_rfl) (by kernel_rfl) (by kernel_rfl) (by kernel_rfl)) ?_
  intro W base args ds gs before hval0 hW hcnd _
  have hval : ∀ (j : Nat) t v, Try.f5.params[j]? = some t → args[j]? = some v → Value.okWide Try.prog W .any base t v := hval0
  have hW' := hW
  obtain ⟨p, q, hA0, hV, rfl, hfz, hnd⟩ := hW
  have hA : DataW.TrodAll enc Try.prog W 0 (fun _ => true) true Try.f5.params.toList args.toList ds p := hA0
  rw [Try.params5] at hA hval
  obtain ⟨v0, vs0, d0, ds0, p0, q0, hargs, rfl, rfl, h0, r0⟩ := trodAll_cons hA
  obtain ⟨v1, vs1, d1, ds1, p1, q1, rfl, rfl, rfl, h1, r1⟩ := trodAll_cons r0
  obtain ⟨v2, vs2, d2, ds2, p2, q2, rfl, rfl, rfl, h2, r2⟩ := trodAll_cons r1
  obtain ⟨v3, vs3, d3, ds3, p3, q3, rfl, rfl, rfl, h3, r3⟩ := trodAll_cons r2
  obtain ⟨v4, vs4, d4, ds4, p4, q4, rfl, rfl, rfl, h4, r4⟩ := trodAll_cons r3
  obtain ⟨v5, vs5, d5, ds5, p5, q5, rfl, rfl, rfl, h5, r5⟩ := trodAll_cons r4
  obtain ⟨v6, vs6, d6, ds6, p6, q6, rfl, rfl, rfl, h6, r6⟩ := trodAll_cons r5
  obtain ⟨v7, vs7, d7, ds7, p7, q7, rfl, rfl, rfl, h7, r7⟩ := trodAll_cons r6
  obtain ⟨v8, vs8, d8, ds8, p8, q8, rfl, rfl, rfl, h8, r8⟩ := trodAll_cons r7
  obtain ⟨rfl, rfl, rfl⟩ := trodAll_nil r8
  obtain rfl : args = #[v0, v1, v2, v3, v4, v5, v6, v7, v8] := by cases args; simp_all
  obtain ⟨rfl, rfl⟩ := trodVars_none hV
  obtain ⟨a0, rfl, rfl, rfl, w0⟩ := open_int Try.underlying22 (hval 0 22 v0 rfl rfl) h0
  obtain ⟨a1, rfl, rfl, rfl, w1⟩ := open_int Try.underlying22 (hval 1 22 v1 rfl rfl) h1
  obtain ⟨a2, rfl, rfl, rfl, w2⟩ := open_int Try.underlying22 (hval 2 22 v2 rfl rfl) h2
  obtain ⟨a3, rfl, rfl, rfl, w3⟩ := open_int Try.underlying22 (hval 3 22 v3 rfl rfl) h3
  obtain ⟨a4, rfl, rfl, rfl, w4⟩ := open_int Try.underlying22 (hval 4 22 v4 rfl rfl) h4
  obtain ⟨a5, rfl, rfl, rfl, w5⟩ := open_int Try.underlying22 (hval 5 22 v5 rfl rfl) h5
  obtain ⟨a6, rfl, rfl, rfl, w6⟩ := open_int Try.underlying22 (hval 6 22 v6 rfl rfl) h6
  obtain ⟨a7, rfl, rfl, rfl, w7⟩ := open_int Try.underlying22 (hval 7 22 v7 rfl rfl) h7
  obtain ⟨a8, rfl, rfl, rfl, w8⟩ := open_int Try.underlying22 (hval 8 22 v8 rfl rfl) h8
  clear hA0 hval0
  simp only [List.append_nil] at hW'
  refine (walk a0 a1 a2 a3 a4 a5 a6 a7 a8 w0 w1 w2 w3 w4 w5 w6 w7 w8 W).mono fun e W' ⟨he, bel⟩ => ?_
  subst he
  exact ⟨_, rfl, _, _, _, [], _, [], hW', trodAll_mk1 (shut_bool Try.underlying4 _), (trodAll_cons_mk (shut_int Try.underlying22 w0) (trodAll_cons_mk (shut_int Try.underlying22 w1) (trodAll_cons_mk (shut_int Try.underlying22 w2) (trodAll_cons_mk (shut_int Try.underlying22 w3) (trodAll_cons_mk (shut_int Try.underlying22 w4) (trodAll_cons_mk (shut_int Try.underlying22 w5) (trodAll_cons_mk (shut_int Try.underlying22 w6) (trodAll_cons_mk (shut_int Try.underlying22 w7) (trodAll_cons_mk (shut_int Try.underlying22 w8) trodAll_mk0))))))))), rfl, bel.frame _, fun h => by cases h⟩

theorem over : Rows.fnCostSubOfSumSplitsRow.holds Try.pinned (OpenSpec.ofChange Rows.fnCostSubOfSumSplitsSpec) :=
  OpenClaim.holds_of_wide 5 Try.f5 rfl rfl rfl rfl rfl rfl rfl ⟨rfl, rfl, rfl, rfl, rfl⟩ rfl rfl rfl rfl rfl (by kernel_rfl) Try.func5 (by kernel_rfl)
    (of_decide_eq_true (by kernel_rfl)) (by unfold Func.isWrapper; first | (rw [if_pos (by decide +kernel)]; kernel_rfl) | (rw [if_neg (by decide +kernel)]; exact ⟨rfl, rfl⟩))
    (fun os started H enc _ => lifted os started H enc)

/-- ████ THE STATEMENT ████ -/
theorem proved : Rows.FnCostSubOfSumSplitsSaid :=
  over
#print axioms proved
end Go.Proofs.Qxb6000750a.fnCostSubOfSumSplits
