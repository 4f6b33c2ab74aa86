/-
  The statement FnLayTilesVectorsAndPositionBitsSaid: the row, over the walk.
-/
import Derived.Test.Qxb6000433aLaw
import Derived.WalkKit
import Derived.ProofKit
import Derived.OpenShut
import Derived.ShutString
import Derived.ChangeOld
import Derived.Below
namespace Go.Proofs.Qxb6000433a.fnLayTilesVectorsAndPositionBits
open Go.ChangeShapes Go.WideShapes Go.ChangeAt Go.RowKit
open Go.ChangeMaps (open_string shut_string)
set_option linter.unusedVariables false

theorem own : ownKnob Try.prog.godebug = none := by kernel_rfl
theorem laidOut : laidOutB Try.prog = true := by kernel_rfl
theorem cells63 : Try.prog.cellsOf 63 = 3 := by kernel_rfl
theorem cells5 : Try.prog.cellsOf 5 = 1 := by kernel_rfl
theorem cells21 : Try.prog.cellsOf 21 = 1 := by kernel_rfl

/-- One step of the script as it came in. -/
theorem open_op {H : Type} {enc : TypeId × Value → H} {w : World} {base : Nat} {spare : Nat → Bool} {held : Bool} {n : Nat} {cs : List Value} {y : DataW H × List MemPlace} (h : DataW.trod enc Try.prog w base spare held n 63 cs = some y) :
    ∃ k x z : Int, cs[0]? = some (.int .u8 k) ∧ cs[1]? = some (.int .i32 x) ∧ cs[2]? = some (.int .i32 z) ∧ (Lit.int .u8 k).wf = true ∧ (Lit.int .i32 x).wf = true ∧ (Lit.int .i32 z).wf = true := by
  obtain ⟨xs, n', _, _, hlen, hxs, hf⟩ := DataW.trod_struct Try.underlying63 h
  rw [cells63] at hlen
  have hsz : xs.length = 3 := by rw [hxs]; rfl
  have f0 : DataW.trod enc Try.prog w base spare held n' 5 ((cs.drop 0).take (Try.prog.cellsOf 5)) = xs[0]? := hf 0 _ rfl
  have f1 : DataW.trod enc Try.prog w base spare held n' 21 ((cs.drop 1).take (Try.prog.cellsOf 21)) = xs[1]? := hf 1 _ rfl
  have f2 : DataW.trod enc Try.prog w base spare held n' 21 ((cs.drop 2).take (Try.prog.cellsOf 21)) = xs[2]? := hf 2 _ rfl
  rw [cells5] at f0
  rw [cells21] at f1 f2
  rw [List.getElem?_eq_getElem (by omega)] at f0 f1 f2
  obtain ⟨k, e0, _, w0⟩ := DataW.trod_int Try.underlying5 f0
  obtain ⟨x, e1, _, w1⟩ := DataW.trod_int Try.underlying21 f1
  obtain ⟨z, e2, _, w2⟩ := DataW.trod_int Try.underlying21 f2
  match cs, hlen with
  | [c0, c1, c2], _ =>
    simp at e0 e1 e2
    subst e0 e1 e2
    exact ⟨k, x, z, rfl, rfl, rfl, w0, w1, w2⟩

/-- The script as it came in. -/
theorem open_ops {H : Type} {enc : TypeId × Value → H} {w : World} {base : Nat} {spare : Nat → Bool} {held : Bool} {fuel : Nat} {cs : List Value} {x : DataW H × List MemPlace} (h : DataW.trod enc Try.prog w base spare held fuel 22 cs = some x) :
    cs = [.slice none 0 0] ∨ ∃ (a : Addr) (len cap : Nat), cs = [.slice (some a) len cap] ∧ len ≤ cap ∧ cap ≤ maxLen ∧
      ∃ kz az bz : Nat → Int, ∀ i, i < len → w.cell? (a.add (i * 3)) = some (.int .u8 (kz i)) ∧ w.cell? (a.add (i * 3 + 1)) = some (.int .i32 (az i)) ∧ w.cell? (a.add (i * 3 + 2)) = some (.int .i32 (bz i)) ∧ (Lit.int .u8 (kz i)).wf = true ∧ (Lit.int .i32 (az i)).wf = true ∧ (Lit.int .i32 (bz i)).wf = true := by
  rcases DataW.trod_slice Try.underlying22 h with ⟨h0, _⟩ | ⟨a, len, cap, elems, rest, n, _, hcs, _, hb, hl, hm, hlen, hel, _, _⟩
  · exact .inl h0
  refine .inr ⟨a, len, cap, hcs, hl, hm, ?_⟩
  have hex : ∀ i, ∃ p : Int × Int × Int, i < len → w.cell? (a.add (i * 3)) = some (.int .u8 p.1) ∧ w.cell? (a.add (i * 3 + 1)) = some (.int .i32 p.2.1) ∧ w.cell? (a.add (i * 3 + 2)) = some (.int .i32 p.2.2) ∧ (Lit.int .u8 p.1).wf = true ∧ (Lit.int .i32 p.2.1).wf = true ∧ (Lit.int .i32 p.2.2).wf = true := fun i => by
    by_cases hi : i < len
    · have h1 := hel i hi
      rw [List.getElem?_eq_getElem (by omega), cells63, Option.bind_eq_some_iff] at h1
      obtain ⟨cs', hc', ht⟩ := h1
      obtain ⟨k, x, z, e0, e1, e2, w0, w1, w2⟩ := open_op ht
      have h2 := (World.cells?_some hc').2.2
      have g0 := h2 0 (by omega)
      have g1 := h2 1 (by omega)
      have g2 := h2 2 (by omega)
      rw [Addr.add_add] at g0 g1 g2
      exact ⟨(k, x, z), fun _ => ⟨by rw [← e0]; exact g0, by rw [← e1]; exact g1, by rw [← e2]; exact g2, w0, w1, w2⟩⟩
    · exact ⟨(0, 0, 0), fun h => absurd h hi⟩
  exact ⟨fun i => (Classical.choose (hex i)).1, fun i => (Classical.choose (hex i)).2.1, fun i => (Classical.choose (hex i)).2.2, fun i hi => Classical.choose_spec (hex i) hi⟩

/-- WHAT THE WALK IS TOLD OF THE SCRIPT. -/
def IsOps (w : World) (a : Option Addr) (len cap : Nat) : Prop :=
  (a = none ∧ len = 0 ∧ cap = 0) ∨ ∃ x, a = some x ∧ len ≤ maxLen ∧
    ∃ kz az bz : Nat → Int, ∀ i, i < len → w.cell? (x.add (i * 3)) = some (.int .u8 (kz i)) ∧ w.cell? (x.add (i * 3 + 1)) = some (.int .i32 (az i)) ∧ w.cell? (x.add (i * 3 + 2)) = some (.int .i32 (bz i)) ∧ (Lit.int .u8 (kz i)).wf = true ∧ (Lit.int .i32 (az i)).wf = true ∧ (Lit.int .i32 (bz i)).wf = true

theorem walk (a : Option Addr) (len cap : Nat) (w : World) (h : IsOps w a len cap) : Calls Try.prog 9 #[.slice a len cap] w fun e w' => e = .returned (.bool true) ∧ Below w.heap.size w w' := by
  rcases h with ⟨rfl, rfl, rfl⟩ | ⟨x, rfl, hl, kz, az, bz, hc⟩
  · refine law_any none 0 0 (fun _ => 0) (fun _ => 0) (fun _ => 0) w (fun _ => ?_) (Nat.zero_le _)
    refine (cloneOps_nil w).mono ?_
    rintro e W ⟨rfl, rfl⟩
    exact ⟨none, 0, 0, rfl, fun h => absurd h (Nat.lt_irrefl _), ⟨fun i hi => absurd hi (Nat.not_lt_zero _), fun i hi => absurd hi (Nat.not_lt_zero _), fun i hi => absurd hi (Nat.not_lt_zero _)⟩, Below.refl _ _⟩
  · refine law_any (some x) len cap kz az bz w (fun hl2 => ?_) hl
    obtain ⟨xb, xo, xs⟩ := x
    have hx : 0 < len → (⟨xb, xo, xs⟩ : Addr) = ⟨xb, xo, none⟩ := fun h0 => by
      have h1 := World.cell?_spot (hc 0 h0).1
      have h2 : xs = none := by simpa [Addr.add] using h1
      rw [h2]
    have hS : OpsSrc w xb xo len kz az bz := by
      refine ⟨fun i hi => ?_, fun i hi => ?_, fun i hi => ?_⟩
      all_goals
        have hci := hc i hi
        rw [hx (by omega)] at hci
        obtain ⟨g0, g1, g2, w0, w1, w2⟩ := hci
        rw [Addr.add_lit] at g0 g1 g2
      · exact ⟨g0, bounds_u8 w0⟩
      · exact ⟨by rw [Nat.add_assoc]; exact g1, bounds_i32 w1⟩
      · exact ⟨by rw [Nat.add_assoc]; exact g2, bounds_i32 w2⟩
    refine (cloneOps_any _ xb xo len cap kz az bz w hx hS hl2).mono ?_
    rintro e W ⟨go, rfl, hO, hb⟩
    exact ⟨_, _, go, rfl, fun _ => rfl, hO, hb⟩

/-! ### THE ROW's STEP -/
set_option maxRecDepth 100000 in
theorem lifted (os : Os) (started : os.Started) (H : Type) (enc : TypeId × Value → H) :
    ReturnsInHanded {} Try.checked os 9 .any (Rows.fnLayTilesVectorsAndPositionBitsSpec.pre6 enc Try.prog Try.f9 Rows.fnLayTilesVectorsAndPositionBitsRow.domain false) (Rows.fnLayTilesVectorsAndPositionBitsSpec.post enc Try.prog Try.f9 false true false false) := by
  refine returnsInHanded_of_change (C := Try.checked) own started (by kernel_rfl) Try.func9
    (ChangeSpec.witness6 (enc := enc) (C := Try.checked) false ⟨#[], #[.slice none 0 0], []⟩ 8 (by kernel_rfl) (by kernel_rfl) (by kernel_rfl) (by kernel_rfl)) ?_
  intro W base args ds gs before hval0 hW hcnd _
  have hval : ∀ (j : Nat) t v, Try.f9.params[j]? = some t → args[j]? = some v → Value.okWide Try.prog W .any base t v := hval0
  have hW' := hW
  obtain ⟨p, q, hA0, hV, rfl, hfz, hnd⟩ := hW
  have hA : DataW.TrodAll enc Try.prog W 0 (fun _ => true) true Try.f9.params.toList args.toList ds p := hA0
  rw [Try.params9] at hA hval
  obtain ⟨v0, vs0, d0, ds0, p0, q0, hargs, rfl, rfl, h0, r0⟩ := trodAll_cons hA
  obtain ⟨rfl, rfl, rfl⟩ := trodAll_nil r0
  obtain rfl : args = #[v0] := by cases args; simp_all
  obtain ⟨rfl, rfl⟩ := trodVars_none hV
  obtain ⟨a0, len0, cap0, rfl⟩ := okWide_slice Try.underlying22 (hval 0 22 v0 rfl rfl)
  have k0 := h0
  have lt0 : ∀ x ∈ p0, x.block < W.heap.size := by obtain ⟨m, hm⟩ := k0; exact DataW.trod_lt m _ _ _ hm
  have w0 : IsOps W a0 len0 cap0 := by
    obtain ⟨fuel, hf⟩ := h0
    rcases open_ops hf with hcs | ⟨x, l, c, hcs, hl, hm, hz⟩
    · simp [Value.cells] at hcs
      obtain ⟨rfl, rfl, rfl⟩ := hcs
      exact .inl ⟨rfl, rfl, rfl⟩
    · simp [Value.cells] at hcs
      obtain ⟨rfl, rfl, rfl⟩ := hcs
      exact .inr ⟨_, rfl, Nat.le_trans hl hm, hz⟩
  clear hA0 hval0
  refine (walk a0 len0 cap0 W w0).mono fun e W' ⟨he, bel⟩ => ?_
  subst he
  exact ⟨_, rfl, _, _, _, [], _, [], hW', trodAll_mk1 (shut_bool Try.underlying4 _), (trodAll_cons_mk (Below.trod laidOut (by kernel_rfl) (of_decide_eq_true (by kernel_rfl)) k0 bel lt0) trodAll_mk0), rfl, bel.frame _, fun h => by cases h⟩

theorem over : Rows.fnLayTilesVectorsAndPositionBitsRow.holds Try.pinned (OpenSpec.ofChange Rows.fnLayTilesVectorsAndPositionBitsSpec) :=
  OpenClaim.holds_of_wide 9 Try.f9 rfl rfl rfl rfl rfl rfl rfl ⟨rfl, rfl, rfl, rfl, rfl⟩ rfl rfl rfl rfl rfl (by kernel_rfl) Try.func9 (by kernel_rfl)
    (of_decide_eq_true (by kernel_rfl)) (by unfold Func.isWrapper; first | (rw [if_pos (by decide +kernel)]; kernel_rfl) | (rw [if_neg (by decide +kernel)]; exact ⟨rfl, rfl⟩))
    (fun os started H enc _ => lifted os started H enc)

/-- ████ THE STATEMENT ████ -/
theorem proved : Rows.FnLayTilesVectorsAndPositionBitsSaid := over
#print axioms proved
end Go.Proofs.Qxb6000433a.fnLayTilesVectorsAndPositionBits
