import Derived.Test.Qxb6001457aWalkB
import Derived.Test.Qxb6001457aWalkC
import Derived.Test.Qxb6001457aWalkE
import Derived.ProofKit
import Derived.ChangeOld
import Derived.Deep.Matrix
namespace Go.Proofs.Qxb6001457a.fnCycleThroughIsShortest
open Go.ChangeShapes Go.WideShapes Go.ChangeAt Go.RowKit Go.Deep
open Go.Proofs.Qxb6001457a

theorem own : ownKnob Try.prog.godebug = none := by kernel_rfl
theorem laidOut : laidOutB Try.prog = true := by kernel_rfl
theorem cells26 : Try.prog.cellsOf 26 = 1 := by kernel_rfl
theorem cells3 : Try.prog.cellsOf 3 = 1 := by kernel_rfl

theorem zzCycle_any (n b o s : Nat) (A : Nat → Option Addr) (L C Ab Ao : Nat → Nat) (Z : Nat → Nat → Int) (cap : Nat) (w : World) (h : RowsAt w (some ⟨b, o, none⟩) n b o A L C Ab Ao Z)
    (hs : s < n) (hn : n ≤ 1024) (hL : ∀ i, i < n → L i ≤ 131072) (hZ : ∀ i t, i < n → t < L i → 0 ≤ Z i t ∧ Z i t < n) :
    Calls Try.prog 11 #[.slice (some ⟨b, o, none⟩) n cap, .int .i64 s] w fun e w' => CycEnds (Plain.Cyc n L Z s) e ∧ Below w.heap.size w w' := by
  have HC : Hid (Calls Try.prog 19 #[.slice (some ⟨b, o, none⟩) n cap, .int .i64 s] w fun e w' => CycEnds (Plain.Cyc n L Z s) e ∧ Below w.heap.size w w') := cycleThrough_any n b o s A L C Ab Ao Z cap w h hs hn hL hZ
  clear h hZ hL
  go_enter Try.func11, Try.ntmps11
  go_wp2_with fail
  refine HC.out.mono ?_
  rintro e w1 ⟨he, hb⟩
  rcases he with ⟨rfl, hq⟩ | ⟨a, l, c, rfl, hq⟩
  · go_wp2
    go_ret
    exact ⟨.inl ⟨rfl, hq⟩, hb⟩
  · go_wp2
    go_ret
    exact ⟨.inr ⟨_, _, _, rfl, hq⟩, hb⟩

set_option maxHeartbeats 800000 in
theorem walk (a : Option Addr) (n cap b o : Nat) (A : Nat → Option Addr) (L C Ab Ao : Nat → Nat) (Z : Nat → Nat → Int) (s : Int) (w : World) (h : RowsAt w a n b o A L C Ab Ao Z)
    (hn : n ≤ maxLen) (hL : ∀ i, i < n → L i ≤ maxLen) :
    Calls Try.prog 4 #[.slice a n cap, .int .i64 s] w fun e w' => e = .returned (.bool true) ∧ Below w.heap.size w w' := by
  have HR : Hid (RowsAt w a n b o A L C Ab Ao Z) := h
  have HL : Hid (∀ i, i < n → L i ≤ maxLen) := hL
  have HN : Hid (n ≤ maxLen) := hn
  unfold maxLen at hn
  clear h hL
  go_enter Try.func4, Try.ntmps4
  go_wp2_with fail
  refine (zzBytes_any a n cap b o A L C Ab Ao Z s _ HR.out HN.out HL.out).mono ?_
  rintro e w1 ⟨⟨r, rfl, _⟩, rfl⟩
  cases r with
  | false =>
    go_wp2
    go_ret
    exact ⟨rfl, Below.refl _ _⟩
  | true =>
  by_cases hbig : (1024 : Int) < n
  · go_wp2
    go_ret
    exact ⟨rfl, Below.refl _ _⟩
  go_wp2_with fail
  refine (depsBytesFit_any a n cap b o A L C Ab Ao Z _ HR.out HN.out HL.out).mono ?_
  rintro e w2 ⟨⟨r, rfl, hfit⟩, rfl⟩
  cases r with
  | false =>
    go_wp2
    go_ret
    exact ⟨rfl, Below.refl _ _⟩
  | true =>
  have HF : Hid (Short n L) := hfit rfl
  clear hfit
  go_wp2_with fail
  refine (depsInRange_any a n cap b o A L C Ab Ao Z s _ HR.out (by omega) HF.out).mono ?_
  rintro e w3 ⟨⟨r, rfl, hin⟩, rfl⟩
  cases r with
  | false =>
    go_wp2
    go_ret
    exact ⟨rfl, Below.refl _ _⟩
  | true =>
  have HI : Hid (InRange n L Z s) := hin rfl
  clear hin
  obtain ⟨sn, hsn⟩ := Int.eq_ofNat_of_zero_le HI.out.1.1
  have hsl : sn < n := by have := HI.out.1.2; omega
  subst hsn
  go_wp2_with fail
  refine (cloneDeps_any a n cap b o A L C Ab Ao Z _ HR.out (by omega) (by omega) HF.out).mono ?_
  rintro e w4 ⟨rfl, A', Ab', hcl⟩
  have hrows : RowsAt w4 (some ⟨w3.heap.size, 0, none⟩) n w3.heap.size 0 A' L L Ab' (fun _ => 0) Z :=
    ⟨fun _ => rfl, fun i hi => by have := hcl.top.cell hi; rw [if_pos hi] at this; simpa using this, fun i hi h0 => hcl.spot i hi h0, fun i t hi ht => by simpa using hcl.cell i t hi ht⟩
  have hb4 := hcl.bel
  clear hcl
  have HR4 : Hid (RowsAt w4 (some ⟨w3.heap.size, 0, none⟩) n w3.heap.size 0 A' L L Ab' (fun _ => 0) Z) := hrows
  clear hrows
  go_wp2_with fail
  refine (zzCycle_any n w3.heap.size 0 sn A' L L Ab' (fun _ => 0) Z n _ HR4.out hsl (by omega) HF.out HI.out.2).mono ?_
  rintro e w5 ⟨he, hb5⟩
  rcases he with ⟨rfl, hq⟩ | ⟨ca, cl, cc, rfl, hq⟩
  all_goals
    go_wp2_with fail
    refine (shortestReturn_any n w3.heap.size 0 sn A' L L Ab' (fun _ => 0) Z n _ (HR4.out.later (Nat.le_refl _) hb5) hsl (by omega) HF.out HI.out.2).mono ?_
    rintro e w6 ⟨⟨k, rfl, hk⟩, hb6⟩
    have hag := Plain.agree hq hk
    have hkn : k ≤ n := by rcases hk with ⟨h, _⟩ | ⟨_, h, _⟩ <;> omega
    have hbel : Below w3.heap.size w3 w6 := (hb4.trans (hb5.mono hb4.size)).trans (hb6.mono (Nat.le_trans hb4.size hb5.size))
    clear hq hk hb5 hb6 hb4
  · have hk0 : k = 0 := by rcases hag with ⟨h1, _⟩ | ⟨_, h2⟩; exact h1; cases h2
    subst hk0
    have heq := fun W => Lib.run_eql_slice_nil (P := Try.prog) W 26 3 none 0 0 0 0 Try.underlying26
    go_wp2
    go_ret
    exact ⟨rfl, hbel⟩
  · have hk1 : 1 ≤ k ∧ cl = k + 1 := by
      rcases hag with ⟨_, h2⟩ | ⟨h1, h2⟩
      · cases h2
      · exact ⟨h1, by injection h2⟩
    obtain ⟨hk1, rfl⟩ := hk1
    have hk0 : ((k : Int) == 0) = false := beq_eq_false_iff_ne.2 (by omega)
    go_wp2
    go_ret
    exact ⟨rfl, hbel⟩

/-- The argument, as it lies. -/
theorem rowsAt_of {W : World} {a : Addr} {len cap : Nat} {A : Nat → Option Addr} {L C : Nat → Nat} {Z : Nat → List Int} (hl : len ≤ cap)
    (hrows : ∀ r, r < cap → W.cell? (a.add r) = some (.slice (A r) (L r) (C r)) ∧ L r ≤ C r ∧ C r ≤ maxLen ∧ (Z r).length = C r ∧ (∀ n ∈ Z r, (Lit.int .i64 n).wf = true) ∧ (A r = none → C r = 0) ∧
        ∀ a', A r = some a' → 0 ≤ a'.block ∧ ∀ c, c < C r → W.cell? (a'.add c) = some (.int .i64 ((Z r).getD c 0))) :
    RowsAt W (some a) len a.block a.off A L C (fun r => ((A r).getD ⟨0, 0, none⟩).block) (fun r => ((A r).getD ⟨0, 0, none⟩).off) (fun r c => (Z r).getD c 0) := by
  have hspot : ∀ (x : Addr) (v : Value), W.cell? (x.add 0) = some v → x.spot = none := fun x v hx => by
    have h1 := World.cell?_spot hx
    obtain ⟨xb, xo, xs⟩ := x
    simpa [Addr.add] using h1
  have plain : ∀ (x : Addr), x.spot = none → ∀ j, x.add j = ⟨x.block, x.off + j, none⟩ := fun x hx j => by
    obtain ⟨xb, xo, xs⟩ := x
    simp only at hx
    subst hx
    exact Addr.add_lit _ _ _
  refine ⟨fun h0 => ?_, fun i hi => ?_, fun i hi h0 => ?_, fun i t hi ht => ?_⟩
  · have h1 := hspot a _ (hrows 0 (by omega)).1
    obtain ⟨xb, xo, xs⟩ := a
    simp only at h1
    subst h1
    rfl
  · have h1 := hspot a _ (hrows 0 (by omega)).1
    rw [← plain a h1]
    exact (hrows i (by omega)).1
  · obtain ⟨_, h1, _, _, _, h2, h3⟩ := hrows i (by omega)
    cases hA : A i with
    | none => have := h2 hA; omega
    | some x =>
      have h4 := hspot x _ ((h3 x hA).2 0 (by omega))
      obtain ⟨xb, xo, xs⟩ := x
      simp only at h4
      subst h4
      rfl
  · obtain ⟨_, h1, _, _, _, h2, h3⟩ := hrows i (by omega)
    cases hA : A i with
    | none => have := h2 hA; omega
    | some x =>
      have h4 := hspot x _ ((h3 x hA).2 0 (by omega))
      have h5 := (h3 x hA).2 t (by omega)
      rw [plain x h4] at h5
      simpa using h5

set_option maxRecDepth 100000 in
theorem lifted (os : Os) (started : os.Started) (H : Type) (enc : TypeId × Value → H) :
    ReturnsInHanded {} Try.checked os 4 .any (Rows.fnCycleThroughIsShortestSpec.pre6 enc Try.prog Try.f4 Rows.fnCycleThroughIsShortestRow.domain false) (Rows.fnCycleThroughIsShortestSpec.post enc Try.prog Try.f4 false true false false) := by
  refine returnsInHanded_of_change (C := Try.checked) own started (by kernel_rfl) Try.func4
    (ChangeSpec.witness6 (enc := enc) (C := Try.checked) false ⟨#[], #[.slice none 0 0, .int .i64 0], []⟩ 8 (by kernel_rfl) (by kernel_rfl) (by kernel_rfl) (by kernel_rfl)) ?_
  intro W base args ds gs before hval0 hW hcnd _
  have hval : ∀ (j : Nat) t v, Try.f4.params[j]? = some t → args[j]? = some v → Value.okWide Try.prog W .any base t v := hval0
  have hW' := hW
  obtain ⟨p, q, hA0, hV, rfl, hfz, hnd⟩ := hW
  have hA : DataW.TrodAll enc Try.prog W 0 (fun _ => true) true Try.f4.params.toList args.toList ds p := hA0
  rw [Try.params4] at hA hval
  obtain ⟨v0, vs0, d0, ds0, p0, q0, hargs, rfl, rfl, h0, r0⟩ := trodAll_cons hA
  obtain ⟨v1, vs1, d1, ds1, p1, q1, rfl, rfl, rfl, h1, r1⟩ := trodAll_cons r0
  obtain ⟨rfl, rfl, rfl⟩ := trodAll_nil r1
  obtain rfl : args = #[v0, v1] := by cases args; simp_all
  obtain ⟨rfl, rfl⟩ := trodVars_none hV
  obtain ⟨a0, len0, cap0, rfl⟩ := okWide_slice Try.underlying22 (hval 0 22 v0 rfl rfl)
  have k0 := h0
  have lt0 : ∀ x ∈ p0, x.block < W.heap.size := by obtain ⟨m, hm⟩ := k0; exact DataW.trod_lt m _ _ _ hm
  obtain ⟨b, o, A, L, C, Ab, Ao, Z, hR, hn, hL⟩ : ∃ (b o : Nat) (A : Nat → Option Addr) (L C Ab Ao : Nat → Nat) (Z : Nat → Nat → Int), RowsAt W a0 len0 b o A L C Ab Ao Z ∧ len0 ≤ maxLen ∧ ∀ i, i < len0 → L i ≤ maxLen := by
    obtain ⟨fuel, hf⟩ := h0
    rcases open_int_rows Try.underlying22 Try.underlying26 Try.underlying3 cells26 cells3 hf with ⟨hcs, _⟩ | ⟨x, l, c, A, L, C, Z, hcs, _, hl, hm, _, hrows⟩
    · simp [Value.cells] at hcs
      obtain ⟨rfl, rfl, rfl⟩ := hcs
      exact ⟨0, 0, fun _ => none, fun _ => 0, fun _ => 0, fun _ => 0, fun _ => 0, fun _ _ => 0, ⟨fun h => by omega, fun i hi => by omega, fun i hi => by omega, fun i t hi => by omega⟩, Nat.zero_le _, fun i hi => by omega⟩
    · simp [Value.cells] at hcs
      obtain ⟨rfl, rfl, rfl⟩ := hcs
      exact ⟨_, _, A, L, C, _, _, _, rowsAt_of hl hrows, Nat.le_trans hl hm, fun i hi => Nat.le_trans (hrows i (by omega)).2.1 (hrows i (by omega)).2.2.1⟩
  obtain ⟨a1, rfl, rfl, rfl, w1⟩ := open_int Try.underlying3 (hval 1 3 v1 rfl rfl) h1
  clear hA0 hval0
  refine (walk a0 len0 cap0 b o A L C Ab Ao Z a1 W hR hn hL).mono fun e W' ⟨he, bel⟩ => ?_
  subst he
  exact ⟨_, rfl, _, _, _, [], _, [], hW', trodAll_mk1 (shut_bool Try.underlying4 _), (trodAll_mk2 (Below.trod laidOut (by kernel_rfl) (of_decide_eq_true (by kernel_rfl)) k0 bel lt0) (shut_int Try.underlying3 w1)), rfl, bel.frame _, fun h => by cases h⟩

theorem over : Rows.fnCycleThroughIsShortestRow.holds Try.pinned (OpenSpec.ofChange Rows.fnCycleThroughIsShortestSpec) :=
  OpenClaim.holds_of_wide 4 Try.f4 rfl rfl rfl rfl rfl rfl rfl ⟨rfl, rfl, rfl, rfl, rfl⟩ rfl rfl rfl rfl rfl (by kernel_rfl) Try.func4 (by kernel_rfl)
    (of_decide_eq_true (by kernel_rfl)) (by unfold Func.isWrapper; first | (rw [if_pos (by decide +kernel)]; kernel_rfl) | (rw [if_neg (by decide +kernel)]; exact ⟨rfl, rfl⟩))
    (fun os started H enc _ => lifted os started H enc)

/-- THE STATEMENT -/
theorem proved : Rows.FnCycleThroughIsShortestSaid := over
#print axioms proved

end Go.Proofs.Qxb6001457a.fnCycleThroughIsShortest
