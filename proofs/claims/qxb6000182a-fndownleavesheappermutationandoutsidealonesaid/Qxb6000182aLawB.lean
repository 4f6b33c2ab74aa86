import Derived.Test.Qxb6000182aLawA
import Derived.Test.Qxb6000182aWalkG
namespace Go.Proofs.Qxb6000182a
open Go.RowKit
open Plain (Tn bef upd pick path Put Sh Sifted Downed Same SortOf)

set_option maxHeartbeats 400000 in
theorem zzBytes34_any (a0 a1 a2 a3 : Option Addr) (l0 c0 l1 c1 l2 c2 l3 c3 : Nat) (i : Int) (w : World) (h0 : l0 ≤ maxLen) (h1 : l1 ≤ maxLen) (h2 : l2 ≤ maxLen) (h3 : l3 ≤ maxLen) :
    Calls Try.prog 34 #[.slice a0 l0 c0, .slice a1 l1 c1, .slice a2 l2 c2, .slice a3 l3 c3, .int .i64 i] w fun e w' => TrueIf True e ∧ w' = w := by
  unfold maxLen at h0 h1 h2 h3
  go_enter Try.func34, Try.ntmps34
  go_wp2
  all_goals
    go_ret
    exact ⟨⟨_, rfl, fun _ => trivial⟩, rfl⟩

theorem turnsDown_all2 (a0 a1 a2 a3 : Option Addr) (b0 b1 b2 b3 n i : Nat) (z0 z1 z2 z3 : Nat → Int) (w : World)
    (h : 0 < n → a0 = some ⟨b0, 0, none⟩ ∧ a1 = some ⟨b1, 0, none⟩ ∧ a2 = some ⟨b2, 0, none⟩ ∧ a3 = some ⟨b3, 0, none⟩ ∧ Rows4 w b0 b1 b2 b3 n z0 z1 z2 z3) (hn : n ≤ 1048576) :
    Calls Try.prog 32 #[.slice a0 n n, .slice a1 n n, .slice a2 n n, .slice a3 n n, .int .i64 (i : Int)] w fun e w' =>
      e = .returned (.tuple #[]) ∧ Fr4 w w' b0 b1 b2 b3 ∧ (n = 0 → Below w.heap.size w w') ∧ ∃ r, DownOut n (zipT z0 z1 z2 z3) i r ∧ (0 < n → Rows4 w' b0 b1 b2 b3 n (fun j => (r j).sec) (fun j => (r j).nsec) (fun j => (r j).rank) (fun j => (r j).run)) := by
  rcases Nat.eq_zero_or_pos n with h0 | h0
  · subst h0
    exact (turnsDown_nil a0 a1 a2 a3 0 0 0 0 i w).mono fun e W ⟨he, hb⟩ => ⟨he, Fr4.of_below hb _ _ _ _, fun _ => hb, zipT z0 z1 z2 z3, DownOut.zero _ _ _, fun h => absurd h (Nat.lt_irrefl _)⟩
  · obtain ⟨rfl, rfl, rfl, rfl, hR⟩ := h h0
    exact (turnsDown_any b0 b1 b2 b3 n i z0 z1 z2 z3 w hR hn).mono fun e W ⟨he, hf, r, hr, hR⟩ => ⟨he, hf, fun h => by omega, r, hr, fun _ => hR⟩

theorem b1InBelow_is {c i : Nat} {b : Bool} (hb : Plain.inB c c i = b) (hc : c ≤ 1048576) (hi : i ≤ 9223372036854775807) (w : World) :
    Calls Try.prog 35 #[.int .i64 (c : Int), .int .i64 (i : Int)] w fun e w' => e = .returned (.bool b) ∧ w' = w := by
  subst hb; exact b1InBelow_any c i hc hi w

theorem b1Before_is {u v : Tn} {b : Bool} (hb : bef u v = b) (w : World) :
    Calls Try.prog 36 #[.agg #[.int .i64 u.sec, .int .i32 u.nsec, .int .i64 u.rank, .int .i64 u.run], .agg #[.int .i64 v.sec, .int .i32 v.nsec, .int .i64 v.rank, .int .i64 v.run]] w fun e w' =>
      e = .returned (.bool b) ∧ Below w.heap.size w w' := by
  subst hb; exact b1Before_any _ _ _ _ _ _ _ _ w

/-- What the law says of the way down. -/
structure Good (n : Nat) (q : Nat → Tn) (i : Nat) (r : Nat → Tn) : Prop where
  heap : ∀ c, 1 ≤ c → c < n → Plain.inB c c i = true → bef (r c) (r ((c - 1) / 2)) = false
  out : ∀ k, k < n → k ≠ i → Plain.inB k k i = false → q k = r k
  same : Same n r q

theorem Good.of {n i : Nat} {q r : Nat → Tn} (h : DownOut n q i r) (hk : Plain.Kids n q i) : Good n q i r := by
  rcases h with ⟨hi, he⟩ | ⟨hi, hd⟩
  · exact ⟨fun c h1 hc hin => (by rw [Plain.inB_out (by omega)] at hin; cases hin), fun k hk _ _ => (he k hk).symm, Same.of_eq he⟩
  · exact ⟨fun c h1 hc hin => (Plain.bef_false _ _).2 (hd.heap hk h1 hc hin), fun k hk h1 h2 => (hd.outside hk h1 h2).symm, hd.same⟩

set_option maxRecDepth 100000 in
set_option maxHeartbeats 3200000 in
theorem outside_main (a0 a1 a2 a3 : Option Addr) (n c0 c1 c2 c3 b0 o0 b1 o1 b2 o2 b3 o3 i : Nat) (y0 y1 y2 y3 : Nat → Int) (w : World) (h0 : Sl w a0 n b0 o0 .i64 y0) (h1 : Sl w a1 n b1 o1 .i32 y1) (h2 : Sl w a2 n b2 o2 .i64 y2) (h3 : Sl w a3 n b3 o3 .i64 y3)
    (hn : n * 28 ≤ 1048576) (hi : i ≤ 9223372036854775807) :
    Calls Try.prog 10 #[.slice a0 n c0, .slice a1 n c1, .slice a2 n c2, .slice a3 n c3, .int .i64 (i : Int)] w fun e w' => e = .returned (.bool true) ∧ Below w.heap.size w w' := by
  have S0 := Kept.mk h0
  have S1 := Kept.mk h1
  have S2 := Kept.mk h2
  have S3 := Kept.mk h3
  clear h0 h1 h2 h3
  have hn2 : n ≤ 37449 := by omega
  go_enter Try.func10, Try.ntmps10
  go_wp2_with fail
  refine (zzBytes34_any a0 a1 a2 a3 n c0 n c1 n c2 n c3 i _ (by unfold maxLen; omega) (by unfold maxLen; omega) (by unfold maxLen; omega) (by unfold maxLen; omega)).mono ?_
  rintro e W ⟨⟨r, rfl, _⟩, rfl⟩
  cases r with
  | false =>
    go_wp2
    go_ret
    exact ⟨rfl, Below.refl _ _⟩
  | true =>
  go_wp2_with fail
  refine (cloneI64_any a0 n c0 b0 o0 y0 _ S0.out (by omega)).mono ?_
  rintro e W1 ⟨p0, rfl, hb1, k0⟩
  have S1' := Kept.mk (S1.out.later hb1)
  have S2' := Kept.mk (S2.out.later hb1)
  have S3' := Kept.mk (S3.out.later hb1)
  have K0 := Kept.mk k0
  clear S0 S1 S2 S3 k0
  go_wp2_with fail
  refine (cloneI32_any a1 n c1 b1 o1 y1 _ S1'.out (by omega)).mono ?_
  rintro e W2 ⟨p1, rfl, hb2, k1⟩
  have S2 := Kept.mk (S2'.out.later hb2)
  have S3 := Kept.mk (S3'.out.later hb2)
  have K1 := Kept.mk k1
  clear S1' S2' S3' k1
  go_wp2_with fail
  refine (cloneInt_any a2 n c2 b2 o2 y2 _ S2.out (by omega)).mono ?_
  rintro e W3 ⟨p2, rfl, hb3, k2⟩
  have S3' := Kept.mk (S3.out.later hb3)
  have K2 := Kept.mk k2
  clear S2 S3 k2
  go_wp2_with fail
  refine (cloneInt_any a3 n c3 b3 o3 y3 _ S3'.out (by omega)).mono ?_
  rintro e W4 ⟨p3, rfl, hb4, k3⟩
  -- the four rows, as they lie now
  have KR := Kept.mk (show 0 < n → p0 = some ⟨W.heap.size, 0, none⟩ ∧ p1 = some ⟨W1.heap.size, 0, none⟩ ∧ p2 = some ⟨W2.heap.size, 0, none⟩ ∧ p3 = some ⟨W3.heap.size, 0, none⟩ ∧ Rows4 W4 W.heap.size W1.heap.size W2.heap.size W3.heap.size n y0 y1 y2 y3 from fun hpos => by
    obtain ⟨e0, r0⟩ := K0.out hpos
    obtain ⟨e1, r1⟩ := K1.out hpos
    obtain ⟨e2, r2⟩ := K2.out hpos
    obtain ⟨e3, r3⟩ := k3 hpos
    have l0 := r0.lt
    have l1 := r1.lt
    have l2 := r2.lt
    exact ⟨e0, e1, e2, e3, ((r0.of_block (hb2.block _ l0)).of_block (hb3.block _ (by have := hb2.size; omega))).of_block (hb4.block _ (by have := hb2.size; have := hb3.size; omega)),
      (r1.of_block (hb3.block _ l1)).of_block (hb4.block _ (by have := hb3.size; omega)), r2.of_block (hb4.block _ l2), r3, l0, l1, l2⟩)
  have hB : Below W.heap.size W W4 := ((hb1.trans (hb2.mono hb1.size)).trans (hb3.mono (Nat.le_trans hb1.size hb2.size))).trans (hb4.mono (Nat.le_trans hb1.size (Nat.le_trans hb2.size hb3.size)))
  have hsz : W.heap.size ≤ W1.heap.size ∧ W1.heap.size ≤ W2.heap.size ∧ W2.heap.size ≤ W3.heap.size ∧ W3.heap.size ≤ W4.heap.size := ⟨hb1.size, hb2.size, hb3.size, hb4.size⟩
  have hlt3 := Kept.mk (show 0 < n → W3.heap.size < W4.heap.size from fun h => (KR.out h).2.2.2.2.r3.lt)
  generalize W1.heap.size = B1 at KR hsz
  generalize W2.heap.size = B2 at KR hsz
  generalize W3.heap.size = B3 at KR hsz hlt3
  clear hb1 hb2 hb3 hb4 K0 K1 K2 k3 S3'
  have Z0 := Kept.mk (show Sl W4 p0 n W.heap.size 0 .i64 y0 from ⟨fun h => (KR.out h).1, fun j hj => by simpa using (KR.out (by omega)).2.2.2.2.r0.cell hj⟩)
  have Z1 := Kept.mk (show Sl W4 p1 n B1 0 .i32 y1 from ⟨fun h => (KR.out h).2.1, fun j hj => by simpa using (KR.out (by omega)).2.2.2.2.r1.cell hj⟩)
  have Z2 := Kept.mk (show Sl W4 p2 n B2 0 .i64 y2 from ⟨fun h => (KR.out h).2.2.1, fun j hj => by simpa using (KR.out (by omega)).2.2.2.2.r2.cell hj⟩)
  have Z3 := Kept.mk (show Sl W4 p3 n B3 0 .i64 y3 from ⟨fun h => (KR.out h).2.2.2.1, fun j hj => by simpa using (KR.out (by omega)).2.2.2.2.r3.cell hj⟩)
  go_wp2_with fail
  refine (b1Zip_any p0 p1 p2 p3 n n n n n W.heap.size 0 B1 0 B2 0 B3 0 y0 y1 y2 y3 _ Z0.out Z1.out Z2.out Z3.out (by omega)).mono ?_
  rintro e W5 ⟨rfl, hb5, ht5⟩
  clear Z0 Z1 Z2 Z3
  have HT := Kept.mk ht5
  clear ht5
  go_wp2_with fail
  refine (childHeaps_any _ n i _ _ HT.out (by omega) hi).mono ?_
  rintro e W6 ⟨⟨r, rfl, hk⟩, hb6⟩
  cases r with
  | false =>
    have hBB := hB.trans ((hb5.mono hB.size).trans (hb6.mono (Nat.le_trans hB.size hb5.size)))
    go_wp2
    go_ret
    exact ⟨rfl, hBB⟩
  | true =>
  have HK := Kept.mk (hk rfl)
  have hb56 : Below W4.heap.size W4 W6 := hb5.trans (hb6.mono hb5.size)
  have HT6 := Kept.mk (HT.out.later hb6)
  have KR6 := Kept.mk (show 0 < n → p0 = some ⟨W.heap.size, 0, none⟩ ∧ p1 = some ⟨B1, 0, none⟩ ∧ p2 = some ⟨B2, 0, none⟩ ∧ p3 = some ⟨B3, 0, none⟩ ∧ Rows4 W6 W.heap.size B1 B2 B3 n y0 y1 y2 y3 from fun hpos => by
    obtain ⟨e0, e1, e2, e3, hR⟩ := KR.out hpos
    exact ⟨e0, e1, e2, e3, hR.later hb56⟩)
  have hw45 : W4.heap.size < W6.heap.size := World.rowIs.lt HT6.out
  have hB6 := hB.trans (hb56.mono hB.size)
  clear hk hb5 hb6 hb56 hB HT KR
  go_wp2_with fail
  refine (turnsDown_all2 p0 p1 p2 p3 _ B1 B2 B3 n i y0 y1 y2 y3 _ KR6.out (by omega)).mono ?_
  rintro e W7 ⟨rfl, hfr, hz, r, hr, hR7⟩
  have HG := Kept.mk (Good.of hr HK.out)
  have HT7 := Kept.mk (show TRow W7 W4.heap.size 57 n (zipT y0 y1 y2 y3) from by
    rcases Nat.eq_zero_or_pos n with h0 | h0
    · exact HT6.out.later (hz h0)
    · have h3 := hlt3.out h0
      exact World.rowIs.of_block HT6.out (hfr.block _ hw45 (by omega) (by omega) (by omega) (by omega)))
  have hB7 : Below W.heap.size W W7 := hB6.trans (hfr.below hB6.size (Nat.le_refl _) (by omega) (by omega) (by omega))
  have hp := KR6.out
  have Z0 := Kept.mk (show Sl W7 p0 n W.heap.size 0 .i64 (fun j => (r j).sec) from ⟨fun h => (hp h).1, fun j hj => by simpa using (hR7 (by omega)).r0.cell hj⟩)
  have Z1 := Kept.mk (show Sl W7 p1 n B1 0 .i32 (fun j => (r j).nsec) from ⟨fun h => (hp h).2.1, fun j hj => by simpa using (hR7 (by omega)).r1.cell hj⟩)
  have Z2 := Kept.mk (show Sl W7 p2 n B2 0 .i64 (fun j => (r j).rank) from ⟨fun h => (hp h).2.2.1, fun j hj => by simpa using (hR7 (by omega)).r2.cell hj⟩)
  have Z3 := Kept.mk (show Sl W7 p3 n B3 0 .i64 (fun j => (r j).run) from ⟨fun h => (hp h).2.2.2.1, fun j hj => by simpa using (hR7 (by omega)).r3.cell hj⟩)
  clear hfr hz hr hR7 hB6 HT6 hp KR6 HK hlt3 hw45 hsz
  go_wp2_with fail
  refine (b1Zip_any p0 p1 p2 p3 n n n n n W.heap.size 0 B1 0 B2 0 B3 0 _ _ _ _ _ Z0.out Z1.out Z2.out Z3.out (by omega)).mono ?_
  rintro e W8 ⟨rfl, hb8, ht8⟩
  have ht8' : TRow W8 W7.heap.size 57 n r := ht8.congr fun k _ => rfl
  have HT8 := Kept.mk (And.intro (HT7.out.later hb8) ht8')
  have hB8 := hB7.trans (hb8.mono hB7.size)
  clear Z0 Z1 Z2 Z3 hb8 ht8 ht8' hB7 HT7
  generalize zipT y0 y1 y2 y3 = q at HG HT8
  generalize W7.heap.size = BG at HT8
  generalize W4.heap.size = BO at HT8
  go_wp2
  go_loopg [13] (n - 1) (fun g x wr => ∃ c : Nat, 1 ≤ c ∧ (c ≤ n ∨ c = 1) ∧ g = n - c ∧ x = .int .i64 c ∧ Below W8.heap.size W8 wr)
  case atStart => exact ⟨1, Nat.le_refl _, .inr rfl, rfl, rfl, Below.refl _ _⟩
  case round =>
    obtain ⟨c, hc1, hcn, rfl, rfl, hbel⟩ := hrel
    by_cases hlt : c < n
    · have e1 : ((c : Int) - 1) / 2 = (((c - 1) / 2 : Nat) : Int) := by omega
      obtain ⟨p, hp⟩ : ∃ p, p = (c - 1) / 2 := ⟨_, rfl⟩
      have hpn : p < n := by omega
      have HP : Hid (p = (c - 1) / 2) := hp
      rw [← hp] at e1
      clear hp hcn
      cases hin : Plain.inB c c i with
      | false =>
        go_wp2
        have hne := Later.here wr
        refine wp_region_later (by kernel_rfl) (by kernel_rfl) ?_
        repeat (go_big_quiet_step ((go_at_call 35; exact later_of_same _ (b1InBelow_is hin (by omega) hi _))))
        refine wpQuiet_nil ?_
        rintro _ ⟨⟨W', hW⟩, rfl⟩
        go_wp2
        go_roundg (n - (c + 1))
        case measure => omega
        case rel => exact ⟨c + 1, by omega, .inl (by omega), rfl, by go_num, hbel.trans (hW.mono hbel.size)⟩
      | true =>
        obtain ⟨u0, u1, u2, u3⟩ := (HT8.out.2.later hbel).at4 hlt
        obtain ⟨v0, v1, v2, v3⟩ := (HT8.out.2.later hbel).at4 hpn
        have U0 := Later.cell u0
        have U1 := Later.cell u1
        have U2 := Later.cell u2
        have U3 := Later.cell u3
        have V0 := Later.cell v0
        have V1 := Later.cell v1
        have V2 := Later.cell v2
        have V3 := Later.cell v3
        have hbf : bef (r c) (r p) = false := by rw [HP.out]; exact HG.out.heap c hc1 hlt hin
        clear u0 u1 u2 u3 v0 v1 v2 v3
        go_wp2
        have hne := Later.here wr
        refine wp_region_later (by kernel_rfl) (by kernel_rfl) ?_
        repeat (go_big_quiet_step (first | (go_at_call 35; exact later_of_same _ (b1InBelow_is hin (by omega) hi _)) | (go_at_call 36; exact later_of _ (b1Before_is hbf _))))
        refine wpQuiet_nil ?_
        rintro _ ⟨⟨W', hW⟩, rfl⟩
        have hbW := hbel.trans (hW.mono hbel.size)
        go_wp2
        go_roundg (n - (c + 1))
        case measure => omega
        case rel => exact ⟨c + 1, by omega, .inl (by omega), rfl, by go_num, hbW⟩
    · clear hcn
      go_wp2
      go_loopg [14] n (fun g x wr => ∃ k : Nat, k ≤ n ∧ g = n - k ∧ x = .int .i64 k ∧ Below W8.heap.size W8 wr)
      case atStart => exact ⟨0, Nat.zero_le _, rfl, rfl, hbel⟩
      case round =>
        clear hbel hlt hc1
        obtain ⟨k, hk, rfl, rfl, hbel⟩ := hrel
        by_cases hlt : k < n
        · by_cases hki : k = i
          · have hb : ((k : Int) != (i : Int)) = false := by rw [hki]; simp
            clear hki
            go_wp2
            go_quiet (fail)
            go_wp2
            go_roundg (n - (k + 1))
            case measure => omega
            case rel => exact ⟨k + 1, by omega, rfl, by go_num, below_drewN hbel _⟩
          have hb : ((k : Int) != (i : Int)) = true := by rw [bne_iff_ne]; omega
          cases hin : Plain.inB k k i with
          | true =>
            go_wp2
            have hne := Later.here wr
            refine wp_region_later (by kernel_rfl) (by kernel_rfl) ?_
            repeat (go_big_quiet_step ((go_at_call 35; exact later_of_same _ (b1InBelow_is hin (by omega) hi _))))
            refine wpQuiet_nil ?_
            rintro _ ⟨⟨W', hW⟩, rfl⟩
            go_wp2
            go_roundg (n - (k + 1))
            case measure => omega
            case rel => exact ⟨k + 1, by omega, rfl, by go_num, hbel.trans (hW.mono hbel.size)⟩
          | false =>
            have hv := (HT8.out.1.later hbel).at4 hlt
            rw [HG.out.out k hlt hki hin] at hv
            obtain ⟨u0, u1, u2, u3⟩ := (HT8.out.2.later hbel).at4 hlt
            obtain ⟨v0, v1, v2, v3⟩ := hv
            have U0 := Later.cell u0
            have U1 := Later.cell u1
            have U2 := Later.cell u2
            have U3 := Later.cell u3
            have V0 := Later.cell v0
            have V1 := Later.cell v1
            have V2 := Later.cell v2
            have V3 := Later.cell v3
            clear u0 u1 u2 u3 v0 v1 v2 v3 hki
            go_wp2
            have hne := Later.here wr
            refine wp_region_later (by kernel_rfl) (by kernel_rfl) ?_
            repeat (go_big_quiet_step ((go_at_call 35; exact later_of_same _ (b1InBelow_is hin (by omega) hi _))))
            refine wpQuiet_nil ?_
            rintro _ ⟨⟨W', hW⟩, rfl⟩
            have hbW := hbel.trans (hW.mono hbel.size)
            clear U0 U1 U2 U3 V0 V1 V2 V3
            go_wp2
            go_roundg (n - (k + 1))
            case measure => omega
            case rel => exact ⟨k + 1, by omega, rfl, by go_num, hbW⟩
        · go_wp2_with fail
          refine (b1Sort_any BO n q _ (HT8.out.1.later hbel) (by omega)).mono ?_
          rintro e W9 ⟨rb, s, rfl, _, hb9, hso, ht9⟩
          have H9 := Kept.mk (And.intro hso (And.intro ht9 (hbel.trans (hb9.mono hbel.size))))
          clear hso ht9 hb9 hbel
          go_wp2_with fail
          refine (b1Sort_any BG n r _ (HT8.out.2.later H9.out.2.2) (by omega)).mono ?_
          rintro e W10 ⟨rb2, s2, rfl, _, hb10, hso2, ht10⟩
          have hs := SortOf.unique H9.out.1 hso2 HG.out.same.symm
          have H10 := Kept.mk (And.intro (H9.out.2.1.later hb10) (And.intro (ht10.congr fun k hk => (hs k hk).symm) (hB8.trans ((H9.out.2.2.trans (hb10.mono H9.out.2.2.size)).mono hB8.size))))
          clear hs H9 hb10 hso2 ht10 HT8 HG hB8
          go_wp2
          go_loopg [17] n (fun g x wr => ∃ k : Nat, k ≤ n ∧ g = n - k ∧ x = .int .i64 k ∧ Below W10.heap.size W10 wr)
          case atStart => exact ⟨0, Nat.zero_le _, rfl, rfl, Below.refl _ _⟩
          case round =>
            clear hlt hk
            obtain ⟨k, hk, rfl, rfl, hbel⟩ := hrel
            by_cases hlt : k < n
            · obtain ⟨u0, u1, u2, u3⟩ := (H10.out.1.later hbel).at4 hlt
              obtain ⟨v0, v1, v2, v3⟩ := (H10.out.2.1.later hbel).at4 hlt
              go_wp2
              go_quiet (fail)
              go_wp2
              go_roundg (n - (k + 1))
              case measure => omega
              case rel => exact ⟨k + 1, by omega, rfl, by go_num, below_drewN hbel _⟩
            · have hBB := H10.out.2.2.trans (hbel.mono H10.out.2.2.size)
              clear H10 hbel
              go_wp2
              go_ret
              exact ⟨rfl, hBB⟩

end Go.Proofs.Qxb6000182a
