import Derived.Test.Qxb6000182aWalkF
namespace Go.Proofs.Qxb6000182a
open Go.RowKit
open Plain (Tn bef upd pick path Put Sh Sifted Downed)

set_option maxHeartbeats 400000 in
theorem zzBytes26_any (a0 a1 a2 a3 : Option Addr) (l0 c0 l1 c1 l2 c2 l3 c3 : Nat) (i : Int) (w : World) (h0 : l0 ≤ maxLen) (h1 : l1 ≤ maxLen) (h2 : l2 ≤ maxLen) (h3 : l3 ≤ maxLen) :
    Calls Try.prog 26 #[.slice a0 l0 c0, .slice a1 l1 c1, .slice a2 l2 c2, .slice a3 l3 c3, .int .i64 i] w fun e w' => TrueIf True e ∧ w' = w := by
  unfold maxLen at h0 h1 h2 h3
  go_enter Try.func26, Try.ntmps26
  go_wp2
  all_goals
    go_ret
    exact ⟨⟨_, rfl, fun _ => trivial⟩, rfl⟩

theorem Rows4.grown {w w' : World} {b0 b1 b2 b3 n bw : Nat} {f0 f1 f2 f3 : Nat → Int} (h : Rows4 w b0 b1 b2 b3 n f0 f1 f2 f3) (hg : w.grownBy w' (some bw)) (hb : b3 < bw) : Rows4 w' b0 b1 b2 b3 n f0 f1 f2 f3 := by
  have h01 := h.h01
  have h12 := h.h12
  have h23 := h.h23
  exact ⟨h.r0.of_block (hg.block _ h.r0.lt (by simp; omega)), h.r1.of_block (hg.block _ h.r1.lt (by simp; omega)), h.r2.of_block (hg.block _ h.r2.lt (by simp; omega)), h.r3.of_block (hg.block _ h.r3.lt (by simp; omega)), h01, h12, h23⟩

set_option maxRecDepth 100000 in
set_option maxHeartbeats 1600000 in
theorem textbook_main (a0 a1 a2 a3 : Option Addr) (n c0 c1 c2 c3 b0 o0 b1 o1 b2 o2 b3 o3 i : Nat) (y0 y1 y2 y3 : Nat → Int) (w : World) (h0 : Sl w a0 n b0 o0 .i64 y0) (h1 : Sl w a1 n b1 o1 .i32 y1) (h2 : Sl w a2 n b2 o2 .i64 y2) (h3 : Sl w a3 n b3 o3 .i64 y3)
    (hn : n * 28 ≤ 1048576) (hi : i ≤ 9223372036854775807) :
    Calls Try.prog 9 #[.slice a0 n c0, .slice a1 n c1, .slice a2 n c2, .slice a3 n c3, .int .i64 (i : Int)] w fun e w' => e = .returned (.bool true) ∧ Below w.heap.size w w' := by
  have S0 := Kept.mk h0
  have S1 := Kept.mk h1
  have S2 := Kept.mk h2
  have S3 := Kept.mk h3
  clear h0 h1 h2 h3
  have hn2 : n ≤ 37449 := by omega
  go_enter Try.func9, Try.ntmps9
  go_wp2_with fail
  refine (zzBytes26_any a0 a1 a2 a3 n c0 n c1 n c2 n c3 i _ (by unfold maxLen; omega) (by unfold maxLen; omega) (by unfold maxLen; omega) (by unfold maxLen; omega)).mono ?_
  rintro e W ⟨⟨r, rfl, _⟩, rfl⟩
  cases r with
  | false =>
    go_wp2
    go_ret
    exact ⟨rfl, Below.refl _ _⟩
  | true =>
  go_wp2_with fail
  refine (cloneI64_any a0 n c0 b0 o0 y0 _ S0.out (by omega)).mono ?_
  rintro e W1 ⟨p0, rfl, hb1, k0⟩
  have S1' := Kept.mk (S1.out.later hb1)
  have S2' := Kept.mk (S2.out.later hb1)
  have S3' := Kept.mk (S3.out.later hb1)
  have K0 := Kept.mk k0
  clear S0 S1 S2 S3 k0
  go_wp2_with fail
  refine (cloneI32_any a1 n c1 b1 o1 y1 _ S1'.out (by omega)).mono ?_
  rintro e W2 ⟨p1, rfl, hb2, k1⟩
  have S2 := Kept.mk (S2'.out.later hb2)
  have S3 := Kept.mk (S3'.out.later hb2)
  have K1 := Kept.mk k1
  clear S1' S2' S3' k1
  go_wp2_with fail
  refine (cloneInt_any a2 n c2 b2 o2 y2 _ S2.out (by omega)).mono ?_
  rintro e W3 ⟨p2, rfl, hb3, k2⟩
  have S3' := Kept.mk (S3.out.later hb3)
  have K2 := Kept.mk k2
  clear S2 S3 k2
  go_wp2_with fail
  refine (cloneInt_any a3 n c3 b3 o3 y3 _ S3'.out (by omega)).mono ?_
  rintro e W4 ⟨p3, rfl, hb4, k3⟩
  -- the four rows, as they lie now
  have KR := Kept.mk (show 0 < n → p0 = some ⟨W.heap.size, 0, none⟩ ∧ p1 = some ⟨W1.heap.size, 0, none⟩ ∧ p2 = some ⟨W2.heap.size, 0, none⟩ ∧ p3 = some ⟨W3.heap.size, 0, none⟩ ∧ Rows4 W4 W.heap.size W1.heap.size W2.heap.size W3.heap.size n y0 y1 y2 y3 from fun hpos => by
    obtain ⟨e0, r0⟩ := K0.out hpos
    obtain ⟨e1, r1⟩ := K1.out hpos
    obtain ⟨e2, r2⟩ := K2.out hpos
    obtain ⟨e3, r3⟩ := k3 hpos
    have l0 := r0.lt
    have l1 := r1.lt
    have l2 := r2.lt
    exact ⟨e0, e1, e2, e3, ((r0.of_block (hb2.block _ l0)).of_block (hb3.block _ (by have := hb2.size; omega))).of_block (hb4.block _ (by have := hb2.size; have := hb3.size; omega)),
      (r1.of_block (hb3.block _ l1)).of_block (hb4.block _ (by have := hb3.size; omega)), r2.of_block (hb4.block _ l2), r3, l0, l1, l2⟩)
  have hB : Below W.heap.size W W4 := ((hb1.trans (hb2.mono hb1.size)).trans (hb3.mono (Nat.le_trans hb1.size hb2.size))).trans (hb4.mono (Nat.le_trans hb1.size (Nat.le_trans hb2.size hb3.size)))
  have hsz : W.heap.size ≤ W1.heap.size ∧ W1.heap.size ≤ W2.heap.size ∧ W2.heap.size ≤ W3.heap.size ∧ W3.heap.size ≤ W4.heap.size := ⟨hb1.size, hb2.size, hb3.size, hb4.size⟩
  have hlt3 := Kept.mk (show 0 < n → W3.heap.size < W4.heap.size from fun h => (KR.out h).2.2.2.2.r3.lt)
  generalize W1.heap.size = B1 at KR hsz
  generalize W2.heap.size = B2 at KR hsz
  generalize W3.heap.size = B3 at KR hsz hlt3
  clear hb1 hb2 hb3 hb4 K0 K1 K2 k3 S3'
  have Z0 := Kept.mk (show Sl W4 p0 n W.heap.size 0 .i64 y0 from ⟨fun h => (KR.out h).1, fun j hj => by simpa using (KR.out (by omega)).2.2.2.2.r0.cell hj⟩)
  have Z1 := Kept.mk (show Sl W4 p1 n B1 0 .i32 y1 from ⟨fun h => (KR.out h).2.1, fun j hj => by simpa using (KR.out (by omega)).2.2.2.2.r1.cell hj⟩)
  have Z2 := Kept.mk (show Sl W4 p2 n B2 0 .i64 y2 from ⟨fun h => (KR.out h).2.2.1, fun j hj => by simpa using (KR.out (by omega)).2.2.2.2.r2.cell hj⟩)
  have Z3 := Kept.mk (show Sl W4 p3 n B3 0 .i64 y3 from ⟨fun h => (KR.out h).2.2.2.1, fun j hj => by simpa using (KR.out (by omega)).2.2.2.2.r3.cell hj⟩)
  go_wp2_with fail
  refine (b1Zip_any p0 p1 p2 p3 n n n n n W.heap.size 0 B1 0 B2 0 B3 0 y0 y1 y2 y3 _ Z0.out Z1.out Z2.out Z3.out (by omega)).mono ?_
  rintro e W5 ⟨rfl, hb5, ht5⟩
  clear Z0 Z1 Z2 Z3
  have HT := Kept.mk ht5
  clear ht5
  go_wp2_with fail
  refine (childHeaps_any _ n i _ _ HT.out (by omega) hi).mono ?_
  rintro e W6 ⟨⟨r, rfl, hk⟩, hb6⟩
  cases r with
  | false =>
    have hBB := hB.trans ((hb5.mono hB.size).trans (hb6.mono (Nat.le_trans hB.size hb5.size)))
    go_wp2
    go_ret
    exact ⟨rfl, hBB⟩
  | true =>
  have HK := Kept.mk (hk rfl)
  have hb56 : Below W4.heap.size W4 W6 := hb5.trans (hb6.mono hb5.size)
  have HT6 := Kept.mk (HT.out.later hb6)
  have KR6 := Kept.mk (show 0 < n → p0 = some ⟨W.heap.size, 0, none⟩ ∧ p1 = some ⟨B1, 0, none⟩ ∧ p2 = some ⟨B2, 0, none⟩ ∧ p3 = some ⟨B3, 0, none⟩ ∧ Rows4 W6 W.heap.size B1 B2 B3 n y0 y1 y2 y3 from fun hpos => by
    obtain ⟨e0, e1, e2, e3, hR⟩ := KR.out hpos
    exact ⟨e0, e1, e2, e3, hR.later hb56⟩)
  have hw45 : W4.heap.size < W6.heap.size := World.rowIs.lt HT6.out
  have hB6 := hB.trans (hb56.mono hB.size)
  clear hk hb5 hb6 hb56 hB HT KR
  go_wp2_with fail
  refine (turnsDown_all p0 p1 p2 p3 _ B1 B2 B3 n i y0 y1 y2 y3 _ KR6.out (by omega)).mono ?_
  rintro e W7 ⟨rfl, hfr, r, hr, hR7⟩
  have HR7 := Kept.mk hR7
  have HO := Kept.mk hr
  have HT7 := Kept.mk (show 0 < n → TRow W7 W4.heap.size 57 n (zipT y0 y1 y2 y3) from fun hpos => by
    have h3 := hlt3.out hpos
    exact World.rowIs.of_block HT6.out (hfr.block _ hw45 (by omega) (by omega) (by omega) (by omega)))
  have hB7 : Below W.heap.size W W7 := hB6.trans (hfr.below hB6.size (Nat.le_refl _) (by omega) (by omega) (by omega))
  clear hfr hr hR7 hB6 HT6
  by_cases hin : i < n
  · go_wp2_with fail
    refine (siftDown_any _ n i _ _ (HT7.out (by omega)) (by omega) hin).mono ?_
    rintro e W8 ⟨rfl, hg8, r2, hr2, ht8⟩
    have KF := Kept.mk (show 0 < n → Rows4 W8 W.heap.size B1 B2 B3 n (fun j => (r j).sec) (fun j => (r j).nsec) (fun j => (r j).rank) (fun j => (r j).run) ∧ TRow W8 W4.heap.size 57 n r from fun hpos => by
      refine ⟨(HR7.out hpos).grown hg8 (hlt3.out hpos), ht8.congr fun k hk => ?_⟩
      rcases HO.out with ⟨h, _⟩ | ⟨_, h⟩
      · omega
      · exact (Plain.down_is_sift HK.out h hr2 k hk).symm)
    have hB8 : Below W.heap.size W W8 := hB7.grown hg8 hB7.size (fun k hk => by cases hk; omega)
    clear HR7 HO HT7 HK hlt3
    have hp := KR6.out
    have HPP := Kept.mk (show 0 < n → p0 = some ⟨W.heap.size, 0, none⟩ ∧ p1 = some ⟨B1, 0, none⟩ ∧ p2 = some ⟨B2, 0, none⟩ ∧ p3 = some ⟨B3, 0, none⟩ from fun h => ⟨(hp h).1, (hp h).2.1, (hp h).2.2.1, (hp h).2.2.2.1⟩)
    clear hp KR6
    go_wp2
    go_loopg [12] n (fun g x wr => ∃ k : Nat, k ≤ n ∧ g = n - k ∧ x = .int .i64 k ∧ (0 < n → Rows4 wr W.heap.size B1 B2 B3 n (fun j => (r j).sec) (fun j => (r j).nsec) (fun j => (r j).rank) (fun j => (r j).run) ∧ TRow wr W4.heap.size 57 n r) ∧ Below W.heap.size W wr)
    case atStart => exact ⟨0, Nat.zero_le _, rfl, rfl, KF.out, hB8⟩
    case round =>
      clear KF
      obtain ⟨k, hk, rfl, rfl, hf, hbel⟩ := hrel
      by_cases hlt : k < n
      · obtain ⟨hR, hT⟩ := hf (by omega)
        obtain ⟨q0, q1, q2, q3⟩ := HPP.out (by omega)
        have x0 := index44 (cap := n) q0 hlt
        have x1 := index45 (cap := n) q1 hlt
        have x2 := index46 (cap := n) q2 hlt
        have x3 := index46 (cap := n) q3 hlt
        simp only [Nat.zero_add] at x0 x1 x2 x3
        have d0 := hR.r0.cell hlt
        have d1 := hR.r1.cell hlt
        have d2 := hR.r2.cell hlt
        have d3 := hR.r3.cell hlt
        obtain ⟨u0, u1, u2, u3⟩ := hT.at4 hlt
        have HF := Kept.mk hf
        clear q0 q1 q2 q3 hR hT hf
        go_wp2
        go_quiet (fail)
        go_wp2
        go_roundg (n - (k + 1))
        case measure => omega
        case rel => exact ⟨k + 1, by omega, rfl, by go_num, fun h => ⟨(HF.out h).1.later (below_drewN (Below.refl _ _) _), (HF.out h).2.later (below_drewN (Below.refl _ _) _)⟩, below_drewN hbel _⟩
      · go_wp2
        go_ret
        exact ⟨rfl, hbel⟩
  · have KF := Kept.mk (show 0 < n → Rows4 W7 W.heap.size B1 B2 B3 n (fun j => (r j).sec) (fun j => (r j).nsec) (fun j => (r j).rank) (fun j => (r j).run) ∧ TRow W7 W4.heap.size 57 n r from fun hpos => by
      refine ⟨HR7.out hpos, (HT7.out hpos).congr fun k hk => ?_⟩
      rcases HO.out with ⟨_, h⟩ | ⟨h, _⟩
      · exact (h k hk).symm
      · omega)
    clear HR7 HO HT7 HK hlt3
    have hp := KR6.out
    have HPP := Kept.mk (show 0 < n → p0 = some ⟨W.heap.size, 0, none⟩ ∧ p1 = some ⟨B1, 0, none⟩ ∧ p2 = some ⟨B2, 0, none⟩ ∧ p3 = some ⟨B3, 0, none⟩ from fun h => ⟨(hp h).1, (hp h).2.1, (hp h).2.2.1, (hp h).2.2.2.1⟩)
    clear hp KR6
    go_wp2
    go_loopg [12] n (fun g x wr => ∃ k : Nat, k ≤ n ∧ g = n - k ∧ x = .int .i64 k ∧ (0 < n → Rows4 wr W.heap.size B1 B2 B3 n (fun j => (r j).sec) (fun j => (r j).nsec) (fun j => (r j).rank) (fun j => (r j).run) ∧ TRow wr W4.heap.size 57 n r) ∧ Below W.heap.size W wr)
    case atStart => exact ⟨0, Nat.zero_le _, rfl, rfl, KF.out, hB7⟩
    case round =>
      clear KF
      obtain ⟨k, hk, rfl, rfl, hf, hbel⟩ := hrel
      by_cases hlt : k < n
      · obtain ⟨hR, hT⟩ := hf (by omega)
        obtain ⟨q0, q1, q2, q3⟩ := HPP.out (by omega)
        have x0 := index44 (cap := n) q0 hlt
        have x1 := index45 (cap := n) q1 hlt
        have x2 := index46 (cap := n) q2 hlt
        have x3 := index46 (cap := n) q3 hlt
        simp only [Nat.zero_add] at x0 x1 x2 x3
        have d0 := hR.r0.cell hlt
        have d1 := hR.r1.cell hlt
        have d2 := hR.r2.cell hlt
        have d3 := hR.r3.cell hlt
        obtain ⟨u0, u1, u2, u3⟩ := hT.at4 hlt
        have HF := Kept.mk hf
        clear q0 q1 q2 q3 hR hT hf
        go_wp2
        go_quiet (fail)
        go_wp2
        go_roundg (n - (k + 1))
        case measure => omega
        case rel => exact ⟨k + 1, by omega, rfl, by go_num, fun h => ⟨(HF.out h).1.later (below_drewN (Below.refl _ _) _), (HF.out h).2.later (below_drewN (Below.refl _ _) _)⟩, below_drewN hbel _⟩
      · go_wp2
        go_ret
        exact ⟨rfl, hbel⟩

end Go.Proofs.Qxb6000182a
