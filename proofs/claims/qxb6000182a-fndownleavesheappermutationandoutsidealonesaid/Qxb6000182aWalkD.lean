import Derived.Test.Qxb6000182aWalkC
import Derived.Test.Qxb6000182aStore
import Derived.Deep.Cut
namespace Go.Proofs.Qxb6000182a
open Go.RowKit
open Plain (Tn bef upd pick path Put Sh Sifted Downed)

/-- A fact kept from the walk. -/
structure Kept (p : Prop) : Prop where
  out : p

theorem grown_of_below {w W : World} (h : Below w.heap.size w W) (row : Option Nat) : w.grownBy W row := ⟨h.os, h.tape, h.output, h.size, fun k hk _ => h.block k hk⟩

/-- A turn read in a block that is not the last. -/
theorem At4.alloc {w : World} {b o : Nat} {u : Tn} (h : At4 w b o u) (ob : Obj) : At4 (w.alloc ob) b o u := by
  refine ⟨?_, ?_, ?_, ?_⟩
  · rw [World.cell?_alloc_lt _ _ _ (World.block_lt_of_cell? _ _ h.c0)]; exact h.c0
  · rw [World.cell?_alloc_lt _ _ _ (World.block_lt_of_cell? _ _ h.c1)]; exact h.c1
  · rw [World.cell?_alloc_lt _ _ _ (World.block_lt_of_cell? _ _ h.c2)]; exact h.c2
  · rw [World.cell?_alloc_lt _ _ _ (World.block_lt_of_cell? _ _ h.c3)]; exact h.c3

theorem TRow.alloc {w : World} {b : Nat} {t : TypeId} {n : Nat} {q : Nat → Tn} (h : TRow w b t n q) (ob : Obj) : TRow (w.alloc ob) b t n q := World.rowIs.alloc h ob

theorem pick_cur {n : Nat} {q cur : Nat → Tn} {i j h : Nat} (hp : h = path n q i j) (hc : ∀ k, k < n → cur k = Put n q i j k) (hl : 2 * h + 1 < n) : pick n cur h = path n q i (j + 1) := by
  show _ = pick n q (path n q i j)
  rw [← hp]
  have e1 : cur (2 * h + 1) = q (2 * h + 1) := by rw [hc _ hl]; exact Plain.Put_gt n q i j _ (by omega)
  by_cases h2 : 2 * h + 2 < n
  · have e2 : cur (2 * h + 2) = q (2 * h + 2) := by rw [hc _ h2]; exact Plain.Put_gt n q i j _ (by omega)
    exact Plain.pick_congr e1 e2
  · unfold Plain.pick
    rw [if_neg (fun h => h2 h.1), if_neg (fun h => h2 h.1)]

theorem sifted_stop {n : Nat} {q cur : Nat → Tn} {i j h m : Nat} (hp : h = path n q i j ∧ (∀ t, 1 ≤ t → t ≤ j → bef (q (path n q i t)) (q i) = true) ∧ (∀ k, k < n → cur k = Put n q i j k)) (hm : m = pick n cur h) (hlt : h < n) (hmn : m < n) (hmh : h < m)
    (hb : bef (cur m) (cur h) = false) : Sifted n q i cur := by
  obtain ⟨h1, h2, h3⟩ := hp
  have hl : 2 * h + 1 < n := by have := Plain.pick_ge n cur h; omega
  have e := pick_cur h1 h3 hl
  rw [← hm] at e
  refine ⟨j, by omega, h2, .inr ?_, h3⟩
  rw [← e]
  have e1 : cur m = q m := by rw [h3 m hmn]; exact Plain.Put_gt n q i j _ (by omega)
  have e2 : cur h = q i := by rw [h3 h hlt, h1]; exact Plain.Put_at n q i j
  rw [e1, e2] at hb
  exact hb

theorem sift_step {n : Nat} {q cur : Nat → Tn} {i j h m : Nat} (hp : h = path n q i j ∧ (∀ t, 1 ≤ t → t ≤ j → bef (q (path n q i t)) (q i) = true) ∧ (∀ k, k < n → cur k = Put n q i j k)) (hm : m = pick n cur h) (hlt : h < n) (hmn : m < n) (hmh : h < m)
    (hb : bef (cur m) (cur h) = true) : m = path n q i (j + 1) ∧ (∀ t, 1 ≤ t → t ≤ j + 1 → bef (q (path n q i t)) (q i) = true) ∧ (∀ k, k < n → upd (upd cur h (cur m)) m (cur h) k = Put n q i (j + 1) k) := by
  obtain ⟨h1, h2, h3⟩ := hp
  have hl : 2 * h + 1 < n := by have := Plain.pick_ge n cur h; omega
  have e := pick_cur h1 h3 hl
  rw [← hm] at e
  have e1 : cur m = q m := by rw [h3 m hmn]; exact Plain.Put_gt n q i j _ (by omega)
  have e2 : cur h = q i := by rw [h3 h hlt, h1]; exact Plain.Put_at n q i j
  rw [e1, e2] at hb
  refine ⟨e, fun t t1 t2 => ?_, fun k hk => ?_⟩
  · by_cases et : t = j + 1
    · subst et; rw [← e]; exact hb
    · exact h2 t t1 (by omega)
  · rw [← Plain.Put_swap n q i j k, ← e, ← h1, e1, e2]
    by_cases k1 : k = m
    · subst k1; rw [Plain.upd_same, Plain.upd_same]
    · rw [Plain.upd_other k1, Plain.upd_other k1]
      by_cases k2 : k = h
      · subst k2; rw [Plain.upd_same, Plain.upd_same]
      · rw [Plain.upd_other k2, Plain.upd_other k2]; exact h3 k hk

set_option maxHeartbeats 3200000 in
theorem siftDown_any (b n i : Nat) (q : Nat → Tn) (w : World) (h : TRow w b 57 n q) (hn : n ≤ 1048576) (hi : i < n) :
    Calls Try.prog 33 #[.slice (some ⟨b, 0, none⟩) n n, .int .i64 (i : Int)] w fun e w' => e = .returned (.tuple #[]) ∧ w.grownBy w' (some b) ∧ ∃ r, Sifted n q i r ∧ TRow w' b 57 n r := by
  go_enter Try.func33, Try.ntmps33
  go_wp2
  go_loopg [4] (n - i) (fun g x wr => ∃ (j hh : Nat) (cur : Nat → Tn), hh = path n q i j ∧ hh < n ∧ g = n - hh ∧ x = .int .i64 hh ∧ (∀ t, 1 ≤ t → t ≤ j → bef (q (path n q i t)) (q i) = true) ∧ (∀ k, k < n → cur k = Put n q i j k) ∧ TRow wr b 57 n cur ∧ w.grownBy wr (some b))
  case atStart => exact ⟨0, i, q, rfl, hi, rfl, rfl, fun t h1 h2 => by omega, fun k _ => (Plain.Put_zero n q i k).symm, h, World.grownBy.refl _ _⟩
  case round =>
    clear h
    obtain ⟨j, hh, cur, hpath, hlt, rfl, rfl, hdn, hcur, hrow, hgr⟩ := hrel
    have HP : Hid (hh = path n q i j ∧ (∀ t, 1 ≤ t → t ≤ j → bef (q (path n q i t)) (q i) = true) ∧ (∀ k, k < n → cur k = Put n q i j k)) := ⟨hpath, hdn, hcur⟩
    clear hpath hdn hcur
    by_cases hend : n ≤ 2 * hh + 1
    · go_wp2
      refine bodyPost_ret (results_none rfl _ _ _) rfl ?_
      obtain ⟨hpath, hdn, hcur⟩ := HP.out
      exact ⟨rfl, hgr, cur, ⟨j, by omega, hdn, .inl (by omega), hcur⟩, hrow⟩
    have hne := Later.here wr
    have hl1 : 2 * hh + 1 < n := by omega
    clear hend
    obtain ⟨m, hm⟩ : ∃ m, m = pick n cur hh := ⟨_, rfl⟩
    have hmn : m < n := by rw [hm]; exact Plain.pick_lt hl1
    have hmh : hh < m := by rw [hm]; exact Plain.pick_gt n cur hh
    have HM : Hid (m = pick n cur hh) := hm
    by_cases h2 : 2 * hh + 2 < n
    · obtain ⟨u0, u1, u2, u3⟩ := hrow.at4 h2
      obtain ⟨v0, v1, v2, v3⟩ := hrow.at4 hl1
      have U0 := Later.cell u0
      have U1 := Later.cell u1
      have U2 := Later.cell u2
      have U3 := Later.cell u3
      have V0 := Later.cell v0
      have V1 := Later.cell v1
      have V2 := Later.cell v2
      have V3 := Later.cell v3
      clear u0 u1 u2 u3 v0 v1 v2 v3
      have hd : decide (2 * (hh : Int) + 1 + 1 < (n : Int)) = true := by simp; omega
      cases hbf : bef (cur (2 * hh + 2)) (cur (2 * hh + 1)) with
      | true =>
        have hm2 : m = 2 * hh + 2 := by rw [hm]; unfold Plain.pick; rw [if_pos ⟨h2, hbf⟩]
        have HE : Hid (2 * (hh : Int) + 1 + 1 = (m : Int)) := by show _ = _; omega
        clear hm hm2
        go_wp2
        refine wp_region_later (by kernel_rfl) (by kernel_rfl) ?_
        repeat (go_big_quiet_step ((go_at_call 36; exact later_of _ (b1Before_any _ _ _ _ _ _ _ _ _))))
        refine wpQuiet_nil ?_
        rintro W ⟨⟨_, hW⟩, rfl⟩
        clear U0 U1 U2 U3 V0 V1 V2 V3
        go_wp2
        rw [HE.out]
        clear HE hd hbf h2
        have hbW : wr.grownBy W (some b) := grown_of_below hW _
        have hrowW := hrow.later hW
        clear hW
        obtain ⟨u0, u1, u2, u3⟩ := hrowW.at4 hmn
        obtain ⟨v0, v1, v2, v3⟩ := hrowW.at4 hlt
        have U0 := Later.cell u0
        have U1 := Later.cell u1
        have U2 := Later.cell u2
        have U3 := Later.cell u3
        have V0 := Later.cell v0
        have V1 := Later.cell v1
        have V2 := Later.cell v2
        have V3 := Later.cell v3
        clear u0 u1 u2 u3 v0 v1 v2 v3 hne
        have hne := Later.here W
        refine wp_region_later (by kernel_rfl) (by kernel_rfl) ?_
        repeat (go_big_quiet_step ((go_at_call 36; exact later_of _ (b1Before_any _ _ _ _ _ _ _ _ _))))
        refine wpQuiet_nil ?_
        rintro W2 ⟨⟨_, hW2⟩, rfl⟩
        clear U0 U1 U2 U3 V0 V1 V2 V3 hne
        have hb2 : wr.grownBy W2 (some b) := hbW.trans (grown_of_below hW2 _)
        have hrow2 := hrowW.later hW2
        clear hW2 hbW hrowW hrow
        cases hbm : bef (cur m) (cur hh) with
        | false =>
          go_wp2
          refine bodyPost_ret (results_none rfl _ _ _) rfl ?_
          exact ⟨rfl, hgr.trans hb2, cur, sifted_stop HP.out HM.out hlt hmn hmh hbm, hrow2⟩
        | true =>
          obtain ⟨d0, d1, d2, d3⟩ := hrow2.at4 hlt
          have hbs : b < W2.heap.size := World.rowIs.lt hrow2
          have hrow3 := hrow2.alloc (.cells #[.int .i64 (cur hh).sec, .int .i32 (cur hh).nsec, .int .i64 (cur hh).rank, .int .i64 (cur hh).run] 57)
          have hnew := at4_new W2 57 (cur hh)
          obtain ⟨c0, c1, c2, c3⟩ := hrow3.at4 hmn
          obtain ⟨W4, hst4, hrow4, hg4, hs4⟩ := hrow3.store57 hlt (cur m)
          obtain ⟨n0, n1, n2, n3⟩ := hnew.grown hg4 (by simp; omega)
          obtain ⟨W5, hst5, hrow5, hg5, hs5⟩ := hrow4.store57 hmn (cur hh)
          have HG := Kept.mk (And.intro (hgr.trans (hb2.trans (((World.grownBy_alloc W2 _ (some b)).trans hg4).trans hg5))) hrow5)
          have HS4 := Kept.mk hst4
          have HS5 := Kept.mk hst5
          have HB := Kept.mk hbm
          clear hrow3 hnew hrow4 hg4 hs4 hrow5 hg5 hs5 hst4 hst5 hgr hb2 hrow2
          go_wp2_with (first | ((with_reducible refine wpList_of_store _ W4 rfl (.tmp 56) (.tmp 55) 57 rfl (.pointer (some ⟨b, hh * 4, none⟩)) (.agg #[.int .i64 (cur m).sec, .int .i32 (cur m).nsec, .int .i64 (cur m).rank, .int .i64 (cur m).run]) ?_ ?_ ?_ ?_); rfl; rfl; exact HS4.out) | ((with_reducible refine wpList_of_store _ W5 rfl (.tmp 60) (.tmp 59) 57 rfl (.pointer (some ⟨b, m * 4, none⟩)) (.agg #[.int .i64 (cur hh).sec, .int .i32 (cur hh).nsec, .int .i64 (cur hh).rank, .int .i64 (cur hh).run]) ?_ ?_ ?_ ?_); rfl; rfl; exact HS5.out))
          obtain ⟨hpj, hdj, hcj⟩ := sift_step HP.out HM.out hlt hmn hmh HB.out
          go_roundg (n - m)
          case measure => omega
          case rel => exact ⟨j + 1, m, _, hpj, hmn, rfl, rfl, hdj, hcj, HG.out.2, HG.out.1⟩
      | false =>
        have hm2 : m = 2 * hh + 1 := by rw [hm]; unfold Plain.pick; rw [if_neg (fun h => by rw [h.2] at hbf; cases hbf)]
        have HE : Hid (2 * (hh : Int) + 1 = (m : Int)) := by show _ = _; omega
        clear hm hm2
        go_wp2
        refine wp_region_later (by kernel_rfl) (by kernel_rfl) ?_
        repeat (go_big_quiet_step ((go_at_call 36; exact later_of _ (b1Before_any _ _ _ _ _ _ _ _ _))))
        refine wpQuiet_nil ?_
        rintro W ⟨⟨_, hW⟩, rfl⟩
        clear U0 U1 U2 U3 V0 V1 V2 V3
        go_wp2
        rw [HE.out]
        clear HE hd hbf h2
        have hbW : wr.grownBy W (some b) := grown_of_below hW _
        have hrowW := hrow.later hW
        clear hW
        obtain ⟨u0, u1, u2, u3⟩ := hrowW.at4 hmn
        obtain ⟨v0, v1, v2, v3⟩ := hrowW.at4 hlt
        have U0 := Later.cell u0
        have U1 := Later.cell u1
        have U2 := Later.cell u2
        have U3 := Later.cell u3
        have V0 := Later.cell v0
        have V1 := Later.cell v1
        have V2 := Later.cell v2
        have V3 := Later.cell v3
        clear u0 u1 u2 u3 v0 v1 v2 v3 hne
        have hne := Later.here W
        refine wp_region_later (by kernel_rfl) (by kernel_rfl) ?_
        repeat (go_big_quiet_step ((go_at_call 36; exact later_of _ (b1Before_any _ _ _ _ _ _ _ _ _))))
        refine wpQuiet_nil ?_
        rintro W2 ⟨⟨_, hW2⟩, rfl⟩
        clear U0 U1 U2 U3 V0 V1 V2 V3 hne
        have hb2 : wr.grownBy W2 (some b) := hbW.trans (grown_of_below hW2 _)
        have hrow2 := hrowW.later hW2
        clear hW2 hbW hrowW hrow
        cases hbm : bef (cur m) (cur hh) with
        | false =>
          go_wp2
          refine bodyPost_ret (results_none rfl _ _ _) rfl ?_
          exact ⟨rfl, hgr.trans hb2, cur, sifted_stop HP.out HM.out hlt hmn hmh hbm, hrow2⟩
        | true =>
          obtain ⟨d0, d1, d2, d3⟩ := hrow2.at4 hlt
          have hbs : b < W2.heap.size := World.rowIs.lt hrow2
          have hrow3 := hrow2.alloc (.cells #[.int .i64 (cur hh).sec, .int .i32 (cur hh).nsec, .int .i64 (cur hh).rank, .int .i64 (cur hh).run] 57)
          have hnew := at4_new W2 57 (cur hh)
          obtain ⟨c0, c1, c2, c3⟩ := hrow3.at4 hmn
          obtain ⟨W4, hst4, hrow4, hg4, hs4⟩ := hrow3.store57 hlt (cur m)
          obtain ⟨n0, n1, n2, n3⟩ := hnew.grown hg4 (by simp; omega)
          obtain ⟨W5, hst5, hrow5, hg5, hs5⟩ := hrow4.store57 hmn (cur hh)
          have HG := Kept.mk (And.intro (hgr.trans (hb2.trans (((World.grownBy_alloc W2 _ (some b)).trans hg4).trans hg5))) hrow5)
          have HS4 := Kept.mk hst4
          have HS5 := Kept.mk hst5
          have HB := Kept.mk hbm
          clear hrow3 hnew hrow4 hg4 hs4 hrow5 hg5 hs5 hst4 hst5 hgr hb2 hrow2
          go_wp2_with (first | ((with_reducible refine wpList_of_store _ W4 rfl (.tmp 56) (.tmp 55) 57 rfl (.pointer (some ⟨b, hh * 4, none⟩)) (.agg #[.int .i64 (cur m).sec, .int .i32 (cur m).nsec, .int .i64 (cur m).rank, .int .i64 (cur m).run]) ?_ ?_ ?_ ?_); rfl; rfl; exact HS4.out) | ((with_reducible refine wpList_of_store _ W5 rfl (.tmp 60) (.tmp 59) 57 rfl (.pointer (some ⟨b, m * 4, none⟩)) (.agg #[.int .i64 (cur hh).sec, .int .i32 (cur hh).nsec, .int .i64 (cur hh).rank, .int .i64 (cur hh).run]) ?_ ?_ ?_ ?_); rfl; rfl; exact HS5.out))
          obtain ⟨hpj, hdj, hcj⟩ := sift_step HP.out HM.out hlt hmn hmh HB.out
          go_roundg (n - m)
          case measure => omega
          case rel => exact ⟨j + 1, m, _, hpj, hmn, rfl, rfl, hdj, hcj, HG.out.2, HG.out.1⟩
    · have hm2 : m = 2 * hh + 1 := by rw [hm]; unfold Plain.pick; rw [if_neg (fun h => h2 h.1)]
      have HE : Hid (2 * (hh : Int) + 1 = (m : Int)) := by show _ = _; omega
      have hd : decide (2 * (hh : Int) + 1 + 1 < (n : Int)) = false := by simp; omega
      clear hm hm2
      go_wp2
      refine wp_region_later (by kernel_rfl) (by kernel_rfl) ?_
      repeat (go_big_quiet_step (fail))
      refine wpQuiet_nil ?_
      rintro W ⟨⟨_, hW⟩, rfl⟩
      go_wp2
      rw [HE.out]
      clear HE hd h2
      have hbW : wr.grownBy W (some b) := grown_of_below hW _
      have hrowW := hrow.later hW
      clear hW
      obtain ⟨u0, u1, u2, u3⟩ := hrowW.at4 hmn
      obtain ⟨v0, v1, v2, v3⟩ := hrowW.at4 hlt
      have U0 := Later.cell u0
      have U1 := Later.cell u1
      have U2 := Later.cell u2
      have U3 := Later.cell u3
      have V0 := Later.cell v0
      have V1 := Later.cell v1
      have V2 := Later.cell v2
      have V3 := Later.cell v3
      clear u0 u1 u2 u3 v0 v1 v2 v3 hne
      have hne := Later.here W
      refine wp_region_later (by kernel_rfl) (by kernel_rfl) ?_
      repeat (go_big_quiet_step ((go_at_call 36; exact later_of _ (b1Before_any _ _ _ _ _ _ _ _ _))))
      refine wpQuiet_nil ?_
      rintro W2 ⟨⟨_, hW2⟩, rfl⟩
      clear U0 U1 U2 U3 V0 V1 V2 V3 hne
      have hb2 : wr.grownBy W2 (some b) := hbW.trans (grown_of_below hW2 _)
      have hrow2 := hrowW.later hW2
      clear hW2 hbW hrowW hrow
      cases hbm : bef (cur m) (cur hh) with
      | false =>
        go_wp2
        refine bodyPost_ret (results_none rfl _ _ _) rfl ?_
        exact ⟨rfl, hgr.trans hb2, cur, sifted_stop HP.out HM.out hlt hmn hmh hbm, hrow2⟩
      | true =>
        obtain ⟨d0, d1, d2, d3⟩ := hrow2.at4 hlt
        have hbs : b < W2.heap.size := World.rowIs.lt hrow2
        have hrow3 := hrow2.alloc (.cells #[.int .i64 (cur hh).sec, .int .i32 (cur hh).nsec, .int .i64 (cur hh).rank, .int .i64 (cur hh).run] 57)
        have hnew := at4_new W2 57 (cur hh)
        obtain ⟨c0, c1, c2, c3⟩ := hrow3.at4 hmn
        obtain ⟨W4, hst4, hrow4, hg4, hs4⟩ := hrow3.store57 hlt (cur m)
        obtain ⟨n0, n1, n2, n3⟩ := hnew.grown hg4 (by simp; omega)
        obtain ⟨W5, hst5, hrow5, hg5, hs5⟩ := hrow4.store57 hmn (cur hh)
        have HG := Kept.mk (And.intro (hgr.trans (hb2.trans (((World.grownBy_alloc W2 _ (some b)).trans hg4).trans hg5))) hrow5)
        have HS4 := Kept.mk hst4
        have HS5 := Kept.mk hst5
        have HB := Kept.mk hbm
        clear hrow3 hnew hrow4 hg4 hs4 hrow5 hg5 hs5 hst4 hst5 hgr hb2 hrow2
        go_wp2_with (first | ((with_reducible refine wpList_of_store _ W4 rfl (.tmp 56) (.tmp 55) 57 rfl (.pointer (some ⟨b, hh * 4, none⟩)) (.agg #[.int .i64 (cur m).sec, .int .i32 (cur m).nsec, .int .i64 (cur m).rank, .int .i64 (cur m).run]) ?_ ?_ ?_ ?_); rfl; rfl; exact HS4.out) | ((with_reducible refine wpList_of_store _ W5 rfl (.tmp 60) (.tmp 59) 57 rfl (.pointer (some ⟨b, m * 4, none⟩)) (.agg #[.int .i64 (cur hh).sec, .int .i32 (cur hh).nsec, .int .i64 (cur hh).rank, .int .i64 (cur hh).run]) ?_ ?_ ?_ ?_); rfl; rfl; exact HS5.out))
        obtain ⟨hpj, hdj, hcj⟩ := sift_step HP.out HM.out hlt hmn hmh HB.out
        go_roundg (n - m)
        case measure => omega
        case rel => exact ⟨j + 1, m, _, hpj, hmn, rfl, rfl, hdj, hcj, HG.out.2, HG.out.1⟩

end Go.Proofs.Qxb6000182a
