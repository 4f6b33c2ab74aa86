import Derived.Test.Qxb6000182aWalkD
import Derived.Deep.Cut
namespace Go.Proofs.Qxb6000182a
open Go.RowKit
open Plain (Tn bef upd pick path Put Sh Sifted Downed)

theorem pick_sh {n : Nat} {q cur : Nat → Tn} {i j h : Nat} (hp : h = path n q i j) (hc : ∀ k, k < n → cur k = Sh n q i j k) (hl : 2 * h + 1 < n) : pick n cur h = path n q i (j + 1) := by
  show _ = pick n q (path n q i j)
  rw [← hp]
  have e1 : cur (2 * h + 1) = q (2 * h + 1) := by rw [hc _ hl]; exact Plain.Sh_ge n q i _ j (by omega)
  by_cases h2 : 2 * h + 2 < n
  · have e2 : cur (2 * h + 2) = q (2 * h + 2) := by rw [hc _ h2]; exact Plain.Sh_ge n q i _ j (by omega)
    exact Plain.pick_congr e1 e2
  · unfold Plain.pick
    rw [if_neg (fun h => h2 h.1), if_neg (fun h => h2 h.1)]

theorem hole_step {n : Nat} {q cur : Nat → Tn} {i j h m : Nat} (hp : h = path n q i j ∧ ∀ k, k < n → cur k = Sh n q i j k) (hm : m = pick n cur h) (hmn : m < n) :
    m = path n q i (j + 1) ∧ ∀ k, k < n → upd cur h (cur m) k = Sh n q i (j + 1) k := by
  obtain ⟨h1, h3⟩ := hp
  have hl : 2 * h + 1 < n := by have := Plain.pick_ge n cur h; omega
  have e := pick_sh h1 h3 hl
  rw [← hm] at e
  have hgt := Plain.pick_gt n cur h
  have e1 : cur m = q m := by rw [h3 m hmn]; exact Plain.Sh_ge n q i _ j (by omega)
  refine ⟨e, fun k hk => ?_⟩
  show _ = upd (Sh n q i j) (path n q i j) (q (path n q i (j + 1))) k
  rw [← h1, ← e, e1]
  by_cases k2 : k = h
  · subst k2; rw [Plain.upd_same, Plain.upd_same]
  · rw [Plain.upd_other k2, Plain.upd_other k2]; exact h3 k hk

/-- The way up, at place j: the hole at h. -/
def UpAt (n : Nat) (q : Nat → Tn) (i l j h : Nat) (cur : Nat → Tn) : Prop :=
  h = path n q i j ∧ j ≤ l ∧ path n q i l < n ∧ n ≤ 2 * path n q i l + 1 ∧ (∀ t, j < t → t ≤ l → bef (q i) (q (path n q i t)) = true) ∧ ∀ k, k < n → k ≠ h → cur k = Sh n q i j k

theorem UpAt.start {n : Nat} {q cur : Nat → Tn} {i j h : Nat} (hp : h = path n q i j ∧ ∀ k, k < n → cur k = Sh n q i j k) (hn : h < n) (he : n ≤ 2 * h + 1) : UpAt n q i j j h cur :=
  ⟨hp.1, Nat.le_refl _, by rw [← hp.1]; exact hn, by rw [← hp.1]; exact he, fun t h1 h2 => by omega, fun k hk _ => hp.2 k hk⟩

theorem UpAt.lt {n : Nat} {q cur : Nat → Tn} {i l j h : Nat} (hu : UpAt n q i l j h cur) : h < n := by
  obtain ⟨h1, h2, h3, _⟩ := hu
  rw [h1]
  by_cases e : j = l
  · subst e; exact h3
  · exact Nat.lt_trans (Plain.path_mono n q i j l (by omega)) h3

/-- The parent: its place, and what it holds. -/
theorem UpAt.parent {n : Nat} {q cur : Nat → Tn} {i l j h : Nat} (hu : UpAt n q i l (j + 1) h cur) : (h - 1) / 2 = path n q i j ∧ cur ((h - 1) / 2) = q h := by
  have hlt := hu.lt
  obtain ⟨h1, h2, h3, h4, h5, h6⟩ := hu
  have e : (h - 1) / 2 = path n q i j := by rw [h1]; exact Plain.pick_up n q _
  have hm := Plain.path_step n q i j
  rw [← h1] at hm
  refine ⟨e, ?_⟩
  rw [e, h6 _ (by omega) (by omega), Plain.Sh_on n q i (j + 1) j (by omega), h1]

theorem UpAt.step {n : Nat} {q cur : Nat → Tn} {i l j h : Nat} (hu : UpAt n q i l (j + 1) h cur) (hb : bef (q i) (cur ((h - 1) / 2)) = true) : UpAt n q i l j ((h - 1) / 2) (upd cur h (cur ((h - 1) / 2))) := by
  obtain ⟨e, e2⟩ := hu.parent
  have hlt := hu.lt
  obtain ⟨h1, h2, h3, h4, h5, h6⟩ := hu
  have hm := Plain.path_step n q i j
  rw [← h1] at hm
  refine ⟨e, by omega, h3, h4, fun t t1 t2 => ?_, fun k hk hne => ?_⟩
  · by_cases et : t = j + 1
    · subst et; rw [← h1, ← e2]; exact hb
    · exact h5 t (by omega) t2
  · rw [e] at hne
    by_cases kh : k = h
    · subst kh
      rw [Plain.upd_same, e2, Plain.Sh_ge n q i _ j (by omega)]
    · rw [Plain.upd_other kh, h6 k hk kh]
      show upd _ _ _ k = _
      rw [Plain.upd_other hne]

theorem UpAt.done {n : Nat} {q cur : Nat → Tn} {i l j h : Nat} (hu : UpAt n q i l j h cur) (hs : j = 0 ∨ bef (q i) (cur ((h - 1) / 2)) = false) : Downed n q i (upd cur h (q i)) := by
  have hp : ∀ j', j = j' + 1 → cur ((h - 1) / 2) = q h := fun j' e => by subst e; exact hu.parent.2
  obtain ⟨h1, h2, h3, h4, h5, h6⟩ := hu
  refine ⟨l, j, h2, h3, h4, ?_, h5, fun k hk => ?_⟩
  · rcases hs with hs | hs
    · exact .inl hs
    · by_cases e0 : j = 0
      · exact .inl e0
      · rw [hp (j - 1) (by omega), h1] at hs
        exact .inr hs
  · show _ = upd _ _ _ k
    rw [← h1]
    by_cases kh : k = h
    · subst kh; rw [Plain.upd_same, Plain.upd_same]
    · rw [Plain.upd_other kh, Plain.upd_other kh]; exact h6 k hk kh

set_option maxHeartbeats 400000 in
theorem down_out (b n i : Nat) (w : World) (hi : n ≤ i) :
    Calls Try.prog 42 #[.slice (some ⟨b, 0, none⟩) n n, .int .i64 (i : Int)] w fun e w' => e = .returned (.tuple #[]) ∧ w' = w := by
  go_enter Try.func42, Try.ntmps42
  go_wp2
  refine bodyPost_ret (results_none rfl _ _ _) rfl ?_
  exact ⟨rfl, rfl⟩

/-- The world inside 'down': the row of turns, and i's own turn in a block of its own. -/
structure Dn (w wr : World) (b n : Nat) (u : Tn) (cur : Nat → Tn) : Prop where
  row : TRow wr b 75 n cur
  own : At4 wr w.heap.size 0 u
  grown : w.grownBy wr (some b)
  ne : b ≠ w.heap.size

theorem Dn.later {w wr W : World} {b n : Nat} {u : Tn} {cur : Nat → Tn} (h : Dn w wr b n u cur) (hb : Below wr.heap.size wr W) : Dn w W b n u cur :=
  ⟨h.row.later hb, h.own.grown (grown_of_below hb none) (by simp), h.grown.trans (grown_of_below hb _), h.ne⟩

theorem Dn.store {w wr : World} {b n : Nat} {u : Tn} {cur : Nat → Tn} (h : Dn w wr b n u cur) {k : Nat} (hk : k < n) (v : Tn) :
    ∃ w', (Instr.storeAt 75 (.pointer (some ⟨b, k * 4, none⟩)) (.agg #[.int .i64 v.sec, .int .i32 v.nsec, .int .i64 v.rank, .int .i64 v.run])).run Try.prog wr = .ok () w' ∧ Dn w w' b n u (upd cur k v) := by
  obtain ⟨w', h1, h2, h3, h4⟩ := h.row.store75 hk v
  exact ⟨w', h1, h2, h.own.grown h3 (by simp; exact fun e => h.ne e.symm), h.grown.trans h3, h.ne⟩

set_option maxHeartbeats 3200000 in
theorem down_any (b n i : Nat) (q : Nat → Tn) (w : World) (h : TRow w b 75 n q) (hn : n ≤ 1048576) (hi : i < n) :
    Calls Try.prog 42 #[.slice (some ⟨b, 0, none⟩) n n, .int .i64 (i : Int)] w fun e w' => e = .returned (.tuple #[]) ∧ w.grownBy w' (some b) ∧ ∃ r, Downed n q i r ∧ TRow w' b 75 n r := by
  obtain ⟨d0, d1, d2, d3⟩ := h.at4 hi
  have hst := Kept.mk (show Dn w (w.alloc (.cells #[.int .i64 (q i).sec, .int .i32 (q i).nsec, .int .i64 (q i).rank, .int .i64 (q i).run] 75)) b n (q i) q from
    ⟨h.alloc _, at4_new w 75 (q i), World.grownBy_alloc w _ _, Nat.ne_of_lt (World.rowIs.lt h)⟩)
  clear h
  have hd0 : decide ((n : Int) ≤ (i : Int)) = false := by simp; omega
  have hd1 : decide (n ≤ i) = false := by simp; omega
  go_enter Try.func42, Try.ntmps42
  go_wp2
  clear d0 d1 d2 d3 hd0 hd1
  go_loopg [5] (n - i) (fun g x wr => ∃ (j hh : Nat) (cur : Nat → Tn), g = n - hh ∧ x = .int .i64 hh ∧ hh < n ∧ (hh = path n q i j ∧ ∀ k, k < n → cur k = Sh n q i j k) ∧ Dn w wr b n (q i) cur)
  case atStart => exact ⟨0, i, q, rfl, rfl, hi, ⟨rfl, fun _ _ => rfl⟩, hst.out⟩
  case round =>
    clear hst
    obtain ⟨j, hh, cur, rfl, rfl, hlt, hsh, hdn⟩ := hrel
    have HP := Kept.mk hsh
    clear hsh
    by_cases hend : n ≤ 2 * hh + 1
    · have HU := Kept.mk (UpAt.start HP.out hlt hend)
      have HD := Kept.mk hdn
      clear hdn HP
      have hdd : decide ((n : Int) ≤ 2 * (hh : Int) + 1) = true := by simp; omega
      go_wp2
      clear hend hdd
      go_loopg [5] j (fun g x wr => ∃ (jj hx : Nat) (cur : Nat → Tn), g = jj ∧ x = .int .i64 hx ∧ UpAt n q i j jj hx cur ∧ Dn w wr b n (q i) cur)
      case atStart => exact ⟨j, hh, cur, rfl, rfl, HU.out, HD.out⟩
      case round =>
        clear HU HD hlt
        obtain ⟨jj, hx, cur, rfl, rfl, hu, hdn⟩ := hrel
        have hlt := hu.lt
        have HU := Kept.mk hu
        cases gk with
        | zero =>
          obtain rfl : hx = i := hu.1
          clear hu
          obtain ⟨c0, c1, c2, c3⟩ := hdn.own
          obtain ⟨W4, hst4, hd4⟩ := hdn.store hlt (q hx)
          have HS4 := Kept.mk hst4
          have HD := Kept.mk hd4
          clear hst4 hd4 hdn
          go_wp2_with ((with_reducible refine wpList_of_store _ W4 rfl (.tmp 71) (.tmp 70) 75 rfl (.pointer (some ⟨b, hx * 4, none⟩)) (.agg #[.int .i64 (q hx).sec, .int .i32 (q hx).nsec, .int .i64 (q hx).rank, .int .i64 (q hx).run]) ?_ ?_ ?_ ?_); rfl; rfl; exact HS4.out)
          go_end0
          exact ⟨rfl, HD.out.grown, _, HU.out.done (.inl rfl), HD.out.row⟩
        | succ jj =>
          have hpar := hu.parent.1
          have hgt : i < hx := by
            have h1 := Plain.path_mono n q i 0 (jj + 1) (by omega)
            have h2 : i < path n q i (jj + 1) := h1
            rw [hu.1]; exact h2
          obtain ⟨p, hp⟩ : ∃ p, p = (hx - 1) / 2 := ⟨_, rfl⟩
          have e1 : Hid (((hx : Int) - 1) / 2 = (p : Int)) := by show _ = _; omega
          have hpn : p < n := by omega
          clear hu hpar
          go_upto_region 12 with fail
          rw [e1.out]
          clear e1
          have HP := Kept.mk hp
          clear hp
          go_wp2_with fail
          refine (before_any _ _ _ _ _ _ _ hdn.own (hdn.row.at4 hpn)).mono ?_
          rintro e W ⟨rfl, hW⟩
          have hdW := hdn.later hW
          clear hW hdn
          cases hbf : bef (q i) (cur p) with
          | false =>
            obtain ⟨c0, c1, c2, c3⟩ := hdW.own
            obtain ⟨W4, hst4, hd4⟩ := hdW.store hlt (q i)
            have HS4 := Kept.mk hst4
            have HD := Kept.mk hd4
            have HB := Kept.mk hbf
            clear hst4 hd4 hdW
            go_wp2_with ((with_reducible refine wpList_of_store _ W4 rfl (.tmp 71) (.tmp 70) 75 rfl (.pointer (some ⟨b, hx * 4, none⟩)) (.agg #[.int .i64 (q i).sec, .int .i32 (q i).nsec, .int .i64 (q i).rank, .int .i64 (q i).run]) ?_ ?_ ?_ ?_); rfl; rfl; exact HS4.out)
            go_end0
            exact ⟨rfl, HD.out.grown, _, HU.out.done (.inr (by rw [← HP.out]; exact HB.out)), HD.out.row⟩
          | true =>
            obtain ⟨c0, c1, c2, c3⟩ := hdW.row.at4 hpn
            obtain ⟨W4, hst4, hd4⟩ := hdW.store hlt (cur p)
            have HS4 := Kept.mk hst4
            have HD := Kept.mk hd4
            have HB := Kept.mk hbf
            clear hst4 hd4 hdW
            go_wp2_with ((with_reducible refine wpList_of_store _ W4 rfl (.tmp 66) (.tmp 65) 75 rfl (.pointer (some ⟨b, hx * 4, none⟩)) (.agg #[.int .i64 (cur p).sec, .int .i32 (cur p).nsec, .int .i64 (cur p).rank, .int .i64 (cur p).run]) ?_ ?_ ?_ ?_); rfl; rfl; exact HS4.out)
            go_roundg jj
            case measure => omega
            case rel =>
              obtain rfl := HP.out
              exact ⟨jj, _, _, rfl, rfl, HU.out.step HB.out, HD.out⟩
    have hne := Later.here wr
    have hl1 : 2 * hh + 1 < n := by omega
    clear hend
    obtain ⟨m, hm⟩ : ∃ m, m = pick n cur hh := ⟨_, rfl⟩
    have hmn : m < n := by rw [hm]; exact Plain.pick_lt hl1
    have hmh : hh < m := by rw [hm]; exact Plain.pick_gt n cur hh
    have HM := Kept.mk hm
    by_cases h2 : 2 * hh + 2 < n
    · have hd : decide (2 * (hh : Int) + 1 + 1 < (n : Int)) = true := by simp; omega
      have HA := Kept.mk (And.intro (hdn.row.at4 h2) (hdn.row.at4 hl1))
      cases hbf : bef (cur (2 * hh + 2)) (cur (2 * hh + 1)) with
      | true =>
        have hm2 : m = 2 * hh + 2 := by rw [hm]; unfold Plain.pick; rw [if_pos ⟨h2, hbf⟩]
        have HE : Hid (2 * (hh : Int) + 1 + 1 = (m : Int)) := by show _ = _; omega
        clear hm hm2
        go_wp2
        refine wp_region_later (by kernel_rfl) (by kernel_rfl) ?_
        repeat (go_big_quiet_step ((go_at_call 44; exact later_of _ (before_any _ _ _ _ _ _ _ (HA.out.1.grown (grown_of_below (Later.bel _) none) (by simp)) (HA.out.2.grown (grown_of_below (Later.bel _) none) (by simp))))))
        refine wpQuiet_nil ?_
        rintro W ⟨⟨_, hW⟩, rfl⟩
        clear HA
        have hdW := hdn.later hW
        clear hW hdn hne
        obtain ⟨c0, c1, c2, c3⟩ := hdW.row.at4 hmn
        obtain ⟨W4, hst4, hd4⟩ := hdW.store hlt (cur m)
        have HS4 := Kept.mk hst4
        have HD := Kept.mk hd4
        have HH := Kept.mk (hole_step HP.out HM.out hmn)
        clear hst4 hd4 hdW HP HM
        go_upto_region 8 with fail
        rw [HE.out]
        clear HE hd h2
        go_wp2_with ((with_reducible refine wpList_of_store _ W4 rfl (.tmp 47) (.tmp 46) 75 rfl (.pointer (some ⟨b, hh * 4, none⟩)) (.agg #[.int .i64 (cur m).sec, .int .i32 (cur m).nsec, .int .i64 (cur m).rank, .int .i64 (cur m).run]) ?_ ?_ ?_ ?_); rfl; rfl; exact HS4.out)
        go_roundg (n - m)
        case measure => omega
        case rel => exact ⟨j + 1, m, _, rfl, rfl, hmn, HH.out, HD.out⟩
      | false =>
        have hm2 : m = 2 * hh + 1 := by rw [hm]; unfold Plain.pick; rw [if_neg (fun h => by rw [h.2] at hbf; cases hbf)]
        have HE : Hid (2 * (hh : Int) + 1 = (m : Int)) := by show _ = _; omega
        clear hm hm2
        go_wp2
        refine wp_region_later (by kernel_rfl) (by kernel_rfl) ?_
        repeat (go_big_quiet_step ((go_at_call 44; exact later_of _ (before_any _ _ _ _ _ _ _ (HA.out.1.grown (grown_of_below (Later.bel _) none) (by simp)) (HA.out.2.grown (grown_of_below (Later.bel _) none) (by simp))))))
        refine wpQuiet_nil ?_
        rintro W ⟨⟨_, hW⟩, rfl⟩
        clear HA
        have hdW := hdn.later hW
        clear hW hdn hne
        obtain ⟨c0, c1, c2, c3⟩ := hdW.row.at4 hmn
        obtain ⟨W4, hst4, hd4⟩ := hdW.store hlt (cur m)
        have HS4 := Kept.mk hst4
        have HD := Kept.mk hd4
        have HH := Kept.mk (hole_step HP.out HM.out hmn)
        clear hst4 hd4 hdW HP HM
        go_upto_region 8 with fail
        rw [HE.out]
        clear HE hd h2
        go_wp2_with ((with_reducible refine wpList_of_store _ W4 rfl (.tmp 47) (.tmp 46) 75 rfl (.pointer (some ⟨b, hh * 4, none⟩)) (.agg #[.int .i64 (cur m).sec, .int .i32 (cur m).nsec, .int .i64 (cur m).rank, .int .i64 (cur m).run]) ?_ ?_ ?_ ?_); rfl; rfl; exact HS4.out)
        go_roundg (n - m)
        case measure => omega
        case rel => exact ⟨j + 1, m, _, rfl, rfl, hmn, HH.out, HD.out⟩
    · have hm2 : m = 2 * hh + 1 := by rw [hm]; unfold Plain.pick; rw [if_neg (fun h => h2 h.1)]
      have HE : Hid (2 * (hh : Int) + 1 = (m : Int)) := by show _ = _; omega
      have hd : decide (2 * (hh : Int) + 1 + 1 < (n : Int)) = false := by simp; omega
      clear hm hm2
      go_wp2
      refine wp_region_later (by kernel_rfl) (by kernel_rfl) ?_
      repeat (go_big_quiet_step (fail))
      refine wpQuiet_nil ?_
      rintro W ⟨⟨_, hW⟩, rfl⟩
      have hdW := hdn.later hW
      clear hW hdn hne
      obtain ⟨c0, c1, c2, c3⟩ := hdW.row.at4 hmn
      obtain ⟨W4, hst4, hd4⟩ := hdW.store hlt (cur m)
      have HS4 := Kept.mk hst4
      have HD := Kept.mk hd4
      have HH := Kept.mk (hole_step HP.out HM.out hmn)
      clear hst4 hd4 hdW HP HM
      go_upto_region 8 with fail
      rw [HE.out]
      clear HE hd h2
      go_wp2_with ((with_reducible refine wpList_of_store _ W4 rfl (.tmp 47) (.tmp 46) 75 rfl (.pointer (some ⟨b, hh * 4, none⟩)) (.agg #[.int .i64 (cur m).sec, .int .i32 (cur m).nsec, .int .i64 (cur m).rank, .int .i64 (cur m).run]) ?_ ?_ ?_ ?_); rfl; rfl; exact HS4.out)
      go_roundg (n - m)
      case measure => omega
      case rel => exact ⟨j + 1, m, _, rfl, rfl, hmn, HH.out, HD.out⟩

end Go.Proofs.Qxb6000182a
