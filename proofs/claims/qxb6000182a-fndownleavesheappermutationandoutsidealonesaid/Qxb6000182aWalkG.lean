import Derived.Test.Qxb6000182aWalkF
import Derived.Test.Qxb6000182aMerge
namespace Go.Proofs.Qxb6000182a
open Go.RowKit
open Plain (Tn bef upd Same Runs Pass Mrg SortOf)

/-- What b1Sort hands back. -/
def Sorts (w : World) (n : Nat) (q : Nat → Tn) (e : Ending) (w' : World) : Prop :=
  ∃ rb s, e = .returned (.slice (some ⟨rb, 0, none⟩) n n) ∧ w.heap.size ≤ rb ∧ Below w.heap.size w w' ∧ SortOf n q s ∧ TRow w' rb 57 n s

theorem copy_step {q : Nat → Tn} {d : Tn} (k : Nat) (j : Nat) : upd (fun j => if j < k then q j else d) k (q k) j = if j < k + 1 then q j else d := by
  unfold Plain.upd
  by_cases e : j = k
  · subst e; simp
  · rw [if_neg e]
    show (if j < k then q j else d) = _
    by_cases hj : j < k
    · rw [if_pos hj, if_pos (by omega)]
    · rw [if_neg hj, if_neg (by omega)]

/-- The two rows of a pass. -/
structure Two (w wr : World) (n sb db : Nat) (src dst : Nat → Tn) : Prop where
  s : TRow wr sb 57 n src
  d : TRow wr db 57 n dst
  ne : sb ≠ db
  sN : w.heap.size ≤ sb
  dN : w.heap.size ≤ db
  bel : Below w.heap.size w wr

theorem Two.later {w wr W : World} {n sb db : Nat} {src dst : Nat → Tn} (h : Two w wr n sb db src dst) (hb : Below wr.heap.size wr W) : Two w W n sb db src dst :=
  ⟨h.s.later hb, h.d.later hb, h.ne, h.sN, h.dN, h.bel.trans (hb.mono h.bel.size)⟩

theorem Two.swap {w wr : World} {n sb db : Nat} {src dst : Nat → Tn} (h : Two w wr n sb db src dst) : Two w wr n db sb dst src := ⟨h.d, h.s, fun e => h.ne e.symm, h.dN, h.sN, h.bel⟩

theorem Two.store {w wr : World} {n sb db : Nat} {src dst : Nat → Tn} (h : Two w wr n sb db src dst) {k : Nat} (hk : k < n) (u : Tn) :
    ∃ w', (Instr.storeAt 57 (.pointer (some ⟨db, k * 4, none⟩)) (.agg #[.int .i64 u.sec, .int .i32 u.nsec, .int .i64 u.rank, .int .i64 u.run])).run Try.prog wr = .ok () w' ∧ Two w w' n sb db src (upd dst k u) := by
  obtain ⟨w', h1, h2, h3, _⟩ := h.d.store57 hk u
  exact ⟨w', h1, h.s.grown h3 (by simp; exact h.ne), h2, h.ne, h.sN, h.dN, h.bel.grown h3 h.bel.size (fun k hk => by cases hk; exact h.dN)⟩

set_option maxRecDepth 100000 in
set_option maxHeartbeats 3200000 in
theorem b1Sort_any (b n : Nat) (q : Nat → Tn) (w : World) (h : TRow w b 57 n q) (hn : n ≤ 1048576) :
    Calls Try.prog 37 #[.slice (some ⟨b, 0, none⟩) n n] w fun e w' => Sorts w n q e w' := by
  have hmk := run_make4 (P := Try.prog) 51 57 Try.underlying51 Try.info57 n hn
  have HT := Kept.mk h
  have hbw : b < w.heap.size := World.rowIs.lt h
  clear h
  go_enter Try.func37, Try.ntmps37
  go_wp2
  go_loopg [5] n (fun g x wr => ∃ k : Nat, k ≤ n ∧ g = n - k ∧ x = .int .i64 k ∧ Below w.heap.size w wr ∧ TRow wr w.heap.size 57 n (fun j => if j < k then q j else ⟨0, 0, 0, 0⟩))
  case atStart => exact ⟨0, Nat.zero_le _, rfl, rfl, (Below.refl _ _).alloc (Nat.le_refl _) _, (trow_made w 57 n).congr (fun j _ => by simp)⟩
  case round =>
    obtain ⟨k, hk, rfl, rfl, hbel, hrow⟩ := hrel
    by_cases hlt : k < n
    · clear hmk
      obtain ⟨d0, d1, d2, d3⟩ := (HT.out.later hbel).at4 hlt
      obtain ⟨W4, hst4, hrow4, hg4, _⟩ := hrow.store57 hlt (q k)
      have HS4 := Kept.mk hst4
      have HD := Kept.mk (And.intro (hbel.grown hg4 hbel.size (fun k hk => by cases hk; exact Nat.le_refl _)) (hrow4.congr fun j _ => copy_step k j))
      clear hst4 hrow4 hg4 hrow hbel
      go_wp2_with ((with_reducible refine wpList_of_store _ W4 rfl (.tmp 29) (.tmp 28) 57 rfl (.pointer (some ⟨w.heap.size, k * 4, none⟩)) (.agg #[.int .i64 (q k).sec, .int .i32 (q k).nsec, .int .i64 (q k).rank, .int .i64 (q k).run]) ?_ ?_ ?_ ?_); rfl; rfl; exact HS4.out)
      go_roundg (n - (k + 1))
      case measure => omega
      case rel => exact ⟨k + 1, by omega, rfl, by go_num, HD.out.1, HD.out.2⟩
    · obtain rfl : k = n := by omega
      have hrow1 := hrow.congr (q' := q) fun j hj => by rw [if_pos hj]
      clear hrow HT
      go_wp2
      clear hmk
      have hst := Kept.mk (show Two w (wr.alloc (.cells (madeT k) 57)) k w.heap.size wr.heap.size q (fun _ => ⟨0, 0, 0, 0⟩) from
        ⟨hrow1.alloc _, trow_made wr 57 k, Nat.ne_of_lt (World.rowIs.lt hrow1), Nat.le_refl _, hbel.size, hbel.alloc hbel.size _⟩)
      clear hbel hrow1
      go_loopg [4, 6, 7] (k - 1) (fun g s4 s6 x wi => ∃ (v sb db : Nat) (src dst : Nat → Tn), g = k - v ∧ 1 ≤ v ∧ v ≤ 2 * k + 1 ∧ x = .int .i64 v ∧ s4 = .slice (some ⟨sb, 0, none⟩) k k ∧ s6 = .slice (some ⟨db, 0, none⟩) k k ∧ Two w wi k sb db src dst ∧ Same k src q ∧ Runs v src k)
      case atStart => exact ⟨1, _, _, _, _, rfl, Nat.le_refl _, by omega, rfl, rfl, rfl, hst.out, fun _ => rfl, Plain.runs_one q k⟩
      case round =>
        clear hst
        obtain ⟨v, sb, db, src, dst, rfl, hv1, hv2, rfl, rfl, rfl, htwo, hsame, hruns⟩ := hrel
        have HR := Kept.mk (And.intro hsame hruns)
        clear hsame hruns
        by_cases hvk : v < k
        · have HT := Kept.mk htwo
          clear htwo
          go_wp2
          go_loopg [8] k (fun g x wi => ∃ (lo : Nat) (cur : Nat → Tn), g = k - lo ∧ lo ≤ k + 2 * v ∧ x = .int .i64 lo ∧ Two w wi k sb db src cur ∧ Pass src cur k v lo)
          case atStart => exact ⟨0, dst, rfl, Nat.zero_le _, rfl, HT.out, Plain.Pass.start src dst k v⟩
          case round =>
            clear HT
            obtain ⟨lo, cur, rfl, hlo2, rfl, htwo, hpass⟩ := hrel
            by_cases hlo : lo < k
            · have HT := Kept.mk (And.intro htwo hpass)
              have HSR := Kept.mk (And.intro (HR.out.2.left hpass.dvd) (HR.out.2.right hpass.dvd))
              clear htwo hpass
              by_cases c1 : lo + 2 * v ≤ k
              · obtain ⟨md, hmd⟩ : ∃ md, md = lo + v := ⟨_, rfl⟩
                obtain ⟨hh, hhh⟩ : ∃ hh, hh = lo + 2 * v := ⟨_, rfl⟩
                have E1 : Hid ((lo : Int) + (v : Int) = (md : Int)) := by show _ = _; omega
                have E2 : Hid ((lo : Int) + 2 * (v : Int) = (hh : Int)) := by show _ = _; omega
                rw [show min (lo + v) k = md by omega, show min (lo + 2 * v) k = hh by omega] at HSR
                have D1 : decide ((k : Int) < (lo : Int) + (v : Int)) = false := by simp; omega
                have D2 : decide ((k : Int) < (lo : Int) + 2 * (v : Int)) = false := by simp; omega
                go_wp2
                rw [E1.out, E2.out]
                clear E1 E2 D1 D2
                have m1 : md ≤ lo + v := by omega
                have m2 : lo + v ≤ md := by omega
                have m3 : hh ≤ lo + 2 * v := by omega
                have m4 : lo + 2 * v ≤ hh := by omega
                clear hmd hhh
                go_loopg [11, 12, 13] (hh - lo) (fun g s11 s12 s13 wi => ∃ (x y t : Nat) (cur : Nat → Tn), g = hh - t ∧ s11 = .int .i64 x ∧ s12 = .int .i64 y ∧ s13 = .int .i64 t ∧ Two w wi k sb db src cur ∧ Pass src cur k v lo ∧ Mrg src cur lo md hh x y t)
                case atStart => exact ⟨lo, md, lo, cur, rfl, rfl, rfl, rfl, HT.out.1, HT.out.2, Plain.Mrg.start src cur (by omega) (by omega)⟩
                case round =>
                  clear HT
                  obtain ⟨x, y, t, cur, rfl, rfl, rfl, rfl, htwo, hpass, hm⟩ := hrel
                  have b1 := hm.hx
                  have b2 := hm.hxm
                  have b3 := hm.hy
                  have b4 := hm.hyh
                  have b5 := hm.hk
                  have hhk : hh ≤ k := by omega
                  have HM := Kept.mk (And.intro hpass hm)
                  have HK5 := Kept.mk b5
                  clear hpass hm
                  by_cases htk : t < hh
                  · have htn : t < k := by omega
                    have hne := Later.here wr
                    by_cases hy : hh ≤ y
                    · have hxm : x < md := by omega
                      have e1 : decide ((hh : Int) ≤ (y : Int)) = true := by simp; omega
                      have e2 : decide (hh ≤ y) = true := by simp; omega
                      clear b5
                      go_wp2
                      refine wp_region_later (by kernel_rfl) (by kernel_rfl) ?_
                      repeat (go_big_quiet_step (fail))
                      refine wpQuiet_nil ?_
                      rintro W ⟨⟨_, hW⟩, rfl⟩
                      have htW := htwo.later hW
                      clear hW htwo hne e1 e2
                      obtain ⟨c0, c1, c2, c3⟩ := htW.s.at4 (show x < k by omega)
                      obtain ⟨W4, hst4, hd4⟩ := htW.store htn (src x)
                      have HS4 := Kept.mk hst4
                      have HD := Kept.mk hd4
                      clear hst4 hd4 htW
                      go_wp2_with ((with_reducible refine wpList_of_store _ W4 rfl (.tmp 93) (.tmp 92) 57 rfl (.pointer (some ⟨db, t * 4, none⟩)) (.agg #[.int .i64 (src x).sec, .int .i32 (src x).nsec, .int .i64 (src x).rank, .int .i64 (src x).run]) ?_ ?_ ?_ ?_); rfl; rfl; exact HS4.out)
                      have b5 := HK5.out
                      have hmrg := HM.out.2.takeX HSR.out.1 hxm (fun h => by omega) HSR.out.2
                      go_roundg (hh - (t + 1))
                      case measure => omega
                      case rel => exact ⟨x + 1, y, t + 1, _, rfl, by go_num, rfl, by go_num, HD.out, HM.out.1.upd (by omega), hmrg⟩
                    have e1 : decide ((hh : Int) ≤ (y : Int)) = false := by simp; omega
                    have e2 : decide (hh ≤ y) = false := by simp; omega
                    by_cases hx : x < md
                    · have e3 : decide ((x : Int) < (md : Int)) = true := by simp; omega
                      have e4 : decide (x < md) = true := by simp; omega
                      obtain ⟨u0, u1, u2, u3⟩ := htwo.s.at4 (show y < k by omega)
                      obtain ⟨v0, v1, v2, v3⟩ := htwo.s.at4 (show x < k by omega)
                      have U0 := Later.cell u0
                      have U1 := Later.cell u1
                      have U2 := Later.cell u2
                      have U3 := Later.cell u3
                      have V0 := Later.cell v0
                      have V1 := Later.cell v1
                      have V2 := Later.cell v2
                      have V3 := Later.cell v3
                      clear u0 u1 u2 u3 v0 v1 v2 v3 b5
                      cases hbf : bef (src y) (src x) with
                      | true =>
                        go_wp2
                        refine wp_region_later (by kernel_rfl) (by kernel_rfl) ?_
                        repeat (go_big_quiet_step ((go_at_call 36; exact later_of _ (b1Before_any _ _ _ _ _ _ _ _ _))))
                        refine wpQuiet_nil ?_
                        rintro W ⟨⟨_, hW⟩, rfl⟩
                        have htW := htwo.later hW
                        have HB := Kept.mk hbf
                        clear hW htwo hne U0 U1 U2 U3 V0 V1 V2 V3 e1 e2 e3 e4
                        obtain ⟨c0, c1, c2, c3⟩ := htW.s.at4 (show y < k by omega)
                        obtain ⟨W4, hst4, hd4⟩ := htW.store htn (src y)
                        have HS4 := Kept.mk hst4
                        have HD := Kept.mk hd4
                        clear hst4 hd4 htW
                        go_wp2_with ((with_reducible refine wpList_of_store _ W4 rfl (.tmp 102) (.tmp 101) 57 rfl (.pointer (some ⟨db, t * 4, none⟩)) (.agg #[.int .i64 (src y).sec, .int .i32 (src y).nsec, .int .i64 (src y).rank, .int .i64 (src y).run]) ?_ ?_ ?_ ?_); rfl; rfl; exact HS4.out)
                        have b5 := HK5.out
                        have hmrg := HM.out.2.takeY HSR.out.2 (by omega) (fun _ => (Plain.bef_iff _ _).1 HB.out) HSR.out.1
                        go_roundg (hh - (t + 1))
                        case measure => omega
                        case rel => exact ⟨x, y + 1, t + 1, _, rfl, rfl, by go_num, by go_num, HD.out, HM.out.1.upd (by omega), hmrg⟩
                      | false =>
                        go_wp2
                        refine wp_region_later (by kernel_rfl) (by kernel_rfl) ?_
                        repeat (go_big_quiet_step ((go_at_call 36; exact later_of _ (b1Before_any _ _ _ _ _ _ _ _ _))))
                        refine wpQuiet_nil ?_
                        rintro W ⟨⟨_, hW⟩, rfl⟩
                        have htW := htwo.later hW
                        have HB := Kept.mk hbf
                        clear hW htwo hne U0 U1 U2 U3 V0 V1 V2 V3 e1 e2 e3 e4
                        obtain ⟨c0, c1, c2, c3⟩ := htW.s.at4 (show x < k by omega)
                        obtain ⟨W4, hst4, hd4⟩ := htW.store htn (src x)
                        have HS4 := Kept.mk hst4
                        have HD := Kept.mk hd4
                        clear hst4 hd4 htW
                        go_wp2_with ((with_reducible refine wpList_of_store _ W4 rfl (.tmp 93) (.tmp 92) 57 rfl (.pointer (some ⟨db, t * 4, none⟩)) (.agg #[.int .i64 (src x).sec, .int .i32 (src x).nsec, .int .i64 (src x).rank, .int .i64 (src x).run]) ?_ ?_ ?_ ?_); rfl; rfl; exact HS4.out)
                        have b5 := HK5.out
                        have hmrg := HM.out.2.takeX HSR.out.1 hx (fun _ => (Plain.bef_false _ _).1 HB.out) HSR.out.2
                        go_roundg (hh - (t + 1))
                        case measure => omega
                        case rel => exact ⟨x + 1, y, t + 1, _, rfl, by go_num, rfl, by go_num, HD.out, HM.out.1.upd (by omega), hmrg⟩
                    · have e3 : decide ((x : Int) < (md : Int)) = false := by simp; omega
                      have e4 : decide (x < md) = false := by simp; omega
                      clear b5
                      go_wp2
                      refine wp_region_later (by kernel_rfl) (by kernel_rfl) ?_
                      repeat (go_big_quiet_step (fail))
                      refine wpQuiet_nil ?_
                      rintro W ⟨⟨_, hW⟩, rfl⟩
                      have htW := htwo.later hW
                      clear hW htwo hne e1 e2 e3 e4
                      obtain ⟨c0, c1, c2, c3⟩ := htW.s.at4 (show y < k by omega)
                      obtain ⟨W4, hst4, hd4⟩ := htW.store htn (src y)
                      have HS4 := Kept.mk hst4
                      have HD := Kept.mk hd4
                      clear hst4 hd4 htW
                      go_wp2_with ((with_reducible refine wpList_of_store _ W4 rfl (.tmp 102) (.tmp 101) 57 rfl (.pointer (some ⟨db, t * 4, none⟩)) (.agg #[.int .i64 (src y).sec, .int .i32 (src y).nsec, .int .i64 (src y).rank, .int .i64 (src y).run]) ?_ ?_ ?_ ?_); rfl; rfl; exact HS4.out)
                      have b5 := HK5.out
                      have hmrg := HM.out.2.takeY HSR.out.2 (by omega) (fun h => by omega) HSR.out.1
                      go_roundg (hh - (t + 1))
                      case measure => omega
                      case rel => exact ⟨x, y + 1, t + 1, _, rfl, rfl, by go_num, by go_num, HD.out, HM.out.1.upd (by omega), hmrg⟩
                  · have ex : x = md := by omega
                    have ey : y = hh := by omega
                    have et : t = hh := by omega
                    have HE := Kept.mk (And.intro htwo (show Pass src cur k v (lo + 2 * v) from HM.out.1.next hlo (by have h2 := HM.out.2; rw [ex, ey, et] at h2; rw [show min (lo + v) k = md by omega, show min (lo + 2 * v) k = hh by omega]; exact h2) hv1))
                    clear htwo ex ey et b5
                    go_wp2
                    go_roundg (k - (lo + 2 * v))
                    case measure => omega
                    case rel => exact ⟨lo + 2 * v, cur, rfl, by omega, by go_num, HE.out.1, HE.out.2⟩

              by_cases c2 : lo + v ≤ k
              · obtain ⟨md, hmd⟩ : ∃ md, md = lo + v := ⟨_, rfl⟩
                have E1 : Hid ((lo : Int) + (v : Int) = (md : Int)) := by show _ = _; omega
                rw [show min (lo + v) k = md by omega, show min (lo + 2 * v) k = k by omega] at HSR
                have D1 : decide ((k : Int) < (lo : Int) + (v : Int)) = false := by simp; omega
                have D2 : decide ((k : Int) < (lo : Int) + 2 * (v : Int)) = true := by simp; omega
                go_wp2
                rw [E1.out]
                clear E1 D1 D2
                have m1 : md ≤ lo + v := by omega
                have m2 : lo + v ≤ md := by omega
                clear hmd
                go_loopg [11, 12, 13] (k - lo) (fun g s11 s12 s13 wi => ∃ (x y t : Nat) (cur : Nat → Tn), g = k - t ∧ s11 = .int .i64 x ∧ s12 = .int .i64 y ∧ s13 = .int .i64 t ∧ Two w wi k sb db src cur ∧ Pass src cur k v lo ∧ Mrg src cur lo md k x y t)
                case atStart => exact ⟨lo, md, lo, cur, rfl, rfl, rfl, rfl, HT.out.1, HT.out.2, Plain.Mrg.start src cur (by omega) (by omega)⟩
                case round =>
                  clear HT
                  obtain ⟨x, y, t, cur, rfl, rfl, rfl, rfl, htwo, hpass, hm⟩ := hrel
                  have b1 := hm.hx
                  have b2 := hm.hxm
                  have b3 := hm.hy
                  have b4 := hm.hyh
                  have b5 := hm.hk
                  have hhk : k ≤ k := by omega
                  have HM := Kept.mk (And.intro hpass hm)
                  have HK5 := Kept.mk b5
                  clear hpass hm
                  by_cases htk : t < k
                  · have htn : t < k := by omega
                    have hne := Later.here wr
                    by_cases hy : k ≤ y
                    · have hxm : x < md := by omega
                      have e1 : decide ((k : Int) ≤ (y : Int)) = true := by simp; omega
                      have e2 : decide (k ≤ y) = true := by simp; omega
                      clear b5
                      go_wp2
                      refine wp_region_later (by kernel_rfl) (by kernel_rfl) ?_
                      repeat (go_big_quiet_step (fail))
                      refine wpQuiet_nil ?_
                      rintro W ⟨⟨_, hW⟩, rfl⟩
                      have htW := htwo.later hW
                      clear hW htwo hne e1 e2
                      obtain ⟨c0, c1, c2, c3⟩ := htW.s.at4 (show x < k by omega)
                      obtain ⟨W4, hst4, hd4⟩ := htW.store htn (src x)
                      have HS4 := Kept.mk hst4
                      have HD := Kept.mk hd4
                      clear hst4 hd4 htW
                      go_wp2_with ((with_reducible refine wpList_of_store _ W4 rfl (.tmp 93) (.tmp 92) 57 rfl (.pointer (some ⟨db, t * 4, none⟩)) (.agg #[.int .i64 (src x).sec, .int .i32 (src x).nsec, .int .i64 (src x).rank, .int .i64 (src x).run]) ?_ ?_ ?_ ?_); rfl; rfl; exact HS4.out)
                      have b5 := HK5.out
                      have hmrg := HM.out.2.takeX HSR.out.1 hxm (fun h => by omega) HSR.out.2
                      go_roundg (k - (t + 1))
                      case measure => omega
                      case rel => exact ⟨x + 1, y, t + 1, _, rfl, by go_num, rfl, by go_num, HD.out, HM.out.1.upd (by omega), hmrg⟩
                    have e1 : decide ((k : Int) ≤ (y : Int)) = false := by simp; omega
                    have e2 : decide (k ≤ y) = false := by simp; omega
                    by_cases hx : x < md
                    · have e3 : decide ((x : Int) < (md : Int)) = true := by simp; omega
                      have e4 : decide (x < md) = true := by simp; omega
                      obtain ⟨u0, u1, u2, u3⟩ := htwo.s.at4 (show y < k by omega)
                      obtain ⟨v0, v1, v2, v3⟩ := htwo.s.at4 (show x < k by omega)
                      have U0 := Later.cell u0
                      have U1 := Later.cell u1
                      have U2 := Later.cell u2
                      have U3 := Later.cell u3
                      have V0 := Later.cell v0
                      have V1 := Later.cell v1
                      have V2 := Later.cell v2
                      have V3 := Later.cell v3
                      clear u0 u1 u2 u3 v0 v1 v2 v3 b5
                      cases hbf : bef (src y) (src x) with
                      | true =>
                        go_wp2
                        refine wp_region_later (by kernel_rfl) (by kernel_rfl) ?_
                        repeat (go_big_quiet_step ((go_at_call 36; exact later_of _ (b1Before_any _ _ _ _ _ _ _ _ _))))
                        refine wpQuiet_nil ?_
                        rintro W ⟨⟨_, hW⟩, rfl⟩
                        have htW := htwo.later hW
                        have HB := Kept.mk hbf
                        clear hW htwo hne U0 U1 U2 U3 V0 V1 V2 V3 e1 e2 e3 e4
                        obtain ⟨c0, c1, c2, c3⟩ := htW.s.at4 (show y < k by omega)
                        obtain ⟨W4, hst4, hd4⟩ := htW.store htn (src y)
                        have HS4 := Kept.mk hst4
                        have HD := Kept.mk hd4
                        clear hst4 hd4 htW
                        go_wp2_with ((with_reducible refine wpList_of_store _ W4 rfl (.tmp 102) (.tmp 101) 57 rfl (.pointer (some ⟨db, t * 4, none⟩)) (.agg #[.int .i64 (src y).sec, .int .i32 (src y).nsec, .int .i64 (src y).rank, .int .i64 (src y).run]) ?_ ?_ ?_ ?_); rfl; rfl; exact HS4.out)
                        have b5 := HK5.out
                        have hmrg := HM.out.2.takeY HSR.out.2 (by omega) (fun _ => (Plain.bef_iff _ _).1 HB.out) HSR.out.1
                        go_roundg (k - (t + 1))
                        case measure => omega
                        case rel => exact ⟨x, y + 1, t + 1, _, rfl, rfl, by go_num, by go_num, HD.out, HM.out.1.upd (by omega), hmrg⟩
                      | false =>
                        go_wp2
                        refine wp_region_later (by kernel_rfl) (by kernel_rfl) ?_
                        repeat (go_big_quiet_step ((go_at_call 36; exact later_of _ (b1Before_any _ _ _ _ _ _ _ _ _))))
                        refine wpQuiet_nil ?_
                        rintro W ⟨⟨_, hW⟩, rfl⟩
                        have htW := htwo.later hW
                        have HB := Kept.mk hbf
                        clear hW htwo hne U0 U1 U2 U3 V0 V1 V2 V3 e1 e2 e3 e4
                        obtain ⟨c0, c1, c2, c3⟩ := htW.s.at4 (show x < k by omega)
                        obtain ⟨W4, hst4, hd4⟩ := htW.store htn (src x)
                        have HS4 := Kept.mk hst4
                        have HD := Kept.mk hd4
                        clear hst4 hd4 htW
                        go_wp2_with ((with_reducible refine wpList_of_store _ W4 rfl (.tmp 93) (.tmp 92) 57 rfl (.pointer (some ⟨db, t * 4, none⟩)) (.agg #[.int .i64 (src x).sec, .int .i32 (src x).nsec, .int .i64 (src x).rank, .int .i64 (src x).run]) ?_ ?_ ?_ ?_); rfl; rfl; exact HS4.out)
                        have b5 := HK5.out
                        have hmrg := HM.out.2.takeX HSR.out.1 hx (fun _ => (Plain.bef_false _ _).1 HB.out) HSR.out.2
                        go_roundg (k - (t + 1))
                        case measure => omega
                        case rel => exact ⟨x + 1, y, t + 1, _, rfl, by go_num, rfl, by go_num, HD.out, HM.out.1.upd (by omega), hmrg⟩
                    · have e3 : decide ((x : Int) < (md : Int)) = false := by simp; omega
                      have e4 : decide (x < md) = false := by simp; omega
                      clear b5
                      go_wp2
                      refine wp_region_later (by kernel_rfl) (by kernel_rfl) ?_
                      repeat (go_big_quiet_step (fail))
                      refine wpQuiet_nil ?_
                      rintro W ⟨⟨_, hW⟩, rfl⟩
                      have htW := htwo.later hW
                      clear hW htwo hne e1 e2 e3 e4
                      obtain ⟨c0, c1, c2, c3⟩ := htW.s.at4 (show y < k by omega)
                      obtain ⟨W4, hst4, hd4⟩ := htW.store htn (src y)
                      have HS4 := Kept.mk hst4
                      have HD := Kept.mk hd4
                      clear hst4 hd4 htW
                      go_wp2_with ((with_reducible refine wpList_of_store _ W4 rfl (.tmp 102) (.tmp 101) 57 rfl (.pointer (some ⟨db, t * 4, none⟩)) (.agg #[.int .i64 (src y).sec, .int .i32 (src y).nsec, .int .i64 (src y).rank, .int .i64 (src y).run]) ?_ ?_ ?_ ?_); rfl; rfl; exact HS4.out)
                      have b5 := HK5.out
                      have hmrg := HM.out.2.takeY HSR.out.2 (by omega) (fun h => by omega) HSR.out.1
                      go_roundg (k - (t + 1))
                      case measure => omega
                      case rel => exact ⟨x, y + 1, t + 1, _, rfl, rfl, by go_num, by go_num, HD.out, HM.out.1.upd (by omega), hmrg⟩
                  · have ex : x = md := by omega
                    have ey : y = k := by omega
                    have et : t = k := by omega
                    have HE := Kept.mk (And.intro htwo (show Pass src cur k v (lo + 2 * v) from HM.out.1.next hlo (by have h2 := HM.out.2; rw [ex, ey, et] at h2; rw [show min (lo + v) k = md by omega, show min (lo + 2 * v) k = k by omega]; exact h2) hv1))
                    clear htwo ex ey et b5
                    go_wp2
                    go_roundg (k - (lo + 2 * v))
                    case measure => omega
                    case rel => exact ⟨lo + 2 * v, cur, rfl, by omega, by go_num, HE.out.1, HE.out.2⟩

              rw [show min (lo + v) k = k by omega, show min (lo + 2 * v) k = k by omega] at HSR
              have D1 : decide ((k : Int) < (lo : Int) + (v : Int)) = true := by simp; omega
              have D2 : decide ((k : Int) < (lo : Int) + 2 * (v : Int)) = true := by simp; omega
              go_wp2
              clear D1 D2
              go_loopg [11, 12, 13] (k - lo) (fun g s11 s12 s13 wi => ∃ (x y t : Nat) (cur : Nat → Tn), g = k - t ∧ s11 = .int .i64 x ∧ s12 = .int .i64 y ∧ s13 = .int .i64 t ∧ Two w wi k sb db src cur ∧ Pass src cur k v lo ∧ Mrg src cur lo k k x y t)
              case atStart => exact ⟨lo, k, lo, cur, rfl, rfl, rfl, rfl, HT.out.1, HT.out.2, Plain.Mrg.start src cur (by omega) (by omega)⟩
              case round =>
                clear HT
                obtain ⟨x, y, t, cur, rfl, rfl, rfl, rfl, htwo, hpass, hm⟩ := hrel
                have b1 := hm.hx
                have b2 := hm.hxm
                have b3 := hm.hy
                have b4 := hm.hyh
                have b5 := hm.hk
                have hhk : k ≤ k := by omega
                have HM := Kept.mk (And.intro hpass hm)
                have HK5 := Kept.mk b5
                clear hpass hm
                by_cases htk : t < k
                · have htn : t < k := by omega
                  have hne := Later.here wr
                  by_cases hy : k ≤ y
                  · have hxm : x < k := by omega
                    have e1 : decide ((k : Int) ≤ (y : Int)) = true := by simp; omega
                    have e2 : decide (k ≤ y) = true := by simp; omega
                    clear b5
                    go_wp2
                    refine wp_region_later (by kernel_rfl) (by kernel_rfl) ?_
                    repeat (go_big_quiet_step (fail))
                    refine wpQuiet_nil ?_
                    rintro W ⟨⟨_, hW⟩, rfl⟩
                    have htW := htwo.later hW
                    clear hW htwo hne e1 e2
                    obtain ⟨c0, c1, c2, c3⟩ := htW.s.at4 (show x < k by omega)
                    obtain ⟨W4, hst4, hd4⟩ := htW.store htn (src x)
                    have HS4 := Kept.mk hst4
                    have HD := Kept.mk hd4
                    clear hst4 hd4 htW
                    go_wp2_with ((with_reducible refine wpList_of_store _ W4 rfl (.tmp 93) (.tmp 92) 57 rfl (.pointer (some ⟨db, t * 4, none⟩)) (.agg #[.int .i64 (src x).sec, .int .i32 (src x).nsec, .int .i64 (src x).rank, .int .i64 (src x).run]) ?_ ?_ ?_ ?_); rfl; rfl; exact HS4.out)
                    have b5 := HK5.out
                    have hmrg := HM.out.2.takeX HSR.out.1 hxm (fun h => by omega) HSR.out.2
                    go_roundg (k - (t + 1))
                    case measure => omega
                    case rel => exact ⟨x + 1, y, t + 1, _, rfl, by go_num, rfl, by go_num, HD.out, HM.out.1.upd (by omega), hmrg⟩
                  exact absurd b3 (by omega)
                · have ex : x = k := by omega
                  have ey : y = k := by omega
                  have et : t = k := by omega
                  have HE := Kept.mk (And.intro htwo (show Pass src cur k v (lo + 2 * v) from HM.out.1.next hlo (by have h2 := HM.out.2; rw [ex, ey, et] at h2; rw [show min (lo + v) k = k by omega, show min (lo + 2 * v) k = k by omega]; exact h2) hv1))
                  clear htwo ex ey et b5
                  go_wp2
                  go_roundg (k - (lo + 2 * v))
                  case measure => omega
                  case rel => exact ⟨lo + 2 * v, cur, rfl, by omega, by go_num, HE.out.1, HE.out.2⟩

            · have HE := Kept.mk (And.intro htwo.swap (hpass.done (by omega)))
              clear htwo hpass
              go_wp2
              go_roundg (k - 2 * v)
              case measure => omega
              case rel => exact ⟨2 * v, db, sb, cur, src, rfl, by omega, by omega, by go_num, rfl, rfl, HE.out.1, HE.out.2.1.trans HR.out.1, HE.out.2.2⟩
        · have HE := Kept.mk htwo
          clear htwo
          go_wp2
          go_ret
          exact ⟨sb, src, rfl, HE.out.sN, HE.out.bel, ⟨HR.out.1, HR.out.2.all (by omega)⟩, HE.out.s⟩

end Go.Proofs.Qxb6000182a
