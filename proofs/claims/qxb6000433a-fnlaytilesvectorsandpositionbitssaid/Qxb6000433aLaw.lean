import Derived.Test.Qxb6000433aLawPre
namespace Go.Proofs.Qxb6000433a
open Go.RowKit
open Plain (Whole P fac S B)

def Cloned (w : World) (l : Nat) (kz az bz : Nat → Int) (e : Ending) (w' : World) : Prop :=
  ∃ (ad : Option Addr) (cp go : Nat), e = .returned (.slice ad l cp) ∧ (0 < l → ad = some ⟨go, 0, none⟩) ∧ OpsAt w' go l kz az bz ∧ Below w.heap.size w w'

set_option maxRecDepth 100000 in
set_option maxHeartbeats 3200000 in
theorem law_any (a : Option Addr) (l cap : Nat) (kz az bz : Nat → Int) (w : World) (hC : l ≤ 4096 → Calls Try.prog 11 #[.slice a l cap] w fun e w' => Cloned w l kz az bz e w') (hl : l ≤ maxLen) :
    Calls Try.prog 9 #[.slice a l cap] w fun e w' => e = .returned (.bool true) ∧ Below w.heap.size w w' := by
  by_cases h1 : 1048576 < l
  · have HB := Kept.mk (zzBytes_big a l cap w h1 hl)
    clear hC hl
    go_enter Try.func9, Try.ntmps9
    go_wp2_with fail
    refine HB.out.mono ?_
    rintro e W ⟨rfl, rfl⟩
    go_wp2
    go_ret
    exact ⟨rfl, Below.refl _ _⟩
  have HB := Kept.mk (zzBytes_any a l cap w (by omega))
  by_cases h2 : 4096 < l
  · clear hC hl
    go_enter Try.func9, Try.ntmps9
    go_wp2_with fail
    refine HB.out.mono ?_
    rintro e W ⟨rfl, rfl⟩
    go_wp2
    go_ret
    exact ⟨rfl, Below.refl _ _⟩
  have HC := Kept.mk (hC (by omega))
  have hl2 : l ≤ 4096 := by omega
  clear hC hl h1 h2
  go_enter Try.func9, Try.ntmps9
  go_wp2_with fail
  refine HB.out.mono ?_
  rintro e W ⟨rfl, rfl⟩
  clear HB
  go_wp2_with fail
  refine HC.out.mono ?_
  rintro e W1 ⟨ad, cp, go, rfl, hd, hO, hb1⟩
  clear HC
  have HT := Kept.mk (build_any go l ad cp kz az bz W1 hO hd hl2)
  have HB1 := Kept.mk hb1
  clear hd hO hb1
  go_wp2_with fail
  refine HT.out.mono ?_
  rintro e W2 ⟨A, m, C, ok, rfl, hb2, hok⟩
  clear HT
  have hb3 : Below W.heap.size W W2 := HB1.out.trans (hb2.mono HB1.out.size)
  have HB3 := Kept.mk (hb3.alloc hb3.size (.cells #[.slice (A 0) m (C 0), .slice (A 1) m (C 1), .slice (A 2) m (C 2), .slice (A 3) m (C 3), .slice (A 4) m (C 4), .slice (A 5) m (C 5), .slice (A 6) m (C 6), .slice (A 7) m (C 7), .slice (A 8) m (C 8)] 28))
  have HOK := Kept.mk hok
  have HTN := Kept.mk (fun (F : Nat → Nat → Int) (g : Nat → Nat) => tree_new (w := W2) (A := A) (m := m) (C := C) (g := g) (F := F))
  clear hb3 hb2 hok HB1
  unfold agg9
  cases ok with
  | false =>
    go_wp2
    go_ret
    exact ⟨rfl, HB3.out⟩
  | true =>
    obtain ⟨F, K, par, g, hA, hv, hW, hm⟩ := HOK.out rfl
    have HT := Kept.mk (HTN.out F g hA hv)
    have HW := Kept.mk hW
    clear hA hv hW HOK HTN
    go_upto_region 9 with fail
    generalize (W2.alloc (.cells #[.slice (A 0) m (C 0), .slice (A 1) m (C 1), .slice (A 2) m (C 2), .slice (A 3) m (C 3), .slice (A 4) m (C 4), .slice (A 5) m (C 5), .slice (A 6) m (C 6), .slice (A 7) m (C 7), .slice (A 8) m (C 8)] 28)) = W3 at HT HB3 ⊢
    generalize W2.heap.size = bt at HT ⊢
    go_wp2_with fail
    refine (multModel_any bt m F C g K par W3 HT.out HW.out (by omega)).mono ?_
    rintro e W4 ⟨gm, rfl, hb4, hrow⟩
    have HT4 := Kept.mk (HT.out.later hb4)
    have HB4 := Kept.mk (HB3.out.trans (hb4.mono HB3.out.size))
    have HF := Kept.mk (layTotals_any bt m gm F C g (P F par m) W4 HT4.out (by omega) hrow HW.out.run)
    clear hb4 hrow HT HB3
    go_wp2_with fail
    refine HF.out.mono ?_
    rintro e W5 ⟨x, y, ok, rfl, hb5, hfit⟩
    have HT5 := Kept.mk (HT4.out.later hb5)
    have HB5 := Kept.mk (HB4.out.trans (hb5.mono HB4.out.size))
    have HFit := Kept.mk hfit
    clear hb5 hfit HT4 HB4 HF
    cases ok with
    | false =>
      go_wp2
      go_ret
      exact ⟨rfl, HB5.out⟩
    | true =>
      obtain ⟨hM, hB, hS⟩ := HFit.out rfl
      have HFits := Kept.mk (And.intro hM (And.intro hB hS))
      clear hM hB hS HFit
      go_wp2_with fail
      refine (program_any bt m F C g W5 HT5.out (by omega)).mono ?_
      rintro e W6 ⟨bp, gn, rfl, q1, q2, q3, q4, q5, q6, q7⟩
      have HA := Kept.mk (zzLay_any W5.heap.size bp gn m F K par W6 HW.out ⟨q5, q6, q7, q3, q1, q2, Below.refl _ _⟩ (by omega) HFits.out.1 HFits.out.2.2 HFits.out.2.1)
      have HB6 := Kept.mk q4
      clear q1 q2 q3 q4 q5 q6 q7
      go_wp2_with fail
      refine HA.out.mono ?_
      rintro e W7 ⟨rfl, N, hLA, hLO⟩
      clear HA
      have hb7 := HB6.out.trans hLA.bel
      have HT7 := Kept.mk (HT5.out.later hb7)
      have HB7 := Kept.mk (HB5.out.trans (hb7.mono HB5.out.size))
      have HPN := Kept.mk (And.intro hLA.pat hLA.row)
      have HLO := Kept.mk hLO
      clear hLA hLO hb7 HT5 HB5 HB6
      have HRun := Kept.mk HW.out.run
      have hpos := HW.out.pos
      clear HW
      generalize P F par m = mu at HPN HLO HFits
      have hS2 := HFits.out.2.2
      have hB2 := HFits.out.2.1
      have HM := Kept.mk HFits.out.1
      clear HFits
      obtain ⟨vw, hvw⟩ : ∃ vw, vw = S mu m := ⟨_, rfl⟩
      obtain ⟨bits, hbits⟩ : ∃ bits, bits = B F mu m := ⟨_, rfl⟩
      rw [← hvw, ← hbits] at HPN
      rw [← hvw] at hS2
      rw [← hbits] at hB2
      have HVB := Kept.mk (And.intro hvw hbits)
      clear hvw hbits
      go_wp2_with fail
      refine (sizes_any bp gn m bits vw W7 HPN.out.1).mono ?_
      rintro e W8 ⟨rfl, hb8⟩
      have HT8 := Kept.mk (HT7.out.later hb8)
      have HB8 := Kept.mk (HB7.out.trans (hb8.mono HB7.out.size))
      have HP8 := Kept.mk (show PAt W8 bp gn m bits vw from ⟨by rw [hb8.cell (World.block_lt_of_cell? _ _ HPN.out.1.c0)]; exact HPN.out.1.c0, by rw [hb8.cell (World.block_lt_of_cell? _ _ HPN.out.1.c3)]; exact HPN.out.1.c3, by rw [hb8.cell (World.block_lt_of_cell? _ _ HPN.out.1.c4)]; exact HPN.out.1.c4⟩)
      have HN8 := Kept.mk (HPN.out.2.later hb8)
      clear hb8 HT7 HB7 HPN
      have hmk1 := run_make_row' (P := Try.prog) 61 4 (.bool false) 1 Try.underlying61 Try.info4 rfl .i64 .i64 vw (by omega) (by omega)
      have hmk2 := run_make_row' (P := Try.prog) 61 4 (.bool false) 1 Try.underlying61 Try.info4 rfl .i64 .i64 bits (by omega) (by omega)
      have HL := Kept.mk (Law.start W8 vw bits)
      go_wp2
      clear hmk1 hmk2
      go_loopg [14] m (fun g' i wr => ∃ v : Nat, v ≤ m ∧ g' = m - v ∧ i = .int .i64 (v : Int) ∧ Law W8 wr vw bits (S mu v) (B F mu v))
      case atStart => exact ⟨0, Nat.zero_le _, rfl, rfl, HL.out⟩
      case round =>
        clear HL
        obtain ⟨v, hv, rfl, rfl, hlaw⟩ := hrel
        have hT := HT8.out.later hlaw.bel
        have c0 := hT.cell 0 (by omega)
        by_cases hvm : v < m
        · have hS3 : S mu (v + 1) ≤ vw := by rw [HVB.out.1]; exact Plain.S_mono mu (by omega)
          have hB3 : B F mu (v + 1) ≤ bits := by rw [HVB.out.2]; exact Plain.B_mono F mu (by omega)
          have HC := layout_any bp gn m bits vw v N wr ⟨by rw [hlaw.bel.cell (World.block_lt_of_cell? _ _ HP8.out.c0)]; exact HP8.out.c0, by rw [hlaw.bel.cell (World.block_lt_of_cell? _ _ HP8.out.c3)]; exact HP8.out.c3, by rw [hlaw.bel.cell (World.block_lt_of_cell? _ _ HP8.out.c4)]; exact HP8.out.c4⟩ (HN8.out.later hlaw.bel) hvm
          rw [HLO.out.mult v hvm, HLO.out.vec v hvm, HLO.out.words v hvm] at HC
          have hmv := HM.out v hvm
          have HS1 := Kept.mk (show S mu (v + 1) = S mu v + Plain.words (mu v) from rfl)
          have HB1 := Kept.mk (show B F mu (v + 1) = B F mu v + (if F 0 v = 0 then (F 5 v - F 4 v).toNat * mu v else 0) from rfl)
          have hw64 : mu v ≤ Plain.words (mu v) * 64 := by unfold Plain.words; omega
          have hwb : Plain.words (mu v) ≤ 1048577 := by unfold Plain.words; omega
          rw [HS1.out] at hS3
          have HBV := Kept.mk hB3
          clear hB3
          obtain ⟨s, hs⟩ : ∃ s, s = S mu v := ⟨_, rfl⟩
          obtain ⟨wv, hwv⟩ : ∃ wv, wv = Plain.words (mu v) := ⟨_, rfl⟩
          obtain ⟨mv, hmvv⟩ : ∃ mv, mv = mu v := ⟨_, rfl⟩
          obtain ⟨bb, hbb⟩ : ∃ bb, bb = B F mu v := ⟨_, rfl⟩
          rw [← hwv] at hS3 hw64 hwb HC HS1
          rw [← hs] at hS3 HC HS1 hlaw
          rw [← hmvv] at hw64 hmv HC HB1
          rw [← hbb] at HB1 hlaw
          have HE := Kept.mk (And.intro hs (And.intro hwv (And.intro hmvv hbb)))
          clear hs hwv hmvv
          have HLaw := Kept.mk hlaw
          have HCC := Kept.mk HC
          clear hlaw HC hT
          by_cases hk0 : F 0 v = 0
          · have hb0 : (F 0 v == 0) = true := by simp [hk0]
            have hnb := HLO.out.base v hvm hk0
            rw [← hbb] at hnb
            obtain ⟨r1, r2, r3, r4⟩ := HRun.out v hvm hk0
            rw [if_pos hk0] at HB1
            obtain ⟨d, hd⟩ : ∃ d, d = (F 5 v - F 4 v).toNat := ⟨_, rfl⟩
            rw [← hd] at HB1
            have hd8 : d ≤ 8 := by omega
            obtain ⟨z, hz⟩ : ∃ z, z = d * mv := ⟨_, rfl⟩
            rw [← hz] at HB1
            have hbz : bb + z ≤ bits := by have := HBV.out; rw [HB1.out] at this; exact this
            have hz7 : z ≤ 536870912 := by rw [hz]; exact Nat.mul_le_mul hd8 hmv
            have ez : (F 5 v - F 4 v) * ((mv : Nat) : Int) = (z : Int) := by rw [hz, Int.natCast_mul]; congr 1; omega
            have HZ := Kept.mk ez
            have hm0 : 0 ≤ (F 5 v - F 4 v) * ((mv : Nat) : Int) := by omega
            have hm7 : (F 5 v - F 4 v) * ((mv : Nat) : Int) ≤ 536870912 := by omega
            have HCD := HCC.out
            rw [hnb] at HCD
            have HCE := Kept.mk HCD
            have HR := Kept.mk (And.intro hm0 hm7)
            clear HCD HCC hd hz ez hk0 HBV hnb hbb hm0 hm7
            go_wp2_with fail
            refine HCE.out.mono ?_
            rintro e W9 ⟨rfl, hb9⟩
            have HL9 := Kept.mk (HLaw.out.later hb9)
            clear hb9 HCE HLaw c0
            go_wp2
            go_loopg [19] wv (fun g' i wi => ∃ t : Nat, s ≤ t ∧ t ≤ s + wv ∧ g' = s + wv - t ∧ i = .int .i64 (t : Int) ∧ Law W8 wi vw bits t bb)
            case atStart => exact ⟨s, Nat.le_refl _, Nat.le_add_right _ _, by omega, rfl, HL9.out⟩
            case round =>
              clear HL9
              obtain ⟨t, ht0, ht1, rfl, rfl, hlaw⟩ := hrel
              by_cases htw : t < s + wv
              · have hc : wr.cell? ⟨W8.heap.size, t, none⟩ = some (.bool false) := by rw [World.rowIs.cell hlaw.words (by omega)]; simp [tr]
                have hz := World.rowIs.frozen hlaw.words t
                have HL := Kept.mk hlaw.setW
                clear hlaw
                go_wp2
                go_roundg (s + wv - (t + 1))
                case measure => omega
                case rel => exact ⟨t + 1, by omega, by omega, rfl, by go_num, HL.out⟩
              · obtain rfl : t = s + wv := by omega
                have hT := HT8.out.later hlaw.bel
                have c0 := hT.cell 0 (by omega)
                have c4 := hT.cell 4 (by omega)
                have c5 := hT.cell 5 (by omega)
                have v0 : wr.cell? ⟨g 0, v, none⟩ = some (.int .u8 (F 0 v)) := hT.val 0 (by omega) v hvm
                have v4 : wr.cell? ⟨g 4, v, none⟩ = some (.int .i32 (F 4 v)) := hT.val 4 (by omega) v hvm
                have v5 : wr.cell? ⟨g 5, v, none⟩ = some (.int .i32 (F 5 v)) := hT.val 5 (by omega) v hvm
                have HL := Kept.mk hlaw
                obtain ⟨hm0, hm7⟩ := HR.out
                clear hlaw hT
                go_wp2
                go_quiet (fail)
                go_upto_region 36 with fail
                rw [HZ.out]
                clear hm0 hm7 v0 v4 v5 c0 c4 c5
                have HL2 := Kept.mk (show Law W8 (wr.drewN nq) vw bits (s + wv) bb from HL.out.later (below_drewN (Below.refl _ _) nq))
                clear HL
                generalize wr.drewN nq = wq at HL2 ⊢
                go_wp2
                go_loopg [21] z (fun g' i wi => ∃ t : Nat, bb ≤ t ∧ t ≤ bb + z ∧ g' = bb + z - t ∧ i = .int .i64 (t : Int) ∧ Law W8 wi vw bits (s + wv) t)
                case atStart => exact ⟨bb, Nat.le_refl _, Nat.le_add_right _ _, by omega, rfl, HL2.out⟩
                case round =>
                  clear HL2
                  obtain ⟨t, ht0, ht1, rfl, rfl, hlaw⟩ := hrel
                  by_cases htw : t < bb + z
                  · have hc : wr.cell? ⟨W8.heap.size + 1, t, none⟩ = some (.bool false) := by rw [World.rowIs.cell hlaw.cover (by omega)]; simp [tr]
                    have hz := World.rowIs.frozen hlaw.cover t
                    have HL := Kept.mk hlaw.setC
                    clear hlaw
                    go_wp2
                    go_roundg (bb + z - (t + 1))
                    case measure => omega
                    case rel => exact ⟨t + 1, by omega, by omega, rfl, by go_num, HL.out⟩
                  · obtain rfl : t = bb + z := by omega
                    have HL := Kept.mk hlaw
                    clear hlaw
                    go_wp2
                    go_roundg (m - (v + 1))
                    case measure => omega
                    case rel => exact ⟨v + 1, by omega, rfl, by go_num, by rw [HS1.out, HB1.out]; exact HL.out⟩
          · have hb0 : (F 0 v == 0) = false := by simp [hk0]
            have HB2 := Kept.mk (show B F mu (v + 1) = bb by rw [HB1.out, if_neg hk0]; rfl)
            clear HB1 HBV hk0
            go_wp2_with fail
            refine HCC.out.mono ?_
            rintro e W9 ⟨rfl, hb9⟩
            have HL9 := Kept.mk (HLaw.out.later hb9)
            clear hb9 HCC HLaw c0 hbb
            generalize N 11 v = nb
            go_wp2
            go_loopg [19] wv (fun g' i wi => ∃ t : Nat, s ≤ t ∧ t ≤ s + wv ∧ g' = s + wv - t ∧ i = .int .i64 (t : Int) ∧ Law W8 wi vw bits t bb)
            case atStart => exact ⟨s, Nat.le_refl _, Nat.le_add_right _ _, by omega, rfl, HL9.out⟩
            case round =>
              clear HL9
              obtain ⟨t, ht0, ht1, rfl, rfl, hlaw⟩ := hrel
              by_cases htw : t < s + wv
              · have hc : wr.cell? ⟨W8.heap.size, t, none⟩ = some (.bool false) := by rw [World.rowIs.cell hlaw.words (by omega)]; simp [tr]
                have hz := World.rowIs.frozen hlaw.words t
                have HL := Kept.mk hlaw.setW
                clear hlaw
                go_wp2
                go_roundg (s + wv - (t + 1))
                case measure => omega
                case rel => exact ⟨t + 1, by omega, by omega, rfl, by go_num, HL.out⟩
              · obtain rfl : t = s + wv := by omega
                have hT := HT8.out.later hlaw.bel
                have c0 := hT.cell 0 (by omega)
                have v0 : wr.cell? ⟨g 0, v, none⟩ = some (.int .u8 (F 0 v)) := hT.val 0 (by omega) v hvm
                have HL := Kept.mk hlaw
                clear hlaw hT
                go_wp2
                go_roundg (m - (v + 1))
                case measure => omega
                case rel => exact ⟨v + 1, by omega, rfl, by go_num, by rw [HS1.out, HB2.out]; exact HL.out⟩
        · obtain rfl : v = m := by omega
          have hlaw2 : Law W8 wr vw bits vw bits := by have := hlaw; rw [← HVB.out.1, ← HVB.out.2] at this; exact this
          have HL := Kept.mk hlaw2
          clear hlaw2 hlaw hT
          go_wp2
          clear c0
          go_loopg [22] vw (fun g' i wi => ∃ t : Nat, t ≤ vw ∧ g' = vw - t ∧ i = .int .i64 (t : Int) ∧ Law W8 wi vw bits vw bits)
          case atStart => exact ⟨0, Nat.zero_le _, rfl, rfl, HL.out⟩
          case round =>
            clear HL
            obtain ⟨t, ht, rfl, rfl, hlaw⟩ := hrel
            by_cases htv : t < vw
            · have hc : wr.cell? ⟨W8.heap.size, t, none⟩ = some (.bool true) := by rw [World.rowIs.cell hlaw.words htv]; simp [tr, htv]
              have HL := Kept.mk hlaw
              clear hlaw
              go_wp2
              go_roundg (vw - (t + 1))
              case measure => omega
              case rel => exact ⟨t + 1, by omega, rfl, by go_num, HL.out⟩
            · obtain rfl : t = vw := by omega
              have HL := Kept.mk hlaw
              clear hlaw
              go_wp2
              go_loopg [23] bits (fun g' i wi => ∃ u : Nat, u ≤ bits ∧ g' = bits - u ∧ i = .int .i64 (u : Int) ∧ Law W8 wi t bits t bits)
              case atStart => exact ⟨0, Nat.zero_le _, rfl, rfl, HL.out⟩
              case round =>
                clear HL
                obtain ⟨u, hu, rfl, rfl, hlaw⟩ := hrel
                by_cases hub : u < bits
                · have hc : wr.cell? ⟨W8.heap.size + 1, u, none⟩ = some (.bool true) := by rw [World.rowIs.cell hlaw.cover hub]; simp [tr, hub]
                  have HL := Kept.mk hlaw
                  clear hlaw
                  go_wp2
                  go_roundg (bits - (u + 1))
                  case measure => omega
                  case rel => exact ⟨u + 1, by omega, rfl, by go_num, HL.out⟩
                · obtain rfl : u = bits := by omega
                  have HR := Kept.mk (HB8.out.trans (hlaw.bel.mono HB8.out.size))
                  clear hlaw
                  go_wp2
                  go_ret
                  exact ⟨rfl, HR.out⟩

end Go.Proofs.Qxb6000433a
