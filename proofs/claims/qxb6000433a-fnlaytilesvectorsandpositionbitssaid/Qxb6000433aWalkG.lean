import Derived.Test.Qxb6000433aWalkF
import Derived.Deep.Cut
import Derived.StillTailTactics
namespace Go.Proofs.Qxb6000433a
open Go.RowKit
open Plain (Whole P fac S B)

/-- What lay leaves. -/
structure LaidOut (F : Nat → Nat → Int) (m : Nat → Nat) (n t : Nat) (N : Nat → Nat → Int) : Prop where
  mult : ∀ c, c < n → N 10 c = (m c : Int)
  old : ∀ i c, i < 9 → N i c = F i c
  vec : ∀ c, c < t → N 12 c = (S m c : Int)
  words : ∀ c, c < t → N 13 c = (Plain.words (m c) : Int)
  base : ∀ c, c < t → F 0 c = 0 → N 11 c = (B F m c : Int)

theorem LaidOut.next {F : Nat → Nat → Int} {m : Nat → Nat} {n t : Nat} {N : Nat → Nat → Int} (h : LaidOut F m n t N) (hk : F 0 t ≠ 0) :
    LaidOut F m n (t + 1) (set2 (set2 N 12 t ((S m t : Nat) : Int)) 13 t ((Plain.words (m t) : Nat) : Int)) := by
  refine ⟨fun c hc => ?_, fun i c hi => ?_, fun c hc => ?_, fun c hc => ?_, fun c hc h0 => ?_⟩
  · simp only [set2]; rw [if_neg (by omega), if_neg (by omega)]; exact h.mult c hc
  · simp only [set2]; rw [if_neg (by omega), if_neg (by omega)]; exact h.old i c hi
  · simp only [set2]; rw [if_neg (by omega)]
    by_cases e : c = t
    · rw [if_pos ⟨trivial, e⟩, e]
    · rw [if_neg (by omega)]; exact h.vec c (by omega)
  · simp only [set2]
    by_cases e : c = t
    · rw [if_pos ⟨trivial, e⟩, e]
    · rw [if_neg (by omega), if_neg (by omega)]; exact h.words c (by omega)
  · simp only [set2]; rw [if_neg (by omega), if_neg (by omega)]
    by_cases e : c = t
    · rw [e] at h0; exact absurd h0 hk
    · exact h.base c (by omega) h0

theorem LaidOut.next0 {F : Nat → Nat → Int} {m : Nat → Nat} {n t : Nat} {N : Nat → Nat → Int} (h : LaidOut F m n t N) :
    LaidOut F m n (t + 1) (set2 (set2 (set2 N 12 t ((S m t : Nat) : Int)) 13 t ((Plain.words (m t) : Nat) : Int)) 11 t ((B F m t : Nat) : Int)) := by
  refine ⟨fun c hc => ?_, fun i c hi => ?_, fun c hc => ?_, fun c hc => ?_, fun c hc h0 => ?_⟩
  · simp only [set2]; rw [if_neg (by omega), if_neg (by omega), if_neg (by omega)]; exact h.mult c hc
  · simp only [set2]; rw [if_neg (by omega), if_neg (by omega), if_neg (by omega)]; exact h.old i c hi
  · simp only [set2]; rw [if_neg (by omega), if_neg (by omega)]
    by_cases e : c = t
    · rw [if_pos ⟨trivial, e⟩, e]
    · rw [if_neg (by omega)]; exact h.vec c (by omega)
  · simp only [set2]; rw [if_neg (by omega)]
    by_cases e : c = t
    · rw [if_pos ⟨trivial, e⟩, e]
    · rw [if_neg (by omega), if_neg (by omega)]; exact h.words c (by omega)
  · simp only [set2]
    by_cases e : c = t
    · rw [if_pos ⟨trivial, e⟩, e]
    · rw [if_neg (by omega), if_neg (by omega), if_neg (by omega)]; exact h.base c (by omega) h0

set_option maxRecDepth 100000 in
set_option maxHeartbeats 3200000 in
theorem lay_any (base bp gn n : Nat) (F : Nat → Nat → Int) (K : Nat → List Nat) (par : Nat → Nat) (w : World) (hW : Whole F n K par) (hA : LayAt w base w bp gn n (N0 F) 0 0) (hn : n ≤ 5000)
    (hM : ∀ c, c < n → P F par n c ≤ 67108864) (hS : S (P F par n) n ≤ 1048576) (hB : B F (P F par n) n ≤ 4194304) :
    Calls Try.prog 43 #[.pointer (some ⟨bp, 0, none⟩)] w fun e w' => e = .returned (.tuple #[]) ∧ ∃ N, LayAt w base w' bp gn n N (B F (P F par n) n) (S (P F par n) n) ∧ LaidOut F (P F par n) n n N := by
  have hpos := hW.pos
  have HW := Kept.mk hW
  have HM := Kept.mk hM
  have HSB := Kept.mk (And.intro hS hB)
  have hc0 := hA.pat.c0
  obtain ⟨l, hl⟩ : ∃ l, n = l + 1 := ⟨n - 1, by omega⟩
  have hm10 : w.cell? ⟨gn, l * 14 + 10, none⟩ = some (.int .i32 (N0 F 10 l)) := hA.row.cell 10 l (by omega) (by omega)
  have hf10 := World.rowIs.frozen hA.row (l * 14 + 10)
  have HA := Kept.mk (hA.setN 10 l (by omega) rfl 1)
  have HU := Kept.mk (show Mu F par n n [] (set2 (N0 F) 10 l 1) by have := Mu.start F par n hW; rw [show n - 1 = l by omega] at this; exact this)
  have e1 : ((n : Int) - 1) = (l : Int) := by omega
  have hln : l < n := by omega
  clear hW hA hM hS hB
  have HL := Kept.mk hl
  clear hl
  go_enter Try.func43, Try.ntmps43
  go_wp2
  go_loopg [3] n (fun g' i wr => ∃ (k : Nat) (N : Nat → Nat → Int), k ≤ n ∧ g' = 0 + k ∧ i = .int .i64 ((k : Int) - 1) ∧ LayAt w base wr bp gn n N 0 0 ∧ Mu F par n k [] N)
  case atStart => exact ⟨n, _, Nat.le_refl _, (Nat.zero_add n).symm, by first | rfl | (rw [e1]) | go_num, HA.out, HU.out⟩
  case round =>
    clear HA HU hm10 hf10 hc0 e1
    obtain ⟨k, N, hk, rfl, rfl, hat, hmu⟩ := hrel
    rcases Nat.eq_zero_or_pos k with h0 | h0
    · subst h0
      have HA := Kept.mk hat
      have HU := Kept.mk hmu
      clear hat hmu
      have hall : ∀ c, c < n → N 10 c = (P F par n c : Int) := fun c hc => HU.out.1 c hc (by omega)
      have HLO := Kept.mk (show LaidOut F (P F par n) n 0 N from ⟨hall, fun i c hi => by rw [HU.out.2 i c (by omega)]; unfold N0; rw [if_pos hi], fun c hc => by omega, fun c hc => by omega, fun c hc => by omega⟩)
      clear HU hall
      generalize hmm : P F par n = m at HLO HM HSB ⊢
      have HMM := Kept.mk hmm
      clear hmm
      go_wp2
      go_loopg [61] n (fun g' i wr => ∃ (t : Nat) (N : Nat → Nat → Int), t ≤ n ∧ g' = n - t ∧ i = .int .i64 t ∧ LayAt w base wr bp gn n N (B F m t) (S m t) ∧ LaidOut F m n t N)
      case atStart => exact ⟨0, N, Nat.zero_le _, rfl, rfl, HA.out, HLO.out⟩
      case round =>
        clear HA HLO
        obtain ⟨t, N, ht, rfl, rfl, hat, hlo⟩ := hrel
        by_cases htn : t < n
        · have hS1 : S m t ≤ S m n := Plain.S_mono m ht
          have hB1 : B F m t ≤ B F m n := Plain.B_mono F m ht
          have hS2 := HSB.out.1
          have hB2 := HSB.out.2
          have hmt := HM.out t htn
          have c4 := hat.pat.c4
          have m10 : wr.cell? ⟨gn, t * 14 + 10, none⟩ = some (.int .i32 ((m t : Nat) : Int)) := by have := hat.row.cell 10 t (by omega) htn; rw [hlo.mult t htn] at this; exact this
          have m12 : wr.cell? ⟨gn, t * 14 + 12, none⟩ = some (.int .i32 (N 12 t)) := hat.row.cell 12 t (by omega) htn
          have m13 : wr.cell? ⟨gn, t * 14 + 13, none⟩ = some (.int .i32 (N 13 t)) := hat.row.cell 13 t (by omega) htn
          have f12 := World.rowIs.frozen hat.row (t * 14 + 12)
          have f13 := World.rowIs.frozen hat.row (t * 14 + 13)
          go_wp2
          have HA1 := Kept.mk (((hat.setN 12 t (by omega) rfl ((S m t : Nat) : Int)).setN 13 t (by omega) rfl ((Plain.words (m t) : Nat) : Int)).drew)
          have HLO := Kept.mk hlo
          clear hat hlo
          have w1 : IntKind.i64.wrap ((m t : Nat) : Int) = ((m t : Nat) : Int) := by rw [IntKind.wrap_i64]; omega
          have hwt : Plain.words (m t) ≤ 1048577 := by unfold Plain.words; omega
          have w2 : IntKind.i32.wrap ((S m t : Nat) : Int) = ((S m t : Nat) : Int) := by rw [IntKind.wrap_i32]; omega
          have w3 : IntKind.i32.wrap ((Plain.words (m t) : Nat) : Int) = ((Plain.words (m t) : Nat) : Int) := by rw [IntKind.wrap_i32]; omega
          go_region_with (go_at_call 47; refine (wordsOf_any (m t) (by omega) _).mono ?_; rintro e W ⟨rfl, rfl⟩)
          all_goals
            generalize (((wr.setCell ⟨gn, t * 14 + 12, none⟩ (.int .i32 ((S m t : Nat) : Int))).setCell ⟨gn, t * 14 + 13, none⟩ (.int .i32 ((Plain.words (m t) : Nat) : Int))).drew) = W1 at HA1 ⊢
            clear w1 w2 w3 m10 m12 m13 f12 f13 c4
            have hA1 := HA1.out
            have d4 := hA1.pat.c4
            have d13 : W1.cell? ⟨gn, t * 14 + 13, none⟩ = some (.int .i32 ((Plain.words (m t) : Nat) : Int)) := by
              have := hA1.row.cell 13 t (by omega) htn
              simp only [set2, and_self, if_true] at this
              exact this
            have g4 := hA1.fz 4
            clear hA1
            go_wp2
            refine wp_region_still_tail 12 (by kernel_rfl) (by kernel_rfl) ?_
            simp only [List.take_succ_cons, List.take_zero, List.drop_succ_cons, List.drop_zero]
            repeat still_step
            refine wpStill_nil ?_
            have hS3 : S m (t + 1) = S m t + Plain.words (m t) := rfl
            have eS : ((S m t : Nat) : Int) + ((Plain.words (m t) : Nat) : Int) = ((S m (t + 1) : Nat) : Int) := by rw [hS3]; omega
            have HA2 := Kept.mk (HA1.out.setVw (S m (t + 1))).drew
            have HES := Kept.mk eS
            clear eS hS3
            go_upto_region 19 with fail
            rw [HES.out]
            clear d4 d13 g4
            generalize ((W1.setCell ⟨bp, 4, none⟩ (.int .i64 ((S m (t + 1) : Nat) : Int))).drew) = W2 at HA2 ⊢
            clear HA1 HES
            have hA2 := HA2.out
            have m0 : W2.cell? ⟨gn, t * 14, none⟩ = some (.int .u8 (F 0 t)) := by
              have := hA2.row.cell 0 t (by omega) htn
              simp only [set2] at this
              rw [if_neg (by omega), if_neg (by omega), HLO.out.old 0 t (by omega)] at this
              exact this
            have HB3 := Kept.mk (show B F m (t + 1) = B F m t + (if F 0 t = 0 then (F 5 t - F 4 t).toNat * m t else 0) from rfl)
            by_cases h0 : F 0 t = 0
            · have hrun := HW.out.run t htn h0
              obtain ⟨r1, r2, r3, r4⟩ := hrun
              have hb0 : (F 0 t == 0) = true := by simp [h0]
              rw [if_pos h0] at HB3
              have c3 := HA2.out.pat.c3
              have g3 := HA2.out.fz 3
              have m11 : W2.cell? ⟨gn, t * 14 + 11, none⟩ = some (.int .i32 (N 11 t)) := by
                have := HA2.out.row.cell 11 t (by omega) htn
                simp only [set2] at this
                rw [if_neg (by omega), if_neg (by omega)] at this
                exact this
              have f11 := World.rowIs.frozen HA2.out.row (t * 14 + 11)
              have w4 : IntKind.i32.wrap ((B F m t : Nat) : Int) = ((B F m t : Nat) : Int) := by rw [IntKind.wrap_i32]; omega
              have HA3 := Kept.mk (HA2.out.setN 11 t (by omega) rfl ((B F m t : Nat) : Int))
              have HL2 := Kept.mk (HLO.out.next0)
              obtain ⟨d, hd⟩ : ∃ d, d = (F 5 t - F 4 t).toNat := ⟨_, rfl⟩
              rw [← hd] at HB3
              have hd8 : d ≤ 8 := by omega
              obtain ⟨z, hz⟩ : ∃ z, z = d * m t := ⟨_, rfl⟩
              rw [← hz] at HB3
              have hz7 : z ≤ 536870912 := by rw [hz]; exact Nat.mul_le_mul hd8 hmt
              have ez : (F 5 t - F 4 t) * ((m t : Nat) : Int) = (z : Int) := by rw [hz, Int.natCast_mul]; congr 1; omega
              have hm0 : 0 ≤ (F 5 t - F 4 t) * ((m t : Nat) : Int) := by omega
              have hm7 : (F 5 t - F 4 t) * ((m t : Nat) : Int) ≤ 536870912 := by omega
              have eB : ((B F m t : Nat) : Int) + (F 5 t - F 4 t) * ((m t : Nat) : Int) = ((B F m (t + 1) : Nat) : Int) := by rw [HB3.out, ez]; omega
              have HEB := Kept.mk eB
              clear hA2 h0 ez eB hz hd HB3 HLO
              go_upto_region 21 with fail
              clear m11 f11 c3 g3 w4 m0
              generalize (W2.setCell ⟨gn, t * 14 + 11, none⟩ (.int .i32 ((B F m t : Nat) : Int))) = W3 at HA3 ⊢
              clear HA2
              have e3 := HA3.out.pat.c3
              have g3 := HA3.out.fz 3
              have m5 : W3.cell? ⟨gn, t * 14 + 5, none⟩ = some (.int .i32 (F 5 t)) := by
                have := HA3.out.row.cell 5 t (by omega) htn
                rw [HL2.out.old 5 t (by omega)] at this
                exact this
              have m4 : W3.cell? ⟨gn, t * 14 + 4, none⟩ = some (.int .i32 (F 4 t)) := by
                have := HA3.out.row.cell 4 t (by omega) htn
                rw [HL2.out.old 4 t (by omega)] at this
                exact this
              have m10 : W3.cell? ⟨gn, t * 14 + 10, none⟩ = some (.int .i32 ((m t : Nat) : Int)) := by
                have := HA3.out.row.cell 10 t (by omega) htn
                rw [HL2.out.mult t htn] at this
                exact this
              have HA4 := Kept.mk (HA3.out.setBits (B F m (t + 1))).drew
              refine wp_region_still_tail 23 (by kernel_rfl) (by kernel_rfl) ?_
              simp only [List.take_succ_cons, List.take_zero, List.drop_succ_cons, List.drop_zero]
              repeat still_step
              refine wpStill_nil ?_
              go_wp2
              rw [HEB.out]
              clear HA3 HEB
              go_roundg (n - (t + 1))
              case measure => omega
              case rel => exact ⟨t + 1, _, by omega, rfl, by go_num, HA4.out, HL2.out⟩
            · have hb0 : (F 0 t == 0) = false := by simp [h0]
              have hB3 : B F m (t + 1) = B F m t := by have := HB3.out; rw [if_neg h0] at this; exact this
              have HL2 := Kept.mk (HLO.out.next h0)
              have HA3 := HA2.out
              rw [← hB3] at HA3
              have HA4 := Kept.mk HA3
              clear hA2 h0 HA3 HA2 hB3 HB3
              go_wp2
              go_roundg (n - (t + 1))
              case measure => omega
              case rel => exact ⟨t + 1, _, by omega, rfl, by go_num, HA4.out, HL2.out⟩
        · obtain rfl : t = n := by omega
          have HE := Kept.mk (And.intro hat hlo)
          clear hat hlo
          go_wp2
          go_end0
          have hE := HE.out
          rw [← HMM.out] at hE
          exact ⟨rfl, N, hE.1, hE.2⟩
    · obtain ⟨v, rfl⟩ : ∃ v, k = v + 1 := ⟨k - 1, by omega⟩
      have hvn : v < n := by omega
      have e2 : (((v + 1 : Nat) : Int) - 1) = (v : Int) := by omega
      rw [e2]
      clear e2
      have m10 : wr.cell? ⟨gn, v * 14 + 10, none⟩ = some (.int .i32 ((P F par n v : Nat) : Int)) := by have := hat.row.cell 10 v (by omega) hvn; rw [hmu.at HW.out hvn] at this; exact this
      have m0 : wr.cell? ⟨gn, v * 14, none⟩ = some (.int .u8 (F 0 v)) := by have := hat.row.cell 0 v (by omega) hvn; rw [hmu.2 0 v (by omega)] at this; exact this
      have m2 : wr.cell? ⟨gn, v * 14 + 2, none⟩ = some (.int .i32 (F 2 v)) := by have := hat.row.cell 2 v (by omega) hvn; rw [hmu.2 2 v (by omega)] at this; exact this
      have hPv := HM.out v hvn
      have hPf := HW.out.fits HM.out hvn
      have HP := Kept.mk (show ∀ (W : World), (∃ z, LayAt w base W bp gn n N 0 0 ∧ z = P F par n v * fac F v) → True from fun _ _ => trivial)
      have HA := Kept.mk hat
      have HU := Kept.mk hmu
      have HC := Kept.mk (HW.out.chain v hvn)
      have hrest : ∀ (z : Nat), z = P F par n v * fac F v → z ≤ 67108864 := fun z hz => by rw [hz]; exact hPf
      obtain ⟨z, hz⟩ : ∃ z, z = P F par n v * fac F v := ⟨_, rfl⟩
      have hz7 := hrest z hz
      have HZ := Kept.mk hz
      clear hrest hPf hz hat hmu HP
      by_cases hk4 : F 0 v = 4
      · have hrp := HW.out.rep v hvn hk4
        have hcp := HW.out.copies hvn hk4
        have HCC := Kept.mk (copies_is gn n v F N wr HA.out.row hvn (HU.out.2 7 v (by omega)) (HU.out.2 8 v (by omega)) ⟨hrp.1, hrp.2.1⟩ ⟨hrp.2.2.1, hrp.2.2.2.1⟩ hcp.2.2)
        have hb4 : (F 0 v == 4) = true := by simp [hk4]
        have hf7 : fac F v ≤ 7 := by have := hcp.2.1; have := hcp.2.2; omega
        have ez : ((P F par n v : Nat) : Int) * ((fac F v : Nat) : Int) = (z : Int) := by rw [HZ.out]; exact (Int.natCast_mul _ _).symm
        have hz0 : 0 ≤ ((P F par n v : Nat) : Int) * ((fac F v : Nat) : Int) := by omega
        have hz8 : ((P F par n v : Nat) : Int) * ((fac F v : Nat) : Int) ≤ 67108864 := by omega
        have HE := Kept.mk ez
        clear hrp hcp hk4 ez
        go_wp2_with fail
        refine HCC.out.mono ?_
        rintro e W ⟨rfl, rfl⟩
        clear HCC
        go_upto_region 10 with fail
        rw [HE.out]
        clear HE hz0 hz8
        go_loopg [6] (K v).length (fun g' i wr => ∃ (L0 L : List Nat) (x : Int) (N : Nat → Nat → Int), K v = L0 ++ L ∧ g' = L.length ∧ i = .int .i32 x ∧ Plain.Chain (F 3) x L ∧ LayAt w base wr bp gn n N 0 0 ∧ Mu F par n (v + 1) L0 N)
        case atStart => exact ⟨[], K v, _, N, rfl, rfl, rfl, HC.out, HA.out, HU.out⟩
        case round =>
          clear HA HU HC m10 m0 m2
          obtain ⟨L0, L, x, N, hKv, rfl, rfl, hch, hat, hmu⟩ := hrel
          by_cases hx : 0 ≤ x
          · obtain ⟨c, R, rfl, rfl, hch2⟩ := hch.pos hx
            have hcn : c < n := by have := (HW.out.kids v hvn c (by rw [hKv]; simp)).1; omega
            have m10 : wr.cell? ⟨gn, c * 14 + 10, none⟩ = some (.int .i32 (N 10 c)) := hat.row.cell 10 c (by omega) hcn
            have f10 := World.rowIs.frozen hat.row (c * 14 + 10)
            have hat2 := hat.setN 10 c (by omega) rfl (z : Int)
            have hmu2 : Mu F par n (v + 1) (L0 ++ [c]) (set2 N 10 c (z : Int)) := by have := Mu.step HW.out hmu hvn hKv; rw [← HZ.out] at this; exact this
            have m3 : (wr.setCell ⟨gn, c * 14 + 10, none⟩ (.int .i32 (z : Int))).cell? ⟨gn, c * 14 + 3, none⟩ = some (.int .i32 (F 3 c)) := by have := hat2.row.cell 3 c (by omega) hcn; rw [hmu2.2 3 c (by omega)] at this; exact this
            have HI := Kept.mk (And.intro hch2 (And.intro hat2 hmu2))
            have HK := Kept.mk (show K v = (L0 ++ [c]) ++ R by rw [hKv]; simp)
            clear hch hch2 hat hmu hat2 hmu2 hKv
            go_wp2
            go_roundg R.length
            case measure => simp
            case rel => exact ⟨L0 ++ [c], R, _, _, HK.out, rfl, rfl, HI.out.1, HI.out.2.1, HI.out.2.2⟩
          · obtain rfl := hch.neg (by omega)
            have HI := Kept.mk (And.intro hat (Mu.next HW.out (k := v) (by rw [hKv]; simpa using hmu)))
            clear hat hmu hch hKv
            go_wp2
            go_roundg (0 + v)
            case measure => omega
            case rel => exact ⟨v, N, by omega, rfl, by go_num, HI.out.1, HI.out.2⟩
      · have hb4 : (F 0 v == 4) = false := by simp [hk4]
        have hzP : P F par n v = z := by rw [HZ.out]; unfold fac; rw [if_neg hk4]; omega
        rw [hzP] at m10 hPv
        clear hk4 hzP
        go_wp2
        go_loopg [6] (K v).length (fun g' i wr => ∃ (L0 L : List Nat) (x : Int) (N : Nat → Nat → Int), K v = L0 ++ L ∧ g' = L.length ∧ i = .int .i32 x ∧ Plain.Chain (F 3) x L ∧ LayAt w base wr bp gn n N 0 0 ∧ Mu F par n (v + 1) L0 N)
        case atStart => exact ⟨[], K v, _, N, rfl, rfl, rfl, HC.out, HA.out, HU.out⟩
        case round =>
          clear HA HU HC m10 m0 m2
          obtain ⟨L0, L, x, N, hKv, rfl, rfl, hch, hat, hmu⟩ := hrel
          by_cases hx : 0 ≤ x
          · obtain ⟨c, R, rfl, rfl, hch2⟩ := hch.pos hx
            have hcn : c < n := by have := (HW.out.kids v hvn c (by rw [hKv]; simp)).1; omega
            have m10 : wr.cell? ⟨gn, c * 14 + 10, none⟩ = some (.int .i32 (N 10 c)) := hat.row.cell 10 c (by omega) hcn
            have f10 := World.rowIs.frozen hat.row (c * 14 + 10)
            have hat2 := hat.setN 10 c (by omega) rfl (z : Int)
            have hmu2 : Mu F par n (v + 1) (L0 ++ [c]) (set2 N 10 c (z : Int)) := by have := Mu.step HW.out hmu hvn hKv; rw [← HZ.out] at this; exact this
            have m3 : (wr.setCell ⟨gn, c * 14 + 10, none⟩ (.int .i32 (z : Int))).cell? ⟨gn, c * 14 + 3, none⟩ = some (.int .i32 (F 3 c)) := by have := hat2.row.cell 3 c (by omega) hcn; rw [hmu2.2 3 c (by omega)] at this; exact this
            have HI := Kept.mk (And.intro hch2 (And.intro hat2 hmu2))
            have HK := Kept.mk (show K v = (L0 ++ [c]) ++ R by rw [hKv]; simp)
            clear hch hch2 hat hmu hat2 hmu2 hKv
            go_wp2
            go_roundg R.length
            case measure => simp
            case rel => exact ⟨L0 ++ [c], R, _, _, HK.out, rfl, rfl, HI.out.1, HI.out.2.1, HI.out.2.2⟩
          · obtain rfl := hch.neg (by omega)
            have HI := Kept.mk (And.intro hat (Mu.next HW.out (k := v) (by rw [hKv]; simpa using hmu)))
            clear hat hmu hch hKv
            go_wp2
            go_roundg (0 + v)
            case measure => omega
            case rel => exact ⟨v, N, by omega, rfl, by go_num, HI.out.1, HI.out.2⟩

end Go.Proofs.Qxb6000433a
