import Derived.Test.Qxb6000433aWalkB
namespace Go.Proofs.Qxb6000433a
open Go.RowKit
open Plain (Whole P fac S B)

theorem B_bound (F : Nat → Nat → Int) (m : Nat → Nat) (n : Nat) (h : ∀ v, v < n → m v ≤ 67108864) (hr : ∀ v, v < n → F 0 v = 0 → F 5 v ≤ F 4 v + 8) : B F m n ≤ n * 600000001 := by
  induction n with
  | zero => exact Nat.le_refl _
  | succ n ih =>
    have h1 := ih (fun v hv => h v (by omega)) (fun v hv => hr v (by omega))
    have h2 := h n (by omega)
    have h3 := hr n (by omega)
    rw [Nat.succ_mul]
    refine Nat.add_le_add h1 ?_
    split
    · have h4 : (F 5 n - F 4 n).toNat ≤ 8 := by have := h3 (by assumption); omega
      exact Nat.le_trans (Nat.mul_le_mul h4 h2) (by decide)
    · exact Nat.zero_le _

/-- What layTotals says where it says that all fits. -/
def Fits (n : Nat) (F : Nat → Nat → Int) (m : Nat → Nat) (w : World) (e : Ending) (w' : World) : Prop :=
  ∃ (x y : Int) (ok : Bool), e = .returned (.tuple #[.int .i64 x, .int .i64 y, .bool ok]) ∧ Below w.heap.size w w' ∧ (ok = true → (∀ v, v < n → m v ≤ 67108864) ∧ B F m n ≤ 4194304 ∧ S m n ≤ 1048576)

set_option maxRecDepth 100000 in
set_option maxHeartbeats 1600000 in
theorem layTotals_any (bt n gm : Nat) (F : Nat → Nat → Int) (cp g : Nat → Nat) (m : Nat → Nat) (w : World) (hT : TreeR w bt n F cp g) (hn : n ≤ 5000) (hM : w.rowIs gm 2 n (fun v => .int .i64 ((min (m v) SatS : Nat) : Int)))
    (hr : ∀ v, v < n → F 0 v = 0 → 0 ≤ F 4 v ∧ F 4 v + 1 ≤ F 5 v ∧ F 5 v ≤ F 4 v + 8 ∧ F 5 v ≤ 40000) :
    Calls Try.prog 28 #[.pointer (some ⟨bt, 0, none⟩), .slice (some ⟨gm, 0, none⟩) n n, .int .i64 67108864, .int .i64 4194304, .int .i64 1048576] w fun e w' => Fits n F m w e w' := by
  have HT := Kept.mk hT
  have HM := Kept.mk hM
  have HR := Kept.mk hr
  clear hT hM hr
  go_enter Try.func28, Try.ntmps28
  go_wp2
  go_loopg [13, 14, 15] n (fun g' s13 s14 i wr => ∃ k : Nat, k ≤ n ∧ g' = n - k ∧ s13 = .int .i64 ((B F m k : Nat) : Int) ∧ s14 = .int .i64 ((S m k : Nat) : Int) ∧ i = .int .i64 k ∧ Below w.heap.size w wr ∧ ∀ v, v < k → m v ≤ 67108864)
  case atStart => exact ⟨0, Nat.zero_le _, rfl, rfl, rfl, rfl, Below.refl _ _, fun v hv => by omega⟩
  case round =>
    obtain ⟨k, hk, rfl, rfl, rfl, rfl, hbel, hall⟩ := hrel
    have hT2 := HT.out.later hbel
    have c0 := hT2.cell 0 (by omega)
    have hSb := Plain.S_bound m k hall
    have hBb := B_bound F m k hall (fun v hv h0 => (HR.out v (by omega) h0).2.2.1)
    have HB := Kept.mk (show B F m (k + 1) = B F m k + (if F 0 k = 0 then (F 5 k - F 4 k).toNat * m k else 0) from rfl)
    have HS := Kept.mk (show S m (k + 1) = S m k + (m k + 63) / 64 from rfl)
    have HA := Kept.mk hall
    clear hall
    generalize hbk : B F m k = bk at hBb HB ⊢
    generalize hsk : S m k = sk at hSb HS ⊢
    have HE := Kept.mk (And.intro hbk hsk)
    clear hbk hsk
    by_cases hlt : k < n
    · have v0 := hT2.val 0 (by omega) k hlt
      change _ = some (Value.int .u8 (F 0 k)) at v0
      have hc1 := (World.rowIs.of_block HM.out (hbel.block _ (World.rowIs.lt HM.out))).cell hlt
      have hSc : sk ≤ 5242885000 := Nat.le_trans hSb (Nat.mul_le_mul_right 1048577 (show k ≤ 5000 by omega))
      have hBc : bk ≤ 3000000005000 := Nat.le_trans hBb (Nat.mul_le_mul_right 600000001 (show k ≤ 5000 by omega))
      clear hSb hBb
      by_cases hbig : 67108864 < min (m k) SatS
      · generalize min (m k) SatS = y at hc1 hbig
        clear hT2
        go_wp2
        go_ret3
        exact ⟨0, 0, false, rfl, hbel, fun h => by cases h⟩
      · have hmk : m k ≤ 67108864 := by unfold SatS at hbig; omega
        rw [show min (m k) SatS = m k by unfold SatS; omega] at hc1
        clear hbig
        have HA' := Kept.mk (show ∀ v, v < k + 1 → m v ≤ 67108864 from fun v hv => by
          by_cases e : v = k
          · rw [e]; exact hmk
          · exact HA.out v (by omega))
        by_cases h0 : F 0 k = 0
        · have hrun := HR.out k hlt h0
          obtain ⟨r1, r2, r3, r4⟩ := hrun
          have hb0 : (F 0 k == 0) = true := by simp [h0]
          have c4 := hT2.cell 4 (by omega)
          have c5 := hT2.cell 5 (by omega)
          have v4 := hT2.val 4 (by omega) k hlt
          change _ = some (Value.int .i32 (F 4 k)) at v4
          have v5 := hT2.val 5 (by omega) k hlt
          change _ = some (Value.int .i32 (F 5 k)) at v5
          rw [if_pos h0] at HB
          obtain ⟨d, hd⟩ : ∃ d, d = (F 5 k - F 4 k).toNat := ⟨_, rfl⟩
          rw [← hd] at HB
          have hd8 : d ≤ 8 := by omega
          obtain ⟨z, hz⟩ : ∃ z, z = d * m k := ⟨_, rfl⟩
          rw [← hz] at HB
          have hz7 : z ≤ 536870912 := by rw [hz]; exact Nat.mul_le_mul hd8 hmk
          have ez : (F 5 k - F 4 k) * ((m k : Nat) : Int) = (z : Int) := by rw [hz, Int.natCast_mul]; congr 1; omega
          have HZ := Kept.mk ez
          have hm0 : 0 ≤ (F 5 k - F 4 k) * ((m k : Nat) : Int) := by omega
          have hm7 : (F 5 k - F 4 k) * ((m k : Nat) : Int) ≤ 536870912 := by omega
          clear hT2 hd hz ez hb0
          go_wp2
          go_quiet (fail)
          go_wp2
          go_roundg (n - (k + 1))
          case measure => omega
          case rel => exact ⟨k + 1, by omega, rfl, by rw [HB.out, HZ.out]; go_num, by rw [HS.out]; go_num, by go_num, below_drewN hbel _, HA'.out⟩
        · have hb0 : (F 0 k == 0) = false := by simp [h0]
          rw [if_neg h0] at HB
          clear hT2 h0
          go_wp2
          go_roundg (n - (k + 1))
          case measure => omega
          case rel => exact ⟨k + 1, by omega, rfl, by rw [HB.out, Nat.add_zero], by rw [HS.out]; go_num, by go_num, hbel, HA'.out⟩
    · obtain rfl : k = n := by omega
      have hSc : sk ≤ 5242885000 := Nat.le_trans hSb (Nat.mul_le_mul_right 1048577 (show k ≤ 5000 by omega))
      have hBc : bk ≤ 3000000005000 := Nat.le_trans hBb (Nat.mul_le_mul_right 600000001 (show k ≤ 5000 by omega))
      clear hSb hBb
      by_cases hb1 : 4194304 < bk
      · clear hT2
        go_wp2
        go_ret3
        exact ⟨0, 0, false, rfl, hbel, fun h => by cases h⟩
      · by_cases hb2 : 1048576 < sk
        · clear hT2
          go_wp2
          go_ret3
          exact ⟨0, 0, false, rfl, hbel, fun h => by cases h⟩
        · clear hT2
          go_wp2
          go_ret3
          exact ⟨_, _, true, rfl, hbel, fun _ => ⟨HA.out, by rw [HE.out.1]; omega, by rw [HE.out.2]; omega⟩⟩

end Go.Proofs.Qxb6000433a
