import Derived.Test.Qxb6000182aWalkB
import Derived.Test.Qxb6000182aLater
import Derived.Test.Qxb6000182aHeap
namespace Go.Proofs.Qxb6000182a
open Go.RowKit
open Plain (Tn bef)

/-- The call answers a bool; where it is true, 'Q' holds. -/
def TrueIf (Q : Prop) (e : Ending) : Prop := ∃ r : Bool, e = .returned (.bool r) ∧ (r = true → Q)
theorem TrueIf.no {Q : Prop} : TrueIf Q (.returned (.bool false)) := ⟨false, rfl, fun h => by cases h⟩
theorem TrueIf.yes {Q : Prop} (h : Q) : TrueIf Q (.returned (.bool true)) := ⟨true, rfl, fun _ => h⟩

set_option maxHeartbeats 1600000 in
theorem childHeaps_any (b n i : Nat) (q : Nat → Tn) (w : World) (h : TRow w b 57 n q) (hn : n ≤ 1048576) (hi : i ≤ 9223372036854775807) :
    Calls Try.prog 31 #[.slice (some ⟨b, 0, none⟩) n n, .int .i64 (i : Int)] w fun e w' => TrueIf (Plain.Kids n q i) e ∧ Below w.heap.size w w' := by
  have HT : Hid (TRow w b 57 n q) := h
  clear h
  go_enter Try.func31, Try.ntmps31
  go_wp2
  go_loopg [5] (n - 1) (fun g x wr => ∃ c : Nat, 1 ≤ c ∧ (c ≤ n ∨ c = 1) ∧ g = n - c ∧ x = .int .i64 c ∧ Plain.Kids c q i ∧ Below w.heap.size w wr)
  case atStart => exact ⟨1, Nat.le_refl _, .inr rfl, rfl, rfl, fun c h1 h2 => by omega, Below.refl _ _⟩
  case round =>
    obtain ⟨c, hc1, hcn, rfl, rfl, hk, hbel⟩ := hrel
    have HK : Hid (Plain.Kids c q i) := hk
    clear hk
    by_cases hlt : c < n
    · have e1 : ((c : Int) - 1) / 2 = (((c - 1) / 2 : Nat) : Int) := by omega
      obtain ⟨p, hp⟩ : ∃ p, p = (c - 1) / 2 := ⟨_, rfl⟩
      have hpn : p < n := by omega
      have HP : Hid (p = (c - 1) / 2) := hp
      rw [← hp] at e1
      clear hp hcn
      by_cases hpi : p = i
      · have hb : ((p : Int) != (i : Int)) = false := by rw [hpi]; simp
        have HX : Hid (p = i) := hpi
        clear hpi
        go_wp2
        rw [e1]
        clear e1
        go_quiet (fail)
        go_wp2
        go_roundg (n - (c + 1))
        case measure => omega
        case rel => exact ⟨c + 1, by omega, .inl (by omega), rfl, by go_num, HK.out.next (fun h => absurd (HP.out.symm.trans HX.out) h), below_drewN hbel _⟩
      have hb : ((p : Int) != (i : Int)) = true := by rw [bne_iff_ne]; omega
      cases hin : Plain.inB c c i with
      | false =>
        go_wp2
        rw [e1]
        clear e1
        have hne := Later.here wr
        refine wp_region_later (by kernel_rfl) (by kernel_rfl) ?_
        repeat (go_big_quiet_step ((go_at_call 35; exact later_of_same _ (b1InBelow_any c i (by omega) hi _))))
        refine wpQuiet_nil ?_
        rintro _ ⟨⟨W, hW⟩, rfl⟩
        go_wp2
        go_roundg (n - (c + 1))
        case measure => omega
        case rel => exact ⟨c + 1, by omega, .inl (by omega), rfl, by go_num, HK.out.next (fun _ h => by rw [hin] at h; cases h), hbel.trans (hW.mono hbel.size)⟩
      | true =>
        obtain ⟨u0, u1, u2, u3⟩ := (HT.out.later hbel).at4 hlt
        obtain ⟨v0, v1, v2, v3⟩ := (HT.out.later hbel).at4 hpn
        have U0 := Later.cell u0
        have U1 := Later.cell u1
        have U2 := Later.cell u2
        have U3 := Later.cell u3
        have V0 := Later.cell v0
        have V1 := Later.cell v1
        have V2 := Later.cell v2
        have V3 := Later.cell v3
        clear u0 u1 u2 u3 v0 v1 v2 v3
        go_wp2
        rw [e1]
        clear e1
        have hne := Later.here wr
        refine wp_region_later (by kernel_rfl) (by kernel_rfl) ?_
        repeat (go_big_quiet_step (first | (go_at_call 35; exact later_of_same _ (b1InBelow_any c i (by omega) hi _)) | (go_at_call 36; exact later_of _ (b1Before_any _ _ _ _ _ _ _ _ _))))
        refine wpQuiet_nil ?_
        rintro _ ⟨⟨W, hW⟩, rfl⟩
        have hbW := hbel.trans (hW.mono hbel.size)
        cases hbf : bef (q c) (q p) with
        | true =>
          go_wp2
          go_ret
          exact ⟨.no, hbW⟩
        | false =>
          go_wp2
          go_roundg (n - (c + 1))
          case measure => omega
          case rel => exact ⟨c + 1, by omega, .inl (by omega), rfl, by go_num, HK.out.next (fun _ _ => by rw [← HP.out]; exact hbf), hbW⟩
    · go_wp2
      go_ret
      exact ⟨.yes fun c' h1 h2 => HK.out c' h1 (by omega), hbel⟩

end Go.Proofs.Qxb6000182a
