import Derived.Test.Qxb6000182aRows
import Derived.Test.Qxb6000182aPlain
import Derived.WalkKit
import Derived.WalkSpells
import Derived.WalkLawsBesides
import Derived.Deep.LoopGhost
import Derived.Deep.OwnRows
import Derived.RegionTactic
import Derived.ChangeAlike
import Derived.BigRegion
import Derived.BigQuiet
import Derived.Deep.QuietTactic
import Derived.Deep.RegionWith
namespace Go.Proofs.Qxb6000182a
open Go.RowKit
open Plain (Tn bef)

def tv (u : Tn) : Value := .agg #[.int .i64 u.sec, .int .i32 u.nsec, .int .i64 u.rank, .int .i64 u.run]

theorem bef_sec {u v : Tn} (h : u.sec ≠ v.sec) : bef u v = decide (u.sec < v.sec) := by
  unfold bef; simp [h]
theorem bef_nsec {u v : Tn} (h : u.sec = v.sec) (h1 : u.nsec ≠ v.nsec) : bef u v = decide (u.nsec < v.nsec) := by
  unfold bef; simp [h, h1]
theorem bef_rank {u v : Tn} (h : u.sec = v.sec) (h1 : u.nsec = v.nsec) (h2 : u.rank ≠ v.rank) : bef u v = decide (u.rank < v.rank) := by
  unfold bef; simp [h, h1, h2]
theorem bef_run {u v : Tn} (h : u.sec = v.sec) (h1 : u.nsec = v.nsec) (h2 : u.rank = v.rank) : bef u v = decide (u.run < v.run) := by
  unfold bef; simp [h, h1, h2]

theorem ret_bool {a b : Bool} (h : a = b) : Ending.returned (.bool a) = .returned (.bool b) := by rw [h]

set_option maxHeartbeats 400000 in
theorem b1Before_any (us un ur uu vs vn vr vu : Int) (w : World) :
    Calls Try.prog 36 #[.agg #[.int .i64 us, .int .i32 un, .int .i64 ur, .int .i64 uu], .agg #[.int .i64 vs, .int .i32 vn, .int .i64 vr, .int .i64 vu]] w fun e w' =>
      e = .returned (.bool (bef ⟨us, un, ur, uu⟩ ⟨vs, vn, vr, vu⟩)) ∧ Below w.heap.size w w' := by
  by_cases h1 : us = vs
  · subst h1
    by_cases h2 : un = vn
    · subst h2
      by_cases h3 : ur = vr
      · subst h3
        have HB : Hid (bef ⟨us, un, ur, uu⟩ ⟨us, un, ur, vu⟩ = decide (uu < vu)) := bef_run rfl rfl rfl
        go_enter Try.func36, Try.ntmps36
        go_wp2
        go_ret
        exact ⟨ret_bool HB.out.symm, ((Below.refl _ _).alloc (Nat.le_refl _) _).alloc (by simp) _⟩
      · have HB : Hid (bef ⟨us, un, ur, uu⟩ ⟨us, un, vr, vu⟩ = decide (ur < vr)) := bef_rank rfl rfl h3
        have hb : (ur != vr) = true := by rw [bne_iff_ne]; exact h3
        clear h3
        go_enter Try.func36, Try.ntmps36
        go_wp2
        go_ret
        exact ⟨ret_bool HB.out.symm, ((Below.refl _ _).alloc (Nat.le_refl _) _).alloc (by simp) _⟩
    · have HB : Hid (bef ⟨us, un, ur, uu⟩ ⟨us, vn, vr, vu⟩ = decide (un < vn)) := bef_nsec rfl h2
      have hb : (un != vn) = true := by rw [bne_iff_ne]; exact h2
      clear h2
      go_enter Try.func36, Try.ntmps36
      go_wp2
      go_ret
      exact ⟨ret_bool HB.out.symm, ((Below.refl _ _).alloc (Nat.le_refl _) _).alloc (by simp) _⟩
  · have HB : Hid (bef ⟨us, un, ur, uu⟩ ⟨vs, vn, vr, vu⟩ = decide (us < vs)) := bef_sec h1
    have hb : (us != vs) = true := by rw [bne_iff_ne]; exact h1
    clear h1
    go_enter Try.func36, Try.ntmps36
    go_wp2
    go_ret
    exact ⟨ret_bool HB.out.symm, ((Below.refl _ _).alloc (Nat.le_refl _) _).alloc (by simp) _⟩

def instBef (us un vs vn : Int) : Bool := decide (us < vs) || (us == vs && decide (un < vn))

set_option maxHeartbeats 400000 in
theorem instBefore_any (us un vs vn : Int) (w : World) :
    Calls Try.prog 45 #[.agg #[.int .i64 us, .int .i32 un], .agg #[.int .i64 vs, .int .i32 vn]] w fun e w' =>
      e = .returned (.bool (instBef us un vs vn)) ∧ Below w.heap.size w w' := by
  by_cases h1 : us < vs
  · have hd : decide (us < vs) = true := by simpa using h1
    go_enter Try.func45, Try.ntmps45
    go_wp2
    go_ret
    exact ⟨ret_bool (by simp [instBef, h1]), ((Below.refl _ _).alloc (Nat.le_refl _) _).alloc (by simp) _⟩
  · have hd : decide (us < vs) = false := by simpa using h1
    by_cases h2 : us = vs
    · have he : (us == vs) = true := by simpa using h2
      have HB : Hid (instBef us un vs vn = decide (un < vn)) := by simp [instBef, h2, Hid]
      clear h1 h2
      go_enter Try.func45, Try.ntmps45
      go_wp2
      go_ret
      exact ⟨ret_bool HB.out.symm, ((Below.refl _ _).alloc (Nat.le_refl _) _).alloc (by simp) _⟩
    · have he : (us == vs) = false := by simpa using h2
      have HB : Hid (instBef us un vs vn = false) := by simp [instBef, h2, Hid]; omega
      clear h1 h2
      go_enter Try.func45, Try.ntmps45
      go_wp2
      go_ret
      exact ⟨ret_bool HB.out.symm, ((Below.refl _ _).alloc (Nat.le_refl _) _).alloc (by simp) _⟩

/-- Four cells from an address on hold a turn. -/
structure At4 (w : World) (b o : Nat) (u : Tn) : Prop where
  c0 : w.cell? ⟨b, o, none⟩ = some (.int .i64 u.sec)
  c1 : w.cell? ⟨b, o + 1, none⟩ = some (.int .i32 u.nsec)
  c2 : w.cell? ⟨b, o + 2, none⟩ = some (.int .i64 u.rank)
  c3 : w.cell? ⟨b, o + 3, none⟩ = some (.int .i64 u.run)

theorem below_of_drew {w w' : World} {n : Nat} (h : Below (w.drewN n).heap.size (w.drewN n) w') : Below w.heap.size w w' := by
  have h1 : Below w.heap.size w (w.drewN n) := below_drewN (Below.refl _ _) n
  have e : (w.drewN n).heap.size = w.heap.size := by simp
  rw [e] at h
  exact h1.trans h

set_option maxHeartbeats 800000 in
theorem before_any (ub uo vb vo : Nat) (u v : Tn) (w : World) (hu : At4 w ub uo u) (hv : At4 w vb vo v) :
    Calls Try.prog 44 #[.pointer (some ⟨ub, uo, none⟩), .pointer (some ⟨vb, vo, none⟩)] w fun e w' => e = .returned (.bool (bef u v)) ∧ Below w.heap.size w w' := by
  obtain ⟨us, un, ur, uu⟩ := u
  obtain ⟨vs, vn, vr, vu⟩ := v
  obtain ⟨u0, u1, u2, u3⟩ := hu
  obtain ⟨v0, v1, v2, v3⟩ := hv
  simp only at u0 u1 u2 u3 v0 v1 v2 v3
  by_cases h1 : us = vs
  · by_cases h2 : un = vn
    · subst h1; subst h2
      by_cases h3 : ur = vr
      · subst h3
        have HB : Hid (bef ⟨us, un, ur, uu⟩ ⟨us, un, ur, vu⟩ = decide (uu < vu)) := bef_run rfl rfl rfl
        go_enter Try.func44, Try.ntmps44
        go_wp2
        go_quiet (fail)
        go_wp2
        go_quiet (fail)
        go_wp2
        go_quiet (fail)
        go_wp2
        go_ret
        exact ⟨ret_bool HB.out.symm, below_drewN (below_drewN (below_drewN (Below.refl _ _) _) _) _⟩
      · have HB : Hid (bef ⟨us, un, ur, uu⟩ ⟨us, un, vr, vu⟩ = decide (ur < vr)) := bef_rank rfl rfl h3
        have hb : (ur != vr) = true := by rw [bne_iff_ne]; exact h3
        clear h3
        go_enter Try.func44, Try.ntmps44
        go_wp2
        go_quiet (fail)
        go_wp2
        go_quiet (fail)
        go_wp2
        go_quiet (fail)
        go_wp2
        go_ret
        exact ⟨ret_bool HB.out.symm, below_drewN (below_drewN (below_drewN (Below.refl _ _) _) _) _⟩
    · subst h1
      have HB : Hid (bef ⟨us, un, ur, uu⟩ ⟨us, vn, vr, vu⟩ = instBef us un us vn) := by
        show bef _ _ = _
        have h3 := bef_nsec (u := ⟨us, un, ur, uu⟩) (v := ⟨us, vn, vr, vu⟩) rfl h2
        rw [h3]; simp [instBef]
      have hb : (un == vn) = false := by simpa using h2
      clear h2
      go_enter Try.func44, Try.ntmps44
      go_wp2
      go_quiet (fail)
      go_wp2
      go_region_with (go_at_call 45; refine (instBefore_any us un us vn _).mono ?_; rintro e w' ⟨rfl, hbel⟩)
      all_goals
        go_wp2
        go_ret
        exact ⟨ret_bool HB.out.symm, below_of_drew hbel⟩
  · have HB : Hid (bef ⟨us, un, ur, uu⟩ ⟨vs, vn, vr, vu⟩ = instBef us un vs vn) := by
      show bef _ _ = _
      rw [bef_sec h1]; simp [instBef, h1]
    have hb : (us == vs) = false := by simpa using h1
    clear h1
    go_enter Try.func44, Try.ntmps44
    go_wp2
    go_quiet (fail)
    go_wp2
    go_region_with (go_at_call 45; refine (instBefore_any us un vs vn _).mono ?_; rintro e w' ⟨rfl, hbel⟩)
    all_goals
      go_wp2
      go_ret
      exact ⟨ret_bool HB.out.symm, below_of_drew hbel⟩

end Go.Proofs.Qxb6000182a
