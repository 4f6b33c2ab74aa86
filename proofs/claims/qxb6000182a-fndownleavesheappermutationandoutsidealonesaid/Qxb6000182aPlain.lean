/-
  PLAIN: turns, their order, the way down a heap. No Go in sight.
-/
namespace Go.Proofs.Qxb6000182a.Plain

structure Tn where
  sec : Int
  nsec : Int
  rank : Int
  run : Int

theorem Tn.eq {u v : Tn} (h1 : u.sec = v.sec) (h2 : u.nsec = v.nsec) (h3 : u.rank = v.rank) (h4 : u.run = v.run) : u = v := by
  cases u; cases v; simp_all

/-- By time, then rank, then run. -/
def Bef (u v : Tn) : Prop :=
  u.sec < v.sec ∨ (u.sec = v.sec ∧ (u.nsec < v.nsec ∨ (u.nsec = v.nsec ∧ (u.rank < v.rank ∨ (u.rank = v.rank ∧ u.run < v.run)))))

def bef (u v : Tn) : Bool :=
  decide (u.sec < v.sec) || (u.sec == v.sec && (decide (u.nsec < v.nsec) || (u.nsec == v.nsec && (decide (u.rank < v.rank) || (u.rank == v.rank && decide (u.run < v.run))))))

theorem bef_iff (u v : Tn) : bef u v = true ↔ Bef u v := by
  unfold bef Bef
  simp [Bool.or_eq_true, Bool.and_eq_true, decide_eq_true_eq]

theorem bef_false (u v : Tn) : bef u v = false ↔ ¬ Bef u v := by
  rw [← bef_iff]; simp

theorem Bef.irrefl (u : Tn) : ¬ Bef u u := by unfold Bef; omega
theorem Bef.trans {u v x : Tn} (h : Bef u v) (k : Bef v x) : Bef u x := by unfold Bef at *; omega
theorem Bef.asymm {u v : Tn} (h : Bef u v) : ¬ Bef v u := by unfold Bef at *; omega
theorem Bef.total {u v : Tn} (h : ¬ Bef u v) (k : ¬ Bef v u) : u = v := by
  unfold Bef at *
  exact Tn.eq (by omega) (by omega) (by omega) (by omega)
/-- 'not after' is transitive. -/
theorem le_trans {u v x : Tn} (h : ¬ Bef v u) (k : ¬ Bef x v) : ¬ Bef x u := by unfold Bef at *; omega

def upd (q : Nat → Tn) (k : Nat) (u : Tn) : Nat → Tn := fun j => if j = k then u else q j
theorem upd_same (q : Nat → Tn) (k : Nat) (u : Tn) : upd q k u k = u := if_pos rfl
theorem upd_other {q : Nat → Tn} {k j : Nat} {u : Tn} (h : j ≠ k) : upd q k u j = q j := if_neg h

/-- c lies strictly below i in the heap's tree (with fuel; c is enough). -/
def inB : Nat → Nat → Nat → Bool
  | 0, _, _ => false
  | f + 1, c, i => if i < c then (if (c - 1) / 2 = i then true else inB f ((c - 1) / 2) i) else false

theorem inB_fuel (i : Nat) : ∀ (f g c : Nat), c ≤ f → c ≤ g → inB f c i = inB g c i
  | 0, 0, _, _, _ => rfl
  | 0, g + 1, c, h, _ => by
    unfold inB
    rw [if_neg (by omega)]
  | f + 1, 0, c, _, h => by
    unfold inB
    rw [if_neg (by omega)]
  | f + 1, g + 1, c, h1, h2 => by
    unfold inB
    by_cases h : i < c
    · rw [if_pos h, if_pos h, inB_fuel i f g ((c - 1) / 2) (by omega) (by omega)]
    · rw [if_neg h, if_neg h]

theorem inB_out {c i : Nat} (h : ¬ i < c) : inB c c i = false := by
  cases c with
  | zero => rfl
  | succ c => unfold inB; rw [if_neg h]
theorem inB_hit {c i : Nat} (h : i < c) (hp : (c - 1) / 2 = i) : inB c c i = true := by
  cases c with
  | zero => omega
  | succ c => unfold inB; rw [if_pos h, if_pos hp]
theorem inB_up {c i : Nat} (h : i < c) (hp : ¬ (c - 1) / 2 = i) : inB c c i = inB ((c - 1) / 2) ((c - 1) / 2) i := by
  cases c with
  | zero => omega
  | succ c =>
    conv => lhs; unfold inB
    rw [if_pos h, if_neg hp]
    exact inB_fuel i _ _ _ (by omega) (Nat.le_refl _)

end Go.Proofs.Qxb6000182a.Plain
