/-
  PLAIN: the way down from i, along the earlier child. No Go in sight.
-/
import Derived.Test.Qxb6000182aPlain
namespace Go.Proofs.Qxb6000182a.Plain

/-- The earlier child of h (2h+1 where there is but one). -/
def pick (n : Nat) (q : Nat → Tn) (h : Nat) : Nat := if 2 * h + 2 < n ∧ bef (q (2 * h + 2)) (q (2 * h + 1)) = true then 2 * h + 2 else 2 * h + 1

theorem pick_gt (n : Nat) (q : Nat → Tn) (h : Nat) : h < pick n q h := by unfold pick; split <;> omega
theorem pick_lt {n : Nat} {q : Nat → Tn} {h : Nat} (hn : 2 * h + 1 < n) : pick n q h < n := by unfold pick; split <;> omega
theorem pick_up (n : Nat) (q : Nat → Tn) (h : Nat) : (pick n q h - 1) / 2 = h := by unfold pick; split <;> omega
theorem pick_ge (n : Nat) (q : Nat → Tn) (h : Nat) : 2 * h + 1 ≤ pick n q h := by unfold pick; split <;> omega
theorem pick_congr {n : Nat} {q q' : Nat → Tn} {h : Nat} (e1 : q (2 * h + 1) = q' (2 * h + 1)) (e2 : q (2 * h + 2) = q' (2 * h + 2)) : pick n q h = pick n q' h := by unfold pick; rw [e1, e2]

/-- The places along the way. -/
def path (n : Nat) (q : Nat → Tn) (i : Nat) : Nat → Nat
  | 0 => i
  | t + 1 => pick n q (path n q i t)

theorem path_step (n : Nat) (q : Nat → Tn) (i t : Nat) : path n q i t < path n q i (t + 1) := pick_gt n q _
theorem path_mono (n : Nat) (q : Nat → Tn) (i : Nat) : ∀ (s t : Nat), s < t → path n q i s < path n q i t
  | _, 0, h => by omega
  | s, t + 1, h => by
    by_cases e : s = t
    · subst e; exact path_step n q i s
    · exact Nat.lt_trans (path_mono n q i s t (by omega)) (path_step n q i t)
theorem path_ge (n : Nat) (q : Nat → Tn) (i t : Nat) : i + t ≤ path n q i t := by
  induction t with
  | zero => exact Nat.le_refl _
  | succ t ih => have := path_step n q i t; omega

/-- The turns of the first j places pulled up by one. -/
def Sh (n : Nat) (q : Nat → Tn) (i : Nat) : Nat → Nat → Tn
  | 0 => q
  | t + 1 => upd (Sh n q i t) (path n q i t) (q (path n q i (t + 1)))

theorem Sh_off (n : Nat) (q : Nat → Tn) (i x : Nat) : ∀ (j : Nat), (∀ s, s < j → x ≠ path n q i s) → Sh n q i j x = q x
  | 0, _ => rfl
  | j + 1, h => by
    show upd (Sh n q i j) _ _ x = q x
    rw [upd_other (h j (by omega))]
    exact Sh_off n q i x j fun s hs => h s (by omega)
theorem Sh_ge (n : Nat) (q : Nat → Tn) (i x j : Nat) (h : path n q i j ≤ x) : Sh n q i j x = q x :=
  Sh_off n q i x j fun s hs => by have := path_mono n q i s j hs; omega
theorem Sh_on (n : Nat) (q : Nat → Tn) (i : Nat) : ∀ (j s : Nat), s < j → Sh n q i j (path n q i s) = q (path n q i (s + 1))
  | 0, _, h => by omega
  | j + 1, s, h => by
    show upd (Sh n q i j) _ _ _ = _
    by_cases e : s = j
    · subst e; exact upd_same _ _ _
    · have := path_mono n q i s j (by omega)
      rw [upd_other (by omega)]
      exact Sh_on n q i j s (by omega)

/-- i's turn put down at the j-th place. -/
def Put (n : Nat) (q : Nat → Tn) (i j : Nat) : Nat → Tn := upd (Sh n q i j) (path n q i j) (q i)

theorem Put_zero (n : Nat) (q : Nat → Tn) (i x : Nat) : Put n q i 0 x = q x := by
  show upd q i (q i) x = q x
  by_cases e : x = i
  · subst e; exact upd_same _ _ _
  · exact upd_other e
theorem Put_at (n : Nat) (q : Nat → Tn) (i j : Nat) : Put n q i j (path n q i j) = q i := upd_same _ _ _
theorem Put_gt (n : Nat) (q : Nat → Tn) (i j x : Nat) (h : path n q i j < x) : Put n q i j x = q x := by
  show upd _ _ _ x = _
  rw [upd_other (by omega)]
  exact Sh_ge n q i x j (by omega)
theorem Put_on (n : Nat) (q : Nat → Tn) (i j s : Nat) (h : s < j) : Put n q i j (path n q i s) = q (path n q i (s + 1)) := by
  have := path_mono n q i s j h
  show upd _ _ _ _ = _
  rw [upd_other (by omega)]
  exact Sh_on n q i j s h
theorem Put_off (n : Nat) (q : Nat → Tn) (i j x : Nat) (h : ∀ s, s ≤ j → x ≠ path n q i s) : Put n q i j x = q x := by
  show upd _ _ _ x = _
  rw [upd_other (h j (Nat.le_refl _))]
  exact Sh_off n q i x j fun s hs => h s (by omega)

/-- The textbook's exchange. -/
theorem Put_swap (n : Nat) (q : Nat → Tn) (i j x : Nat) :
    upd (upd (Put n q i j) (path n q i j) (q (path n q i (j + 1)))) (path n q i (j + 1)) (q i) x = Put n q i (j + 1) x := by
  show _ = upd (upd (Sh n q i j) (path n q i j) (q (path n q i (j + 1)))) (path n q i (j + 1)) (q i) x
  by_cases e1 : x = path n q i (j + 1)
  · subst e1; rw [upd_same, upd_same]
  · rw [upd_other e1, upd_other e1]
    by_cases e2 : x = path n q i j
    · subst e2; rw [upd_same, upd_same]
    · rw [upd_other e2, upd_other e2]
      show upd _ _ _ x = _
      rw [upd_other e2]

/-- The hole's way up: from place j + 1 to place j. -/
theorem Up_step {n : Nat} {q : Nat → Tn} {i j : Nat} {r : Nat → Tn} (h : ∀ x, x ≠ path n q i (j + 1) → r x = Sh n q i (j + 1) x) :
    ∀ x, x ≠ path n q i j → upd r (path n q i (j + 1)) (q (path n q i (j + 1))) x = Sh n q i j x := by
  intro x hx
  by_cases e : x = path n q i (j + 1)
  · subst e
    rw [upd_same, Sh_ge n q i _ j (Nat.le_of_lt (path_step n q i j))]
  · rw [upd_other e, h x e]
    show upd _ _ _ x = _
    rw [upd_other hx]

/-- What the textbook's way down leaves. -/
def Sifted (n : Nat) (q : Nat → Tn) (i : Nat) (r : Nat → Tn) : Prop :=
  ∃ j, path n q i j < n ∧ (∀ t, 1 ≤ t → t ≤ j → bef (q (path n q i t)) (q i) = true) ∧ (n ≤ 2 * path n q i j + 1 ∨ bef (q (path n q i (j + 1))) (q i) = false) ∧ ∀ k, k < n → r k = Put n q i j k

/-- What 'down' leaves: the place is the lowest above which i's turn does not come before. -/
def Downed (n : Nat) (q : Nat → Tn) (i : Nat) (r : Nat → Tn) : Prop :=
  ∃ l j, j ≤ l ∧ path n q i l < n ∧ n ≤ 2 * path n q i l + 1 ∧ (j = 0 ∨ bef (q i) (q (path n q i j)) = false) ∧ (∀ t, j < t → t ≤ l → bef (q i) (q (path n q i t)) = true) ∧ ∀ k, k < n → r k = Put n q i j k

/-- Below i's children the turns lie as a heap's, for the places below m. -/
def Kids (m : Nat) (q : Nat → Tn) (i : Nat) : Prop := ∀ c, 1 ≤ c → c < m → (c - 1) / 2 ≠ i → inB c c i = true → bef (q c) (q ((c - 1) / 2)) = false

theorem Kids.next {m : Nat} {q : Nat → Tn} {i : Nat} (h : Kids m q i) (hm : (m - 1) / 2 ≠ i → inB m m i = true → bef (q m) (q ((m - 1) / 2)) = false) : Kids (m + 1) q i := fun c h1 h2 h3 h4 => by
  by_cases e : c = m
  · subst e; exact hm h3 h4
  · exact h c h1 (by omega) h3 h4

theorem inB_path (n : Nat) (q : Nat → Tn) (i : Nat) : ∀ t, inB (path n q i (t + 1)) (path n q i (t + 1)) i = true
  | 0 => inB_hit (path_step n q i 0) (pick_up n q i)
  | t + 1 => by
    have h1 : i < path n q i (t + 1 + 1) := path_mono n q i 0 (t + 2) (by omega)
    have h2 : i < path n q i (t + 1) := path_mono n q i 0 (t + 1) (by omega)
    have e : (path n q i (t + 1 + 1) - 1) / 2 = path n q i (t + 1) := pick_up n q _
    rw [inB_up h1 (by rw [e]; exact fun e' => absurd e' (Nat.ne_of_gt h2)), e]
    exact inB_path n q i t

/-- Along the way the turns do not fall. -/
theorem Kids.along {n : Nat} {q : Nat → Tn} {i : Nat} (h : Kids n q i) (t : Nat) (ht : 1 ≤ t) (hn : path n q i (t + 1) < n) : bef (q (path n q i (t + 1))) (q (path n q i t)) = false := by
  have e : (path n q i (t + 1) - 1) / 2 = path n q i t := pick_up n q _
  have h0 := path_mono n q i 0 t (by omega)
  have h1 := path_mono n q i 0 (t + 1) (by omega)
  have h2 : i < path n q i t := h0
  have := h (path n q i (t + 1)) (by have : i < path n q i (t + 1) := h1; omega) hn (by rw [e]; omega) (inB_path n q i t)
  rwa [e] at this

theorem Kids.le {n : Nat} {q : Nat → Tn} {i : Nat} (h : Kids n q i) (s : Nat) (hs : 1 ≤ s) : ∀ t, s ≤ t → path n q i t < n → ¬ Bef (q (path n q i t)) (q (path n q i s))
  | 0, h1, _ => by omega
  | t + 1, h1, h2 => by
    by_cases e : s = t + 1
    · subst e; exact Bef.irrefl _
    · have h3 := path_step n q i t
      have h4 := h.le s hs t (by omega) (by omega)
      exact le_trans h4 ((bef_false _ _).1 (h.along t (by omega) h2))

/-- THE LAW: the two ways down leave one array. -/
theorem down_is_sift {n : Nat} {q : Nat → Tn} {i : Nat} {r r' : Nat → Tn} (hk : Kids n q i) (h : Downed n q i r) (h' : Sifted n q i r') : ∀ k, k < n → r k = r' k := by
  obtain ⟨l, b, hbl, hln, hend, hb, hup, hr⟩ := h
  obtain ⟨a, han, hdn, hstop, hr'⟩ := h'
  have hal : a ≤ l := by
    rcases Nat.lt_or_ge l a with hlt | hge
    · have h1 : pick n q (path n q i l) ≥ 2 * path n q i l + 1 := pick_ge n q _
      have h2 : path n q i (l + 1) = pick n q (path n q i l) := rfl
      have h3 : path n q i (l + 1) ≤ path n q i a := by
        by_cases e : l + 1 = a
        · subst e; exact Nat.le_refl _
        · exact Nat.le_of_lt (path_mono n q i _ _ (by omega))
      omega
    · exact hge
  have hnl : ∀ t, t ≤ l → path n q i t < n := fun t ht => by
    by_cases e : t = l
    · subst e; exact hln
    · exact Nat.lt_trans (path_mono n q i t l (by omega)) hln
  -- a ≤ b
  have hab : a ≤ b := by
    rcases Nat.lt_or_ge b a with hlt | hge
    · have h1 := (bef_iff _ _).1 (hdn a (by omega) (Nat.le_refl _))
      have h2 := (bef_iff _ _).1 (hup a hlt hal)
      exact absurd h2 h1.asymm
    · exact hge
  -- between a and b every turn is i's own
  have same : ∀ t, a < t → t ≤ b → q (path n q i t) = q i := by
    intro t h1 h2
    have hb' : ¬ Bef (q i) (q (path n q i b)) := by
      rcases hb with hb | hb
      · omega
      · exact (bef_false _ _).1 hb
    have ha' : ¬ Bef (q (path n q i (a + 1))) (q i) := by
      rcases hstop with hs | hs
      · have h3 : path n q i (a + 1) ≥ 2 * path n q i a + 1 := pick_ge n q _
        have h4 := hnl (a + 1) (by omega)
        omega
      · exact (bef_false _ _).1 hs
    have h3 := hk.le (a + 1) (by omega) t (by omega) (hnl t (by omega))
    have h4 := hk.le t (by omega) b h2 (hnl b hbl)
    exact Bef.total (le_trans ha' h3) (le_trans h4 hb')
  intro k hkn
  rw [hr k hkn, hr' k hkn]
  by_cases hon : ∃ s, s ≤ b ∧ k = path n q i s
  · obtain ⟨s, hs, rfl⟩ := hon
    rcases Nat.lt_or_ge s b with h1 | h1
    · rw [Put_on n q i b s h1]
      rcases Nat.lt_or_ge s a with h2 | h2
      · rw [Put_on n q i a s h2]
      · rw [same (s + 1) (by omega) (by omega)]
        by_cases e : s = a
        · subst e; rw [Put_at]
        · rw [Put_gt n q i a _ (path_mono n q i a s (by omega)), same s (by omega) (by omega)]
    · obtain rfl : s = b := by omega
      rw [Put_at]
      by_cases e : s = a
      · subst e; rw [Put_at]
      · rw [Put_gt n q i a _ (path_mono n q i a s (by omega)), same s (by omega) (by omega)]
  · have hno : ∀ s, s ≤ b → k ≠ path n q i s := fun s hs e => hon ⟨s, hs, e⟩
    rw [Put_off n q i b k hno, Put_off n q i a k (fun s hs => hno s (by omega))]

end Go.Proofs.Qxb6000182a.Plain
