/-
  PLAIN: counting, sorting by merging, and what it is good for. No Go in sight.
-/
import Derived.Test.Qxb6000182aHeap
namespace Go.Proofs.Qxb6000182a.Plain

def one (p : Tn → Bool) (u : Tn) : Nat := if p u = true then 1 else 0
/-- How many of the m turns from 'lo' on p holds of. -/
def cnt (p : Tn → Bool) (q : Nat → Tn) (lo : Nat) : Nat → Nat
  | 0 => 0
  | m + 1 => cnt p q lo m + one p (q (lo + m))

theorem one_le (p : Tn → Bool) (u : Tn) : one p u ≤ 1 := by unfold one; split <;> omega

theorem cnt_congr {p : Tn → Bool} {q q' : Nat → Tn} {lo : Nat} : ∀ (m : Nat), (∀ k, lo ≤ k → k < lo + m → q k = q' k) → cnt p q lo m = cnt p q' lo m
  | 0, _ => rfl
  | m + 1, h => by
    show cnt p q lo m + _ = cnt p q' lo m + _
    rw [cnt_congr m (fun k h1 h2 => h k h1 (by omega)), h (lo + m) (by omega) (by omega)]

theorem cnt_add (p : Tn → Bool) (q : Nat → Tn) (lo m : Nat) : ∀ (k : Nat), cnt p q lo (m + k) = cnt p q lo m + cnt p q (lo + m) k
  | 0 => rfl
  | k + 1 => by
    show cnt p q lo (m + k) + one p (q (lo + (m + k))) = cnt p q lo m + (cnt p q (lo + m) k + one p (q (lo + m + k)))
    rw [cnt_add p q lo m k, Nat.add_assoc lo m k]; omega

theorem cnt_upd {p : Tn → Bool} {q : Nat → Tn} {k : Nat} {u : Tn} : ∀ (n : Nat), k < n → cnt p (upd q k u) 0 n + one p (q k) = cnt p q 0 n + one p u
  | 0, h => by omega
  | n + 1, h => by
    show cnt p (upd q k u) 0 n + one p (upd q k u (0 + n)) + one p (q k) = cnt p q 0 n + one p (q (0 + n)) + one p u
    rw [Nat.zero_add]
    by_cases e : k = n
    · subst e
      rw [upd_same, cnt_congr (q' := q) k (fun j _ h2 => upd_other (by omega))]; omega
    · have := cnt_upd (p := p) (q := q) (k := k) (u := u) n (by omega)
      rw [upd_other (fun e' => e e'.symm)]; omega

theorem cnt_all {p : Tn → Bool} {q : Nat → Tn} {k : Nat} : ∀ (n : Nat), k ≤ n → (∀ j, j < k → p (q j) = true) → k ≤ cnt p q 0 n
  | 0, h, _ => by omega
  | n + 1, h, hp => by
    show k ≤ cnt p q 0 n + one p (q (0 + n))
    by_cases e : k = n + 1
    · have h1 := cnt_all (k := n) n (Nat.le_refl _) (fun j hj => hp j (by omega))
      have h2 : one p (q (0 + n)) = 1 := by unfold one; rw [Nat.zero_add, if_pos (hp n (by omega))]
      omega
    · have := cnt_all (k := k) n (by omega) hp; omega

theorem cnt_none {p : Tn → Bool} {q : Nat → Tn} {k : Nat} : ∀ (n : Nat), (∀ j, k ≤ j → j < n → p (q j) = false) → cnt p q 0 n ≤ k
  | 0, _ => Nat.zero_le _
  | n + 1, hp => by
    show cnt p q 0 n + one p (q (0 + n)) ≤ k
    by_cases e : k ≤ n
    · have h1 := cnt_none (k := k) n (fun j h1 h2 => hp j h1 (by omega))
      have h2 : one p (q (0 + n)) = 0 := by unfold one; rw [Nat.zero_add, if_neg (by rw [hp n e (by omega)]; exact Bool.false_ne_true)]
      omega
    · have h1 := cnt_none (p := p) (q := q) (k := n) n (fun j h1 h2 => by omega)
      have := one_le p (q (0 + n))
      omega

/-- The same turns, in whatever order. -/
def Same (n : Nat) (q q' : Nat → Tn) : Prop := ∀ p, cnt p q 0 n = cnt p q' 0 n
def Sorted (n : Nat) (q : Nat → Tn) : Prop := ∀ i j, i < j → j < n → ¬ Bef (q j) (q i)

theorem Same.symm {n : Nat} {q q' : Nat → Tn} (h : Same n q q') : Same n q' q := fun p => (h p).symm
theorem Same.trans {n : Nat} {q q' q'' : Nat → Tn} (h : Same n q q') (k : Same n q' q'') : Same n q q'' := fun p => (h p).trans (k p)
theorem Same.of_eq {n : Nat} {q q' : Nat → Tn} (h : ∀ k, k < n → q k = q' k) : Same n q q' := fun _ => cnt_congr n (fun k _ h2 => h k (by omega))

theorem Sorted.le {n : Nat} {q : Nat → Tn} (h : Sorted n q) {i j : Nat} (hij : i ≤ j) (hj : j < n) : ¬ Bef (q j) (q i) := by
  by_cases e : i = j
  · subst e; exact Bef.irrefl _
  · exact h i j (by omega) hj

theorem sorted_one_way {n : Nat} {s t : Nat → Tn} (hs : Sorted n s) (ht : Sorted n t) (h : Same n s t) {k : Nat} (hk : k < n) : ¬ Bef (s k) (t k) := by
  intro hb
  have h1 : k + 1 ≤ cnt (fun x => bef x (t k)) s 0 n := cnt_all n (by omega) (fun j hj => (bef_iff _ _).2 (by
    have h2 := hs.le (i := j) (j := k) (by omega) hk
    rcases Classical.em (Bef (s j) (t k)) with h3 | h3
    · exact h3
    · exact absurd hb (le_trans h3 h2)))
  have h2 : cnt (fun x => bef x (t k)) t 0 n ≤ k := cnt_none n (fun j h3 h4 => (bef_false _ _).2 (ht.le h3 h4))
  rw [h] at h1
  omega

/-- Two sorted arrays of the same turns are one. -/
theorem sorted_same {n : Nat} {s t : Nat → Tn} (hs : Sorted n s) (ht : Sorted n t) (h : Same n s t) : ∀ k, k < n → s k = t k := fun _ hk =>
  Bef.total (sorted_one_way hs ht h hk) (sorted_one_way ht hs h.symm hk)

/-! ### merging -/

/-- q is sorted from lo up to hi. -/
def SortedIn (q : Nat → Tn) (lo hi : Nat) : Prop := ∀ i j, lo ≤ i → i < j → j < hi → ¬ Bef (q j) (q i)

/-- In the midst of a merge: x, y are read, k is written. -/
structure Mrg (src dst : Nat → Tn) (lo mid hi x y k : Nat) : Prop where
  hx : lo ≤ x
  hxm : x ≤ mid
  hy : mid ≤ y
  hyh : y ≤ hi
  hk : k + mid = x + y
  count : ∀ p, cnt p dst lo (k - lo) = cnt p src lo (x - lo) + cnt p src mid (y - mid)
  sorted : SortedIn dst lo k
  left : ∀ i j, lo ≤ i → i < k → x ≤ j → j < mid → ¬ Bef (src j) (dst i)
  right : ∀ i j, lo ≤ i → i < k → y ≤ j → j < hi → ¬ Bef (src j) (dst i)

theorem Mrg.start (src dst : Nat → Tn) {lo mid hi : Nat} (h1 : lo ≤ mid) (h2 : mid ≤ hi) : Mrg src dst lo mid hi lo mid lo where
  hx := Nat.le_refl _
  hxm := h1
  hy := Nat.le_refl _
  hyh := h2
  hk := rfl
  count := fun p => by simp [cnt]
  sorted := fun i j a b c => by omega
  left := fun i j a b => by omega
  right := fun i j a b => by omega

theorem cnt_snoc {p : Tn → Bool} {q : Nat → Tn} {lo m : Nat} (h : lo ≤ m) : cnt p q lo (m + 1 - lo) = cnt p q lo (m - lo) + one p (q m) := by
  have e : m + 1 - lo = (m - lo) + 1 := by omega
  rw [e]
  show cnt p q lo (m - lo) + one p (q (lo + (m - lo))) = _
  rw [show lo + (m - lo) = m by omega]

theorem cnt_dst {p : Tn → Bool} {dst : Nat → Tn} {lo k : Nat} {u : Tn} (h : lo ≤ k) : cnt p (upd dst k u) lo (k + 1 - lo) = cnt p dst lo (k - lo) + one p u := by
  rw [cnt_snoc h, upd_same, cnt_congr (q' := dst) (k - lo) (fun j _ h2 => upd_other (by omega))]

/-- The turn at x is taken. -/
theorem Mrg.takeX {src dst : Nat → Tn} {lo mid hi x y k : Nat} (h : Mrg src dst lo mid hi x y k) (hs : SortedIn src lo mid) (hxm : x < mid) (hb : y < hi → ¬ Bef (src y) (src x)) (hs2 : SortedIn src mid hi) :
    Mrg src (upd dst k (src x)) lo mid hi (x + 1) y (k + 1) := by
  have hx := h.hx
  have hy := h.hy
  have hyh := h.hyh
  have hk := h.hk
  have old : ∀ i, i < k → upd dst k (src x) i = dst i := fun i hi => upd_other (by omega)
  refine ⟨by omega, by omega, h.hy, h.hyh, by omega, fun p => ?_, fun i j a b c => ?_, fun i j a b c d => ?_, fun i j a b c d => ?_⟩
  · rw [cnt_dst (by omega), h.count p, cnt_snoc hx]; omega
  · by_cases e : j = k
    · subst e; rw [upd_same, old i b]; exact h.left i x a b (Nat.le_refl _) hxm
    · rw [old j (by omega), old i (by omega)]; exact h.sorted i j a b (by omega)
  · by_cases e : i = k
    · subst e; rw [upd_same]; exact hs x j hx (by omega) d
    · rw [old i (by omega)]; exact h.left i j a (by omega) (by omega) d
  · by_cases e : i = k
    · subst e
      rw [upd_same]
      by_cases ey : j = y
      · subst ey; exact hb d
      · exact le_trans (hb (by omega)) (hs2 y j hy (by omega) d)
    · rw [old i (by omega)]; exact h.right i j a (by omega) c d

/-- The turn at y is taken. -/
theorem Mrg.takeY {src dst : Nat → Tn} {lo mid hi x y k : Nat} (h : Mrg src dst lo mid hi x y k) (hs2 : SortedIn src mid hi) (hyh : y < hi) (hb : x < mid → Bef (src y) (src x)) (hs : SortedIn src lo mid) :
    Mrg src (upd dst k (src y)) lo mid hi x (y + 1) (k + 1) := by
  have hx := h.hx
  have hxm := h.hxm
  have hy := h.hy
  have hk := h.hk
  have old : ∀ i, i < k → upd dst k (src y) i = dst i := fun i hi => upd_other (by omega)
  refine ⟨h.hx, h.hxm, by omega, by omega, by omega, fun p => ?_, fun i j a b c => ?_, fun i j a b c d => ?_, fun i j a b c d => ?_⟩
  · rw [cnt_dst (by omega), h.count p, cnt_snoc hy]; omega
  · by_cases e : j = k
    · subst e; rw [upd_same, old i b]; exact h.right i y a b (Nat.le_refl _) hyh
    · rw [old j (by omega), old i (by omega)]; exact h.sorted i j a b (by omega)
  · by_cases e : i = k
    · subst e
      rw [upd_same]
      have hb1 := (hb (by omega)).asymm
      by_cases ex : j = x
      · subst ex; exact hb1
      · exact le_trans hb1 (hs x j hx (by omega) d)
    · rw [old i (by omega)]; exact h.left i j a (by omega) c d
  · by_cases e : i = k
    · subst e; rw [upd_same]; exact hs2 y j hy (by omega) d
    · rw [old i (by omega)]; exact h.right i j a (by omega) (by omega) d

/-! ### passes -/

/-- Below e, each run of w turns is sorted. -/
def Runs (w : Nat) (q : Nat → Tn) (e : Nat) : Prop := ∀ lo, w ∣ lo → SortedIn q lo (min (lo + w) e)

theorem runs_one (q : Nat → Tn) (e : Nat) : Runs 1 q e := fun lo _ i j h1 h2 h3 => by omega

theorem Runs.all {w n : Nat} {q : Nat → Tn} (h : Runs w q n) (hw : n ≤ w) : Sorted n q := fun i j h1 h2 => h 0 ⟨0, by omega⟩ i j (Nat.zero_le _) h1 (by omega)

/-- A pass of width w has come to lo. -/
structure Pass (src dst : Nat → Tn) (n w lo : Nat) : Prop where
  dvd : 2 * w ∣ lo
  count : ∀ p, cnt p dst 0 (min lo n) = cnt p src 0 (min lo n)
  runs : Runs (2 * w) dst (min lo n)

theorem Pass.start (src dst : Nat → Tn) (n w : Nat) : Pass src dst n w 0 where
  dvd := ⟨0, by omega⟩
  count := fun p => by simp [cnt]
  runs := fun lo _ i j h1 h2 h3 => by omega

theorem Pass.upd {src dst : Nat → Tn} {n w lo k : Nat} {u : Tn} (h : Pass src dst n w lo) (hk : lo ≤ k) : Pass src (upd dst k u) n w lo where
  dvd := h.dvd
  count := fun p => by rw [← h.count p]; exact cnt_congr _ (fun j _ h2 => upd_other (by omega))
  runs := fun l hl i j h1 h2 h3 => by
    rw [upd_other (show i ≠ k by omega), upd_other (show j ≠ k by omega)]
    exact h.runs l hl i j h1 h2 h3

theorem dvd_gap {d a b : Nat} (ha : d ∣ a) (hb : d ∣ b) (h : a < b) : a + d ≤ b := by
  obtain ⟨x, rfl⟩ := ha
  obtain ⟨y, rfl⟩ := hb
  have hxy : x < y := by
    rcases Nat.lt_or_ge x y with h1 | h1
    · exact h1
    · have := Nat.mul_le_mul_left d h1; omega
  have := Nat.mul_le_mul_left d (show x + 1 ≤ y from hxy)
  rw [Nat.mul_add, Nat.mul_one] at this
  exact this

theorem Pass.next {src dst : Nat → Tn} {n w lo : Nat} (h : Pass src dst n w lo) (hlo : lo < n) (hm : Mrg src dst lo (min (lo + w) n) (min (lo + 2 * w) n) (min (lo + w) n) (min (lo + 2 * w) n) (min (lo + 2 * w) n)) (hw : 1 ≤ w) : Pass src dst n w (lo + 2 * w) where
  dvd := Nat.dvd_add h.dvd (Nat.dvd_refl _)
  count := fun p => by
    have e1 : min (lo + 2 * w) n = lo + (min (lo + 2 * w) n - lo) := by omega
    have e2 : min (lo + 2 * w) n - lo = (min (lo + w) n - lo) + (min (lo + 2 * w) n - min (lo + w) n) := by omega
    have c0 := h.count p
    have c1 := hm.count p
    rw [show min lo n = lo by omega] at c0
    rw [e1, cnt_add, cnt_add, c0, Nat.zero_add, c1, e2, cnt_add, show lo + (min (lo + w) n - lo) = min (lo + w) n by omega]
  runs := fun l hl i j h1 h2 h3 => by
    rcases Nat.lt_trichotomy l lo with hlt | heq | hgt
    · have := dvd_gap hl h.dvd hlt
      exact h.runs l hl i j h1 h2 (by omega)
    · subst heq
      exact hm.sorted i j h1 h2 (by omega)
    · have := dvd_gap h.dvd hl hgt
      omega

theorem Pass.done {src dst : Nat → Tn} {n w lo : Nat} (h : Pass src dst n w lo) (hlo : n ≤ lo) : Same n dst src ∧ Runs (2 * w) dst n := by
  have e : min lo n = n := by omega
  exact ⟨fun p => by have := h.count p; rwa [e] at this, by have := h.runs; rwa [e] at this⟩

theorem Runs.left {w n lo : Nat} {q : Nat → Tn} (h : Runs w q n) (hd : 2 * w ∣ lo) : SortedIn q lo (min (lo + w) n) :=
  h lo (Nat.dvd_trans ⟨2, by omega⟩ hd)
theorem Runs.right {w n lo : Nat} {q : Nat → Tn} (h : Runs w q n) (hd : 2 * w ∣ lo) : SortedIn q (min (lo + w) n) (min (lo + 2 * w) n) := by
  intro i j h1 h2 h3
  have h4 := h (lo + w) (Nat.dvd_add (Nat.dvd_trans ⟨2, by omega⟩ hd) (Nat.dvd_refl _))
  exact h4 i j (by omega) h2 (by omega)

/-- What b1Sort hands back. -/
def SortOf (n : Nat) (q s : Nat → Tn) : Prop := Same n s q ∧ Sorted n s

theorem SortOf.unique {n : Nat} {q q' s s' : Nat → Tn} (h : SortOf n q s) (h' : SortOf n q' s') (hq : Same n q q') : ∀ k, k < n → s k = s' k :=
  sorted_same h.2 h'.2 (h.1.trans (hq.trans h'.1.symm))

/-! ### what 'down' leaves: the same turns, a heap below i, the rest alone -/

theorem Put_same (n : Nat) (q : Nat → Tn) (i : Nat) : ∀ j, path n q i j < n → Same n (Put n q i j) q
  | 0, _ => Same.of_eq fun k _ => Put_zero n q i k
  | j + 1, hj => by
    have hlt := path_step n q i j
    have ih := Put_same n q i j (by omega)
    intro p
    have e1 : cnt p (Put n q i (j + 1)) 0 n = cnt p (upd (upd (Put n q i j) (path n q i j) (q (path n q i (j + 1)))) (path n q i (j + 1)) (q i)) 0 n :=
      cnt_congr n (fun k _ _ => (Put_swap n q i j k).symm)
    have c1 := cnt_upd (p := p) (q := upd (Put n q i j) (path n q i j) (q (path n q i (j + 1)))) (k := path n q i (j + 1)) (u := q i) n hj
    have c2 := cnt_upd (p := p) (q := Put n q i j) (k := path n q i j) (u := q (path n q i (j + 1))) n (by omega)
    rw [upd_other (show path n q i (j + 1) ≠ path n q i j by omega), Put_gt n q i j _ hlt] at c1
    rw [Put_at] at c2
    rw [e1, ← ih p]
    omega

theorem Downed.same {n : Nat} {q : Nat → Tn} {i : Nat} {r : Nat → Tn} (h : Downed n q i r) : Same n r q := by
  obtain ⟨l, j, hjl, hln, _, _, _, hr⟩ := h
  have hj : path n q i j < n := by
    by_cases e : j = l
    · subst e; exact hln
    · exact Nat.lt_trans (path_mono n q i j l (by omega)) hln
  exact (Same.of_eq hr).trans (Put_same n q i j hj)

theorem inB_of_path {n : Nat} {q : Nat → Tn} {i t k : Nat} (h : k = path n q i t) : k = i ∨ inB k k i = true := by
  cases t with
  | zero => exact .inl h
  | succ t => subst h; exact .inr (inB_path n q i t)

/-- Outside i's subtree nothing has turned. -/
theorem Downed.outside {n : Nat} {q : Nat → Tn} {i : Nat} {r : Nat → Tn} (h : Downed n q i r) {k : Nat} (hk : k < n) (h1 : k ≠ i) (h2 : inB k k i = false) : r k = q k := by
  obtain ⟨l, j, _, _, _, _, _, hr⟩ := h
  rw [hr k hk]
  refine Put_off n q i j k fun s _ e => ?_
  rcases inB_of_path e with h3 | h3
  · exact h1 h3
  · rw [h2] at h3; cases h3

theorem pick_le {n : Nat} {q : Nat → Tn} {h c : Nat} (hc : (c - 1) / 2 = h) (h1 : 1 ≤ c) (hn : c < n) : ¬ Bef (q c) (q (pick n q h)) := by
  have h2 : c = 2 * h + 1 ∨ c = 2 * h + 2 := by omega
  unfold pick
  split
  · rename_i hb
    rcases h2 with rfl | rfl
    · exact ((bef_iff _ _).1 hb.2).asymm
    · exact Bef.irrefl _
  · rename_i hb
    rcases h2 with rfl | rfl
    · exact Bef.irrefl _
    · intro h3
      exact hb ⟨hn, (bef_iff _ _).2 h3⟩

theorem path_inj {n : Nat} {q : Nat → Tn} {i s t : Nat} (h : path n q i s = path n q i t) : s = t := by
  rcases Nat.lt_trichotomy s t with h1 | h1 | h1
  · have := path_mono n q i s t h1; omega
  · exact h1
  · have := path_mono n q i t s h1; omega

theorem path_up (n : Nat) (q : Nat → Tn) (i t : Nat) : (path n q i (t + 1) - 1) / 2 = path n q i t := pick_up n q _

/-- Below i the turns lie as a heap's. -/
theorem Downed.heap {n : Nat} {q : Nat → Tn} {i : Nat} {r : Nat → Tn} (h : Downed n q i r) (hk : Kids n q i) {c : Nat} (h1 : 1 ≤ c) (hc : c < n) (hin : inB c c i = true) : ¬ Bef (r c) (r ((c - 1) / 2)) := by
  obtain ⟨l, j, hjl, hln, hend, hstop, hup, hr⟩ := h
  have hci : i < c := by
    rcases Nat.lt_or_ge i c with h2 | h2
    · exact h2
    · rw [inB_out (by omega)] at hin; cases hin
  have hpl : ∀ t, t ≤ l → path n q i t < n := fun t ht => by
    by_cases e : t = l
    · subst e; exact hln
    · exact Nat.lt_trans (path_mono n q i t l (by omega)) hln
  rw [hr c hc, hr ((c - 1) / 2) (by omega)]
  by_cases hon : ∃ s, s ≤ j ∧ (c - 1) / 2 = path n q i s
  · obtain ⟨s, hs, hps⟩ := hon
    have hpick : ¬ Bef (q c) (q (path n q i (s + 1))) := pick_le hps h1 hc
    -- c lies on the way only as the next place
    have hoff : c ≠ path n q i (s + 1) → Put n q i j c = q c := fun hne => Put_off n q i j c fun t _ e => by
      cases t with
      | zero => have : c = i := e; omega
      | succ t =>
        have h3 := path_up n q i t
        rw [← e, hps] at h3
        have := path_inj h3
        subst this
        exact hne e
    rw [hps]
    by_cases hsj : s = j
    · subst hsj
      rw [Put_at]
      have hc2 : 2 * path n q i s + 1 ≤ c := by omega
      have hsl : s < l := by
        rcases Nat.lt_or_ge s l with h3 | h3
        · exact h3
        · have : s = l := by omega
          subst this; omega
      have hcp : Put n q i s c = q c := by
        refine Put_gt n q i s c ?_
        omega
      rw [hcp]
      intro h3
      have h4 := (bef_iff _ _).1 (hup (s + 1) (by omega) (by omega))
      exact hpick (h3.trans h4)
    · rw [Put_on n q i j s (by omega)]
      by_cases hcs : c = path n q i (s + 1)
      · rw [hcs]
        by_cases hsj2 : s + 1 = j
        · rw [hsj2, Put_at]
          rcases hstop with h3 | h3
          · omega
          · exact (bef_false _ _).1 h3
        · rw [Put_on n q i j (s + 1) (by omega)]
          exact (bef_false _ _).1 (hk.along (s + 1) (by omega) (hpl (s + 1 + 1) (by omega)))
      · rw [hoff hcs]; exact hpick
  · have hno : ∀ s, s ≤ j → (c - 1) / 2 ≠ path n q i s := fun s hs e => hon ⟨s, hs, e⟩
    have hcno : ∀ s, s ≤ j → c ≠ path n q i s := fun s hs e => by
      cases s with
      | zero => have : c = i := e; omega
      | succ s =>
        have h3 := path_up n q i s
        rw [← e] at h3
        exact hno s (by omega) h3
    rw [Put_off n q i j c hcno, Put_off n q i j _ hno]
    exact (bef_false _ _).1 (hk c h1 hc (hno 0 (Nat.zero_le _)) hin)

end Go.Proofs.Qxb6000182a.Plain
