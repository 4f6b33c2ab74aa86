/-
  PLAIN: closed walks and the search by levels. No Go in sight.
-/
namespace Go.Proofs.Qxb6001457a.Plain

/-- 'v' is reached from 's' by a walk of just k steps. -/
def Wk (n : Nat) (L : Nat → Nat) (Z : Nat → Nat → Int) (s : Nat) : Nat → Nat → Prop
  | 0, v => v = s
  | k + 1, v => ∃ u t, Wk n L Z s k u ∧ u < n ∧ t < L u ∧ Z u t = (v : Int)

/-- What the level behind f holds, rows below i done, and t numbers of row i. -/
def Lev (n : Nat) (L : Nat → Nat) (Z : Nat → Nat → Int) (f : Nat → Bool) (i t : Nat) (g : Nat → Bool) : Prop :=
  ∀ v, v < n → (g v = true ↔ (∃ u, u < i ∧ f u = true ∧ ∃ x, x < L u ∧ Z u x = (v : Int)) ∨ ∃ x, x < t ∧ Z i x = (v : Int))

theorem Lev.start (n : Nat) (L : Nat → Nat) (Z : Nat → Nat → Int) (f : Nat → Bool) : Lev n L Z f 0 0 (fun _ => false) := by
  intro v _
  constructor
  · intro h; cases h
  · rintro (⟨u, hu, _⟩ | ⟨x, hx, _⟩) <;> omega

theorem Lev.skip {n : Nat} {L : Nat → Nat} {Z : Nat → Nat → Int} {f g : Nat → Bool} {i : Nat} (h : Lev n L Z f i 0 g) (hf : f i = false) : Lev n L Z f (i + 1) 0 g := by
  intro v hv
  rw [h v hv]
  constructor
  · rintro (⟨u, hu, r⟩ | ⟨x, hx, _⟩)
    · exact .inl ⟨u, by omega, r⟩
    · omega
  · rintro (⟨u, hu, hfu, r⟩ | ⟨x, hx, _⟩)
    · by_cases e : u = i
      · subst e; rw [hf] at hfu; cases hfu
      · exact .inl ⟨u, by omega, hfu, r⟩
    · omega

theorem Lev.step {n : Nat} {L : Nat → Nat} {Z : Nat → Nat → Int} {f g : Nat → Bool} {i t z : Nat} (h : Lev n L Z f i t g) (hz : Z i t = (z : Int)) :
    Lev n L Z f i (t + 1) (fun j => if j = z then true else g j) := by
  intro v hv
  show (if v = z then true else g v) = true ↔ _
  by_cases e : v = z
  · subst e
    rw [if_pos rfl]
    exact ⟨fun _ => .inr ⟨t, by omega, hz⟩, fun _ => rfl⟩
  · rw [if_neg e, h v hv]
    constructor
    · rintro (r | ⟨x, hx, r⟩)
      · exact .inl r
      · exact .inr ⟨x, by omega, r⟩
    · rintro (r | ⟨x, hx, r⟩)
      · exact .inl r
      · by_cases ex : x = t
        · subst ex; omega
        · exact .inr ⟨x, by omega, r⟩

theorem Lev.row {n : Nat} {L : Nat → Nat} {Z : Nat → Nat → Int} {f g : Nat → Bool} {i : Nat} (h : Lev n L Z f i (L i) g) (hf : f i = true) : Lev n L Z f (i + 1) 0 g := by
  intro v hv
  rw [h v hv]
  constructor
  · rintro (⟨u, hu, r⟩ | ⟨x, hx, r⟩)
    · exact .inl ⟨u, by omega, r⟩
    · exact .inl ⟨i, by omega, hf, x, hx, r⟩
  · rintro (⟨u, hu, hfu, r⟩ | ⟨x, hx, _⟩)
    · by_cases e : u = i
      · subst e; exact .inr r
      · exact .inl ⟨u, by omega, hfu, r⟩
    · omega

/-- f tells the nodes that a walk of k steps comes to. -/
def IsLev (n : Nat) (L : Nat → Nat) (Z : Nat → Nat → Int) (s k : Nat) (f : Nat → Bool) : Prop := ∀ v, v < n → (f v = true ↔ Wk n L Z s k v)

theorem IsLev.start (n : Nat) (L : Nat → Nat) (Z : Nat → Nat → Int) (s : Nat) : IsLev n L Z s 0 (fun j => if j = s then true else false) := by
  intro v _
  show (if v = s then true else false) = true ↔ v = s
  by_cases e : v = s <;> simp [e]

theorem IsLev.next {n : Nat} {L : Nat → Nat} {Z : Nat → Nat → Int} {s k : Nat} {f g : Nat → Bool} (h : IsLev n L Z s k f) (hg : Lev n L Z f n 0 g) : IsLev n L Z s (k + 1) g := by
  intro v hv
  rw [hg v hv]
  constructor
  · rintro (⟨u, hu, hf, x, hx, e⟩ | ⟨x, hx, _⟩)
    · exact ⟨u, x, (h u hu).1 hf, hu, hx, e⟩
    · omega
  · rintro ⟨u, x, hw, hu, hx, e⟩
    exact .inl ⟨u, hu, (h u hu).2 hw, x, hx, e⟩

/-- No closed walk of fewer than k steps. -/
def NoneBelow (n : Nat) (L : Nat → Nat) (Z : Nat → Nat → Int) (s k : Nat) : Prop := ∀ j, 1 ≤ j → j < k → ¬ Wk n L Z s j s

theorem NoneBelow.next {n : Nat} {L : Nat → Nat} {Z : Nat → Nat → Int} {s k : Nat} {g : Nat → Bool} (hs : s < n) (h : NoneBelow n L Z s k) (hg : IsLev n L Z s k g) (hno : g s = false) : NoneBelow n L Z s (k + 1) := by
  intro j h1 h2
  by_cases e : j = k
  · subst e
    intro hw
    rw [(hg s hs).2 hw] at hno
    cases hno
  · exact h j h1 (by omega)

/-- What shortestReturn answers. -/
def Short (n : Nat) (L : Nat → Nat) (Z : Nat → Nat → Int) (s k : Nat) : Prop :=
  (k = 0 ∧ NoneBelow n L Z s (n + 1)) ∨ (1 ≤ k ∧ k ≤ n ∧ Wk n L Z s k s ∧ NoneBelow n L Z s k)

end Go.Proofs.Qxb6001457a.Plain
