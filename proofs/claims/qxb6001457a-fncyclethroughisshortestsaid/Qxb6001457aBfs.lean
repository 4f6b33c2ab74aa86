/-
  PLAIN: the breadth-first search's invariant. No Go in sight.
-/
import Derived.Test.Qxb6001457aPlain
namespace Go.Proofs.Qxb6001457a.Plain

theorem nodup_lt_length : ∀ (n : Nat) (l : List Nat), l.Nodup → (∀ x ∈ l, x < n) → l.length ≤ n
  | 0, l, _, h => by
    cases l with
    | nil => simp
    | cons x r => exact absurd (h x (by simp)) (by omega)
  | n + 1, l, hd, h => by
    have h1 : (l.erase n).length ≤ n := nodup_lt_length n (l.erase n) (hd.erase n) (fun x hx => by
      have h2 := (hd.mem_erase_iff).1 hx
      have := h x h2.2
      omega)
    rw [List.length_erase] at h1
    split at h1 <;> omega

/-- The search: 'ord': all nodes met, in the order in which they were met; 'dep': how many steps from s; 'par': whence. -/
structure Bfs (n : Nat) (L : Nat → Nat) (Z : Nat → Nat → Int) (s : Nat) (ord : List Nat) (dep par : Nat → Nat) : Prop where
  mem : s ∈ ord
  nodup : ord.Nodup
  lt : ∀ v ∈ ord, v < n
  dep0 : dep s = 0
  up : ∀ v ∈ ord, v ≠ s → par v ∈ ord ∧ dep v = dep (par v) + 1 ∧ ∃ t, t < L (par v) ∧ Z (par v) t = (v : Int)
  mono : ord.Pairwise (fun a b => dep a ≤ dep b)
  small : ∀ v ∈ ord, dep v < ord.length

/-- The nodes of 'done' are closed. -/
def Closed (_L : Nat → Nat) (Z : Nat → Nat → Int) (s : Nat) (ord : List Nat) (dep : Nat → Nat) (u t : Nat) : Prop :=
  ∀ x, x < t → ∃ v : Nat, Z u x = (v : Int) ∧ v ≠ s ∧ v ∈ ord ∧ dep v ≤ dep u + 1

/-- At the head of the outer loop: 'done' are taken off the queue, 'q' are in it. -/
structure AtHead (n : Nat) (L : Nat → Nat) (Z : Nat → Nat → Int) (s : Nat) (done q : List Nat) (dep par : Nat → Nat) : Prop where
  bfs : Bfs n L Z s (done ++ q) dep par
  closed : ∀ u ∈ done, Closed L Z s (done ++ q) dep u (L u)
  near : ∀ u ∈ q, ∀ v ∈ done ++ q, dep v ≤ dep u + 1

/-- At the head of the inner loop: i is off the queue, t of its numbers are looked at. -/
structure AtRow (n : Nat) (L : Nat → Nat) (Z : Nat → Nat → Int) (s : Nat) (done : List Nat) (i t : Nat) (q : List Nat) (dep par : Nat → Nat) : Prop where
  bfs : Bfs n L Z s (done ++ i :: q) dep par
  closed : ∀ u ∈ done, Closed L Z s (done ++ i :: q) dep u (L u)
  near : ∀ u ∈ i :: q, ∀ v ∈ done ++ i :: q, dep v ≤ dep u + 1
  part : Closed L Z s (done ++ i :: q) dep i t

theorem AtHead.start (n : Nat) (L : Nat → Nat) (Z : Nat → Nat → Int) (s : Nat) (hs : s < n) : AtHead n L Z s [] [s] (fun _ => 0) (fun _ => 0) where
  bfs := { mem := by simp
           nodup := by simp
           lt := by simp [hs]
           dep0 := rfl
           up := fun v hv hne => absurd (by simpa using hv) hne
           mono := by simp
           small := by simp }
  closed := by simp
  near := by simp

theorem AtHead.pop {n : Nat} {L : Nat → Nat} {Z : Nat → Nat → Int} {s : Nat} {done : List Nat} {i : Nat} {q : List Nat} {dep par : Nat → Nat} (h : AtHead n L Z s done (i :: q) dep par) : AtRow n L Z s done i 0 q dep par where
  bfs := h.bfs
  closed := h.closed
  near := h.near
  part := fun x hx => by omega

theorem AtRow.back {n : Nat} {L : Nat → Nat} {Z : Nat → Nat → Int} {s : Nat} {done : List Nat} {i : Nat} {q : List Nat} {dep par : Nat → Nat} (h : AtRow n L Z s done i (L i) q dep par) : AtHead n L Z s (done ++ [i]) q dep par where
  bfs := by simpa using h.bfs
  closed := fun u hu => by
    have e : done ++ [i] ++ q = done ++ i :: q := by simp
    rw [e]
    rcases List.mem_append.1 hu with hu | hu
    · exact h.closed u hu
    · obtain rfl : u = i := by simpa using hu
      exact h.part
  near := fun u hu v hv => h.near u (by simp [hu]) v (by simpa using hv)

/-- The number looked at was met before. -/
theorem AtRow.seen {n : Nat} {L : Nat → Nat} {Z : Nat → Nat → Int} {s : Nat} {done : List Nat} {i t j : Nat} {q : List Nat} {dep par : Nat → Nat} (h : AtRow n L Z s done i t q dep par) (hz : Z i t = (j : Int)) (hj : j ≠ s)
    (hm : j ∈ done ++ i :: q) : AtRow n L Z s done i (t + 1) q dep par where
  bfs := h.bfs
  closed := h.closed
  near := h.near
  part := fun x hx => by
    by_cases e : x = t
    · subst e; exact ⟨j, hz, hj, hm, h.near i (by simp) j hm⟩
    · exact h.part x (by omega)

/-- .. or it is new. -/
theorem AtRow.fresh {n : Nat} {L : Nat → Nat} {Z : Nat → Nat → Int} {s : Nat} {done : List Nat} {i t j : Nat} {q : List Nat} {dep par : Nat → Nat} (h : AtRow n L Z s done i t q dep par) (ht : t < L i) (hz : Z i t = (j : Int)) (hj : j ≠ s)
    (hjn : j < n) (hm : j ∉ done ++ i :: q) : AtRow n L Z s done i (t + 1) (q ++ [j]) (fun v => if v = j then dep i + 1 else dep v) (fun v => if v = j then i else par v) := by
  have hi : i ∈ done ++ i :: q := by simp
  have ne : ∀ v ∈ done ++ i :: q, v ≠ j := fun v hv e => hm (e ▸ hv)
  have eo : done ++ i :: (q ++ [j]) = (done ++ i :: q) ++ [j] := by simp
  have old : ∀ {P : Nat → Nat → Prop} v, v ∈ done ++ i :: q → P v (dep v) → P v (if v = j then dep i + 1 else dep v) := fun v hv hp => by rw [if_neg (ne v hv)]; exact hp
  have dle : ∀ u ∈ i :: q, dep i ≤ dep u := by
    intro u hu
    have h1 := (List.pairwise_append.1 h.bfs.mono).2.1
    rcases List.mem_cons.1 hu with rfl | hu
    · exact Nat.le_refl _
    · exact (List.pairwise_cons.1 h1).1 u hu
  have grow : ∀ u x, u ∈ done ++ i :: q → Closed L Z s (done ++ i :: q) dep u x → Closed L Z s ((done ++ i :: q) ++ [j]) (fun v => if v = j then dep i + 1 else dep v) u x := by
    intro u x hu hc y hy
    obtain ⟨v, h1, h2, h3, h4⟩ := hc y hy
    refine ⟨v, h1, h2, List.mem_append.2 (.inl h3), ?_⟩
    show (if v = j then dep i + 1 else dep v) ≤ (if u = j then dep i + 1 else dep u) + 1
    rw [if_neg (ne v h3), if_neg (ne u hu)]; exact h4
  refine ⟨?_, ?_, ?_, ?_⟩
  · rw [eo]
    refine ⟨List.mem_append.2 (.inl h.bfs.mem), ?_, ?_, ?_, ?_, ?_, ?_⟩
    · rw [List.nodup_append]
      refine ⟨h.bfs.nodup, by simp, fun a ha b hb => ?_⟩
      obtain rfl : b = j := by simpa using hb
      exact ne a ha
    · intro v hv
      rcases List.mem_append.1 hv with hv | hv
      · exact h.bfs.lt v hv
      · obtain rfl : v = j := by simpa using hv
        exact hjn
    · show (if s = j then dep i + 1 else dep s) = 0
      rw [if_neg (fun e => hj e.symm)]; exact h.bfs.dep0
    · intro v hv hvs
      show (if v = j then i else par v) ∈ _ ∧ (if v = j then dep i + 1 else dep v) = (if (if v = j then i else par v) = j then dep i + 1 else dep (if v = j then i else par v)) + 1 ∧ _
      rcases List.mem_append.1 hv with hv | hv
      · obtain ⟨h1, h2, h3⟩ := h.bfs.up v hv hvs
        rw [if_neg (ne v hv), if_neg (ne v hv), if_neg (ne _ h1)]
        exact ⟨List.mem_append.2 (.inl h1), h2, h3⟩
      · obtain rfl : v = j := by simpa using hv
        rw [if_pos rfl, if_pos rfl, if_neg (ne i hi)]
        exact ⟨List.mem_append.2 (.inl hi), rfl, t, ht, hz⟩
    · rw [List.pairwise_append]
      refine ⟨?_, by simp, ?_⟩
      · refine List.Pairwise.imp_of_mem ?_ h.bfs.mono
        intro a b ha hb hab
        show (if a = j then dep i + 1 else dep a) ≤ (if b = j then dep i + 1 else dep b)
        rw [if_neg (ne a ha), if_neg (ne b hb)]; exact hab
      · intro a ha b hb
        obtain rfl : b = j := by simpa using hb
        show (if a = b then dep i + 1 else dep a) ≤ (if b = b then dep i + 1 else dep b)
        rw [if_neg (ne a ha), if_pos rfl]; exact h.near i (by simp) a ha
    · intro v hv
      show (if v = j then dep i + 1 else dep v) < _
      rw [List.length_append]
      rcases List.mem_append.1 hv with hv | hv
      · rw [if_neg (ne v hv)]; have := h.bfs.small v hv; simp only [List.length_singleton]; omega
      · obtain rfl : v = j := by simpa using hv
        rw [if_pos rfl]; have := h.bfs.small i hi; simp only [List.length_singleton]; omega
  · intro u hu
    rw [eo]
    exact grow u _ (by simp [hu]) (h.closed u hu)
  · intro u hu v hv
    rw [eo] at hv
    show (if v = j then dep i + 1 else dep v) ≤ (if u = j then dep i + 1 else dep u) + 1
    have hu2 : u ∈ i :: q ∨ u = j := by
      rcases List.mem_cons.1 hu with rfl | hu
      · exact .inl (by simp)
      · rcases List.mem_append.1 hu with hu | hu
        · exact .inl (by simp [hu])
        · exact .inr (by simpa using hu)
    rcases hu2 with hu2 | rfl
    · have hu3 : u ∈ done ++ i :: q := List.mem_append.2 (.inr hu2)
      rw [if_neg (ne u hu3)]
      rcases List.mem_append.1 hv with hv | hv
      · rw [if_neg (ne v hv)]; exact h.near u hu2 v hv
      · obtain rfl : v = j := by simpa using hv
        rw [if_pos rfl]; have := dle u hu2; omega
    · rw [if_pos (show u = u from rfl)]
      rcases List.mem_append.1 hv with hv | hv
      · rw [if_neg (ne v hv)]; have := h.near i (by simp) v hv; omega
      · obtain rfl : v = u := by simpa using hv
        rw [if_pos rfl]; omega
  · intro x hx
    rw [eo]
    by_cases e : x = t
    · subst e
      refine ⟨j, hz, hj, by simp, ?_⟩
      show (if j = j then dep i + 1 else dep j) ≤ (if i = j then dep i + 1 else dep i) + 1
      rw [if_pos rfl, if_neg (ne i hi)]; omega
    · exact grow i t hi h.part x (by omega)

theorem Bfs.len {n : Nat} {L : Nat → Nat} {Z : Nat → Nat → Int} {s : Nat} {ord : List Nat} {dep par : Nat → Nat} (h : Bfs n L Z s ord dep par) : ord.length ≤ n := nodup_lt_length n ord h.nodup h.lt

/-- Every node that was met is reached by a walk of as many steps as 'dep' says. -/
theorem Bfs.walk {n : Nat} {L : Nat → Nat} {Z : Nat → Nat → Int} {s : Nat} {ord : List Nat} {dep par : Nat → Nat} (h : Bfs n L Z s ord dep par) : ∀ (d v : Nat), v ∈ ord → dep v = d → Wk n L Z s d v
  | 0, v, hv, hd => by
    by_cases e : v = s
    · exact e
    · have := (h.up v hv e).2.1; omega
  | d + 1, v, hv, hd => by
    by_cases e : v = s
    · subst e; have := h.dep0; omega
    · obtain ⟨h1, h2, t, h3, h4⟩ := h.up v hv e
      exact ⟨par v, t, h.walk d (par v) h1 (by omega), h.lt _ h1, h3, h4⟩

/-- A cycle is found: there is a closed walk of 'dep i + 1' steps, and no shorter one. -/
theorem AtRow.found {n : Nat} {L : Nat → Nat} {Z : Nat → Nat → Int} {s : Nat} {done : List Nat} {i t : Nat} {q : List Nat} {dep par : Nat → Nat} (h : AtRow n L Z s done i t q dep par) (ht : t < L i) (hz : Z i t = (s : Int)) :
    Wk n L Z s (dep i + 1) s ∧ NoneBelow n L Z s (dep i + 1) ∧ dep i + 1 ≤ n := by
  have hi : i ∈ done ++ i :: q := by simp
  refine ⟨⟨i, t, h.bfs.walk _ i hi rfl, h.bfs.lt i hi, ht, hz⟩, ?_, ?_⟩
  · have key : ∀ m v, m < dep i → Wk n L Z s m v → v ∈ done ∧ dep v ≤ m := by
      have before : ∀ v ∈ done ++ i :: q, dep v < dep i → v ∈ done := by
        intro v hv hlt
        rcases List.mem_append.1 hv with hv | hv
        · exact hv
        · have h1 := (List.pairwise_append.1 h.bfs.mono).2.1
          rcases List.mem_cons.1 hv with rfl | hv
          · omega
          · have := (List.pairwise_cons.1 h1).1 v hv; omega
      intro m
      induction m with
      | zero =>
        intro v hm hw
        obtain rfl : v = s := hw
        have := h.bfs.dep0
        exact ⟨before v h.bfs.mem (by omega), by omega⟩
      | succ m ih =>
        intro v hm hw
        obtain ⟨u, x, hu, _, hx, e⟩ := hw
        obtain ⟨hd, hle⟩ := ih u (by omega) hu
        obtain ⟨v', e', _, hv', hdv⟩ := h.closed u hd x hx
        obtain rfl : v = v' := by omega
        exact ⟨before v hv' (by omega), by omega⟩
    intro k h1 h2 hw
    obtain ⟨m, rfl⟩ : ∃ m, k = m + 1 := ⟨k - 1, by omega⟩
    obtain ⟨u, x, hu, _, hx, e⟩ := hw
    obtain ⟨hd, _⟩ := key m u (by omega) hu
    obtain ⟨v', e', hne, _⟩ := h.closed u hd x hx
    exact hne (by omega)
  · have h1 := h.bfs.small i hi
    have h2 := h.bfs.len
    omega

/-- The queue is empty: there is no closed walk. -/
theorem AtHead.none {n : Nat} {L : Nat → Nat} {Z : Nat → Nat → Int} {s : Nat} {done : List Nat} {dep par : Nat → Nat} (h : AtHead n L Z s done [] dep par) (k : Nat) : NoneBelow n L Z s k := by
  have key : ∀ m v, Wk n L Z s m v → v ∈ done := by
    intro m
    induction m with
    | zero =>
      intro v hw
      obtain rfl : v = s := hw
      simpa using h.bfs.mem
    | succ m ih =>
      intro v hw
      obtain ⟨u, x, hu, _, hx, e⟩ := hw
      obtain ⟨v', e', _, hv', _⟩ := h.closed u (ih u hu) x hx
      obtain rfl : v = v' := by omega
      simpa using hv'
  intro k h1 _ hw
  obtain ⟨m, rfl⟩ : ∃ m, k = m + 1 := ⟨k - 1, by omega⟩
  obtain ⟨u, x, hu, _, hx, e⟩ := hw
  obtain ⟨v', e', hne, _⟩ := h.closed u (key m u hu) x hx
  exact hne (by omega)

/-- What cycleThrough answers: none; or the length of what it hands back. -/
def Cyc (n : Nat) (L : Nat → Nat) (Z : Nat → Nat → Int) (s : Nat) : Option Nat → Prop
  | none => ∀ k, NoneBelow n L Z s k
  | some l => ∃ d, l = d + 1 ∧ 1 ≤ d ∧ d ≤ n ∧ Wk n L Z s d s ∧ NoneBelow n L Z s d

/-- The law: the two answers agree. -/
theorem agree {n : Nat} {L : Nat → Nat} {Z : Nat → Nat → Int} {s k : Nat} {c : Option Nat} (hc : Cyc n L Z s c) (hk : Short n L Z s k) : (k = 0 ∧ c = none) ∨ (1 ≤ k ∧ c = some (k + 1)) := by
  cases c with
  | none =>
    rcases hk with ⟨h0, _⟩ | ⟨h1, h2, hw, _⟩
    · exact .inl ⟨h0, rfl⟩
    · exact absurd hw (hc (k + 1) k h1 (by omega))
  | some l =>
    obtain ⟨d, rfl, h1, h2, hw, hno⟩ := hc
    rcases hk with ⟨_, hn⟩ | ⟨k1, k2, kw, kno⟩
    · exact absurd hw (hn d h1 (by omega))
    · have a1 : ¬ k < d := fun hlt => hno k k1 hlt kw
      have a2 : ¬ d < k := fun hlt => kno d h1 hlt hw
      obtain rfl : k = d := by omega
      exact .inr ⟨k1, rfl⟩

end Go.Proofs.Qxb6001457a.Plain
