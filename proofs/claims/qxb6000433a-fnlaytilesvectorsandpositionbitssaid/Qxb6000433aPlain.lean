/-
  The plain law of the pattern's structure: no Go in sight.
-/
namespace Go.Proofs.Qxb6000433a.Plain

/-- A list of children as the fields 'first' and 'next' tell it. -/
inductive Chain (nx : Nat → Int) : Int → List Nat → Prop
  | nil : Chain nx (-1) []
  | cons {c : Nat} {L : List Nat} : Chain nx (nx c) L → Chain nx (c : Int) (c :: L)

theorem Chain.congr {nx nx' : Nat → Int} {a : Int} {L : List Nat} (h : Chain nx a L) (e : ∀ x, x ∈ L → nx' x = nx x) : Chain nx' a L := by
  induction h with
  | nil => exact .nil
  | @cons c L h ih =>
    refine .cons ?_
    rw [e c (by simp)]
    exact ih fun x hx => e x (by simp [hx])

theorem Chain.neg {nx : Nat → Int} {a : Int} {L : List Nat} (h : Chain nx a L) (ha : a < 0) : L = [] := by
  cases h with
  | nil => rfl
  | cons h => omega

theorem Chain.pos {nx : Nat → Int} {a : Int} {L : List Nat} (h : Chain nx a L) (ha : 0 ≤ a) : ∃ c R, L = c :: R ∧ a = (c : Int) ∧ Chain nx (nx c) R := by
  cases h with
  | nil => omega
  | @cons c R h => exact ⟨c, R, rfl, rfl, h⟩

/-- The kids of a group, linked one behind the other. -/
theorem chain_of_links {nx : Nat → Int} : ∀ (ks : List Nat), (∀ t, t + 1 < ks.length → nx (ks.getD t 0) = ((ks.getD (t + 1) 0 : Nat) : Int)) → (∀ c, ks.getLast? = some c → nx c = -1) → ∀ a R, ks = a :: R → Chain nx (a : Int) ks := by
  intro ks
  induction ks with
  | nil => intro _ _ a R h; cases h
  | cons a0 R0 ih =>
    intro hl hlast a R h
    cases h
    refine .cons ?_
    cases R0 with
    | nil =>
      rw [hlast a0 (by simp)]; exact .nil
    | cons b S =>
      have h0 := hl 0 (by simp)
      simp only [List.getD_cons_zero, Nat.zero_add, List.getD_cons_succ] at h0
      rw [h0]
      refine ih (fun t ht => ?_) (fun c hc => ?_) b S rfl
      · have := hl (t + 1) (by simp at ht ⊢; omega)
        simpa using this
      · exact hlast c (by simpa using hc)

/-- The structure as 'build' lays it: 'F i v' is field i of node v; 'stk' are the nodes that have no parent yet; 'K v' the children of v. -/
structure Inv (F : Nat → Nat → Int) (n : Nat) (stk : List Nat) (K : Nat → List Nat) : Prop where
  chain : ∀ v, v < n → Chain (F 3) (F 2 v) (K v)
  small : ∀ v, v < n → ∀ c, c ∈ K v → c < v
  uniq : ∀ v v' c, v < n → v' < n → c ∈ K v → c ∈ K v' → v = v'
  off : ∀ v c, v < n → c ∈ K v → c ∉ stk
  all : ∀ c, c < n → c ∈ stk ∨ ∃ v, v < n ∧ c ∈ K v
  nodup : stk.Nodup
  root : ∀ c, c ∈ stk → c < n ∧ F 3 c = -1
  kind : ∀ v, v < n → 0 ≤ F 0 v ∧ F 0 v ≤ 4
  run : ∀ v, v < n → F 0 v = 0 → 0 ≤ F 4 v ∧ F 4 v + 1 ≤ F 5 v ∧ F 5 v ≤ F 4 v + 8 ∧ F 5 v ≤ 40000
  rep : ∀ v, v < n → F 0 v = 4 → 0 ≤ F 7 v ∧ F 7 v ≤ 4 ∧ -1 ≤ F 8 v ∧ F 8 v ≤ 7 ∧ K v ≠ []

theorem Inv.start (F : Nat → Nat → Int) (K : Nat → List Nat) : Inv F 0 [] K where
  chain := fun v h => by omega
  small := fun v h => by omega
  uniq := fun v _ _ h => by omega
  off := fun v _ h => by omega
  all := fun c h => by omega
  nodup := List.nodup_nil
  root := fun c h => by cases h
  kind := fun v h => by omega
  run := fun v h => by omega
  rep := fun v h => by omega

/-- A new node over the last of the stack. -/
theorem Inv.node {F F' : Nat → Nat → Int} {n : Nat} {pre ks : List Nat} {K : Nat → List Nat} (h : Inv F n (pre ++ ks) K)
    (hF : ∀ i v, v < n → i ≠ 3 → F' i v = F i v) (hN : ∀ v, v < n → v ∉ ks → F' 3 v = F 3 v) (hn : F' 3 n = -1) (hc : Chain (F' 3) (F' 2 n) ks)
    (hk : 0 ≤ F' 0 n ∧ F' 0 n ≤ 4) (hr : F' 0 n = 0 → 0 ≤ F' 4 n ∧ F' 4 n + 1 ≤ F' 5 n ∧ F' 5 n ≤ F' 4 n + 8 ∧ F' 5 n ≤ 40000)
    (hp : F' 0 n = 4 → 0 ≤ F' 7 n ∧ F' 7 n ≤ 4 ∧ -1 ≤ F' 8 n ∧ F' 8 n ≤ 7 ∧ ks ≠ []) : Inv F' (n + 1) (pre ++ [n]) (fun v => if v = n then ks else K v) := by
  have hnd := List.nodup_append.1 h.nodup
  have hks : ∀ c, c ∈ ks → c < n := fun c hc => (h.root c (by simp [hc])).1
  refine ⟨fun v hv => ?_, fun v hv c hcv => ?_, fun v v' c hv hv' h1 h2 => ?_, fun v c hv hcv => ?_, fun c hcn => ?_, ?_, fun c hcs => ?_, fun v hv => ?_, fun v hv => ?_, fun v hv => ?_⟩
  · by_cases e : v = n
    · subst e; simp only [if_true]; exact hc
    · simp only [if_neg e]
      have hvn : v < n := by omega
      rw [hF 2 v hvn (by omega)]
      exact (h.chain v hvn).congr fun x hx => hN x (by have := h.small v hvn x hx; omega) fun hk => h.off v x hvn hx (by simp [hk])
  · by_cases e : v = n
    · subst e; simp only [if_true] at hcv; exact hks c hcv
    · simp only [if_neg e] at hcv; exact h.small v (by omega) c hcv
  · by_cases e : v = n <;> by_cases e' : v' = n
    · omega
    · simp only [if_pos e] at h1; simp only [if_neg e'] at h2
      exact absurd (by simp [h1]) (h.off v' c (by omega) h2)
    · simp only [if_neg e] at h1; simp only [if_pos e'] at h2
      exact absurd (by simp [h2]) (h.off v c (by omega) h1)
    · simp only [if_neg e] at h1; simp only [if_neg e'] at h2
      exact h.uniq v v' c (by omega) (by omega) h1 h2
  · by_cases e : v = n
    · simp only [if_pos e] at hcv
      intro hm
      rcases List.mem_append.1 hm with hm | hm
      · exact hnd.2.2 c hm c hcv rfl
      · have := hks c hcv; simp at hm; omega
    · simp only [if_neg e] at hcv
      intro hm
      rcases List.mem_append.1 hm with hm | hm
      · exact h.off v c (by omega) hcv (by simp [hm])
      · have := h.small v (by omega) c hcv; simp at hm; omega
  · by_cases e : c = n
    · left; simp [e]
    · rcases h.all c (by omega) with hm | ⟨v, hv, hm⟩
      · rcases List.mem_append.1 hm with hm | hm
        · left; simp [hm]
        · right; exact ⟨n, by omega, by simp [hm]⟩
      · right; exact ⟨v, by omega, by rw [if_neg (by omega)]; exact hm⟩
  · refine List.nodup_append.2 ⟨hnd.1, by simp, fun a ha b hb e => ?_⟩
    have := (h.root a (by simp [ha])).1
    simp at hb; omega
  · rcases List.mem_append.1 hcs with hm | hm
    · have h1 := h.root c (by simp [hm])
      exact ⟨by omega, by rw [hN c h1.1 fun hk => hnd.2.2 c hm c hk rfl]; exact h1.2⟩
    · simp at hm; subst hm; exact ⟨by omega, hn⟩
  · by_cases e : v = n
    · subst e; exact hk
    · rw [hF 0 v (by omega) (by omega)]; exact h.kind v (by omega)
  · by_cases e : v = n
    · subst e; exact hr
    · rw [hF 0 v (by omega) (by omega), hF 4 v (by omega) (by omega), hF 5 v (by omega) (by omega)]; exact h.run v (by omega)
  · by_cases e : v = n
    · subst e; simp only [if_true]; exact hp
    · simp only [if_neg e]; rw [hF 0 v (by omega) (by omega), hF 7 v (by omega) (by omega), hF 8 v (by omega) (by omega)]; exact h.rep v (by omega)

/-- The structure when it is whole: the root is the last node. -/
structure Whole (F : Nat → Nat → Int) (n : Nat) (K : Nat → List Nat) (par : Nat → Nat) : Prop where
  pos : 0 < n
  chain : ∀ v, v < n → Chain (F 3) (F 2 v) (K v)
  par_lt : ∀ c, c + 1 < n → c < par c ∧ par c < n ∧ c ∈ K (par c)
  kids : ∀ v, v < n → ∀ c, c ∈ K v → c + 1 < n ∧ par c = v
  kind : ∀ v, v < n → 0 ≤ F 0 v ∧ F 0 v ≤ 4
  run : ∀ v, v < n → F 0 v = 0 → 0 ≤ F 4 v ∧ F 4 v + 1 ≤ F 5 v ∧ F 5 v ≤ F 4 v + 8 ∧ F 5 v ≤ 40000
  rep : ∀ v, v < n → F 0 v = 4 → 0 ≤ F 7 v ∧ F 7 v ≤ 4 ∧ -1 ≤ F 8 v ∧ F 8 v ≤ 7 ∧ K v ≠ []

theorem Inv.whole {F : Nat → Nat → Int} {n r : Nat} {K : Nat → List Nat} (h : Inv F n [r] K) : ∃ par, Whole F n K par := by
  have hr : r < n := (h.root r (by simp)).1
  have hlast : r = n - 1 := by
    rcases h.all (n - 1) (by omega) with hm | ⟨v, hv, hm⟩
    · simp at hm; omega
    · have := h.small v hv _ hm; omega
  have hex : ∀ c, ∃ p, c + 1 < n → p < n ∧ c ∈ K p := fun c => by
    by_cases hc : c + 1 < n
    · rcases h.all c (by omega) with hm | ⟨v, hv, hm⟩
      · simp at hm; omega
      · exact ⟨v, fun _ => ⟨hv, hm⟩⟩
    · exact ⟨0, fun h => absurd h hc⟩
  refine ⟨fun c => Classical.choose (hex c), by omega, h.chain, fun c hc => ?_, fun v hv c hcv => ?_, h.kind, h.run, h.rep⟩
  · have := Classical.choose_spec (hex c) hc
    exact ⟨h.small _ this.1 c this.2, this.1, this.2⟩
  · have hc : c + 1 < n := by have := h.small v hv c hcv; omega
    have := Classical.choose_spec (hex c) hc
    exact ⟨hc, h.uniq _ _ c this.1 hv this.2 hcv⟩

/-- The copies of a repetition. -/
def copies (F : Nat → Nat → Int) (v : Nat) : Int := if F 8 v < 0 then (if F 7 v < 1 then 1 else F 7 v) else F 8 v
/-- By what a node's children are multiplied. -/
def fac (F : Nat → Nat → Int) (v : Nat) : Nat := if F 0 v = 4 then (copies F v).toNat else 1

/-- The product over the ancestors. -/
def Pd (F : Nat → Nat → Int) (par : Nat → Nat) (n : Nat) : Nat → Nat → Nat
  | 0, _ => 1
  | f + 1, c => if c + 1 < n then Pd F par n f (par c) * fac F (par c) else 1

theorem Pd_fuel {F : Nat → Nat → Int} {par : Nat → Nat} {n : Nat} (hp : ∀ c, c + 1 < n → c < par c ∧ par c < n) : ∀ (f g c : Nat), n ≤ f + c + 1 → n ≤ g + c + 1 → Pd F par n f c = Pd F par n g c := by
  intro f
  induction f with
  | zero =>
    intro g c h1 h2
    cases g with
    | zero => rfl
    | succ g => unfold Pd; rw [if_neg (by omega)]
  | succ f ih =>
    intro g c h1 h2
    cases g with
    | zero => unfold Pd; rw [if_neg (by omega)]
    | succ g =>
      unfold Pd
      by_cases hc : c + 1 < n
      · rw [if_pos hc, if_pos hc, ih g (par c) (by have := hp c hc; omega) (by have := hp c hc; omega)]
      · rw [if_neg hc, if_neg hc]

def P (F : Nat → Nat → Int) (par : Nat → Nat) (n : Nat) (c : Nat) : Nat := Pd F par n n c

theorem P_root (F : Nat → Nat → Int) (par : Nat → Nat) (n c : Nat) (h : n ≤ c + 1) : P F par n c = 1 := by
  unfold P
  cases n with
  | zero => rfl
  | succ n => unfold Pd; rw [if_neg (by omega)]

theorem P_step {F : Nat → Nat → Int} {n : Nat} {K : Nat → List Nat} {par : Nat → Nat} (h : Whole F n K par) {c : Nat} (hc : c + 1 < n) : P F par n c = P F par n (par c) * fac F (par c) := by
  have hp := fun c hc => And.intro (h.par_lt c hc).1 (h.par_lt c hc).2.1
  have h1 : P F par n c = Pd F par n (n + 1) c := Pd_fuel hp n (n + 1) c (by omega) (by omega)
  rw [h1]
  show (if c + 1 < n then Pd F par n n (par c) * fac F (par c) else 1) = _
  rw [if_pos hc]; rfl

theorem Whole.copies {F : Nat → Nat → Int} {n : Nat} {K : Nat → List Nat} {par : Nat → Nat} (h : Whole F n K par) {v : Nat} (hv : v < n) (hk : F 0 v = 4) : 0 ≤ copies F v ∧ copies F v ≤ 7 ∧ ((fac F v : Nat) : Int) = copies F v := by
  have h1 := h.rep v hv hk
  have h2 : 0 ≤ Plain.copies F v ∧ Plain.copies F v ≤ 7 := by
    unfold Plain.copies
    split
    · split <;> omega
    · omega
  exact ⟨h2.1, h2.2, by unfold fac; rw [if_pos hk]; omega⟩

/-- Where every node has at most so many copies, so has what a repetition repeats. -/
theorem Whole.fits {F : Nat → Nat → Int} {n : Nat} {K : Nat → List Nat} {par : Nat → Nat} (h : Whole F n K par) {M : Nat} (hM : ∀ c, c < n → P F par n c ≤ M) {v : Nat} (hv : v < n) : P F par n v * fac F v ≤ M := by
  by_cases hk : F 0 v = 4
  · have h1 := (h.rep v hv hk).2.2.2.2
    obtain ⟨c, hc⟩ : ∃ c, c ∈ K v := List.exists_mem_of_ne_nil _ h1
    obtain ⟨h2, h3⟩ := h.kids v hv c hc
    have h4 := P_step h h2
    rw [h3] at h4
    rw [← h4]
    exact hM c (by omega)
  · unfold fac; rw [if_neg hk]
    simpa using hM v hv

/-- The product, stopped at S. -/
theorem min_mul (x f S : Nat) : min (min x S * f) S = min (x * f) S := by
  rcases Nat.eq_zero_or_pos f with h | h
  · subst h; simp
  · rcases Nat.le_total x S with hx | hx
    · rw [Nat.min_eq_left hx]
    · rw [Nat.min_eq_right hx]
      have h1 : S ≤ S * f := Nat.le_mul_of_pos_right _ h
      have h2 : S * f ≤ x * f := Nat.mul_le_mul_right _ hx
      rw [Nat.min_eq_right h1, Nat.min_eq_right (Nat.le_trans h1 h2)]

def words (m : Nat) : Nat := (m + 63) / 64
/-- The words of the first v nodes. -/
def S (m : Nat → Nat) : Nat → Nat
  | 0 => 0
  | v + 1 => S m v + words (m v)
/-- The bits of the first v nodes' runs. -/
def B (F : Nat → Nat → Int) (m : Nat → Nat) : Nat → Nat
  | 0 => 0
  | v + 1 => B F m v + if F 0 v = 0 then (F 5 v - F 4 v).toNat * m v else 0

theorem S_mono (m : Nat → Nat) {a b : Nat} (h : a ≤ b) : S m a ≤ S m b := by
  induction h with
  | refl => exact Nat.le_refl _
  | step _ ih => exact Nat.le_trans ih (Nat.le_add_right _ _)
theorem B_mono (F : Nat → Nat → Int) (m : Nat → Nat) {a b : Nat} (h : a ≤ b) : B F m a ≤ B F m b := by
  induction h with
  | refl => exact Nat.le_refl _
  | step _ ih => exact Nat.le_trans ih (Nat.le_add_right _ _)
theorem S_bound (m : Nat → Nat) (n : Nat) (h : ∀ v, v < n → m v ≤ 67108864) : S m n ≤ n * 1048577 := by
  induction n with
  | zero => exact Nat.le_refl _
  | succ n ih =>
    have h1 := ih fun v hv => h v (by omega)
    have h2 := h n (by omega)
    show S m n + words (m n) ≤ _
    unfold words; omega

end Go.Proofs.Qxb6000433a.Plain
