import Derived.Test.Qxb6000433aWalkH
namespace Go.Proofs.Qxb6000433a
open Go.RowKit

/-- The group's fields when it is done. -/
structure Linked (F F' : Nat → Nat → Int) (n : Nat) (ks : List Nat) : Prop where
  old : ∀ i v, v < n → i ≠ 3 → F' i v = F i v
  oldN : ∀ v, v < n → v ∉ ks → F' 3 v = F 3 v
  mine : F' 3 n = -1
  chain : Plain.Chain (F' 3) (F' 2 n) ks

/-- The group's fields when j children are linked. -/
structure Linking (F G : Nat → Nat → Int) (n : Nat) (x0 : Int) (ks : List Nat) (j : Nat) : Prop where
  old : ∀ i v, v < n → i ≠ 3 → G i v = F i v
  oldN : ∀ v, v < n → v ∉ ks → G 3 v = F 3 v
  mine : G 3 n = -1
  kind : G 0 n = x0
  first : 0 < j → G 2 n = ((ks.getD 0 0 : Nat) : Int)
  link : ∀ t, t + 1 < j → G 3 (ks.getD t 0) = ((ks.getD (t + 1) 0 : Nat) : Int)
  rest : ∀ t, t < ks.length → j ≤ t + 1 → G 3 (ks.getD t 0) = -1

theorem getD_mem {ks : List Nat} {t : Nat} (h : t < ks.length) : ks.getD t 0 ∈ ks := by
  rw [List.getD_eq_getElem?_getD, List.getElem?_eq_getElem h]; exact List.getElem_mem h

theorem getD_inj {ks : List Nat} (hnd : ks.Nodup) {s t : Nat} (hs : s < ks.length) (ht : t < ks.length) (e : ks.getD s 0 = ks.getD t 0) : s = t := by
  rw [List.getD_eq_getElem?_getD, List.getD_eq_getElem?_getD, List.getElem?_eq_getElem hs, List.getElem?_eq_getElem ht] at e
  exact (List.getElem?_inj hs hnd).1 (by rw [List.getElem?_eq_getElem hs, List.getElem?_eq_getElem ht]; exact congrArg some e)

theorem Linking.start (F : Nat → Nat → Int) (n : Nat) (x0 : Int) (ks : List Nat) (hroot : ∀ c, c ∈ ks → c < n ∧ F 3 c = -1) : Linking F (addF F n x0 0 0 0 0 0 0) n x0 ks 0 where
  old := fun i v hv _ => by unfold addF; rw [if_neg (by omega)]
  oldN := fun v hv _ => by unfold addF; rw [if_neg (by omega)]
  mine := by unfold addF; rw [if_pos rfl]; rfl
  kind := by unfold addF; rw [if_pos rfl]; rfl
  first := fun h => by omega
  link := fun t h => by omega
  rest := fun t ht _ => by
    have := hroot _ (getD_mem ht)
    unfold addF; rw [if_neg (by omega)]; exact this.2

theorem Linking.step0 {F G : Nat → Nat → Int} {n : Nat} {x0 : Int} {ks : List Nat} (h : Linking F G n x0 ks 0) : Linking F (set2 G 2 n ((ks.getD 0 0 : Nat) : Int)) n x0 ks 1 where
  old := fun i v hv hi => by unfold set2; rw [if_neg (by omega)]; exact h.old i v hv hi
  oldN := fun v hv hk => by unfold set2; rw [if_neg (by omega)]; exact h.oldN v hv hk
  mine := by unfold set2; rw [if_neg (by omega)]; exact h.mine
  kind := by unfold set2; rw [if_neg (by omega)]; exact h.kind
  first := fun _ => by unfold set2; rw [if_pos ⟨rfl, rfl⟩]
  link := fun t ht => by omega
  rest := fun t ht _ => by unfold set2; rw [if_neg (by omega)]; exact h.rest t ht (by omega)

theorem Linking.step {F G : Nat → Nat → Int} {n : Nat} {x0 : Int} {ks : List Nat} {j : Nat} (h : Linking F G n x0 ks (j + 1)) (hj : j + 1 < ks.length) (hnd : ks.Nodup) (hlt : ∀ c, c ∈ ks → c < n) :
    Linking F (set2 G 3 (ks.getD j 0) ((ks.getD (j + 1) 0 : Nat) : Int)) n x0 ks (j + 2) where
  old := fun i v hv hi => by unfold set2; rw [if_neg (fun e => hi e.1)]; exact h.old i v hv hi
  oldN := fun v hv hk => by
    unfold set2
    rw [if_neg (fun e => hk (by rw [e.2]; exact getD_mem (by omega)))]; exact h.oldN v hv hk
  mine := by
    unfold set2
    have := hlt _ (getD_mem (show j < ks.length by omega))
    rw [if_neg (by omega)]; exact h.mine
  kind := by unfold set2; rw [if_neg (by omega)]; exact h.kind
  first := fun _ => by unfold set2; rw [if_neg (by omega)]; exact h.first (by omega)
  link := fun t ht => by
    unfold set2
    by_cases e : t = j
    · subst e; rw [if_pos ⟨rfl, rfl⟩]
    · rw [if_neg (fun e2 => e (getD_inj hnd (by omega) (by omega) e2.2))]
      exact h.link t (by omega)
  rest := fun t ht hjt => by
    unfold set2
    rw [if_neg (fun e2 => by have := getD_inj hnd ht (by omega) e2.2; omega)]
    exact h.rest t ht (by omega)

theorem Linking.done {F G : Nat → Nat → Int} {n : Nat} {x0 : Int} {ks : List Nat} (h : Linking F G n x0 ks ks.length) (hne : ks ≠ []) : Linked F G n ks where
  old := h.old
  oldN := h.oldN
  mine := h.mine
  chain := by
    obtain ⟨a, R, rfl⟩ : ∃ a R, ks = a :: R := by
      cases ks with
      | nil => exact absurd rfl hne
      | cons a R => exact ⟨a, R, rfl⟩
    rw [h.first (by simp)]
    refine Plain.chain_of_links (a :: R) (fun t ht => h.link t ht) (fun c hc => ?_) a R rfl
    have h1 := h.rest R.length (by simp) (by simp)
    rw [List.getLast?_eq_getElem?] at hc
    rw [List.getD_eq_getElem?_getD] at h1
    simp only [List.length_cons, Nat.add_sub_cancel] at hc
    rw [hc] at h1
    exact h1

def prevOf (ks : List Nat) : Nat → Int
  | 0 => -1
  | j + 1 => ((ks.getD j 0 : Nat) : Int)

/-- What group leaves. -/
def Grouped (w : World) (base bt n : Nat) (x0 : Int) (ks : List Nat) (F : Nat → Nat → Int) (V : Nat → Value) (e : Ending) (w' : World) : Prop :=
  e = .returned (.int .i32 (n : Int)) ∧ ∃ F' V', TreeK w' base bt (n + 1) 0 F' V' ∧ Grew w w' bt V V' ∧ Linked F F' n ks ∧ F' 0 n = x0

set_option maxRecDepth 100000 in
set_option maxHeartbeats 1600000 in
theorem group_any (base bt n gs o cp k : Nat) (ks : List Nat) (F : Nat → Nat → Int) (V : Nat → Value) (w : World) (x0 : Int) (hT : TreeK w base bt n 0 F V) (hb : base ≤ w.heap.size) (hn : n ≤ 5000) (hks : ks ≠ []) (hnd : ks.Nodup)
    (hroot : ∀ c, c ∈ ks → c < n ∧ F 3 c = -1) (hcell : ∀ j, j < ks.length → w.cell? ⟨gs, o + j, none⟩ = some (.int .i32 ((ks.getD j 0 : Nat) : Int))) (hne : gs ≠ bt) (hV : ∀ i, i < 9 → (V i).ownBlock ≠ some gs) (hk : ks.length = k) (hlen : k ≤ 5000) :
    Calls Try.prog 35 #[.pointer (some ⟨bt, 0, none⟩), .int .u8 x0, .slice (some ⟨gs, o, none⟩) k cp, .bool false] w fun e w' => Grouped w base bt n x0 ks F V e w' := by
  have HA := Kept.mk (add_any base bt n F V w hT hb hn x0 0 0 0 0 0 0)
  have HK := Kept.mk (And.intro hks (And.intro hnd (And.intro hroot (And.intro hcell (And.intro hne (And.intro hV hk))))))
  have HL := Kept.mk (Linking.start F n x0 ks hroot)
  clear hT hb hks hnd hroot hcell hne hV hk
  go_enter Try.func35, Try.ntmps35
  go_wp2_with fail
  refine HA.out.mono ?_
  rintro e W ⟨rfl, V', hT1, hG1⟩
  clear HA
  have HS := Kept.mk (And.intro hT1 hG1)
  obtain ⟨g2, c2, hf2⟩ := hT1.form (by omega) 2 (by omega)
  obtain ⟨g3, c3, hf3⟩ := hT1.form (by omega) 3 (by omega)
  have HF := Kept.mk (And.intro hf2 hf3)
  clear hT1 hG1 hf2 hf3
  go_wp2
  go_loopg [11, 12] k (fun g' p i wr => ∃ (j : Nat) (G : Nat → Nat → Int), j ≤ k ∧ g' = k - j ∧ p = .int .i32 (prevOf ks j) ∧ i = .int .i64 j ∧ Linking F G n x0 ks j ∧ TreeK wr base bt (n + 1) 0 G V' ∧ Grew w wr bt V V')
  case atStart => exact ⟨0, _, Nat.zero_le _, rfl, rfl, rfl, HL.out, HS.out.1, HS.out.2⟩
  case round =>
    clear HL HS
    obtain ⟨j, G, hj, rfl, rfl, rfl, hlk, htr, hgr⟩ := hrel
    by_cases hjk : j < k
    · obtain ⟨c, hc⟩ : ∃ c, c = ks.getD j 0 := ⟨_, rfl⟩
      have hjl : j < ks.length := by rw [HK.out.2.2.2.2.2.2]; exact hjk
      have hcm : c ∈ ks := by rw [hc]; exact getD_mem hjl
      have hcn : c < n := (HK.out.2.2.1 c hcm).1
      have hcj : wr.cell? ⟨gs, o + j, none⟩ = some (.int .i32 (c : Int)) := by
        have h1 := HK.out.2.2.2.1 j hjl
        rw [hc, ← h1]
        exact World.cell?_of_block (hgr.block gs (World.block_lt_of_cell? _ _ h1) HK.out.2.2.2.2.1 HK.out.2.2.2.2.2.1)
      cases j with
      | zero =>
        rw [Nat.add_zero] at hcj
        have d2 : wr.cell? ⟨bt, 2, none⟩ = some (.slice (some ⟨g2, 0, none⟩) (n + 1) c2) := by rw [htr.cell 2 (by omega), HF.out.1]
        have m2 : wr.cell? ⟨g2, n, none⟩ = some (.int .i32 (G 2 n)) := htr.at (by omega) HF.out.1 (by omega)
        have z2 := htr.frz (by omega) HF.out.1 n
        have hst := htr.store (by omega) HF.out.1 n (c : Int)
        have HE := Kept.mk (And.intro (show TreeK (wr.setCell ⟨g2, n, none⟩ (.int .i32 (c : Int))) base bt (n + 1) 0 (set2 G 2 n (c : Int)) V' from hst.1) (And.intro (show Grew w (wr.setCell ⟨g2, n, none⟩ (.int .i32 (c : Int))) bt V V' from hgr.trans hst.2) (show Linking F (set2 G 2 n (c : Int)) n x0 ks 1 by rw [hc]; exact hlk.step0)))
        have HC := Kept.mk (show (c : Int) = prevOf ks 1 from congrArg _ hc)
        clear hst htr hgr hlk hcm hc hjl
        simp only [prevOf]
        go_wp2
        go_roundg (k - 1)
        case measure => omega
        case rel => exact ⟨1, _, by omega, rfl, congrArg _ HC.out, by go_num, HE.out.2.2, HE.out.1, HE.out.2.1⟩
      | succ j =>
        obtain ⟨p, hp⟩ : ∃ p, p = ks.getD j 0 := ⟨_, rfl⟩
        have hpn : p < n := by rw [hp]; exact (HK.out.2.2.1 _ (getD_mem (by omega))).1
        have d3 : wr.cell? ⟨bt, 3, none⟩ = some (.slice (some ⟨g3, 0, none⟩) (n + 1) c3) := by rw [htr.cell 3 (by omega), HF.out.2]
        have m3 : wr.cell? ⟨g3, p, none⟩ = some (.int .i32 (G 3 p)) := htr.at (by omega) HF.out.2 (by omega)
        have z3 := htr.frz (by omega) HF.out.2 p
        have hst := htr.store (by omega) HF.out.2 p (c : Int)
        have HE := Kept.mk (And.intro (show TreeK (wr.setCell ⟨g3, p, none⟩ (.int .i32 (c : Int))) base bt (n + 1) 0 (set2 G 3 p (c : Int)) V' from hst.1) (And.intro (show Grew w (wr.setCell ⟨g3, p, none⟩ (.int .i32 (c : Int))) bt V V' from hgr.trans hst.2) (show Linking F (set2 G 3 p (c : Int)) n x0 ks (j + 2) by rw [hc, hp]; exact hlk.step hjl HK.out.2.1 (fun c hc => (HK.out.2.2.1 c hc).1))))
        have HC := Kept.mk (show (c : Int) = prevOf ks (j + 2) from congrArg _ hc)
        have hpp : prevOf ks (j + 1) = (p : Int) := by rw [hp]; rfl
        rw [hpp]
        clear hst htr hgr hlk hcm hc hjl hp hpp
        go_wp2
        go_roundg (k - (j + 2))
        case measure => omega
        case rel => exact ⟨j + 2, _, by omega, rfl, congrArg _ HC.out, by go_num, HE.out.2.2, HE.out.1, HE.out.2.1⟩
    · obtain rfl : j = k := by omega
      have HE := Kept.mk (show Grouped w base bt n x0 ks F V (.returned (.int .i32 (n : Int))) wr from ⟨rfl, G, V', htr, hgr, (show Linking F G n x0 ks ks.length by rw [HK.out.2.2.2.2.2.2]; exact hlk).done HK.out.1, hlk.kind⟩)
      clear hlk htr hgr
      go_wp2
      go_ret
      exact HE.out

end Go.Proofs.Qxb6000433a
