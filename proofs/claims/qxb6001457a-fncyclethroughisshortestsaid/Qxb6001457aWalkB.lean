import Derived.Test.Qxb6001457aWalkA
namespace Go.Proofs.Qxb6001457a
open Go.RowKit

/-- cloneDeps, k rows copied: the new slice of rows lies in block 'w.heap.size'. -/
structure Cl (w wr : World) (n k : Nat) (A : Nat → Option Addr) (Ab L : Nat → Nat) (Z : Nat → Nat → Int) : Prop where
  bel : Below w.heap.size w wr
  top : wr.rowIs w.heap.size 26 n (fun j => if j < k then .slice (A j) (L j) (L j) else .slice none 0 0)
  spot : ∀ j, j < k → 0 < L j → A j = some ⟨Ab j, 0, none⟩
  blk : ∀ j, j < k → 0 < L j → w.heap.size < Ab j
  cell : ∀ j t, j < k → t < L j → wr.cell? ⟨Ab j, t, none⟩ = some (.int .i64 (Z j t))

theorem Cl.start (w : World) (n : Nat) (L : Nat → Nat) (Z : Nat → Nat → Int) : Cl w (w.alloc (.cells (madeCells #[.slice none 0 0] n) 26)) n 0 (fun _ => none) (fun _ => 0) L Z where
  bel := (Below.refl _ _).alloc (Nat.le_refl _) _
  top := (World.rowIs_made w _ n 26).congr (fun j _ => by simp)
  spot := fun j hj => by omega
  blk := fun j hj => by omega
  cell := fun j t hj => by omega

/-- A nil row: nothing is done. -/
theorem Cl.skip {w wr : World} {n k : Nat} {A : Nat → Option Addr} {Ab L : Nat → Nat} {Z : Nat → Nat → Int} (h : Cl w wr n k A Ab L Z) (h0 : L k = 0) :
    Cl w wr n (k + 1) (fun j => if j = k then none else A j) Ab L Z where
  bel := h.bel
  top := h.top.congr fun j _ => by
    by_cases e : j = k
    · subst e; simp [h0]
    · by_cases hj : j < k
      · rw [if_pos hj, if_pos (by omega), if_neg e]
      · rw [if_neg hj, if_neg (by omega)]
  spot := fun j hj hL => by
    have e : j ≠ k := fun e => by subst e; omega
    rw [if_neg e]; exact h.spot j (by omega) hL
  blk := fun j hj hL => h.blk j (by have e : j ≠ k := fun e => by subst e; omega
                                    omega) hL
  cell := fun j t hj ht => h.cell j t (by have e : j ≠ k := fun e => by subst e; omega
                                          omega) ht

/-- .. r numbers of row k copied into the new block m. -/
structure Cli (w wr : World) (n k r m : Nat) (A : Nat → Option Addr) (Ab L : Nat → Nat) (Z : Nat → Nat → Int) : Prop where
  cl : Cl w wr n k A Ab L Z
  cur : wr.rowIs m 3 (L k) (fun t => if t < r then .int .i64 (Z k t) else .int .i64 0)
  ne : ∀ j, j < k → 0 < L j → Ab j ≠ m
  gt : w.heap.size < m

theorem Cli.start {w wr : World} {n k : Nat} {A : Nat → Option Addr} {Ab L : Nat → Nat} {Z : Nat → Nat → Int} (h : Cl w wr n k A Ab L Z) :
    Cli w (wr.alloc (.cells (madeCells #[.int .i64 0] (L k)) 3)) n k 0 wr.heap.size A Ab L Z where
  cl := { bel := h.bel.alloc h.bel.size _
          top := h.top.alloc _
          spot := h.spot
          blk := h.blk
          cell := fun j t hj ht => by rw [World.cell?_alloc_lt _ _ _ (World.block_lt_of_cell? _ _ (h.cell j t hj ht))]; exact h.cell j t hj ht }
  cur := (World.rowIs_made wr _ (L k) 3).congr (fun j _ => by simp)
  ne := fun j hj hL e => by
    have := World.block_lt_of_cell? _ _ (h.cell j 0 hj hL)
    simp at this; omega
  gt := h.top.lt

theorem Cli.step {w wr : World} {n k r m : Nat} {A : Nat → Option Addr} {Ab L : Nat → Nat} {Z : Nat → Nat → Int} (h : Cli w wr n k r m A Ab L Z) :
    Cli w (wr.setCell ⟨m, r, none⟩ (.int .i64 (Z k r))) n k (r + 1) m A Ab L Z where
  cl := { bel := h.cl.bel.setCell (p := ⟨m, r, none⟩) (Nat.le_of_lt h.gt) _
          top := h.cl.top.setOther (a := ⟨m, r, none⟩) (Nat.ne_of_lt h.gt) _
          spot := h.cl.spot
          blk := h.cl.blk
          cell := fun j t hj ht => by
            rw [World.cell?_setCell_other]
            · exact h.cl.cell j t hj ht
            · intro e
              have := congrArg Addr.block e
              exact h.ne j hj (by omega) this.symm }
  cur := (h.cur.set r _).congr fun j _ => by
    by_cases e : j = r
    · subst e; simp
    · rw [if_neg e]
      by_cases hj : j < r
      · rw [if_pos hj, if_pos (by omega)]
      · rw [if_neg hj, if_neg (by omega)]
  ne := h.ne
  gt := h.gt

theorem Cli.done {w wr : World} {n k m : Nat} {A : Nat → Option Addr} {Ab L : Nat → Nat} {Z : Nat → Nat → Int} (h : Cli w wr n k (L k) m A Ab L Z) :
    Cl w (wr.setCell ⟨w.heap.size, k, none⟩ (.slice (some ⟨m, 0, none⟩) (L k) (L k))) n (k + 1) (fun j => if j = k then some ⟨m, 0, none⟩ else A j) (fun j => if j = k then m else Ab j) L Z where
  bel := h.cl.bel.setCell (p := ⟨w.heap.size, k, none⟩) (Nat.le_refl _) _
  top := (h.cl.top.set k _).congr fun j _ => by
    by_cases e : j = k
    · subst e; simp
    · rw [if_neg e]
      by_cases hj : j < k
      · rw [if_pos hj, if_pos (by omega), if_neg e]
      · rw [if_neg hj, if_neg (by omega)]
  spot := fun j hj hL => by
    by_cases e : j = k
    · subst e; simp
    · rw [if_neg e, if_neg e]; exact h.cl.spot j (by omega) hL
  blk := fun j hj hL => by
    by_cases e : j = k
    · subst e; simpa using h.gt
    · rw [if_neg e]; exact h.cl.blk j (by omega) hL
  cell := fun j t hj ht => by
    by_cases e : j = k
    · subst e
      rw [if_pos rfl, World.cell?_setCell_other]
      · rw [h.cur.cell ht, if_pos ht]
      · intro e; have e1 : w.heap.size = m := congrArg Addr.block e; have := h.gt; omega
    · rw [if_neg e, World.cell?_setCell_other]
      · exact h.cl.cell j t (by omega) ht
      · intro e'; have e1 : w.heap.size = Ab j := congrArg Addr.block e'; have := h.cl.blk j (by omega) (by omega); omega

set_option maxHeartbeats 800000 in
theorem cloneDeps_any (a : Option Addr) (n cap b o : Nat) (A : Nat → Option Addr) (L C Ab Ao : Nat → Nat) (Z : Nat → Nat → Int) (w : World) (h : RowsAt w a n b o A L C Ab Ao Z)
    (hn0 : 0 < n) (hn : n ≤ 1024) (hL : ∀ i, i < n → L i ≤ 131072) :
    Calls Try.prog 10 #[.slice a n cap] w fun e w' => e = .returned (.slice (some ⟨w.heap.size, 0, none⟩) n n) ∧ ∃ A' Ab', Cl w w' n n A' Ab' L Z := by
  obtain rfl := h.top hn0
  have heq := fun W => Lib.run_eql_slice_nil (P := Try.prog) W 22 26 (some ⟨b, o, none⟩) n cap 0 0 Try.underlying22
  have hmk := run_make_row' (P := Try.prog) 22 26 (.slice none 0 0) 24 Try.underlying22 Try.info26 rfl .i64 .i64 n (by omega) (by omega)
  have HR : Hid (RowsAt w (some ⟨b, o, none⟩) n b o A L C Ab Ao Z) := h
  have hbw : b < w.heap.size := World.block_lt_of_cell? _ _ (h.row 0 hn0)
  clear h
  go_enter Try.func10, Try.ntmps10
  go_wp2
  clear heq hmk
  go_loopg [4] n (fun g i wr => ∃ k : Nat, k ≤ n ∧ g = n - k ∧ i = .int .i64 k ∧ ∃ A' Ab', Cl w wr n k A' Ab' L Z)
  case atStart => exact ⟨0, Nat.zero_le _, rfl, rfl, _, _, Cl.start w n L Z⟩
  case round =>
    obtain ⟨k, hk, rfl, rfl, A', Ab', hcl⟩ := hrel
    by_cases hlt : k < n
    · have hc : wr.cell? ⟨b, o + k, none⟩ = some (.slice (A k) (L k) (C k)) := by rw [hcl.bel.cell (p := ⟨b, o + k, none⟩) hbw]; exact HR.out.row k hlt
      have heq := fun W => Lib.run_eql_slice_nil (P := Try.prog) W 26 3 (A k) (L k) (C k) 0 0 Try.underlying26
      have hLk := hL k hlt
      cases hA : (A k).isNone with
      | true =>
        go_wp2
        go_roundg (n - (k + 1))
        case measure => omega
        case rel =>
          have h0 : L k = 0 := by
            rcases Nat.eq_zero_or_pos (L k) with h0 | h0
            · exact h0
            · rw [HR.out.spot k hlt h0] at hA; cases hA
          exact ⟨k + 1, by omega, rfl, by go_num, _, _, hcl.skip h0⟩
      | false =>
        have hmk := run_make_row' (P := Try.prog) 26 3 (.int .i64 0) 8 Try.underlying26 Try.info3 rfl .i64 .i64 (L k) (by omega) (by omega)
        go_wp2
        clear heq hmk hc hA
        have hst := Cli.start hcl
        obtain ⟨m, hm⟩ : ∃ m, m = wr.heap.size := ⟨_, rfl⟩
        rw [← hm] at hst ⊢
        clear hm
        go_loopg [7] (L k) (fun g i wi => ∃ r : Nat, r ≤ L k ∧ g = L k - r ∧ i = .int .i64 r ∧ Cli w wi n k r m A' Ab' L Z)
        case atStart => exact ⟨0, Nat.zero_le _, rfl, rfl, hst⟩
        case round =>
          clear hst hcl
          obtain ⟨r, hr, rfl, rfl, hcli⟩ := hrel
          by_cases hrl : r < L k
          · have hsp := HR.out.spot k hlt (by omega)
            have hc := HR.out.cell k r hlt hrl
            have hix := index26 (cap := C k) hsp hrl
            have hab : Ab k < w.heap.size := World.block_lt_of_cell? _ _ hc
            rw [← hcli.cl.bel.cell (p := ⟨Ab k, Ao k + r, none⟩) hab] at hc
            have hc2 := hcli.cur.cell hrl
            have hf2 := hcli.cur.frozen r
            rw [if_neg (Nat.lt_irrefl _)] at hc2
            clear hsp
            go_wp2
            go_roundg (L k - (r + 1))
            case measure => omega
            case rel => exact ⟨r + 1, by omega, rfl, by go_num, hcli.step⟩
          · obtain rfl : r = L k := by omega
            have hc2 := hcli.cl.top.cell hlt
            rw [if_neg (Nat.lt_irrefl _)] at hc2
            have hf2 := hcli.cl.top.frozen k
            go_wp2
            go_roundg (n - (k + 1))
            case measure => omega
            case rel => exact ⟨k + 1, by omega, rfl, by go_num, _, _, hcli.done⟩
    · obtain rfl : k = n := by omega
      go_wp2
      go_ret
      exact ⟨rfl, _, _, hcl⟩

end Go.Proofs.Qxb6001457a
