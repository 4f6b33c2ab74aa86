import Derived.Test.Qxb6001457aWalkA
import Derived.Test.Qxb6001457aPlain
namespace Go.Proofs.Qxb6001457a
open Go.RowKit

/-- The two rows of bools: the level, in block cb, and the next one, in block nb. -/
structure Sr (w wr : World) (n cb nb : Nat) (f g : Nat → Bool) : Prop where
  bel : Below w.heap.size w wr
  cbN : w.heap.size ≤ cb
  nbN : w.heap.size ≤ nb
  ne : cb ≠ nb
  cur : wr.rowIs cb 4 n (fun i => .bool (f i))
  nxt : wr.rowIs nb 4 n (fun i => .bool (g i))

theorem Sr.set {w wr : World} {n cb nb : Nat} {f g : Nat → Bool} (h : Sr w wr n cb nb f g) (z : Nat) :
    Sr w (wr.setCell ⟨nb, z, none⟩ (.bool true)) n cb nb f (fun j => if j = z then true else g j) where
  bel := h.bel.setCell (p := ⟨nb, z, none⟩) h.nbN _
  cbN := h.cbN
  nbN := h.nbN
  ne := h.ne
  cur := h.cur.setOther (a := ⟨nb, z, none⟩) h.ne _
  nxt := (h.nxt.set z _).congr fun j _ => by by_cases e : j = z <;> simp [e]

theorem Sr.start {w wr : World} {n cb : Nat} {f : Nat → Bool} (hb : Below w.heap.size w wr) (hcb : w.heap.size ≤ cb) (hc : wr.rowIs cb 4 n (fun i => .bool (f i))) :
    Sr w (wr.alloc (.cells (madeCells #[.bool false] n) 4)) n cb wr.heap.size f (fun _ => false) where
  bel := hb.alloc hb.size _
  cbN := hcb
  nbN := hb.size
  ne := Nat.ne_of_lt hc.lt
  cur := hc.alloc _
  nxt := World.rowIs_made wr _ n 4

theorem first_level (w : World) (n s : Nat) : (w.alloc (.cells ((madeCells #[.bool false] n).setIfInBounds s (.bool true)) 4)).rowIs w.heap.size 4 n (fun i => .bool (if i = s then true else false)) := by
  refine ⟨_, Deep.blk_alloc_new _ _, by simp [size_madeCells], fun i hi => ?_⟩
  rw [Array.getElem?_setIfInBounds]
  by_cases e : i = s
  · subst e; simp [size_madeCells, hi]
  · rw [if_neg (fun h => e h.symm)]
    simp [madeCells, hi, e, Nat.mod_one]

/-- The call answers a number of which Q holds. -/
def NumOf (Q : Nat → Prop) (e : Ending) : Prop := ∃ k : Nat, e = .returned (.int .i64 k) ∧ Q k

set_option maxHeartbeats 800000 in
theorem shortestReturn_any (n b o s : Nat) (A : Nat → Option Addr) (L C Ab Ao : Nat → Nat) (Z : Nat → Nat → Int) (cap : Nat) (w : World) (h : RowsAt w (some ⟨b, o, none⟩) n b o A L C Ab Ao Z)
    (hs : s < n) (hn : n ≤ 1024) (hL : ∀ i, i < n → L i ≤ 131072) (hZ : ∀ i t, i < n → t < L i → 0 ≤ Z i t ∧ Z i t < n) :
    Calls Try.prog 14 #[.slice (some ⟨b, o, none⟩) n cap, .int .i64 s] w fun e w' => NumOf (Plain.Short n L Z s) e ∧ Below w.heap.size w w' := by
  have hmk := run_make_row' (P := Try.prog) 29 4 (.bool false) 1 Try.underlying29 Try.info4 rfl .i64 .i64 n (by omega) (by omega)
  have HR : Hid (RowsAt w (some ⟨b, o, none⟩) n b o A L C Ab Ao Z) := h
  have HZ : Hid (∀ i t, i < n → t < L i → 0 ≤ Z i t ∧ Z i t < n) := hZ
  have hbw : b < w.heap.size := World.block_lt_of_cell? _ _ (h.row 0 (by omega))
  have hm0 := World.rowIs_made w (.bool false) n 4
  have hc0 := hm0.cell hs
  have hf0 := hm0.frozen s
  clear h hZ hm0
  go_enter Try.func14, Try.ntmps14
  go_wp2
  clear hc0 hf0
  go_loopg [6, 7] n (fun g c i wr => ∃ (k cb : Nat) (f : Nat → Bool), 1 ≤ k ∧ k ≤ n + 1 ∧ g = n + 1 - k ∧ i = .int .i64 k ∧ c = .slice (some ⟨cb, 0, none⟩) n n ∧ w.heap.size ≤ cb ∧ Below w.heap.size w wr ∧
    wr.rowIs cb 4 n (fun i => .bool (f i)) ∧ Plain.IsLev n L Z s (k - 1) f ∧ Plain.NoneBelow n L Z s k)
  case atStart => exact ⟨1, w.heap.size, _, by omega, by omega, by omega, rfl, rfl, Nat.le_refl _, (Below.refl _ _).alloc (Nat.le_refl _) _, first_level w n s, Plain.IsLev.start n L Z s, fun j h1 h2 => by omega⟩
  case round =>
    obtain ⟨k, cb, f, hk1, hk2, rfl, rfl, rfl, hcb, hbel, hcur, hlev, hno⟩ := hrel
    have HL : Hid (Plain.IsLev n L Z s (k - 1) f ∧ Plain.NoneBelow n L Z s k) := ⟨hlev, hno⟩
    clear hlev hno
    by_cases hkn : k ≤ n
    · go_wp2
      have hsr := Sr.start hbel hcb hcur
      obtain ⟨nb, hnb⟩ : ∃ nb, nb = wr.heap.size := ⟨_, rfl⟩
      rw [← hnb] at hsr ⊢
      clear hnb hbel hcur hmk
      go_loopg [9] n (fun g i wi => ∃ (u : Nat) (gg : Nat → Bool), u ≤ n ∧ g = n - u ∧ i = .int .i64 u ∧ Sr w wi n cb nb f gg ∧ Plain.Lev n L Z f u 0 gg)
      case atStart => exact ⟨0, _, Nat.zero_le _, rfl, rfl, hsr, Plain.Lev.start n L Z f⟩
      case round =>
        clear hsr
        obtain ⟨u, gg, hu, rfl, rfl, hsr, hlv⟩ := hrel
        have HV : Hid (Plain.Lev n L Z f u 0 gg) := hlv
        clear hlv
        by_cases hun : u < n
        · have hcu := hsr.cur.cell hun
          cases hfu : f u with
          | false =>
            rw [hfu] at hcu
            go_wp2
            go_roundg (n - (u + 1))
            case measure => omega
            case rel => exact ⟨u + 1, gg, by omega, rfl, by go_num, hsr, HV.out.skip hfu⟩
          | true =>
            rw [hfu] at hcu
            have hrow : wr.cell? ⟨b, o + u, none⟩ = some (.slice (A u) (L u) (C u)) := by rw [hsr.bel.cell (p := ⟨b, o + u, none⟩) hbw]; exact HR.out.row u hun
            have hLu := hL u hun
            have HF : Hid (f u = true) := hfu
            clear hfu
            go_wp2
            clear hrow hcu
            go_loopg [11] (L u) (fun g i wi => ∃ (t : Nat) (g2 : Nat → Bool), t ≤ L u ∧ g = L u - t ∧ i = .int .i64 t ∧ Sr w wi n cb nb f g2 ∧ Plain.Lev n L Z f u t g2)
            case atStart => exact ⟨0, _, Nat.zero_le _, rfl, rfl, hsr, HV.out⟩
            case round =>
              clear hsr HV
              obtain ⟨t, g2, ht, rfl, rfl, hsr, hlv⟩ := hrel
              have HV : Hid (Plain.Lev n L Z f u t g2) := hlv
              clear hlv
              by_cases htl : t < L u
              · have hix := index26 (cap := C u) (HR.out.spot u hun (by omega)) htl
                have hz := HZ.out u t hun htl
                obtain ⟨z, hzz⟩ := Int.eq_ofNat_of_zero_le hz.1
                have hzn : z < n := by omega
                have hc := HR.out.cell u t hun htl
                have hab : Ab u < w.heap.size := World.block_lt_of_cell? _ _ hc
                rw [← hsr.bel.cell (p := ⟨Ab u, Ao u + t, none⟩) hab, hzz] at hc
                have hcz := hsr.nxt.cell hzn
                have hfz := hsr.nxt.frozen z
                have HZZ : Hid (Z u t = (z : Int)) := hzz
                clear hzz hz
                go_wp2
                go_roundg (L u - (t + 1))
                case measure => omega
                case rel => exact ⟨t + 1, _, by omega, rfl, by go_num, hsr.set z, HV.out.step HZZ.out⟩
              · obtain rfl : t = L u := by omega
                go_wp2
                go_roundg (n - (u + 1))
                case measure => omega
                case rel => exact ⟨u + 1, _, by omega, rfl, by go_num, hsr, HV.out.row HF.out⟩
        · obtain rfl : u = n := by omega
          have hnx := hsr.nxt.cell hs
          have hlv := HL.out.1.next HV.out
          have e1 : k - 1 + 1 = k := by omega
          rw [e1] at hlv
          have HW : Hid (Plain.IsLev u L Z s k gg) := hlv
          clear hlv e1
          cases hgs : gg s with
          | true =>
            rw [hgs] at hnx
            have HG : Hid (gg s = true) := hgs
            clear hgs
            go_wp2
            go_ret
            exact ⟨⟨k, rfl, .inr ⟨hk1, hkn, (HW.out s hs).1 HG.out, HL.out.2⟩⟩, hsr.bel⟩
          | false =>
            rw [hgs] at hnx
            have HG : Hid (gg s = false) := hgs
            clear hgs
            go_wp2
            go_roundg (u + 1 - (k + 1))
            case measure => omega
            case rel => exact ⟨k + 1, nb, gg, by omega, by omega, rfl, by go_num, rfl, hsr.nbN, hsr.bel, hsr.nxt, HW.out, HL.out.2.next hs HW.out HG.out⟩
    · obtain rfl : k = n + 1 := by omega
      go_wp2
      go_ret
      exact ⟨⟨0, rfl, .inl ⟨rfl, HL.out.2⟩⟩, hbel⟩

end Go.Proofs.Qxb6001457a
