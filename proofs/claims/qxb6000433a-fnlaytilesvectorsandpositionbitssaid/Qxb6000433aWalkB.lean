import Derived.Test.Qxb6000433aWalkA
namespace Go.Proofs.Qxb6000433a
open Go.RowKit
open Plain (Whole P fac)

theorem Try.info2 : (Try.prog.info? 2).map (fun i => (i.zero, i.size, i.bytes)) = some (some (.int .i64 0), 1, 8) := by kernel_rfl
theorem Try.info3 : (Try.prog.info? 3).map (fun i => (i.zero, i.size, i.bytes)) = some (some (.int .i64 0), 1, 8) := by kernel_rfl

theorem rowIs_step {w : World} {b : Nat} {t : TypeId} {n k : Nat} {f : Nat → Value} {d : Value} (h : w.rowIs b t n (fun j => if j < k then f j else d)) :
    (w.setCell ⟨b, k, none⟩ (f k)).rowIs b t n (fun j => if j < k + 1 then f j else d) :=
  (h.set k _).congr fun j _ => by
    by_cases e : j = k
    · subst e; simp
    · rw [if_neg e]
      by_cases hj : j < k
      · rw [if_pos hj, if_pos (by omega)]
      · rw [if_neg hj, if_neg (by omega)]

/-- The parents found so far: of the nodes below v, and of the children L0 of v. -/
def Pa (n : Nat) (par : Nat → Nat) (v : Nat) (L0 : List Nat) (pa : Nat → Int) : Prop := ∀ c, c < n → pa c = if c + 1 < n ∧ (par c < v ∨ c ∈ L0) then (par c : Int) else -1

def SatS : Nat := 1099511627776

theorem Pa.step {F : Nat → Nat → Int} {n : Nat} {K : Nat → List Nat} {par : Nat → Nat} (hW : Whole F n K par) {v c : Nat} {L0 R : List Nat} {pa : Nat → Int} (h : Pa n par v L0 pa) (hv : v < n) (hK : K v = L0 ++ c :: R) :
    Pa n par v (L0 ++ [c]) (fun j => if j = c then (v : Int) else pa j) := fun j hj => by
  have hc := hW.kids v hv c (by rw [hK]; simp)
  show (if j = c then (v : Int) else pa j) = _
  by_cases e : j = c
  · subst e
    rw [if_pos rfl, if_pos ⟨hc.1, .inr (by simp)⟩, hc.2]
  · rw [if_neg e, h j hj]
    simp [e]

theorem Pa.next {F : Nat → Nat → Int} {n : Nat} {K : Nat → List Nat} {par : Nat → Nat} (hW : Whole F n K par) {v : Nat} {pa : Nat → Int} (h : Pa n par v (K v) pa) (hv : v < n) : Pa n par (v + 1) [] pa := fun j hj => by
  rw [h j hj]
  by_cases hj1 : j + 1 < n
  · by_cases h1 : par j < v
    · rw [if_pos ⟨hj1, .inl h1⟩, if_pos ⟨hj1, .inl (by omega)⟩]
    · by_cases h2 : par j = v
      · have := (hW.par_lt j hj1).2.2
        rw [h2] at this
        rw [if_pos ⟨hj1, .inr this⟩, if_pos ⟨hj1, .inl (by omega)⟩]
      · have h3 : j ∉ K v := fun hm => h2 (hW.kids v hv j hm).2
        rw [if_neg (by simp [h1, h3]), if_neg (by simp; omega)]
  · rw [if_neg (by simp [hj1]), if_neg (by simp [hj1])]

/-- On the way up from k: x is the product so far; a the next node to look at, or -1. -/
def Up (F : Nat → Nat → Int) (par : Nat → Nat) (n k : Nat) (a : Int) (x : Nat) : Prop := (a = -1 ∧ x = P F par n k) ∨ ∃ b : Nat, a = (b : Int) ∧ b < n ∧ x * (fac F b * P F par n b) = P F par n k

theorem Up.start {F : Nat → Nat → Int} {n : Nat} {K : Nat → List Nat} {par : Nat → Nat} (hW : Whole F n K par) {pa : Nat → Int} (h : Pa n par n [] pa) {k : Nat} (hk : k < n) : Up F par n k (pa k) 1 := by
  rw [h k hk]
  by_cases hk1 : k + 1 < n
  · rw [if_pos ⟨hk1, .inl (hW.par_lt k hk1).2.1⟩]
    exact .inr ⟨par k, rfl, (hW.par_lt k hk1).2.1, by rw [Plain.P_step hW hk1, Nat.one_mul, Nat.mul_comm]⟩
  · rw [if_neg (by simp [hk1])]
    exact .inl ⟨rfl, (Plain.P_root F par n k (by omega)).symm⟩

theorem Up.next {F : Nat → Nat → Int} {n : Nat} {K : Nat → List Nat} {par : Nat → Nat} (hW : Whole F n K par) {pa : Nat → Int} (h : Pa n par n [] pa) {k b x : Nat} (hb : b < n) (hx : x * (fac F b * P F par n b) = P F par n k) :
    Up F par n k (pa b) (x * fac F b) := by
  rw [h b hb]
  by_cases hb1 : b + 1 < n
  · rw [if_pos ⟨hb1, .inl (hW.par_lt b hb1).2.1⟩]
    refine .inr ⟨par b, rfl, (hW.par_lt b hb1).2.1, ?_⟩
    rw [← hx, Plain.P_step hW hb1, Nat.mul_assoc, Nat.mul_comm (fac F (par b))]
  · rw [if_neg (by simp [hb1])]
    refine .inl ⟨rfl, ?_⟩
    rw [← hx, Plain.P_root F par n b (by omega), Nat.mul_one]

/-- How far the way up still is. -/
def upGas (n : Nat) (a : Int) : Nat := if a < 0 then 0 else n - a.toNat

theorem upGas_next {F : Nat → Nat → Int} {n : Nat} {K : Nat → List Nat} {par : Nat → Nat} (hW : Whole F n K par) {pa : Nat → Int} (h : Pa n par n [] pa) {b : Nat} (hb : b < n) : upGas n (pa b) < n - b := by
  by_cases hb1 : b + 1 < n
  · have e : pa b = (par b : Int) := by rw [h b hb, if_pos ⟨hb1, .inl (hW.par_lt b hb1).2.1⟩]
    have := (hW.par_lt b hb1).1
    unfold upGas
    rw [e, if_neg (by omega)]; omega
  · have e : pa b = -1 := by rw [h b hb, if_neg (by simp [hb1])]
    unfold upGas
    rw [e, if_pos (by omega)]; omega

theorem copiesOf_is (bt n v : Nat) (F : Nat → Nat → Int) (cp g : Nat → Nat) (w : World) (hT : TreeR w bt n F cp g) (hv : v < n) (h7 : 0 ≤ F 7 v ∧ F 7 v ≤ 4) (h8 : -1 ≤ F 8 v ∧ F 8 v ≤ 7) {fc : Nat} (he : (fc : Int) = Plain.copies F v) :
    Calls Try.prog 42 #[.pointer (some ⟨bt, 0, none⟩), .int .i64 (v : Int)] w fun e w' => e = .returned (.int .i64 (fc : Int)) ∧ w' = w := by
  rw [he]; exact copiesOf_any bt n v F cp g w hT hv h7 h8

/-- What multModel hands back. -/
def Mults (w : World) (n : Nat) (m : Nat → Nat) (e : Ending) (w' : World) : Prop :=
  ∃ gm, e = .returned (.slice (some ⟨gm, 0, none⟩) n n) ∧ Below w.heap.size w w' ∧ w'.rowIs gm 2 n (fun v => .int .i64 ((min (m v) SatS : Nat) : Int))

set_option maxRecDepth 100000 in
set_option maxHeartbeats 1600000 in
theorem multModel_any (bt n : Nat) (F : Nat → Nat → Int) (cp g : Nat → Nat) (K : Nat → List Nat) (par : Nat → Nat) (w : World) (hT : TreeR w bt n F cp g) (hW : Whole F n K par) (hn : n ≤ 5000) :
    Calls Try.prog 27 #[.pointer (some ⟨bt, 0, none⟩)] w fun e w' => Mults w n (P F par n) e w' := by
  have hmk := run_make_row' (P := Try.prog) 71 3 (.int .i64 0) 8 Try.underlying71 Try.info3 rfl .i64 .i64 n (by omega) (by omega)
  have hmk2 := Kept.mk (run_make_row' (P := Try.prog) 51 2 (.int .i64 0) 8 Try.underlying51 Try.info2 rfl .i64 .i64 n (by omega) (by omega))
  have HT := Kept.mk hT
  have HW := Kept.mk hW
  have c0 := hT.cell 0 (by omega)
  clear hT hW
  go_enter Try.func27, Try.ntmps27
  go_wp2
  clear hmk c0
  go_loopg [5] n (fun g' i wr => ∃ k : Nat, k ≤ n ∧ g' = n - k ∧ i = .int .i64 k ∧ Below w.heap.size w wr ∧ wr.rowIs w.heap.size 3 n (fun j => if j < k then .int .i64 (-1) else .int .i64 0))
  case atStart => exact ⟨0, Nat.zero_le _, rfl, rfl, (Below.refl _ _).alloc (Nat.le_refl _) _, (World.rowIs_made w _ n 3).congr (fun j _ => by simp)⟩
  case round =>
    obtain ⟨k, hk, rfl, rfl, hbel, hrow⟩ := hrel
    by_cases hlt : k < n
    · have hc2 := hrow.cell hlt
      rw [if_neg (Nat.lt_irrefl _)] at hc2
      have hf2 := hrow.frozen k
      go_wp2
      go_roundg (n - (k + 1))
      case measure => omega
      case rel => exact ⟨k + 1, by omega, rfl, by go_num, hbel.setCell (p := ⟨w.heap.size, k, none⟩) (Nat.le_refl _) _, rowIs_step (f := fun _ => .int .i64 (-1)) hrow⟩
    · obtain rfl : k = n := by omega
      have HI := Kept.mk (And.intro hbel (hrow.congr (g := fun _ => .int .i64 (-1)) fun j hj => by rw [if_pos hj]))
      clear hbel hrow
      go_wp2
      go_loopg [6] k (fun g' i wr => ∃ (v : Nat) (pa : Nat → Int), v ≤ k ∧ g' = k - v ∧ i = .int .i64 v ∧ Below w.heap.size w wr ∧ wr.rowIs w.heap.size 3 k (fun j => .int .i64 (pa j)) ∧ Pa k par v [] pa)
      case atStart => exact ⟨0, fun _ => -1, Nat.zero_le _, rfl, rfl, HI.out.1, HI.out.2, fun c _ => by simp⟩
      case round =>
        clear HI
        obtain ⟨v, pa, hv, rfl, rfl, hbel, hrow, hpa⟩ := hrel
        by_cases hlt2 : v < k
        · have hT2 := HT.out.later hbel
          have c2 := hT2.cell 2 (by omega)
          have v2 : wr.cell? ⟨g 2, v, none⟩ = some (.int .i32 (F 2 v)) := hT2.val 2 (by omega) v hlt2
          have HI := Kept.mk (And.intro hbel (And.intro hrow (And.intro hpa (HW.out.chain v hlt2))))
          clear hT2 hbel hrow hpa
          go_wp2
          go_loopg [7] (K v).length (fun g' i wr => ∃ (L0 L : List Nat) (x : Int) (pa : Nat → Int), K v = L0 ++ L ∧ g' = L.length ∧ i = .int .i32 x ∧ Plain.Chain (F 3) x L ∧ Below w.heap.size w wr ∧ wr.rowIs w.heap.size 3 k (fun j => .int .i64 (pa j)) ∧ Pa k par v L0 pa)
          case atStart => exact ⟨[], K v, _, pa, rfl, rfl, rfl, HI.out.2.2.2, HI.out.1, HI.out.2.1, HI.out.2.2.1⟩
          case round =>
            clear HI c2 v2
            obtain ⟨L0, L, x, pa, hKv, rfl, rfl, hch, hbel, hrow, hpa⟩ := hrel
            by_cases hx : 0 ≤ x
            · obtain ⟨c, R, rfl, rfl, hch2⟩ := hch.pos hx
              have hcn : c < k := by have := (HW.out.kids v hlt2 c (by rw [hKv]; simp)).1; omega
              have hc1 := hrow.cell hcn
              have hf1 := hrow.frozen c
              have hT2 := HT.out.later (hbel.setCell (p := ⟨w.heap.size, c, none⟩) (Nat.le_refl _) (.int .i64 (v : Int)))
              have c3 := hT2.cell 3 (by omega)
              have v3 : (wr.setCell ⟨w.heap.size, c, none⟩ (.int .i64 (v : Int))).cell? ⟨g 3, c, none⟩ = some (.int .i32 (F 3 c)) := hT2.val 3 (by omega) c hcn
              have HI := Kept.mk (And.intro hch2 (And.intro (hbel.setCell (p := ⟨w.heap.size, c, none⟩) (Nat.le_refl _) (.int .i64 (v : Int))) (And.intro ((hrow.set c (.int .i64 (v : Int))).congr (g := fun j => .int .i64 (if j = c then (v : Int) else pa j)) fun j _ => by by_cases e : j = c <;> simp [e]) (Pa.step HW.out hpa hlt2 hKv))))
              have HK := Kept.mk (show K v = (L0 ++ [c]) ++ R by rw [hKv]; simp)
              clear hch hch2 hT2 hbel hrow hpa hKv
              go_wp2
              go_roundg R.length
              case measure => simp
              case rel => exact ⟨L0 ++ [c], R, _, _, HK.out, rfl, rfl, HI.out.1, HI.out.2.1, HI.out.2.2.1, HI.out.2.2.2⟩
            · obtain rfl := hch.neg (by omega)
              have HI := Kept.mk (And.intro hbel (And.intro hrow (Pa.next HW.out (by rw [hKv]; simpa using hpa) hlt2)))
              clear hbel hrow hpa hch hKv
              go_wp2
              go_roundg (k - (v + 1))
              case measure => omega
              case rel => exact ⟨v + 1, pa, by omega, rfl, by go_num, HI.out.1, HI.out.2.1, HI.out.2.2⟩
        · obtain rfl : v = k := by omega
          have hmk := hmk2.out
          have HP := Kept.mk hpa
          have HI := Kept.mk (And.intro (hbel.alloc hbel.size (.cells (madeCells #[.int .i64 0] v) 2)) (And.intro (hrow.alloc (.cells (madeCells #[.int .i64 0] v) 2)) (World.rowIs_made wr (.int .i64 0) v 2)))
          have hne : w.heap.size < wr.heap.size := hrow.lt
          clear hbel hrow hpa
          go_wp2
          clear hmk hmk2
          obtain ⟨gm, hgm⟩ : ∃ gm, gm = wr.heap.size := ⟨_, rfl⟩
          rw [← hgm] at HI hne
          rw [← hgm]
          clear hgm
          go_loopg [9] v (fun g' i wr => ∃ k : Nat, k ≤ v ∧ g' = v - k ∧ i = .int .i64 k ∧ Below w.heap.size w wr ∧ wr.rowIs w.heap.size 3 v (fun j => .int .i64 (pa j)) ∧ wr.rowIs gm 2 v (fun j => if j < k then .int .i64 ((min (P F par v j) SatS : Nat) : Int) else .int .i64 0))
          case atStart => exact ⟨0, Nat.zero_le _, rfl, rfl, HI.out.1, HI.out.2.1, HI.out.2.2.congr (fun j _ => by simp)⟩
          case round =>
            clear HI
            obtain ⟨k, hk, rfl, rfl, hbel, hrow, hres⟩ := hrel
            by_cases hlt3 : k < v
            · have hc1 := hrow.cell hlt3
              have HI := Kept.mk (And.intro hbel (And.intro hrow hres))
              have HU := Kept.mk (Up.start HW.out HP.out hlt3)
              clear hbel hrow hres
              go_wp2
              go_loopg [10, 11] (upGas v (pa k)) (fun g' s10 s11 wr' => ∃ (a : Int) (x : Nat), g' = upGas v a ∧ s10 = .int .i64 ((min x SatS : Nat) : Int) ∧ s11 = .int .i64 a ∧ wr' = wr ∧ Up F par v k a x)
              case atStart => exact ⟨pa k, 1, rfl, by unfold SatS; simp, rfl, rfl, HU.out⟩
              case round =>
                clear HU hc1
                obtain ⟨a, x, rfl, rfl, rfl, rfl, hU⟩ := hrel
                rcases hU with ⟨rfl, hx⟩ | ⟨b, rfl, hb, hx⟩
                · have hc2 := HI.out.2.2.cell hlt3
                  rw [if_neg (Nat.lt_irrefl _)] at hc2
                  have hf2 := HI.out.2.2.frozen k
                  have HR := Kept.mk (And.intro (HI.out.1.setCell (p := ⟨gm, k, none⟩) (Nat.le_of_lt hne) (.int .i64 ((min x SatS : Nat) : Int))) (And.intro (HI.out.2.1.setOther (a := ⟨gm, k, none⟩) (Nat.ne_of_lt hne) (.int .i64 ((min x SatS : Nat) : Int)))
                    (by have h1 := rowIs_step HI.out.2.2; rw [← hx] at h1; exact h1)))
                  clear HI hx
                  go_wp2
                  go_roundg (v - (k + 1))
                  case measure => omega
                  case rel => exact ⟨k + 1, by omega, rfl, by go_num, HR.out.1, HR.out.2.1, HR.out.2.2⟩
                · have hT2 := HT.out.later HI.out.1
                  have c0 := hT2.cell 0 (by omega)
                  have v0 := hT2.val 0 (by omega) b hb
                  change _ = some (Value.int .u8 (F 0 b)) at v0
                  have hc1 := HI.out.2.1.cell hb
                  have HU := Kept.mk (Up.next HW.out HP.out hb hx)
                  have HG := Kept.mk (upGas_next HW.out HP.out hb)
                  have hgb : upGas v (b : Int) = v - b := by unfold upGas; rw [if_neg (by omega)]; simp
                  by_cases hk4 : F 0 b = 4
                  · have hcp := HW.out.copies hb hk4
                    have hrp := HW.out.rep b hb hk4
                    obtain ⟨hc0, hc7, hce⟩ := hcp
                    have HC := Kept.mk (copiesOf_is bt v b F cp g _ hT2 hb ⟨hrp.1, hrp.2.1⟩ ⟨hrp.2.2.1, hrp.2.2.2.1⟩ hce)
                    have hkb : (F 0 b == 4) = true := by simp [hk4]
                    have hf7 : fac F b ≤ 7 := by omega
                    have HM := Kept.mk (Plain.min_mul x (fac F b) SatS)
                    obtain ⟨fc, hfc⟩ : ∃ fc, fc = fac F b := ⟨_, rfl⟩
                    rw [← hfc] at HC HM hf7 HU
                    obtain ⟨y, hy⟩ : ∃ y, y = min x SatS := ⟨_, rfl⟩
                    rw [← hy] at HM
                    rw [← hy]
                    have hyS : y ≤ 1099511627776 := by unfold SatS at hy; omega
                    obtain ⟨z, hz⟩ : ∃ z, z = y * fc := ⟨_, rfl⟩
                    have hz7 : z ≤ 7696581394432 := by rw [hz]; exact Nat.mul_le_mul hyS hf7
                    have ez : (y : Int) * (fc : Int) = (z : Int) := by rw [hz]; exact (Int.natCast_mul y fc).symm
                    have HZ := Kept.mk (And.intro hz ez)
                    have hm0 : 0 ≤ (y : Int) * (fc : Int) := by omega
                    have hm7 : (y : Int) * (fc : Int) ≤ 7696581394432 := by omega
                    clear hT2 hx hrp hc0 hc7 hce hk4 hfc hy
                    by_cases hbig : 1099511627776 < (y : Int) * (fc : Int)
                    · have hbigN : 1099511627776 < z := by omega
                      clear ez hz
                      go_wp2_with fail
                      refine HC.out.mono ?_
                      rintro e W ⟨rfl, rfl⟩
                      go_wp2
                      go_roundg (upGas v (pa b))
                      case measure => rw [hgb]; exact HG.out
                      case rel => exact ⟨pa b, x * fc, rfl, by rw [← HM.out, ← HZ.out.1]; congr 1; unfold SatS; omega, rfl, rfl, HU.out⟩
                    · have hbigN : z ≤ 1099511627776 := by omega
                      clear ez hz
                      go_wp2_with fail
                      refine HC.out.mono ?_
                      rintro e W ⟨rfl, rfl⟩
                      go_wp2
                      go_roundg (upGas v (pa b))
                      case measure => rw [hgb]; exact HG.out
                      case rel => exact ⟨pa b, x * fc, rfl, by rw [← HM.out, ← HZ.out.1, HZ.out.2]; congr 1; unfold SatS; omega, rfl, rfl, HU.out⟩
                  · have hfac : fac F b = 1 := by unfold fac; rw [if_neg hk4]
                    have hkb : (F 0 b == 4) = false := by simp [hk4]
                    have HF := Kept.mk hfac
                    clear hT2 hx hfac
                    go_wp2
                    go_roundg (upGas v (pa b))
                    case measure => rw [hgb]; exact HG.out
                    case rel => exact ⟨pa b, x, rfl, rfl, rfl, rfl, by have := HU.out; rw [HF.out, Nat.mul_one] at this; exact this⟩
            · obtain rfl : k = v := by omega
              have HI := Kept.mk (And.intro hbel (hres.congr (g := fun j => .int .i64 ((min (P F par k j) SatS : Nat) : Int)) fun j hj => by rw [if_pos hj]))
              clear hbel hrow hres
              go_wp2
              go_ret
              exact ⟨gm, rfl, HI.out.1, HI.out.2⟩

end Go.Proofs.Qxb6000433a
