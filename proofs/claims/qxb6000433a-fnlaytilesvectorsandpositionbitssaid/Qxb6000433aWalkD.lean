import Derived.Test.Qxb6000433aStore
import Derived.StillTailTactics
namespace Go.Proofs.Qxb6000433a
open Go.RowKit

/-- What ZZProgram hands back. -/
def Laid (w : World) (n : Nat) (F : Nat → Nat → Int) (e : Ending) (w' : World) : Prop :=
  ∃ bp gn, e = .returned (.pointer (some ⟨bp, 0, none⟩)) ∧ w.heap.size ≤ gn ∧ w.heap.size ≤ bp ∧ gn ≠ bp ∧ Below w.heap.size w w' ∧ NRow w' gn n (N0 F) ∧ PAt w' bp gn n 0 0 ∧ ∀ i, w'.frozen? ⟨bp, i, none⟩ = false

/-- A new block of five cells. -/
theorem pat_new (w : World) (gn n : Nat) : PAt (w.alloc (.cells #[.slice (some ⟨gn, 0, none⟩) n n, .slice none 0 0, .slice none 0 0, .int .i64 0, .int .i64 0] 76)) w.heap.size gn n 0 0 ∧
    ∀ i, (w.alloc (.cells #[.slice (some ⟨gn, 0, none⟩) n n, .slice none 0 0, .slice none 0 0, .int .i64 0, .int .i64 0] 76)).frozen? ⟨w.heap.size, i, none⟩ = false := by
  have hb := Deep.blk_alloc_new w (.cells #[.slice (some ⟨gn, 0, none⟩) n n, .slice none 0 0, .slice none 0 0, .int .i64 0, .int .i64 0] 76)
  refine ⟨⟨?_, ?_, ?_⟩, fun i => ?_⟩
  · unfold World.cell?; simp only [hb]; rfl
  · unfold World.cell?; simp only [hb]; rfl
  · unfold World.cell?; simp only [hb]; rfl
  · unfold World.frozen?; simp only [hb]; simp

set_option maxRecDepth 100000 in
set_option maxHeartbeats 3200000 in
theorem zzProgram_any (n : Nat) (F : Nat → Nat → Int) (cp g : Nat → Nat) (w : World) (hV : ∀ i, i < 9 → ∀ v, v < n → w.cell? ⟨g i, v, none⟩ = some (.int (kt i) (F i v))) (hn : n ≤ 5000) :
    Calls Try.prog 40 #[.slice (some ⟨g 0, 0, none⟩) n (cp 0), .slice (some ⟨g 1, 0, none⟩) n (cp 1), .slice (some ⟨g 2, 0, none⟩) n (cp 2), .slice (some ⟨g 3, 0, none⟩) n (cp 3), .slice (some ⟨g 4, 0, none⟩) n (cp 4), .slice (some ⟨g 5, 0, none⟩) n (cp 5), .slice (some ⟨g 6, 0, none⟩) n (cp 6), .slice (some ⟨g 7, 0, none⟩) n (cp 7), .slice (some ⟨g 8, 0, none⟩) n (cp 8)] w fun e w' => Laid w n F e w' := by
  have hmk := run_make14 n hn
  have HV := Kept.mk hV
  clear hV
  go_enter Try.func40, Try.ntmps40
  go_wp2
  clear hmk
  go_loopg [21] n (fun g' i wr => ∃ (k : Nat) (N : Nat → Nat → Int), k ≤ n ∧ g' = n - k ∧ i = .int .i64 k ∧ Below w.heap.size w wr ∧ NRow wr w.heap.size n N ∧ ∀ i v, i < 14 → v < n → N i v = if v < k then N0 F i v else 0)
  case atStart => exact ⟨0, _, Nat.zero_le _, rfl, rfl, (Below.refl _ _).alloc (Nat.le_refl _) _, nrow_made w n, fun i v _ _ => by simp⟩
  case round =>
    obtain ⟨k, N, hk, rfl, rfl, hbel, hrow, hN⟩ := hrel
    by_cases hlt : k < n
    · have hV2 : ∀ i, i < 9 → wr.cell? ⟨g i, k, none⟩ = some (.int (kt i) (F i k)) := fun i hi => by rw [hbel.cell (World.block_lt_of_cell? _ _ (HV.out i hi k hlt))]; exact HV.out i hi k hlt
      have d0 := hV2 0 (by omega)
      have d1 := hV2 1 (by omega)
      have d2 := hV2 2 (by omega)
      have d3 := hV2 3 (by omega)
      have d4 := hV2 4 (by omega)
      have d5 := hV2 5 (by omega)
      have d6 := hV2 6 (by omega)
      have d7 := hV2 7 (by omega)
      have d8 := hV2 8 (by omega)
      change _ = some (Value.int .u8 (F 0 k)) at d0
      change _ = some (Value.int .u8 (F 1 k)) at d1
      change _ = some (Value.int .i32 (F 2 k)) at d2
      change _ = some (Value.int .i32 (F 3 k)) at d3
      change _ = some (Value.int .i32 (F 4 k)) at d4
      change _ = some (Value.int .i32 (F 5 k)) at d5
      change _ = some (Value.int .i32 (F 6 k)) at d6
      change _ = some (Value.int .i32 (F 7 k)) at d7
      change _ = some (Value.int .i32 (F 8 k)) at d8
      have hbeld : Below w.heap.size w wr.drew := hbel.drew
      have hrowd : NRow wr.drew w.heap.size n N := World.rowIs.drew hrow
      have HR := Kept.mk (And.intro (below_setNode hbeld (gn := w.heap.size) (Nat.le_refl _) k (F 0 k) (F 1 k) (F 2 k) (F 3 k) (F 4 k) (F 5 k) (F 6 k) (F 7 k) (F 8 k) 0 0 0 0 0) ((NRow.setNode hrowd k (F 0 k) (F 1 k) (F 2 k) (F 3 k) (F 4 k) (F 5 k) (F 6 k) (F 7 k) (F 8 k) 0 0 0 0 0).congr (N0_step hN)))
      have HS := Kept.mk (run_store80 hrowd hlt (F 0 k) (F 1 k) (F 2 k) (F 3 k) (F 4 k) (F 5 k) (F 6 k) (F 7 k) (F 8 k) 0 0 0 0 0)
      clear hV2 hbel hrow hN hbeld hrowd
      go_wp2
      refine wp_region_still_tail 40 (by kernel_rfl) (by kernel_rfl) ?_
      simp only [List.take_succ_cons, List.take_zero, List.drop_succ_cons, List.drop_zero]
      repeat still_step
      refine wpStill_nil ?_
      go_wp2_with ((with_reducible refine wpList_of_store _ (setNode wr.drew w.heap.size k (F 0 k) (F 1 k) (F 2 k) (F 3 k) (F 4 k) (F 5 k) (F 6 k) (F 7 k) (F 8 k) 0 0 0 0 0) rfl (.tmp 70) (.tmp 69) 80 rfl (.pointer (some ⟨w.heap.size, k * 14, none⟩)) (.agg #[.int .u8 (F 0 k), .int .u8 (F 1 k), .int .i32 (F 2 k), .int .i32 (F 3 k), .int .i32 (F 4 k), .int .i32 (F 5 k), .int .i32 (F 6 k), .int .i32 (F 7 k), .int .i32 (F 8 k), .int .i32 0, .int .i32 0, .int .i32 0, .int .i32 0, .int .i32 0]) ?_ ?_ ?_ ?_); rfl; rfl; exact HS.out)
      go_roundg (n - (k + 1))
      case measure => omega
      case rel => exact ⟨k + 1, fun i v => if v < k + 1 then N0 F i v else 0, by omega, rfl, by go_num, HR.out.1, HR.out.2, fun _ _ _ _ => rfl⟩
    · obtain rfl : k = n := by omega
      have hrow1 := hrow.congr (N' := N0 F) fun i v hi hv => by rw [hN i v hi hv, if_pos hv]
      have hlt2 : w.heap.size < wr.heap.size := World.rowIs.lt hrow
      have hp := pat_new wr w.heap.size k
      have HR := Kept.mk (And.intro (hbel.alloc hbel.size (.cells #[.slice (some ⟨w.heap.size, 0, none⟩) k k, .slice none 0 0, .slice none 0 0, .int .i64 0, .int .i64 0] 76)) (And.intro (World.rowIs.alloc hrow1 (.cells #[.slice (some ⟨w.heap.size, 0, none⟩) k k, .slice none 0 0, .slice none 0 0, .int .i64 0, .int .i64 0] 76)) hp))
      clear hbel hrow hN hrow1 hp
      go_wp2
      go_ret
      exact ⟨wr.heap.size, w.heap.size, rfl, Nat.le_refl _, Nat.le_of_lt hlt2, Nat.ne_of_lt hlt2, HR.out.1, HR.out.2.1, HR.out.2.2.1, HR.out.2.2.2⟩

end Go.Proofs.Qxb6000433a
