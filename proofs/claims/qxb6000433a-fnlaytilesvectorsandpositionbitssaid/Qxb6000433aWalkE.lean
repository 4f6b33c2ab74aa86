import Derived.Test.Qxb6000433aWalkD
namespace Go.Proofs.Qxb6000433a
open Go.RowKit

set_option maxRecDepth 100000 in
set_option maxHeartbeats 1600000 in
theorem program_any (bt n : Nat) (F : Nat → Nat → Int) (cp g : Nat → Nat) (w : World) (hT : TreeR w bt n F cp g) (hn : n ≤ 5000) :
    Calls Try.prog 17 #[.pointer (some ⟨bt, 0, none⟩)] w fun e w' => Laid w n F e w' := by
  have HC := Kept.mk (zzProgram_any n F cp g w.drew (fun i hi v hv => hT.val i hi v hv) hn)
  have c0 := hT.cell 0 (by omega)
  have c1 := hT.cell 1 (by omega)
  have c2 := hT.cell 2 (by omega)
  have c3 := hT.cell 3 (by omega)
  have c4 := hT.cell 4 (by omega)
  have c5 := hT.cell 5 (by omega)
  have c6 := hT.cell 6 (by omega)
  have c7 := hT.cell 7 (by omega)
  have c8 := hT.cell 8 (by omega)
  clear hT
  go_enter Try.func17, Try.ntmps17
  go_wp2
  refine wp_region_still_tail 36 (by kernel_rfl) (by kernel_rfl) ?_
  simp only [List.take_succ_cons, List.take_zero, List.drop_succ_cons, List.drop_zero]
  repeat still_step
  refine wpStill_nil ?_
  go_wp2_with fail
  refine HC.out.mono ?_
  rintro e W ⟨bp, gn, rfl, h1, h2, h3, h4, h5, h6, h7⟩
  have HR := Kept.mk (show Laid w n F (.returned (.pointer (some ⟨bp, 0, none⟩))) W from ⟨bp, gn, rfl, h1, h2, h3, ⟨h4.os, h4.tape, h4.output, h4.size, h4.block⟩, h5, h6, h7⟩)
  clear HC h1 h2 h3 h4 h5 h6 h7
  go_wp2
  go_ret
  exact HR.out

end Go.Proofs.Qxb6000433a
