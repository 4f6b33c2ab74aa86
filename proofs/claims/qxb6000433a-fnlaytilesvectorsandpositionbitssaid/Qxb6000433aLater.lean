/-
  A region that draws its order, whose operations only read and whose callees make new memory alone: ONE walk of the lexical order (Derived/Deep/Quiet.lean's theorem at the class 'worlds that have only grown').
-/
import Derived.WalkKit
import Derived.BigQuiet
import Derived.Deep.QuietTactic
import Derived.Deep.RegionWith
namespace Go.Proofs.Qxb6000433a
open Go.RowKit

/-- A world that has only grown since w. -/
structure Later (w : World) where
  val : World
  bel : Below w.heap.size w val

theorem Later.here (w : World) : Nonempty (Later w) := ⟨⟨w, Below.refl _ _⟩⟩

theorem wp_region_later {P : Program} {id : Nat} {Q : Exit → Act → World → Prop} {a : Act} {w : World} {l : List Oper} (hm : P.follows .mixedOrders = true) (hB : Region.lexB .any l.toArray = true)
    (h : wpQuiet P l.toArray (fun w' => ∃ x : Later w, w' = x.val) (fun a' => ∀ w', (∃ x : Later w, w' = x.val) → Q .normal a' w') l a) : (Code.region id l.toArray true).wp P Q a w :=
  wp_region_quiet (C := fun w' => ∃ x : Later w, w' = x.val) hm hB ⟨⟨_, (Below.refl _ _).drew⟩, rfl⟩ h

theorem later_of {P : Program} {f : FuncId} {args : Array Value} {w : World} {v : Value} (x : Later w) (h : Calls P f args x.val fun e w' => e = .returned v ∧ Below x.val.heap.size x.val w') :
    Calls P f args x.val fun e w'' => e = .returned v ∧ ∃ y : Later w, w'' = y.val :=
  h.mono fun _ W ⟨he, hb⟩ => ⟨he, ⟨W, x.bel.trans (hb.mono x.bel.size)⟩, rfl⟩

theorem later_of_same {P : Program} {f : FuncId} {args : Array Value} {w : World} {v : Value} (x : Later w) (h : Calls P f args x.val fun e w' => e = .returned v ∧ w' = x.val) :
    Calls P f args x.val fun e w'' => e = .returned v ∧ ∃ y : Later w, w'' = y.val :=
  h.mono fun _ _ ⟨he, hb⟩ => ⟨he, x, hb⟩

theorem Later.cell {w : World} {a : Addr} {v : Value} (h : w.cell? a = some v) (x : Later w) : x.val.cell? a = some v := by
  rw [x.bel.cell (World.block_lt_of_cell? _ _ h)]; exact h

end Go.Proofs.Qxb6000433a
