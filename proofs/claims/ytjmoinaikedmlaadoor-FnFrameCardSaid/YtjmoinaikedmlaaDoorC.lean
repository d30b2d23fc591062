/- Contracts: frameOf -/
import Derived.Test.YtjmoinaikedmlaaDoorB
namespace Go.Proofs.YtjmoinaikedmlaaDoor
open Go.ChangeShapes Go.WideShapes Go.ChangeAt Go.RowKit
set_option linter.unusedVariables false

/-- what the package's struct of a frame holds -/
def canCells (id n : Int) (N : Nat) (r x : Bool) : Array Value :=
  #[.int .u32 id, .int .u8 n, .int .u8 (Pl.byt N 0 : Nat), .int .u8 (Pl.byt N 1 : Nat), .int .u8 (Pl.byt N 2 : Nat), .int .u8 (Pl.byt N 3 : Nat), .int .u8 (Pl.byt N 4 : Nat), .int .u8 (Pl.byt N 5 : Nat), .int .u8 (Pl.byt N 6 : Nat), .int .u8 (Pl.byt N 7 : Nat), .bool r, .bool x]

theorem frameOf11 (id n : Nat) (N : Nat) (rm ex : Bool) (w : World) (h1 : id < 4294967296) (h2 : n < 256) :
    Calls Tryd.prog 11 #[.agg (frCells id n N rm ex)] w fun e w' => e = .returned (.tuple #[.agg (canCells id n N rm ex), .bool true]) ∧ Below w.heap.size w w' := by
  unfold frCells canCells
  go_enter Tryd.func11, Tryd.ntmps11
  go_wp2_with fail
  exact bodyPost_ret (v := .tuple #[.agg (canCells _ _ _ _ _), .bool true]) (by unfold canCells; simp [results, Tryd.results11, go_sem, *]) rfl ⟨rfl, ((Below.refl _ _).alloc (Nat.le_refl _) _).alloc (by simp) _⟩

end Go.Proofs.YtjmoinaikedmlaaDoor
