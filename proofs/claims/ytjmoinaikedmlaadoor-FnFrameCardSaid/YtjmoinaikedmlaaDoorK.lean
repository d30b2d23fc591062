/- Contracts: impl.Text -/
import Derived.Test.YtjmoinaikedmlaaDoorJ
namespace Go.Proofs.YtjmoinaikedmlaaDoor
open Go.ChangeShapes Go.WideShapes Go.ChangeAt Go.RowKit
set_option linter.unusedVariables false

set_option maxRecDepth 100000 in
set_option maxHeartbeats 2000000 in
theorem text7 (id n N : Nat) (rm ex : Bool) (w : World) (h1 : id < 16 ^ idD ex) (h2 : n ≤ 8) (hc : w.cell? ⟨9, 15, none⟩ = some (.int .u8 4)) :
    Calls Tryd.prog 7 #[.agg (frCells id n N rm ex)] w fun e w' => e = .returned (.string ⟨(textL id n N rm ex).toArray⟩) ∧ Below w.heap.size w w' := by
  have h32 : id < 4294967296 := Nat.lt_of_lt_of_le h1 (by
    have : idD ex ≤ 8 := by unfold idD; split <;> omega
    have := Nat.pow_le_pow_right (n := 16) (by decide) this
    omega)
  have HF := Lib.hid fun W => frameOf11 id n N rm ex W h32 (by omega)
  have HS := Lib.hid fun (W : World) (hb : Below w.heap.size w W) => str12 id n N rm ex W h1 h2 ((hb.cell (cell_lt hc)).trans hc)
  unfold frCells canCells at *
  clear hc h1
  go_enter Tryd.func7, Tryd.ntmps7
  go_wp2_with fail
  refine (HF.out _).mono ?_
  rintro e w' ⟨rfl, hb⟩
  have hlt : w.heap.size < w'.heap.size := Nat.lt_of_lt_of_le (by simp) hb.size
  have c1 : w'.cell? ⟨w.heap.size, 1, none⟩ = some (.int .i64 n) := by
    rw [hb.cell (by simp)]; go_simp
  have hbw : Below w.heap.size w w' := ((Below.refl _ w).alloc (Nat.le_refl _) _).trans (hb.mono (by simp))
  clear hb
  have HB := Lib.hid hbw
  clear hbw
  go_wp2_with fail
  refine (HS.out _ (HB.out.alloc (Nat.le_of_lt hlt) _)).mono ?_
  rintro e w2 ⟨rfl, hb2⟩
  have HB2 := Lib.hid ((HB.out.alloc (Nat.le_of_lt hlt) _).trans (hb2.mono (by simp; omega)))
  clear hb2
  go_wp2_with fail
  go_ret
  exact ⟨rfl, HB2.out⟩

end Go.Proofs.YtjmoinaikedmlaaDoor
