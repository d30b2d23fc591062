/- What the listed variables give the walk; the law's walk at every frame -/
import Derived.Test.YtjmoinaikedmlaaDoorU
import Derived.LaidMore
import Derived.Lay
import Derived.SevenTiedAt
import Derived.Stop.Joined
import Derived.Carry
namespace Go.Proofs.YtjmoinaikedmlaaDoor
open Go.ChangeShapes Go.WideShapes Go.ChangeAt Go.RowKit
set_option linter.unusedVariables false
set_option maxRecDepth 100000

/-- the cell of TrailingZeros' table, and that ErrLength holds something -/
theorem of_laid {W : World} (h : laidMetH Tryd.prog Rows.fnFrameRow.laid W) : W.cell? ⟨9, 15, none⟩ = some (.int .u8 4) ∧ ∃ ev, W.cell? ⟨0, 0, none⟩ = some ev := by
  rw [MakeChecks.laidMetH_plain _ _ _ (by kernel_rfl)] at h
  obtain ⟨ps, ⟨g0, t0, cs0, f0, p0, q0, hg0, ht0, hv0, hd0, ⟨g1, t1, cs1, f1, p1, q1, hg1, ht1, hv1, hd1, ⟨g2, t2, cs2, f2, p2, q2, hg2, ht2, hv2, hd2, ⟨g3, t3, cs3, f3, p3, q3, hg3, ht3, hv3, hd3, ⟨g4, t4, cs4, f4, p4, q4, hg4, ht4, hv4, hd4, ⟨g5, t5, cs5, f5, p5, q5, hg5, ht5, hv5, hd5, ⟨g6, t6, cs6, f6, p6, q6, hg6, ht6, hv6, hd6, _, _⟩, _⟩, _⟩, _⟩, _⟩, _⟩, _⟩, _, _⟩ := h
  obtain rfl := Option.some.inj ((show Tryd.prog.globalNamed "math/bits.deBruijn64tab" = some 9 by kernel_rfl).symm.trans hg1)
  obtain rfl := Option.some.inj ((show (Tryd.prog.globals[9]?).map (·.type) = some 119 by kernel_rfl).symm.trans ht1)
  obtain rfl := Option.some.inj ((show Tryd.prog.globalNamed "encoding/hex.ErrLength" = some 0 by kernel_rfl).symm.trans hg6)
  obtain rfl := Option.some.inj ((show (Tryd.prog.globals[0]?).map (·.type) = some 34 by kernel_rfl).symm.trans ht6)
  refine ⟨?_, ?_⟩
  · obtain ⟨xs, m, _, ex, _, hl, hel⟩ := DataW.trod_array Tryd.underlying119 hd1
    have c5 : Tryd.prog.cellsOf 5 = 1 := by kernel_rfl
    have hE := hel 15 (by decide)
    rw [c5, Nat.mul_one, List.getElem?_eq_getElem (by omega)] at hE
    obtain ⟨z, e1, e2, _⟩ := DataW.trod_int Tryd.underlying5 hE
    have e3 := (DataW.agg.inj (Prod.mk.inj ex).1).symm
    have e4 : (xs.map (·.1))[15]? = some (.lit (.int .u8 4)) := by rw [e3]; rfl
    rw [List.getElem?_map, List.getElem?_eq_getElem (by omega : 15 < xs.length), e2] at e4
    have hz : z = 4 := by simpa using e4
    subst hz
    rw [World.var?_cell hg1 hv1 15]
    have : cs1.toList[15]? = some (.int .u8 4) := by
      have h0 : ((cs1.toList.drop 15).take 1)[0]? = some (.int .u8 4) := by rw [e1]; rfl
      simpa using h0
    simpa using this
  · rw [World.var?_cell hg6 hv6 0]
    cases hc : cs6.toList with
    | nil =>
      rw [hc] at hd6
      exfalso
      cases f6 with
      | zero => simp [DataW.trod] at hd6
      | succ m => simp [DataW.trod, Tryd.underlying34] at hd6
    | cons v r =>
      refine ⟨v, ?_⟩
      rw [← Array.getElem?_toList, hc]
      rfl

/-- the law's walk at every frame -/
theorem walk (id n : Int) (N : Nat) (rm ex : Bool) (hN : N < 2 ^ 64) (w : World) (hc : w.cell? ⟨9, 15, none⟩ = some (.int .u8 4)) (ev : Value) (hE : w.cell? ⟨0, 0, none⟩ = some ev) :
    Calls Tryd.prog 3 #[.agg (frCells id n N rm ex)] w fun e w' => e = .returned (.bool true) ∧ Below w.heap.size w w' := by
  by_cases h : 0 ≤ id ∧ id ≤ most ex ∧ 0 ≤ n ∧ n ≤ 8
  · by_cases ho : ∀ k, k < 8 → okP n N rm k
    · obtain ⟨i, rfl⟩ := Int.eq_ofNat_of_zero_le h.1
      obtain ⟨m, rfl⟩ := Int.eq_ofNat_of_zero_le h.2.2.1
      exact law_yes i m N rm ex w h.2.1 (by omega) hN ho ev hE hc
    · have : ∃ k, k < 8 ∧ ¬ okP n N rm k := by
        refine Classical.byContradiction fun hn => ho fun k hk => Classical.byContradiction fun hk2 => hn ⟨k, hk, hk2⟩
      obtain ⟨k0, hk0, hbad⟩ := this
      exact law_no id n N rm ex w fun W => isf4_no id n N rm ex W h k0 hk0 hbad
  · exact law_no id n N rm ex w fun W => isf4_out id n N rm ex W h

end Go.Proofs.YtjmoinaikedmlaaDoor
