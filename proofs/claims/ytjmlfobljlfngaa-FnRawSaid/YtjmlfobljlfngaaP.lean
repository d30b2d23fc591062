/- Plain arithmetic of the bytes' own operations, in the walk's spelling -/
import Derived.Test.YtjmlfobljlfngaaF
import Derived.Laws.BitsAllLaws
import Derived.Laws.Bits64b
namespace Go.Proofs.Ytjmlfobljlfngaa
open Go.ChangeShapes Go.WideShapes Go.ChangeAt Go.RowKit
set_option linter.unusedVariables false
namespace Pl

theorem bit_of_byt (N j k : Nat) : (byt N j).testBit k = (decide (k < 8) && N.testBit (8 * j + k)) := by
  unfold byt
  rw [show (256 : Nat) = 2 ^ 8 from rfl, Nat.testBit_mod_two_pow, Nat.testBit_div_two_pow, Nat.add_comm]

theorem byt_setb_ne {N i j : Nat} {on : Bool} (h : j ≠ i / 8) : byt (setb N i on) j = byt N j := by
  refine Nat.eq_of_testBit_eq fun k => ?_
  rw [bit_of_byt, bit_of_byt, bit_setb]
  by_cases hk : k < 8
  · rw [if_neg (by omega)]
  · simp [hk]

theorem byt_set_on (N i : Nat) : byt (setb N i true) (i / 8) = byt N (i / 8) ||| 2 ^ (i % 8) := by
  refine Nat.eq_of_testBit_eq fun k => ?_
  rw [Nat.testBit_or, Nat.testBit_two_pow, bit_of_byt, bit_of_byt, bit_setb]
  by_cases hk : k < 8
  · by_cases h : i % 8 = k
    · rw [if_pos (by omega)]; simp [hk, h]
    · rw [if_neg (by omega)]; simp [h]
  · have : i % 8 < 8 := Nat.mod_lt _ (by decide)
    have : ¬ i % 8 = k := by omega
    simp [hk, this]

theorem byt_set_off (N i : Nat) : byt (setb N i false) (i / 8) = byt N (i / 8) &&& (255 - 2 ^ (i % 8)) := by
  have hm : i % 8 < 8 := Nat.mod_lt _ (by decide)
  have e : 255 - 2 ^ (i % 8) = 2 ^ 8 - (2 ^ (i % 8) + 1) := by
    have : 2 ^ (i % 8) < 2 ^ 8 := Nat.pow_lt_pow_right (by decide) hm
    omega
  refine Nat.eq_of_testBit_eq fun k => ?_
  rw [Nat.testBit_and, e, Nat.testBit_two_pow_sub_succ (Nat.pow_lt_pow_right (by decide) hm), Nat.testBit_two_pow, bit_of_byt, bit_of_byt, bit_setb]
  by_cases hk : k < 8
  · by_cases h : i % 8 = k
    · rw [if_pos (by omega)]; simp [h]
    · rw [if_neg (by omega)]; simp [hk, h]
  · simp [hk]

theorem pow8_lt {m : Nat} (h : m < 8) : 2 ^ m < 256 := by
  have : 2 ^ m < 2 ^ 8 := Nat.pow_lt_pow_right (by decide) h
  omega

/-- the walk's mask -/
theorem mask_u8 {m : Nat} (h : m < 8) : (2 : Int) ^ m % 256 = ((2 ^ m : Nat) : Int) := by
  have := pow8_lt h
  rw [pow_cast]
  generalize 2 ^ m = x at *
  omega

theorem and_pow (x m : Nat) : x &&& 2 ^ m = if x.testBit m then 2 ^ m else 0 := by
  refine Nat.eq_of_testBit_eq fun k => ?_
  rw [Nat.testBit_and, Nat.testBit_two_pow]
  by_cases h : m = k
  · subst h
    cases hx : x.testBit m <;> simp
  · cases hx : x.testBit m <;> simp [h]

theorem bit_test {N i : Nat} : N.testBit i = (byt N (i / 8)).testBit (i % 8) := bit_byt N i

theorem test_walk (N i : Nat) : decide (0 < bits .and .u8 ((byt N (i / 8) : Nat) : Int) ((2 ^ (i % 8) : Nat) : Int)) = N.testBit i := by
  have hm : i % 8 < 8 := Nat.mod_lt _ (by decide)
  rw [u8_and_nat _ _ (byt_lt _ _) (pow8_lt hm), and_pow, ← bit_byt]
  have := Nat.two_pow_pos (i % 8)
  cases N.testBit i
  · rfl
  · simp only [if_true]; exact decide_eq_true (Int.natCast_pos.mpr this)

theorem shr_test (x m : Nat) (hx : x < 256) (hm : m < 8) : (bits .and .u8 ((x : Int) / 2 ^ m) 1 == 1) = x.testBit m := by
  have hd : x / 2 ^ m < 256 := Nat.lt_of_le_of_lt (Nat.div_le_self _ _) hx
  have e : (x : Int) / 2 ^ m = ((x / 2 ^ m : Nat) : Int) := by simp
  rw [e, show (1 : Int) = ((1 : Nat) : Int) from rfl, u8_and_nat _ _ hd (by decide), Nat.and_one_is_mod, Nat.testBit_eq_decide_div_mod_eq]
  rcases Nat.mod_two_eq_zero_or_one (x / 2 ^ m) with h | h <;> rw [h] <;> rfl

theorem or_walk (N i : Nat) : bits .or .u8 ((byt N (i / 8) : Nat) : Int) ((2 ^ (i % 8) : Nat) : Int) = ((byt (setb N i true) (i / 8) : Nat) : Int) := by
  rw [u8_or_nat _ _ (byt_lt _ _) (pow8_lt (Nat.mod_lt _ (by decide))), byt_set_on]
theorem andNot_walk (N i : Nat) : bits .andNot .u8 ((byt N (i / 8) : Nat) : Int) ((2 ^ (i % 8) : Nat) : Int) = ((byt (setb N i false) (i / 8) : Nat) : Int) := by
  rw [u8_andNot_nat _ _ (byt_lt _ _) (pow8_lt (Nat.mod_lt _ (by decide))), byt_set_off]
end Pl

/-- a block that holds eight bytes -/
abbrev ArrAt (b N : Nat) (w : World) : Prop :=
  w.cell? ⟨b, 0, none⟩ = some (.int .u8 (Pl.byt N 0 : Nat)) ∧ w.cell? ⟨b, 1, none⟩ = some (.int .u8 (Pl.byt N 1 : Nat)) ∧ w.cell? ⟨b, 2, none⟩ = some (.int .u8 (Pl.byt N 2 : Nat)) ∧ w.cell? ⟨b, 3, none⟩ = some (.int .u8 (Pl.byt N 3 : Nat)) ∧ w.cell? ⟨b, 4, none⟩ = some (.int .u8 (Pl.byt N 4 : Nat)) ∧ w.cell? ⟨b, 5, none⟩ = some (.int .u8 (Pl.byt N 5 : Nat)) ∧ w.cell? ⟨b, 6, none⟩ = some (.int .u8 (Pl.byt N 6 : Nat)) ∧ w.cell? ⟨b, 7, none⟩ = some (.int .u8 (Pl.byt N 7 : Nat))

theorem ArrAt.grown {b N : Nat} {w w1 : World} (h : ArrAt b N w) (hg : Grown w w1) (hb : b < w.heap.size) : ArrAt b N w1 := by
  obtain ⟨h0, h1, h2, h3, h4, h5, h6, h7⟩ := h
  exact ⟨(grown_cell hg hb).trans h0, (grown_cell hg hb).trans h1, (grown_cell hg hb).trans h2, (grown_cell hg hb).trans h3, (grown_cell hg hb).trans h4, (grown_cell hg hb).trans h5, (grown_cell hg hb).trans h6, (grown_cell hg hb).trans h7⟩

theorem ArrAt.at_ {b N : Nat} {w : World} (h : ArrAt b N w) {j : Nat} (hj : j < 8) : w.cell? ⟨b, j, none⟩ = some (.int .u8 (Pl.byt N j : Nat)) := by
  obtain ⟨h0, h1, h2, h3, h4, h5, h6, h7⟩ := h
  rcases Pl.lt8_cases hj with rfl | rfl | rfl | rfl | rfl | rfl | rfl | rfl <;> assumption

theorem ArrAt.new (w : World) (N : Nat) (t : TypeId) : ArrAt w.heap.size N (w.alloc (.cells (Pl.arr N) t)) := by
  unfold Pl.arr
  refine ⟨?_, ?_, ?_, ?_, ?_, ?_, ?_, ?_⟩ <;> go_simp

end Go.Proofs.Ytjmlfobljlfngaa
