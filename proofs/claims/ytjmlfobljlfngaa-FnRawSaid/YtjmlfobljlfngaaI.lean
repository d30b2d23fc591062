/- Contracts: bits of eight bytes, told and set -/
import Derived.Test.YtjmlfobljlfngaaP
import Derived.Deep.RegionHeld3
import Derived.RegionTactic
import Derived.ChangeAlike
namespace Go.Proofs.Ytjmlfobljlfngaa
open Go.ChangeShapes Go.WideShapes Go.ChangeAt Go.RowKit
set_option linter.unusedVariables false

theorem bit52 (b N i : Nat) (w : World) (hi : i < 64) (hA : ArrAt b N w) :
    Calls Try.prog 52 #[.pointer (some ⟨b, 0, none⟩), .int .u8 i] w fun e w' => e = .returned (.bool (N.testBit i)) ∧ w = w' := by
  have hc := hA.at_ (show i / 8 < 8 by omega)
  clear hA
  go_enter Try.func52, Try.ntmps52
  go_wp2_with fail
  go_ret
  exact ⟨ret_bool (by rw [Pl.mask_u8 (Nat.mod_lt _ (by decide))]; exact Pl.test_walk N i), rfl⟩

theorem sbit25 (N i : Nat) (w : World) (hi : i < 64) :
    Calls Try.prog 25 #[.agg (Pl.arr N), .int .i64 i] w fun e w' => e = .returned (.bool (N.testBit i)) ∧ Grown w w' := by
  have hc := (ArrAt.new w N 32).at_ (show i / 8 < 8 by omega)
  unfold Pl.arr at *
  go_enter Try.func25, Try.ntmps25
  go_wp2_with fail
  go_ret
  exact ⟨ret_bool (by rw [Pl.shr_test _ _ (Pl.byt_lt _ _) (Nat.mod_lt _ (by decide))]; exact Pl.bit_test.symm), (Grown.refl _).alloc _ _⟩

theorem bit24 (N i : Nat) (w : World) (hi : i < 64) :
    Calls Try.prog 24 #[.agg (Pl.arr N), .int .i64 i] w fun e w' => e = .returned (.bool (N.testBit i)) ∧ Grown w w' := by
  unfold Pl.arr
  go_enter Try.func24, Try.ntmps24
  go_wp2_with fail
  refine (bit52 _ N i _ hi ?_).mono ?_
  · refine ⟨?_, ?_, ?_, ?_, ?_, ?_, ?_, ?_⟩ <;> go_simp
  rintro e w' ⟨rfl, rfl⟩
  go_wp2_with fail
  go_ret
  exact ⟨rfl, ((Grown.refl _).alloc _ _).alloc _ _⟩

/-- block b holds M now, all else is as it was -/
def Upd (b M : Nat) (w w' : World) : Prop :=
  ArrAt b M w' ∧ (∀ W, W.heap.size ≤ b → Grown W w → Grown W w') ∧ w'.heap.size = w.heap.size ∧ (∀ p : Addr, p.block ≠ b → w'.cell? p = w.cell? p) ∧ (∀ p : Addr, w'.frozen? p = w.frozen? p)

theorem Pl.not_walk (N i : Nat) : bits .and .u8 ((Pl.byt N (i / 8) : Nat) : Int) (bits .xor .u8 IntKind.u8.max ((2 ^ (i % 8) : Nat) : Int)) = ((Pl.byt (Pl.setb N i false) (i / 8) : Nat) : Int) := by
  have h := Pl.pow8_lt (show i % 8 < 8 from Nat.mod_lt _ (by decide))
  rw [show IntKind.u8.max = ((255 : Nat) : Int) from rfl, u8_xor_nat _ _ (by decide) h, Pl.byt_set_off]
  generalize 2 ^ (i % 8) = x at *
  have e : 255 ^^^ x = 255 - x := by
    refine Nat.eq_of_testBit_eq fun k => ?_
    have h1 := Nat.testBit_two_pow_sub_one 8 k
    have h2 := Nat.testBit_two_pow_sub_succ (x := x) (n := 8) h k
    have h3 : x.testBit k = true → k < 8 := fun hb => by
      by_cases hk : k < 8
      · exact hk
      · rw [Nat.testBit_lt_two_pow (Nat.lt_of_lt_of_le (show x < 2 ^ 8 from h) (Nat.pow_le_pow_right (by decide) (by omega)))] at hb
        cases hb
    rw [Nat.testBit_xor, show (255 : Nat) = 2 ^ 8 - 1 from rfl, h1, show 2 ^ 8 - 1 - x = 2 ^ 8 - (x + 1) by omega, h2]
    by_cases hk : k < 8
    · simp [hk]
    · cases hx : x.testBit k
      · simp [hk]
      · exact absurd (h3 hx) hk
  rw [e, u8_and_nat _ _ (Pl.byt_lt _ _) (by omega)]

theorem ArrAt.of {b N : Nat} {w : World} (h : ∀ j, j < 8 → w.cell? ⟨b, j, none⟩ = some (.int .u8 (Pl.byt N j : Nat))) : ArrAt b N w :=
  ⟨h 0 (by decide), h 1 (by decide), h 2 (by decide), h 3 (by decide), h 4 (by decide), h 5 (by decide), h 6 (by decide), h 7 (by decide)⟩

theorem upd_set {b N i : Nat} {on : Bool} {w : World} (hi : i < 64) (hA : ArrAt b N w) {x : Int} (hx : x = ((Pl.byt (Pl.setb N i on) (i / 8) : Nat) : Int)) :
    Upd b (Pl.setb N i on) w ((w.setCell ⟨b, i / 8, none⟩ (.int .u8 x)).drew) := by
  subst hx
  refine ⟨ArrAt.of fun j hj => ?_, fun W hW hg => (hg.setCell hW _).drew, World.size_setCell _ _ _, fun p hp => World.cell?_setCell_far _ _ _ _ (fun h => hp h.symm), fun p => World.frozen?_setCell _ _ _ _⟩
  show (w.setCell ⟨b, i / 8, none⟩ _).cell? ⟨b, j, none⟩ = _
  by_cases h : j = i / 8
  · subst h
    exact World.cell?_setCell_same _ _ _ (hA.at_ hj)
  · rw [World.cell?_setCell_other _ _ _ _ (fun q => h (by injection q with _ q2; exact q2.symm)), hA.at_ hj, Pl.byt_setb_ne h]

theorem set53 (b N i : Nat) (on : Bool) (w : World) (hi : i < 64) (hA : ArrAt b N w) (hf : w.frozen? ⟨b, i / 8, none⟩ = false) :
    Calls Try.prog 53 #[.pointer (some ⟨b, 0, none⟩), .int .u8 i, .bool on] w fun e w' => e = .returned (.tuple #[]) ∧ Upd b (Pl.setb N i on) w w' := by
  have hc := hA.at_ (show i / 8 < 8 by omega)
  have HA := Lib.hid hA
  clear hA
  cases on
  · go_enter Try.func53, Try.ntmps53
    go_wp2_with fail
    go_region
    go_wp2_with fail
    go_end0
    exact ⟨rfl, upd_set hi HA.out (by rw [Pl.mask_u8 (Nat.mod_lt _ (by decide))]; exact Pl.not_walk N i)⟩
  · go_enter Try.func53, Try.ntmps53
    go_wp2_with fail
    go_region
    go_wp2_with fail
    go_end0
    exact ⟨rfl, upd_set hi HA.out (by rw [Pl.mask_u8 (Nat.mod_lt _ (by decide))]; exact Pl.or_walk N i)⟩

theorem set26 (N i : Nat) (on : Bool) (w : World) (hi : i < 64) :
    Calls Try.prog 26 #[.agg (Pl.arr N), .int .i64 i, .bool on] w fun e w' => e = .returned (.agg (Pl.arr (Pl.setb N i on))) ∧ Grown w w' := by
  unfold Pl.arr
  generalize hM : Pl.setb N i on = M
  have HM := Lib.hid hM
  clear hM
  go_enter Try.func26, Try.ntmps26
  go_wp2_with fail
  refine (set53 _ N i on _ hi ?_ (by go_simp)).mono ?_
  · refine ⟨?_, ?_, ?_, ?_, ?_, ?_, ?_, ?_⟩ <;> go_simp
  rw [HM.out]
  rintro e w1 ⟨rfl, hA, hG, hz, hcell, hfr⟩
  have hB : ArrAt (w.heap.size + 1) 0 w1 := ArrAt.of fun j hj => by
    rw [hcell _ (by simp)]
    rcases Pl.lt8_cases hj with rfl | rfl | rfl | rfl | rfl | rfl | rfl | rfl <;> go_simp <;> simp [Pl.byt]
  have hF : ∀ j, w1.frozen? ⟨w.heap.size + 1, j, none⟩ = false := fun j => by rw [hfr]; go_simp
  have hGr : Grown w w1 := hG w (by omega) ((((Grown.refl _).alloc _ _).alloc _ _).alloc _ _)
  have HG := Lib.hid hGr
  clear hcell hfr hG hz hGr
  obtain ⟨a0, a1, a2, a3, a4, a5, a6, a7⟩ := hA
  obtain ⟨c0, c1, c2, c3, c4, c5, c6, c7⟩ := hB
  have f0 := hF 0
  have f1 := hF 1
  have f2 := hF 2
  have f3 := hF 3
  have f4 := hF 4
  have f5 := hF 5
  have f6 := hF 6
  have f7 := hF 7
  clear hF
  go_wp2_with fail
  exact bodyPost_ret (v := .agg (Pl.arr M)) (by unfold Pl.arr; simp [results, Try.results26, go_sem, *]) rfl ⟨rfl, (((((((HG.out.setCell (by simp) _).setCell (by simp) _).setCell (by simp) _).setCell (by simp) _).setCell (by simp) _).setCell (by simp) _).setCell (by simp) _).setCell (by simp) _⟩

end Go.Proofs.Ytjmlfobljlfngaa
