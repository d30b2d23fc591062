/- Contracts: FromPhysical, impl.FromPhysical -/
import Derived.Test.YtfffcmjpkpdmlaaM4
namespace Go.Proofs.Ytfffcmjpkpdmlaa
open Go.ChangeShapes Go.WideShapes Go.ChangeAt Go.RowKit
set_option linter.unusedVariables false

theorem from19 (l : Nat) (sg : Bool) (f1 f2 f3 f4 x : Nat) (v a b : Int) (hl1 : 1 ≤ l) (hl : l ≤ 62) (hv : milli v) (hh : hasB sg v l = true) (hx : Fl.IsF x (v * a + b)) (h1 : Fl.IsF f1 a) (h2 : Fl.IsF f2 b) (h3 : Fl.IsF f3 0) (h4 : Fl.IsF f4 0)
    (ha0 : a ≠ 0) (hm : (v * a).natAbs < 2 ^ 53) :
    ∃ r, Fl.IsF r (16 * v) ∧ ∀ p w, DesF p l sg f1 f2 f3 f4 w → Calls Try.prog 19 #[.pointer (some ⟨p, 0, none⟩), .float .f64 x] w fun e w' => e = .returned (.float .f64 r) ∧ Grown w w' := by
  obtain ⟨v0, v1⟩ := hv
  obtain ⟨m1, m2⟩ := Fl.opW_sub hx h2 (by rw [show v * a + b - b = v * a by omega]; exact hm)
  rw [show v * a + b - b = v * a by omega] at m2
  generalize Fl.opW .sub x f2 = m at *
  obtain ⟨y1, y2⟩ := Fl.opW_div m2 h1 (c := 16 * v) ha0 (Int.mul_assoc 16 v a).symm (by omega)
  generalize Fl.opW .quo m f1 = y at *
  have R1 := fun W => run_float_arith (P := Try.prog) W .sub 22 .f64 _ _ _ m1
  have R2 := fun W => run_float_arith (P := Try.prog) W .quo 22 .f64 _ _ _ y1
  have q1 := eq0 h3
  have q2 := eq0 h4
  have n1 := ne0 h3
  have n2 := ne0 h4
  simp only [decide_true, Bool.not_true] at q1 q2 n1 n2
  unfold hasB at hh
  cases sg
  · simp only [Bool.false_eq_true, if_false, Bool.and_eq_true, decide_eq_true_eq] at hh
    obtain ⟨hh1, hh2⟩ := hh
    have hM := fun b w hc => max47 b l w hl1 (by omega) hc
    obtain ⟨t1, t2⟩ := Fl.sat_top (l := l) hl y2 (by omega) (by omega)
    generalize ((2 ^ l - 1 : Nat) : Int) = A at *
    have HA := Lib.hid fun W => min23 (floatOfInt .f64 A) y W t1 y2.num
    generalize Fl.pickW true .lt (floatOfInt .f64 A) y = z at *
    have k2 := Fl.isF_max Fl.isF_c0 t2
    rw [show max 0 (16 * v) = 16 * v by omega] at k2
    have HB := Lib.hid fun W => max22 0 z W Fl.isF_c0.num t2.num
    generalize Fl.pickW false .gt 0 z = r at *
    refine ⟨r, k2, fun p w hd => ?_⟩
    have HM := Lib.hid hM
    obtain ⟨c2, c4, c9, c10, c11, c12, hp⟩ := hd
    clear hM hx h1 h2 h3 h4 hm m1 m2 y1 y2 k2 t1 t2 hh1 hh2 ha0 v0 v1
    go_enter Try.func19, Try.ntmps19
    go_wp2_with fail
    refine (HM.out _ _ (by exact c2)).mono ?_
    rintro e w' ⟨rfl, rfl⟩
    go_wp2_with fail
    refine (HA.out _).mono ?_
    rintro e w' ⟨rfl, rfl⟩
    go_wp2_with fail
    refine (HB.out _).mono ?_
    rintro e w' ⟨rfl, rfl⟩
    go_wp2_with fail
    go_ret
    exact ⟨rfl, Grown.refl _⟩
  · simp only [if_true] at hh
    unfold Pl.fitS at hh
    rw [Bool.and_eq_true, decide_eq_true_eq, decide_eq_true_eq] at hh
    obtain ⟨hh1, hh2⟩ := hh
    have hM := fun b w hc => min48 b l w hl1 (by omega) hc
    have hN := fun b w hc => maxs49 b l w hl1 (by omega) hc
    obtain ⟨t1, t2⟩ := Fl.sat_top (l := l - 1) (by omega) y2 (by omega) (by omega)
    generalize ((2 ^ (l - 1) - 1 : Nat) : Int) = A at *
    have HA := Lib.hid fun W => min23 (floatOfInt .f64 A) y W t1 y2.num
    generalize Fl.pickW true .lt (floatOfInt .f64 A) y = z at *
    obtain ⟨s1, s2⟩ := Fl.sat_low (l := l - 1) (by omega) t2 (by omega) (by omega)
    generalize -((2 ^ (l - 1) : Nat) : Int) = B at *
    have HB := Lib.hid fun W => max22 (floatOfInt .f64 B) z W s1 t2.num
    generalize Fl.pickW false .gt (floatOfInt .f64 B) z = r at *
    refine ⟨r, s2, fun p w hd => ?_⟩
    have HM := Lib.hid hM
    have HN := Lib.hid hN
    obtain ⟨c2, c4, c9, c10, c11, c12, hp⟩ := hd
    clear hM hN hx h1 h2 h3 h4 hm m1 m2 y1 y2 s1 s2 t1 t2 hh1 hh2 ha0 v0 v1
    go_enter Try.func19, Try.ntmps19
    go_wp2_with fail
    refine (HM.out _ _ (by exact c2)).mono ?_
    rintro e w' ⟨rfl, rfl⟩
    go_wp2_with fail
    refine (HN.out _ _ (by exact c2)).mono ?_
    rintro e w' ⟨rfl, rfl⟩
    go_wp2_with fail
    refine (HA.out _).mono ?_
    rintro e w' ⟨rfl, rfl⟩
    go_wp2_with fail
    refine (HB.out _).mono ?_
    rintro e w' ⟨rfl, rfl⟩
    go_wp2_with fail
    go_ret
    exact ⟨rfl, Grown.refl _⟩

theorem from11 (s l : Nat) (big sg fl : Bool) (f1 f2 f3 f4 x : Nat) (v a b : Int) (hs : s < 64) (hl1 : 1 ≤ l) (hl : l ≤ 62) (hv : milli v) (hh : hasB sg v l = true) (hx : Fl.IsF x (v * a + b)) (h1 : Fl.IsF f1 a) (h2 : Fl.IsF f2 b) (h3 : Fl.IsF f3 0) (h4 : Fl.IsF f4 0)
    (ha0 : a ≠ 0) (hm : (v * a).natAbs < 2 ^ 53) :
    ∃ r, Fl.IsF r (16 * v) ∧ ∀ w, Calls Try.prog 11 #[.agg (sigCells s l big sg fl f1 f2 f3 f4), .float .f64 x] w fun e w' => e = .returned (.float .f64 r) ∧ Grown w w' := by
  obtain ⟨r, hr, H⟩ := from19 l sg f1 f2 f3 f4 x v a b hl1 hl hv hh hx h1 h2 h3 h4 ha0 hm
  refine ⟨r, hr, fun w => ?_⟩
  have hsig := fun W => sig46 s l big sg fl f1 f2 f3 f4 W hs hl1 (by omega)
  clear hx h1 h2 h3 h4 hm ha0 hr hh hv
  unfold sigCells desCells at *
  have H1 := Lib.hid hsig
  have H2 := Lib.hid H
  clear hsig H
  go_enter Try.func11, Try.ntmps11
  go_wp2_with fail
  refine (H1.out _).mono ?_
  rintro e w' ⟨rfl, rfl⟩
  go_wp2_with fail
  refine (H2.out _ _ ?_).mono ?_
  · refine ⟨?_, ?_, ?_, ?_, ?_, ?_, ?_⟩ <;> first | go_simp | simp
  rintro e w1 ⟨rfl, hg⟩
  have HG := Lib.hid hg
  clear hg
  go_wp2_with fail
  go_ret
  exact ⟨rfl, grown_trans ((((Grown.refl _).alloc _ _).alloc _ _).alloc _ _) HG.out⟩

end Go.Proofs.Ytfffcmjpkpdmlaa
