/- Contracts: spec.Physical, ToPhysical, impl.Physical -/
import Derived.Test.YtfffcmjpkpdmlaaM2
namespace Go.Proofs.Ytfffcmjpkpdmlaa
open Go.ChangeShapes Go.WideShapes Go.ChangeAt Go.RowKit
set_option linter.unusedVariables false

/-- between both ends where one isn't nought -/
def clampZ (y lo hi : Int) : Int := if lo = 0 ∧ hi = 0 then y else max (min y hi) lo

theorem cmp0 (a : Int) : (some (compare a 0) == some Ordering.eq) = decide (a = 0) := by
  rcases Int.lt_trichotomy a 0 with h | h | h
  · rw [Int.compare_eq_lt.2 h, decide_eq_false (by omega)]; rfl
  · rw [Int.compare_eq_eq.2 h, decide_eq_true h]; rfl
  · rw [Int.compare_eq_gt.2 h, decide_eq_false (by omega)]; rfl
theorem eq0 {x : Nat} {a : Int} (h : Fl.IsF x a) : (FloatKind.f64.format.order x 0 == some .eq) = decide (a = 0) := by rw [Fl.isF_order h Fl.isF_c0, cmp0]
theorem ne0 {x : Nat} {a : Int} (h : Fl.IsF x a) : (FloatKind.f64.format.order x 0 != some .eq) = !decide (a = 0) := by rw [← eq0 h]; rfl

/-- the package's struct of a signal, at a place -/
def DesF (p l : Nat) (sg : Bool) (f1 f2 f3 f4 : Nat) (w : World) : Prop :=
  w.cell? ⟨p, 2, none⟩ = some (.int .u8 l) ∧ w.cell? ⟨p, 4, none⟩ = some (.bool sg) ∧ w.cell? ⟨p, 9, none⟩ = some (.float .f64 f2) ∧ w.cell? ⟨p, 10, none⟩ = some (.float .f64 f1) ∧
  w.cell? ⟨p, 11, none⟩ = some (.float .f64 f3) ∧ w.cell? ⟨p, 12, none⟩ = some (.float .f64 f4) ∧ p < w.heap.size
theorem DesF.grown {p l : Nat} {sg : Bool} {f1 f2 f3 f4 : Nat} {w w1 : World} (h : DesF p l sg f1 f2 f3 f4 w) (hg : Grown w w1) : DesF p l sg f1 f2 f3 f4 w1 := by
  obtain ⟨h0, h1, h2, h3, h4, h5, hp⟩ := h
  exact ⟨(grown_cell hg hp).trans h0, (grown_cell hg hp).trans h1, (grown_cell hg hp).trans h2, (grown_cell hg hp).trans h3, (grown_cell hg hp).trans h4, (grown_cell hg hp).trans h5, Nat.lt_of_lt_of_le hp hg.2.2⟩

theorem phys9 (s l : Int) (big sg fl : Bool) (f1 f2 f3 f4 x : Nat) (v a b lo hi : Int) (hx : Fl.IsF x (16 * v)) (h1 : Fl.IsF f1 a) (h2 : Fl.IsF f2 b) (h3 : Fl.IsF f3 lo) (h4 : Fl.IsF f4 hi)
    (hm : (v * a).natAbs < 2 ^ 53) (ha : (v * a + b).natAbs < 2 ^ 53) :
    ∃ r, Fl.IsF r (clampZ (v * a + b) lo hi) ∧ ∀ w, Calls Try.prog 9 #[.agg (sigCells s l big sg fl f1 f2 f3 f4), .float .f64 x] w fun e w' => e = .returned (.float .f64 r) ∧ Grown w w' := by
  obtain ⟨m1, m2⟩ := Fl.opW_mul hx h1 (k := v * a) rfl hm
  generalize Fl.opW .mul x f1 = m at *
  obtain ⟨y1, y2⟩ := Fl.opW_add m2 h2 ha
  generalize Fl.opW .add m f2 = y at *
  have R1 := fun W => run_float_arith (P := Try.prog) W .mul 22 .f64 _ _ _ m1
  have R2 := fun W => run_float_arith (P := Try.prog) W .add 22 .f64 _ _ _ y1
  have H := Lib.hid fun W => clamp16 y f3 f4 _ lo hi W y2 h3 h4
  have K : Fl.IsF (if lo = 0 ∧ hi = 0 then y else Fl.maxW (Fl.minW y f4) f3) (clampZ (v * a + b) lo hi) := by
    unfold clampZ
    by_cases h : lo = 0 ∧ hi = 0
    · rw [if_pos h, if_pos h]; exact y2
    · rw [if_neg h, if_neg h]; exact Fl.isF_maxW (Fl.isF_minW y2 h4) h3
  generalize (if lo = 0 ∧ hi = 0 then y else Fl.maxW (Fl.minW y f4) f3) = r at *
  refine ⟨r, K, fun w => ?_⟩
  clear hx h1 h2 h3 h4 hm ha m1 m2 y1 y2 K
  unfold sigCells
  go_enter Try.func9, Try.ntmps9
  go_wp2_with fail
  refine (H.out _).mono ?_
  rintro e w' ⟨rfl, rfl⟩
  go_wp2_with fail
  go_ret
  exact ⟨rfl, (Grown.refl _).alloc _ _⟩

theorem to15 (l : Nat) (sg : Bool) (f1 f2 f3 f4 x : Nat) (v a b lo hi : Int) (hx : Fl.IsF x (16 * v)) (h1 : Fl.IsF f1 a) (h2 : Fl.IsF f2 b) (h3 : Fl.IsF f3 lo) (h4 : Fl.IsF f4 hi)
    (hm : (v * a).natAbs < 2 ^ 53) (ha : (v * a + b).natAbs < 2 ^ 53) :
    ∃ r, Fl.IsF r (clampZ (v * a + b) lo hi) ∧ ∀ p w, DesF p l sg f1 f2 f3 f4 w → Calls Try.prog 15 #[.pointer (some ⟨p, 0, none⟩), .float .f64 x] w fun e w' => e = .returned (.float .f64 r) ∧ Grown w w' := by
  obtain ⟨m1, m2⟩ := Fl.opW_mul hx h1 (k := v * a) rfl hm
  generalize Fl.opW .mul x f1 = m at *
  obtain ⟨y1, y2⟩ := Fl.opW_add m2 h2 ha
  generalize Fl.opW .add m f2 = y at *
  have R1 := fun W => run_float_arith (P := Try.prog) W .mul 22 .f64 _ _ _ m1
  have R2 := fun W => run_float_arith (P := Try.prog) W .add 22 .f64 _ _ _ y1
  have q1 := eq0 h3
  have q2 := eq0 h4
  have n1 := ne0 h3
  have n2 := ne0 h4
  by_cases hz : lo = 0 ∧ hi = 0
  · rw [decide_eq_true hz.1] at q1 n1
    rw [decide_eq_true hz.2] at q2 n2
    rw [Bool.not_true] at n1 n2
    refine ⟨y, by unfold clampZ; rw [if_pos hz]; exact y2, fun p w hd => ?_⟩
    obtain ⟨c2, c4, c9, c10, c11, c12, hp⟩ := hd
    clear hx h1 h2 h3 h4 hm ha m1 m2 y1 y2 hz
    go_enter Try.func15, Try.ntmps15
    go_wp2_with fail
    go_ret
    exact ⟨rfl, Grown.refl _⟩
  · have k1 := Fl.isF_min y2 h4
    have HA := Lib.hid fun W => min23 y f4 W y2.num h4.num
    generalize Fl.pickW true .lt y f4 = z at *
    have k2 := Fl.isF_max k1 h3
    have HB := Lib.hid fun W => max22 z f3 W k1.num h3.num
    generalize Fl.pickW false .gt z f3 = r at *
    refine ⟨r, by unfold clampZ; rw [if_neg hz]; exact k2, fun p w hd => ?_⟩
    have HS := Lib.hid (fun w1 (h : Grown w w1) => hd.grown h)
    obtain ⟨c2, c4, c9, c10, c11, c12, hp⟩ := hd
    have hc : (lo ≠ 0) ∨ (lo = 0 ∧ hi ≠ 0) := by omega
    clear hx h1 h2 h3 h4 hm ha m1 m2 y1 y2 hz k1 k2
    rcases hc with hc | ⟨hc, hd⟩
    · rw [decide_eq_false hc] at q1 n1
      rw [Bool.not_false] at n1
      clear q2 n2 hc
      go_enter Try.func15, Try.ntmps15
      go_wp2_with fail
      go_region_held3 (fun w' => Grown w w' ∧ w'.cell? ⟨p, 2, none⟩ = some (.int .u8 l) ∧ w'.cell? ⟨p, 4, none⟩ = some (.bool sg) ∧ w'.cell? ⟨p, 9, none⟩ = some (.float .f64 f2) ∧ w'.cell? ⟨p, 10, none⟩ = some (.float .f64 f1) ∧ w'.cell? ⟨p, 11, none⟩ = some (.float .f64 f3) ∧ w'.cell? ⟨p, 12, none⟩ = some (.float .f64 f4) ∧ p < w'.heap.size)
        (first | exact ⟨(Grown.refl _).drew, HS.out _ (Grown.refl _).drew⟩ | assumption | exact keepS HS (by assumption) (And.left (by assumption)))
        (first
          | (go_at_call 23; refine (HA.out _).mono ?_; rintro e w1 ⟨rfl, rfl⟩)
          | (go_at_call 22; refine (HB.out _).mono ?_; rintro e w1 ⟨rfl, rfl⟩))
      go_wp2_with fail
      go_ret
      exact ⟨rfl, And.left (by assumption)⟩
    · rw [decide_eq_true hc] at q1 n1
      rw [decide_eq_false hd] at q2 n2
      rw [Bool.not_true] at n1
      rw [Bool.not_false] at n2
      clear hc hd
      go_enter Try.func15, Try.ntmps15
      go_wp2_with fail
      go_region_held3 (fun w' => Grown w w' ∧ w'.cell? ⟨p, 2, none⟩ = some (.int .u8 l) ∧ w'.cell? ⟨p, 4, none⟩ = some (.bool sg) ∧ w'.cell? ⟨p, 9, none⟩ = some (.float .f64 f2) ∧ w'.cell? ⟨p, 10, none⟩ = some (.float .f64 f1) ∧ w'.cell? ⟨p, 11, none⟩ = some (.float .f64 f3) ∧ w'.cell? ⟨p, 12, none⟩ = some (.float .f64 f4) ∧ p < w'.heap.size)
        (first | exact ⟨(Grown.refl _).drew, HS.out _ (Grown.refl _).drew⟩ | assumption | exact keepS HS (by assumption) (And.left (by assumption)))
        (first
          | (go_at_call 23; refine (HA.out _).mono ?_; rintro e w1 ⟨rfl, rfl⟩)
          | (go_at_call 22; refine (HB.out _).mono ?_; rintro e w1 ⟨rfl, rfl⟩))
      go_wp2_with fail
      go_ret
      exact ⟨rfl, And.left (by assumption)⟩

theorem impl8 (s l : Nat) (big sg fl : Bool) (f1 f2 f3 f4 x : Nat) (v a b lo hi : Int) (hs : s < 64) (hl1 : 1 ≤ l) (hl : l ≤ 64) (hx : Fl.IsF x (16 * v)) (h1 : Fl.IsF f1 a) (h2 : Fl.IsF f2 b) (h3 : Fl.IsF f3 lo) (h4 : Fl.IsF f4 hi)
    (hm : (v * a).natAbs < 2 ^ 53) (ha : (v * a + b).natAbs < 2 ^ 53) :
    ∃ r, Fl.IsF r (clampZ (v * a + b) lo hi) ∧ ∀ w, Calls Try.prog 8 #[.agg (sigCells s l big sg fl f1 f2 f3 f4), .float .f64 x] w fun e w' => e = .returned (.float .f64 r) ∧ Grown w w' := by
  obtain ⟨r, hr, H⟩ := to15 l sg f1 f2 f3 f4 x v a b lo hi hx h1 h2 h3 h4 hm ha
  refine ⟨r, hr, fun w => ?_⟩
  have hsig := fun W => sig46 s l big sg fl f1 f2 f3 f4 W hs hl1 hl
  clear hx h1 h2 h3 h4 hm ha hr
  unfold sigCells desCells at *
  have H1 := Lib.hid hsig
  have H2 := Lib.hid H
  clear hsig H
  go_enter Try.func8, Try.ntmps8
  go_wp2_with fail
  refine (H1.out _).mono ?_
  rintro e w' ⟨rfl, rfl⟩
  go_wp2_with fail
  refine (H2.out _ _ ?_).mono ?_
  · refine ⟨?_, ?_, ?_, ?_, ?_, ?_, ?_⟩ <;> first | go_simp | simp
  rintro e w1 ⟨rfl, hg⟩
  have HG := Lib.hid hg
  clear hg
  go_wp2_with fail
  go_ret
  exact ⟨rfl, grown_trans ((((Grown.refl _).alloc _ _).alloc _ _).alloc _ _) HG.out⟩

end Go.Proofs.Ytfffcmjpkpdmlaa
