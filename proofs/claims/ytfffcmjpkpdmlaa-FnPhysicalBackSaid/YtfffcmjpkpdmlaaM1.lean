/- Words of floats as functions; least and greatest; contracts: Whole, math.Max, math.Min -/
import Derived.Test.YtfffcmjpkpdmlaaBase
import Derived.Test.YtfffcmjpkpdmlaaFloat
namespace Go.Proofs.Ytfffcmjpkpdmlaa
open Go.ChangeShapes Go.WideShapes Go.ChangeAt Go.RowKit
set_option linter.unusedVariables false

namespace Fl
open Ieee
/-- the word that an operation gives -/
def opW (op : BinOp) (x y : Nat) : Nat := (floatBits op .f64 x y).getD 0
theorem opW_eq {op : BinOp} {x y r : Nat} (h : floatBits op .f64 x y = some r) : opW op x y = r := by unfold opW; rw [h]; rfl

theorem opW_add {x y : Nat} {a b : Int} (hx : IsF x a) (hy : IsF y b) (hk : (a + b).natAbs < 2 ^ 53) : floatBits .add .f64 x y = some (opW .add x y) ∧ IsF (opW .add x y) (a + b) := by
  obtain ⟨r, h, k⟩ := isF_add hx hy hk
  rw [opW_eq h]; exact ⟨h, k⟩
theorem opW_sub {x y : Nat} {a b : Int} (hx : IsF x a) (hy : IsF y b) (hk : (a - b).natAbs < 2 ^ 53) : floatBits .sub .f64 x y = some (opW .sub x y) ∧ IsF (opW .sub x y) (a - b) := by
  obtain ⟨r, h, k⟩ := isF_sub hx hy hk
  rw [opW_eq h]; exact ⟨h, k⟩
theorem opW_mul {x y : Nat} {a b k : Int} (hx : IsF x (16 * a)) (hy : IsF y b) (hab : k = a * b) (hk : k.natAbs < 2 ^ 53) : floatBits .mul .f64 x y = some (opW .mul x y) ∧ IsF (opW .mul x y) k := by
  obtain ⟨r, h, k⟩ := isF_mul hx hy hab hk
  rw [opW_eq h]; exact ⟨h, k⟩
theorem opW_div {x y : Nat} {a b c : Int} (hx : IsF x a) (hy : IsF y b) (hb : b ≠ 0) (hc : 16 * a = c * b) (hk : c.natAbs < 2 ^ 53) : floatBits .quo .f64 x y = some (opW .quo x y) ∧ IsF (opW .quo x y) c := by
  obtain ⟨r, h, k⟩ := isF_div hx hy hb hc hk
  rw [opW_eq h]; exact ⟨h, k⟩

/-- so many sixteenths as the program makes them -/
def whole (a : Int) : Nat := opW .quo (floatOfInt .f64 a) 4625196817309499392
theorem whole_eq {a : Int} (h : a.natAbs < 2 ^ 49) : floatBits .quo .f64 (floatOfInt .f64 a) 4625196817309499392 = some (whole a) ∧ IsF (whole a) a :=
  opW_div (isF_ofInt h) isF_c16 (by decide) (by omega) (by omega)

theorem isD_zero {d : Datum} {k : Int} (h : IsD d k) : d.isZero = decide (k = 0) := by
  obtain ⟨s, m, i, rfl, hi, hm, hn, hp, hr⟩ := h
  by_cases hk : k = 0
  · subst hk
    have : m = 0 := by rw [hm]; simp
    subst this; rfl
  · have := hr hk
    obtain ⟨j, rfl⟩ : ∃ j, m = j + 1 := ⟨m - 1, by omega⟩
    rw [decide_eq_false hk]; rfl

/-- what math's least and greatest give -/
def pickW (neg : Bool) (win : Ordering) (x y : Nat) : Nat :=
  if (double.read x).isZero && (double.read y).isZero then (if (double.read x).neg == neg then x else y)
  else if (double.read x).order (double.read y) == some win then x else y

def IsNum (x : Nat) : Prop := ∃ s m i, double.read x = .number s m i
theorem IsF.num {x : Nat} {k : Int} (h : IsF x k) : IsNum x := by obtain ⟨s, m, i, h, _⟩ := h; exact ⟨s, m, i, h⟩

theorem pick_run {P : Program} {name : String} {neg : Bool} {win : Ordering} {x y : Nat} (hx : IsNum x) (hy : IsNum y) (w : World) :
    (Extern.MathDim.pick name neg win #[.float .f64 x, .float .f64 y]).run P w = .ok (.float .f64 (pickW neg win x y)) w := by
  obtain ⟨s, m, i, hX⟩ := hx
  obtain ⟨t, n, j, hY⟩ := hy
  have hX' : FloatKind.f64.decode x = .number s m i := hX
  have hY' : FloatKind.f64.decode y = .number t n j := hY
  have e1 : (Datum.number s m i == .infinity neg) = false := rfl
  have e2 : (Datum.number t n j == .infinity neg) = false := rfl
  change Sem.run P (pure (Value.float .f64 (
    if FloatKind.f64.decode x == .infinity neg || FloatKind.f64.decode y == .infinity neg then FloatKind.f64.encode (.infinity neg)
    else if (FloatKind.f64.decode x).isNaN || (FloatKind.f64.decode y).isNaN then 0x7FF8000000000001
    else if (FloatKind.f64.decode x).isZero && (FloatKind.f64.decode y).isZero then (if (FloatKind.f64.decode x).neg == neg then x else y)
    else if (FloatKind.f64.decode x).order (FloatKind.f64.decode y) == some win then x else y))) w = _
  unfold pickW
  simp only [hX', hY', hX, hY, e1, e2, Datum.isNaN, Bool.or_self, Bool.false_eq_true, if_false, Sem.run_pure]

theorem isF_max {x y : Nat} {a b : Int} (hx : IsF x a) (hy : IsF y b) : IsF (pickW false .gt x y) (max a b) := by
  unfold pickW
  rw [isD_zero hx, isD_zero hy, isD_order hx hy]
  by_cases h0 : a = 0 ∧ b = 0
  · obtain ⟨rfl, rfl⟩ := h0
    simp only [decide_true, Bool.and_self, if_true]
    split
    · exact hx
    · exact hy
  · rw [if_neg (by simp; omega)]
    rcases Int.lt_trichotomy a b with h | h | h
    · rw [Int.compare_eq_lt.2 h, if_neg (by decide), show max a b = b by omega]; exact hy
    · rw [Int.compare_eq_eq.2 h, if_neg (by decide), show max a b = b by omega]; exact hy
    · rw [Int.compare_eq_gt.2 h, if_pos (by decide), show max a b = a by omega]; exact hx
theorem isF_min {x y : Nat} {a b : Int} (hx : IsF x a) (hy : IsF y b) : IsF (pickW true .lt x y) (min a b) := by
  unfold pickW
  rw [isD_zero hx, isD_zero hy, isD_order hx hy]
  by_cases h0 : a = 0 ∧ b = 0
  · obtain ⟨rfl, rfl⟩ := h0
    simp only [decide_true, Bool.and_self, if_true]
    split
    · exact hx
    · exact hy
  · rw [if_neg (by simp; omega)]
    rcases Int.lt_trichotomy a b with h | h | h
    · rw [Int.compare_eq_lt.2 h, if_pos (by decide), show min a b = a by omega]; exact hx
    · rw [Int.compare_eq_eq.2 h, if_neg (by decide), show min a b = b by omega]; exact hy
    · rw [Int.compare_eq_gt.2 h, if_neg (by decide), show min a b = b by omega]; exact hy

/-- a word that stands for a number of 2^49 and more -/
def Big (s : Bool) (x : Nat) : Prop := ∃ m i, double.read x = .number s m i ∧ -3 ≤ i ∧ 2 ^ 52 ≤ m
theorem Big.num {s : Bool} {x : Nat} (h : Big s x) : IsNum x := by obtain ⟨m, i, h, _⟩ := h; exact ⟨s, m, i, h⟩
theorem big_order {s : Bool} {x y : Nat} {b : Int} (hx : Big s x) (hy : IsF y b) (hb : b.natAbs < 2 ^ 53) : (double.read x).order (double.read y) = some (if s then .lt else .gt) ∧ (double.read x).isZero = false := by
  obtain ⟨m, i, hX, hi, hm⟩ := hx
  obtain ⟨t, n, j, hY, hj, hm', hn', hp', _⟩ := hy
  rw [hX, hY]
  constructor
  · show some (compare (signed s m (i - min i j).toNat) (signed t n (j - min i j).toNat)) = _
    rw [signed_val (u := (j - min i j).toNat) (c := (-4 - min i j).toNat) hm' (by omega) hn' hp']
    have e : (i - min i j).toNat = (-4 - min i j).toNat + 1 + (i - -3).toNat := by omega
    have hp := Nat.two_pow_pos (-4 - min i j).toNat
    have hq := Nat.two_pow_pos (i - -3).toNat
    have h1 : 2 ^ 53 * 2 ^ (-4 - min i j).toNat ≤ m <<< (i - min i j).toNat := by
      rw [Nat.shiftLeft_eq, e, Nat.pow_add, Nat.pow_add, Nat.pow_one]
      have : 2 ^ 52 * (2 ^ (-4 - min i j).toNat * 2) ≤ m * (2 ^ (-4 - min i j).toNat * 2) := Nat.mul_le_mul_right _ hm
      have h2 : m * (2 ^ (-4 - min i j).toNat * 2) ≤ m * (2 ^ (-4 - min i j).toNat * 2 * 2 ^ (i - -3).toNat) := Nat.mul_le_mul_left _ (Nat.le_mul_of_pos_right _ hq)
      omega
    have h3 : b.natAbs * 2 ^ (-4 - min i j).toNat < 2 ^ 53 * 2 ^ (-4 - min i j).toNat := Nat.mul_lt_mul_of_pos_right hb hp
    have h4 : (b * ((2 ^ (-4 - min i j).toNat : Nat) : Int)).natAbs = b.natAbs * 2 ^ (-4 - min i j).toNat := by rw [Int.natAbs_mul, Int.natAbs_natCast]
    congr 1
    unfold signed
    cases s
    · rw [if_neg (by decide), if_neg (by decide)]
      exact Int.compare_eq_gt.2 (by omega)
    · rw [if_pos rfl, if_pos rfl]
      exact Int.compare_eq_lt.2 (by omega)
  · obtain ⟨k, rfl⟩ : ∃ k, m = k + 1 := ⟨m - 1, by omega⟩
    rfl
theorem big_max {x y : Nat} {b : Int} (hx : Big false x) (hy : IsF y b) (hb : b.natAbs < 2 ^ 53) : pickW true .lt x y = y := by
  obtain ⟨h1, h2⟩ := big_order hx hy hb
  unfold pickW
  rw [h1, h2]; rfl
theorem big_min {x y : Nat} {b : Int} (hx : Big true x) (hy : IsF y b) (hb : b.natAbs < 2 ^ 53) : pickW false .gt x y = y := by
  obtain ⟨h1, h2⟩ := big_order hx hy hb
  unfold pickW
  rw [h1, h2]; rfl

theorem big_of_read {x : Nat} {s : Bool} {m : Nat} {i : Int} (h : double.read x = .number s m i) (hi : -3 ≤ i) (hm : 2 ^ 52 ≤ m) : Big s x := ⟨m, i, h, hi, hm⟩
/-- a greatest number, as a float -/
theorem lim_top {l : Nat} (hl : l ≤ 62) : IsF (floatOfInt .f64 ((2 ^ l - 1 : Nat) : Int)) (16 * ((2 ^ l - 1 : Nat) : Int)) ∨ Big false (floatOfInt .f64 ((2 ^ l - 1 : Nat) : Int)) := by
  by_cases h : l ≤ 49
  · refine .inl (isF_ofInt ?_)
    have := pow_le h
    have := Nat.two_pow_pos l
    omega
  · refine .inr ?_
    have : l = 50 ∨ l = 51 ∨ l = 52 ∨ l = 53 ∨ l = 54 ∨ l = 55 ∨ l = 56 ∨ l = 57 ∨ l = 58 ∨ l = 59 ∨ l = 60 ∨ l = 61 ∨ l = 62 := by omega
    rcases this with rfl | rfl | rfl | rfl | rfl | rfl | rfl | rfl | rfl | rfl | rfl | rfl | rfl
    · exact big_of_read (m := 2 ^ 53 - 8) (i := -3) (by decide) (by decide) (by decide)
    · exact big_of_read (m := 2 ^ 53 - 4) (i := -2) (by decide) (by decide) (by decide)
    · exact big_of_read (m := 2 ^ 53 - 2) (i := -1) (by decide) (by decide) (by decide)
    · exact big_of_read (m := 2 ^ 53 - 1) (i := 0) (by decide) (by decide) (by decide)
    · exact big_of_read (m := 2 ^ 52) (i := 2) (by decide) (by decide) (by decide)
    · exact big_of_read (m := 2 ^ 52) (i := 3) (by decide) (by decide) (by decide)
    · exact big_of_read (m := 2 ^ 52) (i := 4) (by decide) (by decide) (by decide)
    · exact big_of_read (m := 2 ^ 52) (i := 5) (by decide) (by decide) (by decide)
    · exact big_of_read (m := 2 ^ 52) (i := 6) (by decide) (by decide) (by decide)
    · exact big_of_read (m := 2 ^ 52) (i := 7) (by decide) (by decide) (by decide)
    · exact big_of_read (m := 2 ^ 52) (i := 8) (by decide) (by decide) (by decide)
    · exact big_of_read (m := 2 ^ 52) (i := 9) (by decide) (by decide) (by decide)
    · exact big_of_read (m := 2 ^ 52) (i := 10) (by decide) (by decide) (by decide)
/-- a least number, as a float -/
theorem lim_low {l : Nat} (hl : l ≤ 61) : IsF (floatOfInt .f64 (-((2 ^ l : Nat) : Int))) (16 * (-((2 ^ l : Nat) : Int))) ∨ Big true (floatOfInt .f64 (-((2 ^ l : Nat) : Int))) := by
  by_cases h : l ≤ 48
  · refine .inl (isF_ofInt ?_)
    have := pow_le h
    have := Nat.two_pow_pos l
    omega
  · refine .inr ?_
    have : l = 49 ∨ l = 50 ∨ l = 51 ∨ l = 52 ∨ l = 53 ∨ l = 54 ∨ l = 55 ∨ l = 56 ∨ l = 57 ∨ l = 58 ∨ l = 59 ∨ l = 60 ∨ l = 61 := by omega
    rcases this with rfl | rfl | rfl | rfl | rfl | rfl | rfl | rfl | rfl | rfl | rfl | rfl | rfl
    · exact big_of_read (m := 2 ^ 52) (i := -3) (by decide) (by decide) (by decide)
    · exact big_of_read (m := 2 ^ 52) (i := -2) (by decide) (by decide) (by decide)
    · exact big_of_read (m := 2 ^ 52) (i := -1) (by decide) (by decide) (by decide)
    · exact big_of_read (m := 2 ^ 52) (i := 0) (by decide) (by decide) (by decide)
    · exact big_of_read (m := 2 ^ 52) (i := 1) (by decide) (by decide) (by decide)
    · exact big_of_read (m := 2 ^ 52) (i := 2) (by decide) (by decide) (by decide)
    · exact big_of_read (m := 2 ^ 52) (i := 3) (by decide) (by decide) (by decide)
    · exact big_of_read (m := 2 ^ 52) (i := 4) (by decide) (by decide) (by decide)
    · exact big_of_read (m := 2 ^ 52) (i := 5) (by decide) (by decide) (by decide)
    · exact big_of_read (m := 2 ^ 52) (i := 6) (by decide) (by decide) (by decide)
    · exact big_of_read (m := 2 ^ 52) (i := 7) (by decide) (by decide) (by decide)
    · exact big_of_read (m := 2 ^ 52) (i := 8) (by decide) (by decide) (by decide)
    · exact big_of_read (m := 2 ^ 52) (i := 9) (by decide) (by decide) (by decide)

/-- between its limits a number stays -/
theorem sat_top {l : Nat} {x : Nat} {k : Int} (hl : l ≤ 62) (hx : IsF x k) (hk : k.natAbs < 2 ^ 53) (h : k ≤ 16 * ((2 ^ l - 1 : Nat) : Int)) :
    IsNum (floatOfInt .f64 ((2 ^ l - 1 : Nat) : Int)) ∧ IsF (pickW true .lt (floatOfInt .f64 ((2 ^ l - 1 : Nat) : Int)) x) k := by
  rcases lim_top hl with h1 | h1
  · refine ⟨h1.num, ?_⟩
    have := isF_min h1 hx
    rwa [show min (16 * ((2 ^ l - 1 : Nat) : Int)) k = k by omega] at this
  · refine ⟨h1.num, ?_⟩
    rw [big_max h1 hx hk]; exact hx
theorem sat_low {l : Nat} {x : Nat} {k : Int} (hl : l ≤ 61) (hx : IsF x k) (hk : k.natAbs < 2 ^ 53) (h : 16 * (-((2 ^ l : Nat) : Int)) ≤ k) :
    IsNum (floatOfInt .f64 (-((2 ^ l : Nat) : Int))) ∧ IsF (pickW false .gt (floatOfInt .f64 (-((2 ^ l : Nat) : Int))) x) k := by
  rcases lim_low hl with h1 | h1
  · refine ⟨h1.num, ?_⟩
    have := isF_max h1 hx
    rwa [show max (16 * (-((2 ^ l : Nat) : Int))) k = k by omega] at this
  · refine ⟨h1.num, ?_⟩
    rw [big_min h1 hx hk]; exact hx

/-- what Go's own min and max give -/
def minW (x y : Nat) : Nat := match (double.read x).order (double.read y) with | some .lt => x | some .gt => y | _ => if (double.read x).neg then x else y
def maxW (x y : Nat) : Nat := match (double.read x).order (double.read y) with | some .lt => y | some .gt => x | _ => if (double.read x).neg then y else x
theorem isF_minW {x y : Nat} {a b : Int} (hx : IsF x a) (hy : IsF y b) : IsF (minW x y) (min a b) := by
  unfold minW
  rw [isD_order hx hy]
  rcases Int.lt_trichotomy a b with h | h | h
  · rw [Int.compare_eq_lt.2 h, show min a b = a by omega]; exact hx
  · rw [Int.compare_eq_eq.2 h]
    subst h
    rw [show min a a = a by omega]
    dsimp only
    split
    · exact hx
    · exact hy
  · rw [Int.compare_eq_gt.2 h, show min a b = b by omega]; exact hy
theorem isF_maxW {x y : Nat} {a b : Int} (hx : IsF x a) (hy : IsF y b) : IsF (maxW x y) (max a b) := by
  unfold maxW
  rw [isD_order hx hy]
  rcases Int.lt_trichotomy a b with h | h | h
  · rw [Int.compare_eq_lt.2 h, show max a b = b by omega]; exact hy
  · rw [Int.compare_eq_eq.2 h]
    subst h
    rw [show max a a = a by omega]
    dsimp only
    split
    · exact hy
    · exact hx
  · rw [Int.compare_eq_gt.2 h, show max a b = a by omega]; exact hx
theorem run_minW {P : Program} {x y : Nat} {a b : Int} (hx : IsF x a) (hy : IsF y b) (ts : Array TypeId) (t : TypeId) (w : World) :
    (Builtin.min_ ts t #[.float .f64 x, .float .f64 y]).run P w = .ok (.float .f64 (minW x y)) w := by
  have ho : FloatKind.f64.format.order x y = some (compare a b) := isD_order hx hy
  have ho' : (double.read x).order (double.read y) = some (compare a b) := isD_order hx hy
  unfold minW
  rw [ho']
  simp only [Builtin.min_, List.foldlM, Builtin.min2, ho]
  generalize compare a b = c
  cases c <;> rfl
theorem run_maxW {P : Program} {x y : Nat} {a b : Int} (hx : IsF x a) (hy : IsF y b) (ts : Array TypeId) (t : TypeId) (w : World) :
    (Builtin.max_ ts t #[.float .f64 x, .float .f64 y]).run P w = .ok (.float .f64 (maxW x y)) w := by
  have ho : FloatKind.f64.format.order x y = some (compare a b) := isD_order hx hy
  have ho' : (double.read x).order (double.read y) = some (compare a b) := isD_order hx hy
  unfold maxW
  rw [ho']
  simp only [Builtin.max_, List.foldlM, Builtin.max2, ho]
  generalize compare a b = c
  cases c <;> rfl
end Fl

theorem run27 {x y : Nat} (hx : Fl.IsNum x) (hy : Fl.IsNum y) (w : World) : (callFunc 27 #[.float .f64 x, .float .f64 y]).run Try.prog w = .ok (.value (.float .f64 (Fl.pickW false .gt x y))) w := by
  rw [run_callFunc_extern Try.func27 (by kernel_rfl) (by kernel_rfl) (by kernel_rfl) (show Extern.find Try.f27 = some (Extern.MathDim.pick "math.archMax" false .gt) by kernel_rfl), Fl.pick_run hx hy]
  rfl
theorem run29 {x y : Nat} (hx : Fl.IsNum x) (hy : Fl.IsNum y) (w : World) : (callFunc 29 #[.float .f64 x, .float .f64 y]).run Try.prog w = .ok (.value (.float .f64 (Fl.pickW true .lt x y))) w := by
  rw [run_callFunc_extern Try.func29 (by kernel_rfl) (by kernel_rfl) (by kernel_rfl) (show Extern.find Try.f29 = some (Extern.MathDim.pick "math.archMin" true .lt) by kernel_rfl), Fl.pick_run hx hy]
  rfl

theorem max22 (x y : Nat) (w : World) (hx : Fl.IsNum x) (hy : Fl.IsNum y) :
    Calls Try.prog 22 #[.float .f64 x, .float .f64 y] w fun e w' => e = .returned (.float .f64 (Fl.pickW false .gt x y)) ∧ w = w' := by
  have h := fun W => run27 hx hy W
  clear hx hy
  generalize Fl.pickW false .gt x y = r at *
  go_enter Try.func22, Try.ntmps22
  go_wp2
  go_ret
  exact ⟨rfl, rfl⟩
theorem min23 (x y : Nat) (w : World) (hx : Fl.IsNum x) (hy : Fl.IsNum y) :
    Calls Try.prog 23 #[.float .f64 x, .float .f64 y] w fun e w' => e = .returned (.float .f64 (Fl.pickW true .lt x y)) ∧ w = w' := by
  have h := fun W => run29 hx hy W
  clear hx hy
  generalize Fl.pickW true .lt x y = r at *
  go_enter Try.func23, Try.ntmps23
  go_wp2
  go_ret
  exact ⟨rfl, rfl⟩

theorem whole13 (a : Int) (w : World) (h : a.natAbs < 2 ^ 49) :
    Calls Try.prog 13 #[.int .i64 a] w fun e w' => e = .returned (.float .f64 (Fl.whole a)) ∧ w = w' := by
  have hq := fun W => run_float_arith (P := Try.prog) W .quo 22 .f64 _ _ _ (Fl.whole_eq h).1
  clear h
  generalize Fl.whole a = r at *
  go_enter Try.func13, Try.ntmps13
  go_wp2
  go_ret
  exact ⟨rfl, rfl⟩

end Go.Proofs.Ytfffcmjpkpdmlaa
