/- Plain arithmetic of floats: which words stand for whole numbers of sixteenths; sums, products, quotients of these are exact. No program in sight. -/
import Derived.Test.YtfffcmjpkpdmlaaRows
import Derived.Laws.FloatArith
namespace Go.Proofs.Ytfffcmjpkpdmlaa.Fl
open Ieee
set_option linter.unusedVariables false

theorem c_sign : double.signWeight = 9223372036854775808 := by decide
theorem c_bin : double.binade = 4503599627370496 := by decide
theorem c_inf : double.infRung = 9218868437227405312 := by decide
theorem c_least : double.leastPlace = -1074 := by decide
theorem c_frac : double.fractionBits = 52 := rfl

theorem read_word (neg : Bool) {q f : Nat} (hq : q ≤ 2000) (hf : f < 4503599627370496) :
    double.read (double.word neg (q * 4503599627370496 + (4503599627370496 + f))) = .number neg (4503599627370496 + f) ((q : Int) - 1074) := by
  unfold Format.read Format.word
  rw [c_sign, c_bin, c_inf, c_least]
  cases neg
  · simp only [Bool.false_eq_true, if_false]
    rw [show (q * 4503599627370496 + (4503599627370496 + f)) / 9223372036854775808 = 0 by omega, show (q * 4503599627370496 + (4503599627370496 + f)) % 9223372036854775808 = q * 4503599627370496 + (4503599627370496 + f) by omega]
    rw [if_neg (by omega), if_pos (by omega)]
    rw [show (q * 4503599627370496 + (4503599627370496 + f)) % 4503599627370496 = f by omega, show (q * 4503599627370496 + (4503599627370496 + f)) / 4503599627370496 - 1 = q by omega]
    congr 1
  · simp only [if_true]
    rw [show (9223372036854775808 + (q * 4503599627370496 + (4503599627370496 + f))) / 9223372036854775808 = 1 by omega, show (9223372036854775808 + (q * 4503599627370496 + (4503599627370496 + f))) % 9223372036854775808 = q * 4503599627370496 + (4503599627370496 + f) by omega]
    rw [if_neg (by omega), if_pos (by omega)]
    rw [show (q * 4503599627370496 + (4503599627370496 + f)) % 4503599627370496 = f by omega, show (q * 4503599627370496 + (4503599627370496 + f)) / 4503599627370496 - 1 = q by omega]
    congr 1

theorem cut_exact (neg : Bool) {sig drop : Nat} (hs : sig ≠ 0) : Toward.even.cut neg (sig * 2 ^ drop) drop = sig := by
  unfold Toward.cut
  have hp := Nat.two_pow_pos drop
  have hl : drop ≤ (sig * 2 ^ drop).log2 + 2 := by
    have : drop ≤ (sig * 2 ^ drop).log2 := (Nat.le_log2 (by
      intro h; rcases Nat.mul_eq_zero.1 h with h | h <;> omega)).2 (Nat.le_mul_of_pos_left _ (by omega))
    omega
  rw [Nat.min_eq_left hl, Nat.shiftLeft_eq, Nat.one_mul]
  dsimp only
  rw [Nat.mul_div_cancel _ hp, Nat.mul_mod_left]
  have e1 : decide (2 ^ drop < 2 * 0) = false := by simp
  have e2 : (2 ^ drop == 2 * 0) = false := by rw [beq_eq_false_iff_ne]; omega
  rw [e1, e2]
  rfl

theorem near_core (neg : Bool) {mag : Nat} {place : Int} {L sig : Nat} (hm : mag ≠ 0) (hL : mag.log2 = L) (hE1 : -1000 ≤ place + L) (hE2 : place + L ≤ 900)
    (hs1 : 2 ^ 52 ≤ sig) (hs2 : sig < 2 ^ 53) (hA : L ≤ 52 → sig = mag * 2 ^ (52 - L)) (hB : 52 < L → mag = sig * 2 ^ (L - 52)) :
    double.read (double.nearest neg mag place) = .number neg sig (place + L - 52) := by
  have hlast : max (place + (L : Int) - (52 : Nat)) (-1074) = place + L - 52 := by omega
  have hkept : Toward.even.cut neg (mag <<< (place - (place + L - 52)).toNat) ((place + L - 52) - place).toNat = sig := by
    by_cases h : L ≤ 52
    · rw [show (place - (place + L - 52)).toNat = 52 - L by omega, show ((place + L - 52) - place).toNat = 0 by omega, Nat.shiftLeft_eq, ← hA h]
      have := cut_exact neg (sig := sig) (drop := 0) (by omega)
      simpa using this
    · rw [show (place - (place + L - 52)).toNat = 0 by omega, show ((place + L - 52) - place).toNat = L - 52 by omega, Nat.shiftLeft_zero, hB (by omega)]
      exact cut_exact neg (by omega)
  obtain ⟨f, rfl⟩ : ∃ f, sig = 4503599627370496 + f := ⟨sig - 4503599627370496, by omega⟩
  have hn : double.nearest neg mag place = double.word neg ((place + L + 1022).toNat * 4503599627370496 + (4503599627370496 + f)) := by
    unfold Format.nearest
    rw [if_neg hm, hL, c_least, c_frac, c_bin, c_inf]
    simp only []
    rw [hlast, hkept, Nat.min_eq_left (by omega), show (place + ↑L - 52 - -1074).toNat = (place + ↑L + 1022).toNat by omega]
  rw [hn, read_word neg (by omega) (by omega)]
  congr 1
  omega

/-- a datum that stands for so many sixteenths -/
def IsD (d : Datum) (k : Int) : Prop :=
  ∃ (s : Bool) (m : Nat) (i : Int), d = .number s m i ∧ i ≤ -4 ∧ m = k.natAbs * 2 ^ (-4 - i).toNat ∧ (k < 0 → s = true) ∧ (0 < k → s = false) ∧ (k ≠ 0 → 2 ^ 52 ≤ m ∧ m < 2 ^ 53)
/-- a word that stands for so many sixteenths -/
def IsF (x : Nat) (k : Int) : Prop := IsD (double.read x) k

theorem isF_zero (s : Bool) (i : Int) : IsF (double.nearest s 0 i) 0 := by
  have h : double.nearest s 0 i = double.word s 0 := by unfold Format.nearest; rw [if_pos rfl]
  have hr : double.read (double.word s 0) = .number s 0 (-1074) := by cases s <;> decide
  rw [IsF, h, hr]
  exact ⟨s, 0, -1074, rfl, by omega, by rw [show (0 : Int).natAbs = 0 from rfl, Nat.zero_mul], fun h => absurd h (by omega), fun h => absurd h (by omega), fun h => absurd rfl h⟩

theorem log2_mul {n a : Nat} (hn : n ≠ 0) : (n * 2 ^ a).log2 = n.log2 + a := by
  have hp := Nat.two_pow_pos a
  have h1 : 2 ^ n.log2 ≤ n := Nat.log2_self_le hn
  have h2 : n < 2 ^ (n.log2 + 1) := Nat.lt_log2_self
  rw [Nat.log2_eq_iff (by intro h; rcases Nat.mul_eq_zero.1 h with h | h <;> omega)]
  constructor
  · rw [Nat.pow_add]; exact Nat.mul_le_mul_right _ h1
  · rw [show n.log2 + a + 1 = (n.log2 + 1) + a by omega, Nat.pow_add]; exact Nat.mul_lt_mul_of_pos_right h2 hp

theorem log2_lt {n b : Nat} (hn : n ≠ 0) (h : n < 2 ^ (b + 1)) : n.log2 ≤ b := by
  have h1 : 2 ^ n.log2 ≤ n := Nat.log2_self_le hn
  by_cases hb : n.log2 ≤ b
  · exact hb
  · have : 2 ^ (b + 1) ≤ 2 ^ n.log2 := Nat.pow_le_pow_right (by decide) (by omega)
    omega

theorem sig_range {n : Nat} (hn : n ≠ 0) (h : n.log2 ≤ 52) : 2 ^ 52 ≤ n * 2 ^ (52 - n.log2) ∧ n * 2 ^ (52 - n.log2) < 2 ^ 53 := by
  have hp := Nat.two_pow_pos (52 - n.log2)
  have h1 : 2 ^ n.log2 ≤ n := Nat.log2_self_le hn
  have h2 : n < 2 ^ (n.log2 + 1) := Nat.lt_log2_self
  constructor
  · have e : (2 : Nat) ^ 52 = 2 ^ n.log2 * 2 ^ (52 - n.log2) := by rw [← Nat.pow_add]; congr 1; omega
    rw [e]; exact Nat.mul_le_mul_right _ h1
  · have e : (2 : Nat) ^ 53 = 2 ^ (n.log2 + 1) * 2 ^ (52 - n.log2) := by rw [← Nat.pow_add]; congr 1; omega
    rw [e]; exact Nat.mul_lt_mul_of_pos_right h2 hp

/-- what stands for so many sixteenths is written exactly -/
theorem isF_write {s : Bool} {k : Int} {m : Nat} {i : Int} (hk : k.natAbs < 2 ^ 53) (hi : i ≤ -4) (hm : m = k.natAbs * 2 ^ (-4 - i).toNat) (hneg : k < 0 → s = true) (hpos : 0 < k → s = false) :
    IsF (double.nearest s m i) k := by
  by_cases h0 : k = 0
  · subst h0
    rw [show m = 0 by rw [hm]; simp]
    exact isF_zero s i
  · have hn : k.natAbs ≠ 0 := by omega
    have HN := hneg
    have HP := hpos
    clear hneg hpos
    generalize hkn : k.natAbs = n at *
    have hL0 : n.log2 ≤ 52 := log2_lt hn hk
    obtain ⟨hs1, hs2⟩ := sig_range hn hL0
    have hlog := log2_mul (a := (-4 - i).toNat) hn
    rw [← hm] at hlog
    have hm0 : m ≠ 0 := by
      rw [hm]; intro h
      have := Nat.two_pow_pos (-4 - i).toNat
      rcases Nat.mul_eq_zero.1 h with h | h <;> omega
    have hr := near_core s (place := i) hm0 hlog (by omega) (by omega) hs1 hs2
      (fun h => by rw [hm, Nat.mul_assoc, ← Nat.pow_add]; congr 2; omega)
      (fun h => by rw [hm, Nat.mul_assoc, ← Nat.pow_add]; congr 2; omega)
    rw [IsF, hr]
    exact ⟨s, _, _, rfl, by omega, by rw [hkn]; congr 2; omega, HN, HP, fun _ => ⟨hs1, hs2⟩⟩

theorem signed_val {s : Bool} {k : Int} {m u c : Nat} {i : Int} (hm : m = k.natAbs * 2 ^ (-4 - i).toNat) (hc : (-4 - i).toNat + u = c) (hneg : k < 0 → s = true) (hpos : 0 < k → s = false) :
    signed s m u = k * ((2 ^ c : Nat) : Int) := by
  have hv : ((m <<< u : Nat) : Int) = (k.natAbs : Int) * ((2 ^ c : Nat) : Int) := by
    rw [Nat.shiftLeft_eq, hm, Nat.mul_assoc, ← Nat.pow_add, hc, Int.natCast_mul]
  unfold signed
  rcases Int.lt_trichotomy k 0 with h | h | h
  · rw [hneg h, if_pos rfl, hv, ← Int.neg_mul]; congr 1; omega
  · subst h
    rw [hv]; simp
  · rw [hpos h, if_neg (by decide), hv]; congr 1; omega

theorem isD_sum {d e : Datum} {a b : Int} (hd : IsD d a) (he : IsD e b) (hk : (a + b).natAbs < 2 ^ 53) : ∃ r, d.sum e = some r ∧ IsF (double.write r) (a + b) := by
  obtain ⟨s, m, i, rfl, hi, hm, hn, hp, _⟩ := hd
  obtain ⟨t, n, j, rfl, hj, hm', hn', hp', _⟩ := he
  refine ⟨_, rfl, ?_⟩
  have e1 := signed_val (u := (i - min i j).toNat) (c := (-4 - min i j).toNat) hm (by omega) hn hp
  have e2 := signed_val (u := (j - min i j).toNat) (c := (-4 - min i j).toNat) hm' (by omega) hn' hp'
  rw [e1, e2, ← Int.add_mul]
  have hpw := Nat.two_pow_pos (-4 - min i j).toNat
  have hpw' : (0 : Int) < ((2 ^ (-4 - min i j).toNat : Nat) : Int) := by omega
  show IsF (double.nearest _ _ _) _
  refine isF_write hk (by omega) (by rw [Int.natAbs_mul, Int.natAbs_natCast]) (fun h => ?_) (fun h => ?_)
  · have hlt : (a + b) * ((2 ^ (-4 - min i j).toNat : Nat) : Int) < 0 := Int.mul_neg_of_neg_of_pos h hpw'
    rw [if_neg (by omega)]; exact decide_eq_true hlt
  · have hlt : 0 < (a + b) * ((2 ^ (-4 - min i j).toNat : Nat) : Int) := Int.mul_pos h hpw'
    rw [if_neg (by omega)]; exact decide_eq_false (by omega)

theorem isD_opp {d : Datum} {a : Int} (hd : IsD d a) : IsD d.opposite (-a) := by
  obtain ⟨s, m, i, rfl, hi, hm, hn, hp, hr⟩ := hd
  refine ⟨!s, m, i, rfl, hi, by rw [hm, Int.natAbs_neg], fun h => ?_, fun h => ?_, fun h => hr (by omega)⟩
  · rw [hp (by omega)]; rfl
  · rw [hn (by omega)]; rfl

theorem isF_add {x y : Nat} {a b : Int} (hx : IsF x a) (hy : IsF y b) (hk : (a + b).natAbs < 2 ^ 53) : ∃ r, floatBits .add .f64 x y = some r ∧ IsF r (a + b) := by
  obtain ⟨d, hd, hf⟩ := isD_sum hx hy hk
  exact ⟨_, by show (((double.read x).sum (double.read y)).map double.write) = _; rw [hd]; rfl, hf⟩
theorem isF_sub {x y : Nat} {a b : Int} (hx : IsF x a) (hy : IsF y b) (hk : (a - b).natAbs < 2 ^ 53) : ∃ r, floatBits .sub .f64 x y = some r ∧ IsF r (a - b) := by
  obtain ⟨d, hd, hf⟩ := isD_sum hx (isD_opp hy) (by rw [← Int.sub_eq_add_neg]; exact hk)
  exact ⟨_, by show (((double.read x).sum (double.read y).opposite).map double.write) = _; rw [hd]; rfl, by rw [Int.sub_eq_add_neg]; exact hf⟩

theorem isF_mul {x y : Nat} {a b k : Int} (hx : IsF x (16 * a)) (hy : IsF y b) (hab : k = a * b) (hk : k.natAbs < 2 ^ 53) : ∃ r, floatBits .mul .f64 x y = some r ∧ IsF r k := by
  obtain ⟨s, m, i, hX, hi, hm, hn, hp, _⟩ := hx
  obtain ⟨t, n, j, hY, hj, hm', hn', hp', _⟩ := hy
  refine ⟨double.write (.number (s ^^ t) (m * n) (i + j)), ?_, ?_⟩
  · show (((double.read x).product (double.read y)).map double.write) = _
    rw [hX, hY]; rfl
  · show IsF (double.nearest _ _ _) _
    refine isF_write hk (by omega) ?_ (fun h => ?_) (fun h => ?_)
    · rw [hm, hm', hab, Int.natAbs_mul, Int.natAbs_mul]
      rw [show (-4 - (i + j)).toNat = 4 + ((-4 - i).toNat + (-4 - j).toNat) by omega, Nat.pow_add, Nat.pow_add]
      rw [show (16 : Int).natAbs = 2 ^ 4 by decide]
      ac_rfl
    · rw [hab] at h
      rcases Int.lt_trichotomy a 0 with ha | ha | ha
      · have hb : 0 < b := by
          rcases Int.lt_trichotomy b 0 with hb | hb | hb
          · have := Int.mul_pos_of_neg_of_neg ha hb; omega
          · subst hb; simp at h
          · exact hb
        rw [hn (by omega), hp' hb]; rfl
      · subst ha; simp at h
      · have hb : b < 0 := by
          rcases Int.lt_trichotomy b 0 with hb | hb | hb
          · exact hb
          · subst hb; simp at h
          · have := Int.mul_pos ha hb; omega
        rw [hp (by omega), hn' hb]; rfl
    · rw [hab] at h
      rcases Int.lt_trichotomy a 0 with ha | ha | ha
      · have hb : b < 0 := by
          rcases Int.lt_trichotomy b 0 with hb | hb | hb
          · exact hb
          · subst hb; simp at h
          · have := Int.mul_neg_of_neg_of_pos ha hb; omega
        rw [hn (by omega), hn' hb]; rfl
      · subst ha; simp at h
      · have hb : 0 < b := by
          rcases Int.lt_trichotomy b 0 with hb | hb | hb
          · have := Int.mul_neg_of_pos_of_neg ha hb; omega
          · subst hb; simp at h
          · exact hb
        rw [hp (by omega), hp' hb]; rfl

theorem log2_52 {m : Nat} (h : 2 ^ 52 ≤ m ∧ m < 2 ^ 53) : m.log2 = 52 := by
  rw [Nat.log2_eq_iff (by omega)]; exact h

theorem isF_div {x y : Nat} {a b c : Int} (hx : IsF x a) (hy : IsF y b) (hb : b ≠ 0) (hc : 16 * a = c * b) (hk : c.natAbs < 2 ^ 53) : ∃ r, floatBits .quo .f64 x y = some r ∧ IsF r c := by
  obtain ⟨s, m, i, hX, hi, hm, hn, hp, hr⟩ := hx
  obtain ⟨t, n, j, hY, hj, hm', hn', hp', hr'⟩ := hy
  have hr' := hr' hb
  have hn0 : n ≠ 0 := by omega
  have hq : floatBits .quo .f64 x y = some (double.write (.number (s ^^ t) (2 * ((m <<< (54 + n.log2 - m.log2)) / n) + ((m <<< (54 + n.log2 - m.log2)) % n != 0).toNat) (i - j - (54 + n.log2 - m.log2 : Nat) - 1))) := by
    show (((double.read x).quotient 54 (double.read y)).map double.write) = _
    rw [hX, hY]
    unfold Datum.quotient
    simp only [if_neg hn0, Option.map_some]
  refine ⟨_, hq, ?_⟩
  show IsF (double.nearest _ _ _) _
  by_cases ha : a = 0
  · have h0 : m = 0 := by rw [hm, ha]; simp
    have hc0 : c = 0 := by
      rw [ha] at hc
      rcases Int.mul_eq_zero.1 (show c * b = 0 by omega) with h | h
      · exact h
      · exact absurd h hb
    rw [h0, hc0]
    simp only [Nat.zero_shiftLeft, Nat.zero_div, Nat.zero_mod, Nat.mul_zero]
    exact isF_zero _ _
  · have hr := hr ha
    rw [log2_52 hr, log2_52 hr', show 54 + 52 - 52 = 54 from rfl]
    generalize hα : (-4 - i).toNat = α at *
    generalize hβ : (-4 - j).toNat = β at *
    have hcn : 16 * a.natAbs = c.natAbs * b.natAbs := by
      have := congrArg Int.natAbs hc
      rwa [Int.natAbs_mul, Int.natAbs_mul] at this
    have hval : m * 2 ^ 54 = c.natAbs * b.natAbs * 2 ^ (α + 50) := by
      rw [hm, ← hcn, show (2 : Nat) ^ 54 = 16 * 2 ^ 50 by decide, Nat.pow_add]
      ac_rfl
    have hβ' : β ≤ α + 50 := by
      by_cases h : β ≤ α + 50
      · exact h
      · exfalso
        have h1 : b.natAbs * 2 ^ (α + 50) ≤ n := by
          rw [hm']; exact Nat.mul_le_mul_left _ (Nat.pow_le_pow_right (by decide) (by omega))
        have h2 : m * 2 ^ 54 ≤ c.natAbs * n := by
          rw [hval, Nat.mul_assoc]; exact Nat.mul_le_mul_left _ h1
        have h3 : c.natAbs * n < 2 ^ 53 * 2 ^ 53 := Nat.mul_lt_mul_of_lt_of_lt hk hr'.2
        have h4 : 2 ^ 52 * 2 ^ 54 ≤ m * 2 ^ 54 := Nat.mul_le_mul_right _ hr.1
        omega
    have hQ : m <<< 54 = n * (c.natAbs * 2 ^ (α + 50 - β)) := by
      rw [Nat.shiftLeft_eq, hval, hm', show α + 50 = β + (α + 50 - β) by omega, Nat.pow_add]
      rw [show β + (α + 50 - β) - β = α + 50 - β by omega]
      ac_rfl
    rw [hQ, Nat.mul_div_cancel_left _ (by omega), Nat.mul_mod_right]
    refine isF_write hk (by omega) ?_ (fun h => ?_) (fun h => ?_)
    · rw [show (-4 - (i - j - ((54 : Nat) : Int) - 1)).toNat = 1 + (α + 50 - β) by omega, Nat.pow_add]
      rw [show ((0 : Nat) != 0).toNat = 0 from rfl]
      have : 2 * (c.natAbs * 2 ^ (α + 50 - β)) + 0 = c.natAbs * (2 ^ 1 * 2 ^ (α + 50 - β)) := by
        rw [Nat.add_zero, Nat.pow_one]; ac_rfl
      exact this
    · have hab : (a < 0 ∧ 0 < b) ∨ (0 < a ∧ b < 0) := by
        rcases Int.lt_trichotomy b 0 with hb' | hb' | hb'
        · have := Int.mul_pos_of_neg_of_neg h hb'; omega
        · exact absurd hb' hb
        · have := Int.mul_neg_of_neg_of_pos h hb'; omega
      rcases hab with ⟨h1, h2⟩ | ⟨h1, h2⟩
      · rw [hn h1, hp' h2]; rfl
      · rw [hp h1, hn' h2]; rfl
    · have hab : (a < 0 ∧ b < 0) ∨ (0 < a ∧ 0 < b) := by
        rcases Int.lt_trichotomy b 0 with hb' | hb' | hb'
        · have := Int.mul_neg_of_pos_of_neg h hb'; omega
        · exact absurd hb' hb
        · have := Int.mul_pos h hb'; omega
      rcases hab with ⟨h1, h2⟩ | ⟨h1, h2⟩
      · rw [hn h1, hn' h2]; rfl
      · rw [hp h1, hp' h2]; rfl

theorem cmp_mul {a b p : Int} (hp : 0 < p) : compare (a * p) (b * p) = compare a b := by
  rcases Int.lt_trichotomy a b with h | h | h
  · have := Int.mul_lt_mul_of_pos_right h hp
    rw [Int.compare_eq_lt.2 this, Int.compare_eq_lt.2 h]
  · subst h; simp
  · have := Int.mul_lt_mul_of_pos_right h hp
    rw [Int.compare_eq_gt.2 this, Int.compare_eq_gt.2 h]

theorem isD_order {d e : Datum} {a b : Int} (hd : IsD d a) (he : IsD e b) : d.order e = some (compare a b) := by
  obtain ⟨s, m, i, rfl, hi, hm, hn, hp, _⟩ := hd
  obtain ⟨t, n, j, rfl, hj, hm', hn', hp', _⟩ := he
  show some (compare (signed s m (i - min i j).toNat) (signed t n (j - min i j).toNat)) = _
  rw [signed_val (u := (i - min i j).toNat) (c := (-4 - min i j).toNat) hm (by omega) hn hp, signed_val (u := (j - min i j).toNat) (c := (-4 - min i j).toNat) hm' (by omega) hn' hp']
  have := Nat.two_pow_pos (-4 - min i j).toNat
  rw [cmp_mul (by omega)]

theorem isF_order {x y : Nat} {a b : Int} (hx : IsF x a) (hy : IsF y b) : FloatKind.f64.format.order x y = some (compare a b) := isD_order hx hy

theorem isF_ofInt {n : Int} (hn : n.natAbs < 2 ^ 49) : IsF (floatOfInt .f64 n) (16 * n) := by
  show IsF (double.nearest (decide (n < 0)) n.natAbs 0) _
  by_cases h0 : n = 0
  · subst h0; exact isF_zero _ _
  · have h0' : n.natAbs ≠ 0 := by omega
    have hL : n.natAbs.log2 ≤ 48 := log2_lt h0' hn
    obtain ⟨hs1, hs2⟩ := sig_range h0' (by omega)
    have hr := near_core (decide (n < 0)) (place := 0) h0' rfl (by omega) (by omega) hs1 hs2 (fun _ => rfl) (fun h => by omega)
    rw [IsF, hr]
    refine ⟨_, _, _, rfl, by omega, ?_, fun h => decide_eq_true (by omega), fun h => decide_eq_false (by omega), fun _ => ⟨hs1, hs2⟩⟩
    rw [Int.natAbs_mul, show (16 : Int).natAbs = 2 ^ 4 by decide, show (2 : Nat) ^ 4 * n.natAbs = n.natAbs * 2 ^ 4 by omega, Nat.mul_assoc, ← Nat.pow_add]
    congr 2; omega

theorem isF_of_read {x : Nat} {k : Int} {s : Bool} {m : Nat} {i : Int} (h : double.read x = .number s m i) (hi : i ≤ -4) (hm : m = k.natAbs * 2 ^ (-4 - i).toNat) (h1 : k < 0 → s = true) (h2 : 0 < k → s = false) (h3 : k ≠ 0 → 2 ^ 52 ≤ m ∧ m < 2 ^ 53) : IsF x k := ⟨s, m, i, h, hi, hm, h1, h2, h3⟩
theorem isF_c16 : IsF 4625196817309499392 256 := isF_of_read (s := false) (m := 2 ^ 52) (i := -48) (by decide) (by decide) (by decide) (fun h => absurd h (by decide)) (fun _ => rfl) (fun _ => by decide)
theorem isF_c0 : IsF 0 0 := isF_of_read (s := false) (m := 0) (i := -1074) (by decide) (by decide) (by rw [show (0 : Int).natAbs = 0 from rfl, Nat.zero_mul]) (fun h => absurd h (by decide)) (fun _ => rfl) (fun h => absurd rfl h)
theorem isF_c1 : IsF 4607182418800017408 16 := isF_of_read (s := false) (m := 2 ^ 52) (i := -52) (by decide) (by decide) (by decide) (fun h => absurd h (by decide)) (fun _ => rfl) (fun _ => by decide)
theorem isF_c2 : IsF 4611686018427387904 32 := isF_of_read (s := false) (m := 2 ^ 52) (i := -51) (by decide) (by decide) (by decide) (fun h => absurd h (by decide)) (fun _ => rfl) (fun _ => by decide)

end Go.Proofs.Ytfffcmjpkpdmlaa.Fl
