/- Contracts: bits as numbers -/
import Derived.Test.YtjmlfobljlfngaaN
namespace Go.Proofs.Ytjmlfobljlfngaa
open Go.ChangeShapes Go.WideShapes Go.ChangeAt Go.RowKit
set_option linter.unusedVariables false

theorem Pl.mask_and {x l : Nat} (hx : x < 2 ^ 64) (hl : l ≤ 64) : bits .and .u64 (x : Int) (IntKind.u64.wrap (IntKind.u64.wrap (2 ^ l) - 1)) = ((x % 2 ^ l : Nat) : Int) := by
  have h := pow_le hl
  have h0 := Nat.two_pow_pos l
  rw [maxu_eq hl, bits_and_u64_nat _ _ hx (by omega), Nat.and_two_pow_sub_one_eq_mod]

theorem Pl.and_eq {N s l : Nat} {e : Nat} (hN : N < 2 ^ 64) (hl : l ≤ 64) (he : e = s) : bits .and .u64 ((N : Int) / 2 ^ e) (IntKind.u64.wrap (IntKind.u64.wrap (2 ^ l) - 1)) = ((N / 2 ^ s % 2 ^ l : Nat) : Int) := by
  subst he
  rw [show (N : Int) / 2 ^ e = ((N / 2 ^ e : Nat) : Int) by simp, Pl.mask_and (Nat.lt_of_le_of_lt (Nat.div_le_self _ _) hN) hl]

theorem u65 (b N s l : Nat) (w : World) (hN : N < 2 ^ 64) (h : Pl.Inside s l false) (hA : ArrAt b N w) :
    Calls Try.prog 65 #[.pointer (some ⟨b, 0, none⟩), .int .u8 s, .int .u8 l] w fun e w' => e = .returned (.int .u64 (Pl.U N s l false : Nat)) ∧ w = w' := by
  have hs := h.s
  have hl := h.l64
  go_enter Try.func65, Try.ntmps65
  go_wp2_with fail
  refine (pack59 b N _ hN hA).mono ?_
  rintro e w' ⟨rfl, rfl⟩
  clear hA
  go_wp2_with fail
  go_ret
  exact ⟨ret_int (Pl.and_eq hN hl rfl), rfl⟩

theorem u64 (b N s l : Nat) (w : World) (h : Pl.Inside s l true) (hA : ArrAt b N w) :
    Calls Try.prog 64 #[.pointer (some ⟨b, 0, none⟩), .int .u8 s, .int .u8 l] w fun e w' => e = .returned (.int .u64 (Pl.U N s l true : Nat)) ∧ w = w' := by
  have hs := h.s
  have hl := h.l64
  have h1 := h.l
  have hr := h.low_le
  have hi := Pl.inv_lt hs
  have hlow : l ≤ Pl.inv s + 1 := by have := h.r; unfold Pl.isR at this; simp at this; exact this.1
  go_enter Try.func64, Try.ntmps64
  go_wp2_with fail
  refine (pack58 b N _ hA).mono ?_
  rintro e w' ⟨rfl, rfl⟩
  clear hA
  go_wp2_with fail
  refine (inv77 s _ hs).mono ?_
  rintro e w' ⟨rfl, rfl⟩
  go_wp2_with fail
  go_ret
  exact ⟨ret_int (Pl.and_eq (Pl.rev_lt N) hl (by show _ = Pl.inv s + 1 - l; omega)), rfl⟩

/-- a number with its sign -/
def Pl.sgn (u l : Nat) : Int := if u < 2 ^ (l - 1) then (u : Int) else (u : Int) - ((2 ^ l : Nat) : Int)

namespace Pl
theorem xor_ones {n x : Nat} (h : x < 2 ^ n) : (2 ^ n - 1) ^^^ x = 2 ^ n - (x + 1) := by
  refine Nat.eq_of_testBit_eq fun k => ?_
  rw [Nat.testBit_xor, Nat.testBit_two_pow_sub_one, Nat.testBit_two_pow_sub_succ h]
  by_cases hk : k < n
  · simp [hk]
  · rw [Nat.testBit_lt_two_pow (Nat.lt_of_lt_of_le h (Nat.pow_le_pow_right (by decide) (by omega)))]
    simp [hk]

theorem sgn_8 {u : Nat} (hu : u < 2 ^ 8) : wrap64 (IntKind.i8.wrap ↑u) = sgn u 8 := by
  unfold sgn wrap64
  simp [IntKind.wrap, IntKind.bits, IntKind.signed]
  split <;> omega
theorem sgn_16 {u : Nat} (hu : u < 2 ^ 16) : wrap64 (IntKind.i16.wrap ↑u) = sgn u 16 := by
  unfold sgn wrap64
  simp [IntKind.wrap, IntKind.bits, IntKind.signed]
  split <;> omega
theorem sgn_32 {u : Nat} (hu : u < 2 ^ 32) : wrap64 (wrap32 ↑u) = sgn u 32 := by
  unfold sgn wrap64 wrap32
  split <;> omega
theorem sgn_64 {u : Nat} (hu : u < 2 ^ 64) : wrap64 ↑u = sgn u 64 := by
  unfold sgn wrap64
  split <;> omega

theorem sign_test {u l : Nat} (h1 : 1 ≤ l) (hl : l ≤ 63) (hu : u < 2 ^ l) : decide (0 < bits BinOp.and IntKind.u64 (u : Int) (IntKind.u64.wrap (2 ^ (l - 1)))) = decide (2 ^ (l - 1) ≤ u) := by
  have hd := pow_dbl h1
  have h63 := pow_le hl
  have hp := Nat.two_pow_pos (l - 1)
  rw [pow_cast, show IntKind.u64.wrap ((2 ^ (l - 1) : Nat) : Int) = ((2 ^ (l - 1) : Nat) : Int) by rw [IntKind.wrap_u64]; generalize 2 ^ (l - 1) = x at *; omega, bits_and_u64_nat _ _ (by omega) (by omega), and_pow, Nat.testBit_eq_decide_div_mod_eq]
  have hq : u / 2 ^ (l - 1) = if 2 ^ (l - 1) ≤ u then 1 else 0 := by
    split
    · exact Nat.div_eq_of_lt_le (by omega) (by omega)
    · exact Nat.div_eq_of_lt (by omega)
  rw [hq]
  by_cases h : 2 ^ (l - 1) ≤ u
  · simp only [h, if_true, decide_true]
    exact decide_eq_true (Int.natCast_pos.mpr hp)
  · simp [h]

theorem sgn_pos {u l : Nat} (hl : l ≤ 63) (hu : u < 2 ^ l) (h : u < 2 ^ (l - 1)) : wrap64 ↑u = sgn u l := by
  have h62 := pow_le (show l - 1 ≤ 62 by omega)
  unfold sgn wrap64
  rw [if_pos h]; omega

theorem mod_help {x y u m : Nat} (hy : y = 2 * x) (h1 : x ≤ u) (h2 : u < y) : (x * (m + 2) - (u + 1)) % x = y - (u + 1) := by
  have e : x * (m + 2) - (u + 1) = (y - (u + 1)) + x * m := by rw [Nat.mul_add]; omega
  rw [e, Nat.add_mul_mod_self_left]
  exact Nat.mod_eq_of_lt (by omega)

theorem split64 {l : Nat} (h1 : 1 ≤ l) (hl : l ≤ 63) : ∃ m, (2 : Nat) ^ 64 = 2 ^ (l - 1) * (m + 2) := by
  have h4 : 2 ≤ 2 ^ (65 - l) := Nat.le_trans (by decide) (pow_le (show 1 ≤ 65 - l by omega))
  refine ⟨2 ^ (65 - l) - 2, ?_⟩
  rw [Nat.sub_add_cancel h4, ← Nat.pow_add]
  congr 1; omega

theorem wrap_neg {u x y : Nat} (hy : y = 2 * x) (h : x ≤ u) (hu : u < y) (hx : x ≤ 4611686018427387904) : wrap64 (-wrap64 (IntKind.u64.wrap (((y - (u + 1) : Nat) : Int) + 1))) = (u : Int) - (y : Int) := by
  rw [IntKind.wrap_u64]
  unfold wrap64
  omega

theorem sgn_neg {u l : Nat} (h1 : 1 ≤ l) (hl : l ≤ 63) (hu : u < 2 ^ l) (h : ¬ u < 2 ^ (l - 1)) :
    wrap64 (-wrap64 (IntKind.u64.wrap (bits BinOp.and IntKind.u64 (bits BinOp.xor IntKind.u64 IntKind.u64.max ↑u) (IntKind.u64.wrap (IntKind.u64.wrap (2 ^ (l - 1)) - 1)) + 1))) = sgn u l := by
  have hd := pow_dbl h1
  have h62 := pow_le (show l - 1 ≤ 62 by omega)
  have hp := Nat.two_pow_pos (l - 1)
  have hx : bits BinOp.xor IntKind.u64 IntKind.u64.max ↑u = ((2 ^ 64 - (u + 1) : Nat) : Int) := by
    rw [show IntKind.u64.max = ((2 ^ 64 - 1 : Nat) : Int) from rfl, bits_xor_u64_nat _ _ (by decide) (by omega), xor_ones (by omega)]
  rw [hx, mask_and (by omega) (by omega)]
  have hv : (2 ^ 64 - (u + 1)) % 2 ^ (l - 1) = 2 ^ l - (u + 1) := by
    obtain ⟨m, hm⟩ := split64 h1 hl
    rw [hm]
    exact mod_help hd (by omega) hu
  rw [hv]
  unfold sgn
  rw [if_neg h]
  exact wrap_neg hd (by omega) hu h62
end Pl

theorem as78 (u l : Nat) (w : World) (h1 : 1 ≤ l) (hl : l ≤ 64) (hu : u < 2 ^ l) :
    Calls Try.prog 78 #[.int .u64 u, .int .u8 l] w fun e w' => e = .returned (.int .i64 (Pl.sgn u l)) ∧ w = w' := by
  by_cases h8 : l = 8
  · subst h8
    go_enter Try.func78, Try.ntmps78
    go_wp2_with fail
    go_ret
    exact ⟨ret_int (Pl.sgn_8 hu), rfl⟩
  by_cases h16 : l = 16
  · subst h16
    go_enter Try.func78, Try.ntmps78
    go_wp2_with fail
    go_ret
    exact ⟨ret_int (Pl.sgn_16 hu), rfl⟩
  by_cases h32 : l = 32
  · subst h32
    go_enter Try.func78, Try.ntmps78
    go_wp2_with fail
    go_ret
    exact ⟨ret_int (Pl.sgn_32 hu), rfl⟩
  by_cases h64 : l = 64
  · subst h64
    go_enter Try.func78, Try.ntmps78
    go_wp2_with fail
    go_ret
    exact ⟨ret_int (Pl.sgn_64 hu), rfl⟩
  have hT := Pl.sign_test h1 (by omega) hu
  by_cases h : u < 2 ^ (l - 1)
  · replace hT := hT.trans (decide_eq_false (show ¬ 2 ^ (l - 1) ≤ u from Nat.not_le.2 h))
    have H := Lib.hid h
    have HU := Lib.hid hu
    clear h hu
    go_enter Try.func78, Try.ntmps78
    go_wp2_with fail
    go_ret
    exact ⟨ret_int (Pl.sgn_pos (by omega) HU.out H.out), rfl⟩
  · replace hT := hT.trans (decide_eq_true (show 2 ^ (l - 1) ≤ u from Nat.not_lt.1 h))
    have H := Lib.hid h
    have HU := Lib.hid hu
    clear h hu
    go_enter Try.func78, Try.ntmps78
    go_wp2_with fail
    go_ret
    exact ⟨ret_int (Pl.sgn_neg h1 (by omega) HU.out H.out), rfl⟩

end Go.Proofs.Ytjmlfobljlfngaa
