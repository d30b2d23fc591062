/- Contracts: a number put into bits, by the package and by the thin package -/
import Derived.Test.YtjmlfobljlfngaaS
namespace Go.Proofs.Ytjmlfobljlfngaa
open Go.ChangeShapes Go.WideShapes Go.ChangeAt Go.RowKit
set_option linter.unusedVariables false

namespace Pl
theorem put_code {N s l v : Nat} (hN : N < 2 ^ 64) (hsl : s + l ≤ 64) (hv : v < 2 ^ l) : (N &&& (2 ^ 64 - ((2 ^ l - 1) * 2 ^ s + 1))) ||| (v * 2 ^ s) = put N s l v := by
  have hM : (2 ^ l - 1) * 2 ^ s < 2 ^ 64 := by
    have h1 : (2 ^ l - 1) * 2 ^ s < 2 ^ l * 2 ^ s := Nat.mul_lt_mul_of_pos_right (by have := Nat.two_pow_pos l; omega) (Nat.two_pow_pos s)
    rw [← Nat.pow_add] at h1
    exact Nat.lt_of_lt_of_le h1 (pow_le (by omega))
  refine Nat.eq_of_testBit_eq fun j => ?_
  rw [bit_put, Nat.testBit_or, Nat.testBit_and, Nat.testBit_two_pow_sub_succ hM, Nat.testBit_mul_two_pow, Nat.testBit_mul_two_pow, Nat.testBit_two_pow_sub_one]
  by_cases h1 : j < s
  · rw [if_pos h1]
    have h2 : ¬ s ≤ j := by omega
    have h3 : j < 64 := by omega
    simp [h2, h3]
  · rw [if_neg h1]
    have h2 : s ≤ j := by omega
    by_cases h3 : j - s < l
    · rw [if_pos h3]
      simp [h2, h3]
    · rw [if_neg h3, Nat.testBit_lt_two_pow (x := v) (Nat.lt_of_lt_of_le hv (pow_le (by omega)))]
      by_cases h4 : j < 64
      · simp [h2, h3, h4]
      · rw [bit_hi hN (by omega)]; simp

/-- the new number, as the walk shows it -/
theorem put_walk {N s l v e : Nat} (hN : N < 2 ^ 64) (hsl : s + l ≤ 64) (hl : l ≤ 64) (hv : v < 2 ^ l) (he : e = s) :
    bits .or .u64 (bits .and .u64 (N : Int) (bits .xor .u64 IntKind.u64.max (IntKind.u64.wrap (IntKind.u64.wrap (IntKind.u64.wrap (2 ^ l) - 1) * 2 ^ e)))) (IntKind.u64.wrap ((v : Int) * 2 ^ e)) = ((put N s l v : Nat) : Int) := by
  subst he
  have hp := Nat.two_pow_pos l
  have h1 : (2 ^ l - 1) * 2 ^ e < 2 ^ 64 := by
    have h1 : (2 ^ l - 1) * 2 ^ e < 2 ^ l * 2 ^ e := Nat.mul_lt_mul_of_pos_right (by omega) (Nat.two_pow_pos e)
    rw [← Nat.pow_add] at h1
    exact Nat.lt_of_lt_of_le h1 (pow_le (by omega))
  have h2 : v * 2 ^ e < 2 ^ 64 := by
    have h1 : v * 2 ^ e < 2 ^ l * 2 ^ e := Nat.mul_lt_mul_of_pos_right hv (Nat.two_pow_pos e)
    rw [← Nat.pow_add] at h1
    exact Nat.lt_of_lt_of_le h1 (pow_le (by omega))
  have w1 : IntKind.u64.wrap (((2 ^ l - 1 : Nat) : Int) * 2 ^ e) = (((2 ^ l - 1) * 2 ^ e : Nat) : Int) := by
    rw [pow_cast e, ← Int.natCast_mul, IntKind.wrap_u64]; generalize (2 ^ l - 1) * 2 ^ e = x at *; omega
  have w2 : IntKind.u64.wrap ((v : Int) * 2 ^ e) = ((v * 2 ^ e : Nat) : Int) := by
    rw [pow_cast e, ← Int.natCast_mul, IntKind.wrap_u64]; generalize v * 2 ^ e = x at *; omega
  have w3 : bits BinOp.xor IntKind.u64 IntKind.u64.max (((2 ^ l - 1) * 2 ^ e : Nat) : Int) = ((2 ^ 64 - ((2 ^ l - 1) * 2 ^ e + 1) : Nat) : Int) := by
    rw [show IntKind.u64.max = ((2 ^ 64 - 1 : Nat) : Int) from rfl, bits_xor_u64_nat _ _ (by decide) h1, xor_ones h1]
  rw [maxu_eq hl, w1, w2, w3, bits_and_u64_nat _ _ hN (by omega), bits_or_u64_nat _ _ (Nat.lt_of_le_of_lt Nat.and_le_left hN) h2, put_code hN hsl hv]
end Pl

theorem unpack61x (b N M : Nat) (x : Int) (hx : x = M) (w : World) (hM : M < 2 ^ 64) (hA : ArrAt b N w) (hf : ∀ j, w.frozen? ⟨b, j, none⟩ = false) :
    Calls Try.prog 61 #[.pointer (some ⟨b, 0, none⟩), .int .u64 x] w fun e w' => e = .returned (.tuple #[]) ∧ Upd b M w w' := by
  subst hx; exact unpack61 b N M w hM hA hf
theorem unpack60x (b N M : Nat) (x : Int) (hx : x = M) (w : World) (hM : M < 2 ^ 64) (hA : ArrAt b N w) (hf : ∀ j, w.frozen? ⟨b, j, none⟩ = false) :
    Calls Try.prog 60 #[.pointer (some ⟨b, 0, none⟩), .int .u64 x] w fun e w' => e = .returned (.tuple #[]) ∧ Upd b (Pl.rev M) w w' := by
  subst hx; exact unpack60 b N M w hM hA hf

theorem su69 (b N s l v : Nat) (w : World) (hN : N < 2 ^ 64) (hin : Pl.Inside s l false) (hv : v < 2 ^ l) (hA : ArrAt b N w) (hf : ∀ j, w.frozen? ⟨b, j, none⟩ = false) :
    Calls Try.prog 69 #[.pointer (some ⟨b, 0, none⟩), .int .u8 s, .int .u8 l, .int .u64 v] w fun e w' => e = .returned (.tuple #[]) ∧ Upd b (Pl.SU N s l false v) w w' := by
  have hs := hin.s
  have hl := hin.l64
  have hsl : s + l ≤ 64 := hin.low_le
  have HA := Lib.hid hA
  have HV := Lib.hid hv
  have HF := Lib.hid hf
  clear hA hv hf
  go_enter Try.func69, Try.ntmps69
  go_wp2_with fail
  refine (pack59 b N _ hN HA.out).mono ?_
  rintro e w' ⟨rfl, rfl⟩
  go_wp2_with fail
  refine (unpack61x b N _ _ (Pl.put_walk hN hsl hl HV.out rfl) _ (Pl.put_lt hN hsl) HA.out HF.out).mono ?_
  rintro e w1 ⟨rfl, hU⟩
  have HU := Lib.hid hU
  clear hU
  go_wp2_with fail
  go_end0
  exact ⟨rfl, HU.out⟩

theorem su68 (b N s l v : Nat) (w : World) (hN : N < 2 ^ 64) (hin : Pl.Inside s l true) (hv : v < 2 ^ l) (hA : ArrAt b N w) (hf : ∀ j, w.frozen? ⟨b, j, none⟩ = false) :
    Calls Try.prog 68 #[.pointer (some ⟨b, 0, none⟩), .int .u8 s, .int .u8 l, .int .u64 v] w fun e w' => e = .returned (.tuple #[]) ∧ Upd b (Pl.SU N s l true v) w w' := by
  have hs := hin.s
  have hl := hin.l64
  have h1 := hin.l
  have hsl : Pl.inv s + 1 - l + l ≤ 64 := hin.low_le
  have hi := Pl.inv_lt hs
  have hlow : l ≤ Pl.inv s + 1 := by have := hin.r; unfold Pl.isR at this; simp at this; exact this.1
  have HA := Lib.hid hA
  have HV := Lib.hid hv
  have HF := Lib.hid hf
  clear hA hv hf
  go_enter Try.func68, Try.ntmps68
  go_wp2_with fail
  refine (pack58 b N _ HA.out).mono ?_
  rintro e w' ⟨rfl, rfl⟩
  go_wp2_with fail
  refine (inv77 s _ hs).mono ?_
  rintro e w' ⟨rfl, rfl⟩
  go_wp2_with fail
  refine (unpack60x b N _ _ (Pl.put_walk (s := Pl.inv s + 1 - l) (Pl.rev_lt N) hsl hl HV.out (by omega)) _ (Pl.put_lt (Pl.rev_lt N) hsl) HA.out HF.out).mono ?_
  rintro e w1 ⟨rfl, hU⟩
  have HU := Lib.hid hU
  clear hU
  go_wp2_with fail
  go_end0
  exact ⟨rfl, HU.out⟩

theorem upd_start (w : World) (N K : Nat) (w1 : World) (h : Upd (w.heap.size + 1 + 1) K (((w.alloc (.cells #[.int .u8 (Pl.byt N 0 : Nat), .int .u8 (Pl.byt N 1 : Nat), .int .u8 (Pl.byt N 2 : Nat), .int .u8 (Pl.byt N 3 : Nat), .int .u8 (Pl.byt N 4 : Nat), .int .u8 (Pl.byt N 5 : Nat), .int .u8 (Pl.byt N 6 : Nat), .int .u8 (Pl.byt N 7 : Nat)] 32)).alloc (.cells #[.int .u8 0, .int .u8 0, .int .u8 0, .int .u8 0, .int .u8 0, .int .u8 0, .int .u8 0, .int .u8 0] 32)).alloc (.cells #[.int .u8 (Pl.byt N 0 : Nat), .int .u8 (Pl.byt N 1 : Nat), .int .u8 (Pl.byt N 2 : Nat), .int .u8 (Pl.byt N 3 : Nat), .int .u8 (Pl.byt N 4 : Nat), .int .u8 (Pl.byt N 5 : Nat), .int .u8 (Pl.byt N 6 : Nat), .int .u8 (Pl.byt N 7 : Nat)] 68)) w1) :
    Grown w w1 ∧ ArrAt (w.heap.size + 1 + 1) K w1 ∧ ArrAt (w.heap.size + 1) 0 w1 ∧ ∀ j, w1.frozen? ⟨w.heap.size + 1, j, none⟩ = false := by
  obtain ⟨hA, hG, hz, hcell, hfr⟩ := h
  refine ⟨hG w (by omega) ((((Grown.refl _).alloc _ _).alloc _ _).alloc _ _), hA, ArrAt.of fun j hj => ?_, fun j => by rw [hfr]; go_simp⟩
  rw [hcell _ (by simp)]
  rcases Pl.lt8_cases hj with rfl | rfl | rfl | rfl | rfl | rfl | rfl | rfl <;> go_simp <;> simp [Pl.byt]

theorem su39 (N s l v : Nat) (big : Bool) (w : World) (hN : N < 2 ^ 64) (hin : Pl.Inside s l big) (hv : v < 2 ^ l) :
    Calls Try.prog 39 #[.agg (Pl.arr N), .int .i64 s, .int .i64 l, .bool big, .int .u64 v] w fun e w' => e = .returned (.agg (Pl.arr (Pl.SU N s l big v))) ∧ Grown w w' := by
  have hs := hin.s
  have hl := hin.l64
  have HV := Lib.hid hv
  have HST := Lib.hid (upd_start w N)
  clear hv
  unfold Pl.arr
  cases big
  · go_enter Try.func39, Try.ntmps39
    go_wp2_with fail
    refine (inside55 s l _ hs hl).mono ?_
    rintro e w' ⟨rfl, rfl⟩
    go_wp2_with fail
    refine (su69 _ N s l v _ hN hin HV.out ?_ (fun j => by go_simp)).mono ?_
    · refine ⟨?_, ?_, ?_, ?_, ?_, ?_, ?_, ?_⟩ <;> go_simp
    rintro e w1 ⟨rfl, hU⟩
    obtain ⟨hg, ⟨a0, a1, a2, a3, a4, a5, a6, a7⟩, ⟨c0, c1, c2, c3, c4, c5, c6, c7⟩, hF⟩ := HST.out _ _ hU
    have HG := Lib.hid hg
    clear hU hg
    have f0 := hF 0
    have f1 := hF 1
    have f2 := hF 2
    have f3 := hF 3
    have f4 := hF 4
    have f5 := hF 5
    have f6 := hF 6
    have f7 := hF 7
    clear hF
    go_wp2_with fail
    exact bodyPost_ret (v := .agg (Pl.arr _)) (by unfold Pl.arr; simp [results, Try.results39, go_sem, *]) rfl ⟨rfl, (((((((HG.out.setCell (by simp) _).setCell (by simp) _).setCell (by simp) _).setCell (by simp) _).setCell (by simp) _).setCell (by simp) _).setCell (by simp) _).setCell (by simp) _⟩

  · go_enter Try.func39, Try.ntmps39
    go_wp2_with fail
    refine (inside55 s l _ hs hl).mono ?_
    rintro e w' ⟨rfl, rfl⟩
    go_wp2_with fail
    refine (su68 _ N s l v _ hN hin HV.out ?_ (fun j => by go_simp)).mono ?_
    · refine ⟨?_, ?_, ?_, ?_, ?_, ?_, ?_, ?_⟩ <;> go_simp
    rintro e w1 ⟨rfl, hU⟩
    obtain ⟨hg, ⟨a0, a1, a2, a3, a4, a5, a6, a7⟩, ⟨c0, c1, c2, c3, c4, c5, c6, c7⟩, hF⟩ := HST.out _ _ hU
    have HG := Lib.hid hg
    clear hU hg
    have f0 := hF 0
    have f1 := hF 1
    have f2 := hF 2
    have f3 := hF 3
    have f4 := hF 4
    have f5 := hF 5
    have f6 := hF 6
    have f7 := hF 7
    clear hF
    go_wp2_with fail
    exact bodyPost_ret (v := .agg (Pl.arr _)) (by unfold Pl.arr; simp [results, Try.results39, go_sem, *]) rfl ⟨rfl, (((((((HG.out.setCell (by simp) _).setCell (by simp) _).setCell (by simp) _).setCell (by simp) _).setCell (by simp) _).setCell (by simp) _).setCell (by simp) _).setCell (by simp) _⟩


end Go.Proofs.Ytjmlfobljlfngaa
