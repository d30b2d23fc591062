/- Contracts: numbers with a sign, put into bits -/
import Derived.Test.YtjmlfobljlfngaaY
namespace Go.Proofs.Ytjmlfobljlfngaa
open Go.ChangeShapes Go.WideShapes Go.ChangeAt Go.RowKit
set_option linter.unusedVariables false

namespace Pl
/-- a number with a sign as one without -/
def uns (n : Int) : Nat := (n % 18446744073709551616).toNat
theorem uns_cast (n : Int) : IntKind.u64.wrap n = ((uns n : Nat) : Int) := by rw [IntKind.wrap_u64]; unfold uns; omega
theorem uns_lt (n : Int) : uns n < 2 ^ 64 := by unfold uns; omega

theorem SU_mod (N s l : Nat) (big : Bool) (v : Nat) : SU N s l big (v % 2 ^ l) = SU N s l big v := by
  unfold SU put; rw [Nat.mod_mod]

def fitS (n : Int) (l : Nat) : Bool := decide (-((2 ^ (l - 1) : Nat) : Int) ≤ n) && decide (n < ((2 ^ (l - 1) : Nat) : Int))

theorem fits_lo {l : Nat} (hl : l ≤ 63) : wrap64 (-2 ^ (l - 1)) = -((2 ^ (l - 1) : Nat) : Int) := by
  have h := pow_le (show l - 1 ≤ 62 by omega)
  rw [pow_cast]
  generalize 2 ^ (l - 1) = x at *
  unfold wrap64
  omega
theorem fits_hi {l : Nat} (hl : l ≤ 63) : wrap64 (2 ^ (l - 1)) = ((2 ^ (l - 1) : Nat) : Int) := by
  have h := pow_le (show l - 1 ≤ 62 by omega)
  rw [pow_cast]
  generalize 2 ^ (l - 1) = x at *
  unfold wrap64
  omega

/-- a number that has room comes back -/
theorem sgn_uns {n : Int} {l : Nat} (h1 : 1 ≤ l) (hl : l ≤ 64) (hf : fitS n l = true) : sgn (uns n % 2 ^ l) l = n := by
  unfold fitS at hf
  rw [Bool.and_eq_true, decide_eq_true_eq, decide_eq_true_eq] at hf
  have hd := pow_dbl h1
  have h64 := pow_le hl
  obtain ⟨m, hm⟩ : ∃ m, (2 : Nat) ^ 64 = 2 ^ l * m := ⟨2 ^ (64 - l), by rw [← Nat.pow_add]; congr 1; omega⟩
  obtain ⟨hf1, hf2⟩ := hf
  by_cases hp : 0 ≤ n
  · have hu : uns n = n.toNat := by unfold uns; omega
    rw [hu, Nat.mod_eq_of_lt (by omega)]
    unfold sgn
    rw [if_pos (by omega)]
    omega
  · have hu : uns n = 2 ^ 64 - (-n).toNat := by unfold uns; omega
    have hm0 : 0 < m := by
      rcases Nat.eq_zero_or_pos m with rfl | h
      · simp at hm
      · exact h
    have hmod : uns n % 2 ^ l = 2 ^ l - (-n).toNat := by
      obtain ⟨k, rfl⟩ : ∃ k, m = k + 1 := ⟨m - 1, by omega⟩
      rw [hu, hm, show 2 ^ l * (k + 1) - (-n).toNat = (2 ^ l - (-n).toNat) + 2 ^ l * k by rw [Nat.mul_add]; omega, Nat.add_mul_mod_self_left]
      exact Nat.mod_eq_of_lt (by omega)
    rw [hmod]
    unfold sgn
    rw [if_neg (by omega)]
    omega
end Pl

theorem fits41 (n : Int) (l : Nat) (w : World) (h1 : 1 ≤ l) (hl : l ≤ 64) (hn : (Lit.int .i64 n).wf = true) :
    Calls Try.prog 41 #[.int .i64 n, .int .i64 l] w fun e w' => e = .returned (.bool (Pl.fitS n l)) ∧ w = w' := by
  have hb := bounds_i64 hn
  clear hn
  by_cases h : l = 64
  · subst h
    have e : Pl.fitS n 64 = true := by unfold Pl.fitS; simp; omega
    rw [e]
    go_enter Try.func41, Try.ntmps41
    go_wp2_with fail
    go_ret
    exact ⟨rfl, rfl⟩
  · have hl' : l ≤ 63 := by omega
    have lo := Pl.fits_lo hl'
    have hi := Pl.fits_hi hl'
    have hx : ∃ x : Int, ((2 ^ (l - 1) : Nat) : Int) = x := ⟨_, rfl⟩
    obtain ⟨x, hx⟩ := hx
    rw [hx] at lo hi
    have e : Pl.fitS n l = (decide (-x ≤ n) && decide (n < x)) := by unfold Pl.fitS; rw [hx]
    rw [e]
    clear e hx
    go_enter Try.func41, Try.ntmps41
    go_wp2_with fail
    all_goals go_ret
    · exact ⟨ret_bool (by rw [decide_eq_false (show ¬ (64 : Int) ≤ (l : Int) by omega), decide_eq_true (show -x ≤ n by omega)]; rfl), rfl⟩
    · exact ⟨ret_bool (by rw [decide_eq_false (show ¬ (64 : Int) ≤ (l : Int) by omega), decide_eq_false (show ¬ -x ≤ n by omega)]; rfl), rfl⟩

theorem as79 (n : Int) (l : Nat) (w : World) (h1 : 1 ≤ l) (hl : l ≤ 64) (hn : (Lit.int .i64 n).wf = true) :
    Calls Try.prog 79 #[.int .i64 n, .int .u8 l] w fun e w' => e = .returned (.int .u64 ((Pl.uns n % 2 ^ l : Nat) : Int)) ∧ w = w' := by
  have hb := bounds_i64 hn
  clear hn
  by_cases h8 : l = 8
  · subst h8
    go_enter Try.func79, Try.ntmps79
    go_wp2_with fail
    go_ret
    exact ⟨ret_int (by unfold Pl.uns; simp [IntKind.wrap, IntKind.bits, IntKind.signed]; omega), rfl⟩
  by_cases h16 : l = 16
  · subst h16
    go_enter Try.func79, Try.ntmps79
    go_wp2_with fail
    go_ret
    exact ⟨ret_int (by unfold Pl.uns; simp [IntKind.wrap, IntKind.bits, IntKind.signed]; omega), rfl⟩
  by_cases h32 : l = 32
  · subst h32
    go_enter Try.func79, Try.ntmps79
    go_wp2_with fail
    go_ret
    exact ⟨ret_int (by unfold Pl.uns wrap32; omega), rfl⟩
  by_cases h64 : l = 64
  · subst h64
    go_enter Try.func79, Try.ntmps79
    go_wp2_with fail
    go_ret
    exact ⟨ret_int (by rw [Pl.uns_cast, Nat.mod_eq_of_lt (Pl.uns_lt n)]), rfl⟩
  go_enter Try.func79, Try.ntmps79
  go_wp2_with fail
  go_ret
  exact ⟨ret_int (by rw [Pl.uns_cast, Pl.mask_and (Pl.uns_lt n) hl]), rfl⟩

theorem ss71 (b N s l : Nat) (n : Int) (w : World) (hN : N < 2 ^ 64) (hin : Pl.Inside s l false) (hn : (Lit.int .i64 n).wf = true) (hA : ArrAt b N w) (hf : ∀ j, w.frozen? ⟨b, j, none⟩ = false) :
    Calls Try.prog 71 #[.pointer (some ⟨b, 0, none⟩), .int .u8 s, .int .u8 l, .int .i64 n] w fun e w' => e = .returned (.tuple #[]) ∧ Upd b (Pl.SU N s l false (Pl.uns n)) w w' := by
  have hs := hin.s
  have hl := hin.l64
  have h1 := hin.l
  have HA := Lib.hid hA
  have HF := Lib.hid hf
  clear hA hf
  rw [← Pl.SU_mod]
  go_enter Try.func71, Try.ntmps71
  go_wp2_with fail
  refine (as79 n l _ h1 hl hn).mono ?_
  rintro e w' ⟨rfl, rfl⟩
  go_wp2_with fail
  refine (su69 b N s l _ _ hN hin (Nat.mod_lt _ (Nat.two_pow_pos _)) HA.out HF.out).mono ?_
  rintro e w1 ⟨rfl, hU⟩
  have HU := Lib.hid hU
  clear hU
  go_wp2_with fail
  go_end0
  exact ⟨rfl, HU.out⟩


theorem ss70 (b N s l : Nat) (n : Int) (w : World) (hN : N < 2 ^ 64) (hin : Pl.Inside s l true) (hn : (Lit.int .i64 n).wf = true) (hA : ArrAt b N w) (hf : ∀ j, w.frozen? ⟨b, j, none⟩ = false) :
    Calls Try.prog 70 #[.pointer (some ⟨b, 0, none⟩), .int .u8 s, .int .u8 l, .int .i64 n] w fun e w' => e = .returned (.tuple #[]) ∧ Upd b (Pl.SU N s l true (Pl.uns n)) w w' := by
  have hs := hin.s
  have hl := hin.l64
  have h1 := hin.l
  have HA := Lib.hid hA
  have HF := Lib.hid hf
  clear hA hf
  rw [← Pl.SU_mod]
  go_enter Try.func70, Try.ntmps70
  go_wp2_with fail
  refine (as79 n l _ h1 hl hn).mono ?_
  rintro e w' ⟨rfl, rfl⟩
  go_wp2_with fail
  refine (su68 b N s l _ _ hN hin (Nat.mod_lt _ (Nat.two_pow_pos _)) HA.out HF.out).mono ?_
  rintro e w1 ⟨rfl, hU⟩
  have HU := Lib.hid hU
  clear hU
  go_wp2_with fail
  go_end0
  exact ⟨rfl, HU.out⟩


theorem ss42 (N s l : Nat) (n : Int) (big : Bool) (w : World) (hN : N < 2 ^ 64) (hin : Pl.Inside s l big) (hn : (Lit.int .i64 n).wf = true) :
    Calls Try.prog 42 #[.agg (Pl.arr N), .int .i64 s, .int .i64 l, .bool big, .int .i64 n] w fun e w' => e = .returned (.agg (Pl.arr (Pl.SU N s l big (Pl.uns n)))) ∧ Grown w w' := by
  have hs := hin.s
  have hl := hin.l64
  have HST := Lib.hid (upd_start w N)
  unfold Pl.arr
  cases big
  · go_enter Try.func42, Try.ntmps42
    go_wp2_with fail
    refine (inside55 s l _ hs hl).mono ?_
    rintro e w' ⟨rfl, rfl⟩
    go_wp2_with fail
    refine (ss71 _ N s l n _ hN hin hn ?_ (fun j => by go_simp)).mono ?_
    · refine ⟨?_, ?_, ?_, ?_, ?_, ?_, ?_, ?_⟩ <;> go_simp
    rintro e w1 ⟨rfl, hU⟩
    obtain ⟨hg, ⟨a0, a1, a2, a3, a4, a5, a6, a7⟩, ⟨c0, c1, c2, c3, c4, c5, c6, c7⟩, hF⟩ := HST.out _ _ hU
    have HG := Lib.hid hg
    clear hU hg
    have f0 := hF 0
    have f1 := hF 1
    have f2 := hF 2
    have f3 := hF 3
    have f4 := hF 4
    have f5 := hF 5
    have f6 := hF 6
    have f7 := hF 7
    clear hF
    go_wp2_with fail
    exact bodyPost_ret (v := .agg (Pl.arr _)) (by unfold Pl.arr; simp [results, Try.results42, go_sem, *]) rfl ⟨rfl, (((((((HG.out.setCell (by simp) _).setCell (by simp) _).setCell (by simp) _).setCell (by simp) _).setCell (by simp) _).setCell (by simp) _).setCell (by simp) _).setCell (by simp) _⟩

  · go_enter Try.func42, Try.ntmps42
    go_wp2_with fail
    refine (inside55 s l _ hs hl).mono ?_
    rintro e w' ⟨rfl, rfl⟩
    go_wp2_with fail
    refine (ss70 _ N s l n _ hN hin hn ?_ (fun j => by go_simp)).mono ?_
    · refine ⟨?_, ?_, ?_, ?_, ?_, ?_, ?_, ?_⟩ <;> go_simp
    rintro e w1 ⟨rfl, hU⟩
    obtain ⟨hg, ⟨a0, a1, a2, a3, a4, a5, a6, a7⟩, ⟨c0, c1, c2, c3, c4, c5, c6, c7⟩, hF⟩ := HST.out _ _ hU
    have HG := Lib.hid hg
    clear hU hg
    have f0 := hF 0
    have f1 := hF 1
    have f2 := hF 2
    have f3 := hF 3
    have f4 := hF 4
    have f5 := hF 5
    have f6 := hF 6
    have f7 := hF 7
    clear hF
    go_wp2_with fail
    exact bodyPost_ret (v := .agg (Pl.arr _)) (by unfold Pl.arr; simp [results, Try.results42, go_sem, *]) rfl ⟨rfl, (((((((HG.out.setCell (by simp) _).setCell (by simp) _).setCell (by simp) _).setCell (by simp) _).setCell (by simp) _).setCell (by simp) _).setCell (by simp) _).setCell (by simp) _⟩


end Go.Proofs.Ytjmlfobljlfngaa
