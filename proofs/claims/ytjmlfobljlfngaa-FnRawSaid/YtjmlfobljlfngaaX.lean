/- Contract: Apart; whether a range is one, in one word -/
import Derived.Test.YtjmlfobljlfngaaV
namespace Go.Proofs.Ytjmlfobljlfngaa
open Go.ChangeShapes Go.WideShapes Go.ChangeAt Go.RowKit
set_option linter.unusedVariables false

namespace Pl
/-- whether a start and a length stand within eight bytes -/
def rgB (s l : Int) (big : Bool) : Bool := decide (0 ≤ s ∧ s ≤ 63 ∧ 1 ≤ l ∧ l ≤ 64) && okR 8 s.toNat l.toNat big
theorem rgB_true {s l : Int} {big : Bool} (h : rgB s l big = true) : ∃ a b : Nat, s = a ∧ l = b ∧ Inside a b big := by
  unfold rgB at h
  rw [Bool.and_eq_true, decide_eq_true_eq] at h
  obtain ⟨⟨h0, h1, h2, h3⟩, h4⟩ := h
  exact ⟨s.toNat, l.toNat, by omega, by omega, inside_of (by omega) (by omega) (by omega) h4⟩
end Pl

theorem rg28 (s l : Int) (big : Bool) (w : World) :
    Calls Try.prog 28 #[.int .i64 8, .int .i64 s, .int .i64 l, .bool big] w fun e w' => e = .returned (.bool (Pl.rgB s l big)) ∧ w = w' := by
  by_cases h : 0 ≤ s ∧ s ≤ 63 ∧ 1 ≤ l ∧ l ≤ 64
  · have e : Pl.rgB s l big = Pl.okR 8 s.toNat l.toNat big := by unfold Pl.rgB; simp [h]
    rw [e]
    obtain ⟨h0, h1, h2, h3⟩ := h
    obtain ⟨a, rfl⟩ := Int.eq_ofNat_of_zero_le h0
    obtain ⟨b, rfl⟩ := Int.eq_ofNat_of_zero_le (show 0 ≤ l by omega)
    exact range28 8 a b big w (by decide) (by omega) (by omega) (by omega)
  · have e : Pl.rgB s l big = false := by unfold Pl.rgB; simp [h]
    rw [e]
    exact range28_out 8 s l big w (by decide) h

theorem apart38_yes (s l s' l' : Nat) (big big' : Bool) (w : World) (h : Pl.Inside s l big) (h' : Pl.Inside s' l' big') (ha : ∀ k, k < l → ∀ n, n < l' → Pl.pl s l k big ≠ Pl.pl s' l' n big') :
    Calls Try.prog 38 #[.int .i64 s, .int .i64 l, .bool big, .int .i64 s', .int .i64 l', .bool big'] w fun e w' => e = .returned (.bool true) ∧ w = w' := by
  have hl := h.l64
  have hl' := h'.l64
  have HA := Lib.hid ha
  clear ha
  go_enter Try.func38, Try.ntmps38
  go_wp2_with fail
  go_loop [13] (fun i => ∃ k : Nat, k ≤ l ∧ i = .int .i64 k) (fun i => l - (intOf i).toNat)
  case atStart => exact ⟨0, by omega, rfl⟩
  case round =>
    obtain ⟨k, hk, rfl⟩ := hrel
    by_cases hlt : k < l
    · go_wp2_with fail
      go_loop [14] (fun i => ∃ n : Nat, n ≤ l' ∧ i = .int .i64 n) (fun i => l' - (intOf i).toNat)
      case atStart => exact ⟨0, by omega, rfl⟩
      case round =>
        obtain ⟨n, hn, rfl⟩ := hrel
        by_cases hlt' : n < l'
        · have hne : (((Pl.pl s l k big : Nat) : Int) == ((Pl.pl s' l' n big' : Nat) : Int)) = false := by
            have := HA.out k hlt n hlt'
            rw [beq_eq_false_iff_ne]; omega
          go_wp2_with fail
          refine (pl54 s l k big _ h hlt).mono ?_
          rintro e w1 ⟨rfl, rfl⟩
          go_wp2_with fail
          refine (pl54 s' l' n big' _ h' hlt').mono ?_
          rintro e w1 ⟨rfl, rfl⟩
          go_wp2_with fail
          go_round
          case rel => exact ⟨n + 1, by omega, by go_num⟩
          case measure => simp [intOf]; omega
        · go_wp2_with fail
          go_round
          case rel => exact ⟨k + 1, by omega, by go_num⟩
          case measure => simp [intOf]; omega
    · go_wp2_with fail
      go_ret
      exact ⟨rfl, rfl⟩

theorem apart38_no (s l s' l' : Nat) (big big' : Bool) (w : World) (h : Pl.Inside s l big) (h' : Pl.Inside s' l' big') (ha : ∃ k, k < l ∧ ∃ n, n < l' ∧ Pl.pl s l k big = Pl.pl s' l' n big') :
    Calls Try.prog 38 #[.int .i64 s, .int .i64 l, .bool big, .int .i64 s', .int .i64 l', .bool big'] w fun e w' => e = .returned (.bool false) ∧ w = w' := by
  have hl := h.l64
  have hl' := h'.l64
  obtain ⟨k0, hk0, n0, hn0, heq⟩ := ha
  have HQ := Lib.hid heq
  clear heq
  go_enter Try.func38, Try.ntmps38
  go_wp2_with fail
  go_loop [13] (fun i => ∃ k : Nat, k ≤ k0 ∧ i = .int .i64 k) (fun i => l - (intOf i).toNat)
  case atStart => exact ⟨0, by omega, rfl⟩
  case round =>
    obtain ⟨k, hk, rfl⟩ := hrel
    have hlt : k < l := by omega
    go_wp2_with fail
    go_loop [14] (fun i => ∃ n : Nat, n ≤ l' ∧ (k = k0 → n ≤ n0) ∧ i = .int .i64 n) (fun i => l' - (intOf i).toNat)
    case atStart => exact ⟨0, by omega, by omega, rfl⟩
    case round =>
      obtain ⟨n, hn, hkn, rfl⟩ := hrel
      have HKN := Lib.hid hkn
      clear hkn
      by_cases hlt' : n < l'
      · by_cases hq : Pl.pl s l k big = Pl.pl s' l' n big'
        · have he : (((Pl.pl s l k big : Nat) : Int) == ((Pl.pl s' l' n big' : Nat) : Int)) = true := by rw [hq]; simp
          clear hq
          go_wp2_with fail
          refine (pl54 s l k big _ h hlt).mono ?_
          rintro e w1 ⟨rfl, rfl⟩
          go_wp2_with fail
          refine (pl54 s' l' n big' _ h' hlt').mono ?_
          rintro e w1 ⟨rfl, rfl⟩
          go_wp2_with fail
          go_ret
          exact ⟨rfl, rfl⟩
        · have hne : (((Pl.pl s l k big : Nat) : Int) == ((Pl.pl s' l' n big' : Nat) : Int)) = false := by
            rw [beq_eq_false_iff_ne]; omega
          have hnn : k = k0 → n + 1 ≤ n0 := fun hkk => by
            have h1 := HKN.out hkk
            have h2 : n ≠ n0 := by
              rintro rfl
              subst hkk
              exact hq HQ.out
            omega
          have HNN := Lib.hid hnn
          clear hnn hq
          go_wp2_with fail
          refine (pl54 s l k big _ h hlt).mono ?_
          rintro e w1 ⟨rfl, rfl⟩
          go_wp2_with fail
          refine (pl54 s' l' n big' _ h' hlt').mono ?_
          rintro e w1 ⟨rfl, rfl⟩
          go_wp2_with fail
          go_round
          case rel => exact ⟨n + 1, by omega, HNN.out, by go_num⟩
          case measure => simp [intOf]; omega
      · have hkk : k + 1 ≤ k0 := by
          have : k ≠ k0 := fun e => by have := HKN.out e; omega
          omega
        go_wp2_with fail
        go_round
        case rel => exact ⟨k + 1, by omega, by go_num⟩
        case measure => simp [intOf]; omega

end Go.Proofs.Ytjmlfobljlfngaa
