/- Contracts: IsRange, inside -/
import Derived.Test.YtjmlfobljlfngaaB
namespace Go.Proofs.Ytjmlfobljlfngaa
open Go.ChangeShapes Go.WideShapes Go.ChangeAt Go.RowKit

theorem range28_out (bytes : Nat) (s l : Int) (big : Bool) (w : World) (_h8 : bytes ≤ 8) (h : ¬ (0 ≤ s ∧ s ≤ 63 ∧ 1 ≤ l ∧ l ≤ 64)) :
    Calls Try.prog 28 #[.int .i64 bytes, .int .i64 s, .int .i64 l, .bool big] w fun e w' => e = .returned (.bool false) ∧ w = w' := by
  by_cases h1 : s < 0
  · go_enter Try.func28, Try.ntmps28
    go_wp2
    all_goals
      go_ret
      exact ⟨rfl, rfl⟩
  · by_cases h2 : 63 < s
    · go_enter Try.func28, Try.ntmps28
      go_wp2
      all_goals
        go_ret
        exact ⟨rfl, rfl⟩
    · by_cases h3 : l < 1
      · go_enter Try.func28, Try.ntmps28
        go_wp2
        all_goals
          go_ret
          exact ⟨rfl, rfl⟩
      · have h4 : 64 < l := by omega
        go_enter Try.func28, Try.ntmps28
        go_wp2
        all_goals
          go_ret
          exact ⟨rfl, rfl⟩

theorem range28_yes (bytes s l : Nat) (big : Bool) (w : World) (h8 : bytes ≤ 8) (hs : s < 64) (h1 : 1 ≤ l) (hl : l ≤ 64) (hr : Pl.okR bytes s l big = true) :
    Calls Try.prog 28 #[.int .i64 bytes, .int .i64 s, .int .i64 l, .bool big] w fun e w' => e = .returned (.bool true) ∧ w = w' := by
  have hp := fun k (hk : k < l) => Pl.plI_ok hs hl hk hr
  have HP := Lib.hid hp
  clear hp hr
  go_enter Try.func28, Try.ntmps28
  go_wp2
  go_loop [9] (fun n => ∃ k : Nat, k ≤ l ∧ n = .int .i64 k) (fun n => l - (intOf n).toNat)
  case atStart => exact ⟨0, by omega, rfl⟩
  case round =>
    obtain ⟨k, hk, rfl⟩ := hrel
    by_cases hlt : k < l
    · obtain ⟨q1, q2⟩ := HP.out k hlt
      go_wp2_with (go_at_call 54; refine (place54 s l k big _ hs hl hlt).mono ?_; rintro e w' ⟨rfl, rfl⟩)
      go_round
      case rel => exact ⟨k + 1, by omega, by go_num⟩
      case measure => simp [intOf]; omega
    · go_wp2
      go_ret
      exact ⟨rfl, rfl⟩

theorem range28_no (bytes s l : Nat) (big : Bool) (w : World) (h8 : bytes ≤ 8) (hs : s < 64) (h1 : 1 ≤ l) (hl : l ≤ 64) (hr : Pl.okR bytes s l big = false) :
    Calls Try.prog 28 #[.int .i64 bytes, .int .i64 s, .int .i64 l, .bool big] w fun e w' => e = .returned (.bool false) ∧ w = w' := by
  obtain ⟨k0, hk0, hbad⟩ := Pl.plI_bad hs h1 hr h8
  have HB := Lib.hid hbad
  clear hbad hr
  go_enter Try.func28, Try.ntmps28
  go_wp2
  go_loop [9] (fun n => ∃ k : Nat, k ≤ k0 ∧ n = .int .i64 k) (fun n => l - (intOf n).toNat)
  case atStart => exact ⟨0, by omega, rfl⟩
  case round =>
    obtain ⟨k, hk, rfl⟩ := hrel
    have hlt : k < l := by omega
    go_wp2_with (go_at_call 54; refine (place54 s l k big _ hs hl hlt).mono ?_; rintro e w' ⟨rfl, rfl⟩)
    all_goals first
      | (go_ret; exact ⟨rfl, rfl⟩)
      | (have hne : k ≠ k0 := by
           rintro rfl
           have := HB.out
           omega
         go_round
         case rel => exact ⟨k + 1, by omega, by go_num⟩
         case measure => simp [intOf]; omega)

theorem range28 (bytes s l : Nat) (big : Bool) (w : World) (h8 : bytes ≤ 8) (hs : s < 64) (h1 : 1 ≤ l) (hl : l ≤ 64) :
    Calls Try.prog 28 #[.int .i64 bytes, .int .i64 s, .int .i64 l, .bool big] w fun e w' => e = .returned (.bool (Pl.okR bytes s l big)) ∧ w = w' := by
  cases hr : Pl.okR bytes s l big
  · exact range28_no bytes s l big w h8 hs h1 hl hr
  · exact range28_yes bytes s l big w h8 hs h1 hl hr

theorem inside55 (s l : Nat) (w : World) (hs : s < 64) (hl : l ≤ 64) :
    Calls Try.prog 55 #[.int .i64 s, .int .i64 l] w fun e w' => e = .returned (.bool true) ∧ w = w' := by
  go_enter Try.func55, Try.ntmps55
  go_wp2
  go_ret
  exact ⟨ret_bool (by simp; omega), rfl⟩

end Go.Proofs.Ytjmlfobljlfngaa
