/- Contracts: place, IsRange, inside -/
import Derived.Test.YtjmlfobljlfngaaA
namespace Go.Proofs.Ytjmlfobljlfngaa
open Go.ChangeShapes Go.WideShapes Go.ChangeAt Go.RowKit

theorem plI_lo {s l k : Nat} (h : (s : Int) + k ≤ 63) : (s : Int) + k = Pl.plI s l k false := by unfold Pl.plI; simp; omega
theorem plI_hi {s l k : Nat} (h : 63 < (s : Int) + k) : -1 = Pl.plI s l k false := by unfold Pl.plI; simp; omega
theorem plI_neg {s l k m : Nat} (hm : m ≤ l - 1 - k) (hn : ¬ m < l - 1 - k) (hk : k < l) (h : 7 < 7 - ((Pl.inv s : Int) - m) / 8) : -1 = Pl.plI s l k true := by
  have em : (m : Int) = (l : Int) - 1 - k := by omega
  unfold Pl.plI; rw [← em, if_pos rfl, if_pos (by omega)]
theorem plI_pos {s l k m : Nat} (hm : m ≤ l - 1 - k) (hn : ¬ m < l - 1 - k) (hk : k < l) (h : 7 - ((Pl.inv s : Int) - m) / 8 ≤ 7) : 8 * (7 - ((Pl.inv s : Int) - m) / 8) + ((Pl.inv s : Int) - m) % 8 = Pl.plI s l k true := by
  have em : (m : Int) = (l : Int) - 1 - k := by omega
  unfold Pl.plI; rw [← em, if_pos rfl, if_neg (by omega)]

theorem place54 (s l k : Nat) (big : Bool) (w : World) (hs : s < 64) (hl : l ≤ 64) (hk : k < l) :
    Calls Try.prog 54 #[.int .i64 s, .int .i64 l, .int .i64 k, .bool big] w fun e w' => e = .returned (.int .i64 (Pl.plI s l k big)) ∧ w = w' := by
  cases big
  · go_enter Try.func54, Try.ntmps54
    go_wp2
    all_goals
      go_ret
      first | exact ⟨ret_int (plI_hi (by assumption)), rfl⟩ | exact ⟨ret_int (plI_lo (by assumption)), rfl⟩
  · have hi := Pl.inv_lt hs
    have e1 : (s : Int) / 8 = 7 - (Pl.inv s : Int) / 8 := by unfold Pl.inv; omega
    have e2 : (s : Int) % 8 = (Pl.inv s : Int) % 8 := by unfold Pl.inv; omega
    have E1 := Lib.hid e1
    have E2 := Lib.hid e2
    clear e1 e2
    go_enter Try.func54, Try.ntmps54
    go_wp2
    go_loop [9, 10, 11] (fun r c n => ∃ m : Nat, m ≤ l - 1 - k ∧ r = .int .i64 (7 - ((Pl.inv s : Int) - m) / 8) ∧ c = .int .i64 (((Pl.inv s : Int) - m) % 8) ∧ n = .int .i64 ((l : Int) - 1 - k - m)) (fun _ _ n => (intOf n).toNat)
    case atStart => exact ⟨0, by omega, by rw [E1.out]; simp, by rw [E2.out]; simp, by simp⟩
    case round =>
      obtain ⟨m, hm, rfl, rfl, rfl⟩ := hrel
      by_cases hlt : m < l - 1 - k
      · go_wp2
        all_goals
          go_round
          case rel => exact ⟨m + 1, by omega, by congr 1; omega, by congr 1; omega, by congr 1; omega⟩
          case measure => simp [intOf]; omega
      · go_wp2
        all_goals
          go_ret
          first | exact ⟨ret_int (plI_neg hm hlt hk (by assumption)), rfl⟩ | exact ⟨ret_int (plI_pos hm hlt hk (by assumption)), rfl⟩

end Go.Proofs.Ytjmlfobljlfngaa
