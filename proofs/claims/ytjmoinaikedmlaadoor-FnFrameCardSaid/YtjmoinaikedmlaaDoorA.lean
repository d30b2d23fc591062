/- Contracts: spec.hex -/
import Derived.Test.YtjmoinaikedmlaaDoorBase
namespace Go.Proofs.YtjmoinaikedmlaaDoor
open Go.ChangeShapes Go.WideShapes Go.ChangeAt Go.RowKit
set_option linter.unusedVariables false

/-- a figure to the base of 16 -/
def dig (d : Nat) : UInt8 := if d < 10 then UInt8.ofNat (48 + d) else UInt8.ofNat (55 + d)
/-- the lowest k figures of n, the greatest first -/
def hexS (n : Nat) : Nat → List UInt8
  | 0 => []
  | k + 1 => dig (n / 16 ^ k % 16) :: hexS n k
theorem hexS_length (n k : Nat) : (hexS n k).length = k := by
  induction k with
  | zero => rfl
  | succ k ih => simp [hexS, ih]

theorem str_of {s : ByteArray} {l : List UInt8} (h : s.data.toList = l) : s = ⟨l.toArray⟩ := by
  cases s; subst h; simp

theorem encs : Utf8.encode (((⟨#[48, 49, 50, 51, 52, 53, 54, 55, 56, 57, 65, 66, 67, 68, 69, 70]⟩ : ByteArray)[0]'(by decide)).toNat : Int) = ⟨#[48]⟩ ∧
    Utf8.encode (((⟨#[48, 49, 50, 51, 52, 53, 54, 55, 56, 57, 65, 66, 67, 68, 69, 70]⟩ : ByteArray)[1]'(by decide)).toNat : Int) = ⟨#[49]⟩ ∧
    Utf8.encode (((⟨#[48, 49, 50, 51, 52, 53, 54, 55, 56, 57, 65, 66, 67, 68, 69, 70]⟩ : ByteArray)[2]'(by decide)).toNat : Int) = ⟨#[50]⟩ ∧
    Utf8.encode (((⟨#[48, 49, 50, 51, 52, 53, 54, 55, 56, 57, 65, 66, 67, 68, 69, 70]⟩ : ByteArray)[3]'(by decide)).toNat : Int) = ⟨#[51]⟩ ∧
    Utf8.encode (((⟨#[48, 49, 50, 51, 52, 53, 54, 55, 56, 57, 65, 66, 67, 68, 69, 70]⟩ : ByteArray)[4]'(by decide)).toNat : Int) = ⟨#[52]⟩ ∧
    Utf8.encode (((⟨#[48, 49, 50, 51, 52, 53, 54, 55, 56, 57, 65, 66, 67, 68, 69, 70]⟩ : ByteArray)[5]'(by decide)).toNat : Int) = ⟨#[53]⟩ ∧
    Utf8.encode (((⟨#[48, 49, 50, 51, 52, 53, 54, 55, 56, 57, 65, 66, 67, 68, 69, 70]⟩ : ByteArray)[6]'(by decide)).toNat : Int) = ⟨#[54]⟩ ∧
    Utf8.encode (((⟨#[48, 49, 50, 51, 52, 53, 54, 55, 56, 57, 65, 66, 67, 68, 69, 70]⟩ : ByteArray)[7]'(by decide)).toNat : Int) = ⟨#[55]⟩ ∧
    Utf8.encode (((⟨#[48, 49, 50, 51, 52, 53, 54, 55, 56, 57, 65, 66, 67, 68, 69, 70]⟩ : ByteArray)[8]'(by decide)).toNat : Int) = ⟨#[56]⟩ ∧
    Utf8.encode (((⟨#[48, 49, 50, 51, 52, 53, 54, 55, 56, 57, 65, 66, 67, 68, 69, 70]⟩ : ByteArray)[9]'(by decide)).toNat : Int) = ⟨#[57]⟩ ∧
    Utf8.encode (((⟨#[48, 49, 50, 51, 52, 53, 54, 55, 56, 57, 65, 66, 67, 68, 69, 70]⟩ : ByteArray)[10]'(by decide)).toNat : Int) = ⟨#[65]⟩ ∧
    Utf8.encode (((⟨#[48, 49, 50, 51, 52, 53, 54, 55, 56, 57, 65, 66, 67, 68, 69, 70]⟩ : ByteArray)[11]'(by decide)).toNat : Int) = ⟨#[66]⟩ ∧
    Utf8.encode (((⟨#[48, 49, 50, 51, 52, 53, 54, 55, 56, 57, 65, 66, 67, 68, 69, 70]⟩ : ByteArray)[12]'(by decide)).toNat : Int) = ⟨#[67]⟩ ∧
    Utf8.encode (((⟨#[48, 49, 50, 51, 52, 53, 54, 55, 56, 57, 65, 66, 67, 68, 69, 70]⟩ : ByteArray)[13]'(by decide)).toNat : Int) = ⟨#[68]⟩ ∧
    Utf8.encode (((⟨#[48, 49, 50, 51, 52, 53, 54, 55, 56, 57, 65, 66, 67, 68, 69, 70]⟩ : ByteArray)[14]'(by decide)).toNat : Int) = ⟨#[69]⟩ ∧
    Utf8.encode (((⟨#[48, 49, 50, 51, 52, 53, 54, 55, 56, 57, 65, 66, 67, 68, 69, 70]⟩ : ByteArray)[15]'(by decide)).toNat : Int) = ⟨#[70]⟩ := by
  refine ⟨?_, ?_, ?_, ?_, ?_, ?_, ?_, ?_, ?_, ?_, ?_, ?_, ?_, ?_, ?_, ?_⟩ <;> decide

theorem and15 (n j : Nat) (hn : n < 2 ^ 64) : bits BinOp.and IntKind.u64 ((n : Int) / 2 ^ (4 * j)) 15 = ((n / 16 ^ j % 16 : Nat) : Int) := by
  have e : (n : Int) / 2 ^ (4 * j) = ((n / 16 ^ j : Nat) : Int) := by
    rw [show (16 : Nat) ^ j = 2 ^ (4 * j) by rw [Nat.pow_mul]]
    simp
  have hlt : n / 16 ^ j < 2 ^ 64 := Nat.lt_of_le_of_lt (Nat.div_le_self _ _) hn
  rw [e]
  generalize n / 16 ^ j = x at *
  have h := bits_and_u64_nat x 15 (by omega) (by omega)
  rw [show (15 : Int) = ((15 : Nat) : Int) from rfl, h]
  congr 1
  exact Nat.and_two_pow_sub_one_eq_mod x 4

set_option maxRecDepth 100000 in
set_option maxHeartbeats 4000000 in
theorem hex10 (n k : Nat) (w : World) (hn : n < 2 ^ 64) (hk : k ≤ 8) :
    Calls Tryd.prog 10 #[.int .u64 n, .int .i64 k] w fun e w' => e = .returned (.string ⟨(hexS n k).toArray⟩) ∧ w = w' := by
  go_enter Tryd.func10, Tryd.ntmps10
  go_wp2
  go_loop [5, 6] (fun o i => ∃ (j : Nat) (s : ByteArray), j ≤ k ∧ o = .string s ∧ i = .int .i64 ((j : Int) - 1) ∧ s.data.toList ++ hexS n j = hexS n k) (fun _ i => (intOf i + 1).toNat)
  case atStart => exact ⟨k, _, by omega, rfl, by congr 1, by simp⟩
  case round =>
    obtain ⟨j, s, hj, rfl, rfl, hs⟩ := hrel
    have hsz : s.size ≤ 8 := by
      have := congrArg List.length hs
      rw [List.length_append, hexS_length, hexS_length] at this
      have : s.size = s.data.toList.length := by cases s; simp [ByteArray.size]
      omega
    cases j with
    | zero =>
      go_wp2
      go_ret
      refine ⟨?_, rfl⟩
      rw [← str_of (show s.data.toList = hexS n k by simpa [hexS] using hs)]
      rfl
    | succ j =>
      rw [show (((j + 1 : Nat) : Int) - 1) = (j : Int) by omega]
      have hand := and15 n j hn
      have hlt : n / 16 ^ j % 16 < 16 := Nat.mod_lt _ (by decide)
      have hs' : s.data.toList ++ dig (n / 16 ^ j % 16) :: hexS n j = hexS n k := hs
      clear hs hn
      generalize n / 16 ^ j % 16 = d at *
      have HS := Lib.hid hs'
      clear hs'
      obtain ⟨e0, e1, e2, e3, e4, e5, e6, e7, e8, e9, e10, e11, e12, e13, e14, e15⟩ := encs
      have hc : d = 0 ∨ d = 1 ∨ d = 2 ∨ d = 3 ∨ d = 4 ∨ d = 5 ∨ d = 6 ∨ d = 7 ∨ d = 8 ∨ d = 9 ∨ d = 10 ∨ d = 11 ∨ d = 12 ∨ d = 13 ∨ d = 14 ∨ d = 15 := by omega
      clear hlt
      rcases hc with rfl | rfl | rfl | rfl | rfl | rfl | rfl | rfl | rfl | rfl | rfl | rfl | rfl | rfl | rfl | rfl
      all_goals
        go_wp2
        go_round
        case rel =>
          refine ⟨j, _, by omega, rfl, rfl, ?_⟩
          have := HS.out
          rw [← this]
          simp [*, dig]
        case measure => simp [intOf]

end Go.Proofs.YtjmoinaikedmlaaDoor
