/- Contracts: spec.Text -/
import Derived.Test.YtjmoinaikedmlaaDoorC
namespace Go.Proofs.YtjmoinaikedmlaaDoor
open Go.ChangeShapes Go.WideShapes Go.ChangeAt Go.RowKit
set_option linter.unusedVariables false

/-- the figures of the first k bytes -/
def hexB (N : Nat) : Nat → List UInt8
  | 0 => []
  | k + 1 => hexB N k ++ hexS (Pl.byt N k) 2

/-- the text of a frame -/
def textL (id n N : Nat) (rm ex : Bool) : List UInt8 :=
  hexS id (if ex then 8 else 3) ++ [35] ++ (if rm then [82] ++ (if 0 < n then [UInt8.ofNat (48 + n)] else []) else hexB N n)

theorem encR : Utf8.encode 49 = ⟨#[49]⟩ ∧ Utf8.encode 50 = ⟨#[50]⟩ ∧ Utf8.encode 51 = ⟨#[51]⟩ ∧ Utf8.encode 52 = ⟨#[52]⟩ ∧ Utf8.encode 53 = ⟨#[53]⟩ ∧ Utf8.encode 54 = ⟨#[54]⟩ ∧ Utf8.encode 55 = ⟨#[55]⟩ ∧ Utf8.encode 56 = ⟨#[56]⟩ := by
  refine ⟨?_, ?_, ?_, ?_, ?_, ?_, ?_, ?_⟩ <;> decide
theorem ret_str {a b : ByteArray} (h : a = b) : Ending.returned (.string a) = .returned (.string b) := by rw [h]

theorem hex_letter (n k : Nat) : ∃ s : ByteArray, (⟨(hexS n k).toArray⟩ : ByteArray) = s ∧ s.size = k ∧ s.data.toList = hexS n k :=
  ⟨_, rfl, by simp [ByteArray.size, hexS_length], rfl⟩

set_option maxRecDepth 100000 in
set_option maxHeartbeats 2000000 in
theorem text6_rm (id n N : Nat) (ex : Bool) (w : World) (h1 : id < 536870912) (h2 : n ≤ 8) :
    Calls Tryd.prog 6 #[.agg (frCells id n N true ex)] w fun e w' => e = .returned (.string ⟨(textL id n N true ex).toArray⟩) ∧ Below w.heap.size w w' := by
  have H3 := fun W => hex10 id 3 W (by omega) (by omega)
  have H8 := fun W => hex10 id 8 W (by omega) (by omega)
  obtain ⟨s3, e3, z3, l3⟩ := hex_letter id 3
  obtain ⟨s8, e8, z8, l8⟩ := hex_letter id 8
  rw [e3] at H3
  rw [e8] at H8
  have L3 := Lib.hid l3
  have L8 := Lib.hid l8
  have H3 := Lib.hid H3
  have H8 := Lib.hid H8
  clear e3 e8 l3 l8
  have hc : n = 0 ∨ n = 1 ∨ n = 2 ∨ n = 3 ∨ n = 4 ∨ n = 5 ∨ n = 6 ∨ n = 7 ∨ n = 8 := by omega
  clear h2
  unfold frCells
  obtain ⟨u1, u2, u3, u4, u5, u6, u7, u8⟩ := encR
  have HU := Lib.hid (⟨u1, u2, u3, u4, u5, u6, u7, u8⟩ : Utf8.encode 49 = ⟨#[49]⟩ ∧ Utf8.encode 50 = ⟨#[50]⟩ ∧ Utf8.encode 51 = ⟨#[51]⟩ ∧ Utf8.encode 52 = ⟨#[52]⟩ ∧ Utf8.encode 53 = ⟨#[53]⟩ ∧ Utf8.encode 54 = ⟨#[54]⟩ ∧ Utf8.encode 55 = ⟨#[55]⟩ ∧ Utf8.encode 56 = ⟨#[56]⟩)
  clear u1 u2 u3 u4 u5 u6 u7 u8
  cases ex
  · rcases hc with rfl | rfl | rfl | rfl | rfl | rfl | rfl | rfl | rfl
    all_goals
      go_enter Tryd.func6, Tryd.ntmps6
      go_wp2_with fail
      refine (H3.out _).mono ?_
      rintro e w' ⟨rfl, rfl⟩
      go_wp2_with fail
      go_ret
      refine ⟨ret_str (str_of ?_), (Below.refl _ _).alloc (Nat.le_refl _) _⟩
      obtain ⟨u1, u2, u3, u4, u5, u6, u7, u8⟩ := HU.out
      simp [textL, L3.out, ByteArray.data_append, u1, u2, u3, u4, u5, u6, u7, u8]
  · rcases hc with rfl | rfl | rfl | rfl | rfl | rfl | rfl | rfl | rfl
    all_goals
      go_enter Tryd.func6, Tryd.ntmps6
      go_wp2_with fail
      refine (H3.out _).mono ?_
      rintro e w' ⟨rfl, rfl⟩
      go_wp2_with fail
      refine (H8.out _).mono ?_
      rintro e w' ⟨rfl, rfl⟩
      go_wp2_with fail
      go_ret
      refine ⟨ret_str (str_of ?_), (Below.refl _ _).alloc (Nat.le_refl _) _⟩
      obtain ⟨u1, u2, u3, u4, u5, u6, u7, u8⟩ := HU.out
      simp [textL, L8.out, ByteArray.data_append, u1, u2, u3, u4, u5, u6, u7, u8]

end Go.Proofs.YtjmoinaikedmlaaDoor
