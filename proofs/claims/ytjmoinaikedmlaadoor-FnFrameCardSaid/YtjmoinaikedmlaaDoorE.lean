/- Contracts: spec.Text of a frame of bytes -/
import Derived.Test.YtjmoinaikedmlaaDoorD
namespace Go.Proofs.YtjmoinaikedmlaaDoor
open Go.ChangeShapes Go.WideShapes Go.ChangeAt Go.RowKit
set_option linter.unusedVariables false

theorem hexB_length (N k : Nat) : (hexB N k).length = 2 * k := by
  induction k with
  | zero => rfl
  | succ k ih => simp [hexB, ih, hexS_length]; omega

theorem slice_arr (a : Addr) (n : Nat) (W : World) (hn : n ≤ 8) : (Instr.sliceAt 22 (.pointer (some a)) none (some (.int .i64 (n : Int))) none).run Tryd.prog W = .ok (.slice (some a) n 8) W := by
  have e8 : Tryd.prog.arrayLen 22 = 8 := by kernel_rfl
  have hu : Tryd.prog.underlying 22 = some (.array (Tryd.prog.arrayLen 22) (Tryd.prog.elem 22)) := by kernel_rfl
  have hz : (sizeOf (Tryd.prog.elem 22)).run Tryd.prog W = .ok 1 W := by kernel_rfl
  rw [run_sliceAt_array_h W 22 a hu .i64 n (by omega) (by rw [e8]; omega), hz, e8]
  show Result.ok (slicedAt a 0 (n : Int).toNat 8 1) W = _
  unfold slicedAt
  rw [if_neg (by decide)]
  rfl

/-- the cells of a frame's bytes -/
theorem fr_byte (id n : Int) (N : Nat) (rm ex : Bool) (w : World) (t : TypeId) (k : Nat) (hk : k < 8) :
    (w.alloc (.cells (frCells id n N rm ex) t)).cell? ⟨w.heap.size, 2 + k, none⟩ = some (.int .u8 (Pl.byt N k : Nat)) := by
  unfold frCells
  rcases Pl.lt8_cases hk with rfl | rfl | rfl | rfl | rfl | rfl | rfl | rfl <;> go_simp

set_option maxRecDepth 100000 in
set_option maxHeartbeats 2000000 in
theorem text6_data3 (id n N : Nat) (w : World) (h1 : id < 536870912) (h2 : n ≤ 8) :
    Calls Tryd.prog 6 #[.agg (frCells id n N false false)] w fun e w' => e = .returned (.string ⟨(textL id n N false false).toArray⟩) ∧ Below w.heap.size w w' := by
  have H3 := fun W => hex10 id 3 W (by omega) (by omega)
  obtain ⟨s3, e3, z3, l3⟩ := hex_letter id 3
  rw [e3] at H3
  have L3 := Lib.hid l3
  have H3 := Lib.hid H3
  have hcell := fun (k : Nat) (hk : k < 8) => fr_byte id n N false false w 24 k hk
  unfold frCells at *
  have HC := Lib.hid hcell
  have HB2 := Lib.hid fun (b : Nat) (hb : b < 256) W => hex10 b 2 W (by omega) (by omega)
  clear e3 l3 hcell
  have hsl := fun a W => slice_arr a n W h2
  go_enter Tryd.func6, Tryd.ntmps6
  go_wp2_with fail
  refine (H3.out _).mono ?_
  rintro e w' ⟨rfl, rfl⟩
  go_wp2_with fail
  go_loop [3, 38] (fun o i => ∃ (k : Nat) (s : ByteArray), k ≤ n ∧ o = .string s ∧ i = .int .i64 k ∧ s.data.toList = hexS id 3 ++ [35] ++ hexB N k) (fun _ i => n - (intOf i).toNat)
  case atStart => exact ⟨0, s3 ++ ⟨#[35]⟩, by omega, rfl, rfl, by simp [L3.out, ByteArray.data_append, hexB]⟩
  case round =>
    obtain ⟨k, s, hk, rfl, rfl, hs⟩ := hrel
    have hsz : s.size ≤ 20 := by
      have := congrArg List.length hs
      rw [List.length_append, List.length_append, hexS_length, hexB_length] at this
      have : s.size = s.data.toList.length := by cases s; simp [ByteArray.size]
      simp at *
      omega
    have HS := Lib.hid hs
    clear hs
    by_cases hlt : k < n
    · have hc := HC.out k (by omega)
      obtain ⟨s2, e2, z2, l2⟩ := hex_letter (Pl.byt N k) 2
      have hb := Pl.byt_lt N k
      have H2 := fun W => hex10 (Pl.byt N k) 2 W (by omega) (by omega)
      rw [e2] at H2
      have H2 := Lib.hid H2
      have L2 := Lib.hid l2
      clear e2 l2
      go_wp2_with fail
      refine (H2.out _).mono ?_
      rintro e w' ⟨rfl, rfl⟩
      go_wp2_with fail
      go_round
      case rel => exact ⟨k + 1, s ++ s2, by omega, rfl, by go_num, by simp [HS.out, L2.out, ByteArray.data_append, hexB]⟩
      case measure => simp [intOf]; omega
    · have hkn : k = n := by omega
      subst hkn
      go_wp2_with fail
      go_ret
      refine ⟨ret_str (str_of ?_), (Below.refl _ _).alloc (Nat.le_refl _) _⟩
      rw [HS.out]
      simp [textL]

set_option maxRecDepth 100000 in
set_option maxHeartbeats 2000000 in
theorem text6_data8 (id n N : Nat) (w : World) (h1 : id < 536870912) (h2 : n ≤ 8) :
    Calls Tryd.prog 6 #[.agg (frCells id n N false true)] w fun e w' => e = .returned (.string ⟨(textL id n N false true).toArray⟩) ∧ Below w.heap.size w w' := by
  have H8 := fun W => hex10 id 8 W (by omega) (by omega)
  obtain ⟨s8, e8, z8, l8⟩ := hex_letter id 8
  rw [e8] at H8
  have L8 := Lib.hid l8
  have H8 := Lib.hid H8
  have H3 := fun W => hex10 id 3 W (by omega) (by omega)
  obtain ⟨s3, e3, z3, l3⟩ := hex_letter id 3
  rw [e3] at H3
  have H3 := Lib.hid H3
  clear e3 l3
  have hcell := fun (k : Nat) (hk : k < 8) => fr_byte id n N false true w 24 k hk
  unfold frCells at *
  have HC := Lib.hid hcell
  have HB2 := Lib.hid fun (b : Nat) (hb : b < 256) W => hex10 b 2 W (by omega) (by omega)
  clear e8 l8 hcell
  have hsl := fun a W => slice_arr a n W h2
  go_enter Tryd.func6, Tryd.ntmps6
  go_wp2_with fail
  refine (H3.out _).mono ?_
  rintro e w' ⟨rfl, rfl⟩
  go_wp2_with fail
  refine (H8.out _).mono ?_
  rintro e w' ⟨rfl, rfl⟩
  go_wp2_with fail
  go_loop [3, 38] (fun o i => ∃ (k : Nat) (s : ByteArray), k ≤ n ∧ o = .string s ∧ i = .int .i64 k ∧ s.data.toList = hexS id 8 ++ [35] ++ hexB N k) (fun _ i => n - (intOf i).toNat)
  case atStart => exact ⟨0, s8 ++ ⟨#[35]⟩, by omega, rfl, rfl, by simp [L8.out, ByteArray.data_append, hexB]⟩
  case round =>
    obtain ⟨k, s, hk, rfl, rfl, hs⟩ := hrel
    have hsz : s.size ≤ 25 := by
      have := congrArg List.length hs
      rw [List.length_append, List.length_append, hexS_length, hexB_length] at this
      have : s.size = s.data.toList.length := by cases s; simp [ByteArray.size]
      simp at *
      omega
    have HS := Lib.hid hs
    clear hs
    by_cases hlt : k < n
    · have hc := HC.out k (by omega)
      obtain ⟨s2, e2, z2, l2⟩ := hex_letter (Pl.byt N k) 2
      have hb := Pl.byt_lt N k
      have H2 := fun W => hex10 (Pl.byt N k) 2 W (by omega) (by omega)
      rw [e2] at H2
      have H2 := Lib.hid H2
      have L2 := Lib.hid l2
      clear e2 l2
      go_wp2_with fail
      refine (H2.out _).mono ?_
      rintro e w' ⟨rfl, rfl⟩
      go_wp2_with fail
      go_round
      case rel => exact ⟨k + 1, s ++ s2, by omega, rfl, by go_num, by simp [HS.out, L2.out, ByteArray.data_append, hexB]⟩
      case measure => simp [intOf]; omega
    · have hkn : k = n := by omega
      subst hkn
      go_wp2_with fail
      go_ret
      refine ⟨ret_str (str_of ?_), (Below.refl _ _).alloc (Nat.le_refl _) _⟩
      rw [HS.out]
      simp [textL]

theorem text6 (id n N : Nat) (rm ex : Bool) (w : World) (h1 : id < 536870912) (h2 : n ≤ 8) :
    Calls Tryd.prog 6 #[.agg (frCells id n N rm ex)] w fun e w' => e = .returned (.string ⟨(textL id n N rm ex).toArray⟩) ∧ Below w.heap.size w w' := by
  cases rm
  · cases ex
    · exact text6_data3 id n N w h1 h2
    · exact text6_data8 id n N w h1 h2
  · exact text6_rm id n N ex w h1 h2

end Go.Proofs.YtjmoinaikedmlaaDoor
