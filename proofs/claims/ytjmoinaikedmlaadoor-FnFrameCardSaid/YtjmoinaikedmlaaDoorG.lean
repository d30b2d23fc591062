/- Contracts: TrailingZeros, formatBits at base 16 -/
import Derived.Test.YtjmoinaikedmlaaDoorF
import Derived.Deep.OwnRows
import Derived.Laws.BytesArg
import Derived.Lib.HexFns
namespace Go.Proofs.YtjmoinaikedmlaaDoor
open Go.ChangeShapes Go.WideShapes Go.ChangeAt Go.RowKit
set_option linter.unusedVariables false

theorem tz67 (w : World) (hc : w.cell? ⟨9, 15, none⟩ = some (.int .u8 4)) : Calls Tryd.prog 67 #[.int .u64 16] w fun e w' => e = .returned (.int .i64 4) ∧ w = w' := by
  have H := Lib.hid (tz72 w hc)
  clear hc
  go_enter Tryd.func67, Tryd.ntmps67
  go_wp2_with fail
  refine (H.out).mono ?_
  rintro e w' ⟨rfl, rfl⟩
  go_wp2_with fail
  go_ret
  exact ⟨rfl, rfl⟩

/-- a figure to the base of 16, in small letters -/
def lo (d : Nat) : Nat := if d < 10 then 48 + d else 87 + d
theorem lo_lt (d : Nat) (h : d < 16) : lo d < 256 := by unfold lo; split <;> omega
/-- the lowest k figures of n in small letters, the greatest first -/
def lowS (n : Nat) : Nat → List Nat
  | 0 => []
  | k + 1 => lo (n / 16 ^ k % 16) :: lowS n k
theorem lowS_length (n k : Nat) : (lowS n k).length = k := by
  induction k with
  | zero => rfl
  | succ k ih => simp [lowS, ih]
theorem lowS_get (n : Nat) : ∀ k i, i < k → (lowS n k)[i]? = some (lo (n / 16 ^ (k - 1 - i) % 16)) := by
  intro k
  induction k with
  | zero => intro i h; omega
  | succ k ih =>
    intro i h
    cases i with
    | zero => simp [lowS]
    | succ i =>
      simp only [lowS, List.getElem?_cons_succ]
      rw [ih i (by omega)]
      congr 4
      congr 1
      omega

def frow (U k : Nat) : Nat → Value := fun j => if 65 - k ≤ j ∧ j < 65 then .int .u8 (lo (U / 16 ^ (64 - j) % 16) : Nat) else .int .u8 0

theorem frow_step (U k : Nat) (hk : k < 65) (j : Nat) : (if j = 64 - k then Value.int .u8 (lo (U / 16 ^ k % 16) : Nat) else frow U k j) = frow U (k + 1) j := by
  unfold frow
  by_cases h : j = 64 - k
  · subst h
    rw [if_pos rfl, if_pos (by omega), show 64 - (64 - k) = k by omega]
  · rw [if_neg h]
    by_cases h1 : 65 - k ≤ j ∧ j < 65
    · rw [if_pos h1, if_pos (by omega)]
    · rw [if_neg h1, if_neg (by omega)]

theorem cases16 {d : Nat} (hd : d < 16) : d = 0 ∨ d = 1 ∨ d = 2 ∨ d = 3 ∨ d = 4 ∨ d = 5 ∨ d = 6 ∨ d = 7 ∨ d = 8 ∨ d = 9 ∨ d = 10 ∨ d = 11 ∨ d = 12 ∨ d = 13 ∨ d = 14 ∨ d = 15 := by omega

theorem zrow (w : World) (U : Nat) : (w.alloc (Obj.cells Tryd.zeroCells103 103)).rowIs w.heap.size 103 65 (frow U 0) := by
  have e : Tryd.zeroCells103 = Array.replicate 65 (.int .u8 0) := by kernel_rfl
  have h := World.rowIs_alloc w Tryd.zeroCells103 103 (frow U 0) (fun i hi => by
    rw [e] at hi ⊢
    simp at hi
    have h : ¬ 65 ≤ i := by omega
    simp [frow, hi, h])
  rw [show Tryd.zeroCells103.size = 65 by rw [e]; simp] at h
  exact h

theorem idx_tab (d : Nat) (hd : d < 16) (w : World) : (Instr.index 9 (.string ⟨#[48, 49, 50, 51, 52, 53, 54, 55, 56, 57, 97, 98, 99, 100, 101, 102, 103, 104, 105, 106, 107, 108, 109, 110, 111, 112, 113, 114, 115, 116, 117, 118, 119, 120, 121, 122]⟩) (.int .u64 (d : Int))).run Tryd.prog w = .ok (.int .u8 (lo d : Nat)) w := by
  rcases cases16 hd with rfl | rfl | rfl | rfl | rfl | rfl | rfl | rfl | rfl | rfl | rfl | rfl | rfl | rfl | rfl | rfl <;> kernel_rfl

theorem slice_buf (b m : Nat) (W : World) (hm : m < 65) : (Instr.sliceAt 103 (.pointer (some ⟨b, 0, none⟩)) (some (.int .i64 (m : Int))) none none).run Tryd.prog W = .ok (.slice (some ⟨b, m, none⟩) (65 - m) (65 - m)) W := by
  have e8 : Tryd.prog.arrayLen 103 = 65 := by kernel_rfl
  have hu : Tryd.prog.underlying 103 = some (.array (Tryd.prog.arrayLen 103) (Tryd.prog.elem 103)) := by kernel_rfl
  have hz : (sizeOf (Tryd.prog.elem 103)).run Tryd.prog W = .ok 1 W := by kernel_rfl
  rw [run_sliceAt_array_l W 103 ⟨b, 0, none⟩ hu .i64 m (by omega) (by rw [e8]; omega), hz, e8]
  show Result.ok (slicedAt _ _ _ _ 1) W = _
  unfold slicedAt
  rw [if_neg (by omega), Addr.add_lit, show (m : Int).toNat = m from rfl, Nat.mul_one, Nat.zero_add]

/-- the string out of the buffer's end -/
theorem buf_text (U k : Nat) (b : Nat) (W : World) (hk : k ≤ 7) (h : W.rowIs b 103 65 (frow U (k + 1))) : (convert 38 9 (.slice (some ⟨b, 64 - k, none⟩) (65 - (64 - k)) (65 - (64 - k)))).run Tryd.prog W = .ok (.string (strOfNums ((lowS U (k + 1)).map Int.ofNat))) W :=
  run_convert_bytes_arg (P := Tryd.prog) W 38 5 Tryd.underlying38 Tryd.underlying5 b (64 - k) _ _ _ (by rw [List.length_map, lowS_length]; omega) (fun i hi => by
    rw [h.cell (by omega)]
    unfold frow
    rw [if_pos (by omega), List.getD_eq_getElem?_getD, List.getElem?_map, lowS_get U (k + 1) i (by omega), show 64 - (64 - k + i) = k + 1 - 1 - i by omega]
    rfl) 9 Tryd.underlying9

theorem shr4 (n : Nat) (hn : n < 2 ^ 64) : bits BinOp.and IntKind.u64 (n : Int) 15 = ((n % 16 : Nat) : Int) := by
  have h := and15 n 0 hn
  simpa using h

/-- the figures of U, none ahead that is nought but the one of nought -/
def IsLow (U : Nat) (S : ByteArray) : Prop := ∃ k, k ≤ 7 ∧ (k = 0 ∨ 16 ^ k ≤ U) ∧ U < 16 ^ (k + 1) ∧ S = strOfNums ((lowS U (k + 1)).map Int.ofNat)

set_option maxRecDepth 100000 in
set_option maxHeartbeats 2000000 in
theorem fb57 (U : Nat) (w : World) (hU : U < 4294967296) (hc : w.cell? ⟨9, 15, none⟩ = some (.int .u8 4)) :
    Calls Tryd.prog 57 #[.slice none 0 0, .int .u64 U, .int .i64 16, .bool false, .bool false] w fun e w' =>
      ∃ S, IsLow U S ∧ e = .returned (.tuple #[.slice none 0 0, .string S]) ∧ Below w.heap.size w w' := by
  have h9 : 9 < w.heap.size := by
    rcases Nat.lt_or_ge 9 w.heap.size with h | h
    · exact h
    · simp [World.cell?, Array.getElem?_eq_none h] at hc
  have HZ := Lib.hid fun o => tz67 (w.alloc o) ((((Below.refl _ w).alloc (Nat.le_refl _) o).cell (p := ⟨9, 15, none⟩) h9).trans hc)
  have HP := Lib.hid pow66
  clear hc h9
  go_enter Tryd.func57, Tryd.ntmps57
  go_wp2_with fail
  refine (HP.out _).mono ?_
  rintro e w' ⟨rfl, rfl⟩
  go_wp2_with fail
  refine (HZ.out _).mono ?_
  rintro e w' ⟨rfl, rfl⟩
  go_wp2_with fail
  go_loopw [1, 13] (fun vu vi wr => ∃ k : Nat, (k = 0 ∨ 16 ^ k ≤ U) ∧ vu = .int .u64 ((U / 16 ^ k : Nat) : Int) ∧ vi = .int .i64 (65 - (k : Int)) ∧ Hid (wr.rowIs w.heap.size 103 65 (frow U k)) ∧ Hid (Below w.heap.size w wr)) (fun vu _ _ => (intOf vu).toNat)
  case atStart => exact ⟨0, .inl rfl, by simp, rfl, zrow w U, (Below.refl _ _).alloc (Nat.le_refl _) _⟩
  case round =>
    obtain ⟨k, hk, rfl, rfl, hrw, hb⟩ := hrel
    have hk7 : k ≤ 7 := by
      rcases hk with rfl | hk
      · omega
      · rcases Nat.lt_or_ge 7 k with h | h
        · have := Nat.pow_le_pow_right (n := 16) (by decide) (show 8 ≤ k from h)
          omega
        · exact h
    have hx : U / 16 ^ k < 4294967296 := Nat.lt_of_le_of_lt (Nat.div_le_self _ _) hU
    have hand := shr4 (U / 16 ^ k) (by omega)
    have hstep := fun j => frow_step U k (by omega) j
    have hsh : ((U / 16 ^ k : Nat) : Int) / 16 = ((U / 16 ^ (k + 1) : Nat) : Int) := by
      rw [Nat.pow_succ, ← Nat.div_div_eq_div_mul]; omega
    have hnext : 16 ≤ U / 16 ^ k → 16 ^ (k + 1) ≤ U := fun h => by
      rw [Nat.pow_succ, Nat.mul_comm]
      exact (Nat.le_div_iff_mul_le (Nat.pow_pos (by decide))).1 h
    have hlast : U / 16 ^ k < 16 → U < 16 ^ (k + 1) := fun h => by
      rw [Nat.pow_succ, Nat.mul_comm]
      exact (Nat.div_lt_iff_lt_mul (Nat.pow_pos (by decide))).1 h
    have hfz : wr.frozen? ⟨w.heap.size, 64 - k, none⟩ = false := hrw.out.frozen _
    have hce : wr.cell? ⟨w.heap.size, 64 - k, none⟩ = some (frow U k (64 - k)) := hrw.out.cell (by omega)
    have hi : (65 : Int) - (k : Int) - 1 = ((64 - k : Nat) : Int) := by omega
    have hd : U / 16 ^ k % 16 < 16 := Nat.mod_lt _ (by decide)
    have hdx : U / 16 ^ k < 16 → U / 16 ^ k % 16 = U / 16 ^ k := fun h => Nat.mod_eq_of_lt h
    have HK := Lib.hid hk
    have HI := Lib.hid hsh
    have HN := Lib.hid hnext
    have HL := Lib.hid hlast
    have HST := Lib.hid hstep
    clear hk hsh hnext hlast hstep hU
    generalize U / 16 ^ k = x at *
    generalize x % 16 = d at *
    have hix := fun W => idx_tab d hd W
    by_cases hx16 : x < 16
    · have hdx' := hdx hx16
      subst hdx'
      clear hdx hand
      have hsl := fun W => slice_buf w.heap.size (64 - k) W (by omega)
      have hcv := buf_text U k w.heap.size (wr.setCell ⟨w.heap.size, 64 - k, none⟩ (.int .u8 (lo d : Nat))) hk7 ((hrw.out.set _ _).congr (fun j _ => HST.out j))
      obtain ⟨S, hS⟩ : ∃ S, S = strOfNums ((lowS U (k + 1)).map Int.ofNat) := ⟨_, rfl⟩
      rw [← hS] at hcv
      have HSS := Lib.hid hS
      clear hS
      go_wp2
      refine bodyPost_ret (v := .tuple #[.slice none 0 0, .string S]) (by simp [results, Tryd.results57, go_sem, *]) rfl ⟨S, ⟨k, hk7, HK.out, HL.out hx16, HSS.out⟩, rfl, hb.out.setCell (Nat.le_refl _) _⟩
    · clear hdx
      go_wp2
      go_roundw
      case rel =>
        exact ⟨k + 1, .inr (HN.out (by omega)), by rw [HI.out], by congr 1; omega, (hrw.out.set _ _).congr (fun j _ => HST.out j), hb.out.setCell (Nat.le_refl _) _⟩
      case measure => simp [intOf]; omega

theorem fu44 (U : Nat) (w : World) (hU : U < 4294967296) (hc : w.cell? ⟨9, 15, none⟩ = some (.int .u8 4)) :
    Calls Tryd.prog 44 #[.int .u64 U, .int .i64 16] w fun e w' => ∃ S, IsLow U S ∧ e = .returned (.string S) ∧ Below w.heap.size w w' := by
  have H := Lib.hid (fb57 U w hU hc)
  clear hc
  go_enter Tryd.func44, Tryd.ntmps44
  go_wp2_with fail
  refine (H.out).mono ?_
  rintro e w' ⟨S, hS, rfl, hb⟩
  have HS := Lib.hid hS
  have HB := Lib.hid hb
  clear hS hb
  go_wp2_with fail
  go_ret
  exact ⟨S, HS.out, rfl, HB.out⟩

theorem fu27 (U : Nat) (w : World) (hU : U < 4294967296) (hc : w.cell? ⟨9, 15, none⟩ = some (.int .u8 4)) :
    Calls Tryd.prog 27 #[.int .u64 U, .int .i64 16] w fun e w' => ∃ S, IsLow U S ∧ e = .returned (.string S) ∧ Below w.heap.size w w' := by
  have H := Lib.hid (fu44 U w hU hc)
  clear hc
  go_enter Tryd.func27, Tryd.ntmps27
  go_wp2_with fail
  refine (H.out).mono ?_
  rintro e w' ⟨S, hS, rfl, hb⟩
  have HS := Lib.hid hS
  have HB := Lib.hid hb
  clear hS hb
  go_wp2_with fail
  go_ret
  exact ⟨S, HS.out, rfl, HB.out⟩

end Go.Proofs.YtjmoinaikedmlaaDoor
