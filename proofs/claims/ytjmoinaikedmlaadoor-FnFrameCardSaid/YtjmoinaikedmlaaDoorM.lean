/- Contracts: ParseUint at base 16 -/
import Derived.Test.YtjmoinaikedmlaaDoorL
namespace Go.Proofs.YtjmoinaikedmlaaDoor
open Go.ChangeShapes Go.WideShapes Go.ChangeAt Go.RowKit
set_option linter.unusedVariables false

theorem low37 (d : Nat) (h1 : 10 ≤ d) (h2 : d < 16) (w : World) : Calls Tryd.prog 37 #[.int .u8 (55 + (d : Int))] w fun e w' => e = .returned (.int .u8 (87 + (d : Int))) ∧ w = w' := by
  have hc : d = 10 ∨ d = 11 ∨ d = 12 ∨ d = 13 ∨ d = 14 ∨ d = 15 := by omega
  rcases hc with rfl | rfl | rfl | rfl | rfl | rfl
  all_goals
    go_enter Tryd.func37, Tryd.ntmps37
    go_wp2
    go_ret
    exact ⟨ret_int (by decide), rfl⟩

theorem or32 : bits BinOp.or IntKind.u8 65 32 = 97 ∧ bits BinOp.or IntKind.u8 66 32 = 98 ∧ bits BinOp.or IntKind.u8 67 32 = 99 ∧ bits BinOp.or IntKind.u8 68 32 = 100 ∧ bits BinOp.or IntKind.u8 69 32 = 101 ∧ bits BinOp.or IntKind.u8 70 32 = 102 := by
  refine ⟨?_, ?_, ?_, ?_, ?_, ?_⟩ <;> decide

theorem up_toNat (d : Nat) (h : d < 16) : (dig d).toNat = up d := by
  rcases cases16 h with rfl | rfl | rfl | rfl | rfl | rfl | rfl | rfl | rfl | rfl | rfl | rfl | rfl | rfl | rfl | rfl <;> rfl

set_option maxRecDepth 100000 in
set_option maxHeartbeats 4000000 in
theorem pu22 (U D : Nat) (s : ByteArray) (w : World) (hs : s.data.toList = hexS U D) (hU : U < 16 ^ D) (h1 : 1 ≤ D) (h8 : D ≤ 8) :
    Calls Tryd.prog 22 #[.string s, .int .i64 16, .int .i64 32] w fun e w' => e = .returned (.tuple #[.int .u64 U, .nilIface]) ∧ Below w.heap.size w w' := by
  have hsz : s.size = D := by rw [sz_list, hs, hexS_length]
  have h32 : U < 4294967296 := Nat.lt_of_lt_of_le hU (by
    have := Nat.pow_le_pow_right (n := 16) (by decide) h8
    omega)
  have hcv := fun (w : World) (s : ByteArray) => Lib.run_convert_string_bytes (P := Tryd.prog) w 9 38 5 s Tryd.underlying9 Tryd.underlying38 Tryd.underlying5
  have hcell : ∀ k, k < D → (Lib.bytesWorld w 5 s).cell? ⟨w.heap.size, k, none⟩ = some (.int .u8 (up (fj U D k) : Nat)) := fun k hk => by
    rw [Lib.bytesWorld_cell w 5 s k (by omega), hs, List.getD_eq_getElem?_getD, hexS_get U D k hk]
    simp only [Option.getD_some]
    rw [up_toNat _ (fj_lt U D k)]
  have hstep : ∀ k, k < D → U / 16 ^ (D - k) * 16 + fj U D k = U / 16 ^ (D - (k + 1)) := fun k hk => by
    unfold fj
    obtain ⟨j, hj⟩ : ∃ j, D - k = j + 1 := ⟨D - k - 1, by omega⟩
    rw [hj, show D - (k + 1) = j by omega, show D - 1 - k = j by omega, Nat.pow_succ, ← Nat.div_div_eq_div_mul]
    omega
  have hle : ∀ k, U / 16 ^ k ≤ U := fun k => Nat.div_le_self _ _
  have hc := hcv w s
  rw [hsz] at hc
  have hB := below_bytes w s
  generalize Lib.bytesWorld w 5 s = W1 at *
  have HC := Lib.hid hcell
  have HST := Lib.hid hstep
  have HLE := Lib.hid hle
  have HB := Lib.hid hB
  have HL := Lib.hid low37
  have hne : s.toList.isEmpty = false := by
    rw [ByteArray.toList_eq]
    cases hl : s.data.toList with
    | nil => rw [sz_list, hl] at hsz; simp at hsz; omega
    | cons _ _ => rfl
  have h0 : U / 16 ^ D = 0 := Nat.div_eq_of_lt hU
  have H0 := Lib.hid h0
  clear h0 hcv hcell hstep hle hB hs hU
  go_enter Tryd.func22, Tryd.ntmps22
  go_wp2_with fail
  go_loop [12, 13, 101] (fun vu vn vi => ∃ k : Nat, k ≤ D ∧ vu = .bool false ∧ vn = .int .u64 ((U / 16 ^ (D - k) : Nat) : Int) ∧ vi = .int .i64 (k : Int)) (fun _ _ vi => D - (intOf vi).toNat)
  case atStart => exact ⟨0, by omega, rfl, by rw [Nat.sub_zero, H0.out]; rfl, rfl⟩
  case round =>
    obtain ⟨k, hk, rfl, rfl, rfl⟩ := hrel
    by_cases hlt : k < D
    · have hcl := HC.out k hlt
      have hst := HST.out k hlt
      have hle := HLE.out (D - (k + 1))
      have hd := fj_lt U D k
      generalize fj U D k = d at *
      obtain ⟨m, hm⟩ : ∃ m, m = U / 16 ^ (D - (k + 1)) := ⟨_, rfl⟩
      rw [← hm] at hst hle
      have HM := Lib.hid hm
      clear hm
      generalize U / 16 ^ (D - k) = n at *
      have hq : n ≤ 268435455 := by omega
      have hdc : decide ((1152921504606846976 : Int) ≤ (n : Int)) = false := by rw [decide_eq_false_iff_not]; omega
      have HLE2 := Lib.hid hle
      subst hst
      have hle2 : n * 16 + d < 4294967296 := by omega
      clear hle
      by_cases h10 : d < 10
      · have e : ((up d : Nat) : Int) = 48 + (d : Int) := by unfold up; rw [if_pos h10]; omega
        have h95 : (48 + (d : Int) == 95) = false := by rw [beq_eq_false_iff_ne]; omega
        rw [e] at hcl
        clear e
        go_wp2
        go_round
        case rel => exact ⟨k + 1, by omega, rfl, by rw [← HM.out]; congr 1; omega, by go_num⟩
        case measure => simp [intOf]; omega
      · have e : ((up d : Nat) : Int) = 55 + (d : Int) := by unfold up; rw [if_neg h10]; omega
        have h95 : (55 + (d : Int) == 95) = false := by rw [beq_eq_false_iff_ne]; omega
        have hl37 := fun W => HL.out d (by omega) hd W
        have HL7 := Lib.hid hl37
        rw [e] at hcl
        clear e hl37
        go_wp2_with (go_at_call 37; refine (HL7.out _).mono ?_; rintro e w' ⟨rfl, rfl⟩)
        go_round
        case rel => exact ⟨k + 1, by omega, rfl, by rw [← HM.out]; congr 1; omega, by go_num⟩
        case measure => simp [intOf]; omega
    · have hke : k = D := by omega
      subst hke
      have e0 : U / 16 ^ (k - k) = U := by rw [Nat.sub_self]; simp
      rw [e0]
      clear e0
      go_wp2_with fail
      exact bodyPost_ret (v := .tuple #[.int .u64 U, .nilIface]) (by simp [results, Tryd.results22, go_sem, *]) rfl ⟨rfl, HB.out⟩

end Go.Proofs.YtjmoinaikedmlaaDoor
