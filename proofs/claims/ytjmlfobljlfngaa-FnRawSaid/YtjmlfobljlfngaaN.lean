/- Contracts: packing, unpacking; the walk of the law -/
import Derived.Test.YtjmlfobljlfngaaM
import Derived.Test.YtjmlfobljlfngaaK
namespace Go.Proofs.Ytjmlfobljlfngaa
open Go.ChangeShapes Go.WideShapes Go.ChangeAt Go.RowKit
set_option linter.unusedVariables false

theorem pack31 (N : Nat) (big : Bool) (w : World) (hN : N < 2 ^ 64) :
    Calls Try.prog 31 #[.agg (Pl.arr N), .bool big] w fun e w' => e = .returned (.int .u64 (Pl.pk N big : Nat)) ∧ Grown w w' := by
  unfold Pl.arr
  cases big
  · go_enter Try.func31, Try.ntmps31
    go_wp2_with fail
    refine (pack59 _ N _ hN ?_).mono ?_
    · refine ⟨?_, ?_, ?_, ?_, ?_, ?_, ?_, ?_⟩ <;> go_simp
    rintro e w' ⟨rfl, rfl⟩
    go_wp2_with fail
    go_ret
    exact ⟨rfl, ((Grown.refl _).alloc _ _).alloc _ _⟩
  · go_enter Try.func31, Try.ntmps31
    go_wp2_with fail
    refine (pack58 _ N _ ?_).mono ?_
    · refine ⟨?_, ?_, ?_, ?_, ?_, ?_, ?_, ?_⟩ <;> go_simp
    rintro e w' ⟨rfl, rfl⟩
    go_wp2_with fail
    go_ret
    exact ⟨rfl, ((Grown.refl _).alloc _ _).alloc _ _⟩

theorem unpack32 (M : Nat) (big : Bool) (w : World) (hM : M < 2 ^ 64) :
    Calls Try.prog 32 #[.int .u64 M, .bool big] w fun e w' => e = .returned (.agg (Pl.arr (Pl.pk M big))) ∧ Grown w w' := by
  have hst : ∀ (K : Nat) (w1 : World), Upd (w.heap.size + 1) K ((w.alloc (.cells #[.int .u8 0, .int .u8 0, .int .u8 0, .int .u8 0, .int .u8 0, .int .u8 0, .int .u8 0, .int .u8 0] 32)).alloc (.cells #[.int .u8 0, .int .u8 0, .int .u8 0, .int .u8 0, .int .u8 0, .int .u8 0, .int .u8 0, .int .u8 0] 68)) w1 →
      Grown w w1 ∧ ArrAt (w.heap.size + 1) K w1 ∧ ArrAt w.heap.size 0 w1 ∧ ∀ j, w1.frozen? ⟨w.heap.size, j, none⟩ = false := by
    rintro K w1 ⟨hA, hG, hz, hcell, hfr⟩
    refine ⟨hG w (by omega) (((Grown.refl _).alloc _ _).alloc _ _), hA, ArrAt.of fun j hj => ?_, fun j => by rw [hfr]; go_simp⟩
    rw [hcell _ (by simp)]
    rcases Pl.lt8_cases hj with rfl | rfl | rfl | rfl | rfl | rfl | rfl | rfl <;> go_simp <;> simp [Pl.byt]
  have HST := Lib.hid hst
  clear hst
  cases big
  all_goals
    go_enter Try.func32, Try.ntmps32
    go_wp2_with fail
  · refine (unpack61 _ 0 M _ hM ?_ ?_).mono ?_
    · refine ⟨?_, ?_, ?_, ?_, ?_, ?_, ?_, ?_⟩ <;> go_simp <;> simp [Pl.byt]
    · intro j; go_simp
    rintro e w1 ⟨rfl, hU⟩
    obtain ⟨hg, ⟨a0, a1, a2, a3, a4, a5, a6, a7⟩, ⟨c0, c1, c2, c3, c4, c5, c6, c7⟩, hF⟩ := HST.out _ _ hU
    have HG := Lib.hid hg
    clear hU hg
    have f0 := hF 0
    have f1 := hF 1
    have f2 := hF 2
    have f3 := hF 3
    have f4 := hF 4
    have f5 := hF 5
    have f6 := hF 6
    have f7 := hF 7
    clear hF
    go_wp2_with fail
    exact bodyPost_ret (v := .agg (Pl.arr M)) (by unfold Pl.arr; simp [results, Try.results32, go_sem, *]) rfl ⟨rfl, (((((((HG.out.setCell (by simp) _).setCell (by simp) _).setCell (by simp) _).setCell (by simp) _).setCell (by simp) _).setCell (by simp) _).setCell (by simp) _).setCell (by simp) _⟩
  · refine (unpack60 _ 0 M _ hM ?_ ?_).mono ?_
    · refine ⟨?_, ?_, ?_, ?_, ?_, ?_, ?_, ?_⟩ <;> go_simp <;> simp [Pl.byt]
    · intro j; go_simp
    rintro e w1 ⟨rfl, hU⟩
    obtain ⟨hg, ⟨a0, a1, a2, a3, a4, a5, a6, a7⟩, ⟨c0, c1, c2, c3, c4, c5, c6, c7⟩, hF⟩ := HST.out _ _ hU
    have HG := Lib.hid hg
    clear hU hg
    have f0 := hF 0
    have f1 := hF 1
    have f2 := hF 2
    have f3 := hF 3
    have f4 := hF 4
    have f5 := hF 5
    have f6 := hF 6
    have f7 := hF 7
    clear hF
    go_wp2_with fail
    exact bodyPost_ret (v := .agg (Pl.arr (Pl.rev M))) (by unfold Pl.arr; simp [results, Try.results32, go_sem, *]) rfl ⟨rfl, (((((((HG.out.setCell (by simp) _).setCell (by simp) _).setCell (by simp) _).setCell (by simp) _).setCell (by simp) _).setCell (by simp) _).setCell (by simp) _).setCell (by simp) _⟩

theorem idx_arr (N k : Nat) (hk : k < 8) (w : World) : (Instr.index 32 (.agg #[.int .u8 (Pl.byt N 0 : Nat), .int .u8 (Pl.byt N 1 : Nat), .int .u8 (Pl.byt N 2 : Nat), .int .u8 (Pl.byt N 3 : Nat), .int .u8 (Pl.byt N 4 : Nat), .int .u8 (Pl.byt N 5 : Nat), .int .u8 (Pl.byt N 6 : Nat), .int .u8 (Pl.byt N 7 : Nat)]) (.int .i64 (k : Int))).run Try.prog w = .ok (.int .u8 (Pl.byt N k : Nat)) w := by
  rcases Pl.lt8_cases hk with rfl | rfl | rfl | rfl | rfl | rfl | rfl | rfl <;> kernel_rfl

namespace Pl
/-- what the reference has after k bytes -/
def pfx (N k : Nat) : Nat := N % 2 ^ (8 * k)
def sfx (N k : Nat) : Nat := rev N / 2 ^ (64 - 8 * k) * 2 ^ (64 - 8 * k)

theorem pfx_succ (N k : Nat) : pfx N k + byt N k * 2 ^ (8 * k) = pfx N (k + 1) := by
  unfold pfx byt
  rw [show 8 * (k + 1) = 8 * k + 8 by omega, Nat.pow_add, Nat.mod_mul, Nat.mul_comm (2 ^ (8 * k))]
theorem pfx_step {N k : Nat} (hk : k < 8) : bits .or .u64 ((pfx N k : Nat) : Int) (IntKind.u64.wrap (IntKind.u64.wrap ((byt N k : Nat) : Int) * 2 ^ (8 * k))) = ((pfx N (k + 1) : Nat) : Int) := by
  rw [orLE (A := pfx N k) (k := 8 * k) (pow_cast _) (by omega) (byt_lt _ _) (show N % 2 ^ (8 * k) < 2 ^ (8 * k) from Nat.mod_lt _ (Nat.two_pow_pos _)), pfx_succ]
theorem pfx_end {N : Nat} (hN : N < 2 ^ 64) : pfx N 8 = N := Nat.mod_eq_of_lt hN

theorem sfx_succ {N k : Nat} (hk : k < 8) : sfx N k + byt N k * 2 ^ (8 * (7 - k)) = sfx N (k + 1) := by
  have hb : byt N k = byt (rev N) (7 - k) := by rw [byt_rev (by omega)]; congr 1; omega
  rw [hb]
  unfold sfx byt
  rw [show 64 - 8 * (k + 1) = 8 * (7 - k) by omega, show 64 - 8 * k = 8 * (7 - k) + 8 by omega, Nat.pow_add, ← Nat.div_div_eq_div_mul]
  generalize rev N / 2 ^ (8 * (7 - k)) = q
  rw [show (2 : Nat) ^ 8 = 256 from rfl, Nat.mul_comm (2 ^ (8 * (7 - k))) 256, ← Nat.mul_assoc, ← Nat.add_mul]
  congr 1
  omega
theorem sfx_lt {N k : Nat} : sfx N k < 2 ^ 64 := Nat.lt_of_le_of_lt (Nat.div_mul_le_self _ _) (rev_lt N)
theorem sfx_step {N k : Nat} (hk : k < 8) : bits .or .u64 ((sfx N k : Nat) : Int) (IntKind.u64.wrap (IntKind.u64.wrap ((byt N k : Nat) : Int) * 2 ^ (8 * (7 - k)))) = ((sfx N (k + 1) : Nat) : Int) := by
  rw [orBE (k := 8 * (7 - k)) (pow_cast _) (by omega) (byt_lt _ _) sfx_lt (by unfold sfx; rw [show 64 - 8 * k = 8 * (7 - k) + 8 by omega]; exact Nat.mul_mod_left _ _), sfx_succ hk]
theorem sfx_end (N : Nat) : sfx N 8 = rev N := by unfold sfx; simp
theorem sfx_zero (N : Nat) : sfx N 0 = 0 := by
  unfold sfx; rw [Nat.div_eq_of_lt (rev_lt N)]
end Pl

theorem pack30_le (N : Nat) (w : World) (hN : N < 2 ^ 64) :
    Calls Try.prog 30 #[.agg (Pl.arr N), .bool false] w fun e w' => e = .returned (.int .u64 N) ∧ Grown w w' := by
  have hx := fun (k : Nat) (hk : k < 8) => idx_arr N k hk
  unfold Pl.arr
  have HX := Lib.hid hx
  clear hx
  go_enter Try.func30, Try.ntmps30
  go_wp2_with fail
  go_loop [5, 9] (fun o i => ∃ k : Nat, k ≤ 8 ∧ i = .int .i64 k ∧ o = .int .u64 ((Pl.pfx N k : Nat) : Int)) (fun _ i => 8 - (intOf i).toNat)
  case atStart => exact ⟨0, by omega, rfl, by simp [Pl.pfx, Nat.mod_one]⟩
  case round =>
    obtain ⟨k, hk, rfl, rfl⟩ := hrel
    by_cases hlt : k < 8
    · have hx := HX.out k hlt
      go_wp2_with fail
      go_round
      case rel => exact ⟨k + 1, by omega, by go_num, by rw [Pl.pfx_step hlt]⟩
      case measure => simp [intOf]; omega
    · have hk8 : k = 8 := by omega
      subst hk8
      go_wp2_with fail
      go_ret
      exact ⟨ret_int (by rw [Pl.pfx_end hN]), (Grown.refl _).alloc _ _⟩

theorem pack30_be (N : Nat) (w : World) (hN : N < 2 ^ 64) :
    Calls Try.prog 30 #[.agg (Pl.arr N), .bool true] w fun e w' => e = .returned (.int .u64 (Pl.rev N : Nat)) ∧ Grown w w' := by
  have hx := fun (k : Nat) (hk : k < 8) => idx_arr N k hk
  unfold Pl.arr
  have HX := Lib.hid hx
  clear hx
  go_enter Try.func30, Try.ntmps30
  go_wp2_with fail
  go_loop [5, 9] (fun o i => ∃ k : Nat, k ≤ 8 ∧ i = .int .i64 k ∧ o = .int .u64 ((Pl.sfx N k : Nat) : Int)) (fun _ i => 8 - (intOf i).toNat)
  case atStart => exact ⟨0, by omega, rfl, by simp [Pl.sfx_zero]⟩
  case round =>
    obtain ⟨k, hk, rfl, rfl⟩ := hrel
    by_cases hlt : k < 8
    · have hx := HX.out k hlt
      go_wp2_with fail
      go_round
      case rel => exact ⟨k + 1, by omega, by go_num, by rw [← Pl.sfx_step hlt]⟩
      case measure => simp [intOf]; omega
    · have hk8 : k = 8 := by omega
      subst hk8
      go_wp2_with fail
      go_ret
      exact ⟨ret_int (by rw [Pl.sfx_end]), (Grown.refl _).alloc _ _⟩

theorem pack30 (N : Nat) (big : Bool) (w : World) (hN : N < 2 ^ 64) :
    Calls Try.prog 30 #[.agg (Pl.arr N), .bool big] w fun e w' => e = .returned (.int .u64 (Pl.pk N big : Nat)) ∧ Grown w w' := by
  cases big
  · exact pack30_le N w hN
  · exact pack30_be N w hN

theorem pack31_one (w : World) : Calls Try.prog 31 #[.agg #[.int .u8 1, .int .u8 0, .int .u8 0, .int .u8 0, .int .u8 0, .int .u8 0, .int .u8 0, .int .u8 0], .bool false] w fun e w' => e = .returned (.int .u64 1) ∧ Grown w w' := by
  rw [one_arr]
  exact pack31 1 false w (by decide)

theorem walkPack (N : Nat) (big : Bool) (w : World) (hN : N < 2 ^ 64) :
    Calls Try.prog 8 #[.agg (Pl.arr N), .bool big] w fun e w' => e = .returned (.bool true) ∧ Grown w w' := by
  have h30 := fun W => pack30 N big W hN
  have h31 := fun W => pack31 N big W hN
  have h32 := fun W => unpack32 (Pl.pk N big) big W (Pl.pk_lt hN big)
  rw [Pl.pk_pk hN] at h32
  have hn := ArrAt.new w N 32
  have hq := fun W => eq_arr N W
  generalize Pl.pk N big = M at *
  unfold Pl.arr at *
  have H30 := Lib.hid h30
  have H31 := Lib.hid h31
  have H32 := Lib.hid h32
  have HN := Lib.hid hn
  have HQ := Lib.hid hq
  clear h30 h31 h32 hn hq
  go_enter Try.func8, Try.ntmps8
  go_wp2_with fail
  refine (H30.out _).mono ?_
  rintro e w1 ⟨rfl, hg⟩
  obtain ⟨c0, c1, c2, c3, c4, c5, c6, c7⟩ := HN.out.grown hg (by simp)
  go_wp2_with fail
  refine wp_world (fun W => Grown w W ∧ ArrAt w.heap.size N W ∧ w.heap.size < W.heap.size) ⟨grown_trans ((Grown.refl _).alloc _ _) hg, HN.out.grown hg (by simp), by have := hg.2.2; simp at this; omega⟩ ?_
  clear c0 c1 c2 c3 c4 c5 c6 c7 hg
  rintro W ⟨hgW, hT, hz⟩
  have HS := Lib.hid (fun w1 (h : Grown W w1) => hT.grown h hz)
  have HG := Lib.hid hgW
  clear hgW HN
  generalize w.heap.size = b at *
  obtain ⟨c0, c1, c2, c3, c4, c5, c6, c7⟩ := hT
  have HE := HQ.out
  go_region_held3 (fun w' => Grown W w' ∧ w'.cell? ⟨b, 0, none⟩ = some (.int .u8 (Pl.byt N 0 : Nat)) ∧ w'.cell? ⟨b, 1, none⟩ = some (.int .u8 (Pl.byt N 1 : Nat)) ∧ w'.cell? ⟨b, 2, none⟩ = some (.int .u8 (Pl.byt N 2 : Nat)) ∧ w'.cell? ⟨b, 3, none⟩ = some (.int .u8 (Pl.byt N 3 : Nat)) ∧ w'.cell? ⟨b, 4, none⟩ = some (.int .u8 (Pl.byt N 4 : Nat)) ∧ w'.cell? ⟨b, 5, none⟩ = some (.int .u8 (Pl.byt N 5 : Nat)) ∧ w'.cell? ⟨b, 6, none⟩ = some (.int .u8 (Pl.byt N 6 : Nat)) ∧ w'.cell? ⟨b, 7, none⟩ = some (.int .u8 (Pl.byt N 7 : Nat)))
    (first | exact ⟨(Grown.refl _).drew, HS.out _ (Grown.refl _).drew⟩ | exact keepS HS (by assumption) (And.left (by assumption)))
    (first
      | (go_at_call 32; refine (H32.out _).mono ?_; rintro e w1 ⟨rfl, hg⟩)
      | (go_at_call_of 31 (Value.agg #[.int .u8 1, .int .u8 0, .int .u8 0, .int .u8 0, .int .u8 0, .int .u8 0, .int .u8 0, .int .u8 0]); refine (pack31_one _).mono ?_; rintro e w1 ⟨rfl, hg⟩)
      | (go_at_call_of 31 (Value.agg #[.int .u8 (Pl.byt N 0 : Nat), .int .u8 (Pl.byt N 1 : Nat), .int .u8 (Pl.byt N 2 : Nat), .int .u8 (Pl.byt N 3 : Nat), .int .u8 (Pl.byt N 4 : Nat), .int .u8 (Pl.byt N 5 : Nat), .int .u8 (Pl.byt N 6 : Nat), .int .u8 (Pl.byt N 7 : Nat)]); refine (H31.out _).mono ?_; rintro e w1 ⟨rfl, hg⟩))
  go_wp2_with fail
  go_ret
  exact ⟨rfl, grown_trans HG.out (And.left (by assumption))⟩

end Go.Proofs.Ytjmlfobljlfngaa
