/- Contracts: eight bytes as one number -/
import Derived.Test.YtjmlfobljlfngaaL
namespace Go.Proofs.Ytjmlfobljlfngaa
open Go.ChangeShapes Go.WideShapes Go.ChangeAt Go.RowKit
set_option linter.unusedVariables false
namespace Pl

theorem or_add {A B k : Nat} (hB : B < 2 ^ k) (hA : A % 2 ^ k = 0) : A ||| B = A + B := by
  obtain ⟨m, rfl⟩ : ∃ m, A = 2 ^ k * m := ⟨A / 2 ^ k, by rw [Nat.mul_comm]; exact (Nat.div_mul_cancel (Nat.dvd_of_mod_eq_zero hA)).symm⟩
  exact (Nat.two_pow_add_eq_or_of_lt hB m).symm

/-- a byte's place, as the walk shows it -/
theorem wrap_byte {x c : Nat} (h : x < 256) (hx : x * c < 2 ^ 64) : IntKind.u64.wrap (IntKind.u64.wrap (x : Int) * (c : Int)) = ((x * c : Nat) : Int) := by
  rw [show IntKind.u64.wrap (x : Int) = (x : Int) by rw [IntKind.wrap_u64]; omega, ← Int.natCast_mul, IntKind.wrap_u64]
  generalize x * c = y at *
  omega

theorem orw {A x c : Nat} (h : x < 256) (hA : A < 2 ^ 64) (hx : x * c < 2 ^ 64) : bits .or .u64 (A : Int) (IntKind.u64.wrap (IntKind.u64.wrap (x : Int) * (c : Int))) = ((A ||| x * c : Nat) : Int) := by
  rw [wrap_byte h hx, bits_or_u64_nat _ _ hA hx]

/-- little ends: below, then above -/
theorem orLE {A x k : Nat} {c : Int} (hc : c = ((2 ^ k : Nat) : Int)) (hk : k ≤ 56) (h : x < 256) (hA : A < 2 ^ k) : bits .or .u64 (A : Int) (IntKind.u64.wrap (IntKind.u64.wrap (x : Int) * c)) = ((A + x * 2 ^ k : Nat) : Int) := by
  subst hc
  have h1 : 2 ^ k ≤ 2 ^ 56 := pow_le hk
  have h2 : x * 2 ^ k ≤ 255 * 2 ^ k := Nat.mul_le_mul_right _ (by omega)
  rw [orw h (by omega) (by omega), Nat.or_comm, or_add hA (Nat.mul_mod_left _ _), Nat.add_comm]

/-- big ends: above, then below -/
theorem orBE {A x k : Nat} {c : Int} (hc : c = ((2 ^ k : Nat) : Int)) (hk : k ≤ 56) (h : x < 256) (hA : A < 2 ^ 64) (hm : A % 2 ^ (k + 8) = 0) : bits .or .u64 (A : Int) (IntKind.u64.wrap (IntKind.u64.wrap (x : Int) * c)) = ((A + x * 2 ^ k : Nat) : Int) := by
  subst hc
  have h1 : 2 ^ k ≤ 2 ^ 56 := pow_le hk
  have h2 : x * 2 ^ k ≤ 255 * 2 ^ k := Nat.mul_le_mul_right _ (by omega)
  have h3 : x * 2 ^ k < 2 ^ (k + 8) := by rw [Nat.pow_add]; have := Nat.two_pow_pos k; omega
  rw [orw h hA (by omega), or_add h3 hm]

theorem one_mul' (x : Nat) : IntKind.u64.wrap (IntKind.u64.wrap (x : Int)) = IntKind.u64.wrap (IntKind.u64.wrap (x : Int) * ((2 ^ 0 : Nat) : Int)) := by simp

theorem pack_le (N : Nat) (hN : N < 2 ^ 64) : (bits BinOp.or IntKind.u64 (bits BinOp.or IntKind.u64 (bits BinOp.or IntKind.u64 (bits BinOp.or IntKind.u64 (bits BinOp.or IntKind.u64 (bits BinOp.or IntKind.u64 (bits BinOp.or IntKind.u64 (bits BinOp.or IntKind.u64 0 (IntKind.u64.wrap (IntKind.u64.wrap ↑(Pl.byt N 0)))) (IntKind.u64.wrap (IntKind.u64.wrap ↑(Pl.byt N 1) * 256))) (IntKind.u64.wrap (IntKind.u64.wrap ↑(Pl.byt N 2) * 65536))) (IntKind.u64.wrap (IntKind.u64.wrap ↑(Pl.byt N 3) * 16777216))) (IntKind.u64.wrap (IntKind.u64.wrap ↑(Pl.byt N 4) * 4294967296))) (IntKind.u64.wrap (IntKind.u64.wrap ↑(Pl.byt N 5) * 1099511627776))) (IntKind.u64.wrap (IntKind.u64.wrap ↑(Pl.byt N 6) * 281474976710656))) (IntKind.u64.wrap (IntKind.u64.wrap ↑(Pl.byt N 7) * 72057594037927936))) = (N : Int) := by
  have b0 := byt_lt N 0
  have b1 := byt_lt N 1
  have b2 := byt_lt N 2
  have b3 := byt_lt N 3
  have b4 := byt_lt N 4
  have b5 := byt_lt N 5
  have b6 := byt_lt N 6
  have b7 := byt_lt N 7
  have hp := pack_byt hN
  unfold pack8 at hp
  generalize byt N 0 = x0 at *
  generalize byt N 1 = x1 at *
  generalize byt N 2 = x2 at *
  generalize byt N 3 = x3 at *
  generalize byt N 4 = x4 at *
  generalize byt N 5 = x5 at *
  generalize byt N 6 = x6 at *
  generalize byt N 7 = x7 at *
  rw [one_mul' x0, show (0 : Int) = ((0 : Nat) : Int) from rfl]
  rw [orLE (A := 0) (x := x0) (k := 0) rfl (by omega) b0 (by omega)]
  rw [orLE (A := 0 + x0 * 2 ^ 0) (x := x1) (k := 8) (c := 256) rfl (by omega) b1 (by omega)]
  rw [orLE (A := 0 + x0 * 2 ^ 0 + x1 * 2 ^ 8) (x := x2) (k := 16) (c := 65536) rfl (by omega) b2 (by omega)]
  rw [orLE (A := 0 + x0 * 2 ^ 0 + x1 * 2 ^ 8 + x2 * 2 ^ 16) (x := x3) (k := 24) (c := 16777216) rfl (by omega) b3 (by omega)]
  rw [orLE (A := 0 + x0 * 2 ^ 0 + x1 * 2 ^ 8 + x2 * 2 ^ 16 + x3 * 2 ^ 24) (x := x4) (k := 32) (c := 4294967296) rfl (by omega) b4 (by omega)]
  rw [orLE (A := 0 + x0 * 2 ^ 0 + x1 * 2 ^ 8 + x2 * 2 ^ 16 + x3 * 2 ^ 24 + x4 * 2 ^ 32) (x := x5) (k := 40) (c := 1099511627776) rfl (by omega) b5 (by omega)]
  rw [orLE (A := 0 + x0 * 2 ^ 0 + x1 * 2 ^ 8 + x2 * 2 ^ 16 + x3 * 2 ^ 24 + x4 * 2 ^ 32 + x5 * 2 ^ 40) (x := x6) (k := 48) (c := 281474976710656) rfl (by omega) b6 (by omega)]
  rw [orLE (A := 0 + x0 * 2 ^ 0 + x1 * 2 ^ 8 + x2 * 2 ^ 16 + x3 * 2 ^ 24 + x4 * 2 ^ 32 + x5 * 2 ^ 40 + x6 * 2 ^ 48) (x := x7) (k := 56) (c := 72057594037927936) rfl (by omega) b7 (by omega)]
  congr 1
  omega

theorem pack_be (N : Nat) : (bits BinOp.or IntKind.u64 (bits BinOp.or IntKind.u64 (bits BinOp.or IntKind.u64 (bits BinOp.or IntKind.u64 (bits BinOp.or IntKind.u64 (bits BinOp.or IntKind.u64 (bits BinOp.or IntKind.u64 (bits BinOp.or IntKind.u64 0 (IntKind.u64.wrap (IntKind.u64.wrap ↑(Pl.byt N 0) * 72057594037927936))) (IntKind.u64.wrap (IntKind.u64.wrap ↑(Pl.byt N 1) * 281474976710656))) (IntKind.u64.wrap (IntKind.u64.wrap ↑(Pl.byt N 2) * 1099511627776))) (IntKind.u64.wrap (IntKind.u64.wrap ↑(Pl.byt N 3) * 4294967296))) (IntKind.u64.wrap (IntKind.u64.wrap ↑(Pl.byt N 4) * 16777216))) (IntKind.u64.wrap (IntKind.u64.wrap ↑(Pl.byt N 5) * 65536))) (IntKind.u64.wrap (IntKind.u64.wrap ↑(Pl.byt N 6) * 256))) (IntKind.u64.wrap (IntKind.u64.wrap ↑(Pl.byt N 7)))) = (rev N : Int) := by
  have b0 := byt_lt N 0
  have b1 := byt_lt N 1
  have b2 := byt_lt N 2
  have b3 := byt_lt N 3
  have b4 := byt_lt N 4
  have b5 := byt_lt N 5
  have b6 := byt_lt N 6
  have b7 := byt_lt N 7
  unfold rev pack8
  generalize byt N 0 = x0 at *
  generalize byt N 1 = x1 at *
  generalize byt N 2 = x2 at *
  generalize byt N 3 = x3 at *
  generalize byt N 4 = x4 at *
  generalize byt N 5 = x5 at *
  generalize byt N 6 = x6 at *
  generalize byt N 7 = x7 at *
  rw [one_mul' x7, show (0 : Int) = ((0 : Nat) : Int) from rfl]
  rw [orBE (A := 0) (x := x0) (k := 56) (c := 72057594037927936) rfl (by omega) b0 (by omega) (by omega)]
  rw [orBE (A := 0 + x0 * 2 ^ 56) (x := x1) (k := 48) (c := 281474976710656) rfl (by omega) b1 (by omega) (by omega)]
  rw [orBE (A := 0 + x0 * 2 ^ 56 + x1 * 2 ^ 48) (x := x2) (k := 40) (c := 1099511627776) rfl (by omega) b2 (by omega) (by omega)]
  rw [orBE (A := 0 + x0 * 2 ^ 56 + x1 * 2 ^ 48 + x2 * 2 ^ 40) (x := x3) (k := 32) (c := 4294967296) rfl (by omega) b3 (by omega) (by omega)]
  rw [orBE (A := 0 + x0 * 2 ^ 56 + x1 * 2 ^ 48 + x2 * 2 ^ 40 + x3 * 2 ^ 32) (x := x4) (k := 24) (c := 16777216) rfl (by omega) b4 (by omega) (by omega)]
  rw [orBE (A := 0 + x0 * 2 ^ 56 + x1 * 2 ^ 48 + x2 * 2 ^ 40 + x3 * 2 ^ 32 + x4 * 2 ^ 24) (x := x5) (k := 16) (c := 65536) rfl (by omega) b5 (by omega) (by omega)]
  rw [orBE (A := 0 + x0 * 2 ^ 56 + x1 * 2 ^ 48 + x2 * 2 ^ 40 + x3 * 2 ^ 32 + x4 * 2 ^ 24 + x5 * 2 ^ 16) (x := x6) (k := 8) (c := 256) rfl (by omega) b6 (by omega) (by omega)]
  rw [orBE (A := 0 + x0 * 2 ^ 56 + x1 * 2 ^ 48 + x2 * 2 ^ 40 + x3 * 2 ^ 32 + x4 * 2 ^ 24 + x5 * 2 ^ 16 + x6 * 2 ^ 8) (x := x7) (k := 0) rfl (by omega) b7 (by omega) (by omega)]
  congr 1
  omega

theorem upd_all {b N M : Nat} {w : World} (hM : M < 2 ^ 64) (hA : ArrAt b N w) {x0 x1 x2 x3 x4 x5 x6 x7 : Int} (e0 : x0 = (byt M 0 : Nat)) (e1 : x1 = (byt M 1 : Nat)) (e2 : x2 = (byt M 2 : Nat)) (e3 : x3 = (byt M 3 : Nat))
    (e4 : x4 = (byt M 4 : Nat)) (e5 : x5 = (byt M 5 : Nat)) (e6 : x6 = (byt M 6 : Nat)) (e7 : x7 = (byt M 7 : Nat)) :
    Upd b M w ((((((((w.setCell ⟨b, 0, none⟩ (.int .u8 x0)).setCell ⟨b, 1, none⟩ (.int .u8 x1)).setCell ⟨b, 2, none⟩ (.int .u8 x2)).setCell ⟨b, 3, none⟩ (.int .u8 x3)).setCell ⟨b, 4, none⟩ (.int .u8 x4)).setCell ⟨b, 5, none⟩ (.int .u8 x5)).setCell ⟨b, 6, none⟩ (.int .u8 x6)).setCell ⟨b, 7, none⟩ (.int .u8 x7)) := by
  subst e0 e1 e2 e3 e4 e5 e6 e7
  obtain ⟨c0, c1, c2, c3, c4, c5, c6, c7⟩ := hA
  refine ⟨?_, fun W hW hg => (((((((hg.setCell hW _).setCell hW _).setCell hW _).setCell hW _).setCell hW _).setCell hW _).setCell hW _).setCell hW _, by simp, fun p hp => ?_, fun p => by simp⟩
  · refine ⟨?_, ?_, ?_, ?_, ?_, ?_, ?_, ?_⟩ <;> simp [go_sem, *]
  · have h : ∀ j, (⟨b, j, none⟩ : Addr).block ≠ p.block := fun j h => hp h.symm
    rw [World.cell?_setCell_far _ _ _ _ (h 7), World.cell?_setCell_far _ _ _ _ (h 6), World.cell?_setCell_far _ _ _ _ (h 5), World.cell?_setCell_far _ _ _ _ (h 4), World.cell?_setCell_far _ _ _ _ (h 3), World.cell?_setCell_far _ _ _ _ (h 2), World.cell?_setCell_far _ _ _ _ (h 1), World.cell?_setCell_far _ _ _ _ (h 0)]
end Pl

theorem pack59 (b N : Nat) (w : World) (hN : N < 2 ^ 64) (hA : ArrAt b N w) :
    Calls Try.prog 59 #[.pointer (some ⟨b, 0, none⟩)] w fun e w' => e = .returned (.int .u64 N) ∧ w = w' := by
  obtain ⟨c0, c1, c2, c3, c4, c5, c6, c7⟩ := hA
  go_enter Try.func59, Try.ntmps59
  go_wp2_with fail
  go_ret
  exact ⟨ret_int (Pl.pack_le N hN), rfl⟩
theorem pack58 (b N : Nat) (w : World) (hA : ArrAt b N w) :
    Calls Try.prog 58 #[.pointer (some ⟨b, 0, none⟩)] w fun e w' => e = .returned (.int .u64 (Pl.rev N : Nat)) ∧ w = w' := by
  obtain ⟨c0, c1, c2, c3, c4, c5, c6, c7⟩ := hA
  go_enter Try.func58, Try.ntmps58
  go_wp2_with fail
  go_ret
  exact ⟨ret_int (Pl.pack_be N), rfl⟩

theorem Pl.sh (M c j : Nat) (h : Pl.byt M j = M / c % 256) : (M : Int) / (c : Int) % 256 = (Pl.byt M j : Nat) := by rw [h]; simp
theorem unpack61 (b N M : Nat) (w : World) (hM : M < 2 ^ 64) (hA : ArrAt b N w) (hf : ∀ j, w.frozen? ⟨b, j, none⟩ = false) :
    Calls Try.prog 61 #[.pointer (some ⟨b, 0, none⟩), .int .u64 M] w fun e w' => e = .returned (.tuple #[]) ∧ Upd b M w w' := by
  have HA := Lib.hid hA
  obtain ⟨c0, c1, c2, c3, c4, c5, c6, c7⟩ := hA
  have f0 := hf 0
  have f1 := hf 1
  have f2 := hf 2
  have f3 := hf 3
  have f4 := hf 4
  have f5 := hf 5
  have f6 := hf 6
  have f7 := hf 7
  clear hf
  go_enter Try.func61, Try.ntmps61
  go_wp2_with fail
  go_end0
  exact ⟨rfl, Pl.upd_all hM HA.out (by rw [Pl.byt_0]; omega) (by rw [Pl.byt_1]; omega) (by rw [Pl.byt_2]; omega) (by rw [Pl.byt_3]; omega) (by rw [Pl.byt_4]; omega) (by rw [Pl.byt_5]; omega) (by rw [Pl.byt_6]; omega) (by rw [Pl.byt_7]; omega)⟩
theorem unpack60 (b N M : Nat) (w : World) (hM : M < 2 ^ 64) (hA : ArrAt b N w) (hf : ∀ j, w.frozen? ⟨b, j, none⟩ = false) :
    Calls Try.prog 60 #[.pointer (some ⟨b, 0, none⟩), .int .u64 M] w fun e w' => e = .returned (.tuple #[]) ∧ Upd b (Pl.rev M) w w' := by
  have HA := Lib.hid hA
  obtain ⟨c0, c1, c2, c3, c4, c5, c6, c7⟩ := hA
  have f0 := hf 0
  have f1 := hf 1
  have f2 := hf 2
  have f3 := hf 3
  have f4 := hf 4
  have f5 := hf 5
  have f6 := hf 6
  have f7 := hf 7
  clear hf
  go_enter Try.func60, Try.ntmps60
  go_wp2_with fail
  go_end0
  exact ⟨rfl, Pl.upd_all (Pl.rev_lt M) HA.out (by rw [Pl.byt_rev (by decide), Pl.byt_7]; omega) (by rw [Pl.byt_rev (by decide), Pl.byt_6]; omega) (by rw [Pl.byt_rev (by decide), Pl.byt_5]; omega) (by rw [Pl.byt_rev (by decide), Pl.byt_4]; omega) (by rw [Pl.byt_rev (by decide), Pl.byt_3]; omega) (by rw [Pl.byt_rev (by decide), Pl.byt_2]; omega) (by rw [Pl.byt_rev (by decide), Pl.byt_1]; omega) (by rw [Pl.byt_rev (by decide), Pl.byt_0]; omega)⟩

end Go.Proofs.Ytjmlfobljlfngaa
