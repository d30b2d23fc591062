/- Contracts: limits of signals -/
import Derived.Test.YtjmlfobljlfngaaD
namespace Go.Proofs.Ytjmlfobljlfngaa
open Go.ChangeShapes Go.WideShapes Go.ChangeAt Go.RowKit

/-- what a signal's struct holds -/
def sigCells (s l : Int) (big sg fl : Bool) (f1 f2 f3 f4 : Nat) : Array Value :=
  #[.int .i64 s, .int .i64 l, .bool big, .bool sg, .bool fl, .float .f64 f1, .float .f64 f2, .float .f64 f3, .float .f64 f4]

/-- what the package's struct of a signal holds -/
def desCells (s l : Int) (big sg fl : Bool) (f1 f2 f3 f4 : Nat) : Array Value :=
  #[.string ⟨#[]⟩, .int .u8 s, .int .u8 l, .bool big, .bool sg, .bool fl, .bool false, .bool false, .int .u64 0, .float .f64 f2, .float .f64 f1, .float .f64 f3, .float .f64 f4, .string ⟨#[]⟩, .string ⟨#[]⟩, .slice none 0 0, .slice none 0 0, .int .i64 0]

theorem pow_cast (l : Nat) : (2 : Int) ^ l = ((2 ^ l : Nat) : Int) := by simp
theorem pow_le {l m : Nat} (h : l ≤ m) : (2 : Nat) ^ l ≤ 2 ^ m := Nat.pow_le_pow_right (by decide) h
theorem pow_dbl {l : Nat} (h : 1 ≤ l) : (2 : Nat) ^ l = 2 * 2 ^ (l - 1) := by
  rw [Nat.mul_comm, ← Nat.pow_succ]; congr 1; omega

theorem maxu_eq {l : Nat} (hl : l ≤ 64) : IntKind.u64.wrap (IntKind.u64.wrap (2 ^ l) - 1) = ((2 ^ l - 1 : Nat) : Int) := by
  have h := pow_le hl
  have h0 := Nat.two_pow_pos l
  rw [pow_cast, IntKind.wrap_u64, IntKind.wrap_u64]
  generalize 2 ^ l = x at *
  omega
theorem maxu_eq2 {l : Nat} (h1 : 1 ≤ l) (hl : l ≤ 64) : IntKind.u64.wrap (IntKind.u64.wrap (2 * 2 ^ (l - 1)) - 1) = ((2 ^ l - 1 : Nat) : Int) := by
  rw [← maxu_eq hl, pow_cast, pow_cast, pow_dbl h1]; simp
theorem mins_eq {l : Nat} (hl : l ≤ 62) : wrap64 (-2 ^ (l - 1)) = -((2 ^ (l - 1) : Nat) : Int) := by
  have h := pow_le (show l - 1 ≤ 61 by omega)
  rw [pow_cast]
  generalize 2 ^ (l - 1) = x at *
  unfold wrap64
  omega
theorem maxs_eq {l : Nat} (hl : l ≤ 62) : wrap64 (IntKind.u64.wrap (IntKind.u64.wrap (2 ^ (l - 1)) - 1)) = ((2 ^ (l - 1) - 1 : Nat) : Int) := by
  have h := pow_le (show l - 1 ≤ 61 by omega)
  have h0 := Nat.two_pow_pos (l - 1)
  rw [pow_cast, IntKind.wrap_u64, IntKind.wrap_u64]
  generalize 2 ^ (l - 1) = x at *
  unfold wrap64
  omega
theorem half_eq {l : Nat} (hl : l ≤ 62) : wrap64 ((wrap64 (2 * 2 ^ (l - 1))).tdiv 2) = ((2 ^ (l - 1) : Nat) : Int) := by
  have h := pow_le (show l - 1 ≤ 61 by omega)
  rw [pow_cast]
  generalize 2 ^ (l - 1) = x at *
  rw [show wrap64 (2 * (x : Int)) = 2 * (x : Int) by unfold wrap64; omega, Int.tdiv_eq_ediv_of_nonneg (by omega)]
  unfold wrap64
  omega
theorem mins_eq2 {l : Nat} (hl : l ≤ 62) : wrap64 (-wrap64 ((wrap64 (2 * 2 ^ (l - 1))).tdiv 2)) = -((2 ^ (l - 1) : Nat) : Int) := by
  rw [half_eq hl]
  have h := pow_le (show l - 1 ≤ 61 by omega)
  generalize 2 ^ (l - 1) = x at *
  unfold wrap64
  omega
theorem maxs_eq2 {l : Nat} (hl : l ≤ 62) : wrap64 (wrap64 ((wrap64 (2 * 2 ^ (l - 1))).tdiv 2) - 1) = ((2 ^ (l - 1) - 1 : Nat) : Int) := by
  rw [half_eq hl]
  have h := pow_le (show l - 1 ≤ 61 by omega)
  have h0 := Nat.two_pow_pos (l - 1)
  generalize 2 ^ (l - 1) = x at *
  unfold wrap64
  omega

theorem max19 (l : Nat) (w : World) (h1 : 1 ≤ l) (hl : l ≤ 64) :
    Calls Try.prog 19 #[.int .i64 l] w fun e w' => e = .returned (.int .u64 ((2 ^ l - 1 : Nat) : Int)) ∧ w = w' := by
  go_enter Try.func19, Try.ntmps19
  go_wp2
  go_ret
  exact ⟨ret_int (maxu_eq hl), rfl⟩

theorem min20 (l : Nat) (w : World) (h1 : 1 ≤ l) (hl : l ≤ 62) :
    Calls Try.prog 20 #[.int .i64 l] w fun e w' => e = .returned (.int .i64 (-((2 ^ (l - 1) : Nat) : Int))) ∧ w = w' := by
  go_enter Try.func20, Try.ntmps20
  go_wp2
  go_ret
  exact ⟨ret_int (mins_eq hl), rfl⟩

theorem maxs21 (l : Nat) (w : World) (h1 : 1 ≤ l) (hl : l ≤ 62) :
    Calls Try.prog 21 #[.int .i64 l] w fun e w' => e = .returned (.int .i64 ((2 ^ (l - 1) - 1 : Nat) : Int)) ∧ w = w' := by
  go_enter Try.func21, Try.ntmps21
  go_wp2
  go_ret
  exact ⟨ret_int (maxs_eq hl), rfl⟩

theorem max47 (b : Nat) (l : Nat) (w : World) (h1 : 1 ≤ l) (hl : l ≤ 64) (hc : w.cell? ⟨b, 2, none⟩ = some (.int .u8 l)) :
    Calls Try.prog 47 #[.pointer (some ⟨b, 0, none⟩)] w fun e w' => e = .returned (.int .u64 ((2 ^ l - 1 : Nat) : Int)) ∧ w = w' := by
  go_enter Try.func47, Try.ntmps47
  go_wp2
  go_ret
  exact ⟨ret_int (maxu_eq2 h1 hl), rfl⟩
theorem min48 (b : Nat) (l : Nat) (w : World) (h1 : 1 ≤ l) (hl : l ≤ 62) (hc : w.cell? ⟨b, 2, none⟩ = some (.int .u8 l)) :
    Calls Try.prog 48 #[.pointer (some ⟨b, 0, none⟩)] w fun e w' => e = .returned (.int .i64 (-((2 ^ (l - 1) : Nat) : Int))) ∧ w = w' := by
  go_enter Try.func48, Try.ntmps48
  go_wp2
  go_ret
  exact ⟨ret_int (mins_eq2 hl), rfl⟩
theorem maxs49 (b : Nat) (l : Nat) (w : World) (h1 : 1 ≤ l) (hl : l ≤ 62) (hc : w.cell? ⟨b, 2, none⟩ = some (.int .u8 l)) :
    Calls Try.prog 49 #[.pointer (some ⟨b, 0, none⟩)] w fun e w' => e = .returned (.int .i64 ((2 ^ (l - 1) - 1 : Nat) : Int)) ∧ w = w' := by
  go_enter Try.func49, Try.ntmps49
  go_wp2
  go_ret
  exact ⟨ret_int (maxs_eq2 hl), rfl⟩

theorem sig46 (s l : Nat) (big sg fl : Bool) (f1 f2 f3 f4 : Nat) (w : World) (hs : s < 64) (h1 : 1 ≤ l) (hl : l ≤ 64) :
    Calls Try.prog 46 #[.agg (sigCells s l big sg fl f1 f2 f3 f4)] w fun e w' => e = .returned (.tuple #[.pointer (some ⟨w.heap.size + 1, 0, none⟩), .bool true]) ∧
      (w.alloc (.cells (sigCells s l big sg fl f1 f2 f3 f4) 26)).alloc (.cells (desCells s l big sg fl f1 f2 f3 f4) 96) = w' := by
  unfold sigCells desCells
  go_enter Try.func46, Try.ntmps46
  go_wp2_with fail
  refine (inside55 s l _ hs hl).mono ?_
  rintro e w' ⟨rfl, rfl⟩
  go_wp2_with fail
  go_ret2
  exact ⟨rfl, rfl⟩

theorem isig17_out (s l : Int) (big sg fl : Bool) (f1 f2 f3 f4 : Nat) (w : World) (h : ¬ (0 ≤ s ∧ s ≤ 63 ∧ 1 ≤ l ∧ l ≤ 64)) :
    Calls Try.prog 17 #[.agg (sigCells s l big sg fl f1 f2 f3 f4)] w fun e w' => e = .returned (.bool false) ∧ Grown w w' := by
  unfold sigCells
  cases fl
  · go_enter Try.func17, Try.ntmps17
    go_wp2_with fail
    refine (range28_out 8 s l big _ (by omega) h).mono ?_
    rintro e w' ⟨rfl, rfl⟩
    go_wp2_with fail
    go_ret
    exact ⟨rfl, (Grown.refl _).alloc _ _⟩
  · go_enter Try.func17, Try.ntmps17
    go_wp2_with fail
    go_ret
    exact ⟨rfl, (Grown.refl _).alloc _ _⟩

theorem isig17 (s l : Nat) (big sg fl : Bool) (f1 f2 f3 f4 : Nat) (w : World) (hs : s < 64) (h1 : 1 ≤ l) (hl : l ≤ 64) :
    Calls Try.prog 17 #[.agg (sigCells s l big sg fl f1 f2 f3 f4)] w fun e w' => e = .returned (.bool (!fl && Pl.okR 8 s l big)) ∧ Grown w w' := by
  unfold sigCells
  cases fl
  · go_enter Try.func17, Try.ntmps17
    go_wp2_with fail
    refine (range28 8 s l big _ (by omega) hs h1 hl).mono ?_
    rintro e w' ⟨rfl, rfl⟩
    go_wp2_with fail
    go_ret
    exact ⟨rfl, (Grown.refl _).alloc _ _⟩
  · go_enter Try.func17, Try.ntmps17
    go_wp2_with fail
    go_ret
    exact ⟨rfl, (Grown.refl _).alloc _ _⟩

theorem lim18 (s l : Nat) (big sg fl : Bool) (f1 f2 f3 f4 : Nat) (w : World) (hs : s < 64) (h1 : 1 ≤ l) (hl : l ≤ 62) :
    Calls Try.prog 18 #[.agg (sigCells s l big sg fl f1 f2 f3 f4)] w fun e w' =>
      e = .returned (.tuple #[.int .u64 ((2 ^ l - 1 : Nat) : Int), .int .i64 (-((2 ^ (l - 1) : Nat) : Int)), .int .i64 ((2 ^ (l - 1) - 1 : Nat) : Int)]) ∧ Grown w w' := by
  have hsig := fun W => sig46 s l big sg fl f1 f2 f3 f4 W hs h1 (by omega)
  unfold sigCells desCells at *
  have H := Lib.hid hsig
  clear hsig
  go_enter Try.func18, Try.ntmps18
  go_wp2_with fail
  refine (H.out _).mono ?_
  rintro e w' ⟨rfl, rfl⟩
  go_wp2_with fail
  refine (max47 _ l _ h1 (by omega) (by go_simp)).mono ?_
  rintro e w' ⟨rfl, rfl⟩
  go_wp2_with fail
  refine (min48 _ l _ h1 hl (by go_simp)).mono ?_
  rintro e w' ⟨rfl, rfl⟩
  go_wp2_with fail
  refine (maxs49 _ l _ h1 hl (by go_simp)).mono ?_
  rintro e w' ⟨rfl, rfl⟩
  go_wp2_with fail
  go_ret3
  exact ⟨rfl, (((Grown.refl _).alloc _ _).alloc _ _).alloc _ _⟩

end Go.Proofs.Ytjmlfobljlfngaa
