/- Contracts and the walk of the law on valid frames -/
import Derived.Test.YtjmlfobljlfngaaF
import Derived.Deep.RegionHeld3
namespace Go.Proofs.Ytjmlfobljlfngaa
open Go.ChangeShapes Go.WideShapes Go.ChangeAt Go.RowKit
set_option linter.unusedVariables false

/-- what the package's frame holds -/
def canCells (id n : Int) (N : Nat) (r x : Bool) : Array Value :=
  #[.int .u32 id, .int .u8 n, .int .u8 (Pl.byt N 0 : Nat), .int .u8 (Pl.byt N 1 : Nat), .int .u8 (Pl.byt N 2 : Nat), .int .u8 (Pl.byt N 3 : Nat), .int .u8 (Pl.byt N 4 : Nat), .int .u8 (Pl.byt N 5 : Nat), .int .u8 (Pl.byt N 6 : Nat), .int .u8 (Pl.byt N 7 : Nat), .bool r, .bool x]

theorem fo50 (id n : Int) (N : Nat) (r x : Bool) (w : World) (h0 : 0 ≤ id) (h1 : id ≤ 4294967295) (h2 : 0 ≤ n) (h3 : n ≤ 255) :
    Calls Try.prog 50 #[.agg (frCells id n N r x)] w fun e w' => e = .returned (.tuple #[.agg (canCells id n N r x), .bool true]) ∧ Grown w w' := by
  unfold frCells canCells
  go_enter Try.func50, Try.ntmps50
  go_wp2_with fail
  exact bodyPost_ret (v := .tuple #[.agg (canCells id n N r x), .bool true]) (by unfold canCells; simp [results, Try.results50, go_sem]) rfl ⟨rfl, ((Grown.refl _).alloc _ _).alloc _ _⟩

theorem va51_yes (b : Nat) (id n : Int) (x : Bool) (w : World) (h0 : 0 ≤ id) (h2 : 0 ≤ n) (h3 : n ≤ 8) (hid : id ≤ if x then 536870911 else 2047)
    (c0 : w.cell? ⟨b, 0, none⟩ = some (.int .u32 id)) (c1 : w.cell? ⟨b, 1, none⟩ = some (.int .u8 n)) (c2 : w.cell? ⟨b, 11, none⟩ = some (.bool x)) :
    Calls Try.prog 51 #[.pointer (some ⟨b, 0, none⟩)] w fun e w' => e = .returned .nilIface ∧ w = w' := by
  cases x
  · simp at hid
    go_enter Try.func51, Try.ntmps51
    go_wp2_with fail
    go_ret
    exact ⟨rfl, rfl⟩
  · simp at hid
    go_enter Try.func51, Try.ntmps51
    go_wp2_with fail
    go_ret
    exact ⟨rfl, rfl⟩

theorem va51_id (b : Nat) (id n : Int) (x : Bool) (w : World) (h0 : 0 ≤ id) (hid : ¬ id ≤ if x then 536870911 else 2047)
    (c0 : w.cell? ⟨b, 0, none⟩ = some (.int .u32 id)) (c1 : w.cell? ⟨b, 1, none⟩ = some (.int .u8 n)) (c2 : w.cell? ⟨b, 11, none⟩ = some (.bool x)) :
    Calls Try.prog 51 #[.pointer (some ⟨b, 0, none⟩)] w (IsErr w) := by
  cases x
  · simp at hid
    go_enter Try.func51, Try.ntmps51
    go_wp2_with fail
    refine (new76 _ _).mono ?_
    rintro e w' ⟨⟨p, rfl⟩, hg⟩
    go_wp2_with fail
    go_ret
    exact ⟨⟨_, rfl⟩, hg⟩
  · simp at hid
    go_enter Try.func51, Try.ntmps51
    go_wp2_with fail
    refine (new76 _ _).mono ?_
    rintro e w' ⟨⟨p, rfl⟩, hg⟩
    go_wp2_with fail
    go_ret
    exact ⟨⟨_, rfl⟩, hg⟩

theorem va51_n (b : Nat) (id n : Int) (x : Bool) (w : World) (h0 : 0 ≤ id) (h2 : 0 ≤ n) (h3 : ¬ n ≤ 8) (hid : id ≤ if x then 536870911 else 2047)
    (c0 : w.cell? ⟨b, 0, none⟩ = some (.int .u32 id)) (c1 : w.cell? ⟨b, 1, none⟩ = some (.int .u8 n)) (c2 : w.cell? ⟨b, 11, none⟩ = some (.bool x)) :
    Calls Try.prog 51 #[.pointer (some ⟨b, 0, none⟩)] w (IsErr w) := by
  cases x
  · simp at hid
    go_enter Try.func51, Try.ntmps51
    go_wp2_with fail
    refine (new76 _ _).mono ?_
    rintro e w' ⟨⟨p, rfl⟩, hg⟩
    go_wp2_with fail
    go_ret
    exact ⟨⟨_, rfl⟩, hg⟩
  · simp at hid
    go_enter Try.func51, Try.ntmps51
    go_wp2_with fail
    refine (new76 _ _).mono ?_
    rintro e w' ⟨⟨p, rfl⟩, hg⟩
    go_wp2_with fail
    go_ret
    exact ⟨⟨_, rfl⟩, hg⟩

def validB (id n : Int) (x : Bool) : Bool := decide (id ≤ if x then 536870911 else 2047) && decide (n ≤ 8)

theorem valid22 (id n : Int) (N : Nat) (r x : Bool) (w : World) (h0 : 0 ≤ id) (h1 : id ≤ 4294967295) (h2 : 0 ≤ n) (h3 : n ≤ 255) :
    Calls Try.prog 22 #[.agg (frCells id n N r x)] w fun e w' => e = .returned (.bool (validB id n x)) ∧ Grown w w' := by
  have hfo := fun W => fo50 id n N r x W h0 h1 h2 h3
  unfold frCells canCells at *
  have H := Lib.hid hfo
  clear hfo
  by_cases hid : id ≤ if x then 536870911 else 2047
  · by_cases hn : n ≤ 8
    · have hv : validB id n x = true := by simp [validB, hid, hn]
      rw [hv]
      clear hv
      have HI := Lib.hid hid
      clear hid
      go_enter Try.func22, Try.ntmps22
      go_wp2_with fail
      refine (H.out _).mono ?_
      rintro e w1 ⟨rfl, hg⟩
      go_wp2_with fail
      refine (va51_yes _ id n x _ h0 h2 hn HI.out (by go_simp) (by go_simp) (by go_simp)).mono ?_
      rintro e w' ⟨rfl, rfl⟩
      go_wp2_with fail
      go_ret
      exact ⟨rfl, (grown_trans ((Grown.refl _).alloc _ _) hg).alloc _ _⟩
    · have hv : validB id n x = false := by simp [validB, hn]
      rw [hv]
      clear hv
      have HI := Lib.hid hid
      clear hid
      go_enter Try.func22, Try.ntmps22
      go_wp2_with fail
      refine (H.out _).mono ?_
      rintro e w1 ⟨rfl, hg⟩
      go_wp2_with fail
      refine (va51_n _ id n x _ h0 h2 (by omega) HI.out (by go_simp) (by go_simp) (by go_simp)).mono ?_
      rintro e w2 ⟨⟨p, rfl⟩, hg2⟩
      go_wp2_with fail
      go_ret
      exact ⟨rfl, grown_trans ((grown_trans ((Grown.refl _).alloc _ _) hg).alloc _ _) hg2⟩
  · have hv : validB id n x = false := by simp [validB, hid]
    rw [hv]
    clear hv
    have HI := Lib.hid hid
    clear hid
    go_enter Try.func22, Try.ntmps22
    go_wp2_with fail
    refine (H.out _).mono ?_
    rintro e w1 ⟨rfl, hg⟩
    go_wp2_with fail
    refine (va51_id _ id n x _ h0 (Int.not_le.mpr HI.out) (by go_simp) (by go_simp) (by go_simp)).mono ?_
    rintro e w2 ⟨⟨p, rfl⟩, hg2⟩
    go_wp2_with fail
    go_ret
    exact ⟨rfl, grown_trans ((grown_trans ((Grown.refl _).alloc _ _) hg).alloc _ _) hg2⟩

/-- a frame of no bytes -/
def zeroFr (id n : Int) (r x : Bool) : Array Value :=
  #[.int .i64 id, .int .i64 n, .int .u8 0, .int .u8 0, .int .u8 0, .int .u8 0, .int .u8 0, .int .u8 0, .int .u8 0, .int .u8 0, .bool r, .bool x]

theorem idx_zero (k : Nat) (hk : k < 8) (w : World) :
    (Instr.index 32 (.agg #[.int .u8 0, .int .u8 0, .int .u8 0, .int .u8 0, .int .u8 0, .int .u8 0, .int .u8 0, .int .u8 0]) (.int .i64 (k : Int))).run Try.prog w = .ok (.int .u8 0) w := by
  rcases Pl.lt8_cases hk with rfl | rfl | rfl | rfl | rfl | rfl | rfl | rfl <;> kernel_rfl

theorem isf23 (id n : Int) (r x : Bool) (w : World) (h0 : 0 ≤ id) (h1 : id ≤ 4294967295) (h2 : 0 ≤ n) (h3 : n ≤ 255) :
    Calls Try.prog 23 #[.agg (zeroFr id n r x)] w fun e w' => e = .returned (.bool (validB id n x)) ∧ Grown w w' := by
  unfold zeroFr
  have hidx := fun (k : Nat) (hk : k < 8) => idx_zero k hk
  have HX := Lib.hid hidx
  clear hidx
  by_cases hid : id ≤ if x then 536870911 else 2047
  · by_cases hn : n ≤ 8
    · have hv : validB id n x = true := by simp [validB, hid, hn]
      rw [hv]
      clear hv
      cases x
      all_goals
        simp at hid
        go_enter Try.func23, Try.ntmps23
        go_wp2_with fail
        go_loop [29] (fun i => ∃ k : Nat, k ≤ 8 ∧ i = .int .i64 k) (fun i => 8 - (intOf i).toNat)
        case atStart => exact ⟨0, by omega, rfl⟩
        case round =>
          obtain ⟨k, hk, rfl⟩ := hrel
          by_cases hlt : k < 8
          · have hx := HX.out k hlt
            go_wp2_with fail
            go_round
            case rel => exact ⟨k + 1, by omega, by go_num⟩
            case measure => simp [intOf]; omega
          · go_wp2_with fail
            go_ret
            exact ⟨rfl, (Grown.refl _).alloc _ _⟩
    · have hv : validB id n x = false := by simp [validB, hn]
      rw [hv]
      clear hv
      cases x
      all_goals
        simp at hid
        go_enter Try.func23, Try.ntmps23
        go_wp2_with fail
        go_ret
        exact ⟨rfl, (Grown.refl _).alloc _ _⟩
  · have hv : validB id n x = false := by simp [validB, hid]
    rw [hv]
    clear hv
    cases x
    all_goals
      simp at hid
      go_enter Try.func23, Try.ntmps23
      go_wp2_with fail
      go_ret
      exact ⟨rfl, (Grown.refl _).alloc _ _⟩

end Go.Proofs.Ytjmlfobljlfngaa
