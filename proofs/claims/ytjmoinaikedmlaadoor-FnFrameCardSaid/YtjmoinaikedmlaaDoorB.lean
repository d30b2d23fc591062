/- Contracts: IsFrame, frameOf -/
import Derived.Test.YtjmoinaikedmlaaDoorA
namespace Go.Proofs.YtjmoinaikedmlaaDoor
open Go.ChangeShapes Go.WideShapes Go.ChangeAt Go.RowKit
set_option linter.unusedVariables false

theorem idx_arr (N k : Nat) (hk : k < 8) (w : World) : (Instr.index 22 (.agg #[.int .u8 (Pl.byt N 0 : Nat), .int .u8 (Pl.byt N 1 : Nat), .int .u8 (Pl.byt N 2 : Nat), .int .u8 (Pl.byt N 3 : Nat), .int .u8 (Pl.byt N 4 : Nat), .int .u8 (Pl.byt N 5 : Nat), .int .u8 (Pl.byt N 6 : Nat), .int .u8 (Pl.byt N 7 : Nat)]) (.int .i64 (k : Int))).run Tryd.prog w = .ok (.int .u8 (Pl.byt N k : Nat)) w := by
  rcases Pl.lt8_cases hk with rfl | rfl | rfl | rfl | rfl | rfl | rfl | rfl <;> kernel_rfl

/-- the greatest number of a frame -/
def most (ex : Bool) : Int := if ex then 536870911 else 2047
/-- byte i may stand in the frame -/
def okB (n : Int) (N : Nat) (rm : Bool) (i : Nat) : Bool := decide (Pl.byt N i = 0) || (!rm && decide ((i : Int) < n))
/-- whether a frame is one -/
def isFr (id n : Int) (N : Nat) (rm ex : Bool) : Bool :=
  decide (0 ≤ id ∧ id ≤ most ex ∧ 0 ≤ n ∧ n ≤ 8) && (okB n N rm 0 && okB n N rm 1 && okB n N rm 2 && okB n N rm 3 && okB n N rm 4 && okB n N rm 5 && okB n N rm 6 && okB n N rm 7)

theorem isf4_out (id n : Int) (N : Nat) (rm ex : Bool) (w : World) (h : ¬ (0 ≤ id ∧ id ≤ most ex ∧ 0 ≤ n ∧ n ≤ 8)) :
    Calls Tryd.prog 4 #[.agg (frCells id n N rm ex)] w fun e w' => e = .returned (.bool false) ∧ Below w.heap.size w w' := by
  have hB : Below w.heap.size w (w.alloc (.cells (frCells id n N rm ex) 24)) := (Below.refl _ _).alloc (Nat.le_refl _) _
  have hc : id < 0 ∨ (0 ≤ id ∧ most ex < id) ∨ (0 ≤ id ∧ id ≤ most ex ∧ n < 0) ∨ (0 ≤ id ∧ id ≤ most ex ∧ 0 ≤ n ∧ 8 < n) := by omega
  unfold frCells at *
  have HB := Lib.hid hB
  clear hB h
  cases ex
  all_goals
    simp only [most, if_true, if_false, Bool.false_eq_true] at hc
    rcases hc with h | ⟨h, k⟩ | ⟨h, k, m⟩ | ⟨h, k, m, o⟩
    all_goals
      go_enter Tryd.func4, Tryd.ntmps4
      go_wp2_with fail
      go_ret
      exact ⟨rfl, HB.out⟩

/-- byte k is nought, or stands in a frame of bytes -/
def okP (n : Int) (N : Nat) (rm : Bool) (k : Nat) : Prop := Pl.byt N k = 0 ∨ (rm = false ∧ (k : Int) < n)

theorem isf4_yes (id n : Int) (N : Nat) (rm ex : Bool) (w : World) (h : 0 ≤ id ∧ id ≤ most ex ∧ 0 ≤ n ∧ n ≤ 8) (ho : ∀ k, k < 8 → okP n N rm k) :
    Calls Tryd.prog 4 #[.agg (frCells id n N rm ex)] w fun e w' => e = .returned (.bool true) ∧ Below w.heap.size w w' := by
  have hB : Below w.heap.size w (w.alloc (.cells (frCells id n N rm ex) 24)) := (Below.refl _ _).alloc (Nat.le_refl _) _
  obtain ⟨h0, h1, h2, h3⟩ := h
  have hidx := fun (k : Nat) (hk : k < 8) => idx_arr N k hk
  unfold frCells at *
  have HB := Lib.hid hB
  have HO := Lib.hid ho
  have HX := Lib.hid hidx
  clear hB ho hidx
  cases ex
  all_goals
    simp only [most, if_true, if_false, Bool.false_eq_true] at h1
    go_enter Tryd.func4, Tryd.ntmps4
    go_wp2_with fail
    go_loop [29] (fun i => ∃ k : Nat, k ≤ 8 ∧ i = .int .i64 k) (fun i => 8 - (intOf i).toNat)
    case atStart => exact ⟨0, by omega, rfl⟩
    case round =>
      obtain ⟨k, hk, rfl⟩ := hrel
      by_cases hlt : k < 8
      · have hx := HX.out k hlt
        have hok : ((((Pl.byt N k : Nat) : Int) != 0) = false ∧ (((Pl.byt N k : Nat) : Int) == 0) = true) ∨ (rm = false ∧ (k : Int) < n) := by
          rcases HO.out k hlt with h | h
          · left; rw [h]; exact ⟨rfl, rfl⟩
          · exact .inr h
        rcases hok with ⟨hz, hz'⟩ | ⟨rfl, hn⟩
        · go_wp2_with fail
          go_round
          case rel => exact ⟨k + 1, by omega, by go_num⟩
          case measure => simp [intOf]; omega
        · go_wp2_with fail
          all_goals
            go_round
            case rel => exact ⟨k + 1, by omega, by go_num⟩
            case measure => simp [intOf]; omega
      · go_wp2_with fail
        go_ret
        exact ⟨rfl, HB.out⟩

theorem isf4_no (id n : Int) (N : Nat) (rm ex : Bool) (w : World) (h : 0 ≤ id ∧ id ≤ most ex ∧ 0 ≤ n ∧ n ≤ 8) (k0 : Nat) (hk0 : k0 < 8) (ho : ¬ okP n N rm k0) :
    Calls Tryd.prog 4 #[.agg (frCells id n N rm ex)] w fun e w' => e = .returned (.bool false) ∧ Below w.heap.size w w' := by
  have hB : Below w.heap.size w (w.alloc (.cells (frCells id n N rm ex) 24)) := (Below.refl _ _).alloc (Nat.le_refl _) _
  obtain ⟨h0, h1, h2, h3⟩ := h
  have hidx := fun (k : Nat) (hk : k < 8) => idx_arr N k hk
  have ho' : Pl.byt N k0 ≠ 0 ∧ (rm = true ∨ n ≤ (k0 : Int)) := by
    unfold okP at ho
    refine ⟨fun h => ho (.inl h), ?_⟩
    cases rm
    · exact .inr (by
        by_cases hc : n ≤ (k0 : Int)
        · exact hc
        · exact absurd (.inr ⟨rfl, by omega⟩) ho)
    · exact .inl rfl
  unfold frCells at *
  have HB := Lib.hid hB
  have HO := Lib.hid ho'
  have HX := Lib.hid hidx
  clear hB ho hidx ho'
  cases ex
  all_goals
    simp only [most, if_true, if_false, Bool.false_eq_true] at h1
    go_enter Tryd.func4, Tryd.ntmps4
    go_wp2_with fail
    go_loop [29] (fun i => ∃ k : Nat, k ≤ k0 ∧ i = .int .i64 k) (fun i => 8 - (intOf i).toNat)
    case atStart => exact ⟨0, by omega, rfl⟩
    case round =>
      obtain ⟨k, hk, rfl⟩ := hrel
      have hlt : k < 8 := by omega
      have hx := HX.out k hlt
      by_cases hkk : k = k0
      · subst hkk
        obtain ⟨o1, o2⟩ := HO.out
        have hz : (((Pl.byt N k : Nat) : Int) != 0) = true := by rw [bne_iff_ne]; omega
        have hz' : (((Pl.byt N k : Nat) : Int) == 0) = false := by rw [beq_eq_false_iff_ne]; omega
        clear o1
        rcases o2 with rfl | o2
        all_goals
          go_wp2_with fail
          all_goals
            go_ret
            exact ⟨rfl, (Below.refl _ _).alloc (Nat.le_refl _) _⟩
      · by_cases hz0 : Pl.byt N k = 0
        · have hz : (((Pl.byt N k : Nat) : Int) != 0) = false := by rw [hz0]; rfl
          have hz' : (((Pl.byt N k : Nat) : Int) == 0) = true := by rw [hz0]; rfl
          clear hz0
          go_wp2_with fail
          go_round
          case rel => exact ⟨k + 1, by omega, by go_num⟩
          case measure => simp [intOf]; omega
        · have hz : (((Pl.byt N k : Nat) : Int) != 0) = true := by rw [bne_iff_ne]; omega
          have hz' : (((Pl.byt N k : Nat) : Int) == 0) = false := by rw [beq_eq_false_iff_ne]; omega
          clear hz0
          cases rm
          · by_cases hn : (k : Int) < n
            · go_wp2_with fail
              go_round
              case rel => exact ⟨k + 1, by omega, by go_num⟩
              case measure => simp [intOf]; omega
            · go_wp2_with fail
              go_ret
              exact ⟨rfl, (Below.refl _ _).alloc (Nat.le_refl _) _⟩
          · go_wp2_with fail
            go_ret
            exact ⟨rfl, (Below.refl _ _).alloc (Nat.le_refl _) _⟩

end Go.Proofs.YtjmoinaikedmlaaDoor
