/- Contracts: small, scaled, Clamped, Has -/
import Derived.Test.YtfffcmjpkpdmlaaM1
namespace Go.Proofs.Ytfffcmjpkpdmlaa
open Go.ChangeShapes Go.WideShapes Go.ChangeAt Go.RowKit
set_option linter.unusedVariables false

/-- a number of at most a million, either way -/
def milli (a : Int) : Prop := -1000000 ≤ a ∧ a ≤ 1000000

theorem small6_yes (b n : Nat) (f : Nat → Int) (w : World) (hn : n ≤ 5) (hc : ∀ i, i < n → w.cell? ⟨b, i, none⟩ = some (.int .i64 (f i))) (h : ∀ i, i < n → milli (f i)) :
    Calls Try.prog 6 #[.slice (some ⟨b, 0, none⟩) n n] w fun e w' => e = .returned (.bool true) ∧ w = w' := by
  have HC := Lib.hid hc
  have HM := Lib.hid h
  clear hc h
  go_enter Try.func6, Try.ntmps6
  go_wp2
  go_loop [7] (fun i => ∃ k : Nat, k ≤ n ∧ i = .int .i64 k) (fun i => n - (intOf i).toNat)
  case atStart => exact ⟨0, by omega, rfl⟩
  case round =>
    obtain ⟨k, hk, rfl⟩ := hrel
    by_cases hlt : k < n
    · have hcell := HC.out k hlt
      obtain ⟨m1, m2⟩ := HM.out k hlt
      go_wp2
      go_round
      case rel => exact ⟨k + 1, by omega, by go_num⟩
      case measure => simp [intOf]; omega
    · go_wp2
      go_ret
      exact ⟨rfl, rfl⟩

theorem small6_no (b n : Nat) (f : Nat → Int) (w : World) (hn : n ≤ 5) (hc : ∀ i, i < n → w.cell? ⟨b, i, none⟩ = some (.int .i64 (f i))) (k0 : Nat) (hk0 : k0 < n) (h : ¬ milli (f k0)) :
    Calls Try.prog 6 #[.slice (some ⟨b, 0, none⟩) n n] w fun e w' => e = .returned (.bool false) ∧ w = w' := by
  have HC := Lib.hid hc
  have HM := Lib.hid h
  clear hc h
  go_enter Try.func6, Try.ntmps6
  go_wp2
  go_loop [7] (fun i => ∃ k : Nat, k ≤ k0 ∧ i = .int .i64 k) (fun i => n - (intOf i).toNat)
  case atStart => exact ⟨0, by omega, rfl⟩
  case round =>
    obtain ⟨k, hk, rfl⟩ := hrel
    have hlt : k < n := by omega
    have hcell := HC.out k hlt
    by_cases hm : -1000000 ≤ f k
    · by_cases hm2 : f k ≤ 1000000
      · have hne : k ≠ k0 := by
          rintro rfl
          exact HM.out ⟨hm, hm2⟩
        go_wp2
        go_round
        case rel => exact ⟨k + 1, by omega, by go_num⟩
        case measure => simp [intOf]; omega
      · go_wp2
        go_ret
        exact ⟨rfl, rfl⟩
    · go_wp2
      go_ret
      exact ⟨rfl, rfl⟩

theorem scaled7 (s l : Int) (big sg fl : Bool) (f1 f2 f3 f4 : Nat) (a b c d : Int) (w : World) (ha : a.natAbs < 2 ^ 49) (hb : b.natAbs < 2 ^ 49) (hc : c.natAbs < 2 ^ 49) (hd : d.natAbs < 2 ^ 49) :
    Calls Try.prog 7 #[.agg (sigCells s l big sg fl f1 f2 f3 f4), .int .i64 a, .int .i64 b, .int .i64 c, .int .i64 d] w fun e w' =>
      e = .returned (.agg (sigCells s l big sg fl (Fl.whole a) (Fl.whole b) (Fl.whole c) (Fl.whole d))) ∧ Grown w w' := by
  have H1 := Lib.hid fun W => whole13 a W ha
  have H2 := Lib.hid fun W => whole13 b W hb
  have H3 := Lib.hid fun W => whole13 c W hc
  have H4 := Lib.hid fun W => whole13 d W hd
  clear ha hb hc hd
  have hst := fun (p : Addr) (n : Nat) (m : Mode) (W : World) => run_store Try.prog W p (.float .f64 n) m rfl
  unfold sigCells
  go_enter Try.func7, Try.ntmps7
  go_wp2_with fail
  refine (H1.out _).mono ?_
  rintro e w' ⟨rfl, rfl⟩
  go_wp2_with fail
  refine (H2.out _).mono ?_
  rintro e w' ⟨rfl, rfl⟩
  go_wp2_with fail
  refine (H3.out _).mono ?_
  rintro e w' ⟨rfl, rfl⟩
  go_wp2_with fail
  refine (H4.out _).mono ?_
  rintro e w' ⟨rfl, rfl⟩
  obtain ⟨W, hW⟩ : ∃ W, W = (w.alloc (.cells #[.int .i64 s, .int .i64 l, .bool big, .bool sg, .bool fl, .float .f64 f1, .float .f64 f2, .float .f64 f3, .float .f64 f4] 24)).alloc (.cells #[.int .i64 0, .int .i64 0, .bool false, .bool false, .bool false, .float .f64 0, .float .f64 0, .float .f64 0, .float .f64 0] 24) := ⟨_, rfl⟩
  have hg : Grown w W := by rw [hW]; exact ((Grown.refl _).alloc _ _).alloc _ _
  have hS : SigAt W w.heap.size s l big sg fl f1 f2 f3 f4 := by
    rw [hW]; unfold SigAt; refine ⟨?_, ?_, ?_, ?_, ?_, ?_, ?_, ?_, ?_⟩ <;> go_simp
  have hZ : SigAt W (w.heap.size + 1) 0 0 false false false 0 0 0 0 := by
    rw [hW]; unfold SigAt; refine ⟨?_, ?_, ?_, ?_, ?_, ?_, ?_, ?_, ?_⟩ <;> go_simp
  have hF0 : ∀ j, W.frozen? ⟨w.heap.size, j, none⟩ = false := fun j => by rw [hW]; go_simp
  have hF1 : ∀ j, W.frozen? ⟨w.heap.size + 1, j, none⟩ = false := fun j => by rw [hW]; go_simp
  rw [← hW]
  clear hW
  have HG := Lib.hid hg
  clear hg
  obtain ⟨c0, c1, c2, c3, c4, c5, c6, c7, c8⟩ := hS
  obtain ⟨z0, z1, z2, z3, z4, z5, z6, z7, z8⟩ := hZ
  have e5 := hF0 5
  have e6 := hF0 6
  have e7 := hF0 7
  have e8 := hF0 8
  have g0 := hF1 0
  have g1 := hF1 1
  have g2 := hF1 2
  have g3 := hF1 3
  have g4 := hF1 4
  have g5 := hF1 5
  have g6 := hF1 6
  have g7 := hF1 7
  have g8 := hF1 8
  clear hF0 hF1
  go_wp2_with fail
  exact bodyPost_ret (v := .agg (sigCells _ _ _ _ _ _ _ _ _)) (by unfold sigCells; simp [results, Try.results7, go_sem, *]) rfl ⟨rfl, ((((((((((((HG.out.setCell (by simp) _).setCell (by simp) _).setCell (by simp) _).setCell (by simp) _).setCell (by simp) _).setCell (by simp) _).setCell (by simp) _).setCell (by simp) _).setCell (by simp) _).setCell (by simp) _).setCell (by simp) _).setCell (by simp) _).setCell (by simp) _⟩

theorem clamp16 (x lo hi : Nat) (k a b : Int) (w : World) (hx : Fl.IsF x k) (hlo : Fl.IsF lo a) (hhi : Fl.IsF hi b) :
    Calls Try.prog 16 #[.float .f64 x, .float .f64 lo, .float .f64 hi] w fun e w' =>
      e = .returned (.float .f64 (if a = 0 ∧ b = 0 then x else Fl.maxW (Fl.minW x hi) lo)) ∧ w = w' := by
  have o1 : FloatKind.f64.format.order lo 0 = some (compare a 0) := Fl.isF_order hlo Fl.isF_c0
  have o2 : FloatKind.f64.format.order hi 0 = some (compare b 0) := Fl.isF_order hhi Fl.isF_c0
  have r1 := fun ts t W => Fl.run_minW (P := Try.prog) hx hhi ts t W
  have r2 := fun ts t W => Fl.run_maxW (P := Try.prog) (Fl.isF_minW hx hhi) hlo ts t W
  have p1 : (some (compare a 0) == some .eq) = decide (a = 0) := by
    rcases Int.lt_trichotomy a 0 with h | h | h
    · rw [Int.compare_eq_lt.2 h, decide_eq_false (by omega)]; rfl
    · rw [Int.compare_eq_eq.2 h, decide_eq_true h]; rfl
    · rw [Int.compare_eq_gt.2 h, decide_eq_false (by omega)]; rfl
  have p2 : (some (compare b 0) == some .eq) = decide (b = 0) := by
    rcases Int.lt_trichotomy b 0 with h | h | h
    · rw [Int.compare_eq_lt.2 h, decide_eq_false (by omega)]; rfl
    · rw [Int.compare_eq_eq.2 h, decide_eq_true h]; rfl
    · rw [Int.compare_eq_gt.2 h, decide_eq_false (by omega)]; rfl
  have q1 : (FloatKind.f64.format.order lo 0 == some .eq) = decide (a = 0) := by rw [o1, p1]
  have q2 : (FloatKind.f64.format.order hi 0 == some .eq) = decide (b = 0) := by rw [o2, p2]
  clear o1 o2 p1 p2 hx hlo hhi
  generalize Fl.maxW (Fl.minW x hi) lo = r at *
  generalize Fl.minW x hi = m at *
  by_cases h1 : a = 0
  · rw [decide_eq_true h1] at q1
    by_cases h2 : b = 0
    · rw [decide_eq_true h2] at q2
      rw [if_pos ⟨h1, h2⟩]
      clear h1 h2
      go_enter Try.func16, Try.ntmps16
      go_wp2
      go_ret
      exact ⟨rfl, rfl⟩
    · rw [decide_eq_false h2] at q2
      rw [if_neg (fun h => h2 h.2)]
      clear h1 h2
      go_enter Try.func16, Try.ntmps16
      go_wp2
      go_ret
      exact ⟨rfl, rfl⟩
  · rw [decide_eq_false h1] at q1
    rw [if_neg (fun h => h1 h.1)]
    clear h1
    go_enter Try.func16, Try.ntmps16
    go_wp2
    go_ret
    exact ⟨rfl, rfl⟩

/-- whether a number is one of a signal's -/
def hasB (sg : Bool) (v : Int) (l : Nat) : Bool := if sg then Pl.fitS v l else decide (0 ≤ v) && decide (v < ((2 ^ l : Nat) : Int))

theorem has10 (s : Int) (l : Nat) (big sg fl : Bool) (f1 f2 f3 f4 : Nat) (v : Int) (w : World) (h1 : 1 ≤ l) (hl : l ≤ 64) (hv : (Lit.int .i64 v).wf = true) :
    Calls Try.prog 10 #[.agg (sigCells s l big sg fl f1 f2 f3 f4), .int .i64 v] w fun e w' => e = .returned (.bool (hasB sg v l)) ∧ Grown w w' := by
  unfold sigCells hasB
  have hb := bounds_i64 hv
  cases sg
  · simp only [Bool.false_eq_true, if_false]
    by_cases h0 : 0 ≤ v
    · obtain ⟨m, rfl⟩ := Int.eq_ofNat_of_zero_le h0
      have e : (decide ((m : Int) < ((2 ^ l : Nat) : Int))) = decide (m < 2 ^ l) := by
        rw [decide_eq_decide]; omega
      have e' : decide (0 ≤ (m : Int)) = true := decide_eq_true (by omega)
      rw [e, e', Bool.true_and]
      clear e e' h0
      have hm : m < 2 ^ 63 := by omega
      clear hb hv
      go_enter Try.func10, Try.ntmps10
      go_wp2_with fail
      refine (fits16 m l _ (by omega) (by omega)).mono ?_
      rintro e w1 ⟨rfl, rfl⟩
      go_wp2_with fail
      go_ret
      exact ⟨rfl, (Grown.refl _).alloc _ _⟩
    · rw [decide_eq_false h0, Bool.false_and]
      go_enter Try.func10, Try.ntmps10
      go_wp2_with fail
      go_ret
      exact ⟨rfl, (Grown.refl _).alloc _ _⟩
  · simp only [if_true]
    have H := Lib.hid fun W => fits41 v l W h1 hl hv
    clear hb hv
    go_enter Try.func10, Try.ntmps10
    go_wp2_with fail
    refine (H.out _).mono ?_
    rintro e w' ⟨rfl, rfl⟩
    go_wp2_with fail
    go_ret
    exact ⟨rfl, (Grown.refl _).alloc _ _⟩

end Go.Proofs.Ytfffcmjpkpdmlaa
