/- Contracts and the walk of the law on saturated numbers -/
import Derived.Test.YtjmlfobljlfngaaY
import Derived.WalkLawsBesides
namespace Go.Proofs.Ytjmlfobljlfngaa
open Go.ChangeShapes Go.WideShapes Go.ChangeAt Go.RowKit
set_option linter.unusedVariables false

theorem sat62 (b l u : Nat) (w : World) (h1 : 1 ≤ l) (hl : l ≤ 64) (hc : w.cell? ⟨b, 2, none⟩ = some (.int .u8 l)) :
    Calls Try.prog 62 #[.pointer (some ⟨b, 0, none⟩), .int .u64 u] w fun e w' => e = .returned (.int .u64 ((min u (2 ^ l - 1) : Nat) : Int)) ∧ w = w' := by
  have hm := fun W h => max47 b l W h1 hl h
  by_cases h : u ≤ 2 ^ l - 1
  · rw [Nat.min_eq_left h]
    generalize 2 ^ l - 1 = m at *
    have HM := Lib.hid hm
    clear hm
    go_enter Try.func62, Try.ntmps62
    go_wp2_with fail
    refine (HM.out _ hc).mono ?_
    rintro e w' ⟨rfl, rfl⟩
    go_wp2_with fail
    go_ret
    exact ⟨rfl, rfl⟩
  · rw [Nat.min_eq_right (by omega)]
    generalize 2 ^ l - 1 = m at *
    have HM := Lib.hid hm
    clear hm
    go_enter Try.func62, Try.ntmps62
    go_wp2_with fail
    refine (HM.out _ hc).mono ?_
    rintro e w' ⟨rfl, rfl⟩
    go_wp2_with fail
    go_ret
    exact ⟨rfl, rfl⟩

theorem sat63 (b l : Nat) (i : Int) (w : World) (h1 : 1 ≤ l) (hl : l ≤ 62) (hc : w.cell? ⟨b, 2, none⟩ = some (.int .u8 l)) :
    Calls Try.prog 63 #[.pointer (some ⟨b, 0, none⟩), .int .i64 i] w fun e w' => e = .returned (.int .i64 (max (min i ((2 ^ (l - 1) - 1 : Nat) : Int)) (-((2 ^ (l - 1) : Nat) : Int)))) ∧ w = w' := by
  have hm := fun W h => min48 b l W h1 hl h
  have hx := fun W h => maxs49 b l W h1 hl h
  have hp := Nat.two_pow_pos (l - 1)
  have e : max (min i ((2 ^ (l - 1) - 1 : Nat) : Int)) (-((2 ^ (l - 1) : Nat) : Int)) = if i < -((2 ^ (l - 1) : Nat) : Int) then -((2 ^ (l - 1) : Nat) : Int) else if ((2 ^ (l - 1) - 1 : Nat) : Int) < i then ((2 ^ (l - 1) - 1 : Nat) : Int) else i := by
    generalize 2 ^ (l - 1) = x at *
    split
    · omega
    · split <;> omega
  rw [e]
  clear e
  generalize ((2 ^ (l - 1) - 1 : Nat) : Int) = hi at *
  generalize -((2 ^ (l - 1) : Nat) : Int) = lo at *
  have HM := Lib.hid hm
  have HX := Lib.hid hx
  clear hm hx
  by_cases c1 : i < lo
  · rw [if_pos c1]
    go_enter Try.func63, Try.ntmps63
    go_wp2_with fail
    refine (HM.out _ hc).mono ?_
    rintro e w' ⟨rfl, rfl⟩
    go_wp2_with fail
    refine (HX.out _ hc).mono ?_
    rintro e w' ⟨rfl, rfl⟩
    go_wp2_with fail
    go_ret
    exact ⟨rfl, rfl⟩
  · rw [if_neg c1]
    by_cases c2 : hi < i
    · rw [if_pos c2]
      go_enter Try.func63, Try.ntmps63
      go_wp2_with fail
      refine (HM.out _ hc).mono ?_
      rintro e w' ⟨rfl, rfl⟩
      go_wp2_with fail
      refine (HX.out _ hc).mono ?_
      rintro e w' ⟨rfl, rfl⟩
      go_wp2_with fail
      go_ret
      exact ⟨rfl, rfl⟩
    · rw [if_neg c2]
      go_enter Try.func63, Try.ntmps63
      go_wp2_with fail
      refine (HM.out _ hc).mono ?_
      rintro e w' ⟨rfl, rfl⟩
      go_wp2_with fail
      refine (HX.out _ hc).mono ?_
      rintro e w' ⟨rfl, rfl⟩
      go_wp2_with fail
      go_ret
      exact ⟨rfl, rfl⟩

theorem sat33 (s l : Nat) (big sg fl : Bool) (f1 f2 f3 f4 u : Nat) (i : Int) (w : World) (hs : s < 64) (h1 : 1 ≤ l) (hl : l ≤ 62) :
    Calls Try.prog 33 #[.agg (sigCells s l big sg fl f1 f2 f3 f4), .int .u64 u, .int .i64 i] w fun e w' =>
      e = .returned (.tuple #[.int .u64 ((min u (2 ^ l - 1) : Nat) : Int), .int .i64 (max (min i ((2 ^ (l - 1) - 1 : Nat) : Int)) (-((2 ^ (l - 1) : Nat) : Int)))]) ∧ Grown w w' := by
  have hsig := fun W => sig46 s l big sg fl f1 f2 f3 f4 W hs h1 (by omega)
  have h62 := fun b W h => sat62 b l u W h1 (by omega) h
  have h63 := fun b W h => sat63 b l i W h1 hl h
  unfold sigCells desCells at *
  generalize ((min u (2 ^ l - 1) : Nat) : Int) = x at *
  generalize (max (min i ((2 ^ (l - 1) - 1 : Nat) : Int)) (-((2 ^ (l - 1) : Nat) : Int))) = y at *
  have H := Lib.hid hsig
  have H62 := Lib.hid h62
  have H63 := Lib.hid h63
  clear hsig h62 h63
  go_enter Try.func33, Try.ntmps33
  go_wp2_with fail
  refine (H.out _).mono ?_
  rintro e w' ⟨rfl, rfl⟩
  go_wp2_with fail
  refine (H62.out _ _ (by go_simp)).mono ?_
  rintro e w' ⟨rfl, rfl⟩
  go_wp2_with fail
  refine (H63.out _ _ (by go_simp)).mono ?_
  rintro e w' ⟨rfl, rfl⟩
  go_wp2_with fail
  go_ret2
  exact ⟨rfl, (((Grown.refl _).alloc _ _).alloc _ _).alloc _ _⟩

theorem satCore (s l : Nat) (big sg fl : Bool) (f1 f2 f3 f4 : Nat) (u i mx lo hi x m y : Int) (w : World) (hs : s < 64) (l1 : 1 ≤ l) (hl : l ≤ 62)
    (hr : (!fl && Pl.okR 8 s l big) = true)
    (h33 : ∀ W, Calls Try.prog 33 #[.agg (sigCells s l big sg fl f1 f2 f3 f4), .int .u64 u, .int .i64 i] W fun e w' => e = .returned (.tuple #[.int .u64 x, .int .i64 y]) ∧ Grown W w')
    (h19 : ∀ W, Calls Try.prog 19 #[.int .i64 l] W fun e w' => e = .returned (.int .u64 mx) ∧ W = w')
    (h20 : ∀ W, Calls Try.prog 20 #[.int .i64 l] W fun e w' => e = .returned (.int .i64 lo) ∧ W = w')
    (h21 : ∀ W, Calls Try.prog 21 #[.int .i64 l] W fun e w' => e = .returned (.int .i64 hi) ∧ W = w')
    (hx : (if mx < u then mx else u) = x) (hm : (if hi < i then hi else i) = m) (hy : (if m < lo then lo else m) = y) :
    Calls Try.prog 9 #[.agg (sigCells s l big sg fl f1 f2 f3 f4), .int .u64 u, .int .i64 i] w fun e w' => e = .returned (.bool true) ∧ Grown w w' := by
  have hig := fun W => isig17 s l big sg fl f1 f2 f3 f4 W hs l1 (by omega)
  have hn := SigAt.new w s l big sg fl f1 f2 f3 f4 26
  rw [hr] at hig
  unfold sigCells at *
  have H1 := Lib.hid hig
  have H2 := Lib.hid h33
  have HN := Lib.hid hn
  have H19 := Lib.hid h19
  have H20 := Lib.hid h20
  have H21 := Lib.hid h21
  have HX := Lib.hid hx
  have HM := Lib.hid hm
  have HY := Lib.hid hy
  clear hig h33 hn h19 h20 h21 hr hx hm hy
  go_enter Try.func9, Try.ntmps9
  go_wp2_with fail
  refine (H1.out _).mono ?_
  rintro e w1 ⟨rfl, hg⟩
  have hz := hg.2.2
  simp at hz
  have hs1 := HN.out.grown hg (by simp)
  have HG1 := Lib.hid hg
  clear hg
  obtain ⟨c0, c1, c2, c3, c4, c5, c6, c7, c8⟩ := hs1
  go_wp2_with fail
  refine (H2.out _).mono ?_
  rintro e w2 ⟨rfl, hg2⟩
  have HG2 := Lib.hid hg2
  clear hg2
  go_wp2_with fail
  have hs2 := (HN.out.grown HG1.out (by simp)).grown HG2.out (show w.heap.size < w1.heap.size by omega)
  refine wp_world (fun W => Grown w W ∧ SigAt W w.heap.size s l big sg fl f1 f2 f3 f4 ∧ w.heap.size < W.heap.size) ⟨grown_trans ((Grown.refl _).alloc _ _) (grown_trans HG1.out HG2.out), hs2, by have := HG2.out.2.2; omega⟩ ?_
  clear c0 c1 c2 c3 c4 c5 c6 c7 c8 hs2 HG1 HG2 hz
  rintro W ⟨hgW, hT, hz⟩
  have HS := Lib.hid (fun w1 (h : Grown W w1) => hT.grown h hz)
  have HG := Lib.hid hgW
  clear hgW HN
  generalize w.heap.size = b at *
  obtain ⟨c0, c1, c2, c3, c4, c5, c6, c7, c8⟩ := hT
  have hx := HX.out
  have hm := HM.out
  have hy := HY.out
  go_region_held3 (fun w' => Grown W w' ∧ w'.cell? ⟨b, 0, none⟩ = some (.int .i64 s) ∧ w'.cell? ⟨b, 1, none⟩ = some (.int .i64 l) ∧ w'.cell? ⟨b, 2, none⟩ = some (.bool big) ∧ w'.cell? ⟨b, 3, none⟩ = some (.bool sg) ∧ w'.cell? ⟨b, 4, none⟩ = some (.bool fl) ∧ w'.cell? ⟨b, 5, none⟩ = some (.float .f64 f1) ∧ w'.cell? ⟨b, 6, none⟩ = some (.float .f64 f2) ∧ w'.cell? ⟨b, 7, none⟩ = some (.float .f64 f3) ∧ w'.cell? ⟨b, 8, none⟩ = some (.float .f64 f4))
    (first | exact ⟨(Grown.refl _).drew, HS.out _ (Grown.refl _).drew⟩ | assumption | exact keepS HS (by assumption) (And.left (by assumption)))
    (first
      | (go_at_call 19; refine (H19.out _).mono ?_; rintro e w1 ⟨rfl, rfl⟩)
      | (go_at_call 20; refine (H20.out _).mono ?_; rintro e w1 ⟨rfl, rfl⟩)
      | (go_at_call 21; refine (H21.out _).mono ?_; rintro e w1 ⟨rfl, rfl⟩)
      | (go_at_call 24; refine (bit24_one _).mono ?_; rintro e w1 ⟨rfl, hg⟩))
  all_goals
    go_wp2_with fail
    go_ret
    exact ⟨rfl, grown_trans HG.out (And.left (by assumption))⟩

theorem walkSat (s l : Int) (big sg fl : Bool) (f1 f2 f3 f4 u : Nat) (i : Int) (w : World) :
    Calls Try.prog 9 #[.agg (sigCells s l big sg fl f1 f2 f3 f4), .int .u64 u, .int .i64 i] w fun e w' => e = .returned (.bool true) ∧ Grown w w' := by
  by_cases hb : 0 ≤ s ∧ s ≤ 63 ∧ 1 ≤ l ∧ l ≤ 64
  · obtain ⟨s0, s1, l0, l1⟩ := hb
    obtain ⟨s, rfl⟩ := Int.eq_ofNat_of_zero_le s0
    obtain ⟨l, rfl⟩ := Int.eq_ofNat_of_zero_le (show 0 ≤ l by omega)
    have hig := fun W => isig17 s l big sg fl f1 f2 f3 f4 W (by omega) (by omega) (by omega)
    have hn := SigAt.new w s l big sg fl f1 f2 f3 f4 26
    cases hr : (!fl && Pl.okR 8 s l big)
    · rw [hr] at hig
      unfold sigCells at *
      have H1 := Lib.hid hig
      clear hig hn hr
      go_enter Try.func9, Try.ntmps9
      go_wp2_with fail
      refine (H1.out _).mono ?_
      rintro e w1 ⟨rfl, hg⟩
      have HG1 := Lib.hid hg
      clear hg
      go_wp2_with fail
      go_ret
      exact ⟨rfl, grown_trans ((Grown.refl _).alloc _ _) HG1.out⟩
    · by_cases hl : l ≤ 62
      · exact satCore s l big sg fl f1 f2 f3 f4 u i ((2 ^ l - 1 : Nat) : Int) (-((2 ^ (l - 1) : Nat) : Int)) ((2 ^ (l - 1) - 1 : Nat) : Int) _ _ _ w (by omega) (by omega) hl hr
          (fun W => sat33 s l big sg fl f1 f2 f3 f4 u i W (by omega) (by omega) hl) (fun W => max19 l W (by omega) (by omega)) (fun W => min20 l W (by omega) hl) (fun W => maxs21 l W (by omega) hl)
          (by have := Nat.two_pow_pos l; split <;> omega) rfl
          (by have := Nat.two_pow_pos (l - 1); generalize 2 ^ (l - 1) = x at *; split <;> split <;> omega)
      · rw [hr] at hig
        unfold sigCells at *
        have H1 := Lib.hid hig
        have HN := Lib.hid hn
        clear hig hn hr
        go_enter Try.func9, Try.ntmps9
        go_wp2_with fail
        refine (H1.out _).mono ?_
        rintro e w1 ⟨rfl, hg⟩
        obtain ⟨c0, c1, c2, c3, c4, c5, c6, c7, c8⟩ := HN.out.grown hg (by simp)
        have HG1 := Lib.hid hg
        clear hg
        go_wp2_with fail
        go_ret
        exact ⟨rfl, grown_trans ((Grown.refl _).alloc _ _) HG1.out⟩
  · have hig := fun W => isig17_out s l big sg fl f1 f2 f3 f4 W hb
    unfold sigCells at *
    have H1 := Lib.hid hig
    clear hig
    go_enter Try.func9, Try.ntmps9
    go_wp2_with fail
    refine (H1.out _).mono ?_
    rintro e w1 ⟨rfl, hg⟩
    have HG1 := Lib.hid hg
    clear hg
    go_wp2_with fail
    go_ret
    exact ⟨rfl, grown_trans ((Grown.refl _).alloc _ _) HG1.out⟩

end Go.Proofs.Ytjmlfobljlfngaa
