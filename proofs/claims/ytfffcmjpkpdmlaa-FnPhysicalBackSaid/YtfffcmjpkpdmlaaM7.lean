/- The walk of the law on the way back, the other arms -/
import Derived.Test.YtfffcmjpkpdmlaaM6
namespace Go.Proofs.Ytfffcmjpkpdmlaa
open Go.ChangeShapes Go.WideShapes Go.ChangeAt Go.RowKit
set_option linter.unusedVariables false

set_option maxHeartbeats 4000000 in
theorem back4_in (s l : Nat) (big sg fl : Bool) (f1 f2 f3 f4 : Nat) (p off v : Int) (w : World) (hs : s < 64) (hl1 : 1 ≤ l) (hl : l ≤ 64) (hv : (Lit.int .i64 v).wf = true) :
    Calls Try.prog 4 #[.agg (sigCells s l big sg fl f1 f2 f3 f4), .int .i64 p, .int .i64 off, .int .i64 v] w fun e w' => e = .returned (.bool true) ∧ Grown w w' := by
  have hig := fun W => isig17 s l big sg fl f1 f2 f3 f4 W hs hl1 hl
  have hhas := fun W => has10 s l big sg fl f1 f2 f3 f4 v W hl1 hl hv
  have hn := SigAt.new w s l big sg fl f1 f2 f3 f4 24
  unfold sigCells at *
  have H1 := Lib.hid hig
  have HH := Lib.hid hhas
  have HN := Lib.hid hn
  have HV := Lib.hid hv
  clear hig hhas hn hv
  cases hr : (!fl && Pl.okR 8 s l big)
  · have HR := Lib.hid hr
    clear hr
    go_enter Try.func4, Try.ntmps4
    go_wp2_with fail
    refine (H1.out _).mono ?_
    rintro e w1 ⟨rfl, hg⟩
    rw [HR.out]
    go_wp2_with fail
    go_ret
    exact ⟨rfl, grown_trans ((Grown.refl _).alloc _ _) hg⟩
  have HR := Lib.hid hr
  clear hr
  by_cases h62 : 62 < l
  · go_enter Try.func4, Try.ntmps4
    go_wp2_with fail
    refine (H1.out _).mono ?_
    rintro e w1 ⟨rfl, hg⟩
    rw [HR.out]
    have hz := hg.2.2
    simp at hz
    obtain ⟨c0, c1, c2, c3, c4, c5, c6, c7, c8⟩ := HN.out.grown hg (by simp)
    go_wp2_with fail
    go_ret
    exact ⟨rfl, grown_trans ((Grown.refl _).alloc _ _) hg⟩
  by_cases hs1 : sg = true ∧ l = 1
  · obtain ⟨rfl, rfl⟩ := hs1
    go_enter Try.func4, Try.ntmps4
    go_wp2_with fail
    refine (H1.out _).mono ?_
    rintro e w1 ⟨rfl, hg⟩
    rw [HR.out]
    have hz := hg.2.2
    simp at hz
    obtain ⟨c0, c1, c2, c3, c4, c5, c6, c7, c8⟩ := HN.out.grown hg (by simp)
    go_wp2_with fail
    go_ret
    exact ⟨rfl, grown_trans ((Grown.refl _).alloc _ _) hg⟩
  cases hb : hasB sg v l
  · have HB := Lib.hid hb
    clear hb
    cases sg
    · clear hs1
      go_enter Try.func4, Try.ntmps4
      go_wp2_with fail
      refine (H1.out _).mono ?_
      rintro e w1 ⟨rfl, hg⟩
      rw [HR.out]
      have hz := hg.2.2
      simp at hz
      obtain ⟨c0, c1, c2, c3, c4, c5, c6, c7, c8⟩ := HN.out.grown hg (by simp)
      go_wp2_with fail
      refine (HH.out _).mono ?_
      rintro e w2 ⟨rfl, hg2⟩
      rw [HB.out]
      go_wp2_with fail
      go_ret
      exact ⟨rfl, grown_trans ((Grown.refl _).alloc _ _) (grown_trans hg hg2)⟩
    · have hl2 : ¬ l = 1 := fun h => hs1 ⟨rfl, h⟩
      clear hs1
      go_enter Try.func4, Try.ntmps4
      go_wp2_with fail
      refine (H1.out _).mono ?_
      rintro e w1 ⟨rfl, hg⟩
      rw [HR.out]
      have hz := hg.2.2
      simp at hz
      obtain ⟨c0, c1, c2, c3, c4, c5, c6, c7, c8⟩ := HN.out.grown hg (by simp)
      go_wp2_with fail
      refine (HH.out _).mono ?_
      rintro e w2 ⟨rfl, hg2⟩
      rw [HB.out]
      go_wp2_with fail
      go_ret
      exact ⟨rfl, grown_trans ((Grown.refl _).alloc _ _) (grown_trans hg hg2)⟩
  have HB := Lib.hid hb
  clear hb
  cases sg
  · clear hs1
    by_cases hp0 : p < 0
    · go_enter Try.func4, Try.ntmps4
      go_wp2_with fail
      refine (H1.out _).mono ?_
      rintro e w1 ⟨rfl, hg⟩
      rw [HR.out]
      have hz := hg.2.2
      simp at hz
      have hsA := HN.out.grown hg (by simp)
      obtain ⟨c0, c1, c2, c3, c4, c5, c6, c7, c8⟩ := hsA
      go_wp2_with fail
      refine (HH.out _).mono ?_
      rintro e w2 ⟨rfl, hg2⟩
      rw [HB.out]
      go_wp2_with fail
      go_ret
      exact ⟨rfl, grown_trans ((Grown.refl _).alloc _ _) (grown_trans hg hg2)⟩
    by_cases hp1 : 10 < p
    · go_enter Try.func4, Try.ntmps4
      go_wp2_with fail
      refine (H1.out _).mono ?_
      rintro e w1 ⟨rfl, hg⟩
      rw [HR.out]
      have hz := hg.2.2
      simp at hz
      have hsA := HN.out.grown hg (by simp)
      obtain ⟨c0, c1, c2, c3, c4, c5, c6, c7, c8⟩ := hsA
      go_wp2_with fail
      refine (HH.out _).mono ?_
      rintro e w2 ⟨rfl, hg2⟩
      rw [HB.out]
      go_wp2_with fail
      go_ret
      exact ⟨rfl, grown_trans ((Grown.refl _).alloc _ _) (grown_trans hg hg2)⟩
    by_cases hm : milli off ∧ milli v
    · obtain ⟨p, rfl⟩ := Int.eq_ofNat_of_zero_le (show 0 ≤ p by omega)
      exact back4_false s l big fl f1 f2 f3 f4 p off v w hs hl1 h62 (by omega) hm HR.out HB.out
    obtain ⟨k0, hk0, hbad⟩ := two_bad hm
    have HM := Lib.hid hbad
    clear hm hbad
    go_enter Try.func4, Try.ntmps4
    go_wp2_with fail
    refine (H1.out _).mono ?_
    rintro e w1 ⟨rfl, hg⟩
    rw [HR.out]
    have hz := hg.2.2
    simp at hz
    have hsA := HN.out.grown hg (by simp)
    obtain ⟨c0, c1, c2, c3, c4, c5, c6, c7, c8⟩ := hsA
    go_wp2_with fail
    refine (HH.out _).mono ?_
    rintro e w2 ⟨rfl, hg2⟩
    rw [HB.out]
    go_wp2_with fail
    refine (small6_no _ 2 (two off v) _ (by omega) (two_cells (by go_simp) (by go_simp)) k0 hk0 HM.out).mono ?_
    rintro e w' ⟨rfl, rfl⟩
    go_wp2_with fail
    go_ret
    exact ⟨rfl, (grown_trans ((Grown.refl _).alloc _ _) (grown_trans hg hg2)).alloc _ _⟩
  · have hl2 : ¬ l = 1 := fun h => hs1 ⟨rfl, h⟩
    clear hs1
    by_cases hp0 : p < 0
    · go_enter Try.func4, Try.ntmps4
      go_wp2_with fail
      refine (H1.out _).mono ?_
      rintro e w1 ⟨rfl, hg⟩
      rw [HR.out]
      have hz := hg.2.2
      simp at hz
      have hsA := HN.out.grown hg (by simp)
      obtain ⟨c0, c1, c2, c3, c4, c5, c6, c7, c8⟩ := hsA
      go_wp2_with fail
      refine (HH.out _).mono ?_
      rintro e w2 ⟨rfl, hg2⟩
      rw [HB.out]
      go_wp2_with fail
      go_ret
      exact ⟨rfl, grown_trans ((Grown.refl _).alloc _ _) (grown_trans hg hg2)⟩
    by_cases hp1 : 10 < p
    · go_enter Try.func4, Try.ntmps4
      go_wp2_with fail
      refine (H1.out _).mono ?_
      rintro e w1 ⟨rfl, hg⟩
      rw [HR.out]
      have hz := hg.2.2
      simp at hz
      have hsA := HN.out.grown hg (by simp)
      obtain ⟨c0, c1, c2, c3, c4, c5, c6, c7, c8⟩ := hsA
      go_wp2_with fail
      refine (HH.out _).mono ?_
      rintro e w2 ⟨rfl, hg2⟩
      rw [HB.out]
      go_wp2_with fail
      go_ret
      exact ⟨rfl, grown_trans ((Grown.refl _).alloc _ _) (grown_trans hg hg2)⟩
    by_cases hm : milli off ∧ milli v
    · obtain ⟨p, rfl⟩ := Int.eq_ofNat_of_zero_le (show 0 ≤ p by omega)
      exact back4_true s l big fl f1 f2 f3 f4 p off v w hs hl1 h62 hl2 (by omega) hm HR.out HB.out
    obtain ⟨k0, hk0, hbad⟩ := two_bad hm
    have HM := Lib.hid hbad
    clear hm hbad
    go_enter Try.func4, Try.ntmps4
    go_wp2_with fail
    refine (H1.out _).mono ?_
    rintro e w1 ⟨rfl, hg⟩
    rw [HR.out]
    have hz := hg.2.2
    simp at hz
    have hsA := HN.out.grown hg (by simp)
    obtain ⟨c0, c1, c2, c3, c4, c5, c6, c7, c8⟩ := hsA
    go_wp2_with fail
    refine (HH.out _).mono ?_
    rintro e w2 ⟨rfl, hg2⟩
    rw [HB.out]
    go_wp2_with fail
    refine (small6_no _ 2 (two off v) _ (by omega) (two_cells (by go_simp) (by go_simp)) k0 hk0 HM.out).mono ?_
    rintro e w' ⟨rfl, rfl⟩
    go_wp2_with fail
    go_ret
    exact ⟨rfl, (grown_trans ((Grown.refl _).alloc _ _) (grown_trans hg hg2)).alloc _ _⟩

theorem walkBack (s l : Int) (big sg fl : Bool) (f1 f2 f3 f4 : Nat) (p off v : Int) (w : World) (hv : (Lit.int .i64 v).wf = true) :
    Calls Try.prog 4 #[.agg (sigCells s l big sg fl f1 f2 f3 f4), .int .i64 p, .int .i64 off, .int .i64 v] w fun e w' => e = .returned (.bool true) ∧ Grown w w' := by
  by_cases hb : 0 ≤ s ∧ s ≤ 63 ∧ 1 ≤ l ∧ l ≤ 64
  · obtain ⟨s0, s1, l0, l1⟩ := hb
    obtain ⟨s, rfl⟩ := Int.eq_ofNat_of_zero_le s0
    obtain ⟨l, rfl⟩ := Int.eq_ofNat_of_zero_le (show 0 ≤ l by omega)
    exact back4_in s l big sg fl f1 f2 f3 f4 p off v w (by omega) (by omega) (by omega) hv
  · have hig := fun W => isig17_out s l big sg fl f1 f2 f3 f4 W hb
    unfold sigCells at *
    have H1 := Lib.hid hig
    clear hig
    go_enter Try.func4, Try.ntmps4
    go_wp2_with fail
    refine (H1.out _).mono ?_
    rintro e w1 ⟨rfl, hg⟩
    go_wp2_with fail
    go_ret
    exact ⟨rfl, grown_trans ((Grown.refl _).alloc _ _) hg⟩

end Go.Proofs.Ytfffcmjpkpdmlaa
