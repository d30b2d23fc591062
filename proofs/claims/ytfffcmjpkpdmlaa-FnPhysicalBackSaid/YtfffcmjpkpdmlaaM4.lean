/- The walk of the law on what a number stands for -/
import Derived.Test.YtfffcmjpkpdmlaaM3
namespace Go.Proofs.Ytfffcmjpkpdmlaa
open Go.ChangeShapes Go.WideShapes Go.ChangeAt Go.RowKit
set_option linter.unusedVariables false

theorem wp_world {P : Program} {c : Code} {Q : Exit → Act → World → Prop} {a : Act} {w : World} (S : World → Prop) (hS : S w) (h : ∀ W, S W → c.wp P Q a W) : c.wp P Q a w := h w hS

/-- five numbers by their place -/
def five (a b c d e : Int) (i : Nat) : Int := if i = 0 then a else if i = 1 then b else if i = 2 then c else if i = 3 then d else e
theorem five_milli {a b c d e : Int} (h : milli a ∧ milli b ∧ milli c ∧ milli d ∧ milli e) : ∀ i, i < 5 → milli (five a b c d e i) := by
  intro i hi
  obtain ⟨h0, h1, h2, h3, h4⟩ := h
  unfold five
  have : i = 0 ∨ i = 1 ∨ i = 2 ∨ i = 3 ∨ i = 4 := by omega
  rcases this with rfl | rfl | rfl | rfl | rfl
  · exact h0
  · exact h1
  · exact h2
  · exact h3
  · exact h4
theorem five_bad {a b c d e : Int} (h : ¬ (milli a ∧ milli b ∧ milli c ∧ milli d ∧ milli e)) : ∃ k, k < 5 ∧ ¬ milli (five a b c d e k) := by
  by_cases h0 : milli a
  · by_cases h1 : milli b
    · by_cases h2 : milli c
      · by_cases h3 : milli d
        · exact ⟨4, by omega, fun h4 => h ⟨h0, h1, h2, h3, h4⟩⟩
        · exact ⟨3, by omega, h3⟩
      · exact ⟨2, by omega, h2⟩
    · exact ⟨1, by omega, h1⟩
  · exact ⟨0, by omega, h0⟩
theorem five_cells {b : Nat} {w : World} {x0 x1 x2 x3 x4 : Int} (h0 : w.cell? ⟨b, 0, none⟩ = some (.int .i64 x0)) (h1 : w.cell? ⟨b, 1, none⟩ = some (.int .i64 x1)) (h2 : w.cell? ⟨b, 2, none⟩ = some (.int .i64 x2)) (h3 : w.cell? ⟨b, 3, none⟩ = some (.int .i64 x3)) (h4 : w.cell? ⟨b, 4, none⟩ = some (.int .i64 x4)) :
    ∀ i, i < 5 → w.cell? ⟨b, i, none⟩ = some (.int .i64 (five x0 x1 x2 x3 x4 i)) := by
  intro i hi
  unfold five
  have : i = 0 ∨ i = 1 ∨ i = 2 ∨ i = 3 ∨ i = 4 := by omega
  rcases this with rfl | rfl | rfl | rfl | rfl
  · exact h0
  · exact h1
  · exact h2
  · exact h3
  · exact h4

theorem phys3_in (s l : Nat) (big sg fl : Bool) (f1 f2 f3 f4 : Nat) (sc off lo hi v : Int) (w : World) (hs : s < 64) (hl1 : 1 ≤ l) (hl : l ≤ 64) :
    Calls Try.prog 3 #[.agg (sigCells s l big sg fl f1 f2 f3 f4), .int .i64 sc, .int .i64 off, .int .i64 lo, .int .i64 hi, .int .i64 v] w fun e w' => e = .returned (.bool true) ∧ Grown w w' := by
  have hig := fun W => isig17 s l big sg fl f1 f2 f3 f4 W hs hl1 hl
  have hn := SigAt.new w s l big sg fl f1 f2 f3 f4 24
  unfold sigCells at *
  have H1 := Lib.hid hig
  have HN := Lib.hid hn
  clear hig hn
  cases hr : (!fl && Pl.okR 8 s l big)
  · have HR := Lib.hid hr
    clear hr
    go_enter Try.func3, Try.ntmps3
    go_wp2_with fail
    refine (H1.out _).mono ?_
    rintro e w1 ⟨rfl, hg⟩
    rw [HR.out]
    go_wp2_with fail
    go_ret
    exact ⟨rfl, grown_trans ((Grown.refl _).alloc _ _) hg⟩
  · have HR := Lib.hid hr
    clear hr
    by_cases hm : milli sc ∧ milli off ∧ milli lo ∧ milli hi ∧ milli v
    · have H6 := Lib.hid (five_milli hm)
      obtain ⟨⟨a0, a1⟩, ⟨b0, b1⟩, ⟨c0, c1⟩, ⟨d0, d1⟩, ⟨e0, e1⟩⟩ := hm
      by_cases hlt : hi < lo
      · clear a0 a1 b0 b1 c0 c1 d0 d1 e0 e1
        go_enter Try.func3, Try.ntmps3
        go_wp2_with fail
        refine (H1.out _).mono ?_
        rintro e w1 ⟨rfl, hg⟩
        rw [HR.out]
        go_wp2_with fail
        refine (small6_yes _ 5 (five sc off lo hi v) _ (by omega) (five_cells (by go_simp) (by go_simp) (by go_simp) (by go_simp) (by go_simp)) H6.out).mono ?_
        rintro e w' ⟨rfl, rfl⟩
        go_wp2_with fail
        go_ret
        exact ⟨rfl, (grown_trans ((Grown.refl _).alloc _ _) hg).alloc _ _⟩
      · have i1 := (Fl.whole_eq (a := sc) (by omega)).2
        have i2 := (Fl.whole_eq (a := off) (by omega)).2
        have i3 := (Fl.whole_eq (a := lo) (by omega)).2
        have i4 := (Fl.whole_eq (a := hi) (by omega)).2
        have j1 := (Fl.whole_eq (a := 16) (by omega)).2
        have j2 := (Fl.whole_eq (a := 0) (by omega)).2
        have ix := Fl.isF_ofInt (n := v) (by omega)
        have hm : (v * sc).natAbs < 2 ^ 53 - 1000001 := by
          have : v.natAbs * sc.natAbs ≤ 1000000 * 1000000 := Nat.mul_le_mul (by omega) (by omega)
          rw [Int.natAbs_mul]; omega
        obtain ⟨r8, hr8, H8⟩ := impl8 s l big sg fl _ _ _ _ _ v sc off lo hi hs hl1 hl ix i1 i2 i3 i4 (by omega) (by omega)
        obtain ⟨r9, hr9, H9⟩ := phys9 s l big sg fl _ _ _ _ _ v sc off lo hi ix i1 i2 i3 i4 (by omega) (by omega)
        obtain ⟨r2, hr2, H2⟩ := impl8 s l big sg fl _ _ _ _ 4607182418800017408 1 16 16 0 0 hs hl1 hl Fl.isF_c1 j1 j1 j2 j2 (by decide) (by decide)
        have ho : (FloatKind.f64.format.order r8 r9 == some .eq) = true := by rw [Fl.isF_order hr8 hr9, Int.compare_eq_eq.2 rfl]; rfl
        have ho2 : (FloatKind.f64.format.order r2 4611686018427387904 == some .eq) = true := by
          rw [Fl.isF_order hr2 Fl.isF_c2, Int.compare_eq_eq.2 (by decide)]; rfl
        have H7 := fun W => scaled7 s l big sg fl f1 f2 f3 f4 sc off lo hi W (by omega) (by omega) (by omega) (by omega)
        have H7' := fun W => scaled7 s l big sg fl f1 f2 f3 f4 16 16 0 0 W (by omega) (by omega) (by omega) (by omega)
        clear i1 i2 i3 i4 j1 j2 ix hm hr8 hr9 hr2 a0 a1 b0 b1 c0 c1 d0 d1 e0 e1
        generalize Fl.whole sc = g1 at *
        generalize Fl.whole off = g2 at *
        generalize Fl.whole lo = g3 at *
        generalize Fl.whole hi = g4 at *
        generalize Fl.whole 16 = t1 at *
        generalize Fl.whole 0 = t2 at *
        unfold sigCells at *
        have H8 := Lib.hid H8
        have H9 := Lib.hid H9
        have H2 := Lib.hid H2
        have H7 := Lib.hid H7
        have H7' := Lib.hid H7'
        have hst := fun (p : Addr) (n : Nat) (m : Mode) (W : World) => run_store Try.prog W p (.float .f64 n) m rfl
        go_enter Try.func3, Try.ntmps3
        go_wp2_with fail
        refine (H1.out _).mono ?_
        rintro e w1 ⟨rfl, hg⟩
        rw [HR.out]
        have hz := hg.2.2
        simp at hz
        have hs1 := HN.out.grown hg (by simp)
        go_wp2_with fail
        refine (small6_yes _ 5 (five sc off lo hi v) _ (by omega) (five_cells (by go_simp) (by go_simp) (by go_simp) (by go_simp) (by go_simp)) H6.out).mono ?_
        rintro e w' ⟨rfl, rfl⟩
        obtain ⟨W2, hW2⟩ : ∃ W2, W2 = w1.alloc (.cells #[.int .i64 sc, .int .i64 off, .int .i64 lo, .int .i64 hi, .int .i64 v] 3) := ⟨_, rfl⟩
        have hg2 : Grown w W2 := by rw [hW2]; exact (grown_trans ((Grown.refl _).alloc _ _) hg).alloc _ _
        have hs2 : SigAt W2 w.heap.size s l big sg fl f1 f2 f3 f4 := by rw [hW2]; exact hs1.grown ((Grown.refl w1).alloc _ _) (by omega)
        have hz2 : w.heap.size < W2.heap.size := by rw [hW2]; simp; omega
        rw [← hW2]
        clear hW2 hg hs1 hz
        have HG2 := Lib.hid hg2
        have HS2 := Lib.hid hs2
        clear hg2
        obtain ⟨c0, c1, c2, c3, c4, c5, c6, c7, c8⟩ := hs2
        go_wp2_with fail
        refine (H7.out _).mono ?_
        rintro e w3 ⟨rfl, hg3⟩
        have HS3 := Lib.hid (HS2.out.grown hg3 hz2)
        have HG3 := Lib.hid (grown_trans HG2.out hg3)
        have hz3 := hg3.2.2
        clear hg3
        go_wp2_with fail
        refine wp_world (fun W => Grown w W ∧ SigAt W w.heap.size s l big sg fl f1 f2 f3 f4 ∧ SigAt W w3.heap.size s l big sg fl g1 g2 g3 g4 ∧ w.heap.size < W.heap.size ∧ w3.heap.size < W.heap.size) ⟨HG3.out.alloc _ _, HS3.out.grown ((Grown.refl _).alloc _ _) (by omega), SigAt.new w3 s l big sg fl g1 g2 g3 g4 24, by simp; omega, by simp⟩ ?_
        rintro W ⟨hgW, hA, hB, hzA, hzB⟩
        have HS := Lib.hid (fun w1 (h : Grown W w1) => And.intro (hA.grown h hzA) (hB.grown h hzB))
        have HG := Lib.hid hgW
        clear hgW HS3 HG3 HS2 HG2 HN hz2 hz3 hzA hzB
        generalize w.heap.size = b at *
        generalize w3.heap.size = b' at *
        obtain ⟨c0, c1, c2, c3, c4, c5, c6, c7, c8⟩ := hA
        obtain ⟨d0, d1, d2, d3, d4, d5, d6, d7, d8⟩ := hB
        go_region_held3 (fun w' => Grown W w' ∧ ((w'.cell? ⟨b, 0, none⟩ = some (.int .i64 s) ∧ w'.cell? ⟨b, 1, none⟩ = some (.int .i64 l) ∧ w'.cell? ⟨b, 2, none⟩ = some (.bool big) ∧ w'.cell? ⟨b, 3, none⟩ = some (.bool sg) ∧ w'.cell? ⟨b, 4, none⟩ = some (.bool fl) ∧ w'.cell? ⟨b, 5, none⟩ = some (.float .f64 f1) ∧ w'.cell? ⟨b, 6, none⟩ = some (.float .f64 f2) ∧ w'.cell? ⟨b, 7, none⟩ = some (.float .f64 f3) ∧ w'.cell? ⟨b, 8, none⟩ = some (.float .f64 f4)) ∧ (w'.cell? ⟨b', 0, none⟩ = some (.int .i64 s) ∧ w'.cell? ⟨b', 1, none⟩ = some (.int .i64 l) ∧ w'.cell? ⟨b', 2, none⟩ = some (.bool big) ∧ w'.cell? ⟨b', 3, none⟩ = some (.bool sg) ∧ w'.cell? ⟨b', 4, none⟩ = some (.bool fl) ∧ w'.cell? ⟨b', 5, none⟩ = some (.float .f64 g1) ∧ w'.cell? ⟨b', 6, none⟩ = some (.float .f64 g2) ∧ w'.cell? ⟨b', 7, none⟩ = some (.float .f64 g3) ∧ w'.cell? ⟨b', 8, none⟩ = some (.float .f64 g4))))
          (first | exact ⟨(Grown.refl _).drew, HS.out _ (Grown.refl _).drew⟩ | assumption | exact keepS HS (by assumption) (And.left (by assumption)))
          (first
            | (go_at_call 7; refine (H7'.out _).mono ?_; rintro e w1 ⟨rfl, hg⟩)
            | (go_at_call 9; refine (H9.out _).mono ?_; rintro e w1 ⟨rfl, hg⟩)
            | (go_at_call_of 8 (Value.agg #[.int .i64 s, .int .i64 l, .bool big, .bool sg, .bool fl, .float .f64 g1, .float .f64 g2, .float .f64 g3, .float .f64 g4]); refine (H8.out _).mono ?_; rintro e w1 ⟨rfl, hg⟩)
            | (go_at_call_of 8 (Value.agg #[.int .i64 s, .int .i64 l, .bool big, .bool sg, .bool fl, .float .f64 t1, .float .f64 t1, .float .f64 t2, .float .f64 t2]); refine (H2.out _).mono ?_; rintro e w1 ⟨rfl, hg⟩))
        go_wp2_with fail
        go_ret
        exact ⟨rfl, grown_trans HG.out (And.left (by assumption))⟩
    · obtain ⟨k0, hk0, hbad⟩ := five_bad hm
      have HB := Lib.hid hbad
      clear hm hbad
      go_enter Try.func3, Try.ntmps3
      go_wp2_with fail
      refine (H1.out _).mono ?_
      rintro e w1 ⟨rfl, hg⟩
      rw [HR.out]
      go_wp2_with fail
      refine (small6_no _ 5 (five sc off lo hi v) _ (by omega) (five_cells (by go_simp) (by go_simp) (by go_simp) (by go_simp) (by go_simp)) k0 hk0 HB.out).mono ?_
      rintro e w' ⟨rfl, rfl⟩
      go_wp2_with fail
      go_ret
      exact ⟨rfl, (grown_trans ((Grown.refl _).alloc _ _) hg).alloc _ _⟩

theorem walkPhys (s l : Int) (big sg fl : Bool) (f1 f2 f3 f4 : Nat) (sc off lo hi v : Int) (w : World) :
    Calls Try.prog 3 #[.agg (sigCells s l big sg fl f1 f2 f3 f4), .int .i64 sc, .int .i64 off, .int .i64 lo, .int .i64 hi, .int .i64 v] w fun e w' => e = .returned (.bool true) ∧ Grown w w' := by
  by_cases hb : 0 ≤ s ∧ s ≤ 63 ∧ 1 ≤ l ∧ l ≤ 64
  · obtain ⟨s0, s1, l0, l1⟩ := hb
    obtain ⟨s, rfl⟩ := Int.eq_ofNat_of_zero_le s0
    obtain ⟨l, rfl⟩ := Int.eq_ofNat_of_zero_le (show 0 ≤ l by omega)
    exact phys3_in s l big sg fl f1 f2 f3 f4 sc off lo hi v w (by omega) (by omega) (by omega)
  · have hig := fun W => isig17_out s l big sg fl f1 f2 f3 f4 W hb
    unfold sigCells at *
    have H1 := Lib.hid hig
    clear hig
    go_enter Try.func3, Try.ntmps3
    go_wp2_with fail
    refine (H1.out _).mono ?_
    rintro e w1 ⟨rfl, hg⟩
    go_wp2_with fail
    go_ret
    exact ⟨rfl, grown_trans ((Grown.refl _).alloc _ _) hg⟩

end Go.Proofs.Ytfffcmjpkpdmlaa
