/- The walk of the law on the way back -/
import Derived.Test.YtfffcmjpkpdmlaaM5
import Derived.Deep.Cut
import Derived.Deep.DeepCutAuto
import Derived.Deep.RegionWith
namespace Go.Proofs.Ytfffcmjpkpdmlaa
open Go.ChangeShapes Go.WideShapes Go.ChangeAt Go.RowKit
set_option linter.unusedVariables false

def two (a b : Int) (i : Nat) : Int := if i = 0 then a else b
theorem two_milli {a b : Int} (h : milli a ∧ milli b) : ∀ i, i < 2 → milli (two a b i) := by
  intro i hi
  unfold two
  have : i = 0 ∨ i = 1 := by omega
  rcases this with rfl | rfl
  · exact h.1
  · exact h.2
theorem two_bad {a b : Int} (h : ¬ (milli a ∧ milli b)) : ∃ k, k < 2 ∧ ¬ milli (two a b k) := by
  by_cases h0 : milli a
  · exact ⟨1, by omega, fun h1 => h ⟨h0, h1⟩⟩
  · exact ⟨0, by omega, h0⟩
theorem two_cells {b : Nat} {w : World} {x0 x1 : Int} (h0 : w.cell? ⟨b, 0, none⟩ = some (.int .i64 x0)) (h1 : w.cell? ⟨b, 1, none⟩ = some (.int .i64 x1)) :
    ∀ i, i < 2 → w.cell? ⟨b, i, none⟩ = some (.int .i64 (two x0 x1 i)) := by
  intro i hi
  unfold two
  have : i = 0 ∨ i = 1 := by omega
  rcases this with rfl | rfl
  · exact h0
  · exact h1

theorem keepA {W a : World} {T : World → Prop} (HS : Hid (∀ w1, Grown W w1 → T w1)) {R : Prop} (h : Grown W a ∧ R) {c : Array Value} {t : TypeId} : Grown W (a.alloc (.cells c t)) ∧ T (a.alloc (.cells c t)) := ⟨h.1.alloc c t, HS.out _ (h.1.alloc c t)⟩

set_option maxHeartbeats 8000000 in
theorem back4_false (s l : Nat) (big fl : Bool) (f1 f2 f3 f4 : Nat) (p : Nat) (off v : Int) (w : World) (hs : s < 64) (hl1 : 1 ≤ l) (h62 : ¬ 62 < l) (hp1 : p ≤ 10) (hm : milli off ∧ milli v) (hr : (!fl && Pl.okR 8 s l big) = true) (hb : hasB false v l = true) :
    Calls Try.prog 4 #[.agg (sigCells s l big false fl f1 f2 f3 f4), .int .i64 p, .int .i64 off, .int .i64 v] w fun e w' => e = .returned (.bool true) ∧ Grown w w' := by
  have hv : (Lit.int .i64 v).wf = true := by
    obtain ⟨_, h1, h2⟩ := hm
    simp [Lit.wf, IntKind.min, IntKind.max, IntKind.bits, IntKind.signed]
    omega
  have hig := fun W => isig17 s l big false fl f1 f2 f3 f4 W hs hl1 (by omega)
  have hhas := fun W => has10 s l big false fl f1 f2 f3 f4 v W hl1 (by omega) hv
  have hn := SigAt.new w s l big false fl f1 f2 f3 f4 24
  have HR := Lib.hid hr
  have HB := Lib.hid hb
  have H6 := Lib.hid (two_milli hm)
  obtain ⟨⟨a0, a1⟩, hmv⟩ := hm
  obtain ⟨b0, b1⟩ := id hmv
  obtain ⟨q, hq⟩ : ∃ q : Int, (2 : Int) ^ p = q := ⟨_, rfl⟩
  have hqb : 1 ≤ q ∧ q ≤ 1024 := by
    have h1 := pow_le (show p ≤ 10 by omega)
    have h2 := Nat.two_pow_pos p
    rw [pow_cast] at hq
    omega
  have hw : wrap64 ((2 : Int) ^ p) = q := by
    rw [hq]; unfold wrap64; omega
  have hw' : IntKind.i64.wrap ((2 : Int) ^ p) = q := by
    rw [hq]; simp [IntKind.wrap, IntKind.bits, IntKind.signed]; omega
  have hone : hasB false 1 l = true := by
    unfold hasB
    have h2 := pow_dbl hl1
    have h3 := Nat.two_pow_pos (l - 1)
    simp only [Bool.false_eq_true, if_false, Bool.and_eq_true, decide_eq_true_eq]
    omega
  have i1 := (Fl.whole_eq (a := q) (by omega)).2
  have i2 := (Fl.whole_eq (a := off) (by omega)).2
  have j1 := (Fl.whole_eq (a := 16) (by omega)).2
  have j2 := (Fl.whole_eq (a := 0) (by omega)).2
  have ix := Fl.isF_ofInt (n := v) (by omega)
  have hm : (v * q).natAbs < 2 ^ 53 - 1000001 := by
    have : v.natAbs * q.natAbs ≤ 1000000 * 1024 := Nat.mul_le_mul (by omega) (by omega)
    rw [Int.natAbs_mul]; omega
  obtain ⟨r9, hr9, H9⟩ := phys9 s l big false fl _ _ _ _ _ v q off 0 0 ix i1 i2 j2 j2 (by omega) (by omega)
  have hr9' : Fl.IsF r9 (v * q + off) := by
    unfold clampZ at hr9; rwa [if_pos ⟨rfl, rfl⟩] at hr9
  obtain ⟨r1, hr1, H11⟩ := from11 s l big false fl _ _ _ _ r9 v q off hs hl1 (by omega) hmv HB.out hr9' i1 i2 j2 j2 (by omega) (by omega)
  obtain ⟨r2, hr2, H12⟩ := from11 s l big false fl _ _ _ _ 4607182418800017408 1 16 0 hs hl1 (by omega) ⟨by decide, by decide⟩ hone Fl.isF_c1 j1 j2 j2 j2 (by decide) (by decide)
  have ho : (FloatKind.f64.format.order r1 (floatOfInt .f64 v) == some .eq) = true := by rw [Fl.isF_order hr1 ix, Int.compare_eq_eq.2 rfl]; rfl
  have ho2 : (FloatKind.f64.format.order r2 4607182418800017408 == some .eq) = true := by
    rw [Fl.isF_order hr2 Fl.isF_c1, Int.compare_eq_eq.2 (by decide)]; rfl
  have H7 := fun W => scaled7 s l big false fl f1 f2 f3 f4 q off 0 0 W (by omega) (by omega) (by omega) (by omega)
  have H7' := fun W => scaled7 s l big false fl f1 f2 f3 f4 16 0 0 0 W (by omega) (by omega) (by omega) (by omega)
  clear i1 i2 j1 j2 ix hm hr9 hr9' hr1 hr2 a0 a1 b0 b1 hmv hqb hone hq hb hr hv
  generalize Fl.whole q = g1 at *
  generalize Fl.whole off = g2 at *
  generalize Fl.whole 16 = t1 at *
  generalize Fl.whole 0 = t2 at *
  unfold sigCells at *
  have H1 := Lib.hid hig
  have HH := Lib.hid hhas
  have HN := Lib.hid hn
  have K9 := Lib.hid H9
  have K11 := Lib.hid H11
  have K12 := Lib.hid H12
  have K7 := Lib.hid H7
  have K16 := Lib.hid H7'
  clear H9 H11 H12 H7 H7' hig hhas hn
  have hst := fun (p : Addr) (n : Nat) (m : Mode) (W : World) => run_store Try.prog W p (.float .f64 n) m rfl
  go_enter Try.func4, Try.ntmps4
  go_wp2_with fail
  refine (H1.out _).mono ?_
  rintro e w1 ⟨rfl, hg⟩
  rw [HR.out]
  have hz := hg.2.2
  simp at hz
  have hsA := HN.out.grown hg (by simp)
  have HSA := Lib.hid hsA
  obtain ⟨c0, c1, c2, c3, c4, c5, c6, c7, c8⟩ := hsA
  go_wp2_with fail
  refine (HH.out _).mono ?_
  rintro e w2 ⟨rfl, hg2⟩
  rw [HB.out]
  go_wp2_with fail
  refine (small6_yes _ 2 (two off v) _ (by omega) (two_cells (by go_simp) (by go_simp)) H6.out).mono ?_
  rintro e w' ⟨rfl, rfl⟩
  have hz2 := hg2.2.2
  obtain ⟨W2, hW2⟩ : ∃ W2, W2 = w2.alloc (.cells #[.int .i64 off, .int .i64 v] 3) := ⟨_, rfl⟩
  have hgW : Grown w W2 := by rw [hW2]; exact (grown_trans ((Grown.refl _).alloc _ _) (grown_trans hg hg2)).alloc _ _
  have hs2 : SigAt W2 w.heap.size s l big false fl f1 f2 f3 f4 := by rw [hW2]; exact (HSA.out.grown hg2 (by omega)).grown ((Grown.refl w2).alloc _ _) (by omega)
  have hz3 : w.heap.size < W2.heap.size := by rw [hW2]; simp; omega
  rw [← hW2]
  clear hW2 hg hg2 hz hz2 c0 c1 c2 c3 c4 c5 c6 c7 c8 HSA HN H1 HH
  have HGW := Lib.hid hgW
  have HS2 := Lib.hid hs2
  clear hgW
  generalize w.heap.size = b at *
  obtain ⟨c0, c1, c2, c3, c4, c5, c6, c7, c8⟩ := hs2
  go_wp2_with fail
  go_cut [9] (fun s9 wx => ∃ n, s9 = .pointer (some ⟨n, 0, none⟩) ∧ Grown W2 wx ∧ SigAt wx n s l big false fl g1 g2 t2 t2 ∧ n < wx.heap.size)
  case first =>
      go_region_with (go_at_call 7; refine (K7.out _).mono ?_; rintro e w1 ⟨rfl, hg⟩; first
             | (have hz9 : W2.heap.size < w1.heap.size := by
                  have := hg.2.2
                  simp at this
                  omega
                have hG : Grown W2 w1 := grown_trans ((Grown.refl _).alloc _ _) hg
                have z0 : w1.cell? ⟨W2.heap.size, 0, none⟩ = some (.int .i64 0) := (grown_cell hg (by simp)).trans (by go_simp)
                have z1 : w1.cell? ⟨W2.heap.size, 1, none⟩ = some (.int .i64 0) := (grown_cell hg (by simp)).trans (by go_simp)
                have z2 : w1.cell? ⟨W2.heap.size, 2, none⟩ = some (.bool false) := (grown_cell hg (by simp)).trans (by go_simp)
                have z3 : w1.cell? ⟨W2.heap.size, 3, none⟩ = some (.bool false) := (grown_cell hg (by simp)).trans (by go_simp)
                have z4 : w1.cell? ⟨W2.heap.size, 4, none⟩ = some (.bool false) := (grown_cell hg (by simp)).trans (by go_simp)
                have z5 : w1.cell? ⟨W2.heap.size, 5, none⟩ = some (.float .f64 0) := (grown_cell hg (by simp)).trans (by go_simp)
                have z6 : w1.cell? ⟨W2.heap.size, 6, none⟩ = some (.float .f64 0) := (grown_cell hg (by simp)).trans (by go_simp)
                have z7 : w1.cell? ⟨W2.heap.size, 7, none⟩ = some (.float .f64 0) := (grown_cell hg (by simp)).trans (by go_simp)
                have z8 : w1.cell? ⟨W2.heap.size, 8, none⟩ = some (.float .f64 0) := (grown_cell hg (by simp)).trans (by go_simp)
                have y0 : w1.frozen? ⟨W2.heap.size, 0, none⟩ = false := (hg.2.1 _).trans (by go_simp)
                have y1 : w1.frozen? ⟨W2.heap.size, 1, none⟩ = false := (hg.2.1 _).trans (by go_simp)
                have y2 : w1.frozen? ⟨W2.heap.size, 2, none⟩ = false := (hg.2.1 _).trans (by go_simp)
                have y3 : w1.frozen? ⟨W2.heap.size, 3, none⟩ = false := (hg.2.1 _).trans (by go_simp)
                have y4 : w1.frozen? ⟨W2.heap.size, 4, none⟩ = false := (hg.2.1 _).trans (by go_simp)
                have y5 : w1.frozen? ⟨W2.heap.size, 5, none⟩ = false := (hg.2.1 _).trans (by go_simp)
                have y6 : w1.frozen? ⟨W2.heap.size, 6, none⟩ = false := (hg.2.1 _).trans (by go_simp)
                have y7 : w1.frozen? ⟨W2.heap.size, 7, none⟩ = false := (hg.2.1 _).trans (by go_simp)
                have y8 : w1.frozen? ⟨W2.heap.size, 8, none⟩ = false := (hg.2.1 _).trans (by go_simp)
                clear hg)
             | (have hG : Grown W2 w1 := grown_trans (Grown.refl _) hg
                clear hg))
      all_goals (go_wp2_with fail; go_meet)
      all_goals first
        | (have _ := hz9
           refine ⟨_, rfl, ((((((((hG.setCell (Nat.le_refl _) _).setCell (Nat.le_refl _) _).setCell (Nat.le_refl _) _).setCell (Nat.le_refl _) _).setCell (Nat.le_refl _) _).setCell (Nat.le_refl _) _).setCell (Nat.le_refl _) _).setCell (Nat.le_refl _) _).setCell (Nat.le_refl _) _, ?_, ?_⟩
           · refine ⟨?_, ?_, ?_, ?_, ?_, ?_, ?_, ?_, ?_⟩ <;> go_simp
           · simp [World.setCell]; exact hz9)
        | exact ⟨_, rfl, hG.alloc _ _, SigAt.new w1 _ _ _ _ _ _ _ _ _ _, by simp⟩
  case rest =>
      obtain ⟨n, rfl, hgn, hsn, hzn⟩ := hcut
      have hA := HS2.out.grown hgn hz3
      have hzA := Nat.lt_of_lt_of_le hz3 hgn.2.2
      have HS := Lib.hid (fun w1 (h : Grown wc w1) => And.intro (hA.grown h hzA) (hsn.grown h hzn))
      have HG := Lib.hid (grown_trans HGW.out hgn)
      clear HS2 HGW hgn hz3 hzn hzA c0 c1 c2 c3 c4 c5 c6 c7 c8
      obtain ⟨c0, c1, c2, c3, c4, c5, c6, c7, c8⟩ := hA
      obtain ⟨d0, d1, d2, d3, d4, d5, d6, d7, d8⟩ := hsn
      go_wp2_with fail
      go_region_held3 (fun w' => Grown wc w' ∧ ((w'.cell? ⟨b, 0, none⟩ = some (.int .i64 s) ∧ w'.cell? ⟨b, 1, none⟩ = some (.int .i64 l) ∧ w'.cell? ⟨b, 2, none⟩ = some (.bool big) ∧ w'.cell? ⟨b, 3, none⟩ = some (.bool false) ∧ w'.cell? ⟨b, 4, none⟩ = some (.bool fl) ∧ w'.cell? ⟨b, 5, none⟩ = some (.float .f64 f1) ∧ w'.cell? ⟨b, 6, none⟩ = some (.float .f64 f2) ∧ w'.cell? ⟨b, 7, none⟩ = some (.float .f64 f3) ∧ w'.cell? ⟨b, 8, none⟩ = some (.float .f64 f4)) ∧ (w'.cell? ⟨n, 0, none⟩ = some (.int .i64 s) ∧ w'.cell? ⟨n, 1, none⟩ = some (.int .i64 l) ∧ w'.cell? ⟨n, 2, none⟩ = some (.bool big) ∧ w'.cell? ⟨n, 3, none⟩ = some (.bool false) ∧ w'.cell? ⟨n, 4, none⟩ = some (.bool fl) ∧ w'.cell? ⟨n, 5, none⟩ = some (.float .f64 g1) ∧ w'.cell? ⟨n, 6, none⟩ = some (.float .f64 g2) ∧ w'.cell? ⟨n, 7, none⟩ = some (.float .f64 t2) ∧ w'.cell? ⟨n, 8, none⟩ = some (.float .f64 t2))))
        (first | exact ⟨(Grown.refl _).drew, HS.out _ (Grown.refl _).drew⟩ | assumption | exact keepS HS (by assumption) (And.left (by assumption)))
        (first
          | (go_at_call 7; refine (K16.out _).mono ?_; rintro e w1 ⟨rfl, hg⟩)
          | (go_at_call 9; refine (K9.out _).mono ?_; rintro e w1 ⟨rfl, hg⟩)
          | (go_at_call_of 11 (Value.agg #[.int .i64 s, .int .i64 l, .bool big, .bool false, .bool fl, .float .f64 g1, .float .f64 g2, .float .f64 t2, .float .f64 t2]); refine (K11.out _).mono ?_; rintro e w1 ⟨rfl, hg⟩)
          | (go_at_call_of 11 (Value.agg #[.int .i64 s, .int .i64 l, .bool big, .bool false, .bool fl, .float .f64 t1, .float .f64 t2, .float .f64 t2, .float .f64 t2]); refine (K12.out _).mono ?_; rintro e w1 ⟨rfl, hg⟩))
      go_wp2_with fail
      go_ret
      exact ⟨rfl, grown_trans HG.out (And.left (by assumption))⟩

set_option maxHeartbeats 8000000 in
theorem back4_true (s l : Nat) (big fl : Bool) (f1 f2 f3 f4 : Nat) (p : Nat) (off v : Int) (w : World) (hs : s < 64) (hl1 : 1 ≤ l) (h62 : ¬ 62 < l) (hl2 : ¬ l = 1) (hp1 : p ≤ 10) (hm : milli off ∧ milli v) (hr : (!fl && Pl.okR 8 s l big) = true) (hb : hasB true v l = true) :
    Calls Try.prog 4 #[.agg (sigCells s l big true fl f1 f2 f3 f4), .int .i64 p, .int .i64 off, .int .i64 v] w fun e w' => e = .returned (.bool true) ∧ Grown w w' := by
  have hv : (Lit.int .i64 v).wf = true := by
    obtain ⟨_, h1, h2⟩ := hm
    simp [Lit.wf, IntKind.min, IntKind.max, IntKind.bits, IntKind.signed]
    omega
  have hig := fun W => isig17 s l big true fl f1 f2 f3 f4 W hs hl1 (by omega)
  have hhas := fun W => has10 s l big true fl f1 f2 f3 f4 v W hl1 (by omega) hv
  have hn := SigAt.new w s l big true fl f1 f2 f3 f4 24
  have HR := Lib.hid hr
  have HB := Lib.hid hb
  have H6 := Lib.hid (two_milli hm)
  obtain ⟨⟨a0, a1⟩, hmv⟩ := hm
  obtain ⟨b0, b1⟩ := id hmv
  obtain ⟨q, hq⟩ : ∃ q : Int, (2 : Int) ^ p = q := ⟨_, rfl⟩
  have hqb : 1 ≤ q ∧ q ≤ 1024 := by
    have h1 := pow_le (show p ≤ 10 by omega)
    have h2 := Nat.two_pow_pos p
    rw [pow_cast] at hq
    omega
  have hw : wrap64 ((2 : Int) ^ p) = q := by
    rw [hq]; unfold wrap64; omega
  have hw' : IntKind.i64.wrap ((2 : Int) ^ p) = q := by
    rw [hq]; simp [IntKind.wrap, IntKind.bits, IntKind.signed]; omega
  have hone : hasB true 1 l = true := by
    unfold hasB
    have h2 := pow_dbl hl1
    have h3 := Nat.two_pow_pos (l - 1)
    simp only [if_true]
    unfold Pl.fitS
    rw [Bool.and_eq_true, decide_eq_true_eq, decide_eq_true_eq]
    have h4 := pow_dbl (show 1 ≤ l - 1 by omega)
    have h5 := Nat.two_pow_pos (l - 1 - 1)
    omega
  have i1 := (Fl.whole_eq (a := q) (by omega)).2
  have i2 := (Fl.whole_eq (a := off) (by omega)).2
  have j1 := (Fl.whole_eq (a := 16) (by omega)).2
  have j2 := (Fl.whole_eq (a := 0) (by omega)).2
  have ix := Fl.isF_ofInt (n := v) (by omega)
  have hm : (v * q).natAbs < 2 ^ 53 - 1000001 := by
    have : v.natAbs * q.natAbs ≤ 1000000 * 1024 := Nat.mul_le_mul (by omega) (by omega)
    rw [Int.natAbs_mul]; omega
  obtain ⟨r9, hr9, H9⟩ := phys9 s l big true fl _ _ _ _ _ v q off 0 0 ix i1 i2 j2 j2 (by omega) (by omega)
  have hr9' : Fl.IsF r9 (v * q + off) := by
    unfold clampZ at hr9; rwa [if_pos ⟨rfl, rfl⟩] at hr9
  obtain ⟨r1, hr1, H11⟩ := from11 s l big true fl _ _ _ _ r9 v q off hs hl1 (by omega) hmv HB.out hr9' i1 i2 j2 j2 (by omega) (by omega)
  obtain ⟨r2, hr2, H12⟩ := from11 s l big true fl _ _ _ _ 4607182418800017408 1 16 0 hs hl1 (by omega) ⟨by decide, by decide⟩ hone Fl.isF_c1 j1 j2 j2 j2 (by decide) (by decide)
  have ho : (FloatKind.f64.format.order r1 (floatOfInt .f64 v) == some .eq) = true := by rw [Fl.isF_order hr1 ix, Int.compare_eq_eq.2 rfl]; rfl
  have ho2 : (FloatKind.f64.format.order r2 4607182418800017408 == some .eq) = true := by
    rw [Fl.isF_order hr2 Fl.isF_c1, Int.compare_eq_eq.2 (by decide)]; rfl
  have H7 := fun W => scaled7 s l big true fl f1 f2 f3 f4 q off 0 0 W (by omega) (by omega) (by omega) (by omega)
  have H7' := fun W => scaled7 s l big true fl f1 f2 f3 f4 16 0 0 0 W (by omega) (by omega) (by omega) (by omega)
  clear i1 i2 j1 j2 ix hm hr9 hr9' hr1 hr2 a0 a1 b0 b1 hmv hqb hone hq hb hr hv
  generalize Fl.whole q = g1 at *
  generalize Fl.whole off = g2 at *
  generalize Fl.whole 16 = t1 at *
  generalize Fl.whole 0 = t2 at *
  unfold sigCells at *
  have H1 := Lib.hid hig
  have HH := Lib.hid hhas
  have HN := Lib.hid hn
  have K9 := Lib.hid H9
  have K11 := Lib.hid H11
  have K12 := Lib.hid H12
  have K7 := Lib.hid H7
  have K16 := Lib.hid H7'
  clear H9 H11 H12 H7 H7' hig hhas hn
  have hl3 : (((l : Nat) : Int) == 1) = false := by rw [beq_eq_false_iff_ne]; omega
  have hst := fun (p : Addr) (n : Nat) (m : Mode) (W : World) => run_store Try.prog W p (.float .f64 n) m rfl
  go_enter Try.func4, Try.ntmps4
  go_wp2_with fail
  refine (H1.out _).mono ?_
  rintro e w1 ⟨rfl, hg⟩
  rw [HR.out]
  have hz := hg.2.2
  simp at hz
  have hsA := HN.out.grown hg (by simp)
  have HSA := Lib.hid hsA
  obtain ⟨c0, c1, c2, c3, c4, c5, c6, c7, c8⟩ := hsA
  go_wp2_with fail
  refine (HH.out _).mono ?_
  rintro e w2 ⟨rfl, hg2⟩
  rw [HB.out]
  go_wp2_with fail
  refine (small6_yes _ 2 (two off v) _ (by omega) (two_cells (by go_simp) (by go_simp)) H6.out).mono ?_
  rintro e w' ⟨rfl, rfl⟩
  have hz2 := hg2.2.2
  obtain ⟨W2, hW2⟩ : ∃ W2, W2 = w2.alloc (.cells #[.int .i64 off, .int .i64 v] 3) := ⟨_, rfl⟩
  have hgW : Grown w W2 := by rw [hW2]; exact (grown_trans ((Grown.refl _).alloc _ _) (grown_trans hg hg2)).alloc _ _
  have hs2 : SigAt W2 w.heap.size s l big true fl f1 f2 f3 f4 := by rw [hW2]; exact (HSA.out.grown hg2 (by omega)).grown ((Grown.refl w2).alloc _ _) (by omega)
  have hz3 : w.heap.size < W2.heap.size := by rw [hW2]; simp; omega
  rw [← hW2]
  clear hW2 hg hg2 hz hz2 c0 c1 c2 c3 c4 c5 c6 c7 c8 HSA HN H1 HH
  have HGW := Lib.hid hgW
  have HS2 := Lib.hid hs2
  clear hgW
  generalize w.heap.size = b at *
  obtain ⟨c0, c1, c2, c3, c4, c5, c6, c7, c8⟩ := hs2
  go_wp2_with fail
  go_cut [9] (fun s9 wx => ∃ n, s9 = .pointer (some ⟨n, 0, none⟩) ∧ Grown W2 wx ∧ SigAt wx n s l big true fl g1 g2 t2 t2 ∧ n < wx.heap.size)
  case first =>
      go_region_with (go_at_call 7; refine (K7.out _).mono ?_; rintro e w1 ⟨rfl, hg⟩; first
             | (have hz9 : W2.heap.size < w1.heap.size := by
                  have := hg.2.2
                  simp at this
                  omega
                have hG : Grown W2 w1 := grown_trans ((Grown.refl _).alloc _ _) hg
                have z0 : w1.cell? ⟨W2.heap.size, 0, none⟩ = some (.int .i64 0) := (grown_cell hg (by simp)).trans (by go_simp)
                have z1 : w1.cell? ⟨W2.heap.size, 1, none⟩ = some (.int .i64 0) := (grown_cell hg (by simp)).trans (by go_simp)
                have z2 : w1.cell? ⟨W2.heap.size, 2, none⟩ = some (.bool false) := (grown_cell hg (by simp)).trans (by go_simp)
                have z3 : w1.cell? ⟨W2.heap.size, 3, none⟩ = some (.bool false) := (grown_cell hg (by simp)).trans (by go_simp)
                have z4 : w1.cell? ⟨W2.heap.size, 4, none⟩ = some (.bool false) := (grown_cell hg (by simp)).trans (by go_simp)
                have z5 : w1.cell? ⟨W2.heap.size, 5, none⟩ = some (.float .f64 0) := (grown_cell hg (by simp)).trans (by go_simp)
                have z6 : w1.cell? ⟨W2.heap.size, 6, none⟩ = some (.float .f64 0) := (grown_cell hg (by simp)).trans (by go_simp)
                have z7 : w1.cell? ⟨W2.heap.size, 7, none⟩ = some (.float .f64 0) := (grown_cell hg (by simp)).trans (by go_simp)
                have z8 : w1.cell? ⟨W2.heap.size, 8, none⟩ = some (.float .f64 0) := (grown_cell hg (by simp)).trans (by go_simp)
                have y0 : w1.frozen? ⟨W2.heap.size, 0, none⟩ = false := (hg.2.1 _).trans (by go_simp)
                have y1 : w1.frozen? ⟨W2.heap.size, 1, none⟩ = false := (hg.2.1 _).trans (by go_simp)
                have y2 : w1.frozen? ⟨W2.heap.size, 2, none⟩ = false := (hg.2.1 _).trans (by go_simp)
                have y3 : w1.frozen? ⟨W2.heap.size, 3, none⟩ = false := (hg.2.1 _).trans (by go_simp)
                have y4 : w1.frozen? ⟨W2.heap.size, 4, none⟩ = false := (hg.2.1 _).trans (by go_simp)
                have y5 : w1.frozen? ⟨W2.heap.size, 5, none⟩ = false := (hg.2.1 _).trans (by go_simp)
                have y6 : w1.frozen? ⟨W2.heap.size, 6, none⟩ = false := (hg.2.1 _).trans (by go_simp)
                have y7 : w1.frozen? ⟨W2.heap.size, 7, none⟩ = false := (hg.2.1 _).trans (by go_simp)
                have y8 : w1.frozen? ⟨W2.heap.size, 8, none⟩ = false := (hg.2.1 _).trans (by go_simp)
                clear hg)
             | (have hG : Grown W2 w1 := grown_trans (Grown.refl _) hg
                clear hg))
      all_goals (go_wp2_with fail; go_meet)
      all_goals first
        | (have _ := hz9
           refine ⟨_, rfl, ((((((((hG.setCell (Nat.le_refl _) _).setCell (Nat.le_refl _) _).setCell (Nat.le_refl _) _).setCell (Nat.le_refl _) _).setCell (Nat.le_refl _) _).setCell (Nat.le_refl _) _).setCell (Nat.le_refl _) _).setCell (Nat.le_refl _) _).setCell (Nat.le_refl _) _, ?_, ?_⟩
           · refine ⟨?_, ?_, ?_, ?_, ?_, ?_, ?_, ?_, ?_⟩ <;> go_simp
           · simp [World.setCell]; exact hz9)
        | exact ⟨_, rfl, hG.alloc _ _, SigAt.new w1 _ _ _ _ _ _ _ _ _ _, by simp⟩
  case rest =>
      obtain ⟨n, rfl, hgn, hsn, hzn⟩ := hcut
      have hA := HS2.out.grown hgn hz3
      have hzA := Nat.lt_of_lt_of_le hz3 hgn.2.2
      have HS := Lib.hid (fun w1 (h : Grown wc w1) => And.intro (hA.grown h hzA) (hsn.grown h hzn))
      have HG := Lib.hid (grown_trans HGW.out hgn)
      clear HS2 HGW hgn hz3 hzn hzA c0 c1 c2 c3 c4 c5 c6 c7 c8
      obtain ⟨c0, c1, c2, c3, c4, c5, c6, c7, c8⟩ := hA
      obtain ⟨d0, d1, d2, d3, d4, d5, d6, d7, d8⟩ := hsn
      go_wp2_with fail
      go_region_held3 (fun w' => Grown wc w' ∧ ((w'.cell? ⟨b, 0, none⟩ = some (.int .i64 s) ∧ w'.cell? ⟨b, 1, none⟩ = some (.int .i64 l) ∧ w'.cell? ⟨b, 2, none⟩ = some (.bool big) ∧ w'.cell? ⟨b, 3, none⟩ = some (.bool true) ∧ w'.cell? ⟨b, 4, none⟩ = some (.bool fl) ∧ w'.cell? ⟨b, 5, none⟩ = some (.float .f64 f1) ∧ w'.cell? ⟨b, 6, none⟩ = some (.float .f64 f2) ∧ w'.cell? ⟨b, 7, none⟩ = some (.float .f64 f3) ∧ w'.cell? ⟨b, 8, none⟩ = some (.float .f64 f4)) ∧ (w'.cell? ⟨n, 0, none⟩ = some (.int .i64 s) ∧ w'.cell? ⟨n, 1, none⟩ = some (.int .i64 l) ∧ w'.cell? ⟨n, 2, none⟩ = some (.bool big) ∧ w'.cell? ⟨n, 3, none⟩ = some (.bool true) ∧ w'.cell? ⟨n, 4, none⟩ = some (.bool fl) ∧ w'.cell? ⟨n, 5, none⟩ = some (.float .f64 g1) ∧ w'.cell? ⟨n, 6, none⟩ = some (.float .f64 g2) ∧ w'.cell? ⟨n, 7, none⟩ = some (.float .f64 t2) ∧ w'.cell? ⟨n, 8, none⟩ = some (.float .f64 t2))))
        (first | exact ⟨(Grown.refl _).drew, HS.out _ (Grown.refl _).drew⟩ | assumption | exact keepS HS (by assumption) (And.left (by assumption)))
        (first
          | (go_at_call 7; refine (K16.out _).mono ?_; rintro e w1 ⟨rfl, hg⟩)
          | (go_at_call 9; refine (K9.out _).mono ?_; rintro e w1 ⟨rfl, hg⟩)
          | (go_at_call_of 11 (Value.agg #[.int .i64 s, .int .i64 l, .bool big, .bool true, .bool fl, .float .f64 g1, .float .f64 g2, .float .f64 t2, .float .f64 t2]); refine (K11.out _).mono ?_; rintro e w1 ⟨rfl, hg⟩)
          | (go_at_call_of 11 (Value.agg #[.int .i64 s, .int .i64 l, .bool big, .bool true, .bool fl, .float .f64 t1, .float .f64 t2, .float .f64 t2, .float .f64 t2]); refine (K12.out _).mono ?_; rintro e w1 ⟨rfl, hg⟩))
      go_wp2_with fail
      go_ret
      exact ⟨rfl, grown_trans HG.out (And.left (by assumption))⟩


end Go.Proofs.Ytfffcmjpkpdmlaa
