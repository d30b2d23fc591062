/- The walk of the law on a signal's own numbers -/
import Derived.Test.YtjmlfobljlfngaaU2
namespace Go.Proofs.Ytjmlfobljlfngaa
open Go.ChangeShapes Go.WideShapes Go.ChangeAt Go.RowKit
set_option linter.unusedVariables false

set_option maxHeartbeats 1000000 in
theorem rawCore_true (s l : Nat) (big fl : Bool) (f1 f2 f3 f4 N v : Nat) (n : Int) (w : World) (hN : N < 2 ^ 64) (hv : v < 2 ^ 64) (hn : (Lit.int .i64 n).wf = true) (hin : Pl.Inside s l big) (hr : (!fl && Pl.okR 8 s l big) = true) (hvl : v < 2 ^ l) (hnl : Pl.fitS n l = true) :
    Calls Try.prog 14 #[.agg (sigCells s l big true fl f1 f2 f3 f4), .agg (Pl.arr N), .int .u64 v, .int .i64 n] w fun e w' => e = .returned (.bool true) ∧ Grown w w' := by
  have hs := hin.s
  have hl := hin.l64
  have h1 := hin.l
  have hig := fun W => isig17 s l big true fl f1 f2 f3 f4 W hs h1 hl
  rw [hr] at hig
  have h16 := fun W => fits16 v l W hv hl
  rw [decide_eq_true hvl] at h16
  have h41 := fun W => fits41 n l W h1 hl hn
  rw [hnl] at h41
  have h43 := fun W => raw43 s l big true fl f1 f2 f3 f4 N W hN hin
  have h44 := fun W => put44_true s l big fl f1 f2 f3 f4 N v n W hN hin hn
  have h35 := fun W => ref35 N s l big W hin
  have h37 := fun W => refs37 N s l big W hin
  have h40 := fun W => set40 N s l (Pl.uns n) big W hN hin (Pl.uns_lt n)
  have hq := fun W => eq_arr (Pl.SU N s l big (Pl.uns n)) W
  rw [← Pl.uns_cast] at h40
  have hsa := SigAt.new w s l big true fl f1 f2 f3 f4 26
  have har := ArrAt.new (w.alloc (.cells (sigCells s l big true fl f1 f2 f3 f4) 26)) N 32
  rw [show (w.alloc (.cells (sigCells s l big true fl f1 f2 f3 f4) 26)).heap.size = w.heap.size + 1 by simp] at har
  generalize Pl.SU N s l big (Pl.uns n) = M at *
  generalize Pl.sgn (Pl.U N s l big) l = m at *
  generalize ((Pl.U N s l big : Nat) : Int) = x at *
  unfold sigCells Pl.arr at *
  have H17 := Lib.hid hig
  have H16 := Lib.hid h16
  have H41 := Lib.hid h41
  have H43 := Lib.hid h43
  have H44 := Lib.hid h44
  have H35 := Lib.hid h35
  have H37 := Lib.hid h37
  have H40 := Lib.hid h40
  have HQ := Lib.hid hq
  have HSA := Lib.hid (hsa.grown ((Grown.refl _).alloc _ _) (by simp) : SigAt ((w.alloc _).alloc (.cells #[.int .u8 (Pl.byt N 0 : Nat), .int .u8 (Pl.byt N 1 : Nat), .int .u8 (Pl.byt N 2 : Nat), .int .u8 (Pl.byt N 3 : Nat), .int .u8 (Pl.byt N 4 : Nat), .int .u8 (Pl.byt N 5 : Nat), .int .u8 (Pl.byt N 6 : Nat), .int .u8 (Pl.byt N 7 : Nat)] 32)) _ _ _ _ _ _ _ _ _ _)
  have HAR := Lib.hid har
  clear hig h16 h41 h43 h44 h35 h37 h40 hq hsa har hr hvl hnl hn
  go_enter Try.func14, Try.ntmps14
  go_wp2_with fail
  refine (H17.out _).mono ?_
  rintro e w1 ⟨rfl, hg⟩
  have hz := hg.2.2
  simp at hz
  obtain ⟨c0, c1, c2, c3, c4, c5, c6, c7, c8⟩ := HSA.out.grown hg (by simp; omega)
  obtain ⟨d0, d1, d2, d3, d4, d5, d6, d7⟩ := HAR.out.grown hg (by simp)
  have HG1 := Lib.hid hg
  clear hg
  go_wp2_with fail
  refine (H16.out _).mono ?_
  rintro e w1 ⟨rfl, rfl⟩
  go_wp2_with fail
  refine (H41.out _).mono ?_
  rintro e w' ⟨rfl, rfl⟩
  go_wp2_with fail
  refine (H43.out _).mono ?_
  rintro e w2 ⟨rfl, hg⟩
  have hz2 := hg.2.2
  obtain ⟨q0, q1, q2, q3, q4, q5, q6, q7, q8⟩ := (HSA.out.grown HG1.out (by simp; omega)).grown hg (show w.heap.size < w1.heap.size by omega)
  have HG2 := Lib.hid hg
  clear hg
  go_wp2_with fail
  refine wp_world (fun W => Grown w W ∧ SigAt W w.heap.size s l big true fl f1 f2 f3 f4 ∧ ArrAt (w.heap.size + 1) N W ∧ w.heap.size < W.heap.size)
    ⟨grown_trans (((Grown.refl _).alloc _ _).alloc _ _) (grown_trans HG1.out HG2.out), (HSA.out.grown HG1.out (by simp; omega)).grown HG2.out (show w.heap.size < w1.heap.size by omega), (HAR.out.grown HG1.out (by simp)).grown HG2.out (show w.heap.size + 1 < w1.heap.size by omega), by omega⟩ ?_
  clear c0 c1 c2 c3 c4 c5 c6 c7 c8 d0 d1 d2 d3 d4 d5 d6 d7 q0 q1 q2 q3 q4 q5 q6 q7 q8 hz hz2 HG1 HG2 HSA HAR
  rintro W ⟨hgW, hS, hT, hz⟩
  have HS := Lib.hid (fun w1 (h : Grown W w1) => (⟨hS.grown h hz, hT.grown h hT.lt⟩ : SigAt w1 w.heap.size s l big true fl f1 f2 f3 f4 ∧ ArrAt (w.heap.size + 1) N w1))
  have HG := Lib.hid hgW
  clear hgW
  generalize w.heap.size = b at *
  obtain ⟨c0, c1, c2, c3, c4, c5, c6, c7, c8⟩ := hS
  obtain ⟨d0, d1, d2, d3, d4, d5, d6, d7⟩ := hT
  have HE := HQ.out
  go_region_held3 (fun w' => Grown W w' ∧ (w'.cell? ⟨b, 0, none⟩ = some (.int .i64 s) ∧ w'.cell? ⟨b, 1, none⟩ = some (.int .i64 l) ∧ w'.cell? ⟨b, 2, none⟩ = some (.bool big) ∧ w'.cell? ⟨b, 3, none⟩ = some (.bool true) ∧ w'.cell? ⟨b, 4, none⟩ = some (.bool fl) ∧ w'.cell? ⟨b, 5, none⟩ = some (.float .f64 f1) ∧ w'.cell? ⟨b, 6, none⟩ = some (.float .f64 f2) ∧ w'.cell? ⟨b, 7, none⟩ = some (.float .f64 f3) ∧ w'.cell? ⟨b, 8, none⟩ = some (.float .f64 f4)) ∧ w'.cell? ⟨b + 1, 0, none⟩ = some (.int .u8 (Pl.byt N 0 : Nat)) ∧ w'.cell? ⟨b + 1, 1, none⟩ = some (.int .u8 (Pl.byt N 1 : Nat)) ∧ w'.cell? ⟨b + 1, 2, none⟩ = some (.int .u8 (Pl.byt N 2 : Nat)) ∧ w'.cell? ⟨b + 1, 3, none⟩ = some (.int .u8 (Pl.byt N 3 : Nat)) ∧ w'.cell? ⟨b + 1, 4, none⟩ = some (.int .u8 (Pl.byt N 4 : Nat)) ∧ w'.cell? ⟨b + 1, 5, none⟩ = some (.int .u8 (Pl.byt N 5 : Nat)) ∧ w'.cell? ⟨b + 1, 6, none⟩ = some (.int .u8 (Pl.byt N 6 : Nat)) ∧ w'.cell? ⟨b + 1, 7, none⟩ = some (.int .u8 (Pl.byt N 7 : Nat)))
    (first | exact ⟨(Grown.refl _).drew, HS.out _ (Grown.refl _).drew⟩ | assumption | exact keepS HS (by assumption) (And.left (by assumption)))
    (first
      | (go_at_call 35; refine (H35.out _).mono ?_; rintro e w1 ⟨rfl, hg⟩)
      | (go_at_call 37; refine (H37.out _).mono ?_; rintro e w1 ⟨rfl, hg⟩)
      | (go_at_call 44; refine (H44.out _).mono ?_; rintro e w1 ⟨rfl, hg⟩)
      | (go_at_call 40; refine (H40.out _).mono ?_; rintro e w1 ⟨rfl, hg⟩)
      | (go_at_call 24; refine (bit24_one _).mono ?_; rintro e w1 ⟨rfl, hg⟩))
  all_goals
    go_wp2_with fail
    go_ret
    exact ⟨rfl, grown_trans HG.out (And.left (by assumption))⟩


set_option maxHeartbeats 1000000 in
theorem rawCore_false (s l : Nat) (big fl : Bool) (f1 f2 f3 f4 N v : Nat) (n : Int) (w : World) (hN : N < 2 ^ 64) (hv : v < 2 ^ 64) (hn : (Lit.int .i64 n).wf = true) (hin : Pl.Inside s l big) (hr : (!fl && Pl.okR 8 s l big) = true) (hvl : v < 2 ^ l) (hnl : Pl.fitS n l = true) :
    Calls Try.prog 14 #[.agg (sigCells s l big false fl f1 f2 f3 f4), .agg (Pl.arr N), .int .u64 v, .int .i64 n] w fun e w' => e = .returned (.bool true) ∧ Grown w w' := by
  have hs := hin.s
  have hl := hin.l64
  have h1 := hin.l
  have hig := fun W => isig17 s l big false fl f1 f2 f3 f4 W hs h1 hl
  rw [hr] at hig
  have h16 := fun W => fits16 v l W hv hl
  rw [decide_eq_true hvl] at h16
  have h41 := fun W => fits41 n l W h1 hl hn
  rw [hnl] at h41
  have h43 := fun W => raw43 s l big false fl f1 f2 f3 f4 N W hN hin
  have h44 := fun W => put44_false s l big fl f1 f2 f3 f4 N v n W hN hin hvl
  have h35 := fun W => ref35 N s l big W hin
  have h37 := fun W => refs37 N s l big W hin
  have h40 := fun W => set40 N s l v big W hN hin hv
  have hq := fun W => eq_arr (Pl.SU N s l big v) W
  skip
  have hsa := SigAt.new w s l big false fl f1 f2 f3 f4 26
  have har := ArrAt.new (w.alloc (.cells (sigCells s l big false fl f1 f2 f3 f4) 26)) N 32
  rw [show (w.alloc (.cells (sigCells s l big false fl f1 f2 f3 f4) 26)).heap.size = w.heap.size + 1 by simp] at har
  generalize Pl.SU N s l big v = M at *
  generalize Pl.sgn (Pl.U N s l big) l = m at *
  generalize ((Pl.U N s l big : Nat) : Int) = x at *
  unfold sigCells Pl.arr at *
  have H17 := Lib.hid hig
  have H16 := Lib.hid h16
  have H41 := Lib.hid h41
  have H43 := Lib.hid h43
  have H44 := Lib.hid h44
  have H35 := Lib.hid h35
  have H37 := Lib.hid h37
  have H40 := Lib.hid h40
  have HQ := Lib.hid hq
  have HSA := Lib.hid (hsa.grown ((Grown.refl _).alloc _ _) (by simp) : SigAt ((w.alloc _).alloc (.cells #[.int .u8 (Pl.byt N 0 : Nat), .int .u8 (Pl.byt N 1 : Nat), .int .u8 (Pl.byt N 2 : Nat), .int .u8 (Pl.byt N 3 : Nat), .int .u8 (Pl.byt N 4 : Nat), .int .u8 (Pl.byt N 5 : Nat), .int .u8 (Pl.byt N 6 : Nat), .int .u8 (Pl.byt N 7 : Nat)] 32)) _ _ _ _ _ _ _ _ _ _)
  have HAR := Lib.hid har
  clear hig h16 h41 h43 h44 h35 h37 h40 hq hsa har hr hvl hnl hn
  go_enter Try.func14, Try.ntmps14
  go_wp2_with fail
  refine (H17.out _).mono ?_
  rintro e w1 ⟨rfl, hg⟩
  have hz := hg.2.2
  simp at hz
  obtain ⟨c0, c1, c2, c3, c4, c5, c6, c7, c8⟩ := HSA.out.grown hg (by simp; omega)
  obtain ⟨d0, d1, d2, d3, d4, d5, d6, d7⟩ := HAR.out.grown hg (by simp)
  have HG1 := Lib.hid hg
  clear hg
  go_wp2_with fail
  refine (H16.out _).mono ?_
  rintro e w1 ⟨rfl, rfl⟩
  go_wp2_with fail
  refine (H41.out _).mono ?_
  rintro e w' ⟨rfl, rfl⟩
  go_wp2_with fail
  refine (H43.out _).mono ?_
  rintro e w2 ⟨rfl, hg⟩
  have hz2 := hg.2.2
  obtain ⟨q0, q1, q2, q3, q4, q5, q6, q7, q8⟩ := (HSA.out.grown HG1.out (by simp; omega)).grown hg (show w.heap.size < w1.heap.size by omega)
  have HG2 := Lib.hid hg
  clear hg
  go_wp2_with fail
  refine wp_world (fun W => Grown w W ∧ SigAt W w.heap.size s l big false fl f1 f2 f3 f4 ∧ ArrAt (w.heap.size + 1) N W ∧ w.heap.size < W.heap.size)
    ⟨grown_trans (((Grown.refl _).alloc _ _).alloc _ _) (grown_trans HG1.out HG2.out), (HSA.out.grown HG1.out (by simp; omega)).grown HG2.out (show w.heap.size < w1.heap.size by omega), (HAR.out.grown HG1.out (by simp)).grown HG2.out (show w.heap.size + 1 < w1.heap.size by omega), by omega⟩ ?_
  clear c0 c1 c2 c3 c4 c5 c6 c7 c8 d0 d1 d2 d3 d4 d5 d6 d7 q0 q1 q2 q3 q4 q5 q6 q7 q8 hz hz2 HG1 HG2 HSA HAR
  rintro W ⟨hgW, hS, hT, hz⟩
  have HS := Lib.hid (fun w1 (h : Grown W w1) => (⟨hS.grown h hz, hT.grown h hT.lt⟩ : SigAt w1 w.heap.size s l big false fl f1 f2 f3 f4 ∧ ArrAt (w.heap.size + 1) N w1))
  have HG := Lib.hid hgW
  clear hgW
  generalize w.heap.size = b at *
  obtain ⟨c0, c1, c2, c3, c4, c5, c6, c7, c8⟩ := hS
  obtain ⟨d0, d1, d2, d3, d4, d5, d6, d7⟩ := hT
  have HE := HQ.out
  go_region_held3 (fun w' => Grown W w' ∧ (w'.cell? ⟨b, 0, none⟩ = some (.int .i64 s) ∧ w'.cell? ⟨b, 1, none⟩ = some (.int .i64 l) ∧ w'.cell? ⟨b, 2, none⟩ = some (.bool big) ∧ w'.cell? ⟨b, 3, none⟩ = some (.bool false) ∧ w'.cell? ⟨b, 4, none⟩ = some (.bool fl) ∧ w'.cell? ⟨b, 5, none⟩ = some (.float .f64 f1) ∧ w'.cell? ⟨b, 6, none⟩ = some (.float .f64 f2) ∧ w'.cell? ⟨b, 7, none⟩ = some (.float .f64 f3) ∧ w'.cell? ⟨b, 8, none⟩ = some (.float .f64 f4)) ∧ w'.cell? ⟨b + 1, 0, none⟩ = some (.int .u8 (Pl.byt N 0 : Nat)) ∧ w'.cell? ⟨b + 1, 1, none⟩ = some (.int .u8 (Pl.byt N 1 : Nat)) ∧ w'.cell? ⟨b + 1, 2, none⟩ = some (.int .u8 (Pl.byt N 2 : Nat)) ∧ w'.cell? ⟨b + 1, 3, none⟩ = some (.int .u8 (Pl.byt N 3 : Nat)) ∧ w'.cell? ⟨b + 1, 4, none⟩ = some (.int .u8 (Pl.byt N 4 : Nat)) ∧ w'.cell? ⟨b + 1, 5, none⟩ = some (.int .u8 (Pl.byt N 5 : Nat)) ∧ w'.cell? ⟨b + 1, 6, none⟩ = some (.int .u8 (Pl.byt N 6 : Nat)) ∧ w'.cell? ⟨b + 1, 7, none⟩ = some (.int .u8 (Pl.byt N 7 : Nat)))
    (first | exact ⟨(Grown.refl _).drew, HS.out _ (Grown.refl _).drew⟩ | assumption | exact keepS HS (by assumption) (And.left (by assumption)))
    (first
      | (go_at_call 35; refine (H35.out _).mono ?_; rintro e w1 ⟨rfl, hg⟩)
      | (go_at_call 37; refine (H37.out _).mono ?_; rintro e w1 ⟨rfl, hg⟩)
      | (go_at_call 44; refine (H44.out _).mono ?_; rintro e w1 ⟨rfl, hg⟩)
      | (go_at_call 40; refine (H40.out _).mono ?_; rintro e w1 ⟨rfl, hg⟩)
      | (go_at_call 24; refine (bit24_one _).mono ?_; rintro e w1 ⟨rfl, hg⟩))
  all_goals
    go_wp2_with fail
    go_ret
    exact ⟨rfl, grown_trans HG.out (And.left (by assumption))⟩


theorem walkRaw (s l : Int) (big sg fl : Bool) (f1 f2 f3 f4 N v : Nat) (n : Int) (w : World) (hN : N < 2 ^ 64) (hv : v < 2 ^ 64) (hn : (Lit.int .i64 n).wf = true) :
    Calls Try.prog 14 #[.agg (sigCells s l big sg fl f1 f2 f3 f4), .agg (Pl.arr N), .int .u64 v, .int .i64 n] w fun e w' => e = .returned (.bool true) ∧ Grown w w' := by
  have har := ArrAt.new (w.alloc (.cells (sigCells s l big sg fl f1 f2 f3 f4) 26)) N 32
  by_cases hb : 0 ≤ s ∧ s ≤ 63 ∧ 1 ≤ l ∧ l ≤ 64
  · obtain ⟨s0, s1, l0, l1⟩ := hb
    obtain ⟨s, rfl⟩ := Int.eq_ofNat_of_zero_le s0
    obtain ⟨l, rfl⟩ := Int.eq_ofNat_of_zero_le (show 0 ≤ l by omega)
    have hig := fun W => isig17 s l big sg fl f1 f2 f3 f4 W (by omega) (by omega) (by omega)
    have hsa := SigAt.new w s l big sg fl f1 f2 f3 f4 26
    cases hr : (!fl && Pl.okR 8 s l big)
    · rw [hr] at hig
      unfold sigCells Pl.arr at *
      have H1 := Lib.hid hig
      clear hig hr hsa har
      go_enter Try.func14, Try.ntmps14
      go_wp2_with fail
      refine (H1.out _).mono ?_
      rintro e w1 ⟨rfl, hg⟩
      have HG1 := Lib.hid hg
      clear hg
      go_wp2_with fail
      go_ret
      exact ⟨rfl, grown_trans (((Grown.refl _).alloc _ _).alloc _ _) HG1.out⟩
    · have hin : Pl.Inside s l big := inside_of (by omega) (by omega) (by omega) (by rw [Bool.and_eq_true] at hr; exact hr.2)
      have h16 := fun W => fits16 v l W hv hin.l64
      have h41 := fun W => fits41 n l W hin.l hin.l64 hn
      by_cases hvl : v < 2 ^ l
      · cases hnl : Pl.fitS n l
        · rw [hr] at hig
          rw [hnl] at h41
          rw [decide_eq_true hvl] at h16
          unfold sigCells Pl.arr at *
          have H1 := Lib.hid hig
          have H2 := Lib.hid h16
          have H3 := Lib.hid h41
          have HSA := Lib.hid (hsa.grown ((Grown.refl _).alloc _ _) (by simp) : SigAt ((w.alloc _).alloc (.cells #[.int .u8 (Pl.byt N 0 : Nat), .int .u8 (Pl.byt N 1 : Nat), .int .u8 (Pl.byt N 2 : Nat), .int .u8 (Pl.byt N 3 : Nat), .int .u8 (Pl.byt N 4 : Nat), .int .u8 (Pl.byt N 5 : Nat), .int .u8 (Pl.byt N 6 : Nat), .int .u8 (Pl.byt N 7 : Nat)] 32)) _ _ _ _ _ _ _ _ _ _)
          clear hig hr hsa har h16 h41 hvl hnl hn
          go_enter Try.func14, Try.ntmps14
          go_wp2_with fail
          refine (H1.out _).mono ?_
          rintro e w1 ⟨rfl, hg⟩
          obtain ⟨c0, c1, c2, c3, c4, c5, c6, c7, c8⟩ := HSA.out.grown hg (by simp; omega)
          have HG1 := Lib.hid hg
          clear hg
          go_wp2_with fail
          refine (H2.out _).mono ?_
          rintro e w' ⟨rfl, rfl⟩
          go_wp2_with fail
          refine (H3.out _).mono ?_
          rintro e w' ⟨rfl, rfl⟩
          go_wp2_with fail
          go_ret
          exact ⟨rfl, grown_trans (((Grown.refl _).alloc _ _).alloc _ _) HG1.out⟩
        · cases sg
          · exact rawCore_false s l big fl f1 f2 f3 f4 N v n w hN hv hn hin hr hvl hnl
          · exact rawCore_true s l big fl f1 f2 f3 f4 N v n w hN hv hn hin hr hvl hnl
      · rw [hr] at hig
        rw [decide_eq_false hvl] at h16
        unfold sigCells Pl.arr at *
        have H1 := Lib.hid hig
        have H2 := Lib.hid h16
        have HSA := Lib.hid (hsa.grown ((Grown.refl _).alloc _ _) (by simp) : SigAt ((w.alloc _).alloc (.cells #[.int .u8 (Pl.byt N 0 : Nat), .int .u8 (Pl.byt N 1 : Nat), .int .u8 (Pl.byt N 2 : Nat), .int .u8 (Pl.byt N 3 : Nat), .int .u8 (Pl.byt N 4 : Nat), .int .u8 (Pl.byt N 5 : Nat), .int .u8 (Pl.byt N 6 : Nat), .int .u8 (Pl.byt N 7 : Nat)] 32)) _ _ _ _ _ _ _ _ _ _)
        clear hig hr hsa har h16 h41 hvl hn
        go_enter Try.func14, Try.ntmps14
        go_wp2_with fail
        refine (H1.out _).mono ?_
        rintro e w1 ⟨rfl, hg⟩
        obtain ⟨c0, c1, c2, c3, c4, c5, c6, c7, c8⟩ := HSA.out.grown hg (by simp; omega)
        have HG1 := Lib.hid hg
        clear hg
        go_wp2_with fail
        refine (H2.out _).mono ?_
        rintro e w' ⟨rfl, rfl⟩
        go_wp2_with fail
        go_ret
        exact ⟨rfl, grown_trans (((Grown.refl _).alloc _ _).alloc _ _) HG1.out⟩
  · have hig := fun W => isig17_out s l big sg fl f1 f2 f3 f4 W hb
    unfold sigCells Pl.arr at *
    have H1 := Lib.hid hig
    clear hig har
    go_enter Try.func14, Try.ntmps14
    go_wp2_with fail
    refine (H1.out _).mono ?_
    rintro e w1 ⟨rfl, hg⟩
    have HG1 := Lib.hid hg
    clear hg
    go_wp2_with fail
    go_ret
    exact ⟨rfl, grown_trans (((Grown.refl _).alloc _ _).alloc _ _) HG1.out⟩

end Go.Proofs.Ytjmlfobljlfngaa
