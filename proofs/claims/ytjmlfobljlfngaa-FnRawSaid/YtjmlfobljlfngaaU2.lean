/- Contracts: a signal's own numbers, of the thin package -/
import Derived.Test.YtjmlfobljlfngaaU1
namespace Go.Proofs.Ytjmlfobljlfngaa
open Go.ChangeShapes Go.WideShapes Go.ChangeAt Go.RowKit
set_option linter.unusedVariables false

theorem upd_gen {d K r : Nat} {w W1 w1 : World} (h : Upd d K W1 w1) (hg : Grown w W1) (hd : w.heap.size ≤ d) (hr : ArrAt r 0 W1) (hne : r ≠ d) (hf : ∀ j, W1.frozen? ⟨r, j, none⟩ = false) :
    Grown w w1 ∧ ArrAt d K w1 ∧ ArrAt r 0 w1 ∧ ∀ j, w1.frozen? ⟨r, j, none⟩ = false := by
  obtain ⟨hA, hG, hz, hcell, hfr⟩ := h
  exact ⟨hG w hd hg, hA, ArrAt.of fun j hj => (hcell _ hne).trans (hr.at_ hj), fun j => (hfr _).trans (hf j)⟩

theorem raw43 (s l : Nat) (big sg fl : Bool) (f1 f2 f3 f4 N : Nat) (w : World) (hN : N < 2 ^ 64) (hin : Pl.Inside s l big) :
    Calls Try.prog 43 #[.agg (sigCells s l big sg fl f1 f2 f3 f4), .agg (Pl.arr N)] w fun e w' => e = .returned (.tuple #[.int .u64 (Pl.U N s l big : Nat), .int .i64 (Pl.sgn (Pl.U N s l big) l)]) ∧ Grown w w' := by
  have hs := hin.s
  have hl := hin.l64
  have h1 := hin.l
  have hsig := fun W => sig46 s l big sg fl f1 f2 f3 f4 W hs h1 hl
  have h72 := fun p W hd => um72 p N s l big W hN hin hd
  have h73 := fun p W hd => um73 p N s l big W hN hin hd
  generalize Pl.sgn (Pl.U N s l big) l = m at *
  generalize ((Pl.U N s l big : Nat) : Int) = x at *
  unfold sigCells desCells Pl.arr at *
  have H := Lib.hid hsig
  have H72 := Lib.hid h72
  have H73 := Lib.hid h73
  clear hsig h72 h73
  go_enter Try.func43, Try.ntmps43
  go_wp2_with fail
  refine (H.out _).mono ?_
  rintro e w' ⟨rfl, rfl⟩
  go_wp2_with fail
  refine wp_world (fun W => Grown w W ∧ DesAt (w.heap.size + 1 + 1 + 1) s l big W ∧ ArrAt (w.heap.size + 1) N W) ⟨((((Grown.refl _).alloc _ _).alloc _ _).alloc _ _).alloc _ _, ⟨by go_simp, by go_simp, by go_simp⟩, by refine ⟨?_, ?_, ?_, ?_, ?_, ?_, ?_, ?_⟩ <;> go_simp⟩ ?_
  rintro W ⟨hgW, hD, hT⟩
  have HS := Lib.hid (fun w1 (h : Grown W w1) => hT.grown h hT.lt)
  have HD := Lib.hid (fun w1 (h : Grown W w1) => hD.grown h hD.lt)
  have HG := Lib.hid hgW
  clear hgW hD
  generalize w.heap.size + 1 + 1 + 1 = p at *
  generalize w.heap.size + 1 = b at *
  obtain ⟨c0, c1, c2, c3, c4, c5, c6, c7⟩ := hT
  go_region_held3 (fun w' => Grown W w' ∧ w'.cell? ⟨b, 0, none⟩ = some (.int .u8 (Pl.byt N 0 : Nat)) ∧ w'.cell? ⟨b, 1, none⟩ = some (.int .u8 (Pl.byt N 1 : Nat)) ∧ w'.cell? ⟨b, 2, none⟩ = some (.int .u8 (Pl.byt N 2 : Nat)) ∧ w'.cell? ⟨b, 3, none⟩ = some (.int .u8 (Pl.byt N 3 : Nat)) ∧ w'.cell? ⟨b, 4, none⟩ = some (.int .u8 (Pl.byt N 4 : Nat)) ∧ w'.cell? ⟨b, 5, none⟩ = some (.int .u8 (Pl.byt N 5 : Nat)) ∧ w'.cell? ⟨b, 6, none⟩ = some (.int .u8 (Pl.byt N 6 : Nat)) ∧ w'.cell? ⟨b, 7, none⟩ = some (.int .u8 (Pl.byt N 7 : Nat)))
    (first | exact ⟨(Grown.refl _).drew, HS.out _ (Grown.refl _).drew⟩ | assumption | exact keepS HS (by assumption) (And.left (by assumption)))
    (first
      | (go_at_call 72; refine (H72.out _ _ (by exact HD.out _ (And.left (by assumption)))).mono ?_; rintro e w1 ⟨rfl, hg⟩)
      | (go_at_call 73; refine (H73.out _ _ (by exact HD.out _ (And.left (by assumption)))).mono ?_; rintro e w1 ⟨rfl, hg⟩))
  go_wp2_with fail
  go_ret2
  exact ⟨rfl, grown_trans HG.out (And.left (by assumption))⟩

theorem put44_true (s l : Nat) (big fl : Bool) (f1 f2 f3 f4 N u : Nat) (n : Int) (w : World) (hN : N < 2 ^ 64) (hin : Pl.Inside s l big) (hn : (Lit.int .i64 n).wf = true) :
    Calls Try.prog 44 #[.agg (sigCells s l big true fl f1 f2 f3 f4), .agg (Pl.arr N), .int .u64 u, .int .i64 n] w fun e w' => e = .returned (.agg (Pl.arr (Pl.SU N s l big (Pl.uns n)))) ∧ Grown w w' := by
  have hs := hin.s
  have hl := hin.l64
  have h1 := hin.l
  have hsig := fun W => sig46 s l big true fl f1 f2 f3 f4 W hs h1 hl
  generalize hM : Pl.SU N s l big (Pl.uns n) = M at *
  have HM := Lib.hid hM
  have HV := Lib.hid hn
  clear hM hn
  unfold sigCells desCells Pl.arr at *
  have H := Lib.hid hsig
  clear hsig
  go_enter Try.func44, Try.ntmps44
  go_wp2_with fail
  refine (H.out _).mono ?_
  rintro e w' ⟨rfl, rfl⟩
  go_wp2_with fail
  refine (mar74 _ _ N s l big n _ hN hin HV.out ⟨by go_simp, by go_simp, by go_simp⟩ ?_ (fun j => by go_simp)).mono ?_
  · refine ⟨?_, ?_, ?_, ?_, ?_, ?_, ?_, ?_⟩ <;> go_simp
  rw [HM.out]
  rintro e w1 ⟨rfl, hU⟩
  obtain ⟨hg, ⟨a0, a1, a2, a3, a4, a5, a6, a7⟩, ⟨c0, c1, c2, c3, c4, c5, c6, c7⟩, hF⟩ := upd_gen hU (r := w.heap.size + 1 + 1) ((((((((Grown.refl w).alloc _ _).alloc _ _).alloc _ _).alloc _ _).alloc _ _).alloc _ _)) (by omega) (by refine ⟨?_, ?_, ?_, ?_, ?_, ?_, ?_, ?_⟩ <;> go_simp <;> simp [Pl.byt]) (by omega) (fun j => by go_simp)
  have HG := Lib.hid hg
  clear hU hg
  have f0 := hF 0
  have f1 := hF 1
  have f2 := hF 2
  have f3 := hF 3
  have f4 := hF 4
  have f5 := hF 5
  have f6 := hF 6
  have f7 := hF 7
  clear hF
  go_wp2_with fail
  exact bodyPost_ret (v := .agg (Pl.arr _)) (by unfold Pl.arr; simp [results, Try.results44, go_sem, *]) rfl ⟨rfl, (((((((HG.out.setCell (by simp; omega) _).setCell (by simp; omega) _).setCell (by simp; omega) _).setCell (by simp; omega) _).setCell (by simp; omega) _).setCell (by simp; omega) _).setCell (by simp; omega) _).setCell (by simp; omega) _⟩


theorem put44_false (s l : Nat) (big fl : Bool) (f1 f2 f3 f4 N u : Nat) (n : Int) (w : World) (hN : N < 2 ^ 64) (hin : Pl.Inside s l big) (hv : u < 2 ^ l) :
    Calls Try.prog 44 #[.agg (sigCells s l big false fl f1 f2 f3 f4), .agg (Pl.arr N), .int .u64 u, .int .i64 n] w fun e w' => e = .returned (.agg (Pl.arr (Pl.SU N s l big u))) ∧ Grown w w' := by
  have hs := hin.s
  have hl := hin.l64
  have h1 := hin.l
  have hsig := fun W => sig46 s l big false fl f1 f2 f3 f4 W hs h1 hl
  generalize hM : Pl.SU N s l big u = M at *
  have HM := Lib.hid hM
  have HV := Lib.hid hv
  clear hM hv
  unfold sigCells desCells Pl.arr at *
  have H := Lib.hid hsig
  clear hsig
  go_enter Try.func44, Try.ntmps44
  go_wp2_with fail
  refine (H.out _).mono ?_
  rintro e w' ⟨rfl, rfl⟩
  go_wp2_with fail
  refine (mar75 _ _ N s l big u _ hN hin HV.out ⟨by go_simp, by go_simp, by go_simp⟩ ?_ (fun j => by go_simp)).mono ?_
  · refine ⟨?_, ?_, ?_, ?_, ?_, ?_, ?_, ?_⟩ <;> go_simp
  rw [HM.out]
  rintro e w1 ⟨rfl, hU⟩
  obtain ⟨hg, ⟨a0, a1, a2, a3, a4, a5, a6, a7⟩, ⟨c0, c1, c2, c3, c4, c5, c6, c7⟩, hF⟩ := upd_gen hU (r := w.heap.size + 1 + 1) ((((((((Grown.refl w).alloc _ _).alloc _ _).alloc _ _).alloc _ _).alloc _ _).alloc _ _)) (by omega) (by refine ⟨?_, ?_, ?_, ?_, ?_, ?_, ?_, ?_⟩ <;> go_simp <;> simp [Pl.byt]) (by omega) (fun j => by go_simp)
  have HG := Lib.hid hg
  clear hU hg
  have f0 := hF 0
  have f1 := hF 1
  have f2 := hF 2
  have f3 := hF 3
  have f4 := hF 4
  have f5 := hF 5
  have f6 := hF 6
  have f7 := hF 7
  clear hF
  go_wp2_with fail
  exact bodyPost_ret (v := .agg (Pl.arr _)) (by unfold Pl.arr; simp [results, Try.results44, go_sem, *]) rfl ⟨rfl, (((((((HG.out.setCell (by simp; omega) _).setCell (by simp; omega) _).setCell (by simp; omega) _).setCell (by simp; omega) _).setCell (by simp; omega) _).setCell (by simp; omega) _).setCell (by simp; omega) _).setCell (by simp; omega) _⟩


end Go.Proofs.Ytjmlfobljlfngaa
