/- The walk of the law on numbers with a sign -/
import Derived.Test.YtjmlfobljlfngaaZ1
namespace Go.Proofs.Ytjmlfobljlfngaa
open Go.ChangeShapes Go.WideShapes Go.ChangeAt Go.RowKit
set_option linter.unusedVariables false

theorem walkSetSigned (N : Nat) (s l : Int) (big : Bool) (n : Int) (w : World) (hN : N < 2 ^ 64) (hn : (Lit.int .i64 n).wf = true) :
    Calls Try.prog 13 #[.agg (Pl.arr N), .int .i64 s, .int .i64 l, .bool big, .int .i64 n] w fun e w' => e = .returned (.bool true) ∧ Grown w w' := by
  cases hr : Pl.rgB s l big
  · have hrg := fun W => rg28 s l big W
    rw [hr] at hrg
    have HR := Lib.hid hrg
    clear hr hrg
    unfold Pl.arr
    go_enter Try.func13, Try.ntmps13
    go_wp2_with fail
    refine (HR.out _).mono ?_
    rintro e w' ⟨rfl, rfl⟩
    go_wp2_with fail
    go_ret
    exact ⟨rfl, (Grown.refl _).alloc _ _⟩
  · have hrg := fun W => rg28 s l big W
    rw [hr] at hrg
    have HR := Lib.hid hrg
    obtain ⟨s, l, rfl, rfl, hin⟩ := Pl.rgB_true hr
    clear hr hrg
    have hl := hin.l64
    have hs := hin.s
    have hl1 := hin.l
    have hfit := fun W => fits41 n l W hl1 hl hn
    have huc := Pl.uns_cast n
    have HUC := Lib.hid huc
    clear huc
    cases hvl : Pl.fitS n l
    case true =>
      rw [hvl] at hfit
      have HF := Lib.hid hfit
      have h39 := fun W => ss42 N s l n big W hN hin hn
      have h40 := fun W => set40 N s l (Pl.uns n) big W hN hin (Pl.uns_lt n)
      have h34 := fun W => si36 (Pl.SU N s l big (Pl.uns n)) s l big W (hin.SU_lt hN) hin
      rw [hin.U_SU hN, Pl.sgn_uns hl1 hl hvl] at h34
      have hnw := ArrAt.new w N 32
      have hm := fun W => ArrAt.new W (Pl.SU N s l big (Pl.uns n)) 32
      have hq := fun W => eq_arr (Pl.SU N s l big (Pl.uns n)) W
      generalize Pl.SU N s l big (Pl.uns n) = M at *
      rw [← HUC.out] at h40
      unfold Pl.arr at *
      have H34 := Lib.hid h34
      have H39 := Lib.hid h39
      have H40 := Lib.hid h40
      have HN := Lib.hid hnw
      clear hnw hn
      have HM := Lib.hid hm
      have HQ := Lib.hid hq
      clear h34 h39 h40 hm hq hfit hvl
      go_enter Try.func13, Try.ntmps13
      go_wp2_with fail
      refine (HR.out _).mono ?_
      rintro e w' ⟨rfl, rfl⟩
      go_wp2_with fail
      refine (HF.out _).mono ?_
      rintro e w' ⟨rfl, rfl⟩
      go_wp2_with fail
      refine (H39.out _).mono ?_
      rintro e w1 ⟨rfl, hg⟩
      have HG1 := Lib.hid hg
      clear hg
      go_wp2_with fail
      refine wp_world (fun W => Grown w W ∧ ArrAt w.heap.size N W ∧ ArrAt w1.heap.size M W) ⟨(grown_trans ((Grown.refl _).alloc _ _) HG1.out).alloc _ _, HN.out.grown (HG1.out.alloc _ _) (by simp), HM.out w1⟩ ?_
      rintro W ⟨hgW, hT, hU⟩
      have HS := Lib.hid (fun w2 (h : Grown W w2) => (⟨hT.grown h hT.lt, hU.grown h hU.lt⟩ : ArrAt w.heap.size N w2 ∧ ArrAt w1.heap.size M w2))
      have HG := Lib.hid hgW
      clear hgW HN HG1
      generalize w.heap.size = b at *
      generalize w1.heap.size = g at *
      obtain ⟨c0, c1, c2, c3, c4, c5, c6, c7⟩ := hT
      obtain ⟨d0, d1, d2, d3, d4, d5, d6, d7⟩ := hU
      have HE := HQ.out
      go_region_held3 (fun w' => Grown W w' ∧ (w'.cell? ⟨b, 0, none⟩ = some (.int .u8 (Pl.byt N 0 : Nat)) ∧ w'.cell? ⟨b, 1, none⟩ = some (.int .u8 (Pl.byt N 1 : Nat)) ∧ w'.cell? ⟨b, 2, none⟩ = some (.int .u8 (Pl.byt N 2 : Nat)) ∧ w'.cell? ⟨b, 3, none⟩ = some (.int .u8 (Pl.byt N 3 : Nat)) ∧ w'.cell? ⟨b, 4, none⟩ = some (.int .u8 (Pl.byt N 4 : Nat)) ∧ w'.cell? ⟨b, 5, none⟩ = some (.int .u8 (Pl.byt N 5 : Nat)) ∧ w'.cell? ⟨b, 6, none⟩ = some (.int .u8 (Pl.byt N 6 : Nat)) ∧ w'.cell? ⟨b, 7, none⟩ = some (.int .u8 (Pl.byt N 7 : Nat))) ∧ w'.cell? ⟨g, 0, none⟩ = some (.int .u8 (Pl.byt M 0 : Nat)) ∧ w'.cell? ⟨g, 1, none⟩ = some (.int .u8 (Pl.byt M 1 : Nat)) ∧ w'.cell? ⟨g, 2, none⟩ = some (.int .u8 (Pl.byt M 2 : Nat)) ∧ w'.cell? ⟨g, 3, none⟩ = some (.int .u8 (Pl.byt M 3 : Nat)) ∧ w'.cell? ⟨g, 4, none⟩ = some (.int .u8 (Pl.byt M 4 : Nat)) ∧ w'.cell? ⟨g, 5, none⟩ = some (.int .u8 (Pl.byt M 5 : Nat)) ∧ w'.cell? ⟨g, 6, none⟩ = some (.int .u8 (Pl.byt M 6 : Nat)) ∧ w'.cell? ⟨g, 7, none⟩ = some (.int .u8 (Pl.byt M 7 : Nat)))
        (first | exact ⟨(Grown.refl _).drew, HS.out _ (Grown.refl _).drew⟩ | exact keepS HS (by assumption) (And.left (by assumption)))
        (first
          | (go_at_call 40; refine (H40.out _).mono ?_; rintro e w1 ⟨rfl, hg⟩)
          | (go_at_call_of 34 (Value.agg #[.int .u8 255, .int .u8 0, .int .u8 0, .int .u8 0, .int .u8 0, .int .u8 0, .int .u8 0, .int .u8 0]); refine (un34_255 _).mono ?_; rintro e w1 ⟨rfl, hg⟩)
          | (go_at_call_of 36 (Value.agg #[.int .u8 (Pl.byt M 0 : Nat), .int .u8 (Pl.byt M 1 : Nat), .int .u8 (Pl.byt M 2 : Nat), .int .u8 (Pl.byt M 3 : Nat), .int .u8 (Pl.byt M 4 : Nat), .int .u8 (Pl.byt M 5 : Nat), .int .u8 (Pl.byt M 6 : Nat), .int .u8 (Pl.byt M 7 : Nat)]); refine (H34.out _).mono ?_; rintro e w1 ⟨rfl, hg⟩))
      go_wp2_with fail
      go_ret
      exact ⟨rfl, grown_trans HG.out (And.left (by assumption))⟩
    case false =>
      rw [hvl] at hfit
      have HF := Lib.hid hfit
      clear hfit hvl
      unfold Pl.arr
      go_enter Try.func13, Try.ntmps13
      go_wp2_with fail
      refine (HR.out _).mono ?_
      rintro e w' ⟨rfl, rfl⟩
      go_wp2_with fail
      refine (HF.out _).mono ?_
      rintro e w' ⟨rfl, rfl⟩
      go_wp2_with fail
      go_ret
      exact ⟨rfl, (Grown.refl _).alloc _ _⟩


end Go.Proofs.Ytjmlfobljlfngaa
