/- The walks of the laws on setting bits, and on numbers that stand apart -/
import Derived.Test.YtjmlfobljlfngaaX
namespace Go.Proofs.Ytjmlfobljlfngaa
open Go.ChangeShapes Go.WideShapes Go.ChangeAt Go.RowKit
set_option linter.unusedVariables false

theorem walkSetBits (N : Nat) (s l : Int) (big : Bool) (v : Nat) (w : World) (hN : N < 2 ^ 64) (hv : v < 2 ^ 64) :
    Calls Try.prog 12 #[.agg (Pl.arr N), .int .i64 s, .int .i64 l, .bool big, .int .u64 v] w fun e w' => e = .returned (.bool true) ∧ Grown w w' := by
  cases hr : Pl.rgB s l big
  · have hrg := fun W => rg28 s l big W
    rw [hr] at hrg
    have HR := Lib.hid hrg
    clear hr hrg
    unfold Pl.arr
    go_enter Try.func12, Try.ntmps12
    go_wp2_with fail
    refine (HR.out _).mono ?_
    rintro e w' ⟨rfl, rfl⟩
    go_wp2_with fail
    go_ret
    exact ⟨rfl, (Grown.refl _).alloc _ _⟩
  · have hrg := fun W => rg28 s l big W
    rw [hr] at hrg
    have HR := Lib.hid hrg
    obtain ⟨s, l, rfl, rfl, hin⟩ := Pl.rgB_true hr
    clear hr hrg
    have hl := hin.l64
    have hs := hin.s
    have hl1 := hin.l
    have hfit := fun W => fits16 v l W hv hl
    by_cases hvl : v < 2 ^ l
    · rw [decide_eq_true hvl] at hfit
      have HF := Lib.hid hfit
      have h39 := fun W => su39 N s l v big W hN hin hvl
      have h40 := fun W => set40 N s l v big W hN hin hv
      have h34 := fun W => un34 (Pl.SU N s l big v) s l big W (hin.SU_lt hN) hin
      rw [hin.U_SU hN, Nat.mod_eq_of_lt hvl] at h34
      have hn := ArrAt.new w N 32
      have hm := fun W => ArrAt.new W (Pl.SU N s l big v) 32
      have hq := fun W => eq_arr (Pl.SU N s l big v) W
      generalize Pl.SU N s l big v = M at *
      unfold Pl.arr at *
      have H34 := Lib.hid h34
      have H39 := Lib.hid h39
      have H40 := Lib.hid h40
      have HN := Lib.hid hn
      have HM := Lib.hid hm
      have HQ := Lib.hid hq
      clear h34 h39 h40 hn hm hq hfit hvl
      go_enter Try.func12, Try.ntmps12
      go_wp2_with fail
      refine (HR.out _).mono ?_
      rintro e w' ⟨rfl, rfl⟩
      go_wp2_with fail
      refine (HF.out _).mono ?_
      rintro e w' ⟨rfl, rfl⟩
      go_wp2_with fail
      refine (H39.out _).mono ?_
      rintro e w1 ⟨rfl, hg⟩
      have HG1 := Lib.hid hg
      clear hg
      go_wp2_with fail
      refine wp_world (fun W => Grown w W ∧ ArrAt w.heap.size N W ∧ ArrAt w1.heap.size M W) ⟨(grown_trans ((Grown.refl _).alloc _ _) HG1.out).alloc _ _, HN.out.grown (HG1.out.alloc _ _) (by simp), HM.out w1⟩ ?_
      rintro W ⟨hgW, hT, hU⟩
      have HS := Lib.hid (fun w2 (h : Grown W w2) => (⟨hT.grown h hT.lt, hU.grown h hU.lt⟩ : ArrAt w.heap.size N w2 ∧ ArrAt w1.heap.size M w2))
      have HG := Lib.hid hgW
      clear hgW HN HG1
      generalize w.heap.size = b at *
      generalize w1.heap.size = g at *
      obtain ⟨c0, c1, c2, c3, c4, c5, c6, c7⟩ := hT
      obtain ⟨d0, d1, d2, d3, d4, d5, d6, d7⟩ := hU
      have HE := HQ.out
      go_region_held3 (fun w' => Grown W w' ∧ (w'.cell? ⟨b, 0, none⟩ = some (.int .u8 (Pl.byt N 0 : Nat)) ∧ w'.cell? ⟨b, 1, none⟩ = some (.int .u8 (Pl.byt N 1 : Nat)) ∧ w'.cell? ⟨b, 2, none⟩ = some (.int .u8 (Pl.byt N 2 : Nat)) ∧ w'.cell? ⟨b, 3, none⟩ = some (.int .u8 (Pl.byt N 3 : Nat)) ∧ w'.cell? ⟨b, 4, none⟩ = some (.int .u8 (Pl.byt N 4 : Nat)) ∧ w'.cell? ⟨b, 5, none⟩ = some (.int .u8 (Pl.byt N 5 : Nat)) ∧ w'.cell? ⟨b, 6, none⟩ = some (.int .u8 (Pl.byt N 6 : Nat)) ∧ w'.cell? ⟨b, 7, none⟩ = some (.int .u8 (Pl.byt N 7 : Nat))) ∧ w'.cell? ⟨g, 0, none⟩ = some (.int .u8 (Pl.byt M 0 : Nat)) ∧ w'.cell? ⟨g, 1, none⟩ = some (.int .u8 (Pl.byt M 1 : Nat)) ∧ w'.cell? ⟨g, 2, none⟩ = some (.int .u8 (Pl.byt M 2 : Nat)) ∧ w'.cell? ⟨g, 3, none⟩ = some (.int .u8 (Pl.byt M 3 : Nat)) ∧ w'.cell? ⟨g, 4, none⟩ = some (.int .u8 (Pl.byt M 4 : Nat)) ∧ w'.cell? ⟨g, 5, none⟩ = some (.int .u8 (Pl.byt M 5 : Nat)) ∧ w'.cell? ⟨g, 6, none⟩ = some (.int .u8 (Pl.byt M 6 : Nat)) ∧ w'.cell? ⟨g, 7, none⟩ = some (.int .u8 (Pl.byt M 7 : Nat)))
        (first | exact ⟨(Grown.refl _).drew, HS.out _ (Grown.refl _).drew⟩ | exact keepS HS (by assumption) (And.left (by assumption)))
        (first
          | (go_at_call 40; refine (H40.out _).mono ?_; rintro e w1 ⟨rfl, hg⟩)
          | (go_at_call_of 34 (Value.agg #[.int .u8 255, .int .u8 0, .int .u8 0, .int .u8 0, .int .u8 0, .int .u8 0, .int .u8 0, .int .u8 0]); refine (un34_255 _).mono ?_; rintro e w1 ⟨rfl, hg⟩)
          | (go_at_call_of 34 (Value.agg #[.int .u8 (Pl.byt M 0 : Nat), .int .u8 (Pl.byt M 1 : Nat), .int .u8 (Pl.byt M 2 : Nat), .int .u8 (Pl.byt M 3 : Nat), .int .u8 (Pl.byt M 4 : Nat), .int .u8 (Pl.byt M 5 : Nat), .int .u8 (Pl.byt M 6 : Nat), .int .u8 (Pl.byt M 7 : Nat)]); refine (H34.out _).mono ?_; rintro e w1 ⟨rfl, hg⟩))
      go_wp2_with fail
      go_ret
      exact ⟨rfl, grown_trans HG.out (And.left (by assumption))⟩
    · rw [decide_eq_false hvl] at hfit
      have HF := Lib.hid hfit
      clear hfit hvl
      unfold Pl.arr
      go_enter Try.func12, Try.ntmps12
      go_wp2_with fail
      refine (HR.out _).mono ?_
      rintro e w' ⟨rfl, rfl⟩
      go_wp2_with fail
      refine (HF.out _).mono ?_
      rintro e w' ⟨rfl, rfl⟩
      go_wp2_with fail
      go_ret
      exact ⟨rfl, (Grown.refl _).alloc _ _⟩

theorem walkApart (N : Nat) (s l : Int) (big : Bool) (v : Nat) (s' l' : Int) (big' : Bool) (u : Nat) (w : World) (hN : N < 2 ^ 64) (hv : v < 2 ^ 64) (hu : u < 2 ^ 64) :
    Calls Try.prog 11 #[.agg (Pl.arr N), .int .i64 s, .int .i64 l, .bool big, .int .u64 v, .int .i64 s', .int .i64 l', .bool big', .int .u64 u] w fun e w' => e = .returned (.bool true) ∧ Grown w w' := by
  have hr1 := fun W => rg28 s l big W
  have hr2 := fun W => rg28 s' l' big' W
  cases hr : Pl.rgB s l big
  · rw [hr] at hr1
    have HR := Lib.hid hr1
    clear hr hr1 hr2
    unfold Pl.arr
    go_enter Try.func11, Try.ntmps11
    go_wp2_with fail
    refine (HR.out _).mono ?_
    rintro e w' ⟨rfl, rfl⟩
    go_wp2_with fail
    go_ret
    exact ⟨rfl, (Grown.refl _).alloc _ _⟩
  rw [hr] at hr1
  have HR := Lib.hid hr1
  obtain ⟨s, l, rfl, rfl, hin⟩ := Pl.rgB_true hr
  clear hr hr1
  cases hr : Pl.rgB s' l' big'
  · rw [hr] at hr2
    have HR2 := Lib.hid hr2
    clear hr hr2
    unfold Pl.arr
    go_enter Try.func11, Try.ntmps11
    go_wp2_with fail
    refine (HR.out _).mono ?_
    rintro e w' ⟨rfl, rfl⟩
    go_wp2_with fail
    refine (HR2.out _).mono ?_
    rintro e w' ⟨rfl, rfl⟩
    go_wp2_with fail
    go_ret
    exact ⟨rfl, (Grown.refl _).alloc _ _⟩
  rw [hr] at hr2
  have HR2 := Lib.hid hr2
  obtain ⟨s', l', rfl, rfl, hin'⟩ := Pl.rgB_true hr
  clear hr hr2
  have hf1 := fun W => fits16 v l W hv hin.l64
  have hf2 := fun W => fits16 u l' W hu hin'.l64
  by_cases hvl : v < 2 ^ l
  case neg =>
    rw [decide_eq_false hvl] at hf1
    have HF := Lib.hid hf1
    clear hf1 hf2 hvl
    unfold Pl.arr
    go_enter Try.func11, Try.ntmps11
    go_wp2_with fail
    refine (HR.out _).mono ?_
    rintro e w' ⟨rfl, rfl⟩
    go_wp2_with fail
    refine (HR2.out _).mono ?_
    rintro e w' ⟨rfl, rfl⟩
    go_wp2_with fail
    refine (HF.out _).mono ?_
    rintro e w' ⟨rfl, rfl⟩
    go_wp2_with fail
    go_ret
    exact ⟨rfl, (Grown.refl _).alloc _ _⟩
  rw [decide_eq_true hvl] at hf1
  have HF := Lib.hid hf1
  clear hf1
  by_cases hul : u < 2 ^ l'
  case neg =>
    rw [decide_eq_false hul] at hf2
    have HF2 := Lib.hid hf2
    clear hf2 hvl hul
    unfold Pl.arr
    go_enter Try.func11, Try.ntmps11
    go_wp2_with fail
    refine (HR.out _).mono ?_
    rintro e w' ⟨rfl, rfl⟩
    go_wp2_with fail
    refine (HR2.out _).mono ?_
    rintro e w' ⟨rfl, rfl⟩
    go_wp2_with fail
    refine (HF.out _).mono ?_
    rintro e w' ⟨rfl, rfl⟩
    go_wp2_with fail
    refine (HF2.out _).mono ?_
    rintro e w' ⟨rfl, rfl⟩
    go_wp2_with fail
    go_ret
    exact ⟨rfl, (Grown.refl _).alloc _ _⟩
  rw [decide_eq_true hul] at hf2
  have HF2 := Lib.hid hf2
  clear hf2
  by_cases ha : ∃ k, k < l ∧ ∃ n, n < l' ∧ Pl.pl s l k big = Pl.pl s' l' n big'
  · have HA := Lib.hid (fun W => apart38_no s l s' l' big big' W hin hin' ha)
    clear ha hvl hul
    unfold Pl.arr
    go_enter Try.func11, Try.ntmps11
    go_wp2_with fail
    refine (HR.out _).mono ?_
    rintro e w' ⟨rfl, rfl⟩
    go_wp2_with fail
    refine (HR2.out _).mono ?_
    rintro e w' ⟨rfl, rfl⟩
    go_wp2_with fail
    refine (HF.out _).mono ?_
    rintro e w' ⟨rfl, rfl⟩
    go_wp2_with fail
    refine (HF2.out _).mono ?_
    rintro e w' ⟨rfl, rfl⟩
    go_wp2_with fail
    refine (HA.out _).mono ?_
    rintro e w' ⟨rfl, rfl⟩
    go_wp2_with fail
    go_ret
    exact ⟨rfl, (Grown.refl _).alloc _ _⟩
  have hap : ∀ k, k < l → ∀ n, n < l' → Pl.pl s l k big ≠ Pl.pl s' l' n big' := fun k hk n hn he => ha ⟨k, hk, n, hn, he⟩
  have HA := Lib.hid (fun W => apart38_yes s l s' l' big big' W hin hin' hap)
  have hM1 := hin.SU_lt (v := v) hN
  have h39 := fun W => su39 N s l v big W hN hin hvl
  have h39' := fun W => su39 (Pl.SU N s l big v) s' l' u big' W hM1 hin' hul
  have h34 := fun W => un34 (Pl.SU (Pl.SU N s l big v) s' l' big' u) s l big W (hin'.SU_lt hM1) hin
  rw [Pl.U_apart hin hin' hap, hin.U_SU hN, Nat.mod_eq_of_lt hvl] at h34
  have h34' := fun W => un34 (Pl.SU (Pl.SU N s l big v) s' l' big' u) s' l' big' W (hin'.SU_lt hM1) hin'
  rw [hin'.U_SU hM1, Nat.mod_eq_of_lt hul] at h34'
  have hm := fun W => ArrAt.new W (Pl.SU (Pl.SU N s l big v) s' l' big' u) 32
  clear hM1
  generalize Pl.SU (Pl.SU N s l big v) s' l' big' u = M2 at *
  generalize Pl.SU N s l big v = M1 at *
  unfold Pl.arr at *
  have H34 := Lib.hid h34
  have H35 := Lib.hid h34'
  have H39 := Lib.hid h39
  have H40 := Lib.hid h39'
  have HM := Lib.hid hm
  clear h34 h34' h39 h39' hm hvl hul ha hap
  go_enter Try.func11, Try.ntmps11
  go_wp2_with fail
  refine (HR.out _).mono ?_
  rintro e w' ⟨rfl, rfl⟩
  go_wp2_with fail
  refine (HR2.out _).mono ?_
  rintro e w' ⟨rfl, rfl⟩
  go_wp2_with fail
  refine (HF.out _).mono ?_
  rintro e w' ⟨rfl, rfl⟩
  go_wp2_with fail
  refine (HF2.out _).mono ?_
  rintro e w' ⟨rfl, rfl⟩
  go_wp2_with fail
  refine (HA.out _).mono ?_
  rintro e w' ⟨rfl, rfl⟩
  go_wp2_with fail
  refine (H39.out _).mono ?_
  rintro e w1 ⟨rfl, hg⟩
  have HG1 := Lib.hid hg
  clear hg
  go_wp2_with fail
  refine (H40.out _).mono ?_
  rintro e w2 ⟨rfl, hg⟩
  have HG2 := Lib.hid hg
  clear hg
  go_wp2_with fail
  refine (H34.out _).mono ?_
  rintro e w3 ⟨rfl, hg⟩
  have HG3 := Lib.hid hg
  obtain ⟨c0, c1, c2, c3, c4, c5, c6, c7⟩ := (HM.out w2).grown hg (by simp)
  clear hg
  go_wp2_with fail
  refine (H35.out _).mono ?_
  rintro e w4 ⟨rfl, hg⟩
  have HG4 := Lib.hid hg
  clear hg
  go_wp2_with fail
  refine (un34_255 _).mono ?_
  rintro e w5 ⟨rfl, hg⟩
  have HG5 := Lib.hid hg
  clear hg
  go_wp2_with fail
  go_ret
  exact ⟨rfl, grown_trans (grown_trans (grown_trans ((grown_trans (grown_trans ((Grown.refl _).alloc _ _) HG1.out) HG2.out).alloc _ _) HG3.out) HG4.out) HG5.out⟩

end Go.Proofs.Ytjmlfobljlfngaa
