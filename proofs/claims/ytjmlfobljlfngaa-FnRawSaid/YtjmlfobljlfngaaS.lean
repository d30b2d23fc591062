/- The walk of the law on bits as numbers -/
import Derived.Test.YtjmlfobljlfngaaR
namespace Go.Proofs.Ytjmlfobljlfngaa
open Go.ChangeShapes Go.WideShapes Go.ChangeAt Go.RowKit
set_option linter.unusedVariables false

theorem arr255 : (#[.int .u8 255, .int .u8 0, .int .u8 0, .int .u8 0, .int .u8 0, .int .u8 0, .int .u8 0, .int .u8 0] : Array Value) = Pl.arr 255 := by
  unfold Pl.arr; simp [Pl.byt]
theorem in08 : Pl.Inside 0 8 false := ⟨by decide, by decide, by decide, rfl⟩
theorem un34_255 (w : World) : Calls Try.prog 34 #[.agg #[.int .u8 255, .int .u8 0, .int .u8 0, .int .u8 0, .int .u8 0, .int .u8 0, .int .u8 0, .int .u8 0], .int .i64 0, .int .i64 8, .bool false] w fun e w' => e = .returned (.int .u64 255) ∧ Grown w w' := by
  rw [arr255]
  exact un34 255 0 8 false w (by decide) in08

theorem inside_of {s l : Nat} {big : Bool} (hs : s < 64) (h1 : 1 ≤ l) (hl : l ≤ 64) (h : Pl.okR 8 s l big = true) : Pl.Inside s l big :=
  ⟨hs, h1, hl, by unfold Pl.okR at h; simpa using h⟩

theorem walkBits (N : Nat) (s l : Int) (big : Bool) (w : World) (hN : N < 2 ^ 64) :
    Calls Try.prog 10 #[.agg (Pl.arr N), .int .i64 s, .int .i64 l, .bool big] w fun e w' => e = .returned (.bool true) ∧ Grown w w' := by
  by_cases hb : 0 ≤ s ∧ s ≤ 63 ∧ 1 ≤ l ∧ l ≤ 64
  · obtain ⟨s0, s1, l0, l1⟩ := hb
    obtain ⟨s, rfl⟩ := Int.eq_ofNat_of_zero_le s0
    obtain ⟨l, rfl⟩ := Int.eq_ofNat_of_zero_le (show 0 ≤ l by omega)
    cases hr : Pl.okR 8 s l big
    · have HR := Lib.hid hr
      clear hr
      unfold Pl.arr
      go_enter Try.func10, Try.ntmps10
      go_wp2_with fail
      refine (range28_no 8 s l big _ (by omega) (by omega) (by omega) (by omega) HR.out).mono ?_
      rintro e w' ⟨rfl, rfl⟩
      go_wp2_with fail
      go_ret
      exact ⟨rfl, (Grown.refl _).alloc _ _⟩
    · have hi : Pl.Inside s l big := inside_of (by omega) (by omega) (by omega) hr
      have h34 := fun W => un34 N s l big W hN hi
      have h35 := fun W => ref35 N s l big W hi
      have h36 := fun W => si36 N s l big W hN hi
      have h37 := fun W => refs37 N s l big W hi
      have hn := ArrAt.new w N 32
      generalize Pl.sgn (Pl.U N s l big) l = m at *
      generalize Pl.U N s l big = u at *
      unfold Pl.arr at *
      have H34 := Lib.hid h34
      have H35 := Lib.hid h35
      have H36 := Lib.hid h36
      have H37 := Lib.hid h37
      have HN := Lib.hid hn
      have HR := Lib.hid hr
      clear h34 h35 h36 h37 hn hr
      go_enter Try.func10, Try.ntmps10
      go_wp2_with fail
      refine (range28_yes 8 s l big _ (by omega) (by omega) (by omega) (by omega) HR.out).mono ?_
      rintro e w' ⟨rfl, rfl⟩
      go_wp2_with fail
      refine wp_world (fun W => Grown w W ∧ ArrAt w.heap.size N W ∧ w.heap.size < W.heap.size) ⟨(Grown.refl _).alloc _ _, HN.out, by simp⟩ ?_
      rintro W ⟨hgW, hT, hz⟩
      have HS := Lib.hid (fun w1 (h : Grown W w1) => hT.grown h hz)
      have HG := Lib.hid hgW
      clear hgW HN
      generalize w.heap.size = b at *
      obtain ⟨c0, c1, c2, c3, c4, c5, c6, c7⟩ := hT
      go_region_held3 (fun w' => Grown W w' ∧ w'.cell? ⟨b, 0, none⟩ = some (.int .u8 (Pl.byt N 0 : Nat)) ∧ w'.cell? ⟨b, 1, none⟩ = some (.int .u8 (Pl.byt N 1 : Nat)) ∧ w'.cell? ⟨b, 2, none⟩ = some (.int .u8 (Pl.byt N 2 : Nat)) ∧ w'.cell? ⟨b, 3, none⟩ = some (.int .u8 (Pl.byt N 3 : Nat)) ∧ w'.cell? ⟨b, 4, none⟩ = some (.int .u8 (Pl.byt N 4 : Nat)) ∧ w'.cell? ⟨b, 5, none⟩ = some (.int .u8 (Pl.byt N 5 : Nat)) ∧ w'.cell? ⟨b, 6, none⟩ = some (.int .u8 (Pl.byt N 6 : Nat)) ∧ w'.cell? ⟨b, 7, none⟩ = some (.int .u8 (Pl.byt N 7 : Nat)))
        (first | exact ⟨(Grown.refl _).drew, HS.out _ (Grown.refl _).drew⟩ | exact keepS HS (by assumption) (And.left (by assumption)))
        (first
          | (go_at_call 35; refine (H35.out _).mono ?_; rintro e w1 ⟨rfl, hg⟩)
          | (go_at_call 36; refine (H36.out _).mono ?_; rintro e w1 ⟨rfl, hg⟩)
          | (go_at_call 37; refine (H37.out _).mono ?_; rintro e w1 ⟨rfl, hg⟩)
          | (go_at_call_of 34 (Value.agg #[.int .u8 255, .int .u8 0, .int .u8 0, .int .u8 0, .int .u8 0, .int .u8 0, .int .u8 0, .int .u8 0]); refine (un34_255 _).mono ?_; rintro e w1 ⟨rfl, hg⟩)
          | (go_at_call_of 34 (Value.agg #[.int .u8 (Pl.byt N 0 : Nat), .int .u8 (Pl.byt N 1 : Nat), .int .u8 (Pl.byt N 2 : Nat), .int .u8 (Pl.byt N 3 : Nat), .int .u8 (Pl.byt N 4 : Nat), .int .u8 (Pl.byt N 5 : Nat), .int .u8 (Pl.byt N 6 : Nat), .int .u8 (Pl.byt N 7 : Nat)]); refine (H34.out _).mono ?_; rintro e w1 ⟨rfl, hg⟩))
      go_wp2_with fail
      go_ret
      exact ⟨rfl, grown_trans HG.out (And.left (by assumption))⟩
  · unfold Pl.arr
    go_enter Try.func10, Try.ntmps10
    go_wp2_with fail
    refine (range28_out 8 s l big _ (by omega) hb).mono ?_
    rintro e w' ⟨rfl, rfl⟩
    go_wp2_with fail
    go_ret
    exact ⟨rfl, (Grown.refl _).alloc _ _⟩

end Go.Proofs.Ytjmlfobljlfngaa
