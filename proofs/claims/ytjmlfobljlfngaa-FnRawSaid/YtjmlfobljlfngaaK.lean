/- The walk of the law on single bits -/
import Derived.Test.YtjmlfobljlfngaaL
import Derived.Test.YtjmlfobljlfngaaH
namespace Go.Proofs.Ytjmlfobljlfngaa
open Go.ChangeShapes Go.WideShapes Go.ChangeAt Go.RowKit
set_option linter.unusedVariables false

theorem one_arr : (#[.int .u8 1, .int .u8 0, .int .u8 0, .int .u8 0, .int .u8 0, .int .u8 0, .int .u8 0, .int .u8 0] : Array Value) = Pl.arr 1 := by
  unfold Pl.arr; simp [Pl.byt]
theorem bit24_one (w : World) : Calls Try.prog 24 #[.agg #[.int .u8 1, .int .u8 0, .int .u8 0, .int .u8 0, .int .u8 0, .int .u8 0, .int .u8 0, .int .u8 0], .int .i64 0] w fun e w' => e = .returned (.bool true) ∧ Grown w w' := by
  rw [one_arr]
  exact bit24 1 0 w (by decide)

theorem walkBit (N : Nat) (i : Int) (on : Bool) (w : World) :
    Calls Try.prog 6 #[.agg (Pl.arr N), .int .i64 i, .bool on] w fun e w' => e = .returned (.bool true) ∧ Grown w w' := by
  by_cases hb : 0 ≤ i ∧ i ≤ 63
  · obtain ⟨i0, i1⟩ := hb
    obtain ⟨i, rfl⟩ := Int.eq_ofNat_of_zero_le i0
    have hi : i < 64 := by omega
    have h24 := fun W => bit24 N i W hi
    have h25 := fun W => sbit25 N i W hi
    have h26 := fun W => set26 N i on W hi
    have h27 := fun W => sset27 N i on W hi
    have hn := ArrAt.new w N 32
    have hq := fun W => eq_arr (Pl.setb N i on) W
    generalize Pl.setb N i on = M at *
    unfold Pl.arr at *
    have H24 := Lib.hid h24
    have H25 := Lib.hid h25
    have H26 := Lib.hid h26
    have H27 := Lib.hid h27
    have HN := Lib.hid hn
    have HQ := Lib.hid hq
    clear h24 h25 h26 h27 hn hq
    go_enter Try.func6, Try.ntmps6
    go_wp2_with fail
    refine wp_world (fun W => Grown w W ∧ ArrAt w.heap.size N W ∧ w.heap.size < W.heap.size) ⟨(Grown.refl _).alloc _ _, HN.out, by simp⟩ ?_
    rintro W ⟨hgW, hT, hz⟩
    have HS := Lib.hid (fun w1 (h : Grown W w1) => hT.grown h hz)
    have HG := Lib.hid hgW
    clear hgW HN
    generalize w.heap.size = b at *
    obtain ⟨c0, c1, c2, c3, c4, c5, c6, c7⟩ := hT
    have HE := HQ.out
    go_region_held3 (fun w' => Grown W w' ∧ w'.cell? ⟨b, 0, none⟩ = some (.int .u8 (Pl.byt N 0 : Nat)) ∧ w'.cell? ⟨b, 1, none⟩ = some (.int .u8 (Pl.byt N 1 : Nat)) ∧ w'.cell? ⟨b, 2, none⟩ = some (.int .u8 (Pl.byt N 2 : Nat)) ∧ w'.cell? ⟨b, 3, none⟩ = some (.int .u8 (Pl.byt N 3 : Nat)) ∧ w'.cell? ⟨b, 4, none⟩ = some (.int .u8 (Pl.byt N 4 : Nat)) ∧ w'.cell? ⟨b, 5, none⟩ = some (.int .u8 (Pl.byt N 5 : Nat)) ∧ w'.cell? ⟨b, 6, none⟩ = some (.int .u8 (Pl.byt N 6 : Nat)) ∧ w'.cell? ⟨b, 7, none⟩ = some (.int .u8 (Pl.byt N 7 : Nat)))
      (first | exact ⟨(Grown.refl _).drew, HS.out _ (Grown.refl _).drew⟩ | exact keepS HS (by assumption) (And.left (by assumption)))
      (first
        | (go_at_call 25; refine (H25.out _).mono ?_; rintro e w1 ⟨rfl, hg⟩)
        | (go_at_call 26; refine (H26.out _).mono ?_; rintro e w1 ⟨rfl, hg⟩)
        | (go_at_call 27; refine (H27.out _).mono ?_; rintro e w1 ⟨rfl, hg⟩)
        | (go_at_call_of 24 (Value.agg #[.int .u8 1, .int .u8 0, .int .u8 0, .int .u8 0, .int .u8 0, .int .u8 0, .int .u8 0, .int .u8 0]); refine (bit24_one _).mono ?_; rintro e w1 ⟨rfl, hg⟩)
        | (go_at_call_of 24 (Value.agg #[.int .u8 (Pl.byt N 0 : Nat), .int .u8 (Pl.byt N 1 : Nat), .int .u8 (Pl.byt N 2 : Nat), .int .u8 (Pl.byt N 3 : Nat), .int .u8 (Pl.byt N 4 : Nat), .int .u8 (Pl.byt N 5 : Nat), .int .u8 (Pl.byt N 6 : Nat), .int .u8 (Pl.byt N 7 : Nat)]); refine (H24.out _).mono ?_; rintro e w1 ⟨rfl, hg⟩))
    go_wp2_with fail
    go_ret
    exact ⟨rfl, grown_trans HG.out (And.left (by assumption))⟩
  · have hc : i < 0 ∨ (0 ≤ i ∧ 63 < i) := by omega
    clear hb
    unfold Pl.arr
    rcases hc with h | ⟨h, k⟩
    all_goals
      go_enter Try.func6, Try.ntmps6
      go_wp2_with fail
      go_ret
      exact ⟨rfl, (Grown.refl _).alloc _ _⟩

end Go.Proofs.Ytjmlfobljlfngaa
