/- The walk of the law on valid frames -/
import Derived.Test.YtjmlfobljlfngaaG
namespace Go.Proofs.Ytjmlfobljlfngaa
open Go.ChangeShapes Go.WideShapes Go.ChangeAt Go.RowKit
set_option linter.unusedVariables false

theorem keepS {W a b : World} {T : World → Prop} (HS : Hid (∀ w1, Grown W w1 → T w1)) (k : Grown a b) (h : Grown W a) : Grown W b ∧ T b := ⟨grown_trans h k, HS.out _ (grown_trans h k)⟩

/-- go on with a letter for the world -/
theorem wp_letter {P : Program} {c : Code} {Q : Exit → Act → World → Prop} {a : Act} {w : World} (S : World → Prop) (hS : S w) (h : ∀ W, S W → c.wp P Q a W) : c.wp P Q a w := h w hS

/-- two blocks that hold a frame and the frame without its bytes -/
abbrev TwoFr (b0 b1 : Nat) (id n : Int) (N : Nat) (rm ex : Bool) (w' : World) : Prop :=
  w'.cell? ⟨b0, 0, none⟩ = some (.int .i64 id) ∧ w'.cell? ⟨b0, 1, none⟩ = some (.int .i64 n) ∧ w'.cell? ⟨b0, 2, none⟩ = some (.int .u8 (Pl.byt N 0 : Nat)) ∧ w'.cell? ⟨b0, 3, none⟩ = some (.int .u8 (Pl.byt N 1 : Nat)) ∧ w'.cell? ⟨b0, 4, none⟩ = some (.int .u8 (Pl.byt N 2 : Nat)) ∧ w'.cell? ⟨b0, 5, none⟩ = some (.int .u8 (Pl.byt N 3 : Nat)) ∧ w'.cell? ⟨b0, 6, none⟩ = some (.int .u8 (Pl.byt N 4 : Nat)) ∧ w'.cell? ⟨b0, 7, none⟩ = some (.int .u8 (Pl.byt N 5 : Nat)) ∧ w'.cell? ⟨b0, 8, none⟩ = some (.int .u8 (Pl.byt N 6 : Nat)) ∧ w'.cell? ⟨b0, 9, none⟩ = some (.int .u8 (Pl.byt N 7 : Nat)) ∧ w'.cell? ⟨b0, 10, none⟩ = some (.bool rm) ∧ w'.cell? ⟨b0, 11, none⟩ = some (.bool ex) ∧ w'.cell? ⟨b1, 0, none⟩ = some (.int .i64 id) ∧ w'.cell? ⟨b1, 1, none⟩ = some (.int .i64 n) ∧ w'.cell? ⟨b1, 2, none⟩ = some (.int .u8 0) ∧ w'.cell? ⟨b1, 3, none⟩ = some (.int .u8 0) ∧ w'.cell? ⟨b1, 4, none⟩ = some (.int .u8 0) ∧ w'.cell? ⟨b1, 5, none⟩ = some (.int .u8 0) ∧ w'.cell? ⟨b1, 6, none⟩ = some (.int .u8 0) ∧ w'.cell? ⟨b1, 7, none⟩ = some (.int .u8 0) ∧ w'.cell? ⟨b1, 8, none⟩ = some (.int .u8 0) ∧ w'.cell? ⟨b1, 9, none⟩ = some (.int .u8 0) ∧ w'.cell? ⟨b1, 10, none⟩ = some (.bool rm) ∧ w'.cell? ⟨b1, 11, none⟩ = some (.bool ex)

theorem TwoFr.grown {b0 b1 : Nat} {id n : Int} {N : Nat} {rm ex : Bool} {w w1 : World} (h : TwoFr b0 b1 id n N rm ex w) (hg : Grown w w1) (h0 : b0 < w.heap.size) (h1 : b1 < w.heap.size) : TwoFr b0 b1 id n N rm ex w1 := by
  obtain ⟨c0, c1, c2, c3, c4, c5, c6, c7, c8, c9, c10, c11, c12, c13, c14, c15, c16, c17, c18, c19, c20, c21, c22, c23⟩ := h
  exact ⟨(grown_cell hg h0).trans c0, (grown_cell hg h0).trans c1, (grown_cell hg h0).trans c2, (grown_cell hg h0).trans c3, (grown_cell hg h0).trans c4, (grown_cell hg h0).trans c5, (grown_cell hg h0).trans c6, (grown_cell hg h0).trans c7, (grown_cell hg h0).trans c8, (grown_cell hg h0).trans c9, (grown_cell hg h0).trans c10, (grown_cell hg h0).trans c11, (grown_cell hg h1).trans c12, (grown_cell hg h1).trans c13, (grown_cell hg h1).trans c14, (grown_cell hg h1).trans c15, (grown_cell hg h1).trans c16, (grown_cell hg h1).trans c17, (grown_cell hg h1).trans c18, (grown_cell hg h1).trans c19, (grown_cell hg h1).trans c20, (grown_cell hg h1).trans c21, (grown_cell hg h1).trans c22, (grown_cell hg h1).trans c23⟩

theorem walkValid (id n : Int) (N : Nat) (rm ex : Bool) (w : World) :
    Calls Try.prog 5 #[.agg (frCells id n N rm ex)] w fun e w' => e = .returned (.bool true) ∧ Grown w w' := by
  by_cases hb : 0 ≤ id ∧ id ≤ 4294967295 ∧ 0 ≤ n ∧ n ≤ 255
  · obtain ⟨i0, i1, n0, n1⟩ := hb
    have hv1 := fun W => valid22 id n N rm ex W i0 i1 n0 n1
    have z : ∀ k, Pl.byt 0 k = 0 := fun k => by simp [Pl.byt]
    have hv2 := fun W => valid22 1 0 0 false false W (by omega) (by omega) (by omega) (by omega)
    have hi := fun W => isf23 id n rm ex W i0 i1 n0 n1
    unfold frCells zeroFr at *
    simp only [z, Int.cast_ofNat_Int] at hv2
    clear z
    have hB : validB 1 0 false = true := by decide
    rw [hB] at hv2
    clear hB
    have H1 := Lib.hid hv1
    have H2 := Lib.hid hv2
    have H3 := Lib.hid hi
    clear hv1 hv2 hi
    go_enter Try.func5, Try.ntmps5
    go_wp2_with fail
    refine wp_letter (fun W => Grown w W ∧ TwoFr w.heap.size (w.heap.size + 1) id n N rm ex W ∧ w.heap.size + 1 < W.heap.size) ⟨((Grown.refl _).alloc _ _).alloc _ _, ?_, by simp⟩ ?_
    · unfold TwoFr
      refine ⟨?_, ?_, ?_, ?_, ?_, ?_, ?_, ?_, ?_, ?_, ?_, ?_, ?_, ?_, ?_, ?_, ?_, ?_, ?_, ?_, ?_, ?_, ?_, ?_⟩ <;> go_simp
    rintro W ⟨hgW, hT, hz⟩
    have HS := Lib.hid (fun w1 (h : Grown W w1) => hT.grown h (by omega) hz)
    have HG := Lib.hid hgW
    clear hgW
    generalize w.heap.size = b at *
    obtain ⟨c0, c1, c2, c3, c4, c5, c6, c7, c8, c9, c10, c11, c12, c13, c14, c15, c16, c17, c18, c19, c20, c21, c22, c23⟩ := hT
    go_region_held3 (fun w' => Grown W w' ∧ w'.cell? ⟨b, 0, none⟩ = some (.int .i64 id) ∧ w'.cell? ⟨b, 1, none⟩ = some (.int .i64 n) ∧ w'.cell? ⟨b, 2, none⟩ = some (.int .u8 (Pl.byt N 0 : Nat)) ∧ w'.cell? ⟨b, 3, none⟩ = some (.int .u8 (Pl.byt N 1 : Nat)) ∧ w'.cell? ⟨b, 4, none⟩ = some (.int .u8 (Pl.byt N 2 : Nat)) ∧ w'.cell? ⟨b, 5, none⟩ = some (.int .u8 (Pl.byt N 3 : Nat)) ∧ w'.cell? ⟨b, 6, none⟩ = some (.int .u8 (Pl.byt N 4 : Nat)) ∧ w'.cell? ⟨b, 7, none⟩ = some (.int .u8 (Pl.byt N 5 : Nat)) ∧ w'.cell? ⟨b, 8, none⟩ = some (.int .u8 (Pl.byt N 6 : Nat)) ∧ w'.cell? ⟨b, 9, none⟩ = some (.int .u8 (Pl.byt N 7 : Nat)) ∧ w'.cell? ⟨b, 10, none⟩ = some (.bool rm) ∧ w'.cell? ⟨b, 11, none⟩ = some (.bool ex) ∧ w'.cell? ⟨b + 1, 0, none⟩ = some (.int .i64 id) ∧ w'.cell? ⟨b + 1, 1, none⟩ = some (.int .i64 n) ∧ w'.cell? ⟨b + 1, 2, none⟩ = some (.int .u8 0) ∧ w'.cell? ⟨b + 1, 3, none⟩ = some (.int .u8 0) ∧ w'.cell? ⟨b + 1, 4, none⟩ = some (.int .u8 0) ∧ w'.cell? ⟨b + 1, 5, none⟩ = some (.int .u8 0) ∧ w'.cell? ⟨b + 1, 6, none⟩ = some (.int .u8 0) ∧ w'.cell? ⟨b + 1, 7, none⟩ = some (.int .u8 0) ∧ w'.cell? ⟨b + 1, 8, none⟩ = some (.int .u8 0) ∧ w'.cell? ⟨b + 1, 9, none⟩ = some (.int .u8 0) ∧ w'.cell? ⟨b + 1, 10, none⟩ = some (.bool rm) ∧ w'.cell? ⟨b + 1, 11, none⟩ = some (.bool ex))
      (first | exact ⟨(Grown.refl _).drew, HS.out _ (Grown.refl _).drew⟩ | exact keepS HS (by assumption) (And.left (by assumption)))
      (first
        | (go_at_call 23; refine (H3.out _).mono ?_; rintro e w1 ⟨rfl, hg⟩)
        | (go_at_call_of 22 (Value.agg #[.int .i64 1, .int .i64 0, .int .u8 0, .int .u8 0, .int .u8 0, .int .u8 0, .int .u8 0, .int .u8 0, .int .u8 0, .int .u8 0, .bool false, .bool false]); refine (H2.out _).mono ?_; rintro e w1 ⟨rfl, hg⟩)
        | (go_at_call_of 22 (Value.agg #[.int .i64 id, .int .i64 n, .int .u8 (Pl.byt N 0 : Nat), .int .u8 (Pl.byt N 1 : Nat), .int .u8 (Pl.byt N 2 : Nat), .int .u8 (Pl.byt N 3 : Nat), .int .u8 (Pl.byt N 4 : Nat), .int .u8 (Pl.byt N 5 : Nat), .int .u8 (Pl.byt N 6 : Nat), .int .u8 (Pl.byt N 7 : Nat), .bool rm, .bool ex]); refine (H1.out _).mono ?_; rintro e w1 ⟨rfl, hg⟩))
    go_wp2_with fail
    go_ret
    exact ⟨rfl, grown_trans HG.out (And.left (by assumption))⟩
  · have hc : id < 0 ∨ (0 ≤ id ∧ 4294967295 < id) ∨ (0 ≤ id ∧ id ≤ 4294967295 ∧ n < 0) ∨ (0 ≤ id ∧ id ≤ 4294967295 ∧ 0 ≤ n ∧ 255 < n) := by omega
    clear hb
    unfold frCells
    rcases hc with h | ⟨h, k⟩ | ⟨h, k, m⟩ | ⟨h, k, m, o⟩
    all_goals
      go_enter Try.func5, Try.ntmps5
      go_wp2_with fail
      go_ret
      exact ⟨rfl, (Grown.refl _).alloc _ _⟩

end Go.Proofs.Ytjmlfobljlfngaa
