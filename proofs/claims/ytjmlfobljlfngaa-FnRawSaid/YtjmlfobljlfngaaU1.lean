/- Contracts: a signal's own numbers -/
import Derived.Test.YtjmlfobljlfngaaZ2
namespace Go.Proofs.Ytjmlfobljlfngaa
open Go.ChangeShapes Go.WideShapes Go.ChangeAt Go.RowKit
set_option linter.unusedVariables false

/-- a block that holds the package's struct of a signal -/
abbrev DesAt (p s l : Nat) (big : Bool) (w : World) : Prop :=
  w.cell? ⟨p, 1, none⟩ = some (.int .u8 s) ∧ w.cell? ⟨p, 2, none⟩ = some (.int .u8 l) ∧ w.cell? ⟨p, 3, none⟩ = some (.bool big)
theorem DesAt.grown {p s l : Nat} {big : Bool} {w w1 : World} (h : DesAt p s l big w) (hg : Grown w w1) (hb : p < w.heap.size) : DesAt p s l big w1 :=
  ⟨(grown_cell hg hb).trans h.1, (grown_cell hg hb).trans h.2.1, (grown_cell hg hb).trans h.2.2⟩
theorem DesAt.lt {p s l : Nat} {big : Bool} {w : World} (h : DesAt p s l big w) : p < w.heap.size := World.block_lt_of_cell? w ⟨p, 1, none⟩ h.1

theorem um72 (p N s l : Nat) (big : Bool) (w : World) (hN : N < 2 ^ 64) (hin : Pl.Inside s l big) (hd : DesAt p s l big w) :
    Calls Try.prog 72 #[.pointer (some ⟨p, 0, none⟩), .agg (Pl.arr N)] w fun e w' => e = .returned (.int .u64 (Pl.U N s l big : Nat)) ∧ Grown w w' := by
  have hnw := ArrAt.new w N 68
  have hp := hd.lt
  unfold Pl.arr at *
  have HN := Lib.hid hnw
  have HD := Lib.hid hd
  clear hnw
  obtain ⟨e1, e2, e3⟩ := hd
  cases big
  · go_enter Try.func72, Try.ntmps72
    go_wp2_with fail
    refine wp_world (fun W => Grown w W ∧ DesAt p s l false W ∧ ArrAt w.heap.size N W) ⟨(Grown.refl _).alloc _ _, HD.out.grown ((Grown.refl _).alloc _ _) hp, HN.out⟩ ?_
    rintro W ⟨hgW, hD, hT⟩
    have HS := Lib.hid (fun w1 (h : Grown W w1) => hD.grown h hD.lt)
    have HT := Lib.hid hT
    have HG := Lib.hid hgW
    clear hgW HN hT
    obtain ⟨c1, c2, c3⟩ := hD
    go_region_held3 (fun w' => Grown W w' ∧ w'.cell? ⟨p, 1, none⟩ = some (.int .u8 s) ∧ w'.cell? ⟨p, 2, none⟩ = some (.int .u8 l) ∧ w'.cell? ⟨p, 3, none⟩ = some (.bool false))
      (first | exact ⟨(Grown.refl _).drew, HS.out _ (Grown.refl _).drew⟩ | assumption | exact keepS HS (by assumption) (And.left (by assumption)))
      (first
        | (go_at_call 65; refine (u65 _ N s l _ hN hin (by exact HT.out)).mono ?_; rintro e w1 ⟨rfl, rfl⟩))
    go_wp2_with fail
    go_ret
    exact ⟨rfl, HG.out⟩
  · go_enter Try.func72, Try.ntmps72
    go_wp2_with fail
    refine wp_world (fun W => Grown w W ∧ DesAt p s l true W ∧ ArrAt w.heap.size N W) ⟨(Grown.refl _).alloc _ _, HD.out.grown ((Grown.refl _).alloc _ _) hp, HN.out⟩ ?_
    rintro W ⟨hgW, hD, hT⟩
    have HS := Lib.hid (fun w1 (h : Grown W w1) => hD.grown h hD.lt)
    have HT := Lib.hid hT
    have HG := Lib.hid hgW
    clear hgW HN hT
    obtain ⟨c1, c2, c3⟩ := hD
    go_region_held3 (fun w' => Grown W w' ∧ w'.cell? ⟨p, 1, none⟩ = some (.int .u8 s) ∧ w'.cell? ⟨p, 2, none⟩ = some (.int .u8 l) ∧ w'.cell? ⟨p, 3, none⟩ = some (.bool true))
      (first | exact ⟨(Grown.refl _).drew, HS.out _ (Grown.refl _).drew⟩ | assumption | exact keepS HS (by assumption) (And.left (by assumption)))
      (first
        | (go_at_call 64; refine (u64 _ N s l _ hin (by exact HT.out)).mono ?_; rintro e w1 ⟨rfl, rfl⟩))
    go_wp2_with fail
    go_ret
    exact ⟨rfl, HG.out⟩


theorem um73 (p N s l : Nat) (big : Bool) (w : World) (hN : N < 2 ^ 64) (hin : Pl.Inside s l big) (hd : DesAt p s l big w) :
    Calls Try.prog 73 #[.pointer (some ⟨p, 0, none⟩), .agg (Pl.arr N)] w fun e w' => e = .returned (.int .i64 (Pl.sgn (Pl.U N s l big) l)) ∧ Grown w w' := by
  have hnw := ArrAt.new w N 68
  have hp := hd.lt
  unfold Pl.arr at *
  have HN := Lib.hid hnw
  have HD := Lib.hid hd
  clear hnw
  obtain ⟨e1, e2, e3⟩ := hd
  cases big
  · go_enter Try.func73, Try.ntmps73
    go_wp2_with fail
    refine wp_world (fun W => Grown w W ∧ DesAt p s l false W ∧ ArrAt w.heap.size N W) ⟨(Grown.refl _).alloc _ _, HD.out.grown ((Grown.refl _).alloc _ _) hp, HN.out⟩ ?_
    rintro W ⟨hgW, hD, hT⟩
    have HS := Lib.hid (fun w1 (h : Grown W w1) => hD.grown h hD.lt)
    have HT := Lib.hid hT
    have HG := Lib.hid hgW
    clear hgW HN hT
    obtain ⟨c1, c2, c3⟩ := hD
    go_region_held3 (fun w' => Grown W w' ∧ w'.cell? ⟨p, 1, none⟩ = some (.int .u8 s) ∧ w'.cell? ⟨p, 2, none⟩ = some (.int .u8 l) ∧ w'.cell? ⟨p, 3, none⟩ = some (.bool false))
      (first | exact ⟨(Grown.refl _).drew, HS.out _ (Grown.refl _).drew⟩ | assumption | exact keepS HS (by assumption) (And.left (by assumption)))
      (first
        | (go_at_call 67; refine (s67 _ N s l _ hN hin (by exact HT.out)).mono ?_; rintro e w1 ⟨rfl, rfl⟩))
    go_wp2_with fail
    go_ret
    exact ⟨rfl, HG.out⟩
  · go_enter Try.func73, Try.ntmps73
    go_wp2_with fail
    refine wp_world (fun W => Grown w W ∧ DesAt p s l true W ∧ ArrAt w.heap.size N W) ⟨(Grown.refl _).alloc _ _, HD.out.grown ((Grown.refl _).alloc _ _) hp, HN.out⟩ ?_
    rintro W ⟨hgW, hD, hT⟩
    have HS := Lib.hid (fun w1 (h : Grown W w1) => hD.grown h hD.lt)
    have HT := Lib.hid hT
    have HG := Lib.hid hgW
    clear hgW HN hT
    obtain ⟨c1, c2, c3⟩ := hD
    go_region_held3 (fun w' => Grown W w' ∧ w'.cell? ⟨p, 1, none⟩ = some (.int .u8 s) ∧ w'.cell? ⟨p, 2, none⟩ = some (.int .u8 l) ∧ w'.cell? ⟨p, 3, none⟩ = some (.bool true))
      (first | exact ⟨(Grown.refl _).drew, HS.out _ (Grown.refl _).drew⟩ | assumption | exact keepS HS (by assumption) (And.left (by assumption)))
      (first
        | (go_at_call 66; refine (s66 _ N s l _ hin (by exact HT.out)).mono ?_; rintro e w1 ⟨rfl, rfl⟩))
    go_wp2_with fail
    go_ret
    exact ⟨rfl, HG.out⟩


theorem mar75 (p b N s l : Nat) (big : Bool) (v : Nat) (w : World) (hN : N < 2 ^ 64) (hin : Pl.Inside s l big) (hv : v < 2 ^ l) (hd : DesAt p s l big w) (hA : ArrAt b N w) (hf : ∀ j, w.frozen? ⟨b, j, none⟩ = false) :
    Calls Try.prog 75 #[.pointer (some ⟨p, 0, none⟩), .pointer (some ⟨b, 0, none⟩), .int .u64 v] w fun e w' => e = .returned (.tuple #[]) ∧ Upd b (Pl.SU N s l big v) w w' := by
  have HA := Lib.hid hA
  have HF := Lib.hid hf
  clear hA hf
  obtain ⟨e1, e2, e3⟩ := hd
  cases big
  · go_enter Try.func75, Try.ntmps75
    go_wp2_with fail
    go_region_with (first
      | (go_at_call 69; refine (su69 b N s l v _ hN hin hv (by exact HA.out) (by exact HF.out)).mono ?_; rintro e w1 ⟨rfl, hU⟩; have HU := Lib.hid hU; clear hU))
    all_goals
      go_wp2_with fail
      go_end0
      exact ⟨rfl, HU.out⟩
  · go_enter Try.func75, Try.ntmps75
    go_wp2_with fail
    go_region_with (first
      | (go_at_call 68; refine (su68 b N s l v _ hN hin hv (by exact HA.out) (by exact HF.out)).mono ?_; rintro e w1 ⟨rfl, hU⟩; have HU := Lib.hid hU; clear hU))
    all_goals
      go_wp2_with fail
      go_end0
      exact ⟨rfl, HU.out⟩


theorem mar74 (p b N s l : Nat) (big : Bool) (n : Int) (w : World) (hN : N < 2 ^ 64) (hin : Pl.Inside s l big) (hn : (Lit.int .i64 n).wf = true) (hd : DesAt p s l big w) (hA : ArrAt b N w) (hf : ∀ j, w.frozen? ⟨b, j, none⟩ = false) :
    Calls Try.prog 74 #[.pointer (some ⟨p, 0, none⟩), .pointer (some ⟨b, 0, none⟩), .int .i64 n] w fun e w' => e = .returned (.tuple #[]) ∧ Upd b (Pl.SU N s l big (Pl.uns n)) w w' := by
  have HA := Lib.hid hA
  have HF := Lib.hid hf
  clear hA hf
  obtain ⟨e1, e2, e3⟩ := hd
  cases big
  · go_enter Try.func74, Try.ntmps74
    go_wp2_with fail
    go_region_with (first
      | (go_at_call 71; refine (ss71 b N s l n _ hN hin hn (by exact HA.out) (by exact HF.out)).mono ?_; rintro e w1 ⟨rfl, hU⟩; have HU := Lib.hid hU; clear hU))
    all_goals
      go_wp2_with fail
      go_end0
      exact ⟨rfl, HU.out⟩
  · go_enter Try.func74, Try.ntmps74
    go_wp2_with fail
    go_region_with (first
      | (go_at_call 70; refine (ss70 b N s l n _ hN hin hn (by exact HA.out) (by exact HF.out)).mono ?_; rintro e w1 ⟨rfl, hU⟩; have HU := Lib.hid hU; clear hU))
    all_goals
      go_wp2_with fail
      go_end0
      exact ⟨rfl, HU.out⟩


end Go.Proofs.Ytjmlfobljlfngaa
