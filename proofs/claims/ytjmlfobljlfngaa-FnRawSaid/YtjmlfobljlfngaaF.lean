/- What a block holds stays over grown worlds; walks of the laws on limits -/
import Derived.Test.YtjmlfobljlfngaaOpen
namespace Go.Proofs.Ytjmlfobljlfngaa
open Go.ChangeShapes Go.WideShapes Go.ChangeAt Go.RowKit

theorem grown_block {W w1 : World} (h : Grown W w1) {b : Nat} (hb : b < W.heap.size) : w1.heap[b]? = W.heap[b]? := by
  have hk := h.1.2.2 b hb
  have e1 : W.heap[b]? = some W.heap[b] := Array.getElem?_eq_getElem hb
  rw [e1] at hk ⊢
  split at hk
  · rename_i c t fr c' t' fr' q1 q2
    obtain ⟨rfl, rfl, hs, hc⟩ := hk
    rw [q2, ← e1]
    have hcc : c' = c := Array.ext_getElem? fun j => hc j (fun hf => hf)
    rw [hcc, ← q1, e1]
  · rename_i q1 q2
    rcases hk with hk | ⟨rfl, rfl⟩
    · exact hk.elim
    · rw [q2, ← q1]
  · exact hk

theorem grown_cell {W w1 : World} (h : Grown W w1) {p : Addr} (hb : p.block < W.heap.size) : w1.cell? p = W.cell? p :=
  World.cell?_of_block (w := W) (grown_block h hb)

theorem grown_frozen {W w1 : World} (h : Grown W w1) (p : Addr) : w1.frozen? p = W.frozen? p := h.2.1 p

/-- a block that holds a signal -/
def SigAt (w : World) (b : Nat) (s l : Int) (big sg fl : Bool) (f1 f2 f3 f4 : Nat) : Prop :=
  w.cell? ⟨b, 0, none⟩ = some (.int .i64 s) ∧ w.cell? ⟨b, 1, none⟩ = some (.int .i64 l) ∧ w.cell? ⟨b, 2, none⟩ = some (.bool big) ∧ w.cell? ⟨b, 3, none⟩ = some (.bool sg) ∧ w.cell? ⟨b, 4, none⟩ = some (.bool fl) ∧
  w.cell? ⟨b, 5, none⟩ = some (.float .f64 f1) ∧ w.cell? ⟨b, 6, none⟩ = some (.float .f64 f2) ∧ w.cell? ⟨b, 7, none⟩ = some (.float .f64 f3) ∧ w.cell? ⟨b, 8, none⟩ = some (.float .f64 f4)

theorem SigAt.new (w : World) (s l : Int) (big sg fl : Bool) (f1 f2 f3 f4 : Nat) (t : TypeId) : SigAt (w.alloc (.cells (sigCells s l big sg fl f1 f2 f3 f4) t)) w.heap.size s l big sg fl f1 f2 f3 f4 := by
  unfold SigAt sigCells
  refine ⟨?_, ?_, ?_, ?_, ?_, ?_, ?_, ?_, ?_⟩ <;> go_simp

theorem SigAt.grown {w w1 : World} {b : Nat} {s l : Int} {big sg fl : Bool} {f1 f2 f3 f4 : Nat} (h : SigAt w b s l big sg fl f1 f2 f3 f4) (hg : Grown w w1) (hb : b < w.heap.size) : SigAt w1 b s l big sg fl f1 f2 f3 f4 := by
  obtain ⟨h0, h1, h2, h3, h4, h5, h6, h7, h8⟩ := h
  exact ⟨(grown_cell hg hb).trans h0, (grown_cell hg hb).trans h1, (grown_cell hg hb).trans h2, (grown_cell hg hb).trans h3, (grown_cell hg hb).trans h4, (grown_cell hg hb).trans h5, (grown_cell hg hb).trans h6, (grown_cell hg hb).trans h7, (grown_cell hg hb).trans h8⟩

/-- some integer is handed back, nothing else turns -/
def SomeInt (w : World) (e : Ending) (w' : World) : Prop := (∃ x : Int, e = .returned (.int .i64 x)) ∧ w = w'
theorem min48g (b : Nat) (l : Nat) (w : World) (h1 : 1 ≤ l) (hl : l ≤ 64) (hc : w.cell? ⟨b, 2, none⟩ = some (.int .u8 l)) : Calls Try.prog 48 #[.pointer (some ⟨b, 0, none⟩)] w (SomeInt w) := by
  go_enter Try.func48, Try.ntmps48
  go_wp2
  go_ret
  exact ⟨⟨_, rfl⟩, rfl⟩
theorem maxs49g (b : Nat) (l : Nat) (w : World) (h1 : 1 ≤ l) (hl : l ≤ 64) (hc : w.cell? ⟨b, 2, none⟩ = some (.int .u8 l)) : Calls Try.prog 49 #[.pointer (some ⟨b, 0, none⟩)] w (SomeInt w) := by
  go_enter Try.func49, Try.ntmps49
  go_wp2
  go_ret
  exact ⟨⟨_, rfl⟩, rfl⟩

/-- the greatest number, and two more -/
def Lim3 (l : Nat) (w : World) (e : Ending) (w' : World) : Prop := (∃ x y : Int, e = .returned (.tuple #[.int .u64 ((2 ^ l - 1 : Nat) : Int), .int .i64 x, .int .i64 y])) ∧ Grown w w'
theorem lim18g (s l : Nat) (big sg fl : Bool) (f1 f2 f3 f4 : Nat) (w : World) (hs : s < 64) (h1 : 1 ≤ l) (hl : l ≤ 64) : Calls Try.prog 18 #[.agg (sigCells s l big sg fl f1 f2 f3 f4)] w (Lim3 l w) := by
  have hsig := fun W => sig46 s l big sg fl f1 f2 f3 f4 W hs h1 (by omega)
  unfold sigCells desCells at *
  have H := Lib.hid hsig
  clear hsig
  go_enter Try.func18, Try.ntmps18
  go_wp2_with fail
  refine (H.out _).mono ?_
  rintro e w' ⟨rfl, rfl⟩
  go_wp2_with fail
  refine (max47 _ l _ h1 (by omega) (by go_simp)).mono ?_
  rintro e w' ⟨rfl, rfl⟩
  go_wp2_with fail
  refine (min48g _ l _ h1 hl (by go_simp)).mono ?_
  rintro e w' ⟨⟨x, rfl⟩, rfl⟩
  go_wp2_with fail
  refine (maxs49g _ l _ h1 hl (by go_simp)).mono ?_
  rintro e w' ⟨⟨y, rfl⟩, rfl⟩
  go_wp2_with fail
  go_ret3
  exact ⟨⟨x, y, rfl⟩, (((Grown.refl _).alloc _ _).alloc _ _).alloc _ _⟩

theorem walkLimits (s l : Int) (big sg fl : Bool) (f1 f2 f3 f4 : Nat) (w : World) :
    Calls Try.prog 4 #[.agg (sigCells s l big sg fl f1 f2 f3 f4)] w fun e w' => e = .returned (.bool true) ∧ Grown w w' := by
  by_cases hb : 0 ≤ s ∧ s ≤ 63 ∧ 1 ≤ l ∧ l ≤ 64
  · obtain ⟨s0, s1, l0, l1⟩ := hb
    obtain ⟨s, rfl⟩ := Int.eq_ofNat_of_zero_le s0
    obtain ⟨l, rfl⟩ := Int.eq_ofNat_of_zero_le (show 0 ≤ l by omega)
    have hig := fun W => isig17 s l big sg fl f1 f2 f3 f4 W (by omega) (by omega) (by omega)
    have hl1 := fun (h : l ≤ 62) W => lim18 s l big sg fl f1 f2 f3 f4 W (by omega) (by omega) h
    have hl2 := fun W => lim18g s l big sg fl f1 f2 f3 f4 W (by omega) (by omega) (by omega)
    have hn := SigAt.new w s l big sg fl f1 f2 f3 f4 26
    unfold sigCells at *
    have H1 := Lib.hid hig
    have H2 := Lib.hid hl1
    have H3 := Lib.hid hl2
    have HN := Lib.hid hn
    clear hig hl1 hl2 hn
    cases hr : (!fl && Pl.okR 8 s l big)
    · have HR := Lib.hid hr
      clear hr
      go_enter Try.func4, Try.ntmps4
      go_wp2_with fail
      refine (H1.out _).mono ?_
      rintro e w1 ⟨rfl, hg⟩
      rw [HR.out]
      go_wp2_with fail
      go_ret
      exact ⟨rfl, grown_trans ((Grown.refl _).alloc _ _) hg⟩
    · have HR := Lib.hid hr
      clear hr
      by_cases hl : l ≤ 62
      · go_enter Try.func4, Try.ntmps4
        go_wp2_with fail
        refine (H1.out _).mono ?_
        rintro e w1 ⟨rfl, hg⟩
        rw [HR.out]
        have hz := hg.2.2
        simp at hz
        have hs1 := HN.out.grown hg (by simp)
        obtain ⟨c0, c1, c2, c3, c4, c5, c6, c7, c8⟩ := hs1
        go_wp2_with fail
        refine (H2.out hl _).mono ?_
        rintro e w2 ⟨rfl, hg2⟩
        have c1' := (grown_cell hg2 (p := ⟨w.heap.size, 1, none⟩) (by simp; omega)).trans c1
        go_wp2_with fail
        refine (max19 l _ (by omega) (by omega)).mono ?_
        rintro e w' ⟨rfl, rfl⟩
        go_wp2_with fail
        refine (min20 l _ (by omega) (by omega)).mono ?_
        rintro e w' ⟨rfl, rfl⟩
        go_wp2_with fail
        refine (maxs21 l _ (by omega) (by omega)).mono ?_
        rintro e w' ⟨rfl, rfl⟩
        go_wp2_with fail
        go_ret
        exact ⟨rfl, grown_trans ((Grown.refl _).alloc _ _) (grown_trans hg hg2)⟩
      · go_enter Try.func4, Try.ntmps4
        go_wp2_with fail
        refine (H1.out _).mono ?_
        rintro e w1 ⟨rfl, hg⟩
        rw [HR.out]
        have hz := hg.2.2
        simp at hz
        have hs1 := HN.out.grown hg (by simp)
        obtain ⟨c0, c1, c2, c3, c4, c5, c6, c7, c8⟩ := hs1
        go_wp2_with fail
        refine (H3.out _).mono ?_
        rintro e w2 ⟨⟨x, y, rfl⟩, hg2⟩
        have c1' := (grown_cell hg2 (p := ⟨w.heap.size, 1, none⟩) (by simp; omega)).trans c1
        go_wp2_with fail
        refine (max19 l _ (by omega) (by omega)).mono ?_
        rintro e w' ⟨rfl, rfl⟩
        go_wp2_with fail
        go_ret
        exact ⟨rfl, grown_trans ((Grown.refl _).alloc _ _) (grown_trans hg hg2)⟩
  · have hig := fun W => isig17_out s l big sg fl f1 f2 f3 f4 W hb
    unfold sigCells at *
    have H1 := Lib.hid hig
    clear hig
    go_enter Try.func4, Try.ntmps4
    go_wp2_with fail
    refine (H1.out _).mono ?_
    rintro e w1 ⟨rfl, hg⟩
    go_wp2_with fail
    go_ret
    exact ⟨rfl, grown_trans ((Grown.refl _).alloc _ _) hg⟩

end Go.Proofs.Ytjmlfobljlfngaa
