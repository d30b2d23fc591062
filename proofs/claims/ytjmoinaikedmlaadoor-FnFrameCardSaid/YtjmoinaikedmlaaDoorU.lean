/- The walk of the law -/
import Derived.Test.YtjmoinaikedmlaaDoorT
namespace Go.Proofs.YtjmoinaikedmlaaDoor
open Go.ChangeShapes Go.WideShapes Go.ChangeAt Go.RowKit
set_option linter.unusedVariables false

theorem law_no (id n : Int) (N : Nat) (rm ex : Bool) (w : World) (h : ∀ W, Calls Tryd.prog 4 #[.agg (frCells id n N rm ex)] W fun e w' => e = .returned (.bool false) ∧ Below W.heap.size W w') :
    Calls Tryd.prog 3 #[.agg (frCells id n N rm ex)] w fun e w' => e = .returned (.bool true) ∧ Below w.heap.size w w' := by
  have H := Lib.hid h
  unfold frCells at *
  clear h
  go_enter Tryd.func3, Tryd.ntmps3
  go_wp2_with fail
  refine (H.out _).mono ?_
  rintro e w' ⟨rfl, hb⟩
  have hb' := ((Below.refl _ w).alloc (Nat.le_refl _) _).trans (hb.mono (by simp))
  have HB := Lib.hid hb'
  clear hb hb'
  go_wp2_with fail
  go_ret
  exact ⟨rfl, HB.out⟩

/-- the cells of a frame in a block -/
def FrAt (w : World) (b : Nat) (id n N : Nat) (rm ex : Bool) : Prop :=
  w.cell? ⟨b, 0, none⟩ = some (.int .i64 id) ∧ w.cell? ⟨b, 1, none⟩ = some (.int .i64 n) ∧ w.cell? ⟨b, 2, none⟩ = some (.int .u8 (Pl.byt N 0 : Nat)) ∧ w.cell? ⟨b, 3, none⟩ = some (.int .u8 (Pl.byt N 1 : Nat)) ∧
    w.cell? ⟨b, 4, none⟩ = some (.int .u8 (Pl.byt N 2 : Nat)) ∧ w.cell? ⟨b, 5, none⟩ = some (.int .u8 (Pl.byt N 3 : Nat)) ∧ w.cell? ⟨b, 6, none⟩ = some (.int .u8 (Pl.byt N 4 : Nat)) ∧ w.cell? ⟨b, 7, none⟩ = some (.int .u8 (Pl.byt N 5 : Nat)) ∧
    w.cell? ⟨b, 8, none⟩ = some (.int .u8 (Pl.byt N 6 : Nat)) ∧ w.cell? ⟨b, 9, none⟩ = some (.int .u8 (Pl.byt N 7 : Nat)) ∧ w.cell? ⟨b, 10, none⟩ = some (.bool rm) ∧ w.cell? ⟨b, 11, none⟩ = some (.bool ex)

theorem FrAt.of {w : World} {b t : Nat} {id n N : Nat} {rm ex : Bool} (h : RowS w b t 12 (frF id n N rm ex)) : FrAt w b id n N rm ex := h.twelve

theorem fr_new (w : World) (id n : Int) (N : Nat) (rm ex : Bool) : RowS (w.alloc (.cells (frCells id n N rm ex) 24)) w.heap.size 24 12 (frF id n N rm ex) :=
  RowS.new _ _ _ _ _ (Nat.le_refl 12) (fun i hi => by
    have h : i < (frCells id n N rm ex).size := hi
    rw [Array.getElem?_eq_getElem h]
    simp [frF, Array.getD, h])

theorem keepB {W a b : World} {T : World → Prop} (HS : Hid (∀ w1, Below W.heap.size W w1 → T w1)) (k : Below a.heap.size a b) (h : Below W.heap.size W a) : Below W.heap.size W b ∧ T b :=
  ⟨h.trans (k.mono h.size), HS.out _ (h.trans (k.mono h.size))⟩

set_option maxRecDepth 100000 in
set_option maxHeartbeats 4000000 in
theorem law_yes (id n N : Nat) (rm ex : Bool) (w : World) (h1 : (id : Int) ≤ most ex) (hn : n ≤ 8) (hN : N < 2 ^ 64) (hok : ∀ k, k < 8 → okP n N rm k) (ev : Value) (hE : w.cell? ⟨0, 0, none⟩ = some ev) (hc : w.cell? ⟨9, 15, none⟩ = some (.int .u8 4)) :
    Calls Tryd.prog 3 #[.agg (frCells id n N rm ex)] w fun e w' => e = .returned (.bool true) ∧ Below w.heap.size w w' := by
  have hid : id < 536870912 := by unfold most at h1; split at h1 <;> omega
  have hid16 : id < 16 ^ idD ex := by unfold most at h1; unfold idD; cases ex <;> simp at h1 ⊢ <;> omega
  have H4 := Lib.hid fun W => isf4_yes id n N rm ex W ⟨by omega, h1, by omega, by omega⟩ hok
  have H6 := Lib.hid fun W => text6 id n N rm ex W hid hn
  have H7 := Lib.hid fun (W : World) (hW : Below w.heap.size w W) => text7 id n N rm ex W hid16 hn ((hW.cell (cell_lt hc)).trans hc)
  have H5 := Lib.hid fun (W : World) (hW : Below w.heap.size w W) => of5 id n N rm ex W hid16 hn hN hok ev ((hW.cell (cell_lt hE)).trans hE)
  have heq := fun W => eq_fr id n N rm ex hid hn W
  obtain ⟨S, hS⟩ : ∃ S, S = (⟨(textL id n N rm ex).toArray⟩ : ByteArray) := ⟨_, rfl⟩
  rw [← hS] at H6 H7 H5
  have HN := Lib.hid (fr_new w id n N rm ex)
  unfold frCells at *
  clear h1 hok hE hc hS hN hid hid16
  go_enter Tryd.func3, Tryd.ntmps3
  go_wp2_with fail
  refine (H4.out _).mono ?_
  rintro e w1 ⟨rfl, hb⟩
  have hr1 := Below.row hb HN.out.lt HN.out
  have hb1 := ((Below.refl _ w).alloc (Nat.le_refl _) _).trans (hb.mono (by simp))
  have HR := Lib.hid hr1
  have HB := Lib.hid hb1
  obtain ⟨c0, c1, c2, c3, c4, c5, c6, c7, c8, c9, c10, c11⟩ := FrAt.of hr1
  clear hb hb1 hr1 HN H4
  go_wp2_with fail
  refine (H6.out _).mono ?_
  rintro e w2 ⟨rfl, hb⟩
  have hr2 := Below.row hb HR.out.lt HR.out
  have HR2 := Lib.hid hr2
  have hb2 := HB.out.trans (hb.mono HB.out.size)
  have HB2 := Lib.hid hb2
  clear hb hb2 hr2 HB HR c0 c1 c2 c3 c4 c5 c6 c7 c8 c9 c10 c11
  go_wp2_with fail
  refine (H5.out _ HB2.out).mono ?_
  rintro e w3 ⟨rfl, hb⟩
  have hr3 := Below.row hb HR2.out.lt HR2.out
  have HR3 := Lib.hid hr3
  have hb3 := HB2.out.trans (hb.mono HB2.out.size)
  have HB3 := Lib.hid hb3
  clear hb hb3 hr3 HB2 HR2 H5
  go_wp2_with fail
  refine wp_world (fun W => Below w.heap.size w W ∧ RowS W w.heap.size 24 12 (frF id n N rm ex) ∧ RowS W w3.heap.size 24 12 (frF id n N rm ex)) ⟨HB3.out.alloc HB3.out.size _, HR3.out.alloc _, fr_new w3 id n N rm ex⟩ ?_
  rintro W ⟨hB, hA, hD⟩
  have HS := Lib.hid (fun w1 (h : Below W.heap.size W w1) => And.intro (FrAt.of (Below.row h hA.lt hA)) (FrAt.of (Below.row h hD.lt hD)))
  have H7' := Lib.hid (fun W' (h : Below W.heap.size W W') => H7.out W' (hB.trans (h.mono hB.size)))
  have HG := Lib.hid hB
  have hsz := hB.size
  obtain ⟨c0, c1, c2, c3, c4, c5, c6, c7, c8, c9, c10, c11⟩ := FrAt.of hA
  obtain ⟨d0, d1, d2, d3, d4, d5, d6, d7, d8, d9, d10, d11⟩ := FrAt.of hD
  clear hB hA hD HB3 HR3 H7
  generalize hbe : w.heap.size = b at *
  generalize w3.heap.size = b' at *
  unfold FrAt at HS
  go_region_held3 (fun w' => Below W.heap.size W w' ∧ ((w'.cell? ⟨b, 0, none⟩ = some (.int .i64 id) ∧ w'.cell? ⟨b, 1, none⟩ = some (.int .i64 n) ∧ w'.cell? ⟨b, 2, none⟩ = some (.int .u8 (Pl.byt N 0 : Nat)) ∧ w'.cell? ⟨b, 3, none⟩ = some (.int .u8 (Pl.byt N 1 : Nat)) ∧ w'.cell? ⟨b, 4, none⟩ = some (.int .u8 (Pl.byt N 2 : Nat)) ∧ w'.cell? ⟨b, 5, none⟩ = some (.int .u8 (Pl.byt N 3 : Nat)) ∧ w'.cell? ⟨b, 6, none⟩ = some (.int .u8 (Pl.byt N 4 : Nat)) ∧ w'.cell? ⟨b, 7, none⟩ = some (.int .u8 (Pl.byt N 5 : Nat)) ∧ w'.cell? ⟨b, 8, none⟩ = some (.int .u8 (Pl.byt N 6 : Nat)) ∧ w'.cell? ⟨b, 9, none⟩ = some (.int .u8 (Pl.byt N 7 : Nat)) ∧ w'.cell? ⟨b, 10, none⟩ = some (.bool rm) ∧ w'.cell? ⟨b, 11, none⟩ = some (.bool ex)) ∧ (w'.cell? ⟨b', 0, none⟩ = some (.int .i64 id) ∧ w'.cell? ⟨b', 1, none⟩ = some (.int .i64 n) ∧ w'.cell? ⟨b', 2, none⟩ = some (.int .u8 (Pl.byt N 0 : Nat)) ∧ w'.cell? ⟨b', 3, none⟩ = some (.int .u8 (Pl.byt N 1 : Nat)) ∧ w'.cell? ⟨b', 4, none⟩ = some (.int .u8 (Pl.byt N 2 : Nat)) ∧ w'.cell? ⟨b', 5, none⟩ = some (.int .u8 (Pl.byt N 3 : Nat)) ∧ w'.cell? ⟨b', 6, none⟩ = some (.int .u8 (Pl.byt N 4 : Nat)) ∧ w'.cell? ⟨b', 7, none⟩ = some (.int .u8 (Pl.byt N 5 : Nat)) ∧ w'.cell? ⟨b', 8, none⟩ = some (.int .u8 (Pl.byt N 6 : Nat)) ∧ w'.cell? ⟨b', 9, none⟩ = some (.int .u8 (Pl.byt N 7 : Nat)) ∧ w'.cell? ⟨b', 10, none⟩ = some (.bool rm) ∧ w'.cell? ⟨b', 11, none⟩ = some (.bool ex))))
    (first | exact ⟨(Below.refl _ _).drew, HS.out _ (Below.refl _ _).drew⟩ | assumption | exact keepB HS (by assumption) (And.left (by assumption)))
    (first
      | (go_at_call 7; refine (H7'.out _ (And.left (by assumption))).mono ?_; rintro e w1 ⟨rfl, hg⟩)
      | (go_at_call 6; refine (H6.out _).mono ?_; rintro e w1 ⟨rfl, hg⟩))
  go_wp2_with fail
  go_ret
  refine ⟨rfl, ?_⟩
  rw [hbe]
  exact HG.out.trans (Below.mono (And.left (by assumption)) hsz)

end Go.Proofs.YtjmoinaikedmlaaDoor
