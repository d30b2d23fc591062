/- Contract of the reference's SetBit -/
import Derived.Test.YtjmlfobljlfngaaI
namespace Go.Proofs.Ytjmlfobljlfngaa
open Go.ChangeShapes Go.WideShapes Go.ChangeAt Go.RowKit
set_option linter.unusedVariables false

/-- go on with a letter for the world -/
theorem wp_world {P : Program} {c : Code} {Q : Exit → Act → World → Prop} {a : Act} {w : World} (S : World → Prop) (hS : S w) (h : ∀ W, S W → c.wp P Q a W) : c.wp P Q a w := h w hS

theorem post_world {R : Exit → Act → World → Prop} {e : Exit} {a : Act} {w : World} (S : World → Prop) (hS : S w) (h : ∀ W, S W → R e a W) : R e a w := h w hS

/-- block b holds N, the next one is there to be written -/
def St (w : World) (b N : Nat) (W : World) : Prop :=
  Grown w W ∧ w.heap.size ≤ b ∧ ArrAt b N W ∧ ArrAt (b + 1) 0 W ∧ (∀ j, W.frozen? ⟨b, j, none⟩ = false ∧ W.frozen? ⟨b + 1, j, none⟩ = false)

theorem St.set {w : World} {b N : Nat} {W : World} (h : St w b N W) {i : Nat} (hi : i < 64) {on : Bool} {x : Int} (hx : x = ((Pl.byt (Pl.setb N i on) (i / 8) : Nat) : Int)) :
    St w b (Pl.setb N i on) ((W.setCell ⟨b, i / 8, none⟩ (.int .u8 x)).drew) := by
  obtain ⟨h1, h2, h3, h4, h5⟩ := h
  obtain ⟨u1, u2, u3, u4, u5⟩ := upd_set (on := on) hi h3 hx
  exact ⟨u2 w h2 h1, h2, u1, ArrAt.of fun j hj => (u4 _ (by simp)).trans (h4.at_ hj), fun j => ⟨(u5 _).trans (h5 j).1, (u5 _).trans (h5 j).2⟩⟩

theorem St.start (w : World) (N : Nat) (t u : TypeId) : St w w.heap.size N ((w.alloc (.cells #[.int .u8 (Pl.byt N 0 : Nat), .int .u8 (Pl.byt N 1 : Nat), .int .u8 (Pl.byt N 2 : Nat), .int .u8 (Pl.byt N 3 : Nat), .int .u8 (Pl.byt N 4 : Nat), .int .u8 (Pl.byt N 5 : Nat), .int .u8 (Pl.byt N 6 : Nat), .int .u8 (Pl.byt N 7 : Nat)] t)).alloc (.cells #[.int .u8 0, .int .u8 0, .int .u8 0, .int .u8 0, .int .u8 0, .int .u8 0, .int .u8 0, .int .u8 0] u)) := by
  refine ⟨((Grown.refl _).alloc _ _).alloc _ _, Nat.le_refl _, ?_, ?_, fun j => ⟨?_, ?_⟩⟩
  · refine ⟨?_, ?_, ?_, ?_, ?_, ?_, ?_, ?_⟩ <;> go_simp
  · refine ⟨?_, ?_, ?_, ?_, ?_, ?_, ?_, ?_⟩ <;> go_simp <;> simp [Pl.byt]
  · go_simp
  · go_simp

theorem Pl.setb_setb (N i : Nat) (on : Bool) : Pl.setb (Pl.setb N i false) i on = Pl.setb N i on := by
  refine Nat.eq_of_testBit_eq fun j => ?_
  rw [Pl.bit_setb, Pl.bit_setb, Pl.bit_setb]
  by_cases h : j = i
  · rw [if_pos h, if_pos h]
  · rw [if_neg h, if_neg h, if_neg h]

theorem sset27 (N i : Nat) (on : Bool) (w : World) (hi : i < 64) :
    Calls Try.prog 27 #[.agg (Pl.arr N), .int .i64 i, .bool on] w fun e w' => e = .returned (.agg (Pl.arr (Pl.setb N i on))) ∧ Grown w w' := by
  unfold Pl.arr
  generalize hM : Pl.setb N i on = M
  have HM := Lib.hid hM
  clear hM
  cases on
  · go_enter Try.func27, Try.ntmps27
    go_wp2_with fail
    refine wp_world (St w w.heap.size N) (St.start w N 32 32) ?_
    intro W hS
    have HS := Lib.hid hS
    have hc := hS.2.2.1.at_ (show i / 8 < 8 by omega)
    have hf := (hS.2.2.2.2 (i / 8)).1
    clear hS
    generalize w.heap.size = b at HS hc hf ⊢
    go_region
    refine post_world (St w b (Pl.setb N i false)) (HS.out.set hi (by rw [Pl.mask_u8 (Nat.mod_lt _ (by decide))]; exact Pl.andNot_walk N i)) ?_
    intro W2 hS2
    clear hc hf HS
    rw [HM.out] at hS2
    have hb := hS2.2.1
    obtain ⟨g, _, ⟨a0, a1, a2, a3, a4, a5, a6, a7⟩, ⟨c0, c1, c2, c3, c4, c5, c6, c7⟩, hf⟩ := hS2
    have HG := Lib.hid g
    have HB := Lib.hid hb
    have f0 := (hf 0).2
    have f1 := (hf 1).2
    have f2 := (hf 2).2
    have f3 := (hf 3).2
    have f4 := (hf 4).2
    have f5 := (hf 5).2
    have f6 := (hf 6).2
    have f7 := (hf 7).2
    clear hf g hb
    go_wp2_with fail
    exact bodyPost_ret (v := .agg (Pl.arr M)) (by unfold Pl.arr; simp [results, Try.results27, go_sem, *]) rfl ⟨rfl, (((((((HG.out.setCell (by have := HB.out; simp; omega) _).setCell (by have := HB.out; simp; omega) _).setCell (by have := HB.out; simp; omega) _).setCell (by have := HB.out; simp; omega) _).setCell (by have := HB.out; simp; omega) _).setCell (by have := HB.out; simp; omega) _).setCell (by have := HB.out; simp; omega) _).setCell (by have := HB.out; simp; omega) _⟩
  · go_enter Try.func27, Try.ntmps27
    go_wp2_with fail
    refine wp_world (St w w.heap.size N) (St.start w N 32 32) ?_
    intro W hS
    have HS := Lib.hid hS
    have hc := hS.2.2.1.at_ (show i / 8 < 8 by omega)
    have hf := (hS.2.2.2.2 (i / 8)).1
    clear hS
    generalize w.heap.size = b at HS hc hf ⊢
    go_region
    refine post_world (St w b (Pl.setb N i false)) (HS.out.set hi (by rw [Pl.mask_u8 (Nat.mod_lt _ (by decide))]; exact Pl.andNot_walk N i)) ?_
    intro W2 hS2
    clear hc hf HS
    have HS := Lib.hid hS2
    have hc := hS2.2.2.1.at_ (show i / 8 < 8 by omega)
    have hf := (hS2.2.2.2.2 (i / 8)).1
    clear hS2
    go_wp2_with fail
    go_region
    refine post_world (St w b (Pl.setb (Pl.setb N i false) i true)) (HS.out.set hi (by rw [Pl.mask_u8 (Nat.mod_lt _ (by decide))]; exact Pl.or_walk _ i)) ?_
    intro W3 hS2
    clear hc hf HS
    rw [Pl.setb_setb, HM.out] at hS2
    have hb := hS2.2.1
    obtain ⟨g, _, ⟨a0, a1, a2, a3, a4, a5, a6, a7⟩, ⟨c0, c1, c2, c3, c4, c5, c6, c7⟩, hf⟩ := hS2
    have HG := Lib.hid g
    have HB := Lib.hid hb
    have f0 := (hf 0).2
    have f1 := (hf 1).2
    have f2 := (hf 2).2
    have f3 := (hf 3).2
    have f4 := (hf 4).2
    have f5 := (hf 5).2
    have f6 := (hf 6).2
    have f7 := (hf 7).2
    clear hf g hb
    go_wp2_with fail
    exact bodyPost_ret (v := .agg (Pl.arr M)) (by unfold Pl.arr; simp [results, Try.results27, go_sem, *]) rfl ⟨rfl, (((((((HG.out.setCell (by have := HB.out; simp; omega) _).setCell (by have := HB.out; simp; omega) _).setCell (by have := HB.out; simp; omega) _).setCell (by have := HB.out; simp; omega) _).setCell (by have := HB.out; simp; omega) _).setCell (by have := HB.out; simp; omega) _).setCell (by have := HB.out; simp; omega) _).setCell (by have := HB.out; simp; omega) _⟩

end Go.Proofs.Ytjmlfobljlfngaa
