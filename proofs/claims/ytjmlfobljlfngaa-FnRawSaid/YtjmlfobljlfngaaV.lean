/- Contract: the reference's Set -/
import Derived.Test.YtjmlfobljlfngaaT
import Derived.Deep.RegionWith
namespace Go.Proofs.Ytjmlfobljlfngaa
open Go.ChangeShapes Go.WideShapes Go.ChangeAt Go.RowKit
set_option linter.unusedVariables false

namespace Pl
/-- what the reference has after k bits -/
def Sk (N s l : Nat) (big : Bool) (v k : Nat) : Nat := pk (put (pk N big) (low s l big) k v) big
theorem Sk_zero {N s l : Nat} {big : Bool} {v : Nat} (hN : N < 2 ^ 64) : Sk N s l big v 0 = N := by unfold Sk; rw [put_zero, pk_pk hN]
theorem Inside.Sk_step {N s l k v : Nat} {big : Bool} (h : Inside s l big) (hk : k < l) : setb (Sk N s l big v k) (pl s l k big) (v.testBit k) = Sk N s l big v (k + 1) := h.step hk

theorem Inside.Sk_lt {N s l k v : Nat} {big : Bool} (h : Inside s l big) (hN : N < 2 ^ 64) (hk : k ≤ l) : Sk N s l big v k < 2 ^ 64 :=
  pk_lt (put_lt (pk_lt hN _) (by have := h.low_le; omega)) _

theorem test64 (v k : Nat) (hv : v < 2 ^ 64) : (bits .and .u64 ((v : Int) / 2 ^ k) 1 == 1) = v.testBit k := by
  have hd : v / 2 ^ k < 18446744073709551616 := Nat.lt_of_le_of_lt (Nat.div_le_self _ _) hv
  have e : (v : Int) / 2 ^ k = ((v / 2 ^ k : Nat) : Int) := by simp
  rw [e, show (1 : Int) = ((1 : Nat) : Int) from rfl, bits_and_u64_nat _ _ hd (by decide), Nat.and_one_is_mod, Nat.testBit_eq_decide_div_mod_eq]
  rcases Nat.mod_two_eq_zero_or_one (v / 2 ^ k) with h | h <;> rw [h] <;> rfl
end Pl

theorem ArrAt.lt {b N : Nat} {w : World} (h : ArrAt b N w) : b < w.heap.size := World.block_lt_of_cell? w ⟨b, 0, none⟩ h.1

theorem St.grown {w : World} {b N : Nat} {W W1 : World} (h : St w b N W) (hg : Grown W W1) : St w b N W1 := by
  obtain ⟨h1, h2, h3, h4, h5⟩ := h
  exact ⟨grown_trans h1 hg, h2, h3.grown hg h3.lt, h4.grown hg h4.lt, fun j => ⟨(grown_frozen hg _).trans (h5 j).1, (grown_frozen hg _).trans (h5 j).2⟩⟩

theorem St.upd {w : World} {b N M : Nat} {W W1 : World} (h : St w b N W) (hU : Upd b M W W1) : St w b M W1 := by
  obtain ⟨h1, h2, h3, h4, h5⟩ := h
  obtain ⟨u1, u2, u3, u4, u5⟩ := hU
  exact ⟨u2 w h2 h1, h2, u1, ArrAt.of fun j hj => (u4 _ (by simp)).trans (h4.at_ hj), fun j => ⟨(u5 _).trans (h5 j).1, (u5 _).trans (h5 j).2⟩⟩

theorem set40 (N s l v : Nat) (big : Bool) (w : World) (hN : N < 2 ^ 64) (hin : Pl.Inside s l big) (hv : v < 2 ^ 64) :
    Calls Try.prog 40 #[.agg (Pl.arr N), .int .i64 s, .int .i64 l, .bool big, .int .u64 v] w fun e w' => e = .returned (.agg (Pl.arr (Pl.SU N s l big v))) ∧ Grown w w' := by
  have hl := hin.l64
  have h27 := fun (k : Nat) (hk : k < l) W => sset27 (Pl.Sk N s l big v k) (Pl.pl s l k big) (v.testBit k) W (hin.pl_lt hk)
  have h28 : ∀ (k : Nat) (hk : k < l) W, Calls Try.prog 27 #[.agg (Pl.arr (Pl.Sk N s l big v k)), .int .i64 (Pl.pl s l k big : Nat), .bool (bits .and .u64 ((v : Int) / 2 ^ k) 1 == 1)] W fun e w' => e = .returned (.agg (Pl.arr (Pl.Sk N s l big v (k + 1)))) ∧ Grown W w' := by
    intro k hk W
    rw [Pl.test64 v k hv, ← hin.Sk_step hk]
    exact h27 k hk W
  unfold Pl.arr at *
  have H27 := Lib.hid h28
  have hend : Pl.Sk N s l big v l = Pl.SU N s l big v := rfl
  have HE := Lib.hid hend
  have HN := Lib.hid hN
  have HV := Lib.hid hv
  clear h27 h28 hend hN
  go_enter Try.func40, Try.ntmps40
  go_wp2_with fail
  go_loopw [11] (fun i wr => ∃ k : Nat, k ≤ l ∧ i = .int .i64 k ∧ St w w.heap.size (Pl.Sk N s l big v k) wr) (fun i _ => l - (intOf i).toNat)
  case atStart => exact ⟨0, by omega, rfl, by rw [Pl.Sk_zero HN.out]; exact St.start w N 32 32⟩
  case round =>
    obtain ⟨k, hk, rfl, hS⟩ := hrel
    have HS := Lib.hid hS
    by_cases hlt : k < l
    · have hT := hS.2.2.1
      clear hS
      generalize w.heap.size = b at *
      obtain ⟨c0, c1, c2, c3, c4, c5, c6, c7⟩ := hT
      go_wp2_with fail
      go_region_with (first
        | (go_at_call 54; refine (pl54 s l k big _ hin hlt).mono ?_; rintro e w1 ⟨rfl, rfl⟩)
        | (go_at_call 27; refine (H27.out k hlt _).mono ?_; rintro e w1 ⟨rfl, hg⟩; have hS1 := HS.out.grown hg; have HS1 := Lib.hid hS1; obtain ⟨_, _, ⟨d0, d1, d2, d3, d4, d5, d6, d7⟩, _, hf⟩ := hS1; have f0 := (hf 0).1; have f1 := (hf 1).1; have f2 := (hf 2).1; have f3 := (hf 3).1; have f4 := (hf 4).1; have f5 := (hf 5).1; have f6 := (hf 6).1; have f7 := (hf 7).1; clear hf hg))
      all_goals
        refine post_world (St w b (Pl.Sk N s l big v (k + 1))) (HS1.out.upd (Pl.upd_all (hin.Sk_lt HN.out hlt) HS1.out.2.2.1 rfl rfl rfl rfl rfl rfl rfl rfl)) ?_
        intro W2 hS2
        have HS2 := Lib.hid hS2
        clear hS2 HS1
        go_wp2_with fail
        go_roundw
        case rel => exact ⟨k + 1, by omega, by go_num, HS2.out⟩
        case measure => simp [intOf]; omega
    · have hkl : k = l := by omega
      subst hkl
      rw [HE.out] at hS
      have hb := hS.2.1
      obtain ⟨g, _, ⟨a0, a1, a2, a3, a4, a5, a6, a7⟩, ⟨c0, c1, c2, c3, c4, c5, c6, c7⟩, hf⟩ := hS
      have HG := Lib.hid g
      have f0 := (hf 0).2
      have f1 := (hf 1).2
      have f2 := (hf 2).2
      have f3 := (hf 3).2
      have f4 := (hf 4).2
      have f5 := (hf 5).2
      have f6 := (hf 6).2
      have f7 := (hf 7).2
      clear hf g hb HS
      go_wp2_with fail
      exact bodyPost_ret (v := .agg (Pl.arr _)) (by unfold Pl.arr; simp [results, Try.results40, go_sem, *]) rfl ⟨rfl, (((((((HG.out.setCell (by simp) _).setCell (by simp) _).setCell (by simp) _).setCell (by simp) _).setCell (by simp) _).setCell (by simp) _).setCell (by simp) _).setCell (by simp) _⟩

end Go.Proofs.Ytjmlfobljlfngaa
