/- Contracts: bits as numbers, of the thin package and of the reference -/
import Derived.Test.YtjmlfobljlfngaaQ
namespace Go.Proofs.Ytjmlfobljlfngaa
open Go.ChangeShapes Go.WideShapes Go.ChangeAt Go.RowKit
set_option linter.unusedVariables false

theorem s67 (b N s l : Nat) (w : World) (hN : N < 2 ^ 64) (h : Pl.Inside s l false) (hA : ArrAt b N w) :
    Calls Try.prog 67 #[.pointer (some ⟨b, 0, none⟩), .int .u8 s, .int .u8 l] w fun e w' => e = .returned (.int .i64 (Pl.sgn (Pl.U N s l false) l)) ∧ w = w' := by
  go_enter Try.func67, Try.ntmps67
  go_wp2_with fail
  refine (u65 b N s l _ hN h hA).mono ?_
  rintro e w' ⟨rfl, rfl⟩
  clear hA
  go_wp2_with fail
  refine (as78 _ l _ h.l h.l64 (Pl.U_lt ..)).mono ?_
  rintro e w' ⟨rfl, rfl⟩
  go_wp2_with fail
  go_ret
  exact ⟨rfl, rfl⟩

theorem s66 (b N s l : Nat) (w : World) (h : Pl.Inside s l true) (hA : ArrAt b N w) :
    Calls Try.prog 66 #[.pointer (some ⟨b, 0, none⟩), .int .u8 s, .int .u8 l] w fun e w' => e = .returned (.int .i64 (Pl.sgn (Pl.U N s l true) l)) ∧ w = w' := by
  go_enter Try.func66, Try.ntmps66
  go_wp2_with fail
  refine (u64 b N s l _ h hA).mono ?_
  rintro e w' ⟨rfl, rfl⟩
  clear hA
  go_wp2_with fail
  refine (as78 _ l _ h.l h.l64 (Pl.U_lt ..)).mono ?_
  rintro e w' ⟨rfl, rfl⟩
  go_wp2_with fail
  go_ret
  exact ⟨rfl, rfl⟩

theorem un34 (N s l : Nat) (big : Bool) (w : World) (hN : N < 2 ^ 64) (h : Pl.Inside s l big) :
    Calls Try.prog 34 #[.agg (Pl.arr N), .int .i64 s, .int .i64 l, .bool big] w fun e w' => e = .returned (.int .u64 (Pl.U N s l big : Nat)) ∧ Grown w w' := by
  have hs := h.s
  have hl := h.l64
  unfold Pl.arr
  cases big
  · go_enter Try.func34, Try.ntmps34
    go_wp2_with fail
    refine (inside55 s l _ hs hl).mono ?_
    rintro e w' ⟨rfl, rfl⟩
    go_wp2_with fail
    refine (u65 _ N s l _ hN h ?_).mono ?_
    · refine ⟨?_, ?_, ?_, ?_, ?_, ?_, ?_, ?_⟩ <;> go_simp
    rintro e w' ⟨rfl, rfl⟩
    go_wp2_with fail
    go_ret
    exact ⟨rfl, ((Grown.refl _).alloc _ _).alloc _ _⟩
  · go_enter Try.func34, Try.ntmps34
    go_wp2_with fail
    refine (inside55 s l _ hs hl).mono ?_
    rintro e w' ⟨rfl, rfl⟩
    go_wp2_with fail
    refine (u64 _ N s l _ h ?_).mono ?_
    · refine ⟨?_, ?_, ?_, ?_, ?_, ?_, ?_, ?_⟩ <;> go_simp
    rintro e w' ⟨rfl, rfl⟩
    go_wp2_with fail
    go_ret
    exact ⟨rfl, ((Grown.refl _).alloc _ _).alloc _ _⟩

theorem si36 (N s l : Nat) (big : Bool) (w : World) (hN : N < 2 ^ 64) (h : Pl.Inside s l big) :
    Calls Try.prog 36 #[.agg (Pl.arr N), .int .i64 s, .int .i64 l, .bool big] w fun e w' => e = .returned (.int .i64 (Pl.sgn (Pl.U N s l big) l)) ∧ Grown w w' := by
  have hs := h.s
  have hl := h.l64
  unfold Pl.arr
  cases big
  · go_enter Try.func36, Try.ntmps36
    go_wp2_with fail
    refine (inside55 s l _ hs hl).mono ?_
    rintro e w' ⟨rfl, rfl⟩
    go_wp2_with fail
    refine (s67 _ N s l _ hN h ?_).mono ?_
    · refine ⟨?_, ?_, ?_, ?_, ?_, ?_, ?_, ?_⟩ <;> go_simp
    rintro e w' ⟨rfl, rfl⟩
    go_wp2_with fail
    go_ret
    exact ⟨rfl, ((Grown.refl _).alloc _ _).alloc _ _⟩
  · go_enter Try.func36, Try.ntmps36
    go_wp2_with fail
    refine (inside55 s l _ hs hl).mono ?_
    rintro e w' ⟨rfl, rfl⟩
    go_wp2_with fail
    refine (s66 _ N s l _ h ?_).mono ?_
    · refine ⟨?_, ?_, ?_, ?_, ?_, ?_, ?_, ?_⟩ <;> go_simp
    rintro e w' ⟨rfl, rfl⟩
    go_wp2_with fail
    go_ret
    exact ⟨rfl, ((Grown.refl _).alloc _ _).alloc _ _⟩

/-- where a bit stands, as a number from 0 on -/
theorem pl54 (s l k : Nat) (big : Bool) (w : World) (h : Pl.Inside s l big) (hk : k < l) :
    Calls Try.prog 54 #[.int .i64 s, .int .i64 l, .int .i64 k, .bool big] w fun e w' => e = .returned (.int .i64 (Pl.pl s l k big : Nat)) ∧ w = w' := by
  rw [← h.plI hk]
  exact place54 s l k big w h.s h.l64 hk

namespace Pl
/-- what the reference has after k bits -/
def Uk (N s l : Nat) (big : Bool) (k : Nat) : Nat := U N s l big % 2 ^ k
theorem Uk_zero (N s l : Nat) (big : Bool) : Uk N s l big 0 = 0 := by unfold Uk; simp [Nat.mod_one]
theorem Uk_end (N s l : Nat) (big : Bool) : Uk N s l big l = U N s l big := Nat.mod_eq_of_lt (U_lt ..)
theorem Inside.bitU {N s l k : Nat} {big : Bool} (h : Inside s l big) (hk : k < l) : (U N s l big).testBit k = N.testBit (pl s l k big) := by
  rw [bit_U, h.bit_pk hk]; simp [hk]
theorem Inside.Uk_off {N s l k : Nat} {big : Bool} (h : Inside s l big) (hk : k < l) (hb : N.testBit (pl s l k big) = false) : Uk N s l big (k + 1) = Uk N s l big k := by
  unfold Uk; rw [mod_succ, h.bitU hk, hb]; simp
theorem Inside.Uk_on {N s l k : Nat} {big : Bool} (h : Inside s l big) (hk : k < l) (hb : N.testBit (pl s l k big) = true) : bits .or .u64 ((Uk N s l big k : Nat) : Int) (IntKind.u64.wrap (2 ^ k)) = ((Uk N s l big (k + 1) : Nat) : Int) := by
  have hl := h.l64
  have h1 : 2 ^ k < 2 ^ 64 := Nat.pow_lt_pow_right (by decide) (by omega)
  have h2 : Uk N s l big k < 2 ^ k := Nat.mod_lt _ (Nat.two_pow_pos _)
  rw [wrap_pow (by omega), bits_or_u64_nat _ _ (by omega) h1]
  unfold Uk
  rw [mod_or, mod_succ, h.bitU hk, hb]; simp
end Pl

theorem ref35 (N s l : Nat) (big : Bool) (w : World) (h : Pl.Inside s l big) :
    Calls Try.prog 35 #[.agg (Pl.arr N), .int .i64 s, .int .i64 l, .bool big] w fun e w' => e = .returned (.int .u64 (Pl.U N s l big : Nat)) ∧ Grown w w' := by
  have hbit := fun (k : Nat) (hk : k < l) W => sbit25 N (Pl.pl s l k big) W (h.pl_lt hk)
  have hn := ArrAt.new w N 32
  unfold Pl.arr at *
  have H25 := Lib.hid hbit
  have HN := Lib.hid hn
  have hl := h.l64
  clear hbit hn
  go_enter Try.func35, Try.ntmps35
  go_wp2_with fail
  go_loopw [9, 10] (fun o i wr => ∃ k : Nat, k ≤ l ∧ i = .int .i64 k ∧ o = .int .u64 ((Pl.Uk N s l big k : Nat) : Int) ∧ Grown w wr ∧ ArrAt w.heap.size N wr ∧ w.heap.size < wr.heap.size) (fun _ i _ => l - (intOf i).toNat)
  case atStart => exact ⟨0, by omega, rfl, by simp [Pl.Uk_zero], (Grown.refl _).alloc _ _, HN.out, by simp⟩
  case round =>
    obtain ⟨k, hk, rfl, rfl, hg, hT, hz⟩ := hrel
    by_cases hlt : k < l
    · have HS := Lib.hid (fun w1 (h : Grown wr w1) => hT.grown h hz)
      have HG := Lib.hid hg
      clear hg
      generalize hbb : w.heap.size = b at *
      obtain ⟨c0, c1, c2, c3, c4, c5, c6, c7⟩ := hT
      cases hb : N.testBit (Pl.pl s l k big)
      · have hq := fun W => H25.out k hlt W
        rw [hb] at hq
        have HQ := Lib.hid hq
        have HB := Lib.hid hb
        clear hb hq
        go_wp2_with fail
        go_region_held3 (fun w' => Grown wr w' ∧ w'.cell? ⟨b, 0, none⟩ = some (.int .u8 (Pl.byt N 0 : Nat)) ∧ w'.cell? ⟨b, 1, none⟩ = some (.int .u8 (Pl.byt N 1 : Nat)) ∧ w'.cell? ⟨b, 2, none⟩ = some (.int .u8 (Pl.byt N 2 : Nat)) ∧ w'.cell? ⟨b, 3, none⟩ = some (.int .u8 (Pl.byt N 3 : Nat)) ∧ w'.cell? ⟨b, 4, none⟩ = some (.int .u8 (Pl.byt N 4 : Nat)) ∧ w'.cell? ⟨b, 5, none⟩ = some (.int .u8 (Pl.byt N 5 : Nat)) ∧ w'.cell? ⟨b, 6, none⟩ = some (.int .u8 (Pl.byt N 6 : Nat)) ∧ w'.cell? ⟨b, 7, none⟩ = some (.int .u8 (Pl.byt N 7 : Nat)))
          (first | exact ⟨(Grown.refl _).drew, HS.out _ (Grown.refl _).drew⟩ | exact keepS HS (by assumption) (And.left (by assumption)))
          (first
            | (go_at_call 54; refine (pl54 s l k big _ h hlt).mono ?_; rintro e w1 ⟨rfl, rfl⟩)
            | (go_at_call 25; refine (HQ.out _).mono ?_; rintro e w1 ⟨rfl, hg⟩))
        rename_i hH
        have HH := Lib.hid hH.1
        clear hH
        go_wp2_with fail
        go_roundw
        case rel => exact ⟨k + 1, by omega, by go_num, by rw [h.Uk_off hlt HB.out], grown_trans HG.out HH.out, HS.out _ HH.out, Nat.lt_of_lt_of_le hz HH.out.2.2⟩
        case measure => simp [intOf]; omega

      · have hq := fun W => H25.out k hlt W
        rw [hb] at hq
        have HQ := Lib.hid hq
        have HB := Lib.hid hb
        clear hb hq
        go_wp2_with fail
        go_region_held3 (fun w' => Grown wr w' ∧ w'.cell? ⟨b, 0, none⟩ = some (.int .u8 (Pl.byt N 0 : Nat)) ∧ w'.cell? ⟨b, 1, none⟩ = some (.int .u8 (Pl.byt N 1 : Nat)) ∧ w'.cell? ⟨b, 2, none⟩ = some (.int .u8 (Pl.byt N 2 : Nat)) ∧ w'.cell? ⟨b, 3, none⟩ = some (.int .u8 (Pl.byt N 3 : Nat)) ∧ w'.cell? ⟨b, 4, none⟩ = some (.int .u8 (Pl.byt N 4 : Nat)) ∧ w'.cell? ⟨b, 5, none⟩ = some (.int .u8 (Pl.byt N 5 : Nat)) ∧ w'.cell? ⟨b, 6, none⟩ = some (.int .u8 (Pl.byt N 6 : Nat)) ∧ w'.cell? ⟨b, 7, none⟩ = some (.int .u8 (Pl.byt N 7 : Nat)))
          (first | exact ⟨(Grown.refl _).drew, HS.out _ (Grown.refl _).drew⟩ | exact keepS HS (by assumption) (And.left (by assumption)))
          (first
            | (go_at_call 54; refine (pl54 s l k big _ h hlt).mono ?_; rintro e w1 ⟨rfl, rfl⟩)
            | (go_at_call 25; refine (HQ.out _).mono ?_; rintro e w1 ⟨rfl, hg⟩))
        rename_i hH
        have HH := Lib.hid hH.1
        clear hH
        go_wp2_with fail
        go_roundw
        case rel => exact ⟨k + 1, by omega, by go_num, by rw [h.Uk_on hlt HB.out], grown_trans HG.out HH.out, HS.out _ HH.out, Nat.lt_of_lt_of_le hz HH.out.2.2⟩
        case measure => simp [intOf]; omega

    · have hkl : k = l := by omega
      subst hkl
      have HG := Lib.hid hg
      go_wp2_with fail
      go_ret
      exact ⟨ret_int (by rw [Pl.Uk_end]), HG.out⟩

namespace Pl
theorem wrap_shl {u x y : Nat} (hu : u < y) (hxy : y * x = 2 ^ 64) (hy : 2 * (y / 2) = y) :
    wrap64 (IntKind.u64.wrap ((u : Int) * (x : Int))) / (x : Int) = if u < y / 2 then (u : Int) else (u : Int) - (y : Int) := by
  generalize hm : y / 2 = m at *
  subst hy
  have hmx : m * x = 2 ^ 63 := by
    have : 2 * (m * x) = 2 ^ 64 := by rw [← Nat.mul_assoc]; exact hxy
    omega
  have hx : 0 < x := by
    rcases Nat.eq_zero_or_pos x with rfl | h
    · simp at hmx
    · exact h
  have hx' : (x : Int) ≠ 0 := by omega
  have hlt : u * x < 2 * m * x := Nat.mul_lt_mul_of_pos_right hu hx
  rw [hxy] at hlt
  have hw : IntKind.u64.wrap ((u : Int) * (x : Int)) = ((u * x : Nat) : Int) := by
    rw [← Int.natCast_mul, IntKind.wrap_u64]; generalize u * x = p at *; omega
  rw [hw]
  split
  · rename_i h
    have h2 : u * x < m * x := Nat.mul_lt_mul_of_pos_right h hx
    rw [hmx] at h2
    rw [show wrap64 ((u * x : Nat) : Int) = ((u * x : Nat) : Int) by unfold wrap64; generalize u * x = p at *; omega, Int.natCast_mul]
    exact Int.mul_ediv_cancel _ hx'
  · rename_i h
    have h2 : m * x ≤ u * x := Nat.mul_le_mul_right x (by omega)
    rw [hmx] at h2
    have hs : ((u : Int) - ((2 * m : Nat) : Int)) * (x : Int) = ((u * x : Nat) : Int) - 2 ^ 64 := by
      rw [Int.sub_mul, ← Int.natCast_mul, ← Int.natCast_mul, hxy]; rfl
    rw [show wrap64 ((u * x : Nat) : Int) = ((u * x : Nat) : Int) - 2 ^ 64 by unfold wrap64; generalize u * x = p at *; omega, ← hs]
    exact Int.mul_ediv_cancel _ hx'
theorem sgn_ref {u l : Nat} (h1 : 1 ≤ l) (hl : l ≤ 64) (hu : u < 2 ^ l) : wrap64 (IntKind.u64.wrap ((u : Int) * 2 ^ (64 - l))) / 2 ^ (64 - l) = sgn u l := by
  have hd := pow_dbl h1
  have e : 2 ^ (l - 1) = 2 ^ l / 2 := by omega
  unfold sgn
  rw [e, pow_cast (64 - l)]
  exact wrap_shl hu (by rw [← Nat.pow_add]; congr 1; omega) (by omega)
end Pl

theorem refs37 (N s l : Nat) (big : Bool) (w : World) (h : Pl.Inside s l big) :
    Calls Try.prog 37 #[.agg (Pl.arr N), .int .i64 s, .int .i64 l, .bool big] w fun e w' => e = .returned (.int .i64 (Pl.sgn (Pl.U N s l big) l)) ∧ Grown w w' := by
  have hs := h.s
  have hl := h.l64
  have h1 := h.l
  have hu := fun W => ref35 N s l big W h
  unfold Pl.arr at *
  have HU := Lib.hid hu
  clear hu
  go_enter Try.func37, Try.ntmps37
  go_wp2_with fail
  refine (HU.out _).mono ?_
  rintro e w1 ⟨rfl, hg⟩
  have HG := Lib.hid hg
  clear hg
  go_wp2_with fail
  go_ret
  exact ⟨ret_int (Pl.sgn_ref h1 hl (Pl.U_lt ..)), grown_trans ((Grown.refl _).alloc _ _) HG.out⟩

end Go.Proofs.Ytjmlfobljlfngaa
