/- What a frame's struct holds; opening of the argument (the like of seat y1's, by program) -/
import Derived.Test.YtjmoinaikedmlaaDoorPlain
import Derived.WalkKit
import Derived.ProofKit
import Derived.OpenShut
import Derived.Outline
import Derived.Lib.Hide
import Derived.Below
import Derived.Deep.Fields
import Derived.Deep.RegionHeld3
import Derived.WalkLawsBesides
namespace Go.Proofs.YtjmoinaikedmlaaDoor
open Go.ChangeShapes Go.WideShapes Go.ChangeAt Go.RowKit
set_option linter.unusedVariables false

theorem ret_bool {a b : Bool} (h : a = b) : Ending.returned (.bool a) = .returned (.bool b) := by rw [h]
theorem ret_int {k : IntKind} {a b : Int} (h : a = b) : Ending.returned (.int k a) = .returned (.int k b) := by rw [h]

namespace Pl
/-- eight bytes as values -/
def arr (N : Nat) : Array Value := #[.int .u8 (byt N 0 : Nat), .int .u8 (byt N 1 : Nat), .int .u8 (byt N 2 : Nat), .int .u8 (byt N 3 : Nat), .int .u8 (byt N 4 : Nat), .int .u8 (byt N 5 : Nat), .int .u8 (byt N 6 : Nat), .int .u8 (byt N 7 : Nat)]
end Pl

theorem array8 {α : Type} {cs : Array α} (h : cs.size = 8) : ∃ c0 c1 c2 c3 c4 c5 c6 c7, cs = #[c0, c1, c2, c3, c4, c5, c6, c7] := by
  obtain ⟨l⟩ := cs
  match l, h with
  | [c0, c1, c2, c3, c4, c5, c6, c7], _ => exact ⟨c0, c1, c2, c3, c4, c5, c6, c7, rfl⟩
theorem array12 {α : Type} {cs : Array α} (h : cs.size = 12) : ∃ c0 c1 c2 c3 c4 c5 c6 c7 c8 c9 c10 c11, cs = #[c0, c1, c2, c3, c4, c5, c6, c7, c8, c9, c10, c11] := by
  obtain ⟨l⟩ := cs
  match l, h with
  | [c0, c1, c2, c3, c4, c5, c6, c7, c8, c9, c10, c11], _ => exact ⟨c0, c1, c2, c3, c4, c5, c6, c7, c8, c9, c10, c11, rfl⟩
theorem list8 {α : Type} {l : List α} (h : l.length = 8) : ∃ c0 c1 c2 c3 c4 c5 c6 c7, l = [c0, c1, c2, c3, c4, c5, c6, c7] := by
  match l, h with
  | [c0, c1, c2, c3, c4, c5, c6, c7], _ => exact ⟨c0, c1, c2, c3, c4, c5, c6, c7, rfl⟩
theorem list5 {α : Type} {l : List α} (h : l.length = 5) : ∃ c0 c1 c2 c3 c4, l = [c0, c1, c2, c3, c4] := by
  match l, h with
  | [c0, c1, c2, c3, c4], _ => exact ⟨c0, c1, c2, c3, c4, rfl⟩

section
variable {H : Type} {enc : TypeId × Value → H} {P : Program} {w : World} {base : Nat} {spare : Nat → Bool} {held : Bool}

theorem one_u8 {e : TypeId} (he : P.underlying e = some (.int .u8)) {m : Nat} {c : Value} {y : DataW H × List MemPlace} (h : DataW.trod enc P w base spare held m e [c] = some y) :
    ∃ n : Nat, n < 256 ∧ c = .int .u8 n ∧ y.2 = [] := by
  obtain ⟨a, hc, hy, hw⟩ := DataW.trod_int he h
  have hb := bounds_u8 hw
  obtain ⟨n, rfl⟩ := Int.eq_ofNat_of_zero_le hb.1
  simp only [List.cons.injEq, and_true] at hc
  exact ⟨n, by omega, hc, by rw [hy]⟩
theorem one_i64 {e : TypeId} (he : P.underlying e = some (.int .i64)) {m : Nat} {c : Value} {y : DataW H × List MemPlace} (h : DataW.trod enc P w base spare held m e [c] = some y) :
    ∃ n : Int, c = .int .i64 n ∧ (Lit.int .i64 n).wf = true ∧ y.2 = [] := by
  obtain ⟨a, hc, hy, hw⟩ := DataW.trod_int he h
  simp only [List.cons.injEq, and_true] at hc
  exact ⟨a, hc, hw, by rw [hy]⟩
theorem one_bool {e : TypeId} (he : P.underlying e = some .bool) {m : Nat} {c : Value} {y : DataW H × List MemPlace} (h : DataW.trod enc P w base spare held m e [c] = some y) :
    ∃ b : Bool, c = .bool b ∧ y.2 = [] := by
  obtain ⟨b, hc, hy⟩ := DataW.trod_bool he h
  simp only [List.cons.injEq, and_true] at hc
  exact ⟨b, hc, by rw [hy]⟩
theorem bytes_N (x0 x1 x2 x3 x4 x5 x6 x7 : Nat) (h0 : x0 < 256) (h1 : x1 < 256) (h2 : x2 < 256) (h3 : x3 < 256) (h4 : x4 < 256) (h5 : x5 < 256) (h6 : x6 < 256) (h7 : x7 < 256) :
    ∃ N, N < 2 ^ 64 ∧ (#[.int .u8 x0, .int .u8 x1, .int .u8 x2, .int .u8 x3, .int .u8 x4, .int .u8 x5, .int .u8 x6, .int .u8 x7] : Array Value) = Pl.arr N := by
  refine ⟨Pl.pack8 x0 x1 x2 x3 x4 x5 x6 x7, Pl.pack8_lt _ _ _ _ _ _ _ _ h0 h1 h2 h3 h4 h5 h6 h7, ?_⟩
  unfold Pl.arr
  rw [Pl.byt_pack0 _ _ _ _ _ _ _ _ h0, Pl.byt_pack1 _ _ _ _ _ _ _ _ h0 h1, Pl.byt_pack2 _ _ _ _ _ _ _ _ h0 h1 h2, Pl.byt_pack3 _ _ _ _ _ _ _ _ h0 h1 h2 h3, Pl.byt_pack4 _ _ _ _ _ _ _ _ h0 h1 h2 h3 h4,
    Pl.byt_pack5 _ _ _ _ _ _ _ _ h0 h1 h2 h3 h4 h5, Pl.byt_pack6 _ _ _ _ _ _ _ _ h0 h1 h2 h3 h4 h5 h6, Pl.byt_pack7 _ _ _ _ _ _ _ _ h0 h1 h2 h3 h4 h5 h6 h7]

/-- what a frame's struct holds -/
def frCells (id n : Int) (N : Nat) (r x : Bool) : Array Value :=
  #[.int .i64 id, .int .i64 n, .int .u8 (Pl.byt N 0 : Nat), .int .u8 (Pl.byt N 1 : Nat), .int .u8 (Pl.byt N 2 : Nat), .int .u8 (Pl.byt N 3 : Nat), .int .u8 (Pl.byt N 4 : Nat), .int .u8 (Pl.byt N 5 : Nat), .int .u8 (Pl.byt N 6 : Nat), .int .u8 (Pl.byt N 7 : Nat), .bool r, .bool x]

set_option maxRecDepth 100000 in
theorem open_fr {r : Reach} {b0 : Nat} {v : Value} {d : DataW H} {p : List MemPlace} (hv : Value.okWide Tryd.prog w r b0 24 v) (h : DataW.Trod enc Tryd.prog w base spare held 24 v d p) :
    ∃ (id n : Int) (N : Nat) (rm ex : Bool), v = .agg (frCells id n N rm ex) ∧ p = [] ∧ (Lit.int .i64 id).wf = true ∧ (Lit.int .i64 n).wf = true ∧ N < 2 ^ 64 := by
  have k24 : Tryd.prog.cellsOf 24 = 12 := by kernel_rfl
  have k2 : Tryd.prog.cellsOf 2 = 1 := by kernel_rfl
  have k3 : Tryd.prog.cellsOf 3 = 1 := by kernel_rfl
  have k4 : Tryd.prog.cellsOf 4 = 1 := by kernel_rfl
  have k5 : Tryd.prog.cellsOf 5 = 1 := by kernel_rfl
  have k22 : Tryd.prog.cellsOf 22 = 8 := by kernel_rfl
  obtain ⟨cs, rfl, hsz⟩ := okWide_struct Tryd.underlying24 hv
  obtain ⟨c0, c1, c2, c3, c4, c5, c6, c7, c8, c9, c10, c11, rfl⟩ := array12 (hsz.trans k24)
  obtain ⟨fuel, hf⟩ := h
  obtain ⟨xs, m, _, hx, _, hlen, hg⟩ := DataW.trod_struct Tryd.underlying24 hf
  obtain ⟨y0, y1, y2, y3, y4, rfl⟩ := list5 hlen
  simp only [Prod.mk.injEq] at hx
  have g0 := hg 0 _ rfl
  have g1 := hg 1 _ rfl
  have g2 := hg 2 _ rfl
  have g3 := hg 3 _ rfl
  have g4 := hg 4 _ rfl
  simp [k2, k3, k4, k22, Value.cells] at g0 g1 g2 g3 g4
  obtain ⟨id, rfl, w0, e0⟩ := one_i64 Tryd.underlying2 g0
  obtain ⟨n, rfl, w1, e1⟩ := one_i64 Tryd.underlying3 g1
  obtain ⟨rm, rfl, e3⟩ := one_bool Tryd.underlying4 g3
  obtain ⟨ex, rfl, e4⟩ := one_bool Tryd.underlying4 g4
  obtain ⟨zs, m', _, hz, _, hzl, hq⟩ := DataW.trod_array Tryd.underlying22 g2
  obtain ⟨z0, z1, z2, z3, z4, z5, z6, z7, rfl⟩ := list8 hzl
  have q0 := hq 0 (by decide)
  have q1 := hq 1 (by decide)
  have q2 := hq 2 (by decide)
  have q3 := hq 3 (by decide)
  have q4 := hq 4 (by decide)
  have q5 := hq 5 (by decide)
  have q6 := hq 6 (by decide)
  have q7 := hq 7 (by decide)
  simp [k5] at q0 q1 q2 q3 q4 q5 q6 q7
  obtain ⟨n0, bb, rfl, o0⟩ := one_u8 Tryd.underlying5 q0
  obtain ⟨n1, b1, rfl, o1⟩ := one_u8 Tryd.underlying5 q1
  obtain ⟨n2, b2, rfl, o2⟩ := one_u8 Tryd.underlying5 q2
  obtain ⟨n3, b3, rfl, o3⟩ := one_u8 Tryd.underlying5 q3
  obtain ⟨n4, b4, rfl, o4⟩ := one_u8 Tryd.underlying5 q4
  obtain ⟨n5, b5, rfl, o5⟩ := one_u8 Tryd.underlying5 q5
  obtain ⟨n6, b6, rfl, o6⟩ := one_u8 Tryd.underlying5 q6
  obtain ⟨n7, b7, rfl, o7⟩ := one_u8 Tryd.underlying5 q7
  obtain ⟨N, hN, e⟩ := bytes_N n0 n1 n2 n3 n4 n5 n6 n7 bb b1 b2 b3 b4 b5 b6 b7
  simp only [Pl.arr, Array.mk.injEq, List.cons.injEq, and_true] at e
  obtain ⟨i0, i1, i2, i3, i4, i5, i6, i7⟩ := e
  have hzz : y2.2 = [] := by rw [hz]; simp [o0, o1, o2, o3, o4, o5, o6, o7]
  exact ⟨id, n, N, rm, ex, by rw [i0, i1, i2, i3, i4, i5, i6, i7]; rfl, by rw [hx.2]; simp [e0, e1, hzz, e3, e4], w0, w1, hN⟩
end

/-- an argument without places reads behind the call as it did -/
theorem read_again {H : Type} {enc : TypeId × Value → H} {W W' : World} {sp : Nat → Bool} {t : TypeId} {v : Value} {d : DataW H} (hr : Tryd.prog.readableRec t = true) (hrow : t < Tryd.prog.types.size)
    (h : DataW.Trod enc Tryd.prog W 0 (fun _ => true) true t v d []) : DataW.Trod enc Tryd.prog W' 0 sp true t v d [] := by
  have hl : laidOutB Tryd.prog = true := by kernel_rfl
  exact WideElems.Trod_stays hl hr hrow h (fun _ hx => nomatch hx) (fun _ hx => nomatch hx)


end Go.Proofs.YtjmoinaikedmlaaDoor
