/- The walk of the law -/
import Derived.Test.YtjmoinaikedmlaaDoorS
import Derived.DeepKeys
namespace Go.Proofs.YtjmoinaikedmlaaDoor
open Go.ChangeShapes Go.WideShapes Go.ChangeAt Go.RowKit
set_option linter.unusedVariables false

/-- go on with a letter for the world -/
theorem wp_world {P : Program} {c : Code} {Q : Exit → Act → World → Prop} {a : Act} {w : World} (S : World → Prop) (hS : S w) (h : ∀ W, S W → c.wp P Q a W) : c.wp P Q a w := h w hS

/-- equal to itself, whatever type serves as a key -/
theorem eq_self {P : Program} (t : TypeId) (m : Nat) (hm : m ≤ 10000) (ht : P.keyTypeAt m t = true) (cs : Array Value) (hf : (Value.agg cs).formed P t = true) {D : Nat} {ls : List Lit} (hk : P.keyLits D t cs.toList = some ls) (w : World) :
    (binOp .eql t (.agg cs) (.agg cs)).run P w = .ok (.bool true) w := by
  obtain ⟨r, hr, hi⟩ := run_equalIn_deep (P := P) (10000 - m) m t ht w D D (.agg cs) (.agg cs) ls ls hf hf hk hk
  rw [hi.2 rfl, show 10000 - m + m = 10000 by omega] at hr
  simp only [binOp]
  simp [Op.equal, Op.maxDepth, hr]

theorem lits_arr (N : Nat) : ∃ ls, Tryd.prog.keyLits 2 22 (Pl.arr N).toList = some ls := by
  have k32 : Tryd.prog.cellsOf 22 = 8 := by kernel_rfl
  have k5 : Tryd.prog.cellsOf 5 = 1 := by kernel_rfl
  have hw : ∀ j, (Lit.int .u8 ((Pl.byt N j : Nat) : Int)).wf = true := fun j => by
    have := Pl.byt_lt N j
    simp [Lit.wf, IntKind.min, IntKind.max, IntKind.signed, IntKind.bits]; omega
  have hone : ∀ j, Tryd.prog.keyLits 1 5 [.int .u8 ((Pl.byt N j : Nat) : Int)] = some [.int .u8 ((Pl.byt N j : Nat) : Int)] := fun j => by
    unfold Program.keyLits; simp [Tryd.underlying5, hw]
  unfold Program.keyLits Pl.arr
  simp [Tryd.underlying22, k32, k5, List.range, List.range.loop, hone]

theorem lits_fr (id n N : Nat) (rm ex : Bool) (h1 : id < 536870912) (h2 : n ≤ 8) : ∃ ls, Tryd.prog.keyLits 3 24 (frCells id n N rm ex).toList = some ls := by
  obtain ⟨la, hla⟩ := lits_arr N
  have k24 : Tryd.prog.cellsOf 24 = 12 := by kernel_rfl
  have k2 : Tryd.prog.cellsOf 2 = 1 := by kernel_rfl
  have k3 : Tryd.prog.cellsOf 3 = 1 := by kernel_rfl
  have k4 : Tryd.prog.cellsOf 4 = 1 := by kernel_rfl
  have k22 : Tryd.prog.cellsOf 22 = 8 := by kernel_rfl
  have w2 : Tryd.prog.keyLits 2 2 [.int .i64 ((id : Nat) : Int)] = some [.int .i64 ((id : Nat) : Int)] := by
    have hw : (Lit.int .i64 ((id : Nat) : Int)).wf = true := by simp [Lit.wf, IntKind.min, IntKind.max, IntKind.signed, IntKind.bits]; omega
    unfold Program.keyLits; simp [Tryd.underlying2, hw]
  have w3 : Tryd.prog.keyLits 2 3 [.int .i64 ((n : Nat) : Int)] = some [.int .i64 ((n : Nat) : Int)] := by
    have hw : (Lit.int .i64 ((n : Nat) : Int)).wf = true := by simp [Lit.wf, IntKind.min, IntKind.max, IntKind.signed, IntKind.bits]; omega
    unfold Program.keyLits; simp [Tryd.underlying3, hw]
  have w4 : ∀ b : Bool, Tryd.prog.keyLits 2 4 [.bool b] = some [.bool b] := fun b => by
    unfold Program.keyLits; simp [Tryd.underlying4]
  simp only [Pl.arr] at hla
  unfold Program.keyLits frCells
  simp [Tryd.underlying24, k24, k2, k3, k4, k22, w2, w3, w4, hla]

theorem eq_fr (id n N : Nat) (rm ex : Bool) (h1 : id < 536870912) (h2 : n ≤ 8) (w : World) : (binOp .eql 24 (.agg (frCells id n N rm ex)) (.agg (frCells id n N rm ex))).run Tryd.prog w = .ok (.bool true) w := by
  obtain ⟨ls, h⟩ := lits_fr id n N rm ex h1 h2
  exact eq_self 24 3 (by decide) (by kernel_rfl) _ (by
    have k24 : Tryd.prog.cellsOf 24 = 12 := by kernel_rfl
    simp [Value.formed, Tryd.underlying24, k24, frCells]) h w

theorem eq_str (s : ByteArray) (w : World) : (binOp .eql 9 (.string s) (.string s)).run Tryd.prog w = .ok (.bool true) w := by
  go_simp

end Go.Proofs.YtjmoinaikedmlaaDoor
