/- '==' of eight bytes with themselves -/
import Derived.Test.YtjmlfobljlfngaaJ
import Derived.DeepKeys
namespace Go.Proofs.Ytjmlfobljlfngaa
open Go.ChangeShapes Go.WideShapes Go.ChangeAt Go.RowKit
set_option linter.unusedVariables false

/-- equal to itself, whatever type serves as a key -/
theorem eq_self {P : Program} (t : TypeId) (m : Nat) (hm : m ≤ 10000) (ht : P.keyTypeAt m t = true) (cs : Array Value) (hf : (Value.agg cs).formed P t = true) {D : Nat} {ls : List Lit} (hk : P.keyLits D t cs.toList = some ls) (w : World) :
    (binOp .eql t (.agg cs) (.agg cs)).run P w = .ok (.bool true) w := by
  obtain ⟨r, hr, hi⟩ := run_equalIn_deep (P := P) (10000 - m) m t ht w D D (.agg cs) (.agg cs) ls ls hf hf hk hk
  rw [hi.2 rfl, show 10000 - m + m = 10000 by omega] at hr
  simp only [binOp]
  simp [Op.equal, Op.maxDepth, hr]

theorem lits_arr (N : Nat) : ∃ ls, Try.prog.keyLits 2 32 (Pl.arr N).toList = some ls := by
  have k32 : Try.prog.cellsOf 32 = 8 := by kernel_rfl
  have k5 : Try.prog.cellsOf 5 = 1 := by kernel_rfl
  have hw : ∀ j, (Lit.int .u8 ((Pl.byt N j : Nat) : Int)).wf = true := fun j => by
    have := Pl.byt_lt N j
    simp [Lit.wf, IntKind.min, IntKind.max, IntKind.signed, IntKind.bits]; omega
  have hone : ∀ j, Try.prog.keyLits 1 5 [.int .u8 ((Pl.byt N j : Nat) : Int)] = some [.int .u8 ((Pl.byt N j : Nat) : Int)] := fun j => by
    unfold Program.keyLits; simp [Try.underlying5, hw]
  unfold Program.keyLits Pl.arr
  simp [Try.underlying32, k32, k5, List.range, List.range.loop, hone]

theorem eq_arr (N : Nat) (w : World) : (binOp .eql 32 (.agg (Pl.arr N)) (.agg (Pl.arr N))).run Try.prog w = .ok (.bool true) w := by
  obtain ⟨ls, h⟩ := lits_arr N
  exact eq_self 32 2 (by decide) (by kernel_rfl) _ (by
    have k32 : Try.prog.cellsOf 32 = 8 := by kernel_rfl
    simp [Value.formed, Try.underlying32, k32, Pl.arr]) h w

end Go.Proofs.Ytjmlfobljlfngaa
