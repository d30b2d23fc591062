/- FnLimits: which are the greatest number of a signal, and the least and the greatest with a sign (of these up to 62 bits). Conditions: none (every input).
   The frame is after proof-skeleton.mjs; the walk is ours. -/
import Derived.Test.YtjmlfobljlfngaaF
namespace Go.Proofs.Ytjmlfobljlfngaa.fnLimits
open Go.ChangeShapes Go.WideShapes Go.ChangeAt Go.RowKit
set_option linter.unusedVariables false

theorem own : ownKnob Try.prog.godebug = none := by kernel_rfl

theorem walk (s l : Int) (big sg fl : Bool) (f1 f2 f3 f4 : Nat) (ws : (Lit.int .i64 s).wf = true) (wl : (Lit.int .i64 l).wf = true) (wf1 : (Lit.float .f64 f1).wf = true) (wf2 : (Lit.float .f64 f2).wf = true) (wf3 : (Lit.float .f64 f3).wf = true) (wf4 : (Lit.float .f64 f4).wf = true) (w : World) :
    Calls Try.prog 4 #[.agg (sigCells s l big sg fl f1 f2 f3 f4)] w fun e w' => e = .returned (.bool true) ∧ Grown w w' := by
  exact walkLimits s l big sg fl f1 f2 f3 f4 w

set_option maxRecDepth 100000 in
theorem lifted (os : Os) (started : os.Started) (H : Type) (enc : TypeId × Value → H) :
    ReturnsInHanded {} Try.checked os 4 .any (Rows.fnLimitsSpec.pre6 enc Try.prog Try.f4 Rows.fnLimitsRow.domain false) (Rows.fnLimitsSpec.post enc Try.prog Try.f4 false true false false) := by
  refine returnsInHanded_of_change (C := Try.checked) own started (by kernel_rfl) Try.func4
    (ChangeSpec.witness6 (enc := enc) (C := Try.checked) false ⟨#[], #[.agg #[.int .i64 0, .int .i64 0, .bool false, .bool false, .bool false, .float .f64 0, .float .f64 0, .float .f64 0, .float .f64 0]], []⟩ 8 (by kernel_rfl) (by kernel_rfl) (by kernel_rfl) (by kernel_rfl)) ?_
  intro W base args ds gs before hval0 hW hcnd _
  have hval : ∀ (j : Nat) t v, Try.f4.params[j]? = some t → args[j]? = some v → Value.okWide Try.prog W .any base t v := hval0
  have hW' := hW
  obtain ⟨p, q, hA0, hV, rfl, hfz, hnd⟩ := hW
  have hA : DataW.TrodAll enc Try.prog W 0 (fun _ => true) true Try.f4.params.toList args.toList ds p := hA0
  rw [Try.params4] at hA hval
  obtain ⟨v0, vs0, d0, ds0, p0, q0, hargs, rfl, rfl, h0, r0⟩ := trodAll_cons hA
  obtain ⟨rfl, rfl, rfl⟩ := trodAll_nil r0
  obtain rfl : args = #[v0] := by cases args; simp_all
  obtain ⟨rfl, rfl⟩ := trodVars_none hV
  have hk0 := h0
  obtain ⟨s, l, big, sg, fl, f1, f2, f3, f4, rfl, rfl, ws, wl, wf1, wf2, wf3, wf4⟩ := open_sig (hval 0 26 v0 rfl rfl) h0
  clear hA0 hval0
  simp only [List.append_nil] at hW'
  refine (walk s l big sg fl f1 f2 f3 f4 ws wl wf1 wf2 wf3 wf4 W).mono fun e W' ⟨he, hg⟩ => ?_
  subst he
  exact ⟨_, rfl, post_of_same (pa := []) (pv := []) hW' (fun _ _ _ => (trodAll_cons_mk (shut_bool Try.underlying4 _) trodAll_mk0)) (fun sp _ => (trodAll_cons_mk (read_again (by kernel_rfl) (of_decide_eq_true (by kernel_rfl)) hk0) trodAll_mk0)) (fun _ _ => rfl) rfl
    (hg.frame _) hg.2.1 (ok_one (by kernel_rfl) rfl (okWide_bool_mk Try.underlying4 _))⟩

theorem over : Rows.fnLimitsRow.holds Try.pinned (OpenSpec.ofChange Rows.fnLimitsSpec) :=
  OpenClaim.holds_of_wide 4 Try.f4 rfl rfl rfl rfl rfl rfl rfl ⟨rfl, rfl, rfl, rfl, rfl⟩ rfl rfl rfl rfl rfl (by kernel_rfl) Try.func4 (by kernel_rfl)
    (of_decide_eq_true (by kernel_rfl)) (by unfold Func.isWrapper; first | (rw [if_pos (by decide +kernel)]; kernel_rfl) | (rw [if_neg (by decide +kernel)]; exact ⟨rfl, rfl⟩))
    (fun os started H enc _ => lifted os started H enc)

theorem proved : Rows.FnLimitsSaid :=
  over
#print axioms proved
end Go.Proofs.Ytjmlfobljlfngaa.fnLimits
