/- FnSaturated: a number beyond a signal's is told as the nearest one (up to 62 bits). Conditions: none (every input).
   The frame is after proof-skeleton.mjs; the walk is ours. -/
import Derived.Test.YtjmlfobljlfngaaS1
namespace Go.Proofs.Ytjmlfobljlfngaa.fnSaturated
open Go.ChangeShapes Go.WideShapes Go.ChangeAt Go.RowKit
set_option linter.unusedVariables false

theorem own : ownKnob Try.prog.godebug = none := by kernel_rfl

theorem walk (s l : Int) (big sg fl : Bool) (f1 f2 f3 f4 : Nat) (ws : (Lit.int .i64 s).wf = true) (wl : (Lit.int .i64 l).wf = true) (wf1 : (Lit.float .f64 f1).wf = true) (wf2 : (Lit.float .f64 f2).wf = true) (wf3 : (Lit.float .f64 f3).wf = true) (wf4 : (Lit.float .f64 f4).wf = true) (u : Int) (wu : (Lit.int .u64 u).wf = true) (i : Int) (wi : (Lit.int .i64 i).wf = true) (w : World) :
    Calls Try.prog 9 #[.agg (sigCells s l big sg fl f1 f2 f3 f4), .int .u64 u, .int .i64 i] w fun e w' => e = .returned (.bool true) ∧ Grown w w' := by
  have bu := bounds_u64 wu
  obtain ⟨u, rfl⟩ := Int.eq_ofNat_of_zero_le bu.1
  exact walkSat s l big sg fl f1 f2 f3 f4 u i w

set_option maxRecDepth 100000 in
theorem lifted (os : Os) (started : os.Started) (H : Type) (enc : TypeId × Value → H) :
    ReturnsInHanded {} Try.checked os 9 .any (Rows.fnSaturatedSpec.pre6 enc Try.prog Try.f9 Rows.fnSaturatedRow.domain false) (Rows.fnSaturatedSpec.post enc Try.prog Try.f9 false true false false) := by
  refine returnsInHanded_of_change (C := Try.checked) own started (by kernel_rfl) Try.func9
    (ChangeSpec.witness6 (enc := enc) (C := Try.checked) false ⟨#[], #[.agg #[.int .i64 0, .int .i64 0, .bool false, .bool false, .bool false, .float .f64 0, .float .f64 0, .float .f64 0, .float .f64 0], .int .u64 0, .int .i64 0], []⟩ 8 (by kernel_rfl) (by kernel_rfl) (by kernel_rfl) (by kernel_rfl)) ?_
  intro W base args ds gs before hval0 hW hcnd _
  have hval : ∀ (j : Nat) t v, Try.f9.params[j]? = some t → args[j]? = some v → Value.okWide Try.prog W .any base t v := hval0
  have hW' := hW
  obtain ⟨p, q, hA0, hV, rfl, hfz, hnd⟩ := hW
  have hA : DataW.TrodAll enc Try.prog W 0 (fun _ => true) true Try.f9.params.toList args.toList ds p := hA0
  rw [Try.params9] at hA hval
  obtain ⟨v0, vs0, d0, ds0, p0, q0, hargs, rfl, rfl, h0, r0⟩ := trodAll_cons hA
  obtain ⟨v1, vs1, d1, ds1, p1, q1, rfl, rfl, rfl, h1, r1⟩ := trodAll_cons r0
  obtain ⟨v2, vs2, d2, ds2, p2, q2, rfl, rfl, rfl, h2, r2⟩ := trodAll_cons r1
  obtain ⟨rfl, rfl, rfl⟩ := trodAll_nil r2
  obtain rfl : args = #[v0, v1, v2] := by cases args; simp_all
  obtain ⟨rfl, rfl⟩ := trodVars_none hV
  have hk0 := h0
  obtain ⟨s, l, big, sg, fl, f1, f2, f3, f4, rfl, rfl, ws, wl, wf1, wf2, wf3, wf4⟩ := open_sig (hval 0 26 v0 rfl rfl) h0
  obtain ⟨u, rfl, rfl, rfl, wu⟩ := open_int Try.underlying22 (hval 1 22 v1 rfl rfl) h1
  obtain ⟨i, rfl, rfl, rfl, wi⟩ := open_int Try.underlying2 (hval 2 2 v2 rfl rfl) h2
  clear hA0 hval0
  simp only [List.append_nil] at hW'
  refine (walk s l big sg fl f1 f2 f3 f4 ws wl wf1 wf2 wf3 wf4 u wu i wi W).mono fun e W' ⟨he, hg⟩ => ?_
  subst he
  exact ⟨_, rfl, post_of_same (pa := []) (pv := []) hW' (fun _ _ _ => (trodAll_cons_mk (shut_bool Try.underlying4 _) trodAll_mk0)) (fun sp _ => (trodAll_cons_mk (read_again (by kernel_rfl) (of_decide_eq_true (by kernel_rfl)) hk0) (trodAll_cons_mk (shut_int Try.underlying22 wu) (trodAll_cons_mk (shut_int Try.underlying2 wi) trodAll_mk0)))) (fun _ _ => rfl) rfl
    (hg.frame _) hg.2.1 (ok_one (by kernel_rfl) rfl (okWide_bool_mk Try.underlying4 _))⟩

theorem over : Rows.fnSaturatedRow.holds Try.pinned (OpenSpec.ofChange Rows.fnSaturatedSpec) :=
  OpenClaim.holds_of_wide 9 Try.f9 rfl rfl rfl rfl rfl rfl rfl ⟨rfl, rfl, rfl, rfl, rfl⟩ rfl rfl rfl rfl rfl (by kernel_rfl) Try.func9 (by kernel_rfl)
    (of_decide_eq_true (by kernel_rfl)) (by unfold Func.isWrapper; first | (rw [if_pos (by decide +kernel)]; kernel_rfl) | (rw [if_neg (by decide +kernel)]; exact ⟨rfl, rfl⟩))
    (fun os started H enc _ => lifted os started H enc)

theorem proved : Rows.FnSaturatedSaid :=
  over
#print axioms proved
end Go.Proofs.Ytjmlfobljlfngaa.fnSaturated
