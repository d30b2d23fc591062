/- FnPhysicalBack: what a number of a signal stands for stands for this number. Conditions: none (every input).
   The frame is after proof-skeleton.mjs; the walk is ours. -/
import Derived.Test.YtfffcmjpkpdmlaaM7
namespace Go.Proofs.Ytfffcmjpkpdmlaa.fnPhysicalBack
open Go.ChangeShapes Go.WideShapes Go.ChangeAt Go.RowKit
set_option linter.unusedVariables false

theorem own : ownKnob Try.prog.godebug = none := by kernel_rfl

theorem walk (s l : Int) (big sg fl : Bool) (f1 f2 f3 f4 : Nat) (ws : (Lit.int .i64 s).wf = true) (wl : (Lit.int .i64 l).wf = true) (wf1 : (Lit.float .f64 f1).wf = true) (wf2 : (Lit.float .f64 f2).wf = true) (wf3 : (Lit.float .f64 f3).wf = true) (wf4 : (Lit.float .f64 f4).wf = true) (p : Int) (wp : (Lit.int .i64 p).wf = true) (off : Int) (woff : (Lit.int .i64 off).wf = true) (v : Int) (wv : (Lit.int .i64 v).wf = true) (w : World) :
    Calls Try.prog 4 #[.agg (sigCells s l big sg fl f1 f2 f3 f4), .int .i64 p, .int .i64 off, .int .i64 v] w fun e w' => e = .returned (.bool true) ∧ Grown w w' := by
  exact walkBack s l big sg fl f1 f2 f3 f4 p off v w wv

set_option maxRecDepth 100000 in
theorem lifted (os : Os) (started : os.Started) (H : Type) (enc : TypeId × Value → H) :
    ReturnsInHanded {} Try.checked os 4 .any (Rows.fnPhysicalBackSpec.pre6 enc Try.prog Try.f4 Rows.fnPhysicalBackRow.domain false) (Rows.fnPhysicalBackSpec.post enc Try.prog Try.f4 false true false false) := by
  refine returnsInHanded_of_change (C := Try.checked) own started (by kernel_rfl) Try.func4
    (ChangeSpec.witness6 (enc := enc) (C := Try.checked) false ⟨#[], #[.agg #[.int .i64 0, .int .i64 0, .bool false, .bool false, .bool false, .float .f64 0, .float .f64 0, .float .f64 0, .float .f64 0], .int .i64 0, .int .i64 0, .int .i64 0], []⟩ 8 (by kernel_rfl) (by kernel_rfl) (by kernel_rfl) (by kernel_rfl)) ?_
  intro W base args ds gs before hval0 hW hcnd _
  have hval : ∀ (j : Nat) t v, Try.f4.params[j]? = some t → args[j]? = some v → Value.okWide Try.prog W .any base t v := hval0
  have hW' := hW
  obtain ⟨p, q, hA0, hV, rfl, hfz, hnd⟩ := hW
  have hA : DataW.TrodAll enc Try.prog W 0 (fun _ => true) true Try.f4.params.toList args.toList ds p := hA0
  rw [Try.params4] at hA hval
  obtain ⟨v0, vs0, d0, ds0, p0, q0, hargs, rfl, rfl, h0, r0⟩ := trodAll_cons hA
  obtain ⟨v1, vs1, d1, ds1, p1, q1, rfl, rfl, rfl, h1, r1⟩ := trodAll_cons r0
  obtain ⟨v2, vs2, d2, ds2, p2, q2, rfl, rfl, rfl, h2, r2⟩ := trodAll_cons r1
  obtain ⟨v3, vs3, d3, ds3, p3, q3, rfl, rfl, rfl, h3, r3⟩ := trodAll_cons r2
  obtain ⟨rfl, rfl, rfl⟩ := trodAll_nil r3
  obtain rfl : args = #[v0, v1, v2, v3] := by cases args; simp_all
  obtain ⟨rfl, rfl⟩ := trodVars_none hV
  have hk0 := h0
  obtain ⟨s, l, big, sg, fl, f1, f2, f3, f4, rfl, rfl, ws, wl, wf1, wf2, wf3, wf4⟩ := open_sig (hval 0 24 v0 rfl rfl) h0
  obtain ⟨p, rfl, rfl, rfl, wp⟩ := open_int Try.underlying3 (hval 1 3 v1 rfl rfl) h1
  obtain ⟨off, rfl, rfl, rfl, woff⟩ := open_int Try.underlying3 (hval 2 3 v2 rfl rfl) h2
  obtain ⟨v, rfl, rfl, rfl, wv⟩ := open_int Try.underlying3 (hval 3 3 v3 rfl rfl) h3
  clear hA0 hval0
  simp only [List.append_nil] at hW'
  refine (walk s l big sg fl f1 f2 f3 f4 ws wl wf1 wf2 wf3 wf4 p wp off woff v wv W).mono fun e W' ⟨he, hg⟩ => ?_
  subst he
  exact ⟨_, rfl, post_of_same (pa := []) (pv := []) hW' (fun _ _ _ => (trodAll_cons_mk (shut_bool Try.underlying4 _) trodAll_mk0)) (fun sp _ => (trodAll_cons_mk (read_again (by kernel_rfl) (of_decide_eq_true (by kernel_rfl)) hk0) (trodAll_cons_mk (shut_int Try.underlying3 wp) (trodAll_cons_mk (shut_int Try.underlying3 woff) (trodAll_cons_mk (shut_int Try.underlying3 wv) trodAll_mk0))))) (fun _ _ => rfl) rfl
    (hg.frame _) hg.2.1 (ok_one (by kernel_rfl) rfl (okWide_bool_mk Try.underlying4 _))⟩

theorem over : Rows.fnPhysicalBackRow.holds Try.pinned (OpenSpec.ofChange Rows.fnPhysicalBackSpec) :=
  OpenClaim.holds_of_wide 4 Try.f4 rfl rfl rfl rfl rfl rfl rfl ⟨rfl, rfl, rfl, rfl, rfl⟩ rfl rfl rfl rfl rfl (by kernel_rfl) Try.func4 (by kernel_rfl)
    (of_decide_eq_true (by kernel_rfl)) (by unfold Func.isWrapper; first | (rw [if_pos (by decide +kernel)]; kernel_rfl) | (rw [if_neg (by decide +kernel)]; exact ⟨rfl, rfl⟩))
    (fun os started H enc _ => lifted os started H enc)

theorem proved : Rows.FnPhysicalBackSaid :=
  over
#print axioms proved
end Go.Proofs.Ytfffcmjpkpdmlaa.fnPhysicalBack
