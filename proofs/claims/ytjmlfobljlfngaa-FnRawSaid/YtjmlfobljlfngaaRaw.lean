/- FnRaw: which numbers a signal has in eight bytes, and that its own one, with a sign or without, is put there. Conditions: none (every input).
   The frame is after proof-skeleton.mjs; the walk is ours. -/
import Derived.Test.YtjmlfobljlfngaaU3
namespace Go.Proofs.Ytjmlfobljlfngaa.fnRaw
open Go.ChangeShapes Go.WideShapes Go.ChangeAt Go.RowKit
set_option linter.unusedVariables false

theorem own : ownKnob Try.prog.godebug = none := by kernel_rfl

theorem walk (s l : Int) (big sg fl : Bool) (f1 f2 f3 f4 : Nat) (ws : (Lit.int .i64 s).wf = true) (wl : (Lit.int .i64 l).wf = true) (wf1 : (Lit.float .f64 f1).wf = true) (wf2 : (Lit.float .f64 f2).wf = true) (wf3 : (Lit.float .f64 f3).wf = true) (wf4 : (Lit.float .f64 f4).wf = true) (N : Nat) (hN : N < 2 ^ 64) (v : Int) (wv : (Lit.int .u64 v).wf = true) (n : Int) (wn : (Lit.int .i64 n).wf = true) (w : World) :
    Calls Try.prog 14 #[.agg (sigCells s l big sg fl f1 f2 f3 f4), .agg (Pl.arr N), .int .u64 v, .int .i64 n] w fun e w' => e = .returned (.bool true) ∧ Grown w w' := by
  have bv := bounds_u64 wv
  obtain ⟨v, rfl⟩ := Int.eq_ofNat_of_zero_le bv.1
  exact walkRaw s l big sg fl f1 f2 f3 f4 N v n w hN (by omega) wn

set_option maxRecDepth 100000 in
theorem lifted (os : Os) (started : os.Started) (H : Type) (enc : TypeId × Value → H) :
    ReturnsInHanded {} Try.checked os 14 .any (Rows.fnRawSpec.pre6 enc Try.prog Try.f14 Rows.fnRawRow.domain false) (Rows.fnRawSpec.post enc Try.prog Try.f14 false true false false) := by
  refine returnsInHanded_of_change (C := Try.checked) own started (by kernel_rfl) Try.func14
    (ChangeSpec.witness6 (enc := enc) (C := Try.checked) false ⟨#[], #[.agg #[.int .i64 0, .int .i64 0, .bool false, .bool false, .bool false, .float .f64 0, .float .f64 0, .float .f64 0, .float .f64 0], .agg #[.int .u8 0, .int .u8 0, .int .u8 0, .int .u8 0, .int .u8 0, .int .u8 0, .int .u8 0, .int .u8 0], .int .u64 0, .int .i64 0], []⟩ 8 (by kernel_rfl) (by kernel_rfl) (by kernel_rfl) (by kernel_rfl)) ?_
  intro W base args ds gs before hval0 hW hcnd _
  have hval : ∀ (j : Nat) t v, Try.f14.params[j]? = some t → args[j]? = some v → Value.okWide Try.prog W .any base t v := hval0
  have hW' := hW
  obtain ⟨p, q, hA0, hV, rfl, hfz, hnd⟩ := hW
  have hA : DataW.TrodAll enc Try.prog W 0 (fun _ => true) true Try.f14.params.toList args.toList ds p := hA0
  rw [Try.params14] at hA hval
  obtain ⟨v0, vs0, d0, ds0, p0, q0, hargs, rfl, rfl, h0, r0⟩ := trodAll_cons hA
  obtain ⟨v1, vs1, d1, ds1, p1, q1, rfl, rfl, rfl, h1, r1⟩ := trodAll_cons r0
  obtain ⟨v2, vs2, d2, ds2, p2, q2, rfl, rfl, rfl, h2, r2⟩ := trodAll_cons r1
  obtain ⟨v3, vs3, d3, ds3, p3, q3, rfl, rfl, rfl, h3, r3⟩ := trodAll_cons r2
  obtain ⟨rfl, rfl, rfl⟩ := trodAll_nil r3
  obtain rfl : args = #[v0, v1, v2, v3] := by cases args; simp_all
  obtain ⟨rfl, rfl⟩ := trodVars_none hV
  have hk0 := h0
  have hk1 := h1
  obtain ⟨s, l, big, sg, fl, f1, f2, f3, f4, rfl, rfl, ws, wl, wf1, wf2, wf3, wf4⟩ := open_sig (hval 0 26 v0 rfl rfl) h0
  obtain ⟨N, hN, rfl, rfl⟩ := open_arr8 Try.underlying32 Try.underlying5 (by kernel_rfl) (by kernel_rfl) (hval 1 32 v1 rfl rfl) h1
  obtain ⟨v, rfl, rfl, rfl, wv⟩ := open_int Try.underlying22 (hval 2 22 v2 rfl rfl) h2
  obtain ⟨n, rfl, rfl, rfl, wn⟩ := open_int Try.underlying2 (hval 3 2 v3 rfl rfl) h3
  clear hA0 hval0
  simp only [List.append_nil] at hW'
  refine (walk s l big sg fl f1 f2 f3 f4 ws wl wf1 wf2 wf3 wf4 N hN v wv n wn W).mono fun e W' ⟨he, hg⟩ => ?_
  subst he
  exact ⟨_, rfl, post_of_same (pa := []) (pv := []) hW' (fun _ _ _ => (trodAll_cons_mk (shut_bool Try.underlying4 _) trodAll_mk0)) (fun sp _ => (trodAll_cons_mk (read_again (by kernel_rfl) (of_decide_eq_true (by kernel_rfl)) hk0) (trodAll_cons_mk (read_again (by kernel_rfl) (of_decide_eq_true (by kernel_rfl)) hk1) (trodAll_cons_mk (shut_int Try.underlying22 wv) (trodAll_cons_mk (shut_int Try.underlying2 wn) trodAll_mk0))))) (fun _ _ => rfl) rfl
    (hg.frame _) hg.2.1 (ok_one (by kernel_rfl) rfl (okWide_bool_mk Try.underlying4 _))⟩

theorem over : Rows.fnRawRow.holds Try.pinned (OpenSpec.ofChange Rows.fnRawSpec) :=
  OpenClaim.holds_of_wide 14 Try.f14 rfl rfl rfl rfl rfl rfl rfl ⟨rfl, rfl, rfl, rfl, rfl⟩ rfl rfl rfl rfl rfl (by kernel_rfl) Try.func14 (by kernel_rfl)
    (of_decide_eq_true (by kernel_rfl)) (by unfold Func.isWrapper; first | (rw [if_pos (by decide +kernel)]; kernel_rfl) | (rw [if_neg (by decide +kernel)]; exact ⟨rfl, rfl⟩))
    (fun os started H enc _ => lifted os started H enc)

theorem proved : Rows.FnRawSaid :=
  over
#print axioms proved
end Go.Proofs.Ytjmlfobljlfngaa.fnRaw
