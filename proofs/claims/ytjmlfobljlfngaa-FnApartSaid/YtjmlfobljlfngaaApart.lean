/- FnApart: two numbers whose bits stand apart don't change each other. Conditions: none (every input).
   The frame is after proof-skeleton.mjs; the walk is ours. -/
import Derived.Test.YtjmlfobljlfngaaY
namespace Go.Proofs.Ytjmlfobljlfngaa.fnApart
open Go.ChangeShapes Go.WideShapes Go.ChangeAt Go.RowKit
set_option linter.unusedVariables false

theorem own : ownKnob Try.prog.godebug = none := by kernel_rfl

theorem walk (N : Nat) (hN : N < 2 ^ 64) (s1 : Int) (ws1 : (Lit.int .i64 s1).wf = true) (l1 : Int) (wl1 : (Lit.int .i64 l1).wf = true) (big : Bool) (v : Int) (wv : (Lit.int .u64 v).wf = true) (s2 : Int) (ws2 : (Lit.int .i64 s2).wf = true) (l2 : Int) (wl2 : (Lit.int .i64 l2).wf = true) (turned : Bool) (u : Int) (wu : (Lit.int .u64 u).wf = true) (w : World) :
    Calls Try.prog 11 #[.agg (Pl.arr N), .int .i64 s1, .int .i64 l1, .bool big, .int .u64 v, .int .i64 s2, .int .i64 l2, .bool turned, .int .u64 u] w fun e w' => e = .returned (.bool true) ∧ Grown w w' := by
  have bv := bounds_u64 wv
  have bu := bounds_u64 wu
  obtain ⟨v, rfl⟩ := Int.eq_ofNat_of_zero_le bv.1
  obtain ⟨u, rfl⟩ := Int.eq_ofNat_of_zero_le bu.1
  exact walkApart N s1 l1 big v s2 l2 turned u w hN (by omega) (by omega)

set_option maxRecDepth 100000 in
theorem lifted (os : Os) (started : os.Started) (H : Type) (enc : TypeId × Value → H) :
    ReturnsInHanded {} Try.checked os 11 .any (Rows.fnApartSpec.pre6 enc Try.prog Try.f11 Rows.fnApartRow.domain false) (Rows.fnApartSpec.post enc Try.prog Try.f11 false true false false) := by
  refine returnsInHanded_of_change (C := Try.checked) own started (by kernel_rfl) Try.func11
    (ChangeSpec.witness6 (enc := enc) (C := Try.checked) false ⟨#[], #[.agg #[.int .u8 0, .int .u8 0, .int .u8 0, .int .u8 0, .int .u8 0, .int .u8 0, .int .u8 0, .int .u8 0], .int .i64 0, .int .i64 0, .bool false, .int .u64 0, .int .i64 0, .int .i64 0, .bool false, .int .u64 0], []⟩ 8 (by kernel_rfl) (by kernel_rfl) (by kernel_rfl) (by kernel_rfl)) ?_
  intro W base args ds gs before hval0 hW hcnd _
  have hval : ∀ (j : Nat) t v, Try.f11.params[j]? = some t → args[j]? = some v → Value.okWide Try.prog W .any base t v := hval0
  have hW' := hW
  obtain ⟨p, q, hA0, hV, rfl, hfz, hnd⟩ := hW
  have hA : DataW.TrodAll enc Try.prog W 0 (fun _ => true) true Try.f11.params.toList args.toList ds p := hA0
  rw [Try.params11] at hA hval
  obtain ⟨v0, vs0, d0, ds0, p0, q0, hargs, rfl, rfl, h0, r0⟩ := trodAll_cons hA
  obtain ⟨v1, vs1, d1, ds1, p1, q1, rfl, rfl, rfl, h1, r1⟩ := trodAll_cons r0
  obtain ⟨v2, vs2, d2, ds2, p2, q2, rfl, rfl, rfl, h2, r2⟩ := trodAll_cons r1
  obtain ⟨v3, vs3, d3, ds3, p3, q3, rfl, rfl, rfl, h3, r3⟩ := trodAll_cons r2
  obtain ⟨v4, vs4, d4, ds4, p4, q4, rfl, rfl, rfl, h4, r4⟩ := trodAll_cons r3
  obtain ⟨v5, vs5, d5, ds5, p5, q5, rfl, rfl, rfl, h5, r5⟩ := trodAll_cons r4
  obtain ⟨v6, vs6, d6, ds6, p6, q6, rfl, rfl, rfl, h6, r6⟩ := trodAll_cons r5
  obtain ⟨v7, vs7, d7, ds7, p7, q7, rfl, rfl, rfl, h7, r7⟩ := trodAll_cons r6
  obtain ⟨v8, vs8, d8, ds8, p8, q8, rfl, rfl, rfl, h8, r8⟩ := trodAll_cons r7
  obtain ⟨rfl, rfl, rfl⟩ := trodAll_nil r8
  obtain rfl : args = #[v0, v1, v2, v3, v4, v5, v6, v7, v8] := by cases args; simp_all
  obtain ⟨rfl, rfl⟩ := trodVars_none hV
  have hk0 := h0
  obtain ⟨N, hN, rfl, rfl⟩ := open_arr8 Try.underlying32 Try.underlying5 (by kernel_rfl) (by kernel_rfl) (hval 0 32 v0 rfl rfl) h0
  obtain ⟨s1, rfl, rfl, rfl, ws1⟩ := open_int Try.underlying3 (hval 1 3 v1 rfl rfl) h1
  obtain ⟨l1, rfl, rfl, rfl, wl1⟩ := open_int Try.underlying3 (hval 2 3 v2 rfl rfl) h2
  obtain ⟨big, rfl, rfl, rfl⟩ := open_bool Try.underlying4 (hval 3 4 v3 rfl rfl) h3
  obtain ⟨v, rfl, rfl, rfl, wv⟩ := open_int Try.underlying22 (hval 4 22 v4 rfl rfl) h4
  obtain ⟨s2, rfl, rfl, rfl, ws2⟩ := open_int Try.underlying3 (hval 5 3 v5 rfl rfl) h5
  obtain ⟨l2, rfl, rfl, rfl, wl2⟩ := open_int Try.underlying3 (hval 6 3 v6 rfl rfl) h6
  obtain ⟨turned, rfl, rfl, rfl⟩ := open_bool Try.underlying4 (hval 7 4 v7 rfl rfl) h7
  obtain ⟨u, rfl, rfl, rfl, wu⟩ := open_int Try.underlying22 (hval 8 22 v8 rfl rfl) h8
  clear hA0 hval0
  simp only [List.append_nil] at hW'
  refine (walk N hN s1 ws1 l1 wl1 big v wv s2 ws2 l2 wl2 turned u wu W).mono fun e W' ⟨he, hg⟩ => ?_
  subst he
  exact ⟨_, rfl, post_of_same (pa := []) (pv := []) hW' (fun _ _ _ => (trodAll_cons_mk (shut_bool Try.underlying4 _) trodAll_mk0)) (fun sp _ => (trodAll_cons_mk (read_again (by kernel_rfl) (of_decide_eq_true (by kernel_rfl)) hk0) (trodAll_cons_mk (shut_int Try.underlying3 ws1) (trodAll_cons_mk (shut_int Try.underlying3 wl1) (trodAll_cons_mk (shut_bool Try.underlying4 _) (trodAll_cons_mk (shut_int Try.underlying22 wv) (trodAll_cons_mk (shut_int Try.underlying3 ws2) (trodAll_cons_mk (shut_int Try.underlying3 wl2) (trodAll_cons_mk (shut_bool Try.underlying4 _) (trodAll_cons_mk (shut_int Try.underlying22 wu) trodAll_mk0)))))))))) (fun _ _ => rfl) rfl
    (hg.frame _) hg.2.1 (ok_one (by kernel_rfl) rfl (okWide_bool_mk Try.underlying4 _))⟩

theorem over : Rows.fnApartRow.holds Try.pinned (OpenSpec.ofChange Rows.fnApartSpec) :=
  OpenClaim.holds_of_wide 11 Try.f11 rfl rfl rfl rfl rfl rfl rfl ⟨rfl, rfl, rfl, rfl, rfl⟩ rfl rfl rfl rfl rfl (by kernel_rfl) Try.func11 (by kernel_rfl)
    (of_decide_eq_true (by kernel_rfl)) (by unfold Func.isWrapper; first | (rw [if_pos (by decide +kernel)]; kernel_rfl) | (rw [if_neg (by decide +kernel)]; exact ⟨rfl, rfl⟩))
    (fun os started H enc _ => lifted os started H enc)

theorem proved : Rows.FnApartSaid :=
  over
#print axioms proved
end Go.Proofs.Ytjmlfobljlfngaa.fnApart
