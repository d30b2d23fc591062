/- Contracts: UnmarshalString at frames of bytes -/
import Derived.Test.YtjmoinaikedmlaaDoorN

namespace Go.Proofs.YtjmoinaikedmlaaDoor
open Go.ChangeShapes Go.WideShapes Go.ChangeAt Go.RowKit
set_option linter.unusedVariables false

theorem v_dig (d : Nat) (h : d < 16) : Lib.Hx.v (dig d) = d := by
  rcases cases16 h with rfl | rfl | rfl | rfl | rfl | rfl | rfl | rfl | rfl | rfl | rfl | rfl | rfl | rfl | rfl | rfl <;> rfl

theorem dec_hex (l : List UInt8) : Lib.Hx.decode (l.flatMap fun b => hexS b.toNat 2) = (l, .ok) := by
  induction l with
  | nil => rfl
  | cons b t ih =>
    have hb := b.toNat_lt
    have e : (b :: t).flatMap (fun b => hexS b.toNat 2) = dig (b.toNat / 16 % 16) :: dig (b.toNat % 16) :: t.flatMap (fun b => hexS b.toNat 2) := by
      simp [hexS]
    rw [e, Lib.Hx.decode_two, ih, v_dig _ (Nat.mod_lt _ (by decide)), v_dig _ (Nat.mod_lt _ (by decide)), if_neg (by omega), if_neg (by omega)]
    simp only [Prod.mk.injEq, and_true, List.cons.injEq]
    rw [show b.toNat / 16 % 16 * 16 + b.toNat % 16 = b.toNat by omega]
    simp

theorem hexB_flat (N n : Nat) : hexB N n = (bl N n).flatMap fun b => hexS b.toNat 2 := by
  induction n with
  | zero => rfl
  | succ n ih =>
    rw [bl_succ, List.flatMap_append, ← ih, hexB]
    simp only [List.flatMap_cons, List.flatMap_nil, List.append_nil]
    rw [UInt8.toNat_ofNat', Nat.mod_eq_of_lt (Pl.byt_lt N n)]

/-- DecodeString at a frame's figures -/
theorem dec17 (n N : Nat) (B : ByteArray) (W : World) (ev : Value) (hB : B.data.toList = hexB N n) (hn : n ≤ 8) (hE : W.cell? ⟨0, 0, none⟩ = some ev) :
    Calls Tryd.prog 17 #[.string B] W fun e w' => ∃ cap, e = .returned (.tuple #[.slice (some ⟨W.heap.size, 0, none⟩) n cap, .nilIface]) ∧ (∀ k, k < n → w'.cell? ⟨W.heap.size, k, none⟩ = some (.int .u8 (Pl.byt N k : Nat))) ∧ Below W.heap.size W w' := by
  have hz : B.size = 2 * n := by rw [sz_list, hB, hexB_length]
  have hd : Lib.Hx.decode B.data.toList = (bl N n, .ok) := by rw [hB, hexB_flat, dec_hex]
  refine (Tryd.hex_DecodeString B W ev hE (by omega)).mono ?_
  rintro e w' ⟨rfl, hr, hb⟩
  rw [hd] at hr
  refine ⟨B.size / 2, ?_, fun k hk => ?_, hb⟩
  · rw [hd, bl_length]; rfl
  · rw [hr.cell (by omega)]
    unfold Lib.Hx.rowP
    rw [bl_length, if_pos (by omega), Nat.sub_zero]
    have hk' : k < (bl N n).length := by rw [bl_length]; exact hk
    rw [List.getElem?_eq_getElem hk', Option.getD_some, bl_get]

theorem RowS.setCells {b t n : Nat} : ∀ (vs : List Value) (o : Nat) (w : World) (f : Nat → Value), RowS w b t n f → RowS (w.setCells b o vs) b t n (fun j => if o ≤ j ∧ j < o + vs.length then vs[j - o]?.getD default else f j)
  | [], o, w, f, h => h.congr (fun j _ => by rw [if_neg (by simp)])
  | v :: r, o, w, f, h => by
    have ih := RowS.setCells r (o + 1) _ _ (h.set o v)
    refine ih.congr (fun j _ => ?_)
    by_cases h1 : j = o
    · subst h1
      rw [if_neg (by omega), if_pos rfl, if_pos (by simp), Nat.sub_self]
      rfl
    · by_cases h2 : o + 1 ≤ j ∧ j < o + 1 + r.length
      · rw [if_pos h2, if_pos (by simp; omega), show j - o = (j - (o + 1)) + 1 by omega, List.getElem?_cons_succ]
      · rw [if_neg h2, if_neg h1, if_neg (by simp; omega)]

theorem RowS.setCells_other {b b' t n : Nat} {f : Nat → Value} (hne : b' ≠ b) : ∀ (vs : List Value) (o : Nat) (w : World), RowS w b' t n f → RowS (w.setCells b o vs) b' t n f
  | [], _, _, h => h
  | v :: r, o, w, h => RowS.setCells_other hne r (o + 1) _ (h.setOther (by exact hne) v)

theorem below_setCells {B b : Nat} {a : World} (hb : B ≤ b) : ∀ (vs : List Value) (o : Nat) (w : World), Below B a w → Below B a (w.setCells b o vs)
  | [], _, _, h => h
  | v :: r, o, w, h => below_setCells hb r (o + 1) _ (h.setCell (by exact hb) v)

/-- a copy whose run is known -/
theorem wpList_copy_run {P : Program} {w w' : World} {ops : Array Oper} {rest : List Oper} {o : Oper} {a : Act} {Q : Exit → Act → World → Prop} (hg : o.guard = none) (s x : Operand) (t u : TypeId)
    (hop : o.op = .call { callee := .builtin .copy, args := #[s, x], argTypes := #[t, u] }) {vs vx v' : Value} (hs : a.eval s = vs) (hx : a.eval x = vx)
    (hrun : (Builtin.copy_ #[t, u] o.type #[vs, vx]).run P w = .ok v' w') (hK : wpList P ops Q rest (a.put o.dst v') w') : wpList P ops Q (o :: rest) a w := by
  refine wpList_plain hg fun K hK' => ?_
  unfold Oper.wp
  simp only [execOp, hop, resolve, invoke, builtin, Sem.run_bind, Sem.run_pure, Result.andThen_ok, List.map_toArray, List.map_cons, List.map_nil, hs, hx, hrun]
  exact hK' _ _ hK

/-- the bytes copied into the frame -/
theorem copy9 (id n N b8 b9 cap : Nat) (ex : Bool) (W : World) (hn : n ≤ 8) (hz : ∀ k, n ≤ k → k < 8 → Pl.byt N k = 0) (hr : RowS W b8 32 12 (canF id n 0 false ex)) (hc : ∀ k, k < n → W.cell? ⟨b9, k, none⟩ = some (.int .u8 (Pl.byt N k : Nat))) :
    ∃ W', (Builtin.copy_ #[38, 38] 3 #[.slice (some ⟨b8, 2, none⟩) 8 8, .slice (some ⟨b9, 0, none⟩) n cap]).run Tryd.prog W = .ok (goInt n) W' ∧ RowS W' b8 32 12 (canF id n N false ex) ∧
      (∀ p f, p ≠ b8 → RowS W p 32 12 f → RowS W' p 32 12 f) ∧ (∀ B w, B ≤ b8 → Below B w W → Below B w W') := by
  have hl : ((List.range n).map fun k => Value.int .u8 (Pl.byt N k : Nat)).length = n := by simp
  have hg : ∀ j v, ((List.range n).map fun k => Value.int .u8 (Pl.byt N k : Nat))[j]? = some v → j < n ∧ v = .int .u8 (Pl.byt N j : Nat) := fun j v hj => by
    rw [List.getElem?_map] at hj
    have hjm : j < n := by
      rcases Nat.lt_or_ge j n with h | h
      · exact h
      · rw [List.getElem?_eq_none (by simpa using h)] at hj; cases hj
    rw [List.getElem?_range hjm] at hj
    simp at hj
    exact ⟨hjm, hj.symm⟩
  have h := run_copy_cells (P := Tryd.prog) W 38 38 3 5 b8 2 8 8 ⟨b9, 0, none⟩ n cap ((List.range n).map fun k => .int .u8 (Pl.byt N k : Nat)) Tryd.underlying38 (by kernel_rfl) (by rw [hl]; exact (Nat.min_eq_left hn).symm)
    (fun j v hj => by
      obtain ⟨hjn, rfl⟩ := hg j v hj
      rw [Addr.add_lit, Nat.zero_add]
      exact hc j hjn)
    (fun j hj => by rw [hl] at hj; rw [hr.cell (by omega)]; rfl) (fun j hj => hr.frozen _) (fun v hv => by
      obtain ⟨k, _, rfl⟩ := List.mem_map.1 hv
      rfl)
  rw [hl] at h
  refine ⟨_, h, (RowS.setCells _ 2 W _ hr).congr (fun i hi => ?_), fun p f hp hf => RowS.setCells_other hp _ 2 W hf, fun B w hB hb => below_setCells hB _ 2 W hb⟩
  rw [hl]
  by_cases h2 : 2 ≤ i ∧ i < 2 + n
  · rw [if_pos h2, List.getElem?_map, List.getElem?_range (by omega)]
    have hi8 : i - 2 < 8 := by omega
    obtain ⟨j, rfl⟩ : ∃ j, i = j + 2 := ⟨i - 2, by omega⟩
    rw [show j + 2 - 2 = j by omega]
    rcases Pl.lt8_cases (show j < 8 by omega) with rfl | rfl | rfl | rfl | rfl | rfl | rfl | rfl <;> rfl
  · rw [if_neg h2]
    have z : ∀ k, n ≤ k → k < 8 → ((Pl.byt N k : Nat) : Int) = ((Pl.byt 0 k : Nat) : Int) := fun k h1 h2 => by rw [hz k h1 h2]; simp [Pl.byt]
    match i, hi with
    | 0, _ => rfl
    | 1, _ => rfl
    | 10, _ => rfl
    | 11, _ => rfl
    | 2, _ => show Value.int .u8 _ = Value.int .u8 _; rw [z 0 (by omega) (by omega)]
    | 3, _ => show Value.int .u8 _ = Value.int .u8 _; rw [z 1 (by omega) (by omega)]
    | 4, _ => show Value.int .u8 _ = Value.int .u8 _; rw [z 2 (by omega) (by omega)]
    | 5, _ => show Value.int .u8 _ = Value.int .u8 _; rw [z 3 (by omega) (by omega)]
    | 6, _ => show Value.int .u8 _ = Value.int .u8 _; rw [z 4 (by omega) (by omega)]
    | 7, _ => show Value.int .u8 _ = Value.int .u8 _; rw [z 5 (by omega) (by omega)]
    | 8, _ => show Value.int .u8 _ = Value.int .u8 _; rw [z 6 (by omega) (by omega)]
    | 9, _ => show Value.int .u8 _ = Value.int .u8 _; rw [z 7 (by omega) (by omega)]

end Go.Proofs.YtjmoinaikedmlaaDoor
