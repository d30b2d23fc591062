/- Contracts: UnmarshalString -/
import Derived.Test.YtjmoinaikedmlaaDoorM
import Derived.Laws.IdiomCopy
namespace Go.Proofs.YtjmoinaikedmlaaDoor
open Go.ChangeShapes Go.WideShapes Go.ChangeAt Go.RowKit
set_option linter.unusedVariables false

theorem pu15 (U D : Nat) (s : ByteArray) (w : World) (hs : s.data.toList = hexS U D) (hU : U < 16 ^ D) (h1 : 1 ≤ D) (h8 : D ≤ 8) :
    Calls Tryd.prog 15 #[.string s, .int .i64 16, .int .i64 32] w fun e w' => e = .returned (.tuple #[.int .u64 U, .nilIface]) ∧ Below w.heap.size w w' := by
  have H := Lib.hid (pu22 U D s w hs hU h1 h8)
  clear hs hU h1 h8
  go_enter Tryd.func15, Tryd.ntmps15
  go_wp2_with fail
  refine (H.out).mono ?_
  rintro e w' ⟨rfl, hb⟩
  have HB := Lib.hid hb
  clear hb
  go_wp2_with fail
  exact bodyPost_ret (v := .tuple #[.int .u64 U, .nilIface]) (by simp [results, Tryd.results15, go_sem, *]) rfl ⟨rfl, HB.out⟩

/-- what follows the sign # (number 35) -/
def restL (n N : Nat) (rm : Bool) : List UInt8 := if rm then [82] ++ (if 0 < n then [UInt8.ofNat (48 + n)] else []) else hexB N n

theorem textL_rest (id n N : Nat) (rm ex : Bool) : textL id n N rm ex = hexS id (idD ex) ++ 35 :: restL n N rm := by
  unfold textL restL idD
  simp

theorem dig_ne (d : Nat) (h : d < 16) : dig d ≠ 35 ∧ dig d ≠ 82 := by
  rcases cases16 h with rfl | rfl | rfl | rfl | rfl | rfl | rfl | rfl | rfl | rfl | rfl | rfl | rfl | rfl | rfl | rfl <;> decide

theorem hexS_mem (n : Nat) : ∀ k x, x ∈ hexS n k → x ≠ 35 ∧ x ≠ 82 := by
  intro k
  induction k with
  | zero => intro x h; cases h
  | succ k ih =>
    intro x h
    simp only [hexS, List.mem_cons] at h
    rcases h with rfl | h
    · exact dig_ne _ (Nat.mod_lt _ (by decide))
    · exact ih x h

theorem hexB_mem (N : Nat) : ∀ k x, x ∈ hexB N k → x ≠ 35 ∧ x ≠ 82 := by
  intro k
  induction k with
  | zero => intro x h; cases h
  | succ k ih =>
    intro x h
    simp only [hexB, List.mem_append] at h
    rcases h with h | h
    · exact ih x h
    · exact hexS_mem _ _ x h

theorem rest_mem (n N : Nat) (rm : Bool) (hn : n ≤ 8) (x : UInt8) (h : x ∈ restL n N rm) : x ≠ 35 := by
  unfold restL at h
  cases rm
  · exact (hexB_mem N n x (by simpa using h)).1
  · have hc : n = 0 ∨ n = 1 ∨ n = 2 ∨ n = 3 ∨ n = 4 ∨ n = 5 ∨ n = 6 ∨ n = 7 ∨ n = 8 := by omega
    rcases hc with rfl | rfl | rfl | rfl | rfl | rfl | rfl | rfl | rfl
    all_goals
      simp at h
      first
        | (subst h; decide)
        | (rcases h with rfl | rfl <;> decide)

theorem rest_size (n N : Nat) (rm : Bool) (hn : n ≤ 8) : (restL n N rm).length ≤ 16 := by
  unfold restL
  cases rm
  · simp [hexB_length]; omega
  · simp; split <;> simp

/-- zzSplit at a frame's text -/
theorem split_text (id n N : Nat) (rm ex : Bool) (w : World) (hn : n ≤ 8) :
    Calls Tryd.prog 13 #[.string ⟨(textL id n N rm ex).toArray⟩] w fun e w' => ∃ b cap, e = .returned (.slice (some ⟨b, 0, none⟩) 2 cap) ∧
      w'.cell? ⟨b, 0, none⟩ = some (.string ⟨(hexS id (idD ex)).toArray⟩) ∧ w'.cell? ⟨b, 1, none⟩ = some (.string ⟨(restL n N rm).toArray⟩) ∧ Below w.heap.size w w' := by
  refine split13 (hexS id (idD ex)) (restL n N rm) _ w (textL_rest id n N rm ex) (fun x h => (hexS_mem id _ x h).1) (fun x h => rest_mem n N rm hn x h) ?_
  rw [sz_list]
  show (textL id n N rm ex).length ≤ 100
  rw [textL_rest]
  have := rest_size n N rm hn
  simp [hexS_length]
  unfold idD
  split <;> omega

theorem Below.row {w w' : World} {b t n : Nat} {f : Nat → Value} {B : Nat} (h : Below B w w') (hb : b < B) (hr : RowS w b t n f) : RowS w' b t n f := by
  obtain ⟨c, hc, h1, h2⟩ := hr
  exact ⟨c, by rw [h.block b hb, hc], h1, h2⟩

theorem RowS.lt {w : World} {b t n : Nat} {f : Nat → Value} (hr : RowS w b t n f) : b < w.heap.size := by
  obtain ⟨c, hc, _, _⟩ := hr
  exact (Array.getElem?_eq_some_iff.1 hc).1

theorem RowS.twelve {w : World} {b t : Nat} {f : Nat → Value} (h : RowS w b t 12 f) :
    w.cell? ⟨b, 0, none⟩ = some (f 0) ∧ w.cell? ⟨b, 1, none⟩ = some (f 1) ∧ w.cell? ⟨b, 2, none⟩ = some (f 2) ∧ w.cell? ⟨b, 3, none⟩ = some (f 3) ∧ w.cell? ⟨b, 4, none⟩ = some (f 4) ∧ w.cell? ⟨b, 5, none⟩ = some (f 5) ∧
    w.cell? ⟨b, 6, none⟩ = some (f 6) ∧ w.cell? ⟨b, 7, none⟩ = some (f 7) ∧ w.cell? ⟨b, 8, none⟩ = some (f 8) ∧ w.cell? ⟨b, 9, none⟩ = some (f 9) ∧ w.cell? ⟨b, 10, none⟩ = some (f 10) ∧ w.cell? ⟨b, 11, none⟩ = some (f 11) :=
  ⟨h.cell (by omega), h.cell (by omega), h.cell (by omega), h.cell (by omega), h.cell (by omega), h.cell (by omega), h.cell (by omega), h.cell (by omega), h.cell (by omega), h.cell (by omega), h.cell (by omega), h.cell (by omega)⟩

def canF (id n : Int) (N : Nat) (rm ex : Bool) : Nat → Value := fun i => (canCells id n N rm ex).getD i undef

theorem RowS.can {w : World} {b t : Nat} {id n : Int} {N : Nat} {rm ex : Bool} (h : RowS w b t 12 (canF id n N rm ex)) :
    w.cell? ⟨b, 0, none⟩ = some (.int .u32 id) ∧ w.cell? ⟨b, 1, none⟩ = some (.int .u8 n) ∧ w.cell? ⟨b, 2, none⟩ = some (.int .u8 (Pl.byt N 0 : Nat)) ∧ w.cell? ⟨b, 3, none⟩ = some (.int .u8 (Pl.byt N 1 : Nat)) ∧
    w.cell? ⟨b, 4, none⟩ = some (.int .u8 (Pl.byt N 2 : Nat)) ∧ w.cell? ⟨b, 5, none⟩ = some (.int .u8 (Pl.byt N 3 : Nat)) ∧ w.cell? ⟨b, 6, none⟩ = some (.int .u8 (Pl.byt N 4 : Nat)) ∧ w.cell? ⟨b, 7, none⟩ = some (.int .u8 (Pl.byt N 5 : Nat)) ∧
    w.cell? ⟨b, 8, none⟩ = some (.int .u8 (Pl.byt N 6 : Nat)) ∧ w.cell? ⟨b, 9, none⟩ = some (.int .u8 (Pl.byt N 7 : Nat)) ∧ w.cell? ⟨b, 10, none⟩ = some (.bool rm) ∧ w.cell? ⟨b, 11, none⟩ = some (.bool ex) := h.twelve

/-- the new frame's row -/
theorem can_new (w : World) (id n : Int) (N : Nat) (rm ex : Bool) : RowS (w.alloc (.cells (canCells id n N rm ex) 32)) w.heap.size 32 12 (canF id n N rm ex) :=
  RowS.new _ _ _ _ _ (Nat.le_refl 12) (fun i hi => by
    have h : i < (canCells id n N rm ex).size := hi
    rw [Array.getElem?_eq_getElem h]
    simp [canF, Array.getD, h])

theorem RowS.setOther {w : World} {b t n : Nat} {f : Nat → Value} (h : RowS w b t n f) {a : Addr} (ha : b ≠ a.block) (v : Value) : RowS (w.setCell a v) b t n f := by
  obtain ⟨c, hc, h1, h2⟩ := h
  exact ⟨c, by rw [Below.heap_setCell _ _ _ _ ha, hc], h1, h2⟩

/-- twelve cells stored one by one -/
theorem put12 {w V : World} {p t : Nat} {f : Nat → Value} (hr : RowS V p t 12 f) (hB : Below p w V) (v0 v1 v2 v3 v4 v5 v6 v7 v8 v9 v10 v11 : Value) :
    Below p w ((((((((((((V.setCell ⟨p, 0, none⟩ v0).setCell ⟨p, 1, none⟩ v1).setCell ⟨p, 2, none⟩ v2).setCell ⟨p, 3, none⟩ v3).setCell ⟨p, 4, none⟩ v4).setCell ⟨p, 5, none⟩ v5).setCell ⟨p, 6, none⟩ v6).setCell ⟨p, 7, none⟩ v7).setCell ⟨p, 8, none⟩ v8).setCell ⟨p, 9, none⟩ v9).setCell ⟨p, 10, none⟩ v10).setCell ⟨p, 11, none⟩ v11) ∧
    RowS ((((((((((((V.setCell ⟨p, 0, none⟩ v0).setCell ⟨p, 1, none⟩ v1).setCell ⟨p, 2, none⟩ v2).setCell ⟨p, 3, none⟩ v3).setCell ⟨p, 4, none⟩ v4).setCell ⟨p, 5, none⟩ v5).setCell ⟨p, 6, none⟩ v6).setCell ⟨p, 7, none⟩ v7).setCell ⟨p, 8, none⟩ v8).setCell ⟨p, 9, none⟩ v9).setCell ⟨p, 10, none⟩ v10).setCell ⟨p, 11, none⟩ v11) p t 12 (fun i => #[v0, v1, v2, v3, v4, v5, v6, v7, v8, v9, v10, v11].getD i undef) := by
  have hp : p ≤ p := Nat.le_refl _
  refine ⟨((((((((((((hB.setCell hp _).setCell hp _).setCell hp _).setCell hp _).setCell hp _).setCell hp _).setCell hp _).setCell hp _).setCell hp _).setCell hp _).setCell hp _).setCell hp _), ?_⟩
  refine ((((((((((((hr.set 0 v0).set 1 v1).set 2 v2).set 3 v3).set 4 v4).set 5 v5).set 6 v6).set 7 v7).set 8 v8).set 9 v9).set 10 v10).set 11 v11).congr (fun i hi => ?_)
  match i, hi with
  | 0, _ => rfl
  | 1, _ => rfl
  | 2, _ => rfl
  | 3, _ => rfl
  | 4, _ => rfl
  | 5, _ => rfl
  | 6, _ => rfl
  | 7, _ => rfl
  | 8, _ => rfl
  | 9, _ => rfl
  | 10, _ => rfl
  | 11, _ => rfl

theorem idD_cases (ex : Bool) : (ex = false ∧ idD ex = 3) ∨ (ex = true ∧ idD ex = 8) := by
  cases ex
  · exact .inl ⟨rfl, rfl⟩
  · exact .inr ⟨rfl, rfl⟩

/-- what is known behind the number's call -/
theorem un_mid {w w2 w3 : World} {p : Nat} {c0 : Nat → Value} (ex : Bool) (hr : RowS w p 32 12 c0) (h2 : Below w.heap.size w w2) (h3 : Below (w2.alloc (.cells (canCells 0 0 0 false ex) 32)).heap.size (w2.alloc (.cells (canCells 0 0 0 false ex) 32)) w3) :
    RowS w3 w2.heap.size 32 12 (canF 0 0 0 false ex) ∧ RowS w3 p 32 12 c0 ∧ Below p w w3 ∧ p < w2.heap.size ∧ w.heap.size ≤ w2.heap.size ∧ w2.heap.size < w3.heap.size ∧ Below w.heap.size w w3 := by
  have hcn := can_new w2 0 0 0 false ex
  have hpw : RowS (w2.alloc (.cells (canCells 0 0 0 false ex) 32)) p 32 12 c0 := Below.row (h2.alloc h2.size _) hr.lt hr
  have hw := (h2.alloc h2.size (.cells (canCells 0 0 0 false ex) 32))
  exact ⟨Below.row h3 hcn.lt hcn, Below.row h3 hpw.lt hpw, (hw.mono (Nat.le_of_lt hr.lt)).trans (h3.mono (Nat.le_of_lt hpw.lt)), Nat.lt_of_lt_of_le hr.lt h2.size, h2.size, Nat.lt_of_lt_of_le hcn.lt h3.size, hw.trans (h3.mono hw.size)⟩

theorem id_mod (id : Nat) (ex : Bool) (h : id < 16 ^ idD ex) : (id : Int) % 4294967296 = id := by
  have : id < 4294967296 := Nat.lt_of_lt_of_le h (by unfold idD; split <;> decide)
  omega

set_option maxRecDepth 100000 in
set_option maxHeartbeats 2000000 in
theorem un9_empty (id N : Nat) (ex : Bool) (p : Nat) (c0 : Nat → Value) (w : World) (h1 : id < 16 ^ idD ex) (hp : RowS w p 32 12 c0) :
    Calls Tryd.prog 9 #[.pointer (some ⟨p, 0, none⟩), .string ⟨(textL id 0 N false ex).toArray⟩] w fun e w' => e = .returned .nilIface ∧ Below p w w' ∧ RowS w' p 32 12 (canF id 0 0 false ex) := by
  have HS := split_text id 0 N false ex w (by omega)
  obtain ⟨s, e3, z3, l3⟩ := hex_letter id (idD ex)
  rw [e3] at HS
  have HP := Lib.hid fun W => pu15 id (idD ex) s W l3 h1 (by unfold idD; split <;> omega) (by unfold idD; split <;> omega)
  have hmod := id_mod id ex h1
  have hr : (⟨(restL 0 N false).toArray⟩ : ByteArray) = ⟨#[]⟩ := rfl
  rw [hr] at HS
  generalize (⟨(textL id 0 N false ex).toArray⟩ : ByteArray) = S at *
  have HS := Lib.hid HS
  have HR := Lib.hid hp
  clear l3 e3 hr hp h1
  rcases idD_cases ex with ⟨rfl, hD⟩ | ⟨rfl, hD⟩
  all_goals
    rw [hD] at z3
    clear hD
    go_enter Tryd.func9, Tryd.ntmps9
    go_wp2_with fail
    refine (HS.out).mono ?_
    rintro e w1 ⟨b, cap, rfl, hb0, hb1, hB⟩
    have HB := Lib.hid hB
    clear hB
    go_wp2_with fail
    go_region
    have HB2 := Lib.hid HB.out.drew
    generalize w1.drew = w2 at *
    clear hb0 hb1 HB
    go_wp2_with fail
    refine (HP.out _).mono ?_
    rintro e w3 ⟨rfl, hB3⟩
    obtain ⟨hcn3, hp3, hBp3, hlt, -⟩ := un_mid _ HR.out HB2.out hB3
    obtain ⟨d0, d1, d2, d3, d4, d5, d6, d7, d8, d9, d10, d11⟩ := hcn3.can
    obtain ⟨p0, p1, p2, p3, p4, p5, p6, p7, p8, p9, p10, p11⟩ := hp3.twelve
    have f1 := fun i => hcn3.frozen i
    have f2 := fun i => hp3.frozen i
    have hne : p ≠ w2.heap.size := by omega
    have HP3 := Lib.hid hp3
    have HBP := Lib.hid hBp3
    generalize w2.heap.size = b8 at *
    clear hcn3 hp3 hBp3 HB2 HP HS HR hB3
    go_wp2_with fail
    go_ret
    exact ⟨rfl, put12 (HP3.out.setOther hne _) (HBP.out.setCell (Nat.le_of_lt hlt) _) _ _ _ _ _ _ _ _ _ _ _ _⟩

end Go.Proofs.YtjmoinaikedmlaaDoor
