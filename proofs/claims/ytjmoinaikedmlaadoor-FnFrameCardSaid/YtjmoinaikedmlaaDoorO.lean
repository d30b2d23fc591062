/- Contracts: UnmarshalString at remote frames -/
import Derived.Test.YtjmoinaikedmlaaDoorN
namespace Go.Proofs.YtjmoinaikedmlaaDoor
open Go.ChangeShapes Go.WideShapes Go.ChangeAt Go.RowKit
set_option linter.unusedVariables false

/-- Atoi at one figure -/
theorem atoi16 (n : Nat) (C : ByteArray) (w : World) (hC : C.data.toList = [UInt8.ofNat (48 + n)]) (hn : n ≤ 8) :
    Calls Tryd.prog 16 #[.string C] w fun e w' => e = .returned (.tuple #[.int .i64 n, .nilIface]) ∧ Below w.heap.size w w' := by
  have ha : Lib.atoi C.data.toList = some (n : Int) := by
    rw [hC]
    have hc : n = 0 ∨ n = 1 ∨ n = 2 ∨ n = 3 ∨ n = 4 ∨ n = 5 ∨ n = 6 ∨ n = 7 ∨ n = 8 := by omega
    rcases hc with rfl | rfl | rfl | rfl | rfl | rfl | rfl | rfl | rfl <;> rfl
  refine (Tryd.strconv_Atoi C n (by rw [sz_list, hC]; simp) ha w).mono ?_
  rintro e w' ⟨rfl, t, rfl⟩
  exact ⟨rfl, below_bytes w t⟩

theorem can_two (ex : Bool) (id i : Nat) (hi : i < 12) : (if i = 10 then Value.bool true else if i = 0 then Value.int .u32 id else canF 0 0 0 false ex i) = canF id 0 0 true ex i := by
  match i, hi with
  | 0, _ => rfl
  | 1, _ => rfl
  | 2, _ => rfl
  | 3, _ => rfl
  | 4, _ => rfl
  | 5, _ => rfl
  | 6, _ => rfl
  | 7, _ => rfl
  | 8, _ => rfl
  | 9, _ => rfl
  | 10, _ => rfl
  | 11, _ => rfl

set_option maxRecDepth 100000 in
set_option maxHeartbeats 2000000 in
theorem un9_rm0 (id N : Nat) (ex : Bool) (p : Nat) (c0 : Nat → Value) (w : World) (h1 : id < 16 ^ idD ex) (hp : RowS w p 32 12 c0) :
    Calls Tryd.prog 9 #[.pointer (some ⟨p, 0, none⟩), .string ⟨(textL id 0 N true ex).toArray⟩] w fun e w' => e = .returned .nilIface ∧ Below p w w' ∧ RowS w' p 32 12 (canF id 0 0 true ex) := by
  have HS := split_text id 0 N true ex w (by omega)
  obtain ⟨s, e3, z3, l3⟩ := hex_letter id (idD ex)
  rw [e3] at HS
  have HP := Lib.hid fun W => pu15 id (idD ex) s W l3 h1 (by unfold idD; split <;> omega) (by unfold idD; split <;> omega)
  have hmod := id_mod id ex h1
  have hr : (⟨(restL 0 N true).toArray⟩ : ByteArray) = ⟨#[82]⟩ := rfl
  rw [hr] at HS
  generalize (⟨(textL id 0 N true ex).toArray⟩ : ByteArray) = S at *
  have HS := Lib.hid HS
  have HR := Lib.hid hp
  clear l3 e3 hr hp h1
  rcases idD_cases ex with ⟨rfl, hD⟩ | ⟨rfl, hD⟩
  all_goals
    rw [hD] at z3
    clear hD
    go_enter Tryd.func9, Tryd.ntmps9
    go_wp2_with fail
    refine (HS.out).mono ?_
    rintro e w1 ⟨b, cap, rfl, hb0, hb1, hB⟩
    have HB := Lib.hid hB
    clear hB
    go_wp2_with fail
    go_region
    have HB2 := Lib.hid HB.out.drew
    generalize w1.drew = w2 at *
    clear hb0 hb1 HB
    go_wp2_with fail
    refine (HP.out _).mono ?_
    rintro e w3 ⟨rfl, hB3⟩
    obtain ⟨hcn3, hp3, hBp3, hlt, -⟩ := un_mid _ HR.out HB2.out hB3
    obtain ⟨d0, d1, d2, d3, d4, d5, d6, d7, d8, d9, d10, d11⟩ := hcn3.can
    obtain ⟨p0, p1, p2, p3, p4, p5, p6, p7, p8, p9, p10, p11⟩ := hp3.twelve
    have f1 := fun i => hcn3.frozen i
    have f2 := fun i => hp3.frozen i
    have hne : p ≠ w2.heap.size := by omega
    have HP3 := Lib.hid hp3
    have HBP := Lib.hid hBp3
    generalize w2.heap.size = b8 at *
    clear hcn3 hp3 hBp3 HB2 HP HS HR hB3
    go_wp2_with fail
    go_ret
    exact ⟨rfl, put12 ((HP3.out.setOther hne _).setOther hne _) ((HBP.out.setCell (Nat.le_of_lt hlt) _).setCell (Nat.le_of_lt hlt) _) _ _ _ _ _ _ _ _ _ _ _ _⟩

set_option maxRecDepth 100000 in
set_option maxHeartbeats 2000000 in
theorem un9_rmn (id n N : Nat) (ex : Bool) (p : Nat) (c0 : Nat → Value) (w : World) (h1 : id < 16 ^ idD ex) (h0 : 0 < n) (hn : n ≤ 8) (hp : RowS w p 32 12 c0) :
    Calls Tryd.prog 9 #[.pointer (some ⟨p, 0, none⟩), .string ⟨(textL id n N true ex).toArray⟩] w fun e w' => e = .returned .nilIface ∧ Below p w w' ∧ RowS w' p 32 12 (canF id n 0 true ex) := by
  have HS := split_text id n N true ex w hn
  obtain ⟨s, e3, z3, l3⟩ := hex_letter id (idD ex)
  rw [e3] at HS
  have HP := Lib.hid fun W => pu15 id (idD ex) s W l3 h1 (by unfold idD; split <;> omega) (by unfold idD; split <;> omega)
  have hmod := id_mod id ex h1
  have hnmod : (n : Int) % 256 = n := by omega
  have hr : (restL n N true) = [82, UInt8.ofNat (48 + n)] := by simp [restL, h0]
  rw [hr] at HS
  obtain ⟨B, hB, zB, lB⟩ : ∃ B : ByteArray, (⟨[82, UInt8.ofNat (48 + n)].toArray⟩ : ByteArray) = B ∧ B.size = 2 ∧ B.data.toList = [82, UInt8.ofNat (48 + n)] := ⟨_, rfl, rfl, rfl⟩
  rw [hB] at HS
  obtain ⟨C, hC, zC, lC⟩ : ∃ C : ByteArray, (⟨#[UInt8.ofNat (48 + n)]⟩ : ByteArray) = C ∧ C.size = 1 ∧ C.data.toList = [UInt8.ofNat (48 + n)] := ⟨_, rfl, rfl, rfl⟩
  have hidx : ∀ W, (Instr.index 9 (.string B) (.int .i64 0)).run Tryd.prog W = .ok (.int .u8 82) W := fun W => idx_str B 0 82 (by rw [lB]; rfl) W
  have hcut : ∀ W, (Instr.slice 9 (.string B) (some (.int .i64 1)) (some (.int .i64 2)) none).run Tryd.prog W = .ok (.string C) W := fun W => by
    rw [← hC]
    exact cut_str B 1 _ (by rw [lB]; rfl) W
  have HA := Lib.hid fun W => atoi16 n C W lC hn
  generalize (⟨(textL id n N true ex).toArray⟩ : ByteArray) = S at *
  have HS := Lib.hid HS
  have HR := Lib.hid hp
  clear l3 e3 hr hp h1 hB lB hC lC h0 zC
  rcases idD_cases ex with ⟨rfl, hD⟩ | ⟨rfl, hD⟩
  all_goals
    rw [hD] at z3
    clear hD
    go_enter Tryd.func9, Tryd.ntmps9
    go_wp2_with fail
    refine (HS.out).mono ?_
    rintro e w1 ⟨b, cap, rfl, hb0, hb1, hB⟩
    have HB := Lib.hid hB
    clear hB
    go_wp2_with fail
    go_region
    have HB2 := Lib.hid HB.out.drew
    generalize w1.drew = w2 at *
    clear hb0 hb1 HB
    go_wp2_with fail
    refine (HP.out _).mono ?_
    rintro e w3 ⟨rfl, hB3⟩
    obtain ⟨hcn3, hp3, hBp3, hlt, -⟩ := un_mid _ HR.out HB2.out hB3
    obtain ⟨d0, d1, d2, d3, d4, d5, d6, d7, d8, d9, d10, d11⟩ := hcn3.can
    have f1 := fun i => hcn3.frozen i
    have hne : p ≠ w2.heap.size := by omega
    have HP3 := Lib.hid hp3
    have HBP := Lib.hid hBp3
    have HC3 := Lib.hid hcn3
    generalize w2.heap.size = b8 at *
    clear hcn3 hp3 hBp3 HB2 HP HS HR hB3
    go_wp2_with fail
    have hrow : RowS ((w3.setCell ⟨b8, 0, none⟩ (.int .u32 id)).setCell ⟨b8, 10, none⟩ (.bool true)) b8 32 12 (canF id 0 0 true _) := ((HC3.out.set 0 _).set 10 _).congr (fun i hi => can_two _ id i hi)
    have hpw : RowS ((w3.setCell ⟨b8, 0, none⟩ (.int .u32 id)).setCell ⟨b8, 10, none⟩ (.bool true)) p 32 12 c0 := (HP3.out.setOther hne _).setOther hne _
    have hBw : Below p w ((w3.setCell ⟨b8, 0, none⟩ (.int .u32 id)).setCell ⟨b8, 10, none⟩ (.bool true)) := (HBP.out.setCell (Nat.le_of_lt hlt) _).setCell (Nat.le_of_lt hlt) _
    refine (HA.out _).mono ?_
    rintro e w4 ⟨rfl, hB4⟩
    have hcn4 := Below.row hB4 hrow.lt hrow
    have hp4 := Below.row hB4 hpw.lt hpw
    have hBp4 := hBw.trans (hB4.mono (Nat.le_of_lt hpw.lt))
    clear d0 d1 d2 d3 d4 d5 d6 d7 d8 d9 d10 d11 f1 hrow hpw hBw hB4 HP3 HBP HC3
    obtain ⟨d0, d1, d2, d3, d4, d5, d6, d7, d8, d9, d10, d11⟩ := hcn4.can
    obtain ⟨p0, p1, p2, p3, p4, p5, p6, p7, p8, p9, p10, p11⟩ := hp4.twelve
    have f1 := fun i => hcn4.frozen i
    have f2 := fun i => hp4.frozen i
    have HP4 := Lib.hid hp4
    have HBP := Lib.hid hBp4
    clear hcn4 hp4 hBp4 HA
    go_wp2_with fail
    go_ret
    exact ⟨rfl, put12 (HP4.out.setOther hne _) (HBP.out.setCell (Nat.le_of_lt hlt) _) _ _ _ _ _ _ _ _ _ _ _ _⟩

end Go.Proofs.YtjmoinaikedmlaaDoor
