/- Contracts: UnmarshalString at frames with bytes -/
import Derived.Test.YtjmoinaikedmlaaDoorO
import Derived.Test.YtjmoinaikedmlaaDoorQ
namespace Go.Proofs.YtjmoinaikedmlaaDoor
open Go.ChangeShapes Go.WideShapes Go.ChangeAt Go.RowKit
set_option linter.unusedVariables false

theorem can_n (ex : Bool) (id n i : Nat) (hi : i < 12) : (if i = 1 then Value.int .u8 n else if i = 0 then Value.int .u32 id else canF 0 0 0 false ex i) = canF id n 0 false ex i := by
  match i, hi with
  | 0, _ => rfl
  | 1, _ => rfl
  | 2, _ => rfl
  | 3, _ => rfl
  | 4, _ => rfl
  | 5, _ => rfl
  | 6, _ => rfl
  | 7, _ => rfl
  | 8, _ => rfl
  | 9, _ => rfl
  | 10, _ => rfl
  | 11, _ => rfl

theorem slice_can_all (a : Addr) (W : World) : (Instr.sliceAt 30 (.pointer (some a)) none none none).run Tryd.prog W = .ok (.slice (some a) 8 8) W := by
  have e8 : Tryd.prog.arrayLen 30 = 8 := by kernel_rfl
  have hu : Tryd.prog.underlying 30 = some (.array (Tryd.prog.arrayLen 30) (Tryd.prog.elem 30)) := by kernel_rfl
  have hz : (sizeOf (Tryd.prog.elem 30)).run Tryd.prog W = .ok 1 W := by kernel_rfl
  rw [run_sliceAt_array_all W 30 a hu, hz, e8]
  rfl

theorem hexB_head (N n : Nat) (h : 0 < n) : ∃ x, (hexB N n)[0]? = some x ∧ (((x.toNat : Nat) : Int) == 82) = false := by
  have hl : 0 < (hexB N n).length := by rw [hexB_length]; omega
  refine ⟨(hexB N n)[0], List.getElem?_eq_getElem hl, ?_⟩
  have := (hexB_mem N n _ (List.getElem_mem hl)).2
  rw [beq_eq_false_iff_ne]
  intro e
  exact this (UInt8.toNat_inj.1 (by show (hexB N n)[0].toNat = 82; omega))

set_option maxRecDepth 100000 in
set_option maxHeartbeats 2000000 in
theorem un9_bytes (id n N : Nat) (ex : Bool) (p : Nat) (c0 : Nat → Value) (w : World) (h1 : id < 16 ^ idD ex) (h0 : 0 < n) (hn : n ≤ 8) (hz : ∀ k, n ≤ k → k < 8 → Pl.byt N k = 0) (ev : Value) (hE : w.cell? ⟨0, 0, none⟩ = some ev) (hp : RowS w p 32 12 c0) :
    Calls Tryd.prog 9 #[.pointer (some ⟨p, 0, none⟩), .string ⟨(textL id n N false ex).toArray⟩] w fun e w' => e = .returned .nilIface ∧ Below p w w' ∧ RowS w' p 32 12 (canF id n N false ex) := by
  have HS := split_text id n N false ex w hn
  obtain ⟨s, e3, z3, l3⟩ := hex_letter id (idD ex)
  rw [e3] at HS
  have HP := Lib.hid fun W => pu15 id (idD ex) s W l3 h1 (by unfold idD; split <;> omega) (by unfold idD; split <;> omega)
  have hmod := id_mod id ex h1
  have hnmod : (n : Int) % 256 = n := by omega
  have hr : (restL n N false) = hexB N n := rfl
  rw [hr] at HS
  obtain ⟨B, hB, zB, lB⟩ : ∃ B : ByteArray, (⟨(hexB N n).toArray⟩ : ByteArray) = B ∧ B.size = 2 * n ∧ B.data.toList = hexB N n := ⟨_, rfl, by rw [sz_list]; exact hexB_length N n, rfl⟩
  rw [hB] at HS
  obtain ⟨x, hx0, hx82⟩ := hexB_head N n h0
  have hidx : ∀ W, (Instr.index 9 (.string B) (.int .i64 0)).run Tryd.prog W = .ok (.int .u8 (x.toNat : Int)) W := fun W => idx_str B 0 x (by rw [lB]; exact hx0) W
  have hcell0 := Lib.hid fun (W : World) (hW : Below w.heap.size w W) => dec17 n N B W ev lB hn ((hW.cell (cell_lt hE)).trans hE)
  have HCP := Lib.hid fun (b8 b9 cap : Nat) (W : World) hr hc => copy9 id n N b8 b9 cap ex W hn hz hr hc
  generalize (⟨(textL id n N false ex).toArray⟩ : ByteArray) = S at *
  have HS := Lib.hid HS
  have HR := Lib.hid hp
  clear l3 e3 hr hp h1 hB lB hE hz hx0
  rcases idD_cases ex with ⟨rfl, hD⟩ | ⟨rfl, hD⟩
  all_goals
    rw [hD] at z3
    clear hD
    go_enter Tryd.func9, Tryd.ntmps9
    go_wp2_with fail
    refine (HS.out).mono ?_
    rintro e w1 ⟨b, cap, rfl, hb0, hb1, hB⟩
    have HB := Lib.hid hB
    clear hB
    go_wp2_with fail
    go_region
    have HB2 := Lib.hid HB.out.drew
    generalize w1.drew = w2 at *
    clear hb0 hb1 HB
    go_wp2_with fail
    refine (HP.out _).mono ?_
    rintro e w3 ⟨rfl, hB3⟩
    obtain ⟨hcn3, hp3, hBp3, hlt, hle, hlt3, hBw3⟩ := un_mid _ HR.out HB2.out hB3
    obtain ⟨d0, d1, d2, d3, d4, d5, d6, d7, d8, d9, d10, d11⟩ := hcn3.can
    have f1 := fun i => hcn3.frozen i
    have hne : p ≠ w2.heap.size := by omega
    have HP3 := Lib.hid hp3
    have HBP := Lib.hid hBp3
    have HBW := Lib.hid hBw3
    have HC3 := Lib.hid hcn3
    generalize w2.heap.size = b8 at *
    clear hcn3 hp3 hBp3 HB2 HP HS HR hB3 hBw3
    go_wp2_with fail
    have hrow : RowS ((w3.setCell ⟨b8, 0, none⟩ (.int .u32 id)).setCell ⟨b8, 1, none⟩ (.int .u8 n)) b8 32 12 (canF id n 0 false _) := ((HC3.out.set 0 _).set 1 _).congr (fun i hi => can_n _ id n i hi)
    have hpw : RowS ((w3.setCell ⟨b8, 0, none⟩ (.int .u32 id)).setCell ⟨b8, 1, none⟩ (.int .u8 n)) p 32 12 c0 := (HP3.out.setOther hne _).setOther hne _
    have hBw : Below p w ((w3.setCell ⟨b8, 0, none⟩ (.int .u32 id)).setCell ⟨b8, 1, none⟩ (.int .u8 n)) := (HBP.out.setCell (Nat.le_of_lt hlt) _).setCell (Nat.le_of_lt hlt) _
    have hBww : Below w.heap.size w ((w3.setCell ⟨b8, 0, none⟩ (.int .u32 id)).setCell ⟨b8, 1, none⟩ (.int .u8 n)) := (HBW.out.setCell hle _).setCell hle _
    refine (hcell0.out _ hBww).mono ?_
    rintro e w4 ⟨cap9, rfl, hk4, hB4⟩
    have hcn4 := Below.row hB4 hrow.lt hrow
    have hp4 := Below.row hB4 hpw.lt hpw
    have hBp4 := hBw.trans (hB4.mono (Nat.le_of_lt hpw.lt))
    clear d0 d1 d2 d3 d4 d5 d6 d7 d8 d9 d10 d11 f1 hrow hpw hBw hBww hB4 HP3 HBP HC3 HBW
    have e9 : ((w3.setCell ⟨b8, 0, none⟩ (.int .u32 id)).setCell ⟨b8, 1, none⟩ (.int .u8 n)).heap.size = w3.heap.size := by simp [World.setCell]
    rw [e9] at hk4
    obtain ⟨w5, hcpy, hcn5, hoth, hbel⟩ := HCP.out b8 w3.heap.size cap9 w4 hcn4 hk4
    have hp5 := hoth p c0 hne hp4
    have hBp5 := hbel p w (Nat.le_of_lt hlt) hBp4
    have hsl := slice_can_all ⟨b8, 2, none⟩ w4
    obtain ⟨d0, d1, d2, d3, d4, d5, d6, d7, d8, d9, d10, d11⟩ := hcn5.can
    obtain ⟨p0, p1, p2, p3, p4, p5, p6, p7, p8, p9, p10, p11⟩ := hp5.twelve
    have f1 := fun i => hcn5.frozen i
    have f2 := fun i => hp5.frozen i
    have HP5 := Lib.hid hp5
    have HBP := Lib.hid hBp5
    clear hcn4 hp4 hBp4 hcell0 HCP hoth hbel hk4 hcn5 hp5 hBp5
    clear e9
    go_wp2_with fail
    go_ret
    exact ⟨rfl, put12 HP5.out HBP.out _ _ _ _ _ _ _ _ _ _ _ _⟩

end Go.Proofs.YtjmoinaikedmlaaDoor
