/- Contracts: Frame.String -/
import Derived.Test.YtjmoinaikedmlaaDoorI
import Derived.Test.YtjmoinaikedmlaaDoorShelf
namespace Go.Proofs.YtjmoinaikedmlaaDoor
open Go.ChangeShapes Go.WideShapes Go.ChangeAt Go.RowKit
set_option linter.unusedVariables false

/-- the first n bytes -/
def bl (N n : Nat) : List UInt8 := (List.range n).map fun k => UInt8.ofNat (Pl.byt N k)
theorem bl_length (N n : Nat) : (bl N n).length = n := by simp [bl]
theorem bl_succ (N n : Nat) : bl N (n + 1) = bl N n ++ [UInt8.ofNat (Pl.byt N n)] := by simp [bl, List.range_succ]
theorem bl_get (N n k : Nat) (h : k < (bl N n).length) : (((bl N n)[k]'h).toNat : Int) = (Pl.byt N k : Nat) := by
  have : (bl N n)[k]'h = UInt8.ofNat (Pl.byt N k) := by simp [bl]
  rw [this, UInt8.toNat_ofNat', Nat.mod_eq_of_lt (Pl.byt_lt N k)]

theorem up_digit (d : Nat) (h : d < 16) : Lib.upperB (Lib.Hx.digit d) = dig d ∧ (Lib.Hx.digit d).toNat < 128 := by
  rcases cases16 h with rfl | rfl | rfl | rfl | rfl | rfl | rfl | rfl | rfl | rfl | rfl | rfl | rfl | rfl | rfl | rfl <;> decide

theorem up_byte (b : Nat) (h : b < 256) : Lib.toUpperA (Lib.Hx.encode [UInt8.ofNat b]) = hexS b 2 := by
  have e : (UInt8.ofNat b).toNat = b := by rw [UInt8.toNat_ofNat', Nat.mod_eq_of_lt h]
  simp only [Lib.Hx.encode, List.flatMap_cons, List.flatMap_nil, List.append_nil, e, Lib.toUpperA, List.map_cons, List.map_nil]
  rw [(up_digit (b / 16) (by omega)).1, (up_digit (b % 16) (by omega)).1]
  simp [hexS]
  congr 1
  omega

theorem up_enc (N n : Nat) : Lib.toUpperA (Lib.Hx.encode (bl N n)) = hexB N n := by
  induction n with
  | zero => rfl
  | succ n ih =>
    rw [bl_succ]
    have e : Lib.Hx.encode (bl N n ++ [UInt8.ofNat (Pl.byt N n)]) = Lib.Hx.encode (bl N n) ++ Lib.Hx.encode [UInt8.ofNat (Pl.byt N n)] := by
      simp [Lib.Hx.encode]
    rw [e, hexB, ← ih, ← up_byte _ (Pl.byt_lt N n)]
    simp [Lib.toUpperA]

theorem enc_ascii (l : List UInt8) (b : UInt8) (h : b ∈ Lib.Hx.encode l) : b.toNat < 128 := by
  unfold Lib.Hx.encode at h
  rw [List.mem_flatMap] at h
  obtain ⟨a, _, ha⟩ := h
  have := a.toNat_lt
  simp only [List.mem_cons, List.not_mem_nil, or_false] at ha
  rcases ha with rfl | rfl
  · exact (up_digit _ (by omega)).2
  · exact (up_digit _ (by omega)).2

theorem slice_can (a : Addr) (n : Nat) (W : World) (hn : n ≤ 8) : (Instr.sliceAt 30 (.pointer (some a)) none (some (.int .u8 (n : Int))) none).run Tryd.prog W = .ok (.slice (some a) n 8) W := by
  have e8 : Tryd.prog.arrayLen 30 = 8 := by kernel_rfl
  have hu : Tryd.prog.underlying 30 = some (.array (Tryd.prog.arrayLen 30) (Tryd.prog.elem 30)) := by kernel_rfl
  have hz : (sizeOf (Tryd.prog.elem 30)).run Tryd.prog W = .ok 1 W := by kernel_rfl
  rw [run_sliceAt_array_h W 30 a hu .u8 n (by omega) (by rw [e8]; omega), hz, e8]
  show Result.ok (slicedAt a 0 (n : Int).toNat 8 1) W = _
  unfold slicedAt
  rw [if_neg (by decide)]
  rfl

theorem enc_letter (N n : Nat) (W : World) (b : Nat) (hn : n ≤ 8) (hc : ∀ k, k < n → W.cell? ⟨b, 2 + k, none⟩ = some (.int .u8 (Pl.byt N k : Nat))) (hb : b < W.heap.size) :
    Calls Tryd.prog 21 #[.slice (some ⟨b, 2, none⟩) n 8] W fun e w' => e = .returned (.string ⟨(Lib.Hx.encode (bl N n)).toArray⟩) ∧ Below W.heap.size W w' := by
  have h := Tryd.hex_EncodeToString_bytes b 2 8 (bl N n) W (fun i hi => by rw [bl_get]; exact hc i (by rw [bl_length] at hi; exact hi)) hb (by rw [bl_length]; omega)
  rw [bl_length] at h
  exact h

theorem upp_letter (N n : Nat) (W : World) (hn : n ≤ 8) :
    Calls Tryd.prog 20 #[.string ⟨(Lib.Hx.encode (bl N n)).toArray⟩] W fun e w' => e = .returned (.string ⟨(hexB N n).toArray⟩) ∧ Below W.heap.size W w' := by
  have hl : (Lib.Hx.encode (bl N n)).length = 2 * n := by rw [Lib.Hx.encode_length, bl_length]
  have h := Tryd.strings_ToUpper_ascii ⟨(Lib.Hx.encode (bl N n)).toArray⟩ W (by simp [ByteArray.size, hl]; omega) (fun j b h => enc_ascii _ b (List.mem_of_getElem? h))
  simp only [up_enc] at h
  exact h

/-- the cells of the package's frame -/
theorem can_byte (id n : Int) (N : Nat) (rm ex : Bool) (w : World) (t : TypeId) (k : Nat) (hk : k < 8) :
    (w.alloc (.cells (canCells id n N rm ex) t)).cell? ⟨w.heap.size, 2 + k, none⟩ = some (.int .u8 (Pl.byt N k : Nat)) := by
  unfold canCells
  rcases Pl.lt8_cases hk with rfl | rfl | rfl | rfl | rfl | rfl | rfl | rfl <;> go_simp

theorem cell_lt {w : World} {b i : Nat} {v : Value} (h : w.cell? ⟨b, i, none⟩ = some v) : b < w.heap.size := by
  rcases Nat.lt_or_ge b w.heap.size with h' | h'
  · exact h'
  · simp [World.cell?, Array.getElem?_eq_none h'] at h

def idD (ex : Bool) : Nat := if ex then 8 else 3

/-- zzHex at the frame's number, its text a letter; the frame's cells behind the call -/
theorem zz_letter (id n N : Nat) (rm ex : Bool) (w : World) (h1 : id < 16 ^ idD ex) (hc : w.cell? ⟨9, 15, none⟩ = some (.int .u8 4)) :
    Calls Tryd.prog 18 #[.int .u32 id, .int .i64 (idD ex : Nat)] (w.alloc (.cells (canCells id n N rm ex) 32)) fun e w' => e = .returned (.string ⟨(hexS id (idD ex)).toArray⟩) ∧
      Below w.heap.size w w' ∧ w'.cell? ⟨w.heap.size, 1, none⟩ = some (.int .u8 n) ∧ w'.cell? ⟨w.heap.size, 10, none⟩ = some (.bool rm) ∧ w.heap.size < w'.heap.size ∧
      (∀ k, k < 8 → w'.cell? ⟨w.heap.size, 2 + k, none⟩ = some (.int .u8 (Pl.byt N k : Nat))) := by
  have hB : Below w.heap.size w (w.alloc (.cells (canCells id n N rm ex) 32)) := (Below.refl _ _).alloc (Nat.le_refl _) _
  have hsz : w.heap.size < (w.alloc (.cells (canCells id n N rm ex) 32)).heap.size := by simp
  have h := zz18 id (idD ex) (w.alloc (.cells (canCells id n N rm ex) 32)) h1 (by unfold idD; split <;> omega) (by unfold idD; split <;> omega) ((hB.cell (cell_lt hc)).trans hc)
  refine h.mono ?_
  rintro e w' ⟨rfl, hb⟩
  refine ⟨rfl, hB.trans (hb.mono (Nat.le_of_lt hsz)), ?_, ?_, Nat.lt_of_lt_of_le hsz hb.size, fun k hk => ?_⟩
  · rw [hb.cell hsz]; unfold canCells; go_simp
  · rw [hb.cell hsz]; unfold canCells; go_simp
  · rw [hb.cell hsz]; exact can_byte id n N rm ex w 32 k hk

theorem itoa_letter (n : Nat) (w : World) (hn : n ≤ 8) : Calls Tryd.prog 19 #[.int .i64 n] w fun e w' => e = .returned (.string ⟨#[UInt8.ofNat (48 + n)]⟩) ∧ w = w' := by
  refine (Tryd.strconv_Itoa_small n (by omega) w).mono ?_
  rintro e w' ⟨rfl, rfl⟩
  refine ⟨?_, rfl⟩
  rw [Lib.decDigits, dif_pos (by omega)]

set_option maxRecDepth 100000 in
set_option maxHeartbeats 2000000 in
theorem str12_rm (id n N : Nat) (ex : Bool) (w : World) (h1 : id < 16 ^ idD ex) (h2 : n ≤ 8) (hc : w.cell? ⟨9, 15, none⟩ = some (.int .u8 4)) :
    Calls Tryd.prog 12 #[.agg (canCells id n N true ex)] w fun e w' => e = .returned (.string ⟨(textL id n N true ex).toArray⟩) ∧ Below w.heap.size w w' := by
  have HZ := zz_letter id n N true ex w h1 hc
  have HI := fun w => itoa_letter n w h2
  obtain ⟨s, e3, z3, l3⟩ := hex_letter id (idD ex)
  obtain ⟨s1, e1⟩ : ∃ s1 : ByteArray, (⟨#[UInt8.ofNat (48 + n)]⟩ : ByteArray) = s1 := ⟨_, rfl⟩
  have z1 : s1.size = 1 := by rw [← e1]; rfl
  have l1 : s1.data.toList = [UInt8.ofNat (48 + n)] := by rw [← e1]
  rw [e3] at HZ
  rw [e1] at HI
  have L3 := Lib.hid l3
  have L1 := Lib.hid l1
  have HZ := Lib.hid HZ
  have HI := Lib.hid HI
  unfold canCells at *
  clear e3 e1 l3 l1 hc h1
  have z3' : s.size ≤ 8 := by rw [z3]; unfold idD; split <;> omega
  by_cases h0 : n = 0
  · subst h0
    cases ex
    all_goals
      go_enter Tryd.func12, Tryd.ntmps12
      go_wp2_with fail
      refine (HZ.out).mono ?_
      rintro e w' ⟨rfl, hb, c1, c10, hlt, -⟩
      have HB := Lib.hid hb
      clear hb
      go_wp2_with fail
      go_ret
      refine ⟨ret_str (str_of ?_), HB.out⟩
      simp [textL, L3.out, ByteArray.data_append, idD]
  · have hz : (((n : Nat) : Int) == 0) = false := by rw [beq_eq_false_iff_ne]; omega
    cases ex
    all_goals
      go_enter Tryd.func12, Tryd.ntmps12
      go_wp2_with fail
      refine (HZ.out).mono ?_
      rintro e w' ⟨rfl, hb, c1, c10, hlt, -⟩
      have HB := Lib.hid hb
      clear hb
      go_wp2_with fail
      refine (HI.out _).mono ?_
      rintro e w'' ⟨rfl, rfl⟩
      go_wp2_with fail
      go_ret
      refine ⟨ret_str (str_of ?_), HB.out⟩
      have hpos : 0 < n := by omega
      simp [textL, L3.out, L1.out, ByteArray.data_append, idD, hpos]

set_option maxRecDepth 100000 in
set_option maxHeartbeats 2000000 in
theorem str12_data (id n N : Nat) (ex : Bool) (w : World) (h1 : id < 16 ^ idD ex) (h2 : n ≤ 8) (hc : w.cell? ⟨9, 15, none⟩ = some (.int .u8 4)) :
    Calls Tryd.prog 12 #[.agg (canCells id n N false ex)] w fun e w' => e = .returned (.string ⟨(textL id n N false ex).toArray⟩) ∧ Below w.heap.size w w' := by
  have HZ := zz_letter id n N false ex w h1 hc
  obtain ⟨s, e3, z3, l3⟩ := hex_letter id (idD ex)
  have HE := fun W hc hb => enc_letter N n W w.heap.size h2 hc hb
  have HU := fun W => upp_letter N n W h2
  obtain ⟨s1, e1, z1⟩ : ∃ s1 : ByteArray, (⟨(Lib.Hx.encode (bl N n)).toArray⟩ : ByteArray) = s1 ∧ s1.size ≤ 16 := ⟨_, rfl, by simp [ByteArray.size, Lib.Hx.encode_length, bl_length]; omega⟩
  obtain ⟨s2, e2, z2, l2⟩ : ∃ s2 : ByteArray, (⟨(hexB N n).toArray⟩ : ByteArray) = s2 ∧ s2.size ≤ 16 ∧ s2.data.toList = hexB N n := ⟨_, rfl, by simp [ByteArray.size, hexB_length]; omega, rfl⟩
  rw [e3] at HZ
  rw [e1] at HE HU
  rw [e2] at HU
  have L3 := Lib.hid l3
  have L2 := Lib.hid l2
  have HZ := Lib.hid HZ
  have HE := Lib.hid HE
  have HU := Lib.hid HU
  have hsl := fun a W => slice_can a n W h2
  unfold canCells at *
  have z3' : s.size ≤ 8 := by rw [z3]; unfold idD; split <;> omega
  clear e3 e1 e2 l3 l2 hc h1
  cases ex
  all_goals
    go_enter Tryd.func12, Tryd.ntmps12
    go_wp2_with fail
    refine (HZ.out).mono ?_
    rintro e w' ⟨rfl, hb, c1, c10, hlt, hk⟩
    have HB := Lib.hid hb
    have HK := Lib.hid hk
    clear hb hk
    go_wp2_with fail
    refine (HE.out _ (fun k hk => HK.out k (by omega)) hlt).mono ?_
    rintro e w2 ⟨rfl, hb2⟩
    have HB2 := Lib.hid (HB.out.trans (hb2.mono (Nat.le_of_lt hlt)))
    have hle := Nat.le_trans (Nat.le_of_lt hlt) hb2.size
    clear hb2
    go_wp2_with fail
    refine (HU.out _).mono ?_
    rintro e w3 ⟨rfl, hb3⟩
    have HB3 := Lib.hid (HB2.out.trans (hb3.mono hle))
    clear hb3
    go_wp2_with fail
    go_ret
    refine ⟨ret_str (str_of ?_), HB3.out⟩
    simp [textL, L3.out, L2.out, ByteArray.data_append, idD]

theorem str12 (id n N : Nat) (rm ex : Bool) (w : World) (h1 : id < 16 ^ idD ex) (h2 : n ≤ 8) (hc : w.cell? ⟨9, 15, none⟩ = some (.int .u8 4)) :
    Calls Tryd.prog 12 #[.agg (canCells id n N rm ex)] w fun e w' => e = .returned (.string ⟨(textL id n N rm ex).toArray⟩) ∧ Below w.heap.size w w' := by
  cases rm
  · exact str12_data id n N ex w h1 h2 hc
  · exact str12_rm id n N ex w h1 h2 hc

end Go.Proofs.YtjmoinaikedmlaaDoor
