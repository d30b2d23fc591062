/- Contracts: zzHex -/
import Derived.Test.YtjmoinaikedmlaaDoorG
import Derived.Lib.ConvBytes
import Derived.OwnWalk
namespace Go.Proofs.YtjmoinaikedmlaaDoor
open Go.ChangeShapes Go.WideShapes Go.ChangeAt Go.RowKit
set_option linter.unusedVariables false

/-- block b is a row of bytes whose first n cells hold f, none of these frozen -/
def RowQ (w : World) (b n : Nat) (f : Nat → Value) : Prop := ∃ (c : Array Value) (l h : Nat), w.heap[b]? = some (.cells c 5 (l, h)) ∧ n ≤ l ∧ n ≤ c.size ∧ ∀ i, i < n → c[i]? = some (f i)

theorem RowQ.cell {w : World} {b n : Nat} {f : Nat → Value} (h : RowQ w b n f) {i : Nat} (hi : i < n) : w.cell? ⟨b, i, none⟩ = some (f i) := by
  obtain ⟨c, l, u, hb, _, _, hc⟩ := h
  simp [World.cell?, hb, hc i hi]

theorem RowQ.frozen {w : World} {b n : Nat} {f : Nat → Value} (h : RowQ w b n f) {i : Nat} (hi : i < n) : w.frozen? ⟨b, i, none⟩ = false := by
  obtain ⟨c, l, u, hb, _, _, hc⟩ := h
  simp [World.frozen?, hb]
  omega

theorem RowQ.congr {w : World} {b n : Nat} {f g : Nat → Value} (h : RowQ w b n f) (e : ∀ i, i < n → f i = g i) : RowQ w b n g := by
  obtain ⟨c, l, u, hb, hl, hn, hc⟩ := h
  exact ⟨c, l, u, hb, hl, hn, fun i hi => by rw [hc i hi, e i hi]⟩

theorem RowQ.set {w : World} {b n : Nat} {f : Nat → Value} (h : RowQ w b n f) (i : Nat) (v : Value) : RowQ (w.setCell ⟨b, i, none⟩ v) b n (fun j => if j = i then v else f j) := by
  obtain ⟨c, l, u, hb, hl, hn, hc⟩ := h
  refine ⟨c.setIfInBounds i v, l, u, ?_, hl, by simpa using hn, fun j hj => ?_⟩
  · simp [World.setCell, Array.getElem?_modify, hb]
  · rw [Array.getElem?_setIfInBounds]
    by_cases e : j = i
    · subst e
      have : j < c.size := by omega
      simp [this]
    · rw [if_neg (fun h => e h.symm)]
      show c[j]? = some (if j = i then v else f j)
      rw [if_neg e]
      exact hc j hj

/-- a figure to the base of 16, in great letters -/
def up (d : Nat) : Nat := if d < 10 then 48 + d else 55 + d
theorem up_dig (d : Nat) (h : d < 16) : UInt8.ofNat (up d) = dig d := by unfold up dig; split <;> rfl
/-- figure j of m -/
def fj (U m j : Nat) : Nat := U / 16 ^ (m - 1 - j) % 16
theorem fj_lt (U m j : Nat) : fj U m j < 16 := Nat.mod_lt _ (by decide)
def urow (U m c : Nat) : Nat → Value := fun j => if j < c then .int .u8 (up (fj U m j) : Nat) else .int .u8 (lo (fj U m j) : Nat)

theorem urow_keep (U m c j : Nat) (h : fj U m c < 10) : urow U m c j = urow U m (c + 1) j := by
  unfold urow
  by_cases h1 : j < c
  · rw [if_pos h1, if_pos (by omega)]
  · rw [if_neg h1]
    by_cases h2 : j = c
    · subst h2; rw [if_pos (by omega)]; unfold lo up; rw [if_pos h, if_pos h]
    · rw [if_neg (by omega)]

theorem urow_step (U m c j : Nat) (h : ¬ fj U m c < 10) : (if j = c then Value.int .u8 ((55 + fj U m c : Nat) : Int) else urow U m c j) = urow U m (c + 1) j := by
  unfold urow
  by_cases h2 : j = c
  · subst h2; rw [if_pos rfl, if_pos (by omega)]; unfold up; rw [if_neg h]
  · rw [if_neg h2]
    by_cases h1 : j < c
    · rw [if_pos h1, if_pos (by omega)]
    · rw [if_neg h1, if_neg (by omega)]

/-- the bytes of a conversion's row -/
theorem RowQ.bytes (w : World) (s : ByteArray) : RowQ (Lib.bytesWorld w 5 s) w.heap.size s.size (fun j => .int .u8 (s.data.toList.getD j 0).toNat) := by
  have hs : s.size ≤ (Lib.bytesCells w 5 s).size := by
    unfold Lib.bytesCells
    rw [Array.size_append, Array.size_map]
    exact Nat.le_add_right _ _
  refine ⟨_, _, _, Lib.bytesWorld_at_new w 5 s, hs, hs, fun i hi => ?_⟩
  have := Lib.bytesWorld_cell w 5 s i hi
  simp only [World.cell?, Lib.bytesWorld_at_new] at this
  exact this

theorem low_byte (U m i : Nat) (h : i < m) : (strOfNums ((lowS U m).map Int.ofNat)).data.toList.getD i 0 = UInt8.ofNat (lo (fj U m i)) := by
  unfold strOfNums
  rw [List.getD_eq_getElem?_getD]
  simp [lowS_get U m i h, fj]

theorem low_size (U m : Nat) : (strOfNums ((lowS U m).map Int.ofNat)).size = m := by
  unfold strOfNums
  simp [ByteArray.size, lowS_length]

theorem RowQ.low (w : World) (U m : Nat) : RowQ (Lib.bytesWorld w 5 (strOfNums ((lowS U m).map Int.ofNat))) w.heap.size m (urow U m 0) := by
  have h := RowQ.bytes w (strOfNums ((lowS U m).map Int.ofNat))
  rw [low_size] at h
  refine h.congr fun i hi => ?_
  rw [low_byte U m i hi]
  unfold urow
  rw [if_neg (by omega), UInt8.toNat_ofNat', Nat.mod_eq_of_lt (lo_lt _ (fj_lt U m i))]

theorem below_bytes (w : World) (s : ByteArray) : Below w.heap.size w (Lib.bytesWorld w 5 s) :=
  ⟨rfl, rfl, rfl, by rw [Lib.bytesWorld_size]; omega, fun k hk => Lib.bytesWorld_at_old w 5 s k hk⟩

/-- the figures are put one by one ahead -/
def lenV : Value → Nat | .slice _ n _ => n | _ => 0

theorem fj_zero (U m : Nat) (h : U < 16 ^ m) : fj U (m + 1) 0 = 0 := by
  unfold fj
  rw [show m + 1 - 1 - 0 = m by omega, Nat.div_eq_of_lt h]

theorem fj_succ (U m i : Nat) : fj U (m + 1) (i + 1) = fj U m i := by
  unfold fj
  congr 3
  omega

theorem app18 (U m b cap : Nat) (wr : World) (hm : m ≤ 8) (h1 : 0 < m) (hU : U < 16 ^ m) (hc : ∀ i, i < m → wr.cell? ⟨b, i, none⟩ = some (.int .u8 (up (fj U m i) : Nat))) :
    ∃ cap' W', (Builtin.append_ #[38, 38] 38 #[.slice (some ⟨wr.heap.size, 0, none⟩) 1 1, .slice (some ⟨b, 0, none⟩) m cap]).run Tryd.prog (wr.alloc (.cells #[.int .u8 48] 5)) =
      .ok (.slice (some ⟨wr.heap.size + 1, 0, none⟩) (m + 1) cap') W' ∧ (∀ i, i < m + 1 → W'.cell? ⟨wr.heap.size + 1, i, none⟩ = some (.int .u8 (up (fj U (m + 1) i) : Nat))) ∧ Below wr.heap.size wr W' := by
  have hb : b < wr.heap.size := by
    rcases Nat.lt_or_ge b wr.heap.size with h | h
    · exact h
    · have := hc 0 h1
      simp [World.cell?, Array.getElem?_eq_none h] at this
  have hB : Below wr.heap.size wr (wr.alloc (.cells #[.int .u8 48] 5)) := (Below.refl _ _).alloc (Nat.le_refl _) _
  have hsz : (wr.alloc (.cells #[.int .u8 48] 5)).heap.size = wr.heap.size + 1 := by simp
  have hinf : (Tryd.prog.info? 5).map (fun i => (i.zero, i.size, i.bytes)) = some (some (.int .u8 0), 1, 1) := by kernel_rfl
  obtain ⟨inf, hi, hi2⟩ := Option.map_eq_some_iff.1 hinf
  simp only [Prod.mk.injEq] at hi2
  obtain ⟨hz, hs1, hb1⟩ := hi2
  have hnews : ∀ j v, ((List.range m).map fun i => Value.int .u8 (up (fj U m i) : Nat))[j]? = some v → j < m ∧ v = .int .u8 (up (fj U m j) : Nat) := fun j v hj => by
    rw [List.getElem?_map] at hj
    have hjm : j < m := by
      rcases Nat.lt_or_ge j m with h | h
      · exact h
      · rw [List.getElem?_eq_none (by simpa using h)] at hj; cases hj
    rw [List.getElem?_range hjm] at hj
    simp at hj
    exact ⟨hjm, hj.symm⟩
  have h := run_append_grow (P := Tryd.prog) (wr.alloc (.cells #[.int .u8 48] 5)) 38 38 5 inf (.int .u8 0) Tryd.underlying38 hi hz ⟨wr.heap.size, 0, none⟩ 1 1 [.int .u8 48] (by rw [hs1]; rfl)
    (fun j v hj => by
      match j, hj with
      | 0, hj => simp at hj; subst hj; go_simp)
    ⟨b, 0, none⟩ m cap ((List.range m).map fun i => .int .u8 (up (fj U m i) : Nat)) (by simp [hs1]) (fun j v hj => by
      obtain ⟨hjm, rfl⟩ := hnews j v hj
      rw [Addr.add_lit, Nat.zero_add, hB.cell hb]
      exact hc j hjm) (by omega) (by omega) (growslice_fits (by omega) (by rw [hb1]; omega))
  rw [hsz, Nat.add_comm 1 m] at h
  refine ⟨_, _, h, fun i hi => ?_, (hB.drew).alloc (by simp) _⟩
  have hb2 : ((wr.alloc (.cells #[.int .u8 48] 5)).drew).heap.size = wr.heap.size + 1 := hsz
  rw [← hb2]
  simp only [World.cell?, World.alloc, Array.getElem?_push, if_true]
  cases i with
  | zero =>
    rw [fj_zero U m hU]
    simp [Array.getElem?_append, up]
  | succ i =>
    rw [fj_succ U m i]
    have hi' : i < m := by omega
    simp [Array.getElem?_append, hi']

theorem hexS_get (n : Nat) : ∀ k i, i < k → (hexS n k)[i]? = some (dig (fj n k i)) := by
  intro k
  induction k with
  | zero => intro i h; omega
  | succ k ih =>
    intro i h
    cases i with
    | zero => simp [hexS, fj]
    | succ i =>
      simp only [hexS, List.getElem?_cons_succ]
      rw [ih i (by omega), fj_succ]

def ups (U m : Nat) : List Int := (List.range m).map fun i => ((up (fj U m i) : Nat) : Int)
theorem ups_length (U m : Nat) : (ups U m).length = m := by simp [ups]
theorem ups_get (U m i : Nat) (h : i < m) : (ups U m).getD i 0 = ((up (fj U m i) : Nat) : Int) := by
  unfold ups
  rw [List.getD_eq_getElem?_getD, List.getElem?_map, List.getElem?_range h]
  rfl
theorem ups_text (U m : Nat) : strOfNums (ups U m) = ⟨(hexS U m).toArray⟩ := by
  unfold strOfNums
  congr 2
  refine List.ext_getElem? fun i => ?_
  rcases Nat.lt_or_ge i m with h | h
  · rw [hexS_get U m i h]
    unfold ups
    rw [List.map_map, List.getElem?_map, List.getElem?_range h]
    simp only [Option.map_some, Function.comp_apply, Int.toNat_natCast]
    rw [up_dig _ (fj_lt U m i)]
  · rw [List.getElem?_eq_none (by rw [List.length_map, ups_length]; exact h), List.getElem?_eq_none (by rw [hexS_length]; exact h)]

theorem conv18 (U m b cap : Nat) (W : World) (hc : ∀ i, i < m → W.cell? ⟨b, i, none⟩ = some (.int .u8 (up (fj U m i) : Nat))) :
    (convert 38 9 (.slice (some ⟨b, 0, none⟩) m cap)).run Tryd.prog W = .ok (.string ⟨(hexS U m).toArray⟩) W := by
  rw [← ups_text]
  exact run_convert_bytes_arg (P := Tryd.prog) W 38 5 Tryd.underlying38 Tryd.underlying5 b 0 _ _ _ (ups_length U m) (fun i hi => by
    rw [Nat.zero_add, hc i hi, ups_get U m i hi]) 9 Tryd.underlying9

/-- an append whose run is known -/
theorem wpList_append_run {P : Program} {w w' : World} {ops : Array Oper} {rest : List Oper} {o : Oper} {a : Act} {Q : Exit → Act → World → Prop} (hg : o.guard = none) (s x : Operand) (t : TypeId)
    (hop : o.op = .call { callee := .builtin .append, args := #[s, x], argTypes := #[t, t] }) {vs vx v' : Value} (hs : a.eval s = vs) (hx : a.eval x = vx)
    (hrun : (Builtin.append_ #[t, t] o.type #[vs, vx]).run P w = .ok v' w') (hK : wpList P ops Q rest (a.put o.dst v') w') : wpList P ops Q (o :: rest) a w := by
  refine wpList_plain hg fun K hK' => ?_
  unfold Oper.wp
  simp only [execOp, hop, resolve, invoke, builtin, Sem.run_bind, Sem.run_pure, Result.andThen_ok, List.map_toArray, List.map_cons, List.map_nil, hs, hx, hrun]
  exact hK' _ _ hK

set_option maxRecDepth 100000 in
set_option maxHeartbeats 2000000 in
theorem zz18 (U D : Nat) (w : World) (hU : U < 16 ^ D) (hD : D ≤ 8) (h0 : 0 < D) (hc : w.cell? ⟨9, 15, none⟩ = some (.int .u8 4)) :
    Calls Tryd.prog 18 #[.int .u32 U, .int .i64 D] w fun e w' => e = .returned (.string ⟨(hexS U D).toArray⟩) ∧ Below w.heap.size w w' := by
  have h32 : U < 4294967296 := Nat.lt_of_lt_of_le hU (by
    have := Nat.pow_le_pow_right (n := 16) (by decide) hD
    omega)
  have H := Lib.hid (fu27 U w h32 hc)
  have HU := Lib.hid hU
  have hcv := fun (w : World) (s : ByteArray) => Lib.run_convert_string_bytes (P := Tryd.prog) w 9 38 5 s Tryd.underlying9 Tryd.underlying38 Tryd.underlying5
  clear hc hU
  go_enter Tryd.func18, Tryd.ntmps18
  go_wp2_with fail
  refine (H.out).mono ?_
  rintro e w1 ⟨S, hS, rfl, hb⟩
  obtain ⟨k, hk7, hk, hkU, rfl⟩ := hS
  have hrow := RowQ.low w1 U (k + 1)
  have hb1 := hb.trans ((below_bytes w1 (strOfNums ((lowS U (k + 1)).map Int.ofNat))).mono hb.size)
  have hsz := low_size U (k + 1)
  have hkD : k < D := by
    rcases hk with rfl | hk
    · exact h0
    · exact (Nat.pow_lt_pow_iff_right (by decide : 1 < 16)).1 (Nat.lt_of_le_of_lt hk HU.out)
  generalize strOfNums ((lowS U (k + 1)).map Int.ofNat) = S at *
  have hsz1 := hb.size
  have HR := Lib.hid hrow
  have HB := Lib.hid hb1
  have HK := Lib.hid hkU
  clear hrow hb1 hkU hb hk
  go_wp2_with fail
  have hcell : ∀ (W : World) c, c ≤ k + 1 → RowQ W w1.heap.size (k + 1) (urow U (k + 1) c) → c < k + 1 → W.cell? ⟨w1.heap.size, c, none⟩ = some (.int .u8 (lo (fj U (k + 1) c) : Nat)) := fun W c _ h hc => by
    rw [h.cell hc]; unfold urow; rw [if_neg (by omega)]
  have HC := Lib.hid hcell
  clear hcell
  have hbs : w.heap.size ≤ w1.heap.size := hsz1
  go_loopw [13] (fun vi wr => ∃ c : Nat, c ≤ k + 1 ∧ vi = .int .i64 (c : Int) ∧ Hid (RowQ wr w1.heap.size (k + 1) (urow U (k + 1) c)) ∧ Hid (Below w.heap.size w wr)) (fun vi _ => k + 1 - (intOf vi).toNat)
  case atStart => exact ⟨0, by omega, rfl, HR.out, HB.out⟩
  case round =>
    obtain ⟨c, hck, rfl, hrw, hb⟩ := hrel
    by_cases hlt : c < k + 1
    · have hc1 := HC.out wr c hck hrw.out hlt
      have hf1 : wr.frozen? ⟨w1.heap.size, c, none⟩ = false := hrw.out.frozen hlt
      have hst := urow_step U (k + 1) c
      have hkp := urow_keep U (k + 1) c
      have h16 := fj_lt U (k + 1) c
      have HST := Lib.hid hst
      have HKP := Lib.hid hkp
      clear hst hkp
      generalize fj U (k + 1) c = d at *
      by_cases h10 : d < 10
      · have e : ((lo d : Nat) : Int) = 48 + (d : Int) := by unfold lo; rw [if_pos h10]; omega
        rw [e] at hc1
        clear e
        go_wp2
        go_roundw
        case rel => exact ⟨c + 1, by omega, by go_num, hrw.out.congr (fun j _ => HKP.out j h10), hb.out⟩
        case measure => simp [intOf]; omega
      · have e : ((lo d : Nat) : Int) = 87 + (d : Int) := by unfold lo; rw [if_neg h10]; omega
        have e2 : (87 : Int) + d - 32 = ((55 + d : Nat) : Int) := by omega
        rw [e] at hc1
        clear e
        go_wp2
        go_roundw
        case rel => exact ⟨c + 1, by omega, by go_num, (hrw.out.set _ _).congr (fun j _ => HST.out j h10), hb.out.setCell hbs _⟩
        case measure => simp [intOf]; omega
    · have hce : c = k + 1 := by omega
      subst hce
      have hup : ∀ i, i < k + 1 → wr.cell? ⟨w1.heap.size, i, none⟩ = some (.int .u8 (up (fj U (k + 1) i) : Nat)) := fun i hi => by
        rw [hrw.out.cell hi]; unfold urow; rw [if_pos hi]
      have HUP := Lib.hid hup
      clear hup hlt
      go_wp2_with fail
      go_loopw [5] (fun vs wq => ∃ (m b cap : Nat), k + 1 ≤ m ∧ m ≤ D ∧ vs = .slice (some ⟨b, 0, none⟩) m cap ∧ Hid (∀ i, i < m → wq.cell? ⟨b, i, none⟩ = some (.int .u8 (up (fj U m i) : Nat))) ∧ Hid (Below w.heap.size w wq)) (fun vs _ => D - lenV vs)
      case atStart => exact ⟨k + 1, w1.heap.size, _, by omega, by omega, rfl, HUP.out, hb.out⟩
      case round =>
        obtain ⟨m, b, cap, hm1, hmD, rfl, hcl, hbq⟩ := hrel
        by_cases hmm : m < D
        · have hUm : U < 16 ^ m := Nat.lt_of_lt_of_le HK.out (Nat.pow_le_pow_right (by decide) hm1)
          obtain ⟨cap', W', hap, hW, hB'⟩ := app18 U m b cap wr (by omega) (by omega) hUm hcl.out
          have HW := Lib.hid hW
          have HB2 := Lib.hid (hbq.out.trans (hB'.mono hbq.out.size))
          clear hW hB' hUm
          go_wp2_with (at_builtin; refine wpList_append_run rfl (.tmp 32) (.tmp 33) 38 rfl rfl rfl hap ?_)
          go_roundw
          case rel => exact ⟨_, _, _, _, _, _, _, _, ⟨m + 1, wr.heap.size + 1, cap', by omega, by omega, rfl, HW.out, HB2.out⟩, rfl⟩
          case measure => simp [lenV]; omega
        · have hmD' : m = D := by omega
          subst hmD'
          have hcv2 := conv18 U m b cap wr hcl.out
          clear hmm
          go_wp2
          go_ret
          exact ⟨rfl, hbq.out⟩

end Go.Proofs.YtjmoinaikedmlaaDoor
