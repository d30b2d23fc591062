/- Contracts: zzSplit at a text with one sign # (number 35) -/
import Derived.Test.YtjmoinaikedmlaaDoorK
import Derived.RegionTactic
namespace Go.Proofs.YtjmoinaikedmlaaDoor
open Go.ChangeShapes Go.WideShapes Go.ChangeAt Go.RowKit
set_option linter.unusedVariables false

/-- block b is a row of type t, none frozen, whose first n cells hold f -/
def RowS (w : World) (b : Nat) (t : TypeId) (n : Nat) (f : Nat → Value) : Prop := ∃ c : Array Value, w.heap[b]? = some (.cells c t (0, 0)) ∧ n ≤ c.size ∧ ∀ i, i < n → c[i]? = some (f i)

theorem RowS.cell {w : World} {b t n : Nat} {f : Nat → Value} (h : RowS w b t n f) {i : Nat} (hi : i < n) : w.cell? ⟨b, i, none⟩ = some (f i) := by
  obtain ⟨c, hb, _, hc⟩ := h
  simp [World.cell?, hb, hc i hi]

theorem RowS.frozen {w : World} {b t n : Nat} {f : Nat → Value} (h : RowS w b t n f) (i : Nat) : w.frozen? ⟨b, i, none⟩ = false := by
  obtain ⟨c, hb, _, hc⟩ := h
  simp [World.frozen?, hb]

theorem RowS.congr {w : World} {b t n : Nat} {f g : Nat → Value} (h : RowS w b t n f) (e : ∀ i, i < n → f i = g i) : RowS w b t n g := by
  obtain ⟨c, hb, hn, hc⟩ := h
  exact ⟨c, hb, hn, fun i hi => by rw [hc i hi, e i hi]⟩

theorem RowS.set {w : World} {b t n : Nat} {f : Nat → Value} (h : RowS w b t n f) (i : Nat) (v : Value) : RowS (w.setCell ⟨b, i, none⟩ v) b t n (fun j => if j = i then v else f j) := by
  obtain ⟨c, hb, hn, hc⟩ := h
  refine ⟨c.setIfInBounds i v, ?_, by simpa using hn, fun j hj => ?_⟩
  · simp [World.setCell, Array.getElem?_modify, hb]
  · rw [Array.getElem?_setIfInBounds]
    by_cases e : j = i
    · subst e
      have : j < c.size := by omega
      simp [this]
    · rw [if_neg (fun h => e h.symm)]
      show c[j]? = some (if j = i then v else f j)
      rw [if_neg e]
      exact hc j hj

theorem RowS.drew {w : World} {b t n : Nat} {f : Nat → Value} (h : RowS w b t n f) : RowS w.drew b t n f := h

theorem RowS.new (w : World) (c : Array Value) (t n : Nat) (f : Nat → Value) (h : n ≤ c.size) (hc : ∀ i, i < n → c[i]? = some (f i)) : RowS (w.alloc (.cells c t)) w.heap.size t n f :=
  ⟨c, by simp only [World.alloc, Array.getElem?_push, if_true], h, hc⟩

theorem sz_list (s : ByteArray) : s.size = s.data.toList.length := rfl
theorem lt_of_get {s : ByteArray} {i : Nat} {x : UInt8} (h : s.data.toList[i]? = some x) : i < s.size := (List.getElem?_eq_some_iff.1 h).1

theorem idx_str (s : ByteArray) (i : Nat) (x : UInt8) (h : s.data.toList[i]? = some x) (W : World) : (Instr.index 9 (.string s) (.int .i64 (i : Int))).run Tryd.prog W = .ok (.int .u8 (x.toNat : Int)) W := by
  have hi : i < s.size := lt_of_get h
  rw [run_index_string W 9 s .i64 i Tryd.underlying9, dif_pos (by omega)]
  have h2 : s.data.toList[i]'hi = x := (List.getElem?_eq_some_iff.1 h).2
  rw [← h2]
  rfl

theorem cut_str (s : ByteArray) (i : Nat) (x : UInt8) (h : s.data.toList[i]? = some x) (W : World) : (Instr.slice 9 (.string s) (some (.int .i64 (i : Int))) (some (.int .i64 ((i : Int) + 1))) none).run Tryd.prog W = .ok (.string ⟨#[x]⟩) W := by
  have hi : i < s.size := lt_of_get h
  rw [run_slice_string W 9 s .i64 .i64 i (i + 1) Tryd.underlying9 (by omega) (by omega) (by omega)]
  congr 3
  refine str_of ?_
  rw [show (i : Int).toNat = i from rfl, show ((i : Int) + 1).toNat = i + 1 by omega]
  rw [ByteArray.data_extract]
  rw [Array.toList_extract, List.extract]
  rw [show i + 1 - i = 1 by omega]
  rw [List.getElem?_eq_some_iff] at h
  obtain ⟨hl, h⟩ := h
  rw [List.drop_eq_getElem_cons hl, h]
  rfl

def f2 (A : List UInt8) (B : List UInt8) : Nat → Value := fun j => if j = 0 then .string ⟨A.toArray⟩ else .string ⟨B.toArray⟩

/-- the split after k bytes -/
def SplitAt (A B : List UInt8) (B0 k : Nat) (v : Value) (w : World) : Prop :=
  (k ≤ A.length ∧ v = .slice (some ⟨B0, 0, none⟩) 1 1 ∧ RowS w B0 9 1 (fun _ => .string ⟨(A.take k).toArray⟩)) ∨
  (A.length < k ∧ ∃ b cap, B0 ≤ b ∧ v = .slice (some ⟨b, 0, none⟩) 2 cap ∧ RowS w b 9 2 (f2 A (B.take (k - A.length - 1))))

theorem app13 (A : List UInt8) (b : Nat) (wr : World) (hr : RowS wr b 9 1 (fun _ => .string ⟨A.toArray⟩)) :
    ∃ cap' W', (Builtin.append_ #[43, 43] 43 #[.slice (some ⟨b, 0, none⟩) 1 1, .slice (some ⟨wr.heap.size, 0, none⟩) 1 1]).run Tryd.prog (wr.alloc (.cells #[.string ⟨#[]⟩] 9)) =
      .ok (.slice (some ⟨wr.heap.size + 1, 0, none⟩) 2 cap') W' ∧ RowS W' (wr.heap.size + 1) 9 2 (f2 A []) ∧ Below wr.heap.size wr W' := by
  have hb : b < wr.heap.size := cell_lt (hr.cell (i := 0) (by omega))
  have hB : Below wr.heap.size wr (wr.alloc (.cells #[.string ⟨#[]⟩] 9)) := (Below.refl _ _).alloc (Nat.le_refl _) _
  have hsz : (wr.alloc (.cells #[.string ⟨#[]⟩] 9)).heap.size = wr.heap.size + 1 := by simp
  have hinf : (Tryd.prog.info? 9).map (fun i => (i.zero, i.size, i.bytes)) = some (some (.string ⟨#[]⟩), 1, 16) := by kernel_rfl
  obtain ⟨inf, hi, hi2⟩ := Option.map_eq_some_iff.1 hinf
  simp only [Prod.mk.injEq] at hi2
  obtain ⟨hz, hs1, hb1⟩ := hi2
  have h := run_append_grow (P := Tryd.prog) (wr.alloc (.cells #[.string ⟨#[]⟩] 9)) 43 43 9 inf (.string ⟨#[]⟩) Tryd.underlying43 hi hz ⟨b, 0, none⟩ 1 1 [.string ⟨A.toArray⟩] (by rw [hs1]; rfl)
    (fun j v hj => by
      match j, hj with
      | 0, hj =>
        simp at hj; subst hj
        rw [Addr.add_lit, Nat.zero_add, hB.cell hb]
        exact hr.cell (by omega))
    ⟨wr.heap.size, 0, none⟩ 1 1 [.string ⟨#[]⟩] (by rw [hs1]; rfl) (fun j v hj => by
      match j, hj with
      | 0, hj => simp at hj; subst hj; go_simp) (by omega) (by omega) (growslice_fits (by omega) (by rw [hb1]; omega))
  rw [hsz] at h
  refine ⟨_, _, h, ?_, (hB.drew).alloc (by simp) _⟩
  rw [← show (wr.alloc (.cells #[.string ⟨#[]⟩] 9)).drew.heap.size = wr.heap.size + 1 from hsz]
  refine RowS.new _ _ _ _ _ (by simp) (fun i hi => ?_)
  match i, hi with
  | 0, _ => simp [f2, Array.getElem?_append]
  | 1, _ => simp [f2, Array.getElem?_append]

set_option maxRecDepth 100000 in
set_option maxHeartbeats 2000000 in
theorem split13 (A B : List UInt8) (s : ByteArray) (w : World) (hs : s.data.toList = A ++ 35 :: B) (hA : ∀ x ∈ A, x ≠ 35) (hBn : ∀ x ∈ B, x ≠ 35) (hl : s.size ≤ 100) :
    Calls Tryd.prog 13 #[.string s] w fun e w' => ∃ b cap, e = .returned (.slice (some ⟨b, 0, none⟩) 2 cap) ∧ w'.cell? ⟨b, 0, none⟩ = some (.string ⟨A.toArray⟩) ∧ w'.cell? ⟨b, 1, none⟩ = some (.string ⟨B.toArray⟩) ∧ Below w.heap.size w w' := by
  have hlen : s.size = A.length + 1 + B.length := by rw [sz_list, hs]; simp; omega
  have hget : ∀ i, i < s.size → ∃ x, s.data.toList[i]? = some x ∧ (x = 35 ↔ i = A.length) ∧ (i < A.length → A.take (i + 1) = A.take i ++ [x]) ∧ (A.length < i → B.take (i + 1 - A.length - 1) = B.take (i - A.length - 1) ++ [x]) := by
    intro i hi
    rw [hlen] at hi
    rcases Nat.lt_trichotomy i A.length with h | h | h
    · refine ⟨A[i], by rw [hs, List.getElem?_append_left h, List.getElem?_eq_getElem h], ⟨fun e => absurd e (hA _ (List.getElem_mem h)), fun e => by omega⟩, fun _ => by rw [List.take_add_one, List.getElem?_eq_getElem h]; rfl, fun e => by omega⟩
    · subst h
      exact ⟨35, by rw [hs, List.getElem?_append_right (Nat.le_refl _), Nat.sub_self]; rfl, ⟨fun _ => rfl, fun _ => rfl⟩, fun e => by omega, fun e => by omega⟩
    · have hj : i - A.length - 1 < B.length := by omega
      refine ⟨B[i - A.length - 1], ?_, ⟨fun e => absurd e (hBn _ (List.getElem_mem hj)), fun e => by omega⟩, fun e => by omega, fun _ => ?_⟩
      · have e1 : (35 :: B)[i - A.length]? = B[i - A.length - 1]? := by
          obtain ⟨j, hj2⟩ : ∃ j, i - A.length = j + 1 := ⟨i - A.length - 1, by omega⟩
          rw [hj2, List.getElem?_cons_succ]; rfl
        rw [hs, List.getElem?_append_right (by omega), e1, List.getElem?_eq_getElem hj]
      · rw [show i + 1 - A.length - 1 = (i - A.length - 1) + 1 by omega, List.take_add_one, List.getElem?_eq_getElem hj]
        rfl
  have HG := Lib.hid hget
  have HLEN := Lib.hid hlen
  have h0 : RowS (w.alloc (.cells #[.string ⟨#[]⟩] 9)) w.heap.size 9 1 (fun _ => .string ⟨(A.take 0).toArray⟩) := RowS.new _ _ _ _ _ (by simp) (fun i hi => by
    match i, hi with
    | 0, _ => simp)
  have H0 := Lib.hid h0
  clear h0 hget hs hA hBn hlen
  go_enter Tryd.func13, Tryd.ntmps13
  go_wp2_with fail
  go_loopw [3, 4] (fun vs vi wr => ∃ k : Nat, k ≤ s.size ∧ vi = .int .i64 (k : Int) ∧ Hid (SplitAt A B w.heap.size k vs wr) ∧ Hid (Below w.heap.size w wr)) (fun _ vi _ => s.size - (intOf vi).toNat)
  case atStart => exact ⟨0, by omega, rfl, .inl ⟨by omega, rfl, H0.out⟩, (Below.refl _ _).alloc (Nat.le_refl _) _⟩
  case round =>
    obtain ⟨k, hk, rfl, hsp, hb⟩ := hrel
    by_cases hlt : k < s.size
    · obtain ⟨x, hx, hx35, hta, htb⟩ := HG.out k hlt
      have hidx := fun W => idx_str s k x hx W
      have hcut := fun W => cut_str s k x hx W
      have hxt : k = A.length → (((x.toNat : Nat) : Int) == 35) = true := fun e => by rw [hx35.2 e]; rfl
      have hxf : k ≠ A.length → (((x.toNat : Nat) : Int) == 35) = false := fun e => by
        rw [beq_eq_false_iff_ne]
        intro h
        exact e (hx35.1 (UInt8.toNat_inj.1 (by show x.toNat = 35; omega)))
      have HTA := Lib.hid hta
      have HTB := Lib.hid htb
      clear hta htb hx35 hx
      rcases hsp.out with ⟨hkA, rfl, hrow⟩ | ⟨hkA, b, cap, hbb, rfl, hrow⟩
      · by_cases hke : k = A.length
        · have hxe := hxt hke
          clear hxt hxf
          subst hke
          rw [List.take_length] at hrow
          obtain ⟨cap', W', hap, hW, hB'⟩ := app13 A w.heap.size wr hrow
          have hle : w.heap.size ≤ wr.heap.size + 1 := Nat.le_trans hb.out.size (Nat.le_succ _)
          have HW := Lib.hid hW
          have HB2 := Lib.hid (hb.out.trans (hB'.mono hb.out.size))
          clear hW hB' hrow hsp hb
          go_wp2_with (at_builtin; refine wpList_append_run rfl (.tmp 16) (.tmp 17) 43 rfl rfl rfl hap ?_)
          go_roundw
          case rel =>
            refine ⟨A.length + 1, by omega, by go_num, .inr ⟨by omega, wr.heap.size + 1, cap', hle, rfl, ?_⟩, HB2.out⟩
            rw [show A.length + 1 - A.length - 1 = 0 by omega, List.take_zero]
            exact HW.out
          case measure => simp [intOf]; omega
        · have hxe := hxf hke
          clear hxt hxf
          have hfz := hrow.frozen 0
          have hce := hrow.cell (i := 0) (by omega)
          have hc1 : (⟨(A.take k).toArray⟩ : ByteArray) ++ ⟨#[x]⟩ = ⟨(A.take (k + 1)).toArray⟩ := by
            rw [HTA.out (by omega)]
            refine str_of ?_
            simp [ByteArray.data_append]
          have hsz1 : (⟨(A.take k).toArray⟩ : ByteArray).size ≤ 100 := by
            rw [sz_list]
            simp
            omega
          have HC := Lib.hid hc1
          have HR := Lib.hid hrow
          clear hc1 hrow hsp
          generalize (⟨(A.take k).toArray⟩ : ByteArray) = c at *
          go_wp2
          go_region
          go_wp2
          go_roundw
          case rel =>
            refine ⟨k + 1, by omega, by go_num, .inl ⟨by omega, rfl, ?_⟩, (hb.out.setCell (Nat.le_refl _) _).drew⟩
            refine ((HR.out.set 0 _).congr (fun i hi => ?_)).drew
            rw [if_pos (by omega), HC.out]
          case measure => simp [intOf]; omega
      · have hxe := hxf (by omega)
        clear hxt hxf
        have hfz := hrow.frozen 1
        have hce := hrow.cell (i := 1) (by omega)
        simp only [f2, if_neg (by decide : ¬ (1 : Nat) = 0)] at hce
        have hc1 : (⟨(B.take (k - A.length - 1)).toArray⟩ : ByteArray) ++ ⟨#[x]⟩ = ⟨(B.take (k + 1 - A.length - 1)).toArray⟩ := by
          rw [HTB.out (by omega)]
          refine str_of ?_
          simp [ByteArray.data_append]
        have hsz1 : (⟨(B.take (k - A.length - 1)).toArray⟩ : ByteArray).size ≤ 100 := by
          rw [sz_list]
          simp
          omega
        have HC := Lib.hid hc1
        have HR := Lib.hid hrow
        clear hc1 hrow hsp
        generalize (⟨(B.take (k - A.length - 1)).toArray⟩ : ByteArray) = c at *
        go_wp2
        go_region
        go_wp2
        go_roundw
        case rel =>
          refine ⟨k + 1, by omega, by go_num, .inr ⟨by omega, b, cap, hbb, rfl, ?_⟩, (hb.out.setCell hbb _).drew⟩
          refine ((HR.out.set 1 _).congr (fun i hi => ?_)).drew
          match i, hi with
          | 0, _ => simp [f2]
          | 1, _ => simp [f2, HC.out]
        case measure => simp [intOf]; omega
    · have hke : k = s.size := by omega
      have hln := HLEN.out
      rcases hsp.out with ⟨hkA, -, -⟩ | ⟨hkA, b, cap, hbb, rfl, hrow⟩
      · omega
      · have c0 := hrow.cell (i := 0) (by omega)
        have c1 := hrow.cell (i := 1) (by omega)
        simp only [f2, if_true, if_neg (by decide : ¬ (1 : Nat) = 0)] at c0 c1
        rw [show k - A.length - 1 = B.length by omega, List.take_length] at c1
        clear hsp hrow
        have C0 := Lib.hid c0
        have C1 := Lib.hid c1
        clear c0 c1
        go_wp2
        go_ret
        exact ⟨b, cap, rfl, C0.out, C1.out, hb.out⟩

end Go.Proofs.YtjmoinaikedmlaaDoor
