/- Contracts: UnmarshalString, impl.Of -/
import Derived.Test.YtjmoinaikedmlaaDoorR
import Derived.Defers
import Derived.Recover
namespace Go.Proofs.YtjmoinaikedmlaaDoor
open Go.ChangeShapes Go.WideShapes Go.ChangeAt Go.RowKit
set_option linter.unusedVariables false

theorem N_zero {N : Nat} (h : N < 2 ^ 64) (hz : ∀ k, k < 8 → Pl.byt N k = 0) : N = 0 := by
  rw [← Pl.pack_byt h, hz 0 (by omega), hz 1 (by omega), hz 2 (by omega), hz 3 (by omega), hz 4 (by omega), hz 5 (by omega), hz 6 (by omega), hz 7 (by omega)]
  rfl

theorem un9 (id n N : Nat) (rm ex : Bool) (p : Nat) (c0 : Nat → Value) (w : World) (h1 : id < 16 ^ idD ex) (hn : n ≤ 8) (hN : N < 2 ^ 64) (hok : ∀ k, k < 8 → okP n N rm k) (ev : Value) (hE : w.cell? ⟨0, 0, none⟩ = some ev) (hp : RowS w p 32 12 c0) :
    Calls Tryd.prog 9 #[.pointer (some ⟨p, 0, none⟩), .string ⟨(textL id n N rm ex).toArray⟩] w fun e w' => e = .returned .nilIface ∧ Below p w w' ∧ RowS w' p 32 12 (canF id n N rm ex) := by
  cases rm
  · rcases Nat.eq_zero_or_pos n with rfl | h0
    · have : N = 0 := N_zero hN fun k hk => by
        rcases hok k hk with h | h
        · exact h
        · have := h.2; omega
      subst this
      exact un9_empty id 0 ex p c0 w h1 hp
    · exact un9_bytes id n N ex p c0 w h1 h0 hn (fun k hk hk8 => by
        rcases hok k hk8 with h | h
        · exact h
        · have := h.2; omega) ev hE hp
  · have : N = 0 := N_zero hN fun k hk => by
      rcases hok k hk with h | h
      · exact h
      · exact absurd h.1 (by decide)
    subst this
    rcases Nat.eq_zero_or_pos n with rfl | h0
    · exact un9_rm0 id 0 ex p c0 w h1 hp
    · exact un9_rmn id n 0 ex p c0 w h1 h0 hn hp

theorem idle8 (p q : Addr) (w : World) :
    CallsD Tryd.prog 8 #[.pointer (some p), .pointer (some q)] .returning w fun e u' w' => e = .returned (.tuple #[]) ∧ u' = .returning ∧ w' = w := by
  refine callsD_of_wpS Tryd.func8 rfl fun c₀ cs hu => ?_
  apply wpS_seq
  apply wpS_region
  simp [wpOpsS, go_sem, recoverD, hu, Tryd.ntmps8, Exit.thenS]
  refine wpS_cond (t := false) (by simp [Act.eval, Array.replicate]) ?_
  simp only [Bool.false_eq_true, if_false]
  refine wpS_of_wp (wp_skip ?_)
  cases c₀
  simp_all [bodyPostS, results, Tryd.results8]

theorem RowS.alloc {w : World} {b t n : Nat} {f : Nat → Value} (h : RowS w b t n f) (o : Obj) : RowS (w.alloc o) b t n f := by
  obtain ⟨c, hc, h1, h2⟩ := h
  exact ⟨c, by rw [Below.heap_alloc _ _ _ (Array.getElem?_eq_some_iff.1 hc).1, hc], h1, h2⟩

theorem wrap_id (id : Nat) (ex : Bool) (h : id < 16 ^ idD ex) : wrap64 (id : Int) = id := by
  have : id < 4294967296 := Nat.lt_of_lt_of_le h (by unfold idD; split <;> decide)
  unfold wrap64
  omega

def frF (id n : Int) (N : Nat) (rm ex : Bool) : Nat → Value := fun i => (frCells id n N rm ex).getD i undef

/-- the world with the two results and the frame -/
def ofW (w : World) : World := ((w.alloc (.cells (frCells 0 0 0 false false) 24)).alloc (.cells #[.bool false] 4)).alloc (.cells (canCells 0 0 0 false false) 32)

theorem of_start (w : World) : RowS (ofW w) w.heap.size 24 12 (frF 0 0 0 false false) ∧ RowS (ofW w) (w.heap.size + 1) 4 1 (fun _ => .bool false) ∧ RowS (ofW w) (w.heap.size + 1 + 1) 32 12 (canF 0 0 0 false false) ∧
    Below w.heap.size w (ofW w) := by
  have e1 : (w.alloc (.cells (frCells 0 0 0 false false) 24)).heap.size = w.heap.size + 1 := by simp
  have e2 : ((w.alloc (.cells (frCells 0 0 0 false false) 24)).alloc (.cells #[.bool false] 4)).heap.size = w.heap.size + 1 + 1 := by simp
  have r1 : RowS (w.alloc (.cells (frCells 0 0 0 false false) 24)) w.heap.size 24 12 (frF 0 0 0 false false) := RowS.new _ _ _ _ _ (Nat.le_refl 12) (fun i hi => by
    have h : i < (frCells 0 0 0 false false).size := hi
    rw [Array.getElem?_eq_getElem h]
    simp [frF, Array.getD, h])
  have r2 : RowS ((w.alloc (.cells (frCells 0 0 0 false false) 24)).alloc (.cells #[.bool false] 4)) (w.heap.size + 1) 4 1 (fun _ => .bool false) := by
    rw [← e1]
    exact RowS.new _ _ _ _ _ (Nat.le_refl 1) (fun i hi => by
      match i, hi with
      | 0, _ => rfl)
  have r3 := can_new ((w.alloc (.cells (frCells 0 0 0 false false) 24)).alloc (.cells #[.bool false] 4)) 0 0 0 false false
  rw [e2] at r3
  exact ⟨(r1.alloc _).alloc _, r2.alloc _, r3, (((Below.refl _ w).alloc (Nat.le_refl _) _).alloc (by rw [e1]; omega) _).alloc (by rw [e2]; omega) _⟩

set_option maxRecDepth 100000 in
set_option maxHeartbeats 2000000 in
theorem of5 (id n N : Nat) (rm ex : Bool) (w : World) (h1 : id < 16 ^ idD ex) (hn : n ≤ 8) (hN : N < 2 ^ 64) (hok : ∀ k, k < 8 → okP n N rm k) (ev : Value) (hE : w.cell? ⟨0, 0, none⟩ = some ev) :
    Calls Tryd.prog 5 #[.string ⟨(textL id n N rm ex).toArray⟩] w fun e w' => e = .returned (.tuple #[.agg (frCells id n N rm ex), .bool true]) ∧ Below w.heap.size w w' := by
  have hz : (⟨(textL id n N rm ex).toArray⟩ : ByteArray).size ≤ 100 := by
    rw [sz_list]
    show (textL id n N rm ex).length ≤ 100
    rw [textL_rest]
    have := rest_size n N rm hn
    simp [hexS_length]
    unfold idD
    split <;> omega
  have HU := Lib.hid fun (p : Nat) (c0 : Nat → Value) (W : World) (hW : Below w.heap.size w W) (hp : RowS W p 32 12 c0) => un9 id n N rm ex p c0 W h1 hn hN hok ev ((hW.cell (cell_lt hE)).trans hE) hp
  have hwrap : wrap64 (id : Int) = id := wrap_id id ex h1
  have hmf : ∀ (fn : Fn) (first cap : Array Value) (w : World), (Instr.makeFunc fn first cap).run Tryd.prog w = .ok (.func fn first cap) w := fun _ _ _ _ => rfl
  generalize (⟨(textL id n N rm ex).toArray⟩ : ByteArray) = S at *
  clear hok hE
  unfold frCells
  go_enter_defers Tryd.func5, Tryd.ntmps5
  go_wp2_with fail
  obtain ⟨r1, r2, r3, hB⟩ := of_start w
  refine (HU.out (w.heap.size + 1 + 1) (canF 0 0 0 false false) (ofW w) hB r3).mono ?_
  rintro e w' ⟨rfl, hB2, r3'⟩
  have r1' := Below.row hB2 (by omega) r1
  have r2' := Below.row hB2 (by omega) r2
  have hB' := hB.trans (hB2.mono (by omega))
  obtain ⟨d0, d1, d2, d3, d4, d5, d6, d7, d8, d9, d10, d11⟩ := r3'.can
  obtain ⟨p0, p1, p2, p3, p4, p5, p6, p7, p8, p9, p10, p11⟩ := r1'.twelve
  have q0 := r2'.cell (i := 0) (by omega)
  have f1 := fun i => r1'.frozen i
  have f2 := fun i => r2'.frozen i
  have f3 := fun i => r3'.frozen i
  have HB := Lib.hid hB'
  clear r1 r2 r3 r1' r2' r3' hB hB2 hB' HU
  go_wp2_with fail
  refine leaves_cons (f := 8) (args := #[.pointer (some ⟨w.heap.size, 0, none⟩), .pointer (some ⟨w.heap.size + 1, 0, none⟩)]) (by simp) (by simp [go_sem]) ?_
  refine (idle8 ⟨w.heap.size, 0, none⟩ ⟨w.heap.size + 1, 0, none⟩ _).mono ?_
  rintro e u' w'' ⟨rfl, rfl, rfl⟩
  have hb := HB.out
  clear HB
  have l0 : w.heap.size ≤ w.heap.size := Nat.le_refl _
  have l1 : w.heap.size ≤ w.heap.size + 1 := Nat.le_succ _
  refine ⟨.tuple #[.agg #[.int .i64 id, .int .i64 n, .int .u8 (Pl.byt N 0 : Nat), .int .u8 (Pl.byt N 1 : Nat), .int .u8 (Pl.byt N 2 : Nat), .int .u8 (Pl.byt N 3 : Nat), .int .u8 (Pl.byt N 4 : Nat), .int .u8 (Pl.byt N 5 : Nat), .int .u8 (Pl.byt N 6 : Nat), .int .u8 (Pl.byt N 7 : Nat), .bool rm, .bool ex], .bool true], ?_, rfl,
    (((((((((((((hb.setCell l0 _).setCell l0 _).setCell l0 _).setCell l0 _).setCell l0 _).setCell l0 _).setCell l0 _).setCell l0 _).setCell l0 _).setCell l0 _).setCell l0 _).setCell l0 _).setCell l1 _)⟩
  simp [results, Tryd.results5, go_sem, *]

end Go.Proofs.YtjmoinaikedmlaaDoor
