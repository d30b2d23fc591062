/- Contracts of the small functions (the like of seat y1's, by program) -/
import Derived.Test.YtfffcmjpkpdmlaaPlain
import Derived.WalkKit
import Derived.ProofKit
import Derived.OpenShut
import Derived.Outline
import Derived.Lib.Hide
import Derived.Deep.Fields
import Derived.Deep.RegionHeld3
import Derived.WalkLawsBesides
namespace Go.Proofs.Ytfffcmjpkpdmlaa
open Go.ChangeShapes Go.WideShapes Go.ChangeAt Go.RowKit
set_option linter.unusedVariables false

theorem ret_bool {a b : Bool} (h : a = b) : Ending.returned (.bool a) = .returned (.bool b) := by rw [h]
theorem ret_int {k : IntKind} {a b : Int} (h : a = b) : Ending.returned (.int k a) = .returned (.int k b) := by rw [h]

theorem grown_trans {a b c : World} (h : Grown a b) (k : Grown b c) : Grown a c :=
  ⟨World.keptBut_trans h.1 k.1, fun x => (k.2.1 x).trans (h.2.1 x), Nat.le_trans h.2.2 k.2.2⟩

theorem fits_eq (v l : Nat) : (((v : Int) / 2 ^ l == 0) : Bool) = decide (v < 2 ^ l) := by
  have hp : 0 < 2 ^ l := Nat.two_pow_pos l
  have e : (v : Int) / 2 ^ l = ((v / 2 ^ l : Nat) : Int) := by simp
  rw [e, Bool.eq_iff_iff]
  simp only [beq_iff_eq, decide_eq_true_eq]
  rw [show ((v / 2 ^ l : Nat) : Int) = 0 ↔ v / 2 ^ l = 0 by omega, Nat.div_eq_zero_iff]
  omega

theorem fits16 (v l : Nat) (w : World) (hv : v < 2 ^ 64) (hl : l ≤ 64) :
    Calls Try.prog 18 #[.int .u64 v, .int .i64 l] w fun e w' => e = .returned (.bool (decide (v < 2 ^ l))) ∧ w' = w := by
  by_cases h : l = 64
  · subst h
    go_enter Try.func18, Try.ntmps18
    go_wp2
    go_ret
    exact ⟨ret_bool (by simp at hv; simp [hv]), rfl⟩
  · have h' : l < 64 := by omega
    go_enter Try.func18, Try.ntmps18
    go_wp2
    go_ret
    exact ⟨ret_bool (by rw [fits_eq]; have : ¬ (64 : Int) ≤ l := by omega
                        simp [this]), rfl⟩


theorem plI_lo {s l k : Nat} (h : (s : Int) + k ≤ 63) : (s : Int) + k = Pl.plI s l k false := by unfold Pl.plI; simp; omega
theorem plI_hi {s l k : Nat} (h : 63 < (s : Int) + k) : -1 = Pl.plI s l k false := by unfold Pl.plI; simp; omega
theorem plI_neg {s l k m : Nat} (hm : m ≤ l - 1 - k) (hn : ¬ m < l - 1 - k) (hk : k < l) (h : 7 < 7 - ((Pl.inv s : Int) - m) / 8) : -1 = Pl.plI s l k true := by
  have em : (m : Int) = (l : Int) - 1 - k := by omega
  unfold Pl.plI; rw [← em, if_pos rfl, if_pos (by omega)]
theorem plI_pos {s l k m : Nat} (hm : m ≤ l - 1 - k) (hn : ¬ m < l - 1 - k) (hk : k < l) (h : 7 - ((Pl.inv s : Int) - m) / 8 ≤ 7) : 8 * (7 - ((Pl.inv s : Int) - m) / 8) + ((Pl.inv s : Int) - m) % 8 = Pl.plI s l k true := by
  have em : (m : Int) = (l : Int) - 1 - k := by omega
  unfold Pl.plI; rw [← em, if_pos rfl, if_neg (by omega)]

theorem place54 (s l k : Nat) (big : Bool) (w : World) (hs : s < 64) (hl : l ≤ 64) (hk : k < l) :
    Calls Try.prog 20 #[.int .i64 s, .int .i64 l, .int .i64 k, .bool big] w fun e w' => e = .returned (.int .i64 (Pl.plI s l k big)) ∧ w = w' := by
  cases big
  · go_enter Try.func20, Try.ntmps20
    go_wp2
    all_goals
      go_ret
      first | exact ⟨ret_int (plI_hi (by assumption)), rfl⟩ | exact ⟨ret_int (plI_lo (by assumption)), rfl⟩
  · have hi := Pl.inv_lt hs
    have e1 : (s : Int) / 8 = 7 - (Pl.inv s : Int) / 8 := by unfold Pl.inv; omega
    have e2 : (s : Int) % 8 = (Pl.inv s : Int) % 8 := by unfold Pl.inv; omega
    have E1 := Lib.hid e1
    have E2 := Lib.hid e2
    clear e1 e2
    go_enter Try.func20, Try.ntmps20
    go_wp2
    go_loop [9, 10, 11] (fun r c n => ∃ m : Nat, m ≤ l - 1 - k ∧ r = .int .i64 (7 - ((Pl.inv s : Int) - m) / 8) ∧ c = .int .i64 (((Pl.inv s : Int) - m) % 8) ∧ n = .int .i64 ((l : Int) - 1 - k - m)) (fun _ _ n => (intOf n).toNat)
    case atStart => exact ⟨0, by omega, by rw [E1.out]; simp, by rw [E2.out]; simp, by simp⟩
    case round =>
      obtain ⟨m, hm, rfl, rfl, rfl⟩ := hrel
      by_cases hlt : m < l - 1 - k
      · go_wp2
        all_goals
          go_round
          case rel => exact ⟨m + 1, by omega, by congr 1; omega, by congr 1; omega, by congr 1; omega⟩
          case measure => simp [intOf]; omega
      · go_wp2
        all_goals
          go_ret
          first | exact ⟨ret_int (plI_neg hm hlt hk (by assumption)), rfl⟩ | exact ⟨ret_int (plI_pos hm hlt hk (by assumption)), rfl⟩


theorem range28_out (bytes : Nat) (s l : Int) (big : Bool) (w : World) (_h8 : bytes ≤ 8) (h : ¬ (0 ≤ s ∧ s ≤ 63 ∧ 1 ≤ l ∧ l ≤ 64)) :
    Calls Try.prog 12 #[.int .i64 bytes, .int .i64 s, .int .i64 l, .bool big] w fun e w' => e = .returned (.bool false) ∧ w = w' := by
  by_cases h1 : s < 0
  · go_enter Try.func12, Try.ntmps12
    go_wp2
    all_goals
      go_ret
      exact ⟨rfl, rfl⟩
  · by_cases h2 : 63 < s
    · go_enter Try.func12, Try.ntmps12
      go_wp2
      all_goals
        go_ret
        exact ⟨rfl, rfl⟩
    · by_cases h3 : l < 1
      · go_enter Try.func12, Try.ntmps12
        go_wp2
        all_goals
          go_ret
          exact ⟨rfl, rfl⟩
      · have h4 : 64 < l := by omega
        go_enter Try.func12, Try.ntmps12
        go_wp2
        all_goals
          go_ret
          exact ⟨rfl, rfl⟩

theorem range28_yes (bytes s l : Nat) (big : Bool) (w : World) (h8 : bytes ≤ 8) (hs : s < 64) (h1 : 1 ≤ l) (hl : l ≤ 64) (hr : Pl.okR bytes s l big = true) :
    Calls Try.prog 12 #[.int .i64 bytes, .int .i64 s, .int .i64 l, .bool big] w fun e w' => e = .returned (.bool true) ∧ w = w' := by
  have hp := fun k (hk : k < l) => Pl.plI_ok hs hl hk hr
  have HP := Lib.hid hp
  clear hp hr
  go_enter Try.func12, Try.ntmps12
  go_wp2
  go_loop [9] (fun n => ∃ k : Nat, k ≤ l ∧ n = .int .i64 k) (fun n => l - (intOf n).toNat)
  case atStart => exact ⟨0, by omega, rfl⟩
  case round =>
    obtain ⟨k, hk, rfl⟩ := hrel
    by_cases hlt : k < l
    · obtain ⟨q1, q2⟩ := HP.out k hlt
      go_wp2_with (go_at_call 20; refine (place54 s l k big _ hs hl hlt).mono ?_; rintro e w' ⟨rfl, rfl⟩)
      go_round
      case rel => exact ⟨k + 1, by omega, by go_num⟩
      case measure => simp [intOf]; omega
    · go_wp2
      go_ret
      exact ⟨rfl, rfl⟩

theorem range28_no (bytes s l : Nat) (big : Bool) (w : World) (h8 : bytes ≤ 8) (hs : s < 64) (h1 : 1 ≤ l) (hl : l ≤ 64) (hr : Pl.okR bytes s l big = false) :
    Calls Try.prog 12 #[.int .i64 bytes, .int .i64 s, .int .i64 l, .bool big] w fun e w' => e = .returned (.bool false) ∧ w = w' := by
  obtain ⟨k0, hk0, hbad⟩ := Pl.plI_bad hs h1 hr h8
  have HB := Lib.hid hbad
  clear hbad hr
  go_enter Try.func12, Try.ntmps12
  go_wp2
  go_loop [9] (fun n => ∃ k : Nat, k ≤ k0 ∧ n = .int .i64 k) (fun n => l - (intOf n).toNat)
  case atStart => exact ⟨0, by omega, rfl⟩
  case round =>
    obtain ⟨k, hk, rfl⟩ := hrel
    have hlt : k < l := by omega
    go_wp2_with (go_at_call 20; refine (place54 s l k big _ hs hl hlt).mono ?_; rintro e w' ⟨rfl, rfl⟩)
    all_goals first
      | (go_ret; exact ⟨rfl, rfl⟩)
      | (have hne : k ≠ k0 := by
           rintro rfl
           have := HB.out
           omega
         go_round
         case rel => exact ⟨k + 1, by omega, by go_num⟩
         case measure => simp [intOf]; omega)

theorem range28 (bytes s l : Nat) (big : Bool) (w : World) (h8 : bytes ≤ 8) (hs : s < 64) (h1 : 1 ≤ l) (hl : l ≤ 64) :
    Calls Try.prog 12 #[.int .i64 bytes, .int .i64 s, .int .i64 l, .bool big] w fun e w' => e = .returned (.bool (Pl.okR bytes s l big)) ∧ w = w' := by
  cases hr : Pl.okR bytes s l big
  · exact range28_no bytes s l big w h8 hs h1 hl hr
  · exact range28_yes bytes s l big w h8 hs h1 hl hr

theorem inside55 (s l : Nat) (w : World) (hs : s < 64) (hl : l ≤ 64) :
    Calls Try.prog 21 #[.int .i64 s, .int .i64 l] w fun e w' => e = .returned (.bool true) ∧ w = w' := by
  go_enter Try.func21, Try.ntmps21
  go_wp2
  go_ret
  exact ⟨ret_bool (by simp; omega), rfl⟩

/-- what a signal's struct holds -/
def sigCells (s l : Int) (big sg fl : Bool) (f1 f2 f3 f4 : Nat) : Array Value :=
  #[.int .i64 s, .int .i64 l, .bool big, .bool sg, .bool fl, .float .f64 f1, .float .f64 f2, .float .f64 f3, .float .f64 f4]

/-- what the package's struct of a signal holds -/
def desCells (s l : Int) (big sg fl : Bool) (f1 f2 f3 f4 : Nat) : Array Value :=
  #[.string ⟨#[]⟩, .int .u8 s, .int .u8 l, .bool big, .bool sg, .bool fl, .bool false, .bool false, .int .u64 0, .float .f64 f2, .float .f64 f1, .float .f64 f3, .float .f64 f4, .string ⟨#[]⟩, .string ⟨#[]⟩, .slice none 0 0, .slice none 0 0, .int .i64 0]

theorem pow_cast (l : Nat) : (2 : Int) ^ l = ((2 ^ l : Nat) : Int) := by simp
theorem pow_le {l m : Nat} (h : l ≤ m) : (2 : Nat) ^ l ≤ 2 ^ m := Nat.pow_le_pow_right (by decide) h
theorem pow_dbl {l : Nat} (h : 1 ≤ l) : (2 : Nat) ^ l = 2 * 2 ^ (l - 1) := by
  rw [Nat.mul_comm, ← Nat.pow_succ]; congr 1; omega

theorem maxu_eq {l : Nat} (hl : l ≤ 64) : IntKind.u64.wrap (IntKind.u64.wrap (2 ^ l) - 1) = ((2 ^ l - 1 : Nat) : Int) := by
  have h := pow_le hl
  have h0 := Nat.two_pow_pos l
  rw [pow_cast, IntKind.wrap_u64, IntKind.wrap_u64]
  generalize 2 ^ l = x at *
  omega
theorem maxu_eq2 {l : Nat} (h1 : 1 ≤ l) (hl : l ≤ 64) : IntKind.u64.wrap (IntKind.u64.wrap (2 * 2 ^ (l - 1)) - 1) = ((2 ^ l - 1 : Nat) : Int) := by
  rw [← maxu_eq hl, pow_cast, pow_cast, pow_dbl h1]; simp
theorem mins_eq {l : Nat} (hl : l ≤ 62) : wrap64 (-2 ^ (l - 1)) = -((2 ^ (l - 1) : Nat) : Int) := by
  have h := pow_le (show l - 1 ≤ 61 by omega)
  rw [pow_cast]
  generalize 2 ^ (l - 1) = x at *
  unfold wrap64
  omega
theorem maxs_eq {l : Nat} (hl : l ≤ 62) : wrap64 (IntKind.u64.wrap (IntKind.u64.wrap (2 ^ (l - 1)) - 1)) = ((2 ^ (l - 1) - 1 : Nat) : Int) := by
  have h := pow_le (show l - 1 ≤ 61 by omega)
  have h0 := Nat.two_pow_pos (l - 1)
  rw [pow_cast, IntKind.wrap_u64, IntKind.wrap_u64]
  generalize 2 ^ (l - 1) = x at *
  unfold wrap64
  omega
theorem half_eq {l : Nat} (hl : l ≤ 62) : wrap64 ((wrap64 (2 * 2 ^ (l - 1))).tdiv 2) = ((2 ^ (l - 1) : Nat) : Int) := by
  have h := pow_le (show l - 1 ≤ 61 by omega)
  rw [pow_cast]
  generalize 2 ^ (l - 1) = x at *
  rw [show wrap64 (2 * (x : Int)) = 2 * (x : Int) by unfold wrap64; omega, Int.tdiv_eq_ediv_of_nonneg (by omega)]
  unfold wrap64
  omega
theorem mins_eq2 {l : Nat} (hl : l ≤ 62) : wrap64 (-wrap64 ((wrap64 (2 * 2 ^ (l - 1))).tdiv 2)) = -((2 ^ (l - 1) : Nat) : Int) := by
  rw [half_eq hl]
  have h := pow_le (show l - 1 ≤ 61 by omega)
  generalize 2 ^ (l - 1) = x at *
  unfold wrap64
  omega
theorem maxs_eq2 {l : Nat} (hl : l ≤ 62) : wrap64 (wrap64 ((wrap64 (2 * 2 ^ (l - 1))).tdiv 2) - 1) = ((2 ^ (l - 1) - 1 : Nat) : Int) := by
  rw [half_eq hl]
  have h := pow_le (show l - 1 ≤ 61 by omega)
  have h0 := Nat.two_pow_pos (l - 1)
  generalize 2 ^ (l - 1) = x at *
  unfold wrap64
  omega

theorem max47 (b : Nat) (l : Nat) (w : World) (h1 : 1 ≤ l) (hl : l ≤ 64) (hc : w.cell? ⟨b, 2, none⟩ = some (.int .u8 l)) :
    Calls Try.prog 26 #[.pointer (some ⟨b, 0, none⟩)] w fun e w' => e = .returned (.int .u64 ((2 ^ l - 1 : Nat) : Int)) ∧ w = w' := by
  go_enter Try.func26, Try.ntmps26
  go_wp2
  go_ret
  exact ⟨ret_int (maxu_eq2 h1 hl), rfl⟩
theorem min48 (b : Nat) (l : Nat) (w : World) (h1 : 1 ≤ l) (hl : l ≤ 62) (hc : w.cell? ⟨b, 2, none⟩ = some (.int .u8 l)) :
    Calls Try.prog 24 #[.pointer (some ⟨b, 0, none⟩)] w fun e w' => e = .returned (.int .i64 (-((2 ^ (l - 1) : Nat) : Int))) ∧ w = w' := by
  go_enter Try.func24, Try.ntmps24
  go_wp2
  go_ret
  exact ⟨ret_int (mins_eq2 hl), rfl⟩
theorem maxs49 (b : Nat) (l : Nat) (w : World) (h1 : 1 ≤ l) (hl : l ≤ 62) (hc : w.cell? ⟨b, 2, none⟩ = some (.int .u8 l)) :
    Calls Try.prog 25 #[.pointer (some ⟨b, 0, none⟩)] w fun e w' => e = .returned (.int .i64 ((2 ^ (l - 1) - 1 : Nat) : Int)) ∧ w = w' := by
  go_enter Try.func25, Try.ntmps25
  go_wp2
  go_ret
  exact ⟨ret_int (maxs_eq2 hl), rfl⟩

theorem sig46 (s l : Nat) (big sg fl : Bool) (f1 f2 f3 f4 : Nat) (w : World) (hs : s < 64) (h1 : 1 ≤ l) (hl : l ≤ 64) :
    Calls Try.prog 14 #[.agg (sigCells s l big sg fl f1 f2 f3 f4)] w fun e w' => e = .returned (.tuple #[.pointer (some ⟨w.heap.size + 1, 0, none⟩), .bool true]) ∧
      (w.alloc (.cells (sigCells s l big sg fl f1 f2 f3 f4) 24)).alloc (.cells (desCells s l big sg fl f1 f2 f3 f4) 49) = w' := by
  unfold sigCells desCells
  go_enter Try.func14, Try.ntmps14
  go_wp2_with fail
  refine (inside55 s l _ hs hl).mono ?_
  rintro e w' ⟨rfl, rfl⟩
  go_wp2_with fail
  go_ret2
  exact ⟨rfl, rfl⟩

theorem isig17_out (s l : Int) (big sg fl : Bool) (f1 f2 f3 f4 : Nat) (w : World) (h : ¬ (0 ≤ s ∧ s ≤ 63 ∧ 1 ≤ l ∧ l ≤ 64)) :
    Calls Try.prog 5 #[.agg (sigCells s l big sg fl f1 f2 f3 f4)] w fun e w' => e = .returned (.bool false) ∧ Grown w w' := by
  unfold sigCells
  cases fl
  · go_enter Try.func5, Try.ntmps5
    go_wp2_with fail
    refine (range28_out 8 s l big _ (by omega) h).mono ?_
    rintro e w' ⟨rfl, rfl⟩
    go_wp2_with fail
    go_ret
    exact ⟨rfl, (Grown.refl _).alloc _ _⟩
  · go_enter Try.func5, Try.ntmps5
    go_wp2_with fail
    go_ret
    exact ⟨rfl, (Grown.refl _).alloc _ _⟩

theorem isig17 (s l : Nat) (big sg fl : Bool) (f1 f2 f3 f4 : Nat) (w : World) (hs : s < 64) (h1 : 1 ≤ l) (hl : l ≤ 64) :
    Calls Try.prog 5 #[.agg (sigCells s l big sg fl f1 f2 f3 f4)] w fun e w' => e = .returned (.bool (!fl && Pl.okR 8 s l big)) ∧ Grown w w' := by
  unfold sigCells
  cases fl
  · go_enter Try.func5, Try.ntmps5
    go_wp2_with fail
    refine (range28 8 s l big _ (by omega) hs h1 hl).mono ?_
    rintro e w' ⟨rfl, rfl⟩
    go_wp2_with fail
    go_ret
    exact ⟨rfl, (Grown.refl _).alloc _ _⟩
  · go_enter Try.func5, Try.ntmps5
    go_wp2_with fail
    go_ret
    exact ⟨rfl, (Grown.refl _).alloc _ _⟩

theorem array9 {α : Type} {cs : Array α} (h : cs.size = 9) : ∃ c0 c1 c2 c3 c4 c5 c6 c7 c8, cs = #[c0, c1, c2, c3, c4, c5, c6, c7, c8] := by
  obtain ⟨l⟩ := cs
  match l, h with
  | [c0, c1, c2, c3, c4, c5, c6, c7, c8], _ => exact ⟨c0, c1, c2, c3, c4, c5, c6, c7, c8, rfl⟩
theorem list9 {α : Type} {l : List α} (h : l.length = 9) : ∃ c0 c1 c2 c3 c4 c5 c6 c7 c8, l = [c0, c1, c2, c3, c4, c5, c6, c7, c8] := by
  match l, h with
  | [c0, c1, c2, c3, c4, c5, c6, c7, c8], _ => exact ⟨c0, c1, c2, c3, c4, c5, c6, c7, c8, rfl⟩
section
variable {H : Type} {enc : TypeId × Value → H} {P : Program} {w : World} {base : Nat} {spare : Nat → Bool} {held : Bool}

theorem one_i64 {e : TypeId} (he : P.underlying e = some (.int .i64)) {m : Nat} {c : Value} {y : DataW H × List MemPlace} (h : DataW.trod enc P w base spare held m e [c] = some y) :
    ∃ n : Int, c = .int .i64 n ∧ (Lit.int .i64 n).wf = true ∧ y.2 = [] := by
  obtain ⟨a, hc, hy, hw⟩ := DataW.trod_int he h
  simp only [List.cons.injEq, and_true] at hc
  exact ⟨a, hc, hw, by rw [hy]⟩
theorem one_bool {e : TypeId} (he : P.underlying e = some .bool) {m : Nat} {c : Value} {y : DataW H × List MemPlace} (h : DataW.trod enc P w base spare held m e [c] = some y) :
    ∃ b : Bool, c = .bool b ∧ y.2 = [] := by
  obtain ⟨b, hc, hy⟩ := DataW.trod_bool he h
  simp only [List.cons.injEq, and_true] at hc
  exact ⟨b, hc, by rw [hy]⟩
theorem one_float {e : TypeId} (he : P.underlying e = some (.float .f64)) {m : Nat} {c : Value} {y : DataW H × List MemPlace} (h : DataW.trod enc P w base spare held m e [c] = some y) :
    ∃ b : Nat, c = .float .f64 b ∧ (Lit.float .f64 b).wf = true ∧ y.2 = [] := by
  cases m with
  | zero => simp [DataW.trod] at h
  | succ n =>
    unfold DataW.trod at h
    rw [he] at h
    cases c <;> simp at h
    rename_i k b
    obtain ⟨⟨rfl, h1⟩, rfl⟩ := h
    exact ⟨b, rfl, h1, rfl⟩

set_option maxRecDepth 100000 in
theorem open_sig {r : Reach} {b0 : Nat} {v : Value} {d : DataW H} {p : List MemPlace} (hv : Value.okWide Try.prog w r b0 24 v) (h : DataW.Trod enc Try.prog w base spare held 24 v d p) :
    ∃ (s l : Int) (big sg fl : Bool) (f1 f2 f3 f4 : Nat), v = .agg (sigCells s l big sg fl f1 f2 f3 f4) ∧ p = [] ∧ (Lit.int .i64 s).wf = true ∧ (Lit.int .i64 l).wf = true ∧ (Lit.float .f64 f1).wf = true ∧ (Lit.float .f64 f2).wf = true ∧ (Lit.float .f64 f3).wf = true ∧ (Lit.float .f64 f4).wf = true := by
  have k24 : Try.prog.cellsOf 24 = 9 := by kernel_rfl
  have k3 : Try.prog.cellsOf 3 = 1 := by kernel_rfl
  have k4 : Try.prog.cellsOf 4 = 1 := by kernel_rfl
  have k22 : Try.prog.cellsOf 22 = 1 := by kernel_rfl
  obtain ⟨cs, rfl, hsz⟩ := okWide_struct Try.underlying24 hv
  obtain ⟨c0, c1, c2, c3, c4, c5, c6, c7, c8, rfl⟩ := array9 (hsz.trans k24)
  obtain ⟨fuel, hf⟩ := h
  obtain ⟨xs, m, _, hx, _, hlen, hg⟩ := DataW.trod_struct Try.underlying24 hf
  obtain ⟨y0, y1, y2, y3, y4, y5, y6, y7, y8, rfl⟩ := list9 hlen
  simp only [Prod.mk.injEq] at hx
  have g0 := hg 0 _ rfl
  have g1 := hg 1 _ rfl
  have g2 := hg 2 _ rfl
  have g3 := hg 3 _ rfl
  have g4 := hg 4 _ rfl
  have g5 := hg 5 _ rfl
  have g6 := hg 6 _ rfl
  have g7 := hg 7 _ rfl
  have g8 := hg 8 _ rfl
  simp [k3, k4, k22, Value.cells] at g0 g1 g2 g3 g4 g5 g6 g7 g8
  obtain ⟨s, rfl, w0, e0⟩ := one_i64 Try.underlying3 g0
  obtain ⟨l, rfl, w1, e1⟩ := one_i64 Try.underlying3 g1
  obtain ⟨big, rfl, e2⟩ := one_bool Try.underlying4 g2
  obtain ⟨sg, rfl, e3⟩ := one_bool Try.underlying4 g3
  obtain ⟨fl, rfl, e4⟩ := one_bool Try.underlying4 g4
  obtain ⟨f1, rfl, w5, e5⟩ := one_float Try.underlying22 g5
  obtain ⟨f2, rfl, w6, e6⟩ := one_float Try.underlying22 g6
  obtain ⟨f3, rfl, w7, e7⟩ := one_float Try.underlying22 g7
  obtain ⟨f4, rfl, w8, e8⟩ := one_float Try.underlying22 g8
  exact ⟨s, l, big, sg, fl, f1, f2, f3, f4, rfl, by rw [hx.2]; simp [e0, e1, e2, e3, e4, e5, e6, e7, e8], w0, w1, w5, w6, w7, w8⟩

end

/-- an argument without places reads behind the call as it did -/
theorem read_again {H : Type} {enc : TypeId × Value → H} {W W' : World} {sp : Nat → Bool} {t : TypeId} {v : Value} {d : DataW H} (hr : Try.prog.readableRec t = true) (hrow : t < Try.prog.types.size)
    (h : DataW.Trod enc Try.prog W 0 (fun _ => true) true t v d []) : DataW.Trod enc Try.prog W' 0 sp true t v d [] := by
  have hl : laidOutB Try.prog = true := by kernel_rfl
  exact WideElems.Trod_stays hl hr hrow h (fun _ hx => nomatch hx) (fun _ hx => nomatch hx)

theorem grown_block {W w1 : World} (h : Grown W w1) {b : Nat} (hb : b < W.heap.size) : w1.heap[b]? = W.heap[b]? := by
  have hk := h.1.2.2 b hb
  have e1 : W.heap[b]? = some W.heap[b] := Array.getElem?_eq_getElem hb
  rw [e1] at hk ⊢
  split at hk
  · rename_i c t fr c' t' fr' q1 q2
    obtain ⟨rfl, rfl, hs, hc⟩ := hk
    rw [q2, ← e1]
    have hcc : c' = c := Array.ext_getElem? fun j => hc j (fun hf => hf)
    rw [hcc, ← q1, e1]
  · rename_i q1 q2
    rcases hk with hk | ⟨rfl, rfl⟩
    · exact hk.elim
    · rw [q2, ← q1]
  · exact hk

theorem grown_cell {W w1 : World} (h : Grown W w1) {p : Addr} (hb : p.block < W.heap.size) : w1.cell? p = W.cell? p :=
  World.cell?_of_block (w := W) (grown_block h hb)

theorem grown_frozen {W w1 : World} (h : Grown W w1) (p : Addr) : w1.frozen? p = W.frozen? p := h.2.1 p

/-- a block that holds a signal -/
def SigAt (w : World) (b : Nat) (s l : Int) (big sg fl : Bool) (f1 f2 f3 f4 : Nat) : Prop :=
  w.cell? ⟨b, 0, none⟩ = some (.int .i64 s) ∧ w.cell? ⟨b, 1, none⟩ = some (.int .i64 l) ∧ w.cell? ⟨b, 2, none⟩ = some (.bool big) ∧ w.cell? ⟨b, 3, none⟩ = some (.bool sg) ∧ w.cell? ⟨b, 4, none⟩ = some (.bool fl) ∧
  w.cell? ⟨b, 5, none⟩ = some (.float .f64 f1) ∧ w.cell? ⟨b, 6, none⟩ = some (.float .f64 f2) ∧ w.cell? ⟨b, 7, none⟩ = some (.float .f64 f3) ∧ w.cell? ⟨b, 8, none⟩ = some (.float .f64 f4)

theorem SigAt.new (w : World) (s l : Int) (big sg fl : Bool) (f1 f2 f3 f4 : Nat) (t : TypeId) : SigAt (w.alloc (.cells (sigCells s l big sg fl f1 f2 f3 f4) t)) w.heap.size s l big sg fl f1 f2 f3 f4 := by
  unfold SigAt sigCells
  refine ⟨?_, ?_, ?_, ?_, ?_, ?_, ?_, ?_, ?_⟩ <;> go_simp

theorem SigAt.grown {w w1 : World} {b : Nat} {s l : Int} {big sg fl : Bool} {f1 f2 f3 f4 : Nat} (h : SigAt w b s l big sg fl f1 f2 f3 f4) (hg : Grown w w1) (hb : b < w.heap.size) : SigAt w1 b s l big sg fl f1 f2 f3 f4 := by
  obtain ⟨h0, h1, h2, h3, h4, h5, h6, h7, h8⟩ := h
  exact ⟨(grown_cell hg hb).trans h0, (grown_cell hg hb).trans h1, (grown_cell hg hb).trans h2, (grown_cell hg hb).trans h3, (grown_cell hg hb).trans h4, (grown_cell hg hb).trans h5, (grown_cell hg hb).trans h6, (grown_cell hg hb).trans h7, (grown_cell hg hb).trans h8⟩

theorem keepS {W a b : World} {T : World → Prop} (HS : Hid (∀ w1, Grown W w1 → T w1)) (k : Grown a b) (h : Grown W a) : Grown W b ∧ T b := ⟨grown_trans h k, HS.out _ (grown_trans h k)⟩

/-- go on with a letter for the world -/
theorem wp_letter {P : Program} {c : Code} {Q : Exit → Act → World → Prop} {a : Act} {w : World} (S : World → Prop) (hS : S w) (h : ∀ W, S W → c.wp P Q a W) : c.wp P Q a w := h w hS

namespace Pl
/-- whether a start and a length stand within eight bytes -/
def rgB (s l : Int) (big : Bool) : Bool := decide (0 ≤ s ∧ s ≤ 63 ∧ 1 ≤ l ∧ l ≤ 64) && okR 8 s.toNat l.toNat big
def fitS (n : Int) (l : Nat) : Bool := decide (-((2 ^ (l - 1) : Nat) : Int) ≤ n) && decide (n < ((2 ^ (l - 1) : Nat) : Int))

theorem fits_lo {l : Nat} (hl : l ≤ 63) : wrap64 (-2 ^ (l - 1)) = -((2 ^ (l - 1) : Nat) : Int) := by
  have h := pow_le (show l - 1 ≤ 62 by omega)
  rw [pow_cast]
  generalize 2 ^ (l - 1) = x at *
  unfold wrap64
  omega
theorem fits_hi {l : Nat} (hl : l ≤ 63) : wrap64 (2 ^ (l - 1)) = ((2 ^ (l - 1) : Nat) : Int) := by
  have h := pow_le (show l - 1 ≤ 62 by omega)
  rw [pow_cast]
  generalize 2 ^ (l - 1) = x at *
  unfold wrap64
  omega

end Pl

theorem rg28 (s l : Int) (big : Bool) (w : World) :
    Calls Try.prog 12 #[.int .i64 8, .int .i64 s, .int .i64 l, .bool big] w fun e w' => e = .returned (.bool (Pl.rgB s l big)) ∧ w = w' := by
  by_cases h : 0 ≤ s ∧ s ≤ 63 ∧ 1 ≤ l ∧ l ≤ 64
  · have e : Pl.rgB s l big = Pl.okR 8 s.toNat l.toNat big := by unfold Pl.rgB; simp [h]
    rw [e]
    obtain ⟨h0, h1, h2, h3⟩ := h
    obtain ⟨a, rfl⟩ := Int.eq_ofNat_of_zero_le h0
    obtain ⟨b, rfl⟩ := Int.eq_ofNat_of_zero_le (show 0 ≤ l by omega)
    exact range28 8 a b big w (by decide) (by omega) (by omega) (by omega)
  · have e : Pl.rgB s l big = false := by unfold Pl.rgB; simp [h]
    rw [e]
    exact range28_out 8 s l big w (by decide) h

theorem fits41 (n : Int) (l : Nat) (w : World) (h1 : 1 ≤ l) (hl : l ≤ 64) (hn : (Lit.int .i64 n).wf = true) :
    Calls Try.prog 17 #[.int .i64 n, .int .i64 l] w fun e w' => e = .returned (.bool (Pl.fitS n l)) ∧ w = w' := by
  have hb := bounds_i64 hn
  clear hn
  by_cases h : l = 64
  · subst h
    have e : Pl.fitS n 64 = true := by unfold Pl.fitS; simp; omega
    rw [e]
    go_enter Try.func17, Try.ntmps17
    go_wp2_with fail
    go_ret
    exact ⟨rfl, rfl⟩
  · have hl' : l ≤ 63 := by omega
    have lo := Pl.fits_lo hl'
    have hi := Pl.fits_hi hl'
    have hx : ∃ x : Int, ((2 ^ (l - 1) : Nat) : Int) = x := ⟨_, rfl⟩
    obtain ⟨x, hx⟩ := hx
    rw [hx] at lo hi
    have e : Pl.fitS n l = (decide (-x ≤ n) && decide (n < x)) := by unfold Pl.fitS; rw [hx]
    rw [e]
    clear e hx
    go_enter Try.func17, Try.ntmps17
    go_wp2_with fail
    all_goals go_ret
    · exact ⟨ret_bool (by rw [decide_eq_false (show ¬ (64 : Int) ≤ (l : Int) by omega), decide_eq_true (show -x ≤ n by omega)]; rfl), rfl⟩
    · exact ⟨ret_bool (by rw [decide_eq_false (show ¬ (64 : Int) ≤ (l : Int) by omega), decide_eq_false (show ¬ -x ≤ n by omega)]; rfl), rfl⟩


end Go.Proofs.Ytfffcmjpkpdmlaa
