/- Contracts of the small functions -/
import Derived.Test.YtjmlfobljlfngaaPlain
import Derived.WalkKit
import Derived.ProofKit
import Derived.OpenShut
import Derived.Outline
import Derived.Lib.Hide
namespace Go.Proofs.Ytjmlfobljlfngaa
open Go.ChangeShapes Go.WideShapes Go.ChangeAt Go.RowKit

theorem ret_bool {a b : Bool} (h : a = b) : Ending.returned (.bool a) = .returned (.bool b) := by rw [h]
theorem ret_int {k : IntKind} {a b : Int} (h : a = b) : Ending.returned (.int k a) = .returned (.int k b) := by rw [h]

theorem grown_trans {a b c : World} (h : Grown a b) (k : Grown b c) : Grown a c :=
  ⟨World.keptBut_trans h.1 k.1, fun x => (k.2.1 x).trans (h.2.1 x), Nat.le_trans h.2.2 k.2.2⟩

theorem fits_eq (v l : Nat) : (((v : Int) / 2 ^ l == 0) : Bool) = decide (v < 2 ^ l) := by
  have hp : 0 < 2 ^ l := Nat.two_pow_pos l
  have e : (v : Int) / 2 ^ l = ((v / 2 ^ l : Nat) : Int) := by simp
  rw [e, Bool.eq_iff_iff]
  simp only [beq_iff_eq, decide_eq_true_eq]
  rw [show ((v / 2 ^ l : Nat) : Int) = 0 ↔ v / 2 ^ l = 0 by omega, Nat.div_eq_zero_iff]
  omega

theorem fits16 (v l : Nat) (w : World) (hv : v < 2 ^ 64) (hl : l ≤ 64) :
    Calls Try.prog 16 #[.int .u64 v, .int .i64 l] w fun e w' => e = .returned (.bool (decide (v < 2 ^ l))) ∧ w' = w := by
  by_cases h : l = 64
  · subst h
    go_enter Try.func16, Try.ntmps16
    go_wp2
    go_ret
    exact ⟨ret_bool (by simp at hv; simp [hv]), rfl⟩
  · have h' : l < 64 := by omega
    go_enter Try.func16, Try.ntmps16
    go_wp2
    go_ret
    exact ⟨ret_bool (by rw [fits_eq]; have : ¬ (64 : Int) ≤ l := by omega
                        simp [this]), rfl⟩

/-- an error was made -/
def IsErr (w : World) (e : Ending) (w' : World) : Prop := (∃ p : Addr, e = .returned (.iface 101 (.pointer (some p)))) ∧ Grown w w'

theorem new76 (s : ByteArray) (w : World) : Calls Try.prog 76 #[.string s] w (IsErr w) := by
  go_enter Try.func76, Try.ntmps76
  go_wp2
  go_ret
  exact ⟨⟨_, rfl⟩, (Grown.refl _).alloc _ _⟩

theorem wrap_pow {l : Nat} (hl : l < 64) : IntKind.u64.wrap (2 ^ l) = ((2 ^ l : Nat) : Int) := by
  have h : (2 : Nat) ^ l < 2 ^ 64 := Nat.pow_lt_pow_right (by decide) hl
  have e : (2 : Int) ^ l = ((2 ^ l : Nat) : Int) := by simp
  rw [IntKind.wrap_u64, e]
  generalize 2 ^ l = x at h
  omega

theorem cv45_yes (v l : Nat) (w : World) (hl : l < 64) (hv : v < 2 ^ l) :
    Calls Try.prog 45 #[.int .u64 v, .int .u8 l] w fun e w' => e = .returned .nilIface ∧ w = w' := by
  have hw := wrap_pow hl
  have h : ¬ IntKind.u64.wrap (2 ^ l) ≤ (v : Int) := by rw [hw]; omega
  clear hw
  go_enter Try.func45, Try.ntmps45
  go_wp2_with fail
  go_ret
  exact ⟨rfl, rfl⟩

theorem cv45_no (v l : Nat) (w : World) (hl : l < 64) (hv : ¬ v < 2 ^ l) :
    Calls Try.prog 45 #[.int .u64 v, .int .u8 l] w (IsErr w) := by
  have hw := wrap_pow hl
  have h : IntKind.u64.wrap (2 ^ l) ≤ (v : Int) := by rw [hw]; omega
  clear hw
  go_enter Try.func45, Try.ntmps45
  go_wp2_with fail
  refine (new76 _ _).mono ?_
  rintro e w' ⟨⟨p, rfl⟩, hg⟩
  go_wp2_with fail
  go_ret
  exact ⟨⟨_, rfl⟩, hg⟩

theorem cv15 (v l : Nat) (w : World) (hl : l < 64) :
    Calls Try.prog 15 #[.int .u64 v, .int .i64 l] w fun e w' => e = .returned (.bool (decide (v < 2 ^ l))) ∧ Grown w w' := by
  by_cases hv : v < 2 ^ l
  · go_enter Try.func15, Try.ntmps15
    go_wp2_with fail
    refine (cv45_yes _ _ _ hl hv).mono ?_
    rintro e w' ⟨rfl, rfl⟩
    go_wp2_with fail
    go_ret
    exact ⟨ret_bool (by simp [hv]), Grown.refl _⟩
  · go_enter Try.func15, Try.ntmps15
    go_wp2_with fail
    refine (cv45_no _ _ _ hl hv).mono ?_
    rintro e w' ⟨⟨p, rfl⟩, hg⟩
    go_wp2_with fail
    go_ret
    exact ⟨ret_bool (by simp [hv]), hg⟩

end Go.Proofs.Ytjmlfobljlfngaa
