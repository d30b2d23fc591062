/- Contracts: invertEndian, the two checks of ranges -/
import Derived.Test.YtjmlfobljlfngaaC
namespace Go.Proofs.Ytjmlfobljlfngaa
open Go.ChangeShapes Go.WideShapes Go.ChangeAt Go.RowKit

theorem inv77 (i : Nat) (w : World) (hi : i < 64) :
    Calls Try.prog 77 #[.int .u8 i] w fun e w' => e = .returned (.int .u8 (Pl.inv i : Nat)) ∧ w = w' := by
  go_enter Try.func77, Try.ntmps77
  go_wp2
  go_ret
  exact ⟨ret_int (by unfold Pl.inv; omega), rfl⟩

theorem inv77x (x : Int) (i : Nat) (hx : x = i) (w : World) (hi : i < 64) :
    Calls Try.prog 77 #[.int .u8 x] w fun e w' => e = .returned (.int .u8 (Pl.inv i : Nat)) ∧ w = w' := by
  subst hx
  exact inv77 i w hi

theorem le57_yes (f s l : Nat) (w : World) (hf : f ≤ 8) (hs : s < 64) (h1 : 1 ≤ l) (hl : l ≤ 64) (h : s + l ≤ 8 * f) :
    Calls Try.prog 57 #[.int .u8 f, .int .u8 s, .int .u8 l] w fun e w' => e = .returned .nilIface ∧ w = w' := by
  go_enter Try.func57, Try.ntmps57
  go_wp2_with fail
  go_ret
  exact ⟨rfl, rfl⟩

theorem le57_no (f s l : Nat) (w : World) (hf : f ≤ 8) (hs : s < 64) (h1 : 1 ≤ l) (hl : l ≤ 64) (h : ¬ s + l ≤ 8 * f) :
    Calls Try.prog 57 #[.int .u8 f, .int .u8 s, .int .u8 l] w (IsErr w) := by
  go_enter Try.func57, Try.ntmps57
  go_wp2_with fail
  refine (new76 _ _).mono ?_
  rintro e w' ⟨⟨p, rfl⟩, hg⟩
  go_wp2_with fail
  go_ret
  exact ⟨⟨_, rfl⟩, hg⟩

theorem be56_yes (f s l : Nat) (w : World) (hf : f ≤ 8) (h : Pl.Inside s l true) (hr : Pl.isR f s l true = true) :
    Calls Try.prog 56 #[.int .u8 f, .int .u8 s, .int .u8 l] w fun e w' => e = .returned .nilIface ∧ w = w' := by
  have hs := h.s
  have h1 := h.l
  have hl := h.l64
  have hlow := h.low_le
  simp [Pl.low] at hlow
  unfold Pl.isR at hr
  simp at hr
  obtain ⟨r1, r2⟩ := hr
  have hi := Pl.inv_lt hs
  have q1 : (Pl.inv (Pl.inv s + 1 - l) : Int) < 8 * f := by
    rw [show Pl.inv (Pl.inv s + 1 - l) = (7 - (Pl.inv s + 1 - l) / 8) * 8 + (Pl.inv s + 1 - l) % 8 from rfl]
    omega
  have q2 : (s : Int) < 8 * f := by
    have : Pl.inv s = (7 - s / 8) * 8 + s % 8 := rfl
    omega
  clear r2 h hlow
  go_enter Try.func56, Try.ntmps56
  go_wp2_with fail
  refine (inv77 s _ hs).mono ?_
  rintro e w' ⟨rfl, rfl⟩
  go_wp2_with fail
  refine (inv77x _ (Pl.inv s + 1 - l) (by omega) _ (by omega)).mono ?_
  rintro e w' ⟨rfl, rfl⟩
  go_wp2_with fail
  go_ret
  exact ⟨rfl, rfl⟩

theorem be56_no (f s l : Nat) (w : World) (hf : f ≤ 8) (h : Pl.Inside s l true) (hr : Pl.isR f s l true = false) :
    Calls Try.prog 56 #[.int .u8 f, .int .u8 s, .int .u8 l] w (IsErr w) := by
  have hs := h.s
  have h1 := h.l
  have hl := h.l64
  have r1 := h.r
  unfold Pl.isR at hr r1
  simp at r1
  simp [r1.1] at hr
  replace r1 := r1.1
  have hi := Pl.inv_lt hs
  have q1 : 8 * (f : Int) ≤ (Pl.inv (Pl.inv s + 1 - l) : Int) := by
    rw [show Pl.inv (Pl.inv s + 1 - l) = (7 - (Pl.inv s + 1 - l) / 8) * 8 + (Pl.inv s + 1 - l) % 8 from rfl]
    omega
  clear hr h
  by_cases q2 : (s : Int) < 8 * f
  · go_enter Try.func56, Try.ntmps56
    go_wp2_with fail
    refine (inv77 s _ hs).mono ?_
    rintro e w' ⟨rfl, rfl⟩
    go_wp2_with fail
    refine (inv77x _ (Pl.inv s + 1 - l) (by omega) _ (by omega)).mono ?_
    rintro e w' ⟨rfl, rfl⟩
    go_wp2_with fail
    refine (new76 _ _).mono ?_
    rintro e w' ⟨⟨p, rfl⟩, hg⟩
    go_wp2_with fail
    go_ret
    exact ⟨⟨_, rfl⟩, hg⟩
  · go_enter Try.func56, Try.ntmps56
    go_wp2_with fail
    refine (new76 _ _).mono ?_
    rintro e w' ⟨⟨p, rfl⟩, hg⟩
    go_wp2_with fail
    go_ret
    exact ⟨⟨_, rfl⟩, hg⟩

theorem check29 (f s l : Nat) (big : Bool) (w : World) (hf : f ≤ 8) (h : Pl.Inside s l big) :
    Calls Try.prog 29 #[.int .i64 f, .int .i64 s, .int .i64 l, .bool big] w fun e w' => e = .returned (.bool (Pl.isR f s l big)) ∧ Grown w w' := by
  have hs := h.s
  have h1 := h.l
  have hl := h.l64
  cases big
  · cases hr : Pl.isR f s l false
    · have hq : ¬ s + l ≤ 8 * f := by unfold Pl.isR at hr; simpa using hr
      clear hr
      go_enter Try.func29, Try.ntmps29
      go_wp2_with fail
      refine (inside55 s l _ hs hl).mono ?_
      rintro e w' ⟨rfl, rfl⟩
      go_wp2_with fail
      refine (le57_no f s l _ hf hs h1 hl hq).mono ?_
      rintro e w' ⟨⟨p, rfl⟩, hg⟩
      go_wp2_with fail
      go_ret
      exact ⟨rfl, hg⟩
    · have hq : s + l ≤ 8 * f := by unfold Pl.isR at hr; simpa using hr
      clear hr
      go_enter Try.func29, Try.ntmps29
      go_wp2_with fail
      refine (inside55 s l _ hs hl).mono ?_
      rintro e w' ⟨rfl, rfl⟩
      go_wp2_with fail
      refine (le57_yes f s l _ hf hs h1 hl hq).mono ?_
      rintro e w' ⟨rfl, rfl⟩
      go_wp2_with fail
      go_ret
      exact ⟨rfl, Grown.refl _⟩
  · cases hr : Pl.isR f s l true
    · have HR := Lib.hid hr
      clear hr
      go_enter Try.func29, Try.ntmps29
      go_wp2_with fail
      refine (inside55 s l _ hs hl).mono ?_
      rintro e w' ⟨rfl, rfl⟩
      go_wp2_with fail
      refine (be56_no f s l _ hf h HR.out).mono ?_
      rintro e w' ⟨⟨p, rfl⟩, hg⟩
      go_wp2_with fail
      go_ret
      exact ⟨rfl, hg⟩
    · have HR := Lib.hid hr
      clear hr
      go_enter Try.func29, Try.ntmps29
      go_wp2_with fail
      refine (inside55 s l _ hs hl).mono ?_
      rintro e w' ⟨rfl, rfl⟩
      go_wp2_with fail
      refine (be56_yes f s l _ hf h HR.out).mono ?_
      rintro e w' ⟨rfl, rfl⟩
      go_wp2_with fail
      go_ret
      exact ⟨rfl, Grown.refl _⟩

end Go.Proofs.Ytjmlfobljlfngaa
