/- Plain arithmetic of bits in eight bytes: eight bytes are one number below 2^64 (little ends first); no program in sight. Conditions: those that each lemma names. -/
import Derived.Test.YtjmoinaikedmlaaDoorRows
namespace Go.Proofs.YtjmoinaikedmlaaDoor.Pl

/-- byte j of a number -/
def byt (N j : Nat) : Nat := N / 2 ^ (8 * j) % 256

def pack8 (x0 x1 x2 x3 x4 x5 x6 x7 : Nat) : Nat :=
  x0 + x1 * 256 + x2 * 65536 + x3 * 16777216 + x4 * 4294967296 + x5 * 1099511627776 + x6 * 281474976710656 + x7 * 72057594037927936

/-- the bit's number counted from the other end of the bytes -/
def inv (i : Nat) : Nat := (7 - i / 8) * 8 + i % 8

/-- the bytes turned round -/
def rev (N : Nat) : Nat := pack8 (byt N 7) (byt N 6) (byt N 5) (byt N 4) (byt N 3) (byt N 2) (byt N 1) (byt N 0)

theorem byt_lt (N j : Nat) : byt N j < 256 := Nat.mod_lt _ (by decide)

theorem inv_lt {i : Nat} (h : i < 64) : inv i < 64 := by unfold inv; omega
theorem inv_inv {i : Nat} (h : i < 64) : inv (inv i) = i := by unfold inv; omega

theorem pack8_lt (x0 x1 x2 x3 x4 x5 x6 x7 : Nat) (h0 : x0 < 256) (h1 : x1 < 256) (h2 : x2 < 256) (h3 : x3 < 256) (h4 : x4 < 256) (h5 : x5 < 256) (h6 : x6 < 256) (h7 : x7 < 256) :
    pack8 x0 x1 x2 x3 x4 x5 x6 x7 < 2 ^ 64 := by unfold pack8; omega

theorem byt_0 (N : Nat) : byt N 0 = N % 256 := by simp [byt]
theorem byt_1 (N : Nat) : byt N 1 = N / 256 % 256 := by simp [byt]
theorem byt_2 (N : Nat) : byt N 2 = N / 65536 % 256 := by simp [byt]
theorem byt_3 (N : Nat) : byt N 3 = N / 16777216 % 256 := by simp [byt]
theorem byt_4 (N : Nat) : byt N 4 = N / 4294967296 % 256 := by simp [byt]
theorem byt_5 (N : Nat) : byt N 5 = N / 1099511627776 % 256 := by simp [byt]
theorem byt_6 (N : Nat) : byt N 6 = N / 281474976710656 % 256 := by simp [byt]
theorem byt_7 (N : Nat) : byt N 7 = N / 72057594037927936 % 256 := by simp [byt]

theorem pack_byt {N : Nat} (h : N < 2 ^ 64) : pack8 (byt N 0) (byt N 1) (byt N 2) (byt N 3) (byt N 4) (byt N 5) (byt N 6) (byt N 7) = N := by
  rw [byt_0, byt_1, byt_2, byt_3, byt_4, byt_5, byt_6, byt_7]
  unfold pack8
  omega

theorem byt_pack0 (x0 x1 x2 x3 x4 x5 x6 x7 : Nat) (h0 : x0 < 256) : byt (pack8 x0 x1 x2 x3 x4 x5 x6 x7) 0 = x0 := by rw [byt_0]; unfold pack8; omega
theorem byt_pack1 (x0 x1 x2 x3 x4 x5 x6 x7 : Nat) (h0 : x0 < 256) (h1 : x1 < 256) : byt (pack8 x0 x1 x2 x3 x4 x5 x6 x7) 1 = x1 := by rw [byt_1]; unfold pack8; omega
theorem byt_pack2 (x0 x1 x2 x3 x4 x5 x6 x7 : Nat) (h0 : x0 < 256) (h1 : x1 < 256) (h2 : x2 < 256) : byt (pack8 x0 x1 x2 x3 x4 x5 x6 x7) 2 = x2 := by rw [byt_2]; unfold pack8; omega
theorem byt_pack3 (x0 x1 x2 x3 x4 x5 x6 x7 : Nat) (h0 : x0 < 256) (h1 : x1 < 256) (h2 : x2 < 256) (h3 : x3 < 256) : byt (pack8 x0 x1 x2 x3 x4 x5 x6 x7) 3 = x3 := by rw [byt_3]; unfold pack8; omega
theorem byt_pack4 (x0 x1 x2 x3 x4 x5 x6 x7 : Nat) (h0 : x0 < 256) (h1 : x1 < 256) (h2 : x2 < 256) (h3 : x3 < 256) (h4 : x4 < 256) : byt (pack8 x0 x1 x2 x3 x4 x5 x6 x7) 4 = x4 := by rw [byt_4]; unfold pack8; omega
theorem byt_pack5 (x0 x1 x2 x3 x4 x5 x6 x7 : Nat) (h0 : x0 < 256) (h1 : x1 < 256) (h2 : x2 < 256) (h3 : x3 < 256) (h4 : x4 < 256) (h5 : x5 < 256) : byt (pack8 x0 x1 x2 x3 x4 x5 x6 x7) 5 = x5 := by rw [byt_5]; unfold pack8; omega
theorem byt_pack6 (x0 x1 x2 x3 x4 x5 x6 x7 : Nat) (h0 : x0 < 256) (h1 : x1 < 256) (h2 : x2 < 256) (h3 : x3 < 256) (h4 : x4 < 256) (h5 : x5 < 256) (h6 : x6 < 256) : byt (pack8 x0 x1 x2 x3 x4 x5 x6 x7) 6 = x6 := by rw [byt_6]; unfold pack8; omega
theorem byt_pack7 (x0 x1 x2 x3 x4 x5 x6 x7 : Nat) (h0 : x0 < 256) (h1 : x1 < 256) (h2 : x2 < 256) (h3 : x3 < 256) (h4 : x4 < 256) (h5 : x5 < 256) (h6 : x6 < 256) (h7 : x7 < 256) : byt (pack8 x0 x1 x2 x3 x4 x5 x6 x7) 7 = x7 := by rw [byt_7]; unfold pack8; omega

theorem lt8_cases {j : Nat} (h : j < 8) : j = 0 ∨ j = 1 ∨ j = 2 ∨ j = 3 ∨ j = 4 ∨ j = 5 ∨ j = 6 ∨ j = 7 := by omega

theorem byt_rev {N j : Nat} (h : j < 8) : byt (rev N) j = byt N (7 - j) := by
  rcases lt8_cases h with rfl | rfl | rfl | rfl | rfl | rfl | rfl | rfl
  · exact byt_pack0 _ _ _ _ _ _ _ _ (byt_lt _ _)
  · exact byt_pack1 _ _ _ _ _ _ _ _ (byt_lt _ _) (byt_lt _ _)
  · exact byt_pack2 _ _ _ _ _ _ _ _ (byt_lt _ _) (byt_lt _ _) (byt_lt _ _)
  · exact byt_pack3 _ _ _ _ _ _ _ _ (byt_lt _ _) (byt_lt _ _) (byt_lt _ _) (byt_lt _ _)
  · exact byt_pack4 _ _ _ _ _ _ _ _ (byt_lt _ _) (byt_lt _ _) (byt_lt _ _) (byt_lt _ _) (byt_lt _ _)
  · exact byt_pack5 _ _ _ _ _ _ _ _ (byt_lt _ _) (byt_lt _ _) (byt_lt _ _) (byt_lt _ _) (byt_lt _ _) (byt_lt _ _)
  · exact byt_pack6 _ _ _ _ _ _ _ _ (byt_lt _ _) (byt_lt _ _) (byt_lt _ _) (byt_lt _ _) (byt_lt _ _) (byt_lt _ _) (byt_lt _ _)
  · exact byt_pack7 _ _ _ _ _ _ _ _ (byt_lt _ _) (byt_lt _ _) (byt_lt _ _) (byt_lt _ _) (byt_lt _ _) (byt_lt _ _) (byt_lt _ _) (byt_lt _ _)

theorem rev_lt (N : Nat) : rev N < 2 ^ 64 :=
  pack8_lt _ _ _ _ _ _ _ _ (byt_lt _ _) (byt_lt _ _) (byt_lt _ _) (byt_lt _ _) (byt_lt _ _) (byt_lt _ _) (byt_lt _ _) (byt_lt _ _)

theorem bit_byt (N j : Nat) : N.testBit j = (byt N (j / 8)).testBit (j % 8) := by
  unfold byt
  rw [show (256 : Nat) = 2 ^ 8 from rfl, Nat.testBit_mod_two_pow, Nat.testBit_div_two_pow]
  have h1 : j % 8 < 8 := Nat.mod_lt _ (by decide)
  have h2 : j % 8 + 8 * (j / 8) = j := by omega
  rw [h2]
  simp [h1]

theorem bit_rev {N j : Nat} (h : j < 64) : (rev N).testBit j = N.testBit (inv j) := by
  rw [bit_byt (rev N), bit_byt N (inv j), byt_rev (by omega)]
  have e1 : inv j / 8 = 7 - j / 8 := by unfold inv; omega
  have e2 : inv j % 8 = j % 8 := by unfold inv; omega
  rw [e1, e2]

theorem bit_hi {N j : Nat} (h : N < 2 ^ 64) (hj : 64 ≤ j) : N.testBit j = false :=
  Nat.testBit_lt_two_pow (Nat.lt_of_lt_of_le h (Nat.pow_le_pow_right (by decide) hj))

theorem ext64 {N M : Nat} (hN : N < 2 ^ 64) (hM : M < 2 ^ 64) (h : ∀ j, j < 64 → N.testBit j = M.testBit j) : N = M :=
  Nat.eq_of_testBit_eq fun j => by
    by_cases hj : j < 64
    · exact h j hj
    · rw [bit_hi hN (by omega), bit_hi hM (by omega)]

theorem rev_rev {N : Nat} (h : N < 2 ^ 64) : rev (rev N) = N :=
  ext64 (rev_lt _) h fun j hj => by rw [bit_rev hj, bit_rev (inv_lt hj), inv_inv hj]

/-- N with the k bits from lsb on replaced by v's lowest k -/
def put (N lsb k v : Nat) : Nat := 2 ^ lsb * (2 ^ k * (N / 2 ^ (lsb + k)) + v % 2 ^ k) + N % 2 ^ lsb

theorem bit_put (N lsb k v j : Nat) : (put N lsb k v).testBit j = if j < lsb then N.testBit j else if j - lsb < k then v.testBit (j - lsb) else N.testBit j := by
  unfold put
  rw [Nat.testBit_two_pow_mul_add _ (Nat.mod_lt _ (Nat.two_pow_pos _))]
  by_cases h1 : j < lsb
  · rw [if_pos h1, if_pos h1, Nat.testBit_mod_two_pow]; simp [h1]
  · rw [if_neg h1, if_neg h1, Nat.testBit_two_pow_mul_add _ (Nat.mod_lt _ (Nat.two_pow_pos _))]
    by_cases h2 : j - lsb < k
    · rw [if_pos h2, if_pos h2, Nat.testBit_mod_two_pow]; simp [h2]
    · rw [if_neg h2, if_neg h2, Nat.testBit_div_two_pow]
      congr 1; omega

theorem put_lt {N lsb k v : Nat} (hN : N < 2 ^ 64) (h : lsb + k ≤ 64) : put N lsb k v < 2 ^ 64 :=
  Nat.lt_pow_two_of_testBit _ fun j hj => by
    rw [bit_put]
    by_cases h1 : j < lsb
    · omega
    · rw [if_neg h1, if_neg (by omega)]; exact bit_hi hN hj

theorem put_zero (N lsb v : Nat) : put N lsb 0 v = N := by
  refine Nat.eq_of_testBit_eq fun j => ?_
  rw [bit_put]
  by_cases h1 : j < lsb
  · rw [if_pos h1]
  · rw [if_neg h1, if_neg (by omega)]

/-- one bit set, or not -/
def setb (N i : Nat) (on : Bool) : Nat := put N i 1 on.toNat

theorem bit_setb (N i j : Nat) (on : Bool) : (setb N i on).testBit j = if j = i then on else N.testBit j := by
  unfold setb
  rw [bit_put]
  by_cases h1 : j < i
  · rw [if_pos h1, if_neg (by omega)]
  · rw [if_neg h1]
    by_cases h2 : j = i
    · subst h2; simp; cases on <;> rfl
    · rw [if_neg (by omega), if_neg h2]

theorem setb_lt {N i : Nat} {on : Bool} (hN : N < 2 ^ 64) (h : i < 64) : setb N i on < 2 ^ 64 := put_lt hN (by omega)

theorem setb_put (N lsb k v : Nat) : setb (put N lsb k v) (lsb + k) (v.testBit k) = put N lsb (k + 1) v := by
  refine Nat.eq_of_testBit_eq fun j => ?_
  rw [bit_setb, bit_put, bit_put]
  by_cases h1 : j < lsb
  · rw [if_neg (by omega), if_pos h1, if_pos h1]
  · rw [if_neg h1, if_neg h1]
    by_cases h2 : j = lsb + k
    · subst h2; simp
    · rw [if_neg h2]
      by_cases h3 : j - lsb < k
      · rw [if_pos h3, if_pos (by omega)]
      · rw [if_neg h3, if_neg (by omega)]

theorem setb_rev {N i : Nat} {on : Bool} (h : i < 64) : setb (rev N) (inv i) on = rev (setb N i on) := by
  refine ext64 (setb_lt (rev_lt _) (inv_lt h)) (rev_lt _) fun j hj => ?_
  rw [bit_setb, bit_rev hj, bit_rev hj, bit_setb]
  by_cases h1 : j = inv i
  · rw [if_pos h1, if_pos (by rw [h1, inv_inv h])]
  · rw [if_neg h1, if_neg (fun h2 => h1 (by rw [← h2, inv_inv hj]))]

/-! ### places, ranges -/

/-- whether bits stand within so many bytes (start and length as numbers from 0 on) -/
def isR (bytes start length : Nat) (big : Bool) : Bool :=
  if big then decide (length ≤ inv start + 1) && decide (7 - (inv start + 1 - length) / 8 < bytes) else decide (start + length ≤ 8 * bytes)

/-- the lowest bit's number in the packed number -/
def low (start length : Nat) (big : Bool) : Nat := if big then inv start + 1 - length else start

/-- where bit k stands -/
def pl (start length k : Nat) (big : Bool) : Nat := if big then inv (low start length big + k) else low start length big + k

structure Inside (start length : Nat) (big : Bool) : Prop where
  s : start < 64
  l : 1 ≤ length
  l64 : length ≤ 64
  r : isR 8 start length big = true

theorem Inside.low_le {start length : Nat} {big : Bool} (h : Inside start length big) : low start length big + length ≤ 64 := by
  have hr := h.r
  have hs := h.s
  have := inv_lt hs
  unfold isR at hr; unfold low
  cases big <;> simp at hr ⊢ <;> omega

theorem Inside.pl_lt {start length k : Nat} {big : Bool} (h : Inside start length big) (hk : k < length) : pl start length k big < 64 := by
  have := h.low_le
  unfold pl
  split
  · exact inv_lt (by omega)
  · omega

/-- the number packed in the order asked for -/
def pk (N : Nat) (big : Bool) : Nat := if big then rev N else N

theorem pk_lt {N : Nat} (h : N < 2 ^ 64) (big : Bool) : pk N big < 2 ^ 64 := by
  cases big
  · exact h
  · exact rev_lt N
theorem pk_pk {N : Nat} (h : N < 2 ^ 64) (big : Bool) : pk (pk N big) big = N := by cases big <;> simp [pk, h, rev_rev]

theorem Inside.bit_pk {N start length k : Nat} {big : Bool} (h : Inside start length big) (hk : k < length) :
    (pk N big).testBit (low start length big + k) = N.testBit (pl start length k big) := by
  have := h.low_le
  cases big
  · simp [pk, pl]
  · simp only [pk, pl, if_true]
    exact bit_rev (by omega)

/-- the number that bits tell -/
def U (N start length : Nat) (big : Bool) : Nat := pk N big / 2 ^ low start length big % 2 ^ length

theorem bit_U (N start length k : Nat) (big : Bool) : (U N start length big).testBit k = (decide (k < length) && (pk N big).testBit (low start length big + k)) := by
  unfold U
  rw [Nat.testBit_mod_two_pow, Nat.testBit_div_two_pow, Nat.add_comm]

theorem U_lt (N start length : Nat) (big : Bool) : U N start length big < 2 ^ length := Nat.mod_lt _ (Nat.two_pow_pos _)
theorem U_lt64 {N start length : Nat} {big : Bool} (h : length ≤ 64) : U N start length big < 2 ^ 64 := Nat.lt_of_lt_of_le (U_lt ..) (Nat.pow_le_pow_right (by decide) h)

/-- bytes with a number put into bits -/
def SU (N start length : Nat) (big : Bool) (v : Nat) : Nat := pk (put (pk N big) (low start length big) length v) big

theorem Inside.SU_lt {N start length v : Nat} {big : Bool} (h : Inside start length big) (hN : N < 2 ^ 64) : SU N start length big v < 2 ^ 64 :=
  pk_lt (put_lt (pk_lt hN _) h.low_le) _

theorem Inside.pk_SU {N start length v : Nat} {big : Bool} (h : Inside start length big) (hN : N < 2 ^ 64) : pk (SU N start length big v) big = put (pk N big) (low start length big) length v :=
  pk_pk (put_lt (pk_lt hN _) h.low_le) _

theorem Inside.U_SU {N start length v : Nat} {big : Bool} (h : Inside start length big) (hN : N < 2 ^ 64) : U (SU N start length big v) start length big = v % 2 ^ length := by
  refine Nat.eq_of_testBit_eq fun j => ?_
  rw [bit_U, h.pk_SU hN, bit_put, Nat.testBit_mod_two_pow, if_neg (by omega)]
  by_cases hj : j < length
  · rw [if_pos (by omega)]; simp
  · simp [hj]

theorem bit_pk64 {N j : Nat} (hj : j < 64) (big : Bool) : (pk N big).testBit j = N.testBit (if big then inv j else j) := by
  cases big
  · rfl
  · exact bit_rev hj

/-- a bit outside is what it was -/
theorem Inside.bit_SU_out {N start length v p : Nat} {big : Bool} (h : Inside start length big) (hp : p < 64) (ho : ∀ k, k < length → p ≠ pl start length k big) :
    (SU N start length big v).testBit p = N.testBit p := by
  have hl := h.low_le
  unfold SU
  rw [bit_pk64 hp, bit_put]
  have hq : (if big then inv p else p) < 64 := by cases big <;> simp [hp, inv_lt]
  have hpk : (pk N big).testBit (if big then inv p else p) = N.testBit p := by
    rw [bit_pk64 hq]; cases big
    · rfl
    · simp [inv_inv hp]
  by_cases h1 : (if big then inv p else p) < low start length big
  · rw [if_pos h1, hpk]
  · rw [if_neg h1]
    by_cases h2 : (if big then inv p else p) - low start length big < length
    · exfalso
      refine ho _ h2 ?_
      unfold pl
      rw [show low start length big + ((if big then inv p else p) - low start length big) = (if big then inv p else p) by omega]
      cases big
      · rfl
      · simp [inv_inv hp]
    · rw [if_neg h2, hpk]

/-- numbers that stand apart don't change each other -/
theorem U_apart {N s l s' l' w : Nat} {b b' : Bool} (h : Inside s l b) (h' : Inside s' l' b')
    (ha : ∀ k, k < l → ∀ n, n < l' → pl s l k b ≠ pl s' l' n b') : U (SU N s' l' b' w) s l b = U N s l b := by
  refine Nat.eq_of_testBit_eq fun j => ?_
  rw [bit_U, bit_U]
  by_cases hj : j < l
  · rw [h.bit_pk hj, h.bit_pk hj, h'.bit_SU_out (h.pl_lt hj) (fun k hk => ha j hj k hk)]
  · simp [hj]

/-- one more bit told -/
theorem mod_succ (x n : Nat) : x % 2 ^ (n + 1) = x % 2 ^ n + 2 ^ n * (x.testBit n).toNat := by
  rw [Nat.mod_pow_succ, Nat.testBit_eq_decide_div_mod_eq]
  congr 2
  rcases Nat.mod_two_eq_zero_or_one (x / 2 ^ n) with h | h <;> simp [h]

theorem mod_or (x n : Nat) : x % 2 ^ n ||| 2 ^ n = x % 2 ^ n + 2 ^ n := by
  have := Nat.two_pow_add_eq_or_of_lt (i := n) (b := x % 2 ^ n) (Nat.mod_lt _ (Nat.two_pow_pos _)) 1
  rw [Nat.mul_one] at this
  rw [Nat.or_comm, ← this, Nat.add_comm]

/-- one more bit put -/
theorem Inside.step {N start length k v : Nat} {big : Bool} (h : Inside start length big) (hk : k < length) :
    setb (pk (put (pk N big) (low start length big) k v) big) (pl start length k big) (v.testBit k) = pk (put (pk N big) (low start length big) (k + 1) v) big := by
  have hl := h.low_le
  cases big
  · simp only [pk, pl]
    exact setb_put _ _ _ _
  · simp only [pk, pl, if_true]
    rw [setb_rev (by omega), setb_put]

theorem isR_of_step {bytes start length k : Nat} {big : Bool} (h : Inside start length big) (hk : k < length) (hb : isR bytes start length big = true) : pl start length k big < 8 * bytes := by
  have hl := h.low_le
  have hs := h.s
  unfold isR at hb; unfold pl low at *
  cases big <;> simp at hb hl ⊢
  · omega
  · unfold inv at *; omega

/-- where a bit stands, as the reference tells it: below 0 outside -/
def plI (s l k : Nat) (big : Bool) : Int :=
  if big then (if (inv s : Int) - ((l : Int) - 1 - k) < 0 then -1 else 8 * (7 - ((inv s : Int) - ((l : Int) - 1 - k)) / 8) + ((inv s : Int) - ((l : Int) - 1 - k)) % 8)
  else if (63 : Int) < (s : Int) + k then -1 else (s : Int) + k

theorem Inside.plI {s l k : Nat} {big : Bool} (h : Inside s l big) (hk : k < l) : plI s l k big = (pl s l k big : Nat) := by
  have hl := h.low_le
  unfold Pl.plI Pl.pl
  unfold low at *
  cases big
  · simp only [Bool.false_eq_true, if_false] at *
    rw [if_neg (by omega)]; omega
  · have hr := h.r
    simp only [if_true] at *
    unfold isR at hr
    simp at hr
    have := inv_lt h.s
    rw [if_neg (by omega)]
    rw [show inv (inv s + 1 - l + k) = (7 - (inv s + 1 - l + k) / 8) * 8 + (inv s + 1 - l + k) % 8 from rfl]
    omega

/-- inside so many bytes -/
def okR (bytes s l : Nat) (big : Bool) : Bool := isR 8 s l big && isR bytes s l big

theorem plI_ok {bytes s l k : Nat} {big : Bool} (hs : s < 64) (hl : l ≤ 64) (hk : k < l) (hr : okR bytes s l big = true) : 0 ≤ plI s l k big ∧ plI s l k big < 8 * bytes := by
  unfold okR at hr
  rw [Bool.and_eq_true] at hr
  have hi : Inside s l big := ⟨hs, by omega, hl, hr.1⟩
  rw [hi.plI hk]
  have := isR_of_step hi hk hr.2
  omega

theorem plI_bad {bytes s l : Nat} {big : Bool} (hs : s < 64) (hl1 : 1 ≤ l) (hr : okR bytes s l big = false) (h8 : bytes ≤ 8) :
    ∃ k, k < l ∧ (plI s l k big < 0 ∨ 8 * (bytes : Int) ≤ plI s l k big) := by
  unfold okR isR at hr
  have := inv_lt hs
  cases big
  · refine ⟨l - 1, by omega, ?_⟩
    simp only [Bool.false_eq_true, if_false, Bool.and_eq_false_iff, decide_eq_false_iff_not] at hr
    unfold plI
    simp only [Bool.false_eq_true, if_false]
    split
    · exact .inl (by decide)
    · right; omega
  · refine ⟨0, by omega, ?_⟩
    simp only [if_true, Bool.and_eq_false_iff, decide_eq_false_iff_not] at hr
    unfold plI
    simp only [if_true]
    split
    · exact .inl (by decide)
    · right; omega

end Go.Proofs.YtjmoinaikedmlaaDoor.Pl
