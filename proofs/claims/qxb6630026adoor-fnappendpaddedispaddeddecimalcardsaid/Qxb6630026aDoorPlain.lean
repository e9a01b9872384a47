/-
  THE PLAIN MATHEMATICS OF SEAT b6630026aD: padded decimal digits, their value, their order. No Go in sight.
-/
namespace Go.Proofs.Qxb6630026aDoor.Plain

/-- The lowest k decimal digits of n, as bytes, the highest first. -/
def digs : Nat → Nat → List UInt8
  | 0, _ => []
  | k + 1, n => UInt8.ofNat (48 + n / 10 ^ k % 10) :: digs k n

theorem digs_length (k n : Nat) : (digs k n).length = k := by
  induction k with
  | zero => rfl
  | succ k ih => simp [digs, ih]

theorem dig_toNat (x : Nat) : (UInt8.ofNat (48 + x % 10)).toNat = 48 + x % 10 := by
  rw [UInt8.toNat_ofNat']; omega

/-- Byte by byte, for two lists of one length. -/
def cmpL : List UInt8 → List UInt8 → Int
  | x :: xs, y :: ys => if x.toNat < y.toNat then -1 else if y.toNat < x.toNat then 1 else cmpL xs ys
  | _, _ => 0

theorem cmpL_prefix (p x y : List UInt8) : cmpL (p ++ x) (p ++ y) = cmpL x y := by
  induction p with
  | nil => rfl
  | cons c r ih => simp [cmpL, ih]

/-- The order of two numbers. -/
def cmpN (a b : Nat) : Int := if a < b then -1 else if b < a then 1 else 0

theorem cmpN_add (c u v : Nat) : cmpN (c + u) (c + v) = cmpN u v := by unfold cmpN; simp only [Nat.add_lt_add_iff_left]

theorem mod_split (a k : Nat) : a % 10 ^ (k + 1) = (a / 10 ^ k % 10) * 10 ^ k + a % 10 ^ k := by
  rw [Nat.pow_succ, Nat.mod_mul, Nat.mul_comm (10 ^ k) (a / 10 ^ k % 10)]
  omega

theorem cmpL_digs (k a b : Nat) : cmpL (digs k a) (digs k b) = cmpN (a % 10 ^ k) (b % 10 ^ k) := by
  induction k with
  | zero => simp [digs, cmpL, cmpN, Nat.mod_one]
  | succ k ih =>
    simp only [digs, cmpL, dig_toNat, ih]
    have ha := mod_split a k
    have hb := mod_split b k
    have h1 : a % 10 ^ k < 10 ^ k := Nat.mod_lt _ (Nat.pow_pos (by omega))
    have h2 : b % 10 ^ k < 10 ^ k := Nat.mod_lt _ (Nat.pow_pos (by omega))
    rw [ha, hb]
    generalize a / 10 ^ k % 10 = x
    generalize b / 10 ^ k % 10 = y
    generalize a % 10 ^ k = u at *
    generalize b % 10 ^ k = v at *
    generalize 10 ^ k = t at *
    clear ha hb ih
    rcases Nat.lt_trichotomy x y with h | h | h
    · have : x * t + t ≤ y * t := by rw [← Nat.succ_mul]; exact Nat.mul_le_mul_right _ h
      rw [if_pos (by omega)]
      unfold cmpN
      rw [if_pos (by omega)]
    · subst h
      rw [if_neg (by omega), if_neg (by omega), cmpN_add]
    · have : y * t + t ≤ x * t := by rw [← Nat.succ_mul]; exact Nat.mul_le_mul_right _ h
      rw [if_neg (by omega), if_pos (by omega)]
      unfold cmpN
      rw [if_neg (by omega), if_pos (by omega)]

/-- By length first, then byte by byte. -/
def slex (x y : List UInt8) : Int := if x.length < y.length then -1 else if y.length < x.length then 1 else cmpL x y

/-- What is known of the length L at which n is padded for the width v. -/
structure Fit (n : Nat) (v : Int) (L : Nat) : Prop where
  one : 1 ≤ L
  top : L ≤ 20
  wide : v ≤ (L : Int)
  fits : n < 10 ^ L
  least : L = 1 ∨ 10 ^ (L - 1) ≤ n ∨ (L : Int) = v

theorem pow_mono {a b : Nat} (h : a ≤ b) : 10 ^ a ≤ 10 ^ b := Nat.pow_le_pow_right (by omega) h

theorem fit_lt {a b La Lb : Nat} {v : Int} (ha : Fit a v La) (hb : Fit b v Lb) (h : La < Lb) : a < b := by
  have h1 := ha.one
  have h2 := ha.wide
  have h3 := ha.fits
  rcases hb.least with e | e | e
  · omega
  · have := pow_mono (show La ≤ Lb - 1 by omega)
    omega
  · omega

/-- THE FIRST LAW, PLAINLY: the order of the padded texts is the order of the numbers. -/
theorem order_law (p : List UInt8) {a b La Lb : Nat} {v : Int} (ha : Fit a v La) (hb : Fit b v Lb) : slex (p ++ digs La a) (p ++ digs Lb b) = cmpN a b := by
  unfold slex
  simp only [List.length_append, digs_length]
  rcases Nat.lt_trichotomy La Lb with h | h | h
  · rw [if_pos (by omega)]
    unfold cmpN
    rw [if_pos (fit_lt ha hb h)]
  · subst h
    rw [if_neg (by omega), if_neg (by omega), cmpL_prefix, cmpL_digs, Nat.mod_eq_of_lt ha.fits, Nat.mod_eq_of_lt hb.fits]
  · have := fit_lt hb ha h
    rw [if_neg (by omega), if_pos (by omega)]
    unfold cmpN
    rw [if_neg (by omega), if_pos this]

end Go.Proofs.Qxb6630026aDoor.Plain
