import Derived.Test.Qxb6630026aDoorPlain
import Derived.Lib.ItoaNum
/-
  THE PLAIN MATHEMATICS OF SEAT b6630026aD, second part: the digits' places, and the library's numeral. No Go in sight.
-/
namespace Go.Proofs.Qxb6630026aDoor.Plain

theorem digs_get (k n i : Nat) (h : i < (digs k n).length) : (digs k n)[i] = UInt8.ofNat (48 + n / 10 ^ (k - 1 - i) % 10) := by
  induction k generalizing i with
  | zero => simp [digs] at h
  | succ k ih =>
    cases i with
    | zero => simp [digs]
    | succ i =>
      simp only [digs, List.getElem_cons_succ]
      rw [ih]
      congr 5
      omega

theorem digs_get_toNat (k n i : Nat) (h : i < (digs k n).length) : (digs k n)[i].toNat = 48 + n / 10 ^ (k - 1 - i) % 10 := by
  rw [digs_get, dig_toNat]

theorem digs_snoc (k n : Nat) : digs (k + 1) n = digs k (n / 10) ++ [UInt8.ofNat (48 + n % 10)] := by
  induction k with
  | zero => simp [digs]
  | succ k ih =>
    rw [digs, ih]
    simp only [digs, List.cons_append]
    rw [Nat.pow_succ, Nat.mul_comm (10 ^ k) 10, ← Nat.div_div_eq_div_mul]

/-- The library's numeral is the padded one, at its own length. -/
theorem dec_digs (m : Nat) : ∃ L, 1 ≤ L ∧ m < 10 ^ L ∧ (L = 1 ∨ 10 ^ (L - 1) ≤ m) ∧ Lib.decDigits m = digs L m := by
  induction m using Nat.strongRecOn with
  | _ m ih =>
    by_cases h : m < 10
    · refine ⟨1, Nat.le_refl _, by omega, .inl rfl, ?_⟩
      rw [Lib.decDigits_one h]
      simp only [digs, Nat.pow_zero, Nat.div_one]
      rw [Nat.mod_eq_of_lt h]
    · obtain ⟨L, h1, h2, h3, h4⟩ := ih (m / 10) (by omega)
      refine ⟨L + 1, by omega, ?_, .inr ?_, ?_⟩
      · rw [Nat.pow_succ]; omega
      · rw [show L + 1 - 1 = L by omega]
        rcases h3 with rfl | h3
        · omega
        · have : 10 ^ L = 10 ^ (L - 1) * 10 := by rw [← Nat.pow_succ]; congr 1; omega
          omega
      · rw [Lib.decDigits, dif_neg h, h4, digs_snoc]

/-- The value of a digit more. -/
theorem value_step (m L k : Nat) (h : k < L) : m / 10 ^ (L - k) * 10 + m / 10 ^ (L - 1 - k) % 10 = m / 10 ^ (L - (k + 1)) := by
  have e : L - k = (L - 1 - k) + 1 := by omega
  have e2 : L - (k + 1) = L - 1 - k := by omega
  rw [e, e2, Nat.pow_succ, ← Nat.div_div_eq_div_mul]
  omega

end Go.Proofs.Qxb6630026aDoor.Plain
