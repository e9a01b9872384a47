/-
  THE PLAIN MATHEMATICS OF SEAT b6629991a: the fields but the first and the q-th. No Go in sight.
-/
namespace Go.Proofs.Qxb6629991a.Plain

variable {α : Type}

/-- What IdentityFields has gathered behind k rounds. -/
def idt (fs : List α) (q : Nat) : Nat → List α
  | 0 => []
  | k + 1 => if k ≠ 0 ∧ k ≠ q then idt fs q k ++ fs[k]?.toList else idt fs q k

theorem idt_keep (fs : List α) (q k : Nat) (h0 : k ≠ 0) (h1 : k ≠ q) (h : k < fs.length) : idt fs q (k + 1) = idt fs q k ++ [fs[k]] := by
  simp [idt, h0, h1, h]
theorem idt_zero (fs : List α) (q : Nat) : idt fs q 1 = idt fs q 0 := by simp [idt]
theorem idt_skip (fs : List α) (q : Nat) : idt fs q (q + 1) = idt fs q q := by simp [idt]

theorem idt_length_le (fs : List α) (q k : Nat) : (idt fs q k).length ≤ k := by
  induction k with
  | zero => simp [idt]
  | succ k ih =>
    simp only [idt]
    split
    · cases fs[k]? <;> simp <;> omega
    · omega

/-- Up to q: all but the first. -/
theorem idt_low (fs : List α) (q k : Nat) (h : k ≤ q) (hk : k ≤ fs.length) : idt fs q k = (fs.take k).drop 1 := by
  induction k with
  | zero => simp [idt]
  | succ k ih =>
    by_cases h0 : k = 0
    · subst h0; simp [idt]
    · rw [idt_keep fs q k h0 (by omega) (by omega), ih (by omega) (by omega), List.take_succ_eq_append_getElem (by omega), List.drop_append_of_le_length (by simp; omega)]

/-- Behind q. -/
theorem idt_high (fs : List α) (q k : Nat) (hq : 1 ≤ q) (h : q + 1 ≤ k) (hk : k ≤ fs.length) : idt fs q k = (fs.take q).drop 1 ++ (fs.take k).drop (q + 1) := by
  induction k with
  | zero => omega
  | succ k ih =>
    by_cases h0 : k = q
    · subst h0
      rw [idt_skip, idt_low fs k k (Nat.le_refl _) (by omega)]
      have : (fs.take (k + 1)).drop (k + 1) = [] := List.drop_eq_nil_of_le (by simp; omega)
      rw [this, List.append_nil]
    · rw [idt_keep fs q k (by omega) h0 (by omega), ih (by omega) (by omega), List.take_succ_eq_append_getElem (by omega), List.drop_append_of_le_length (by simp; omega), List.append_assoc]

theorem idt_all (fs : List α) (q : Nat) (hq : 1 ≤ q) (h : q < fs.length) : idt fs q fs.length = (fs.take q).drop 1 ++ fs.drop (q + 1) := by
  rw [idt_high fs q fs.length hq h (Nat.le_refl _), List.take_length]

theorem idt_len (fs : List α) (q : Nat) (hq : 1 ≤ q) (h : q < fs.length) : (idt fs q fs.length).length = fs.length - 2 := by
  rw [idt_all fs q hq h]; simp; omega

theorem idt_at (fs : List α) (q k : Nat) (hq : 1 ≤ q) (h : q < fs.length) : (idt fs q fs.length)[k]? = if k + 1 < q then fs[k + 1]? else fs[k + 2]? := by
  rw [idt_all fs q hq h]
  by_cases hk : k + 1 < q
  · rw [if_pos hk, List.getElem?_append_left (by simp; omega), List.getElem?_drop, List.getElem?_take_of_lt (by omega), Nat.add_comm]
  · rw [if_neg hk, List.getElem?_append_right (by simp; omega), List.getElem?_drop]
    congr 1
    simp
    omega

/-- z put in at place p. -/
def insAt (fs : List α) (p : Nat) (z : α) : List α := fs.take p ++ z :: fs.drop p
theorem insAt_length (fs : List α) (p : Nat) (z : α) (h : p ≤ fs.length) : (insAt fs p z).length = fs.length + 1 := by
  simp [insAt]; omega
theorem insAt_lt (fs : List α) (p k : Nat) (z : α) (h : k < p) (hp : p ≤ fs.length) : (insAt fs p z)[k]? = fs[k]? := by
  unfold insAt
  rw [List.getElem?_append_left (by simp; omega), List.getElem?_take_of_lt h]
theorem insAt_at (fs : List α) (p : Nat) (z : α) (hp : p ≤ fs.length) : (insAt fs p z)[p]? = some z := by
  unfold insAt
  rw [List.getElem?_append_right (by simp; omega)]
  simp [Nat.min_eq_left hp]
theorem insAt_gt (fs : List α) (p k : Nat) (z : α) (h : p ≤ k) (hp : p ≤ fs.length) : (insAt fs p z)[k + 1]? = fs[k]? := by
  unfold insAt
  rw [List.getElem?_append_right (by simp; omega)]
  have : k + 1 - (fs.take p).length = (k - p) + 1 := by simp; omega
  rw [this, List.getElem?_cons_succ, List.getElem?_drop]
  congr 1
  omega

/-- THE FIRST LAW, PLAINLY. -/
theorem ins_law (fs : List α) (z : α) (p s s2 q : Nat) (hs : 1 ≤ s) (hs2 : s < fs.length) (hp2 : p ≤ fs.length)
    (hc : (p ≤ s ∧ p = q + 1 ∧ s2 = s + 1) ∨ (s < p ∧ p = q + 2 ∧ s2 = s)) :
    (idt fs s fs.length).length = fs.length - 2 ∧ (idt (insAt fs p z) s2 (fs.length + 1)).length = fs.length - 1 ∧
    (idt (insAt fs p z) s2 (fs.length + 1))[q]? = some z ∧
    (∀ k, k < q → (idt (insAt fs p z) s2 (fs.length + 1))[k]? = (idt fs s fs.length)[k]?) ∧
    (∀ k, q ≤ k → (idt (insAt fs p z) s2 (fs.length + 1))[k + 1]? = (idt fs s fs.length)[k]?) := by
  have hl := insAt_length fs p z hp2
  have h1 : 1 ≤ s2 := by omega
  have h2 : s2 < (insAt fs p z).length := by omega
  rw [← hl]
  refine ⟨idt_len fs s hs hs2, by rw [idt_len _ s2 h1 h2]; omega, ?_, ?_, ?_⟩
  · rw [idt_at _ s2 q h1 h2]
    rcases hc with ⟨a, b, c⟩ | ⟨a, b, c⟩
    · rw [if_pos (by omega), ← b]; exact insAt_at fs p z hp2
    · rw [if_neg (by omega), ← b]; exact insAt_at fs p z hp2
  · intro k hk
    rw [idt_at _ s2 k h1 h2, idt_at fs s k hs hs2]
    rcases hc with ⟨a, b, c⟩ | ⟨a, b, c⟩
    · rw [if_pos (by omega), if_pos (by omega)]; exact insAt_lt fs p (k + 1) z (by omega) hp2
    · rw [insAt_lt fs p (k + 1) z (by omega) hp2, insAt_lt fs p (k + 2) z (by omega) hp2, c]
  · intro k hk
    rw [idt_at _ s2 (k + 1) h1 h2, idt_at fs s k hs hs2]
    rcases hc with ⟨a, b, c⟩ | ⟨a, b, c⟩
    · by_cases h : k + 1 < s
      · rw [if_pos (by omega), if_pos h]; exact insAt_gt fs p (k + 1) z (by omega) hp2
      · rw [if_neg (by omega), if_neg h]; exact insAt_gt fs p (k + 2) z (by omega) hp2
    · rw [if_neg (by omega), if_neg (by omega)]; exact insAt_gt fs p (k + 2) z (by omega) hp2

end Go.Proofs.Qxb6629991a.Plain
