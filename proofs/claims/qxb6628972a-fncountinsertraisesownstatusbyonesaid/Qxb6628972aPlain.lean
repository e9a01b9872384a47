/-
  THE PLAIN MATHEMATICS OF SEAT b6628972a: counting the keys of a list. No Go in sight.
-/
namespace Go.Proofs.Qxb6628972a.Plain

/-- How many keys of the list stand among its first k. -/
def tot (ks : List (List UInt8)) (k : Nat) : Nat := ks.countP (fun y => (ks.take k).contains y)
/-- Does t stand among the first k? -/
def has (ks : List (List UInt8)) (k : Nat) (t : List UInt8) : Bool := (ks.take k).contains t

theorem tot_zero (ks : List (List UInt8)) : tot ks 0 = 0 := by simp [tot]
theorem has_zero (ks : List (List UInt8)) (t : List UInt8) : has ks 0 t = false := by simp [has]

theorem has_succ (ks : List (List UInt8)) (k : Nat) (t : List UInt8) (h : k < ks.length) : has ks (k + 1) t = (has ks k t || ks[k] == t) := by
  unfold has
  rw [List.take_succ_eq_append_getElem h, Bool.eq_iff_iff]
  simp only [Bool.or_eq_true, List.contains_iff_mem, List.mem_append, List.mem_singleton, beq_iff_eq]
  constructor
  · rintro (h | h)
    · exact .inl h
    · exact .inr h.symm
  · rintro (h | h)
    · exact .inl h
    · exact .inr h.symm

theorem has_mono (ks : List (List UInt8)) (a b : Nat) (t : List UInt8) (h : a ≤ b) (ha : has ks a t = true) : has ks b t = true := by
  unfold has at *
  rw [List.contains_iff_mem] at *
  exact List.mem_of_mem_take (i := a) (by rw [List.take_take, Nat.min_eq_left h]; exact ha)

theorem tot_seen (ks : List (List UInt8)) (k : Nat) (h : k < ks.length) (hs : has ks k ks[k] = true) : tot ks (k + 1) = tot ks k := by
  unfold tot
  apply List.countP_congr
  intro y _
  have := has_succ ks k y h
  unfold has at this hs
  rw [this]
  by_cases e : ks[k] = y
  · subst e; rw [hs]; simp
  · simp [e]

theorem countP_or (p q : List UInt8 → Bool) (l : List (List UInt8)) (h : ∀ y ∈ l, p y = true → q y = false) : l.countP (fun y => p y || q y) = l.countP p + l.countP q := by
  induction l with
  | nil => rfl
  | cons a r ih =>
    simp only [List.countP_cons]
    rw [ih (fun y hy => h y (List.mem_cons_of_mem _ hy))]
    have := h a List.mem_cons_self
    cases hp : p a <;> cases hq : q a <;> simp_all <;> omega

theorem tot_new (ks : List (List UInt8)) (k : Nat) (h : k < ks.length) (hs : has ks k ks[k] = false) : tot ks (k + 1) = tot ks k + ks.count ks[k] := by
  have e : tot ks (k + 1) = ks.countP (fun y => has ks k y || y == ks[k]) := by
    unfold tot
    apply List.countP_congr
    intro y _
    have := has_succ ks k y h
    unfold has at this
    rw [this]
    unfold has
    by_cases e : ks[k] = y
    · subst e; simp
    · have : ¬ y = ks[k] := fun e' => e e'.symm
      simp [e, this]
  rw [e, countP_or]
  · rfl
  · intro y _ hy
    cases hb : (y == ks[k]) with
    | false => rfl
    | true =>
      have : y = ks[k] := by simpa using hb
      rw [this, hs] at hy; cases hy

theorem tot_all (ks : List (List UInt8)) : tot ks ks.length = ks.length := by
  unfold tot
  rw [List.take_length, List.countP_eq_length]
  intro a ha
  simpa using ha

theorem tot_le (ks : List (List UInt8)) (k : Nat) : tot ks k ≤ ks.length := List.countP_le_length

theorem count_pos (ks : List (List UInt8)) (k : Nat) (h : k < ks.length) : 1 ≤ ks.count ks[k] := List.count_pos_iff.2 (List.getElem_mem h)
theorem count_le (ks : List (List UInt8)) (t : List UInt8) : ks.count t ≤ ks.length := List.count_le_length
theorem count_cut (ks : List (List UInt8)) (c : Nat) (t : List UInt8) : (ks.take c).count t + (ks.drop c).count t = ks.count t := by
  rw [← List.count_append, List.take_append_drop]

theorem has_all_true (ks : List (List UInt8)) (t : List UInt8) (h : has ks ks.length t = true) : 1 ≤ ks.count t := by
  unfold has at h
  rw [List.take_length] at h
  exact List.count_pos_iff.2 (by simpa using h)
theorem has_all_false (ks : List (List UInt8)) (t : List UInt8) (h : has ks ks.length t = false) : ks.count t = 0 := by
  unfold has at h
  rw [List.take_length] at h
  exact List.count_eq_zero.2 (by simpa using h)

end Go.Proofs.Qxb6628972a.Plain
