/-
  THE PLAIN MATHEMATICS OF SEAT b6628940a: what AppendPattern writes ('enc'), what the strict reading gives back ('dec'). No Go in sight.
-/
namespace Go.Proofs.Qxb6628940a.Wild

/-- What AppendPattern adds for one byte. -/
def enc1 (c : UInt8) : List UInt8 := if c = 92 then [92, c] else [c]
/-- What AppendPattern adds for a text. -/
def enc : List UInt8 → List UInt8
  | [] => []
  | c :: r => enc1 c ++ enc r

theorem enc_append (a b : List UInt8) : enc (a ++ b) = enc a ++ enc b := by
  induction a with
  | nil => rfl
  | cons c r ih => simp [enc, ih, List.append_assoc]

theorem enc_snoc (a : List UInt8) (c : UInt8) : enc (a ++ [c]) = enc a ++ enc1 c := by
  rw [enc_append]; simp [enc]

theorem enc1_hit {c : UInt8} (h : c = 92) : enc1 c = [92, c] := by simp [enc1, h]
theorem enc1_miss {c : UInt8} (h : c ≠ 92) : enc1 c = [c] := by simp [enc1, h]

/-- How many escape bytes a text holds. -/
def esc : List UInt8 → Nat
  | [] => 0
  | c :: r => (if c = 92 then 1 else 0) + esc r

theorem esc_append (a b : List UInt8) : esc (a ++ b) = esc a + esc b := by
  induction a with
  | nil => simp [esc]
  | cons c r ih => simp [esc, ih, Nat.add_assoc]

theorem esc_snoc (a : List UInt8) (c : UInt8) : esc (a ++ [c]) = esc a + if c = 92 then 1 else 0 := by
  rw [esc_append]; simp [esc]

theorem esc_le (a : List UInt8) : esc a ≤ a.length := by
  induction a with
  | nil => simp [esc]
  | cons c r ih => simp only [esc, List.length_cons]; split <;> omega

theorem enc_length (a : List UInt8) : (enc a).length = a.length + esc a := by
  induction a with
  | nil => rfl
  | cons c r ih =>
    simp only [enc, enc1, esc, List.length_append, List.length_cons, ih]
    split <;> simp <;> omega

theorem enc_length_le (a : List UInt8) : (enc a).length ≤ 2 * a.length := by
  rw [enc_length]; have := esc_le a; omega

theorem take_snoc (m : List UInt8) (k : Nat) (h : k < m.length) : m.take (k + 1) = m.take k ++ [m[k]] := List.take_succ_eq_append_getElem h

theorem enc_parts (m : List UInt8) (k : Nat) (h : k < m.length) : enc m = enc (m.take k) ++ (enc1 m[k] ++ enc (m.drop (k + 1))) := by
  have h1 : m = m.take k ++ (m[k] :: m.drop (k + 1)) := by
    rw [← List.drop_eq_getElem_cons h, List.take_append_drop]
  have h2 := congrArg enc h1
  rw [enc_append] at h2
  exact h2

theorem dec_hit (m : List UInt8) (k j : Nat) (h : k < m.length) (hj : (enc (m.take k)).length = j) (hc : m[k] = 92) :
    j + 1 < (enc m).length ∧ (enc m)[j]? = some 92 ∧ (enc m)[j + 1]? = some 92 ∧ (enc (m.take (k + 1))).length = j + 2 := by
  have hp := enc_parts m k h
  rw [enc1_hit hc, hc] at hp
  refine ⟨?_, ?_, ?_, ?_⟩
  · rw [hp]; simp; omega
  · rw [hp, List.getElem?_append_right (by omega)]; simp [hj]
  · rw [hp, List.getElem?_append_right (by omega)]; simp [hj]
  · rw [take_snoc m k h, enc_snoc, enc1_hit hc]; simp [hj]

theorem dec_miss (m : List UInt8) (k j : Nat) (h : k < m.length) (hj : (enc (m.take k)).length = j) (hc : m[k] ≠ 92) :
    j < (enc m).length ∧ (enc m)[j]? = some m[k] ∧ (enc (m.take (k + 1))).length = j + 1 := by
  have hp := enc_parts m k h
  rw [enc1_miss hc] at hp
  refine ⟨?_, ?_, ?_⟩
  · rw [hp]; simp; omega
  · rw [hp, List.getElem?_append_right (by omega)]; simp [hj]
  · rw [take_snoc m k h, enc_snoc, enc1_miss hc]; simp [hj]

theorem enc_nil {m : List UInt8} (h : enc m = []) : m = [] := by
  cases m with
  | nil => rfl
  | cons c r =>
    have := congrArg List.length h
    rw [enc_length] at this
    simp at this

end Go.Proofs.Qxb6628940a.Wild
