import Derived.Test.Qxb6629991aIdent
import Derived.Laws.StructEq
namespace Go.Proofs.Qxb6629991a
open Go.RowKit

theorem stood29 : Try.prog.stoodInHeld 29 = false := by kernel_rfl
theorem guard29 : Try.prog.eqGuardType Try.prog.depth 29 = false := by kernel_rfl
theorem eq29 (a : ByteArray) (b : Int) (w : World) : (Op.equalIn 10000 29 (.agg #[.string a, .int .u64 b]) (.agg #[.string a, .int .u64 b])).run Try.prog w = .ok true w := by
  rw [run_equalIn_agg (P := Try.prog) w 9999 29 _ _ Try.underlying29 stood29]
  simp [go_sem]

theorem set_take {α : Type} (xs : List α) (k : Nat) (u : α) (h : k < xs.length) : (xs.set k u).take (k + 1) = xs.take k ++ [u] := by
  rw [List.take_succ_eq_append_getElem (by simpa using h), List.take_set, List.set_eq_of_length_le (by simp; omega)]
  simp

theorem take_set2 (xs : List Value) (o : Nat) (a0 a1 : Value) (h : o + 2 ≤ xs.length) : ((xs.set o a0).set (o + 1) a1).take (o + 2) = xs.take o ++ [a0, a1] := by
  rw [show o + 2 = o + 1 + 1 from rfl, set_take _ _ _ (by simp; omega), set_take _ _ _ (by omega)]
  simp

/-- A row that is being filled: its first k fields are those of ts. -/
def Fills (w : World) (B N k : Nat) (ts : List Fd) : Prop := ∃ xs, w.ownsRow B 29 2 (.slice (some ⟨B, 0, none⟩) N N) N xs ∧ xs.take (k * 2) = flat (ts.take k)

theorem Fills.start {w : World} {B N : Nat} {xs : List Value} (ts : List Fd) (h : w.ownsRow B 29 2 (.slice (some ⟨B, 0, none⟩) N N) N xs) : Fills w B N 0 ts := ⟨xs, h, by simp [flat]⟩

theorem Fills.below {w w' : World} {B N k : Nat} {ts : List Fd} (h : Fills w B N k ts) (hb : Below w.heap.size w w') : Fills w' B N k ts := by
  obtain ⟨xs, h1, h2⟩ := h
  exact ⟨xs, ownsRow_below h1 hb, h2⟩

/-- The two cells at place k are there, and may be written. -/
theorem Fills.there {w : World} {B N k : Nat} {ts : List Fd} (h : Fills w B N k ts) (j : Nat) (hk : j < N) :
    (∃ u, w.cell? ⟨B, j * 2, none⟩ = some u) ∧ (∃ u, w.cell? ⟨B, j * 2 + 1, none⟩ = some u) ∧ w.frozen? ⟨B, j * 2, none⟩ = false ∧ w.frozen? ⟨B, j * 2 + 1, none⟩ = false := by
  obtain ⟨xs, h1, _⟩ := h
  have hl := h1.1
  exact ⟨⟨xs[j * 2]'(by omega), by rw [h1.cellAt _ (by omega), List.getElem?_eq_getElem (by omega)]⟩, ⟨xs[j * 2 + 1]'(by omega), by rw [h1.cellAt _ (by omega), List.getElem?_eq_getElem (by omega)]⟩, h1.frozenAt _, h1.frozenAt _⟩

theorem Fills.step {w : World} {B N k : Nat} {ts : List Fd} {z : Fd} (h : Fills w B N k ts) (hk : k < N) (hz : ts[k]? = some z) :
    Fills ((w.setCell ⟨B, k * 2, none⟩ (.string z.n)).setCell ⟨B, k * 2 + 1, none⟩ (.int .u64 z.b)) B N (k + 1) ts := by
  obtain ⟨xs, h1, h2⟩ := h
  have hl := h1.1
  obtain ⟨hlt, he⟩ := List.getElem?_eq_some_iff.1 hz
  refine ⟨_, ((h1.stored (k * 2) _).1.stored (k * 2 + 1) _).1, ?_⟩
  rw [show (k + 1) * 2 = k * 2 + 2 by omega, take_set2 _ _ _ _ (by omega), h2, List.take_succ_eq_append_getElem hlt, flat_append, he]; rfl

/-- A store at a place that is already filled. -/
theorem Fills.done {w : World} {B N : Nat} {ts : List Fd} (h : Fills w B N N ts) (hl : ts.length = N) : w.ownsRow B 29 2 (.slice (some ⟨B, 0, none⟩) ts.length N) ts.length (flat ts) := by
  obtain ⟨xs, h1, h2⟩ := h
  have := h1.1
  rw [List.take_of_length_le (by omega), List.take_of_length_le (by omega)] at h2
  rw [hl, ← h2]; exact h1

/-- What a row of fields looks like to whoever reads it. -/
theorem own_shape {w : World} {base : Nat} {v : Value} {zs : List Fd} (h : w.ownsRow base 29 2 v zs.length (flat zs)) :
    ∃ a c, v = .slice a zs.length c ∧ ∀ k z, zs[k]? = some z → ∃ g, a = some ⟨g, 0, none⟩ ∧ w.cell? ⟨g, k * 2, none⟩ = some (.string z.n) ∧ w.cell? ⟨g, k * 2 + 1, none⟩ = some (.int .u64 z.b) := by
  rcases h.2 with ⟨rfl, h0⟩ | ⟨g, cap, cur, rfl, hb, hg, rest⟩
  · refine ⟨none, 0, by rw [h0], fun k z hz => ?_⟩
    have := (List.getElem?_eq_some_iff.1 hz).1
    omega
  · refine ⟨_, cap, rfl, fun k z hz => ⟨g, rfl, ?_⟩⟩
    obtain ⟨hk, he⟩ := List.getElem?_eq_some_iff.1 hz
    have := row_cells h k hk
    rw [he] at this
    exact this

end Go.Proofs.Qxb6629991a
