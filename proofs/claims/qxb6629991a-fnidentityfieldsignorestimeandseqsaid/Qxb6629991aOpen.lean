import Derived.Test.Qxb6629991aBase
import Derived.Deep.Slices
namespace Go.Proofs.Qxb6629991a
open Go.RowKit Go.ChangeShapes Go.WideShapes

theorem Try.cells25 : Try.prog.cellsOf 25 = 2 := by kernel_rfl
theorem Try.cells9 : Try.prog.cellsOf 9 = 1 := by kernel_rfl
theorem Try.cells23 : Try.prog.cellsOf 23 = 1 := by kernel_rfl

section
variable {H : Type} {enc : TypeId × Value → H} {w : World} {base : Nat} {spare : Nat → Bool} {held : Bool}

theorem len2 {α : Type} {l : List α} (h : l.length = 2) : ∃ a b, l = [a, b] := by
  match l, h with
  | [a, b], _ => exact ⟨a, b, rfl⟩

theorem fd_of {fuel : Nat} {cs : List Value} {x : DataW H × List MemPlace} (h : DataW.trod enc Try.prog w base spare held fuel 25 cs = some x) :
    ∃ z : Fd, cs = z.cells ∧ z.n.size ≤ maxLen := by
  obtain ⟨xs, n, _, _, hlen, hxl, hf⟩ := DataW.trod_struct Try.underlying25 h
  rw [Try.cells25] at hlen
  obtain ⟨v0, v1, rfl⟩ := len2 hlen
  obtain ⟨x0, x1, rfl⟩ := len2 hxl
  have g0 := hf 0 _ rfl
  have g1 := hf 1 _ rfl
  simp [Try.cells9, Try.cells23] at g0 g1
  obtain ⟨s0, e0, _, b0⟩ := DataW.trod_string Try.underlying9 g0
  obtain ⟨n1, e1, _, _⟩ := DataW.trod_int Try.underlying23 g1
  simp only [List.cons.injEq, and_true] at e0 e1
  subst e0 e1
  exact ⟨⟨s0, n1⟩, rfl, b0⟩

/-- A slice of fields that came in. -/
theorem fds_in {v : Value} {d : DataW H} {p : List MemPlace} {r : Reach} {b0 : Nat} (hv : Value.okWide Try.prog w r b0 22 v) (h : DataW.Trod enc Try.prog w base spare held 22 v d p) :
    ∃ a zs cap, v = .slice a (List.length zs) cap ∧ FdsAt w a zs ∧ zs.length ≤ maxLen := by
  obtain ⟨a0, len, cap, rfl⟩ := okWide_slice Try.underlying22 hv
  obtain ⟨fuel, hf⟩ := h
  rcases Deep.open_slice Try.underlying22 hf with ⟨hcs, _⟩ | ⟨a, l, c, m, n, D, Pl, hcs, _, hl, hm, hmm, _, hx⟩
  · simp [Value.cells] at hcs
    obtain ⟨rfl, rfl, rfl⟩ := hcs
    exact ⟨none, [], 0, rfl, fun i hi => absurd hi (by simp), by decide⟩
  · simp [Value.cells] at hcs
    obtain ⟨rfl, rfl, rfl⟩ := hcs
    rw [Try.cells25] at hx
    have hml : len ≤ m := by rw [hmm]; split <;> omega
    have each : ∀ i, i < len → ∃ z : Fd, ∃ b off, a = ⟨b, off, none⟩ ∧ FdAt w b (off + i * 2) z := by
      intro i hi
      have hspot : a.spot = none := by
        obtain ⟨cs', h1, h2⟩ := hx 0 (by omega)
        obtain ⟨z, rfl, _⟩ := fd_of h2
        obtain ⟨_, _, hcell⟩ := World.cells?_some h1
        have k0 : w.cell? ((a.add (0 * 2)).add 0) = some (.string z.n) := hcell 0 (by omega)
        have h3 := World.cell?_spot k0
        simpa [Addr.add] using h3
      obtain ⟨cs', h1, h2⟩ := hx i (by omega)
      obtain ⟨z, rfl, b0⟩ := fd_of h2
      obtain ⟨_, _, hcell⟩ := World.cells?_some h1
      obtain ⟨b, off, spot⟩ := a
      simp only at hspot
      subst hspot
      refine ⟨z, b, off, rfl, ?_⟩
      have kj : ∀ j, j < 2 → w.cell? ⟨b, off + i * 2 + j, none⟩ = z.cells[j]? := by
        intro j hj
        have := hcell j hj
        rw [add_plain, add_plain] at this
        exact this
      exact ⟨kj 0 (by omega), kj 1 (by omega), World.block_lt_of_cell? w _ (kj 0 (by omega)), b0⟩
    have hinh : Inhabited Fd := ⟨⟨ByteArray.empty, 0⟩⟩
    obtain ⟨Z, hZ⟩ := Deep.choose_lt each
    have hzl : ((List.range len).map Z).length = len := by simp
    refine ⟨some a, (List.range len).map Z, cap, by rw [hzl], fun i hi => ?_, by rw [hzl]; omega⟩
    rw [hzl] at hi
    obtain ⟨b, off, e, g⟩ := hZ i hi
    refine ⟨b, off, by rw [e], ?_⟩
    have : ((List.range len).map Z)[i]'(by rw [hzl]; exact hi) = Z i := by simp
    rw [this]; exact g

/-- A field that came in by value. -/
theorem fd_in {v : Value} {d : DataW H} {p : List MemPlace} {r : Reach} {b0 : Nat} (hv : Value.okWide Try.prog w r b0 25 v) (h : DataW.Trod enc Try.prog w base spare held 25 v d p) :
    ∃ z : Fd, v = .agg #[.string z.n, .int .u64 z.b] ∧ z.n.size ≤ maxLen := by
  obtain ⟨cs, rfl, _⟩ := okWide_struct Try.underlying25 hv
  obtain ⟨fuel, hf⟩ := h
  obtain ⟨z, hcs, hz⟩ := fd_of hf
  refine ⟨z, ?_, hz⟩
  have : cs.toList = z.cells := hcs
  obtain ⟨l⟩ := cs
  simp only at this
  subst this
  rfl

end
end Go.Proofs.Qxb6629991a
