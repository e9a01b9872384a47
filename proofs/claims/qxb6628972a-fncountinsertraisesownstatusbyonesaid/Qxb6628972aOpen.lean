import Derived.Test.Qxb6628972aBase
import Derived.Deep.Slices
namespace Go.Proofs.Qxb6628972a
open Go.RowKit Go.ChangeShapes Go.WideShapes

theorem Try.cells29 : Try.prog.cellsOf 29 = 6 := by kernel_rfl
theorem Try.cells9 : Try.prog.cellsOf 9 = 1 := by kernel_rfl
theorem Try.cells3 : Try.prog.cellsOf 3 = 1 := by kernel_rfl
theorem Try.cells27 : Try.prog.cellsOf 27 = 1 := by kernel_rfl

section
variable {H : Type} {enc : TypeId × Value → H} {w : World} {base : Nat} {spare : Nat → Bool} {held : Bool}

theorem len6 {α : Type} {l : List α} (h : l.length = 6) : ∃ a b c d e f, l = [a, b, c, d, e, f] := by
  match l, h with
  | [a, b, c, d, e, f], _ => exact ⟨a, b, c, d, e, f, rfl⟩

theorem cure_of {fuel : Nat} {v : Value} {x : DataW H × List MemPlace} (h : DataW.trod enc Try.prog w base spare held fuel 27 [v] = some x) : ∃ c, v = .pointer c ∧ CureOk w c := by
  rcases DataW.trod_pointer Try.underlying27 h with ⟨hc, _⟩ | ⟨a, cs', y, n, _, hc, _, hcs, hy⟩
  · simp only [List.cons.injEq, and_true] at hc
    exact ⟨none, hc, .inl rfl⟩
  · simp only [List.cons.injEq, and_true] at hc
    obtain ⟨m, rfl, _, _⟩ := DataW.trod_int Try.underlying3 hy
    rw [Try.cells3] at hcs
    obtain ⟨_, _, hcell⟩ := World.cells?_some hcs
    have h0 := hcell 0 (by omega)
    have ha : a.add 0 = a := by simp [Addr.add]
    rw [ha] at h0
    simp at h0
    obtain ⟨b, off, spot⟩ := a
    have hspot : spot = none := by simpa using World.cell?_spot h0
    subst hspot
    exact ⟨some ⟨b, off, none⟩, hc, .inr ⟨b, off, m, rfl, World.block_lt_of_cell? w _ h0, h0⟩⟩

theorem ep_of {fuel : Nat} {cs : List Value} {x : DataW H × List MemPlace} (h : DataW.trod enc Try.prog w base spare held fuel 29 cs = some x) :
    ∃ z : Ep, cs = z.cells ∧ CureOk w z.c ∧ z.m.size ≤ maxLen ∧ z.d.size ≤ maxLen ∧ z.s.size ≤ maxLen := by
  obtain ⟨xs, n, _, _, hlen, hxl, hf⟩ := DataW.trod_struct Try.underlying29 h
  rw [Try.cells29] at hlen
  obtain ⟨v0, v1, v2, v3, v4, v5, rfl⟩ := len6 hlen
  obtain ⟨x0, x1, x2, x3, x4, x5, rfl⟩ := len6 hxl
  have g0 := hf 0 _ rfl
  have g1 := hf 1 _ rfl
  have g2 := hf 2 _ rfl
  have g3 := hf 3 _ rfl
  have g4 := hf 4 _ rfl
  have g5 := hf 5 _ rfl
  simp [Try.cells9, Try.cells3, Try.cells27] at g0 g1 g2 g3 g4 g5
  obtain ⟨s0, e0, _, b0⟩ := DataW.trod_string Try.underlying9 g0
  obtain ⟨s1, e1, _, b1⟩ := DataW.trod_string Try.underlying9 g1
  obtain ⟨n2, e2, _, _⟩ := DataW.trod_int Try.underlying3 g2
  obtain ⟨n3, e3, _, _⟩ := DataW.trod_int Try.underlying3 g3
  obtain ⟨c, e4, hc⟩ := cure_of g4
  obtain ⟨s5, e5, _, b5⟩ := DataW.trod_string Try.underlying9 g5
  simp only [List.cons.injEq, and_true] at e0 e1 e2 e3 e5
  subst e0 e1 e2 e3 e4 e5
  exact ⟨⟨s0, s1, n2, n3, c, s5⟩, rfl, hc, b0, b1, b5⟩

/-- A slice of episodes that came in. -/
theorem eps_in {v : Value} {d : DataW H} {p : List MemPlace} {r : Reach} {b0 : Nat} (hv : Value.okWide Try.prog w r b0 22 v) (h : DataW.Trod enc Try.prog w base spare held 22 v d p) :
    ∃ a zs cap, v = .slice a (List.length zs) cap ∧ EpsAt w a zs ∧ zs.length ≤ cap ∧ cap ≤ maxLen ∧ (a = none → zs = [] ∧ cap = 0) := by
  obtain ⟨a0, len, cap, rfl⟩ := okWide_slice Try.underlying22 hv
  obtain ⟨fuel, hf⟩ := h
  rcases Deep.open_slice Try.underlying22 hf with ⟨hcs, _⟩ | ⟨a, l, c, m, n, D, Pl, hcs, _, hl, hm, hmm, _, hx⟩
  · simp [Value.cells] at hcs
    obtain ⟨rfl, rfl, rfl⟩ := hcs
    exact ⟨none, [], 0, rfl, fun i hi => absurd hi (by simp), Nat.le_refl _, by decide, fun _ => ⟨rfl, rfl⟩⟩
  · simp [Value.cells] at hcs
    obtain ⟨rfl, rfl, rfl⟩ := hcs
    rw [Try.cells29] at hx
    have hml : len ≤ m := by rw [hmm]; split <;> omega
    have each : ∀ i, i < len → ∃ z : Ep, ∃ b off, a = ⟨b, off, none⟩ ∧ EpAt w b (off + i * 6) z := by
      intro i hi
      have hspot : a.spot = none := by
        obtain ⟨cs', h1, h2⟩ := hx 0 (by omega)
        obtain ⟨z, rfl, _⟩ := ep_of h2
        obtain ⟨_, _, hcell⟩ := World.cells?_some h1
        have k0 : w.cell? ((a.add (0 * 6)).add 0) = some (.string z.m) := hcell 0 (by omega)
        have h3 := World.cell?_spot k0
        simpa [Addr.add] using h3
      obtain ⟨cs', h1, h2⟩ := hx i (by omega)
      obtain ⟨z, rfl, hc, b0, b1, b5⟩ := ep_of h2
      obtain ⟨_, _, hcell⟩ := World.cells?_some h1
      obtain ⟨b, off, spot⟩ := a
      simp only at hspot
      subst hspot
      refine ⟨z, b, off, rfl, ?_⟩
      have kj : ∀ j, j < 6 → w.cell? ⟨b, off + i * 6 + j, none⟩ = z.cells[j]? := by
        intro j hj
        have := hcell j hj
        rw [add_plain, add_plain] at this
        exact this
      exact ⟨kj 0 (by omega), kj 1 (by omega), kj 2 (by omega), kj 3 (by omega), kj 4 (by omega), kj 5 (by omega), hc, World.block_lt_of_cell? w _ (kj 0 (by omega)), b0, b1, b5⟩
    have hinh : Inhabited Ep := ⟨⟨ByteArray.empty, ByteArray.empty, 0, 0, none, ByteArray.empty⟩⟩
    obtain ⟨Z, hZ⟩ := Deep.choose_lt each
    have hzl : ((List.range len).map Z).length = len := by simp
    refine ⟨some a, (List.range len).map Z, cap, by rw [hzl], fun i hi => ?_, by rw [hzl]; exact hl, hm, fun e => by cases e⟩
    rw [hzl] at hi
    obtain ⟨b, off, e, g⟩ := hZ i hi
    refine ⟨b, off, by rw [e], ?_⟩
    have : ((List.range len).map Z)[i]'(by rw [hzl]; exact hi) = Z i := by simp
    rw [this]; exact g

/-- An episode that came in by value. -/
theorem ep_in {v : Value} {d : DataW H} {p : List MemPlace} {r : Reach} {b0 : Nat} (hv : Value.okWide Try.prog w r b0 29 v) (h : DataW.Trod enc Try.prog w base spare held 29 v d p) :
    ∃ z : Ep, v = .agg #[.string z.m, .string z.d, .int .i64 z.f, .int .i64 z.l, .pointer z.c, .string z.s] ∧ CureOk w z.c ∧ z.m.size ≤ maxLen ∧ z.d.size ≤ maxLen ∧ z.s.size ≤ maxLen := by
  obtain ⟨cs, rfl, _⟩ := okWide_struct Try.underlying29 hv
  obtain ⟨fuel, hf⟩ := h
  obtain ⟨z, hcs, hz⟩ := ep_of hf
  refine ⟨z, ?_, hz⟩
  have : cs.toList = z.cells := hcs
  obtain ⟨l⟩ := cs
  simp only at this
  subst this
  rfl

end
end Go.Proofs.Qxb6628972a
