import Derived.Test.Qxb6628972aRows
import Derived.WalkKit
import Derived.WalkSpells
import Derived.ProofKit
import Derived.Deep.AppendLies
import Derived.Lib.SliceRun
namespace Go.Proofs.Qxb6628972a
open Go.RowKit

/-- An episode as it lies in memory: six cells. -/
structure Ep where
  m : ByteArray
  d : ByteArray
  f : Int
  l : Int
  c : Option Addr
  s : ByteArray

def Ep.cells (z : Ep) : List Value := [.string z.m, .string z.d, .int .i64 z.f, .int .i64 z.l, .pointer z.c, .string z.s]

/-- What the pointer of an episode leads to, if it is not nil: an int. -/
def CureOk (w : World) (c : Option Addr) : Prop := c = none ∨ ∃ b o n, c = some ⟨b, o, none⟩ ∧ b < w.heap.size ∧ w.cell? ⟨b, o, none⟩ = some (.int .i64 n)

/-- At block b from offset o on lies the episode z. -/
structure EpAt (w : World) (b o : Nat) (z : Ep) : Prop where
  c0 : w.cell? ⟨b, o, none⟩ = some (.string z.m)
  c1 : w.cell? ⟨b, o + 1, none⟩ = some (.string z.d)
  c2 : w.cell? ⟨b, o + 2, none⟩ = some (.int .i64 z.f)
  c3 : w.cell? ⟨b, o + 3, none⟩ = some (.int .i64 z.l)
  c4 : w.cell? ⟨b, o + 4, none⟩ = some (.pointer z.c)
  c5 : w.cell? ⟨b, o + 5, none⟩ = some (.string z.s)
  ok : CureOk w z.c
  lt : b < w.heap.size
  s0 : z.m.size ≤ maxLen
  s1 : z.d.size ≤ maxLen
  s5 : z.s.size ≤ maxLen

/-- The slice at address a reads as the episodes zs. -/
def EpsAt (w : World) (a : Option Addr) (zs : List Ep) : Prop := ∀ i (h : i < zs.length), ∃ b off, a = some ⟨b, off, none⟩ ∧ EpAt w b (off + i * 6) zs[i]

/-- The call returns a bool. -/
def AnyBool (e : Ending) : Prop := ∃ b, e = .returned (.bool b)

theorem CureOk.below {w w' : World} {c : Option Addr} (h : CureOk w c) (hb : Below w.heap.size w w') : CureOk w' c := by
  rcases h with h | ⟨b, o, n, h, hl, hc⟩
  · exact .inl h
  · exact .inr ⟨b, o, n, h, Nat.lt_of_lt_of_le hl hb.size, (hb.cell (p := ⟨b, o, none⟩) hl).trans hc⟩

theorem EpAt.below {w w' : World} {b o : Nat} {z : Ep} (h : EpAt w b o z) (hb : Below w.heap.size w w') : EpAt w' b o z :=
  ⟨(hb.cell (p := ⟨b, o, none⟩) h.lt).trans h.c0, (hb.cell (p := ⟨b, o + 1, none⟩) h.lt).trans h.c1, (hb.cell (p := ⟨b, o + 2, none⟩) h.lt).trans h.c2,
    (hb.cell (p := ⟨b, o + 3, none⟩) h.lt).trans h.c3, (hb.cell (p := ⟨b, o + 4, none⟩) h.lt).trans h.c4, (hb.cell (p := ⟨b, o + 5, none⟩) h.lt).trans h.c5,
    h.ok.below hb, Nat.lt_of_lt_of_le h.lt hb.size, h.s0, h.s1, h.s5⟩

theorem EpsAt.below {w w' : World} {a : Option Addr} {zs : List Ep} (h : EpsAt w a zs) (hb : Below w.heap.size w w') : EpsAt w' a zs := fun i hi => by
  obtain ⟨b, off, e, k⟩ := h i hi
  exact ⟨b, off, e, k.below hb⟩

theorem EpsAt.take {w : World} {a : Option Addr} {zs : List Ep} (h : EpsAt w a zs) (k : Nat) : EpsAt w a (zs.take k) := fun i hi => by
  rw [List.length_take] at hi
  obtain ⟨b, off, e, g⟩ := h i (by omega)
  exact ⟨b, off, e, by rw [List.getElem_take]; exact g⟩

theorem EpsAt.drop {w : World} {b off : Nat} {zs : List Ep} (h : EpsAt w (some ⟨b, off, none⟩) zs) (k : Nat) : EpsAt w (some ⟨b, off + k * 6, none⟩) (zs.drop k) := fun i hi => by
  rw [List.length_drop] at hi
  obtain ⟨b', off', e, g⟩ := h (k + i) (by omega)
  simp only [Option.some.injEq, Addr.mk.injEq, and_true] at e
  obtain ⟨rfl, rfl⟩ := e
  refine ⟨_, _, rfl, ?_⟩
  rw [List.getElem_drop]
  have e : off + k * 6 + i * 6 = off + (k + i) * 6 := by omega
  rw [e]; exact g

set_option maxHeartbeats 1000000 in
theorem fit_any (a : Option Addr) (c : Nat) (x : Int) (zs : List Ep) (w : World) (h : EpsAt w a zs) (hl : zs.length ≤ 1073741824) :
    Calls Try.prog 6 #[.slice a zs.length c, .int .i64 x] w fun e w' => AnyBool e ∧ w' = w := by
  have HE : Hid (EpsAt w a zs) := h
  clear h
  by_cases hx0 : x < 0
  · go_enter Try.func6, Try.ntmps6
    go_wp2
    go_ret
    exact ⟨⟨_, rfl⟩, rfl⟩
  · have hd0 : decide (x < 0) = false := by simpa using hx0
    by_cases hx1 : 1048576 < x
    · go_enter Try.func6, Try.ntmps6
      go_wp2
      go_ret
      exact ⟨⟨_, rfl⟩, rfl⟩
    · have hd1 : decide (1048576 < x) = false := by simpa using hx1
      go_enter Try.func6, Try.ntmps6
      go_wp2_with fail
      go_loop [5, 6] (fun t i => ∃ (k : Nat) (z : Int), k ≤ zs.length ∧ i = .int .i64 k ∧ t = .int .i64 z) (fun _ i => zs.length - (intOf i).toNat)
      case atStart => exact ⟨0, _, Nat.zero_le _, rfl, rfl⟩
      case round =>
        obtain ⟨k, z, hk, rfl, rfl⟩ := hrel
        by_cases hlt : k < zs.length
        · obtain ⟨b, off, rfl, g⟩ := HE.out k hlt
          generalize zs[k] = q at g
          have c0 := g.c0
          have c1 := g.c1
          have c5 := g.c5
          have s0 := g.s0
          have s1 := g.s1
          have s5 := g.s5
          unfold maxLen at s0 s1 s5
          clear g
          go_wp2
          all_goals first
            | (go_ret; exact ⟨⟨_, rfl⟩, rfl⟩)
            | (refine ⟨⟨k + 1, _, by omega, by go_num, rfl⟩, ?_⟩; simp [intOf]; omega)
        · go_wp2
          go_ret
          exact ⟨⟨_, rfl⟩, rfl⟩


set_option maxHeartbeats 1000000 in
theorem bytes5_any (a : Option Addr) (c : Nat) (x y : Int) (t : ByteArray) (zs : List Ep) (w : World) (h : EpsAt w a zs) (hl : zs.length ≤ maxLen) :
    Calls Try.prog 5 #[.int .i64 x, .slice a zs.length c, .int .i64 y, .string t] w fun e w' => AnyBool e ∧ w' = w := by
  have HE : Hid (EpsAt w a zs) := h
  clear h
  unfold maxLen at hl
  by_cases hx0 : 1048576 < zs.length
  · go_enter Try.func5, Try.ntmps5
    go_wp2
    go_ret
    exact ⟨⟨_, rfl⟩, rfl⟩
  · go_enter Try.func5, Try.ntmps5
    go_wp2_with fail
    go_loop [9, 10] (fun t i => ∃ (k : Nat) (z : Int), k ≤ zs.length ∧ i = .int .i64 k ∧ t = .int .i64 z) (fun _ i => zs.length - (intOf i).toNat)
    case atStart => exact ⟨0, _, Nat.zero_le _, rfl, rfl⟩
    case round =>
      obtain ⟨k, z, hk, rfl, rfl⟩ := hrel
      by_cases hlt : k < zs.length
      · obtain ⟨b, off, rfl, g⟩ := HE.out k hlt
        generalize zs[k] = q at g
        have c0 := g.c0
        have c1 := g.c1
        have c5 := g.c5
        have s0 := g.s0
        have s1 := g.s1
        have s5 := g.s5
        unfold maxLen at s0 s1 s5
        clear g
        go_wp2
        all_goals first
          | (go_ret; exact ⟨⟨_, rfl⟩, rfl⟩)
          | (refine ⟨⟨k + 1, _, by omega, by go_num, rfl⟩, ?_⟩; simp [intOf]; omega)
      · go_wp2
        all_goals
          go_ret
          exact ⟨⟨_, rfl⟩, rfl⟩

set_option maxHeartbeats 1000000 in
theorem episode_any (z : Ep) (w : World) (h : CureOk w z.c) :
    Calls Try.prog 11 #[.agg #[.string z.m, .string z.d, .int .i64 z.f, .int .i64 z.l, .pointer z.c, .string z.s]] w fun e w' =>
      ∃ z' : Ep, e = .returned (.agg #[.string z'.m, .string z'.d, .int .i64 z'.f, .int .i64 z'.l, .pointer z'.c, .string z'.s]) ∧ z'.s = z.s ∧ Below w.heap.size w w' := by
  rcases h with h | ⟨b, o, n, h, hl, hc⟩
  · rw [h]
    go_enter Try.func11, Try.ntmps11
    go_wp2
    refine bodyPost_ret (v := .agg #[.string z.m, .string z.d, .int .i64 z.f, .int .i64 z.l, .pointer none, .string z.s]) (by simp [results, Try.results11, go_sem]) rfl ⟨⟨z.m, z.d, z.f, z.l, none, z.s⟩, rfl, rfl, ?_⟩
    exact ((Below.refl _ _).alloc (Nat.le_refl _) _).alloc (by simp) _
  · rw [h]
    go_enter Try.func11, Try.ntmps11
    go_wp2
    refine bodyPost_ret (v := .agg #[.string z.m, .string z.d, .int .i64 z.f, .int .i64 z.l, .pointer (some ⟨w.heap.size + 1 + 1, 0, none⟩), .string z.s]) (by simp [results, Try.results11, go_sem]) rfl ⟨⟨z.m, z.d, z.f, z.l, some ⟨w.heap.size + 1 + 1, 0, none⟩, z.s⟩, rfl, rfl, ?_⟩
    exact (((Below.refl _ _).alloc (Nat.le_refl _) _).alloc (by simp) _).alloc (by simp; omega) _

end Go.Proofs.Qxb6628972a
