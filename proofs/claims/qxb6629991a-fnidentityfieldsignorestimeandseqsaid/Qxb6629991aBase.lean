import Derived.Test.Qxb6629991aRows
import Derived.WalkKit
import Derived.WalkSpells
import Derived.ProofKit
import Derived.Deep.AppendLies
import Derived.Deep.Slices
namespace Go.Proofs.Qxb6629991a
open Go.RowKit

/-- A field as it lies in memory: two cells. -/
structure Fd where
  n : ByteArray
  b : Int

def Fd.cells (z : Fd) : List Value := [.string z.n, .int .u64 z.b]

/-- At block b from offset o on lies the field z. -/
structure FdAt (w : World) (b o : Nat) (z : Fd) : Prop where
  c0 : w.cell? ⟨b, o, none⟩ = some (.string z.n)
  c1 : w.cell? ⟨b, o + 1, none⟩ = some (.int .u64 z.b)
  lt : b < w.heap.size
  s0 : z.n.size ≤ maxLen

/-- The slice at address a reads as the fields zs. -/
def FdsAt (w : World) (a : Option Addr) (zs : List Fd) : Prop := ∀ i (h : i < zs.length), ∃ b off, a = some ⟨b, off, none⟩ ∧ FdAt w b (off + i * 2) zs[i]

/-- The call returns a bool. -/
def AnyBool (e : Ending) : Prop := ∃ b, e = .returned (.bool b)

theorem FdAt.below {w w' : World} {b o : Nat} {z : Fd} (h : FdAt w b o z) (hb : Below w.heap.size w w') : FdAt w' b o z :=
  ⟨(hb.cell (p := ⟨b, o, none⟩) h.lt).trans h.c0, (hb.cell (p := ⟨b, o + 1, none⟩) h.lt).trans h.c1, Nat.lt_of_lt_of_le h.lt hb.size, h.s0⟩

theorem FdsAt.below {w w' : World} {a : Option Addr} {zs : List Fd} (h : FdsAt w a zs) (hb : Below w.heap.size w w') : FdsAt w' a zs := fun i hi => by
  obtain ⟨b, off, e, k⟩ := h i hi
  exact ⟨b, off, e, k.below hb⟩

theorem ownsRow_below {w w' : World} {base : Nat} {e : TypeId} {size : Nat} {v : Value} {n : Nat} {xs : List Value} (h : w.ownsRow base e size v n xs) (hb : Below w.heap.size w w') : w'.ownsRow base e size v n xs := by
  refine ⟨h.1, ?_⟩
  rcases h.2 with hn | ⟨g, cap, cur, rfl, hbg, hgg, rest⟩
  · exact .inl hn
  · exact .inr ⟨g, cap, cur, rfl, hbg, (hb.block g (Array.getElem?_eq_some_iff.1 hgg).1).trans hgg, rest⟩

set_option maxHeartbeats 1000000 in
theorem over_any (a : Option Addr) (c : Nat) (x : Int) (zs : List Fd) (w : World) (h : FdsAt w a zs) (hl : zs.length ≤ 1073741824) :
    Calls Try.prog 6 #[.slice a zs.length c, .int .i64 x] w fun e w' => AnyBool e ∧ w' = w := by
  have HE : Hid (FdsAt w a zs) := h
  clear h
  by_cases hx1 : 1048576 < x
  · go_enter Try.func6, Try.ntmps6
    go_wp2
    go_ret
    exact ⟨⟨_, rfl⟩, rfl⟩
  · have hd1 : decide (1048576 < x) = false := by simpa using hx1
    go_enter Try.func6, Try.ntmps6
    go_wp2_with fail
    go_loop [5, 6] (fun t i => ∃ (k : Nat) (z : Int), k ≤ zs.length ∧ i = .int .i64 k ∧ t = .int .i64 z) (fun _ i => zs.length - (intOf i).toNat)
    case atStart => exact ⟨0, _, Nat.zero_le _, rfl, rfl⟩
    case round =>
      obtain ⟨k, z, hk, rfl, rfl⟩ := hrel
      by_cases hlt : k < zs.length
      · obtain ⟨b, off, rfl, g⟩ := HE.out k hlt
        generalize zs[k] = q at g
        have c0 := g.c0
        have s0 := g.s0
        unfold maxLen at s0
        clear g
        go_wp2
        all_goals first
          | (go_ret; exact ⟨⟨_, rfl⟩, rfl⟩)
          | (refine ⟨⟨k + 1, _, by omega, by go_num, rfl⟩, ?_⟩; simp [intOf]; omega)
      · go_wp2
        go_ret
        exact ⟨⟨_, rfl⟩, rfl⟩

set_option maxRecDepth 100000 in
set_option maxHeartbeats 2000000 in
theorem bytes5_any (a : Option Addr) (c : Nat) (x y : Int) (z : Fd) (zs : List Fd) (w : World) (h : FdsAt w a zs) (hl : zs.length ≤ maxLen) :
    Calls Try.prog 5 #[.slice a zs.length c, .int .i64 x, .agg #[.string z.n, .int .u64 z.b], .int .i64 y] w fun e w' => AnyBool e ∧ Below w.heap.size w w' := by
  have HE : Hid (FdsAt (w.alloc (.cells #[.string z.n, .int .u64 z.b] 25)) a zs) := h.below ((Below.refl _ _).alloc (Nat.le_refl _) _)
  clear h
  have HB : Hid (Below w.heap.size w (w.alloc (.cells #[.string z.n, .int .u64 z.b] 25))) := (Below.refl _ _).alloc (Nat.le_refl _) _
  unfold maxLen at hl
  by_cases hx0 : 1048576 < zs.length
  · go_enter Try.func5, Try.ntmps5
    go_wp2
    go_ret
    exact ⟨⟨_, rfl⟩, HB.out⟩
  · go_enter Try.func5, Try.ntmps5
    go_wp2_with fail
    go_loop [9, 10] (fun t i => ∃ (k : Nat) (z : Int), k ≤ zs.length ∧ i = .int .i64 k ∧ t = .int .i64 z) (fun _ i => zs.length - (intOf i).toNat)
    case atStart => exact ⟨0, _, Nat.zero_le _, rfl, rfl⟩
    case round =>
      obtain ⟨k, n, hk, rfl, rfl⟩ := hrel
      by_cases hlt : k < zs.length
      · obtain ⟨b, off, rfl, g⟩ := HE.out k hlt
        generalize zs[k] = q at g
        have c0 := g.c0
        have s0 := g.s0
        unfold maxLen at s0
        clear g
        go_wp2
        all_goals first
          | (go_ret; exact ⟨⟨_, rfl⟩, HB.out⟩)
          | (refine ⟨⟨k + 1, _, by omega, by go_num, rfl⟩, ?_⟩; simp [intOf]; omega)
      · go_wp2
        all_goals
          go_ret
          exact ⟨⟨_, rfl⟩, HB.out⟩

set_option maxRecDepth 100000 in
set_option maxHeartbeats 2000000 in
theorem bytes10_any (a : Option Addr) (c : Nat) (x : Int) (z y : Fd) (zs : List Fd) (w : World) (h : FdsAt w a zs) (hl : zs.length ≤ maxLen) :
    Calls Try.prog 10 #[.slice a zs.length c, .int .i64 x, .agg #[.string z.n, .int .u64 z.b], .agg #[.string y.n, .int .u64 y.b]] w fun e w' => AnyBool e ∧ Below w.heap.size w w' := by
  have HB : Hid (Below w.heap.size w ((w.alloc (.cells #[.string z.n, .int .u64 z.b] 25)).alloc (.cells #[.string y.n, .int .u64 y.b] 25))) := ((Below.refl _ _).alloc (Nat.le_refl _) _).alloc (by simp) _
  have HE : Hid (FdsAt ((w.alloc (.cells #[.string z.n, .int .u64 z.b] 25)).alloc (.cells #[.string y.n, .int .u64 y.b] 25)) a zs) := h.below HB.out
  clear h
  unfold maxLen at hl
  by_cases hx0 : 1048576 < zs.length
  · go_enter Try.func10, Try.ntmps10
    go_wp2
    go_ret
    exact ⟨⟨_, rfl⟩, HB.out⟩
  · go_enter Try.func10, Try.ntmps10
    go_wp2_with fail
    go_loop [9, 10] (fun t i => ∃ (k : Nat) (z : Int), k ≤ zs.length ∧ i = .int .i64 k ∧ t = .int .i64 z) (fun _ i => zs.length - (intOf i).toNat)
    case atStart => exact ⟨0, _, Nat.zero_le _, rfl, rfl⟩
    case round =>
      obtain ⟨k, n, hk, rfl, rfl⟩ := hrel
      by_cases hlt : k < zs.length
      · obtain ⟨b, off, rfl, g⟩ := HE.out k hlt
        generalize zs[k] = q at g
        have c0 := g.c0
        have s0 := g.s0
        unfold maxLen at s0
        clear g
        go_wp2
        all_goals first
          | (go_ret; exact ⟨⟨_, rfl⟩, HB.out⟩)
          | (refine ⟨⟨k + 1, _, by omega, by go_num, rfl⟩, ?_⟩; simp [intOf]; omega)
      · go_wp2
        all_goals
          go_ret
          exact ⟨⟨_, rfl⟩, HB.out⟩

theorem conv_any (z : Fd) (w : World) :
    Calls Try.prog 7 #[.agg #[.string z.n, .int .u64 z.b]] w fun e w' => e = .returned (.agg #[.string z.n, .int .u64 z.b]) ∧ Below w.heap.size w w' := by
  go_enter Try.func7, Try.ntmps7
  go_wp2
  refine bodyPost_ret (v := .agg #[.string z.n, .int .u64 z.b]) (by simp [results, Try.results7, go_sem]) rfl ⟨rfl, ?_⟩
  exact ((Below.refl _ _).alloc (Nat.le_refl _) _).alloc (by simp) _

theorem newLayout_any (a : Option Addr) (n c : Nat) (q : Int) (w : World) :
    Calls Try.prog 8 #[.slice a n c, .int .i64 q] w fun e w' => e = .returned (.agg #[.slice a n c, .string ⟨#[]⟩, .int .i64 0, .int .i64 0, .int .u64 0, .slice none 0 0, .int .i64 q, .int .u64 0, .int .u64 0, .int .u64 0, .int .i64 0, .int .u64 0, .int .i64 0, .int .i64 0]) ∧ Below w.heap.size w w' := by
  go_enter Try.func8, Try.ntmps8
  go_wp2
  refine bodyPost_ret (v := .agg #[.slice a n c, .string ⟨#[]⟩, .int .i64 0, .int .i64 0, .int .u64 0, .slice none 0 0, .int .i64 q, .int .u64 0, .int .u64 0, .int .u64 0, .int .i64 0, .int .u64 0, .int .i64 0, .int .i64 0]) (by simp [results, Try.results8, go_sem]) rfl ⟨rfl, ?_⟩
  exact (Below.refl _ _).alloc (Nat.le_refl _) _

end Go.Proofs.Qxb6629991a
