import Derived.Test.Qxb6628972aBase
namespace Go.Proofs.Qxb6628972a
open Go.RowKit

/-- The cells of a row of episodes. -/
def flat (zs : List Ep) : List Value := zs.flatMap Ep.cells
theorem flat_length (zs : List Ep) : (flat zs).length = zs.length * 6 := by
  induction zs with
  | nil => rfl
  | cons z r ih => simp only [flat, List.flatMap_cons, List.length_append, List.length_cons] at ih ⊢; rw [ih]; simp [Ep.cells]; omega
theorem flat_append (a b : List Ep) : flat (a ++ b) = flat a ++ flat b := by simp [flat]
theorem flat_at (zs : List Ep) (k j : Nat) (h : k < zs.length) (hj : j < 6) : (flat zs)[k * 6 + j]? = (zs[k].cells)[j]? := by
  have e : zs = zs.take k ++ (zs[k] :: zs.drop (k + 1)) := by
    rw [← List.drop_eq_getElem_cons h, List.take_append_drop]
  have e2 := congrArg flat e
  rw [flat_append] at e2
  have hl : (flat (zs.take k)).length = k * 6 := by rw [flat_length, List.length_take]; omega
  rw [e2, List.getElem?_append_right (by omega), hl]
  have : k * 6 + j - k * 6 = j := by omega
  rw [this]
  show (zs[k].cells ++ flat (zs.drop (k + 1)))[j]? = _
  rw [List.getElem?_append_left (by simp [Ep.cells]; omega)]

/-- How many episodes bear the status t. -/
def cnt (t : ByteArray) : List ByteArray → Nat
  | [] => 0
  | s :: r => (if s.toList == t.toList then 1 else 0) + cnt t r
theorem cnt_append (t : ByteArray) (a b : List ByteArray) : cnt t (a ++ b) = cnt t a + cnt t b := by
  induction a with
  | nil => simp [cnt]
  | cons s r ih => simp only [List.cons_append, cnt, ih]; omega
theorem cnt_le (t : ByteArray) (a : List ByteArray) : cnt t a ≤ a.length := by
  induction a with
  | nil => simp [cnt]
  | cons s r ih => simp only [cnt, List.length_cons]; split <;> omega

/-- At block bp lies a Report whose episodes bear the statuses ss. -/
structure RepV (w : World) (bp base : Nat) (v : Value) (zs : List Ep) (ss : List ByteArray) : Prop where
  cell : w.cell? ⟨bp, 1, none⟩ = some v
  own : w.ownsRow base 40 6 v zs.length (flat zs)
  st : zs.map Ep.s = ss
def Rep (w : World) (bp : Nat) (ss : List ByteArray) : Prop := ∃ base v zs, RepV w bp base v zs ss

theorem ownsRow_below {w w' : World} {base : Nat} {e : TypeId} {size : Nat} {v : Value} {n : Nat} {xs : List Value} (h : w.ownsRow base e size v n xs) (hb : Below w.heap.size w w') : w'.ownsRow base e size v n xs := by
  refine ⟨h.1, ?_⟩
  rcases h.2 with hn | ⟨g, cap, cur, rfl, hbg, hgg, rest⟩
  · exact .inl hn
  · exact .inr ⟨g, cap, cur, rfl, hbg, (hb.block g (Array.getElem?_eq_some_iff.1 hgg).1).trans hgg, rest⟩

theorem Rep.below {w w' : World} {bp : Nat} {ss : List ByteArray} (h : Rep w bp ss) (hb : Below w.heap.size w w') : Rep w' bp ss := by
  obtain ⟨base, v, zs, h⟩ := h
  exact ⟨base, v, zs, (hb.cell (p := ⟨bp, 1, none⟩) (World.block_lt_of_cell? w _ h.cell)).trans h.cell, ownsRow_below h.own hb, h.st⟩

theorem row_cells {w : World} {base g cap : Nat} {zs : List Ep} (h : w.ownsRow base 40 6 (.slice (some ⟨g, 0, none⟩) zs.length cap) zs.length (flat zs)) (k : Nat) (hk : k < zs.length) :
    w.cell? ⟨g, k * 6, none⟩ = some (.string zs[k].m) ∧ w.cell? ⟨g, k * 6 + 1, none⟩ = some (.string zs[k].d) ∧ w.cell? ⟨g, k * 6 + 2, none⟩ = some (.int .i64 zs[k].f) ∧
    w.cell? ⟨g, k * 6 + 3, none⟩ = some (.int .i64 zs[k].l) ∧ w.cell? ⟨g, k * 6 + 4, none⟩ = some (.pointer zs[k].c) ∧ w.cell? ⟨g, k * 6 + 5, none⟩ = some (.string zs[k].s) := by
  refine ⟨?_, ?_, ?_, ?_, ?_, ?_⟩
  · rw [h.cellAt _ (by omega)]; exact flat_at zs k 0 hk (by omega)
  · rw [h.cellAt _ (by omega)]; exact flat_at zs k 1 hk (by omega)
  · rw [h.cellAt _ (by omega)]; exact flat_at zs k 2 hk (by omega)
  · rw [h.cellAt _ (by omega)]; exact flat_at zs k 3 hk (by omega)
  · rw [h.cellAt _ (by omega)]; exact flat_at zs k 4 hk (by omega)
  · rw [h.cellAt _ (by omega)]; exact flat_at zs k 5 hk (by omega)

set_option maxHeartbeats 1000000 in
theorem count_any (bp : Nat) (ss : List ByteArray) (t : ByteArray) (w : World) (h : Rep w bp ss) (hl : ss.length ≤ 1073741824) :
    Calls Try.prog 8 #[.pointer (some ⟨bp, 0, none⟩), .string t] w fun e w' => e = .returned (.int .i64 (cnt t ss : Nat)) ∧ Below w.heap.size w w' := by
  obtain ⟨base, v, zs, hr⟩ := h
  have hlen : zs.length = ss.length := by rw [← hr.st]; simp
  have hcell := hr.cell
  rcases hr.own.2 with ⟨rfl, h0⟩ | ⟨g, cap, cur, rfl, hbg, hgg, rest⟩
  · have hs : ss = [] := List.eq_nil_of_length_eq_zero (by omega)
    subst hs
    go_enter Try.func8, Try.ntmps8
    go_wp2_with fail
    go_loop [5, 7, 13] (fun n _ i => i = .int .i64 0 ∧ n = .int .i64 0) (fun _ _ _ => 0)
    case atStart => exact ⟨rfl, rfl⟩
    case round =>
      obtain ⟨rfl, rfl⟩ := hrel
      go_wp2
      go_ret
      exact ⟨rfl, Below.refl _ _⟩
  · have hg : g < w.heap.size := (Array.getElem?_eq_some_iff.1 hgg).1
    have HR : Hid (RepV w bp base (.slice (some ⟨g, 0, none⟩) zs.length cap) zs ss) := hr
    have HL : Hid (zs.length = ss.length) := hlen
    have hl2 : zs.length ≤ 1073741824 := by omega
    clear hr hbg hgg rest hlen hl
    go_enter Try.func8, Try.ntmps8
    go_wp2_with fail
    go_loopw [5, 13] (fun n i wr => ∃ k : Nat, k ≤ zs.length ∧ i = .int .i64 k ∧ n = .int .i64 (cnt t (ss.take k) : Nat) ∧ Below w.heap.size w wr) (fun _ i _ => zs.length - (intOf i).toNat)
    case atStart => exact ⟨0, Nat.zero_le _, rfl, rfl, Below.refl _ _⟩
    case round =>
      obtain ⟨k, hk, rfl, rfl, hbel⟩ := hrel
      by_cases hlt : k < zs.length
      · obtain ⟨c0, c1, c2, c3, c4, c5⟩ := row_cells (ownsRow_below HR.out.own hbel) k hlt
        have hss : k < ss.length := by have := HL.out; omega
        have hq : zs[k].s = ss[k] := by
          have h1 := HR.out.st
          have : (zs.map Ep.s)[k]'(by simpa using hlt) = ss[k] := by simp only [h1]
          simpa using this
        have HT : Hid (cnt t (ss.take (k + 1)) = cnt t (ss.take k) + if ss[k].toList == t.toList then 1 else 0) := by
          show _ = _
          rw [List.take_succ_eq_append_getElem hss, cnt_append]; simp [cnt]
        have hcl := cnt_le t (ss.take k)
        have hcl2 : (ss.take k).length ≤ k := List.length_take_le _ _
        rw [← hq] at HT
        generalize zs[k] = q at c0 c1 c2 c3 c4 c5 HT
        clear hq
        cases hb : (q.s.toList == t.toList) with
        | true =>
          have HB : Hid ((q.s.toList == t.toList) = true) := hb
          go_wp2
          go_roundw
          case rel => exact ⟨k + 1, by omega, by go_num, by rw [HT.out, if_pos HB.out]; go_num, hbel.alloc hbel.size _⟩
          case measure => simp [intOf]; omega
        | false =>
          have HB : Hid ((q.s.toList == t.toList) = false) := hb
          go_wp2
          go_roundw
          case rel => exact ⟨k + 1, by omega, by go_num, by rw [HT.out, HB.out]; simp, hbel.alloc hbel.size _⟩
          case measure => simp [intOf]; omega
      · have hk2 : ss.take k = ss := List.take_of_length_le (by have := HL.out; omega)
        rw [hk2]
        clear hk2
        go_wp2
        go_ret
        exact ⟨rfl, hbel⟩

end Go.Proofs.Qxb6628972a
