import Derived.Test.Qxb6628972aCount
namespace Go.Proofs.Qxb6628972a
open Go.RowKit

theorem Try.info40 : (Try.prog.info? 40).map (fun i => (i.zero, i.size, i.bytes)) = some (some (.agg #[.string ⟨#[]⟩, .string ⟨#[]⟩, .int .i64 0, .int .i64 0, .pointer none, .string ⟨#[]⟩]), 6, 72) := by kernel_rfl

theorem set_take {α : Type} (xs : List α) (k : Nat) (u : α) (h : k < xs.length) : (xs.set k u).take (k + 1) = xs.take k ++ [u] := by
  rw [List.take_succ_eq_append_getElem (by simpa using h), List.take_set, List.set_eq_of_length_le (by simp; omega)]
  simp

theorem take_set6 (xs : List Value) (o : Nat) (a0 a1 a2 a3 a4 a5 : Value) (h : o + 6 ≤ xs.length) :
    ((((((xs.set o a0).set (o + 1) a1).set (o + 2) a2).set (o + 3) a3).set (o + 4) a4).set (o + 5) a5).take (o + 6) = xs.take o ++ [a0, a1, a2, a3, a4, a5] := by
  rw [show o + 6 = o + 5 + 1 from rfl, set_take _ _ _ (by simp; omega), show o + 5 = o + 4 + 1 from rfl, set_take _ _ _ (by simp; omega), show o + 4 = o + 3 + 1 from rfl, set_take _ _ _ (by simp; omega),
    show o + 3 = o + 2 + 1 from rfl, set_take _ _ _ (by simp; omega), show o + 2 = o + 1 + 1 from rfl, set_take _ _ _ (by simp; omega), set_take _ _ _ (by omega)]
  simp

theorem rep_step {w w1 : World} {zs : List Ep} {xs : List Value} {qs : List Ep} {k : Nat} {z' : Ep} (hk : k < zs.length)
    (hown : w1.ownsRow w.heap.size 40 6 (.slice (some ⟨w.heap.size, 0, none⟩) zs.length zs.length) zs.length xs) (htk : xs.take (k * 6) = flat qs) (hqs : qs.map Ep.s = (zs.take k).map Ep.s) (hz : z'.s = zs[k].s) (hb : Below w.heap.size w w1) :
    ∃ ys, ((((((w1.setCell ⟨w.heap.size, k * 6, none⟩ (.string z'.m)).setCell ⟨w.heap.size, k * 6 + 1, none⟩ (.string z'.d)).setCell ⟨w.heap.size, k * 6 + 2, none⟩ (.int .i64 z'.f)).setCell ⟨w.heap.size, k * 6 + 3, none⟩ (.int .i64 z'.l)).setCell ⟨w.heap.size, k * 6 + 4, none⟩ (.pointer z'.c)).setCell ⟨w.heap.size, k * 6 + 5, none⟩ (.string z'.s)).ownsRow w.heap.size 40 6 (.slice (some ⟨w.heap.size, 0, none⟩) zs.length zs.length) zs.length ys ∧
      ys.take ((k + 1) * 6) = flat (qs ++ [z']) ∧ (qs ++ [z']).map Ep.s = (zs.take (k + 1)).map Ep.s ∧
      Below w.heap.size w ((((((w1.setCell ⟨w.heap.size, k * 6, none⟩ (.string z'.m)).setCell ⟨w.heap.size, k * 6 + 1, none⟩ (.string z'.d)).setCell ⟨w.heap.size, k * 6 + 2, none⟩ (.int .i64 z'.f)).setCell ⟨w.heap.size, k * 6 + 3, none⟩ (.int .i64 z'.l)).setCell ⟨w.heap.size, k * 6 + 4, none⟩ (.pointer z'.c)).setCell ⟨w.heap.size, k * 6 + 5, none⟩ (.string z'.s)) := by
  have hxl := hown.1
  refine ⟨_, (((((((hown.stored (k * 6) _).1.stored (k * 6 + 1) _).1.stored (k * 6 + 2) _).1.stored (k * 6 + 3) _).1.stored (k * 6 + 4) _).1.stored (k * 6 + 5) _).1), ?_, ?_, ?_⟩
  · rw [show (k + 1) * 6 = k * 6 + 6 by omega, take_set6 _ _ _ _ _ _ _ _ (by omega), htk, flat_append]; rfl
  · rw [List.map_append, hqs, List.take_succ_eq_append_getElem hk, List.map_append]; simp [hz]
  · exact (((((hb.setCell (Nat.le_refl _) _).setCell (Nat.le_refl _) _).setCell (Nat.le_refl _) _).setCell (Nat.le_refl _) _).setCell (Nat.le_refl _) _).setCell (Nat.le_refl _) _

set_option maxHeartbeats 1000000 in
theorem report_any (a : Option Addr) (c : Nat) (x : Int) (zs : List Ep) (w : World) (h : EpsAt w a zs) (hl : zs.length ≤ 16777216) :
    Calls Try.prog 7 #[.int .i64 x, .slice a zs.length c] w fun e w' => ∃ bp, e = .returned (.pointer (some ⟨bp, 0, none⟩)) ∧ Rep w' bp (zs.map Ep.s) ∧ Below w.heap.size w w' := by
  obtain ⟨i0, hi0, hz0, hz1, hz2⟩ := info_parts Try.info40
  have hnil := fun (wx : World) (a : Option Addr) (n c : Nat) => Lib.run_eql_slice_nil (P := Try.prog) wx 22 29 a n c 0 0 Try.underlying22
  cases a with
  | none =>
    have hz : zs = [] := by
      cases zs with
      | nil => rfl
      | cons z r => obtain ⟨b, off, e, _⟩ := h 0 (by simp); cases e
    subst hz
    go_enter Try.func7, Try.ntmps7
    go_wp2
    go_ret
    refine ⟨_, rfl, ⟨0, .slice none 0 0, [], by simp, World.ownsRow_nil _ _ _ _, rfl⟩, (Below.refl _ _).alloc (Nat.le_refl _) _⟩
  | some ad =>
    have HE : Hid (EpsAt w (some ad) zs) := h
    clear h
    go_enter Try.func7, Try.ntmps7
    go_wp2_with (at_make; refine wpList_make_full _ rfl _ _ 34 rfl w.heap.size 40 i0 _ 6 Try.underlying34 hi0 hz0 hz1 .i64 .i64 _ _ zs.length rfl rfl rfl rfl (by rw [hz2]; omega) (by unfold maxLen; omega) (Nat.le_refl _) ?_; intro w0 hown0 hgrow0)
    have hb0 : Below w.heap.size w w0 := (Below.refl _ _).grown hgrow0 (Nat.le_refl _) (by simp)
    generalize (madeCells (Value.agg #[.string ⟨#[]⟩, .string ⟨#[]⟩, .int .i64 0, .int .i64 0, .pointer none, .string ⟨#[]⟩]).cells (zs.length * 6)).toList = xs0 at hown0
    have HO : Hid (w0.ownsRow w.heap.size 40 6 (.slice (some ⟨w.heap.size, 0, none⟩) zs.length zs.length) zs.length xs0) := hown0
    clear hown0 hgrow0
    go_loopw [6] (fun i wr => ∃ (k : Nat) (xs : List Value) (qs : List Ep), k ≤ zs.length ∧ i = .int .i64 k ∧ wr.ownsRow w.heap.size 40 6 (.slice (some ⟨w.heap.size, 0, none⟩) zs.length zs.length) zs.length xs ∧ xs.take (k * 6) = flat qs ∧ qs.map Ep.s = (zs.take k).map Ep.s ∧ Below w.heap.size w wr) (fun i _ => zs.length - (intOf i).toNat)
    case atStart => exact ⟨0, _, [], Nat.zero_le _, rfl, HO.out, by simp [flat], rfl, hb0⟩
    case round =>
      obtain ⟨k, xs, qs, hk, rfl, hown, htk, hqs, hbel⟩ := hrel
      have HW : Hid (wr.ownsRow w.heap.size 40 6 (.slice (some ⟨w.heap.size, 0, none⟩) zs.length zs.length) zs.length xs ∧ xs.take (k * 6) = flat qs ∧ qs.map Ep.s = (zs.take k).map Ep.s) := ⟨hown, htk, hqs⟩
      clear hown htk hqs HO hb0
      by_cases hlt : k < zs.length
      · obtain ⟨b, off, had, g0⟩ := HE.out k hlt
        have g := g0.below hbel
        clear g0
        simp only [Option.some.injEq] at had
        subst had
        obtain ⟨q, hq⟩ : ∃ q, zs[k] = q := ⟨_, rfl⟩
        rw [hq] at g
        have HQ : Hid (zs[k] = q) := hq
        clear hq
        have c0 := g.c0
        have c1 := g.c1
        have c2 := g.c2
        have c3 := g.c3
        have c4 := g.c4
        have c5 := g.c5
        have HK : Hid (CureOk wr q.c) := g.ok
        clear g
        go_wp2_with fail
        refine (episode_any q _ HK.out).mono ?_
        rintro e w1 ⟨z', rfl, hzs, hb1⟩
        have HZ : Hid (z'.s = q.s) := hzs
        have HW1 : Hid (w1.ownsRow w.heap.size 40 6 (.slice (some ⟨w.heap.size, 0, none⟩) zs.length zs.length) zs.length xs) := ownsRow_below HW.out.1 hb1
        have hxl : xs.length = zs.length * 6 := HW.out.1.1
        have e0 : w1.cell? ⟨w.heap.size, k * 6, none⟩ = some (xs[k * 6]'(by omega)) := by rw [HW1.out.cellAt _ (by omega), List.getElem?_eq_getElem (by omega)]
        have e1 : w1.cell? ⟨w.heap.size, k * 6 + 1, none⟩ = some (xs[k * 6 + 1]'(by omega)) := by rw [HW1.out.cellAt _ (by omega), List.getElem?_eq_getElem (by omega)]
        have e2 : w1.cell? ⟨w.heap.size, k * 6 + 2, none⟩ = some (xs[k * 6 + 2]'(by omega)) := by rw [HW1.out.cellAt _ (by omega), List.getElem?_eq_getElem (by omega)]
        have e3 : w1.cell? ⟨w.heap.size, k * 6 + 3, none⟩ = some (xs[k * 6 + 3]'(by omega)) := by rw [HW1.out.cellAt _ (by omega), List.getElem?_eq_getElem (by omega)]
        have e4 : w1.cell? ⟨w.heap.size, k * 6 + 4, none⟩ = some (xs[k * 6 + 4]'(by omega)) := by rw [HW1.out.cellAt _ (by omega), List.getElem?_eq_getElem (by omega)]
        have e5 : w1.cell? ⟨w.heap.size, k * 6 + 5, none⟩ = some (xs[k * 6 + 5]'(by omega)) := by rw [HW1.out.cellAt _ (by omega), List.getElem?_eq_getElem (by omega)]
        have f0 := HW1.out.frozenAt (k * 6)
        have f1 := HW1.out.frozenAt (k * 6 + 1)
        have f2 := HW1.out.frozenAt (k * 6 + 2)
        have f3 := HW1.out.frozenAt (k * 6 + 3)
        have f4 := HW1.out.frozenAt (k * 6 + 4)
        have f5 := HW1.out.frozenAt (k * 6 + 5)
        have HS : Hid _ := rep_step (z' := z') hlt HW1.out HW.out.2.1 HW.out.2.2 (by rw [HQ.out]; exact HZ.out) (hbel.trans (hb1.mono hbel.size))
        clear hzs hb1 c0 c1 c2 c3 c4 c5
        go_wp2
        go_roundw
        case rel =>
          obtain ⟨ys, y1, y2, y3, y4⟩ := HS.out
          exact ⟨k + 1, ys, qs ++ [z'], by omega, by go_num, y1, y2, y3, y4⟩
        case measure => simp [intOf]; omega
      · have hke : k = zs.length := by omega
        have HF : Hid (wr.ownsRow w.heap.size 40 6 (.slice (some ⟨w.heap.size, 0, none⟩) zs.length zs.length) zs.length (flat qs) ∧ qs.length = zs.length ∧ qs.map Ep.s = zs.map Ep.s) := by
          obtain ⟨h1, h2, h3⟩ := HW.out
          subst hke
          rw [List.take_length] at h3
          rw [List.take_of_length_le (by have := h1.1; omega)] at h2
          refine ⟨by rw [← h2]; exact h1, ?_, h3⟩
          have := congrArg List.length h3
          simpa using this
        clear HW hke
        go_wp2
        go_ret
        refine ⟨_, rfl, ⟨w.heap.size, .slice (some ⟨w.heap.size, 0, none⟩) zs.length zs.length, qs, ?_, ?_, HF.out.2.2⟩, hbel.alloc hbel.size _⟩
        · simp
        · rw [HF.out.2.1]; exact HF.out.1.alloc _

end Go.Proofs.Qxb6628972a
