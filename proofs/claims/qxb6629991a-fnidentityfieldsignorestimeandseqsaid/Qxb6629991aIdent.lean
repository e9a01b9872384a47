import Derived.Test.Qxb6629991aBase
import Derived.Test.Qxb6629991aPlain
namespace Go.Proofs.Qxb6629991a
open Go.RowKit

theorem Try.info29 : (Try.prog.info? 29).map (fun i => (i.zero, i.size, i.bytes)) = some (some (.agg #[.string ⟨#[]⟩, .int .u64 0]), 2, 24) := by kernel_rfl

/-- The cells of a row of fields. -/
def flat (zs : List Fd) : List Value := zs.flatMap Fd.cells
theorem flat_length (zs : List Fd) : (flat zs).length = zs.length * 2 := by
  induction zs with
  | nil => rfl
  | cons z r ih => simp only [flat, List.flatMap_cons, List.length_append, List.length_cons] at ih ⊢; rw [ih]; simp [Fd.cells]; omega
theorem flat_append (a b : List Fd) : flat (a ++ b) = flat a ++ flat b := by simp [flat]
theorem flat_at (zs : List Fd) (k j : Nat) (h : k < zs.length) (hj : j < 2) : (flat zs)[k * 2 + j]? = (zs[k].cells)[j]? := by
  have e : zs = zs.take k ++ (zs[k] :: zs.drop (k + 1)) := by
    rw [← List.drop_eq_getElem_cons h, List.take_append_drop]
  have e2 := congrArg flat e
  rw [flat_append] at e2
  have hl : (flat (zs.take k)).length = k * 2 := by rw [flat_length, List.length_take]; omega
  rw [e2, List.getElem?_append_right (by omega), hl]
  have : k * 2 + j - k * 2 = j := by omega
  rw [this]
  show (zs[k].cells ++ flat (zs.drop (k + 1)))[j]? = _
  rw [List.getElem?_append_left (by simp [Fd.cells]; omega)]

theorem row_cells {w : World} {base g cap n : Nat} {zs : List Fd} (h : w.ownsRow base 29 2 (.slice (some ⟨g, 0, none⟩) n cap) n (flat zs)) (k : Nat) (hk : k < zs.length) :
    w.cell? ⟨g, k * 2, none⟩ = some (.string zs[k].n) ∧ w.cell? ⟨g, k * 2 + 1, none⟩ = some (.int .u64 zs[k].b) := by
  have hn : zs.length = n := by have := h.1; rw [flat_length] at this; omega
  refine ⟨?_, ?_⟩
  · rw [h.cellAt _ (by omega)]; exact flat_at zs k 0 hk (by omega)
  · rw [h.cellAt _ (by omega)]; exact flat_at zs k 1 hk (by omega)

theorem heap_new2 (w : World) (o1 o2 : Obj) : ((w.alloc o1).alloc o2).heap[w.heap.size + 1]? = some o2 := by
  have := heap_alloc_new (w.alloc o1) o2
  simpa using this

set_option maxRecDepth 100000 in
set_option maxHeartbeats 2000000 in
theorem ident_any (g c base q : Nat) (fs : List Fd) (w : World) (h : w.ownsRow base 29 2 (.slice (some ⟨g, 0, none⟩) fs.length c) fs.length (flat fs)) (hl : fs.length ≤ 16777216) (hq : q ≤ 16777216) :
    Calls Try.prog 9 #[.agg #[.slice (some ⟨g, 0, none⟩) fs.length c, .string ⟨#[]⟩, .int .i64 0, .int .i64 0, .int .u64 0, .slice none 0 0, .int .i64 (q : Int), .int .u64 0, .int .u64 0, .int .u64 0, .int .i64 0, .int .u64 0, .int .i64 0, .int .i64 0]] w fun e w' =>
      ∃ v, e = .returned v ∧ w'.ownsRow w.heap.size 29 2 v (Plain.idt fs q fs.length).length (flat (Plain.idt fs q fs.length)) ∧ Below w.heap.size w w' := by
  obtain ⟨i0, hi0, hz0, hz1, hz2⟩ := info_parts Try.info29
  obtain ⟨WA, hWA⟩ : ∃ WA, w.alloc (.cells #[.slice (some ⟨g, 0, none⟩) fs.length c, .string ⟨#[]⟩, .int .i64 0, .int .i64 0, .int .u64 0, .slice none 0 0, .int .i64 (q : Int), .int .u64 0, .int .u64 0, .int .u64 0, .int .i64 0, .int .u64 0, .int .i64 0, .int .i64 0] 37) = WA := ⟨_, rfl⟩
  have hsz : WA.heap.size = w.heap.size + 1 := by rw [← hWA]; simp
  have HBW : Hid (Below w.heap.size w WA) := by rw [← hWA]; exact (Below.refl _ _).alloc (Nat.le_refl _) _
  have hb6 : WA.cell? ⟨w.heap.size, 6, none⟩ = some (.int .i64 (q : Int)) := by rw [← hWA]; simp
  have HOA : Hid (WA.ownsRow base 29 2 (.slice (some ⟨g, 0, none⟩) fs.length c) fs.length (flat fs)) := ownsRow_below h HBW.out
  have HWA : Hid (w.alloc (.cells #[.slice (some ⟨g, 0, none⟩) fs.length c, .string ⟨#[]⟩, .int .i64 0, .int .i64 0, .int .u64 0, .slice none 0 0, .int .i64 (q : Int), .int .u64 0, .int .u64 0, .int .u64 0, .int .i64 0, .int .u64 0, .int .i64 0, .int .i64 0] 37) = WA) := hWA
  clear h hWA
  go_enter Try.func9, Try.ntmps9
  go_wp2_with fail
  rw [HWA.out]
  clear HWA
  go_loopw [3, 9] (fun u i wr => ∃ k : Nat, k ≤ fs.length ∧ i = .int .i64 k ∧ wr.ownsRow (w.heap.size + 1) 29 2 u (Plain.idt fs q k).length (flat (Plain.idt fs q k)) ∧ Below (w.heap.size + 1) WA wr) (fun _ i _ => fs.length - (intOf i).toNat)
  case atStart => exact ⟨0, Nat.zero_le _, rfl, World.ownsRow_nil _ _ _ _, Below.refl _ _⟩
  case round =>
    obtain ⟨k, hk, rfl, hown, hbel⟩ := hrel
    have hbW : Below WA.heap.size WA wr := by rw [hsz]; exact hbel
    have hbs := hbel.size
    have HO : Hid (wr.ownsRow (w.heap.size + 1) 29 2 u3 (Plain.idt fs q k).length (flat (Plain.idt fs q k))) := hown
    have c6 := (hbW.cell (p := ⟨w.heap.size, 6, none⟩) (by simp; omega)).trans hb6
    have c6a : ∀ o, (wr.alloc o).cell? ⟨w.heap.size, 6, none⟩ = some (.int .i64 (q : Int)) := fun o => (World.cell?_alloc_lt wr _ _ (by simp; omega)).trans c6
    have hil := Plain.idt_length_le fs q k
    clear hown
    by_cases hlt : k < fs.length
    · obtain ⟨c0, c1⟩ := row_cells (ownsRow_below HOA.out hbW) k hlt
      by_cases hk0 : k = 0
      · subst hk0
        go_wp2_with fail
        go_roundw
        case rel => exact ⟨1, by omega, by go_num, by rw [Plain.idt_zero]; exact HO.out.alloc _, hbel.alloc (by omega) _⟩
        case measure => simp [intOf]; omega
      · have f0 : ((k : Int) != 0) = true := by simp; omega
        by_cases hkq : k = q
        · subst hkq
          go_wp2_with fail
          go_roundw
          case rel => exact ⟨k + 1, by omega, by go_num, by rw [Plain.idt_skip]; exact HO.out.alloc _, hbel.alloc (by omega) _⟩
          case measure => simp [intOf]; omega
        · have f1 : ((k : Int) != (q : Int)) = true := by simp; omega
          obtain ⟨z, hz⟩ : ∃ z, fs[k] = z := ⟨_, rfl⟩
          rw [hz] at c0 c1
          have HT : Hid (Plain.idt fs q (k + 1) = Plain.idt fs q k ++ [z]) := by
            show _ = _
            rw [Plain.idt_keep fs q k hk0 hkq hlt, hz]
          clear hz
          go_wp2_with (at_builtin; refine wpList_append_lies _ rfl (.tmp 22) (.tmp 24) 28 rfl (w.heap.size + 1) 29 i0 _ 2 24 Try.underlying28 hi0 hz0 hz1 hz2 rfl (by omega) u3 _ _ rfl ((HO.out.alloc _).alloc _) ⟨wr.heap.size + 1, 0, none⟩ 1 1 z.cells rfl rfl (World.news_of_block (cs := #[.string z.n, .int .u64 z.b]) (t := 29) (fr := (0, 0)) (heap_new2 wr _ _)) (by simp [Value.oneCell', Fd.cells]) (by omega) (by unfold maxLen; omega) (by omega) (by simp; omega) (wr.heap.size + 1 + 1) (by simp) ?_; intro g2 cap2 w2 hown2 hgrow2 hat2 hlt2)
          have R : Hid (w2.ownsRow (w.heap.size + 1) 29 2 (.slice (some ⟨g2, 0, none⟩) ((Plain.idt fs q k).length + 1) cap2) (Plain.idt fs q (k + 1)).length (flat (Plain.idt fs q (k + 1))) ∧ Below (w.heap.size + 1) WA w2) := by
            refine ⟨?_, ((hbel.alloc (by omega) _).alloc (by simp; omega) _).grown hgrow2 (by simp; omega) (fun r hr => (HO.out.lt r hr).1)⟩
            rw [HT.out, List.length_append, flat_append]
            simpa [flat] using hown2
          clear hown2 hgrow2 hat2 hlt2
          go_roundw
          case rel => exact ⟨k + 1, by omega, by go_num, R.out.1, R.out.2⟩
          case measure => simp [intOf]; omega
    · obtain rfl : k = fs.length := by omega
      have HF : Hid (wr.ownsRow w.heap.size 29 2 u3 (Plain.idt fs q fs.length).length (flat (Plain.idt fs q fs.length)) ∧ Below w.heap.size w wr) := by
        refine ⟨?_, HBW.out.trans (hbel.mono (by omega))⟩
        obtain ⟨h1, h2⟩ := HO.out
        refine ⟨h1, ?_⟩
        rcases h2 with h2 | ⟨g', cap', cur, e, hb, rest⟩
        · exact .inl h2
        · exact .inr ⟨g', cap', cur, e, by omega, rest⟩
      go_wp2
      go_ret
      exact ⟨_, rfl, HF.out.1, HF.out.2⟩

theorem ident_n (g c base q n : Nat) (fs : List Fd) (hn : fs.length = n) (w : World) (h : w.ownsRow base 29 2 (.slice (some ⟨g, 0, none⟩) n c) n (flat fs)) (hl : n ≤ 16777216) (hq : q ≤ 16777216) :
    Calls Try.prog 9 #[.agg #[.slice (some ⟨g, 0, none⟩) n c, .string ⟨#[]⟩, .int .i64 0, .int .i64 0, .int .u64 0, .slice none 0 0, .int .i64 (q : Int), .int .u64 0, .int .u64 0, .int .u64 0, .int .i64 0, .int .u64 0, .int .i64 0, .int .i64 0]] w fun e w' =>
      ∃ v, e = .returned v ∧ w'.ownsRow w.heap.size 29 2 v (Plain.idt fs q n).length (flat (Plain.idt fs q n)) ∧ Below w.heap.size w w' := by
  subst hn
  exact ident_any g c base q fs w h hl hq

end Go.Proofs.Qxb6629991a
