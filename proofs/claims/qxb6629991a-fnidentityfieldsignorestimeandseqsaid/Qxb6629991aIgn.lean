import Derived.Test.Qxb6629991aEq
import Derived.Deep.QuietTactic
import Derived.BigQuiet
namespace Go.Proofs.Qxb6629991a
open Go.RowKit

theorem drewN_below' (w : World) (B n : Nat) : Below B w (w.drewN n) := ⟨rfl, rfl, rfl, Nat.le_refl _, fun _ _ => rfl⟩

theorem ownsRow_apart {w : World} {base B N n : Nat} {e : TypeId} {size : Nat} {xs : List Value} (h : w.ownsRow base e size (.slice (some ⟨B, 0, none⟩) n N) n xs) {a : Addr} (ha : a.block ≠ B) (u : Value) :
    (w.setCell a u).ownsRow base e size (.slice (some ⟨B, 0, none⟩) n N) n xs := by
  obtain ⟨h1, h2⟩ := h
  refine ⟨h1, ?_⟩
  rcases h2 with h2 | ⟨g, cap, cur, hv, hg, hh, r⟩
  · exact Or.inl h2
  · refine Or.inr ⟨g, cap, cur, hv, hg, ?_, r⟩
    have hgB : g = B := by
      simp only [Value.slice.injEq, Option.some.injEq, Addr.mk.injEq, and_true] at hv
      exact hv.1.symm
    subst hgB
    rw [Below.heap_setCell _ _ _ _ (fun e => ha e.symm)]; exact hh

theorem Fills.apart {w : World} {B N k : Nat} {ts : List Fd} (h : Fills w B N k ts) {a : Addr} (ha : a.block ≠ B) (u : Value) : Fills (w.setCell a u) B N k ts := by
  obtain ⟨xs, h1, h2⟩ := h
  exact ⟨xs, ownsRow_apart h1 ha u, h2⟩

theorem flat_set (zs : List Fd) (i : Nat) (z : Fd) (h : i < zs.length) : ((flat zs).set (i * 2) (.string z.n)).set (i * 2 + 1) (.int .u64 z.b) = flat (zs.set i z) := by
  have e : zs = zs.take i ++ (zs[i] :: zs.drop (i + 1)) := by
    rw [← List.drop_eq_getElem_cons h, List.take_append_drop]
  have hl : (flat (zs.take i)).length = i * 2 := by rw [flat_length, List.length_take]; omega
  have e1 : flat zs = flat (zs.take i) ++ (.string zs[i].n :: .int .u64 zs[i].b :: flat (zs.drop (i + 1))) := by
    have e2 := congrArg flat e
    rw [flat_append] at e2
    exact e2
  have e3 : flat (zs.set i z) = flat (zs.take i) ++ (.string z.n :: .int .u64 z.b :: flat (zs.drop (i + 1))) := by
    rw [List.set_eq_take_append_cons_drop, if_pos h, flat_append]; rfl
  rw [e1, e3, List.set_append_right _ _ (by omega), List.set_append_right _ _ (by omega), hl]
  have a1 : i * 2 - i * 2 = 0 := by omega
  have a2 : i * 2 + 1 - i * 2 = 1 := by omega
  rw [a1, a2]
  rfl

theorem own_set {w : World} {B N : Nat} {zs : List Fd} (h : w.ownsRow B 29 2 (.slice (some ⟨B, 0, none⟩) N N) N (flat zs)) (i : Nat) (hi : i < zs.length) (z : Fd) :
    ((w.setCell ⟨B, i * 2, none⟩ (.string z.n)).setCell ⟨B, i * 2 + 1, none⟩ (.int .u64 z.b)).ownsRow B 29 2 (.slice (some ⟨B, 0, none⟩) N N) N (flat (zs.set i z)) := by
  rw [← flat_set zs i z hi]
  exact ((h.stored (i * 2) _).1.stored (i * 2 + 1) _).1

/-- THE SECOND LAW, PLAINLY. -/
theorem ign_law (zs : List Fd) (t u : Fd) (s : Nat) (hs : 1 ≤ s) (hs2 : s < zs.length) :
    (Plain.idt zs s zs.length).length = zs.length - 2 ∧ (Plain.idt ((zs.set 0 t).set s u) s zs.length).length = zs.length - 2 ∧
    (∀ k f, k + 2 < zs.length → zs[if k + 1 < s then k + 1 else k + 2]? = some f → (Plain.idt zs s zs.length)[k]? = some f ∧ (Plain.idt ((zs.set 0 t).set s u) s zs.length)[k]? = some f) := by
  have hl : ((zs.set 0 t).set s u).length = zs.length := by simp
  refine ⟨Plain.idt_len zs s hs hs2, ?_, ?_⟩
  · have := Plain.idt_len ((zs.set 0 t).set s u) s hs (by omega)
    rw [hl] at this; exact this
  · intro k f hk hf
    have h1 := Plain.idt_at zs s k hs hs2
    have h2 := Plain.idt_at ((zs.set 0 t).set s u) s k hs (by omega)
    rw [hl] at h2
    by_cases hc : k + 1 < s
    · rw [if_pos hc] at h1 h2 hf
      rw [h1, h2, List.getElem?_set_ne (by omega), List.getElem?_set_ne (by omega)]
      exact ⟨hf, hf⟩
    · rw [if_neg hc] at h1 h2 hf
      rw [h1, h2, List.getElem?_set_ne (by omega), List.getElem?_set_ne (by omega)]
      exact ⟨hf, hf⟩

theorem box2 (w : World) (t u : Fd) :
    ((w.alloc (.cells #[.string t.n, .int .u64 t.b] 25)).alloc (.cells #[.string u.n, .int .u64 u.b] 25)).cell? ⟨w.heap.size, 0, none⟩ = some (.string t.n) ∧
    ((w.alloc (.cells #[.string t.n, .int .u64 t.b] 25)).alloc (.cells #[.string u.n, .int .u64 u.b] 25)).cell? ⟨w.heap.size, 1, none⟩ = some (.int .u64 t.b) ∧
    ((w.alloc (.cells #[.string t.n, .int .u64 t.b] 25)).alloc (.cells #[.string u.n, .int .u64 u.b] 25)).cell? ⟨w.heap.size + 1, 0, none⟩ = some (.string u.n) ∧
    ((w.alloc (.cells #[.string t.n, .int .u64 t.b] 25)).alloc (.cells #[.string u.n, .int .u64 u.b] 25)).cell? ⟨w.heap.size + 1, 1, none⟩ = some (.int .u64 u.b) := by
  refine ⟨?_, ?_, ?_, ?_⟩ <;> go_simp

set_option maxRecDepth 100000 in
set_option maxHeartbeats 8000000 in
theorem ign_walk (a : Option Addr) (cap : Nat) (x : Int) (t u : Fd) (zs : List Fd) (w : World) (h : FdsAt w a zs) (hl : zs.length ≤ maxLen) (s0 : t.n.size ≤ maxLen) (s1 : u.n.size ≤ maxLen) :
    Calls Try.prog 4 #[.slice a zs.length cap, .int .i64 x, .agg #[.string t.n, .int .u64 t.b], .agg #[.string u.n, .int .u64 u.b]] w fun e w' => e = .returned (.bool true) ∧ Below w.heap.size w w' := by
  obtain ⟨i0, hi0, hz0, hz1, hz2⟩ := info_parts Try.info29
  have HL : Hid (zs.length ≤ maxLen) := hl
  obtain ⟨WA, hWA⟩ : ∃ WA, (w.alloc (.cells #[.string t.n, .int .u64 t.b] 25)).alloc (.cells #[.string u.n, .int .u64 u.b] 25) = WA := ⟨_, rfl⟩
  have hsz : WA.heap.size = w.heap.size + 2 := by rw [← hWA]; simp
  have HBW : Hid (Below w.heap.size w WA) := by rw [← hWA]; exact ((Below.refl _ _).alloc (Nat.le_refl _) _).alloc (by simp) _
  have HBX : Hid (WA.cell? ⟨w.heap.size, 0, none⟩ = some (.string t.n) ∧ WA.cell? ⟨w.heap.size, 1, none⟩ = some (.int .u64 t.b) ∧ WA.cell? ⟨w.heap.size + 1, 0, none⟩ = some (.string u.n) ∧ WA.cell? ⟨w.heap.size + 1, 1, none⟩ = some (.int .u64 u.b)) := by
    rw [← hWA]; exact box2 w t u
  have HEA : Hid (FdsAt WA a zs) := h.below HBW.out
  have HWA : Hid ((w.alloc (.cells #[.string t.n, .int .u64 t.b] 25)).alloc (.cells #[.string u.n, .int .u64 u.b] 25) = WA) := hWA
  clear h hWA
  unfold maxLen at hl s0 s1
  go_enter Try.func4, Try.ntmps4
  go_wp2_with fail
  rw [HWA.out]
  refine (bytes10_any _ _ _ t u zs _ HEA.out HL.out).mono ?_
  rintro e w1 ⟨⟨b, rfl⟩, hb1⟩
  have HT1 : Hid (Below w.heap.size w w1) := HBW.out.trans (hb1.mono (by omega))
  cases b with
  | false =>
    go_wp2
    go_ret
    exact ⟨rfl, HT1.out⟩
  | true =>
    have hlt1 : w.heap.size < WA.heap.size := by omega
    have hlt2 : w.heap.size + 1 < WA.heap.size := by omega
    have c0 := (hb1.cell (p := ⟨w.heap.size, 0, none⟩) hlt1).trans HBX.out.1
    have c1 := (hb1.cell (p := ⟨w.heap.size, 1, none⟩) hlt1).trans HBX.out.2.1
    have c2 := (hb1.cell (p := ⟨w.heap.size + 1, 0, none⟩) hlt2).trans HBX.out.2.2.1
    have c3 := (hb1.cell (p := ⟨w.heap.size + 1, 1, none⟩) hlt2).trans HBX.out.2.2.2
    by_cases hA : zs.length ≤ 65536 ∧ t.n.size ≤ 1048576 ∧ u.n.size ≤ 1048576
    · obtain ⟨q0, q1, q2⟩ := hA
      have f1 : decide ((1048576 : Int) < (t.n.size : Int)) = false := by simp; omega
      have f2 : decide ((1048576 : Int) < (u.n.size : Int)) = false := by simp; omega
      go_wp2_with fail
      refine (over_any _ _ _ zs _ (HEA.out.below hb1) (by omega)).mono ?_
      rintro e w'' ⟨⟨b, rfl⟩, rfl⟩
      cases b with
      | true =>
        go_wp2
        go_ret
        exact ⟨rfl, HT1.out⟩
      | false =>
        by_cases hn2 : zs.length < 2
        · go_wp2
          go_ret
          exact ⟨rfl, HT1.out⟩
        · by_cases hx : x < 1
          · go_wp2
            go_ret
            exact ⟨rfl, HT1.out⟩
          · have fx : decide (x < 1) = false := by simpa using hx
            by_cases hx2 : (zs.length : Int) ≤ x
            · go_wp2
              go_ret
              exact ⟨rfl, HT1.out⟩
            · have fx2 : decide ((zs.length : Int) ≤ x) = false := by simpa using hx2
              obtain ⟨s, rfl⟩ := Int.eq_ofNat_of_zero_le (by omega : 0 ≤ x)
              have hs1 : 1 ≤ s := by omega
              have hs2 : s < zs.length := by omega
              clear hx hx2
              have tok1 : True := trivial
              go_wp2_with (first | (at_make; have _t := tok1; refine wpList_make_full _ rfl _ _ 28 rfl w''.heap.size 29 i0 _ 2 Try.underlying28 hi0 hz0 hz1 .i64 .i64 _ _ zs.length rfl rfl rfl rfl (by rw [hz2]; omega) (by unfold maxLen; omega) (Nat.le_refl _) ?_; intro w2 hown2 hgrow2; clear tok1) | (at_make; refine wpList_make_full _ rfl _ _ 28 rfl _ 29 i0 _ 2 Try.underlying28 hi0 hz0 hz1 .i64 .i64 _ _ zs.length rfl rfl rfl rfl (by rw [hz2]; omega) (by unfold maxLen; omega) (Nat.le_refl _) ?_; intro w3 hown3 hgrow3))
              have hb2 : Below w''.heap.size w'' w2 := (Below.refl _ _).grown hgrow2 (Nat.le_refl _) (by simp)
              have hb3 : Below w2.heap.size w2 w3 := (Below.refl _ _).grown hgrow3 (Nat.le_refl _) (by simp)
              have HF1 : Hid (Fills w3 w''.heap.size zs.length 0 zs) := Fills.start zs (ownsRow_below hown2 hb3)
              have HF2 : Hid (Fills w3 w2.heap.size zs.length 0 zs) := Fills.start zs hown3
              have hBB : w''.heap.size < w2.heap.size := by
                rcases hown2.2 with ⟨h, _⟩ | ⟨g, cp, cur, h, _, hg, _⟩
                · cases h
                · simp only [Value.slice.injEq, Option.some.injEq, Addr.mk.injEq, and_true] at h
                  have := (Array.getElem?_eq_some_iff.1 hg).1
                  omega
              have HB3 : Hid (Below w''.heap.size w'' w3) := hb2.trans (hb3.mono hb2.size)
              clear hown2 hgrow2 hown3 hgrow3 hb2 hb3
              go_loopw [12] (fun i wr => ∃ k : Nat, k ≤ zs.length ∧ i = .int .i64 k ∧ Fills wr w''.heap.size zs.length k zs ∧ Fills wr w2.heap.size zs.length k zs ∧ Below w''.heap.size w'' wr) (fun i _ => zs.length - (intOf i).toNat)
              case atStart => exact ⟨0, Nat.zero_le _, rfl, HF1.out, HF2.out, HB3.out⟩
              case round =>
                obtain ⟨k, hk, rfl, hfl1, hfl2, hbel⟩ := hrel
                have HFa : Hid (Fills wr w''.heap.size zs.length k zs) := hfl1
                have HFb : Hid (Fills wr w2.heap.size zs.length k zs) := hfl2
                clear hfl1 hfl2 HF1 HF2 HB3
                by_cases hlt : k < zs.length
                · obtain ⟨b, off, rfl, g0⟩ := HEA.out k hlt
                  have HGA : Hid (FdAt WA b (off + k * 2) zs[k]) := g0
                  have g := g0.below (hb1.trans (hbel.mono hb1.size))
                  clear g0
                  have HT : Hid (zs[k]? = some zs[k]) := List.getElem?_eq_getElem hlt
                  generalize zs[k] = f at g HT HGA
                  have e0 := g.c0
                  have e1 := g.c1
                  clear g
                  go_wp2_with fail
                  refine (conv_any f _).mono ?_
                  rintro e v1 ⟨rfl, hv1⟩
                  have HF1 := HFa.out.below hv1
                  obtain ⟨⟨t0, th0⟩, ⟨t1, th1⟩, fr0, fr1⟩ := HF1.there k hlt
                  have HB1 := hbel.trans (hv1.mono hbel.size)
                  have hS := HF1.step hlt HT.out
                  have hSb := ((HFb.out.below hv1).apart (a := ⟨w''.heap.size, k * 2, none⟩) (by simp; omega) (.string f.n)).apart (a := ⟨w''.heap.size, k * 2 + 1, none⟩) (by simp; omega) (.int .u64 f.b)
                  have hBs : Below w''.heap.size w'' ((v1.setCell ⟨w''.heap.size, k * 2, none⟩ (.string f.n)).setCell ⟨w''.heap.size, k * 2 + 1, none⟩ (.int .u64 f.b)) := (HB1.setCell (Nat.le_refl _) _).setCell (Nat.le_refl _) _
                  obtain ⟨V, hV⟩ : ∃ V, (v1.setCell ⟨w''.heap.size, k * 2, none⟩ (.string f.n)).setCell ⟨w''.heap.size, k * 2 + 1, none⟩ (.int .u64 f.b) = V := ⟨_, rfl⟩
                  rw [hV] at hS hSb hBs
                  have HV : Hid ((v1.setCell ⟨w''.heap.size, k * 2, none⟩ (.string f.n)).setCell ⟨w''.heap.size, k * 2 + 1, none⟩ (.int .u64 f.b) = V) := hV
                  have g := HGA.out.below (hb1.trans (hBs.mono hb1.size))
                  have HE : Hid (V.cell? ⟨b, off + k * 2, none⟩ = some (.string f.n) ∧ V.cell? ⟨b, off + k * 2 + 1, none⟩ = some (.int .u64 f.b)) := ⟨g.c0, g.c1⟩
                  have HSa : Hid (Fills V w''.heap.size zs.length (k + 1) zs) := hS
                  have HSb : Hid (Fills V w2.heap.size zs.length k zs) := hSb
                  have hee := HE.out
                  rw [← hV] at hee
                  obtain ⟨e2, e3⟩ := hee
                  clear hV g hS hSb HF1 hv1 HB1 e0 e1
                  go_wp2_with fail
                  rw [HV.out]
                  refine (conv_any f _).mono ?_
                  rintro e v2 ⟨rfl, hv2⟩
                  clear th0 th1 fr0 fr1 e2 e3
                  have HF2 := HSb.out.below hv2
                  obtain ⟨⟨t2, th0⟩, ⟨t3, th1⟩, fr0, fr1⟩ := HF2.there k hlt
                  have HB2 := hBs.trans (hv2.mono hBs.size)
                  have HS2 : Hid _ := HF2.step hlt HT.out
                  have HS1 : Hid _ := ((HSa.out.below hv2).apart (a := ⟨w2.heap.size, k * 2, none⟩) (by simp; omega) (.string f.n)).apart (a := ⟨w2.heap.size, k * 2 + 1, none⟩) (by simp; omega) (.int .u64 f.b)
                  have HB : Hid (Below w''.heap.size w'' ((v2.setCell ⟨w2.heap.size, k * 2, none⟩ (.string f.n)).setCell ⟨w2.heap.size, k * 2 + 1, none⟩ (.int .u64 f.b))) := (HB2.setCell (by simp; omega) _).setCell (by simp; omega) _
                  clear HF2 hv2 HB2 hBs
                  go_wp2_with fail
                  go_roundw
                  case rel => exact ⟨k + 1, by omega, by go_num, HS1.out, HS2.out, HB.out⟩
                  case measure => simp [intOf]; omega
                · obtain rfl : k = zs.length := by omega
                  have hBW : Below WA.heap.size WA wr := hb1.trans (hbel.mono hb1.size)
                  have HO1 : Hid (wr.ownsRow w''.heap.size 29 2 (.slice (some ⟨w''.heap.size, 0, none⟩) zs.length zs.length) zs.length (flat zs)) := HFa.out.done rfl
                  have HO2 : Hid (wr.ownsRow w2.heap.size 29 2 (.slice (some ⟨w2.heap.size, 0, none⟩) zs.length zs.length) zs.length (flat zs)) := HFb.out.done rfl
                  have e0 := (hBW.cell (p := ⟨w.heap.size, 0, none⟩) hlt1).trans HBX.out.1
                  have e1 := (hBW.cell (p := ⟨w.heap.size, 1, none⟩) hlt1).trans HBX.out.2.1
                  clear HFa HFb hBW c0 c1 c2 c3
                  go_wp2_with fail
                  refine (conv_any t _).mono ?_
                  rintro e v1 ⟨rfl, hv1⟩
                  have hO2 := ownsRow_below HO2.out hv1
                  have hB1 := hbel.trans (hv1.mono hbel.size)
                  have hl2 := hO2.1
                  obtain ⟨tth0, th0⟩ : ∃ y, v1.cell? ⟨w2.heap.size, 0, none⟩ = some y := ⟨(flat zs)[0]'(by omega), by rw [hO2.cellAt _ (by omega), List.getElem?_eq_getElem (by omega)]⟩
                  obtain ⟨tth1, th1⟩ : ∃ y, v1.cell? ⟨w2.heap.size, 1, none⟩ = some y := ⟨(flat zs)[1]'(by omega), by rw [hO2.cellAt _ (by omega), List.getElem?_eq_getElem (by omega)]⟩
                  have fr0 := hO2.frozenAt 0
                  have fr1 := hO2.frozenAt 1
                  have hO2s := own_set hO2 0 (by omega) t
                  rw [Nat.zero_mul, Nat.zero_add] at hO2s
                  have hO1s := ownsRow_apart (ownsRow_apart (ownsRow_below HO1.out hv1) (a := ⟨w2.heap.size, 0, none⟩) (by simp; omega) (.string t.n)) (a := ⟨w2.heap.size, 1, none⟩) (by simp; omega) (.int .u64 t.b)
                  have hBs : Below w''.heap.size w'' ((v1.setCell ⟨w2.heap.size, 0, none⟩ (.string t.n)).setCell ⟨w2.heap.size, 1, none⟩ (.int .u64 t.b)) := (hB1.setCell (by simp; omega) _).setCell (by simp; omega) _
                  obtain ⟨V, hV⟩ : ∃ V, (v1.setCell ⟨w2.heap.size, 0, none⟩ (.string t.n)).setCell ⟨w2.heap.size, 1, none⟩ (.int .u64 t.b) = V := ⟨_, rfl⟩
                  rw [hV] at hO2s hO1s hBs
                  have HV : Hid ((v1.setCell ⟨w2.heap.size, 0, none⟩ (.string t.n)).setCell ⟨w2.heap.size, 1, none⟩ (.int .u64 t.b) = V) := hV
                  have HO1a : Hid (V.ownsRow w''.heap.size 29 2 (.slice (some ⟨w''.heap.size, 0, none⟩) zs.length zs.length) zs.length (flat zs)) := hO1s
                  have HO2a : Hid (V.ownsRow w2.heap.size 29 2 (.slice (some ⟨w2.heap.size, 0, none⟩) zs.length zs.length) zs.length (flat (zs.set 0 t))) := hO2s
                  have hBW : Below WA.heap.size WA V := hb1.trans (hBs.mono hb1.size)
                  have k2 := (hBW.cell (p := ⟨w.heap.size + 1, 0, none⟩) hlt2).trans HBX.out.2.2.1
                  have k3 := (hBW.cell (p := ⟨w.heap.size + 1, 1, none⟩) hlt2).trans HBX.out.2.2.2
                  rw [← hV] at k2 k3
                  clear hV hO2 hO2s hO1s hB1 hl2 hv1 HO1 HO2 e0 e1 hBW
                  go_wp2_with fail
                  rw [HV.out]
                  refine (conv_any u _).mono ?_
                  rintro e v2 ⟨rfl, hv2⟩
                  clear th0 th1 fr0 fr1 k2 k3 HV
                  have hO2 := ownsRow_below HO2a.out hv2
                  have hB1 := hBs.trans (hv2.mono hBs.size)
                  have hl2 := hO2.1
                  obtain ⟨tth0, th0⟩ : ∃ y, v2.cell? ⟨w2.heap.size, s * 2, none⟩ = some y := ⟨(flat (zs.set 0 t))[s * 2]'(by omega), by rw [hO2.cellAt _ (by omega), List.getElem?_eq_getElem (by omega)]⟩
                  obtain ⟨tth1, th1⟩ : ∃ y, v2.cell? ⟨w2.heap.size, s * 2 + 1, none⟩ = some y := ⟨(flat (zs.set 0 t))[s * 2 + 1]'(by omega), by rw [hO2.cellAt _ (by omega), List.getElem?_eq_getElem (by omega)]⟩
                  have fr0 := hO2.frozenAt (s * 2)
                  have fr1 := hO2.frozenAt (s * 2 + 1)
                  have hO2s := own_set hO2 s (by simp; omega) u
                  have hO1s := ownsRow_apart (ownsRow_apart (ownsRow_below HO1a.out hv2) (a := ⟨w2.heap.size, s * 2, none⟩) (by simp; omega) (.string u.n)) (a := ⟨w2.heap.size, s * 2 + 1, none⟩) (by simp; omega) (.int .u64 u.b)
                  have hBt : Below w''.heap.size w'' ((v2.setCell ⟨w2.heap.size, s * 2, none⟩ (.string u.n)).setCell ⟨w2.heap.size, s * 2 + 1, none⟩ (.int .u64 u.b)) := (hB1.setCell (by simp; omega) _).setCell (by simp; omega) _
                  obtain ⟨X, hX⟩ : ∃ X, (v2.setCell ⟨w2.heap.size, s * 2, none⟩ (.string u.n)).setCell ⟨w2.heap.size, s * 2 + 1, none⟩ (.int .u64 u.b) = X := ⟨_, rfl⟩
                  rw [hX] at hO2s hO1s hBt
                  have HXX : Hid ((v2.setCell ⟨w2.heap.size, s * 2, none⟩ (.string u.n)).setCell ⟨w2.heap.size, s * 2 + 1, none⟩ (.int .u64 u.b) = X) := hX
                  obtain ⟨ts, hts⟩ : ∃ ts, (zs.set 0 t).set s u = ts := ⟨_, rfl⟩
                  have htl : ts.length = zs.length := by rw [← hts]; simp
                  rw [hts] at hO2s
                  have HO1 : Hid (X.ownsRow w''.heap.size 29 2 (.slice (some ⟨w''.heap.size, 0, none⟩) zs.length zs.length) zs.length (flat zs)) := hO1s
                  have HO2 : Hid (X.ownsRow w2.heap.size 29 2 (.slice (some ⟨w2.heap.size, 0, none⟩) zs.length zs.length) zs.length (flat ts)) := hO2s
                  have HTL : Hid (ts.length = zs.length) := htl
                  have hlaw := ign_law zs t u s hs1 hs2
                  rw [hts] at hlaw
                  obtain ⟨R1, hR1⟩ : ∃ R1, Plain.idt zs s zs.length = R1 := ⟨_, rfl⟩
                  obtain ⟨R2, hR2⟩ : ∃ R2, Plain.idt ts s zs.length = R2 := ⟨_, rfl⟩
                  rw [hR1, hR2] at hlaw
                  have HR1 : Hid (Plain.idt zs s zs.length = R1) := hR1
                  have HR2 : Hid (Plain.idt ts s zs.length = R2) := hR2
                  have HLW : Hid _ := hlaw
                  clear hX hO2 hO2s hO1s hB1 hl2 hv2 HO1a HO2a hR1 hR2 hlaw hts htl hBs
                  go_wp2_with fail
                  rw [HXX.out]
                  clear HXX th0 th1 fr0 fr1
                  refine (newLayout_any _ _ _ _ _).mono ?_
                  rintro e x1 ⟨rfl, hx1⟩
                  go_wp2_with fail
                  refine (ident_n _ _ _ _ _ zs rfl _ (ownsRow_below HO1.out hx1) (by omega) (by omega)).mono ?_
                  rintro e x2 ⟨r1, rfl, hr1, hx2⟩
                  rw [HR1.out] at hr1
                  have hX2 : Below X.heap.size X x2 := hx1.trans (hx2.mono hx1.size)
                  have HO1' : Hid (x2.ownsRow x1.heap.size 29 2 r1 R1.length (flat R1)) := hr1
                  clear hr1 hx1 hx2
                  go_wp2_with fail
                  refine (newLayout_any _ _ _ _ _).mono ?_
                  rintro e x3 ⟨rfl, hx3⟩
                  go_wp2_with fail
                  refine (ident_n _ _ _ _ _ ts HTL.out _ (ownsRow_below HO2.out (hX2.trans (hx3.mono hX2.size))) (by omega) (by omega)).mono ?_
                  rintro e x4 ⟨r2, rfl, hr2, hx4⟩
                  rw [HR2.out] at hr2
                  have hX4 : Below x2.heap.size x2 x4 := hx3.trans (hx4.mono hx3.size)
                  have hBX4 : Below w''.heap.size w'' x4 := hBt.trans ((hX2.trans (hX4.mono hX2.size)).mono hBt.size)
                  have HT4 : Hid (Below w.heap.size w x4) := HT1.out.trans (hBX4.mono (by have := hb1.size; omega))
                  have HE4 : Hid (FdsAt x4 a zs) := HEA.out.below (hb1.trans (hBX4.mono hb1.size))
                  have hr1 := ownsRow_below HO1'.out hX4
                  obtain ⟨a1, cc1, he1, hd1⟩ := own_shape hr1
                  obtain ⟨a2, cc2, he2, hd2⟩ := own_shape hr2
                  have HD1 : Hid _ := hd1
                  have HD2 : Hid _ := hd2
                  have HOR1 : Hid (x4.ownsRow x1.heap.size 29 2 r1 R1.length (flat R1)) := hr1
                  have HOR2 : Hid (x4.ownsRow x3.heap.size 29 2 r2 R2.length (flat R2)) := hr2
                  clear hd1 hd2 hr1 hr2 hx3 hx4 hX2 hX4 HO1' hBX4 hBt hbel
                  rw [he1, he2]
                  rw [HLW.out.1, HLW.out.2.1]
                  have n1 : (((zs.length - 2 : Nat) : Int) != (zs.length : Int) - 2) = false := by
                    have : ((zs.length - 2 : Nat) : Int) = (zs.length : Int) - 2 := by omega
                    rw [this]; simp
                  have heq := eq29
                  have hgd := guard29
                  go_wp2_with fail
                  go_loopw [15] (fun i wr => ∃ k : Nat, k ≤ zs.length - 2 ∧ i = .int .i64 k ∧ Below x4.heap.size x4 wr) (fun i _ => zs.length - 2 - (intOf i).toNat)
                  case atStart => exact ⟨0, Nat.zero_le _, rfl, Below.refl _ _⟩
                  case round =>
                    obtain ⟨k, hk, rfl, hbel⟩ := hrel
                    by_cases hlt : k < zs.length - 2
                    · by_cases hc : k + 1 < s
                      · have _t := hc
                        have hci : ¬ ((s : Int) ≤ (k : Int) + 1) := by omega
                        obtain ⟨f, hf⟩ : ∃ f, zs[k + 1]? = some f := ⟨_, List.getElem?_eq_getElem (by omega)⟩
                        obtain ⟨b, off, hb, g0⟩ := HE4.out (k + 1) (by omega)
                        subst hb
                        have hfe : zs[k + 1]'(by omega) = f := (List.getElem?_eq_some_iff.1 hf).2
                        rw [hfe] at g0
                        have g := g0.below hbel
                        have e0 := g.c0
                        have e1 := g.c1
                        have hboth := HLW.out.2.2 k f (by omega) (by rw [if_pos hc]; exact hf)
                        obtain ⟨g1, hg1, d0, d1⟩ := HD1.out k f hboth.1
                        obtain ⟨g2, hg2, d2, d3⟩ := HD2.out k f hboth.2
                        subst hg1
                        subst hg2
                        have lg1 := World.block_lt_of_cell? x4 _ d0
                        have lg2 := World.block_lt_of_cell? x4 _ d2
                        simp only at lg1 lg2
                        clear hf hfe g g0 hboth
                        go_wp2_with fail
                        refine (conv_any f _).mono ?_
                        rintro e v1 ⟨rfl, hv1⟩
                        have hB := hbel.trans (hv1.mono hbel.size)
                        have hBs := hB.size
                        have D0 : ∀ o, (v1.alloc o).cell? ⟨g1, k * 2, none⟩ = some (.string f.n) := fun o => (World.cell?_alloc_lt v1 _ _ (by simp; omega)).trans ((hB.cell (p := ⟨g1, k * 2, none⟩) lg1).trans d0)
                        have D1 : ∀ o, (v1.alloc o).cell? ⟨g1, k * 2 + 1, none⟩ = some (.int .u64 f.b) := fun o => (World.cell?_alloc_lt v1 _ _ (by simp; omega)).trans ((hB.cell (p := ⟨g1, k * 2 + 1, none⟩) lg1).trans d1)
                        have D2 : ∀ o, (v1.alloc o).cell? ⟨g2, k * 2, none⟩ = some (.string f.n) := fun o => (World.cell?_alloc_lt v1 _ _ (by simp; omega)).trans ((hB.cell (p := ⟨g2, k * 2, none⟩) lg2).trans d2)
                        have D3 : ∀ o, (v1.alloc o).cell? ⟨g2, k * 2 + 1, none⟩ = some (.int .u64 f.b) := fun o => (World.cell?_alloc_lt v1 _ _ (by simp; omega)).trans ((hB.cell (p := ⟨g2, k * 2 + 1, none⟩) lg2).trans d3)
                        have ij1 : (k : Int) < ((zs.length - 2 : Nat) : Int) := by omega
                        have ij2 : (0 : Int) ≤ (k : Int) := by omega
                        clear d0 d1 d2 d3 e0 e1 hv1
                        go_wp2_with fail
                        go_quiet (fail)
                        go_wp2_with fail
                        go_roundw
                        case rel => exact ⟨k + 1, by omega, by go_num, (hB.alloc hBs _).trans (drewN_below' _ _ _)⟩
                        case measure => simp [intOf]; omega
                      · have _t := hc
                        have hci : ((s : Int) ≤ (k : Int) + 1) := by omega
                        obtain ⟨f, hf⟩ : ∃ f, zs[k + 2]? = some f := ⟨_, List.getElem?_eq_getElem (by omega)⟩
                        obtain ⟨b, off, hb, g0⟩ := HE4.out (k + 2) (by omega)
                        subst hb
                        have hfe : zs[k + 2]'(by omega) = f := (List.getElem?_eq_some_iff.1 hf).2
                        rw [hfe] at g0
                        have g := g0.below hbel
                        have e0 := g.c0
                        have e1 := g.c1
                        have hboth := HLW.out.2.2 k f (by omega) (by rw [if_neg hc]; exact hf)
                        obtain ⟨g1, hg1, d0, d1⟩ := HD1.out k f hboth.1
                        obtain ⟨g2, hg2, d2, d3⟩ := HD2.out k f hboth.2
                        subst hg1
                        subst hg2
                        have lg1 := World.block_lt_of_cell? x4 _ d0
                        have lg2 := World.block_lt_of_cell? x4 _ d2
                        simp only at lg1 lg2
                        clear hf hfe g g0 hboth
                        go_wp2_with fail
                        refine (conv_any f _).mono ?_
                        rintro e v1 ⟨rfl, hv1⟩
                        have hB := hbel.trans (hv1.mono hbel.size)
                        have hBs := hB.size
                        have D0 : ∀ o, (v1.alloc o).cell? ⟨g1, k * 2, none⟩ = some (.string f.n) := fun o => (World.cell?_alloc_lt v1 _ _ (by simp; omega)).trans ((hB.cell (p := ⟨g1, k * 2, none⟩) lg1).trans d0)
                        have D1 : ∀ o, (v1.alloc o).cell? ⟨g1, k * 2 + 1, none⟩ = some (.int .u64 f.b) := fun o => (World.cell?_alloc_lt v1 _ _ (by simp; omega)).trans ((hB.cell (p := ⟨g1, k * 2 + 1, none⟩) lg1).trans d1)
                        have D2 : ∀ o, (v1.alloc o).cell? ⟨g2, k * 2, none⟩ = some (.string f.n) := fun o => (World.cell?_alloc_lt v1 _ _ (by simp; omega)).trans ((hB.cell (p := ⟨g2, k * 2, none⟩) lg2).trans d2)
                        have D3 : ∀ o, (v1.alloc o).cell? ⟨g2, k * 2 + 1, none⟩ = some (.int .u64 f.b) := fun o => (World.cell?_alloc_lt v1 _ _ (by simp; omega)).trans ((hB.cell (p := ⟨g2, k * 2 + 1, none⟩) lg2).trans d3)
                        have ij1 : (k : Int) < ((zs.length - 2 : Nat) : Int) := by omega
                        have ij2 : (0 : Int) ≤ (k : Int) := by omega
                        clear d0 d1 d2 d3 e0 e1 hv1
                        go_wp2_with fail
                        go_quiet (fail)
                        go_wp2_with fail
                        go_roundw
                        case rel => exact ⟨k + 1, by omega, by go_num, (hB.alloc hBs _).trans (drewN_below' _ _ _)⟩
                        case measure => simp [intOf]; omega
                    · go_wp2_with fail
                      go_ret
                      exact ⟨rfl, HT4.out.trans (hbel.mono HT4.out.size)⟩
    · go_wp2_with fail
      all_goals
        go_ret
        exact ⟨rfl, HT1.out⟩

end Go.Proofs.Qxb6629991a
