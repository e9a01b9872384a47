import Derived.Test.Qxb6628972aIns
namespace Go.Proofs.Qxb6628972a
open Go.RowKit

theorem ins_count (zs : List Ep) (p : Nat) (z : Ep) (t : List UInt8) : ((insAt zs p z).map Ep.key).count t = (zs.map Ep.key).count t + if z.key == t then 1 else 0 := by
  have e : zs.map Ep.key = (zs.take p).map Ep.key ++ (zs.drop p).map Ep.key := by rw [← List.map_append, List.take_append_drop]
  unfold insAt
  rw [e, List.map_append, List.map_cons, List.count_append, List.count_append, List.count_cons]
  omega

set_option maxRecDepth 100000 in
set_option maxHeartbeats 4000000 in
theorem raise_walk (x y : Int) (a : Option Addr) (cap : Nat) (z : Ep) (zs : List Ep) (t : ByteArray) (w : World) (h : EpsAt w a zs) (hl : zs.length ≤ cap) (hm : cap ≤ maxLen) (ht : t.size ≤ maxLen)
    (hz : CureOk w z.c) (s0 : z.m.size ≤ maxLen) (s1 : z.d.size ≤ maxLen) (s5 : z.s.size ≤ maxLen) :
    Calls Try.prog 4 #[.int .i64 x, .slice a zs.length cap, .int .i64 y, .agg #[.string z.m, .string z.d, .int .i64 z.f, .int .i64 z.l, .pointer z.c, .string z.s], .string t] w fun e w' => e = .returned (.bool true) ∧ Below w.heap.size w w' := by
  have hlm : zs.length ≤ maxLen := by omega
  have HL : Hid (zs.length ≤ maxLen) := hlm
  clear hlm
  obtain ⟨WA, hWA⟩ : ∃ WA, w.alloc (.cells #[.string z.m, .string z.d, .int .i64 z.f, .int .i64 z.l, .pointer z.c, .string z.s] 29) = WA := ⟨_, rfl⟩
  have hsz : WA.heap.size = w.heap.size + 1 := by rw [← hWA]; simp
  have HBW : Hid (Below w.heap.size w WA) := by rw [← hWA]; exact (Below.refl _ _).alloc (Nat.le_refl _) _
  have HBX : Hid (WA.cell? ⟨w.heap.size, 0, none⟩ = some (.string z.m) ∧ WA.cell? ⟨w.heap.size, 1, none⟩ = some (.string z.d) ∧ WA.cell? ⟨w.heap.size, 2, none⟩ = some (.int .i64 z.f) ∧ WA.cell? ⟨w.heap.size, 3, none⟩ = some (.int .i64 z.l) ∧ WA.cell? ⟨w.heap.size, 4, none⟩ = some (.pointer z.c) ∧ WA.cell? ⟨w.heap.size, 5, none⟩ = some (.string z.s)) := by
    rw [← hWA]; refine ⟨?_, ?_, ?_, ?_, ?_, ?_⟩ <;> simp
  have HEA : Hid (EpsAt WA a zs) := h.below HBW.out
  have HZA : Hid (CureOk WA z.c) := hz.below HBW.out
  have HWA : Hid (w.alloc (.cells #[.string z.m, .string z.d, .int .i64 z.f, .int .i64 z.l, .pointer z.c, .string z.s] 29) = WA) := hWA
  clear h hz hWA
  unfold maxLen at hm ht s0 s1 s5
  go_enter Try.func4, Try.ntmps4
  go_wp2_with fail
  rw [HWA.out]
  refine (bytes9_any _ _ _ _ z _ zs _ HEA.out HL.out).mono ?_
  rintro e w1 ⟨⟨b, rfl⟩, hb1⟩
  cases b with
  | false =>
    go_wp2
    go_ret
    exact ⟨rfl, HBW.out.trans (hb1.mono (by omega))⟩
  | true =>
    have hlt1 : w.heap.size < WA.heap.size := by omega
    obtain ⟨d0, d1, d2, d3, d4, d5⟩ := HBX.out
    have c0 := (hb1.cell (p := ⟨w.heap.size, 0, none⟩) hlt1).trans d0
    have c1 := (hb1.cell (p := ⟨w.heap.size, 1, none⟩) hlt1).trans d1
    have c5 := (hb1.cell (p := ⟨w.heap.size, 5, none⟩) hlt1).trans d5
    clear d0 d1 d2 d3 d4 d5
    have HT1 : Hid (Below w.heap.size w w1) := HBW.out.trans (hb1.mono (by omega))
    by_cases hA : zs.length ≤ 65536 ∧ t.size ≤ 65536 ∧ z.m.size ≤ 65536 ∧ z.d.size ≤ 65536 ∧ z.s.size ≤ 65536
    · obtain ⟨q0, q1, q2, q3, q4⟩ := hA
      have f0 : decide ((65536 : Int) < (zs.length : Int)) = false := by simp; omega
      have f1 : decide ((65536 : Int) < (t.size : Int)) = false := by simp; omega
      have f2 : decide ((65536 : Int) < (z.m.size : Int)) = false := by simp; omega
      have f3 : decide ((65536 : Int) < (z.d.size : Int)) = false := by simp; omega
      have f4 : decide ((65536 : Int) < (z.s.size : Int)) = false := by simp; omega
      go_wp2_with fail
      refine (fit_any _ _ _ zs _ (HEA.out.below hb1) (by omega)).mono ?_
      rintro e w'' ⟨⟨b, rfl⟩, rfl⟩
      cases b with
      | false =>
        go_wp2
        go_ret
        exact ⟨rfl, HT1.out⟩
      | true =>
        by_cases h3 : y < 0
        · go_wp2
          go_ret
          exact ⟨rfl, HT1.out⟩
        · have hd3 : decide (y < 0) = false := by simpa using h3
          by_cases h4 : (zs.length : Int) < y
          · go_wp2
            go_ret
            exact ⟨rfl, HT1.out⟩
          · have hd4 : decide ((zs.length : Int) < y) = false := by simpa using h4
            obtain ⟨p, rfl⟩ := Int.eq_ofNat_of_zero_le (by omega : 0 ≤ y)
            go_wp2_with fail
            refine (report_any _ _ _ zs _ (HEA.out.below hb1) (by omega)).mono ?_
            rintro e u1 ⟨bp1, rfl, hr1, hb2⟩
            have hz1 := hb1.size
            have HR1 : Hid (Rep u1 bp1 (zs.map Ep.s)) := hr1
            have HB2 : Below WA.heap.size WA u1 := hb1.trans (hb2.mono hz1)
            clear hr1 hb1 hb2 c0 c1 c5 HT1
            obtain ⟨d0, d1, d2, d3, d4, d5⟩ := HBX.out
            have c0 := (HB2.cell (p := ⟨w.heap.size, 0, none⟩) hlt1).trans d0
            have c1 := (HB2.cell (p := ⟨w.heap.size, 1, none⟩) hlt1).trans d1
            have c2 := (HB2.cell (p := ⟨w.heap.size, 2, none⟩) hlt1).trans d2
            have c3 := (HB2.cell (p := ⟨w.heap.size, 3, none⟩) hlt1).trans d3
            have c4 := (HB2.cell (p := ⟨w.heap.size, 4, none⟩) hlt1).trans d4
            have c5 := (HB2.cell (p := ⟨w.heap.size, 5, none⟩) hlt1).trans d5
            clear d0 d1 d2 d3 d4 d5
            go_wp2_with fail
            refine (inserted_any _ _ _ p z zs _ (HEA.out.below HB2) (by omega) (by omega) (HZA.out.below HB2)).mono ?_
            rintro e u2 ⟨bp2, rfl, hr2, hb3⟩
            have hz2 := HB2.size
            have R2 : Hid (Rep u2 bp2 ((insAt zs p z).map Ep.s)) := hr2
            have R1 : Hid (Rep u2 bp1 (zs.map Ep.s)) := HR1.out.below hb3
            have HB3 : Below WA.heap.size WA u2 := HB2.trans (hb3.mono hz2)
            clear hr2 HR1 hb3 HB2 c0 c1 c2 c3 c4 c5
            have c5 := (HB3.cell (p := ⟨w.heap.size, 5, none⟩) hlt1).trans HBX.out.2.2.2.2.2
            obtain ⟨B, hB⟩ : ∃ B, (zs.map Ep.key).count z.s.toList = B := ⟨_, rfl⟩
            have HA1 : Hid (((insAt zs p z).map Ep.key).count z.s.toList = B + 1) := by
              show _ = _
              rw [ins_count, hB]; simp [Ep.key]
            have HB1 : Hid ((zs.map Ep.key).count z.s.toList = B) := hB
            have hBl : B ≤ zs.length := by
              have := Plain.count_le (zs.map Ep.key) z.s.toList
              rw [hB] at this; simpa using this
            clear hB
            go_wp2_with fail
            refine (count_n bp1 zs z.s B HB1.out _ R1.out (by omega)).mono ?_
            rintro e u3 ⟨rfl, hb4⟩
            have R1b : Hid (Rep u3 bp1 (zs.map Ep.s)) := R1.out.below hb4
            have R2b : Hid (Rep u3 bp2 ((insAt zs p z).map Ep.s)) := R2.out.below hb4
            have HB4 : Below WA.heap.size WA u3 := HB3.trans (hb4.mono HB3.size)
            clear R1 R2 hb4 HB3 c5
            have c5 := (HB4.cell (p := ⟨w.heap.size, 5, none⟩) hlt1).trans HBX.out.2.2.2.2.2
            have hil : (insAt zs p z).length ≤ 1073741824 := by rw [insAt_length zs p z (by omega)]; omega
            have HIL : Hid ((insAt zs p z).length ≤ 1073741824) := hil
            clear hil
            go_wp2_with fail
            refine (count_n bp2 (insAt zs p z) z.s (B + 1) HA1.out _ R2b.out HIL.out).mono ?_
            rintro e u4 ⟨rfl, hb5⟩
            have R1c : Hid (Rep u4 bp1 (zs.map Ep.s)) := R1b.out.below hb5
            have R2c : Hid (Rep u4 bp2 ((insAt zs p z).map Ep.s)) := R2b.out.below hb5
            have HB5 : Below WA.heap.size WA u4 := HB4.trans (hb5.mono HB4.size)
            clear R1b R2b hb5 HB4 c5
            have c5 := (HB5.cell (p := ⟨w.heap.size, 5, none⟩) hlt1).trans HBX.out.2.2.2.2.2
            have HT5 : Hid (Below w.heap.size w u4) := HBW.out.trans (HB5.mono (by omega))
            cases hts : (t.toList == z.s.toList) with
            | true =>
              go_wp2_with fail
              go_ret
              exact ⟨rfl, HT5.out⟩
            | false =>
              obtain ⟨D, hD⟩ : ∃ D, (zs.map Ep.key).count t.toList = D := ⟨_, rfl⟩
              have HD2 : Hid (((insAt zs p z).map Ep.key).count t.toList = D) := by
                show _ = _
                rw [ins_count, hD]
                have : (z.key == t.toList) = false := by
                  simp only [beq_eq_false_iff_ne, ne_eq] at hts ⊢
                  exact fun e => hts e.symm
                rw [this]; simp
              have HD1 : Hid ((zs.map Ep.key).count t.toList = D) := hD
              have hDl : D ≤ zs.length := by
                have := Plain.count_le (zs.map Ep.key) t.toList
                rw [hD] at this; simpa using this
              clear hD
              go_wp2_with fail
              refine (count_n bp2 (insAt zs p z) t D HD2.out _ R2c.out HIL.out).mono ?_
              rintro e u5 ⟨rfl, hb6⟩
              have R1d : Hid (Rep u5 bp1 (zs.map Ep.s)) := R1c.out.below hb6
              have HB6 : Below WA.heap.size WA u5 := HB5.trans (hb6.mono HB5.size)
              clear R1c R2c hb6 HB5 c5
              go_wp2_with fail
              refine (count_n bp1 zs t D HD1.out _ R1d.out (by omega)).mono ?_
              rintro e u6 ⟨rfl, hb7⟩
              have HB7 : Below WA.heap.size WA u6 := HB6.trans (hb7.mono HB6.size)
              go_wp2_with fail
              go_ret
              exact ⟨rfl, HBW.out.trans (HB7.mono (by omega))⟩
    · go_wp2_with fail
      all_goals
        go_ret
        exact ⟨rfl, HT1.out⟩

end Go.Proofs.Qxb6628972a
