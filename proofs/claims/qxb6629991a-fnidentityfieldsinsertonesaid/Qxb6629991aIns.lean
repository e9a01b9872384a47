import Derived.Test.Qxb6629991aEq
import Derived.Deep.QuietTactic
import Derived.BigQuiet
namespace Go.Proofs.Qxb6629991a
open Go.RowKit

theorem drewN_below (w : World) (B n : Nat) : Below B w (w.drewN n) := ⟨rfl, rfl, rfl, Nat.le_refl _, fun _ _ => rfl⟩

set_option maxRecDepth 100000 in
set_option maxHeartbeats 8000000 in
theorem ins_walk (a : Option Addr) (cap : Nat) (x y : Int) (z : Fd) (zs : List Fd) (w : World) (h : FdsAt w a zs) (hl : zs.length ≤ maxLen) (s0 : z.n.size ≤ maxLen) :
    Calls Try.prog 3 #[.slice a zs.length cap, .int .i64 x, .agg #[.string z.n, .int .u64 z.b], .int .i64 y] w fun e w' => e = .returned (.bool true) ∧ Below w.heap.size w w' := by
  obtain ⟨i0, hi0, hz0, hz1, hz2⟩ := info_parts Try.info29
  have HL : Hid (zs.length ≤ maxLen) := hl
  obtain ⟨WA, hWA⟩ : ∃ WA, w.alloc (.cells #[.string z.n, .int .u64 z.b] 25) = WA := ⟨_, rfl⟩
  have hsz : WA.heap.size = w.heap.size + 1 := by rw [← hWA]; simp
  have HBW : Hid (Below w.heap.size w WA) := by rw [← hWA]; exact (Below.refl _ _).alloc (Nat.le_refl _) _
  have HBX : Hid (WA.cell? ⟨w.heap.size, 0, none⟩ = some (.string z.n) ∧ WA.cell? ⟨w.heap.size, 1, none⟩ = some (.int .u64 z.b)) := by
    rw [← hWA]; refine ⟨?_, ?_⟩ <;> simp
  have HEA : Hid (FdsAt WA a zs) := h.below HBW.out
  have HWA : Hid (w.alloc (.cells #[.string z.n, .int .u64 z.b] 25) = WA) := hWA
  clear h hWA
  unfold maxLen at hl s0
  go_enter Try.func3, Try.ntmps3
  go_wp2_with fail
  rw [HWA.out]
  refine (bytes5_any _ _ _ _ z zs _ HEA.out HL.out).mono ?_
  rintro e w1 ⟨⟨b, rfl⟩, hb1⟩
  have HT1 : Hid (Below w.heap.size w w1) := HBW.out.trans (hb1.mono (by omega))
  cases b with
  | false =>
    go_wp2
    go_ret
    exact ⟨rfl, HT1.out⟩
  | true =>
    have hlt1 : w.heap.size < WA.heap.size := by omega
    have c0 := (hb1.cell (p := ⟨w.heap.size, 0, none⟩) hlt1).trans HBX.out.1
    have c1 := (hb1.cell (p := ⟨w.heap.size, 1, none⟩) hlt1).trans HBX.out.2
    by_cases hA : zs.length ≤ 65536 ∧ z.n.size ≤ 1048576
    · obtain ⟨q0, q1⟩ := hA
      go_wp2_with fail
      refine (over_any _ _ _ zs _ (HEA.out.below hb1) (by omega)).mono ?_
      rintro e w'' ⟨⟨b, rfl⟩, rfl⟩
      cases b with
      | true =>
        go_wp2
        go_ret
        exact ⟨rfl, HT1.out⟩
      | false =>
        by_cases hn2 : zs.length < 2
        · go_wp2
          go_ret
          exact ⟨rfl, HT1.out⟩
        · by_cases hx : x < 1
          · go_wp2
            go_ret
            exact ⟨rfl, HT1.out⟩
          · have fx : decide (x < 1) = false := by simpa using hx
            by_cases hx2 : (zs.length : Int) ≤ x
            · go_wp2
              go_ret
              exact ⟨rfl, HT1.out⟩
            · have fx2 : decide ((zs.length : Int) ≤ x) = false := by simpa using hx2
              by_cases hy : y < 1
              · go_wp2
                go_ret
                exact ⟨rfl, HT1.out⟩
              · have fy : decide (y < 1) = false := by simpa using hy
                by_cases hy2 : (zs.length : Int) < y
                · go_wp2
                  go_ret
                  exact ⟨rfl, HT1.out⟩
                · have fy2 : decide ((zs.length : Int) < y) = false := by simpa using hy2
                  obtain ⟨s, rfl⟩ := Int.eq_ofNat_of_zero_le (by omega : 0 ≤ x)
                  obtain ⟨p, rfl⟩ := Int.eq_ofNat_of_zero_le (by omega : 0 ≤ y)
                  have hs1 : 1 ≤ s := by omega
                  have hs2 : s < zs.length := by omega
                  have hp1 : 1 ≤ p := by omega
                  have hp2 : p ≤ zs.length := by omega
                  clear hx hx2 hy hy2
                  go_wp2_with (at_make; refine wpList_make_full _ rfl _ _ 28 rfl w''.heap.size 29 i0 _ 2 Try.underlying28 hi0 hz0 hz1 .i64 .i64 _ _ zs.length rfl rfl rfl rfl (by rw [hz2]; omega) (by unfold maxLen; omega) (Nat.le_refl _) ?_; intro w2 hown2 hgrow2)
                  have hb2 : Below w''.heap.size w'' w2 := (Below.refl _ _).grown hgrow2 (Nat.le_refl _) (by simp)
                  have HF2 : Hid (Fills w2 w''.heap.size zs.length 0 zs) := Fills.start zs hown2
                  clear hown2 hgrow2
                  go_loopw [11] (fun i wr => ∃ k : Nat, k ≤ zs.length ∧ i = .int .i64 k ∧ Fills wr w''.heap.size zs.length k zs ∧ Below w''.heap.size w'' wr) (fun i _ => zs.length - (intOf i).toNat)
                  case atStart => exact ⟨0, Nat.zero_le _, rfl, HF2.out, hb2⟩
                  case round =>
                    obtain ⟨k, hk, rfl, hfl, hbel⟩ := hrel
                    have HF : Hid (Fills wr w''.heap.size zs.length k zs) := hfl
                    clear hfl HF2 hb2
                    by_cases hlt : k < zs.length
                    · obtain ⟨b, off, rfl, g0⟩ := HEA.out k hlt
                      have g := g0.below (hb1.trans (hbel.mono hb1.size))
                      clear g0
                      have HT : Hid (zs[k]? = some zs[k]) := List.getElem?_eq_getElem hlt
                      generalize zs[k] = f at g HT
                      have e0 := g.c0
                      have e1 := g.c1
                      clear g
                      go_wp2_with fail
                      refine (conv_any f _).mono ?_
                      rintro e v1 ⟨rfl, hv1⟩
                      have HF1 := HF.out.below hv1
                      obtain ⟨⟨t0, th0⟩, ⟨t1, th1⟩, fr0, fr1⟩ := HF1.there k hlt
                      have HB1 := hbel.trans (hv1.mono hbel.size)
                      have HS : Hid _ := HF1.step hlt HT.out
                      have HB : Hid (Below w''.heap.size w'' ((v1.setCell ⟨w''.heap.size, k * 2, none⟩ (.string f.n)).setCell ⟨w''.heap.size, k * 2 + 1, none⟩ (.int .u64 f.b))) := (HB1.setCell (Nat.le_refl _) _).setCell (Nat.le_refl _) _
                      clear HF1 hv1 HB1 e0 e1
                      go_wp2_with fail
                      go_roundw
                      case rel => exact ⟨k + 1, by omega, by go_num, HS.out, HB.out⟩
                      case measure => simp [intOf]; omega
                    · obtain rfl : k = zs.length := by omega
                      have HB1 : Below WA.heap.size WA wr := hb1.trans (hbel.mono hb1.size)
                      have e0 := (HB1.cell (p := ⟨w.heap.size, 0, none⟩) hlt1).trans HBX.out.1
                      have e1 := (HB1.cell (p := ⟨w.heap.size, 1, none⟩) hlt1).trans HBX.out.2
                      have HO1 : Hid (wr.ownsRow w''.heap.size 29 2 (.slice (some ⟨w''.heap.size, 0, none⟩) zs.length zs.length) zs.length (flat zs)) := HF.out.done rfl
                      have HE1 : Hid (FdsAt wr a zs) := HEA.out.below HB1
                      have HTr : Hid (Below w.heap.size w wr) := HT1.out.trans (hbel.mono (by have := hb1.size; omega))
                      clear HF HB1 c0 c1
                      go_wp2_with fail
                      refine (conv_any z _).mono ?_
                      rintro e v1 ⟨rfl, hv1⟩
                      obtain ⟨V, hV⟩ : ∃ V, v1.alloc (.cells #[.string z.n, .int .u64 z.b] 29) = V := ⟨_, rfl⟩
                      have hVs : V.heap.size = v1.heap.size + 1 := by rw [← hV]; simp
                      have HG : Hid (V.cell? ⟨v1.heap.size, 0, none⟩ = some (.string z.n) ∧ V.cell? ⟨v1.heap.size, 1, none⟩ = some (.int .u64 z.b)) := by
                        rw [← hV]; refine ⟨?_, ?_⟩ <;> simp
                      have HBV : Below wr.heap.size wr V := by rw [← hV]; exact hv1.trans ((Below.refl _ _).alloc hv1.size _)
                      have HOV : Hid (V.ownsRow w''.heap.size 29 2 (.slice (some ⟨w''.heap.size, 0, none⟩) zs.length zs.length) zs.length (flat zs)) := ownsRow_below HO1.out HBV
                      have HEV : Hid (FdsAt V a zs) := HE1.out.below HBV
                      have HTV : Hid (Below w.heap.size w V) := HTr.out.trans (HBV.mono HTr.out.size)
                      have HVV : Hid (v1.alloc (.cells #[.string z.n, .int .u64 z.b] 29) = V) := hV
                      clear hV hv1 HO1 HE1 HTr e0 e1 hbel HBV
                      obtain ⟨ts, hts⟩ : ∃ ts, Plain.insAt zs p z = ts := ⟨_, rfl⟩
                      have htl : ts.length = zs.length + 1 := by rw [← hts]; exact Plain.insAt_length zs p z hp2
                      have HTS : Hid (Plain.insAt zs p z = ts ∧ ts.length = zs.length + 1) := ⟨hts, htl⟩
                      clear hts htl
                      go_wp2_with (at_make; refine wpList_make_full _ rfl _ _ 28 rfl (v1.heap.size + 1) 29 i0 _ 2 Try.underlying28 hi0 hz0 hz1 .i64 .i64 _ _ (zs.length + 1) rfl rfl (by omega) (by omega) (by rw [hz2]; omega) (by unfold maxLen; omega) (by simp) ?_; intro w6 hown6 hgrow6)
                      rw [HVV.out] at hown6 hgrow6
                      rw [hVs] at hown6
                      have hb6 : Below (v1.heap.size + 1) V w6 := (Below.refl _ _).grown hgrow6 (by omega) (by simp)
                      have HF6 : Hid (Fills w6 (v1.heap.size + 1) (zs.length + 1) 0 ts) := Fills.start ts hown6
                      clear hown6 hgrow6 HVV
                      go_loopw [14] (fun i wx => ∃ k : Nat, k ≤ p ∧ i = .int .i64 k ∧ Fills wx (v1.heap.size + 1) (zs.length + 1) k ts ∧ Below (v1.heap.size + 1) V wx) (fun i _ => p - (intOf i).toNat)
                      case atStart => exact ⟨0, Nat.zero_le _, rfl, HF6.out, hb6⟩
                      case round =>
                        obtain ⟨k, hk, rfl, hfl, hbel⟩ := hrel
                        have HF : Hid (Fills wr (v1.heap.size + 1) (zs.length + 1) k ts) := hfl
                        have hbV : Below V.heap.size V wr := by rw [hVs]; exact hbel
                        clear hfl HF6 hb6
                        by_cases hlt : k < p
                        · obtain ⟨b, off, rfl, g0⟩ := HEV.out k (by omega)
                          have g := g0.below hbV
                          clear g0
                          have HT : Hid (ts[k]? = some zs[k]) := by
                            show _ = _
                            rw [← HTS.out.1, Plain.insAt_lt zs p k z hlt hp2]
                            exact List.getElem?_eq_getElem (by omega)
                          generalize zs[k] = f at g HT
                          have e0 := g.c0
                          have e1 := g.c1
                          clear g
                          go_wp2_with fail
                          refine (conv_any f _).mono ?_
                          rintro e v2 ⟨rfl, hv2⟩
                          have HF1 := HF.out.below hv2
                          obtain ⟨⟨t0, th0⟩, ⟨t1, th1⟩, fr0, fr1⟩ := HF1.there k (by omega)
                          have HB1 := hbel.trans (hv2.mono (by have := hbV.size; omega))
                          have HS : Hid _ := HF1.step (by omega) HT.out
                          have HB : Hid (Below (v1.heap.size + 1) V ((v2.setCell ⟨v1.heap.size + 1, k * 2, none⟩ (.string f.n)).setCell ⟨v1.heap.size + 1, k * 2 + 1, none⟩ (.int .u64 f.b))) := (HB1.setCell (Nat.le_refl _) _).setCell (Nat.le_refl _) _
                          clear HF1 hv2 HB1 e0 e1
                          go_wp2_with fail
                          go_roundw
                          case rel => exact ⟨k + 1, by omega, by go_num, HS.out, HB.out⟩
                          case measure => simp [intOf]; omega
                        · obtain rfl : k = p := by omega
                          have HT : Hid (ts[k]? = some z) := by
                            show _ = _
                            rw [← HTS.out.1]; exact Plain.insAt_at zs k z hp2
                          obtain ⟨⟨t0, th0⟩, ⟨t1, th1⟩, fr0, fr1⟩ := HF.out.there k (by omega)
                          have e0 := (hbV.cell (p := ⟨v1.heap.size, 0, none⟩) (by simp; omega)).trans HG.out.1
                          have e1 := (hbV.cell (p := ⟨v1.heap.size, 1, none⟩) (by simp; omega)).trans HG.out.2
                          have HS : Hid _ := HF.out.step (by omega) HT.out
                          have HB : Hid (Below (v1.heap.size + 1) V ((wr.setCell ⟨v1.heap.size + 1, k * 2, none⟩ (.string z.n)).setCell ⟨v1.heap.size + 1, k * 2 + 1, none⟩ (.int .u64 z.b))) := (hbel.setCell (Nat.le_refl _) _).setCell (Nat.le_refl _) _
                          go_wp2_with fail
                          clear th0 th1 fr0 fr1 e0 e1 HF hbel hbV
                          go_loopw [15] (fun i wx => ∃ j : Nat, k ≤ j ∧ j ≤ zs.length ∧ i = .int .i64 j ∧ Fills wx (v1.heap.size + 1) (zs.length + 1) (j + 1) ts ∧ Below (v1.heap.size + 1) V wx) (fun i _ => zs.length - (intOf i).toNat)
                          case atStart => exact ⟨k, Nat.le_refl _, hp2, rfl, HS.out, HB.out⟩
                          case round =>
                            obtain ⟨j, hkj, hj, rfl, hfl, hbel⟩ := hrel
                            have HF : Hid (Fills wr (v1.heap.size + 1) (zs.length + 1) (j + 1) ts) := hfl
                            have hbV : Below V.heap.size V wr := by rw [hVs]; exact hbel
                            clear hfl HS HB
                            by_cases hlt : j < zs.length
                            · obtain ⟨b, off, rfl, g0⟩ := HEV.out j hlt
                              have g := g0.below hbV
                              clear g0
                              have HT : Hid (ts[j + 1]? = some zs[j]) := by
                                show _ = _
                                rw [← HTS.out.1, Plain.insAt_gt zs k j z hkj hp2]
                                exact List.getElem?_eq_getElem hlt
                              generalize zs[j] = f at g HT
                              have e0 := g.c0
                              have e1 := g.c1
                              clear g
                              go_wp2_with fail
                              refine (conv_any f _).mono ?_
                              rintro e v2 ⟨rfl, hv2⟩
                              have HF1 := HF.out.below hv2
                              obtain ⟨⟨t0, th0⟩, ⟨t1, th1⟩, fr0, fr1⟩ := HF1.there (j + 1) (by omega)
                              have HB1 := hbel.trans (hv2.mono (by have := hbV.size; omega))
                              have HS : Hid _ := HF1.step (by omega) HT.out
                              have HB : Hid (Below (v1.heap.size + 1) V ((v2.setCell ⟨v1.heap.size + 1, (j + 1) * 2, none⟩ (.string f.n)).setCell ⟨v1.heap.size + 1, (j + 1) * 2 + 1, none⟩ (.int .u64 f.b))) := (HB1.setCell (Nat.le_refl _) _).setCell (Nat.le_refl _) _
                              clear HF1 hv2 HB1 e0 e1
                              go_wp2_with fail
                              go_roundw
                              case rel => exact ⟨j + 1, by omega, by omega, by go_num, HS.out, HB.out⟩
                              case measure => simp [intOf]; omega
                            · obtain rfl : j = zs.length := by omega
                              have HO2 : Hid (wr.ownsRow (v1.heap.size + 1) 29 2 (.slice (some ⟨v1.heap.size + 1, 0, none⟩) (zs.length + 1) (zs.length + 1)) (zs.length + 1) (flat ts)) := by
                                have := HF.out.done HTS.out.2
                                rw [HTS.out.2] at this
                                exact this
                              have HO1 : Hid (wr.ownsRow w''.heap.size 29 2 (.slice (some ⟨w''.heap.size, 0, none⟩) zs.length zs.length) zs.length (flat zs)) := ownsRow_below HOV.out hbV
                              have HG1 : Hid (wr.cell? ⟨v1.heap.size, 0, none⟩ = some (.string z.n) ∧ wr.cell? ⟨v1.heap.size, 1, none⟩ = some (.int .u64 z.b)) := ⟨(hbV.cell (p := ⟨v1.heap.size, 0, none⟩) (by simp; omega)).trans HG.out.1, (hbV.cell (p := ⟨v1.heap.size, 1, none⟩) (by simp; omega)).trans HG.out.2⟩
                              have hgl : v1.heap.size < wr.heap.size := by have := hbV.size; omega
                              have HTr : Hid (Below w.heap.size w wr) := HTV.out.trans (hbV.mono HTV.out.size)
                              clear HF hbel hbV HOV HG HTV HEV HEA
                              have hcase : ∃ q s2 : Nat, (k ≤ s ∧ k = q + 1 ∧ s2 = s + 1) ∨ (s < k ∧ k = q + 2 ∧ s2 = s) := by
                                by_cases h : k ≤ s
                                · exact ⟨k - 1, s + 1, .inl ⟨h, by omega, rfl⟩⟩
                                · exact ⟨k - 2, s, .inr ⟨by omega, by omega, rfl⟩⟩
                              obtain ⟨q, s2, hcs⟩ := hcase
                              have hlaw := Plain.ins_law zs z k s s2 q hs1 hs2 hp2 hcs
                              rw [HTS.out.1] at hlaw
                              obtain ⟨R1, hR1⟩ : ∃ R1, Plain.idt zs s zs.length = R1 := ⟨_, rfl⟩
                              obtain ⟨R2, hR2⟩ : ∃ R2, Plain.idt ts s2 (zs.length + 1) = R2 := ⟨_, rfl⟩
                              rw [hR1, hR2] at hlaw
                              have HR1 : Hid (Plain.idt zs s zs.length = R1) := hR1
                              have HR2 : Hid (Plain.idt ts s2 (zs.length + 1) = R2) := hR2
                              obtain ⟨L1, L2, L3, L4, L5⟩ := hlaw
                              have HL1 : Hid (R1.length = zs.length - 2 ∧ R2.length = zs.length - 1) := ⟨L1, L2⟩
                              have HL3 : Hid (R2[q]? = some z) := L3
                              have HL4 : Hid (∀ k, k < q → R2[k]? = R1[k]?) := L4
                              have HL5 : Hid (∀ k, q ≤ k → R2[k + 1]? = R1[k]?) := L5
                              clear hR1 hR2 L1 L2 L3 L4 L5
                              have hqb : q + 1 ≤ zs.length ∧ s2 ≤ zs.length + 1 ∧ q + 2 ≤ zs.length := by omega
                              obtain ⟨hq1, hq2, hq3⟩ := hqb
                              rcases hcs with ⟨h1, h2, h3⟩ | ⟨h1, h2, h3⟩
                              all_goals
                                first
                                | (have fk : ((k : Int) ≤ (s : Int)) := by omega
                                   have EQ1 : Hid ((k : Int) - 1 = (q : Int)) := by show _ = _; omega
                                   have EQ2 : Hid ((s : Int) + 1 = (s2 : Int)) := by show _ = _; omega
                                   clear h2 h3
                                   go_wp2_with fail
                                   rw [EQ1.out, EQ2.out]
                                   clear EQ1 EQ2 fk h1)
                                | (have fk : ¬ ((k : Int) ≤ (s : Int)) := by omega
                                   have EQ1 : Hid ((k : Int) - 2 = (q : Int)) := by show _ = _; omega
                                   subst h3
                                   clear h2
                                   go_wp2_with fail
                                   rw [EQ1.out]
                                   clear EQ1 fk h1)
                                refine (newLayout_any _ _ _ _ _).mono ?_
                                rintro e x1 ⟨rfl, hx1⟩
                                go_wp2_with fail
                                refine (ident_n _ _ _ _ _ zs rfl _ (ownsRow_below HO1.out hx1) (by omega) (by omega)).mono ?_
                                rintro e x2 ⟨r1, rfl, hr1, hx2⟩
                                rw [HR1.out] at hr1
                                have hX2 : Below wr.heap.size wr x2 := hx1.trans (hx2.mono hx1.size)
                                clear hx2
                                obtain ⟨ra1, rc1, hre1, hrd1⟩ := own_shape hr1
                                have HO1' : Hid (x2.ownsRow x1.heap.size 29 2 r1 R1.length (flat R1)) := hr1
                                have HRE1 : Hid (r1 = .slice ra1 R1.length rc1) := hre1
                                clear hr1 hre1 hrd1 hx1
                                go_wp2_with fail
                                refine (newLayout_any _ _ _ _ _).mono ?_
                                rintro e x3 ⟨rfl, hx3⟩
                                go_wp2_with fail
                                refine (ident_n _ _ _ _ _ ts HTS.out.2 _ (ownsRow_below HO2.out (hX2.trans (hx3.mono hX2.size))) (by omega) (by omega)).mono ?_
                                rintro e x4 ⟨r2, rfl, hr2, hx4⟩
                                rw [HR2.out] at hr2
                                have hX4 : Below x2.heap.size x2 x4 := hx3.trans (hx4.mono hx3.size)
                                have HT4 : Hid (Below w.heap.size w x4) := HTr.out.trans ((hX2.trans (hX4.mono hX2.size)).mono HTr.out.size)
                                have hr1 := ownsRow_below HO1'.out hX4
                                obtain ⟨a1, cc1, he1, hd1⟩ := own_shape hr1
                                obtain ⟨a2, cc2, he2, hd2⟩ := own_shape hr2
                                have HD1 : Hid _ := hd1
                                have HD2 : Hid _ := hd2
                                have hXX := hX2.trans (hX4.mono hX2.size)
                                have cg0 := (hXX.cell (p := ⟨v1.heap.size, 0, none⟩) hgl).trans HG1.out.1
                                have cg1 := (hXX.cell (p := ⟨v1.heap.size, 1, none⟩) hgl).trans HG1.out.2
                                clear hd1 hd2 hr1 hr2 hx3 hx4 hX2 hX4 hXX HO1' HRE1
                                rw [he1, he2]
                                rw [HL1.out.1, HL1.out.2]
                                have n1 : (((zs.length - 2 : Nat) : Int) != (zs.length : Int) - 2) = false := by
                                  have : ((zs.length - 2 : Nat) : Int) = (zs.length : Int) - 2 := by omega
                                  rw [this]; simp
                                have n2 : (((zs.length - 1 : Nat) : Int) != (zs.length : Int) - 1) = false := by
                                  have : ((zs.length - 1 : Nat) : Int) = (zs.length : Int) - 1 := by omega
                                  rw [this]; simp
                                have heq := eq29
                                have hgd := guard29
                                obtain ⟨g2, hg2, d0, d1⟩ := HD2.out q z HL3.out
                                subst hg2
                                have iq1 : (q : Int) < ((zs.length - 1 : Nat) : Int) := by omega
                                have iq2 : (0 : Int) ≤ (q : Int) := by omega
                                go_wp2_with fail
                                go_quiet (fail)
                                go_wp2_with fail
                                go_loopw [20] (fun i wx => ∃ j n : Nat, j ≤ q ∧ i = .int .i64 j ∧ wx = x4.drewN n) (fun i _ => q - (intOf i).toNat)
                                case atStart => exact ⟨0, _, Nat.zero_le _, rfl, rfl⟩
                                case round =>
                                  obtain ⟨j, n, hj, rfl, rfl⟩ := hrel
                                  by_cases hlt : j < q
                                  · obtain ⟨f, hf⟩ : ∃ f, R1[j]? = some f := ⟨_, List.getElem?_eq_getElem (by rw [HL1.out.1]; omega)⟩
                                    obtain ⟨g3, hg3, b0, b1⟩ := HD1.out j f hf
                                    obtain ⟨g4, hg4, k0, k1⟩ := HD2.out j f (by rw [HL4.out j hlt]; exact hf)
                                    subst hg3
                                    simp only [Option.some.injEq, Addr.mk.injEq, and_true] at hg4
                                    subst hg4
                                    have ij1 : (j : Int) < ((zs.length - 1 : Nat) : Int) := by omega
                                    have ij2 : (0 : Int) ≤ (j : Int) := by omega
                                    have ij3 : (j : Int) < ((zs.length - 2 : Nat) : Int) := by omega
                                    clear hf
                                    go_wp2_with fail
                                    go_quiet (fail)
                                    go_wp2_with fail
                                    go_roundw
                                    case rel => exact ⟨j + 1, _, by omega, by go_num, rfl⟩
                                    case measure => simp [intOf]; omega
                                  · go_wp2_with fail
                                    go_loopw [21] (fun i wx => ∃ j n : Nat, q ≤ j ∧ j ≤ zs.length - 2 ∧ i = .int .i64 j ∧ wx = x4.drewN n) (fun i _ => zs.length - 2 - (intOf i).toNat)
                                    case atStart => exact ⟨q, n, Nat.le_refl _, by omega, rfl, rfl⟩
                                    case round =>
                                      obtain ⟨i, n3, hqi, hi, rfl, rfl⟩ := hrel
                                      by_cases hlt2 : i < zs.length - 2
                                      · obtain ⟨f, hf⟩ : ∃ f, R1[i]? = some f := ⟨_, List.getElem?_eq_getElem (by rw [HL1.out.1]; omega)⟩
                                        obtain ⟨g3, hg3, b0, b1⟩ := HD1.out i f hf
                                        obtain ⟨g4, hg4, k0, k1⟩ := HD2.out (i + 1) f (by rw [HL5.out i hqi]; exact hf)
                                        subst hg3
                                        simp only [Option.some.injEq, Addr.mk.injEq, and_true] at hg4
                                        subst hg4
                                        have ij1 : (i : Int) + 1 < ((zs.length - 1 : Nat) : Int) := by omega
                                        have ij2 : (0 : Int) ≤ (i : Int) := by omega
                                        have ij3 : (i : Int) < ((zs.length - 2 : Nat) : Int) := by omega
                                        have ij4 : (0 : Int) ≤ (i : Int) + 1 := by omega
                                        clear hf
                                        go_wp2_with fail
                                        go_quiet (fail)
                                        go_wp2_with fail
                                        go_roundw
                                        case rel => exact ⟨i + 1, _, by omega, by omega, by go_num, rfl⟩
                                        case measure => simp [intOf]; omega
                                      · go_wp2_with fail
                                        go_ret
                                        exact ⟨rfl, HT4.out.trans (drewN_below _ _ _)⟩
    · go_wp2_with fail
      all_goals
        go_ret
        exact ⟨rfl, HT1.out⟩

end Go.Proofs.Qxb6629991a
