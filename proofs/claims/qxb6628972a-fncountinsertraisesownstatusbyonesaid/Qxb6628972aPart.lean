import Derived.Test.Qxb6628972aRep
import Derived.Test.Qxb6628972aPlain
namespace Go.Proofs.Qxb6628972a
open Go.RowKit

/-- An episode's key: its status' bytes. -/
def Ep.key (z : Ep) : List UInt8 := z.s.toList

theorem cnt_count (t : ByteArray) (ss : List ByteArray) : cnt t ss = (ss.map ByteArray.toList).count t.toList := by
  induction ss with
  | nil => rfl
  | cons s r ih =>
    simp only [cnt, List.map_cons, List.count_cons, ih]
    omega

theorem count_k (bp : Nat) (qs : List Ep) (t : ByteArray) (w : World) (h : Rep w bp (qs.map Ep.s)) (hl : qs.length ≤ 1073741824) :
    Calls Try.prog 8 #[.pointer (some ⟨bp, 0, none⟩), .string t] w fun e w' => e = .returned (.int .i64 ((qs.map Ep.key).count t.toList : Nat)) ∧ Below w.heap.size w w' := by
  have := count_any bp (qs.map Ep.s) t w h (by simpa using hl)
  rw [cnt_count, List.map_map] at this
  exact this

theorem count_n (bp : Nat) (qs : List Ep) (t : ByteArray) (n : Nat) (hn : (qs.map Ep.key).count t.toList = n) (w : World) (h : Rep w bp (qs.map Ep.s)) (hl : qs.length ≤ 1073741824) :
    Calls Try.prog 8 #[.pointer (some ⟨bp, 0, none⟩), .string t] w fun e w' => e = .returned (.int .i64 (n : Nat)) ∧ Below w.heap.size w w' := by
  subst hn
  exact count_k bp qs t w h hl

theorem report_n (a : Option Addr) (n c : Nat) (x : Int) (zs : List Ep) (hn : zs.length = n) (w : World) (h : EpsAt w a zs) (hl : n ≤ 16777216) :
    Calls Try.prog 7 #[.int .i64 x, .slice a n c] w fun e w' => ∃ bp, e = .returned (.pointer (some ⟨bp, 0, none⟩)) ∧ Rep w' bp (zs.map Ep.s) ∧ Below w.heap.size w w' := by
  subst hn
  exact report_any a c x zs w h hl

theorem tail_slice (a : Option Addr) (cap c : Nat) (zs : List Ep) (hl : zs.length ≤ cap) (hc : c ≤ zs.length) :
    ∃ a3, (∀ wx, (Instr.slice 22 (.slice a zs.length cap) (some (.int .i64 (c : Int))) none none).run Try.prog wx = .ok (.slice a3 (zs.length - c) (cap - c)) wx) ∧ ∀ u, EpsAt u a zs → EpsAt u a3 (zs.drop c) := by
  refine ⟨if cap = c then a else a.map (·.add (c * 6)), fun wx => ?_, fun u h => ?_⟩
  · have hsz : (sizeOf (Try.prog.elem 22)).run Try.prog wx = .ok 6 wx := by kernel_rfl
    rw [run_slice_l (P := Try.prog) wx 22 a zs.length cap Try.underlying22 .i64 (c : Int) (by omega) (by omega), hsz]
    simp [sliced]
  · by_cases hcc : cap = c
    · have : zs.drop c = [] := List.drop_eq_nil_of_le (by omega)
      rw [this]
      exact fun i hi => absurd hi (by simp)
    · rw [if_neg hcc]
      intro i hi
      rw [List.length_drop] at hi
      obtain ⟨b, off, rfl, _⟩ := h 0 (by omega)
      have := h.drop c i (by rw [List.length_drop]; omega)
      have e : (Option.map (fun x => x.add (c * 6)) (some (⟨b, off, none⟩ : Addr))) = some ⟨b, off + c * 6, none⟩ := by
        simp only [Option.map_some, Option.some.injEq]
        exact Go.WideShapes.add_plain _ _ _
      rw [e]; exact this

set_option maxRecDepth 100000 in
set_option maxHeartbeats 4000000 in
theorem part_walk (x y : Int) (a : Option Addr) (cap : Nat) (zs : List Ep) (t : ByteArray) (w : World) (h : EpsAt w a zs) (hl : zs.length ≤ cap) (hm : cap ≤ maxLen) (hn : a = none → zs = [] ∧ cap = 0) (ht : t.size ≤ maxLen) :
    Calls Try.prog 3 #[.int .i64 x, .slice a zs.length cap, .int .i64 y, .string t] w fun e w' => e = .returned (.bool true) ∧ Below w.heap.size w w' := by
  have HE : Hid (EpsAt w a zs) := h
  clear h
  by_cases h1 : 4096 < zs.length
  · go_enter Try.func3, Try.ntmps3
    go_wp2_with fail
    refine (bytes5_any _ _ _ _ _ zs _ HE.out (by omega)).mono ?_
    rintro e w' ⟨⟨b, rfl⟩, rfl⟩
    unfold maxLen at *
    cases b with
    | false =>
      go_wp2
      go_ret
      exact ⟨rfl, Below.refl _ _⟩
    | true =>
      go_wp2
      go_ret
      exact ⟨rfl, Below.refl _ _⟩
  · by_cases h2 : 65536 < t.size
    · go_enter Try.func3, Try.ntmps3
      go_wp2_with fail
      refine (bytes5_any _ _ _ _ _ zs _ HE.out (by omega)).mono ?_
      rintro e w' ⟨⟨b, rfl⟩, rfl⟩
      unfold maxLen at *
      cases b with
      | false =>
        go_wp2
        go_ret
        exact ⟨rfl, Below.refl _ _⟩
      | true =>
        go_wp2
        go_ret
        exact ⟨rfl, Below.refl _ _⟩
    · go_enter Try.func3, Try.ntmps3
      go_wp2_with fail
      refine (bytes5_any _ _ _ _ _ zs _ HE.out (by omega)).mono ?_
      rintro e w' ⟨⟨b, rfl⟩, rfl⟩
      unfold maxLen at *
      cases b with
      | false =>
        go_wp2
        go_ret
        exact ⟨rfl, Below.refl _ _⟩
      | true =>
        go_wp2_with fail
        refine (fit_any _ _ _ zs _ HE.out (by omega)).mono ?_
        rintro e w'' ⟨⟨b, rfl⟩, rfl⟩
        cases b with
        | false =>
          go_wp2
          go_ret
          exact ⟨rfl, Below.refl _ _⟩
        | true =>
          by_cases h3 : y < 0
          · go_wp2
            go_ret
            exact ⟨rfl, Below.refl _ _⟩
          · by_cases h4 : (zs.length : Int) < y
            · have hd3 : decide (y < 0) = false := by simpa using h3
              go_wp2
              go_ret
              exact ⟨rfl, Below.refl _ _⟩
            · have hd3 : decide (y < 0) = false := by simpa using h3
              have hd4 : decide ((zs.length : Int) < y) = false := by simpa using h4
              obtain ⟨c, rfl⟩ := Int.eq_ofNat_of_zero_le (by omega : 0 ≤ y)
              go_wp2_with fail
              refine (report_any _ _ _ zs _ HE.out (by omega)).mono ?_
              rintro e u1 ⟨bp1, rfl, hr1, hb1⟩
              have HR1 : Hid (Rep u1 bp1 (zs.map Ep.s)) := hr1
              clear hr1
              have HE1 : Hid (EpsAt u1 a zs) := HE.out.below hb1
              go_wp2_with fail
              refine (report_n _ _ _ _ (zs.take c) (by rw [List.length_take]; omega) _ (HE1.out.take c) (by omega)).mono ?_
              rintro e u2 ⟨bp2, rfl, hr2, hb2⟩
              have HR2 : Hid (Rep u2 bp2 ((zs.take c).map Ep.s)) := hr2
              have HR12 : Hid (Rep u2 bp1 (zs.map Ep.s)) := HR1.out.below hb2
              have HE2 : Hid (EpsAt u2 a zs) := HE1.out.below hb2
              have HB2 := hb1.trans (hb2.mono hb1.size)
              clear hr2 HR1 hb1 hb2 HE HE1
              obtain ⟨a3, hsl, hsl2⟩ := tail_slice a cap c zs hl (by omega)
              have HE3 : Hid (EpsAt u2 a3 (zs.drop c)) := hsl2 u2 HE2.out
              clear hsl2
              go_wp2_with fail
              refine (report_n _ _ _ _ (zs.drop c) (by rw [List.length_drop]) _ HE3.out (by omega)).mono ?_
              rintro e u3 ⟨bp3, rfl, hr3, hb3⟩
              have R3 : Hid (Rep u3 bp3 ((zs.drop c).map Ep.s)) := hr3
              have R2 : Hid (Rep u3 bp2 ((zs.take c).map Ep.s)) := HR2.out.below hb3
              have R1 : Hid (Rep u3 bp1 (zs.map Ep.s)) := HR12.out.below hb3
              have E3 : Hid (EpsAt u3 a zs) := HE2.out.below hb3
              have HB3 := HB2.trans (hb3.mono HB2.size)
              clear hr3 HR2 HR12 HE2 HB2 hb3 HE3 hsl
              obtain ⟨ks, hks⟩ : ∃ ks, ks = zs.map Ep.key := ⟨_, rfl⟩
              have hkl : ks.length = zs.length := by rw [hks]; simp
              have HK : Hid (ks = zs.map Ep.key) := hks
              have HKL : Hid (ks.length = zs.length) := hkl
              clear hks hkl
              go_wp2_with fail
              go_loopw [13, 14, 15] (fun T p i wr => ∃ k : Nat, k ≤ zs.length ∧ i = .int .i64 k ∧ T = .int .i64 (Plain.tot ks k : Nat) ∧ p = .bool (Plain.has ks k t.toList) ∧ Below u3.heap.size u3 wr) (fun _ _ i _ => zs.length - (intOf i).toNat)
              case atStart => exact ⟨0, Nat.zero_le _, rfl, by rw [Plain.tot_zero]; rfl, by rw [Plain.has_zero], Below.refl _ _⟩
              case round =>
                obtain ⟨k, hk, rfl, rfl, rfl, hbel⟩ := hrel
                have htl : Plain.tot ks k ≤ zs.length := by have := Plain.tot_le ks k; rw [HKL.out] at this; exact this
                by_cases hlt : k < zs.length
                · obtain ⟨b, off, rfl, g0⟩ := E3.out k hlt
                  have c5 := (g0.below hbel).c5
                  clear g0
                  have EI : Hid (∀ q (hq : q < zs.length), wr.cell? ⟨b, off + q * 6 + 5, none⟩ = some (.string zs[q].s)) := by
                    intro q hq
                    obtain ⟨b', off', e, g⟩ := E3.out q hq
                    simp only [Option.some.injEq, Addr.mk.injEq, and_true] at e
                    obtain ⟨rfl, rfl⟩ := e
                    exact (g.below hbel).c5
                  have hkk : k < ks.length := by rw [HKL.out]; exact hlt
                  have hst : ks[k] = zs[k].s.toList := by simp [HK.out, Ep.key]
                  obtain ⟨st, hse⟩ : ∃ st, zs[k].s = st := ⟨_, rfl⟩
                  rw [hse] at c5 hst
                  have HST : Hid (ks[k] = st.toList) := hst
                  clear hst hse
                  obtain ⟨p0, hp0⟩ : ∃ p0, Plain.has ks k t.toList = p0 := ⟨_, rfl⟩
                  obtain ⟨p', hp'⟩ : ∃ p', Plain.has ks (k + 1) t.toList = p' := ⟨_, rfl⟩
                  have hsplit : ((st.toList == t.toList) = true ∧ true = p') ∨ ((st.toList == t.toList) = false ∧ p0 = p') := by
                    have hps := Plain.has_succ ks k t.toList hkk
                    rw [hp', hp0, HST.out] at hps
                    cases hp : (st.toList == t.toList) with
                    | true => exact .inl ⟨rfl, by rw [hps, hp, Bool.or_true]⟩
                    | false => exact .inr ⟨rfl, by rw [hps, hp, Bool.or_false]⟩
                  have HP : Hid (Plain.has ks (k + 1) t.toList = p') := hp'
                  rw [hp0]
                  clear hp' hp0
                  have TS : Hid (Plain.has ks k st.toList = true → Plain.tot ks (k + 1) = Plain.tot ks k) := by
                    intro h
                    exact Plain.tot_seen ks k hkk (by rw [HST.out]; exact h)
                  have TN : Hid (Plain.has ks k st.toList = false → Plain.tot ks (k + 1) = Plain.tot ks k + ks.count st.toList) := by
                    intro h
                    have := Plain.tot_new ks k hkk (by rw [HST.out]; exact h)
                    rwa [HST.out] at this
                  have hc1 : 1 ≤ ks.count st.toList := by
                    have := Plain.count_pos ks k hkk
                    rwa [HST.out] at this
                  have hc2 : ks.count st.toList ≤ zs.length := by
                    have := Plain.count_le ks st.toList
                    rwa [HKL.out] at this
                  rcases hsplit with ⟨hp, rfl⟩ | ⟨hp, rfl⟩
                  all_goals
                    go_wp2_with fail
                    go_loop [17, 18] (fun sn j => ∃ q : Nat, q ≤ k ∧ j = .int .i64 q ∧ sn = .bool false ∧ Plain.has ks q st.toList = false) (fun _ j => k - (intOf j).toNat)
                    case atStart => exact ⟨0, Nat.zero_le _, rfl, rfl, Plain.has_zero _ _⟩
                    case round =>
                      obtain ⟨q, hq, rfl, rfl, hno⟩ := hrel
                      have HNO : Hid (Plain.has ks q st.toList = false) := hno
                      clear hno
                      by_cases hqk : q < k
                      · have d5 := EI.out q (by omega)
                        obtain ⟨sq, hsq⟩ : ∃ sq, zs[q].s = sq := ⟨_, rfl⟩
                        rw [hsq] at d5
                        have HQ : Hid (Plain.has ks (q + 1) st.toList = (sq.toList == st.toList)) := by
                          show _ = _
                          rw [Plain.has_succ ks q st.toList (by rw [HKL.out]; omega), HNO.out, Bool.false_or]
                          have : ks[q]'(by rw [HKL.out]; omega) = zs[q].s.toList := by simp [HK.out, Ep.key]
                          rw [this, hsq]
                        clear hsq
                        cases he : (sq.toList == st.toList) with
                        | true =>
                          have HH : Hid (Plain.tot ks (k + 1) = Plain.tot ks k) := TS.out (Plain.has_mono ks (q + 1) k _ (by omega) (by rw [HQ.out, he]))
                          go_wp2_with fail
                          go_roundw
                          case rel => exact ⟨k + 1, by omega, by go_num, by rw [HH.out], by rw [HP.out], hbel⟩
                          case measure => simp [intOf]; omega
                        | false =>
                          have HH : Hid (Plain.has ks (q + 1) st.toList = false) := by rw [HQ.out]; exact he
                          go_wp2_with fail
                          go_round
                          case rel => exact ⟨q + 1, by omega, by go_num, rfl, HH.out⟩
                          case measure => simp [intOf]; omega
                      · obtain rfl : q = k := by omega
                        have hcut : ((List.take c zs).map Ep.key).count st.toList + ((List.drop c zs).map Ep.key).count st.toList = ks.count st.toList := by
                          rw [HK.out, List.map_take, List.map_drop]; exact Plain.count_cut _ _ _
                        obtain ⟨A, hA⟩ : ∃ A, ((List.take c zs).map Ep.key).count st.toList = A := ⟨_, rfl⟩
                        obtain ⟨B, hB⟩ : ∃ B, ((List.drop c zs).map Ep.key).count st.toList = B := ⟨_, rfl⟩
                        obtain ⟨C, hC⟩ : ∃ C, ks.count st.toList = C := ⟨_, rfl⟩
                        have HH : Hid (Plain.tot ks (q + 1) = Plain.tot ks q + C) := by rw [← hC]; exact TN.out HNO.out
                        rw [hA, hB, hC] at hcut
                        rw [hC] at hc1 hc2
                        rw [HK.out] at hC
                        have HA : Hid (((List.take c zs).map Ep.key).count st.toList = A) := hA
                        have HB : Hid (((List.drop c zs).map Ep.key).count st.toList = B) := hB
                        have HC : Hid ((zs.map Ep.key).count st.toList = C) := hC
                        have hd1 : decide ((C : Int) < 1) = false := by simp; omega
                        have hd2 : decide ((zs.length : Int) < (C : Int)) = false := by simp; omega
                        have hne : ((A : Int) + (B : Int) != (C : Int)) = false := by
                          rw [← hcut]; simp
                        have hAB : A + B ≤ 4096 := by omega
                        clear hA hB hC hcut
                        go_wp2_with fail
                        refine (count_n bp1 zs st C HC.out _ (R1.out.below hbel) (by omega)).mono ?_
                        rintro e v1 ⟨rfl, hv1⟩
                        have HV1 := hbel.trans (hv1.mono hbel.size)
                        clear hv1
                        go_wp2_with fail
                        refine (count_n bp2 (zs.take c) st A HA.out _ (R2.out.below HV1) (by rw [List.length_take]; omega)).mono ?_
                        rintro e v2 ⟨rfl, hv2⟩
                        have HV2 := HV1.trans (hv2.mono HV1.size)
                        clear hv2
                        go_wp2_with fail
                        refine (count_n bp3 (zs.drop c) st B HB.out _ (R3.out.below HV2) (by rw [List.length_drop]; omega)).mono ?_
                        rintro e v3 ⟨rfl, hv3⟩
                        have HV3 := HV2.trans (hv3.mono HV2.size)
                        clear hv3
                        go_wp2_with fail
                        go_roundw
                        case rel => exact ⟨q + 1, by omega, by go_num, by rw [HH.out]; go_num, by rw [HP.out], HV3⟩
                        case measure => simp [intOf]; omega
                · obtain rfl : k = zs.length := by omega
                  have htn : Plain.tot ks zs.length = zs.length := by
                    have := Plain.tot_all ks; rw [HKL.out] at this; exact this
                  rw [htn]
                  clear htn htl hlt hk
                  have hcut : ((List.take c zs).map Ep.key).count t.toList + ((List.drop c zs).map Ep.key).count t.toList = (zs.map Ep.key).count t.toList := by
                    rw [List.map_take, List.map_drop]; exact Plain.count_cut _ _ _
                  obtain ⟨A, hA⟩ : ∃ A, ((List.take c zs).map Ep.key).count t.toList = A := ⟨_, rfl⟩
                  obtain ⟨B, hB⟩ : ∃ B, ((List.drop c zs).map Ep.key).count t.toList = B := ⟨_, rfl⟩
                  obtain ⟨C, hC⟩ : ∃ C, (zs.map Ep.key).count t.toList = C := ⟨_, rfl⟩
                  have hcl : C ≤ zs.length := by
                    have := Plain.count_le (zs.map Ep.key) t.toList
                    rw [hC] at this; simpa using this
                  have hpc : (Plain.has ks zs.length t.toList = true ∧ 1 ≤ C) ∨ (Plain.has ks zs.length t.toList = false ∧ C = 0) := by
                    cases hp : Plain.has ks zs.length t.toList with
                    | true =>
                      refine .inl ⟨rfl, ?_⟩
                      rw [← HKL.out] at hp
                      have := Plain.has_all_true ks t.toList hp
                      rw [HK.out, hC] at this; exact this
                    | false =>
                      refine .inr ⟨rfl, ?_⟩
                      rw [← HKL.out] at hp
                      have := Plain.has_all_false ks t.toList hp
                      rw [HK.out, hC] at this; exact this
                  rw [hA, hB, hC] at hcut
                  have HA : Hid (((List.take c zs).map Ep.key).count t.toList = A) := hA
                  have HB : Hid (((List.drop c zs).map Ep.key).count t.toList = B) := hB
                  have HC : Hid ((zs.map Ep.key).count t.toList = C) := hC
                  have hne : ((A : Int) + (B : Int) != (C : Int)) = false := by
                    rw [← hcut]; simp
                  have hAB : A + B ≤ 4096 := by omega
                  have HT : Hid (Below w''.heap.size w'' wr) := HB3.trans (hbel.mono HB3.size)
                  clear hA hB hC hcut
                  rcases hpc with ⟨hp, hC1⟩ | ⟨hp, rfl⟩
                  · rw [hp]
                    clear hp
                    have hd1 : decide ((C : Int) < 1) = false := by simp; omega
                    go_wp2_with fail
                    refine (count_n bp1 zs t C HC.out _ (R1.out.below hbel) (by omega)).mono ?_
                    rintro e v1 ⟨rfl, hv1⟩
                    have HV1 := hbel.trans (hv1.mono hbel.size)
                    clear hv1
                    go_wp2_with fail
                    refine (count_n bp2 (zs.take c) t A HA.out _ (R2.out.below HV1) (by rw [List.length_take]; omega)).mono ?_
                    rintro e v2 ⟨rfl, hv2⟩
                    have HV2 := HV1.trans (hv2.mono HV1.size)
                    clear hv2
                    go_wp2_with fail
                    refine (count_n bp3 (zs.drop c) t B HB.out _ (R3.out.below HV2) (by rw [List.length_drop]; omega)).mono ?_
                    rintro e v3 ⟨rfl, hv3⟩
                    have HV3 := HV2.trans (hv3.mono HV2.size)
                    clear hv3
                    go_wp2_with fail
                    go_ret
                    exact ⟨rfl, HB3.trans (HV3.mono HB3.size)⟩
                  · rw [hp]
                    clear hp
                    go_wp2_with fail
                    refine (count_n bp1 zs t 0 HC.out _ (R1.out.below hbel) (by omega)).mono ?_
                    rintro e v1 ⟨rfl, hv1⟩
                    have HV1 := hbel.trans (hv1.mono hbel.size)
                    clear hv1
                    go_wp2_with fail
                    refine (count_n bp2 (zs.take c) t A HA.out _ (R2.out.below HV1) (by rw [List.length_take]; omega)).mono ?_
                    rintro e v2 ⟨rfl, hv2⟩
                    have HV2 := HV1.trans (hv2.mono HV1.size)
                    clear hv2
                    go_wp2_with fail
                    refine (count_n bp3 (zs.drop c) t B HB.out _ (R3.out.below HV2) (by rw [List.length_drop]; omega)).mono ?_
                    rintro e v3 ⟨rfl, hv3⟩
                    have HV3 := HV2.trans (hv3.mono HV2.size)
                    clear hv3
                    go_wp2_with fail
                    go_ret
                    exact ⟨rfl, HB3.trans (HV3.mono HB3.size)⟩

end Go.Proofs.Qxb6628972a
