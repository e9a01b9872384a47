import Derived.Test.Qxb6630026aDoorPad
namespace Go.Proofs.Qxb6630026aDoor
open Go.RowKit

theorem own_len {w : World} {base n : Nat} {v : Value} {l m : List UInt8} (h : w.ownsRow base 5 1 v (l.length + n) (bv (l ++ m))) (hm : m.length = n) : w.ownsRow base 5 1 v (l ++ m).length (bv (l ++ m)) := by
  rw [List.length_append, hm]; exact h

theorem least_wraps {wd : Int} (h : wd = -9223372036854775808) : decide (wd < wrap64 (wd - 1)) = true := by
  rw [decide_eq_true_eq, h]
  unfold wrap64
  omega

set_option maxRecDepth 100000 in
set_option maxHeartbeats 4000000 in
theorem ord_walk (v : Value) (l : List UInt8) (x y wd : Int) (w : World) (hv : Reads w v l) (hx : x ≤ 9223372036854775807) (hy : y ≤ 9223372036854775807) (hw : -9223372036854775808 ≤ wd) :
    Calls Tryd.prog 4 #[v, .int .i64 x, .int .i64 y, .int .i64 wd] w fun e w' => e = .returned (.bool true) ∧ Below w.heap.size w w' := by
  have HV : Hid (Reads w v l) := hv
  obtain ⟨a, c, rfl, hlc, hm, _⟩ := hv
  by_cases hlen : l.length ≤ 1048576
  · clear hlc hm
    by_cases hx0 : x < 0
    · go_enter Tryd.func4, Tryd.ntmps4
      go_wp2_with fail
      refine (bytes10_yes _ _ _ _ _ _ _ hlen).mono ?_
      rintro e w' ⟨rfl, rfl⟩
      go_wp2
      go_ret
      exact ⟨rfl, Below.refl _ _⟩
    · have fx : decide (x < 0) = false := by simpa using hx0
      by_cases hy0 : y < 0
      · go_enter Tryd.func4, Tryd.ntmps4
        go_wp2_with fail
        refine (bytes10_yes _ _ _ _ _ _ _ hlen).mono ?_
        rintro e w' ⟨rfl, rfl⟩
        go_wp2
        go_ret
        exact ⟨rfl, Below.refl _ _⟩
      · have fy : decide (y < 0) = false := by simpa using hy0
        by_cases hw20 : 20 < wd
        · go_enter Tryd.func4, Tryd.ntmps4
          go_wp2_with fail
          refine (bytes10_yes _ _ _ _ _ _ _ hlen).mono ?_
          rintro e w' ⟨rfl, rfl⟩
          go_wp2
          go_ret
          exact ⟨rfl, Below.refl _ _⟩
        · have fw : decide (20 < wd) = false := by simpa using hw20
          by_cases hwm : wd = -9223372036854775808
          · have fw3 : decide (wd < wrap64 (wd - 1)) = true := least_wraps hwm
            clear hwm
            go_enter Tryd.func4, Tryd.ntmps4
            go_wp2_with fail
            refine (bytes10_yes _ _ _ _ _ _ _ hlen).mono ?_
            rintro e w' ⟨rfl, rfl⟩
            go_wp2
            go_ret
            exact ⟨rfl, Below.refl _ _⟩
          · have hw1 : -9223372036854775807 ≤ wd := by omega
            have hw2 : wd ≤ 20 := by omega
            clear hw hwm hw20
            have fw2 : decide (wd < wd - 1) = false := by simp; omega
            obtain ⟨p, rfl⟩ := Int.eq_ofNat_of_zero_le (by omega : 0 ≤ x)
            obtain ⟨q, rfl⟩ := Int.eq_ofNat_of_zero_le (by omega : 0 ≤ y)
            have hp : p ≤ 9223372036854775807 := by omega
            have hq : q ≤ 9223372036854775807 := by omega
            clear hx hy hx0 hy0
            go_enter Tryd.func4, Tryd.ntmps4
            go_wp2_with fail
            refine (bytes10_yes _ _ _ _ _ _ _ hlen).mono ?_
            rintro e w' ⟨rfl, rfl⟩
            go_wp2_with fail
            refine (clone_any _ l _ HV.out (by omega)).mono ?_
            rintro e u1 ⟨v1, rfl, ho1, hb1⟩
            have R1 : Hid (Reads u1 v1 l) := reads_of_own ho1
            clear ho1
            go_wp2_with fail
            refine (clone_any _ l _ R1.out (by omega)).mono ?_
            rintro e u2 ⟨v2, rfl, ho2, hb2⟩
            have HO2 : Hid (u2.ownsRow u1.heap.size 5 1 v2 l.length (bv l)) := ho2
            have hz2 := hb2.size
            have hz1 := hb1.size
            have hB2 := hb1.trans (hb2.mono hb1.size)
            clear ho2 hb1
            go_wp2_with fail
            refine (zpad_any v2 l u1.heap.size p wd _ HO2.out hz2 (by omega) hp hw1 hw2).mono ?_
            rintro e u3 ⟨v3, L3, rfl, hf3, ho3, hb3⟩
            have R3 : Hid (Reads u3 v3 (l ++ Plain.digs L3 p)) := reads_of_own (own_len ho3 (Plain.digs_length _ _))
            have HF3 : Hid (Plain.Fit p wd L3) := hf3
            have R13 : Hid (Reads u3 v1 l) := R1.out.below (hb2.trans hb3)
            have hB3 := hB2.trans (hb3.mono hz1)
            clear ho3 hf3 hb2 hb3 R1 hB2 HO2
            go_wp2_with fail
            refine (clone_any _ l _ R13.out (by omega)).mono ?_
            rintro e u4 ⟨v4, rfl, ho4, hb4⟩
            have HO4 : Hid (u4.ownsRow u3.heap.size 5 1 v4 l.length (bv l)) := ho4
            have hz4 := hb4.size
            clear ho4
            go_wp2_with fail
            refine (zpad_any v4 l u3.heap.size q wd _ HO4.out hz4 (by omega) hq hw1 hw2).mono ?_
            rintro e u5 ⟨v5, L5, rfl, hf5, ho5, hb5⟩
            have R5 : Hid (Reads u5 v5 (l ++ Plain.digs L5 q)) := reads_of_own (own_len ho5 (Plain.digs_length _ _))
            have HF5 : Hid (Plain.Fit q wd L5) := hf5
            have R35 : Hid (Reads u5 v3 (l ++ Plain.digs L3 p)) := R3.out.below (hb4.trans hb5)
            have HB5 := hB3.trans ((hb4.trans hb5).mono hB3.size)
            have HLAW : Hid (Plain.slex (l ++ Plain.digs L3 p) (l ++ Plain.digs L5 q) = Plain.cmpN p q) := Plain.order_law l HF3.out HF5.out
            have HLN : Hid ((l ++ Plain.digs L3 p).length ≤ 1073741824) := by
              show _ ≤ _
              have := HF3.out.top
              rw [List.length_append, Plain.digs_length]; omega
            clear ho5 hf5 hb4 hb5 R3 hB3 HO4 R13
            rcases Nat.lt_trichotomy p q with h | h | h
            · have HC : Hid (Plain.cmpN p q = -1) := by show _ = _; unfold Plain.cmpN; rw [if_pos h]
              have g1 : ¬ (q : Int) < (p : Int) := by omega
              go_wp2_with fail
              refine (slex_any _ _ _ _ _ R35.out R5.out HLN.out).mono ?_
              rintro e u6 ⟨rfl, n6, rfl⟩
              rw [HLAW.out, HC.out]
              go_wp2_with fail
              go_ret
              exact ⟨rfl, HB5.trans (drewN_below _ _ _)⟩
            · have HC : Hid (Plain.cmpN p q = 0) := by show _ = _; unfold Plain.cmpN; rw [if_neg (by omega), if_neg (by omega)]
              have g1 : ¬ (q : Int) < (p : Int) := by omega
              have g2 : ¬ (p : Int) < (q : Int) := by omega
              clear h
              go_wp2_with fail
              refine (slex_any _ _ _ _ _ R35.out R5.out HLN.out).mono ?_
              rintro e u6 ⟨rfl, n6, rfl⟩
              rw [HLAW.out, HC.out]
              go_wp2_with fail
              go_ret
              exact ⟨rfl, HB5.trans (drewN_below _ _ _)⟩
            · have HC : Hid (Plain.cmpN p q = 1) := by show _ = _; unfold Plain.cmpN; rw [if_neg (by omega), if_pos h]
              have g1 : ¬ (p : Int) < (q : Int) := by omega
              go_wp2_with fail
              refine (slex_any _ _ _ _ _ R35.out R5.out HLN.out).mono ?_
              rintro e u6 ⟨rfl, n6, rfl⟩
              rw [HLAW.out, HC.out]
              go_wp2_with fail
              go_ret
              exact ⟨rfl, HB5.trans (drewN_below _ _ _)⟩
  · go_enter Tryd.func4, Tryd.ntmps4
    go_wp2_with fail
    refine (bytes10_no _ _ _ _ _ _ _ hlen).mono ?_
    rintro e w' ⟨rfl, rfl⟩
    go_wp2
    go_ret
    exact ⟨rfl, Below.refl _ _⟩

end Go.Proofs.Qxb6630026aDoor
