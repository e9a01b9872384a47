import Derived.Test.Qxb6630026aDoorDecn
namespace Go.Proofs.Qxb6630026aDoor
open Go.RowKit

/-- The length is the least one, or the first digit is not 0. -/
theorem first_digit {n0 L : Nat} {wd : Int} (hf : Plain.Fit n0 wd L) (h1 : ¬ L = 1) (hw : ¬ (L : Int) = wd) : 1 ≤ n0 / 10 ^ (L - 1) % 10 := by
  rcases hf.least with h | h | h
  · exact absurd h h1
  · exact top_digit hf.one h hf.fits
  · exact absurd h hw

set_option maxRecDepth 100000 in
set_option maxHeartbeats 4000000 in
theorem dec_pos (v : Value) (l : List UInt8) (n0 : Nat) (wd : Int) (w : World) (hv : Reads w v l) (hlen : l.length ≤ 1048576) (hn0 : n0 ≤ 9223372036854775807) (hw1 : -9223372036854775807 ≤ wd) (hw2 : wd ≤ 20) :
    Calls Tryd.prog 3 #[v, .int .i64 (n0 : Int), .int .i64 wd] w fun e w' => e = .returned (.bool true) ∧ Below w.heap.size w w' := by
    have HV : Hid (Reads w v l) := hv
    obtain ⟨a, c, rfl, hlc, hm, -⟩ := hv
    have fw : decide (20 < wd) = false := by simp; omega
    have fw2 : decide (wd < wd - 1) = false := by simp; omega
    clear hlc hm

    go_enter Tryd.func3, Tryd.ntmps3
    go_wp2_with fail
    refine (bytes5_yes _ _ _ _ _ _ hlen).mono ?_
    rintro e w ⟨rfl, rfl⟩
    go_wp2_with fail
    refine (clone_full _ l _ HV.out (by omega)).mono ?_
    rintro e u1 ⟨v1, rfl, hf1, hb1⟩
    have F1 : Hid (Full u1 v1 l) := hf1
    clear hf1
    go_wp2_with fail
    refine (clone_any _ l _ (F1.out.reads (by omega)) (by omega)).mono ?_
    rintro e u2 ⟨v2, rfl, ho2, hb2⟩
    have R2 : Hid (Reads u2 v2 l) := reads_of_own ho2
    have F2 : Hid (Full u2 v1 l) := F1.out.below hb2
    have HB2 : Hid (Below w.heap.size w u2) := hb1.trans (hb2.mono hb1.size)
    clear ho2 hb1 hb2 F1 HV
    go_wp2_with fail
    refine (zfull v1 l n0 wd u2 F2.out (by omega) hn0 hw1 hw2).mono ?_
    rintro e u3 ⟨v3, L, rfl, hf3, hr3, hb3⟩
    have HF : Hid (Plain.Fit n0 wd L) := hf3
    clear hf3
    obtain ⟨s, hs⟩ : ∃ s, Plain.digs L n0 = s := ⟨_, rfl⟩
    rw [hs] at hr3
    have HE : Hid (s = Plain.digs L n0) := hs.symm
    clear hs
    obtain ⟨S, hS'⟩ : ∃ S, s.length = S := ⟨_, rfl⟩
    have hS : Hid (s.length = S) := hS'
    have hSL : S ≤ 21 := by have := HF.out.top; rw [← hS', HE.out, Plain.digs_length]; omega
    clear hS'
    obtain ⟨P, hP⟩ : ∃ P, l.length = P := ⟨_, rfl⟩
    obtain ⟨a2, c2, rfl, hc21, hc22, hr2⟩ := (R2.out.below hb3).form hP
    obtain ⟨a3, c3, rfl, hc31, hc32, hr3⟩ := hr3.form (N := P + S) (by rw [List.length_append, hP, hS.out])
    obtain ⟨a4, c4, hsl, hr4⟩ := tail_bytes (lo := (P : Int)) hr3 hS.out (by rw [hP])
    have HS4 : Hid (∀ wx, (Instr.slice 22 (.slice a3 (P + S) c3) (some (.int .i64 (P : Int))) none none).run Tryd.prog wx = .ok (.slice a4 S c4) wx) := hsl
    have RR2 : Hid (∀ i, i < P → ∃ x : UInt8, (∃ b off, a2 = some ⟨b, off, none⟩ ∧ u3.cell? ⟨b, off + i, none⟩ = some (.int .u8 (x.toNat : Int))) ∧ ∃ b off, a3 = some ⟨b, off, none⟩ ∧ u3.cell? ⟨b, off + i, none⟩ = some (.int .u8 (x.toNat : Int))) := by
      intro i hi
      refine ⟨l[i]'(by omega), hr2.cell i (by omega), ?_⟩
      have := hr3.cell i (by rw [List.length_append]; omega)
      rw [List.getElem_append_left (by omega)] at this
      exact this
    have R4 : Hid (Reads u3 (.slice a4 S c4) s) := hr4
    have HB3 : Hid (Below w.heap.size w u3) := HB2.out.trans (hb3.mono HB2.out.size)
    have hPl : P ≤ 1048576 := by omega
    clear hr2 hr3 hr4 hsl hb3 R2 F2 HB2
    clear hlen hP
    go_wp2_with fail
    go_loopw [9] (fun i wr => ∃ k q : Nat, k ≤ P ∧ i = .int .i64 k ∧ wr = u3.drewN q) (fun i _ => P - (intOf i).toNat)
    case atStart => exact ⟨0, 0, Nat.zero_le _, rfl, rfl⟩
    case round =>
      obtain ⟨k, q, hk, rfl, rfl⟩ := hrel
      by_cases hlt : k < P
      · obtain ⟨x, ⟨b2, o2, rfl, e2⟩, b3, o3, rfl, e3⟩ := RR2.out k hlt
        have i1 : (k : Int) < (P : Int) := by omega
        have i2 : (0 : Int) ≤ (k : Int) := by omega
        have i3 : (k : Int) < (P : Int) + (S : Int) := by omega
        go_wp2_with fail
        go_quiet (fail)
        go_wp2_with fail
        go_roundw
        case rel => exact ⟨k + 1, _, by omega, by go_num, rfl⟩
        case measure => simp [intOf]; omega
      · have hkP : k = P := by omega
        subst hkP
        have R4d : Hid (Reads (u3.drewN q) (.slice a4 S c4) s) := R4.out.drewN q
        have HBd : Hid (Below w.heap.size w (u3.drewN q)) := HB3.out.trans (drewN_below _ _ _)
        have hsl := HS4.out
        clear R4 HB3 RR2

        have hS2 : S = L := by rw [← hS.out, HE.out]; exact Plain.digs_length _ _
        subst hS2
        have R8 : Hid (Reads (u3.drewN q) (.slice a4 S c4) (Plain.digs S n0)) := by rw [← HE.out]; exact R4d.out
        clear R4d
        have hS1 : 1 ≤ S := HF.out.one
        have hS20 : S ≤ 20 := HF.out.top
        have hSw : wd ≤ (S : Int) := HF.out.wide
        obtain ⟨b4, o4, rfl, e4⟩ := R8.out.cell 0 (by rw [Plain.digs_length]; omega)
        obtain ⟨d, hd⟩ : ∃ d, n0 / 10 ^ (S - 1) % 10 = d := ⟨_, rfl⟩
        have HD : Hid (¬ S = 1 → ¬ (S : Int) = wd → 1 ≤ d) := by rw [← hd]; exact first_digit HF.out
        have e7 : u3.cell? ⟨b4, o4, none⟩ = some (.int .u8 (48 + (d : Int))) := by
          have := e4
          simp [Plain.digs_get_toNat, hd] at this
          exact this
        clear e4 hd
        go_wp2_with fail
        refine (value_any _ S n0 _ R8.out hS1 hS20 HF.out.fits (by omega)).mono ?_
        rintro e w8 ⟨rfl, rfl⟩
        by_cases hwl : wd < 1
        · by_cases hS3 : S = 1
          · have g1 : ((S : Int) == 1) = true := by simp; omega
            go_wp2_with fail
            go_ret
            exact ⟨rfl, HBd.out⟩
          · have hd1 : 1 ≤ d := HD.out hS3 (by omega)
            have g1 : ((S : Int) == 1) = false := by simp; omega
            have f48 : ((48 + (d : Int)) != 48) = true := by simp; omega
            go_wp2_with fail
            go_ret
            exact ⟨rfl, HBd.out⟩
        · have fl : decide (wd < 1) = false := by simp; omega
          by_cases hS3 : (S : Int) = wd
          · have g1 : ((S : Int) == wd) = true := by simp; omega
            go_wp2_with fail
            go_ret
            exact ⟨rfl, HBd.out⟩
          · have hd1 : 1 ≤ d := HD.out (by omega) hS3
            have g1 : ((S : Int) == wd) = false := by simp; omega
            have f48 : ((48 + (d : Int)) != 48) = true := by simp; omega
            go_wp2_with fail
            go_ret
            exact ⟨rfl, HBd.out⟩


theorem wraps_up {wd : Int} (h : wd = -9223372036854775808) : decide (wd < wrap64 (wd - 1)) = true := by
  rw [decide_eq_true_eq, h]
  unfold wrap64
  omega

set_option maxRecDepth 100000 in
set_option maxHeartbeats 4000000 in
/-- THE LAW RETURNS true. -/
theorem dec_walk (v : Value) (l : List UInt8) (n wd : Int) (w : World) (hv : Reads w v l) (hn1 : -9223372036854775808 ≤ n) (hn2 : n ≤ 9223372036854775807) (hw : -9223372036854775808 ≤ wd) (htab : PowTab w) :
    Calls Tryd.prog 3 #[v, .int .i64 n, .int .i64 wd] w fun e w' => e = .returned (.bool true) ∧ Below w.heap.size w w' := by
  have HT : Hid (PowTab w) := htab
  clear htab
  by_cases hlen : l.length ≤ 1048576
  · by_cases hneg : n < 0
    · exact dec_neg v l n n.natAbs wd w hv hlen (by omega) (by omega) (by omega) HT.out
    · obtain ⟨n0, rfl⟩ := Int.eq_ofNat_of_zero_le (by omega : 0 ≤ n)
      by_cases hw20 : 20 < wd
      · obtain ⟨a, c, rfl, hlc, hm, -⟩ := hv
        clear hlc hm HT
        go_enter Tryd.func3, Tryd.ntmps3
        go_wp2_with fail
        refine (bytes5_yes _ _ _ _ _ _ hlen).mono ?_
        rintro e w ⟨rfl, rfl⟩
        go_wp2
        go_ret
        exact ⟨rfl, Below.refl _ _⟩
      · by_cases hwm : wd = -9223372036854775808
        · have fw : decide (20 < wd) = false := by simpa using hw20
          have fw3 : decide (wd < wrap64 (wd - 1)) = true := wraps_up hwm
          obtain ⟨a, c, rfl, hlc, hm, -⟩ := hv
          clear hlc hm HT hwm
          go_enter Tryd.func3, Tryd.ntmps3
          go_wp2_with fail
          refine (bytes5_yes _ _ _ _ _ _ hlen).mono ?_
          rintro e w ⟨rfl, rfl⟩
          go_wp2
          go_ret
          exact ⟨rfl, Below.refl _ _⟩
        · exact dec_pos v l n0 wd w hv hlen (by omega) (by omega) (by omega)
  · obtain ⟨a, c, rfl, hlc, hm, -⟩ := hv
    clear hlc hm HT
    go_enter Tryd.func3, Tryd.ntmps3
    go_wp2_with fail
    refine (bytes5_no _ _ _ _ _ _ hlen).mono ?_
    rintro e w ⟨rfl, rfl⟩
    go_wp2
    go_ret
    exact ⟨rfl, Below.refl _ _⟩

end Go.Proofs.Qxb6630026aDoor
