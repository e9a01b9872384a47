import Derived.Test.Qxb6630026aDoorFull
import Derived.Test.Qxb6630026aDoorDec
namespace Go.Proofs.Qxb6630026aDoor
open Go.RowKit

theorem minus_wrap {u : Nat} (h : u ≤ 9223372036854775808) : IntKind.u64.wrap (-IntKind.u64.wrap (-(u : Int))) = (u : Int) := by rw [IntKind.wrap_u64, IntKind.wrap_u64]; omega

set_option maxRecDepth 100000 in
set_option maxHeartbeats 2000000 in
theorem neg14 (v : Value) (l : List UInt8) (u : Nat) (w : World) (hv : Full w v l) (hl : l.length ≤ 16777216) (hu1 : 1 ≤ u) (hu2 : u ≤ 9223372036854775808) (htab : PowTab w) :
    Calls Tryd.prog 14 #[v, .int .i64 (-(u : Int)), .int .i64 10] w fun e w' => ∃ v', e = .returned v' ∧ w'.ownsRow w.heap.size 5 1 v' (l.length + 1 + (Lib.decDigits u).length) (bv l ++ [.int .u8 45] ++ bv (Lib.decDigits u)) ∧ Below w.heap.size w w' := by
  obtain ⟨i0, hi0, hz0, hz1, hz2⟩ := info_parts Tryd.info5
  have hwr := minus_wrap hu2
  obtain ⟨ao, rfl, hao, hcs⟩ := (hv.below ((Below.refl _ _).alloc (Nat.le_refl _) (.cells #[.int .u8 45] 5))).opened
  have HA : Hid (ao = none → l.length = 0 ∧ l.length = 0) := hao
  have HB : Hid _ := hcs
  have HT : Hid (PowTab w) := htab
  clear hv hao hcs htab
  go_enter Tryd.func14, Tryd.ntmps14
  go_wp2_with (at_builtin; refine wpList_append_grows _ rfl _ _ 22 rfl 5 i0 (.int .u8 0) 1 1 Tryd.underlying22 hi0 hz0 hz1 hz2 rfl (by omega) ao l.length l.length (bv l) rfl HA.out (by rw [bv_length]; omega) HB.out ⟨w.heap.size, 0, none⟩ 1 1 [.int .u8 45] rfl rfl (by intro j u' hj; match j, hj with | 0, hj => simp at hj; subst hj; simp [Addr.add]) (by intro u' hu'; simp at hu'; subst hu'; rfl) (by omega) (by unfold maxLen; omega) (by omega) ?_; intro v2 w2 hown2 hgrow2)
  have hb2 : Below w.heap.size w w2 := ((Below.refl _ _).alloc (Nat.le_refl _) _).grown hgrow2 (by simp) (fun r hr => by cases hr)
  have HO2 : Hid (w2.ownsRow w.heap.size 5 1 v2 (l.length + 1) (bv l ++ [.int .u8 45])) := by
    refine ⟨hown2.1, ?_⟩
    rcases hown2.2 with h | ⟨g, cap, cur, e, hb, r⟩
    · exact .inl h
    · exact .inr ⟨g, cap, cur, e, by simp at hb; omega, r⟩
  clear hown2 hgrow2
  refine (Tryd.internal_strconv_AppendUint_10 w.heap.size (l.length + 1) u (by omega) v2 _ w2 HO2.out hb2.size (by omega) (Lib.tabBelow_of_tabIs HT.out w2 hb2)).mono ?_
  rintro e w3 ⟨v3, rfl, ho3, hb3, _⟩
  have HO3 : Hid (w3.ownsRow w.heap.size 5 1 v3 (l.length + 1 + (Lib.decDigits u).length) (bv l ++ [.int .u8 45] ++ bv (Lib.decDigits u))) := ho3
  have HB3 : Hid (Below w.heap.size w w3) := hb2.trans hb3
  clear ho3 hb3 hb2 HO2 HT
  go_wp2_with fail
  go_ret
  exact ⟨_, rfl, HO3.out, HB3.out⟩

theorem neg13 (v : Value) (l : List UInt8) (u : Nat) (w : World) (hv : Full w v l) (hl : l.length ≤ 16777216) (hu1 : 1 ≤ u) (hu2 : u ≤ 9223372036854775808) (htab : PowTab w) :
    Calls Tryd.prog 13 #[v, .int .i64 (-(u : Int)), .int .i64 10] w fun e w' => ∃ v', e = .returned v' ∧ w'.ownsRow w.heap.size 5 1 v' (l.length + 1 + (Lib.decDigits u).length) (bv l ++ [.int .u8 45] ++ bv (Lib.decDigits u)) ∧ Below w.heap.size w w' := by
  have HV : Hid (Full w v l) := hv
  have HT : Hid (PowTab w) := htab
  clear hv htab
  go_enter Tryd.func13, Tryd.ntmps13
  go_wp2_with fail
  refine (neg14 v l u _ HV.out hl hu1 hu2 HT.out).mono ?_
  rintro e w3 ⟨v3, rfl, ho3, hb3⟩
  have HO3 : Hid (w3.ownsRow w.heap.size 5 1 v3 (l.length + 1 + (Lib.decDigits u).length) (bv l ++ [.int .u8 45] ++ bv (Lib.decDigits u))) := ho3
  have HB3 : Hid (Below w.heap.size w w3) := hb3
  clear ho3 hb3
  go_wp2_with fail
  go_ret
  exact ⟨_, rfl, HO3.out, HB3.out⟩

theorem neg12 (v : Value) (l : List UInt8) (u : Nat) (wd : Int) (w : World) (hv : Full w v l) (hl : l.length ≤ 16777216) (hu1 : 1 ≤ u) (hu2 : u ≤ 9223372036854775808) (htab : PowTab w) :
    Calls Tryd.prog 12 #[v, .int .i64 (-(u : Int)), .int .i64 wd] w fun e w' => ∃ v', e = .returned v' ∧ w'.ownsRow w.heap.size 5 1 v' (l.length + 1 + (Lib.decDigits u).length) (bv l ++ [.int .u8 45] ++ bv (Lib.decDigits u)) ∧ Below w.heap.size w w' := by
  have HV : Hid (Full w v l) := hv
  have HT : Hid (PowTab w) := htab
  have hneg : -(u : Int) < 0 := by omega
  clear hv htab
  go_enter Tryd.func12, Tryd.ntmps12
  go_wp2_with fail
  refine (neg13 v l u _ HV.out hl hu1 hu2 HT.out).mono ?_
  rintro e w3 ⟨v3, rfl, ho3, hb3⟩
  have HO3 : Hid (w3.ownsRow w.heap.size 5 1 v3 (l.length + 1 + (Lib.decDigits u).length) (bv l ++ [.int .u8 45] ++ bv (Lib.decDigits u))) := ho3
  have HB3 : Hid (Below w.heap.size w w3) := hb3
  clear ho3 hb3
  go_wp2_with fail
  go_ret
  exact ⟨_, rfl, HO3.out, HB3.out⟩

/-- A negative number: the sign and the numeral. -/
theorem zneg (v : Value) (l : List UInt8) (u : Nat) (wd : Int) (w : World) (hv : Full w v l) (hl : l.length ≤ 16777216) (hu1 : 1 ≤ u) (hu2 : u ≤ 9223372036854775808) (htab : PowTab w) :
    Calls Tryd.prog 7 #[v, .int .i64 (-(u : Int)), .int .i64 wd] w fun e w' => ∃ v' L, e = .returned v' ∧ 1 ≤ L ∧ u < 10 ^ L ∧ (L = 1 ∨ 10 ^ (L - 1) ≤ u) ∧ Reads w' v' (l ++ 45 :: Plain.digs L u) ∧ Below w.heap.size w w' := by
  have HV : Hid (Full w v l) := hv
  have HT : Hid (PowTab w) := htab
  clear hv htab
  go_enter Tryd.func7, Tryd.ntmps7
  go_wp2_with fail
  refine (neg12 v l u wd _ HV.out hl hu1 hu2 HT.out).mono ?_
  rintro e w3 ⟨v3, rfl, ho3, hb3⟩
  have R : Hid (∃ L, 1 ≤ L ∧ u < 10 ^ L ∧ (L = 1 ∨ 10 ^ (L - 1) ≤ u) ∧ Reads w3 v3 (l ++ 45 :: Plain.digs L u)) := by
    obtain ⟨L, h1, h2, h3, h4⟩ := Plain.dec_digs u
    refine ⟨L, h1, h2, h3, reads_of_own (base := w.heap.size) ?_⟩
    rw [h4] at ho3
    have e1 : bv (l ++ 45 :: Plain.digs L u) = bv l ++ [.int .u8 45] ++ bv (Plain.digs L u) := by simp [bv]
    have e2 : (l ++ 45 :: Plain.digs L u).length = l.length + 1 + (Plain.digs L u).length := by simp; omega
    rw [e1, e2]; exact ho3
  have HB3 : Hid (Below w.heap.size w w3) := hb3
  clear ho3 hb3
  go_wp2_with fail
  go_ret
  obtain ⟨L, h1, h2, h3, h4⟩ := R.out
  exact ⟨_, L, rfl, h1, h2, h3, h4, HB3.out⟩

theorem zfull (v : Value) (l : List UInt8) (n0 : Nat) (wd : Int) (w : World) (hv : Full w v l) (hl : l.length ≤ 16777216)
    (hn : n0 ≤ 9223372036854775807) (hw1 : -9223372036854775807 ≤ wd) (hw2 : wd ≤ 20) :
    Calls Tryd.prog 7 #[v, .int .i64 (n0 : Int), .int .i64 wd] w fun e w' => ∃ v' L, e = .returned v' ∧ Plain.Fit n0 wd L ∧ Reads w' v' (l ++ Plain.digs L n0) ∧ Below w.heap.size w w' := by
  have HV : Hid (Full w v l) := hv
  clear hv
  go_enter Tryd.func7, Tryd.ntmps7
  go_wp2_with fail
  refine (pad_full v l n0 wd _ HV.out hl hn hw1 hw2).mono ?_
  rintro e w' ⟨v', L, rfl, hf, ho, hb⟩
  have HF : Hid (Plain.Fit n0 wd L) := hf
  have HO2 : Hid (Reads w' v' (l ++ Plain.digs L n0)) := by
    refine reads_of_own (base := w.heap.size) ?_
    rw [List.length_append, Plain.digs_length]; exact ho
  have HB : Hid (Below w.heap.size w w') := hb
  clear hf ho hb
  go_wp2_with fail
  go_ret
  exact ⟨_, _, rfl, HF.out, HO2.out, HB.out⟩

end Go.Proofs.Qxb6630026aDoor
