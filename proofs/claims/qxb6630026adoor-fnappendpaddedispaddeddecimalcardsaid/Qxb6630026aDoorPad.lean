import Derived.Test.Qxb6630026aDoorBase
namespace Go.Proofs.Qxb6630026aDoor
open Go.RowKit

theorem set_drop (L : List Value) (j : Nat) (u : Value) (h : j < L.length) : (L.set j u).drop j = u :: L.drop (j + 1) := by
  rw [List.drop_eq_getElem_cons (by simpa using h), List.drop_set]
  simp

theorem tail_run (B j : Nat) (hj : j < 20) (wx : World) : (Instr.sliceAt 33 (.pointer (some ⟨B, 0, none⟩)) (some (.int .i64 (j : Int))) none none).run Tryd.prog wx = .ok (.slice (some ⟨B, j, none⟩) (20 - j) (20 - j)) wx := by
  have ha : Tryd.prog.arrayLen 33 = 20 := by kernel_rfl
  have hs : (sizeOf (Tryd.prog.elem 33)).run Tryd.prog wx = .ok 1 wx := by kernel_rfl
  rw [run_sliceAt_array_l (P := Tryd.prog) wx 33 ⟨B, 0, none⟩ Tryd.underlying33 .i64 (j : Int) (by omega) (by rw [ha]; omega), hs, ha]
  simp only [Result.andThen_ok, slicedAt, Int.toNat_natCast, Nat.mul_one]
  rw [if_neg (by omega), Go.WideShapes.add_plain, Nat.zero_add]

/-- One digit more. -/
theorem pad_step {C : Array Value} {n0 j m : Nat} (hs : C.size = 20) (hj : j < 20) (hd : C.toList.drop (j + 1) = bv (Plain.digs (19 - j) n0)) (hm : m = n0 / 10 ^ (19 - j)) :
    (C.setIfInBounds j (.int .u8 (48 + (m : Int) % 10))).size = 20 ∧ (C.setIfInBounds j (.int .u8 (48 + (m : Int) % 10))).toList.drop j = bv (Plain.digs (20 - j) n0) ∧ m / 10 = n0 / 10 ^ (20 - j) := by
  refine ⟨by simpa using hs, ?_, ?_⟩
  · rw [Array.toList_setIfInBounds, set_drop _ _ _ (by simpa using (by omega : j < C.size)), hd]
    have e : 20 - j = (19 - j) + 1 := by omega
    rw [e]
    simp only [Plain.digs, bv, List.map_cons]
    rw [Plain.dig_toNat, ← hm]
    simp
  · have e : 20 - j = (19 - j) + 1 := by omega
    rw [e, Nat.pow_succ, ← Nat.div_div_eq_div_mul, ← hm]

theorem fit_of {n0 j m : Nat} {wd : Int} (hj : j < 20) (hm : m = n0 / 10 ^ (19 - j)) (h10 : ¬ 10 ≤ m) (h2 : ¬ ((19 : Int) - (j : Int) < wd - 1))
    (hl : j = 19 ∨ 10 ≤ n0 / 10 ^ (18 - j) ∨ (18 : Int) - (j : Int) < wd - 1) : Plain.Fit n0 wd (20 - j) := by
  have hp : 0 < 10 ^ (19 - j) := Nat.pow_pos (by omega)
  refine ⟨by omega, by omega, by omega, ?_, ?_⟩
  · rw [show 20 - j = (19 - j) + 1 by omega, Nat.pow_succ, Nat.mul_comm]
    have : n0 / 10 ^ (19 - j) < 10 := by omega
    exact (Nat.div_lt_iff_lt_mul hp).1 this
  · by_cases h19 : j = 19
    · exact .inl (by omega)
    · rcases hl with h | h | h
      · exact absurd h h19
      · refine .inr (.inl ?_)
        rw [show 20 - j - 1 = (18 - j) + 1 by omega, Nat.pow_succ, Nat.mul_comm]
        exact (Nat.le_div_iff_mul_le (Nat.pow_pos (by omega))).1 h
      · exact .inr (.inr (by omega))

theorem news_of {w : World} {C : Array Value} {n0 j m : Nat} (hs : C.size = 20) (hj : j < 20) (hd : C.toList.drop (j + 1) = bv (Plain.digs (19 - j) n0)) (hm : m = n0 / 10 ^ (19 - j)) (h10 : ¬ 10 ≤ m) :
    ∀ k u, (bv (Plain.digs (20 - j) n0))[k]? = some u → (w.alloc (.cells (C.setIfInBounds j (.int .u8 (48 + (m : Int)))) 33)).cell? ((⟨w.heap.size, j, none⟩ : Addr).add k) = some u := by
  intro k u hu
  have e : (m : Int) % 10 = (m : Int) := by omega
  obtain ⟨_, h2, _⟩ := pad_step hs hj hd hm
  rw [e] at h2
  rw [Go.WideShapes.add_plain, World.cell?_alloc_at (w := w) _ _ _ _ rfl, ← Array.getElem?_toList, ← List.getElem?_drop, h2]
  exact hu

set_option maxRecDepth 100000 in
set_option maxHeartbeats 2000000 in
theorem pad_any (v : Value) (l : List UInt8) (base n0 : Nat) (wd : Int) (w : World) (hown : w.ownsRow base 5 1 v l.length (bv l)) (hbase : base ≤ w.heap.size) (hl : l.length ≤ 16777216)
    (hn : n0 ≤ 9223372036854775807) (hw1 : -9223372036854775807 ≤ wd) (hw2 : wd ≤ 20) :
    Calls Tryd.prog 12 #[v, .int .i64 (n0 : Int), .int .i64 wd] w fun e w' => ∃ v' L, e = .returned v' ∧ Plain.Fit n0 wd L ∧ w'.ownsRow base 5 1 v' (l.length + L) (bv (l ++ Plain.digs L n0)) ∧ Below base w w' := by
  obtain ⟨i0, hi0, hz0, hz1, hz2⟩ := info_parts Tryd.info5
  have HO : Hid (w.ownsRow base 5 1 v l.length (bv l)) := hown
  clear hown
  go_enter Tryd.func12, Tryd.ntmps12
  go_wp2_with fail
  go_loopw [1, 8] (fun nv iv wr => ∃ (j m : Nat) (C : Array Value), j < 20 ∧ iv = .int .i64 ((j : Int) + 1) ∧ nv = .int .i64 (m : Int) ∧ m = n0 / 10 ^ (19 - j) ∧ C.size = 20 ∧ C.toList.drop (j + 1) = bv (Plain.digs (19 - j) n0) ∧ wr = w.alloc (.cells C 33) ∧
      (j = 19 ∨ 10 ≤ n0 / 10 ^ (18 - j) ∨ (18 : Int) - (j : Int) < wd - 1)) (fun _ iv _ => (intOf iv).toNat)
  case atStart =>
    exact ⟨19, n0, _, by omega, rfl, rfl, by simp, rfl, rfl, rfl, .inl rfl⟩
  case round =>
    obtain ⟨j, m, C, hj, rfl, rfl, hm, hCs, hCd, rfl, hlast⟩ := hrel
    have hm0 : m ≤ n0 := by rw [hm]; exact Nat.div_le_self _ _
    have HM : Hid (m = n0 / 10 ^ (19 - j)) := hm
    have HD : Hid (C.toList.drop (j + 1) = bv (Plain.digs (19 - j) n0)) := hCd
    have HL : Hid (j = 19 ∨ 10 ≤ n0 / 10 ^ (18 - j) ∨ (18 : Int) - (j : Int) < wd - 1) := hlast
    have HS : Hid (C.size = 20) := hCs
    clear hm hCd hlast
    have hCj : C[j]? = some (C[j]'(by omega)) := Array.getElem?_eq_getElem _
    obtain ⟨u0, hu0⟩ : ∃ u0, C[j]? = some u0 := ⟨_, hCj⟩
    clear hCj hCs
    by_cases hgo : 10 ≤ m ∨ (19 : Int) - (j : Int) < wd - 1
    · have hj1 : 1 ≤ j := by
        rcases Nat.eq_zero_or_pos j with h | h
        · subst h
          have : m = 0 := by
            rw [HM.out]; exact Nat.div_eq_of_lt (by omega)
          omega
        · exact h
      by_cases h10 : 10 ≤ m
      · go_wp2_with fail
        go_roundw
        case rel =>
          obtain ⟨r1, r2, r3⟩ := pad_step HS.out hj HD.out HM.out
          refine ⟨j - 1, m / 10, _, by omega, by go_num, by go_num, ?_, r1, ?_, rfl, ?_⟩
          · rw [show 19 - (j - 1) = 20 - j by omega, r3]
          · rw [show 19 - (j - 1) = 20 - j by omega, show j - 1 + 1 = j by omega, r2]
          · refine .inr (.inl ?_)
            rw [show 18 - (j - 1) = 19 - j by omega, ← HM.out]; exact h10
        case measure => simp [intOf]
      · have f1 : decide ((10 : Int) ≤ (m : Int)) = false := by simp; omega
        have h2 : (20 : Int) - ((j : Int) + 1) < wd - 1 := by omega
        go_wp2_with fail
        go_roundw
        case rel =>
          obtain ⟨r1, r2, r3⟩ := pad_step HS.out hj HD.out HM.out
          refine ⟨j - 1, m / 10, _, by omega, by go_num, by go_num, ?_, r1, ?_, rfl, ?_⟩
          · rw [show 19 - (j - 1) = 20 - j by omega, r3]
          · rw [show 19 - (j - 1) = 20 - j by omega, show j - 1 + 1 = j by omega, r2]
          · exact .inr (.inr (by omega))
        case measure => simp [intOf]
    · have h10 : ¬ 10 ≤ m := fun h => hgo (.inl h)
      have f1 : decide ((10 : Int) ≤ (m : Int)) = false := by simp; omega
      have h2 : ¬ ((20 : Int) - ((j : Int) + 1) < wd - 1) := by omega
      have hsl := tail_run w.heap.size j hj
      have HFit : Hid (Plain.Fit n0 wd (20 - j)) := fit_of hj HM.out h10 (by omega) HL.out
      have HN : Hid (∀ k u, (bv (Plain.digs (20 - j) n0))[k]? = some u → (w.alloc (.cells (C.setIfInBounds j (.int .u8 (48 + (m : Int)))) 33)).cell? ((⟨w.heap.size, j, none⟩ : Addr).add k) = some u) := news_of HS.out hj HD.out HM.out h10
      obtain ⟨NB, hNB⟩ : ∃ NB, bv (Plain.digs (20 - j) n0) = NB := ⟨_, rfl⟩
      have hNl : NB.length = (20 - j) * 1 := by rw [← hNB, bv_length, Plain.digs_length]; omega
      have H1 : Hid (∀ u ∈ NB, u.oneCell' = true) := by have := bv_one (Plain.digs (20 - j) n0); rw [hNB] at this; exact this
      rw [hNB] at HN
      have HNB : Hid (bv (Plain.digs (20 - j) n0) = NB) := hNB
      have HNl : Hid (NB.length = (20 - j) * 1) := hNl
      clear hNB hNl
      go_wp2_with (at_builtin; refine wpList_append_lies _ rfl (.tmp 40) (.tmp 42) 22 rfl base 5 i0 (.int .u8 0) 1 1 Tryd.underlying22 hi0 hz0 hz1 hz2 rfl (by omega) v l.length (bv l) rfl (HO.out.alloc _) ⟨w.heap.size, j, none⟩ (20 - j) (20 - j) NB rfl HNl.out HN.out H1.out (by omega) (by unfold maxLen; omega) (by omega) (by simp; omega) (w.heap.size + 1) (by simp) ?_; intro g2 cap2 w2 hown2 hgrow2 hat2 hlt2)
      have R : Hid (w2.ownsRow base 5 1 (.slice (some ⟨g2, 0, none⟩) (l.length + (20 - j)) cap2) (l.length + (20 - j)) (bv (l ++ Plain.digs (20 - j) n0)) ∧ Below base w w2) := by
        refine ⟨?_, ((Below.refl _ _).alloc hbase _).grown hgrow2 (by simp; omega) (fun r hr => (HO.out.lt r hr).1)⟩
        rw [bv_append, HNB.out]; exact hown2
      go_ret
      exact ⟨_, rfl, _, HFit.out, R.out.1, R.out.2⟩

theorem zpad_any (v : Value) (l : List UInt8) (base n0 : Nat) (wd : Int) (w : World) (hown : w.ownsRow base 5 1 v l.length (bv l)) (hbase : base ≤ w.heap.size) (hl : l.length ≤ 16777216)
    (hn : n0 ≤ 9223372036854775807) (hw1 : -9223372036854775807 ≤ wd) (hw2 : wd ≤ 20) :
    Calls Tryd.prog 7 #[v, .int .i64 (n0 : Int), .int .i64 wd] w fun e w' => ∃ v' L, e = .returned v' ∧ Plain.Fit n0 wd L ∧ w'.ownsRow base 5 1 v' (l.length + L) (bv (l ++ Plain.digs L n0)) ∧ Below base w w' := by
  have HO : Hid (w.ownsRow base 5 1 v l.length (bv l)) := hown
  clear hown
  go_enter Tryd.func7, Tryd.ntmps7
  go_wp2_with fail
  refine (pad_any v l base n0 wd _ HO.out hbase hl hn hw1 hw2).mono ?_
  rintro e w' ⟨v', L, rfl, hf, ho, hb⟩
  have HF : Hid (Plain.Fit n0 wd L) := hf
  have HO2 : Hid (w'.ownsRow base 5 1 v' (l.length + L) (bv (l ++ Plain.digs L n0))) := ho
  clear hf ho
  go_wp2_with fail
  go_ret
  exact ⟨_, _, rfl, HF.out, HO2.out, hb⟩

end Go.Proofs.Qxb6630026aDoor
