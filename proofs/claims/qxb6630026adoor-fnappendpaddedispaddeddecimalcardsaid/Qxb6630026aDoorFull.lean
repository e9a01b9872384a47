import Derived.Test.Qxb6630026aDoorPad
import Derived.Test.Qxb6630026aDoorShelf
import Derived.ArgAppend
import Derived.Lib.ItoaMem
namespace Go.Proofs.Qxb6630026aDoor
open Go.RowKit

/-- The slice value v reads, in w, as the bytes l, and has no room behind them. -/
def Full (w : World) (v : Value) (l : List UInt8) : Prop :=
  (v = .slice none l.length l.length ∧ l.length = 0) ∨ ∃ g, v = .slice (some ⟨g, 0, none⟩) l.length l.length ∧ g < w.heap.size ∧ ∀ j u, (bv l)[j]? = some u → w.cell? ⟨g, j, none⟩ = some u

theorem Full.below {w w' : World} {v : Value} {l : List UInt8} (h : Full w v l) (hb : Below w.heap.size w w') : Full w' v l := by
  rcases h with h | ⟨g, rfl, hg, hc⟩
  · exact .inl h
  · exact .inr ⟨g, rfl, Nat.lt_of_lt_of_le hg hb.size, fun j u hu => (hb.cell (p := ⟨g, j, none⟩) hg).trans (hc j u hu)⟩

theorem Full.opened {w : World} {v : Value} {l : List UInt8} (h : Full w v l) :
    ∃ ao, v = .slice ao l.length l.length ∧ (ao = none → l.length = 0 ∧ l.length = 0) ∧ ∀ b, ao = some b → ∀ j u, (bv l)[j]? = some u → w.cell? (b.add j) = some u := by
  rcases h with ⟨rfl, h0⟩ | ⟨g, rfl, hg, hc⟩
  · exact ⟨none, rfl, fun _ => ⟨h0, h0⟩, fun b e => by cases e⟩
  · refine ⟨some ⟨g, 0, none⟩, rfl, (fun e => by cases e), fun b e j u hu => ?_⟩
    cases e
    rw [addr_add]; exact hc j u hu

theorem Full.reads {w : World} {v : Value} {l : List UInt8} (h : Full w v l) (hl : l.length ≤ 16777216) : Reads w v l := by
  rcases h with ⟨rfl, h0⟩ | ⟨g, rfl, hg, hc⟩
  · exact ⟨none, _, rfl, Nat.le_refl _, by unfold maxLen; omega, fun i hi => by omega⟩
  · refine ⟨_, _, rfl, Nat.le_refl _, by unfold maxLen; omega, fun i hi => ⟨g, 0, rfl, hg, ?_⟩⟩
    rw [Nat.zero_add]
    exact hc i _ (by simp [bv, hi])

set_option maxHeartbeats 1000000 in
theorem clone_full (v : Value) (l : List UInt8) (w : World) (hv : Reads w v l) (hl : l.length ≤ 16777216) :
    Calls Tryd.prog 6 #[v] w fun e w' => ∃ v', e = .returned v' ∧ Full w' v' l ∧ Below w.heap.size w w' := by
  obtain ⟨i0, hi0, hz0, hz1, hz2⟩ := info_parts Tryd.info5
  have hnil := fun (wx : World) (a : Option Addr) (n c : Nat) => Lib.run_eql_slice_nil (P := Tryd.prog) wx 22 5 a n c 0 0 Tryd.underlying22
  obtain ⟨a, c, rfl, hlc, hm, hc⟩ := hv
  have HC : Hid (∀ i (h : i < l.length), ∃ b off, a = some ⟨b, off, none⟩ ∧ b < w.heap.size ∧ w.cell? ⟨b, off + i, none⟩ = some (.int .u8 (l[i].toNat : Int))) := hc
  clear hc
  cases a with
  | none =>
    have : l = [] := by
      cases l with
      | nil => rfl
      | cons z r => obtain ⟨b, off, e, _⟩ := HC.out 0 (by simp); cases e
    subst this
    go_enter Tryd.func6, Tryd.ntmps6
    go_wp2
    go_ret
    exact ⟨_, rfl, .inl ⟨rfl, rfl⟩, Below.refl _ _⟩
  | some x =>
    obtain ⟨cs, hcs⟩ : ∃ cs, bv l = cs := ⟨_, rfl⟩
    have hcl : cs.length = l.length := by rw [← hcs]; exact bv_length l
    have HCS : Hid (bv l = cs) := hcs
    have HCL : Hid (cs.length = l.length) := hcl
    have H1 : Hid (∀ v ∈ cs, v.oneCell' = true) := by
      have := bv_one l; rw [hcs] at this; exact this
    have HS : Hid (∀ w2, Below w.heap.size w w2 → ∀ j v, cs[j]? = some v → w2.cell? (x.add j) = some v) := by
      intro w2 hb j v hj
      rw [← hcs] at hj
      simp only [bv, List.getElem?_map, Option.map_eq_some_iff] at hj
      obtain ⟨u, hu, rfl⟩ := hj
      obtain ⟨hlt, he⟩ := List.getElem?_eq_some_iff.1 hu
      obtain ⟨b, off, e, hbl, hcell⟩ := HC.out j hlt
      simp only [Option.some.injEq] at e
      subst e
      rw [Go.WideShapes.add_plain, hb.cell (p := ⟨b, off + j, none⟩) hbl, hcell, he]
    clear hcs hcl
    go_enter Tryd.func6, Tryd.ntmps6
    go_wp2_with (at_make; refine wpList_make_full _ rfl _ _ 22 rfl w.heap.size 5 i0 (.int .u8 0) 1 Tryd.underlying22 hi0 hz0 hz1 .i64 .i64 _ _ l.length rfl rfl rfl rfl (by rw [hz2]; omega) (by unfold maxLen; omega) (Nat.le_refl _) ?_; intro w0 hown0 hgrow0; refine Hid.out ?_)
    have hb0 : Below w.heap.size w w0 := (Below.refl _ _).grown hgrow0 (Nat.le_refl _) (by simp)
    obtain ⟨cur, hg, hcurl, _, _⟩ := own_block hown0
    have HG : Hid (w0.heap[w.heap.size]? = some (.cells cur.toArray 5 (0, 0))) := hg
    clear hown0 hgrow0 hg
    refine (show ∀ {p : Prop}, p → Hid p from fun h => h) ?_
    have tok1 : True := trivial
    go_wp2_with (have _t := tok1; refine wpList_copy_splice rfl (.tmp 9) (.tmp 10) 22 22 rfl 5 Tryd.underlying22 Tryd.size5 _ _ _ _ _ _ rfl rfl w.heap.size 0 cur 5 HG.out cs (by rw [HCL.out]; simp) (fun _ => ⟨rfl, _, rfl, HS.out _ hb0⟩) (by rw [HCL.out]; omega) H1.out w.heap.size w hb0 (Nat.le_refl _) ?_; intro w2 hg2 hb2; clear tok1)
    have HO : Hid (Full w2 (.slice (some ⟨w.heap.size, 0, none⟩) l.length l.length) l) := by
      have e : splice cur 0 cs = cs := by
        unfold splice
        rw [List.take_zero, List.nil_append, Nat.zero_add, List.drop_eq_nil_of_le (by rw [HCL.out]; omega), List.append_nil]
      have h2 := hg2.out
      rw [e, ← HCS.out] at h2
      refine .inr ⟨_, rfl, (Array.getElem?_eq_some_iff.1 h2).1, fun j u hu => ?_⟩
      rw [cell_of_row w2 _ j _ 5 (0, 0) h2]
      simpa using hu
    go_ret
    exact ⟨_, rfl, HO.out, hb2⟩

set_option maxRecDepth 100000 in
set_option maxHeartbeats 2000000 in
/-- appendPadded of a number that is not negative, onto a slice without room: what comes back lies in a new block. -/
theorem pad_full (v : Value) (l : List UInt8) (n0 : Nat) (wd : Int) (w : World) (hv : Full w v l) (hl : l.length ≤ 16777216)
    (hn : n0 ≤ 9223372036854775807) (hw1 : -9223372036854775807 ≤ wd) (hw2 : wd ≤ 20) :
    Calls Tryd.prog 12 #[v, .int .i64 (n0 : Int), .int .i64 wd] w fun e w' => ∃ v' L, e = .returned v' ∧ Plain.Fit n0 wd L ∧ w'.ownsRow w.heap.size 5 1 v' (l.length + L) (bv (l ++ Plain.digs L n0)) ∧ Below w.heap.size w w' := by
  obtain ⟨i0, hi0, hz0, hz1, hz2⟩ := info_parts Tryd.info5
  have HV : Hid (∀ o, ∃ ao, v = .slice ao l.length l.length ∧ (ao = none → l.length = 0 ∧ l.length = 0) ∧ ∀ b, ao = some b → ∀ j u, (bv l)[j]? = some u → (w.alloc o).cell? (b.add j) = some u) := fun o => (hv.below ((Below.refl _ _).alloc (Nat.le_refl _) o)).opened
  clear hv
  go_enter Tryd.func12, Tryd.ntmps12
  go_wp2_with fail
  go_loopw [1, 8] (fun nv iv wr => ∃ (j m : Nat) (C : Array Value), j < 20 ∧ iv = .int .i64 ((j : Int) + 1) ∧ nv = .int .i64 (m : Int) ∧ m = n0 / 10 ^ (19 - j) ∧ C.size = 20 ∧ C.toList.drop (j + 1) = bv (Plain.digs (19 - j) n0) ∧ wr = w.alloc (.cells C 33) ∧
      (j = 19 ∨ 10 ≤ n0 / 10 ^ (18 - j) ∨ (18 : Int) - (j : Int) < wd - 1)) (fun _ iv _ => (intOf iv).toNat)
  case atStart =>
    exact ⟨19, n0, _, by omega, rfl, rfl, by simp, rfl, rfl, rfl, .inl rfl⟩
  case round =>
    obtain ⟨j, m, C, hj, rfl, rfl, hm, hCs, hCd, rfl, hlast⟩ := hrel
    have hm0 : m ≤ n0 := by rw [hm]; exact Nat.div_le_self _ _
    have HM : Hid (m = n0 / 10 ^ (19 - j)) := hm
    have HD : Hid (C.toList.drop (j + 1) = bv (Plain.digs (19 - j) n0)) := hCd
    have HL : Hid (j = 19 ∨ 10 ≤ n0 / 10 ^ (18 - j) ∨ (18 : Int) - (j : Int) < wd - 1) := hlast
    have HS : Hid (C.size = 20) := hCs
    clear hm hCd hlast
    have hCj : C[j]? = some (C[j]'(by omega)) := Array.getElem?_eq_getElem _
    obtain ⟨u0, hu0⟩ : ∃ u0, C[j]? = some u0 := ⟨_, hCj⟩
    clear hCj hCs
    by_cases hgo : 10 ≤ m ∨ (19 : Int) - (j : Int) < wd - 1
    · have hj1 : 1 ≤ j := by
        rcases Nat.eq_zero_or_pos j with h | h
        · subst h
          have : m = 0 := by
            rw [HM.out]; exact Nat.div_eq_of_lt (by omega)
          omega
        · exact h
      by_cases h10 : 10 ≤ m
      · go_wp2_with fail
        go_roundw
        case rel =>
          obtain ⟨r1, r2, r3⟩ := pad_step HS.out hj HD.out HM.out
          refine ⟨j - 1, m / 10, _, by omega, by go_num, by go_num, ?_, r1, ?_, rfl, ?_⟩
          · rw [show 19 - (j - 1) = 20 - j by omega, r3]
          · rw [show 19 - (j - 1) = 20 - j by omega, show j - 1 + 1 = j by omega, r2]
          · refine .inr (.inl ?_)
            rw [show 18 - (j - 1) = 19 - j by omega, ← HM.out]; exact h10
        case measure => simp [intOf]
      · have f1 : decide ((10 : Int) ≤ (m : Int)) = false := by simp; omega
        have h2 : (20 : Int) - ((j : Int) + 1) < wd - 1 := by omega
        go_wp2_with fail
        go_roundw
        case rel =>
          obtain ⟨r1, r2, r3⟩ := pad_step HS.out hj HD.out HM.out
          refine ⟨j - 1, m / 10, _, by omega, by go_num, by go_num, ?_, r1, ?_, rfl, ?_⟩
          · rw [show 19 - (j - 1) = 20 - j by omega, r3]
          · rw [show 19 - (j - 1) = 20 - j by omega, show j - 1 + 1 = j by omega, r2]
          · exact .inr (.inr (by omega))
        case measure => simp [intOf]
    · have h10 : ¬ 10 ≤ m := fun h => hgo (.inl h)
      have f1 : decide ((10 : Int) ≤ (m : Int)) = false := by simp; omega
      have h2 : ¬ ((20 : Int) - ((j : Int) + 1) < wd - 1) := by omega
      have hsl := tail_run w.heap.size j hj
      have HFit : Hid (Plain.Fit n0 wd (20 - j)) := fit_of hj HM.out h10 (by omega) HL.out
      have HN : Hid (∀ k u, (bv (Plain.digs (20 - j) n0))[k]? = some u → (w.alloc (.cells (C.setIfInBounds j (.int .u8 (48 + (m : Int)))) 33)).cell? ((⟨w.heap.size, j, none⟩ : Addr).add k) = some u) := news_of HS.out hj HD.out HM.out h10
      obtain ⟨NB, hNB⟩ : ∃ NB, bv (Plain.digs (20 - j) n0) = NB := ⟨_, rfl⟩
      have hNl : NB.length = (20 - j) * 1 := by rw [← hNB, bv_length, Plain.digs_length]; omega
      have H1 : Hid (∀ u ∈ NB, u.oneCell' = true) := by have := bv_one (Plain.digs (20 - j) n0); rw [hNB] at this; exact this
      rw [hNB] at HN
      have HNB : Hid (bv (Plain.digs (20 - j) n0) = NB) := hNB
      have HNl : Hid (NB.length = (20 - j) * 1) := hNl
      clear hNB hNl
      obtain ⟨ao, rfl, hao, hcs⟩ := HV.out (.cells (C.setIfInBounds j (.int .u8 (48 + (m : Int)))) 33)
      have HA : Hid (ao = none → l.length = 0 ∧ l.length = 0) := hao
      have HB : Hid (∀ b, ao = some b → ∀ j_1 u, (bv l)[j_1]? = some u → (w.alloc (.cells (C.setIfInBounds j (.int .u8 (48 + (m : Int)))) 33)).cell? (b.add j_1) = some u) := hcs
      clear hao hcs HV
      go_wp2_with (at_builtin; refine wpList_append_grows _ rfl (.tmp 40) (.tmp 42) 22 rfl 5 i0 (.int .u8 0) 1 1 Tryd.underlying22 hi0 hz0 hz1 hz2 rfl (by omega) ao l.length l.length (bv l) rfl HA.out (by rw [bv_length]; omega) HB.out ⟨w.heap.size, j, none⟩ (20 - j) (20 - j) NB rfl HNl.out HN.out H1.out (by omega) (by unfold maxLen; omega) (by omega) ?_; intro v2 w2 hown2 hgrow2)
      have R : Hid (w2.ownsRow w.heap.size 5 1 v2 (l.length + (20 - j)) (bv (l ++ Plain.digs (20 - j) n0)) ∧ Below w.heap.size w w2) := by
        refine ⟨?_, ((Below.refl _ _).alloc (Nat.le_refl _) _).grown hgrow2 (by simp) (fun r hr => by cases hr)⟩
        rw [bv_append, HNB.out]
        refine ⟨hown2.1, ?_⟩
        rcases hown2.2 with h | ⟨g, cap, cur, e, hb, r⟩
        · exact .inl h
        · exact .inr ⟨g, cap, cur, e, by simp at hb; omega, r⟩
      go_ret
      exact ⟨_, rfl, _, HFit.out, R.out.1, R.out.2⟩

end Go.Proofs.Qxb6630026aDoor
