import Derived.Test.Qxb6630026aDoorRows
import Derived.Test.Qxb6630026aDoorPlain
import Derived.WalkKit
import Derived.WalkSpells
import Derived.ProofKit
import Derived.Deep.AppendLies
import Derived.Deep.QuietTactic
import Derived.BigQuiet
import Derived.Laws.CopyOwn
import Derived.Lib.SliceRun
namespace Go.Proofs.Qxb6630026aDoor
open Go.RowKit

theorem Tryd.info5 : (Tryd.prog.info? 5).map (fun i => (i.zero, i.size, i.bytes)) = some (some (.int .u8 0), 1, 1) := by kernel_rfl
theorem Tryd.size5 : (Tryd.prog.info? 5).map (·.size) = some 1 := by kernel_rfl

/-- A list of bytes, as cells. -/
def bv (l : List UInt8) : List Value := l.map fun c => .int .u8 (c.toNat : Int)
theorem bv_length (l : List UInt8) : (bv l).length = l.length := by simp [bv]
theorem bv_append (a b : List UInt8) : bv (a ++ b) = bv a ++ bv b := by simp [bv]
theorem bv_one (l : List UInt8) : ∀ v ∈ bv l, v.oneCell' = true := by
  intro v hv
  simp only [bv, List.mem_map] at hv
  obtain ⟨c, _, rfl⟩ := hv
  rfl

/-- The slice value v reads, in w, as the bytes l. -/
def Reads (w : World) (v : Value) (l : List UInt8) : Prop :=
  ∃ a c, v = .slice a l.length c ∧ l.length ≤ c ∧ c ≤ maxLen ∧ ∀ i (h : i < l.length), ∃ b off, a = some ⟨b, off, none⟩ ∧ b < w.heap.size ∧ w.cell? ⟨b, off + i, none⟩ = some (.int .u8 (l[i].toNat : Int))

theorem Reads.below {w w' : World} {v : Value} {l : List UInt8} (h : Reads w v l) (hb : Below w.heap.size w w') : Reads w' v l := by
  obtain ⟨a, c, rfl, hl, hm, hc⟩ := h
  refine ⟨a, c, rfl, hl, hm, fun i hi => ?_⟩
  obtain ⟨b, off, e, hlt, hcell⟩ := hc i hi
  exact ⟨b, off, e, Nat.lt_of_lt_of_le hlt hb.size, (hb.cell (p := ⟨b, off + i, none⟩) hlt).trans hcell⟩

theorem Reads.drewN {w : World} {v : Value} {l : List UInt8} (h : Reads w v l) (n : Nat) : Reads (w.drewN n) v l := by
  obtain ⟨a, c, rfl, hl, hm, hc⟩ := h
  refine ⟨a, c, rfl, hl, hm, fun i hi => ?_⟩
  obtain ⟨b, off, e, hlt, hcell⟩ := hc i hi
  exact ⟨b, off, e, by simpa using hlt, by simpa using hcell⟩

theorem addr_add (g i : Nat) : (⟨g, 0, none⟩ : Addr).add i = ⟨g, i, none⟩ := by unfold Addr.add; split <;> simp_all

theorem reads_of_own {w : World} {base : Nat} {v : Value} {l : List UInt8} (h : w.ownsRow base 5 1 v l.length (bv l)) : Reads w v l := by
  rcases h.2 with ⟨rfl, h0⟩ | ⟨g, cap, cur, rfl, hb, hg, hnc, hcm, rest⟩
  · exact ⟨none, 0, by rw [h0], by omega, by decide, fun i hi => by omega⟩
  · refine ⟨_, cap, rfl, hnc, hcm, fun i hi => ⟨g, 0, rfl, (Array.getElem?_eq_some_iff.1 hg).1, ?_⟩⟩
    have := h.cells (g := g) rfl i (.int .u8 (l[i].toNat : Int)) (by simp [bv, hi])
    rw [addr_add] at this
    rw [Nat.zero_add]; exact this

theorem ownsRow_below {w w' : World} {base : Nat} {e : TypeId} {size : Nat} {v : Value} {n : Nat} {xs : List Value} (h : w.ownsRow base e size v n xs) (hb : Below w.heap.size w w') : w'.ownsRow base e size v n xs := by
  refine ⟨h.1, ?_⟩
  rcases h.2 with hn | ⟨g, cap, cur, rfl, hbg, hgg, rest⟩
  · exact .inl hn
  · exact .inr ⟨g, cap, cur, rfl, hbg, (hb.block g (Array.getElem?_eq_some_iff.1 hgg).1).trans hgg, rest⟩

theorem drewN_below (w : World) (B n : Nat) : Below B w (w.drewN n) := ⟨rfl, rfl, rfl, Nat.le_refl _, fun _ _ => rfl⟩

theorem two_draws (w : World) (n m : Nat) : ∃ k, (w.drewN n).drewN m = w.drewN k := ⟨n + m, by simp [World.drewN, Nat.add_assoc]⟩
theorem three_draws (w : World) (n m r : Nat) : ∃ k, ((w.drewN n).drewN m).drewN r = w.drewN k := ⟨n + m + r, by simp [World.drewN, Nat.add_assoc]⟩

theorem bytes10_yes (a : Option Addr) (n c : Nat) (x y z : Int) (w : World) (h : n ≤ 1048576) :
    Calls Tryd.prog 10 #[.slice a n c, .int .i64 x, .int .i64 y, .int .i64 z] w fun e w' => e = .returned (.bool true) ∧ w' = w := by
  go_enter Tryd.func10, Tryd.ntmps10
  go_wp2
  go_ret
  exact ⟨rfl, rfl⟩
theorem bytes10_no (a : Option Addr) (n c : Nat) (x y z : Int) (w : World) (h : ¬ n ≤ 1048576) :
    Calls Tryd.prog 10 #[.slice a n c, .int .i64 x, .int .i64 y, .int .i64 z] w fun e w' => e = .returned (.bool false) ∧ w' = w := by
  go_enter Tryd.func10, Tryd.ntmps10
  go_wp2
  go_ret
  exact ⟨rfl, rfl⟩
theorem bytes5_yes (a : Option Addr) (n c : Nat) (x y : Int) (w : World) (h : n ≤ 1048576) :
    Calls Tryd.prog 5 #[.slice a n c, .int .i64 x, .int .i64 y] w fun e w' => e = .returned (.bool true) ∧ w' = w := by
  go_enter Tryd.func5, Tryd.ntmps5
  go_wp2
  go_ret
  exact ⟨rfl, rfl⟩
theorem bytes5_no (a : Option Addr) (n c : Nat) (x y : Int) (w : World) (h : ¬ n ≤ 1048576) :
    Calls Tryd.prog 5 #[.slice a n c, .int .i64 x, .int .i64 y] w fun e w' => e = .returned (.bool false) ∧ w' = w := by
  go_enter Tryd.func5, Tryd.ntmps5
  go_wp2
  go_ret
  exact ⟨rfl, rfl⟩

theorem own_block {w : World} {B g n : Nat} {xs : List Value} (h : w.ownsRow B 5 1 (.slice (some ⟨g, 0, none⟩) n n) n xs) : ∃ cur : List Value, w.heap[g]? = some (.cells cur.toArray 5 (0, 0)) ∧ cur.length = n ∧ B ≤ g ∧ n ≤ maxLen := by
  rcases h.2 with ⟨h', _⟩ | ⟨g', cap', cur, h', hb, hg, _, hcm, hcs, _⟩
  · simp at h'
  · simp only [Value.slice.injEq, Option.some.injEq, Addr.mk.injEq, and_true, true_and] at h'
    obtain ⟨rfl, rfl⟩ := h'
    exact ⟨cur.toList, by simpa using hg, by simp [hcs], hb, hcm⟩

theorem block_own {w : World} {B g n : Nat} {xs : List Value} (h : w.heap[g]? = some (.cells xs.toArray 5 (0, 0))) (hl : xs.length = n) (hB : B ≤ g) (hm : n ≤ maxLen) : w.ownsRow B 5 1 (.slice (some ⟨g, 0, none⟩) n n) n xs :=
  ⟨by omega, .inr ⟨g, n, xs.toArray, rfl, hB, h, Nat.le_refl _, hm, by simp [hl], by rw [Nat.mul_one, ← hl]; simp⟩⟩

set_option maxHeartbeats 1000000 in
theorem clone_any (v : Value) (l : List UInt8) (w : World) (hv : Reads w v l) (hl : l.length ≤ 16777216) :
    Calls Tryd.prog 6 #[v] w fun e w' => ∃ v', e = .returned v' ∧ w'.ownsRow w.heap.size 5 1 v' l.length (bv l) ∧ Below w.heap.size w w' := by
  obtain ⟨i0, hi0, hz0, hz1, hz2⟩ := info_parts Tryd.info5
  have hnil := fun (wx : World) (a : Option Addr) (n c : Nat) => Lib.run_eql_slice_nil (P := Tryd.prog) wx 22 5 a n c 0 0 Tryd.underlying22
  obtain ⟨a, c, rfl, hlc, hm, hc⟩ := hv
  have HC : Hid (∀ i (h : i < l.length), ∃ b off, a = some ⟨b, off, none⟩ ∧ b < w.heap.size ∧ w.cell? ⟨b, off + i, none⟩ = some (.int .u8 (l[i].toNat : Int))) := hc
  clear hc
  cases a with
  | none =>
    have : l = [] := by
      cases l with
      | nil => rfl
      | cons z r => obtain ⟨b, off, e, _⟩ := HC.out 0 (by simp); cases e
    subst this
    go_enter Tryd.func6, Tryd.ntmps6
    go_wp2
    go_ret
    exact ⟨_, rfl, World.ownsRow_nil _ _ _ _, Below.refl _ _⟩
  | some x =>
    obtain ⟨cs, hcs⟩ : ∃ cs, bv l = cs := ⟨_, rfl⟩
    have hcl : cs.length = l.length := by rw [← hcs]; exact bv_length l
    have HCS : Hid (bv l = cs) := hcs
    have HCL : Hid (cs.length = l.length) := hcl
    have H1 : Hid (∀ v ∈ cs, v.oneCell' = true) := by
      have := bv_one l; rw [hcs] at this; exact this
    have HS : Hid (∀ w2, Below w.heap.size w w2 → ∀ j v, cs[j]? = some v → w2.cell? (x.add j) = some v) := by
      intro w2 hb j v hj
      rw [← hcs] at hj
      simp only [bv, List.getElem?_map, Option.map_eq_some_iff] at hj
      obtain ⟨u, hu, rfl⟩ := hj
      obtain ⟨hlt, he⟩ := List.getElem?_eq_some_iff.1 hu
      obtain ⟨b, off, e, hbl, hcell⟩ := HC.out j hlt
      simp only [Option.some.injEq] at e
      subst e
      rw [Go.WideShapes.add_plain, hb.cell (p := ⟨b, off + j, none⟩) hbl, hcell, he]
    clear hcs hcl
    go_enter Tryd.func6, Tryd.ntmps6
    go_wp2_with (at_make; refine wpList_make_full _ rfl _ _ 22 rfl w.heap.size 5 i0 (.int .u8 0) 1 Tryd.underlying22 hi0 hz0 hz1 .i64 .i64 _ _ l.length rfl rfl rfl rfl (by rw [hz2]; omega) (by unfold maxLen; omega) (Nat.le_refl _) ?_; intro w0 hown0 hgrow0; refine Hid.out ?_)
    have hb0 : Below w.heap.size w w0 := (Below.refl _ _).grown hgrow0 (Nat.le_refl _) (by simp)
    obtain ⟨cur, hg, hcurl, _, _⟩ := own_block hown0
    have HG : Hid (w0.heap[w.heap.size]? = some (.cells cur.toArray 5 (0, 0))) := hg
    clear hown0 hgrow0 hg
    refine (show ∀ {p : Prop}, p → Hid p from fun h => h) ?_
    have tok1 : True := trivial
    go_wp2_with (have _t := tok1; refine wpList_copy_splice rfl (.tmp 9) (.tmp 10) 22 22 rfl 5 Tryd.underlying22 Tryd.size5 _ _ _ _ _ _ rfl rfl w.heap.size 0 cur 5 HG.out cs (by rw [HCL.out]; simp) (fun _ => ⟨rfl, _, rfl, HS.out _ hb0⟩) (by rw [HCL.out]; omega) H1.out w.heap.size w hb0 (Nat.le_refl _) ?_; intro w2 hg2 hb2; clear tok1)
    have HO : Hid (w2.ownsRow w.heap.size 5 1 (.slice (some ⟨w.heap.size, 0, none⟩) l.length l.length) l.length (bv l)) := by
      have e : splice cur 0 cs = cs := by
        unfold splice
        rw [List.take_zero, List.nil_append, Nat.zero_add, List.drop_eq_nil_of_le (by rw [HCL.out]; omega), List.append_nil]
      have h2 := hg2.out
      rw [e, ← HCS.out] at h2
      exact block_own h2 (bv_length l) (Nat.le_refl _) (by unfold maxLen; omega)
    go_ret
    exact ⟨_, rfl, HO.out, hb2⟩

theorem cmpL_step (x y : List UInt8) (k : Nat) (hx : k < x.length) (hy : k < y.length) :
    Plain.cmpL (x.drop k) (y.drop k) = if x[k].toNat < y[k].toNat then -1 else if y[k].toNat < x[k].toNat then 1 else Plain.cmpL (x.drop (k + 1)) (y.drop (k + 1)) := by
  rw [List.drop_eq_getElem_cons hx, List.drop_eq_getElem_cons hy]
  rfl

set_option maxHeartbeats 1000000 in
theorem slex_any (va vb : Value) (x y : List UInt8) (w : World) (hx : Reads w va x) (hy : Reads w vb y) (hl : x.length ≤ 1073741824) :
    Calls Tryd.prog 11 #[va, vb] w fun e w' => e = .returned (.int .i64 (Plain.slex x y)) ∧ ∃ n, w' = w.drewN n := by
  obtain ⟨a1, c1, rfl, _, _, hc1⟩ := hx
  obtain ⟨a2, c2, rfl, _, _, hc2⟩ := hy
  have HX : Hid _ := hc1
  have HY : Hid _ := hc2
  clear hc1 hc2
  by_cases h1 : x.length < y.length
  · have e : Plain.slex x y = -1 := by unfold Plain.slex; rw [if_pos h1]
    rw [e]
    clear e
    go_enter Tryd.func11, Tryd.ntmps11
    go_wp2
    go_ret
    exact ⟨rfl, 0, rfl⟩
  · by_cases h2 : y.length < x.length
    · have e : Plain.slex x y = 1 := by unfold Plain.slex; rw [if_neg h1, if_pos h2]
      rw [e]
      clear e
      go_enter Tryd.func11, Tryd.ntmps11
      go_wp2
      go_ret
      exact ⟨rfl, 0, rfl⟩
    · have e : Plain.slex x y = Plain.cmpL x y := by unfold Plain.slex; rw [if_neg h1, if_neg h2]
      rw [e]
      clear e
      have hxy : x.length = y.length := by omega
      have HXY : Hid (x.length = y.length) := hxy
      clear hxy
      obtain ⟨R, hR⟩ : ∃ R, Plain.cmpL x y = R := ⟨_, rfl⟩
      have HR : Hid (Plain.cmpL x y = R) := hR
      rw [hR]
      clear hR
      go_enter Tryd.func11, Tryd.ntmps11
      go_wp2_with fail
      go_loopw [5] (fun i wr => ∃ k n : Nat, k ≤ x.length ∧ i = .int .i64 k ∧ wr = w.drewN n ∧ Plain.cmpL (x.drop k) (y.drop k) = R) (fun i _ => x.length - (intOf i).toNat)
      case atStart => exact ⟨0, 0, Nat.zero_le _, rfl, rfl, HR.out⟩
      case round =>
        obtain ⟨k, n, hk, rfl, rfl, hcmp⟩ := hrel
        have HCM : Hid (Plain.cmpL (x.drop k) (y.drop k) = R) := hcmp
        clear hcmp HR
        by_cases hlt : k < x.length
        · have hlt2 : k < y.length := by have := HXY.out; omega
          obtain ⟨b1, o1, rfl, _, e1⟩ := HX.out k hlt
          obtain ⟨b2, o2, rfl, _, e2⟩ := HY.out k hlt2
          have hst := cmpL_step x y k hlt hlt2
          rw [HCM.out] at hst
          obtain ⟨p, hp⟩ : ∃ p, x[k] = p := ⟨_, rfl⟩
          obtain ⟨q, hq⟩ : ∃ q, y[k] = q := ⟨_, rfl⟩
          rw [hp] at e1 hst
          rw [hq] at e2 hst
          have HST : Hid _ := hst
          clear hp hq hst
          have i1 : (k : Int) < (x.length : Int) := by omega
          have i2 : (0 : Int) ≤ (k : Int) := by omega
          have i3 : (k : Int) < (y.length : Int) := by omega
          by_cases hpq : p.toNat < q.toNat
          · have HF : Hid (R = -1) := by
              have := HST.out; rw [if_pos hpq] at this; exact this
            have f1 : decide ((p.toNat : Int) < (q.toNat : Int)) = true := by simp; omega
            go_wp2_with fail
            go_quiet (fail)
            go_wp2_with fail
            go_ret
            exact ⟨by rw [HF.out]; rfl, two_draws _ _ _⟩
          · have f1 : decide ((p.toNat : Int) < (q.toNat : Int)) = false := by simp; omega
            by_cases hqp : q.toNat < p.toNat
            · have HF : Hid (R = 1) := by
                have := HST.out; rw [if_neg hpq, if_pos hqp] at this; exact this
              have f2 : decide ((q.toNat : Int) < (p.toNat : Int)) = true := by simp; omega
              go_wp2_with fail
              go_quiet (fail)
              go_wp2_with fail
              go_quiet (fail)
              go_wp2_with fail
              go_ret
              exact ⟨by rw [HF.out]; rfl, three_draws _ _ _ _⟩
            · have HF : Hid (Plain.cmpL (x.drop (k + 1)) (y.drop (k + 1)) = R) := by
                have := HST.out; rw [if_neg hpq, if_neg hqp] at this; exact this.symm
              have f2 : decide ((q.toNat : Int) < (p.toNat : Int)) = false := by simp; omega
              go_wp2_with fail
              go_quiet (fail)
              go_wp2_with fail
              go_quiet (fail)
              go_wp2_with fail
              go_roundw
              case rel => exact ⟨k + 1, _, by omega, by go_num, rfl, HF.out⟩
              case measure => simp [intOf]; omega
        · have HF : Hid (R = 0) := by
            have := HCM.out
            rw [List.drop_eq_nil_of_le (by omega)] at this
            exact this.symm
          go_wp2_with fail
          go_ret
          exact ⟨by rw [HF.out]; rfl, _, rfl⟩

end Go.Proofs.Qxb6630026aDoor
