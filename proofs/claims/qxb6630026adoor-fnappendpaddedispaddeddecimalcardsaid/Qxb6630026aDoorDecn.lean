import Derived.Test.Qxb6630026aDoorVal
namespace Go.Proofs.Qxb6630026aDoor
open Go.RowKit

theorem Reads.form {w : World} {v : Value} {l : List UInt8} (h : Reads w v l) {N : Nat} (hN : l.length = N) : ∃ a c, v = .slice a N c ∧ N ≤ c ∧ c ≤ maxLen ∧ Reads w (.slice a N c) l := by
  subst hN
  obtain ⟨a, c, rfl, h1, h2, h3⟩ := h
  exact ⟨a, c, rfl, h1, h2, a, c, rfl, h1, h2, h3⟩

theorem Reads.cell {w : World} {a : Option Addr} {N c : Nat} {l : List UInt8} (h : Reads w (.slice a N c) l) (i : Nat) (hi : i < l.length) : ∃ b off, a = some ⟨b, off, none⟩ ∧ w.cell? ⟨b, off + i, none⟩ = some (.int .u8 (l[i].toNat : Int)) := by
  obtain ⟨a', c', e, h1, h2, h3⟩ := h
  simp only [Value.slice.injEq] at e
  obtain ⟨rfl, _, _⟩ := e
  obtain ⟨b, off, e, _, hc⟩ := h3 i hi
  exact ⟨b, off, e, hc⟩

/-- What is cut off in front. -/
theorem tail_bytes {w : World} {a : Option Addr} {N cap S : Nat} {lo : Int} {p s : List UInt8} (hv : Reads w (.slice a N cap) (p ++ s)) (hS : s.length = S) (hlo : lo = (p.length : Int)) :
    ∃ a3 c3, (∀ wx, (Instr.slice 22 (.slice a N cap) (some (.int .i64 lo)) none none).run Tryd.prog wx = .ok (.slice a3 S c3) wx) ∧ Reads w (.slice a3 S c3) s := by
  subst hlo hS
  obtain ⟨a', c', e, h1, h2, h3⟩ := hv
  simp only [Value.slice.injEq] at e
  obtain ⟨rfl, rfl, rfl⟩ := e
  rw [List.length_append] at h1
  refine ⟨if cap = p.length then a else a.map (·.add (p.length * 1)), cap - p.length, fun wx => ?_, ?_⟩
  · have hsz : (sizeOf (Tryd.prog.elem 22)).run Tryd.prog wx = .ok 1 wx := by kernel_rfl
    rw [run_slice_l (P := Tryd.prog) wx 22 a (p ++ s).length cap Tryd.underlying22 .i64 (p.length : Int) (by omega) (by rw [List.length_append]; omega), hsz]
    simp [sliced]
  · refine ⟨_, _, rfl, by omega, by omega, fun i hi => ?_⟩
    rw [if_neg (by omega)]
    obtain ⟨b, off, rfl, hb, hc⟩ := h3 (p.length + i) (by rw [List.length_append]; omega)
    refine ⟨b, off + p.length, by simp [Go.WideShapes.add_plain], hb, ?_⟩
    rw [Nat.add_assoc, hc]
    simp

theorem top_digit {L m : Nat} (hL : 1 ≤ L) (h1 : 10 ^ (L - 1) ≤ m) (h2 : m < 10 ^ L) : 1 ≤ m / 10 ^ (L - 1) % 10 := by
  have hp : 0 < 10 ^ (L - 1) := Nat.pow_pos (by omega)
  have a1 : 1 ≤ m / 10 ^ (L - 1) := (Nat.le_div_iff_mul_le hp).2 (by omega)
  have a2 : m / 10 ^ (L - 1) < 10 := (Nat.div_lt_iff_lt_mul hp).2 (by rw [Nat.mul_comm, ← Nat.pow_succ, show (L - 1).succ = L by omega]; exact h2)
  omega

theorem len19 {L u : Nat} (h : 10 ^ (L - 1) ≤ u) (hu : u ≤ 9223372036854775808) : L ≤ 20 := by
  rcases Nat.lt_or_ge L 21 with h' | h'
  · omega
  · have := Plain.pow_mono (show 19 ≤ L - 1 by omega)
    omega

theorem zneg' (v : Value) (l : List UInt8) (n : Int) (u : Nat) (wd : Int) (w : World) (hn : n = -(u : Int)) (hv : Full w v l) (hl : l.length ≤ 16777216) (hu1 : 1 ≤ u) (hu2 : u ≤ 9223372036854775808) (htab : PowTab w) :
    Calls Tryd.prog 7 #[v, .int .i64 n, .int .i64 wd] w fun e w' => ∃ v' L, e = .returned v' ∧ 1 ≤ L ∧ u < 10 ^ L ∧ (L = 1 ∨ 10 ^ (L - 1) ≤ u) ∧ Reads w' v' (l ++ 45 :: Plain.digs L u) ∧ Below w.heap.size w w' := by
  rw [hn]; exact zneg v l u wd w hv hl hu1 hu2 htab

theorem magnitude' (n : Int) (u : Nat) (w : World) (hn : n = -(u : Int)) (hu1 : 1 ≤ u) (hu2 : u ≤ 9223372036854775808) :
    Calls Tryd.prog 9 #[.int .i64 n] w fun e w' => e = .returned (.int .u64 (u : Int)) ∧ w' = w := by
  rw [hn]; exact magnitude u w hu1 hu2

set_option maxRecDepth 100000 in
set_option maxHeartbeats 4000000 in
theorem dec_neg (v : Value) (l : List UInt8) (n : Int) (u : Nat) (wd : Int) (w : World) (hv : Reads w v l) (hlen : l.length ≤ 1048576) (hn : n = -(u : Int)) (hu1 : 1 ≤ u) (hu2 : u ≤ 9223372036854775808) (htab : PowTab w) :
    Calls Tryd.prog 3 #[v, .int .i64 n, .int .i64 wd] w fun e w' => e = .returned (.bool true) ∧ Below w.heap.size w w' := by
    have HV : Hid (Reads w v l) := hv
    have HT : Hid (PowTab w) := htab
    have HN : Hid (n = -(u : Int)) := hn
    obtain ⟨a, c, rfl, hlc, hm, -⟩ := hv
    have hneg : n < 0 := by omega
    have fn : decide (0 ≤ n) = false := by simp; omega
    clear hlc hm hn htab

    go_enter Tryd.func3, Tryd.ntmps3
    go_wp2_with fail
    refine (bytes5_yes _ _ _ _ _ _ hlen).mono ?_
    rintro e w ⟨rfl, rfl⟩
    go_wp2_with fail
    refine (clone_full _ l _ HV.out (by omega)).mono ?_
    rintro e u1 ⟨v1, rfl, hf1, hb1⟩
    have F1 : Hid (Full u1 v1 l) := hf1
    clear hf1
    go_wp2_with fail
    refine (clone_any _ l _ (F1.out.reads (by omega)) (by omega)).mono ?_
    rintro e u2 ⟨v2, rfl, ho2, hb2⟩
    have R2 : Hid (Reads u2 v2 l) := reads_of_own ho2
    have F2 : Hid (Full u2 v1 l) := F1.out.below hb2
    have HB2 : Hid (Below w.heap.size w u2) := hb1.trans (hb2.mono hb1.size)
    clear ho2 hb1 hb2 F1 HV
    go_wp2_with fail
    refine (zneg' v1 l n u wd u2 HN.out F2.out (by omega) hu1 hu2 (Lib.tabBelow_of_tabIs HT.out u2 HB2.out)).mono ?_
    rintro e u3 ⟨v3, L, rfl, hL1, hL2, hL3, hr3, hb3⟩
    have HX : Hid (u < 10 ^ L ∧ 10 ^ (L - 1) ≤ u) := ⟨hL2, hL3.elim (fun e => by subst e; simpa using hu1) id⟩
    have hL20 : L ≤ 20 := len19 HX.out.2 hu2
    clear hL2 hL3
    obtain ⟨s, hs⟩ : ∃ s, 45 :: Plain.digs L u = s := ⟨_, rfl⟩
    rw [hs] at hr3
    have HE : Hid (s = 45 :: Plain.digs L u) := hs.symm
    clear hs
    obtain ⟨S, hS'⟩ : ∃ S, s.length = S := ⟨_, rfl⟩
    have hS : Hid (s.length = S) := hS'
    have hSL : S ≤ 21 := by rw [← hS', HE.out]; simp [Plain.digs_length]; omega
    clear hS'
    obtain ⟨P, hP⟩ : ∃ P, l.length = P := ⟨_, rfl⟩
    obtain ⟨a2, c2, rfl, hc21, hc22, hr2⟩ := (R2.out.below hb3).form hP
    obtain ⟨a3, c3, rfl, hc31, hc32, hr3⟩ := hr3.form (N := P + S) (by rw [List.length_append, hP, hS.out])
    obtain ⟨a4, c4, hsl, hr4⟩ := tail_bytes (lo := (P : Int)) hr3 hS.out (by rw [hP])
    have HS4 : Hid (∀ wx, (Instr.slice 22 (.slice a3 (P + S) c3) (some (.int .i64 (P : Int))) none none).run Tryd.prog wx = .ok (.slice a4 S c4) wx) := hsl
    have RR2 : Hid (∀ i, i < P → ∃ x : UInt8, (∃ b off, a2 = some ⟨b, off, none⟩ ∧ u3.cell? ⟨b, off + i, none⟩ = some (.int .u8 (x.toNat : Int))) ∧ ∃ b off, a3 = some ⟨b, off, none⟩ ∧ u3.cell? ⟨b, off + i, none⟩ = some (.int .u8 (x.toNat : Int))) := by
      intro i hi
      refine ⟨l[i]'(by omega), hr2.cell i (by omega), ?_⟩
      have := hr3.cell i (by rw [List.length_append]; omega)
      rw [List.getElem_append_left (by omega)] at this
      exact this
    have R4 : Hid (Reads u3 (.slice a4 S c4) s) := hr4
    have HB3 : Hid (Below w.heap.size w u3) := HB2.out.trans (hb3.mono HB2.out.size)
    have hPl : P ≤ 1048576 := by omega
    clear hr2 hr3 hr4 hsl hb3 R2 F2 HB2
    clear hlen hP
    go_wp2_with fail
    go_loopw [9] (fun i wr => ∃ k q : Nat, k ≤ P ∧ i = .int .i64 k ∧ wr = u3.drewN q) (fun i _ => P - (intOf i).toNat)
    case atStart => exact ⟨0, 0, Nat.zero_le _, rfl, rfl⟩
    case round =>
      obtain ⟨k, q, hk, rfl, rfl⟩ := hrel
      by_cases hlt : k < P
      · obtain ⟨x, ⟨b2, o2, rfl, e2⟩, b3, o3, rfl, e3⟩ := RR2.out k hlt
        have i1 : (k : Int) < (P : Int) := by omega
        have i2 : (0 : Int) ≤ (k : Int) := by omega
        have i3 : (k : Int) < (P : Int) + (S : Int) := by omega
        go_wp2_with fail
        go_quiet (fail)
        go_wp2_with fail
        go_roundw
        case rel => exact ⟨k + 1, _, by omega, by go_num, rfl⟩
        case measure => simp [intOf]; omega
      · have hkP : k = P := by omega
        subst hkP
        have R4d : Hid (Reads (u3.drewN q) (.slice a4 S c4) s) := R4.out.drewN q
        have HBd : Hid (Below w.heap.size w (u3.drewN q)) := HB3.out.trans (drewN_below _ _ _)
        have hsl := HS4.out
        clear R4 HB3 RR2

        have ES : Hid (s = [45] ++ Plain.digs L u) := HE.out
        have hS2 : 2 ≤ S := by rw [← hS.out, HE.out]; simp [Plain.digs_length]; omega
        have R4e := R4d.out
        rw [ES.out] at R4e
        obtain ⟨b4, o4, rfl, e4⟩ := R4e.cell 0 (by simp)
        obtain ⟨b5, o5, h5, e5⟩ := R4e.cell 1 (by simp [Plain.digs_length]; omega)
        simp only [Option.some.injEq, Addr.mk.injEq, and_true] at h5
        obtain ⟨rfl, rfl⟩ := h5
        obtain ⟨d, hd⟩ : ∃ d, u / 10 ^ (L - 1) % 10 = d := ⟨_, rfl⟩
        have hd1 : 1 ≤ d := by rw [← hd]; exact top_digit hL1 HX.out.2 HX.out.1
        have e6 : u3.cell? ⟨b4, o4 + 1, none⟩ = some (.int .u8 (48 + (d : Int))) := by
          have := e5
          simp [Plain.digs_get_toNat, hd] at this
          exact this
        have e7 : u3.cell? ⟨b4, o4, none⟩ = some (.int .u8 45) := by
          have := e4
          simp at this
          exact this
        obtain ⟨a9, c9, hsl2, R9⟩ := tail_bytes (lo := 1) (S := L) (p := [45]) (s := Plain.digs L u) (by rw [← ES.out]; exact R4d.out) (Plain.digs_length _ _) rfl
        have R9h : Hid (Reads (u3.drewN q) (.slice a9 L c9) (Plain.digs L u)) := R9
        clear R4e e4 e5 hd R9 R4d
        have f48 : ((48 + (d : Int)) == 48) = false := by simp; omega
        have f2 : decide ((S : Int) < 2) = false := by simp; omega
        go_wp2_with fail
        refine (value_any _ L u _ R9h.out hL1 hL20 HX.out.1 hu2).mono ?_
        rintro e w8 ⟨rfl, rfl⟩
        go_wp2_with fail
        refine (magnitude' n u _ HN.out hu1 hu2).mono ?_
        rintro e w9 ⟨rfl, rfl⟩
        go_wp2_with fail
        go_ret
        exact ⟨rfl, HBd.out⟩


end Go.Proofs.Qxb6630026aDoor
