/-
  THE PROOF OF 'Rows.FnAppendPatternKeepsStateAndLengthSaid': the frame by the guide's skeleton, the walk out of the callees' contracts (Qxb6628940aApp, Qxb6628940aCalls, Qxb6628940aCalls2).
-/
import Derived.Test.Qxb6628940aRows
import Derived.WalkKit
import Derived.ProofKit
import Derived.OpenShut
import Derived.ShutString
import Derived.ChangeOld
import Derived.Below
import Derived.Test.Qxb6628940aCalls2
namespace Go.Proofs.Qxb6628940a.fnAppendPatternKeepsStateAndLength
open Go.ChangeShapes Go.WideShapes Go.ChangeAt Go.RowKit
open Go.ChangeMaps (open_string shut_string)
set_option linter.unusedVariables false

theorem own : ownKnob Try.prog.godebug = none := by kernel_rfl
theorem laidOut : laidOutB Try.prog = true := by kernel_rfl

/-- WHAT THE WALK IS TOLD OF A SLICE OF INTEGERS THAT CAME IN: it is nil; or it leads to a row of 'cap' cells, the numbers 'zs' (the first 'len' are its elements, the rest its spare room), each fitting its kind. -/
def IsRow (k : IntKind) (w : World) (a : Option Addr) (len cap : Nat) (zs : List Int) : Prop :=
  (a = none ∧ len = 0 ∧ cap = 0 ∧ zs = []) ∨
  ∃ x, a = some x ∧ len ≤ cap ∧ cap ≤ maxLen ∧ zs.length = cap ∧ (∀ i, i < zs.length → w.cell? (x.add i) = some (.int k (zs.getD i 0))) ∧ ∀ n ∈ zs, (Lit.int k n).wf = true

/-! ### THE WALK -/
theorem reads_in {w : World} {a : Option Addr} {len cap : Nat} {zs : List Int} (h : IsRow .u8 w a len cap zs) :
    ∃ l : List UInt8, l.length = len ∧ Reads w (.slice a len cap) l ∧ len ≤ maxLen := by
  rcases h with ⟨rfl, rfl, rfl, rfl⟩ | ⟨x, rfl, hl, hm, hz, hc, hw⟩
  · exact ⟨[], rfl, .inl ⟨rfl, _, _, rfl⟩, by decide⟩
  · by_cases h0 : len = 0
    · subst h0
      exact ⟨[], rfl, .inl ⟨rfl, _, _, rfl⟩, by decide⟩
    · obtain ⟨b, off, rfl, hc'⟩ := ints_at hc (by omega)
      refine ⟨(zs.take len).map (fun z => UInt8.ofNat z.toNat), by simp; omega, .inr ⟨b, off, cap, by simp; omega, ?_, ?_⟩, by omega⟩
      · exact World.block_lt_of_cell? w _ (hc' 0 (by omega))
      · intro i hi
        simp only [List.length_map, List.length_take] at hi
        rw [hc' i (by omega)]
        have hb := bounds_u8 (hw zs[i] (List.getElem_mem (by omega)))
        have e1 : zs.getD i 0 = zs[i] := by simp [List.getD, List.getElem?_eq_getElem (show i < zs.length by omega)]
        rw [e1]
        simp only [List.getElem_map, List.getElem_take]
        have : ((UInt8.ofNat zs[i].toNat).toNat : Int) = zs[i] := by
          rw [UInt8.toNat_ofNat']; omega
        rw [this]

theorem keep_reads {w w' : World} {v : Value} {l : List UInt8} (h : Reads w v l) (hb : Below w.heap.size w w') : Reads w' v l := by
  rcases h with h | ⟨b, off, cap, rfl, hbl, hc⟩
  · exact .inl h
  · exact .inr ⟨b, off, cap, rfl, Nat.lt_of_lt_of_le hbl hb.size, fun i hi => (hb.cell (p := ⟨b, off + i, none⟩) hbl).trans (hc i hi)⟩

theorem shape_reads {w : World} {v : Value} {l : List UInt8} (h : Reads w v l) :
    ∃ a c, v = .slice a l.length c ∧ ∀ i (hi : i < l.length), ∃ b off, a = some ⟨b, off, none⟩ ∧ w.cell? ⟨b, off + i, none⟩ = some (.int .u8 (l[i].toNat : Int)) := by
  rcases h with ⟨rfl, a, c, rfl⟩ | ⟨b, off, cap, rfl, hbl, hc⟩
  · exact ⟨a, c, rfl, fun i hi => absurd hi (by simp)⟩
  · exact ⟨_, cap, rfl, fun i hi => ⟨b, off, rfl, hc i hi⟩⟩

theorem Pat.one {w : World} {base : Nat} {v : Value} {l : List UInt8} (h : w.ownsRow base 5 1 v l.length (bv l)) (hb : base ≤ w.heap.size) : Pat (w.alloc (.cells #[v] 26)) base w.heap.size l :=
  ⟨v, ⟨by simp, h.alloc _, fun e => by have := (h.lt _ e).2; omega, by simp, hb⟩⟩

set_option maxHeartbeats 2000000 in
theorem walk (a0 : Option Addr) (len0 cap0 : Nat) (z0 : List Int) (a1 : ByteArray) (w : World) (w0 : IsRow .u8 w a0 len0 cap0 z0) (w1 : a1.size ≤ maxLen) :
    Calls Try.prog 4 #[.slice a0 len0 cap0, .string a1] w fun e w' => e = .returned (.bool true) ∧ Below w.heap.size w w' := by
  obtain ⟨l, hll, hr0, hlen⟩ := reads_in w0
  have HR0 : Hid (Reads w (.slice a0 len0 cap0) l) := hr0
  have HLL : Hid (l.length = len0) := hll
  clear w0 hr0 hll
  by_cases hsum : len0 + a1.size ≤ 1048576
  · clear w1 hlen
    go_enter Try.func4, Try.ntmps4
    go_wp2_with fail
    refine (bytes10_yes _ _ _ _ _ hsum).mono ?_
    rintro e w' ⟨rfl, rfl⟩
    go_wp2_with fail
    refine (reach_any _ l _ HR0.out (by rw [HLL.out]; omega)).mono ?_
    rintro e w'' ⟨⟨b, rfl⟩, rfl⟩
    cases b with
    | false =>
      go_wp2
      go_ret
      exact ⟨rfl, Below.refl _ _⟩
    | true =>
      go_wp2_with fail
      refine (clone_any _ l _ HR0.out (by rw [HLL.out]; omega)).mono ?_
      rintro e u1 ⟨v1, rfl, ho1, hb1⟩
      have HR1 : Hid (Reads u1 v1 l) := reads_of_own ho1
      have HR01 : Hid (Reads u1 (.slice a0 len0 cap0) l) := keep_reads HR0.out hb1
      have HG1 : Hid (∀ g, v1.ownBlock = some g → g < u1.heap.size) := fun g hg => (ho1.lt g hg).2
      clear ho1 HR0
      go_wp2_with fail
      refine (clone_any _ l _ HR01.out (by rw [HLL.out]; omega)).mono ?_
      rintro e u2 ⟨v2, rfl, ho2, hb2⟩
      have HO2 : Hid (u2.ownsRow u1.heap.size 5 1 v2 l.length (bv l)) := ho2
      obtain ⟨a2, n2, c2, hv2⟩ : ∃ a n c, v2 = .slice a n c := by
        obtain ⟨a, c, h, _⟩ := shape_reads (reads_of_own ho2)
        exact ⟨_, _, _, h⟩
      have HV2 : Hid (v2 = .slice a2 n2 c2) := hv2
      have hz1 := hb1.size
      have hz2 := hb2.size
      have HB2 : Below _ _ u2 := hb1.trans (hb2.mono hb1.size)
      clear ho2 HR01 hv2 hb1
      go_wp2_with fail
      refine (newPat_any v2 _ _ _ _ HV2.out).mono ?_
      rintro e u3 ⟨rfl, rfl⟩
      go_wp2_with fail
      refine (append_any a1 l u1.heap.size u2.heap.size _ (Pat.one HO2.out hz2) (by omega) (by rw [HLL.out]; omega)).mono ?_
      rintro e u4 ⟨rfl, hp4, hb4⟩
      obtain ⟨vp, hvp⟩ := hp4
      have hlt4 : u2.heap.size < u4.heap.size := hvp.lt
      have HVP : Hid (PatV u4 u1.heap.size u2.heap.size vp (l ++ Wild.enc a1.data.toList)) := hvp
      have hb34 : Below u1.heap.size u2 u4 := ((Below.refl _ _).alloc hz2 _).trans hb4
      have HR1p : Hid (Reads u4 v1 l) := by
        refine Reads.below HR1.out (hb2.trans hb34) (fun g hg => ?_)
        exact HG1.out g hg
      have HB4 : Below w''.heap.size w'' u4 := HB2.trans (hb34.mono hz1)
      clear hvp hb4 hb34 hb2 HB2 HO2 HV2 HR1
      go_wp2_with fail
      refine (append_any a1 [] u4.heap.size u4.heap.size _ (Pat.zero u4) (by omega) (by simp)).mono ?_
      rintro e u5 ⟨rfl, hp5, hb5⟩
      rw [List.nil_append] at hp5
      have hb45 : Below u4.heap.size u4 u5 := ((Below.refl _ _).alloc (Nat.le_refl _) _).trans hb5
      obtain ⟨vq, hvq⟩ := hp5
      have cq := hvq.cell
      have cp : u5.cell? ⟨u2.heap.size, 0, none⟩ = some vp := (hb45.cell (p := ⟨u2.heap.size, 0, none⟩) hlt4).trans HVP.out.cell
      obtain ⟨aq, kq, eq, hq⟩ := shape_reads (reads_of_own hvq.own)
      obtain ⟨ap, kp, ep, hp⟩ := shape_reads (keep_reads (reads_of_own HVP.out.own) hb45)
      obtain ⟨ak, kk, ek, hk⟩ := shape_reads (keep_reads HR1p.out hb45)
      have HB5 : Below w''.heap.size w'' u5 := HB4.trans (hb45.mono (by have := HB4.size; omega))
      have HQ : Hid _ := hq
      have HP : Hid _ := hp
      have HK : Hid _ := hk
      clear hq hp hk hvq hb5 hb45 HB4 HVP HR1p HG1
      subst eq ep ek
      have hEn : (Wild.enc a1.data.toList).length = a1.size + Wild.esc a1.data.toList := by
        rw [Wild.enc_length]; simp
      have hes : Wild.esc a1.data.toList ≤ a1.size := by
        have := Wild.esc_le a1.data.toList; simpa using this
      have hlb : l.length ≤ 1048576 := by rw [HLL.out]; omega
      generalize Wild.enc a1.data.toList = E at HQ HP hEn cq cp ⊢
      have hEb : E.length ≤ 2097152 := by omega
      have HEn : Hid (E.length = a1.size + Wild.esc a1.data.toList) := hEn
      clear hEn
      have hpl : (l ++ E).length = l.length + E.length := List.length_append
      rw [hpl] at cp
      go_wp2_with fail
      refine (escaped_any _ _ _ cp).mono ?_
      rintro e u6 ⟨rfl, rfl⟩
      go_wp2_with fail
      refine (escaped_any _ _ _ cq).mono ?_
      rintro e u7 ⟨rfl, rfl⟩
      clear cp cq hpl
      go_wp2_with fail
      go_loopw [10] (fun i wr => ∃ k n : Nat, k ≤ l.length ∧ i = .int .i64 k ∧ wr = u7.drewN n) (fun i _ => l.length - (intOf i).toNat)
      case atStart => exact ⟨0, 0, Nat.zero_le _, rfl, rfl⟩
      case round =>
        obtain ⟨k, n, hk, rfl, rfl⟩ := hrel
        by_cases hlt : k < l.length
        · obtain ⟨b1, o1, rfl, c1⟩ := HK.out k hlt
          obtain ⟨b2, o2, rfl, c2⟩ := HP.out k (by rw [List.length_append]; omega)
          rw [List.getElem_append_left hlt] at c2
          have hi1 : (k : Int) < (l.length : Int) := by omega
          have hi2 : (0 : Int) ≤ (k : Int) := by omega
          have hi3 : (k : Int) < (l.length : Int) + (E.length : Int) := by omega
          go_wp2_with fail
          go_quiet (fail)
          go_wp2
          go_roundw
          case rel => exact ⟨k + 1, _, by omega, by go_num, rfl⟩
          case measure => simp [intOf]; omega
        · go_wp2_with fail
          go_loopw [11] (fun i wr => ∃ k n : Nat, k ≤ E.length ∧ i = .int .i64 k ∧ wr = u7.drewN n) (fun i _ => E.length - (intOf i).toNat)
          case atStart => exact ⟨0, n, Nat.zero_le _, rfl, rfl⟩
          case round =>
            obtain ⟨k2, n2, hk2, rfl, rfl⟩ := hrel
            by_cases hlt2 : k2 < E.length
            · obtain ⟨b1, o1, rfl, c1⟩ := HQ.out k2 hlt2
              obtain ⟨b2, o2, rfl, c2⟩ := HP.out (l.length + k2) (by rw [List.length_append]; omega)
              have hap : (l ++ E)[l.length + k2]'(by rw [List.length_append]; omega) = E[k2] := by
                rw [List.getElem_append_right (by omega)]
                simp
              rw [hap] at c2
              clear hap
              have hi1 : (k2 : Int) < (E.length : Int) := by omega
              have hi2 : (0 : Int) ≤ (k2 : Int) := by omega
              have hi3 : (l.length : Int) + (k2 : Int) < (l.length : Int) + (E.length : Int) := by omega
              have hi4 : (0 : Int) ≤ (l.length : Int) + (k2 : Int) := by omega
              go_wp2_with fail
              go_quiet (fail)
              go_wp2
              go_roundw
              case rel => exact ⟨k2 + 1, _, by omega, by go_num, rfl⟩
              case measure => simp [intOf]; omega
            · go_wp2_with fail
              refine (count_any a1 _ (by omega)).mono ?_
              rintro e u9 ⟨rfl, rfl⟩
              go_wp2
              go_ret
              refine ⟨?_, HB5.trans (drewN_below _ _ _)⟩
              have hfin : ((E.length : Int) == (a1.size : Int) + (Wild.esc a1.data.toList : Int)) = true := by
                rw [HEn.out]; simp
              show Ending.returned (.bool ((E.length : Int) == (a1.size : Int) + (Wild.esc a1.data.toList : Int))) = _
              rw [hfin]
  · go_enter Try.func4, Try.ntmps4
    go_wp2_with fail
    refine (bytes10_no _ _ _ _ _ hlen w1 hsum).mono ?_
    rintro e w' ⟨rfl, rfl⟩
    go_wp2
    go_ret
    exact ⟨rfl, Below.refl _ _⟩

/-! ### THE ROW's STEP: WRITTEN OUT: LEAVE IT -/
set_option maxRecDepth 100000 in
theorem lifted (os : Os) (started : os.Started) (H : Type) (enc : TypeId × Value → H) :
    ReturnsInHanded {} Try.checked os 4 .any (Rows.fnAppendPatternKeepsStateAndLengthSpec.pre6 enc Try.prog Try.f4 Rows.fnAppendPatternKeepsStateAndLengthRow.domain false) (Rows.fnAppendPatternKeepsStateAndLengthSpec.post enc Try.prog Try.f4 false true false false) := by
  refine returnsInHanded_of_change (C := Try.checked) own started (by kernel_rfl) Try.func4
    (ChangeSpec.witness6 (enc := enc) (C := Try.checked) false ⟨#[], #[.slice none 0 0, .string ByteArray.empty], []⟩ 8 (by kernel_rfl) (by kernel_rfl) (by kernel_rfl) (by kernel_rfl)) ?_
  intro W base args ds gs before hval0 hW hcnd _
  have hval : ∀ (j : Nat) t v, Try.f4.params[j]? = some t → args[j]? = some v → Value.okWide Try.prog W .any base t v := hval0
  have hW' := hW
  obtain ⟨p, q, hA0, hV, rfl, hfz, hnd⟩ := hW
  have hA : DataW.TrodAll enc Try.prog W 0 (fun _ => true) true Try.f4.params.toList args.toList ds p := hA0
  rw [Try.params4] at hA hval
  obtain ⟨v0, vs0, d0, ds0, p0, q0, hargs, rfl, rfl, h0, r0⟩ := trodAll_cons hA
  obtain ⟨v1, vs1, d1, ds1, p1, q1, rfl, rfl, rfl, h1, r1⟩ := trodAll_cons r0
  obtain ⟨rfl, rfl, rfl⟩ := trodAll_nil r1
  obtain rfl : args = #[v0, v1] := by cases args; simp_all
  obtain ⟨rfl, rfl⟩ := trodVars_none hV
  obtain ⟨a0, len0, cap0, rfl⟩ := okWide_slice Try.underlying24 (hval 0 24 v0 rfl rfl)
  have k0 := h0
  have lt0 : ∀ x ∈ p0, x.block < W.heap.size := by obtain ⟨m, hm⟩ := k0; exact DataW.trod_lt m _ _ _ hm
  obtain ⟨z0, w0⟩ : ∃ zs, IsRow .u8 W a0 len0 cap0 zs := by
    obtain ⟨fuel, hf⟩ := h0
    rcases open_ints Try.underlying24 Try.underlying5 (by kernel_rfl) hf with ⟨hcs, _⟩ | ⟨x, l, c, zs, hcs, _, hl, hm, hz, _, hcell, hwz⟩
    · simp [Value.cells] at hcs
      obtain ⟨rfl, rfl, rfl⟩ := hcs
      exact ⟨[], .inl ⟨rfl, rfl, rfl, rfl⟩⟩
    · simp [Value.cells] at hcs
      obtain ⟨rfl, rfl, rfl⟩ := hcs
      exact ⟨zs, .inr ⟨_, rfl, hl, hm, by simpa using hz, hcell, hwz⟩⟩
  obtain ⟨a1, rfl, rfl, rfl, w1⟩ := open_string Try.underlying9 (hval 1 9 v1 rfl rfl) h1
  clear hA0 hval0
  refine (walk a0 len0 cap0 z0 a1 W w0 w1).mono fun e W' ⟨he, bel⟩ => ?_
  subst he
  exact ⟨_, rfl, _, _, _, [], _, [], hW', trodAll_mk1 (shut_bool Try.underlying4 _), (trodAll_cons_mk (Below.trod laidOut (by kernel_rfl) (of_decide_eq_true (by kernel_rfl)) k0 bel lt0) (trodAll_cons_mk (shut_string Try.underlying9 w1) trodAll_mk0)), rfl, bel.frame _, fun h => by cases h⟩

theorem over : Rows.fnAppendPatternKeepsStateAndLengthRow.holds Try.pinned (OpenSpec.ofChange Rows.fnAppendPatternKeepsStateAndLengthSpec) :=
  OpenClaim.holds_of_wide 4 Try.f4 rfl rfl rfl rfl rfl rfl rfl ⟨rfl, rfl, rfl, rfl, rfl⟩ rfl rfl rfl rfl rfl (by kernel_rfl) Try.func4 (by kernel_rfl)
    (of_decide_eq_true (by kernel_rfl)) (by unfold Func.isWrapper; first | (rw [if_pos (by decide +kernel)]; kernel_rfl) | (rw [if_neg (by decide +kernel)]; exact ⟨rfl, rfl⟩))
    (fun os started H enc _ => lifted os started H enc)

/-- ████ THE STATEMENT ████ -/
theorem proved : Rows.FnAppendPatternKeepsStateAndLengthSaid := over
#print axioms proved
end Go.Proofs.Qxb6628940a.fnAppendPatternKeepsStateAndLength
