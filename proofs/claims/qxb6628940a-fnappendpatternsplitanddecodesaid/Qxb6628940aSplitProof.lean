/-
  THE PROOF OF 'Rows.FnAppendPatternSplitAndDecodeSaid': the frame by the guide's skeleton, the walk out of the callees' contracts (Qxb6628940aApp, Qxb6628940aCalls).
-/
import Derived.Test.Qxb6628940aRows
import Derived.WalkKit
import Derived.ProofKit
import Derived.OpenShut
import Derived.ShutString
import Derived.Below
import Derived.Test.Qxb6628940aCalls
namespace Go.Proofs.Qxb6628940a.fnAppendPatternSplitAndDecode
open Go.ChangeShapes Go.WideShapes Go.ChangeAt Go.RowKit
open Go.ChangeMaps (open_string shut_string)
set_option linter.unusedVariables false      -- a walk need not use every 'w<i>' (that an integer argument fits its kind)

theorem own : ownKnob Try.prog.godebug = none := by kernel_rfl

/-! ### THE WALK -/
theorem join3 (a b c : ByteArray) : (⟨(a.data.toList ++ b.data.toList ++ c.data.toList).toArray⟩ : ByteArray) = a ++ b ++ c := by
  apply ByteArray.ext
  rw [ByteArray.data_append, ByteArray.data_append]
  simp

set_option maxHeartbeats 1000000 in
theorem walk (a0 : ByteArray) (a1 : ByteArray) (a2 : ByteArray) (w0 : a0.size ≤ maxLen) (w1 : a1.size ≤ maxLen) (w2 : a2.size ≤ maxLen) (w : World) :
    Calls Try.prog 3 #[.string a0, .string a1, .string a2] w fun e w' => e = .returned (.bool true) ∧ Below w.heap.size w w' := by
  by_cases hsum : a0.size + a1.size + a2.size ≤ 1048576
  · clear w0 w1 w2
    go_enter Try.func3, Try.ntmps3
    go_wp2_with fail
    refine (bytes5_yes a0 a1 a2 _ hsum).mono ?_
    rintro e w' ⟨rfl, rfl⟩
    go_wp2_with fail
    refine (append_any a0 [] w'.heap.size w'.heap.size _ (Pat.zero w') (by omega) (by simp)).mono ?_
    rintro e u1 ⟨rfl, hp1, hb1⟩
    rw [List.nil_append] at hp1
    have HB1 : Below w'.heap.size w' u1 := ((Below.refl _ _).alloc (Nat.le_refl _) _).trans hb1
    clear hb1
    have HP1 : Hid (Pat u1 w'.heap.size w'.heap.size (Wild.enc a0.data.toList)) := hp1
    clear hp1
    go_wp2_with fail
    refine (append_any a1 _ w'.heap.size w'.heap.size _ HP1.out (by omega) (enc_small (by omega))).mono ?_
    rintro e u2 ⟨rfl, hp2, hb2⟩
    have HB2 := HB1.trans hb2
    clear hb2 HB1 HP1
    rw [← Wild.enc_append] at hp2
    have HP2 : Hid (Pat u2 w'.heap.size w'.heap.size (Wild.enc (a0.data.toList ++ a1.data.toList))) := hp2
    clear hp2
    go_wp2_with fail
    refine (append_any a2 _ w'.heap.size w'.heap.size _ HP2.out (by omega) (enc_small2 (by omega))).mono ?_
    rintro e u3 ⟨rfl, hp3, hb3⟩
    have HB3 := HB2.trans hb3
    clear hb3 HB2 HP2
    rw [← Wild.enc_append] at hp3
    obtain ⟨v, hv⟩ := hp3
    have hvlt : w'.heap.size < u3.heap.size := hv.lt
    have HV : Hid (PatV u3 w'.heap.size w'.heap.size v (Wild.enc (a0.data.toList ++ a1.data.toList ++ a2.data.toList))) := hv
    clear hv
    go_wp2_with fail
    refine (append_any a0 [] u3.heap.size u3.heap.size _ (Pat.zero u3) (by omega) (by simp)).mono ?_
    rintro e u4 ⟨rfl, hp4, hb4⟩
    rw [List.nil_append] at hp4
    have HB4 : Below u3.heap.size u3 u4 := ((Below.refl _ _).alloc (Nat.le_refl _) _).trans hb4
    clear hb4
    have HP4 : Hid (Pat u4 u3.heap.size u3.heap.size (Wild.enc a0.data.toList)) := hp4
    clear hp4
    go_wp2_with fail
    refine (append_any (a1 ++ a2) _ u3.heap.size u3.heap.size _ HP4.out (by rw [ByteArray.size_append]; omega) (enc_small (by omega))).mono ?_
    rintro e u5 ⟨rfl, hp5, hb5⟩
    have HB5 := HB4.trans hb5
    clear hb5 HB4 HP4
    rw [← Wild.enc_append, ByteArray.toList_data_append, ← List.append_assoc] at hp5
    obtain ⟨v2, hv2⟩ := hp5
    have cq := hv2.cell
    have cp : u5.cell? ⟨w'.heap.size, 0, none⟩ = some v := (HB5.cell (p := ⟨w'.heap.size, 0, none⟩) hvlt).trans HV.out.cell
    have HR2 : Hid (Reads u5 v2 (Wild.enc (a0.data.toList ++ a1.data.toList ++ a2.data.toList))) := reads_of_own hv2.own
    have HR1 : Hid (Reads u5 v (Wild.enc (a0.data.toList ++ a1.data.toList ++ a2.data.toList))) := (reads_of_own HV.out.own).below HB5 (fun g hg => (HV.out.own.lt g hg).2)
    have HBT : Below w'.heap.size w' u5 := HB3.trans (HB5.mono (by omega))
    have hlen : (Wild.enc (a0.data.toList ++ a1.data.toList ++ a2.data.toList)).length ≤ 1073741824 := by
      have := Wild.enc_length_le (a0.data.toList ++ a1.data.toList ++ a2.data.toList)
      have h1 : a0.data.toList.length = a0.size := by simp
      have h2 : a1.data.toList.length = a1.size := by simp
      have h3 : a2.data.toList.length = a2.size := by simp
      rw [List.length_append, List.length_append] at this
      omega
    have hlen2 : (a0.data.toList ++ a1.data.toList ++ a2.data.toList).length ≤ 16777216 := by
      have h1 : a0.data.toList.length = a0.size := by simp
      have h2 : a1.data.toList.length = a1.size := by simp
      have h3 : a2.data.toList.length = a2.size := by simp
      rw [List.length_append, List.length_append]
      omega
    have HL : Hid ((Wild.enc (a0.data.toList ++ a1.data.toList ++ a2.data.toList)).length ≤ 1073741824 ∧ (a0.data.toList ++ a1.data.toList ++ a2.data.toList).length ≤ 16777216) := ⟨hlen, hlen2⟩
    clear hv2 HB5 HV HB3 hlen hlen2
    go_wp2_with fail
    refine (escaped_any _ _ _ cp).mono ?_
    rintro e u6 ⟨rfl, rfl⟩
    go_wp2_with fail
    refine (escaped_any _ _ _ cq).mono ?_
    rintro e u7 ⟨rfl, rfl⟩
    clear cp cq
    go_wp2_with fail
    refine (same_any _ _ _ _ HR1.out HR2.out HL.out.1).mono ?_
    rintro e u8 ⟨rfl, n8, rfl⟩
    go_wp2_with fail
    refine (decode_any _ (a0.data.toList ++ a1.data.toList ++ a2.data.toList) _ (HR1.out.drewN n8) HL.out.2).mono ?_
    rintro e u9 ⟨rfl, hb9⟩
    rw [join3 a0 a1 a2]
    have HB9 : Below w'.heap.size w' u9 := (HBT.trans (drewN_below _ _ n8)).trans (hb9.mono (by have := HBT.size; simp; omega))
    clear hb9 HBT
    go_wp2
    go_ret
    exact ⟨by simp, HB9⟩
  · go_enter Try.func3, Try.ntmps3
    go_wp2_with fail
    refine (bytes5_no a0 a1 a2 _ w0 w1 w2 hsum).mono ?_
    rintro e w' ⟨rfl, rfl⟩
    go_wp2
    go_ret
    exact ⟨rfl, Below.refl _ _⟩

/-! ### THE ROW's STEP: WRITTEN OUT: LEAVE IT -/
set_option maxRecDepth 100000 in
theorem lifted (os : Os) (started : os.Started) (H : Type) (enc : TypeId × Value → H) :
    ReturnsInHanded {} Try.checked os 3 .any (Rows.fnAppendPatternSplitAndDecodeSpec.pre6 enc Try.prog Try.f3 Rows.fnAppendPatternSplitAndDecodeRow.domain false) (Rows.fnAppendPatternSplitAndDecodeSpec.post enc Try.prog Try.f3 false true false false) := by
  refine returnsInHanded_of_change (C := Try.checked) own started (by kernel_rfl) Try.func3
    (ChangeSpec.witness6 (enc := enc) (C := Try.checked) false ⟨#[], #[.string ByteArray.empty, .string ByteArray.empty, .string ByteArray.empty], []⟩ 8 (by kernel_rfl) (by kernel_rfl) (by kernel_rfl) (by kernel_rfl)) ?_
  intro W base args ds gs before hval0 hW hcnd _
  have hval : ∀ (j : Nat) t v, Try.f3.params[j]? = some t → args[j]? = some v → Value.okWide Try.prog W .any base t v := hval0
  have hW' := hW
  obtain ⟨p, q, hA0, hV, rfl, hfz, hnd⟩ := hW
  have hA : DataW.TrodAll enc Try.prog W 0 (fun _ => true) true Try.f3.params.toList args.toList ds p := hA0
  rw [Try.params3] at hA hval
  obtain ⟨v0, vs0, d0, ds0, p0, q0, hargs, rfl, rfl, h0, r0⟩ := trodAll_cons hA
  obtain ⟨v1, vs1, d1, ds1, p1, q1, rfl, rfl, rfl, h1, r1⟩ := trodAll_cons r0
  obtain ⟨v2, vs2, d2, ds2, p2, q2, rfl, rfl, rfl, h2, r2⟩ := trodAll_cons r1
  obtain ⟨rfl, rfl, rfl⟩ := trodAll_nil r2
  obtain rfl : args = #[v0, v1, v2] := by cases args; simp_all
  obtain ⟨rfl, rfl⟩ := trodVars_none hV
  obtain ⟨a0, rfl, rfl, rfl, w0⟩ := open_string Try.underlying9 (hval 0 9 v0 rfl rfl) h0
  obtain ⟨a1, rfl, rfl, rfl, w1⟩ := open_string Try.underlying9 (hval 1 9 v1 rfl rfl) h1
  obtain ⟨a2, rfl, rfl, rfl, w2⟩ := open_string Try.underlying9 (hval 2 9 v2 rfl rfl) h2
  clear hA0 hval0
  simp only [List.append_nil] at hW'
  refine (walk a0 a1 a2 w0 w1 w2 W).mono fun e W' ⟨he, bel⟩ => ?_
  subst he
  exact ⟨_, rfl, _, _, _, [], _, [], hW', trodAll_mk1 (shut_bool Try.underlying4 _), (trodAll_cons_mk (shut_string Try.underlying9 w0) (trodAll_cons_mk (shut_string Try.underlying9 w1) (trodAll_cons_mk (shut_string Try.underlying9 w2) trodAll_mk0))), rfl, bel.frame _, fun h => by cases h⟩

theorem over : Rows.fnAppendPatternSplitAndDecodeRow.holds Try.pinned (OpenSpec.ofChange Rows.fnAppendPatternSplitAndDecodeSpec) :=
  OpenClaim.holds_of_wide 3 Try.f3 rfl rfl rfl rfl rfl rfl rfl ⟨rfl, rfl, rfl, rfl, rfl⟩ rfl rfl rfl rfl rfl (by kernel_rfl) Try.func3 (by kernel_rfl)
    (of_decide_eq_true (by kernel_rfl)) (by unfold Func.isWrapper; first | (rw [if_pos (by decide +kernel)]; kernel_rfl) | (rw [if_neg (by decide +kernel)]; exact ⟨rfl, rfl⟩))
    (fun os started H enc _ => lifted os started H enc)

/-- ████ THE STATEMENT ████ -/
theorem proved : Rows.FnAppendPatternSplitAndDecodeSaid :=
  over
#print axioms proved
end Go.Proofs.Qxb6628940a.fnAppendPatternSplitAndDecode
