import Derived.Test.Qxb6628972aPart
namespace Go.Proofs.Qxb6628972a
open Go.RowKit

set_option maxRecDepth 100000 in
set_option maxHeartbeats 2000000 in
theorem bytes9_any (a : Option Addr) (c : Nat) (x y : Int) (z : Ep) (t : ByteArray) (zs : List Ep) (w : World) (h : EpsAt w a zs) (hl : zs.length ≤ maxLen) :
    Calls Try.prog 9 #[.int .i64 x, .slice a zs.length c, .int .i64 y, .agg #[.string z.m, .string z.d, .int .i64 z.f, .int .i64 z.l, .pointer z.c, .string z.s], .string t] w fun e w' => AnyBool e ∧ Below w.heap.size w w' := by
  have HE : Hid (EpsAt (w.alloc (.cells #[.string z.m, .string z.d, .int .i64 z.f, .int .i64 z.l, .pointer z.c, .string z.s] 29)) a zs) := h.below ((Below.refl _ _).alloc (Nat.le_refl _) _)
  clear h
  have HB : Hid (Below w.heap.size w (w.alloc (.cells #[.string z.m, .string z.d, .int .i64 z.f, .int .i64 z.l, .pointer z.c, .string z.s] 29))) := (Below.refl _ _).alloc (Nat.le_refl _) _
  unfold maxLen at hl
  by_cases hx0 : 1048576 < zs.length
  · go_enter Try.func9, Try.ntmps9
    go_wp2
    go_ret
    exact ⟨⟨_, rfl⟩, HB.out⟩
  · go_enter Try.func9, Try.ntmps9
    go_wp2_with fail
    go_loop [11, 12] (fun t i => ∃ (k : Nat) (z : Int), k ≤ zs.length ∧ i = .int .i64 k ∧ t = .int .i64 z) (fun _ i => zs.length - (intOf i).toNat)
    case atStart => exact ⟨0, _, Nat.zero_le _, rfl, rfl⟩
    case round =>
      obtain ⟨k, n, hk, rfl, rfl⟩ := hrel
      by_cases hlt : k < zs.length
      · obtain ⟨b, off, rfl, g⟩ := HE.out k hlt
        generalize zs[k] = q at g
        have c0 := g.c0
        have c1 := g.c1
        have c5 := g.c5
        have s0 := g.s0
        have s1 := g.s1
        have s5 := g.s5
        unfold maxLen at s0 s1 s5
        clear g
        go_wp2
        all_goals first
          | (go_ret; exact ⟨⟨_, rfl⟩, HB.out⟩)
          | (refine ⟨⟨k + 1, _, by omega, by go_num, rfl⟩, ?_⟩; simp [intOf]; omega)
      · go_wp2
        all_goals
          go_ret
          exact ⟨⟨_, rfl⟩, HB.out⟩

/-- z put in at place p. -/
def insAt (zs : List Ep) (p : Nat) (z : Ep) : List Ep := zs.take p ++ z :: zs.drop p
theorem insAt_length (zs : List Ep) (p : Nat) (z : Ep) (h : p ≤ zs.length) : (insAt zs p z).length = zs.length + 1 := by
  simp [insAt]; omega
theorem insAt_lt (zs : List Ep) (p k : Nat) (z : Ep) (h : k < p) (hp : p ≤ zs.length) : (insAt zs p z)[k]? = some (zs[k]'(by omega)) := by
  unfold insAt
  rw [List.getElem?_append_left (by simp; omega), List.getElem?_take_of_lt h, List.getElem?_eq_getElem]
theorem insAt_at (zs : List Ep) (p : Nat) (z : Ep) (hp : p ≤ zs.length) : (insAt zs p z)[p]? = some z := by
  unfold insAt
  rw [List.getElem?_append_right (by simp; omega)]
  simp [Nat.min_eq_left hp]
theorem insAt_gt (zs : List Ep) (p k : Nat) (z : Ep) (h : p ≤ k) (hk : k < zs.length) : (insAt zs p z)[k + 1]? = some zs[k] := by
  unfold insAt
  rw [List.getElem?_append_right (by simp; omega)]
  have : k + 1 - (zs.take p).length = (k - p) + 1 := by simp; omega
  rw [this, List.getElem?_cons_succ, List.getElem?_drop]
  have : p + (k - p) = k := by omega
  rw [this, List.getElem?_eq_getElem hk]

/-- One append of an episode. -/
theorem ins_step {w2 : World} {B n : Nat} {qs ts : List Ep} {z z' : Ep} {k : Nat} {v : Value}
    (hk : qs.map Ep.s = (ts.take k).map Ep.s) (ht : ts[k]? = some z) (hz : z'.s = z.s) (hn : qs.length = n)
    (hown : w2.ownsRow B 40 6 v (n + 1) (flat qs ++ z'.cells)) :
    w2.ownsRow B 40 6 v (qs ++ [z']).length (flat (qs ++ [z'])) ∧ (qs ++ [z']).map Ep.s = (ts.take (k + 1)).map Ep.s := by
  obtain ⟨hlt, he⟩ := List.getElem?_eq_some_iff.1 ht
  refine ⟨?_, ?_⟩
  · rw [List.length_append, hn, flat_append]; simpa [flat] using hown
  · rw [List.map_append, hk, List.take_succ_eq_append_getElem hlt, List.map_append, he]; simp [hz]

set_option maxRecDepth 100000 in
set_option maxHeartbeats 2000000 in
theorem inserted_any (a : Option Addr) (c : Nat) (x : Int) (p : Nat) (z : Ep) (zs : List Ep) (w : World) (h : EpsAt w a zs) (hl : zs.length ≤ 1048576) (hp : p ≤ zs.length) (hz : CureOk w z.c) :
    Calls Try.prog 10 #[.int .i64 x, .slice a zs.length c, .int .i64 (p : Int), .agg #[.string z.m, .string z.d, .int .i64 z.f, .int .i64 z.l, .pointer z.c, .string z.s]] w fun e w' =>
      ∃ bp, e = .returned (.pointer (some ⟨bp, 0, none⟩)) ∧ Rep w' bp ((insAt zs p z).map Ep.s) ∧ Below w.heap.size w w' := by
  obtain ⟨i0, hi0, hz0, hz1, hz2⟩ := info_parts Try.info40
  have HE : Hid (EpsAt w a zs) := h
  have HZ : Hid (CureOk w z.c) := hz
  clear h hz
  go_enter Try.func10, Try.ntmps10
  go_wp2_with (at_make; refine wpList_make_own _ rfl _ _ 34 rfl (w.heap.size + 1) 40 i0 _ 6 Try.underlying34 hi0 hz0 hz1 .i64 .i64 _ (zs.length + 1) rfl rfl (by omega) (by rw [hz2]; omega) (by unfold maxLen; omega) (by simp) ?_; intro w0 hown0 hgrow0)
  obtain ⟨WA, hWA⟩ : ∃ WA, w.alloc (.cells #[.string z.m, .string z.d, .int .i64 z.f, .int .i64 z.l, .pointer z.c, .string z.s] 29) = WA := ⟨_, rfl⟩
  have hsz : WA.heap.size = w.heap.size + 1 := by rw [← hWA]; simp
  have HBW : Hid (Below w.heap.size w WA) := by rw [← hWA]; exact (Below.refl _ _).alloc (Nat.le_refl _) _
  have HBX : Hid (WA.cell? ⟨w.heap.size, 0, none⟩ = some (.string z.m) ∧ WA.cell? ⟨w.heap.size, 1, none⟩ = some (.string z.d) ∧ WA.cell? ⟨w.heap.size, 2, none⟩ = some (.int .i64 z.f) ∧ WA.cell? ⟨w.heap.size, 3, none⟩ = some (.int .i64 z.l) ∧ WA.cell? ⟨w.heap.size, 4, none⟩ = some (.pointer z.c) ∧ WA.cell? ⟨w.heap.size, 5, none⟩ = some (.string z.s)) := by
    rw [← hWA]; refine ⟨?_, ?_, ?_, ?_, ?_, ?_⟩ <;> simp
  rw [hWA] at hown0 hgrow0
  clear hWA
  rw [hsz] at hown0
  have HEA : Hid (EpsAt WA a zs) := HE.out.below HBW.out
  have HZA : Hid (CureOk WA z.c) := HZ.out.below HBW.out
  clear HE HZ
  have hb0 : Below (w.heap.size + 1) WA w0 := (Below.refl _ _).grown hgrow0 (by omega) (by simp)
  have HO0 : Hid (w0.ownsRow (w.heap.size + 1) 40 6 (.slice (some ⟨w.heap.size + 1, 0, none⟩) 0 (zs.length + 1)) 0 []) := hown0
  clear hown0 hgrow0
  obtain ⟨ts, hts⟩ : ∃ ts, insAt zs p z = ts := ⟨_, rfl⟩
  have HTS : Hid (insAt zs p z = ts) := hts
  clear hts
  go_loopw [9, 10] (fun u i wr => ∃ (k : Nat) (qs : List Ep), k ≤ p ∧ i = .int .i64 k ∧ qs.length = k ∧ qs.map Ep.s = (ts.take k).map Ep.s ∧ wr.ownsRow (w.heap.size + 1) 40 6 u k (flat qs) ∧ Below (w.heap.size + 1) WA wr) (fun _ i _ => p - (intOf i).toNat)
  case atStart => exact ⟨0, [], Nat.zero_le _, rfl, rfl, rfl, by simpa [flat] using HO0.out, hb0⟩
  case round =>
    obtain ⟨k, qs, hk, rfl, hql, hqs, hown, hbel⟩ := hrel
    have HW : Hid (qs.length = k ∧ qs.map Ep.s = (ts.take k).map Ep.s ∧ wr.ownsRow (w.heap.size + 1) 40 6 u9 k (flat qs)) := ⟨hql, hqs, hown⟩
    clear hql hqs hown HO0 hb0
    have hbs := hbel.size
    have hbW : Below WA.heap.size WA wr := by rw [hsz]; exact hbel
    by_cases hlt : k < p
    · obtain ⟨b, off, rfl, g0⟩ := HEA.out k (by omega)
      have g := g0.below hbW
      clear g0
      have HT : Hid (ts[k]? = some zs[k]) := by
        show _ = _
        rw [← HTS.out]; exact insAt_lt zs p k z hlt hp
      generalize zs[k] = q at g HT
      have c0 := g.c0
      have c1 := g.c1
      have c2 := g.c2
      have c3 := g.c3
      have c4 := g.c4
      have c5 := g.c5
      have HK : Hid (CureOk wr q.c) := g.ok
      clear g
      go_wp2_with fail
      refine (episode_any q _ HK.out).mono ?_
      rintro e w1 ⟨z', rfl, hzs, hb1⟩
      have HZ1 : Hid (z'.s = q.s) := hzs
      have HO1 : Hid (w1.ownsRow (w.heap.size + 1) 40 6 u9 k (flat qs)) := ownsRow_below HW.out.2.2 hb1
      have HB1 : Below (w.heap.size + 1) WA w1 := hbel.trans (hb1.mono (by omega))
      have hb1s := HB1.size
      clear hzs hb1 c0 c1 c2 c3 c4 c5 hbW
      go_wp2_with (at_builtin; refine wpList_append_lies _ rfl (.tmp 21) (.tmp 27) 34 rfl (w.heap.size + 1) 40 i0 _ 6 72 Try.underlying34 hi0 hz0 hz1 hz2 rfl (by omega) u9 k (flat qs) rfl (HO1.out.alloc _) ⟨w1.heap.size, 0, none⟩ 1 1 z'.cells rfl rfl (World.news_of_block (cs := #[.string z'.m, .string z'.d, .int .i64 z'.f, .int .i64 z'.l, .pointer z'.c, .string z'.s]) (t := 40) (fr := (0, 0)) (heap_alloc_new w1 _)) (by simp [Value.oneCell', Ep.cells]) (by omega) (by unfold maxLen; omega) (by omega) (by simp; omega) (w1.heap.size + 1) (by simp) ?_; intro g2 cap2 w2 hown2 hgrow2 hat2 hlt2)
      have HS : Hid _ := ins_step HW.out.2.1 HT.out HZ1.out HW.out.1 hown2
      have HB2 : Hid (Below (w.heap.size + 1) WA w2) := (HB1.alloc (by omega) _).grown hgrow2 (by simp; omega) (fun r hr => (HO1.out.lt r hr).1)
      clear hown2 hgrow2 hat2 hlt2
      go_roundw
      case rel =>
        refine ⟨k + 1, qs ++ [z'], by omega, by go_num, by simp [HW.out.1], HS.out.2, ?_, HB2.out⟩
        have := HS.out.1
        rw [List.length_append, HW.out.1] at this
        exact this
      case measure => simp [intOf]; omega
    · obtain rfl : k = p := by omega
      have HT : Hid (ts[k]? = some z) := by
        show _ = _
        rw [← HTS.out]; exact insAt_at zs k z hp
      have HK : Hid (CureOk wr z.c) := HZA.out.below hbW
      obtain ⟨d0, d1, d2, d3, d4, d5⟩ := HBX.out
      have c0 := (hbel.cell (p := ⟨w.heap.size, 0, none⟩) (by simp)).trans d0
      have c1 := (hbel.cell (p := ⟨w.heap.size, 1, none⟩) (by simp)).trans d1
      have c2 := (hbel.cell (p := ⟨w.heap.size, 2, none⟩) (by simp)).trans d2
      have c3 := (hbel.cell (p := ⟨w.heap.size, 3, none⟩) (by simp)).trans d3
      have c4 := (hbel.cell (p := ⟨w.heap.size, 4, none⟩) (by simp)).trans d4
      have c5 := (hbel.cell (p := ⟨w.heap.size, 5, none⟩) (by simp)).trans d5
      clear d0 d1 d2 d3 d4 d5
      go_wp2_with fail
      refine (episode_any z _ HK.out).mono ?_
      rintro e w1 ⟨z', rfl, hzs, hb1⟩
      have HZ1 : Hid (z'.s = z.s) := hzs
      have HO1 : Hid (w1.ownsRow (w.heap.size + 1) 40 6 u9 k (flat qs)) := ownsRow_below HW.out.2.2 hb1
      have HB1 : Below (w.heap.size + 1) WA w1 := hbel.trans (hb1.mono (by omega))
      have hb1s := HB1.size
      clear hzs hb1 c0 c1 c2 c3 c4 c5 hbW
      go_wp2_with (at_builtin; refine wpList_append_lies _ rfl (.tmp 29) (.tmp 32) 34 rfl (w.heap.size + 1) 40 i0 _ 6 72 Try.underlying34 hi0 hz0 hz1 hz2 rfl (by omega) u9 k (flat qs) rfl (HO1.out.alloc _) ⟨w1.heap.size, 0, none⟩ 1 1 z'.cells rfl rfl (World.news_of_block (cs := #[.string z'.m, .string z'.d, .int .i64 z'.f, .int .i64 z'.l, .pointer z'.c, .string z'.s]) (t := 40) (fr := (0, 0)) (heap_alloc_new w1 _)) (by simp [Value.oneCell', Ep.cells]) (by omega) (by unfold maxLen; omega) (by omega) (by simp; omega) (w1.heap.size + 1) (by simp) ?_; intro g2 cap2 w2 hown2 hgrow2 hat2 hlt2)
      have HS : Hid _ := ins_step HW.out.2.1 HT.out HZ1.out HW.out.1 hown2
      have HQL : Hid (qs.length = k) := HW.out.1
      have HB2 : Hid (Below (w.heap.size + 1) WA w2) := (HB1.alloc (by omega) _).grown hgrow2 (by simp; omega) (fun r hr => (HO1.out.lt r hr).1)
      clear hown2 hgrow2 hat2 hlt2 HO1 HB1 hb1s hbel hbs HW
      go_loopw [9, 11] (fun u i wx => ∃ (j : Nat) (rs : List Ep), k ≤ j ∧ j ≤ zs.length ∧ i = .int .i64 j ∧ rs.length = j + 1 ∧ rs.map Ep.s = (ts.take (j + 1)).map Ep.s ∧ wx.ownsRow (w.heap.size + 1) 40 6 u (j + 1) (flat rs) ∧ Below (w.heap.size + 1) WA wx) (fun _ i _ => zs.length - (intOf i).toNat)
      case atStart =>
        refine ⟨k, qs ++ [z'], Nat.le_refl _, hp, rfl, by simp [HQL.out], HS.out.2, ?_, HB2.out⟩
        have := HS.out.1
        rw [List.length_append, HQL.out] at this
        exact this
      case round =>
        obtain ⟨j, rs, hkj, hj, rfl, hrl, hrs, hown, hbel⟩ := hrel
        have HW : Hid (rs.length = j + 1 ∧ rs.map Ep.s = (ts.take (j + 1)).map Ep.s ∧ wr.ownsRow (w.heap.size + 1) 40 6 u9 (j + 1) (flat rs)) := ⟨hrl, hrs, hown⟩
        clear hrl hrs hown HB2 HS HQL HT HK HZ1
        have hbs := hbel.size
        have hbW : Below WA.heap.size WA wr := by rw [hsz]; exact hbel
        by_cases hlt : j < zs.length
        · obtain ⟨b, off, rfl, g0⟩ := HEA.out j hlt
          have g := g0.below hbW
          clear g0
          have HT : Hid (ts[j + 1]? = some zs[j]) := by
            show _ = _
            rw [← HTS.out]; exact insAt_gt zs k j z hkj hlt
          generalize zs[j] = q at g HT
          have c0 := g.c0
          have c1 := g.c1
          have c2 := g.c2
          have c3 := g.c3
          have c4 := g.c4
          have c5 := g.c5
          have HK : Hid (CureOk wr q.c) := g.ok
          clear g
          go_wp2_with fail
          refine (episode_any q _ HK.out).mono ?_
          rintro e w4 ⟨z4, rfl, hzs, hb1⟩
          have HZ1 : Hid (z4.s = q.s) := hzs
          have HO1 : Hid (w4.ownsRow (w.heap.size + 1) 40 6 u9 (j + 1) (flat rs)) := ownsRow_below HW.out.2.2 hb1
          have HB1 : Below (w.heap.size + 1) WA w4 := hbel.trans (hb1.mono (by omega))
          have hb1s := HB1.size
          clear hzs hb1 c0 c1 c2 c3 c4 c5 hbW
          go_wp2_with (at_builtin; refine wpList_append_lies _ rfl (.tmp 41) (.tmp 47) 34 rfl (w.heap.size + 1) 40 i0 _ 6 72 Try.underlying34 hi0 hz0 hz1 hz2 rfl (by omega) u9 (j + 1) (flat rs) rfl (HO1.out.alloc _) ⟨w4.heap.size, 0, none⟩ 1 1 z4.cells rfl rfl (World.news_of_block (cs := #[.string z4.m, .string z4.d, .int .i64 z4.f, .int .i64 z4.l, .pointer z4.c, .string z4.s]) (t := 40) (fr := (0, 0)) (heap_alloc_new w4 _)) (by simp [Value.oneCell', Ep.cells]) (by omega) (by unfold maxLen; omega) (by omega) (by simp; omega) (w4.heap.size + 1) (by simp) ?_; intro g5 cap5 w5 hown2 hgrow2 hat2 hlt2)
          have HS : Hid _ := ins_step HW.out.2.1 HT.out HZ1.out HW.out.1 hown2
          have HB2 : Hid (Below (w.heap.size + 1) WA w5) := (HB1.alloc (by omega) _).grown hgrow2 (by simp; omega) (fun r hr => (HO1.out.lt r hr).1)
          clear hown2 hgrow2 hat2 hlt2
          go_roundw
          case rel =>
            refine ⟨j + 1, rs ++ [z4], by omega, by omega, by go_num, by simp [HW.out.1], HS.out.2, ?_, HB2.out⟩
            have := HS.out.1
            rw [List.length_append, HW.out.1] at this
            exact this
          case measure => simp [intOf]; omega
        · obtain rfl : j = zs.length := by omega
          have HF : Hid (rs.map Ep.s = ts.map Ep.s ∧ rs.length = zs.length + 1) := by
            refine ⟨?_, HW.out.1⟩
            have h2 := HW.out.2.1
            have h3 : ts.length = zs.length + 1 := by rw [← HTS.out]; exact insAt_length zs k z hp
            rw [List.take_of_length_le (by omega)] at h2
            exact h2
          have HTB : Hid (Below w.heap.size w wr) := HBW.out.trans (hbel.mono (by omega))
          obtain ⟨a9, n9, c9, hu9⟩ : ∃ a n c, u9 = .slice a n c := by
            rcases HW.out.2.2.2 with ⟨h, _⟩ | ⟨g, cap, cur, h, _⟩
            · exact ⟨_, _, _, h⟩
            · exact ⟨_, _, _, h⟩
          subst hu9
          go_wp2
          go_ret
          refine ⟨_, rfl, ⟨w.heap.size + 1, .slice a9 n9 c9, rs, by simp, ?_, by rw [HTS.out]; exact HF.out.1⟩, HTB.out.alloc HTB.out.size _⟩
          rw [HF.out.2]; exact HW.out.2.2.alloc _

end Go.Proofs.Qxb6628972a
