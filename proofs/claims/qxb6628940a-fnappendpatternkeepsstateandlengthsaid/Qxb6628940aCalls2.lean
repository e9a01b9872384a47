import Derived.Test.Qxb6628940aCalls
import Derived.Lib.SliceRun
namespace Go.Proofs.Qxb6628940a
open Go.RowKit

theorem set_take {α : Type} (xs : List α) (k : Nat) (u : α) (h : k < xs.length) : (xs.set k u).take (k + 1) = xs.take k ++ [u] := by
  rw [List.take_succ_eq_append_getElem (by simpa using h), List.take_set, List.set_eq_of_length_le (by simp; omega)]
  simp

theorem bv_take_snoc (l : List UInt8) (k : Nat) (h : k < l.length) : bv (l.take (k + 1)) = bv (l.take k) ++ [.int .u8 (l[k].toNat : Int)] := by
  rw [Wild.take_snoc l k h, bv_append]; rfl

theorem bytes10_yes (a : Option Addr) (n c : Nat) (s : ByteArray) (w : World) (h : n + s.size ≤ 1048576) :
    Calls Try.prog 10 #[.slice a n c, .string s] w fun e w' => e = .returned (.bool true) ∧ w' = w := by
  go_enter Try.func10, Try.ntmps10
  go_wp2
  go_ret
  exact ⟨rfl, rfl⟩

theorem bytes10_no (a : Option Addr) (n c : Nat) (s : ByteArray) (w : World) (hn : n ≤ maxLen) (hs : s.size ≤ maxLen) (h : ¬ n + s.size ≤ 1048576) :
    Calls Try.prog 10 #[.slice a n c, .string s] w fun e w' => e = .returned (.bool false) ∧ w' = w := by
  unfold maxLen at *
  go_enter Try.func10, Try.ntmps10
  go_wp2
  all_goals
    go_ret
    exact ⟨rfl, rfl⟩

theorem newPat_any (v : Value) (a : Option Addr) (n c : Nat) (w : World) (hv : v = .slice a n c) :
    Calls Try.prog 13 #[v] w fun e w' => e = .returned (.pointer (some ⟨w.heap.size, 0, none⟩)) ∧ w' = w.alloc (.cells #[v] 26) := by
  subst hv
  go_enter Try.func13, Try.ntmps13
  go_wp2
  go_ret
  exact ⟨rfl, rfl⟩

set_option maxHeartbeats 400000 in
theorem count_any (s : ByteArray) (w : World) (hs : s.size ≤ 4194304) :
    Calls Try.prog 14 #[.string s] w fun e w' => e = .returned (.int .i64 (Wild.esc s.data.toList : Nat)) ∧ w' = w := by
  go_enter Try.func14, Try.ntmps14
  go_wp2
  go_loop [3, 4] (fun n i => ∃ k : Nat, k ≤ s.size ∧ i = .int .i64 k ∧ n = .int .i64 (Wild.esc (s.data.toList.take k) : Nat)) (fun _ i => s.size - (intOf i).toNat)
  case atStart => exact ⟨0, Nat.zero_le _, rfl, rfl⟩
  case round =>
    obtain ⟨k, hk, rfl, rfl⟩ := hrel
    have hd := Wild.esc_le (s.data.toList.take k)
    have hl : (s.data.toList.take k).length ≤ k := List.length_take_le _ _
    by_cases hlt : k < s.size
    · have HS : Hid (Wild.esc (s.data.toList.take (k + 1)) = Wild.esc (s.data.toList.take k) + if s[k] = 92 then 1 else 0) := by
        show _ = _
        rw [take_snoc s k hlt, Wild.esc_snoc]
      by_cases hesc : s[k] = 92
      · have HE : Hid (s[k] = 92) := hesc
        have hb : (((s[k].toNat : Int)) == 92) = true := by rw [hesc]; rfl
        clear hesc
        go_wp2
        go_round
        case rel => exact ⟨k + 1, by omega, by go_num, by rw [HS.out, if_pos HE.out]; go_num⟩
        case measure => simp [intOf]; omega
      · have hne : ¬ (s[k].toNat : Int) = 92 := by
          intro e; apply hesc; apply UInt8.toNat.inj; show s[k].toNat = 92; omega
        have hb : (((s[k].toNat : Int)) == 92) = false := by simpa using hne
        have HE : Hid (¬ s[k] = 92) := hesc
        clear hesc hne
        go_wp2
        go_round
        case rel => exact ⟨k + 1, by omega, by go_num, by rw [HS.out, if_neg HE.out]; go_num⟩
        case measure => simp [intOf]; omega
    · have hk2 : List.take k s.data.toList = s.data.toList := List.take_of_length_le (by simp; omega)
      rw [hk2]
      clear hk2 hd hl
      go_wp2
      go_ret
      exact ⟨rfl, rfl⟩

/-- The call returns a bool. -/
def AnyBool (e : Ending) : Prop := ∃ b, e = .returned (.bool b)

set_option maxHeartbeats 400000 in
theorem reach_any (v : Value) (l : List UInt8) (w : World) (hv : Reads w v l) (hl : l.length ≤ 1073741824) :
    Calls Try.prog 11 #[v] w fun e w' => AnyBool e ∧ w' = w := by
  rcases hv with ⟨rfl, a, c, rfl⟩ | ⟨b, off, cap, rfl, _, hc⟩
  · go_enter Try.func11, Try.ntmps11
    go_wp2
    go_loop [2, 3, 4] (fun _ i _ => i = .int .i64 0) (fun _ _ _ => 0)
    case atStart => rfl
    case round =>
      subst hrel
      go_wp2
      go_ret
      exact ⟨⟨_, rfl⟩, rfl⟩
  · go_enter Try.func11, Try.ntmps11
    go_wp2
    go_loop [2, 3, 4] (fun _ i _ => ∃ k : Nat, k ≤ l.length ∧ i = .int .i64 k) (fun _ i _ => l.length - (intOf i).toNat)
    case atStart => exact ⟨0, Nat.zero_le _, rfl⟩
    case round =>
      obtain ⟨k, hk, rfl⟩ := hrel
      by_cases hlt : k < l.length
      · have h1 := hc k hlt
        by_cases hlt2 : k + 1 < l.length
        · have h2 := hc (k + 1) hlt2
          clear hc
          go_wp2
          all_goals first
            | (go_ret; exact ⟨⟨_, rfl⟩, rfl⟩)
            | (refine ⟨⟨k + 2, by omega, by go_num⟩, ?_⟩; simp [intOf]; omega)
            | (refine ⟨⟨k + 1, by omega, by go_num⟩, ?_⟩; simp [intOf]; omega)
        · clear hc
          go_wp2
          all_goals first
            | (go_ret; exact ⟨⟨_, rfl⟩, rfl⟩)
            | (refine ⟨⟨k + 2, by omega, by go_num⟩, ?_⟩; simp [intOf]; omega)
            | (refine ⟨⟨k + 1, by omega, by go_num⟩, ?_⟩; simp [intOf]; omega)
      · clear hc
        go_wp2
        go_ret
        exact ⟨⟨_, rfl⟩, rfl⟩


set_option maxHeartbeats 1000000 in
theorem clone_any (v : Value) (l : List UInt8) (w : World) (hv : Reads w v l) (hl : l.length ≤ 16777216) :
    Calls Try.prog 12 #[v] w fun e w' => ∃ v', e = .returned v' ∧ w'.ownsRow w.heap.size 5 1 v' l.length (bv l) ∧ Below w.heap.size w w' := by
  obtain ⟨i0, hi0, hz0, hz1, hz2⟩ := info_parts Try.info5
  have hnil := fun (wx : World) (a : Option Addr) (n c : Nat) => Lib.run_eql_slice_nil (P := Try.prog) wx 24 5 a n c 0 0 Try.underlying24
  rcases hv with ⟨rfl, a, c, rfl⟩ | ⟨b, off, cap, rfl, hbl, hc⟩
  · cases a with
    | none =>
      go_enter Try.func12, Try.ntmps12
      go_wp2
      go_ret
      exact ⟨_, rfl, World.ownsRow_nil _ _ _ _, Below.refl _ _⟩
    | some x =>
      go_enter Try.func12, Try.ntmps12
      go_wp2_with (at_make; refine wpList_make_full _ rfl _ _ 24 rfl w.heap.size 5 i0 (.int .u8 0) 1 Try.underlying24 hi0 hz0 hz1 .i64 .i64 _ _ 0 rfl rfl rfl rfl (by rw [hz2]; omega) (by unfold maxLen; omega) (Nat.le_refl _) ?_; intro w0 hown0 hgrow0)
      have hb0 : Below w.heap.size w w0 := (Below.refl _ _).grown hgrow0 (Nat.le_refl _) (by simp)
      have HO : Hid (w0.ownsRow w.heap.size 5 1 (.slice (some ⟨w.heap.size, 0, none⟩) 0 0) 0 (bv [])) := by
        show w0.ownsRow _ _ _ _ _ _
        simpa [bv, madeCells] using hown0
      clear hown0
      go_loop [4] (fun i => i = .int .i64 0) (fun _ => 0)
      case atStart => rfl
      case round =>
        subst hrel
        go_wp2
        go_ret
        exact ⟨_, rfl, HO.out, hb0⟩
  · have HC : Hid (∀ i (h : i < l.length), w.cell? ⟨b, off + i, none⟩ = some (.int .u8 (l[i].toNat : Int))) := hc
    clear hc
    go_enter Try.func12, Try.ntmps12
    go_wp2_with (at_make; refine wpList_make_full _ rfl _ _ 24 rfl w.heap.size 5 i0 (.int .u8 0) 1 Try.underlying24 hi0 hz0 hz1 .i64 .i64 _ _ l.length rfl rfl rfl rfl (by rw [hz2]; omega) (by unfold maxLen; omega) (Nat.le_refl _) ?_; intro w0 hown0 hgrow0)
    have hb0 : Below w.heap.size w w0 := (Below.refl _ _).grown hgrow0 (Nat.le_refl _) (by simp)
    have HO : Hid (w0.ownsRow w.heap.size 5 1 (.slice (some ⟨w.heap.size, 0, none⟩) l.length l.length) l.length (madeCells (Value.int IntKind.u8 0).cells (l.length * 1)).toList) := hown0
    clear hown0 hgrow0
    go_loopw [4] (fun i wr => ∃ (k : Nat) (xs : List Value), k ≤ l.length ∧ i = .int .i64 k ∧ wr.ownsRow w.heap.size 5 1 (.slice (some ⟨w.heap.size, 0, none⟩) l.length l.length) l.length xs ∧ xs.take k = bv (l.take k) ∧ Below w.heap.size w wr) (fun i _ => l.length - (intOf i).toNat)
    case atStart => exact ⟨0, _, Nat.zero_le _, rfl, HO.out, by simp [bv], hb0⟩
    case round =>
      obtain ⟨k, xs, hk, rfl, hown, htk, hbel⟩ := hrel
      have HW : Hid (wr.ownsRow w.heap.size 5 1 (.slice (some ⟨w.heap.size, 0, none⟩) l.length l.length) l.length xs ∧ xs.take k = bv (l.take k)) := ⟨hown, htk⟩
      clear hown htk HO hb0
      by_cases hlt : k < l.length
      · have c1 := (hbel.cell (p := ⟨b, off + k, none⟩) hbl).trans (HC.out k hlt)
        have hxl : xs.length = l.length := by have := HW.out.1.1; omega
        have c2 : wr.cell? ⟨w.heap.size, k, none⟩ = some (xs[k]'(by omega)) := by
          rw [HW.out.1.cellAt k (by omega), List.getElem?_eq_getElem (by omega)]
        have f2 := HW.out.1.frozenAt k
        go_wp2
        have R : Hid ((wr.setCell ⟨w.heap.size, k, none⟩ (.int .u8 (l[k].toNat : Int))).ownsRow w.heap.size 5 1 (.slice (some ⟨w.heap.size, 0, none⟩) l.length l.length) l.length (xs.set k (.int .u8 (l[k].toNat : Int))) ∧ (xs.set k (.int .u8 (l[k].toNat : Int))).take (k + 1) = bv (l.take (k + 1)) ∧ Below w.heap.size w (wr.setCell ⟨w.heap.size, k, none⟩ (.int .u8 (l[k].toNat : Int)))) := by
          refine ⟨(HW.out.1.stored k _).1, ?_, hbel.setCell (Nat.le_refl _) _⟩
          rw [set_take _ _ _ (by omega), HW.out.2, bv_take_snoc l k hlt]
        go_roundw
        case rel => exact ⟨k + 1, _, by omega, by go_num, R.out.1, R.out.2.1, R.out.2.2⟩
        case measure => simp [intOf]; omega
      · have hke : k = l.length := by omega
        have hxs : xs = bv l := by
          have h2 := HW.out.2
          have h1 := HW.out.1.1
          rw [hke, List.take_length, List.take_of_length_le (by omega)] at h2
          exact h2
        have HO2 : Hid (wr.ownsRow w.heap.size 5 1 (.slice (some ⟨w.heap.size, 0, none⟩) l.length l.length) l.length (bv l)) := by
          rw [← hxs]; exact HW.out.1
        clear HW hxs hke
        go_wp2
        go_ret
        exact ⟨_, rfl, HO2.out, hbel⟩

end Go.Proofs.Qxb6628940a
