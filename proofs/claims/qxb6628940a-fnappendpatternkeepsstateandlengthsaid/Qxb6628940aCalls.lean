import Derived.Test.Qxb6628940aApp
import Derived.Deep.QuietTactic
import Derived.BigQuiet
import Derived.Laws.IdiomStrings
import Derived.Laws.BytesArg
namespace Go.Proofs.Qxb6628940a
open Go.RowKit

/-- The slice value v reads, in w, as the bytes l. -/
def Reads (w : World) (v : Value) (l : List UInt8) : Prop :=
  (l = [] ∧ ∃ a c, v = .slice a 0 c) ∨
  ∃ b off cap, v = .slice (some ⟨b, off, none⟩) l.length cap ∧ b < w.heap.size ∧ ∀ i (h : i < l.length), w.cell? ⟨b, off + i, none⟩ = some (.int .u8 (l[i].toNat : Int))

theorem Reads.below {B : Nat} {w w' : World} {v : Value} {l : List UInt8} (h : Reads w v l) (hb : Below B w w') (hlt : ∀ g, v.ownBlock = some g → g < B) : Reads w' v l := by
  rcases h with h | ⟨b, off, cap, rfl, hbl, hc⟩
  · exact .inl h
  · have := hlt b rfl
    exact .inr ⟨b, off, cap, rfl, Nat.lt_of_lt_of_le hbl hb.size, fun i hi => (hb.cell (p := ⟨b, off + i, none⟩) this).trans (hc i hi)⟩

theorem addr_add (g i : Nat) : (⟨g, 0, none⟩ : Addr).add i = ⟨g, i, none⟩ := by unfold Addr.add; split <;> simp_all

theorem reads_of_own {w : World} {base n : Nat} {v : Value} {l : List UInt8} (h : w.ownsRow base 5 1 v n (bv l)) : Reads w v l := by
  have h1 := h.1
  rcases h.2 with ⟨rfl, h0⟩ | ⟨g, cap, cur, rfl, hb, hg, rest⟩
  · left
    refine ⟨?_, none, 0, rfl⟩
    subst h0
    simp [bv] at h1; exact h1
  · right
    have hn : n = l.length := by simp [bv] at h1; omega
    subst hn
    refine ⟨g, 0, cap, rfl, (Array.getElem?_eq_some_iff.1 hg).1, fun i hi => ?_⟩
    have := h.cells (g := g) rfl i (.int .u8 (l[i].toNat : Int)) (by simp [bv, hi])
    rw [addr_add] at this
    rw [Nat.zero_add]; exact this

theorem bytes5_yes (a b c : ByteArray) (w : World) (h : a.size + b.size + c.size ≤ 1048576) :
    Calls Try.prog 5 #[.string a, .string b, .string c] w fun e w' => e = .returned (.bool true) ∧ w' = w := by
  go_enter Try.func5, Try.ntmps5
  go_wp2
  go_ret
  exact ⟨rfl, rfl⟩

theorem bytes5_no (a b c : ByteArray) (w : World) (ha : a.size ≤ maxLen) (hb : b.size ≤ maxLen) (hc : c.size ≤ maxLen) (h : ¬ a.size + b.size + c.size ≤ 1048576) :
    Calls Try.prog 5 #[.string a, .string b, .string c] w fun e w' => e = .returned (.bool false) ∧ w' = w := by
  unfold maxLen at *
  go_enter Try.func5, Try.ntmps5
  go_wp2
  all_goals
    go_ret
    exact ⟨rfl, rfl⟩

theorem escaped_any (bp : Nat) (v : Value) (w : World) (hc : w.cell? ⟨bp, 0, none⟩ = some v) :
    Calls Try.prog 7 #[.pointer (some ⟨bp, 0, none⟩)] w fun e w' => e = .returned v ∧ w' = w := by
  go_enter Try.func7, Try.ntmps7
  go_wp2
  go_ret
  exact ⟨rfl, rfl⟩

theorem same_any (x y : Value) (l : List UInt8) (w : World) (hx : Reads w x l) (hy : Reads w y l) (hl : l.length ≤ 1073741824) :
    Calls Try.prog 8 #[x, y] w fun e w' => e = .returned (.bool true) ∧ ∃ n, w' = w.drewN n := by
  rcases hx with ⟨rfl, a, c, rfl⟩ | ⟨b, off, cap, rfl, _, hc⟩
  · have : ∃ a c, y = .slice a 0 c := by
      rcases hy with ⟨_, h⟩ | ⟨b, off, cap, h, _⟩
      · exact h
      · exact ⟨_, _, h⟩
    obtain ⟨a', c', rfl⟩ := this
    go_enter Try.func8, Try.ntmps8
    go_wp2
    go_loop [5] (fun i => i = .int .i64 0) (fun _ => 0)
    case atStart => rfl
    case round =>
      subst hrel
      go_wp2
      go_ret
      exact ⟨rfl, 0, rfl⟩
  · rcases hy with ⟨rfl, a, c, rfl⟩ | ⟨b', off', cap', rfl, _, hc'⟩
    · go_enter Try.func8, Try.ntmps8
      go_wp2
      go_loop [5] (fun i => i = .int .i64 0) (fun _ => 0)
      case atStart => rfl
      case round =>
        subst hrel
        go_wp2
        go_ret
        exact ⟨rfl, 0, rfl⟩
    · go_enter Try.func8, Try.ntmps8
      go_wp2
      go_loopw [5] (fun i wr => ∃ k n : Nat, k ≤ l.length ∧ i = .int .i64 k ∧ wr = w.drewN n) (fun i _ => l.length - (intOf i).toNat)
      case atStart => exact ⟨0, 0, Nat.zero_le _, rfl, rfl⟩
      case round =>
        obtain ⟨k, n, hk, rfl, rfl⟩ := hrel
        by_cases hlt : k < l.length
        · have h1 := hc k hlt
          have h2 := hc' k hlt
          have hi1 : (k : Int) < (l.length : Int) := by omega
          have hi2 : (0 : Int) ≤ (k : Int) := by omega
          clear hc hc'
          go_wp2_with fail
          go_quiet (fail)
          go_wp2
          go_roundw
          case rel => exact ⟨k + 1, _, by omega, by go_num, rfl⟩
          case measure => simp [intOf]; omega
        · clear hc hc'
          go_wp2
          go_ret
          exact ⟨rfl, n, rfl⟩


theorem conv_own {w : World} {base : Nat} {v : Value} {m : List UInt8} (h : w.ownsRow base 5 1 v m.length (bv (m.take m.length))) :
    ∃ a n c, v = .slice a n c ∧ (convert 24 9 (.slice a n c)).run Try.prog w = .ok (.string ⟨m.toArray⟩) w := by
  rw [List.take_length] at h
  rcases h.2 with ⟨rfl, h0⟩ | ⟨g, cap, cur, rfl, hb, hg, rest⟩
  · have : m = [] := List.eq_nil_of_length_eq_zero h0
    subst this
    exact ⟨none, 0, 0, rfl, run_convert_bytes_nil w 24 5 Try.underlying24 Try.underlying5 0 0 9 Try.underlying9⟩
  · refine ⟨_, _, _, rfl, run_convert_bytes_back (P := Try.prog) w 24 9 5 ⟨g, 0, none⟩ cap m Try.underlying24 Try.underlying5 Try.underlying9 (fun j hj => ?_)⟩
    exact h.cells (g := g) rfl j (.int .u8 (m[j].toNat : Int)) (by simp [bv, hj])

set_option maxHeartbeats 1000000 in
theorem decode_any (v : Value) (m : List UInt8) (w : World) (hv : Reads w v (Wild.enc m)) (hm : m.length ≤ 16777216) :
    Calls Try.prog 9 #[v] w fun e w' => e = .returned (.tuple #[.string ⟨m.toArray⟩, .bool true]) ∧ Below w.heap.size w w' := by
  obtain ⟨i0, hi0, hz0, hz1, hz2⟩ := info_parts Try.info5
  have hel := Wild.enc_length_le m
  rcases hv with ⟨he, a, c, rfl⟩ | ⟨b, off, cap, rfl, hbl, hc⟩
  · obtain rfl := Wild.enc_nil he
    go_enter Try.func9, Try.ntmps9
    go_wp2_with (at_make; refine wpList_make_own _ rfl _ _ 24 rfl w.heap.size 5 i0 (.int .u8 0) 1 Try.underlying24 hi0 hz0 hz1 .i64 .i64 _ 0 rfl rfl rfl (by rw [hz2]; omega) (by unfold maxLen; omega) (Nat.le_refl _) ?_; intro w0 hown0 hgrow0)
    have hb0 : Below w.heap.size w w0 := (Below.refl _ _).grown hgrow0 (Nat.le_refl _) (by simp)
    have hconv : (convert 24 9 (.slice (some ⟨w.heap.size, 0, none⟩) 0 0)).run Try.prog w0 = .ok (.string ⟨#[]⟩) w0 := run_convert_bytes_back (P := Try.prog) w0 24 9 5 ⟨w.heap.size, 0, none⟩ 0 [] Try.underlying24 Try.underlying5 Try.underlying9 (fun j hj => absurd hj (by simp))
    go_loop [2, 3, 4, 5] (fun _ _ u i => i = .int .i64 0 ∧ u = .slice (some ⟨w.heap.size, 0, none⟩) 0 0) (fun _ _ _ _ => 0)
    case atStart => exact ⟨rfl, rfl⟩
    case round =>
      obtain ⟨rfl, rfl⟩ := hrel
      go_wp2
      go_ret2
      exact ⟨rfl, hb0⟩
  · have hcell : ∀ j c, (Wild.enc m)[j]? = some c → w.cell? ⟨b, off + j, none⟩ = some (.int .u8 (c.toNat : Int)) := by
      intro j c h
      obtain ⟨hj, h2⟩ := List.getElem?_eq_some_iff.1 h
      rw [hc j hj, h2]
    have HC : Hid (∀ j c, (Wild.enc m)[j]? = some c → w.cell? ⟨b, off + j, none⟩ = some (.int .u8 (c.toNat : Int))) := hcell
    clear hc hcell
    go_enter Try.func9, Try.ntmps9
    go_wp2_with (at_make; refine wpList_make_own _ rfl _ _ 24 rfl w.heap.size 5 i0 (.int .u8 0) 1 Try.underlying24 hi0 hz0 hz1 .i64 .i64 _ (Wild.enc m).length rfl rfl rfl (by rw [hz2]; omega) (by unfold maxLen; omega) (Nat.le_refl _) ?_; intro w0 hown0 hgrow0)
    have hb0 : Below w.heap.size w w0 := (Below.refl _ _).grown hgrow0 (Nat.le_refl _) (by simp)
    go_loopw [4, 5] (fun u i wr => ∃ k : Nat, k ≤ m.length ∧ i = .int .i64 ((Wild.enc (m.take k)).length : Nat) ∧ wr.ownsRow w.heap.size 5 1 u k (bv (m.take k)) ∧ Below w.heap.size w wr) (fun _ i _ => (Wild.enc m).length - (intOf i).toNat)
    case atStart => exact ⟨0, Nat.zero_le _, rfl, by simpa [bv] using hown0, hb0⟩
    case round =>
      obtain ⟨k, hk, rfl, hown, hbel⟩ := hrel
      clear hown0 hgrow0 hb0
      have HO : Hid (wr.ownsRow w.heap.size 5 1 u4 k (bv (m.take k))) := hown
      clear hown
      have hsz := hbel.size
      by_cases hlt : k < m.length
      · obtain ⟨j, hj⟩ : ∃ j, (Wild.enc (m.take k)).length = j := ⟨_, rfl⟩
        have HT : Hid (m.take (k + 1) = m.take k ++ [m[k]]) := Wild.take_snoc m k hlt
        rw [hj]
        by_cases h92 : m[k] = 92
        · obtain ⟨q1, q2, q3, q4⟩ := Wild.dec_hit m k j hlt hj h92
          have c1 := (hbel.cell (p := ⟨b, off + j, none⟩) hbl).trans (HC.out j 92 q2)
          have c2 := (hbel.cell (p := ⟨b, off + (j + 1), none⟩) hbl).trans (HC.out (j + 1) 92 q3)
          have HJ : Hid ((Wild.enc (m.take k)).length = j ∧ (Wild.enc (m.take (k + 1))).length = j + 2) := ⟨hj, q4⟩
          have HK : Hid (m[k] = 92) := h92
          clear q2 q3 q4 hj h92
          go_wp2_with (at_builtin; refine wpList_append_lies _ rfl (.tmp 31) (.tmp 32) 24 rfl w.heap.size 5 i0 (.int .u8 0) 1 1 Try.underlying24 hi0 hz0 hz1 hz2 rfl (by omega) u4 k (bv (m.take k)) rfl (HO.out.alloc _) ⟨wr.heap.size, 0, none⟩ 1 1 [.int .u8 92] rfl rfl (World.news_of_block (cs := #[.int .u8 92]) (t := 5) (fr := (0, 0)) (heap_alloc_new wr _)) (by simp [Value.oneCell']) (by omega) (by unfold maxLen; omega) (by omega) (by simp; omega) (wr.heap.size + 1) (by simp) ?_; intro g cap1 w1 hown1 hgrow1 hat1 hlt1)
          have R : Hid (w1.ownsRow w.heap.size 5 1 (.slice (some ⟨g, 0, none⟩) (k + 1) cap1) (k + 1) (bv (m.take (k + 1))) ∧ Below w.heap.size w w1) := by
            refine ⟨?_, (hbel.alloc (by omega) _).grown hgrow1 (by simp; omega) (fun q hq => (HO.out.lt q hq).1)⟩
            rw [HT.out, bv_append, HK.out]; exact hown1
          clear hown1 hgrow1 hat1 hlt1
          go_roundw
          case rel => exact ⟨k + 1, by omega, by rw [HJ.out.2]; go_num, R.out.1, R.out.2⟩
          case measure => simp [intOf]; omega
        · obtain ⟨q1, q2, q4⟩ := Wild.dec_miss m k j hlt hj h92
          have c1 := (hbel.cell (p := ⟨b, off + j, none⟩) hbl).trans (HC.out j m[k] q2)
          have hne : ((m[k].toNat : Int) == 92) = false := by
            have : ¬ (m[k].toNat : Int) = 92 := by
              intro e; apply h92; apply UInt8.toNat.inj; show m[k].toNat = 92; omega
            simpa using this
          have HJ : Hid ((Wild.enc (m.take k)).length = j ∧ (Wild.enc (m.take (k + 1))).length = j + 1) := ⟨hj, q4⟩
          clear q2 q4 hj h92
          go_wp2_with (at_builtin; refine wpList_append_lies _ rfl (.tmp 36) (.tmp 41) 24 rfl w.heap.size 5 i0 (.int .u8 0) 1 1 Try.underlying24 hi0 hz0 hz1 hz2 rfl (by omega) u4 k (bv (m.take k)) rfl (HO.out.alloc _) ⟨wr.heap.size, 0, none⟩ 1 1 [.int .u8 (m[k].toNat : Int)] rfl rfl (World.news_of_block (cs := #[.int .u8 (m[k].toNat : Int)]) (t := 5) (fr := (0, 0)) (heap_alloc_new wr _)) (by simp [Value.oneCell']) (by omega) (by unfold maxLen; omega) (by omega) (by simp; omega) (wr.heap.size + 1) (by simp) ?_; intro g cap1 w1 hown1 hgrow1 hat1 hlt1)
          have R : Hid (w1.ownsRow w.heap.size 5 1 (.slice (some ⟨g, 0, none⟩) (k + 1) cap1) (k + 1) (bv (m.take (k + 1))) ∧ Below w.heap.size w w1) := by
            refine ⟨?_, (hbel.alloc (by omega) _).grown hgrow1 (by simp; omega) (fun q hq => (HO.out.lt q hq).1)⟩
            rw [HT.out, bv_append]; exact hown1
          clear hown1 hgrow1 hat1 hlt1
          go_roundw
          case rel => exact ⟨k + 1, by omega, by rw [HJ.out.2]; go_num, R.out.1, R.out.2⟩
          case measure => simp [intOf]; omega
      · have hke : k = m.length := by omega
        subst hke
        obtain ⟨a1, n1, c1, rfl, hconv⟩ := conv_own HO.out
        rw [List.take_length]
        go_wp2
        go_ret2
        exact ⟨rfl, hbel⟩

theorem Reads.drewN {w : World} {v : Value} {l : List UInt8} (h : Reads w v l) (n : Nat) : Reads (w.drewN n) v l := by
  rcases h with h | ⟨b, off, cap, rfl, hbl, hc⟩
  · exact .inl h
  · exact .inr ⟨b, off, cap, rfl, by simpa using hbl, fun i hi => by simpa using hc i hi⟩

theorem drewN_below (w : World) (B n : Nat) : Below B w (w.drewN n) := by
  induction n generalizing w with
  | zero => exact Below.refl _ _
  | succ n ih => exact (ih w).drew

theorem Pat.zero (w : World) : Pat (w.alloc (.cells #[.slice none 0 0] 26)) w.heap.size w.heap.size [] :=
  ⟨.slice none 0 0, ⟨by simp, World.ownsRow_nil _ _ _ _, by simp [Value.ownBlock], by simp, Nat.le_refl _⟩⟩

theorem enc_small {a : ByteArray} (h : a.size ≤ 1048576) : (Wild.enc a.data.toList).length ≤ 16777216 := by
  have := Wild.enc_length_le a.data.toList
  have h2 : a.data.toList.length = a.size := by simp
  omega
theorem enc_small2 {a b : ByteArray} (h : a.size + b.size ≤ 1048576) : (Wild.enc (a.data.toList ++ b.data.toList)).length ≤ 16777216 := by
  have := Wild.enc_length_le (a.data.toList ++ b.data.toList)
  have h2 : a.data.toList.length = a.size := by simp
  have h3 : b.data.toList.length = b.size := by simp
  rw [List.length_append] at this
  omega

end Go.Proofs.Qxb6628940a
