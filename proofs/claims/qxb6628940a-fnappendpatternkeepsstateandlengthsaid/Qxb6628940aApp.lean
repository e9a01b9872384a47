import Derived.Test.Qxb6628940aRows
import Derived.Test.Qxb6628940aPlain
import Derived.WalkKit
import Derived.WalkSpells
import Derived.ProofKit
import Derived.Deep.RegionLaw
import Derived.Deep.DrawnRows
import Derived.Deep.AppendLies
import Derived.Deep.LoopGhost
namespace Go.Proofs.Qxb6628940a
open Go.RowKit

theorem Try.info5 : (Try.prog.info? 5).map (fun i => (i.zero, i.size, i.bytes)) = some (some (.int .u8 0), 1, 1) := by kernel_rfl

/-- A list of bytes, as cells. -/
def bv (l : List UInt8) : List Value := l.map fun c => .int .u8 (c.toNat : Int)
theorem bv_length (l : List UInt8) : (bv l).length = l.length := by simp [bv]
theorem bv_append (a b : List UInt8) : bv (a ++ b) = bv a ++ bv b := by simp [bv]

/-- At block bp lies a Pattern whose field holds v, which owns the bytes l, in a row from block 'base' on that is not the Pattern's own block. -/
structure PatV (w : World) (base bp : Nat) (v : Value) (l : List UInt8) : Prop where
  cell : w.cell? ⟨bp, 0, none⟩ = some v
  own : w.ownsRow base 5 1 v l.length (bv l)
  ne : v.ownBlock ≠ some bp
  fz : w.frozen? ⟨bp, 0, none⟩ = false
  le : base ≤ bp

def Pat (w : World) (base bp : Nat) (l : List UInt8) : Prop := ∃ v, PatV w base bp v l

theorem PatV.lt {w : World} {base bp : Nat} {v : Value} {l : List UInt8} (h : PatV w base bp v l) : bp < w.heap.size := World.block_lt_of_cell? w _ h.cell

theorem ownsRow_setCell_other {w : World} {base : Nat} {e : TypeId} {size : Nat} {v : Value} {n : Nat} {xs : List Value} (h : w.ownsRow base e size v n xs) {a : Addr} (ha : v.ownBlock ≠ some a.block) (u : Value) : (w.setCell a u).ownsRow base e size v n xs := by
  obtain ⟨h1, h2⟩ := h
  refine ⟨h1, ?_⟩
  rcases h2 with h2 | ⟨g, cap, cur, hv, hg, hh, r⟩
  · exact Or.inl h2
  · refine Or.inr ⟨g, cap, cur, hv, hg, ?_, r⟩
    subst hv
    have hne : g ≠ a.block := fun e => ha (by simp [Value.ownBlock, e])
    rw [Below.heap_setCell _ _ _ _ hne]; exact hh

/-- WHAT ONE 'p.escaped = append(p.escaped, c)' LEAVES. -/
theorem pat_step {w w1 : World} {base bp g cap : Nat} {v : Value} {l : List UInt8} {c : UInt8} {o : Obj} (hp : PatV w base bp v l)
    (hown : w1.ownsRow base 5 1 (.slice (some ⟨g, 0, none⟩) (l.length + 1) cap) (l.length + 1) (bv l ++ [.int .u8 (c.toNat : Int)]))
    (hgrow : (w.alloc o).grownBy w1 v.ownBlock) (hat : v.ownBlock = some g ∨ g = w.heap.size + 1) :
    PatV (w1.setCell ⟨bp, 0, none⟩ (.slice (some ⟨g, 0, none⟩) (l.length + 1) cap)) base bp (.slice (some ⟨g, 0, none⟩) (l.length + 1) cap) (l ++ [c]) ∧
    Below base w (w1.setCell ⟨bp, 0, none⟩ (.slice (some ⟨g, 0, none⟩) (l.length + 1) cap)) := by
  have hlt := hp.lt
  have hle := hp.le
  have hne : g ≠ bp := by
    rcases hat with h | h
    · intro e; exact hp.ne (by rw [h, e])
    · omega
  have hc1 : w1.cell? ⟨bp, 0, none⟩ = some v := by
    rw [hgrow.cell_far _ (by simp; omega) (Ne.symm hp.ne), World.cell?_alloc_lt w _ _ hlt]; exact hp.cell
  have hf1 : w1.frozen? ⟨bp, 0, none⟩ = false := by
    rw [hgrow.frozen_far _ (by simp; omega) (Ne.symm hp.ne), World.frozen?_alloc_old _ _ _ (by simp; omega)]; exact hp.fz
  have hb : Below base w w1 := ((Below.refl base w).alloc (by omega) o).grown hgrow (by simp; omega) (fun k hk => (hp.own.lt k hk).1)
  refine ⟨⟨?_, ?_, ?_, ?_, hle⟩, hb.setCell hle _⟩
  · exact World.cell?_setCell_same _ _ _ hc1
  · have := ownsRow_setCell_other hown (a := ⟨bp, 0, none⟩) (by simp [Value.ownBlock]; exact hne) (.slice (some ⟨g, 0, none⟩) (l.length + 1) cap)
    rw [bv_append]; simpa [bv] using this
  · simp [Value.ownBlock]; exact hne
  · rw [World.frozen?_setCell]; exact hf1


theorem take_snoc (s : ByteArray) (k : Nat) (h : k < s.size) : s.data.toList.take (k + 1) = s.data.toList.take k ++ [s[k]] := by
  rw [List.take_succ_eq_append_getElem (by simpa using h)]; rfl

attribute [local go_sem ↓] Go.wp_at_zero Go.wp_at_succ
set_option maxHeartbeats 1000000 in
theorem append_any (s : ByteArray) (l : List UInt8) (base bp : Nat) (w : World) (hp : Pat w base bp l) (hs : s.size ≤ 4194304) (hl : l.length ≤ 16777216) :
    Calls Try.prog 6 #[.pointer (some ⟨bp, 0, none⟩), .string s] w fun e w' => e = .returned (.tuple #[]) ∧ Pat w' base bp (l ++ Wild.enc s.data.toList) ∧ Below base w w' := by
  obtain ⟨i0, hi0, hz0, hz1, hz2⟩ := info_parts Try.info5
  go_enter Try.func6, Try.ntmps6
  go_wp2
  go_loopw [4] (fun i wr => ∃ k : Nat, k ≤ s.size ∧ i = .int .i64 k ∧ Pat wr base bp (l ++ Wild.enc (s.data.toList.take k)) ∧ Below base w wr) (fun i _ => s.size - (intOf i).toNat)
  case atStart => exact ⟨0, Nat.zero_le _, rfl, by simpa [Wild.enc] using hp, Below.refl _ _⟩
  case round =>
    obtain ⟨k, hk, rfl, hpat, hbel⟩ := hrel
    clear hp
    by_cases hlt : k < s.size
    · have hlen : (Wild.enc (s.data.toList.take k)).length ≤ 8388608 := by
        have := Wild.enc_length_le (s.data.toList.take k)
        have h2 : (s.data.toList.take k).length ≤ k := List.length_take_le _ _
        omega
      have HS : Hid (s.data.toList.take (k + 1) = s.data.toList.take k ++ [s[k]]) := take_snoc s k hlt
      generalize hX : l ++ Wild.enc (s.data.toList.take k) = L at hpat
      have hL : L.length ≤ 33554432 := by rw [← hX]; simp; omega
      have HX : Hid (l ++ Wild.enc (s.data.toList.take k) = L) := hX
      clear hX hlen
      obtain ⟨v, hv⟩ := hpat
      have hcell := hv.cell
      have hfz := hv.fz
      have hblt := hv.lt
      have HV : Hid (PatV wr base bp v L) := hv
      clear hv
      by_cases hesc : s[k] = 92
      · have hb : (((s[k].toNat : Int)) == 92) = true := by rw [hesc]; rfl
        go_wp2_with (at_builtin; refine wpList_append_lies _ rfl (.tmp 19) (.tmp 20) 24 rfl base 5 i0 (.int .u8 0) 1 1 Try.underlying24 hi0 hz0 hz1 hz2 rfl (by omega) v L.length (bv L) rfl (HV.out.own.alloc _) ⟨wr.heap.size, 0, none⟩ 1 1 [.int .u8 92] rfl rfl (World.news_of_block (cs := #[.int .u8 92]) (t := 5) (fr := (0, 0)) (heap_alloc_new wr _)) (by simp [Value.oneCell']) (by omega) (by unfold maxLen; omega) (by omega) (by have := HV.out.le; simp; omega) (wr.heap.size + 1) (by simp) ?_; intro g cap w1 hown hgrow hat hlt1; have hc1 := (hgrow.cell_far ⟨bp, 0, none⟩ (by simp; omega) (Ne.symm HV.out.ne)).trans ((World.cell?_alloc_lt wr _ _ hblt).trans hcell); have hf1 := (hgrow.frozen_far ⟨bp, 0, none⟩ (by simp; omega) (Ne.symm HV.out.ne)).trans ((World.frozen?_alloc_old wr _ _ (by simp; omega)).trans hfz))
        obtain ⟨hv2, hbel2⟩ := pat_step (c := 92) HV.out hown hgrow hat
        have hbel3 := hbel.trans hbel2
        generalize w1.setCell ⟨bp, 0, none⟩ (.slice (some ⟨g, 0, none⟩) (L.length + 1) cap) = w2 at hv2 hbel3 ⊢
        clear hbel hbel2 hown hgrow hat hlt1 hc1 hf1 hcell hfz hblt HV
        have hcell2 := hv2.cell
        have hfz2 := hv2.fz
        have hblt2 := hv2.lt
        have HV2 : Hid (PatV w2 base bp (.slice (some ⟨g, 0, none⟩) (L.length + 1) cap) (L ++ [92])) := hv2
        have hi1 : (k : Int) < (s.size : Int) := by omega
        have hi2 : (0 : Int) ≤ (k : Int) := by omega
        clear hv2
        go_region_law
          ((refine step_append_lies _ (by rfl) _ _ _ (by rfl) base 5 i0 (.int .u8 0) 1 1 Try.underlying24 hi0 hz0 hz1 hz2 rfl (by omega) _ _ _ (by rfl) ((HV2.out.own.alloc _).drew) ⟨w2.heap.size, 0, none⟩ 1 1 [.int .u8 92] (by rfl) (by rfl) (World.news_of_block (cs := #[.int .u8 92]) (t := 5) (fr := (0, 0)) (heap_alloc_new w2 _)) (by simp [Value.oneCell']) (by omega) (by simp; unfold maxLen; omega) (by simp; omega) (by have := HV2.out.le; simp; omega) (w2.heap.size + 1) (by simp) ?_; intro g3 cap3 w3 hown3 hgrow3 hat3 hlt3; have hc3 := (hgrow3.cell_far ⟨bp, 0, none⟩ (by simp; omega) (Ne.symm HV2.out.ne)).trans ((World.cell?_alloc_lt w2 _ _ hblt2).trans hcell2); have hf3 := (hgrow3.frozen_far ⟨bp, 0, none⟩ (by simp; omega) (Ne.symm HV2.out.ne)).trans ((World.frozen?_alloc_old w2 _ _ (by simp; omega)).trans hfz2)))
        all_goals
          obtain ⟨hv4, hbel4⟩ := pat_step (c := 92) HV2.out hown3 ⟨hgrow3.os, hgrow3.tape, hgrow3.output, hgrow3.size, hgrow3.block⟩ hat3
          have hbel5 := hbel3.trans hbel4
          simp only [List.length_append, List.length_cons, List.length_nil, Nat.zero_add] at hv4 hbel5
          have HV4 : Hid (Pat (w3.setCell ⟨bp, 0, none⟩ (.slice (some ⟨g3, 0, none⟩) (L.length + 1 + 1) cap3)) base bp (l ++ Wild.enc (s.data.toList.take (k + 1))) ∧ Below base w (w3.setCell ⟨bp, 0, none⟩ (.slice (some ⟨g3, 0, none⟩) (L.length + 1 + 1) cap3))) := by
            refine ⟨⟨.slice (some ⟨g3, 0, none⟩) (L.length + 1 + 1) cap3, ?_⟩, hbel5⟩
            rw [HS.out, Wild.enc_snoc, Wild.enc1_hit hesc, ← List.append_assoc, HX.out, hesc]
            have : L ++ [92, 92] = L ++ [92] ++ [92] := by simp
            rw [this]; exact hv4
          clear hbel5 hv4 hown3 hgrow3 hat3 hlt3 hbel4 hbel3
          generalize w3.setCell ⟨bp, 0, none⟩ (.slice (some ⟨g3, 0, none⟩) (L.length + 1 + 1) cap3) = w4 at HV4 ⊢
          go_wp2
          go_roundw
          case rel => exact ⟨k + 1, by omega, by go_num, HV4.out.1, HV4.out.2⟩
          case measure => simp [intOf]; omega
      · have hne : ¬ (s[k].toNat : Int) = 92 := by
          intro e; apply hesc; apply UInt8.toNat.inj; show s[k].toNat = 92; omega
        have hb : (((s[k].toNat : Int)) == 92) = false := by simpa using hne
        clear hne
        go_wp2_with fail
        have hi1 : (k : Int) < (s.size : Int) := by omega
        have hi2 : (0 : Int) ≤ (k : Int) := by omega
        go_region_law
          ((refine step_append_lies _ (by rfl) _ _ _ (by rfl) base 5 i0 (.int .u8 0) 1 1 Try.underlying24 hi0 hz0 hz1 hz2 rfl (by omega) _ _ _ (by rfl) ((HV.out.own.alloc _).drew) ⟨wr.heap.size, 0, none⟩ 1 1 [.int .u8 (s[k].toNat : Int)] (by rfl) (by rfl) (World.news_of_block (cs := #[.int .u8 (s[k].toNat : Int)]) (t := 5) (fr := (0, 0)) (heap_alloc_new wr _)) (by simp [Value.oneCell']) (by omega) (by unfold maxLen; omega) (by omega) (by have := HV.out.le; simp; omega) (wr.heap.size + 1) (by simp) ?_; intro g3 cap3 w3 hown3 hgrow3 hat3 hlt3; have hc3 := (hgrow3.cell_far ⟨bp, 0, none⟩ (by simp; omega) (Ne.symm HV.out.ne)).trans ((World.cell?_alloc_lt wr _ _ hblt).trans hcell); have hf3 := (hgrow3.frozen_far ⟨bp, 0, none⟩ (by simp; omega) (Ne.symm HV.out.ne)).trans ((World.frozen?_alloc_old wr _ _ (by simp; omega)).trans hfz)))
        all_goals
          obtain ⟨hv4, hbel4⟩ := pat_step (c := s[k]) HV.out hown3 ⟨hgrow3.os, hgrow3.tape, hgrow3.output, hgrow3.size, hgrow3.block⟩ hat3
          have hbel5 := hbel.trans hbel4
          have HV4 : Hid (Pat (w3.setCell ⟨bp, 0, none⟩ (.slice (some ⟨g3, 0, none⟩) (L.length + 1) cap3)) base bp (l ++ Wild.enc (s.data.toList.take (k + 1))) ∧ Below base w (w3.setCell ⟨bp, 0, none⟩ (.slice (some ⟨g3, 0, none⟩) (L.length + 1) cap3))) := by
            refine ⟨⟨.slice (some ⟨g3, 0, none⟩) (L.length + 1) cap3, ?_⟩, hbel5⟩
            rw [HS.out, Wild.enc_snoc, Wild.enc1_miss hesc, ← List.append_assoc, HX.out]
            exact hv4
          clear hbel5 hv4 hown3 hgrow3 hat3 hlt3 hbel4
          generalize w3.setCell ⟨bp, 0, none⟩ (.slice (some ⟨g3, 0, none⟩) (L.length + 1) cap3) = w4 at HV4 ⊢
          go_wp2
          go_roundw
          case rel => exact ⟨k + 1, by omega, by go_num, HV4.out.1, HV4.out.2⟩
          case measure => simp [intOf]; omega
    · have hk2 : List.take k s.data.toList = s.data.toList := List.take_of_length_le (by simp; omega)
      have HP : Hid (Pat wr base bp (l ++ Wild.enc s.data.toList)) := by rw [hk2] at hpat; exact hpat
      clear hpat hk2
      go_wp2
      go_end0
      exact ⟨rfl, HP.out, hbel⟩

end Go.Proofs.Qxb6628940a
