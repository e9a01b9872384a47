import Derived.Test.Qxb6630026aDoorNeg
namespace Go.Proofs.Qxb6630026aDoor
open Go.RowKit

theorem magnitude (u : Nat) (w : World) (hu1 : 1 ≤ u) (hu2 : u ≤ 9223372036854775808) :
    Calls Tryd.prog 9 #[.int .i64 (-(u : Int))] w fun e w' => e = .returned (.int .u64 (u : Int)) ∧ w' = w := by
  have hneg : -(u : Int) < 0 := by omega
  have f0 : decide (0 ≤ -(u : Int)) = false := by simp; omega
  go_enter Tryd.func9, Tryd.ntmps9
  go_wp2
  go_ret
  refine ⟨?_, rfl⟩
  show Ending.returned (.int .u64 (-(-(u : Int) + 1) + 1)) = _
  rw [show -(-(u : Int) + 1) + 1 = (u : Int) by omega]

theorem value_any (v : Value) (L m : Nat) (w : World) (hv : Reads w v (Plain.digs L m)) (hL : 1 ≤ L) (hL2 : L ≤ 20) (hm : m < 10 ^ L) (hm2 : m ≤ 9223372036854775808) :
    Calls Tryd.prog 8 #[v] w fun e w' => e = .returned (.tuple #[.int .u64 (m : Int), .bool true]) ∧ w' = w := by
  obtain ⟨a, c, rfl, hlc, _, hc⟩ := hv
  have hc' : Hid (∀ k, k < L → ∃ b off, a = some ⟨b, off, none⟩ ∧ w.cell? ⟨b, off + k, none⟩ = some (.int .u8 (48 + ((m / 10 ^ (L - 1 - k) % 10 : Nat) : Int)))) := by
    intro k hk
    obtain ⟨b, off, e, _, hcell⟩ := hc k (by rw [Plain.digs_length]; exact hk)
    refine ⟨b, off, e, ?_⟩
    rw [hcell, Plain.digs_get_toNat]
    rfl
  clear hc
  rw [Plain.digs_length] at hlc ⊢
  have HM : Hid (m < 10 ^ L) := hm
  clear hm
  go_enter Tryd.func8, Tryd.ntmps8
  go_wp2_with fail
  go_loopw [4, 5] (fun x i wr => ∃ k : Nat, k ≤ L ∧ i = .int .i64 (k : Int) ∧ x = .int .u64 ((m / 10 ^ (L - k) : Nat) : Int) ∧ wr = w) (fun _ i _ => L - (intOf i).toNat)
  case atStart => exact ⟨0, Nat.zero_le _, rfl, by rw [Nat.sub_zero, Nat.div_eq_of_lt HM.out]; rfl, rfl⟩
  case round =>
    obtain ⟨k, hk, rfl, rfl, rfl⟩ := hrel
    by_cases hlt : k < L
    · obtain ⟨b, off, rfl, hcell⟩ := hc'.out k hlt
      have hst := Plain.value_step m L k hlt
      obtain ⟨y, hy⟩ : ∃ y, m / 10 ^ (L - (k + 1)) = y := ⟨_, rfl⟩
      have hym : y ≤ 9223372036854775808 := by rw [← hy]; exact Nat.le_trans (Nat.div_le_self _ _) hm2
      obtain ⟨x, hx⟩ : ∃ x, m / 10 ^ (L - k) = x := ⟨_, rfl⟩
      obtain ⟨d, hd⟩ : ∃ d, m / 10 ^ (L - 1 - k) % 10 = d := ⟨_, rfl⟩
      have hd10 : d < 10 := by rw [← hd]; omega
      have HY : Hid (m / 10 ^ (L - (k + 1)) = y) := hy
      rw [hx, hd, hy] at hst
      rw [hd] at hcell
      rw [hx]
      clear hy hx hd
      have i1 : (k : Int) < (L : Int) := by omega
      have i2 : (0 : Int) ≤ (k : Int) := by omega
      have f1 : decide ((48 : Int) + (d : Int) < 48) = false := by simp; omega
      have f2 : decide ((57 : Int) < 48 + (d : Int)) = false := by simp; omega
      go_wp2_with fail
      refine ⟨⟨k + 1, by omega, by go_num, ?_, trivial⟩, by simp [intOf]; omega⟩
      rw [HY.out, ← hst]
      go_num
    · have : k = L := by omega
      subst this
      rw [show m / 10 ^ (k - k) = m by simp]
      go_wp2_with fail
      go_ret2
      exact ⟨rfl, rfl⟩
end Go.Proofs.Qxb6630026aDoor
