/-
  THE WALKS over token, and over the clone of a slice of bytes.
-/
import Derived.Test.Qxb6003453aReads2
namespace Go.Proofs.Qxb6003453a
open Go.RowKit Go.Proofs.Qxb6003453a.Plain

def markText : ByteArray := ⟨#[33, 35, 36, 37, 38, 39, 42, 43, 45, 46, 94, 95, 96, 124, 126]⟩

theorem tokB_in {c : Int} (h : (97 ≤ c ∧ c ≤ 122) ∨ (65 ≤ c ∧ c ≤ 90) ∨ (48 ≤ c ∧ c ≤ 57)) : tokB c = true := by
  unfold tokB
  rcases h with h | h | h
  · rw [decide_eq_true h]; simp
  · rw [decide_eq_true h]; simp
  · rw [decide_eq_true h]; simp

theorem tokB_out {c : Int} (h : ¬ ((97 ≤ c ∧ c ≤ 122) ∨ (65 ≤ c ∧ c ≤ 90) ∨ (48 ≤ c ∧ c ≤ 57))) : tokB c = memB marks c := by
  unfold tokB
  rw [decide_eq_false (by omega : ¬ (97 ≤ c ∧ c ≤ 122)), decide_eq_false (by omega : ¬ (65 ≤ c ∧ c ≤ 90)), decide_eq_false (by omega : ¬ (48 ≤ c ∧ c ≤ 57))]
  rfl

theorem token_empty (a : Option Addr) (cap : Nat) (w : World) :
    Calls Try.prog 23 #[.slice a 0 cap] w fun e w' => e = .returned (.bool false) ∧ w' = w := by
  go_enter Try.func23, Try.ntmps23
  go_wp2
  go_ret
  exact ⟨rfl, rfl⟩

set_option maxHeartbeats 800000 in
theorem token_any (b off len cap : Nat) (z : Nat → Int) (w : World) (h0 : 0 < len) (hm : len ≤ maxLen) (hz : ∀ k, 0 ≤ z k ∧ z k ≤ 255) (hc : ∀ k, k < len → w.cell? ⟨b, off + k, none⟩ = some (.int .u8 (z k))) :
    Calls Try.prog 23 #[.slice (some ⟨b, off, none⟩) len cap] w fun e w' => e = .returned (.bool (allUpTo tokB z len)) ∧ w' = w := by
  unfold maxLen at hm
  have hne : ((len : Int) == 0) = false := by simp; omega
  go_enter Try.func23, Try.ntmps23
  go_wp2
  go_loop [10] (fun i => ∃ k : Nat, k ≤ len ∧ i = .int .i64 k ∧ allUpTo tokB z k = true) (fun i => len - (intOf i).toNat)
  case atStart => exact ⟨0, Nat.zero_le _, rfl, rfl⟩
  case round =>
    obtain ⟨k, hk, rfl, ha⟩ := hrel
    have HA : Hid (allUpTo tokB z k = true) := ha
    clear ha
    by_cases hlt : k < len
    · have hcell := hc k hlt
      have hzk := hz k
      clear hc hz
      obtain ⟨c, hcz⟩ : ∃ c, z k = c := ⟨_, rfl⟩
      rw [hcz] at hcell hzk
      have HC : Hid (z k = c) := hcz
      clear hcz
      by_cases hin : (97 ≤ c ∧ c ≤ 122) ∨ (65 ≤ c ∧ c ≤ 90) ∨ (48 ≤ c ∧ c ≤ 57)
      · have HT : Hid (tokB c = true) := tokB_in hin
        rcases hin with hin | hin | hin
        all_goals
          obtain ⟨hlo, hhi⟩ := hin
          go_wp2
          go_round
          case rel => exact ⟨k + 1, by omega, by go_num, allUpTo_step HA.out (by rw [HC.out]; exact HT.out)⟩
          case measure => simp [intOf]; omega
      · have HT : Hid (tokB c = memB marks c) := tokB_out hin
        have HM : Hid (memB marks c = decide (0 ≤ firstIdx markText c.toNat.toUInt8)) := firstIdx_mem markText c hzk.1 hzk.2
        have hidx := indexByte_any markText c w
        obtain ⟨j, hj⟩ : ∃ j, firstIdx markText c.toNat.toUInt8 = j := ⟨_, rfl⟩
        rw [hj] at hidx
        unfold markText at hidx
        have HJ : Hid (firstIdx markText c.toNat.toUInt8 = j) := hj
        clear hj
        have hr : c < 48 ∨ (58 ≤ c ∧ c ≤ 64) ∨ (91 ≤ c ∧ c ≤ 96) ∨ 123 ≤ c := by omega
        clear hin
        by_cases hjp : 0 ≤ j
        · rcases hr with hr | ⟨hr, hr'⟩ | ⟨hr, hr'⟩ | hr
          all_goals
            go_wp2_with (go_at_call 27; refine hidx.mono ?_; rintro e w' ⟨rfl, rfl⟩)
            go_round
            case rel => exact ⟨k + 1, by omega, by go_num, allUpTo_step HA.out (by rw [HC.out, HT.out, HM.out, HJ.out]; simpa using hjp)⟩
            case measure => simp [intOf]; omega
        · rcases hr with hr | ⟨hr, hr'⟩ | ⟨hr, hr'⟩ | hr
          all_goals
            go_wp2_with (go_at_call 27; refine hidx.mono ?_; rintro e w' ⟨rfl, rfl⟩)
            · go_ret
              exact ⟨ret_bool (allUpTo_false hlt (by rw [HC.out, HT.out, HM.out, HJ.out]; simpa using hjp)).symm, rfl⟩
            · exfalso; rename_i hx; simp only [Bool.not_eq_false', decide_eq_true_eq] at hx; omega
    · have : k = len := by omega
      subst this
      go_wp2
      go_ret
      exact ⟨ret_bool HA.out.symm, rfl⟩

end Go.Proofs.Qxb6003453a
