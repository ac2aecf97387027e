/-
  THE WALKS over the seat's functions that only read: visible, inText, noneIn, token.
-/
import Derived.Test.Qxb6003453aRows
import Derived.Test.Qxb6003453aPlain
import Derived.WalkKit
import Derived.WalkSpells
import Derived.WalkLawsBesides
namespace Go.Proofs.Qxb6003453a
open Go.RowKit Go.Proofs.Qxb6003453a.Plain

theorem ret_bool {a b : Bool} (h : a = b) : Ending.returned (.bool a) = .returned (.bool b) := by rw [h]

set_option maxHeartbeats 400000 in
theorem visible_any (b off len cap : Nat) (z : Nat → Int) (w : World) (hm : len ≤ maxLen) (hz : ∀ k, 0 ≤ z k ∧ z k ≤ 255) (hc : ∀ k, k < len → w.cell? ⟨b, off + k, none⟩ = some (.int .u8 (z k))) :
    Calls Try.prog 21 #[.slice (some ⟨b, off, none⟩) len cap] w fun e w' => e = .returned (.bool (allUpTo visB z len)) ∧ w' = w := by
  unfold maxLen at hm
  go_enter Try.func21, Try.ntmps21
  go_wp2
  go_loop [7] (fun i => ∃ k : Nat, k ≤ len ∧ i = .int .i64 k ∧ allUpTo visB z k = true) (fun i => len - (intOf i).toNat)
  case atStart => exact ⟨0, Nat.zero_le _, rfl, rfl⟩
  case round =>
    obtain ⟨k, hk, rfl, ha⟩ := hrel
    have HA : Hid (allUpTo visB z k = true) := ha
    clear ha
    by_cases hlt : k < len
    · have hcell := hc k hlt
      have hzk := hz k
      clear hc hz
      obtain ⟨c, hcz⟩ : ∃ c, z k = c := ⟨_, rfl⟩
      rw [hcz] at hcell hzk
      have HC : Hid (z k = c) := hcz
      clear hcz
      by_cases h1 : c < 33
      · go_wp2
        go_ret
        exact ⟨ret_bool (allUpTo_false hlt (by rw [HC.out]; simp [visB]; omega)).symm, rfl⟩
      · by_cases h2 : 126 < c
        · go_wp2
          go_ret
          exact ⟨ret_bool (allUpTo_false hlt (by rw [HC.out]; simp [visB]; omega)).symm, rfl⟩
        · go_wp2
          go_round
          case rel => exact ⟨k + 1, by omega, by go_num, allUpTo_step HA.out (by rw [HC.out]; simp [visB]; omega)⟩
          case measure => simp [intOf]; omega
    · have : k = len := by omega
      subst this
      go_wp2
      go_ret
      exact ⟨ret_bool HA.out.symm, rfl⟩

/-- Is c among the bytes of s? As the loop over s finds it. -/
theorem memB_take_step {s : ByteArray} {c : Int} {k : Nat} (hk : k < s.size) (h : memB (s.data.toList.take k) c = false) (hn : ((s[k].toNat : Int) == c) = false) : memB (s.data.toList.take (k + 1)) c = false := by
  have e : s.data.toList.take (k + 1) = s.data.toList.take k ++ [s[k]] := by
    rw [List.take_succ_eq_append_getElem (by simpa using hk)]; rfl
  unfold memB at *
  rw [e, List.any_append, h]
  simpa using hn

theorem memB_hit {s : ByteArray} {c : Int} {k : Nat} (hk : k < s.size) (hn : ((s[k].toNat : Int) == c) = true) : memB s.data.toList c = true := by
  unfold memB
  rw [List.any_eq_true]
  exact ⟨s[k], by rw [show s[k] = s.data.toList[k]'(by simpa using hk) from rfl]; exact List.getElem_mem _, hn⟩

set_option maxHeartbeats 400000 in
theorem inText_any (s : ByteArray) (c : Int) (w : World) (hs : s.size ≤ maxLen) :
    Calls Try.prog 24 #[.string s, .int .u8 c] w fun e w' => e = .returned (.bool (memB s.data.toList c)) ∧ w' = w := by
  unfold maxLen at hs
  go_enter Try.func24, Try.ntmps24
  go_wp2
  go_loop [5] (fun i => ∃ k : Nat, k ≤ s.size ∧ i = .int .i64 k ∧ memB (s.data.toList.take k) c = false) (fun i => s.size - (intOf i).toNat)
  case atStart => exact ⟨0, Nat.zero_le _, rfl, rfl⟩
  case round =>
    obtain ⟨k, hk, rfl, ha⟩ := hrel
    have HA : Hid (memB (s.data.toList.take k) c = false) := ha
    clear ha
    by_cases hlt : k < s.size
    · cases hd : ((s[k].toNat : Int) == c)
      · go_wp2
        go_round
        case rel => exact ⟨k + 1, by omega, by go_num, memB_take_step hlt HA.out hd⟩
        case measure => simp [intOf]; omega
      · go_wp2
        go_ret
        exact ⟨ret_bool (memB_hit hlt hd).symm, rfl⟩
    · go_wp2
      go_ret
      exact ⟨ret_bool (by have h := HA.out; rwa [List.take_of_length_le (by simp; omega), eq_comm] at h), rfl⟩

end Go.Proofs.Qxb6003453a
