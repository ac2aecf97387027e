/-
  THE WALKS over firstDot and FnGroupedThreeDigitGroups.
-/
import Derived.Test.Qxb6000519aGrouped
import Derived.Test.Qxb6000519aDigits
namespace Go.Proofs.Qxb6000519a
open Go.RowKit Go.Proofs.Qxb6000519a.Plain

set_option maxHeartbeats 400000 in
theorem firstDot_any (s : ByteArray) (w : World) (hs : s.size ≤ 2097152000) :
    Calls Try.prog 13 #[.string s] w fun e w' => e = .returned (.int .i64 ((nameOf s.data.toList).length : Nat)) ∧ w' = w := by
  go_enter Try.func13, Try.ntmps13
  go_wp2
  go_loop [3] (fun i => ∃ k : Nat, k ≤ s.size ∧ i = .int .i64 k ∧ ∀ j, j < k → byteAt s.data.toList j ≠ 46) (fun i => s.size - (intOf i).toNat)
  case atStart => exact ⟨0, Nat.zero_le _, rfl, fun j hj => absurd hj (by omega)⟩
  case round =>
    obtain ⟨k, hk, rfl, ha⟩ := hrel
    have HA := hid ha
    clear ha
    by_cases hlt : k < s.size
    · have HX := hid (byteAt_str hlt)
      cases hd : ((s[k].toNat : Int) == 46)
      · go_wp2
        go_round
        case rel => exact ⟨k + 1, by omega, by go_num, fun j hj => by
          by_cases hjk : j = k
          · subst hjk; rw [HX.out]; simpa using hd
          · exact HA.out j (by omega)⟩
        case measure => simp [intOf]; omega
      · go_wp2
        go_ret
        refine ⟨?_, rfl⟩
        have h := (some_of (l := s.data.toList) (by rw [← Lib.size_eq]; exact hlt) (by rw [HX.out]; simpa using hd) HA.out).1
        rw [h, List.length_take, ← Lib.size_eq, Nat.min_eq_left hk]
        rfl
    · have : k = s.size := by omega
      subst this
      go_wp2
      go_ret
      refine ⟨?_, rfl⟩
      rw [(none_of (l := s.data.toList) (by rw [← Lib.size_eq]; exact HA.out)).1, ← Lib.size_eq]
      rfl

end Go.Proofs.Qxb6000519a
