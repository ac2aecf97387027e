/-
  THE WALKS over noneIn, strings.IndexByte, token, and the two thin doors ZZvisible, ZZtoken.
-/
import Derived.Test.Qxb6003453aReads
namespace Go.Proofs.Qxb6003453a
open Go.RowKit Go.Proofs.Qxb6003453a.Plain

set_option maxHeartbeats 400000 in
theorem noneIn_any (s : ByteArray) (hs : s.size ≤ maxLen) (b off len cap : Nat) (z : Nat → Int) (w : World) (hm : len ≤ maxLen) (hc : ∀ k, k < len → w.cell? ⟨b, off + k, none⟩ = some (.int .u8 (z k))) :
    Calls Try.prog 16 #[.string s, .slice (some ⟨b, off, none⟩) len cap] w fun e w' => e = .returned (.bool (allUpTo (fun c => !memB s.data.toList c) z len)) ∧ w' = w := by
  unfold maxLen at hm
  go_enter Try.func16, Try.ntmps16
  go_wp2
  go_loop [5] (fun i => ∃ k : Nat, k ≤ len ∧ i = .int .i64 k ∧ allUpTo (fun c => !memB s.data.toList c) z k = true) (fun i => len - (intOf i).toNat)
  case atStart => exact ⟨0, Nat.zero_le _, rfl, rfl⟩
  case round =>
    obtain ⟨k, hk, rfl, ha⟩ := hrel
    have HA : Hid (allUpTo (fun c => !memB s.data.toList c) z k = true) := ha
    clear ha
    by_cases hlt : k < len
    · have hcell := hc k hlt
      clear hc
      obtain ⟨c, hcz⟩ : ∃ c, z k = c := ⟨_, rfl⟩
      rw [hcz] at hcell
      have HC : Hid (z k = c) := hcz
      clear hcz
      have hin := inText_any s c w hs
      cases hd : memB s.data.toList c
      · rw [hd] at hin
        go_wp2_with (go_at_call 24; refine hin.mono ?_; rintro e w' ⟨rfl, rfl⟩)
        go_round
        case rel => exact ⟨k + 1, by omega, by go_num, allUpTo_step HA.out (by simp only [HC.out, hd]; rfl)⟩
        case measure => simp [intOf]; omega
      · rw [hd] at hin
        go_wp2_with (go_at_call 24; refine hin.mono ?_; rintro e w' ⟨rfl, rfl⟩)
        go_ret
        exact ⟨ret_bool (allUpTo_false hlt (by simp only [HC.out, hd]; rfl)).symm, rfl⟩
    · have : k = len := by omega
      subst this
      go_wp2
      go_ret
      exact ⟨ret_bool HA.out.symm, rfl⟩

theorem run31 (s : ByteArray) (c : Int) (w : World) : (callFunc 31 #[.string s, .int .u8 c]).run Try.prog w = .ok (.value (.int .i64 (firstIdx s c.toNat.toUInt8))) w := by
  rw [run_callFunc_extern (e := Extern.BytealgIndexByte.indexByte) Try.func31 (by kernel_rfl) (by kernel_rfl) (by kernel_rfl) (by kernel_rfl), run_indexByte_string]
  rfl

theorem firstIdx_mem (s : ByteArray) (c : Int) (h0 : 0 ≤ c) (h1 : c ≤ 255) : memB s.data.toList c = decide (0 ≤ firstIdx s c.toNat.toUInt8) := by
  have e : ∀ d : UInt8, ((d.toNat : Int) == c) = (d == c.toNat.toUInt8) := by
    intro d
    rw [Bool.eq_iff_iff]
    simp only [beq_iff_eq]
    constructor
    · intro h; subst h; simp
    · intro h; subst h; simp; omega
  unfold memB firstIdx
  simp only [e]
  cases hf : (List.range s.size).find? fun i => s[i]! == c.toNat.toUInt8 with
  | none =>
    simp only [List.find?_eq_none, List.mem_range] at hf
    simp only [show ¬ (0 : Int) ≤ -1 by omega, decide_false]
    rw [List.any_eq_false]
    intro d hd
    obtain ⟨i, hi, rfl⟩ := List.getElem_of_mem hd
    have := hf i (by simpa using hi)
    rw [getElem!_pos s i (by simpa using hi)] at this
    exact this
  | some i =>
    have h2 := List.find?_some hf
    have h3 := List.mem_range.1 (List.mem_of_find?_eq_some hf)
    rw [getElem!_pos s i h3] at h2
    rw [decide_eq_true (by omega : (0 : Int) ≤ ((i : Nat) : Int)), List.any_eq_true]
    exact ⟨s[i], by rw [show s[i] = s.data.toList[i]'(by simpa using h3) from rfl]; exact List.getElem_mem _, h2⟩

set_option maxHeartbeats 400000 in
theorem indexByte_any (s : ByteArray) (c : Int) (w : World) :
    Calls Try.prog 27 #[.string s, .int .u8 c] w fun e w' => e = .returned (.int .i64 (firstIdx s c.toNat.toUInt8)) ∧ w' = w := by
  have hr := run31 s c
  go_enter Try.func27, Try.ntmps27
  go_wp2
  go_ret
  exact ⟨rfl, rfl⟩

end Go.Proofs.Qxb6003453a
