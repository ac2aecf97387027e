/-
  THE WALKS over strings.Cut at the point, and what it calls.
-/
import Derived.Test.Qxb6000519aRows
import Derived.Test.Qxb6000519aPlain
import Derived.Test.Qxb6000519aShelf
import Derived.WalkKit
import Derived.WalkSpells
import Derived.WalkLawsBesides
import Derived.BigQuiet
import Derived.Deep.QuietTactic
import Derived.Lib.Strings
import Derived.Lib.IndexBytes
namespace Go.Proofs.Qxb6000519a
open Go.RowKit Go.Proofs.Qxb6000519a.Plain

theorem ret_bool {a b : Bool} (h : a = b) : Ending.returned (.bool a) = .returned (.bool b) := by rw [h]
theorem hid {p : Prop} (h : p) : Hid p := h

theorem run40 (s : ByteArray) (c : Int) (w : World) : (callFunc 40 #[.string s, .int .u8 c]).run Try.prog w = .ok (.value (.int .i64 (Lib.indexByte s.data.toList c.toNat.toUInt8))) w := by
  rw [run_callFunc_extern (e := Extern.BytealgIndexByte.indexByte) Try.func40 (by kernel_rfl) (by kernel_rfl) (by kernel_rfl) (by kernel_rfl), Lib.run_indexByteString]
  rfl

set_option maxRecDepth 100000 in
set_option maxHeartbeats 400000 in
theorem index_any (s : ByteArray) (w : World) :
    Calls Try.prog 32 #[.string s, .string ⟨#[46]⟩] w fun e w' => e = .returned (.int .i64 (Lib.indexByte s.data.toList 46)) ∧ w' = w := by
  by_cases hs : s.data.toList = [46]
  · have hs' : s = ⟨#[46]⟩ := by
      apply ByteArray.ext
      rw [← Array.toArray_toList (xs := s.data), hs]
    subst hs'
    go_enter Try.func32, Try.ntmps32
    go_wp2
    go_ret
    exact ⟨rfl, rfl⟩
  · have hne : ([46] == s.data.toList) = false := by simpa using fun h => hs h.symm
    have hne' : ([46] == s.toList) = false := by rw [Lib.toList_data]; exact hne
    have hr : ∀ w : World, (callFunc 40 #[.string s, .int .u8 ((((ByteArray.mk #[46])[0]'(by decide)).toNat : Nat) : Int)]).run Try.prog w = .ok (.value (.int .i64 (Lib.indexByte s.data.toList 46))) w := fun w => run40 s _ w
    clear hne
    go_enter Try.func32, Try.ntmps32
    go_wp2
    go_ret
    exact ⟨rfl, rfl⟩

/-- strings.Cut at the point. -/
theorem slite_cut_none (s : ByteArray) (w : World) (h : Lib.indexByte s.data.toList 46 = -1) :
    Calls Try.prog 27 #[.string s, .string ⟨#[46]⟩] w fun e w' => e = .returned (.tuple #[.string s, .string ⟨#[]⟩, .bool false]) ∧ ∃ q, w' = w.drewN q := by
  have hi := index_any s w
  rw [h] at hi
  have HI := hid hi
  clear hi h
  go_enter Try.func27, Try.ntmps27
  go_wp2_with (go_at_call 32; refine HI.out.mono ?_; rintro e w' ⟨rfl, rfl⟩)
  go_ret3
  exact ⟨rfl, 0, rfl⟩

set_option maxHeartbeats 400000 in
theorem slite_cut_some (s : ByteArray) (k : Nat) (w : World) (hs : s.size ≤ 2097152) (hk : k < s.size) (h : Lib.indexByte s.data.toList 46 = (k : Int)) :
    Calls Try.prog 27 #[.string s, .string ⟨#[46]⟩] w fun e w' => e = .returned (.tuple #[.string ⟨(s.data.toList.take k).toArray⟩, .string ⟨(s.data.toList.drop (k + 1)).toArray⟩, .bool true]) ∧ ∃ q, w' = w.drewN q := by
  have hi := index_any s w
  rw [h] at hi
  have HI := hid hi
  clear hi h
  have h1 : (k : Int) + 1 ≤ (s.size : Int) := by omega
  have h2 : (k : Int) ≤ (s.size : Int) := by omega
  have HE1 : Hid (s.extract 0 k = ⟨(s.data.toList.take k).toArray⟩) := by
    rw [show (s.extract 0 k = ⟨(s.data.toList.take k).toArray⟩) = (s.extract 0 k = ⟨(s.data.toList.take k).toArray⟩) from rfl]; exact (Lib.extract_eq s 0 k).trans (by simp)
  have HE2 : Hid (s.extract (k + 1) s.size = ⟨(s.data.toList.drop (k + 1)).toArray⟩) := (Lib.extract_eq s (k + 1) s.size).trans (by
    rw [List.take_of_length_le (by simp)])
  go_enter Try.func27, Try.ntmps27
  go_wp2_with (go_at_call 32; refine HI.out.mono ?_; rintro e w' ⟨rfl, rfl⟩)
  go_quiet (fail)
  go_wp2
  go_ret3
  refine ⟨?_, _, rfl⟩
  rw [← HE1.out, ← HE2.out]
  rfl

theorem cut_any (s : ByteArray) (w : World) (hs : s.size ≤ 2097152) :
    Calls Try.prog 19 #[.string s, .string ⟨#[46]⟩] w fun e w' => e = .returned (.tuple #[.string ⟨(nameOf s.data.toList).toArray⟩, .string ⟨(restOf s.data.toList).toArray⟩, .bool (hasDot s.data.toList)]) ∧ ∃ q, w' = w.drewN q := by
  have HC : Hid (Calls Try.prog 27 #[.string s, .string ⟨#[46]⟩] w fun e w' => e = .returned (.tuple #[.string ⟨(nameOf s.data.toList).toArray⟩, .string ⟨(restOf s.data.toList).toArray⟩, .bool (hasDot s.data.toList)]) ∧ ∃ q, w' = w.drewN q) := by
    rcases indexByte_cases s.data.toList 46 with ⟨h1, h2⟩ | ⟨k, hk, h1, h2, h3⟩
    · obtain ⟨e1, e2, e3⟩ := none_of h2
      rw [e1, e2, e3, Lib.mk_data]
      exact slite_cut_none s w h1
    · obtain ⟨e1, e2, e3⟩ := some_of hk h2 h3
      rw [e1, e2, e3]
      exact slite_cut_some s k w hs (by simpa using hk) h1
  generalize nameOf s.data.toList = a at HC
  generalize restOf s.data.toList = b at HC
  generalize hasDot s.data.toList = f at HC
  go_enter Try.func19, Try.ntmps19
  go_wp2_with (go_at_call 27; refine HC.out.mono ?_; rintro e w' ⟨rfl, q, rfl⟩)
  go_ret3
  exact ⟨rfl, q, rfl⟩

end Go.Proofs.Qxb6000519a
