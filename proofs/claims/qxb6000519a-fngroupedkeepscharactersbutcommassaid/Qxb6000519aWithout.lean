/-
  'withoutCommas': the text but for its commas.
-/
import Derived.Test.Qxb6000519aThreeWalk
import Derived.Test.Qxb6000519aChain
namespace Go.Proofs.Qxb6000519a
open Go.RowKit Go.Proofs.Qxb6000519a.Plain

theorem strip_take (l : List UInt8) (k : Nat) (h : k < l.length) : strip (l.take (k + 1)) = strip (l.take k) ++ (if l[k] = 44 then [] else [l[k]]) := by
  rw [List.take_succ_eq_append_getElem h, strip_append]
  congr 1
  by_cases e : l[k] = 44
  · rw [if_pos e, e]; rfl
  · rw [if_neg e]; simp [strip, e]

set_option maxRecDepth 1000000 in
set_option maxHeartbeats 1600000 in
theorem withoutCommas_any (s : ByteArray) (w : World) (hs : s.size ≤ 20000000) :
    Calls Try.prog 11 #[.string s] w fun e w' => e = .returned (.string ⟨(strip s.data.toList).toArray⟩) ∧ Below w.heap.size w w' := by
  go_enter Try.func11, Try.ntmps11
  obtain ⟨i0, hi, hz0, hz1, hz2⟩ := info_parts Try.info5
  go_wp2_with (at_make; refine wpList_make_own _ rfl _ _ 25 rfl w.heap.size 5 i0 (.int .u8 0) 1 Try.underlying25 hi hz0 hz1 .i64 .i64 (s.size : Int) s.size rfl rfl rfl (by rw [hz2]; omega) (by unfold maxLen; omega) (Nat.le_refl _) ?_; intro w2 hown2 hgrow2)
  have H2 : Hid (w2.ownsRow w.heap.size 5 1 (.slice (some ⟨w.heap.size, 0, none⟩) 0 s.size) 0 (vals []) ∧ Below w.heap.size w w2) := ⟨hown2, (Below.refl _ _).grown hgrow2 (Nat.le_refl _) (by simp)⟩
  clear hown2 hgrow2
  go_loopw [3, 4] (fun bv iv wr => ∃ (k dn : Nat), k ≤ s.size ∧ iv = .int .i64 k ∧ bv = .slice (some ⟨w.heap.size, 0, none⟩) dn s.size ∧ dn ≤ k ∧
      Hid (wr.ownsRow w.heap.size 5 1 (.slice (some ⟨w.heap.size, 0, none⟩) dn s.size) dn (vals (strip (s.data.toList.take k))) ∧ Below w.heap.size w wr)) (fun _ i _ => s.size - (intOf i).toNat)
  case atStart => exact ⟨0, 0, Nat.zero_le _, rfl, rfl, Nat.le_refl _, H2.out⟩
  case round =>
    obtain ⟨k, dn, hk, rfl, rfl, hdk, HS⟩ := hrel
    by_cases hlt : k < s.size
    · have HT : Hid (strip (s.data.toList.take (k + 1)) = strip (s.data.toList.take k) ++ (if s[k] = 44 then [] else [s[k]])) := strip_take s.data.toList k (by rw [← Lib.size_eq]; exact hlt)
      cases hc : ((s[k].toNat : Int) != 44)
      · have he : s[k] = 44 := UInt8.toNat_inj.1 (by have h := hc; simp at h; show s[k].toNat = 44; omega)
        have HT2 : Hid (strip (s.data.toList.take (k + 1)) = strip (s.data.toList.take k)) := by
          show strip (s.data.toList.take (k + 1)) = _
          rw [HT.out, if_pos he, List.append_nil]
        clear he
        go_wp2
        go_roundw
        case rel => exact ⟨k + 1, dn, by omega, by go_num, rfl, by omega, by rw [HT2.out]; exact HS.out⟩
        case measure => simp [intOf]; omega
      · have hne : s[k] ≠ 44 := by
          intro e
          rw [e] at hc
          cases hc
        have HT2 : Hid (strip (s.data.toList.take (k + 1)) = strip (s.data.toList.take k) ++ [s[k]]) := by
          show strip (s.data.toList.take (k + 1)) = _
          rw [HT.out, if_neg hne]
        clear hne
        go_wp2_with (at_builtin; refine wpList_append_fits _ rfl (.tmp 18) (.tmp 22) 25 rfl w.heap.size 5 i0 1 Try.underlying25 hi hz1 w.heap.size dn s.size (vals (strip (s.data.toList.take k))) rfl (HS.out.1.alloc _) ⟨wr.heap.size, 0, none⟩ 1 1 (vals [s[k]]) rfl rfl (new_news wr s[k]) (vals_one _) (by omega) ?_; intro w3 hown3 hgr3; have H3 : Hid (w3.ownsRow w.heap.size 5 1 (.slice (some ⟨w.heap.size, 0, none⟩) (dn + 1) s.size) (dn + 1) (vals (strip (s.data.toList.take (k + 1)))) ∧ Below w.heap.size w w3) := ⟨by rw [HT2.out, vals_append]; exact hown3, (HS.out.2.alloc HS.out.2.size _).grown hgr3 (HS.out.2.alloc HS.out.2.size _).size (by simp)⟩; clear hown3 hgr3)
        go_roundw
        case rel => exact ⟨k + 1, dn + 1, by omega, by go_num, rfl, by omega, H3.out⟩
        case measure => simp [intOf]; omega
    · have : k = s.size := by omega
      subst this
      have hcv := conv_own HS.out.1
      rw [List.take_of_length_le (by rw [← Lib.size_eq]; exact Nat.le_refl _)] at hcv
      go_wp2
      go_ret
      exact ⟨rfl, HS.out.2⟩

end Go.Proofs.Qxb6000519a
