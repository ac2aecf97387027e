/-
  THE WALK over FnFitsUnchangedByGrouping.
-/
import Derived.Test.Qxb6000519aFits
namespace Go.Proofs.Qxb6000519a
open Go.RowKit Go.Proofs.Qxb6000519a.Plain

theorem same_big (s : ByteArray) (w : World) (hm : s.size ≤ maxLen) (hbig : 1048576 < s.size) :
    Calls Try.prog 5 #[.string s] w fun e w' => e = .returned (.bool true) ∧ Below w.heap.size w w' := by
  unfold maxLen at hm
  go_enter Try.func5, Try.ntmps5
  go_wp2
  go_ret
  exact ⟨rfl, Below.refl _ _⟩

theorem zz14 (s : ByteArray) (w : World) (hs : s.size ≤ 1048576) : Calls Try.prog 14 #[.string s] w fun e w' => e = .returned (.bool true) ∧ w' = w := by
  go_enter Try.func14, Try.ntmps14
  go_wp2
  go_ret
  exact ⟨rfl, rfl⟩

theorem zzfits_any (s : ByteArray) (w : World) (hs : s.size ≤ 20000000) :
    Calls Try.prog 15 #[.string s] w fun e w' => e = .returned (.bool (decide ((fcount s.data.toList).1 ≤ 15))) ∧ Below w.heap.size w w' := by
  have HF := hid (fits_any s w hs)
  generalize decide ((fcount s.data.toList).1 ≤ 15) = b at HF ⊢
  go_enter Try.func15, Try.ntmps15
  go_wp2_with (go_at_call 25; refine HF.out.mono ?_; rintro e w' ⟨rfl, hw'⟩)
  go_ret
  exact ⟨rfl, hw'⟩

theorem same_walk (s : ByteArray) (w : World) (hs : s.size ≤ 1048576) :
    Calls Try.prog 5 #[.string s] w fun e w' => e = .returned (.bool true) ∧ Below w.heap.size w w' := by
  have HZ := hid (zz14 s w hs)
  have HG := hid (grouped_any s w hs)
  have hosz : (ByteArray.mk (grouped s.data.toList).toArray).size ≤ 20000000 := by
    rw [mk_size]
    have h1 := grouped_len s.data.toList
    rw [← Lib.size_eq] at h1
    omega
  have hfc : decide ((fcount (ByteArray.mk (grouped s.data.toList).toArray).data.toList).1 ≤ 15) = decide ((fcount s.data.toList).1 ≤ 15) := by
    show decide ((fcount (grouped s.data.toList)).1 ≤ 15) = _
    rw [fcount_grouped]
  have HF1 := hid (fun w' => zzfits_any ⟨(grouped s.data.toList).toArray⟩ w' hosz)
  have HF2 := hid (fun w' => zzfits_any s w' (by omega))
  rw [hfc] at HF1
  clear hfc
  generalize decide ((fcount s.data.toList).1 ≤ 15) = b at HF1 HF2
  generalize ByteArray.mk (grouped s.data.toList).toArray = oB at HG hosz HF1
  go_enter Try.func5, Try.ntmps5
  go_wp2_with (first
    | (go_at_call 14; refine HZ.out.mono ?_; rintro e w' ⟨rfl, hw'⟩; have hw'' := hw'.symm; subst hw'')
    | (go_at_call 10; refine HG.out.mono ?_; rintro e w1 ⟨rfl, hb1⟩)
    | (go_at_call_of 15 (Value.string oB); refine (HF1.out _).mono ?_; rintro e w2 ⟨rfl, hb2⟩)
    | (go_at_call_of 15 (Value.string s); refine (HF2.out _).mono ?_; rintro e w3 ⟨rfl, hb3⟩))
  go_ret
  exact ⟨by cases b <;> rfl, hb1.trans ((hb2.trans (hb3.mono hb2.size)).mono hb1.size)⟩

end Go.Proofs.Qxb6000519a
