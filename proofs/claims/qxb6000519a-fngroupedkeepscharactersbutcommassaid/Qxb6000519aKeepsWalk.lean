/-
  THE WALK over FnGroupedKeepsCharactersButCommas.
-/
import Derived.Test.Qxb6000519aValid
namespace Go.Proofs.Qxb6000519a
open Go.RowKit Go.Proofs.Qxb6000519a.Plain

theorem keeps_big (s : ByteArray) (w : World) (hm : s.size ≤ maxLen) (hbig : 1048576 < s.size) :
    Calls Try.prog 3 #[.string s] w fun e w' => e = .returned (.bool true) ∧ Below w.heap.size w w' := by
  unfold maxLen at hm
  go_enter Try.func3, Try.ntmps3
  go_wp2
  go_ret
  exact ⟨rfl, Below.refl _ _⟩

theorem zz8 (s : ByteArray) (w : World) (hs : s.size ≤ 1048576) : Calls Try.prog 8 #[.string s] w fun e w' => e = .returned (.bool true) ∧ w' = w := by
  go_enter Try.func8, Try.ntmps8
  go_wp2
  go_ret
  exact ⟨rfl, rfl⟩

set_option maxRecDepth 100000 in
theorem keeps_walk (s : ByteArray) (w : World) (hs : s.size ≤ 1048576) :
    Calls Try.prog 3 #[.string s] w fun e w' => e = .returned (.bool true) ∧ Below w.heap.size w w' := by
  have HZ := hid (zz8 s w hs)
  have HV := hid (valid_any s w hs)
  have HG := hid (grouped_any s w hs)
  have hosz : (ByteArray.mk (grouped s.data.toList).toArray).size ≤ 20000000 := by
    rw [mk_size]
    have h1 := grouped_len s.data.toList
    rw [← Lib.size_eq] at h1
    omega
  have HW1 := hid (fun w' => withoutCommas_any ⟨(grouped s.data.toList).toArray⟩ w' hosz)
  have HW2 := hid (fun w' => withoutCommas_any s w' (by omega))
  have HSt : Hid (Chain s.data.toList → ByteArray.mk (strip (ByteArray.mk (grouped s.data.toList).toArray).data.toList).toArray = ByteArray.mk (strip s.data.toList).toArray) := fun h => by
    show ByteArray.mk (strip (grouped s.data.toList)).toArray = _
    rw [grouped_strip h]
  generalize ByteArray.mk (strip (ByteArray.mk (grouped s.data.toList).toArray).data.toList).toArray = r1 at HW1 HSt
  generalize ByteArray.mk (strip s.data.toList).toArray = r2 at HW2 HSt
  generalize ByteArray.mk (grouped s.data.toList).toArray = oB at HG hosz HW1
  go_enter Try.func3, Try.ntmps3
  go_upto_if 12 with (first
    | (go_at_call 8; refine HZ.out.mono ?_; rintro e w' ⟨rfl, hw'⟩; have hw'' := hw'.symm; subst hw'')
    | (go_at_call 9; refine HV.out.mono ?_; rintro e w' ⟨b, rfl, hw', hb⟩; have hw'' := hw'.symm; subst hw''; have HB := hid hb; clear hb))
  cases b with
  | false =>
    go_wp2
    go_ret
    exact ⟨rfl, Below.refl _ _⟩
  | true =>
    have HE := hid (HSt.out (HB.out rfl))
    go_wp2_with (first
      | (go_at_call 10; refine HG.out.mono ?_; rintro e w1 ⟨rfl, hb1⟩)
      | (go_at_call_of 11 (Value.string oB); refine (HW1.out _).mono ?_; rintro e w2 ⟨rfl, hb2⟩)
      | (go_at_call_of 11 (Value.string s); refine (HW2.out _).mono ?_; rintro e w3 ⟨rfl, hb3⟩))
    go_ret
    exact ⟨by rw [HE.out, show (r2.toList == r2.toList) = true from beq_self_eq_true _]; rfl, hb1.trans ((hb2.trans (hb3.mono hb2.size)).mono hb1.size)⟩

end Go.Proofs.Qxb6000519a
