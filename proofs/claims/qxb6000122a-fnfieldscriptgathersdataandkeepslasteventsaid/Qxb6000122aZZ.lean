/-
  THE WALK over ZZField.
-/
import Derived.Test.Qxb6000122aField2
namespace Go.Proofs.Qxb6000122a
open Go.RowKit Go.Proofs.Qxb6000122a.Plain

set_option maxHeartbeats 800000 in
theorem zzField_any (B : Nat) (E : ByteArray) (da : Option Addr) (dn dc : Nat) (D : List UInt8) (a : Option Addr) (n c : Nat) (l : List UInt8) (w : World) (hn : l.length = n) (hm : n ≤ 2097152) (hnc : n ≤ c) (hcm : c ≤ 4611686018427387904) (hc : Cells w a l)
    (hdn : D.length = dn) (hD : dn ≤ 2097152) (hown : w.ownsRow B 5 1 (.slice da dn dc) dn (vals D)) (hB : B ≤ w.heap.size) :
    Calls Try.prog 8 #[.string E, .slice da dn dc, .slice a n c] w fun e w' => ∃ a' c', e = .returned (.tuple #[.string (newType E l), .slice a' (newData D l).length c']) ∧
      w'.ownsRow B 5 1 (.slice a' (newData D l).length c') (newData D l).length (vals (newData D l)) ∧ w.grownBy w' (Value.slice da dn dc).ownBlock ∧
      ((Value.slice a' (newData D l).length c') = .slice none 0 0 ↔ (Value.slice da dn dc) = .slice none 0 0 ∧ isData l = false) ∧
      ((Value.slice a' (newData D l).length c').ownBlock = (Value.slice da dn dc).ownBlock ∨ ∀ g, (Value.slice a' (newData D l).length c').ownBlock = some g → w.heap.size ≤ g) := by
  subst hdn
  have hf := field_any w.heap.size B (.slice none 0 0) (.int .i64 0) (.int .i64 0) (.int .i64 0) (.bool false) E (.slice da D.length dc) D a n c l (w.alloc (.cells #[.slice none 0 0, .int .i64 0, .int .i64 0, .int .i64 0, .bool false, .string E, .slice da D.length dc] 37)) hn hm hnc hcm (hc.alloc _)
    (Go.heap_alloc_new w _) hD (hown.alloc _) (by simp; omega)
  have HF := hid hf
  clear hf hc hn hown
  go_enter Try.func8, Try.ntmps8
  go_wp2_with (go_at_call 13; refine HF.out.mono ?_; rintro e w1 ⟨rfl, v', hS, hown, hk, hiff, hblk⟩; obtain ⟨a', c', rfl⟩ := own_shape hown; have c5 : w1.cell? ⟨w.heap.size, 5, none⟩ = some (.string (newType E l)) := (by rw [cell_of_row w1 w.heap.size 5 _ _ _ hS]; rfl); have c6 : w1.cell? ⟨w.heap.size, 6, none⟩ = some (.slice a' (newData D l).length c') := (by rw [cell_of_row w1 w.heap.size 6 _ _ _ hS]; rfl); have HR := hid (And.intro hown (And.intro hk (And.intro hiff hblk))); clear hS hown hk hiff hblk)
  go_quiet (fail)
  go_wp2
  go_ret2
  obtain ⟨r1, r2, r3, r4⟩ := HR.out
  refine ⟨a', c', rfl, r1, ⟨r2.os, r2.tape, r2.output, by have := r2.size; simp at this; show w.heap.size ≤ w1.heap.size; omega, fun k hk hne => ?_⟩, r3, ?_⟩
  · show w1.heap[k]? = _
    rw [r2.block k (by simp; omega) (by omega) hne, Below.heap_alloc _ _ _ hk]
  · rcases r4 with h | h
    · exact .inl h
    · exact .inr fun g hg => by have := h g hg; simp at this; omega

end Go.Proofs.Qxb6000122a
