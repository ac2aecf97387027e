/-
  THE WALKS over the clone of a slice of bytes (by the built-in copy), and over splitField.
-/
import Derived.Test.Qxb6000122aField
import Derived.Laws.CopyOwn
namespace Go.Proofs.Qxb6000122a
open Go.RowKit Go.Proofs.Qxb6000122a.Plain

theorem Cells.below {w w' : World} {a : Option Addr} {l : List UInt8} (h : Cells w a l) (hb : Below w.heap.size w w') : Cells w' a l := by
  rcases h with h | ⟨b, o, h1, h2⟩
  · exact .inl h
  · exact .inr ⟨b, o, h1, fun i hi => by rw [hb.cell (World.block_lt_of_cell? w ⟨b, o + i, none⟩ (h2 i hi))]; exact h2 i hi⟩

theorem q27 (w : World) (a : Option Addr) (n c n' c' : Nat) : (binOp .eql 27 (.slice a n c) (.slice none n' c')).run Try.prog w = .ok (.bool a.isNone) w :=
  Lib.run_eql_slice_nil w _ _ a n c n' c' Try.underlying27

theorem size5 : (Try.prog.info? 5).map (·.size) = some 1 := by kernel_rfl

theorem clone_nil (w : World) :
    Calls Try.prog 7 #[.slice none 0 0] w fun e w' => e = .returned (.slice none 0 0) ∧ w' = w := by
  have hq := q27
  go_enter Try.func7, Try.ntmps7
  go_wp2
  go_ret
  exact ⟨rfl, rfl⟩

/-- A made row that a whole copy has filled. -/
theorem own_spliced {w2 : World} {B n : Nat} {cur : Array Value} {l : List UInt8} (hl : l.length = n) (hm : n ≤ maxLen) (hs : cur.size = n) (h : w2.heap[B]? = some (.cells (splice cur.toList 0 (vals l)).toArray 5 (0, 0))) :
    w2.ownsRow B 5 1 (.slice (some ⟨B, 0, none⟩) n n) n (vals l) := by
  have e : splice cur.toList 0 (vals l) = vals l := by
    unfold splice
    rw [List.take_zero, List.nil_append, List.drop_eq_nil_of_le (by rw [vals_length]; simp; omega), List.append_nil]
  rw [e] at h
  refine ⟨by rw [vals_length]; omega, .inr ⟨B, n, _, rfl, Nat.le_refl _, h, Nat.le_refl _, hm, by simp [vals_length]; omega, ?_⟩⟩
  rw [List.take_of_length_le (by simp [vals_length]; omega)]

set_option maxHeartbeats 400000 in
theorem clone_some (x : Addr) (n c : Nat) (l : List UInt8) (w : World) (hl : l.length = n) (hm : n ≤ 1048576) (hc : Cells w (some x) l) :
    Calls Try.prog 7 #[.slice (some x) n c] w fun e w' => e = .returned (.slice (some ⟨w.heap.size, 0, none⟩) n n) ∧ w'.ownsRow w.heap.size 5 1 (.slice (some ⟨w.heap.size, 0, none⟩) n n) n (vals l) ∧ Below w.heap.size w w' := by
  obtain ⟨i0, hi, hz0, hz1, hz2⟩ := info_parts Try.info5
  have hq := q27
  have HL := hid hl
  have HC := hid hc
  clear hl hc
  go_enter Try.func7, Try.ntmps7
  go_wp2_with (first
    | (at_make; refine wpList_make_full _ rfl _ _ 27 rfl w.heap.size 5 i0 (.int .u8 0) 1 Try.underlying27 hi hz0 hz1 .i64 .i64 (n : Int) (n : Int) n rfl rfl rfl rfl (by rw [hz2]; omega) (by unfold maxLen; omega) (Nat.le_refl _) ?_; intro w1 hown1 hgrow1; have HB1 : Hid (Below w.heap.size w w1) := (Below.refl _ _).grown hgrow1 (Nat.le_refl _) (by simp); obtain ⟨cur, hcs, hg⟩ : ∃ cur : Array Value, cur.size = n ∧ w1.heap[w.heap.size]? = some (.cells cur 5 (0, 0)) := (by rcases hown1.2 with ⟨h, _⟩ | ⟨g, cap, cur, h, _, h3, _, _, h6, _⟩; cases h; simp at h; obtain ⟨rfl, rfl⟩ := h; exact ⟨cur, by omega, h3⟩); have HG := hid hg; clear hown1 hgrow1 hg)
    | (refine wpList_copy_splice rfl (.tmp 9) (.tmp 10) 27 27 rfl 5 Try.underlying27 size5 (some ⟨w.heap.size, 0, none⟩) (some x) n n n c rfl rfl w.heap.size 0 cur.toList 5 HG.out (vals l) (by rw [vals_length, HL.out]; exact (Nat.min_self n).symm) (fun _ => ⟨rfl, x, rfl, fun j v hj => (Cells.below HC.out HB1.out).news x rfl j v hj⟩) (by rw [vals_length, HL.out]; simp; omega) (vals_one l) w.heap.size w HB1.out (Nat.le_refl _) ?_; intro w2 HG2 hB2))
  go_ret
  exact ⟨rfl, own_spliced HL.out (by unfold maxLen; omega) hcs HG2.out, hB2⟩

/-- The clone, whatever the slice. -/
theorem clone_any (a : Option Addr) (n c : Nat) (l : List UInt8) (w : World) (hl : l.length = n) (hm : n ≤ 1048576) (hnone : a = none → n = 0 ∧ c = 0) (hc : Cells w a l) :
    Calls Try.prog 7 #[.slice a n c] w fun e w' => ∃ a', e = .returned (.slice a' n n) ∧ Cells w' a' l ∧ Below w.heap.size w w' ∧ (a' = none → n = 0) ∧ (∀ x, a' = some x → w.heap.size ≤ x.block) := by
  cases a with
  | none =>
    obtain ⟨rfl, rfl⟩ := hnone rfl
    obtain rfl := List.eq_nil_of_length_eq_zero hl
    refine (clone_nil w).mono ?_
    rintro e w' ⟨rfl, rfl⟩
    exact ⟨none, rfl, .inl rfl, Below.refl _ _, fun _ => rfl, fun x h => by cases h⟩
  | some x =>
    refine (clone_some x n c l w hl hm hc).mono ?_
    rintro e w' ⟨rfl, h1, h2⟩
    exact ⟨_, rfl, (Cells.own h1).1, h2, (fun h => by cases h), fun x h => by cases h; exact Nat.le_refl _⟩

end Go.Proofs.Qxb6000122a
