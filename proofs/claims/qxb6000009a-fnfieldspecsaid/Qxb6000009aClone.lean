/-
  THE WALKS over the clone of a slice of bytes.
-/
import Derived.Test.Qxb6000009aField
namespace Go.Proofs.Qxb6000009a
open Go.RowKit Go.Proofs.Qxb6000009a.Plain

theorem q27 (w : World) (a : Option Addr) (n c n' c' : Nat) : (binOp .eql 27 (.slice a n c) (.slice none n' c')).run Try.prog w = .ok (.bool a.isNone) w :=
  Lib.run_eql_slice_nil w _ _ a n c n' c' Try.underlying27

theorem clone_nil (w : World) :
    Calls Try.prog 8 #[.slice none 0 0] w fun e w' => e = .returned (.slice none 0 0) ∧ w' = w := by
  have hq := q27
  go_enter Try.func8, Try.ntmps8
  go_wp2
  go_ret
  exact ⟨rfl, rfl⟩

set_option maxHeartbeats 400000 in
theorem clone_zero (x : Addr) (cap : Nat) (w : World) :
    Calls Try.prog 8 #[.slice (some x) 0 cap] w fun e w' => e = .returned (.slice (some ⟨w.heap.size, 0, none⟩) 0 0) ∧ w'.ownsRow w.heap.size 5 1 (.slice (some ⟨w.heap.size, 0, none⟩) 0 0) 0 [] ∧ Below w.heap.size w w' := by
  obtain ⟨i0, hi, hz0, hz1, hz2⟩ := info_parts Try.info5
  have hq := q27
  go_enter Try.func8, Try.ntmps8
  go_wp2_with (at_make; refine wpList_make_full _ rfl _ _ 27 rfl w.heap.size 5 i0 (.int .u8 0) 1 Try.underlying27 hi hz0 hz1 .i64 .i64 (0 : Int) (0 : Int) 0 rfl rfl rfl rfl (by omega) (by unfold maxLen; omega) (Nat.le_refl _) ?_; intro w1 hown1 hgrow1)
  clear hq
  have HO := hid hown1
  clear hown1
  refine wp_loop_rounds 1 ?_
  rw [rounds_succ]
  go_wp2
  go_ret
  refine ⟨rfl, ?_, (Below.refl _ _).grown hgrow1 (Nat.le_refl _) (by simp)⟩
  have e := HO.out
  have h0 : (madeCells (Value.int IntKind.u8 0).cells (0 * 1)).toList = [] := List.eq_nil_of_length_eq_zero (by simpa using e.1)
  rwa [h0] at e

theorem clone_step {wr w : World} {B len k : Nat} {z : Nat → Int} {xs : List Value} (hk : k < len) (hown : wr.ownsRow B 5 1 (.slice (some ⟨B, 0, none⟩) len len) len xs)
    (hx : ∀ j, j < k → xs[j]? = some (.int .u8 (z j))) (hb : Below B w wr) (hs : B < wr.heap.size) :
    ∃ xs', (wr.setCell ⟨B, k, none⟩ (.int .u8 (z k))).ownsRow B 5 1 (.slice (some ⟨B, 0, none⟩) len len) len xs' ∧ (∀ j, j < k + 1 → xs'[j]? = some (.int .u8 (z j))) ∧
      Below B w (wr.setCell ⟨B, k, none⟩ (.int .u8 (z k))) ∧ B < (wr.setCell ⟨B, k, none⟩ (.int .u8 (z k))).heap.size := by
  refine ⟨xs.set k (.int .u8 (z k)), (hown.stored k _).1, ?_, hb.setCell (Nat.le_refl _) _, by simpa [World.setCell] using hs⟩
  intro j hj
  have hl : xs.length = len := by simpa using hown.1
  rw [List.getElem?_set]
  by_cases h : k = j
  · subst h; simp [hl, hk]
  · rw [if_neg h]; exact hx j (by omega)

theorem own_ext {w : World} {B n : Nat} {v : Value} {xs : List Value} {l : List UInt8} (hl : l.length = n) (hown : w.ownsRow B 5 1 v n xs) (hx : ∀ j, j < n → xs[j]? = some (.int .u8 (byteAt l j))) : w.ownsRow B 5 1 v n (vals l) := by
  have e : xs = vals l := by
    apply List.ext_getElem?
    intro j
    by_cases hj : j < n
    · rw [hx j hj, vals_at l j (by omega)]
    · rw [List.getElem?_eq_none (by have := hown.1; omega), List.getElem?_eq_none (by rw [vals_length]; omega)]
  rw [← e]; exact hown

set_option maxHeartbeats 400000 in
theorem clone_some (b off len cap : Nat) (l : List UInt8) (w : World) (hl : l.length = len) (hm : len ≤ 1048576) (hb : b < w.heap.size) (hc : ∀ k, k < len → w.cell? ⟨b, off + k, none⟩ = some (.int .u8 (byteAt l k))) :
    Calls Try.prog 8 #[.slice (some ⟨b, off, none⟩) len cap] w fun e w' => e = .returned (.slice (some ⟨w.heap.size, 0, none⟩) len len) ∧ w'.ownsRow w.heap.size 5 1 (.slice (some ⟨w.heap.size, 0, none⟩) len len) len (vals l) ∧ Below w.heap.size w w' := by
  obtain ⟨i0, hi, hz0, hz1, hz2⟩ := info_parts Try.info5
  have hq := q27
  have HL := hid hl
  clear hl
  go_enter Try.func8, Try.ntmps8
  go_wp2_with (at_make; refine wpList_make_full _ rfl _ _ 27 rfl w.heap.size 5 i0 (.int .u8 0) 1 Try.underlying27 hi hz0 hz1 .i64 .i64 (len : Int) (len : Int) len rfl rfl rfl rfl (by rw [hz2]; omega) (by unfold maxLen; omega) (Nat.le_refl _) ?_; intro w1 hown1 hgrow1)
  clear hq
  go_loopw [4] (fun i wr => ∃ k : Nat, k ≤ len ∧ i = .int .i64 k ∧ ∃ xs, wr.ownsRow w.heap.size 5 1 (.slice (some ⟨w.heap.size, 0, none⟩) len len) len xs ∧ (∀ j, j < k → xs[j]? = some (.int .u8 (byteAt l j))) ∧
      Below w.heap.size w wr ∧ w.heap.size < wr.heap.size) (fun i _ => len - (intOf i).toNat)
  case atStart => exact ⟨0, Nat.zero_le _, rfl, _, hown1, fun j hj => absurd hj (by omega), (Below.refl _ _).grown hgrow1 (Nat.le_refl _) (by simp), (hown1.lt _ rfl).2⟩
  case round =>
    obtain ⟨k, hk, rfl, xs, hown, hx, hbel, hsz⟩ := hrel
    have HO : Hid (wr.ownsRow w.heap.size 5 1 (.slice (some ⟨w.heap.size, 0, none⟩) len len) len xs) := hown
    have HX : Hid (∀ j, j < k → xs[j]? = some (.int .u8 (byteAt l j))) := hx
    clear hx hown1 hgrow1
    by_cases hlt : k < len
    · have hcell : wr.cell? ⟨b, off + k, none⟩ = some (.int .u8 (byteAt l k)) := (hbel.cell (by exact hb)).trans (hc k hlt)
      have hl : xs.length = len := by simpa using hown.1
      obtain ⟨v, hold⟩ : ∃ v, wr.cell? ⟨w.heap.size, k, none⟩ = some v := ⟨xs[k]'(by omega), by rw [hown.cellAt k (by omega), List.getElem?_eq_getElem (by omega)]⟩
      have hfz : wr.frozen? ⟨w.heap.size, k, none⟩ = false := hown.frozenAt k
      obtain ⟨xs', h1, h2, h3, h4⟩ := clone_step hlt hown HX.out hbel hsz
      have H1 := hid h1
      have H2 := hid h2
      clear h1 h2 hown hl hc
      go_wp2
      go_roundw
      case rel => exact ⟨k + 1, by omega, by go_num, xs', H1.out, H2.out, h3, h4⟩
      case measure => simp [intOf]; omega
    · have : k = len := by omega
      subst this
      clear hown hc
      go_wp2
      go_ret
      exact ⟨rfl, own_ext HL.out HO.out HX.out, hbel⟩

/-- The clone, whatever the slice. -/
theorem clone_any (a : Option Addr) (n c : Nat) (l : List UInt8) (w : World) (hl : l.length = n) (hm : n ≤ 1048576) (hnone : a = none → c = 0) (hc : Cells w a l) :
    Calls Try.prog 8 #[.slice a n c] w fun e w' => ∃ a', e = .returned (.slice a' n n) ∧ w'.ownsRow w.heap.size 5 1 (.slice a' n n) n (vals l) ∧ Below w.heap.size w w' ∧ (a' = none ↔ a = none) ∧ (a' = none ∨ a' = some ⟨w.heap.size, 0, none⟩) := by
  rcases hc with rfl | ⟨b, o, rfl, hc⟩
  · subst hl
    cases a with
    | none =>
      obtain rfl := hnone rfl
      refine (clone_nil w).mono ?_
      rintro e w' ⟨rfl, rfl⟩
      exact ⟨none, rfl, World.ownsRow_nil _ _ _ _, Below.refl _ _, by simp, .inl rfl⟩
    | some x =>
      refine (clone_zero x c w).mono ?_
      rintro e w' ⟨rfl, h1, h2⟩
      exact ⟨_, rfl, h1, h2, by simp, .inr rfl⟩
  · by_cases h0 : n = 0
    · subst h0
      obtain rfl := List.eq_nil_of_length_eq_zero hl
      refine (clone_zero _ c w).mono ?_
      rintro e w' ⟨rfl, h1, h2⟩
      exact ⟨_, rfl, h1, h2, by simp, .inr rfl⟩
    · refine (clone_some b o n c l w hl hm (World.block_lt_of_cell? w _ (hc 0 (by omega))) (fun k hk => hc k (by omega))).mono ?_
      rintro e w' ⟨rfl, h1, h2⟩
      exact ⟨_, rfl, h1, h2, by simp, .inr rfl⟩

end Go.Proofs.Qxb6000009a
