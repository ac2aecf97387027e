/-
  THE WALKS over the clone of a slice of bytes.
-/
import Derived.Test.Qxb6003453aReads2
namespace Go.Proofs.Qxb6003453a
open Go.RowKit Go.Proofs.Qxb6003453a.Plain

theorem Try.info5 : (Try.prog.info? 5).map (fun i => (i.zero, i.size, i.bytes)) = some (some (.int .u8 0), 1, 1) := by kernel_rfl

theorem hid {p : Prop} (h : p) : Hid p := h

theorem q22 (w : World) (a : Option Addr) (n c n' c' : Nat) : (binOp .eql 22 (.slice a n c) (.slice none n' c')).run Try.prog w = .ok (.bool a.isNone) w :=
  Lib.run_eql_slice_nil w _ _ a n c n' c' Try.underlying22

theorem clone_nil (w : World) :
    Calls Try.prog 9 #[.slice none 0 0] w fun e w' => e = .returned (.slice none 0 0) ∧ w' = w := by
  have hq := q22
  go_enter Try.func9, Try.ntmps9
  go_wp2
  go_ret
  exact ⟨rfl, rfl⟩

/-- What one store does to what the call owns. -/
theorem clone_step {wr w : World} {B len k : Nat} {z : Nat → Int} {xs : List Value} (hk : k < len) (hown : wr.ownsRow B 5 1 (.slice (some ⟨B, 0, none⟩) len len) len xs)
    (hx : ∀ j, j < k → xs[j]? = some (.int .u8 (z j))) (hb : Below B w wr) (hs : B < wr.heap.size) :
    ∃ xs', (wr.setCell ⟨B, k, none⟩ (.int .u8 (z k))).ownsRow B 5 1 (.slice (some ⟨B, 0, none⟩) len len) len xs' ∧ (∀ j, j < k + 1 → xs'[j]? = some (.int .u8 (z j))) ∧
      Below B w (wr.setCell ⟨B, k, none⟩ (.int .u8 (z k))) ∧ B < (wr.setCell ⟨B, k, none⟩ (.int .u8 (z k))).heap.size := by
  refine ⟨xs.set k (.int .u8 (z k)), (hown.stored k _).1, ?_, hb.setCell (Nat.le_refl _) _, by simpa [World.setCell] using hs⟩
  intro j hj
  have hl : xs.length = len := by simpa using hown.1
  rw [List.getElem?_set]
  by_cases h : k = j
  · subst h; simp [hl, hk]
  · rw [if_neg h]; exact hx j (by omega)

set_option maxHeartbeats 400000 in
theorem clone_any (b off len cap : Nat) (z : Nat → Int) (w : World) (hm : len ≤ 1048576) (hb : b < w.heap.size) (hc : ∀ k, k < len → w.cell? ⟨b, off + k, none⟩ = some (.int .u8 (z k))) :
    Calls Try.prog 9 #[.slice (some ⟨b, off, none⟩) len cap] w fun e w' => e = .returned (.slice (some ⟨w.heap.size, 0, none⟩) len len) ∧ Below w.heap.size w w' ∧
      ∀ k, k < len → w'.cell? ⟨w.heap.size, k, none⟩ = some (.int .u8 (z k)) := by
  obtain ⟨i0, hi, hz0, hz1, hz2⟩ := info_parts Try.info5
  have hq := q22
  go_enter Try.func9, Try.ntmps9
  go_wp2_with (at_make; refine wpList_make_full _ rfl _ _ 22 rfl w.heap.size 5 i0 (.int .u8 0) 1 Try.underlying22 hi hz0 hz1 .i64 .i64 (len : Int) (len : Int) len rfl rfl rfl rfl (by rw [hz2]; omega) (by unfold maxLen; omega) (Nat.le_refl _) ?_; intro w1 hown1 hgrow1)
  clear hq
  go_loopw [4] (fun i wr => ∃ k : Nat, k ≤ len ∧ i = .int .i64 k ∧ ∃ xs, wr.ownsRow w.heap.size 5 1 (.slice (some ⟨w.heap.size, 0, none⟩) len len) len xs ∧ (∀ j, j < k → xs[j]? = some (.int .u8 (z j))) ∧
      Below w.heap.size w wr ∧ w.heap.size < wr.heap.size) (fun i _ => len - (intOf i).toNat)
  case atStart => exact ⟨0, Nat.zero_le _, rfl, _, hown1, fun j hj => absurd hj (by omega), (Below.refl _ _).grown hgrow1 (Nat.le_refl _) (by simp), (hown1.lt _ rfl).2⟩
  case round =>
    obtain ⟨k, hk, rfl, xs, hown, hx, hbel, hsz⟩ := hrel
    have HO : Hid (wr.ownsRow w.heap.size 5 1 (.slice (some ⟨w.heap.size, 0, none⟩) len len) len xs) := hown
    have HX : Hid (∀ j, j < k → xs[j]? = some (.int .u8 (z j))) := hx
    clear hx hown1 hgrow1
    by_cases hlt : k < len
    · have hcell : wr.cell? ⟨b, off + k, none⟩ = some (.int .u8 (z k)) := (hbel.cell (by exact hb)).trans (hc k hlt)
      have hl : xs.length = len := by simpa using hown.1
      obtain ⟨v, hold⟩ : ∃ v, wr.cell? ⟨w.heap.size, k, none⟩ = some v := ⟨xs[k]'(by omega), by rw [hown.cellAt k (by omega), List.getElem?_eq_getElem (by omega)]⟩
      have hfz : wr.frozen? ⟨w.heap.size, k, none⟩ = false := hown.frozenAt k
      obtain ⟨xs', h1, h2, h3, h4⟩ := clone_step hlt hown HX.out hbel hsz
      have H1 := hid h1
      have H2 := hid h2
      clear h1 h2 hown hl hc
      go_wp2
      go_roundw
      case rel => exact ⟨k + 1, by omega, by go_num, xs', H1.out, H2.out, h3, h4⟩
      case measure => simp [intOf]; omega
    · have : k = len := by omega
      subst this
      clear hown hc
      go_wp2
      go_ret
      exact ⟨rfl, hbel, fun j hj => by rw [HO.out.cellAt j (by omega)]; exact HX.out j hj⟩

set_option maxHeartbeats 400000 in
theorem clone_zero (x : Addr) (cap : Nat) (w : World) :
    Calls Try.prog 9 #[.slice (some x) 0 cap] w fun e w' => e = .returned (.slice (some ⟨w.heap.size, 0, none⟩) 0 0) ∧ Below w.heap.size w w' := by
  obtain ⟨i0, hi, hz0, hz1, hz2⟩ := info_parts Try.info5
  have hq := q22
  go_enter Try.func9, Try.ntmps9
  go_wp2_with (at_make; refine wpList_make_full _ rfl _ _ 22 rfl w.heap.size 5 i0 (.int .u8 0) 1 Try.underlying22 hi hz0 hz1 .i64 .i64 (0 : Int) (0 : Int) 0 rfl rfl rfl rfl (by omega) (by unfold maxLen; omega) (Nat.le_refl _) ?_; intro w1 hown1 hgrow1)
  clear hq
  refine wp_loop_rounds 1 ?_
  rw [rounds_succ]
  go_wp2
  go_ret
  exact ⟨rfl, (Below.refl _ _).grown hgrow1 (Nat.le_refl _) (by simp)⟩

end Go.Proofs.Qxb6003453a
