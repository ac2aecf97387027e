/-
  THE WALKS over bytes.IndexByte, bytes.Index and bytes.Cut at a separator of one byte; bytes.Equal, bytes.HasPrefix, bytes.TrimPrefix.
-/
import Derived.Test.Qxb6000122aEq
import Derived.Lib.BytesEntry
namespace Go.Proofs.Qxb6000122a
open Go.RowKit Go.Proofs.Qxb6000122a.Plain

theorem nums_bytes (l : List UInt8) : Lib.bytesOf (l.map fun b => (b.toNat : Int)) = l := by
  unfold Lib.bytesOf
  rw [List.map_map]
  conv => rhs; rw [← List.map_id l]
  apply List.map_congr_left
  intro b _
  simp

theorem nums_at (l : List UInt8) (i : Nat) : (l.map fun b => (b.toNat : Int)).getD i 0 = byteAt l i := by
  unfold byteAt
  rw [List.getD_eq_getElem?_getD, List.getD_eq_getElem?_getD, List.getElem?_map]
  cases l[i]? <;> rfl

theorem run23 (a : Option Addr) (n c : Nat) (l : List UInt8) (cv : Int) (w : World) (hn : l.length = n) (hc : Cells w a l) :
    (callFunc 23 #[.slice a n c, .int .u8 cv]).run Try.prog w = .ok (.value (.int .i64 (Lib.indexByte l cv.toNat.toUInt8))) w := by
  rw [run_callFunc_extern (e := Extern.BytealgIndexByte.indexByte) Try.func23 (by kernel_rfl) (by kernel_rfl) (by kernel_rfl) (by kernel_rfl)]
  rcases hc with rfl | ⟨b, o, rfl, hc⟩
  · subst hn
    have h : (Extern.BytealgIndexByte.indexByte #[.slice a ([] : List UInt8).length c, .int .u8 cv]).run Try.prog w = .ok (.int .i64 (-1)) w := by
      have hs := Lib.run_indexByteString (P := Try.prog) .empty cv w
      cases a <;> exact hs
    rw [h]; rfl
  · rw [Lib.run_indexByteSlice w b o n c (l.map fun b => (b.toNat : Int)) (by simpa using hn) (fun i hi => by rw [nums_at]; exact hc i (by omega)), nums_bytes]
    rfl

set_option maxRecDepth 100000 in
set_option maxHeartbeats 400000 in
theorem index_any (a : Option Addr) (n c sb : Nat) (l : List UInt8) (cv : Int) (w : World) (hn : l.length = n) (hc : Cells w a l) (hs : w.cell? ⟨sb, 0, none⟩ = some (.int .u8 cv)) :
    Calls Try.prog 16 #[.slice a n c, .slice (some ⟨sb, 0, none⟩) 1 1] w fun e w' => e = .returned (.int .i64 (Lib.indexByte l cv.toNat.toUInt8)) ∧ w' = w := by
  have hr := run23 a n c l cv w hn hc
  clear hc hn
  generalize Lib.indexByte l cv.toNat.toUInt8 = r at hr
  go_enter Try.func16, Try.ntmps16
  go_wp2
  go_ret
  exact ⟨rfl, rfl⟩

set_option maxHeartbeats 400000 in
theorem cut_none (a : Option Addr) (n c sb : Nat) (l : List UInt8) (w : World) (hn : l.length = n) (hc : Cells w a l) (hs : w.cell? ⟨sb, 0, none⟩ = some (.int .u8 58)) (hno : Lib.indexByte l 58 = -1) :
    Calls Try.prog 14 #[.slice a n c, .slice (some ⟨sb, 0, none⟩) 1 1] w fun e w' => e = .returned (.tuple #[.slice a n c, .slice none 0 0, .bool false]) ∧ ∃ q, w' = w.drewN q := by
  have hi := index_any a n c sb l 58 w hn hc hs
  rw [show ((58 : Int).toNat.toUInt8) = 58 from rfl, hno] at hi
  have HI := hid hi
  clear hi hc hn hno
  go_enter Try.func14, Try.ntmps14
  go_wp2_with (go_at_call 16; refine HI.out.mono ?_; rintro e w' ⟨rfl, rfl⟩)
  go_ret3
  exact ⟨rfl, 0, rfl⟩

set_option maxHeartbeats 800000 in
theorem cut_some (b o n c sb k : Nat) (l : List UInt8) (w : World) (hn : l.length = n) (hm : n ≤ 2097152) (hnc : n ≤ c) (hcm : c ≤ 4611686018427387904) (hc : Cells w (some ⟨b, o, none⟩) l) (hs : w.cell? ⟨sb, 0, none⟩ = some (.int .u8 58)) (hk : k < n) (hno : Lib.indexByte l 58 = (k : Int)) :
    Calls Try.prog 14 #[.slice (some ⟨b, o, none⟩) n c, .slice (some ⟨sb, 0, none⟩) 1 1] w fun e w' => ∃ a', e = .returned (.tuple #[.slice (some ⟨b, o, none⟩) k c, .slice (some a') (n - (k + 1)) (c - (k + 1)), .bool true]) ∧
      (c ≠ k + 1 → a' = ⟨b, o + (k + 1), none⟩) ∧ ∃ q, w' = w.drewN q := by
  have hi := index_any (some ⟨b, o, none⟩) n c sb l 58 w hn hc hs
  rw [show ((58 : Int).toNat.toUInt8) = 58 from rfl, hno] at hi
  have HI := hid hi
  clear hi hc hn hno
  have hk1 : (k : Int) + 1 ≤ (n : Int) := by omega
  have hk2 : (k : Int) ≤ (c : Int) := by omega
  have hk3 : (k : Int) + 1 ≤ (c : Int) := by omega
  by_cases hck : c = k + 1
  · subst hck
    obtain rfl : n = k + 1 := by omega
    go_enter Try.func14, Try.ntmps14
    go_wp2_with (go_at_call 16; refine HI.out.mono ?_; rintro e w' ⟨rfl, rfl⟩)
    go_quiet (fail)
    go_wp2
    go_ret3
    exact ⟨⟨b, o, none⟩, by rw [Nat.sub_self]; rfl, fun h => absurd rfl h, _, rfl⟩
  · go_enter Try.func14, Try.ntmps14
    go_wp2_with (go_at_call 16; refine HI.out.mono ?_; rintro e w' ⟨rfl, rfl⟩)
    go_quiet (fail)
    go_wp2
    go_ret3
    exact ⟨_, rfl, fun h => rfl, _, rfl⟩

theorem conv_any (a : Option Addr) (n c : Nat) (l : List UInt8) (w : World) (hn : l.length = n) (hc : Cells w a l) :
    (convert 27 9 (.slice a n c)).run Try.prog w = .ok (.string ⟨l.toArray⟩) w := by
  rcases hc with rfl | ⟨b, o, rfl, hc⟩
  · subst hn
    rw [run_convert_bytes_string w 27 9 5 a _ c Try.underlying27 Try.underlying5 Try.underlying9]
    cases a <;> rfl
  · rw [run_convert_bytes_arg w 27 5 Try.underlying27 Try.underlying5 b o n c (l.map fun b => (b.toNat : Int)) (by simpa using hn) (fun i hi => by rw [nums_at]; exact hc i (by omega)) 9 Try.underlying9]
    have := nums_bytes l
    unfold Lib.bytesOf at this
    unfold strOfNums
    rw [this]

set_option maxHeartbeats 400000 in
theorem equal_any (a a' : Option Addr) (n c n' c' : Nat) (l m : List UInt8) (w : World) (hn : l.length = n) (hn' : m.length = n') (hc : Cells w a l) (hc' : Cells w a' m) :
    Calls Try.prog 19 #[.slice a n c, .slice a' n' c'] w fun e w' => e = .returned (.bool (decide (l = m))) ∧ w' = w := by
  have h1 := conv_any a n c l w hn hc
  have h2 := conv_any a' n' c' m w hn' hc'
  clear hc hc' hn hn'
  go_enter Try.func19, Try.ntmps19
  go_wp2
  go_ret
  refine ⟨ret_bool ?_, rfl⟩
  rw [Bool.eq_iff_iff]; simp

theorem Cells.take {w : World} {a : Option Addr} {l : List UInt8} (h : Cells w a l) (k : Nat) : Cells w a (l.take k) := by
  rcases h with rfl | ⟨b, o, h1, h2⟩
  · exact .inl (by simp)
  · exact .inr ⟨b, o, h1, fun i hi => by
      have hi' : i < k ∧ i < l.length := by simp at hi; omega
      rw [byteAt_take hi'.1]; exact h2 i hi'.2⟩

theorem Cells.drop {w : World} {b o : Nat} {a' : Option Addr} {l : List UInt8} (k : Nat) (h : Cells w (some ⟨b, o, none⟩) l) (ha : l.length ≠ k → a' = some ⟨b, o + k, none⟩) (hk : k ≤ l.length) : Cells w a' (l.drop k) := by
  by_cases he : l.length = k
  · exact .inl (by simp [he])
  · rcases h with rfl | ⟨b', o', h1, h2⟩
    · simp at hk; simp at he; omega
    · simp at h1
      obtain ⟨rfl, rfl⟩ := h1
      refine .inr ⟨b, o + k, ha he, fun i hi => ?_⟩
      have hi' : i < l.length - k := by simpa using hi
      rw [byteAt_drop, Nat.add_assoc]
      exact h2 (k + i) (by omega)

set_option maxHeartbeats 400000 in
theorem hasPrefix_empty (a : Option Addr) (c sb : Nat) (w : World) :
    Calls Try.prog 17 #[.slice a 0 c, .slice (some ⟨sb, 0, none⟩) 1 1] w fun e w' => e = .returned (.bool false) ∧ w' = w := by
  go_enter Try.func17, Try.ntmps17
  go_wp2
  go_ret
  exact ⟨rfl, rfl⟩

theorem one_cell {w : World} {sb : Nat} {x : UInt8} (hs : w.cell? ⟨sb, 0, none⟩ = some (.int .u8 (x.toNat : Int))) : Cells w (some ⟨sb, 0, none⟩) [x] :=
  .inr ⟨sb, 0, rfl, fun i hi => by
    have : i = 0 := by simp at hi; omega
    subst this; simpa [byteAt] using hs⟩

theorem take_one {l : List UInt8} {x : UInt8} (hl : 0 < l.length) : decide (l.take 1 = [x]) = decide (byteAt l 0 = (x.toNat : Int)) := by
  cases l with
  | nil => simp at hl
  | cons c l =>
    rw [Bool.eq_iff_iff]
    simp only [decide_eq_true_eq, byteAt_eq]
    simp

set_option maxHeartbeats 400000 in
theorem hasPrefix_some (b o n c sb : Nat) (l : List UInt8) (x : UInt8) (w : World) (hn : l.length = n) (h0 : 0 < n) (hm : n ≤ 2097152) (hnc : n ≤ c) (hc : Cells w (some ⟨b, o, none⟩) l) (hs : w.cell? ⟨sb, 0, none⟩ = some (.int .u8 (x.toNat : Int))) :
    Calls Try.prog 17 #[.slice (some ⟨b, o, none⟩) n c, .slice (some ⟨sb, 0, none⟩) 1 1] w fun e w' => e = .returned (.bool (decide (byteAt l 0 = (x.toNat : Int)))) ∧ w' = w := by
  have he := equal_any (some ⟨b, o, none⟩) (some ⟨sb, 0, none⟩) 1 c 1 1 (l.take 1) [x] w (by simp; omega) rfl (hc.take 1) (one_cell hs)
  rw [take_one (by omega)] at he
  have HE := hid he
  clear he hc hs hn
  generalize decide (byteAt l 0 = (x.toNat : Int)) = r at HE
  have h1 : (1 : Int) ≤ (n : Int) := by omega
  have h2 : (1 : Int) ≤ (c : Int) := by omega
  go_enter Try.func17, Try.ntmps17
  go_wp2_with (go_at_call 19; refine HE.out.mono ?_; rintro e w' ⟨rfl, rfl⟩)
  go_ret
  exact ⟨rfl, rfl⟩

set_option maxHeartbeats 400000 in
theorem trim_no (a : Option Addr) (n c sb : Nat) (l : List UInt8) (x : UInt8) (w : World) (hn : l.length = n) (hm : n ≤ 2097152) (hnc : n ≤ c) (hc : Cells w a l) (hs : w.cell? ⟨sb, 0, none⟩ = some (.int .u8 (x.toNat : Int)))
    (hno : n = 0 ∨ byteAt l 0 ≠ (x.toNat : Int)) :
    Calls Try.prog 15 #[.slice a n c, .slice (some ⟨sb, 0, none⟩) 1 1] w fun e w' => e = .returned (.slice a n c) ∧ w' = w := by
  have hp : Calls Try.prog 17 #[.slice a n c, .slice (some ⟨sb, 0, none⟩) 1 1] w fun e w' => e = .returned (.bool false) ∧ w' = w := by
    by_cases h0 : n = 0
    · subst h0; exact hasPrefix_empty a c sb w
    · rcases hc with rfl | ⟨b, o, rfl, hc⟩
      · simp at hn; omega
      · have h := hasPrefix_some b o n c sb l x w hn (by omega) hm hnc (.inr ⟨b, o, rfl, hc⟩) hs
        rw [decide_eq_false (by rcases hno with h | h; exact absurd h h0; exact h)] at h
        exact h
  have HP := hid hp
  clear hp hc hs hn hno
  go_enter Try.func15, Try.ntmps15
  go_wp2_with (go_at_call 17; refine HP.out.mono ?_; rintro e w' ⟨rfl, rfl⟩)
  go_ret
  exact ⟨rfl, rfl⟩

set_option maxHeartbeats 400000 in
theorem trim_yes (b o n c sb : Nat) (l : List UInt8) (x : UInt8) (w : World) (hn : l.length = n) (h0 : 0 < n) (hm : n ≤ 2097152) (hnc : n ≤ c) (hc : Cells w (some ⟨b, o, none⟩) l) (hs : w.cell? ⟨sb, 0, none⟩ = some (.int .u8 (x.toNat : Int)))
    (hyes : byteAt l 0 = (x.toNat : Int)) :
    Calls Try.prog 15 #[.slice (some ⟨b, o, none⟩) n c, .slice (some ⟨sb, 0, none⟩) 1 1] w fun e w' => ∃ a', e = .returned (.slice (some a') (n - 1) (c - 1)) ∧ (c ≠ 1 → a' = ⟨b, o + 1, none⟩) ∧ w' = w := by
  have h := hasPrefix_some b o n c sb l x w hn (by omega) hm hnc hc hs
  rw [decide_eq_true hyes] at h
  have HP := hid h
  clear h hc hs hn hyes
  have h1 : (1 : Int) ≤ (n : Int) := by omega
  have h2 : (1 : Int) ≤ (c : Int) := by omega
  by_cases hc1 : c = 1
  · subst hc1
    obtain rfl : n = 1 := by omega
    go_enter Try.func15, Try.ntmps15
    go_wp2_with (go_at_call 17; refine HP.out.mono ?_; rintro e w' ⟨rfl, rfl⟩)
    go_ret
    exact ⟨⟨b, o, none⟩, rfl, fun h => absurd rfl h, rfl⟩
  · go_enter Try.func15, Try.ntmps15
    go_wp2_with (go_at_call 17; refine HP.out.mono ?_; rintro e w' ⟨rfl, rfl⟩)
    go_ret
    exact ⟨_, rfl, fun h => rfl, rfl⟩

end Go.Proofs.Qxb6000122a
