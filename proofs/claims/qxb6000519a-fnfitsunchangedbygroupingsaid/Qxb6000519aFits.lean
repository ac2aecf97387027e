/-
  THE WALK over report.fits.
-/
import Derived.Test.Qxb6000519aThreeWalk
import Derived.Test.Qxb6000519aFitsPlain
namespace Go.Proofs.Qxb6000519a
open Go.RowKit Go.Proofs.Qxb6000519a.Plain

/-- What is known when the rune at 'pos' has been read. -/
def Next (l : List UInt8) (np n : Nat) (st : Bool) (r : Nat) : Prop :=
  (¬ (48 ≤ r ∧ r ≤ 57) → fcount (l.take np) = (n, st)) ∧ (48 ≤ r → r ≤ 57 → fcount (l.take np) = if st || decide (49 ≤ r) then (n + 1, true) else (n, st))

theorem next_of (s : ByteArray) (pos n : Nat) (st : Bool) (h : pos < s.size) (hf : fcount (s.data.toList.take pos) = (n, st)) : Next s.data.toList (pos + (Utf8.decode s pos).2) n st (Utf8.decode s pos).1 := by
  refine ⟨fun h0 => ?_, fun h0 h9 => ?_⟩
  · rw [fcount_high s pos h h0, hf]
  · rw [fcount_digit s pos h h0 h9, hf]

set_option maxRecDepth 1000000 in
set_option maxHeartbeats 1600000 in
theorem fits_any (s : ByteArray) (w : World) (hs : s.size ≤ 20000000) :
    Calls Try.prog 25 #[.string s] w fun e w' => e = .returned (.bool (decide ((fcount s.data.toList).1 ≤ 15))) ∧ Below w.heap.size w w' := by
  go_enter Try.func25, Try.ntmps25
  go_wp2
  go_loopw [3, 4] (fun s3 s4 wr => ∃ (pos n : Nat) (st : Bool), pos ≤ s.size ∧ n ≤ pos ∧ s3 = .int .i64 n ∧ s4 = .bool st ∧ Hid (fcount (s.data.toList.take pos) = (n, st) ∧ wr.heap[w.heap.size]? = some (.stringIter s pos) ∧ Below w.heap.size w wr)) (fun _ _ wr => s.size - wr.iterPos w.heap.size)
  case atStart => exact ⟨0, 0, false, Nat.zero_le _, Nat.le_refl _, rfl, rfl, rfl, World.iter_heap w s 0, (Below.refl _ _).alloc (Nat.le_refl _) _⟩
  case round =>
    obtain ⟨pos, n, st, hps, hnp, rfl, rfl, HR⟩ := hrel
    obtain ⟨hf, hit, hbw⟩ := HR.out
    by_cases hp : pos < s.size
    · obtain ⟨_, hle, hwd, _⟩ := decode_kind s pos hp
      have HN := hid (next_of s pos n st hp hf)
      have hd1 := decode_le s pos
      obtain ⟨r, wd, hde⟩ : ∃ r wd, Utf8.decode s pos = (r, wd) := ⟨_, _, rfl⟩
      have hnx : ∀ ty, (Instr.next (.pointer (some ⟨w.heap.size, 0, none⟩)) true ty).run Try.prog wr = .ok (.tuple #[.bool true, .int .i64 pos, .int .i32 r]) (wr.iterAt w.heap.size s (pos + wd)) := fun ty => by
        have h := Lib.run_next_any_at (P := Try.prog) wr w.heap.size s pos ty hit hp
        rw [hde] at h; exact h
      rw [hde] at hle hwd HN hd1
      have HN : Hid (Next s.data.toList (pos + wd) n st r) := HN
      have hle : pos + wd ≤ s.size := hle
      have hwd : 1 ≤ wd := hwd
      have hd1 : r ≤ 2147483647 := hd1
      clear hde
      obtain ⟨np, hnpe⟩ : ∃ np, pos + wd = np := ⟨_, rfl⟩
      rw [hnpe] at hnx HN hle
      have hnp1 : pos + 1 ≤ np := by omega
      clear hnpe hwd
      have HIt2 := hid (Lib.iterAt_heap wr w.heap.size s pos np hit)
      have HBw2 := hid (Lib.below_iterAt hbw (k := w.heap.size) (Nat.le_refl _) s np)
      have HMe : Hid (wr.iterPos w.heap.size = pos) := iterPos_at hit
      clear hf hit hbw HR
      cases st with
      | false =>
        by_cases h1 : (r : Int) < 48
        · go_wp2
          go_roundw
          case rel => exact ⟨np, n, false, hle, by omega, by go_num, rfl, HN.out.1 (by omega), HIt2.out, HBw2.out⟩
          case measure => rw [HMe.out, iterPos_at HIt2.out]; omega
        · by_cases h2 : (57 : Int) < (r : Int)
          · go_wp2
            go_roundw
            case rel => exact ⟨np, n, false, hle, by omega, by go_num, rfl, HN.out.1 (by omega), HIt2.out, HBw2.out⟩
            case measure => rw [HMe.out, iterPos_at HIt2.out]; omega
          · by_cases h3 : (r : Int) < 49
            · go_wp2
              go_roundw
              case rel => exact ⟨np, n, false, hle, by omega, by go_num, rfl, by rw [HN.out.2 (by omega) (by omega), decide_eq_false (by omega)]; rfl, HIt2.out, HBw2.out⟩
              case measure => rw [HMe.out, iterPos_at HIt2.out]; omega
            · go_wp2
              go_roundw
              case rel => exact ⟨np, n + 1, true, hle, by omega, by go_num, rfl, by rw [HN.out.2 (by omega) (by omega), decide_eq_true (by omega)]; rfl, HIt2.out, HBw2.out⟩
              case measure => rw [HMe.out, iterPos_at HIt2.out]; omega
      | true =>
        by_cases h1 : (r : Int) < 48
        · go_wp2
          go_roundw
          case rel => exact ⟨np, n, true, hle, by omega, by go_num, rfl, HN.out.1 (by omega), HIt2.out, HBw2.out⟩
          case measure => rw [HMe.out, iterPos_at HIt2.out]; omega
        · by_cases h2 : (57 : Int) < (r : Int)
          · go_wp2
            go_roundw
            case rel => exact ⟨np, n, true, hle, by omega, by go_num, rfl, HN.out.1 (by omega), HIt2.out, HBw2.out⟩
            case measure => rw [HMe.out, iterPos_at HIt2.out]; omega
          · by_cases h3 : (r : Int) < 49
            · go_wp2
              go_roundw
              case rel => exact ⟨np, n + 1, true, hle, by omega, by go_num, rfl, by rw [HN.out.2 (by omega) (by omega), Bool.true_or, if_pos rfl], HIt2.out, HBw2.out⟩
              case measure => rw [HMe.out, iterPos_at HIt2.out]; omega
            · go_wp2
              go_roundw
              case rel => exact ⟨np, n + 1, true, hle, by omega, by go_num, rfl, by rw [HN.out.2 (by omega) (by omega), Bool.true_or, if_pos rfl], HIt2.out, HBw2.out⟩
              case measure => rw [HMe.out, iterPos_at HIt2.out]; omega
    · have hnx : ∀ ty, (Instr.next (.pointer (some ⟨w.heap.size, 0, none⟩)) true ty).run Try.prog wr = .ok (.tuple #[.bool false]) wr := fun ty => Lib.run_next_end_at wr w.heap.size s pos ty hit hp
      have HE : Hid ((fcount s.data.toList).1 = n ∧ Below w.heap.size w wr) := ⟨by rw [List.take_of_length_le (by rw [← Lib.size_eq]; omega)] at hf; rw [hf], hbw⟩
      clear hf hit hbw HR
      go_wp2
      go_ret
      exact ⟨by rw [HE.out.1, show decide (n ≤ 15) = decide ((n : Int) ≤ 15) from decide_eq_decide.2 (by omega)]; rfl, HE.out.2⟩

end Go.Proofs.Qxb6000519a
