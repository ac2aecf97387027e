/-
  'validUTF8': a true answer says that the text is scalar values' forms in a row.
-/
import Derived.Test.Qxb6000519aWithout
import Derived.Test.Qxb6000519aForm
import Derived.Laws.BitsLemmas
import Derived.Deep.LoopGhost
import Derived.Deep.CutRange
namespace Go.Proofs.Qxb6000519a
open Go.RowKit Go.Proofs.Qxb6000519a.Plain

def VPost (l : List UInt8) (w : World) (e : Ending) (w' : World) : Prop := ∃ b : Bool, e = .returned (.bool b) ∧ w' = w ∧ (b = true → Chain l)

theorem VPost.no (l : List UInt8) (w : World) : VPost l w (.returned (.bool false)) w := ⟨false, rfl, rfl, fun h => by cases h⟩
theorem VPost.yes {l : List UInt8} (h : Chain l) (w : World) : VPost l w (.returned (.bool true)) w := ⟨true, rfl, rfl, fun _ => h⟩

set_option maxRecDepth 1000000 in
set_option maxHeartbeats 8000000 in
theorem valid_any (s : ByteArray) (w : World) (hs : s.size ≤ 1048576) : Calls Try.prog 9 #[.string s] w (VPost s.data.toList w) := by
  go_enter Try.func9, Try.ntmps9
  go_wp2
  go_loopg [3] s.size (fun g i wx => ∃ k : Nat, k + g = s.size ∧ i = .int .i64 k ∧ wx = w ∧ Hid (Chain (s.data.toList.take k)))
  case atStart => exact ⟨0, by omega, rfl, rfl, [], by simp, rfl⟩
  case round =>
    obtain ⟨k, hk, rfl, hwr, HC⟩ := hrel
    have hwr' := hwr.symm
    subst hwr'
    by_cases hlt : k < s.size
    · have hc8 : s[k].toNat < 256 := s[k].toNat_lt
      have HNb : Hid (nb s.data.toList k = s[k].toNat) := nb_at _ _ (by rw [← Lib.size_eq]; exact hlt)
      by_cases h128 : (s[k].toNat : Int) < 128
      · go_wp2
        go_roundg (s.size - (k + 1))
        case rel => exact ⟨k + 1, by omega, by go_num, rfl, HC.out.ascii (by rw [← Lib.size_eq]; exact hlt) (by rw [HNb.out]; omega)⟩
        case measure => omega
      · obtain ⟨c, hc⟩ : ∃ c : Nat, s[k].toNat = c := ⟨_, rfl⟩
        rw [hc] at hc8 h128
        go_upto_region 9 with fail
        go_cut [26] from 10 to 93 (fun s26 w' => s26 = .bool (decide (194 ≤ c ∧ c ≤ 223)) ∧ w' = w)
        case first =>
          by_cases h1 : (c : Int) < 194
          · go_wp2
            go_meet
            case rel => exact ⟨by rw [decide_eq_false (by omega)], rfl⟩
          · by_cases h2 : (223 : Int) < c
            · go_wp2
              go_meet
              case rel => exact ⟨by congr 1; exact decide_eq_decide.2 (by omega), rfl⟩
            · go_wp2
              go_meet
              case rel => exact ⟨by rw [decide_eq_true (by omega)], rfl⟩
        case rest =>
          obtain ⟨rfl, hwc⟩ := hcut
          have hwc' := hwc.symm
          subst hwc'
          go_upto_if 26 with fail
          go_cut [5, 6, 7] from 10 to 93 (fun s5 s6 s7 w' => ∃ n r m : Nat, s5 = .int .i64 n ∧ s6 = .int .i32 r ∧ s7 = .int .i32 m ∧ w' = w ∧ Hid (Head c n r m))
          case first =>
            by_cases h1 : 194 ≤ c ∧ c ≤ 223
            · have hb := u8_and31 (x := (c : Int)) (by omega) (by omega)
              go_wp2
              go_meet
              case rel => exact ⟨2, c % 32, 128, rfl, by congr 1, rfl, rfl, Or.inl ⟨rfl, h1.1, h1.2, by omega, rfl⟩⟩
            · by_cases h2 : 224 ≤ c ∧ c ≤ 239
              · obtain ⟨h2, h3⟩ := h2
                have hb := u8_and15 (x := (c : Int)) (by omega) (by omega)
                go_wp2
                go_meet
                case rel => exact ⟨3, c % 16, 2048, rfl, by congr 1, rfl, rfl, Or.inr (Or.inl ⟨rfl, by omega, by omega, by omega, rfl⟩)⟩
              · by_cases h3 : 240 ≤ c ∧ c ≤ 244
                · obtain ⟨h3, h4⟩ := h3
                  have hb := u8_and7 (x := (c : Int)) (by omega) (by omega)
                  go_wp2
                  go_meet
                  case rel => exact ⟨4, c % 8, 65536, rfl, by congr 1, rfl, rfl, Or.inr (Or.inr ⟨rfl, by omega, by omega, by omega, rfl⟩)⟩
                · go_wp2
                  all_goals (go_ret; exact VPost.no _ _)
          case rest =>
            obtain ⟨n, r0, m, rfl, rfl, rfl, hwc, HH⟩ := hcut
            have hwc' := hwc.symm
            subst hwc'
            have hn : 2 ≤ n ∧ n ≤ 4 := by have := HH.out; unfold Head at this; omega
            have hr0 : r0 < 64 := by have := HH.out; unfold Head at this; omega
            have hm : m < 70000 := by have := HH.out; unfold Head at this; omega
            obtain ⟨hn2, hn4⟩ := hn
            by_cases hfit : (s.size : Int) < (k : Int) + (n : Int)
            · go_wp2
              go_ret
              exact VPost.no _ _
            · go_wp2
              go_loopg [6, 8] (n - 1) (fun g s6 s8 wx => ∃ j r : Nat, j + 1 + g = n ∧ s8 = .int .i64 ((j : Int) + 1) ∧ s6 = .int .i32 r ∧ wx = w ∧ Hid (r = acc s.data.toList k r0 j ∧ ∀ i, i < j → 128 ≤ nb s.data.toList (k + 1 + i) ∧ nb s.data.toList (k + 1 + i) ≤ 191))
              case atStart => exact ⟨0, r0, by omega, rfl, rfl, rfl, rfl, fun i hi => absurd hi (by omega)⟩
              case round =>
                obtain ⟨j, r, hjg, rfl, rfl, hwi, HR⟩ := hrel
                have hwi' := hwi.symm
                subst hwi'
                by_cases hj : j + 1 < n
                · have hrb : r < 262144 := by rw [HR.out.1]; exact acc_small _ _ _ _ hr0 (by omega)
                  have hix : k + 1 + j < s.size := by omega
                  have hix2 : k + (j + 1) < s.size := by omega
                  have HD : Hid (nb s.data.toList (k + 1 + j) = s[k + (j + 1)].toNat) := by
                    have h := nb_at s.data.toList (k + (j + 1)) (by rw [← Lib.size_eq]; exact hix2)
                    show nb s.data.toList (k + 1 + j) = _
                    rw [show k + 1 + j = k + (j + 1) by omega, h]
                    rfl
                  have hd8 : s[k + (j + 1)].toNat < 256 := s[k + (j + 1)].toNat_lt
                  go_upto_region 28 with fail
                  obtain ⟨d, hd⟩ : ∃ d, s[k + (j + 1)].toNat = d := ⟨_, rfl⟩
                  rw [hd] at hd8 ⊢
                  have HD2 : Hid (nb s.data.toList (k + 1 + j) = d) := HD.out.trans hd
                  clear HD hd
                  by_cases hd1 : (d : Int) < 128
                  · go_wp2
                    go_ret
                    exact VPost.no _ _
                  · by_cases hd2 : (191 : Int) < (d : Int)
                    · go_wp2
                      go_ret
                      exact VPost.no _ _
                    · have hb := u8_and63 (x := (d : Int)) (by omega) (by omega)
                      have hb2 := i32_or6 (x := (r : Int) * 64) (y := (d : Int) % 64) (by omega) (by omega) (by omega) (by omega) (by omega)
                      go_wp2
                      go_roundg (n - (j + 2))
                      case rel => exact ⟨j + 1, r * 64 + d % 64, by omega, by go_num, by go_num, rfl, by rw [HR.out.1]; show _ = _ * 64 + nb _ _ % 64; rw [HD2.out], fun i hi => by
                        by_cases hij : i = j
                        · subst hij; rw [HD2.out]; omega
                        · exact HR.out.2 i (by omega)⟩
                      case measure => omega
                · have hjn : n = j + 1 := by omega
                  have HF : Hid (m ≤ r → r ≤ 1114111 → (r < 55296 ∨ 57343 < r) → Chain (s.data.toList.take (k + n))) :=
                    fun h1 h2 h3 => HC.out.form (r := r) (by rw [← Lib.size_eq]; omega) (by rw [HNb.out, hc]; exact HH.out) (fun i hi => HR.out.2 i (by omega)) (by rw [hjn]; exact HR.out.1) h1 h2 h3
                  clear HR HC HNb HH hc hjn
                  go_upto_region 31 with fail
                  go_cut [90] from 10 to 93 (fun s90 w' => ∃ b : Bool, s90 = .bool b ∧ w' = w ∧ Hid (b = false → Chain (s.data.toList.take (k + n))))
                  case first =>
                    by_cases hq1 : (r : Int) < (m : Int)
                    · go_wp2
                      go_meet
                      case rel => exact ⟨_, rfl, rfl, fun h => by cases h⟩
                    · by_cases hq2 : (1114111 : Int) < (r : Int)
                      · go_wp2
                        go_meet
                        case rel => exact ⟨_, rfl, rfl, fun h => by cases h⟩
                      · by_cases hq3 : (r : Int) < 55296
                        · go_wp2
                          go_meet
                          case rel => exact ⟨_, rfl, rfl, fun _ => HF.out (by omega) (by omega) (by omega)⟩
                        · by_cases hq4 : (57343 : Int) < (r : Int)
                          · go_wp2
                            go_meet
                            case rel => exact ⟨_, rfl, rfl, fun _ => HF.out (by omega) (by omega) (by omega)⟩
                          · go_wp2
                            go_meet
                            case rel => exact ⟨_, rfl, rfl, fun h => by first | (cases h; done) | (simp at h; exact absurd h (by omega))⟩
                  case rest =>
                    obtain ⟨b, rfl, hwc3, HB⟩ := hcut
                    have hwc3' := hwc3.symm
                    subst hwc3'
                    cases b with
                    | true =>
                      go_wp2
                      go_ret
                      exact VPost.no _ _
                    | false =>
                      have HB2 := hid (HB.out rfl)
                      go_wp2
                      go_roundg (s.size - (k + n))
                      case rel => exact ⟨k + n, by omega, by go_num, rfl, HB2.out⟩
                      case measure => omega
    · have : k = s.size := by omega
      subst this
      have HE : Hid (Chain s.data.toList) := by
        have h := HC.out
        rw [List.take_of_length_le (by rw [← Lib.size_eq]; exact Nat.le_refl _)] at h
        exact h
      go_wp2
      go_ret
      exact VPost.yes HE.out _

end Go.Proofs.Qxb6000519a
