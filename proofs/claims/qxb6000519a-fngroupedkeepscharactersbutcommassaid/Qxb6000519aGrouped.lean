/-
  THE WALK over report.Grouped.
-/
import Derived.Test.Qxb6000519aCut
import Derived.Deep.Cut
import Derived.Deep.CutBlock
import Derived.BigCall
namespace Go.Proofs.Qxb6000519a
open Go.RowKit Go.Proofs.Qxb6000519a.Plain

theorem nameOf_le (l : List UInt8) : (nameOf l).length ≤ l.length := by
  induction l with
  | nil => exact Nat.le_refl _
  | cons c l ih => unfold nameOf; split <;> simp <;> omega

theorem restOf_le (l : List UInt8) : (restOf l).length ≤ l.length := by
  induction l with
  | nil => exact Nat.le_refl _
  | cons c l ih => unfold restOf; split <;> simp <;> omega

theorem signOf_le (l : List UInt8) : (signOf l).length ≤ 1 := by
  cases l with
  | nil => simp [signOf]
  | cons c l =>
    rw [signOf]
    by_cases h : c = 45
    · rw [if_pos h]; simp
    · rw [if_neg h]; simp

theorem sign_cases (S : List UInt8) : (Lib.hasPrefix S [45] = true ∧ signOf S = [45] ∧ bodyOf S = Lib.trimPrefix S [45]) ∨ (Lib.hasPrefix S [45] = false ∧ signOf S = [] ∧ bodyOf S = S) := by
  cases S with
  | nil => exact .inr ⟨rfl, rfl, rfl⟩
  | cons c l =>
    by_cases h : c = 45
    · subst h
      exact .inl ⟨by simp [Lib.hasPrefix], by simp [signOf], by simp [bodyOf, Lib.trimPrefix, Lib.hasPrefix]⟩
    · refine .inr ⟨?_, by simp [signOf, h], by simp [bodyOf, h]⟩
      show (((45 : UInt8) == c) && ([] : List UInt8).isPrefixOf l) = false
      simp
      intro h'
      exact h h'.symm

theorem iterPos_at {w : World} {k pos : Nat} {s : ByteArray} (h : w.heap[k]? = some (.stringIter s pos)) : w.iterPos k = pos := by simp [World.iterPos, h]

/-- A rune has been written: the loop's relation holds again. -/
theorem loop_rune {w1 X W : World} {B K np g : Nat} {r : Int} {wb : ByteArray} {acc T : List UInt8} (h : Lib.BuilderAtF 35 5 B B (.pointer (some ⟨B, 0, none⟩)) (Lib.byteCells acc ++ Lib.runeCells r) W ∧ Below B X W ∧ Lib.OthersKept 5 (some B) X W)
    (hit : X.heap[K]? = some (.stringIter wb np)) (hbel : Below B w1 X) (hacc : acc ++ Lib.encodeRune r ++ groupFrom wb g np = T) (hfu : wb.size ≤ np + g) (hal : acc.length + (Lib.encodeRune r).length ≤ 1 + 5 * np) (hK : K ≠ B) :
    Lib.IsBuilderF 35 5 B B (Lib.byteCells (acc ++ Lib.encodeRune r)) W ∧ W.heap[K]? = some (.stringIter wb np) ∧ Below B w1 W ∧ acc ++ Lib.encodeRune r ++ groupFrom wb g np = T ∧ wb.size ≤ np + g ∧ (acc ++ Lib.encodeRune r).length ≤ 1 + 5 * np := by
  refine ⟨.inr ?_, h.2.2.iter hit hK, hbel.trans h.2.1, hacc, hfu, by rw [List.length_append]; exact hal⟩
  rw [Lib.byteCells_append, Lib.byteCells_encodeRune]
  exact h.1

set_option maxRecDepth 1000000 in
set_option maxHeartbeats 1600000 in
theorem grouped_any (s : ByteArray) (w : World) (hs : s.size ≤ 1048576) :
    Calls Try.prog 10 #[.string s] w fun e w' => e = .returned (.string ⟨(grouped s.data.toList).toArray⟩) ∧ Below w.heap.size w w' := by
  have HCP := hid (Try.strings_CutPrefix s ⟨#[45]⟩ w)
  have hbl : (bodyOf s.data.toList).length ≤ s.size := by
    have := congrArg List.length (sign_body s.data.toList)
    rw [List.length_append, ← Lib.size_eq] at this
    omega
  obtain ⟨f, tp, HCP, HF⟩ : ∃ (f : Bool) (tp : List UInt8), Hid (Calls Try.prog 18 #[.string s, .string ⟨#[45]⟩] w fun e w' => e = .returned (.tuple #[.string ⟨tp.toArray⟩, .bool f]) ∧ w' = w) ∧
      Hid ((f = true ∧ signOf s.data.toList = [45] ∧ bodyOf s.data.toList = tp) ∨ (f = false ∧ signOf s.data.toList = [] ∧ bodyOf s.data.toList = s.data.toList)) :=
    ⟨_, _, HCP, sign_cases s.data.toList⟩
  go_enter Try.func10, Try.ntmps10
  go_upto_if 19 with (go_at_call 18; refine HCP.out.mono ?_; rintro e w' ⟨rfl, hw'⟩; have hw'' := hw'.symm; subst hw'')
  go_cut [3, 4] from 13 (fun s3 s4 w' => s3 = .string ⟨(signOf s.data.toList).toArray⟩ ∧ s4 = .string ⟨(bodyOf s.data.toList).toArray⟩ ∧ w' = w)
  case first =>
    rcases HF.out with ⟨rfl, h2, h3⟩ | ⟨rfl, h2, h3⟩
    · have H2 := hid h2
      have H3 := hid h3
      clear h2 h3
      go_wp2
      go_meet
      case rel => exact ⟨by rw [H2.out], by rw [H3.out], rfl⟩
    · have H2 := hid h2
      have H3 := hid h3
      clear h2 h3
      go_wp2
      go_meet
      case rel => exact ⟨by rw [H2.out], by rw [H3.out, Lib.mk_data], rfl⟩
  case rest =>
    obtain ⟨rfl, rfl, hwc⟩ := hcut
    have hwc' := hwc.symm
    subst hwc'
    clear HCP HF
    go_upto_region 5 with fail
    go_cut [7, 8, 9] from 13 (fun s7 s8 s9 w' => s7 = .string ⟨(nameOf (bodyOf s.data.toList)).toArray⟩ ∧ s8 = .string ⟨(restOf (bodyOf s.data.toList)).toArray⟩ ∧ s9 = .bool (hasDot (bodyOf s.data.toList)) ∧ Hid (Below w.heap.size w w'))
    case first =>
      have HC := hid (cut_any ⟨(bodyOf s.data.toList).toArray⟩ w (by rw [show (ByteArray.mk (bodyOf s.data.toList).toArray).size = (bodyOf s.data.toList).length by simp [ByteArray.size]]; omega))
      go_wp2_with (go_at_call 19; refine HC.out.mono ?_; rintro e w' ⟨rfl, q, rfl⟩)
      go_meet
      case rel => exact ⟨rfl, rfl, rfl, below_drewN (Below.refl _ _) q⟩
    case rest =>
      obtain ⟨rfl, rfl, rfl, HB0⟩ := hcut
      revert HB0
      generalize wc = w1
      intro HB0
      have HNm := hid (nameOf_le (bodyOf s.data.toList))
      have HRs := hid (restOf_le (bodyOf s.data.toList))
      have HG : Hid (grouped s.data.toList = if (nameOf (bodyOf s.data.toList)).length ≤ 3 then s.data.toList else signOf s.data.toList ++ group (nameOf (bodyOf s.data.toList)) ++ tailOf (bodyOf s.data.toList)) := rfl
      by_cases h3 : (nameOf (bodyOf s.data.toList)).length ≤ 3
      · go_wp2
        go_ret
        exact ⟨by rw [HG.out, if_pos h3, Lib.mk_data]; rfl, HB0.out⟩
      · have HT : Hid (tailOf (bodyOf s.data.toList) = if hasDot (bodyOf s.data.toList) then 46 :: restOf (bodyOf s.data.toList) else []) := rfl
        rw [if_neg h3] at HG
        generalize nameOf (bodyOf s.data.toList) = wh at h3 HNm HG ⊢
        generalize restOf (bodyOf s.data.toList) = fr at HRs HT ⊢
        generalize hasDot (bodyOf s.data.toList) = hd at HT ⊢
        generalize tailOf (bodyOf s.data.toList) = tl at HT HG
        generalize bodyOf s.data.toList = bd at HNm HRs hbl ⊢
        have HSg := hid (signOf_le s.data.toList)
        generalize signOf s.data.toList = sg at HSg HG ⊢
        have hwl : wh.length ≤ 1048576 := by have := HNm.out; omega
        have hfl : fr.length ≤ 1048576 := by have := HRs.out; omega
        have hsl : sg.length ≤ 1 := HSg.out
        clear HNm HRs HSg HCP hbl
        have HGp : Hid (group wh = groupFrom ⟨wh.toArray⟩ wh.length 0) := rfl
        have hwb : (ByteArray.mk wh.toArray).size = wh.length := by simp [ByteArray.size]
        generalize ByteArray.mk wh.toArray = wb at HGp hwb ⊢
        have HWb := hid hwb
        have h3' : ¬ wb.size ≤ 3 := by omega
        have hwl' : wb.size ≤ 1048576 := by omega
        clear hwb h3 hwl
        go_upto_region 9 with fail
        go_cut [] from 13 (fun w' => Hid (Lib.BuilderAt 35 5 w1.heap.size w1.heap.size (.pointer (some ⟨w1.heap.size, 0, none⟩)) [] w' ∧ Below w1.heap.size w1 w'))
        case first =>
          have e : (((s.size + (wb.size - 1) / 3 : Nat) : Nat) : Int) = (s.size : Int) + ((wb.size : Int) - 1) / 3 := by omega
          have hgr := Try.Builder_Grow_fresh w1.heap.size w1.heap.size (s.size + (wb.size - 1) / 3) (w1.alloc (.cells #[.pointer none, .slice none 0 0] 35)) (Nat.le_refl _) (Go.heap_alloc_new w1 _) (by simp) (by omega)
          rw [e] at hgr
          have HGr := hid hgr
          clear hgr e
          go_wp2_with (go_at_call 20; refine HGr.out.mono ?_; rintro e w2 ⟨rfl, hba, hbb⟩)
          go_meet
          case rel => exact ⟨hba, ((Below.refl _ _).alloc (Nat.le_refl _) _).trans hbb⟩
        case rest =>
          have HBu : Hid (Lib.IsBuilderF 35 5 w1.heap.size w1.heap.size (Lib.byteCells []) wc ∧ Below w1.heap.size w1 wc) := ⟨Lib.IsBuilderF.of (.inr hcut.out.1), hcut.out.2⟩
          clear hcut
          revert HBu
          generalize wc = w2
          intro HBu
          have hz2 : w1.heap.size ≤ w2.heap.size := HBu.out.2.size
          go_upto_block 0 with (go_at_call 21; refine (Try.Builder_WriteString_k w1.heap.size w1.heap.size _ ⟨sg.toArray⟩ _ HBu.out.1 ?_ hz2).mono ?_; (simp [Lib.byteCells, ByteArray.size]; omega); rintro e w3 ⟨rfl, h1, h2, h3⟩; have H3 := hid (And.intro h1 (HBu.out.2.trans h2)); clear h1 h2 h3)
          have HBu3 : Hid (Lib.IsBuilderF 35 5 w1.heap.size w1.heap.size (Lib.byteCells sg) w3 ∧ Below w1.heap.size w1 w3) := ⟨.inr (by have h := H3.out.1; rw [Lib.strCells_eq] at h; exact h), H3.out.2⟩
          clear H3 HBu
          have hz3 : w1.heap.size < w3.heap.size := by
            rcases HBu3.out.1 with ⟨_, v, hb, _⟩ | ⟨_, v, hb, _⟩ <;> exact (Array.getElem?_eq_some_iff.1 hb).1
          go_cut [] from 13 (fun w' => Hid (Lib.IsBuilderF 35 5 w1.heap.size w1.heap.size (Lib.byteCells (sg ++ group wh)) w' ∧ Below w1.heap.size w1 w'))
          case first =>
            go_wp2
            go_loopw [] (fun wr => ∃ (pos fuel : Nat) (acc : List UInt8), Hid (Lib.IsBuilderF 35 5 w1.heap.size w1.heap.size (Lib.byteCells acc) wr ∧ wr.heap[w3.heap.size]? = some (.stringIter wb pos) ∧ Below w1.heap.size w1 wr ∧ acc ++ groupFrom wb fuel pos = sg ++ group wh ∧ wb.size ≤ pos + fuel ∧ acc.length ≤ 1 + 5 * pos)) (fun wr => wb.size - wr.iterPos w3.heap.size)
            case atStart =>
              exact ⟨0, wh.length, sg, HBu3.out.1.alloc _, World.iter_heap w3 wb 0, HBu3.out.2.alloc (by omega) _, by rw [HGp.out], by rw [HWb.out]; omega, by omega⟩
            case round =>
              obtain ⟨pos, fuel, acc, HR⟩ := hrel
              obtain ⟨hI, hit, hbw, hacc, hfu, hal⟩ := HR.out
              have hsz : w3.heap.size < wr.heap.size := (Array.getElem?_eq_some_iff.1 hit).1
              by_cases hp : pos < wb.size
              · obtain ⟨r, wd, hde⟩ : ∃ r wd, Utf8.decode wb pos = (r, wd) := ⟨_, _, rfl⟩
                have hnx : ∀ ty, (Instr.next (.pointer (some ⟨w3.heap.size, 0, none⟩)) true ty).run Try.prog wr = .ok (.tuple #[.bool true, .int .i64 pos, .int .i32 r]) (wr.iterAt w3.heap.size wb (pos + wd)) := fun ty => by
                  have h := Lib.run_next_any_at (P := Try.prog) wr w3.heap.size wb pos ty hit hp
                  rw [hde] at h; exact h
                have hwd := width_pos wb pos hp
                have hd1 := decode_le wb pos
                rw [hde] at hwd hd1
                have HStep : Hid (∀ f, groupFrom wb (f + 1) pos = (if commaDue wb.size pos then [44] else []) ++ Lib.encodeRune (r : Int) ++ groupFrom wb f (pos + wd)) := fun f => by
                  have h := groupFrom_step wb f pos hp
                  rw [hde] at h; exact h
                clear hde
                obtain ⟨np, hnp⟩ : ∃ np, pos + wd = np := ⟨_, rfl⟩
                rw [hnp] at hnx HStep
                have hnp1 : pos + 1 ≤ np := by simp at hwd; omega
                have hd1 : r ≤ 2147483647 := hd1
                clear hnp hwd
                have HI2 := hid (hI.iterAt hit np)
                have HIt2 := hid (Lib.iterAt_heap wr w3.heap.size wb pos np hit)
                have HBw2 := hid (Lib.below_iterAt hbw (k := w3.heap.size) (by omega) wb np)
                have hsz2 : w1.heap.size ≤ (wr.iterAt w3.heap.size wb np).heap.size := by rw [Lib.iterAt_size]; omega
                have HMe : Hid (wr.iterPos w3.heap.size = pos) := iterPos_at hit
                obtain ⟨g, rfl⟩ : ∃ g, fuel = g + 1 := ⟨fuel - 1, by omega⟩
                have HAcc := hid hacc
                have hl4 := Lib.runeCells_le (r : Int)
                rw [Lib.runeCells_length] at hl4
                have HL4 := hid hl4
                clear hI hit hbw hacc HR hl4
                by_cases hpz : commaDue wb.size pos = true
                · have hdu : 0 < pos ∧ (wb.size - pos) % 3 = 0 := by unfold commaDue at hpz; exact of_decide_eq_true hpz
                  have HD := hid hpz
                  have hp0 : (0 : Int) < (pos : Int) := by omega
                  have hmod : (((wb.size : Int) - (pos : Int)) % 3 == 0) = true := by simp; omega
                  clear hpz hdu
                  go_wp2_with (first
                    | (go_at_call 22; refine (Try.Builder_WriteByte_k w1.heap.size w1.heap.size _ 44 _ HI2.out (by rw [Lib.byteCells_length]; omega) hsz2).mono ?_; rintro e W1 ⟨rfl, h1, b1, k1⟩; have HW1 : Hid (Lib.BuilderAtF 35 5 w1.heap.size w1.heap.size (.pointer (some ⟨w1.heap.size, 0, none⟩)) (Lib.byteCells (acc ++ [44])) W1 ∧ W1.heap[w3.heap.size]? = some (.stringIter wb np) ∧ Below w1.heap.size w1 W1) := ⟨by rw [Lib.byteCells_append]; exact h1, k1.iter HIt2.out (by omega), HBw2.out.trans b1⟩; have hsz1 : w1.heap.size ≤ W1.heap.size := HW1.out.2.2.size; clear h1 b1 k1)
                    | (go_at_call 23; refine (Try.Builder_WriteRune_k w1.heap.size w1.heap.size _ _ (by omega) (by omega) _ (.inr HW1.out.1) (by rw [Lib.byteCells_length]; simp; omega) hsz1).mono ?_; rintro e W2 ⟨rfl, h1, b1, k1⟩; have H1 := hid (And.intro h1 (And.intro b1 k1)); clear h1 b1 k1))
                  go_roundw
                  case rel =>
                    refine ⟨np, g, acc ++ [44] ++ Lib.encodeRune (r : Int), loop_rune H1.out HW1.out.2.1 HW1.out.2.2 ?_ (by omega) (by have := HL4.out; simp; omega) (by omega)⟩
                    rw [← HAcc.out, HStep.out g, HD.out]
                    simp
                  case measure =>
                    rw [HMe.out, iterPos_at (H1.out.2.2.iter HW1.out.2.1 (by omega))]
                    omega
                · have HD : Hid (commaDue wb.size pos = false) := by show commaDue wb.size pos = false; simpa using hpz
                  have hdu : ¬ (0 < pos ∧ (wb.size - pos) % 3 = 0) := by unfold commaDue at hpz; exact fun h => hpz (decide_eq_true h)
                  clear hpz
                  by_cases hp0 : pos = 0
                  · have hp0' : ¬ (0 : Int) < (pos : Int) := by omega
                    go_wp2_with (go_at_call 23; refine (Try.Builder_WriteRune_k w1.heap.size w1.heap.size _ _ (by omega) (by omega) _ HI2.out (by rw [Lib.byteCells_length]; omega) hsz2).mono ?_; rintro e W2 ⟨rfl, h1, b1, k1⟩; have H1 := hid (And.intro h1 (And.intro b1 k1)); clear h1 b1 k1)
                    go_roundw
                    case rel =>
                      refine ⟨np, g, acc ++ Lib.encodeRune (r : Int), loop_rune H1.out HIt2.out HBw2.out ?_ (by omega) (by have := HL4.out; omega) (by omega)⟩
                      rw [← HAcc.out, HStep.out g, HD.out]
                      simp
                    case measure =>
                      rw [HMe.out, iterPos_at (H1.out.2.2.iter HIt2.out (by omega))]
                      omega
                  · have hp0' : (0 : Int) < (pos : Int) := by omega
                    have hmod : (((wb.size : Int) - (pos : Int)) % 3 == 0) = false := by simp; omega
                    go_wp2_with (go_at_call 23; refine (Try.Builder_WriteRune_k w1.heap.size w1.heap.size _ _ (by omega) (by omega) _ HI2.out (by rw [Lib.byteCells_length]; omega) hsz2).mono ?_; rintro e W2 ⟨rfl, h1, b1, k1⟩; have H1 := hid (And.intro h1 (And.intro b1 k1)); clear h1 b1 k1)
                    go_roundw
                    case rel =>
                      refine ⟨np, g, acc ++ Lib.encodeRune (r : Int), loop_rune H1.out HIt2.out HBw2.out ?_ (by omega) (by have := HL4.out; omega) (by omega)⟩
                      rw [← HAcc.out, HStep.out g, HD.out]
                      simp
                    case measure =>
                      rw [HMe.out, iterPos_at (H1.out.2.2.iter HIt2.out (by omega))]
                      omega
              · have hnx : ∀ ty, (Instr.next (.pointer (some ⟨w3.heap.size, 0, none⟩)) true ty).run Try.prog wr = .ok (.tuple #[.bool false]) wr := fun ty => Lib.run_next_end_at wr w3.heap.size wb pos ty hit hp
                rw [groupFrom_end wb fuel pos hp, List.append_nil] at hacc
                have HE : Hid (Lib.IsBuilderF 35 5 w1.heap.size w1.heap.size (Lib.byteCells (sg ++ group wh)) wr ∧ Below w1.heap.size w1 wr) := ⟨by rw [← hacc]; exact hI, hbw⟩
                clear hI hit hbw hacc HR
                go_wp2
                go_meet
                case rel => exact HE
          case rest =>
            have HE := hcut
            clear hcut
            have hze : w1.heap.size ≤ wc.heap.size := HE.out.2.size
            have hgl : (sg ++ group wh).length ≤ 10000000 := by
              have h1 := group_len wh
              have h2 := HWb.out
              rw [List.length_append]; omega
            cases hd with
            | false =>
              go_wp2_with (go_at_call 24; refine (Try.Builder_String_any_k w1.heap.size w1.heap.size (sg ++ group wh) _ HE.out.1 hze).mono ?_; rintro e W1 ⟨rfl, _, b1, _⟩)
              go_ret
              exact ⟨by rw [HG.out, HT.out]; simp, HB0.out.trans ((HE.out.2.trans b1).mono HB0.out.size)⟩
            | true =>
              go_wp2_with (first
                | (go_at_call 22; refine (Try.Builder_WriteByte_k w1.heap.size w1.heap.size _ 46 _ HE.out.1 (by rw [Lib.byteCells_length]; omega) hze).mono ?_; rintro e W1 ⟨rfl, h1, b1, _⟩; have H1 : Hid (Lib.BuilderAtF 35 5 w1.heap.size w1.heap.size (.pointer (some ⟨w1.heap.size, 0, none⟩)) (Lib.byteCells (sg ++ group wh ++ [46])) W1 ∧ Below w1.heap.size w1 W1) := ⟨by rw [Lib.byteCells_append]; exact h1, HE.out.2.trans b1⟩; have hz4 : w1.heap.size ≤ W1.heap.size := H1.out.2.size; clear h1 b1)
                | (go_at_call 21; refine (Try.Builder_WriteString_k w1.heap.size w1.heap.size _ ⟨fr.toArray⟩ _ (.inr H1.out.1) (by rw [Lib.byteCells_length, List.length_append, show (ByteArray.mk fr.toArray).size = fr.length by simp [ByteArray.size]]; simp only [List.length_singleton]; omega) hz4).mono ?_; rintro e W2 ⟨rfl, h1, b1, _⟩; have H2 : Hid (Lib.BuilderAtF 35 5 w1.heap.size w1.heap.size (.pointer (some ⟨w1.heap.size, 0, none⟩)) (Lib.byteCells (sg ++ group wh ++ [46] ++ fr)) W2 ∧ Below w1.heap.size w1 W2) := ⟨by rw [Lib.byteCells_append _ fr]; rw [Lib.strCells_eq] at h1; exact h1, H1.out.2.trans b1⟩; have hz5 : w1.heap.size ≤ W2.heap.size := H2.out.2.size; clear h1 b1)
                | (go_at_call 24; refine (Try.Builder_String_any_k w1.heap.size w1.heap.size (sg ++ group wh ++ [46] ++ fr) _ (.inr H2.out.1) hz5).mono ?_; rintro e W3 ⟨rfl, _, b3, _⟩))
              go_ret
              exact ⟨by rw [HG.out, HT.out]; simp, HB0.out.trans ((H2.out.2.trans b3).mono HB0.out.size)⟩

end Go.Proofs.Qxb6000519a
