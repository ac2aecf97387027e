/-
  THE WALK over FnGroupedThreeDigitGroups.
-/
import Derived.Test.Qxb6000519aThree
import Derived.Test.Qxb6000519aOwn
namespace Go.Proofs.Qxb6000519a
open Go.RowKit Go.Proofs.Qxb6000519a.Plain

theorem three_big (s : ByteArray) (w : World) (hm : s.size ≤ maxLen) (hbig : 1048576 < s.size) :
    Calls Try.prog 4 #[.string s] w fun e w' => e = .returned (.bool true) ∧ Below w.heap.size w w' := by
  unfold maxLen at hm
  go_enter Try.func4, Try.ntmps4
  go_wp2
  go_ret
  exact ⟨rfl, Below.refl _ _⟩

theorem zz12 (s : ByteArray) (w : World) (hs : s.size ≤ 1048576) : Calls Try.prog 12 #[.string s] w fun e w' => e = .returned (.bool true) ∧ w' = w := by
  go_enter Try.func12, Try.ntmps12
  go_wp2
  go_ret
  exact ⟨rfl, rfl⟩

theorem head_signL (l : List UInt8) (h0 : 0 < l.length) : (signOf l = if (((l[0]'h0).toNat : Int) == 45) then [45] else []) ∧ (bodyOf l = if (((l[0]'h0).toNat : Int) == 45) then l.drop 1 else l) := by
  cases l with
  | nil => simp at h0
  | cons c l =>
    simp only [List.getElem_cons_zero, signOf, bodyOf]
    by_cases h : c = 45
    · subst h; exact ⟨rfl, rfl⟩
    · have h2 : ((c.toNat : Int) == 45) = false := by
        simp
        intro h'
        exact h (UInt8.toNat_inj.1 (by simpa using by omega))
      simp [h, h2]

theorem head_sign (s : ByteArray) (h0 : 0 < s.size) : (signOf s.data.toList = if ((s[0].toNat : Int) == 45) then [45] else []) ∧ (bodyOf s.data.toList = if ((s[0].toNat : Int) == 45) then s.data.toList.drop 1 else s.data.toList) :=
  head_signL s.data.toList (by rw [← Lib.size_eq]; exact h0)

theorem name_take (l : List UInt8) : l.take (nameOf l).length = nameOf l ∧ l.drop (nameOf l).length = tailOf l := by
  have h1 : (nameOf l ++ tailOf l).take (nameOf l).length = nameOf l := List.take_left
  have h2 : (nameOf l ++ tailOf l).drop (nameOf l).length = tailOf l := List.drop_left
  rw [name_tail] at h1 h2
  exact ⟨h1, h2⟩

theorem all_digits {s : ByteArray} (h : ∀ j, j < s.size → 48 ≤ byteAt s.data.toList j ∧ byteAt s.data.toList j ≤ 57) : ∀ c ∈ s.data.toList, isDig c = true := by
  intro c hc
  obtain ⟨i, hi, rfl⟩ := List.getElem_of_mem hc
  have := h i (by rw [Lib.size_eq]; exact hi)
  unfold byteAt at this
  rw [List.getD_eq_getElem?_getD, List.getElem?_eq_getElem hi, Option.getD_some] at this
  exact decide_eq_true (by omega)

theorem tailOf_le (l : List UInt8) : (tailOf l).length ≤ l.length := by
  have := congrArg List.length (name_tail l)
  rw [List.length_append] at this
  omega

theorem bodyOf_le (l : List UInt8) : (bodyOf l).length ≤ l.length := by
  have := congrArg List.length (sign_body l)
  rw [List.length_append] at this
  omega

theorem grouped_len (S : List UInt8) : (grouped S).length ≤ 7 * S.length + 1 := by
  unfold grouped
  by_cases h : (nameOf (bodyOf S)).length ≤ 3
  · rw [if_pos h]; omega
  · rw [if_neg h]
    have h1 := signOf_le S
    have h2 := group_len (nameOf (bodyOf S))
    have h3 := nameOf_le (bodyOf S)
    have h4 := tailOf_le (bodyOf S)
    have h5 := bodyOf_le S
    simp only [List.length_append]
    omega

theorem str_ext {a b : ByteArray} (h : a.data.toList = b.data.toList) : a = b := by
  rw [← Lib.mk_data a, ← Lib.mk_data b, h]

set_option maxRecDepth 1000000 in
set_option maxHeartbeats 1600000 in
theorem three_walk (s : ByteArray) (w : World) (hs : s.size ≤ 1048576) :
    Calls Try.prog 4 #[.string s] w fun e w' => e = .returned (.bool true) ∧ Below w.heap.size w w' := by
  have HZ := hid (zz12 s w hs)
  go_enter Try.func4, Try.ntmps4
  go_upto_region 7 with (go_at_call 12; refine HZ.out.mono ?_; rintro e w' ⟨rfl, hw'⟩; have hw'' := hw'.symm; subst hw'')
  go_cut [32] from 18 (fun s32 w' => ∃ b : Bool, s32 = .bool b ∧ w' = w ∧ Hid (signOf s.data.toList = (if b then [45] else []) ∧ bodyOf s.data.toList = (if b then s.data.toList.drop 1 else s.data.toList) ∧ (b = true → 0 < s.size)))
  case first =>
    by_cases h0 : s.size = 0
    · have HN : Hid (s.data.toList = []) := List.eq_nil_of_length_eq_zero (by rw [← Lib.size_eq]; exact h0)
      go_wp2
      go_meet
      case rel => exact ⟨false, rfl, rfl, by rw [HN.out]; rfl, by rw [HN.out]; rfl, fun h => by cases h⟩
    · have hp : 0 < s.size := by omega
      have HH := hid (head_sign s hp)
      cases hd : ((s[0].toNat : Int) == 45)
      · go_wp2
        go_meet
        case rel => exact ⟨false, rfl, rfl, by have h := HH.out; rw [hd] at h; exact ⟨h.1, h.2, fun h => by cases h⟩⟩
      · go_wp2
        go_meet
        case rel => exact ⟨true, rfl, rfl, by have h := HH.out; rw [hd] at h; exact ⟨h.1, h.2, fun _ => hp⟩⟩
  case rest =>
    obtain ⟨b, rfl, hwc, HSB⟩ := hcut
    have hwc' := hwc.symm
    subst hwc'
    go_upto_if 32 with fail
    go_cut [3, 4] from 18 (fun s3 s4 w' => ∃ sB bB : ByteArray, s3 = .string sB ∧ s4 = .string bB ∧ w' = w ∧ Hid (sB.data.toList = signOf s.data.toList ∧ bB.data.toList = bodyOf s.data.toList))
    case first =>
      cases b with
      | false =>
        go_wp2
        go_meet
        case rel => exact ⟨_, _, rfl, rfl, rfl, by rw [HSB.out.1]; rfl, by rw [HSB.out.2.1]; rfl⟩
      | true =>
        have h0 := HSB.out.2.2 rfl
        go_wp2
        go_meet
        case rel => exact ⟨_, _, rfl, rfl, rfl, by rw [HSB.out.1]; rfl, by rw [HSB.out.2.1]; exact Lib.extract_to_end s 1⟩
    case rest =>
      obtain ⟨sB, bB, rfl, rfl, hwc, HSB2⟩ := hcut
      have hwc' := hwc.symm
      subst hwc'
      clear HSB HZ
      have hbs : bB.size ≤ 1048576 := by
        have h := congrArg List.length (sign_body s.data.toList)
        rw [List.length_append, ← HSB2.out.2, ← Lib.size_eq, ← Lib.size_eq] at h
        omega
      go_upto_region 11 with (go_at_call 13; refine (firstDot_any bB _ (by omega)).mono ?_; rintro e w' ⟨rfl, hw'⟩; have hw'' := hw'.symm; subst hw'')
      have hpl : (nameOf bB.data.toList).length ≤ bB.size := by have := nameOf_le bB.data.toList; rw [← Lib.size_eq] at this; exact this
      obtain ⟨p, hp⟩ : ∃ p, (nameOf bB.data.toList).length = p := ⟨_, rfl⟩
      rw [hp] at hpl ⊢
      have HP := hid hp
      clear hp
      go_upto_region 13 with fail
      have HWh : Hid ((bB.extract 0 p).data.toList = nameOf (bodyOf s.data.toList)) := by
        show (bB.extract 0 p).data.toList = nameOf (bodyOf s.data.toList)
        rw [Lib.extract_data, List.drop_zero, Nat.sub_zero, ← HP.out, (name_take _).1, HSB2.out.2]
      have HTl : Hid ((bB.extract p bB.size).data.toList = tailOf (bodyOf s.data.toList)) := by
        show (bB.extract p bB.size).data.toList = tailOf (bodyOf s.data.toList)
        rw [Lib.extract_to_end, ← HP.out, (name_take _).2, HSB2.out.2]
      have hwsz : (bB.extract 0 p).size ≤ 1048576 := by
        rw [Lib.size_eq, HWh.out]
        have h1 := nameOf_le (bodyOf s.data.toList)
        rw [← HSB2.out.2, ← Lib.size_eq] at h1
        rw [← HSB2.out.2]
        omega
      generalize bB.extract 0 p = whB at HWh hwsz ⊢
      generalize bB.extract p bB.size = tlB at HTl ⊢
      go_upto_block 0 with fail
      go_cut [] from 18 (fun w' => w' = w ∧ Hid (∀ c ∈ whB.data.toList, isDig c = true))
      case first =>
        go_wp2
        go_loop [8] (fun i => ∃ k : Nat, k ≤ whB.size ∧ i = .int .i64 k ∧ ∀ j, j < k → 48 ≤ byteAt whB.data.toList j ∧ byteAt whB.data.toList j ≤ 57) (fun i => whB.size - (intOf i).toNat)
        case atStart => exact ⟨0, Nat.zero_le _, rfl, fun j hj => absurd hj (by omega)⟩
        case round =>
          obtain ⟨k, hk, rfl, ha⟩ := hrel
          have HA := hid ha
          clear ha
          by_cases hlt : k < whB.size
          · have HX := hid (byteAt_str hlt)
            by_cases h1 : (whB[k].toNat : Int) < 48
            · go_wp2
              go_ret
              exact ⟨rfl, Below.refl _ _⟩
            · by_cases h2 : 57 < (whB[k].toNat : Int)
              · go_wp2
                go_ret
                exact ⟨rfl, Below.refl _ _⟩
              · go_wp2
                go_round
                case rel => exact ⟨k + 1, by omega, by go_num, fun j hj => by
                  by_cases hjk : j = k
                  · subst hjk; rw [HX.out]; omega
                  · exact HA.out j (by omega)⟩
                case measure => simp [intOf]; omega
          · have : k = whB.size := by omega
            subst this
            go_wp2
            go_meet
            case rel => exact ⟨rfl, all_digits HA.out⟩
      case rest =>
        obtain ⟨hwc, HDg⟩ := hcut
        have hwc' := hwc.symm
        subst hwc'
        have HGr := hid (grouped_any s w hs)
        go_upto_region 19 with (go_at_call 10; refine HGr.out.mono ?_; rintro e w1 ⟨rfl, hb1⟩)
        have HO : Hid ((ByteArray.mk (grouped s.data.toList).toArray).data.toList = sB.data.toList ++ (grpD whB.data.toList ++ tlB.data.toList)) := by
          show grouped s.data.toList = _
          rw [grouped_digits s.data.toList (by rw [← HWh.out]; exact HDg.out), HSB2.out.1, HWh.out, HTl.out, List.append_assoc]
        have hosz : (ByteArray.mk (grouped s.data.toList).toArray).size ≤ 20000000 := by
          rw [mk_size]
          have h1 := grouped_len s.data.toList
          rw [← Lib.size_eq] at h1
          omega
        generalize ByteArray.mk (grouped s.data.toList).toArray = oB at HO hosz ⊢
        have hso : sB.size ≤ oB.size := by rw [Lib.size_eq, Lib.size_eq, HO.out]; simp
        have hso' : ¬ (oB.size : Int) < (sB.size : Int) := by omega
        have hx1 : oB.extract 0 sB.size = sB := str_ext (by rw [Lib.extract_data, List.drop_zero, Nat.sub_zero, HO.out, Lib.size_eq, List.take_left])
        go_upto_region 22 with fail
        have HOb : Hid ((oB.extract sB.size oB.size).data.toList = grpD whB.data.toList ++ tlB.data.toList) := by
          show (oB.extract sB.size oB.size).data.toList = _
          rw [Lib.extract_to_end, HO.out, Lib.size_eq, List.drop_left]
        have hobs : (oB.extract sB.size oB.size).size ≤ 20000000 := by
          rw [Lib.size_eq, HOb.out]
          have h1 := congrArg List.length HO.out
          rw [← Lib.size_eq, List.length_append] at h1
          omega
        generalize oB.extract sB.size oB.size = obB at HOb hobs ⊢
        have hno := grpD_no whB.data.toList HDg.out
        have HNq : Hid (nameOf obB.data.toList = grpD whB.data.toList) := by
          show nameOf obB.data.toList = _
          rw [HOb.out, HTl.out]
          exact nameOf_append hno
        obtain ⟨q, hq⟩ : ∃ q, (grpD whB.data.toList).length = q := ⟨_, rfl⟩
        have hfd := firstDot_any obB w1 (by omega)
        rw [HNq.out, hq] at hfd
        have HFD := hid hfd
        have HQ := hid hq
        have hqs : q ≤ obB.size := by
          rw [Lib.size_eq, HOb.out, List.length_append, hq]; omega
        have hx2 : obB.extract q obB.size = tlB := str_ext (by rw [Lib.extract_to_end, HOb.out, ← hq, List.drop_left])
        clear hq hfd hno hx1 hso hso' hosz
        go_upto_region 26 with (go_at_call 13; refine HFD.out.mono ?_; rintro e w' ⟨rfl, hw'⟩; have hw'' := hw'.symm; subst hw'')
        have HOh : Hid ((obB.extract 0 q).data.toList = grpD whB.data.toList) := by
          show (obB.extract 0 q).data.toList = _
          rw [Lib.extract_data, List.drop_zero, Nat.sub_zero, HOb.out, ← HQ.out, List.take_left]
        have hohs : (obB.extract 0 q).size = q := by rw [Lib.size_eq, HOh.out, HQ.out]
        generalize obB.extract 0 q = ohB at HOh hohs ⊢
        obtain rfl : q = ohB.size := hohs.symm
        clear hx2 HFD HNq
        have hohl : ohB.size ≤ 20000000 := by omega
        have HB1 := hid hb1
        clear hb1 HOb hobs hqs HO
        obtain ⟨i0, hi, hz0, hz1, hz2⟩ := info_parts Try.info5
        go_wp2_with (at_make; refine wpList_make_own _ rfl _ _ 25 rfl w1.heap.size 5 i0 (.int .u8 0) 1 Try.underlying25 hi hz0 hz1 .i64 .i64 (ohB.size : Int) ohB.size rfl rfl rfl (by rw [hz2]; omega) (by unfold maxLen; omega) (Nat.le_refl _) ?_; intro w2 hown2 hgrow2)
        have H2 : Hid (w2.ownsRow w1.heap.size 5 1 (.slice (some ⟨w1.heap.size, 0, none⟩) 0 ohB.size) 0 (vals []) ∧ Below w1.heap.size w1 w2) := ⟨hown2, (Below.refl _ _).grown hgrow2 (Nat.le_refl _) (by simp)⟩
        clear hown2 hgrow2
        go_loopw [13, 14, 15, 16] (fun dv gv fv iv wr => ∃ (k g dn : Nat) (first : Bool) (ds : List UInt8), k ≤ ohB.size ∧ iv = .int .i64 k ∧ fv = .bool first ∧ gv = .int .i64 g ∧ dv = .slice (some ⟨w1.heap.size, 0, none⟩) dn ohB.size ∧ dn ≤ k ∧ g ≤ 3 ∧
          Hid (Scan whB.data.toList (ohB.data.toList.drop k) first g ds ∧ wr.ownsRow w1.heap.size 5 1 (.slice (some ⟨w1.heap.size, 0, none⟩) dn ohB.size) dn (vals ds) ∧ Below w1.heap.size w1 wr)) (fun _ _ _ i _ => ohB.size - (intOf i).toNat)
        case atStart => exact ⟨0, 0, 0, true, [], Nat.zero_le _, rfl, rfl, rfl, rfl, Nat.le_refl _, by omega, by rw [List.drop_zero, HOh.out]; exact Scan.start _, H2.out⟩
        case round =>
          obtain ⟨k, g, dn, first, ds, hk, rfl, rfl, rfl, rfl, hdk, hg3, HS⟩ := hrel
          by_cases hlt : k < ohB.size
          · have HDr : Hid (ohB.data.toList.drop k = ohB[k] :: ohB.data.toList.drop (k + 1)) := List.drop_eq_getElem_cons (by rw [← Lib.size_eq]; exact hlt)
            have HSc : Hid (Scan whB.data.toList (ohB[k] :: ohB.data.toList.drop (k + 1)) first g ds) := by
              have h := HS.out.1
              rw [HDr.out] at h
              exact h
            cases hc : ((ohB[k].toNat : Int) == 44)
            · -- a digit
              have hne : ohB[k] ≠ 44 := by
                intro e
                rw [e] at hc
                cases hc
              have HN := hid (HSc.out.digit hne)
              have hg2 : g + 1 ≤ 3 := (HN.out.small).1
              go_wp2_with (at_builtin; refine wpList_append_fits _ rfl (.tmp 111) (.tmp 113) 25 rfl w1.heap.size 5 i0 1 Try.underlying25 hi hz1 w1.heap.size dn ohB.size (vals ds) rfl (HS.out.2.1.alloc _) ⟨wr.heap.size, 0, none⟩ 1 1 (vals [ohB[k]]) rfl rfl (new_news wr ohB[k]) (vals_one _) (by omega) ?_; intro w3 hown3 hgr3; have H3 : Hid (w3.ownsRow w1.heap.size 5 1 (.slice (some ⟨w1.heap.size, 0, none⟩) (dn + 1) ohB.size) (dn + 1) (vals (ds ++ [ohB[k]])) ∧ Below w1.heap.size w1 w3) := ⟨by rw [vals_append]; exact hown3, (HS.out.2.2.alloc HS.out.2.2.size _).grown hgr3 (HS.out.2.2.alloc HS.out.2.2.size _).size (by simp)⟩; clear hown3 hgr3)
              go_roundw
              case rel => exact ⟨k + 1, g + 1, dn + 1, first, ds ++ [ohB[k]], by omega, by go_num, rfl, by go_num, rfl, by omega, by omega, HN.out, H3.out⟩
              case measure => simp [intOf]; omega
            · have he : ohB[k] = 44 := UInt8.toNat_inj.1 (by have h := hc; simp at h; show ohB[k].toNat = 44; omega)
              have HSc2 : Hid (Scan whB.data.toList (44 :: ohB.data.toList.drop (k + 1)) first g ds) := by
                have h := HSc.out
                rw [he] at h
                exact h
              have HN := hid (HSc2.out.comma HDg.out)
              clear he
              cases first with
              | true =>
                have hg1 := (HN.out.1 rfl).1
                go_wp2
                go_roundw
                case rel => exact ⟨k + 1, 0, dn, false, ds, by omega, by go_num, rfl, rfl, rfl, by omega, by omega, HN.out.2.2, HS.out.2⟩
                case measure => simp [intOf]; omega
              | false =>
                have hg1 := HN.out.2.1 rfl
                have hgi : ((g : Int) != 3) = false := by rw [hg1]; rfl
                clear hg1
                go_wp2
                go_roundw
                case rel => exact ⟨k + 1, 0, dn, false, ds, by omega, by go_num, rfl, rfl, rfl, by omega, by omega, HN.out.2.2, HS.out.2⟩
                case measure => simp [intOf]; omega
          · have : k = ohB.size := by omega
            subst this
            have HE : Hid (ds = whB.data.toList ∧ (first = true → g ≤ 3) ∧ (first = false → g = 3)) := by
              have h := HS.out.1
              rw [List.drop_eq_nil_of_le (by rw [← Lib.size_eq]; exact Nat.le_refl _)] at h
              exact h.done
            have hcv := conv_own HS.out.2.1
            rw [HE.out.1, Lib.mk_data] at hcv
            cases first with
            | true =>
              have hg1 := HE.out.2.1 rfl
              go_wp2
              go_ret
              exact ⟨rfl, HB1.out.trans (HS.out.2.2.mono HB1.out.size)⟩
            | false =>
              have hg1 := HE.out.2.2 rfl
              have hgi : ((g : Int) != 3) = false := by rw [hg1]; rfl
              clear hg1
              go_wp2
              go_ret
              exact ⟨rfl, HB1.out.trans (HS.out.2.2.mono HB1.out.size)⟩

end Go.Proofs.Qxb6000519a
