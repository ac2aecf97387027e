/-
  THE WALK over FnFieldSpec.
-/
import Derived.Test.Qxb6000009aZZ
import Derived.Test.Qxb6000009aClone
import Derived.Deep.RegionWith
import Derived.Deep.CutBlock
namespace Go.Proofs.Qxb6000009a
open Go.RowKit Go.Proofs.Qxb6000009a.Plain

theorem own_below {w1 w2 : World} {B n : Nat} {v : Value} {xs : List Value} (h : w1.ownsRow B 5 1 v n xs) (hb : Below w1.heap.size w1 w2) : w2.ownsRow B 5 1 v n xs := by
  refine ⟨h.1, ?_⟩
  rcases h.2 with h2 | ⟨g, cap, cur, h1, h2, h3, h4⟩
  · exact .inl h2
  · exact .inr ⟨g, cap, cur, h1, h2, by rw [hb.block g (Array.getElem?_eq_some_iff.1 h3).1]; exact h3, h4⟩

theorem Cells.below {w w' : World} {a : Option Addr} {l : List UInt8} (h : Cells w a l) (hb : Below w.heap.size w w') : Cells w' a l := by
  rcases h with h | ⟨b, o, h1, h2⟩
  · exact .inl h
  · exact .inr ⟨b, o, h1, fun i hi => by rw [hb.cell (World.block_lt_of_cell? w ⟨b, o + i, none⟩ (h2 i hi))]; exact h2 i hi⟩

/-- Where the first colon stands, as the loop leaves it. -/
def ColonAt (L : List UInt8) (kk : Int) : Prop :=
  (kk = -1 ∧ ∀ j, j < L.length → byteAt L j ≠ 58) ∨ ∃ k : Nat, kk = (k : Int) ∧ k < L.length ∧ byteAt L k = 58 ∧ ∀ j, j < k → byteAt L j ≠ 58

theorem zz_cases (B : Nat) (E : ByteArray) (da : Option Addr) (dn dc : Nat) (D : List UInt8) (a : Option Addr) (n c : Nat) (l : List UInt8) (w : World) (hn : l.length = n) (hm : n ≤ 2097152) (hnc : n ≤ c) (hcm : c ≤ 4611686018427387904) (hc : Cells w a l)
    (hdn : D.length = dn) (hD : dn ≤ 2097152) (hown : w.ownsRow B 5 1 (.slice da dn dc) dn (vals D)) (hB : B ≤ w.heap.size) (E' : ByteArray) (D' : List UInt8) (dn' : Nat) (hE' : newType E l = E') (hD' : newData D l = D') (hdn' : D'.length = dn') :
    Calls Try.prog 9 #[.string E, .slice da dn dc, .slice a n c] w fun e w' => ∃ a' c', e = .returned (.tuple #[.string E', .slice a' dn' c']) ∧
      w'.ownsRow B 5 1 (.slice a' dn' c') dn' (vals D') ∧ w.grownBy w' (Value.slice da dn dc).ownBlock := by
  refine (zzField_any B E da dn dc D a n c l w hn hm hnc hcm hc hdn hD hown hB).mono ?_
  rintro e w' ⟨a', c', rfl, r1, r2, _⟩
  rw [hE', hD', hdn'] at *
  exact ⟨a', c', rfl, r1, r2⟩

theorem walk_big (E : ByteArray) (a1 : Option Addr) (n1 c1 : Nat) (a2 : Option Addr) (n2 c2 : Nat) (w : World) (hE : E.size ≤ maxLen) (h1 : n1 ≤ maxLen) (h2 : n2 ≤ maxLen) (hbig : ¬ (E.size ≤ 262144 ∧ n1 ≤ 262144 ∧ n2 ≤ 262144)) :
    Calls Try.prog 5 #[.string E, .slice a1 n1 c1, .slice a2 n2 c2] w fun e w' => e = .returned (.bool true) ∧ Below w.heap.size w w' := by
  unfold maxLen at hE h1 h2
  have hr : 262144 < E.size ∨ (E.size ≤ 262144 ∧ 262144 < n1) ∨ (E.size ≤ 262144 ∧ n1 ≤ 262144 ∧ 262144 < n2) := by omega
  clear hbig
  rcases hr with hr | ⟨hr, hr'⟩ | ⟨hr, hr', hr''⟩
  all_goals
    go_enter Try.func5, Try.ntmps5
    go_wp2
    all_goals
      go_ret
      exact ⟨rfl, Below.refl _ _⟩

theorem zz_any (E : ByteArray) (a1 : Option Addr) (n1 c1 : Nat) (a2 : Option Addr) (n2 c2 : Nat) (w : World) (hE : E.size ≤ 262144) (h1 : n1 ≤ 262144) (h2 : n2 ≤ 262144) :
    Calls Try.prog 7 #[.string E, .slice a1 n1 c1, .slice a2 n2 c2] w fun e w' => e = .returned (.bool true) ∧ w' = w := by
  go_enter Try.func7, Try.ntmps7
  go_wp2
  go_ret
  exact ⟨rfl, rfl⟩

theorem Cells.kept {w w' : World} {a : Option Addr} {l : List UInt8} {row : Option Nat} (h : Cells w a l) (hg : w.grownBy w' row) (hb : ∀ x : Addr, a = some x → some x.block ≠ row) : Cells w' a l := by
  rcases h with h | ⟨b, o, h1, h2⟩
  · exact .inl h
  · exact .inr ⟨b, o, h1, fun i hi => hg.cell (h2 i hi) (hb ⟨b, o, none⟩ h1)⟩

/-- What is known behind ZZField: the new data, the old data's clone, the name, the value; and what is below. -/
theorem facts4 {w w1 wc w3 w4 : World} {n1 n2 k vn dn' c' bn : Nat} {da la va ba ga : Option Addr} {D D' L V : List UInt8} (hV : V.length = vn ∧ vn ≤ n2 ∧ Cells wc va V ∧ (∀ x, va = some x → x.block = w1.heap.size))
    (hN : Cells wc la L ∧ L.length = k ∧ k ≤ n2) (hown3 : w3.ownsRow wc.heap.size 5 1 (.slice ba bn bn) bn (vals D)) (hbel3 : Below wc.heap.size wc w3) (hat : ba = none ∨ ba = some ⟨wc.heap.size, 0, none⟩)
    (hown4 : w4.ownsRow w.heap.size 5 1 (.slice ga dn' c') dn' (vals D')) (hgr : w3.grownBy w4 (Value.slice da n1 n1).ownBlock)
    (hrow : ∀ x : Addr, x.block = w1.heap.size → some x.block ≠ (Value.slice da n1 n1).ownBlock) (hla : ∀ x, la = some x → x.block = w1.heap.size) (hdlt : ∀ g, (Value.slice da n1 n1).ownBlock = some g → w.heap.size ≤ g ∧ g < wc.heap.size) (hbel : Below w.heap.size w wc) :
    Cells w4 ga D' ∧ Cells w4 ba D ∧ Cells w4 la L ∧ Cells w4 va V ∧ dn' ≤ c' ∧ Below w.heap.size w w4 := by
  refine ⟨(Cells.own hown4).1, (Cells.own hown3).1.kept hgr ?_, (hN.1.below hbel3).kept hgr fun x hx => hrow x (hla x hx), (hV.2.2.1.below hbel3).kept hgr fun x hx => hrow x (hV.2.2.2 x hx), ?_,
    (hbel.trans (hbel3.mono hbel.size)).grown hgr (Nat.le_trans hbel.size hbel3.size) fun g hg => (hdlt g hg).1⟩
  · intro x hx e
    rcases hat with h | h
    · rw [h] at hx; cases hx
    · rw [h] at hx; cases hx
      have := (hdlt _ e.symm).2
      simp at this
  · rcases hown4.2 with ⟨h1, h2⟩ | ⟨g, cap, cur, h1, _, _, h4, _⟩
    · omega
    · simp at h1; omega

/-- The three pieces of the new data: the old data, the value, the line's end. -/
theorem facts5 {w : World} {g n1 vn : Nat} {D V : List UInt8} (hD : D.length = n1) (hV : V.length = vn) (h : Cells w (some ⟨g, 0, none⟩) (D ++ V ++ [10])) :
    Cells w (some ⟨g, 0, none⟩) D ∧ Cells w (some ⟨g, n1, none⟩) V ∧ w.cell? ⟨g, n1 + vn, none⟩ = some (.int .u8 10) := by
  subst hD hV
  refine ⟨?_, ?_, ?_⟩
  · have := h.take D.length
    rw [List.append_assoc, List.take_left] at this
    exact this
  · have := Cells.drop (a' := some ⟨g, D.length, none⟩) D.length h (fun _ => by rw [Nat.zero_add]) (by simp)
    rw [List.append_assoc, List.drop_left] at this
    have := this.take V.length
    rw [List.take_left] at this
    exact this
  · rcases h with h | ⟨b, o, h1, h2⟩
    · simp at h
    · simp at h1
      obtain ⟨rfl, rfl⟩ := h1
      have := h2 (D.length + V.length) (by simp)
      rw [Nat.zero_add] at this
      rw [this]
      unfold byteAt
      rw [List.getD_eq_getElem?_getD, List.getElem?_append_right (by simp)]
      simp

theorem de_eq {n : Nat} {x : Int} (h : 0 < n) : decide (0 < n ∧ x = 32) = (x == 32) := by
  rw [Bool.eq_iff_iff, decide_eq_true_eq, beq_iff_eq]; exact ⟨fun h' => h'.2, fun h' => ⟨h, h'⟩⟩

set_option maxRecDepth 100000 in
set_option maxHeartbeats 1600000 in
theorem walk_main (E : ByteArray) (a1 : Option Addr) (n1 c1 : Nat) (D : List UInt8) (a2 : Option Addr) (n2 c2 : Nat) (L : List UInt8) (w : World) (hE : E.size ≤ 262144) (h1 : n1 ≤ 262144) (h2 : n2 ≤ 262144)
    (hD : D.length = n1) (hDc : Cells w a1 D) (hD0 : a1 = none → c1 = 0) (hL : L.length = n2) (hLc : Cells w a2 L) (hL0 : a2 = none → c2 = 0) :
    Calls Try.prog 5 #[.string E, .slice a1 n1 c1, .slice a2 n2 c2] w fun e w' => e = .returned (.bool true) ∧ Below w.heap.size w w' := by
  have HC1 : Hid (∀ w' : World, Cells w' a1 D → Calls Try.prog 8 #[.slice a1 n1 c1] w' fun e w'' => ∃ a', e = .returned (.slice a' n1 n1) ∧ w''.ownsRow w'.heap.size 5 1 (.slice a' n1 n1) n1 (vals D) ∧ Below w'.heap.size w' w'' ∧ (a' = none ↔ a1 = none) ∧ (a' = none ∨ a' = some ⟨w'.heap.size, 0, none⟩)) :=
    fun w' hc => clone_any a1 n1 c1 D w' hD (by omega) hD0 hc
  have HC2 : Hid (∀ w' : World, Cells w' a2 L → Calls Try.prog 8 #[.slice a2 n2 c2] w' fun e w'' => ∃ a', e = .returned (.slice a' n2 n2) ∧ w''.ownsRow w'.heap.size 5 1 (.slice a' n2 n2) n2 (vals L) ∧ Below w'.heap.size w' w'' ∧ (a' = none ↔ a2 = none) ∧ (a' = none ∨ a' = some ⟨w'.heap.size, 0, none⟩)) :=
    fun w' hc => clone_any a2 n2 c2 L w' hL (by omega) hL0 hc
  have HDc := hid hDc
  have HLc := hid hLc
  have HD := hid hD
  have HL := hid hL
  clear hDc hLc hD hL hD0 hL0
  go_enter Try.func5, Try.ntmps5
  go_upto_block 0 with (first
    | (go_at_call 7; refine (zz_any _ _ _ _ _ _ _ _ hE h1 h2).mono ?_; rintro e w' ⟨rfl, hw'⟩; have hw'' := hw'.symm; subst hw'')
    | (go_at_call_of 8 (Value.slice a1 n1 c1); refine (HC1.out _ HDc.out).mono ?_; rintro e w1 ⟨da, rfl, hown1, hbel1, hnil1, hat1⟩; have HB1 := hid (And.intro hown1 (And.intro hbel1 hat1)); clear hown1 hbel1 hnil1 hat1)
    | (go_at_call_of 8 (Value.slice a2 n2 c2); refine (HC2.out _ (Cells.below HLc.out HB1.out.2.1)).mono ?_; rintro e w2 ⟨la, rfl, hown2, hbel2, hnil2, hat2⟩; have HB2 := hid (And.intro hown2 (And.intro hbel2 hat2)); clear hown2 hbel2 hnil2 hat2))
  have HO1 : Hid (w2.ownsRow w.heap.size 5 1 (.slice da n1 n1) n1 (vals D)) := own_below HB1.out.1 HB2.out.2.1
  have HO2 : Hid (w2.ownsRow w1.heap.size 5 1 (.slice la n2 n2) n2 (vals L)) := HB2.out.1
  have HBel : Hid (Below w.heap.size w w2) := HB1.out.2.1.trans (HB2.out.2.1.mono HB1.out.2.1.size)
  have HAt : Hid ((da = none ∨ da = some ⟨w.heap.size, 0, none⟩) ∧ (la = none ∨ la = some ⟨w1.heap.size, 0, none⟩) ∧ (da = some ⟨w.heap.size, 0, none⟩ → w.heap.size < w1.heap.size)) :=
    ⟨HB1.out.2.2, HB2.out.2.2, fun h => (HB1.out.1.lt w.heap.size (by rw [h]; rfl)).2⟩
  have HLc2 : Hid (Cells w2 la L) := (Cells.own HO2.out).1
  clear HB1 HB2 HC1 HC2 HDc HLc
  go_cut [7] from 14 (fun s7 w' => ∃ kk : Int, s7 = .int .i64 kk ∧ w' = w2 ∧ Hid (ColonAt L kk))
  case first =>
    go_wp2
    go_loop [7, 8] (fun c i => ∃ k : Nat, k ≤ n2 ∧ i = .int .i64 k ∧ c = .int .i64 (-1) ∧ ∀ j, j < k → byteAt L j ≠ 58) (fun _ i => n2 - (intOf i).toNat)
    case atStart => exact ⟨0, Nat.zero_le _, rfl, rfl, fun j hj => absurd hj (by omega)⟩
    case round =>
      obtain ⟨k, hk, rfl, rfl, ha⟩ := hrel
      have HA := hid ha
      clear ha
      by_cases hlt : k < n2
      · obtain ⟨b, o, hla, hcl⟩ : ∃ b o, la = some ⟨b, o, none⟩ ∧ w2.cell? ⟨b, o + k, none⟩ = some (.int .u8 (byteAt L k)) := by
          rcases HLc2.out with h | ⟨b, o, h, hc⟩
          · have := HL.out; subst h; simp at this; omega
          · exact ⟨b, o, h, hc k (by rw [HL.out]; exact hlt)⟩
        subst hla
        generalize hcv : byteAt L k = cv at hcl
        have HC := hid hcv
        clear hcv
        cases hd : (cv == 58)
        · go_wp2
          go_round
          case rel => exact ⟨k + 1, by omega, by go_num, rfl, fun j hj => by
            by_cases hjk : j = k
            · subst hjk; rw [HC.out]; simpa using hd
            · exact HA.out j (by omega)⟩
          case measure => simp [intOf]; omega
        · go_wp2
          go_meet
          case rel => exact ⟨_, rfl, rfl, .inr ⟨k, rfl, by rw [HL.out]; exact hlt, by rw [HC.out]; simpa using hd, HA.out⟩⟩
      · have : k = n2 := by omega
        subst this
        go_wp2
        go_meet
        case rel => exact ⟨_, rfl, rfl, .inl ⟨rfl, by rw [HL.out]; exact HA.out⟩⟩
  case rest =>
    obtain ⟨kk, rfl, rfl, HK⟩ := hcut
    go_upto_if 46 with fail
    go_cut [9, 10] from 14 (fun s9 s10 w' => ∃ (k rn rc : Nat) (ra : Option Addr), s9 = .slice la k n2 ∧ s10 = .slice ra rn rc ∧ w' = wc ∧
      Hid (nameOf L = L.take k ∧ k ≤ n2 ∧ (restOf L).length = rn ∧ rn ≤ rc ∧ Cells wc ra (restOf L) ∧ (∀ x, ra = some x → x.block = w1.heap.size)))
    case first =>
      rcases HK.out with ⟨rfl, hno⟩ | ⟨k, rfl, hk, hcol, hno⟩
      · have HNo := hid (none_of hno)
        clear hno HK
        go_wp2
        go_meet
        case rel => exact ⟨n2, 0, 0, none, rfl, rfl, rfl, by rw [HNo.out.1, List.take_of_length_le (by rw [HL.out]; exact Nat.le_refl _)], Nat.le_refl _, by rw [HNo.out.2]; rfl, Nat.le_refl _, by rw [HNo.out.2]; exact .inl rfl, fun x h => by cases h⟩
      · have HSo := hid (some_of hk hcol hno)
        have hk2 : k < n2 := by have := HL.out; omega
        obtain ⟨b, o, hla⟩ : ∃ b o, la = some ⟨b, o, none⟩ := by
          rcases HLc2.out with h | ⟨b, o, h, hc⟩
          · subst h; simp at hk
          · exact ⟨b, o, h⟩
        subst hla
        have HBk : Hid (b = w1.heap.size) := by
          rcases HAt.out.2.1 with h | h
          · cases h
          · simp at h; exact h.1
        clear hno hcol hk HK
        have hki : (k : Int) + 1 ≤ (n2 : Int) := by omega
        by_cases hck : n2 = k + 1
        · have hck' : k + 1 = n2 := hck.symm
          clear hck
          go_wp2
          go_meet
          case rel => exact ⟨k, 0, 0, some ⟨b, o, none⟩, rfl, rfl, rfl, HSo.out.1, by omega, by rw [HSo.out.2]; have := HL.out; simp; omega, Nat.le_refl _, .inl (by rw [HSo.out.2]; have := HL.out; simp; omega), fun x h => by cases h; exact HBk.out⟩
        · go_wp2
          go_meet
          case rel => exact ⟨k, n2 - (k + 1), n2 - (k + 1), some ⟨b, o + (k + 1), none⟩, rfl, rfl, rfl, HSo.out.1, by omega, by rw [HSo.out.2]; have := HL.out; simp; omega, Nat.le_refl _, by rw [HSo.out.2]; exact Cells.drop (k + 1) HLc2.out (fun _ => rfl) (by have := HL.out; omega), fun x h => by cases h; exact HBk.out⟩
    case rest =>
      obtain ⟨k, rn, rc, ra, rfl, rfl, rfl, HR⟩ := hcut
      clear HK
      go_upto_region 22 with fail
      go_cut [62] from 14 (fun s62 w' => s62 = .bool (decide (0 < rn ∧ byteAt (restOf L) 0 = 32)) ∧ w' = wc)
      case first =>
        by_cases hz : rn = 0
        · subst hz
          go_wp2
          go_meet
          case rel => exact ⟨by simp, rfl⟩
        · obtain ⟨b, o, hra, hcl⟩ : ∃ b o, ra = some ⟨b, o, none⟩ ∧ wc.cell? ⟨b, o, none⟩ = some (.int .u8 (byteAt (restOf L) 0)) := by
            obtain ⟨_, _, g3, _, g5, _⟩ := HR.out
            rcases g5 with h | ⟨b, o, h, hc⟩
            · rw [h] at g3; simp at g3; omega
            · exact ⟨b, o, h, by have := hc 0 (by omega); simpa using this⟩
          subst hra
          have hpos : 0 < rn := by omega
          have hposi : (0 : Int) < (rn : Int) := by omega
          have HDe : Hid (decide (0 < rn ∧ byteAt (restOf L) 0 = 32) = (byteAt (restOf L) 0 == 32)) := de_eq hpos
          obtain ⟨cv, hcv⟩ : ∃ cv, byteAt (restOf L) 0 = cv := ⟨_, rfl⟩
          rw [hcv] at hcl
          have HCv := hid hcv
          clear hcv
          cases hd : (cv == 32)
          · go_wp2
            go_meet
            case rel => exact ⟨by rw [HDe.out, HCv.out, hd], rfl⟩
          · go_wp2
            go_meet
            case rel => exact ⟨by rw [HDe.out, HCv.out, hd], rfl⟩
      case rest =>
        obtain ⟨rfl, rfl⟩ := hcut
        go_upto_if 62 with fail
        go_cut [10] from 14 (fun s10 w' => ∃ (vn vc : Nat) (va : Option Addr), s10 = .slice va vn vc ∧ w' = wc ∧ Hid ((valueOf L).length = vn ∧ vn ≤ n2 ∧ Cells wc va (valueOf L) ∧ (∀ x, va = some x → x.block = w1.heap.size)))
        case first =>
          obtain ⟨g1, g2, g3, g4, g5, g6⟩ := HR.out
          have HG3 := hid g3
          have HG5 := hid g5
          have HG6 := hid g6
          have hrl : rn ≤ n2 := by have := restOf_le L; have := HL.out; omega
          by_cases hy : 0 < rn ∧ byteAt (restOf L) 0 = 32
          · have hyd : decide (0 < rn ∧ byteAt (restOf L) 0 = 32) = true := decide_eq_true hy
            have HT : Hid (valueOf L = (restOf L).drop 1) := trim1_yes (by omega) hy.2
            obtain ⟨b, o, hra⟩ : ∃ b o, ra = some ⟨b, o, none⟩ := by
              rcases g5 with h | ⟨b, o, h, hc⟩
              · rw [h] at g3; simp at g3; omega
              · exact ⟨b, o, h⟩
            subst hra
            have hpos : 0 < rn := hy.1
            have hrci : (1 : Int) ≤ (rc : Int) := by omega
            have hrni : (1 : Int) ≤ (rn : Int) := by omega
            clear g1 g2 g3 g5 g6 hy HR
            rw [hyd]
            clear hyd
            by_cases hc1 : rc = 1
            · subst hc1
              obtain rfl : rn = 1 := by omega
              go_wp2
              go_meet
              case rel => exact ⟨0, 0, some ⟨b, o, none⟩, rfl, rfl, by rw [HT.out, List.length_drop, HG3.out], by omega, .inl (List.eq_nil_of_length_eq_zero (by rw [HT.out, List.length_drop, HG3.out])), HG6.out⟩
            · go_wp2
              go_meet
              case rel => exact ⟨rn - 1, rc - 1, some ⟨b, o + 1, none⟩, rfl, rfl, by rw [HT.out]; have := HG3.out; simp; omega, by omega, by rw [HT.out]; exact Cells.drop 1 HG5.out (fun _ => rfl) (by have := HG3.out; omega), fun x h => by cases h; exact HG6.out ⟨b, o, none⟩ rfl⟩
          · have hyd : decide (0 < rn ∧ byteAt (restOf L) 0 = 32) = false := decide_eq_false hy
            have HT : Hid (valueOf L = restOf L) := trim1_no (by by_cases h : rn = 0; exact .inl (by omega); exact .inr fun h' => hy ⟨by omega, h'⟩)
            clear g1 g2 g3 g5 g6 hy HR
            rw [hyd]
            clear hyd
            go_wp2
            go_meet
            case rel => exact ⟨rn, rc, ra, rfl, rfl, by rw [HT.out]; exact HG3.out, hrl, by rw [HT.out]; exact HG5.out, HG6.out⟩
        case rest =>
          obtain ⟨vn, vc, va, rfl, rfl, HV⟩ := hcut
          have HNm : Hid (Cells wc la (nameOf L) ∧ (nameOf L).length = k ∧ k ≤ n2) := by
            obtain ⟨g1, g2, _⟩ := HR.out
            exact ⟨by rw [g1]; exact HLc2.out.take k, by rw [g1]; have := HL.out; simp; omega, g2⟩
          have HC8 := hid (clone_any da n1 n1 D wc HD.out (by omega) (by intro h; have := (Cells.own HO1.out).2; rcases HO1.out.2 with ⟨h', h''⟩ | ⟨g, cap, cur, h', _⟩; exact h''; rw [h] at h'; simp at h') (Cells.own HO1.out).1)
          have hvn : vn ≤ n2 := HV.out.2.1
          have HRow : Hid (∀ x : Addr, x.block = w1.heap.size → some x.block ≠ (Value.slice da n1 n1).ownBlock) := by
            intro x hx e
            rcases HAt.out.1 with h | h
            · rw [h] at e; simp [Value.ownBlock] at e
            · rw [h] at e; simp [Value.ownBlock] at e
              have := HAt.out.2.2 h; omega
          have HLa : Hid (∀ x, la = some x → x.block = w1.heap.size) := by
            intro x hx
            rcases HAt.out.2.1 with h | h
            · rw [h] at hx; cases hx
            · rw [h] at hx; cases hx; rfl
          have HDlt : Hid (∀ g, (Value.slice da n1 n1).ownBlock = some g → w.heap.size ≤ g ∧ g < wc.heap.size) := fun g hg => HO1.out.lt g hg
          have hkle : k ≤ n2 := HNm.out.2.2
          have HEv : Hid (isEvent L = decide (nameOf L = eventB)) := rfl
          have HDa : Hid (isData L = decide (nameOf L = dataB)) := rfl
          have HNT : Hid (newType E L = if isEvent L then ⟨(valueOf L).toArray⟩ else E) := rfl
          have HND : Hid (newData D L = if isData L then D ++ valueOf L ++ [10] else D) := rfl
          clear HR HAt
          by_cases he : nameOf L = eventB
          · have HT1 : Hid (newType E L = ⟨(valueOf L).toArray⟩) := by rw [HNT.out, HEv.out, decide_eq_true he]; rfl
            have HT2 : Hid (newData D L = D) := by rw [HND.out, HDa.out, decide_eq_false (by rw [he]; decide)]; rfl
            have HZ : Hid (∀ w3 : World, wc.ownsRow w.heap.size 5 1 (.slice da n1 n1) n1 (vals D) → Below wc.heap.size wc w3 → Calls Try.prog 9 #[.string E, .slice da n1 n1, .slice la n2 n2] w3 fun e w' => ∃ a' c', e = .returned (.tuple #[.string ⟨(valueOf L).toArray⟩, .slice a' n1 c']) ∧
                w'.ownsRow w.heap.size 5 1 (.slice a' n1 c') n1 (vals D) ∧ w3.grownBy w' (Value.slice da n1 n1).ownBlock) := by
              intro w3 h3 hb
              exact zz_cases w.heap.size E da n1 n1 D la n2 n2 L w3 HL.out (by omega) (Nat.le_refl _) (by omega) (Cells.below HLc2.out hb) HD.out (by omega) (own_below h3 hb) (Nat.le_trans HBel.out.size hb.size) _ _ _ HT1.out HT2.out HD.out
            clear HNT HND HEv HDa HT1 HT2
            go_wp2_with (first
              | (go_at_call 8; refine HC8.out.mono ?_; rintro e w3 ⟨ba, rfl, hown3, hbel3, _, hat3⟩; have H3 := hid (And.intro hown3 (And.intro hbel3 hat3)); clear hown3 hbel3 hat3)
              | (go_at_call 9; refine (HZ.out _ HO1.out H3.out.2.1).mono ?_; rintro e w4 ⟨ga, gc, rfl, hown4, hgr4⟩; have HF := hid (facts4 HV.out HNm.out H3.out.1 H3.out.2.1 H3.out.2.2 hown4 hgr4 HRow.out HLa.out HDlt.out HBel.out); have hcv := (fun q => conv_any va vn vc (valueOf L) (w4.drewN q) HV.out.1 (HF.out.2.2.2.1.drewN q)); clear hown4 hgr4)
              | (go_at_call 10; refine (eqStr_any _ _ _ (nameOf L) _ _ HNm.out.2.1 (by omega) HF.out.2.2.1).mono ?_; rintro e w' ⟨rfl, q1, rfl⟩; rw [show decide (nameOf L = (ByteArray.mk #[101, 118, 101, 110, 116]).data.toList) = true from decide_eq_true he])
              | (go_at_call 11; refine (bytesEqual_any _ _ _ _ _ _ D D _ HD.out HD.out (by omega) (HF.out.1.drewN _) (HF.out.2.1.drewN _)).mono ?_; rintro e w' ⟨rfl, q2, rfl⟩; rw [show decide (D = D) = true from decide_eq_true rfl]))
            go_ret
            exact ⟨rfl, by first | exact below_drewN (below_drewN HF.out.2.2.2.2.2 _) _ | exact below_drewN HF.out.2.2.2.2.2 _⟩
          · by_cases hd : nameOf L = dataB
            · have HT1 : Hid (newType E L = E) := by rw [HNT.out, HEv.out, decide_eq_false he]; rfl
              have HT2 : Hid (newData D L = D ++ valueOf L ++ [10]) := by rw [HND.out, HDa.out, decide_eq_true hd]; rfl
              have HZ : Hid (∀ w3 : World, wc.ownsRow w.heap.size 5 1 (.slice da n1 n1) n1 (vals D) → Below wc.heap.size wc w3 → Calls Try.prog 9 #[.string E, .slice da n1 n1, .slice la n2 n2] w3 fun e w' => ∃ g c', e = .returned (.tuple #[.string E, .slice (some ⟨g, 0, none⟩) (n1 + vn + 1) c']) ∧
                  w'.ownsRow w.heap.size 5 1 (.slice (some ⟨g, 0, none⟩) (n1 + vn + 1) c') (n1 + vn + 1) (vals (D ++ valueOf L ++ [10])) ∧ w3.grownBy w' (Value.slice da n1 n1).ownBlock) := by
                intro w3 h3 hb
                refine (zz_cases w.heap.size E da n1 n1 D la n2 n2 L w3 HL.out (by omega) (Nat.le_refl _) (by omega) (Cells.below HLc2.out hb) HD.out (by omega) (own_below h3 hb) (Nat.le_trans HBel.out.size hb.size) _ _ (n1 + vn + 1) HT1.out HT2.out (by simp only [List.length_append, HD.out, HV.out.1]; rfl)).mono ?_
                rintro e w' ⟨a', c', rfl, r1, r2⟩
                obtain ⟨g, rfl⟩ : ∃ g, a' = some ⟨g, 0, none⟩ := by
                  rcases r1.2 with ⟨_, h0⟩ | ⟨g, cap, cur, h0, _⟩
                  · omega
                  · simp at h0; exact ⟨g, h0.1⟩
                exact ⟨g, c', rfl, r1, r2⟩
              clear HNT HND HEv HDa HT1 HT2
              go_wp2_with (first
                | (go_at_call 8; refine HC8.out.mono ?_; rintro e w3 ⟨ba, rfl, hown3, hbel3, _, hat3⟩; have H3 := hid (And.intro hown3 (And.intro hbel3 hat3)); clear hown3 hbel3 hat3)
                | (go_at_call 9; refine (HZ.out _ HO1.out H3.out.2.1).mono ?_; rintro e w4 ⟨g, gc, rfl, hown4, hgr4⟩; have HF := hid (facts4 HV.out HNm.out H3.out.1 H3.out.2.1 H3.out.2.2 hown4 hgr4 HRow.out HLa.out HDlt.out HBel.out); have hgc : n1 + vn + 1 ≤ gc := HF.out.2.2.2.2.1; have HF5 := hid (facts5 HD.out HV.out.1 HF.out.1); have hlast := HF5.out.2.2; clear hown4 hgr4)
                | (go_at_call_of 10 (Value.string { data := #[101, 118, 101, 110, 116] }); refine (eqStr_any _ _ _ (nameOf L) _ _ HNm.out.2.1 (by omega) HF.out.2.2.1).mono ?_; rintro e w' ⟨rfl, q1, rfl⟩; rw [show decide (nameOf L = (ByteArray.mk #[101, 118, 101, 110, 116]).data.toList) = false from decide_eq_false he])
                | (go_at_call_of 10 (Value.string { data := #[100, 97, 116, 97] }); refine (eqStr_any _ _ _ (nameOf L) _ _ HNm.out.2.1 (by omega) (HF.out.2.2.1.drewN _)).mono ?_; rintro e w' ⟨rfl, q2, rfl⟩; rw [show decide (nameOf L = (ByteArray.mk #[100, 97, 116, 97]).data.toList) = true from decide_eq_true hd])
                | (go_at_call_of 11 (Value.slice ba n1 n1); refine (bytesEqual_any _ _ _ _ _ _ D D _ HD.out HD.out (by omega) (HF5.out.1.drewN _) (HF.out.2.1.drewN _)).mono ?_; rintro e w' ⟨rfl, q3, rfl⟩; rw [show decide (D = D) = true from decide_eq_true rfl])
                | (go_at_call_of 11 (Value.slice va vn vc); refine (bytesEqual_any _ _ _ _ _ _ (valueOf L) (valueOf L) _ HV.out.1 HV.out.1 (by omega) (HF5.out.2.1.drewN _) (HF.out.2.2.2.1.drewN _)).mono ?_; rintro e w' ⟨rfl, q4, rfl⟩; rw [show decide (valueOf L = valueOf L) = true from decide_eq_true rfl]))
              go_ret
              exact ⟨rfl, below_drewN HF.out.2.2.2.2.2 _⟩
            · have HT1 : Hid (newType E L = E) := by rw [HNT.out, HEv.out, decide_eq_false he]; rfl
              have HT2 : Hid (newData D L = D) := by rw [HND.out, HDa.out, decide_eq_false hd]; rfl
              have HZ : Hid (∀ w3 : World, wc.ownsRow w.heap.size 5 1 (.slice da n1 n1) n1 (vals D) → Below wc.heap.size wc w3 → Calls Try.prog 9 #[.string E, .slice da n1 n1, .slice la n2 n2] w3 fun e w' => ∃ a' c', e = .returned (.tuple #[.string E, .slice a' n1 c']) ∧
                  w'.ownsRow w.heap.size 5 1 (.slice a' n1 c') n1 (vals D) ∧ w3.grownBy w' (Value.slice da n1 n1).ownBlock) := by
                intro w3 h3 hb
                exact zz_cases w.heap.size E da n1 n1 D la n2 n2 L w3 HL.out (by omega) (Nat.le_refl _) (by omega) (Cells.below HLc2.out hb) HD.out (by omega) (own_below h3 hb) (Nat.le_trans HBel.out.size hb.size) _ _ _ HT1.out HT2.out HD.out
              clear HNT HND HEv HDa HT1 HT2
              go_wp2_with (first
                | (go_at_call 8; refine HC8.out.mono ?_; rintro e w3 ⟨ba, rfl, hown3, hbel3, _, hat3⟩; have H3 := hid (And.intro hown3 (And.intro hbel3 hat3)); clear hown3 hbel3 hat3)
                | (go_at_call 9; refine (HZ.out _ HO1.out H3.out.2.1).mono ?_; rintro e w4 ⟨ga, gc, rfl, hown4, hgr4⟩; have HF := hid (facts4 HV.out HNm.out H3.out.1 H3.out.2.1 H3.out.2.2 hown4 hgr4 HRow.out HLa.out HDlt.out HBel.out); clear hown4 hgr4)
                | (go_at_call_of 10 (Value.string { data := #[101, 118, 101, 110, 116] }); refine (eqStr_any _ _ _ (nameOf L) _ _ HNm.out.2.1 (by omega) HF.out.2.2.1).mono ?_; rintro e w' ⟨rfl, q1, rfl⟩; rw [show decide (nameOf L = (ByteArray.mk #[101, 118, 101, 110, 116]).data.toList) = false from decide_eq_false he])
                | (go_at_call_of 10 (Value.string { data := #[100, 97, 116, 97] }); refine (eqStr_any _ _ _ (nameOf L) _ _ HNm.out.2.1 (by omega) (HF.out.2.2.1.drewN _)).mono ?_; rintro e w' ⟨rfl, q2, rfl⟩; rw [show decide (nameOf L = (ByteArray.mk #[100, 97, 116, 97]).data.toList) = false from decide_eq_false hd])
                | (go_at_call 11; refine (bytesEqual_any _ _ _ _ _ _ D D _ HD.out HD.out (by omega) (HF.out.1.drewN _) (HF.out.2.1.drewN _)).mono ?_; rintro e w' ⟨rfl, q3, rfl⟩; rw [show decide (D = D) = true from decide_eq_true rfl]))
              go_ret
              exact ⟨rfl, by first | exact below_drewN HF.out.2.2.2.2.2 _ | exact below_drewN (below_drewN HF.out.2.2.2.2.2 _) _⟩

end Go.Proofs.Qxb6000009a
