/-
  THE WALK over splitField.
-/
import Derived.Test.Qxb6000122aCut
import Derived.Deep.Cut
import Derived.Deep.CutBlock
namespace Go.Proofs.Qxb6000122a
open Go.RowKit Go.Proofs.Qxb6000122a.Plain

/-- Where the first colon stands, as the loop leaves it. -/
def ColonAt (L : List UInt8) (kk : Int) : Prop :=
  (kk = -1 ∧ ∀ j, j < L.length → byteAt L j ≠ 58) ∨ ∃ k : Nat, kk = (k : Int) ∧ k < L.length ∧ byteAt L k = 58 ∧ ∀ j, j < k → byteAt L j ≠ 58

/-- What splitField hands back. -/
def SplitOut (w : World) (a : Option Addr) (n : Nat) (l : List UInt8) (k : Nat) (va : Option Addr) (vn vc : Nat) : Prop :=
  Cells w a (nameOf l) ∧ (nameOf l).length = k ∧ k ≤ n ∧ (valueOf l).length = vn ∧ vn ≤ n ∧ Cells w va (valueOf l) ∧ (va = none → vn = 0 ∧ vc = 0)

theorem splitOut_none {w : World} {a va : Option Addr} {n vc : Nat} {l : List UInt8} (hl : l.length = n) (hc : Cells w a l) (hno : ∀ j, j < l.length → byteAt l j ≠ 58) (hva : va = none → vc = 0) : SplitOut w a n l n va 0 vc := by
  obtain ⟨h1, h2⟩ := none_of hno
  have h3 : valueOf l = [] := by unfold valueOf; rw [h2]; rfl
  exact ⟨by rw [h1]; exact hc, by rw [h1]; exact hl, Nat.le_refl _, by rw [h3]; rfl, Nat.zero_le _, by rw [h3]; exact .inl rfl, fun h => ⟨rfl, hva h⟩⟩

theorem splitOut_some {w : World} {b o n v k vc vn : Nat} {va : Addr} {l : List UInt8} (hl : l.length = n) (hc : Cells w (some ⟨b, o, none⟩) l) (hk : k < n) (hcol : byteAt l k = 58) (hno : ∀ j, j < k → byteAt l j ≠ 58) (hv : v = k + 1 ∨ v = k + 2) (hvn : v ≤ n)
    (hsp : v = k + 2 ↔ (k + 1 < n ∧ byteAt l (k + 1) = 32)) (hva : n ≠ v → va = ⟨b, o + v, none⟩) (he : n - v = vn) : SplitOut w (some ⟨b, o, none⟩) n l k (some va) vn vc := by
  subst he
  obtain ⟨h1, h2⟩ := some_of (by omega) hcol hno
  have h3 : valueOf l = l.drop v := by
    unfold valueOf
    rw [h2]
    by_cases h : v = k + 2
    · have := hsp.1 h
      rw [trim1_yes (by simp; omega) (by rw [byteAt_drop, Nat.add_zero]; exact this.2), List.drop_drop, h]
    · rw [trim1_no, show v = k + 1 by omega]
      by_cases h' : k + 1 < n
      · exact .inr fun e => h (hsp.2 ⟨h', by rw [byteAt_drop, Nat.add_zero] at e; exact e⟩)
      · exact .inl (by simp; omega)
  refine ⟨by rw [h1]; exact hc.take k, by rw [h1]; simp; omega, by omega, by rw [h3]; simp; omega, by omega, ?_, fun h => by cases h⟩
  rw [h3]
  exact Cells.drop v hc (fun h => by rw [hva (by omega)]) (by omega)

set_option maxHeartbeats 800000 in
theorem split_some (b o n c : Nat) (l : List UInt8) (w : World) (hl : l.length = n) (hm : n ≤ 2097152) (hnc : n ≤ c) (hcm : c ≤ 4611686018427387904) (h0 : 0 < n) (hc : Cells w (some ⟨b, o, none⟩) l) :
    Calls Try.prog 9 #[.slice (some ⟨b, o, none⟩) n c] w fun e w' => ∃ k va vn vc q, e = .returned (.tuple #[.slice (some ⟨b, o, none⟩) k c, .slice va vn vc]) ∧ w' = w.drewN q ∧ SplitOut w (some ⟨b, o, none⟩) n l k va vn vc := by
  have HL := hid hl
  have HC := hid hc
  clear hl hc
  go_enter Try.func9, Try.ntmps9
  go_upto_block 0 with fail
  go_cut [4] from 7 (fun s4 w' => ∃ kk : Int, s4 = .int .i64 kk ∧ w' = w ∧ Hid (ColonAt l kk))
  case first =>
    go_wp2
    go_loop [4, 5] (fun c i => ∃ k : Nat, k ≤ n ∧ i = .int .i64 k ∧ c = .int .i64 (-1) ∧ ∀ j, j < k → byteAt l j ≠ 58) (fun _ i => n - (intOf i).toNat)
    case atStart => exact ⟨0, Nat.zero_le _, rfl, rfl, fun j hj => absurd hj (by omega)⟩
    case round =>
      obtain ⟨k, hk, rfl, rfl, ha⟩ := hrel
      have HA := hid ha
      clear ha
      by_cases hlt : k < n
      · obtain ⟨cv, hcv, hcl⟩ : ∃ cv, byteAt l k = cv ∧ w.cell? ⟨b, o + k, none⟩ = some (.int .u8 cv) := by
          rcases HC.out with h | ⟨b', o', h, hc⟩
          · have := HL.out; subst h; simp at this; omega
          · simp at h; obtain ⟨rfl, rfl⟩ := h
            exact ⟨_, rfl, hc k (by rw [HL.out]; exact hlt)⟩
        have HCv := hid hcv
        clear hcv
        cases hd : (cv == 58)
        · go_wp2
          go_round
          case rel => exact ⟨k + 1, by omega, by go_num, rfl, fun j hj => by
            by_cases hjk : j = k
            · subst hjk; rw [HCv.out]; simpa using hd
            · exact HA.out j (by omega)⟩
          case measure => simp [intOf]; omega
        · go_wp2
          go_meet
          case rel => exact ⟨_, rfl, rfl, .inr ⟨k, rfl, by rw [HL.out]; exact hlt, by rw [HCv.out]; simpa using hd, HA.out⟩⟩
      · have : k = n := by omega
        subst this
        go_wp2
        go_meet
        case rel => exact ⟨_, rfl, rfl, .inl ⟨rfl, by rw [HL.out]; exact HA.out⟩⟩
  case rest =>
    obtain ⟨kk, rfl, rfl, HK⟩ := hcut
    rcases HK.out with ⟨rfl, hno⟩ | ⟨k, rfl, hk, hcol, hno⟩
    · have HNo := hid hno
      clear hno HK
      have hni : (n : Int) ≤ (c : Int) := by omega
      by_cases hcn : c = n
      · subst hcn
        go_wp2
        go_quiet (fail)
        go_wp2
        go_ret2
        exact ⟨c, some ⟨b, o, none⟩, 0, 0, _, rfl, rfl, splitOut_none HL.out HC.out HNo.out (fun _ => rfl)⟩
      · go_wp2
        go_quiet (fail)
        go_wp2
        go_ret2
        exact ⟨n, _, 0, _, _, rfl, rfl, splitOut_none HL.out HC.out HNo.out (fun h => by cases h)⟩
    · have hkn : k < n := by have := HL.out; omega
      have HNo := hid hno
      have HCo := hid hcol
      clear hno hcol hk HK
      have hki : (k : Int) + 1 ≤ (n : Int) := by omega
      have hkc : (k : Int) + 1 ≤ (c : Int) := by omega
      have hkc0 : (k : Int) ≤ (c : Int) := by omega
      by_cases hk1 : k + 1 < n
      · obtain ⟨cv, hcv, hcl⟩ : ∃ cv, byteAt l (k + 1) = cv ∧ wc.cell? ⟨b, o + (k + 1), none⟩ = some (.int .u8 cv) := by
          rcases HC.out with h | ⟨b', o', h, hc⟩
          · have := HL.out; subst h; simp at this; omega
          · simp at h; obtain ⟨rfl, rfl⟩ := h
            exact ⟨_, rfl, hc (k + 1) (by rw [HL.out]; exact hk1)⟩
        have HCv := hid hcv
        clear hcv
        have hk1i : (k : Int) + 1 < (n : Int) := by omega
        have hk1c : (k : Int) + 1 < (c : Int) := by omega
        cases hd : (cv == 32)
        · have hcne : ¬ c = k + 1 := by omega
          go_wp2
          go_quiet (fail)
          go_wp2
          go_ret2
          exact ⟨k, some ⟨b, o + (k + 1), none⟩, n - (k + 1), c - (k + 1), _, rfl, rfl, splitOut_some HL.out HC.out hkn HCo.out HNo.out (.inl rfl) (by omega) ⟨fun h => absurd h (by omega), fun h => by have := h.2; rw [HCv.out] at this; simp [this] at hd⟩ (fun _ => rfl) rfl⟩
        · have hk2 : (k : Int) + 1 + 1 ≤ (c : Int) := by omega
          have hk2n : (k : Int) + 1 + 1 ≤ (n : Int) := by omega
          by_cases hcne : c = k + 2
          · subst hcne
            obtain rfl : n = k + 2 := by omega
            go_wp2
            go_quiet (fail)
            go_wp2
            go_ret2
            exact ⟨k, _, _, _, _, rfl, rfl, splitOut_some (v := k + 1 + 1) HL.out HC.out hkn HCo.out HNo.out (.inr rfl) (by omega) ⟨fun _ => ⟨by omega, by rw [HCv.out]; simpa using hd⟩, fun _ => rfl⟩ (fun h => absurd rfl h) (by omega)⟩
          · go_wp2
            go_quiet (fail)
            go_wp2
            go_ret2
            exact ⟨k, some ⟨b, o + (k + 2), none⟩, n - (k + 2), c - (k + 2), _, rfl, rfl, splitOut_some HL.out HC.out hkn HCo.out HNo.out (.inr rfl) (by omega) ⟨fun _ => ⟨by omega, by rw [HCv.out]; simpa using hd⟩, fun _ => rfl⟩ (fun _ => rfl) rfl⟩
      · obtain rfl : n = k + 1 := by omega
        have hm' : (k : Int) ≤ 2097152 := by omega
        clear hm
        by_cases hcne : c = k + 1
        · subst hcne
          go_wp2
          go_quiet (fail)
          go_wp2
          go_ret2
          exact ⟨k, _, _, _, _, rfl, rfl, splitOut_some (v := k + 1) HL.out HC.out hkn HCo.out HNo.out (.inl rfl) (by omega) ⟨fun h => absurd h (by omega), fun h => absurd h.1 (by omega)⟩ (fun h => absurd rfl h) (by omega)⟩
        · go_wp2
          go_quiet (fail)
          go_wp2
          go_ret2
          exact ⟨k, _, _, _, _, rfl, rfl, splitOut_some (v := k + 1) HL.out HC.out hkn HCo.out HNo.out (.inl rfl) (by omega) ⟨fun h => absurd h (by omega), fun h => absurd h.1 (by omega)⟩ (fun h => absurd rfl h) (by omega)⟩

set_option maxHeartbeats 400000 in
theorem split_empty (x : Addr) (c : Nat) (w : World) :
    Calls Try.prog 9 #[.slice (some x) 0 c] w fun e w' => ∃ va vc q, e = .returned (.tuple #[.slice (some x) 0 c, .slice (some va) 0 vc]) ∧ w' = w.drewN q := by
  by_cases hc : c = 0
  · subst hc
    go_enter Try.func9, Try.ntmps9
    go_wp2
    refine wp_loop_rounds 1 ?_
    rw [rounds_succ]
    go_wp2
    go_quiet (fail)
    go_wp2
    go_ret2
    exact ⟨_, _, _, rfl, rfl⟩
  · have hci : (0 : Int) ≤ (c : Int) := by omega
    go_enter Try.func9, Try.ntmps9
    go_wp2
    refine wp_loop_rounds 1 ?_
    rw [rounds_succ]
    go_wp2
    go_quiet (fail)
    go_wp2
    go_ret2
    exact ⟨_, _, _, rfl, rfl⟩

set_option maxHeartbeats 400000 in
theorem split_nil (w : World) :
    Calls Try.prog 9 #[.slice none 0 0] w fun e w' => ∃ q, e = .returned (.tuple #[.slice none 0 0, .slice none 0 0]) ∧ w' = w.drewN q := by
  go_enter Try.func9, Try.ntmps9
  go_wp2
  refine wp_loop_rounds 1 ?_
  rw [rounds_succ]
  go_wp2
  go_quiet (fail)
  go_wp2
  go_ret2
  exact ⟨_, rfl, rfl⟩

/-- splitField, whatever the line. -/
theorem split_any (a : Option Addr) (n c : Nat) (l : List UInt8) (w : World) (hl : l.length = n) (hm : n ≤ 2097152) (hnc : n ≤ c) (hcm : c ≤ 4611686018427387904) (hnone : a = none → n = 0 ∧ c = 0) (hc : Cells w a l) :
    Calls Try.prog 9 #[.slice a n c] w fun e w' => ∃ k va vn vc q, e = .returned (.tuple #[.slice a k c, .slice va vn vc]) ∧ w' = w.drewN q ∧ SplitOut w a n l k va vn vc := by
  cases a with
  | none =>
    obtain ⟨rfl, rfl⟩ := hnone rfl
    refine (split_nil w).mono ?_
    rintro e w' ⟨q, rfl, rfl⟩
    exact ⟨0, none, 0, 0, q, rfl, rfl, splitOut_none hl hc (fun j hj => absurd hj (by omega)) (fun _ => rfl)⟩
  | some x =>
    by_cases h0 : n = 0
    · subst h0
      refine (split_empty x c w).mono ?_
      rintro e w' ⟨va, vc, q, rfl, rfl⟩
      exact ⟨0, some va, 0, vc, q, rfl, rfl, splitOut_none hl hc (fun j hj => absurd hj (by omega)) (fun h => by cases h)⟩
    · rcases hc with rfl | ⟨b, o, h, hc⟩
      · simp at hl; omega
      · obtain rfl := Option.some.inj h
        exact split_some b o n c l w hl hm hnc hcm (by omega) (.inr ⟨b, o, rfl, hc⟩)

end Go.Proofs.Qxb6000122a
