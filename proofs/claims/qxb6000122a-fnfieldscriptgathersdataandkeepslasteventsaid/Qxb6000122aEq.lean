/-
  THE WALKS over the two comparisons of bytes: a slice against a string, a slice against a slice.
-/
import Derived.Test.Qxb6000122aRows
import Derived.Test.Qxb6000122aPlain
import Derived.WalkKit
import Derived.WalkSpells
import Derived.WalkLawsBesides
import Derived.BigQuiet
import Derived.Deep.QuietTactic
namespace Go.Proofs.Qxb6000122a
open Go.RowKit Go.Proofs.Qxb6000122a.Plain

theorem ret_bool {a b : Bool} (h : a = b) : Ending.returned (.bool a) = .returned (.bool b) := by rw [h]
theorem hid {p : Prop} (h : p) : Hid p := h

/-- The bytes l lie at a (whatever a is, where there is none). -/
def Cells (w : World) (a : Option Addr) (l : List UInt8) : Prop :=
  l = [] ∨ ∃ b o, a = some ⟨b, o, none⟩ ∧ ∀ i, i < l.length → w.cell? ⟨b, o + i, none⟩ = some (.int .u8 (byteAt l i))

theorem drewN_cell (w : World) (n : Nat) (p : Addr) : (w.drewN n).cell? p = w.cell? p := by simp

theorem Cells.drewN {w : World} {a : Option Addr} {l : List UInt8} (h : Cells w a l) (n : Nat) : Cells (w.drewN n) a l := by
  rcases h with h | ⟨b, o, h1, h2⟩
  · exact .inl h
  · exact .inr ⟨b, o, h1, fun i hi => by rw [drewN_cell]; exact h2 i hi⟩

theorem byteAt_str {s : ByteArray} {k : Nat} (hk : k < s.size) : byteAt s.data.toList k = (s[k].toNat : Int) := by
  unfold byteAt
  rw [List.getD_eq_getElem?_getD, List.getElem?_eq_getElem (by simpa using hk)]
  rfl

set_option maxHeartbeats 400000 in
theorem eqStr_empty (a : Option Addr) (c : Nat) (s : ByteArray) (w : World) :
    Calls Try.prog 10 #[.slice a 0 c, .string s] w fun e w' => e = .returned (.bool (decide ([] = s.data.toList))) ∧ ∃ q, w' = w.drewN q := by
  by_cases hs : s.size = 0
  · have e1 : decide ([] = s.data.toList) = true := by simp; exact (Array.size_eq_zero_iff.1 hs)
    rw [e1]
    go_enter Try.func10, Try.ntmps10
    go_wp2
    refine wp_loop_rounds 1 ?_
    rw [rounds_succ]
    go_wp2
    go_ret
    exact ⟨rfl, 0, rfl⟩
  · have e1 : decide ([] = s.data.toList) = false := by
      simp; intro h; exact hs (by rw [ByteArray.size, h]; rfl)
    rw [e1]
    have hne : ((0 : Int) != (s.size : Int)) = true := by simp; omega
    go_enter Try.func10, Try.ntmps10
    go_wp2
    go_ret
    exact ⟨rfl, 0, rfl⟩

set_option maxHeartbeats 400000 in
theorem eqStr_some (b o n c : Nat) (l : List UInt8) (s : ByteArray) (w : World) (hn : l.length = n) (hm : n ≤ 2097152) (hc : ∀ i, i < l.length → w.cell? ⟨b, o + i, none⟩ = some (.int .u8 (byteAt l i))) :
    Calls Try.prog 10 #[.slice (some ⟨b, o, none⟩) n c, .string s] w fun e w' => e = .returned (.bool (decide (l = s.data.toList))) ∧ ∃ q, w' = w.drewN q := by
  by_cases hs : s.size = n
  · go_enter Try.func10, Try.ntmps10
    go_wp2
    go_loopw [5] (fun i wr => ∃ k q : Nat, k ≤ n ∧ i = .int .i64 k ∧ wr = w.drewN q ∧ ∀ j, j < k → byteAt l j = byteAt s.data.toList j) (fun i _ => n - (intOf i).toNat)
    case atStart => exact ⟨0, 0, Nat.zero_le _, rfl, rfl, fun j hj => absurd hj (by omega)⟩
    case round =>
      obtain ⟨k, q, hk, rfl, rfl, ha⟩ := hrel
      have HA := hid ha
      clear ha
      have HN := hid hn
      clear hn
      by_cases hlt : k < n
      · have hcell := hc k (by rw [HN.out]; exact hlt)
        have hlt' : k < s.size := by omega
        have hlti : (k : Int) < (n : Int) := by omega
        have hlts : (k : Int) < (s.size : Int) := by omega
        have hx := byteAt_str hlt'
        have HX := hid hx
        clear hx hc
        generalize hcv : byteAt l k = cv at hcell
        have HC := hid hcv
        clear hcv
        cases hd : (cv != (s[k].toNat : Int))
        · go_wp2
          go_quiet (fail)
          go_wp2
          go_roundw
          case rel => exact ⟨k + 1, _, by omega, by go_num, rfl, fun j hj => by
            by_cases hjk : j = k
            · subst hjk; rw [HC.out, HX.out]; simpa using hd
            · exact HA.out j (by omega)⟩
          case measure => simp [intOf]; omega
        · go_wp2
          go_quiet (fail)
          go_wp2
          go_ret
          refine ⟨ret_bool ?_, _, World.drewN_drewN _ _ _⟩
          rw [eq_comm, decide_eq_false_iff_not]
          intro h
          have e : byteAt l k = byteAt s.data.toList k := by rw [h]
          rw [HC.out, HX.out] at e
          simp [e] at hd
      · have : k = n := by omega
        subst this
        clear hc
        go_wp2
        go_ret
        exact ⟨ret_bool (by rw [eq_comm, decide_eq_true_eq]; exact Plain.ext (by rw [HN.out, ← hs]; simp) (fun i hi => HA.out i (by rw [← HN.out]; exact hi))), q, rfl⟩
  · have hne : ((n : Int) != (s.size : Int)) = true := by simp; omega
    have e1 : decide (l = s.data.toList) = false := by
      simp; intro h; subst h; exact hs (by rw [← hn]; simp)
    rw [e1]
    clear hc hn
    go_enter Try.func10, Try.ntmps10
    go_wp2
    go_ret
    exact ⟨rfl, 0, rfl⟩

theorem eqStr_any (a : Option Addr) (n c : Nat) (l : List UInt8) (s : ByteArray) (w : World) (hn : l.length = n) (hm : n ≤ 2097152) (hc : Cells w a l) :
    Calls Try.prog 10 #[.slice a n c, .string s] w fun e w' => e = .returned (.bool (decide (l = s.data.toList))) ∧ ∃ q, w' = w.drewN q := by
  rcases hc with rfl | ⟨b, o, rfl, hc⟩
  · subst hn; exact eqStr_empty a c s w
  · exact eqStr_some b o n c l s w hn hm hc

set_option maxHeartbeats 400000 in
theorem bytesEqual_ne (a a' : Option Addr) (n c n' c' : Nat) (w : World) (hne : n ≠ n') :
    Calls Try.prog 11 #[.slice a n c, .slice a' n' c'] w fun e w' => e = .returned (.bool false) ∧ ∃ q, w' = w.drewN q := by
  have hne' : ((n : Int) != (n' : Int)) = true := by simp; omega
  clear hne
  go_enter Try.func11, Try.ntmps11
  go_wp2
  go_ret
  exact ⟨rfl, 0, rfl⟩

set_option maxHeartbeats 400000 in
theorem bytesEqual_empty (a a' : Option Addr) (c c' : Nat) (w : World) :
    Calls Try.prog 11 #[.slice a 0 c, .slice a' 0 c'] w fun e w' => e = .returned (.bool true) ∧ ∃ q, w' = w.drewN q := by
  go_enter Try.func11, Try.ntmps11
  go_wp2
  refine wp_loop_rounds 1 ?_
  rw [rounds_succ]
  go_wp2
  go_ret
  exact ⟨rfl, 0, rfl⟩

set_option maxHeartbeats 400000 in
theorem bytesEqual_some (b o n c b' o' c' : Nat) (l m : List UInt8) (w : World) (hn : l.length = n) (hn' : m.length = n) (hm : n ≤ 2097152) (hc : ∀ i, i < l.length → w.cell? ⟨b, o + i, none⟩ = some (.int .u8 (byteAt l i)))
    (hc' : ∀ i, i < m.length → w.cell? ⟨b', o' + i, none⟩ = some (.int .u8 (byteAt m i))) :
    Calls Try.prog 11 #[.slice (some ⟨b, o, none⟩) n c, .slice (some ⟨b', o', none⟩) n c'] w fun e w' => e = .returned (.bool (decide (l = m))) ∧ ∃ q, w' = w.drewN q := by
  have HN := hid hn
  have HN' := hid hn'
  clear hn hn'
  go_enter Try.func11, Try.ntmps11
  go_wp2
  go_loopw [5] (fun i wr => ∃ k q : Nat, k ≤ n ∧ i = .int .i64 k ∧ wr = w.drewN q ∧ ∀ j, j < k → byteAt l j = byteAt m j) (fun i _ => n - (intOf i).toNat)
  case atStart => exact ⟨0, 0, Nat.zero_le _, rfl, rfl, fun j hj => absurd hj (by omega)⟩
  case round =>
    obtain ⟨k, q, hk, rfl, rfl, ha⟩ := hrel
    have HA := hid ha
    clear ha
    by_cases hlt : k < n
    · have hcell := hc k (by rw [HN.out]; exact hlt)
      have hcell' := hc' k (by rw [HN'.out]; exact hlt)
      have hlti : (k : Int) < (n : Int) := by omega
      clear hc hc'
      generalize hcv : byteAt l k = cv at hcell
      generalize hcv' : byteAt m k = cv' at hcell'
      have HC := hid hcv
      have HC' := hid hcv'
      clear hcv hcv'
      cases hd : (cv != cv')
      · go_wp2
        go_quiet (fail)
        go_wp2
        go_roundw
        case rel => exact ⟨k + 1, _, by omega, by go_num, rfl, fun j hj => by
          by_cases hjk : j = k
          · subst hjk; rw [HC.out, HC'.out]; simpa using hd
          · exact HA.out j (by omega)⟩
        case measure => simp [intOf]; omega
      · go_wp2
        go_quiet (fail)
        go_wp2
        go_ret
        refine ⟨ret_bool ?_, _, World.drewN_drewN _ _ _⟩
        rw [eq_comm, decide_eq_false_iff_not]
        intro h
        have e : byteAt l k = byteAt m k := by rw [h]
        rw [HC.out, HC'.out] at e
        simp [e] at hd
    · have : k = n := by omega
      subst this
      clear hc hc'
      go_wp2
      go_ret
      exact ⟨ret_bool (by rw [eq_comm, decide_eq_true_eq]; exact Plain.ext (by rw [HN.out, HN'.out]) (fun i hi => HA.out i (by rw [← HN.out]; exact hi))), q, rfl⟩

theorem bytesEqual_any (a a' : Option Addr) (n c n' c' : Nat) (l m : List UInt8) (w : World) (hn : l.length = n) (hn' : m.length = n') (hm : n ≤ 2097152) (hc : Cells w a l) (hc' : Cells w a' m) :
    Calls Try.prog 11 #[.slice a n c, .slice a' n' c'] w fun e w' => e = .returned (.bool (decide (l = m))) ∧ ∃ q, w' = w.drewN q := by
  by_cases hne : n = n'
  · subst hne
    rcases hc with rfl | ⟨b, o, rfl, hc⟩
    · subst hn
      obtain rfl := List.eq_nil_of_length_eq_zero hn'
      exact bytesEqual_empty a a' c c' w
    · rcases hc' with rfl | ⟨b', o', rfl, hc'⟩
      · subst hn'
        obtain rfl := List.eq_nil_of_length_eq_zero hn
        exact bytesEqual_empty _ a' c c' w
      · exact bytesEqual_some b o n c b' o' c' l m w hn hn' hm hc hc'
  · have e1 : decide (l = m) = false := by simp; intro h; subst h; exact hne (by rw [← hn, ← hn'])
    rw [e1]
    exact bytesEqual_ne a a' n c n' c' w hne

end Go.Proofs.Qxb6000122a
