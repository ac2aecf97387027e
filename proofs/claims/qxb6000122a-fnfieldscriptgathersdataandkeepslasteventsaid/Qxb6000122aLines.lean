/-
  A SLICE OF LINES: what the walks are told of it; zzBytes; two owned rows side by side.
-/
import Derived.Test.Qxb6000122aClone
import Derived.Test.Qxb6000122aSplit
import Derived.Test.Qxb6000122aZZ
namespace Go.Proofs.Qxb6000122a
open Go.RowKit Go.Proofs.Qxb6000122a.Plain

/-- N lines at a: line i is the slice '.slice (aa i) (ns i) (cs i)', its bytes are 'ls i'. -/
structure LinesAt (w : World) (a : Option Addr) (N : Nat) (ls : Nat → List UInt8) (ns : Nat → Nat) (aa : Nat → Option Addr) (cs : Nat → Nat) : Prop where
  addr : 0 < N → ∃ b o, a = some ⟨b, o, none⟩ ∧ ∀ i, i < N → w.cell? ⟨b, o + i, none⟩ = some (.slice (aa i) (ns i) (cs i))
  len : ∀ i, i < N → (ls i).length = ns i
  cells : ∀ i, i < N → Cells w (aa i) (ls i)
  none0 : ∀ i, i < N → aa i = none → ns i = 0 ∧ cs i = 0
  le : ∀ i, i < N → ns i ≤ cs i ∧ cs i ≤ maxLen

theorem LinesAt.below {w w' : World} {a : Option Addr} {N : Nat} {ls : Nat → List UInt8} {ns : Nat → Nat} {aa : Nat → Option Addr} {cs : Nat → Nat} (h : LinesAt w a N ls ns aa cs) (hb : Below w.heap.size w w') : LinesAt w' a N ls ns aa cs :=
  ⟨fun h0 => by
    obtain ⟨b, o, h1, h2⟩ := h.addr h0
    exact ⟨b, o, h1, fun i hi => by rw [hb.cell (World.block_lt_of_cell? w ⟨b, o + i, none⟩ (h2 i hi))]; exact h2 i hi⟩,
   h.len, fun i hi => (h.cells i hi).below hb, h.none0, h.le⟩

theorem LinesAt.drewN {w : World} {a : Option Addr} {N : Nat} {ls : Nat → List UInt8} {ns : Nat → Nat} {aa : Nat → Option Addr} {cs : Nat → Nat} (h : LinesAt w a N ls ns aa cs) (q : Nat) : LinesAt (w.drewN q) a N ls ns aa cs :=
  ⟨fun h0 => by
    obtain ⟨b, o, h1, h2⟩ := h.addr h0
    exact ⟨b, o, h1, fun i hi => by rw [drewN_cell]; exact h2 i hi⟩,
   h.len, fun i hi => (h.cells i hi).drewN q, h.none0, h.le⟩

/-- How many bytes the first k lines hold. -/
def sumTo (ns : Nat → Nat) : Nat → Nat
  | 0 => 0
  | k + 1 => sumTo ns k + ns k

theorem sumTo_mono (ns : Nat → Nat) {j k : Nat} (h : j ≤ k) : sumTo ns j ≤ sumTo ns k := by
  induction k with
  | zero => obtain rfl : j = 0 := by omega
            exact Nat.le_refl _
  | succ k ih =>
    by_cases e : j = k + 1
    · subst e; exact Nat.le_refl _
    · have := ih (by omega); rw [show sumTo ns (k + 1) = sumTo ns k + ns k from rfl]; omega

set_option maxHeartbeats 400000 in
theorem zz_zero (a : Option Addr) (c : Nat) (w : World) :
    Calls Try.prog 6 #[.slice a 0 c] w fun e w' => e = .returned (.bool true) ∧ w' = w := by
  go_enter Try.func6, Try.ntmps6
  go_wp2
  refine wp_loop_rounds 1 ?_
  rw [rounds_succ]
  go_wp2
  go_ret
  exact ⟨rfl, rfl⟩

/-- What zzBytes hands back: some Boolean; where it is true no line is longer than 2^20. -/
def ZZPost (N : Nat) (ns : Nat → Nat) (w : World) (e : Ending) (w' : World) : Prop := ∃ r, e = .returned (.bool r) ∧ w' = w ∧ (r = true → ∀ i, i < N → ns i ≤ 1048576)
theorem ZZPost.no (N : Nat) (ns : Nat → Nat) (w : World) : ZZPost N ns w (.returned (.bool false)) w := ⟨false, rfl, rfl, fun h => by cases h⟩
theorem ZZPost.yes {N : Nat} {ns : Nat → Nat} {w : World} (h : ∀ i, i < N → ns i ≤ 1048576) : ZZPost N ns w (.returned (.bool true)) w := ⟨true, rfl, rfl, fun _ => h⟩

set_option maxHeartbeats 800000 in
theorem zz_some (b o N c : Nat) (ns : Nat → Nat) (aa : Nat → Option Addr) (cs : Nat → Nat) (w : World) (hm : N ≤ maxLen) (hns : ∀ i, i < N → ns i ≤ maxLen) (hc : ∀ i, i < N → w.cell? ⟨b, o + i, none⟩ = some (.slice (aa i) (ns i) (cs i))) :
    Calls Try.prog 6 #[.slice (some ⟨b, o, none⟩) N c] w fun e w' => ZZPost N ns w e w' := by
  unfold maxLen at hm hns
  by_cases hbig : 1048576 < N
  · clear hns hc
    go_enter Try.func6, Try.ntmps6
    go_wp2
    go_ret
    exact ZZPost.no _ _ _
  · have HNS := hid hns
    clear hns
    go_enter Try.func6, Try.ntmps6
    go_wp2
    go_loop [3, 4] (fun z i => ∃ (k : Nat) (zz : Int), k ≤ N ∧ i = .int .i64 k ∧ z = .int .i64 zz ∧ 0 ≤ zz ∧ zz ≤ 1048576 ∧ Hid (∀ j, j < k → ns j ≤ 1048576)) (fun _ i => N - (intOf i).toNat)
    case atStart => exact ⟨0, _, Nat.zero_le _, rfl, rfl, by omega, by omega, fun j hj => absurd hj (by omega)⟩
    case round =>
      obtain ⟨k, zz, hk, rfl, rfl, hz0, hz1, HA⟩ := hrel
      by_cases hlt : k < N
      · have hcell := hc k hlt
        have hnk := HNS.out k hlt
        clear hc
        generalize hnn : ns k = nk at hcell hnk
        have HNN := hid hnn
        clear hnn
        by_cases h1 : 1048576 < nk
        · go_wp2
          go_ret
          exact ZZPost.no _ _ _
        · by_cases h2 : 1048576 < zz + nk
          · go_wp2
            go_ret
            exact ZZPost.no _ _ _
          · go_wp2
            go_round
            case rel => exact ⟨k + 1, _, by omega, by go_num, rfl, by omega, by omega, fun j hj => by
              by_cases hjk : j = k
              · subst hjk; rw [HNN.out]; omega
              · exact HA.out j (by omega)⟩
            case measure => simp [intOf]; omega
      · have : k = N := by omega
        subst this
        clear hc
        go_wp2
        go_ret
        exact ZZPost.yes HA.out

theorem zz_any (a : Option Addr) (N c : Nat) (ls : Nat → List UInt8) (ns : Nat → Nat) (aa : Nat → Option Addr) (cs : Nat → Nat) (w : World) (hm : N ≤ maxLen) (h : LinesAt w a N ls ns aa cs) :
    Calls Try.prog 6 #[.slice a N c] w fun e w' => ZZPost N ns w e w' := by
  by_cases h0 : N = 0
  · subst h0
    refine (zz_zero a c w).mono ?_
    rintro e w' ⟨rfl, rfl⟩
    exact ZZPost.yes (fun i hi => absurd hi (by omega))
  · obtain ⟨b, o, rfl, hc⟩ := h.addr (by omega)
    exact zz_some b o N c ns aa cs w hm (fun i hi => Nat.le_trans (h.le i hi).1 (h.le i hi).2) hc

/-- TWO ROWS OF BYTES THAT THE CALL OWNS, in different blocks. -/
structure Two (w : World) (B : Nat) (v1 : Value) (n1 : Nat) (x1 : List Value) (v2 : Value) (n2 : Nat) (x2 : List Value) : Prop where
  own1 : w.ownsRow B 5 1 v1 n1 x1
  own2 : w.ownsRow B 5 1 v2 n2 x2
  apart : ∀ g, v1.ownBlock = some g → v2.ownBlock ≠ some g

theorem Two.swap {w : World} {B n1 n2 : Nat} {v1 v2 : Value} {x1 x2 : List Value} (h : Two w B v1 n1 x1 v2 n2 x2) : Two w B v2 n2 x2 v1 n1 x1 := ⟨h.own2, h.own1, fun g h1 h2 => h.apart g h2 h1⟩
theorem Two.alloc {w : World} {B n1 n2 : Nat} {v1 v2 : Value} {x1 x2 : List Value} (h : Two w B v1 n1 x1 v2 n2 x2) (o : Obj) : Two (w.alloc o) B v1 n1 x1 v2 n2 x2 := ⟨h.own1.alloc o, h.own2.alloc o, h.apart⟩
theorem Two.drewN {w : World} {B n1 n2 : Nat} {v1 v2 : Value} {x1 x2 : List Value} (h : Two w B v1 n1 x1 v2 n2 x2) (q : Nat) : Two (w.drewN q) B v1 n1 x1 v2 n2 x2 := ⟨h.own1, h.own2, h.apart⟩
theorem Two.grow2 {w w' : World} {B n1 n2 n2' : Nat} {v1 v2 v2' : Value} {x1 x2 x2' : List Value} (h : Two w B v1 n1 x1 v2 n2 x2) (hown : w'.ownsRow B 5 1 v2' n2' x2') (hg : w.grownBy w' v2.ownBlock)
    (hb : v2'.ownBlock = v2.ownBlock ∨ ∀ g, v2'.ownBlock = some g → w.heap.size ≤ g) : Two w' B v1 n1 x1 v2' n2' x2' := by
  refine ⟨h.own1.kept hg ?_, hown, fun g h1 h2 => ?_⟩
  · cases hv : v1.ownBlock with
    | none => exact .inl rfl
    | some g => exact .inr fun e => h.apart g hv e.symm
  · rcases hb with hb | hb
    · rw [hb] at h2; exact h.apart g h1 h2
    · have := hb g h2
      have := (h.own1.lt g h1).2
      omega

end Go.Proofs.Qxb6000122a
