/-
  THE WALK over FnFieldScriptGathersDataAndKeepsLastEvent.
-/
import Derived.Test.Qxb6000122aLines
import Derived.Deep.RegionWith
import Derived.Deep.Slices
namespace Go.Proofs.Qxb6000122a
open Go.RowKit Go.Proofs.Qxb6000122a.Plain

theorem Try.info27 : (Try.prog.info? 27).map (fun i => (i.zero, i.size, i.bytes)) = some (some (.slice none 0 0), 1, 24) := by kernel_rfl

theorem Cells.set_other {w : World} {a : Option Addr} {l : List UInt8} {g k : Nat} {v : Value} (h : Cells w a l) (hb : ∀ x : Addr, a = some x → x.block ≠ g) : Cells (w.setCell ⟨g, k, none⟩ v) a l := by
  rcases h with h | ⟨b, o, h1, h2⟩
  · exact .inl h
  · refine .inr ⟨b, o, h1, fun i hi => ?_⟩
    rw [← h2 i hi]
    exact World.cell?_of_block (heap_setCell_other w ⟨g, k, none⟩ b v (hb _ h1))

/-- HOW FAR THE CLONING HAS COME: the first k lines are cloned. -/
def Cloned (w wr : World) (N k : Nat) (ls : Nat → List UInt8) (ns : Nat → Nat) : Prop :=
  ∃ xs, wr.ownsRow w.heap.size 27 1 (.slice (some ⟨w.heap.size, 0, none⟩) N N) N xs ∧ Below w.heap.size w wr ∧ w.heap.size < wr.heap.size ∧
    ∀ j, j < k → ∃ aj, xs[j]? = some (.slice aj (ns j) (ns j)) ∧ Cells wr aj (ls j) ∧ (aj = none → ns j = 0) ∧ ∀ x, aj = some x → w.heap.size < x.block

theorem own_below27 {w1 w2 : World} {B n : Nat} {v : Value} {xs : List Value} (h : w1.ownsRow B 27 1 v n xs) (hb : Below w1.heap.size w1 w2) : w2.ownsRow B 27 1 v n xs := by
  refine ⟨h.1, ?_⟩
  rcases h.2 with h2 | ⟨g, cap, cur, h1, h2, h3, h4⟩
  · exact .inl h2
  · exact .inr ⟨g, cap, cur, h1, h2, by rw [hb.block g (Array.getElem?_eq_some_iff.1 h3).1]; exact h3, h4⟩

theorem Cloned.step {w wr w1 : World} {N k : Nat} {ls : Nat → List UInt8} {ns : Nat → Nat} {ak : Option Addr} (h : Cloned w wr N k ls ns) (hk : k < N) (hc : Cells w1 ak (ls k)) (hb : Below wr.heap.size wr w1) (hn : ak = none → ns k = 0)
    (hx : ∀ x, ak = some x → wr.heap.size ≤ x.block) : Cloned w (w1.setCell ⟨w.heap.size, k, none⟩ (.slice ak (ns k) (ns k))) N (k + 1) ls ns := by
  obtain ⟨xs, hown, hbel, hsz, hj⟩ := h
  have hown1 := own_below27 hown hb
  have hl : xs.length = N := by simpa using hown.1
  refine ⟨xs.set k (.slice ak (ns k) (ns k)), (hown1.stored k _).1, (hbel.trans (hb.mono hbel.size)).setCell (Nat.le_refl _) _, by have := hb.size; simp [World.setCell]; omega, fun j hjk => ?_⟩
  rw [List.getElem?_set]
  by_cases e : k = j
  · subst e
    exact ⟨ak, by simp [hl, hk], hc.set_other (fun x hx' => by have := hx x hx'; omega), hn, fun x hx' => by have := hx x hx'; omega⟩
  · rw [if_neg e]
    obtain ⟨aj, h1, h2, h3, h4⟩ := hj j (by omega)
    exact ⟨aj, h1, (h2.below hb).set_other (fun x hx' => by have := h4 x hx'; omega), h3, h4⟩

theorem Cloned.at {w wr w1 : World} {N k : Nat} {ls : Nat → List UInt8} {ns : Nat → Nat} (h : Cloned w wr N k ls ns) (hk : k < N) (hb : Below wr.heap.size wr w1) : (∃ v, w1.cell? ⟨w.heap.size, k, none⟩ = some v) ∧ w1.frozen? ⟨w.heap.size, k, none⟩ = false := by
  obtain ⟨xs, hown, _⟩ := h
  have hown1 := own_below27 hown hb
  have hl : xs.length = N := by simpa using hown.1
  exact ⟨⟨xs[k]'(by omega), by rw [hown1.cellAt k (by omega), List.getElem?_eq_getElem (by omega)]⟩, hown1.frozenAt k⟩

theorem Cloned.bel {w wr : World} {N k : Nat} {ls : Nat → List UInt8} {ns : Nat → Nat} (h : Cloned w wr N k ls ns) : Below w.heap.size w wr := h.choose_spec.2.1

theorem Cloned.done {w wr : World} {N : Nat} {ls : Nat → List UInt8} {ns : Nat → Nat} (h : Cloned w wr N N ls ns) (hlen : ∀ i, i < N → (ls i).length = ns i) (hns : ∀ i, i < N → ns i ≤ 1048576) :
    ∃ aa', LinesAt wr (some ⟨w.heap.size, 0, none⟩) N ls ns aa' ns := by
  obtain ⟨xs, hown, hbel, hsz, hj⟩ := h
  obtain ⟨f, hf⟩ := Deep.choose_lt (α := Option Addr) (p := fun j aj => xs[j]? = some (.slice aj (ns j) (ns j)) ∧ Cells wr aj (ls j) ∧ (aj = none → ns j = 0) ∧ ∀ x, aj = some x → w.heap.size < x.block) hj
  exact ⟨f, fun _ => ⟨_, _, rfl, fun i hi => by rw [Nat.zero_add, hown.cellAt i (by omega)]; exact (hf i hi).1⟩, hlen, fun i hi => (hf i hi).2.1, fun i hi h0 => ⟨(hf i hi).2.2.1 h0, (hf i hi).2.2.1 h0⟩,
    fun i hi => ⟨Nat.le_refl _, Nat.le_trans (hns i hi) (by unfold maxLen; omega)⟩⟩

/-- WHAT HOLDS AT EACH ROUND OF THE SCRIPT: d and want are two rows of the call's own with the same bytes. -/
structure Inv (wc wr : World) (ns : Nat → Nat) (k : Nat) (D : List UInt8) (dn : Nat) (da : Option Addr) (dc : Nat) (wa : Option Addr) (wcap : Nat) : Prop where
  len : D.length = dn
  two : Two wr wc.heap.size (.slice da dn dc) dn (vals D) (.slice wa dn wcap) dn (vals D)
  bel : Below wc.heap.size wc wr
  nil : (Value.slice da dn dc) = .slice none 0 0 ↔ (Value.slice wa dn wcap) = .slice none 0 0
  bd : dn ≤ sumTo ns k + k

theorem Inv.start (wc : World) (ns : Nat → Nat) : Inv wc wc ns 0 [] 0 none 0 none 0 :=
  ⟨rfl, ⟨World.ownsRow_nil _ _ _ _, World.ownsRow_nil _ _ _ _, fun g h => by cases h⟩, Below.refl _ _, by simp, by omega⟩

theorem Inv.nil_iff {wc wr : World} {ns : Nat → Nat} {k dn dc wcap : Nat} {D : List UInt8} {da wa : Option Addr} (h : Inv wc wr ns k D dn da dc wa wcap) : da.isNone = wa.isNone := by
  have e1 : da = none ↔ (Value.slice da dn dc) = .slice none 0 0 := by
    rcases h.two.own1.2 with ⟨h1, _⟩ | ⟨g, cap, cur, h1, _⟩
    · rw [h1]; simp at h1; simp [h1.1]
    · rw [h1]; simp at h1; simp [h1.1]
  have e2 : wa = none ↔ (Value.slice wa dn wcap) = .slice none 0 0 := by
    rcases h.two.own2.2 with ⟨h1, _⟩ | ⟨g, cap, cur, h1, _⟩
    · rw [h1]; simp at h1; simp [h1.1]
    · rw [h1]; simp at h1; simp [h1.1]
  have := h.nil
  rw [Bool.eq_iff_iff, Option.isNone_iff_eq_none, Option.isNone_iff_eq_none, e1, e2, this]

/-- ZZField, its results by name. -/
theorem zzc (B : Nat) (E : ByteArray) (da : Option Addr) (dn dc : Nat) (D : List UInt8) (a : Option Addr) (n : Nat) (l : List UInt8) (w : World) (hn : l.length = n) (hm : n ≤ 2097152) (hc : Cells w a l)
    (hdn : D.length = dn) (hD : dn ≤ 2097152) (hown : w.ownsRow B 5 1 (.slice da dn dc) dn (vals D)) (hB : B ≤ w.heap.size) : ∀ (E' : ByteArray) (D' : List UInt8) (dn' : Nat), newType E l = E' → newData D l = D' → D'.length = dn' →
    Calls Try.prog 8 #[.string E, .slice da dn dc, .slice a n n] w fun e w' => ∃ a' c', e = .returned (.tuple #[.string E', .slice a' dn' c']) ∧
      w'.ownsRow B 5 1 (.slice a' dn' c') dn' (vals D') ∧ w.grownBy w' (Value.slice da dn dc).ownBlock ∧ ((Value.slice a' dn' c') = .slice none 0 0 ↔ (Value.slice da dn dc) = .slice none 0 0 ∧ isData l = false) ∧
      ((Value.slice a' dn' c').ownBlock = (Value.slice da dn dc).ownBlock ∨ ∀ g, (Value.slice a' dn' c').ownBlock = some g → w.heap.size ≤ g) := by
  intro E' D' dn' hE' hD' hdn'
  refine (zzField_any B E da dn dc D a n n l w hn hm (Nat.le_refl _) (by omega) hc hdn hD hown hB).mono ?_
  rintro e w' ⟨a', c', rfl, r1, r2, r3, r4⟩
  rw [hE', hD', hdn'] at *
  exact ⟨a', c', rfl, r1, r2, r3, r4⟩

/-- Behind ZZField. -/
theorem Inv.zz {wc wr w1 : World} {ns : Nat → Nat} {k dn dn' dc wcap c1 : Nat} {D D' : List UInt8} {da wa a1 : Option Addr} (h : Inv wc wr ns k D dn da dc wa wcap)
    (h1 : w1.ownsRow wc.heap.size 5 1 (.slice a1 dn' c1) dn' (vals D')) (h2 : wr.grownBy w1 (Value.slice da dn dc).ownBlock)
    (h4 : (Value.slice a1 dn' c1).ownBlock = (Value.slice da dn dc).ownBlock ∨ ∀ g, (Value.slice a1 dn' c1).ownBlock = some g → wr.heap.size ≤ g) :
    Two w1 wc.heap.size (.slice a1 dn' c1) dn' (vals D') (.slice wa dn wcap) dn (vals D) ∧ Below wc.heap.size wc w1 :=
  ⟨(h.two.swap.grow2 h1 h2 h4).swap, h.bel.grown h2 h.bel.size (fun g hg => (h.two.own1.lt g hg).1)⟩

/-- The round's end where the line is no data. -/
theorem Inv.same {wc wr w1 : World} {ns : Nat → Nat} {k dn dc wcap c1 : Nat} {D l : List UInt8} {da wa a1 : Option Addr} (h : Inv wc wr ns k D dn da dc wa wcap)
    (h1 : Two w1 wc.heap.size (.slice a1 dn c1) dn (vals D) (.slice wa dn wcap) dn (vals D) ∧ Below wc.heap.size wc w1) (h3 : (Value.slice a1 dn c1) = .slice none 0 0 ↔ (Value.slice da dn dc) = .slice none 0 0 ∧ isData l = false) (hd : isData l = false) (q : Nat) :
    Inv wc (w1.drewN q) ns (k + 1) D dn a1 c1 wa wcap :=
  ⟨h.len, h1.1.drewN q, below_drewN h1.2 q, by rw [h3, ← h.nil]; simp [hd], by have := h.bd; rw [show sumTo ns (k + 1) = sumTo ns k + ns k from rfl]; omega⟩

/-- The round's end where the line is data. -/
theorem Inv.data {wc wr w3 : World} {ns : Nat → Nat} {k dn dc wcap c1 c3 m : Nat} {D V l : List UInt8} {da wa a1 a3 : Option Addr} {x3 : List Value} {v2 : Value} (h : Inv wc wr ns k D dn da dc wa wcap) (hV : V.length = m) (hm : m ≤ ns k)
    (h1 : Two w3 wc.heap.size (.slice a1 (dn + m + 1) c1) (dn + m + 1) (vals (D ++ V ++ [10])) (.slice a3 (dn + m + 1) c3) (dn + m + 1) x3 ∧ Below wc.heap.size wc w3) (hx : x3 = vals D ++ vals V ++ vals [10])
    (h3 : (Value.slice a1 (dn + m + 1) c1) = .slice none 0 0 ↔ (Value.slice da dn dc) = .slice none 0 0 ∧ isData l = false) (hd : isData l = true) (h4 : (Value.slice a3 (dn + m + 1) c3) = .slice none 0 0 ↔ v2 = .slice none 0 0 ∧ 1 = 0) :
    Inv wc w3 ns (k + 1) (D ++ V ++ [10]) (dn + m + 1) a1 c1 a3 c3 := by
  refine ⟨by simp [h.len, hV]; omega, ?_, h1.2, by rw [h3, h4]; simp [hd], by have := h.bd; rw [show sumTo ns (k + 1) = sumTo ns k + ns k from rfl]; omega⟩
  have e : x3 = vals (D ++ V ++ [10]) := by rw [hx, vals_append, vals_append]
  rw [e] at h1
  exact h1.1

theorem LinesAt.cell_at {w : World} {b o N k : Nat} {ls : Nat → List UInt8} {ns : Nat → Nat} {aa : Nat → Option Addr} {cs : Nat → Nat} (h : LinesAt w (some ⟨b, o, none⟩) N ls ns aa cs) (hk : k < N) : w.cell? ⟨b, o + k, none⟩ = some (.slice (aa k) (ns k) (cs k)) := by
  obtain ⟨b', o', h1, h2⟩ := h.addr (by omega)
  simp at h1
  obtain ⟨rfl, rfl⟩ := h1
  exact h2 k hk

set_option maxRecDepth 100000 in
set_option maxHeartbeats 1600000 in
theorem walk_main (a : Option Addr) (N c : Nat) (ls : Nat → List UInt8) (ns : Nat → Nat) (aa : Nat → Option Addr) (cs : Nat → Nat) (w : World) (hm : N ≤ maxLen) (hnone : a = none → N = 0 ∧ c = 0) (hL : LinesAt w a N ls ns aa cs) :
    Calls Try.prog 4 #[.slice a N c] w fun e w' => e = .returned (.bool true) ∧ Below w.heap.size w w' := by
  have HZ := hid (zz_any a N c ls ns aa cs w hm hL)
  have HL := hid hL
  have HN := hid hnone
  unfold maxLen at hm
  clear hL hnone
  go_enter Try.func4, Try.ntmps4
  go_upto_block 0 with (go_at_call 6; refine HZ.out.mono ?_; rintro e w' ⟨r, rfl, hw', hr⟩; have hw'' := hw'.symm; subst hw''; have HR := hid hr; clear hr)
  · go_ret
    exact ⟨rfl, Below.refl _ _⟩
  · go_ret
    exact ⟨rfl, Below.refl _ _⟩
  have hN : (N : Int) ≤ 65536 := by assumption
  have HNs : Hid (∀ i, i < N → ns i ≤ 1048576) := by
    have hr : (!r) = false := by assumption
    exact HR.out (by simpa using hr)
  clear HR HZ
  go_cut [3] from 14 (fun s3 w' => ∃ T : Nat, s3 = .int .i64 T ∧ w' = w ∧ Hid (T = 24 * N + sumTo ns N))
  case first =>
    go_wp2
    go_loop [3, 4] (fun t i => ∃ k T : Nat, k ≤ N ∧ i = .int .i64 k ∧ t = .int .i64 T ∧ T ≤ 1572864 ∧ Hid (T = 24 * N + sumTo ns k)) (fun _ i => N - (intOf i).toNat)
    case atStart => exact ⟨0, 24 * N, Nat.zero_le _, rfl, by go_num, by omega, rfl⟩
    case round =>
      obtain ⟨k, T, hk, rfl, rfl, hT, HT⟩ := hrel
      by_cases hlt : k < N
      · obtain ⟨b, o, rfl, hcs⟩ := HL.out.addr (by omega)
        have hcell := hcs k hlt
        have hnk := HNs.out k hlt
        clear hcs
        generalize hnn : ns k = nk at hcell hnk
        have HNN := hid hnn
        clear hnn
        by_cases h1 : 1048576 < T + nk
        · go_wp2
          go_ret
          exact ⟨rfl, Below.refl _ _⟩
        · go_wp2
          go_round
          case rel => exact ⟨k + 1, T + nk, by omega, by go_num, by go_num, by omega, by show T + nk = 24 * N + sumTo ns (k + 1); rw [show sumTo ns (k + 1) = sumTo ns k + ns k from rfl, HNN.out, HT.out]; omega⟩
          case measure => simp [intOf]; omega
      · have : k = N := by omega
        subst this
        go_wp2
        go_meet
        case rel => exact ⟨T, rfl, rfl, HT⟩
  case rest =>
    obtain ⟨T, rfl, hwc, HT⟩ := hcut
    have hwc' := hwc.symm
    subst hwc'
    by_cases hTb : 1048576 < T
    · go_wp2
      go_ret
      exact ⟨rfl, Below.refl _ _⟩
    · have hTs : 24 * N + sumTo ns N ≤ 1048576 := by have := HT.out; omega
      clear HT
      go_upto_if 41 with fail
      go_cut [5] from 14 (fun s5 w' => ∃ (ca : Option Addr) (aa' : Nat → Option Addr), s5 = .slice ca N N ∧ Hid (LinesAt w' ca N ls ns aa' ns ∧ Below w.heap.size w w'))
      case first =>
        cases a with
        | none =>
          obtain ⟨rfl, rfl⟩ := HN.out rfl
          go_wp2
          go_meet
          case rel => exact ⟨none, fun _ => none, rfl, ⟨fun h => absurd h (by omega), fun i hi => absurd hi (by omega), fun i hi => absurd hi (by omega), fun i hi => absurd hi (by omega), fun i hi => absurd hi (by omega)⟩, Below.refl _ _⟩
        | some x =>
          obtain ⟨i0, hi, hz0, hz1, hz2⟩ := info_parts Try.info27
          go_wp2_with (at_make; refine wpList_make_full _ rfl _ _ 25 rfl w.heap.size 27 i0 (.slice none 0 0) 1 Try.underlying25 hi hz0 hz1 .i64 .i64 (N : Int) (N : Int) N rfl rfl rfl rfl (by rw [hz2]; omega) (by unfold maxLen; omega) (Nat.le_refl _) ?_; intro w1 hown1 hgrow1; have HCl : Hid (Cloned w w1 N 0 ls ns) := ⟨_, hown1, (Below.refl _ _).grown hgrow1 (Nat.le_refl _) (by simp), (hown1.lt _ rfl).2, fun j hj => absurd hj (by omega)⟩; clear hown1 hgrow1)
          go_loopw [6] (fun i wr => ∃ k : Nat, k ≤ N ∧ i = .int .i64 k ∧ Hid (Cloned w wr N k ls ns)) (fun i _ => N - (intOf i).toNat)
          case atStart => exact ⟨0, Nat.zero_le _, rfl, HCl⟩
          case round =>
            obtain ⟨k, hk, rfl, HK⟩ := hrel
            clear HCl
            by_cases hlt : k < N
            · have HLr := hid (HL.out.below HK.out.bel)
              obtain ⟨b, o, hx, hcs⟩ := HLr.out.addr (by omega)
              obtain rfl := Option.some.inj hx
              have hcell := hcs k hlt
              clear hcs hx
              have hnk := HNs.out k hlt
              have HCn := hid (clone_any (aa k) (ns k) (cs k) (ls k) wr (HLr.out.len k hlt) hnk (HLr.out.none0 k hlt) (HLr.out.cells k hlt))
              go_wp2_with (go_at_call 7; refine HCn.out.mono ?_; rintro e w2 ⟨ak, rfl, hck, hbk, hnk0, hxk⟩; obtain ⟨⟨v, hold⟩, hfz⟩ := HK.out.at hlt hbk; have HK2 := hid (HK.out.step hlt hck hbk hnk0 hxk); clear hck hbk hnk0 hxk)
              go_roundw
              case rel => exact ⟨k + 1, by omega, by go_num, HK2⟩
              case measure => simp [intOf]; omega
            · have : k = N := by omega
              subst this
              go_wp2
              go_meet
              case rel =>
                obtain ⟨aa', h⟩ := HK.out.done HL.out.len HNs.out
                exact ⟨_, aa', rfl, h, HK.out.bel⟩
      case rest =>
        obtain ⟨ca, aa', rfl, HC⟩ := hcut
        have HLw : Hid (LinesAt wc ca N ls ns aa' ns) := HC.out.1
        have HBw : Hid (Below w.heap.size w wc) := HC.out.2
        clear HC HL HN
        go_wp2
        go_loopw [7, 8, 9, 10, 11] (fun et d wt wn i wr => ∃ (k dn dc wcap : Nat) (t : ByteArray) (D : List UInt8) (da wa : Option Addr), k ≤ N ∧ i = .int .i64 k ∧ et = .string t ∧ d = .slice da dn dc ∧ wt = .string t ∧ wn = .slice wa dn wcap ∧ Hid (Inv wc wr ns k D dn da dc wa wcap)) (fun _ _ _ _ i _ => N - (intOf i).toNat)
        case atStart => exact ⟨0, 0, 0, 0, _, [], none, none, Nat.zero_le _, rfl, rfl, rfl, rfl, rfl, Inv.start wc ns⟩
        case round =>
          obtain ⟨k, dn, dc, wcap, t, D, da, wa, hk, rfl, rfl, rfl, rfl, rfl, HI⟩ := hrel
          by_cases hlt : k < N
          · have HLr := hid (HLw.out.below HI.out.bel)
            obtain ⟨b, o, hca, hcs⟩ := HLr.out.addr (by omega)
            subst hca
            have hcell := hcs k hlt
            clear hcs
            have hnk := HNs.out k hlt
            have hdn : dn + ns k + 1 ≤ 1048576 := by
              have h1 := HI.out.bd
              have h2 := sumTo_mono ns (show k + 1 ≤ N by omega)
              rw [show sumTo ns (k + 1) = sumTo ns k + ns k from rfl] at h2
              omega
            have HEv : Hid (isEvent (ls k) = decide (nameOf (ls k) = eventB)) := rfl
            have HDa : Hid (isData (ls k) = decide (nameOf (ls k) = dataB)) := rfl
            have HNT : Hid (newType t (ls k) = if isEvent (ls k) then ⟨(valueOf (ls k)).toArray⟩ else t) := rfl
            have HND : Hid (newData D (ls k) = if isData (ls k) then D ++ valueOf (ls k) ++ [10] else D) := rfl
            have HZZ := hid (zzc wc.heap.size t da dn dc D (aa' k) (ns k) (ls k) wr (HLr.out.len k hlt) (by omega) (HLr.out.cells k hlt) HI.out.len (by omega) HI.out.two.own1 HI.out.bel.size)
            by_cases he : nameOf (ls k) = eventB
            · have HD0 : Hid (isData (ls k) = false) := decide_eq_false (by rw [he]; decide)
              have HZ := hid (HZZ.out ⟨(valueOf (ls k)).toArray⟩ D dn (by rw [HNT.out, HEv.out, decide_eq_true he]; rfl) (by rw [HND.out, HD0.out]; rfl) HI.out.len)
              clear HZZ HNT HND HEv HDa
              go_wp2_with (first
                | (go_at_call 8; refine HZ.out.mono ?_; rintro e w1 ⟨a1, c1, rfl, h1, h2, h3, h4⟩; have H1 := hid (HI.out.zz h1 h2 h4); have H3 := hid h3; clear h1 h2 h3 h4; have HL1 := hid (HLw.out.below H1.out.2); have hcell1 := HL1.out.cell_at hlt)
                | (go_at_call 9; refine (split_any _ _ _ (ls k) _ (HL1.out.len k hlt) (by omega) (Nat.le_refl _) (by omega) (HL1.out.none0 k hlt) (HL1.out.cells k hlt)).mono ?_; rintro e w' ⟨kk, va, vn, vc, q, rfl, rfl, hso⟩; have HS := hid hso; clear hso; have hkk : kk ≤ ns k := HS.out.2.2.1; have hcv := (fun q => conv_any va vn vc (valueOf (ls k)) (w1.drewN q) HS.out.2.2.2.1 (HS.out.2.2.2.2.2.1.drewN q)))
                | (go_at_call_of 10 (Value.string { data := #[101, 118, 101, 110, 116] }); refine (eqStr_any _ _ _ (nameOf (ls k)) _ _ HS.out.2.1 (by omega) (HS.out.1.drewN _)).mono ?_; rintro e w' ⟨rfl, q1, rfl⟩; rw [show decide (nameOf (ls k) = (ByteArray.mk #[101, 118, 101, 110, 116]).data.toList) = true from decide_eq_true he])
                | (go_at_call_of 10 (Value.string { data := #[100, 97, 116, 97] }); refine (eqStr_any _ _ _ (nameOf (ls k)) _ _ HS.out.2.1 (by omega) (HS.out.1.drewN _)).mono ?_; rintro e w' ⟨rfl, q2, rfl⟩; rw [show decide (nameOf (ls k) = (ByteArray.mk #[100, 97, 116, 97]).data.toList) = false from decide_eq_false (by rw [he]; decide)]))
              go_roundw
              case rel => exact ⟨k + 1, dn, c1, wcap, _, D, a1, wa, by omega, by go_num, rfl, rfl, rfl, rfl, HI.out.same H1.out H3.out HD0.out _⟩
              case measure => simp [intOf]; omega
            · by_cases hd : nameOf (ls k) = dataB
              · have HD1 : Hid (isData (ls k) = true) := decide_eq_true hd
                obtain ⟨m, hm0⟩ : ∃ m, (valueOf (ls k)).length = m := ⟨_, rfl⟩
                have hmk : m ≤ ns k := by have := valueOf_le (ls k); have := HLr.out.len k hlt; omega
                have HM := hid hm0
                clear hm0
                have HZ := hid (HZZ.out t (D ++ valueOf (ls k) ++ [10]) (dn + m + 1) (by rw [HNT.out, HEv.out, decide_eq_false he]; rfl) (by rw [HND.out, HD1.out]; rfl) (by simp [HI.out.len, HM.out]; omega))
                clear HZZ HNT HND HEv HDa
                obtain ⟨i0, hi, hz0, hz1, hz2⟩ := info_parts Try.info5
                go_wp2_with (first
                  | (go_at_call 8; refine HZ.out.mono ?_; rintro e w1 ⟨a1, c1, rfl, h1, h2, h3, h4⟩; have H1 := hid (HI.out.zz h1 h2 h4); have H3 := hid h3; clear h1 h2 h3 h4; have HL1 := hid (HLw.out.below H1.out.2); have hcell1 := HL1.out.cell_at hlt)
                  | (go_at_call 9; refine (split_any _ _ _ (ls k) _ (HL1.out.len k hlt) (by omega) (Nat.le_refl _) (by omega) (HL1.out.none0 k hlt) (HL1.out.cells k hlt)).mono ?_; rintro e w' ⟨kk, va, vn, vc, q, rfl, rfl, hso⟩; have HS := hid hso; clear hso; have hkk : kk ≤ ns k := HS.out.2.2.1; have hvm : m = vn := HM.out.symm.trans HS.out.2.2.2.1; subst hvm)
                  | (go_at_call_of 10 (Value.string { data := #[101, 118, 101, 110, 116] }); refine (eqStr_any _ _ _ (nameOf (ls k)) _ _ HS.out.2.1 (by omega) (HS.out.1.drewN _)).mono ?_; rintro e w' ⟨rfl, q1, rfl⟩; rw [show decide (nameOf (ls k) = (ByteArray.mk #[101, 118, 101, 110, 116]).data.toList) = false from decide_eq_false he])
                  | (go_at_call_of 10 (Value.string { data := #[100, 97, 116, 97] }); refine (eqStr_any _ _ _ (nameOf (ls k)) _ _ HS.out.2.1 (by omega) (HS.out.1.drewN _)).mono ?_; rintro e w' ⟨rfl, q2, rfl⟩; rw [show decide (nameOf (ls k) = (ByteArray.mk #[100, 97, 116, 97]).data.toList) = true from decide_eq_true hd])
                  | (at_builtin; refine wpList_append_any rfl (.tmp 90) (.tmp 91) 27 rfl wc.heap.size 5 i0 (.int .u8 0) 1 1 Try.underlying27 hi hz0 hz1 hz2 rfl (by decide) (.slice wa dn wcap) dn (vals D) rfl (H1.out.1.drewN _).own2 va m vc (vals (valueOf (ls k))) rfl HS.out.2.2.2.2.2.2 (by rw [vals_length, HM.out, Nat.mul_one]) (HS.out.2.2.2.2.2.1.drewN _).news (vals_one _) (by unfold maxLen; omega) (by omega) (below_drewN H1.out.2 _).size ?_; intro w2v w2 hown2 hgr2 hiff2 hblk2; have H2 := hid (And.intro ((H1.out.1.drewN _).grow2 hown2 hgr2 hblk2) ((below_drewN H1.out.2 _).grown hgr2 (below_drewN H1.out.2 _).size (fun g hg => (H1.out.1.own2.lt g hg).1))); clear hown2 hgr2 hiff2 hblk2)
                  | (at_builtin; refine wpList_append_any rfl (.tmp 93) (.tmp 94) 27 rfl wc.heap.size 5 i0 (.int .u8 0) 1 1 Try.underlying27 hi hz0 hz1 hz2 rfl (by decide) w2v (dn + m) (vals D ++ vals (valueOf (ls k))) rfl (H2.out.1.alloc _).own2 (some ⟨w2.heap.size, 0, none⟩) 1 1 (vals [10]) rfl (by simp) rfl (one_cell (x := 10) (new_cell w2 10 (0, 0))).news (vals_one _) (by unfold maxLen; omega) (by omega) (H2.out.2.alloc H2.out.2.size _).size ?_; intro w3v w3 hown3 hgr3 hiff3 hblk3; obtain ⟨a3, c3, rfl⟩ := own_shape hown3; have H4 := hid (And.intro ((H2.out.1.alloc _).grow2 hown3 hgr3 hblk3) ((H2.out.2.alloc H2.out.2.size _).grown hgr3 (H2.out.2.alloc H2.out.2.size _).size (fun g hg => (H2.out.1.own2.lt g hg).1))); have HI3 := hid hiff3; clear hown3 hgr3 hiff3 hblk3))
                go_roundw
                case rel => exact ⟨k + 1, dn + m + 1, c1, c3, t, D ++ valueOf (ls k) ++ [10], a1, a3, by omega, by go_num, rfl, rfl, rfl, rfl, HI.out.data HM.out hmk H4.out rfl H3.out HD1.out HI3.out⟩
                case measure => simp [intOf]; omega
              · have HD0 : Hid (isData (ls k) = false) := decide_eq_false hd
                have HZ := hid (HZZ.out t D dn (by rw [HNT.out, HEv.out, decide_eq_false he]; rfl) (by rw [HND.out, HD0.out]; rfl) HI.out.len)
                clear HZZ HNT HND HEv HDa
                go_wp2_with (first
                  | (go_at_call 8; refine HZ.out.mono ?_; rintro e w1 ⟨a1, c1, rfl, h1, h2, h3, h4⟩; have H1 := hid (HI.out.zz h1 h2 h4); have H3 := hid h3; clear h1 h2 h3 h4; have HL1 := hid (HLw.out.below H1.out.2); have hcell1 := HL1.out.cell_at hlt)
                  | (go_at_call 9; refine (split_any _ _ _ (ls k) _ (HL1.out.len k hlt) (by omega) (Nat.le_refl _) (by omega) (HL1.out.none0 k hlt) (HL1.out.cells k hlt)).mono ?_; rintro e w' ⟨kk, va, vn, vc, q, rfl, rfl, hso⟩; have HS := hid hso; clear hso; have hkk : kk ≤ ns k := HS.out.2.2.1)
                  | (go_at_call_of 10 (Value.string { data := #[101, 118, 101, 110, 116] }); refine (eqStr_any _ _ _ (nameOf (ls k)) _ _ HS.out.2.1 (by omega) (HS.out.1.drewN _)).mono ?_; rintro e w' ⟨rfl, q1, rfl⟩; rw [show decide (nameOf (ls k) = (ByteArray.mk #[101, 118, 101, 110, 116]).data.toList) = false from decide_eq_false he])
                  | (go_at_call_of 10 (Value.string { data := #[100, 97, 116, 97] }); refine (eqStr_any _ _ _ (nameOf (ls k)) _ _ HS.out.2.1 (by omega) (HS.out.1.drewN _)).mono ?_; rintro e w' ⟨rfl, q2, rfl⟩; rw [show decide (nameOf (ls k) = (ByteArray.mk #[100, 97, 116, 97]).data.toList) = false from decide_eq_false hd]))
                go_roundw
                case rel => exact ⟨k + 1, dn, c1, wcap, _, D, a1, wa, by omega, by go_num, rfl, rfl, rfl, rfl, HI.out.same H1.out H3.out HD0.out _⟩
                case measure => simp [intOf]; omega
          · have : k = N := by omega
            subst this
            have hq := q27
            have H11 := hid (bytesEqual_any da wa dn dc dn wcap D D wr HI.out.len HI.out.len (by have := HI.out.bd; omega) (Cells.own HI.out.two.own1).1 (Cells.own HI.out.two.own2).1)
            have hnl : da.isNone = wa.isNone := HI.out.nil_iff
            go_wp2_with (go_at_call 11; refine H11.out.mono ?_; rintro e w' ⟨rfl, q1, rfl⟩; rw [show decide (D = D) = true from decide_eq_true rfl])
            go_ret
            exact ⟨rfl, below_drewN (HBw.out.trans (HI.out.bel.mono HBw.out.size)) _⟩

end Go.Proofs.Qxb6000122a
