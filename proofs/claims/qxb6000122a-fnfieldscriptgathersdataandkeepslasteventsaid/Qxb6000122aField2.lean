/-
  THE WALK over (*eventParser).field.
-/
import Derived.Test.Qxb6000122aField
namespace Go.Proofs.Qxb6000122a
open Go.RowKit Go.Proofs.Qxb6000122a.Plain

def oColon : Obj := .cells #[.int .u8 58] 5 (1, 2)
def oBlank : Obj := .cells #[.int .u8 32] 5 (1, 2)

theorem alloc_drewN (w : World) (n : Nat) (o : Obj) : (w.drewN n).alloc o = (w.alloc o).drewN n := rfl
theorem setCell_drewN (w : World) (n : Nat) (a : Addr) (v : Value) : (w.drewN n).setCell a v = (w.setCell a v).drewN n := rfl

theorem const_conv (w : World) (C : Array Value) (n c q : Nat) : (convert 27 27 (.slice (some ⟨w.heap.size, 0, none⟩) n c)).run Try.prog ((w.alloc (.cells C 5)).drewN q) = .ok (.slice (some ⟨w.heap.size, 0, none⟩) n c) ((w.alloc (.cells C 5 (C.size, C.size + 1))).drewN q) :=
  Lib.run_convert_bytes_const (P := Try.prog) (w.drewN q) 27 5 C n c Try.underlying27 Try.underlying5
theorem const_conv0 (w : World) (C : Array Value) (n c : Nat) : (convert 27 27 (.slice (some ⟨w.heap.size, 0, none⟩) n c)).run Try.prog (w.alloc (.cells C 5)) = .ok (.slice (some ⟨w.heap.size, 0, none⟩) n c) (w.alloc (.cells C 5 (C.size, C.size + 1))) :=
  Lib.run_convert_bytes_const (P := Try.prog) w 27 5 C n c Try.underlying27 Try.underlying5

theorem blank_conv (w : World) (q : Nat) : (convert 27 27 (.slice (some ⟨w.heap.size + 1, 0, none⟩) 1 1)).run Try.prog (((w.alloc oColon).alloc (.cells #[.int .u8 32] 5)).drewN q) = .ok (.slice (some ⟨w.heap.size + 1, 0, none⟩) 1 1) (((w.alloc oColon).alloc oBlank).drewN q) := by
  have h := const_conv (w.alloc oColon) #[.int .u8 32] 1 1 q
  rw [show (w.alloc oColon).heap.size = w.heap.size + 1 by simp] at h
  exact h

theorem new_cell (w : World) (x : Int) (m : Nat × Nat) : (w.alloc (.cells #[.int .u8 x] 5 m)).cell? ⟨w.heap.size, 0, none⟩ = some (.int .u8 x) := by
  unfold World.cell?
  rw [heap_alloc_new]
  rfl

/-- bytes.Cut at the colon, both ways. -/
theorem cut_any (a : Option Addr) (n c sb : Nat) (l : List UInt8) (w : World) (hn : l.length = n) (hm : n ≤ 2097152) (hnc : n ≤ c) (hcm : c ≤ 4611686018427387904) (hc : Cells w a l) (hs : w.cell? ⟨sb, 0, none⟩ = some (.int .u8 58)) :
    Calls Try.prog 14 #[.slice a n c, .slice (some ⟨sb, 0, none⟩) 1 1] w fun e w' => ∃ (k vn vc q : Nat) (va : Option Addr) (f : Bool), e = .returned (.tuple #[.slice a k c, .slice va vn vc, .bool f]) ∧ w' = w.drewN q ∧
      (nameOf l = l.take k ∧ k ≤ n ∧ (restOf l).length = vn ∧ vn ≤ vc ∧ vc ≤ 4611686018427387904 ∧ Cells w va (restOf l) ∧ (va = none → vn = 0 ∧ vc = 0)) := by
  rcases indexByte_cases l 58 with ⟨h1, h2⟩ | ⟨k, hk, h1, h2, h3⟩
  · refine (cut_none a n c sb l w hn hc hs h1).mono ?_
    rintro e w' ⟨rfl, q, rfl⟩
    obtain ⟨e1, e2⟩ := none_of h2
    exact ⟨n, 0, 0, q, none, false, rfl, rfl, by rw [e1, List.take_of_length_le (by omega)], Nat.le_refl _, by rw [e2]; rfl, Nat.le_refl _, by omega, by rw [e2]; exact .inl rfl, fun _ => ⟨rfl, rfl⟩⟩
  · obtain ⟨b, o, rfl⟩ : ∃ b o, a = some ⟨b, o, none⟩ := by
      rcases hc with rfl | ⟨b, o, h, _⟩
      · simp at hk
      · exact ⟨b, o, h⟩
    refine (cut_some b o n c sb k l w hn hm hnc hcm hc hs (by omega) h1).mono ?_
    rintro e w' ⟨a', rfl, ha', q, rfl⟩
    obtain ⟨e1, e2⟩ := some_of hk h2 h3
    exact ⟨k, n - (k + 1), c - (k + 1), q, some a', true, rfl, rfl, e1, by omega, by rw [e2]; simp; omega, by omega, by omega,
      by rw [e2]; exact Cells.drop (k + 1) hc (fun hne => by rw [ha' (by omega)]) (by omega), fun h => by cases h⟩

/-- bytes.TrimPrefix at the blank, both ways. -/
theorem trim_any (a : Option Addr) (n c sb : Nat) (l : List UInt8) (w : World) (hn : l.length = n) (hm : n ≤ 2097152) (hnc : n ≤ c) (hnone : a = none → n = 0 ∧ c = 0) (hc : Cells w a l) (hs : w.cell? ⟨sb, 0, none⟩ = some (.int .u8 32)) :
    Calls Try.prog 15 #[.slice a n c, .slice (some ⟨sb, 0, none⟩) 1 1] w fun e w' => ∃ (vn vc : Nat) (va : Option Addr), e = .returned (.slice va vn vc) ∧ w' = w ∧
      ((trim1 l).length = vn ∧ vn ≤ vc ∧ Cells w va (trim1 l) ∧ (va = none → vn = 0 ∧ vc = 0)) := by
  by_cases hy : 0 < n ∧ byteAt l 0 = 32
  · obtain ⟨h0, h1⟩ := hy
    obtain ⟨b, o, rfl⟩ : ∃ b o, a = some ⟨b, o, none⟩ := by
      rcases hc with rfl | ⟨b, o, h, _⟩
      · simp at hn; omega
      · exact ⟨b, o, h⟩
    refine (trim_yes b o n c sb l 32 w hn h0 hm hnc hc hs h1).mono ?_
    rintro e w' ⟨a', rfl, ha', hw⟩
    have e2 := trim1_yes (by omega) h1
    exact ⟨n - 1, c - 1, some a', rfl, hw, by rw [e2]; simp; omega, by omega, by rw [e2]; exact Cells.drop 1 hc (fun hne => by rw [ha' (by omega)]) (by omega), fun h => by cases h⟩
  · have hno : n = 0 ∨ byteAt l 0 ≠ 32 := by
      by_cases h : n = 0
      · exact .inl h
      · exact .inr fun h' => hy ⟨by omega, h'⟩
    refine (trim_no a n c sb l 32 w hn hm hnc hc hs hno).mono ?_
    rintro e w' ⟨rfl, hw⟩
    have e2 := trim1_no (l := l) (by rw [hn]; exact hno)
    exact ⟨n, c, a, rfl, hw, by rw [e2]; exact hn, hnc, by rw [e2]; exact hc, hnone⟩

theorem KeptS.refl (w : World) (S : Nat) (row : Option Nat) : KeptS w w S row := ⟨rfl, rfl, rfl, Nat.le_refl _, fun _ _ _ _ => rfl⟩
theorem KeptS.alloc {w w1 : World} {S : Nat} {row : Option Nat} (h : KeptS w w1 S row) (o : Obj) : KeptS w (w1.alloc o) S row :=
  ⟨h.os, h.tape, h.output, by have := h.size; simp; omega, fun k hk h1 h2 => by rw [Below.heap_alloc _ _ _ (Nat.lt_of_lt_of_le hk h.size)]; exact h.block k hk h1 h2⟩
theorem KeptS.drewN {w w1 : World} {S : Nat} {row : Option Nat} (h : KeptS w w1 S row) (q : Nat) : KeptS w (w1.drewN q) S row :=
  ⟨h.os, by rw [World.tape_drewN]; exact h.tape, h.output, by rw [World.heap_drewN]; exact h.size, fun k hk h1 h2 => by rw [World.heap_drewN]; exact h.block k hk h1 h2⟩
theorem KeptS.set {w w1 : World} {S : Nat} {row : Option Nat} (h : KeptS w w1 S row) (j : Nat) (u : Value) : KeptS w (w1.setCell ⟨S, j, none⟩ u) S row :=
  ⟨h.os, h.tape, h.output, by have := h.size; simpa [World.setCell] using this, fun k hk h1 h2 => by rw [heap_setCell_other _ _ _ _ h1]; exact h.block k hk h1 h2⟩
theorem KeptS.grown {w w1 w2 : World} {S : Nat} {row row' : Option Nat} (h : KeptS w w1 S row) (hg : w1.grownBy w2 row') (hr : ∀ k, k < w.heap.size → some k = row' → some k = row) : KeptS w w2 S row :=
  ⟨hg.os.trans h.os, hg.tape.trans h.tape, hg.output.trans h.output, Nat.le_trans h.size hg.size, fun k hk h1 h2 => by
    rw [hg.block k (Nat.lt_of_lt_of_le hk h.size) (fun e => h2 (hr k hk e))]; exact h.block k hk h1 h2⟩

theorem field_event {w X : World} {S B : Nat} {x0 x1 x2 x3 x4 : Value} {E E' V : ByteArray} {dv : Value} {D D' : List UInt8} {b : Bool} (hXS : X.heap[S]? = some (.cells #[x0, x1, x2, x3, x4, .string E, dv] 37 (0, 0)))
    (hXo : X.ownsRow B 5 1 dv D.length (vals D)) (hXk : KeptS w X S dv.ownBlock) (hE : E' = V) (hD : D' = D) (hb : b = false) :
    ∃ v', (X.setCell ⟨S, 5, none⟩ (.string V)).heap[S]? = some (.cells #[x0, x1, x2, x3, x4, .string E', v'] 37 (0, 0)) ∧
      (X.setCell ⟨S, 5, none⟩ (.string V)).ownsRow B 5 1 v' D'.length (vals D') ∧ KeptS w (X.setCell ⟨S, 5, none⟩ (.string V)) S dv.ownBlock ∧ (v' = .slice none 0 0 ↔ dv = .slice none 0 0 ∧ b = false) ∧ (v'.ownBlock = dv.ownBlock ∨ ∀ g, v'.ownBlock = some g → w.heap.size ≤ g) := by
  subst hE hD hb
  refine ⟨dv, ?_, ?_, hXk.set 5 _, by simp, .inl rfl⟩
  · rw [heap_setCell_same X S 5 _ _ _ hXS]; rfl
  · refine ⟨hXo.1, ?_⟩
    rcases hXo.2 with h | ⟨g, cap, cur, h1, h2, h3, h4⟩
    · exact .inl h
    · have hgS : g ≠ S := by
        intro e; subst e; rw [hXS] at h3; simp at h3
      exact .inr ⟨g, cap, cur, h1, h2, by rw [heap_setCell_other _ _ _ _ hgS]; exact h3, h4⟩

/-- Behind an append: the parser's block stands. -/
theorem field_mid {w X w1 : World} {S B n n1 : Nat} {cs : Array Value} {v v1 : Value} {xs xs1 : List Value} {row : Option Nat} (hXS : X.heap[S]? = some (.cells cs 37 (0, 0)))
    (hXo : X.ownsRow B 5 1 v n xs) (hXk : KeptS w X S row) (hb : v.ownBlock = row ∨ ∀ g, v.ownBlock = some g → w.heap.size ≤ g) (hown1 : w1.ownsRow B 5 1 v1 n1 xs1) (hgrow1 : X.grownBy w1 v.ownBlock) (hblk1 : v1.ownBlock = v.ownBlock ∨ ∀ g, v1.ownBlock = some g → X.heap.size ≤ g) :
    w1.heap[S]? = some (.cells cs 37 (0, 0)) ∧ w1.ownsRow B 5 1 v1 n1 xs1 ∧ KeptS w w1 S row ∧ (v1.ownBlock = row ∨ ∀ g, v1.ownBlock = some g → w.heap.size ≤ g) := by
  have hlt : S < X.heap.size := (Array.getElem?_eq_some_iff.1 hXS).1
  have hne : some S ≠ v.ownBlock := by
    intro e
    rcases hXo.2 with ⟨h, _⟩ | ⟨g, cap, cur, h1, h2, h3, h4⟩
    · subst h; simp [Value.ownBlock] at e
    · subst h1; simp [Value.ownBlock] at e; subst e; rw [hXS] at h3; simp at h3
  refine ⟨by rw [hgrow1.block S hlt hne]; exact hXS, hown1, hXk.grown hgrow1 (fun k hk e => ?_), ?_⟩
  · rcases hb with h | h
    · rw [e, h]
    · have := h k e.symm; omega
  · rcases hblk1 with h | h
    · rw [h]; exact hb
    · exact .inr fun g hg => Nat.le_trans hXk.size (h g hg)

theorem own_shape {w : World} {B n : Nat} {v : Value} {xs : List Value} (h : w.ownsRow B 5 1 v n xs) : ∃ a c, v = .slice a n c := by
  rcases h.2 with ⟨h0, rfl⟩ | ⟨g, cap, cur, h1, _⟩
  · exact ⟨_, _, h0⟩
  · exact ⟨_, _, h1⟩

/-- The store of the new data. -/
theorem field_store {w X : World} {S B n : Nat} {x0 x1 x2 x3 x4 x5 x6 : Value} {v : Value} {xs : List Value} {row : Option Nat} (hXS : X.heap[S]? = some (.cells #[x0, x1, x2, x3, x4, x5, x6] 37 (0, 0)))
    (hXo : X.ownsRow B 5 1 v n xs) (hXk : KeptS w X S row) :
    (X.setCell ⟨S, 6, none⟩ v).heap[S]? = some (.cells #[x0, x1, x2, x3, x4, x5, v] 37 (0, 0)) ∧ (X.setCell ⟨S, 6, none⟩ v).ownsRow B 5 1 v n xs ∧ KeptS w (X.setCell ⟨S, 6, none⟩ v) S row := by
  refine ⟨?_, ?_, hXk.set 6 _⟩
  · rw [heap_setCell_same X S 6 _ _ _ hXS]; rfl
  · refine ⟨hXo.1, ?_⟩
    rcases hXo.2 with h | ⟨g, cap, cur, h1, h2, h3, h4⟩
    · exact .inl h
    · have hgS : g ≠ S := by
        intro e; subst e; rw [hXS] at h3; simp at h3
      exact .inr ⟨g, cap, cur, h1, h2, by rw [heap_setCell_other _ _ _ _ hgS]; exact h3, h4⟩

set_option maxHeartbeats 800000 in
theorem field_any (S B : Nat) (x0 x1 x2 x3 x4 : Value) (E : ByteArray) (dv : Value) (D : List UInt8) (a : Option Addr) (n c : Nat) (l : List UInt8) (w : World) (hn : l.length = n) (hm : n ≤ 2097152) (hnc : n ≤ c) (hcm : c ≤ 4611686018427387904) (hc : Cells w a l)
    (hS : w.heap[S]? = some (.cells #[x0, x1, x2, x3, x4, .string E, dv] 37 (0, 0))) (hD : D.length ≤ 2097152) (hown : w.ownsRow B 5 1 dv D.length (vals D)) (hB : B ≤ w.heap.size) :
    Calls Try.prog 13 #[.pointer (some ⟨S, 0, none⟩), .slice a n c] w fun e w' => e = .returned (.tuple #[]) ∧ ∃ v', w'.heap[S]? = some (.cells #[x0, x1, x2, x3, x4, .string (newType E l), v'] 37 (0, 0)) ∧
      w'.ownsRow B 5 1 v' (newData D l).length (vals (newData D l)) ∧ KeptS w w' S dv.ownBlock ∧ (v' = .slice none 0 0 ↔ dv = .slice none 0 0 ∧ isData l = false) ∧ (v'.ownBlock = dv.ownBlock ∨ ∀ g, v'.ownBlock = some g → w.heap.size ≤ g) := by
  obtain ⟨i0, hi, hz0, hz1, hz2⟩ := info_parts Try.info5
  have k0 := const_conv0
  have ad := alloc_drewN
  have HC := hid hc
  have HO := hid hown
  have HN := hid hn
  have HS := hid hS
  clear hc hown hn hS
  go_enter Try.func13, Try.ntmps13
  go_upto_region 0 with fail
  go_cut [4, 5] from 7 (fun s4 s5 w1 => ∃ (k vn vc q : Nat) (va : Option Addr), s4 = .slice a k c ∧ s5 = .slice va vn vc ∧ w1 = (w.alloc oColon).drewN q ∧
      Hid (nameOf l = l.take k ∧ k ≤ n ∧ (restOf l).length = vn ∧ vn ≤ vc ∧ vc ≤ 4611686018427387904 ∧ Cells (w.alloc oColon) va (restOf l) ∧ (va = none → vn = 0 ∧ vc = 0)))
  case first =>
    have hcut := cut_any a n c w.heap.size l (w.alloc oColon) HN.out hm hnc hcm (HC.out.alloc _) (new_cell w 58 (1, 2))
    have HCut := hid hcut
    clear hcut
    go_wp2_with (go_at_call 14; refine HCut.out.mono ?_; rintro e w' ⟨k, vn, vc, q, va, f, rfl, rfl, hR⟩; have HR := hid hR; clear hR)
    go_meet
    case rel => exact ⟨k, vn, vc, q, va, rfl, rfl, rfl, HR⟩
  case rest =>
    obtain ⟨k, rn, rc, q, ra, rfl, rfl, rfl, HR⟩ := hcut
    go_upto_region 1 with fail
    go_cut [5] from 7 (fun s5 w2 => ∃ (vn vc : Nat) (va : Option Addr), s5 = .slice va vn vc ∧ w2 = ((w.alloc oColon).alloc oBlank).drewN q ∧
      Hid ((valueOf l).length = vn ∧ vn ≤ vc ∧ Cells ((w.alloc oColon).alloc oBlank) va (valueOf l) ∧ (va = none → vn = 0 ∧ vc = 0)))
    case first =>
      obtain ⟨g1, g2, g3, g4, g5, g6, g7⟩ := HR.out
      have kb := blank_conv w q
      have htr := trim_any ra rn rc (w.alloc oColon).heap.size (restOf l) (((w.alloc oColon).alloc oBlank).drewN q) g3 (by have := restOf_le l; have := HN.out; omega) g4 g7 ((g6.alloc _).drewN q) (by rw [drewN_cell]; exact new_cell (w.alloc oColon) 32 (1, 2))
      rw [show (w.alloc oColon).heap.size = w.heap.size + 1 by simp] at htr
      have HT := hid htr
      clear htr g1 g2 g3 g4 g5 g6 g7
      go_wp2_with (go_at_call 15; refine HT.out.mono ?_; rintro e w' ⟨vn, vc, va, rfl, rfl, hR⟩; have HV := hid hR; clear hR)
      go_meet
      case rel =>
        obtain ⟨t1, t2, t3, t4⟩ := HV.out
        exact ⟨vn, vc, va, rfl, rfl, t1, t2, t3, t4⟩
    case rest =>
      obtain ⟨vn, vc, va, rfl, rfl, HV⟩ := hcut
      obtain ⟨g1, g2, _⟩ := HR.out
      have hnm : Cells (((w.alloc oColon).alloc oBlank).drewN q) a (nameOf l) := by rw [g1]; exact (((HC.out.alloc _).alloc _).take k).drewN q
      have hnl : (nameOf l).length = k := by rw [g1]; have := HN.out; simp; omega
      obtain ⟨v1, v2, v3, v4⟩ := HV.out
      have v3 := v3.drewN q
      have hvl := valueOf_le l
      have hXS : (((w.alloc oColon).alloc oBlank).drewN q).heap[S]? = some (.cells #[x0, x1, x2, x3, x4, .string E, dv] 37 (0, 0)) := by
        have hlt : S < w.heap.size := (Array.getElem?_eq_some_iff.1 HS.out).1
        rw [World.heap_drewN, Below.heap_alloc _ _ _ (by simp; omega), Below.heap_alloc _ _ _ hlt]; exact HS.out
      have hXo : (((w.alloc oColon).alloc oBlank).drewN q).ownsRow B 5 1 dv D.length (vals D) := (HO.out.alloc oColon).alloc oBlank
      have hXk : KeptS w (((w.alloc oColon).alloc oBlank).drewN q) S dv.ownBlock := (((KeptS.refl w S _).alloc _).alloc _).drewN q
      clear HC HO HS HR HV g1 g2 k0 ad
      generalize ((w.alloc oColon).alloc oBlank).drewN q = X at hnm v3 hXS hXo hXk ⊢
      have c5 : X.cell? ⟨S, 5, none⟩ = some (.string E) := by rw [cell_of_row X S 5 _ _ _ hXS]; rfl
      have c6 : X.cell? ⟨S, 6, none⟩ = some dv := by rw [cell_of_row X S 6 _ _ _ hXS]; rfl
      have f5 : X.frozen? ⟨S, 5, none⟩ = false := frozen_of_row X S 5 _ _ hXS
      have hcn := conv_any a k c (nameOf l) X hnl hnm
      have hcv := conv_any va vn vc (valueOf l) X v1 v3
      have HXS := hid hXS
      have HXo := hid hXo
      have HXk := hid hXk
      have HV3 := hid v3
      have HV1 := hid v1
      have HV4 := hid v4
      have hvn : vn ≤ 2097152 := by have := HN.out; omega
      have HHN : Hid (isEvent l = decide (nameOf l = eventB)) := rfl
      have HHD : Hid (isData l = decide (nameOf l = dataB)) := rfl
      have HNT : Hid (newType E l = if isEvent l then ⟨(valueOf l).toArray⟩ else E) := rfl
      have HND : Hid (newData D l = if isData l then D ++ valueOf l ++ [10] else D) := rfl
      clear hnm hnl v1 v2 v3 v4 hXS hXo hXk hvl HN
      generalize nameOf l = nm at hcn HHN HHD
      generalize valueOf l = V at hcv HV3 HV1 HNT HND
      by_cases he : nm = eventB
      · have t1 : (nm == [101, 118, 101, 110, 116]) = true := by rw [he]; rfl
        have HE : Hid (isEvent l = true ∧ isData l = false) := by
          refine ⟨?_, ?_⟩
          · rw [HHN.out, he]; simp
          · rw [HHD.out, he]; decide
        clear he HHN HHD
        go_wp2
        go_end0
        exact ⟨rfl, field_event HXS.out HXo.out HXk.out (by rw [HNT.out, HE.out.1]; rfl) (by rw [HND.out, HE.out.2]; rfl) HE.out.2⟩
      · by_cases hd : nm = dataB
        · have t1 : (nm == [101, 118, 101, 110, 116]) = false := by rw [hd]; rfl
          have t2 : (nm == [100, 97, 116, 97]) = true := by rw [hd]; rfl
          have HE : Hid (isEvent l = false ∧ isData l = true) := by
            refine ⟨?_, ?_⟩
            · rw [HHN.out, hd]; decide
            · rw [HHD.out, hd]; simp
          clear he hd HHN HHD
          go_wp2_with (first
            | (at_builtin; refine wpList_append_any rfl (.tmp 34) (.tmp 35) 27 rfl B 5 i0 (.int .u8 0) 1 1 Try.underlying27 hi hz0 hz1 hz2 rfl (by decide) dv D.length (vals D) rfl HXo.out va vn vc (vals V) rfl HV4.out (by rw [vals_length, HV1.out, Nat.mul_one]) HV3.out.news (vals_one V) (by unfold maxLen; omega) (by omega) (Nat.le_trans hB HXk.out.size) ?_; intro w1v w1 hown1 hgrow1 hiff1 hblk1; have H1 := hid (field_mid HXS.out HXo.out HXk.out (.inl rfl) hown1 hgrow1 hblk1); have HI1 := hid hiff1; clear hown1 hgrow1 hblk1 hiff1)
            | (at_builtin; refine wpList_append_any rfl (.tmp 36) (.tmp 37) 27 rfl B 5 i0 (.int .u8 0) 1 1 Try.underlying27 hi hz0 hz1 hz2 rfl (by decide) w1v (D.length + vn) (vals D ++ vals V) rfl (H1.out.2.1.alloc _) (some ⟨w1.heap.size, 0, none⟩) 1 1 (vals [10]) rfl (by simp) rfl (one_cell (x := 10) (new_cell w1 10 (0, 0))).news (vals_one _) (by unfold maxLen; omega) (by omega) (Nat.le_trans hB (H1.out.2.2.1.alloc _).size) ?_; intro w2v w2 hown2 hgrow2 hiff2 hblk2; obtain ⟨a2, c2, rfl⟩ := own_shape hown2; have H2 := hid (field_mid (X := w1.alloc (.cells #[.int .u8 10] 5)) (by rw [Below.heap_alloc _ _ _ (Array.getElem?_eq_some_iff.1 H1.out.1).1]; exact H1.out.1) (H1.out.2.1.alloc _) (H1.out.2.2.1.alloc _) H1.out.2.2.2 hown2 hgrow2 hblk2); have HI2 := hid hiff2; clear hown2 hgrow2 hblk2 hiff2; have c6' : w2.cell? ⟨S, 6, none⟩ = some dv := (by rw [cell_of_row w2 S 6 _ _ _ H2.out.1]; rfl); have f6' : w2.frozen? ⟨S, 6, none⟩ = false := frozen_of_row w2 S 6 _ _ H2.out.1))
          go_end0
          obtain ⟨r1, r2, r3⟩ := field_store H2.out.1 H2.out.2.1 H2.out.2.2.1
          refine ⟨rfl, _, by rw [HNT.out, HE.out.1]; exact r1, ?_, r3, ?_, H2.out.2.2.2⟩
          · rw [HND.out, HE.out.2]
            simp only [if_true, List.length_append, vals_append, HV1.out]
            exact r2
          · rw [HE.out.2]
            have := HI2.out
            simp at this ⊢
        · have t1 : (nm == [101, 118, 101, 110, 116]) = false := by simpa [eventB] using he
          have t2 : (nm == [100, 97, 116, 97]) = false := by simpa [dataB] using hd
          have HE : Hid (isEvent l = false ∧ isData l = false) := by
            refine ⟨?_, ?_⟩
            · rw [HHN.out]; simpa using he
            · rw [HHD.out]; simpa using hd
          clear he hd HHN HHD
          go_wp2
          go_end0
          exact ⟨rfl, dv, by rw [HNT.out, HE.out.1]; exact HXS.out, by rw [HND.out, HE.out.2]; exact HXo.out, HXk.out, by simp [HE.out.2], .inl rfl⟩

end Go.Proofs.Qxb6000122a
