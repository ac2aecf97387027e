/-
  THE PLAIN LAW OF THE DIGITS: grouping keeps the row of digit bytes, and 'fits' hangs on that row alone.
-/
import Derived.Test.Qxb6000519aForm
import Derived.Test.Qxb6000519aDigits
import Derived.Lib.MapLaws
import Derived.Lib.QuoteLoop
namespace Go.Proofs.Qxb6000519a.Plain

/-- The digit bytes. -/
def dg (l : List UInt8) : List UInt8 := l.filter isDig

theorem dg_append (a b : List UInt8) : dg (a ++ b) = dg a ++ dg b := List.filter_append ..

theorem dg_high {l : List UInt8} (h : ∀ c ∈ l, 128 ≤ c.toNat) : dg l = [] := by
  unfold dg
  rw [List.filter_eq_nil_iff]
  intro c hc
  have := h c hc
  unfold isDig
  simp
  omega

/-- One rune read: a byte of ASCII, or bytes beyond it. -/
theorem decode_kind (s : ByteArray) (pos : Nat) (h : pos < s.size) :
    Scalar (Utf8.decode s pos).1 ∧ pos + (Utf8.decode s pos).2 ≤ s.size ∧ 1 ≤ (Utf8.decode s pos).2 ∧
    (((Utf8.decode s pos).1 < 128 ∧ (Utf8.decode s pos).2 = 1 ∧ nb s.data.toList pos = (Utf8.decode s pos).1) ∨ (128 ≤ (Utf8.decode s pos).1 ∧ ∀ i, i < (Utf8.decode s pos).2 → 128 ≤ nb s.data.toList (pos + i))) := by
  have hl : s.data.toList.length = s.size := (Lib.size_eq s).symm
  refine ⟨?_, ?_, width_pos s pos h, ?_⟩
  · rw [Lib.decode_N]
    exact Lib.decodeN_valid _ _ _ _ _ (UInt8.toNat_lt _)
  · rw [Lib.decode_N]
    have := Lib.decodeN_width_le (s.data.toList.length - pos) (s.data.toList.getD pos 0).toNat (s.data.toList.getD (pos + 1) 0).toNat (s.data.toList.getD (pos + 2) 0).toNat (s.data.toList.getD (pos + 3) 0).toNat (by omega)
    omega
  · rw [Lib.decode_N]
    show _ ∨ _
    rcases Lib.decodeN_shape (s.data.toList.length - pos) (nb s.data.toList pos) (nb s.data.toList (pos + 1)) (nb s.data.toList (pos + 2)) (nb s.data.toList (pos + 3)) with ⟨c, e⟩ | ⟨c0, _, c1, cv, e⟩ | ⟨c0, _, c1, c2, cv, _, e⟩ | ⟨c0, _, c1, c2, c3, cv, _, e⟩ | e
    · left
      unfold nb at e c
      rw [e]
      exact ⟨c, rfl, rfl⟩
    · right
      have e' := e
      unfold nb at e'
      rw [e']
      refine ⟨cv, fun i hi => ?_⟩
      match i, hi with
      | 0, _ => rw [Nat.add_zero]; omega
      | 1, _ => omega
    · right
      have e' := e
      unfold nb at e'
      rw [e']
      refine ⟨Nat.le_trans (by decide) cv, fun i hi => ?_⟩
      match i, hi with
      | 0, _ => rw [Nat.add_zero]; omega
      | 1, _ => omega
      | 2, _ => omega
    · right
      have e' := e
      unfold nb at e'
      rw [e']
      refine ⟨Nat.le_trans (by decide) cv, fun i hi => ?_⟩
      match i, hi with
      | 0, _ => rw [Nat.add_zero]; omega
      | 1, _ => omega
      | 2, _ => omega
      | 3, _ => omega
    · by_cases ha : nb s.data.toList pos < 128
      · left
        have e' := Lib.decodeN_ascii (s.data.toList.length - pos) (nb s.data.toList pos) (nb s.data.toList (pos + 1)) (nb s.data.toList (pos + 2)) (nb s.data.toList (pos + 3)) ha
        unfold nb at e'
        rw [e']
        exact ⟨ha, rfl, rfl⟩
      · right
        have e' := e
        unfold nb at e'
        rw [e']
        refine ⟨by decide, fun i hi => ?_⟩
        match i, hi with
        | 0, _ => rw [Nat.add_zero]; omega

theorem dg_piece {l : List UInt8} {pos wd : Nat} (h : ∀ i, i < wd → 128 ≤ nb l (pos + i)) : dg ((l.drop pos).take wd) = [] := by
  apply dg_high
  intro c hc
  obtain ⟨i, hi, rfl⟩ := List.getElem_of_mem hc
  rw [List.length_take, List.length_drop] at hi
  have := h i (by omega)
  rw [nb_at l (pos + i) (by omega)] at this
  rw [List.getElem_take, List.getElem_drop]
  exact this

theorem dg_one {l : List UInt8} {pos : Nat} (h : pos < l.length) : (l.drop pos).take 1 = [(nb l pos).toUInt8] := by
  rw [List.drop_eq_getElem_cons h, nb_at l pos h, List.take_succ_cons, List.take_zero]
  simp

/-- What is written for a rune bears the digits of what was read. -/
theorem dg_rune (s : ByteArray) (pos : Nat) (h : pos < s.size) : dg (Lib.encodeRune (Utf8.decode s pos).1) = dg ((s.data.toList.drop pos).take (Utf8.decode s pos).2) := by
  obtain ⟨hs, _, _, hk⟩ := decode_kind s pos h
  show dg (enc (Utf8.decode s pos).1) = _
  rcases hk with ⟨h0, h1, h2⟩ | ⟨h0, h1⟩
  · rw [enc_one h0, h1, dg_one (by rw [← Lib.size_eq]; exact h), h2]
  · rw [dg_high (enc_high h0 hs), dg_piece h1]

theorem groupFrom_dg (s : ByteArray) : ∀ fuel pos, s.size ≤ pos + fuel → dg (groupFrom s fuel pos) = dg (s.data.toList.drop pos)
  | 0, pos, h => by
    rw [List.drop_eq_nil_of_le (by rw [← Lib.size_eq]; exact h)]
    rfl
  | fuel + 1, pos, h => by
    by_cases hp : pos < s.size
    · rw [groupFrom_step s fuel pos hp, dg_append, dg_append, groupFrom_dg s fuel _ (by have := width_pos s pos hp; omega), dg_rune s pos hp]
      have e44 : dg (if commaDue s.size pos = true then [44] else []) = [] := by split <;> rfl
      rw [e44, List.nil_append, ← dg_append]
      congr 1
      rw [← List.drop_drop, List.take_append_drop]
    · rw [groupFrom_end _ _ _ (by omega), List.drop_eq_nil_of_le (by rw [← Lib.size_eq]; omega)]

theorem grouped_dg (S : List UInt8) : dg (grouped S) = dg S := by
  unfold grouped
  by_cases h3 : (nameOf (bodyOf S)).length ≤ 3
  · rw [if_pos h3]
  · have hg : dg (group (nameOf (bodyOf S))) = dg (nameOf (bodyOf S)) := by
      unfold group
      rw [groupFrom_dg _ _ _ (by simp [ByteArray.size])]
      simp
    rw [if_neg h3, dg_append, dg_append, hg, ← dg_append, ← dg_append, List.append_assoc, name_tail, sign_body]

/-- 'fits' counting, at one digit. -/
def fstep (x : Nat × Bool) (c : UInt8) : Nat × Bool := if x.2 || c != 48 then (x.1 + 1, true) else x

def fcount (l : List UInt8) : Nat × Bool := (dg l).foldl fstep (0, false)

theorem fcount_le (l : List UInt8) : (fcount l).1 ≤ l.length := by
  have h : ∀ (m : List UInt8) (x : Nat × Bool), (m.foldl fstep x).1 ≤ x.1 + m.length := by
    intro m
    induction m with
    | nil => intro x; exact Nat.le_refl _
    | cons c m ih =>
      intro x
      rw [List.foldl_cons]
      have h1 := ih (fstep x c)
      have h2 : (fstep x c).1 ≤ x.1 + 1 := by unfold fstep; split <;> simp
      simp only [List.length_cons]
      omega
  have h1 := h (dg l) (0, false)
  have h2 : (dg l).length ≤ l.length := List.length_filter_le ..
  unfold fcount
  simp only [Nat.zero_add] at h1
  omega

theorem fcount_grouped (S : List UInt8) : fcount (grouped S) = fcount S := by
  unfold fcount
  rw [grouped_dg]

/-- One rune read, by its bytes. -/
theorem fcount_high (s : ByteArray) (pos : Nat) (h : pos < s.size) (h0 : ¬ (48 ≤ (Utf8.decode s pos).1 ∧ (Utf8.decode s pos).1 ≤ 57)) : fcount (s.data.toList.take (pos + (Utf8.decode s pos).2)) = fcount (s.data.toList.take pos) := by
  unfold fcount
  congr 1
  rw [List.take_add, dg_append]
  have hd : dg ((s.data.toList.drop pos).take (Utf8.decode s pos).2) = [] := by
    obtain ⟨hs, _, _, hk⟩ := decode_kind s pos h
    rcases hk with ⟨h1, h2, h3⟩ | ⟨_, h1⟩
    · rw [h2, dg_one (by rw [← Lib.size_eq]; exact h), h3]
      have hn : isDig (Utf8.decode s pos).1.toUInt8 = false := by
        unfold isDig
        rw [toU8 (by omega)]
        exact decide_eq_false h0
      simp [dg, hn]
    · exact dg_piece h1
  rw [hd, List.append_nil]

theorem fcount_digit (s : ByteArray) (pos : Nat) (h : pos < s.size) (h0 : 48 ≤ (Utf8.decode s pos).1) (h9 : (Utf8.decode s pos).1 ≤ 57) : fcount (s.data.toList.take (pos + (Utf8.decode s pos).2)) = (if (fcount (s.data.toList.take pos)).2 || decide (49 ≤ (Utf8.decode s pos).1) then ((fcount (s.data.toList.take pos)).1 + 1, true) else fcount (s.data.toList.take pos)) := by
  obtain ⟨hs, _, _, hk⟩ := decode_kind s pos h
  rcases hk with ⟨h1, h2, h3⟩ | ⟨h1, _⟩
  · have hd : dg ((s.data.toList.drop pos).take (Utf8.decode s pos).2) = [(Utf8.decode s pos).1.toUInt8] := by
      rw [h2, dg_one (by rw [← Lib.size_eq]; exact h), h3]
      have hn : isDig (Utf8.decode s pos).1.toUInt8 = true := by
        unfold isDig
        rw [toU8 (by omega)]
        exact decide_eq_true ⟨h0, h9⟩
      simp [dg, hn]
    unfold fcount
    rw [List.take_add, dg_append, hd, List.foldl_append, List.foldl_cons, List.foldl_nil]
    have hb : ((Utf8.decode s pos).1.toUInt8 != 48) = decide (49 ≤ (Utf8.decode s pos).1) := by
      rw [Bool.eq_iff_iff]
      simp only [bne_iff_ne, ne_eq, decide_eq_true_eq, ← UInt8.toNat_inj]
      rw [toU8 (by omega)]
      show ¬ (Utf8.decode s pos).1 = 48 ↔ _
      omega
    unfold fstep
    rw [hb]
  · omega

end Go.Proofs.Qxb6000519a.Plain
