/-
  THE PLAIN PART: what Grouped writes, as a function of lists of bytes; no Go in sight but the model's own decoder of UTF-8 and the shelf's plain words.
-/
import Derived.Lib.Bytealg
import Derived.Lib.RuneBytes
import Derived.Laws.RangeAny
namespace Go.Proofs.Qxb6000519a.Plain

/-- The byte at place i, as the walk's integer. -/
def byteAt (l : List UInt8) (i : Nat) : Int := ((l.getD i 0).toNat : Int)

theorem byteAt_range (l : List UInt8) (i : Nat) : 0 ≤ byteAt l i ∧ byteAt l i ≤ 255 := by
  unfold byteAt; have := (l.getD i 0).toNat_lt; omega

theorem byteAt_eq (l : List UInt8) (i : Nat) (c : UInt8) : byteAt l i = (c.toNat : Int) ↔ l.getD i 0 = c := by
  unfold byteAt
  constructor
  · intro h; exact UInt8.toNat_inj.1 (by omega)
  · intro h; rw [h]

theorem byteAt_str {s : ByteArray} {k : Nat} (hk : k < s.size) : byteAt s.data.toList k = (s[k].toNat : Int) := by
  unfold byteAt
  rw [List.getD_eq_getElem?_getD, List.getElem?_eq_getElem (by simpa using hk)]
  rfl

/-- What stands ahead of the first point; all where there is none. -/
def nameOf : List UInt8 → List UInt8
  | [] => []
  | c :: l => if c = 46 then [] else c :: nameOf l

/-- What stands behind the first point; nothing where there is none. -/
def restOf : List UInt8 → List UInt8
  | [] => []
  | c :: l => if c = 46 then l else restOf l

def hasDot : List UInt8 → Bool
  | [] => false
  | c :: l => if c = 46 then true else hasDot l

/-- From the first point on. -/
def tailOf (l : List UInt8) : List UInt8 := if hasDot l then 46 :: restOf l else []

theorem name_tail (l : List UInt8) : nameOf l ++ tailOf l = l := by
  unfold tailOf
  induction l with
  | nil => rfl
  | cons c l ih =>
    unfold nameOf restOf hasDot
    by_cases h : c = 46
    · subst h; simp
    · simp only [if_neg h, List.cons_append]
      rw [ih]

theorem nameOf_no (l : List UInt8) : ∀ c ∈ nameOf l, c ≠ 46 := by
  induction l with
  | nil => intro c h; cases h
  | cons d l ih =>
    intro c hc
    unfold nameOf at hc
    by_cases h : d = 46
    · rw [if_pos h] at hc; cases hc
    · rw [if_neg h] at hc
      rcases List.mem_cons.1 hc with rfl | hc
      · exact h
      · exact ih c hc

theorem none_of {l : List UInt8} : (∀ j, j < l.length → byteAt l j ≠ 46) → nameOf l = l ∧ restOf l = [] ∧ hasDot l = false := by
  induction l with
  | nil => intro _; exact ⟨rfl, rfl, rfl⟩
  | cons c l ih =>
    intro h
    have hc : c ≠ 46 := by
      intro e; apply h 0 (by simp); subst e; rfl
    have ih' := ih (fun j hj => by have := h (j + 1) (by simpa using hj); simpa [byteAt] using this)
    exact ⟨by rw [nameOf, if_neg hc, ih'.1], by rw [restOf, if_neg hc, ih'.2.1], by rw [hasDot, if_neg hc, ih'.2.2]⟩

theorem some_of {k : Nat} : ∀ {l : List UInt8}, k < l.length → byteAt l k = 46 → (∀ j, j < k → byteAt l j ≠ 46) → nameOf l = l.take k ∧ restOf l = l.drop (k + 1) ∧ hasDot l = true := by
  induction k with
  | zero =>
    intro l hk h _
    cases l with
    | nil => simp at hk
    | cons c l =>
      have hc : c = 46 := by simpa [byteAt] using (byteAt_eq (c :: l) 0 46).1 h
      exact ⟨by rw [nameOf, if_pos hc]; rfl, by rw [restOf, if_pos hc]; rfl, by rw [hasDot, if_pos hc]⟩
  | succ k ih =>
    intro l hk h hn
    cases l with
    | nil => simp at hk
    | cons c l =>
      have hc : c ≠ 46 := by
        intro e; apply hn 0 (by omega); subst e; rfl
      have ih' := @ih l (by simpa using hk) (by simpa [byteAt] using h) (fun j hj => by have := hn (j + 1) (by omega); simpa [byteAt] using this)
      exact ⟨by rw [nameOf, if_neg hc, ih'.1]; rfl, by rw [restOf, if_neg hc, ih'.2.1]; rfl, by rw [hasDot, if_neg hc, ih'.2.2]⟩

/-- The first place of a byte, in the words of places. -/
theorem indexByte_cases (l : List UInt8) (c : UInt8) : (Lib.indexByte l c = -1 ∧ ∀ j, j < l.length → byteAt l j ≠ (c.toNat : Int)) ∨
    (∃ k : Nat, k < l.length ∧ Lib.indexByte l c = (k : Int) ∧ byteAt l k = (c.toNat : Int) ∧ ∀ j, j < k → byteAt l j ≠ (c.toNat : Int)) := by
  induction l with
  | nil => exact .inl ⟨rfl, fun j hj => by simp at hj⟩
  | cons b l ih =>
    by_cases hb : b = c
    · subst hb
      exact .inr ⟨0, by simp, by simp [Lib.indexByte], rfl, fun j hj => absurd hj (by omega)⟩
    · have hb' : (b == c) = false := by simpa using hb
      rcases ih with ⟨h1, h2⟩ | ⟨k, hk, h1, h2, h3⟩
      · refine .inl ⟨by simp [Lib.indexByte, hb', h1], fun j hj => ?_⟩
        cases j with
        | zero => intro e; exact hb (by simpa using (byteAt_eq (b :: l) 0 c).1 e)
        | succ j => have := h2 j (by simpa using hj); simpa [byteAt] using this
      · refine .inr ⟨k + 1, by simpa using hk, ?_, by simpa [byteAt] using h2, fun j hj => ?_⟩
        · simp [Lib.indexByte, hb', h1]
        · cases j with
          | zero => intro e; exact hb (by simpa using (byteAt_eq (b :: l) 0 c).1 e)
          | succ j => have := h3 j (by omega); simpa [byteAt] using this

/-- Is a comma commaDue ahead of the rune at pos, in a whole part of n bytes? -/
def commaDue (n pos : Nat) : Bool := decide (0 < pos ∧ (n - pos) % 3 = 0)

/-- The whole part with its commas, from place pos on, by at most so many runes. -/
def groupFrom (s : ByteArray) : Nat → Nat → List UInt8
  | 0, _ => []
  | fuel + 1, pos => if pos < s.size then (if commaDue s.size pos then [44] else []) ++ Lib.encodeRune (Utf8.decode s pos).1 ++ groupFrom s fuel (pos + (Utf8.decode s pos).2) else []

def group (l : List UInt8) : List UInt8 := groupFrom ⟨l.toArray⟩ l.length 0

def signOf : List UInt8 → List UInt8
  | [] => []
  | c :: _ => if c = 45 then [45] else []
def bodyOf : List UInt8 → List UInt8
  | [] => []
  | c :: l => if c = 45 then l else c :: l

theorem sign_body (l : List UInt8) : signOf l ++ bodyOf l = l := by
  cases l with
  | nil => rfl
  | cons c l =>
    unfold signOf bodyOf
    by_cases h : c = 45
    · subst h; simp
    · simp [h]

/-- What Grouped writes. -/
def grouped (S : List UInt8) : List UInt8 :=
  if (nameOf (bodyOf S)).length ≤ 3 then S else signOf S ++ group (nameOf (bodyOf S)) ++ tailOf (bodyOf S)

theorem width_pos (s : ByteArray) (pos : Nat) (h : pos < s.size) : 1 ≤ (Utf8.decode s pos).2 := by
  by_cases ha : (s[pos]'h).toNat < 128
  · rw [decode_ascii s pos h ha]
    exact Nat.le_refl _
  · exact (decode_high s pos h (by omega)).2

theorem groupFrom_end (s : ByteArray) (fuel pos : Nat) (h : ¬ pos < s.size) : groupFrom s fuel pos = [] := by
  cases fuel with
  | zero => rfl
  | succ f => simp [groupFrom, h]

theorem groupFrom_step (s : ByteArray) (fuel pos : Nat) (h : pos < s.size) : groupFrom s (fuel + 1) pos = (if commaDue s.size pos then [44] else []) ++ Lib.encodeRune (Utf8.decode s pos).1 ++ groupFrom s fuel (pos + (Utf8.decode s pos).2) := by
  simp [groupFrom, h]

theorem groupFrom_len (s : ByteArray) : ∀ fuel pos, (groupFrom s fuel pos).length ≤ 5 * fuel
  | 0, pos => by simp [groupFrom]
  | fuel + 1, pos => by
    by_cases h : pos < s.size
    · rw [groupFrom_step s fuel pos h]
      have h1 := groupFrom_len s fuel (pos + (Utf8.decode s pos).2)
      have h2 := Lib.runeCells_le ((Utf8.decode s pos).1 : Int)
      rw [Lib.runeCells_length] at h2
      have h3 : (if commaDue s.size pos = true then [(44 : UInt8)] else []).length ≤ 1 := by split <;> simp
      simp only [List.length_append]
      omega
    · rw [groupFrom_end s _ pos h]; simp

theorem group_len (l : List UInt8) : (group l).length ≤ 5 * l.length := groupFrom_len _ _ _

end Go.Proofs.Qxb6000519a.Plain
