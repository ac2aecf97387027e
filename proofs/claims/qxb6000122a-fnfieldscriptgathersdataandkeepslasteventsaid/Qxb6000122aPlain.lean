/-
  THE PLAIN PART: a line of bytes, its name and its value; no Go in sight but the shelf's 'Lib.indexByte'.
-/
import Derived.Lib.Bytealg
namespace Go.Proofs.Qxb6000122a.Plain

/-- The byte at place i, as the walk's integer. -/
def byteAt (l : List UInt8) (i : Nat) : Int := ((l.getD i 0).toNat : Int)

theorem byteAt_range (l : List UInt8) (i : Nat) : 0 ≤ byteAt l i ∧ byteAt l i ≤ 255 := by
  unfold byteAt; have := (l.getD i 0).toNat_lt; omega

theorem byteAt_eq (l : List UInt8) (i : Nat) (c : UInt8) : byteAt l i = (c.toNat : Int) ↔ l.getD i 0 = c := by
  unfold byteAt
  constructor
  · intro h; exact UInt8.toNat_inj.1 (by omega)
  · intro h; rw [h]

theorem byteAt_take {l : List UInt8} {i k : Nat} (h : i < k) : byteAt (l.take k) i = byteAt l i := by
  unfold byteAt
  rw [List.getD_eq_getElem?_getD, List.getD_eq_getElem?_getD, List.getElem?_take, if_pos h]

theorem byteAt_drop (l : List UInt8) (i k : Nat) : byteAt (l.drop k) i = byteAt l (k + i) := by
  unfold byteAt
  rw [List.getD_eq_getElem?_getD, List.getD_eq_getElem?_getD, List.getElem?_drop]

theorem byteAt_append_left {l m : List UInt8} {i : Nat} (h : i < l.length) : byteAt (l ++ m) i = byteAt l i := by
  unfold byteAt
  rw [List.getD_eq_getElem?_getD, List.getD_eq_getElem?_getD, List.getElem?_append_left h]

theorem ext {l m : List UInt8} (hl : l.length = m.length) (h : ∀ i, i < l.length → byteAt l i = byteAt m i) : l = m := by
  apply List.ext_getElem hl
  intro i h1 h2
  have := h i h1
  unfold byteAt at this
  rw [List.getD_eq_getElem?_getD, List.getD_eq_getElem?_getD, List.getElem?_eq_getElem h1, List.getElem?_eq_getElem h2] at this
  exact UInt8.toNat_inj.1 (Int.ofNat.inj (by simpa using this))

/-- What stands ahead of the first colon; the whole line where there is none. -/
def nameOf : List UInt8 → List UInt8
  | [] => []
  | c :: l => if c = 58 then [] else c :: nameOf l

/-- What stands behind the first colon; nothing where there is none. -/
def restOf : List UInt8 → List UInt8
  | [] => []
  | c :: l => if c = 58 then l else restOf l

/-- One leading blank is dropped. -/
def trim1 : List UInt8 → List UInt8
  | [] => []
  | c :: l => if c = 32 then l else c :: l

def valueOf (l : List UInt8) : List UInt8 := trim1 (restOf l)

def eventB : List UInt8 := [101, 118, 101, 110, 116]
def dataB : List UInt8 := [100, 97, 116, 97]
def isEvent (l : List UInt8) : Bool := decide (nameOf l = eventB)
def isData (l : List UInt8) : Bool := decide (nameOf l = dataB)

theorem not_both {l : List UInt8} (h : isEvent l = true) : isData l = false := by
  simp only [isEvent, isData, decide_eq_true_eq, decide_eq_false_iff_not] at *
  rw [h]; decide

theorem none_of {l : List UInt8} : (∀ j, j < l.length → byteAt l j ≠ 58) → nameOf l = l ∧ restOf l = [] := by
  induction l with
  | nil => intro _; exact ⟨rfl, rfl⟩
  | cons c l ih =>
    intro h
    have hc : c ≠ 58 := by
      intro e; apply h 0 (by simp); subst e; rfl
    have ih' := ih (fun j hj => by have := h (j + 1) (by simpa using hj); simpa [byteAt] using this)
    exact ⟨by rw [nameOf, if_neg hc, ih'.1], by rw [restOf, if_neg hc, ih'.2]⟩

theorem some_of {k : Nat} : ∀ {l : List UInt8}, k < l.length → byteAt l k = 58 → (∀ j, j < k → byteAt l j ≠ 58) → nameOf l = l.take k ∧ restOf l = l.drop (k + 1) := by
  induction k with
  | zero =>
    intro l hk h _
    cases l with
    | nil => simp at hk
    | cons c l =>
      have hc : c = 58 := by simpa [byteAt] using (byteAt_eq (c :: l) 0 58).1 h
      exact ⟨by rw [nameOf, if_pos hc]; rfl, by rw [restOf, if_pos hc]; rfl⟩
  | succ k ih =>
    intro l hk h hn
    cases l with
    | nil => simp at hk
    | cons c l =>
      have hc : c ≠ 58 := by
        intro e; apply hn 0 (by omega); subst e; rfl
      have ih' := @ih l (by simpa using hk) (by simpa [byteAt] using h) (fun j hj => by have := hn (j + 1) (by omega); simpa [byteAt] using this)
      exact ⟨by rw [nameOf, if_neg hc, ih'.1]; rfl, by rw [restOf, if_neg hc, ih'.2]; rfl⟩

/-- The first place of a byte, in the words of places. -/
theorem indexByte_cases (l : List UInt8) (c : UInt8) : (Lib.indexByte l c = -1 ∧ ∀ j, j < l.length → byteAt l j ≠ (c.toNat : Int)) ∨
    (∃ k : Nat, k < l.length ∧ Lib.indexByte l c = (k : Int) ∧ byteAt l k = (c.toNat : Int) ∧ ∀ j, j < k → byteAt l j ≠ (c.toNat : Int)) := by
  induction l with
  | nil => exact .inl ⟨rfl, fun j hj => by simp at hj⟩
  | cons b l ih =>
    by_cases hb : b = c
    · subst hb
      exact .inr ⟨0, by simp, by simp [Lib.indexByte], rfl, fun j hj => absurd hj (by omega)⟩
    · have hb' : (b == c) = false := by simpa using hb
      rcases ih with ⟨h1, h2⟩ | ⟨k, hk, h1, h2, h3⟩
      · refine .inl ⟨by simp [Lib.indexByte, hb', h1], fun j hj => ?_⟩
        cases j with
        | zero => intro e; exact hb (by simpa using (byteAt_eq (b :: l) 0 c).1 e)
        | succ j => have := h2 j (by simpa using hj); simpa [byteAt] using this
      · refine .inr ⟨k + 1, by simpa using hk, ?_, by simpa [byteAt] using h2, fun j hj => ?_⟩
        · simp [Lib.indexByte, hb', h1]
        · cases j with
          | zero => intro e; exact hb (by simpa using (byteAt_eq (b :: l) 0 c).1 e)
          | succ j => have := h3 j (by omega); simpa [byteAt] using this

theorem trim1_yes {l : List UInt8} (h0 : 0 < l.length) (h : byteAt l 0 = 32) : trim1 l = l.drop 1 := by
  cases l with
  | nil => simp at h0
  | cons c l =>
    have hc : c = 32 := by simpa using (byteAt_eq (c :: l) 0 32).1 h
    rw [trim1, if_pos hc]; rfl

theorem trim1_no {l : List UInt8} (h : l.length = 0 ∨ byteAt l 0 ≠ 32) : trim1 l = l := by
  cases l with
  | nil => rfl
  | cons c l =>
    rcases h with h | h
    · simp at h
    · have hc : c ≠ 32 := by intro e; apply h; subst e; rfl
      rw [trim1, if_neg hc]

/-- What a line makes of the event's type and of its data. -/
def newType (E : ByteArray) (l : List UInt8) : ByteArray := if isEvent l then ⟨(valueOf l).toArray⟩ else E
def newData (D l : List UInt8) : List UInt8 := if isData l then D ++ valueOf l ++ [10] else D

theorem restOf_le (l : List UInt8) : (restOf l).length ≤ l.length := by
  induction l with
  | nil => exact Nat.le_refl _
  | cons c l ih => unfold restOf; split <;> simp <;> omega

theorem trim1_le (l : List UInt8) : (trim1 l).length ≤ l.length := by
  cases l with
  | nil => exact Nat.le_refl _
  | cons c l =>
    rw [trim1]
    by_cases h : c = 32
    · rw [if_pos h]; simp
    · rw [if_neg h]; exact Nat.le_refl _

theorem valueOf_le (l : List UInt8) : (valueOf l).length ≤ l.length := Nat.le_trans (trim1_le _) (restOf_le _)

end Go.Proofs.Qxb6000122a.Plain
