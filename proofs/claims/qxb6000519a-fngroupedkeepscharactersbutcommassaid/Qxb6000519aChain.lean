/-
  THE PLAIN LAW OF THE CHARACTERS: texts that are runes' encodings in a row; what 'grouped' does to them but for commas.
-/
import Derived.Test.Qxb6000519aPlain
import Derived.Lib.DecodeN
namespace Go.Proofs.Qxb6000519a.Plain

/-- A Unicode scalar value. -/
def Scalar (r : Nat) : Prop := r < 55296 ∨ (57343 < r ∧ r ≤ 1114111)

def enc (r : Nat) : List UInt8 := Lib.encodeRune (r : Int)

/-- The text is scalar values' UTF-8 forms in a row. -/
def Chain (l : List UInt8) : Prop := ∃ rs : List Nat, (∀ r ∈ rs, Scalar r) ∧ l = rs.flatMap enc

theorem enc_one {r : Nat} (h : r < 128) : enc r = [r.toUInt8] := by
  unfold enc Lib.encodeRune
  rw [Lib.encodeRuneZ_one (by omega) (by omega)]
  simp

theorem enc_two {r : Nat} (h0 : 128 ≤ r) (h1 : r < 2048) : enc r = [(192 + r / 64).toUInt8, (128 + r % 64).toUInt8] := by
  unfold enc Lib.encodeRune
  rw [Lib.encodeRuneZ_two (by omega) (by omega)]
  simp only [List.map_cons, List.map_nil]
  rw [show ((192 : Int) + (r : Int) / 64).toNat = 192 + r / 64 by omega, show ((128 : Int) + (r : Int) % 64).toNat = 128 + r % 64 by omega]

theorem enc_three {r : Nat} (h : (2048 ≤ r ∧ r < 55296) ∨ (57343 < r ∧ r ≤ 65535)) : enc r = [(224 + r / 4096).toUInt8, (128 + r / 64 % 64).toUInt8, (128 + r % 64).toUInt8] := by
  unfold enc Lib.encodeRune
  rw [Lib.encodeRuneZ_three (by omega)]
  simp only [List.map_cons, List.map_nil]
  rw [show ((224 : Int) + (r : Int) / 4096).toNat = 224 + r / 4096 by omega, show ((128 : Int) + (r : Int) / 64 % 64).toNat = 128 + r / 64 % 64 by omega, show ((128 : Int) + (r : Int) % 64).toNat = 128 + r % 64 by omega]

theorem enc_four {r : Nat} (h0 : 65536 ≤ r) (h1 : r ≤ 1114111) : enc r = [(240 + r / 262144).toUInt8, (128 + r / 4096 % 64).toUInt8, (128 + r / 64 % 64).toUInt8, (128 + r % 64).toUInt8] := by
  unfold enc Lib.encodeRune
  rw [Lib.encodeRuneZ_four (by omega) (by omega)]
  simp only [List.map_cons, List.map_nil]
  rw [show ((240 : Int) + (r : Int) / 262144).toNat = 240 + r / 262144 by omega, show ((128 : Int) + (r : Int) / 4096 % 64).toNat = 128 + r / 4096 % 64 by omega, show ((128 : Int) + (r : Int) / 64 % 64).toNat = 128 + r / 64 % 64 by omega, show ((128 : Int) + (r : Int) % 64).toNat = 128 + r % 64 by omega]

theorem toU8 {n : Nat} (h : n < 256) : n.toUInt8.toNat = n := by simp; omega

/-- Every byte of a longer form is beyond ASCII. -/
theorem enc_high {r : Nat} (h : 128 ≤ r) (hs : Scalar r) : ∀ c ∈ enc r, 128 ≤ c.toNat := by
  intro c hc
  unfold Scalar at hs
  by_cases h1 : r < 2048
  · rw [enc_two h h1] at hc
    simp only [List.mem_cons, List.not_mem_nil, or_false] at hc
    rcases hc with rfl | rfl <;> rw [toU8 (by omega)] <;> omega
  · by_cases h2 : r ≤ 65535
    · rw [enc_three (by omega)] at hc
      simp only [List.mem_cons, List.not_mem_nil, or_false] at hc
      rcases hc with rfl | rfl | rfl <;> rw [toU8 (by omega)] <;> omega
    · rw [enc_four (by omega) (by omega)] at hc
      simp only [List.mem_cons, List.not_mem_nil, or_false] at hc
      rcases hc with rfl | rfl | rfl | rfl <;> rw [toU8 (by omega)] <;> omega

theorem enc_ne (r : Nat) : 0 < (enc r).length := by
  have h := Lib.runeCells_le (r : Int)
  rw [Lib.runeCells_length] at h
  exact h.1

theorem get_pre (pre e post : List UInt8) (k : Nat) (hk : k < e.length) : ((ByteArray.mk (pre ++ e ++ post).toArray).get! (pre.length + k)) = e[k] := by
  have hs : pre.length + k < (ByteArray.mk (pre ++ e ++ post).toArray).size := by simp [ByteArray.size]; omega
  show (pre ++ e ++ post).toArray[pre.length + k]! = e[k]
  rw [getElem!_pos (pre ++ e ++ post).toArray (pre.length + k) (by simpa [ByteArray.size] using hs)]
  simp only [List.getElem_toArray]
  rw [List.getElem_append_left (by simp; omega), List.getElem_append_right (by omega)]
  simp

theorem decode_enc (pre post : List UInt8) (r : Nat) (hs : Scalar r) : Utf8.decode ⟨(pre ++ enc r ++ post).toArray⟩ pre.length = (r, (enc r).length) := by
  rw [Lib.decode_at]
  have hn : (ByteArray.mk (pre ++ enc r ++ post).toArray).size - pre.length = (enc r).length + post.length := by simp [ByteArray.size]
  rw [hn]
  have g0 := get_pre pre (enc r) post 0 (enc_ne r)
  rw [Nat.add_zero] at g0
  rw [g0]
  unfold Scalar at hs
  by_cases h0 : r < 128
  · simp only [enc_one h0, List.getElem_cons_zero, List.length_singleton]
    rw [toU8 (by omega)]
    unfold Lib.decodeN
    rw [if_pos h0]
  · by_cases h1 : r < 2048
    · have e := enc_two (by omega) h1
      have g1 := get_pre pre (enc r) post 1 (by rw [e]; simp)
      rw [g1]
      simp only [e, List.getElem_cons_zero, List.getElem_cons_succ, List.length_cons, List.length_nil]
      rw [toU8 (by omega), toU8 (by omega)]
      unfold Lib.decodeN
      rw [if_neg (by omega), if_pos (by omega), if_pos (by omega)]
      congr 1
      omega
    · by_cases h2 : r ≤ 65535
      · have e := enc_three (r := r) (by omega)
        have g1 := get_pre pre (enc r) post 1 (by rw [e]; simp)
        have g2 := get_pre pre (enc r) post 2 (by rw [e]; simp)
        rw [g1, g2]
        simp only [e, List.getElem_cons_zero, List.getElem_cons_succ, List.length_cons, List.length_nil]
        rw [toU8 (by omega), toU8 (by omega), toU8 (by omega)]
        unfold Lib.decodeN
        rw [if_neg (by omega), if_neg (by omega), if_pos (by omega), if_pos (by omega)]
        congr 1
        omega
      · have e := enc_four (r := r) (by omega) (by omega)
        have g1 := get_pre pre (enc r) post 1 (by rw [e]; simp)
        have g2 := get_pre pre (enc r) post 2 (by rw [e]; simp)
        have g3 := get_pre pre (enc r) post 3 (by rw [e]; simp)
        rw [g1, g2, g3]
        simp only [e, List.getElem_cons_zero, List.getElem_cons_succ, List.length_cons, List.length_nil]
        rw [toU8 (by omega), toU8 (by omega), toU8 (by omega), toU8 (by omega)]
        unfold Lib.decodeN
        rw [if_neg (by omega), if_neg (by omega), if_neg (by omega), if_pos (by omega), if_pos (by omega)]
        congr 1
        omega

/-- All but the commas. -/
def strip (l : List UInt8) : List UInt8 := l.filter fun c => c != 44

theorem strip_append (a b : List UInt8) : strip (a ++ b) = strip a ++ strip b := List.filter_append ..

theorem group_strip : ∀ (rs : List Nat) (pre : List UInt8) (fuel : Nat), (∀ r ∈ rs, Scalar r) → (rs.flatMap enc).length ≤ fuel → strip (groupFrom ⟨(pre ++ rs.flatMap enc).toArray⟩ fuel pre.length) = strip (rs.flatMap enc) := by
  intro rs
  induction rs with
  | nil =>
    intro pre fuel _ _
    rw [groupFrom_end _ _ _ (by simp [ByteArray.size])]
    rfl
  | cons r rs ih =>
    intro pre fuel hs hf
    have hr := hs r (List.mem_cons_self ..)
    have hne := enc_ne r
    rw [List.flatMap_cons, List.length_append] at hf
    obtain ⟨f, rfl⟩ : ∃ f, fuel = f + 1 := ⟨fuel - 1, by omega⟩
    rw [List.flatMap_cons, groupFrom_step _ _ _ (by simp [ByteArray.size]; omega)]
    have hd := decode_enc pre (rs.flatMap enc) r hr
    rw [List.append_assoc] at hd
    rw [hd]
    have h := ih (pre ++ enc r) f (fun x hx => hs x (List.mem_cons_of_mem _ hx)) (by omega)
    rw [List.length_append, List.append_assoc] at h
    rw [strip_append, strip_append, h, strip_append]
    have e44 : strip (if commaDue (ByteArray.mk (pre ++ (enc r ++ rs.flatMap enc)).toArray).size pre.length = true then [44] else []) = [] := by
      split <;> rfl
    rw [e44]
    rfl

theorem group_chain {l : List UInt8} (h : Chain l) : strip (group l) = strip l := by
  obtain ⟨rs, hs, rfl⟩ := h
  have := group_strip rs [] (rs.flatMap enc).length hs (Nat.le_refl _)
  exact this

theorem enc_head {r : Nat} (hs : Scalar r) {c : UInt8} {t : List UInt8} (h : enc r = c :: t) (hc : c.toNat < 128) : t = [] := by
  by_cases h0 : r < 128
  · rw [enc_one h0] at h
    exact (List.cons.inj h).2.symm
  · have := enc_high (by omega) hs c (by rw [h]; exact List.mem_cons_self ..)
    omega

theorem Chain.body {l : List UInt8} (h : Chain l) : Chain (bodyOf l) := by
  cases l with
  | nil => exact h
  | cons c l =>
    by_cases hc : c = 45
    · rw [show bodyOf (c :: l) = l by simp [bodyOf, hc]]
      obtain ⟨rs, hs, he⟩ := h
      cases rs with
      | nil => cases he
      | cons r rs =>
        rw [List.flatMap_cons] at he
        cases hen : enc r with
        | nil => have := enc_ne r; rw [hen] at this; simp at this
        | cons d t =>
          rw [hen, List.cons_append] at he
          have hj := List.cons.inj he
          have hl := hj.2
          have ht := enc_head (hs r (List.mem_cons_self ..)) hen (by rw [← hj.1, hc]; decide)
          rw [ht, List.nil_append] at hl
          exact ⟨rs, fun x hx => hs x (List.mem_cons_of_mem _ hx), hl⟩
    · rw [show bodyOf (c :: l) = c :: l by simp [bodyOf, hc]]; exact h

theorem nameOf_block {a b : List UInt8} (h : ∀ c ∈ a, c ≠ 46) : nameOf (a ++ b) = a ++ nameOf b := by
  induction a with
  | nil => rfl
  | cons c a ih => rw [List.cons_append, nameOf, if_neg (h c (List.mem_cons_self ..)), ih fun c hc => h c (List.mem_cons_of_mem _ hc)]; rfl

theorem Chain.name {l : List UInt8} (h : Chain l) : Chain (nameOf l) := by
  obtain ⟨rs, hs, rfl⟩ := h
  induction rs with
  | nil => exact ⟨[], by simp, rfl⟩
  | cons r rs ih =>
    have hr := hs r (List.mem_cons_self ..)
    rw [List.flatMap_cons]
    by_cases h46 : r = 46
    · subst h46
      rw [enc_one (by decide)]
      exact ⟨[], by simp, rfl⟩
    · have hno : ∀ c ∈ enc r, c ≠ 46 := by
        intro c hc e
        subst e
        by_cases h0 : r < 128
        · rw [enc_one h0] at hc
          simp only [List.mem_singleton] at hc
          have h := congrArg UInt8.toNat hc
          rw [toU8 (by omega)] at h
          exact h46 h.symm
        · have := enc_high (by omega) hr _ hc
          revert this; decide
      rw [nameOf_block hno]
      obtain ⟨rs', hs', he⟩ := ih fun x hx => hs x (List.mem_cons_of_mem _ hx)
      exact ⟨r :: rs', fun x hx => by rcases List.mem_cons.1 hx with rfl | hx; exact hr; exact hs' x hx, by rw [List.flatMap_cons, he]⟩

/-- THE LAW: of a text that is valid UTF-8 grouping keeps all but the commas. -/
theorem grouped_strip {S : List UInt8} (h : Chain S) : strip (grouped S) = strip S := by
  unfold grouped
  by_cases h3 : (nameOf (bodyOf S)).length ≤ 3
  · rw [if_pos h3]
  · rw [if_neg h3, strip_append, strip_append, group_chain h.body.name, ← strip_append, ← strip_append, List.append_assoc, name_tail, sign_body]

end Go.Proofs.Qxb6000519a.Plain
