/-
  THE PLAIN LAW OF THE THREE-DIGIT GROUPS: what 'group' makes of ASCII digits; the scan of the law's loop.
-/
import Derived.Test.Qxb6000519aPlain
namespace Go.Proofs.Qxb6000519a.Plain

/-- The digits behind the first, with their commas. -/
def grpTail : List UInt8 → List UInt8
  | [] => []
  | c :: l => (if (l.length + 1) % 3 = 0 then [44] else []) ++ c :: grpTail l

def grpD : List UInt8 → List UInt8
  | [] => []
  | c :: l => c :: grpTail l

def isDig (c : UInt8) : Bool := decide (48 ≤ c.toNat ∧ c.toNat ≤ 57)

theorem encodeRune_ascii {n : Nat} (h : n < 128) : Lib.encodeRune (n : Int) = [n.toUInt8] := by
  unfold Lib.encodeRune
  rw [Lib.encodeRuneZ_one (by omega) (by omega)]
  simp

theorem decode_mk (l : List UInt8) (pos : Nat) (h : pos < l.length) (ha : (l[pos]).toNat < 128) : Utf8.decode ⟨l.toArray⟩ pos = ((l[pos]).toNat, 1) := by
  have hs : pos < (ByteArray.mk l.toArray).size := by simpa [ByteArray.size] using h
  have e : (ByteArray.mk l.toArray)[pos]'hs = l[pos] := by simp [ByteArray.getElem_eq_getElem_data]
  rw [decode_ascii _ pos hs (by rw [e]; exact ha), e]

theorem mk_size (l : List UInt8) : (ByteArray.mk l.toArray).size = l.length := by simp [ByteArray.size]

theorem groupFrom_tail (l : List UInt8) (hd : ∀ c ∈ l, isDig c = true) : ∀ (m fuel pos : Nat), pos + m = l.length → 0 < pos → m ≤ fuel → groupFrom ⟨l.toArray⟩ fuel pos = grpTail (l.drop pos) := by
  intro m
  induction m with
  | zero =>
    intro fuel pos hp _ _
    rw [groupFrom_end _ _ _ (by rw [mk_size]; omega), List.drop_eq_nil_of_le (by omega)]
    rfl
  | succ m ih =>
    intro fuel pos hp h0 hf
    obtain ⟨f, rfl⟩ : ∃ f, fuel = f + 1 := ⟨fuel - 1, by omega⟩
    have hlt : pos < l.length := by omega
    have hdg := of_decide_eq_true (hd l[pos] (List.getElem_mem hlt))
    rw [groupFrom_step _ _ _ (by rw [mk_size]; exact hlt), decode_mk l pos hlt (by omega), encodeRune_ascii (by omega)]
    rw [ih f (pos + 1) (by omega) (by omega) (by omega), List.drop_eq_getElem_cons hlt, grpTail, mk_size]
    have e1 : ((l[pos]).toNat).toUInt8 = l[pos] := by simp
    simp only [e1, List.append_assoc, List.singleton_append]
    congr 1
    have e2 : commaDue l.length pos = decide (((l.drop (pos + 1)).length + 1) % 3 = 0) := by
      unfold commaDue
      rw [List.length_drop]
      rw [Bool.eq_iff_iff]
      simp only [decide_eq_true_eq]
      constructor
      · intro h; omega
      · intro h; exact ⟨h0, by omega⟩
    rw [e2]
    simp

theorem group_digits (l : List UInt8) (hd : ∀ c ∈ l, isDig c = true) : group l = grpD l := by
  cases l with
  | nil => rfl
  | cons c l =>
    unfold group
    have hdg := of_decide_eq_true (hd c (List.mem_cons_self ..))
    rw [List.length_cons, groupFrom_step _ _ _ (by rw [mk_size]; simp), decode_mk (c :: l) 0 (by simp) (by simpa using by omega), encodeRune_ascii (by simpa using by omega)]
    rw [groupFrom_tail (c :: l) hd l.length l.length (0 + 1) (by simp; omega) (by omega) (Nat.le_refl _)]
    simp [commaDue, grpD]

/-- Three digits or fewer: no comma. -/
theorem grpD_short (l : List UInt8) (h : l.length ≤ 3) : grpD l = l := by
  match l, h with
  | [], _ => rfl
  | [a], _ => rfl
  | [a, b], _ => rfl
  | [a, b, c], _ => rfl
  | _ :: _ :: _ :: _ :: _, h => simp at h

/-- What Grouped writes where the whole part is digits alone. -/
theorem grouped_digits (S : List UInt8) (hd : ∀ c ∈ nameOf (bodyOf S), isDig c = true) : grouped S = signOf S ++ grpD (nameOf (bodyOf S)) ++ tailOf (bodyOf S) := by
  unfold grouped
  by_cases h : (nameOf (bodyOf S)).length ≤ 3
  · rw [if_pos h, grpD_short _ h, List.append_assoc, name_tail, sign_body]
  · rw [if_neg h, group_digits _ hd]

theorem grpTail_no (l : List UInt8) (hd : ∀ c ∈ l, isDig c = true) : ∀ c ∈ grpTail l, c ≠ 46 := by
  induction l with
  | nil => intro c h; cases h
  | cons d l ih =>
    intro c hc
    rw [grpTail, List.mem_append, List.mem_cons] at hc
    rcases hc with hc | rfl | hc
    · by_cases h : (l.length + 1) % 3 = 0
      · rw [if_pos h] at hc; simp at hc; subst hc; decide
      · rw [if_neg h] at hc; cases hc
    · have := of_decide_eq_true (hd c (List.mem_cons_self ..))
      intro e; subst e; revert this; decide
    · exact ih (fun c hc => hd c (List.mem_cons_of_mem _ hc)) c hc

theorem grpD_no (l : List UInt8) (hd : ∀ c ∈ l, isDig c = true) : ∀ c ∈ grpD l, c ≠ 46 := by
  cases l with
  | nil => intro c h; cases h
  | cons d l =>
    intro c hc
    rcases List.mem_cons.1 hc with rfl | hc
    · have := of_decide_eq_true (hd c (List.mem_cons_self ..))
      intro e; subst e; revert this; decide
    · exact grpTail_no l (fun c hc => hd c (List.mem_cons_of_mem _ hc)) c hc

/-- Where the first point stands behind a text without points. -/
theorem nameOf_append {a b : List UInt8} (h : ∀ c ∈ a, c ≠ 46) : nameOf (a ++ tailOf b) = a := by
  induction a with
  | nil =>
    unfold tailOf
    by_cases hb : hasDot b = true
    · rw [if_pos hb]; rfl
    · rw [if_neg hb]; rfl
  | cons c a ih =>
    rw [List.cons_append, nameOf, if_neg (h c (List.mem_cons_self ..)), ih fun c hc => h c (List.mem_cons_of_mem _ hc)]

/-- THE SCAN: how the law's loop stands ahead of what is left of the whole part. -/
def Scan (wh rem : List UInt8) (first : Bool) (g : Nat) (ds : List UInt8) : Prop :=
  ∃ l, ds ++ l = wh ∧ ((rem = grpTail l ∧ 1 ≤ g ∧ g ≤ 3 ∧ (first = true → g + l.length % 3 ≤ 3) ∧ (first = false → g + l.length % 3 = 3)) ∨
    (rem = grpD l ∧ g = 0 ∧ (first = true ∨ (first = false ∧ l ≠ [] ∧ l.length % 3 = 0))))

theorem Scan.start (wh : List UInt8) : Scan wh (grpD wh) true 0 [] := ⟨wh, rfl, .inr ⟨rfl, rfl, .inl rfl⟩⟩

theorem dig_ne {c : UInt8} (h : isDig c = true) : c ≠ 44 := by
  have := of_decide_eq_true h
  intro e; subst e; revert this; decide

theorem Scan.comma {wh rem : List UInt8} {first : Bool} {g : Nat} {ds : List UInt8} (hd : ∀ c ∈ wh, isDig c = true) (h : Scan wh (44 :: rem) first g ds) :
    (first = true → 1 ≤ g ∧ g ≤ 3) ∧ (first = false → g = 3) ∧ Scan wh rem false 0 ds := by
  obtain ⟨l, hl, h⟩ := h
  have hdl : ∀ c ∈ l, isDig c = true := fun c hc => hd c (by rw [← hl]; exact List.mem_append_right _ hc)
  rcases h with ⟨hr, h1, h2, h3, h4⟩ | ⟨hr, h1, h2⟩
  · cases l with
    | nil => cases hr
    | cons d l =>
      rw [grpTail] at hr
      by_cases hc : (l.length + 1) % 3 = 0
      · rw [if_pos hc, List.singleton_append] at hr
        have hr' := (List.cons.inj hr).2
        refine ⟨fun h => ⟨h1, h2⟩, fun h => ?_, ⟨d :: l, hl, .inr ⟨hr', rfl, .inr ⟨rfl, by simp, by simpa using hc⟩⟩⟩⟩
        have := h4 h
        simp at this
        omega
      · rw [if_neg hc, List.nil_append] at hr
        exact absurd (List.cons.inj hr).1.symm (dig_ne (hdl d (List.mem_cons_self ..)))
  · cases l with
    | nil => cases hr
    | cons d l => exact absurd (List.cons.inj hr).1.symm (dig_ne (hdl d (List.mem_cons_self ..)))

theorem Scan.digit {wh rem : List UInt8} {first : Bool} {g : Nat} {ds : List UInt8} {c : UInt8} (hc : c ≠ 44) (h : Scan wh (c :: rem) first g ds) : Scan wh rem first (g + 1) (ds ++ [c]) := by
  obtain ⟨l, hl, h⟩ := h
  rcases h with ⟨hr, h1, h2, h3, h4⟩ | ⟨hr, h1, h2⟩
  · cases l with
    | nil => cases hr
    | cons d l =>
      rw [grpTail] at hr
      by_cases hm : (l.length + 1) % 3 = 0
      · rw [if_pos hm, List.singleton_append] at hr
        exact absurd (List.cons.inj hr).1 hc
      · rw [if_neg hm, List.nil_append] at hr
        obtain ⟨rfl, hr'⟩ := List.cons.inj hr
        simp only [List.length_cons] at h3 h4
        refine ⟨l, by rw [← hl]; simp, .inl ⟨hr', by omega, ?_, fun h => ?_, fun h => ?_⟩⟩
        · cases first
          · have := h4 rfl; omega
          · have := h3 rfl; omega
        · have := h3 h; omega
        · have := h4 h; omega
  · subst h1
    cases l with
    | nil => cases hr
    | cons d l =>
      obtain ⟨rfl, hr'⟩ := List.cons.inj hr
      refine ⟨l, by rw [← hl]; simp, .inl ⟨hr', by omega, by omega, fun _ => by omega, fun h => ?_⟩⟩
      rcases h2 with h2 | ⟨_, _, h2⟩
      · rw [h2] at h; cases h
      · simp only [List.length_cons] at h2; omega

theorem grpTail_nil {l : List UInt8} (h : [] = grpTail l) : l = [] := by
  cases l with
  | nil => rfl
  | cons c l => rw [grpTail] at h; simp at h

theorem Scan.done {wh : List UInt8} {first : Bool} {g : Nat} {ds : List UInt8} (h : Scan wh [] first g ds) : ds = wh ∧ (first = true → g ≤ 3) ∧ (first = false → g = 3) := by
  obtain ⟨l, hl, h⟩ := h
  rcases h with ⟨hr, h1, h2, h3, h4⟩ | ⟨hr, h1, h2⟩
  · obtain rfl := grpTail_nil hr
    rw [List.append_nil] at hl
    exact ⟨hl, fun _ => h2, fun h => by have := h4 h; simpa using this⟩
  · cases l with
    | nil =>
      rw [List.append_nil] at hl
      refine ⟨hl, fun _ => by omega, fun h => ?_⟩
      rcases h2 with h2 | ⟨_, h2, _⟩
      · rw [h2] at h; cases h
      · exact absurd rfl h2
    | cons c l => cases hr

theorem Scan.small {wh rem : List UInt8} {first : Bool} {g : Nat} {ds : List UInt8} (h : Scan wh rem first g ds) : g ≤ 3 ∧ ds.length ≤ wh.length := by
  obtain ⟨l, hl, h⟩ := h
  refine ⟨?_, by rw [← hl]; simp⟩
  rcases h with ⟨_, _, h2, _⟩ | ⟨_, h1, _⟩ <;> omega

end Go.Proofs.Qxb6000519a.Plain
