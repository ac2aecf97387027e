/-
  A FORM OF UTF-8, from its bytes.
-/
import Derived.Test.Qxb6000519aChain
namespace Go.Proofs.Qxb6000519a.Plain

/-- What a first byte says: the form's length, the bits that it bears, the least value. -/
def Head (c n r m : Nat) : Prop := (n = 2 ∧ 194 ≤ c ∧ c ≤ 223 ∧ r = c - 192 ∧ m = 128) ∨ (n = 3 ∧ 224 ≤ c ∧ c ≤ 239 ∧ r = c - 224 ∧ m = 2048) ∨ (n = 4 ∧ 240 ≤ c ∧ c ≤ 244 ∧ r = c - 240 ∧ m = 65536)

def nb (l : List UInt8) (i : Nat) : Nat := (l.getD i 0).toNat

theorem nb_at (l : List UInt8) (i : Nat) (h : i < l.length) : nb l i = l[i].toNat := by
  unfold nb
  rw [List.getD_eq_getElem?_getD, List.getElem?_eq_getElem h]
  rfl

theorem nb_lt (l : List UInt8) (i : Nat) : nb l i < 256 := UInt8.toNat_lt _

/-- The value, so many bytes behind the first gathered. -/
def acc (l : List UInt8) (pos r0 : Nat) : Nat → Nat
  | 0 => r0
  | j + 1 => acc l pos r0 j * 64 + nb l (pos + 1 + j) % 64

theorem acc_lt (l : List UInt8) (pos r0 : Nat) (h : r0 < 64) : acc l pos r0 0 < 64 ∧ acc l pos r0 1 < 4096 ∧ acc l pos r0 2 < 262144 := by
  unfold acc acc acc
  omega

theorem acc_small (l : List UInt8) (pos r0 j : Nat) (h : r0 < 64) (hj : j ≤ 2) : acc l pos r0 j < 262144 := by
  have := acc_lt l pos r0 h
  match j, hj with
  | 0, _ => omega
  | 1, _ => omega
  | 2, _ => omega

theorem Chain.snoc {l : List UInt8} (h : Chain l) {r : Nat} (hr : Scalar r) : Chain (l ++ enc r) := by
  obtain ⟨rs, hs, rfl⟩ := h
  refine ⟨rs ++ [r], fun x hx => ?_, by simp⟩
  rcases List.mem_append.1 hx with hx | hx
  · exact hs x hx
  · rw [List.mem_singleton.1 hx]; exact hr

theorem take_one {l : List UInt8} {k : Nat} (h : k < l.length) : l.take (k + 1) = l.take k ++ [(nb l k).toUInt8] := by
  rw [List.take_succ_eq_append_getElem h, nb_at l k h]
  simp

theorem u8_of {a b : Nat} (h : a = b) : a.toUInt8 = b.toUInt8 := by rw [h]

theorem Chain.ascii {l : List UInt8} {k : Nat} (h : Chain (l.take k)) (hk : k < l.length) (hc : nb l k < 128) : Chain (l.take (k + 1)) := by
  rw [take_one hk, ← enc_one hc]
  exact h.snoc (Or.inl (by omega))

theorem form2 {l : List UInt8} {k r : Nat} (hk : k + 2 ≤ l.length) (a : 194 ≤ nb l k) (b : nb l k ≤ 223) (c0 : 128 ≤ nb l (k + 1) ∧ nb l (k + 1) ≤ 191) (hr : r = (nb l k - 192) * 64 + nb l (k + 1) % 64) : l.take (k + 2) = l.take k ++ enc r := by
  rw [enc_two (by omega) (by omega), show k + 2 = k + 1 + 1 from rfl, take_one (by omega), take_one (by omega), List.append_assoc]
  congr 1
  rw [List.cons_append, List.nil_append, u8_of (show nb l k = 192 + r / 64 by omega), u8_of (show nb l (k + 1) = 128 + r % 64 by omega)]

theorem form3 {l : List UInt8} {k r : Nat} (hk : k + 3 ≤ l.length) (a : 224 ≤ nb l k) (b : nb l k ≤ 239) (c0 : 128 ≤ nb l (k + 1) ∧ nb l (k + 1) ≤ 191) (c1 : 128 ≤ nb l (k + 1 + 1) ∧ nb l (k + 1 + 1) ≤ 191)
    (hr : r = ((nb l k - 224) * 64 + nb l (k + 1) % 64) * 64 + nb l (k + 1 + 1) % 64) (h1 : 2048 ≤ r) (h3 : r < 55296 ∨ 57343 < r) : l.take (k + 3) = l.take k ++ enc r := by
  rw [enc_three (by omega), show k + 3 = k + 1 + 1 + 1 from rfl, take_one (by omega), take_one (by omega), take_one (by omega), List.append_assoc, List.append_assoc]
  congr 1
  rw [List.cons_append, List.nil_append, List.cons_append, List.nil_append, u8_of (show nb l k = 224 + r / 4096 by omega), u8_of (show nb l (k + 1) = 128 + r / 64 % 64 by omega), u8_of (show nb l (k + 1 + 1) = 128 + r % 64 by omega)]

theorem form4 {l : List UInt8} {k r : Nat} (hk : k + 4 ≤ l.length) (a : 240 ≤ nb l k) (b : nb l k ≤ 244) (c0 : 128 ≤ nb l (k + 1) ∧ nb l (k + 1) ≤ 191) (c1 : 128 ≤ nb l (k + 1 + 1) ∧ nb l (k + 1 + 1) ≤ 191) (c2 : 128 ≤ nb l (k + 1 + 1 + 1) ∧ nb l (k + 1 + 1 + 1) ≤ 191)
    (hr : r = (((nb l k - 240) * 64 + nb l (k + 1) % 64) * 64 + nb l (k + 1 + 1) % 64) * 64 + nb l (k + 1 + 1 + 1) % 64) (h1 : 65536 ≤ r) (h2 : r ≤ 1114111) : l.take (k + 4) = l.take k ++ enc r := by
  rw [enc_four (by omega) (by omega), show k + 4 = k + 1 + 1 + 1 + 1 from rfl, take_one (by omega), take_one (by omega), take_one (by omega), take_one (by omega), List.append_assoc, List.append_assoc, List.append_assoc]
  congr 1
  rw [List.cons_append, List.nil_append, List.cons_append, List.nil_append, List.cons_append, List.nil_append, u8_of (show nb l k = 240 + r / 262144 by omega), u8_of (show nb l (k + 1) = 128 + r / 4096 % 64 by omega), u8_of (show nb l (k + 1 + 1) = 128 + r / 64 % 64 by omega), u8_of (show nb l (k + 1 + 1 + 1) = 128 + r % 64 by omega)]

/-- One form more. -/
theorem Chain.form {l : List UInt8} {k : Nat} (h : Chain (l.take k)) {n r0 m r : Nat} (hk : k + n ≤ l.length) (hh : Head (nb l k) n r0 m)
    (hc : ∀ i, i + 1 < n → 128 ≤ nb l (k + 1 + i) ∧ nb l (k + 1 + i) ≤ 191) (hr : r = acc l k r0 (n - 1)) (h1 : m ≤ r) (h2 : r ≤ 1114111) (h3 : r < 55296 ∨ 57343 < r) : Chain (l.take (k + n)) := by
  have hsc : Scalar r := h3.elim Or.inl fun h => Or.inr ⟨h, h2⟩
  have key : l.take (k + n) = l.take k ++ enc r := by
    rcases hh with ⟨hn, a, b, h0, hm⟩ | ⟨hn, a, b, h0, hm⟩ | ⟨hn, a, b, h0, hm⟩
    · rw [hn] at hk hr ⊢
      rw [h0] at hr
      exact form2 hk a b (hc 0 (by omega)) hr
    · rw [hn] at hk hr ⊢
      rw [h0] at hr
      rw [hm] at h1
      exact form3 hk a b (hc 0 (by omega)) (hc 1 (by omega)) hr h1 h3
    · rw [hn] at hk hr ⊢
      rw [h0] at hr
      rw [hm] at h1
      exact form4 hk a b (hc 0 (by omega)) (hc 1 (by omega)) (hc 2 (by omega)) hr h1 h2
  rw [key]
  exact h.snoc hsc

end Go.Proofs.Qxb6000519a.Plain
