/-
  THE PLAIN LAW OF THE SEAT: no Go in sight. Bytes as integers; a row of bytes as a function of its place.
-/
namespace Go.Proofs.Qxb6003453a.Plain

/-- Does p hold at the first n places of z? -/
def allUpTo (p : Int → Bool) (z : Nat → Int) : Nat → Bool
  | 0 => true
  | n + 1 => allUpTo p z n && p (z n)

theorem allUpTo_succ (p : Int → Bool) (z : Nat → Int) (n : Nat) : allUpTo p z (n + 1) = (allUpTo p z n && p (z n)) := rfl

theorem allUpTo_step {p : Int → Bool} {z : Nat → Int} {n : Nat} (h : allUpTo p z n = true) (hp : p (z n) = true) : allUpTo p z (n + 1) = true := by
  rw [allUpTo_succ, h, hp]; rfl

theorem allUpTo_false {p : Int → Bool} {z : Nat → Int} {k n : Nat} (hk : k < n) (hp : p (z k) = false) : allUpTo p z n = false := by
  induction n with
  | zero => omega
  | succ n ih =>
    rw [allUpTo_succ]
    by_cases h : k = n
    · subst h; rw [hp]; simp
    · rw [ih (by omega)]; rfl

theorem allUpTo_congr {p q : Int → Bool} {z : Nat → Int} {n : Nat} (h : ∀ k, k < n → p (z k) = q (z k)) : allUpTo p z n = allUpTo q z n := by
  induction n with
  | zero => rfl
  | succ n ih => rw [allUpTo_succ, allUpTo_succ, ih (fun k hk => h k (by omega)), h n (by omega)]

theorem allUpTo_and (p q : Int → Bool) (z : Nat → Int) (n : Nat) : allUpTo (fun c => p c && q c) z n = (allUpTo p z n && allUpTo q z n) := by
  induction n with
  | zero => rfl
  | succ n ih =>
    rw [allUpTo_succ, allUpTo_succ, allUpTo_succ, ih]
    cases allUpTo p z n <;> cases allUpTo q z n <;> cases p (z n) <;> cases q (z n) <;> rfl

def visB (c : Int) : Bool := decide (33 ≤ c ∧ c ≤ 126)
def delims : List UInt8 := [34, 40, 41, 44, 47, 58, 59, 60, 61, 62, 63, 64, 91, 92, 93, 123, 125]
def marks : List UInt8 := [33, 35, 36, 37, 38, 39, 42, 43, 45, 46, 94, 95, 96, 124, 126]
/-- Is c among the first n bytes of s? -/
def memB (s : List UInt8) (c : Int) : Bool := s.any fun d => ((d.toNat : Int) == c)
def notDelim (c : Int) : Bool := !memB delims c
def tokB (c : Int) : Bool := decide (97 ≤ c ∧ c ≤ 122) || decide (65 ≤ c ∧ c ≤ 90) || decide (48 ≤ c ∧ c ≤ 57) || memB marks c

theorem byte_law : ∀ n : Fin 256, tokB (n.val : Int) = (visB (n.val : Int) && notDelim (n.val : Int)) := by decide +kernel

theorem tok_vis (c : Int) (h0 : 0 ≤ c) (h1 : c ≤ 255) : tokB c = (visB c && notDelim c) := by
  have h := byte_law ⟨c.toNat, by omega⟩
  have e : ((c.toNat : Nat) : Int) = c := by omega
  simp only [e] at h
  exact h

theorem law (z : Nat → Int) (n : Nat) (h0 : ∀ k, 0 ≤ z k ∧ z k ≤ 255) : allUpTo tokB z n = (allUpTo visB z n && allUpTo notDelim z n) := by
  rw [← allUpTo_and]
  exact allUpTo_congr fun k _ => tok_vis _ (h0 k).1 (h0 k).2

end Go.Proofs.Qxb6003453a.Plain
