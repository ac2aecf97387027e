/-
  ROWS OF BYTES THAT THE CALL OWNS: small laws for the walks.
-/
import Derived.Test.Qxb6000519aGrouped
namespace Go.Proofs.Qxb6000519a
open Go.RowKit Go.Proofs.Qxb6000519a.Plain

theorem Try.info5 : (Try.prog.info? 5).map (fun i => (i.zero, i.size, i.bytes)) = some (some (.int .u8 0), 1, 1) := by kernel_rfl

/-- The bytes as the cells of a row. -/
def vals (l : List UInt8) : List Value := l.map fun b => .int .u8 (b.toNat : Int)

theorem vals_append (l m : List UInt8) : vals (l ++ m) = vals l ++ vals m := by simp [vals]
theorem vals_length (l : List UInt8) : (vals l).length = l.length := by simp [vals]
theorem vals_one (l : List UInt8) : ∀ u ∈ vals l, u.oneCell' = true := by
  intro u hu
  obtain ⟨_, _, rfl⟩ := List.mem_map.1 hu
  rfl
theorem vals_at (l : List UInt8) (i : Nat) (h : i < l.length) : (vals l)[i]? = some (.int .u8 (byteAt l i)) := by
  unfold vals byteAt
  rw [List.getElem?_map, List.getD_eq_getElem?_getD, List.getElem?_eq_getElem h]
  rfl

theorem new_cell (w : World) (x : Int) : (w.alloc (.cells #[.int .u8 x] 5)).cell? ⟨w.heap.size, 0, none⟩ = some (.int .u8 x) := by
  unfold World.cell?
  rw [Go.heap_alloc_new]
  rfl

/-- The one new cell, as append asks for it. -/
theorem new_news (w : World) (c : UInt8) : ∀ j u, (vals [c])[j]? = some u → (w.alloc (.cells #[.int .u8 (c.toNat : Int)] 5)).cell? ((⟨w.heap.size, 0, none⟩ : Addr).add j) = some u := by
  intro j u hu
  cases j with
  | zero =>
    have h := new_cell w (c.toNat : Int)
    simp only [vals, List.map_cons, List.map_nil, List.getElem?_cons_zero, Option.some.injEq] at hu
    rw [Addr.add_lit, Nat.zero_add, h, hu]
  | succ j => simp [vals] at hu

/-- 'string(b)' of a row that the call owns. -/
theorem conv_own {w : World} {B g n cap : Nat} {l : List UInt8} (h : w.ownsRow B 5 1 (.slice (some ⟨g, 0, none⟩) n cap) n (vals l)) : (convert 25 9 (.slice (some ⟨g, 0, none⟩) n cap)).run Try.prog w = .ok (.string ⟨l.toArray⟩) w := by
  have hl : l.length = n := by have := h.1; simpa [vals] using this
  rw [run_convert_bytes_arg w 25 5 Try.underlying25 Try.underlying5 g 0 n cap (l.map fun b => (b.toNat : Int)) (by simpa using hl) (fun i hi => by
    rw [Nat.zero_add, h.cellAt i (by omega), vals_at l i (by omega)]
    unfold byteAt
    rw [List.getD_eq_getElem?_getD, List.getD_eq_getElem?_getD, List.getElem?_map]
    cases l[i]? <;> rfl) 9 Try.underlying9]
  congr 2
  unfold strOfNums
  rw [List.map_map]
  congr 2
  conv => rhs; rw [← List.map_id l]
  apply List.map_congr_left
  intro b _
  simp

end Go.Proofs.Qxb6000519a
