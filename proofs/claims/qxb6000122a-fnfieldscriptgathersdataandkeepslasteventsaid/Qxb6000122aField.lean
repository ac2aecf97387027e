/-
  THE WALKS over (*eventParser).field and ZZField: what one line does to the event's type and data.
-/
import Derived.Test.Qxb6000122aCut
import Derived.Lib.SlBytesConst
import Derived.Laws.AppendOwnNone
import Derived.Deep.Cut
namespace Go.Proofs.Qxb6000122a
open Go.RowKit Go.Proofs.Qxb6000122a.Plain

theorem Try.info5 : (Try.prog.info? 5).map (fun i => (i.zero, i.size, i.bytes)) = some (some (.int .u8 0), 1, 1) := by kernel_rfl

/-- The bytes as the cells of a row. -/
def vals (l : List UInt8) : List Value := l.map fun b => .int .u8 (b.toNat : Int)

theorem vals_append (l m : List UInt8) : vals (l ++ m) = vals l ++ vals m := by simp [vals]
theorem vals_length (l : List UInt8) : (vals l).length = l.length := by simp [vals]
theorem vals_one (l : List UInt8) : ∀ u ∈ vals l, u.oneCell' = true := by
  intro u hu
  obtain ⟨_, _, rfl⟩ := List.mem_map.1 hu
  rfl
theorem vals_at (l : List UInt8) (i : Nat) (h : i < l.length) : (vals l)[i]? = some (.int .u8 (byteAt l i)) := by
  unfold vals byteAt
  rw [List.getElem?_map, List.getD_eq_getElem?_getD, List.getElem?_eq_getElem h]
  rfl

theorem Cells.news {w : World} {ao : Option Addr} {l : List UInt8} (h : Cells w ao l) : ∀ ad, ao = some ad → ∀ j u, (vals l)[j]? = some u → w.cell? (ad.add j) = some u := by
  intro ad had j u hu
  have hj : j < l.length := by
    have := (List.getElem?_eq_some_iff.1 hu).1
    simpa [vals] using this
  rw [vals_at l j hj] at hu
  rcases h with rfl | ⟨b, o, h1, h2⟩
  · simp at hj
  · rw [h1] at had
    obtain rfl := Option.some.inj had
    rw [Addr.add_lit, h2 j hj]
    exact hu

theorem Cells.alloc {w : World} {a : Option Addr} {l : List UInt8} (h : Cells w a l) (x : Obj) : Cells (w.alloc x) a l := by
  rcases h with h | ⟨b, o, h1, h2⟩
  · exact .inl h
  · exact .inr ⟨b, o, h1, fun i hi => Lib.cell?_alloc_marked x (h2 i hi)⟩

/-- The cells of a row that the call owns. -/
theorem Cells.own {w : World} {B n : Nat} {a : Option Addr} {c : Nat} {l : List UInt8} (h : w.ownsRow B 5 1 (.slice a n c) n (vals l)) : Cells w a l ∧ l.length = n := by
  have hl : l.length = n := by have := h.1; simpa [vals] using this
  refine ⟨?_, hl⟩
  rcases h.2 with ⟨h1, h2⟩ | ⟨g, cap, cur, h1, _⟩
  · subst h2; exact .inl (List.eq_nil_of_length_eq_zero hl)
  · simp at h1
    obtain ⟨rfl, rfl⟩ := h1
    refine .inr ⟨g, 0, rfl, fun i hi => ?_⟩
    rw [Nat.zero_add, h.cellAt i (by omega)]
    exact vals_at l i hi

theorem ownsRow_mono {w : World} {base base' : Nat} {e : TypeId} {size : Nat} {v : Value} {n : Nat} {xs : List Value} (h : w.ownsRow base' e size v n xs) (hb : base ≤ base') : w.ownsRow base e size v n xs := by
  refine ⟨h.1, ?_⟩
  rcases h.2 with h2 | ⟨g, cap, cur, h1, h2, h3⟩
  · exact .inl h2
  · exact .inr ⟨g, cap, cur, h1, Nat.le_trans hb h2, h3⟩

/-- 'append(buf, xs...)', buf the call's own, xs WHATEVER: nil or not; the row is the old one, or a new one. -/
theorem wpList_append_any {P : Program} {w : World} {ops : Array Oper} {rest : List Oper} {o : Oper} {a : Act} {Q : Exit → Act → World → Prop} (hgd : o.guard = none) (s x : Operand) (t : TypeId)
    (ho : o.op = .call { callee := .builtin .append, args := #[s, x], argTypes := #[t, t] })
    (base : Nat) (e : TypeId) (i : TypeInfo) (z : Value) (size bytes : Nat) (ht : P.underlying t = some (.slice e)) (hi : P.info? e = some i) (hz : i.zero = some z)
    (hsize : i.size = size) (hby : i.bytes = bytes) (hzs : z.cells.size = size) (hsz : 0 < size)
    (v : Value) (n : Nat) (xs : List Value) (hs : a.eval s = v) (hown : w.ownsRow base e size v n xs)
    (ao : Option Addr) (m c : Nat) (news : List Value) (hx : a.eval x = .slice ao m c) (hnone : ao = none → m = 0 ∧ c = 0) (hl : news.length = m * size)
    (hnews : ∀ ad, ao = some ad → ∀ j u, news[j]? = some u → w.cell? (ad.add j) = some u) (h1 : ∀ u ∈ news, u.oneCell' = true)
    (h63 : n + m ≤ maxLen) (hbytes : (n + m) * bytes ≤ 140737488355328) (hbase : base ≤ w.heap.size)
    (h : ∀ v' w', w'.ownsRow base e size v' (n + m) (xs ++ news) → w.grownBy w' v.ownBlock → (v' = .slice none 0 0 ↔ v = .slice none 0 0 ∧ m = 0) →
      (v'.ownBlock = v.ownBlock ∨ ∀ g, v'.ownBlock = some g → w.heap.size ≤ g) → wpList P ops Q rest (a.put o.dst v') w') : wpList P ops Q (o :: rest) a w := by
  cases ao with
  | some ad =>
    have grows : ∀ (ao' : Option Addr) (cap : Nat), v = .slice ao' n cap → (ao' = none → n = 0 ∧ cap = 0) → (∀ b, ao' = some b → ∀ j u, xs[j]? = some u → w.cell? (b.add j) = some u) → cap < n + m → wpList P ops Q (o :: rest) a w := by
      intro ao' cap hv hn' hcs hfull
      refine wpList_append_grows w hgd s x t ho e i z size bytes ht hi hz hsize hby hzs hsz ao' n cap xs (hs.trans hv) hn' hown.1 hcs ad m c news hx hl (hnews ad rfl) h1 hfull h63 hbytes ?_
      intro v' w' hown' hgr
      have hnn : v' ≠ .slice none 0 0 := by
        rcases hown'.2 with ⟨_, h0⟩ | ⟨g, cap', cur, h0, _⟩
        · omega
        · rw [h0]; simp
      refine h v' w' (ownsRow_mono hown' hbase) ⟨hgr.os, hgr.tape, hgr.output, hgr.size, fun k hk _ => hgr.block k hk (by simp)⟩ ⟨fun h' => absurd h' hnn, fun h' => ?_⟩ (.inr fun g hg => (hown'.lt g hg).1)
      obtain ⟨h0, h00⟩ := h'
      rw [hv] at h0
      simp at h0
      omega
    rcases hown.2 with ⟨hv, hn0⟩ | ⟨g, cap, cur, hv, hbg, hg, hnc, hcm, hcs, htake⟩
    · by_cases hm : m = 0
      · refine wpList_append_own w hgd s x t ho base e i z size bytes ht hi hz hsize hby hzs hsz v n xs hs hown ad m c news hx hl (hnews ad rfl) h1 h63 hbytes hbase ?_
        intro v' w' hown' hgr hiff
        exact h v' w' hown' hgr hiff (.inl (by rw [hiff.2 ⟨hv, hm⟩, hv]))
      · exact grows none 0 (by rw [hv, hn0]) (fun _ => ⟨hn0, rfl⟩) (fun b hb => by cases hb) (by omega)
    · by_cases hroom : n + m ≤ cap
      · refine wpList_append_fits w hgd s x t ho base e i size ht hi hsize g n cap xs (hs.trans hv) (hv ▸ hown) ad m c news hx hl (hnews ad rfl) h1 hroom ?_
        intro w' hown' hgr
        exact h _ w' hown' (by rw [hv]; exact hgr) (by rw [hv]; simp) (.inl (by rw [hv]; rfl))
      · exact grows (some ⟨g, 0, none⟩) cap hv (fun h0 => by cases h0) (fun b hb => by obtain rfl := Option.some.inj hb; exact hown.cells (g := g) (by rw [hv]; rfl)) (by omega)
  | none =>
    obtain ⟨rfl, rfl⟩ := hnone rfl
    have hnil : news = [] := List.eq_nil_of_length_eq_zero (by simpa using hl)
    subst hnil
    exact wpList_append_own_none hgd s x t ho base e i size ht hi v n xs hs hown hx (h v w (by simpa using hown) (World.grownBy.refl _ _) (by simp) (.inl rfl))

/-- Nothing but block S and the row 'row' has turned among the old blocks. -/
structure KeptS (w w' : World) (S : Nat) (row : Option Nat) : Prop where
  os : w'.os = w.os
  tape : w'.tape = w.tape
  output : w'.output = w.output
  size : w.heap.size ≤ w'.heap.size
  block : ∀ k, k < w.heap.size → k ≠ S → some k ≠ row → w'.heap[k]? = w.heap[k]?

end Go.Proofs.Qxb6000122a
