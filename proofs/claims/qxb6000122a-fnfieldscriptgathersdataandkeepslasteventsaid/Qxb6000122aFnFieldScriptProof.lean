/-
  THE PROOF OF 'Rows.FnFieldScriptGathersDataAndKeepsLastEventSaid'. The frame after the guide's shells (a law over one slice), its opening turned to a slice of slices of bytes; the walk is ours.
-/
import Derived.Test.Qxb6000122aRows
import Derived.WalkKit
import Derived.ProofKit
import Derived.OpenShut
import Derived.ShutString
import Derived.ChangeOld
import Derived.Below
import Derived.Test.Qxb6000122aMain
namespace Go.Proofs.Qxb6000122a.fnFieldScriptGathersDataAndKeepsLastEvent
open Go.ChangeShapes Go.WideShapes Go.ChangeAt Go.RowKit
open Go.ChangeMaps (open_string shut_string)
set_option linter.unusedVariables false

theorem own : ownKnob Try.prog.godebug = none := by kernel_rfl
theorem laidOut : laidOutB Try.prog = true := by kernel_rfl

/-- What a slice of slices of bytes that came in is: nil; or so many lines. -/
theorem lines_of {H : Type} {enc : TypeId × Value → H} {W : World} {base fuel : Nat} {spare : Nat → Bool} {held : Bool} {a : Option Addr} {len cap : Nat} {x : DataW H × List MemPlace}
    (h : DataW.trod enc Try.prog W base spare held fuel 25 [.slice a len cap] = some x) :
    ∃ (ls : Nat → List UInt8) (ns : Nat → Nat) (aa : Nat → Option Addr) (cs : Nat → Nat), LinesAt W a len ls ns aa cs ∧ len ≤ maxLen ∧ (a = none → len = 0 ∧ cap = 0) := by
  rcases Deep.open_slice1 Try.underlying25 (by kernel_rfl) h with ⟨hcs, _⟩ | ⟨x, l, c, m, n, V, D, Pl, hcs, _, hl, hm, hmm, _, hV⟩
  · simp at hcs
    obtain ⟨rfl, rfl, rfl⟩ := hcs
    exact ⟨fun _ => [], fun _ => 0, fun _ => none, fun _ => 0, ⟨fun h => absurd h (by omega), fun i hi => absurd hi (by omega), fun i hi => absurd hi (by omega), fun i hi => absurd hi (by omega), fun i hi => absurd hi (by omega)⟩, by omega, fun _ => ⟨rfl, rfl⟩⟩
  · simp at hcs
    obtain ⟨rfl, rfl, rfl⟩ := hcs
    have hlm : len ≤ m := by rw [hmm]; split <;> omega
    obtain ⟨f, hf⟩ := Deep.choose_lt (α := List UInt8 × Option Addr × Nat) (n := len) (p := fun i y => V i = .slice y.2.1 y.1.length y.2.2 ∧ Cells W y.2.1 y.1 ∧ (y.2.1 = none → y.1.length = 0 ∧ y.2.2 = 0) ∧ y.1.length ≤ y.2.2 ∧ y.2.2 ≤ maxLen) (fun i hi => by
      have h2 := (hV i (by omega)).2
      rcases open_ints Try.underlying27 Try.underlying5 (by kernel_rfl) h2 with ⟨hcs, _⟩ | ⟨x', l', c', zs, hcs, _, hl', hm', hz, _, hcell, hwz⟩
      · exact ⟨([], none, 0), by simpa using hcs, .inl rfl, (fun _ => ⟨rfl, rfl⟩), Nat.le_refl _, Nat.zero_le _⟩
      · have hlz : l' ≤ zs.length := by rw [hz]; split <;> omega
        refine ⟨((zs.take l').map fun n => UInt8.ofNat n.toNat, some x', c'), ?_, ?_, (fun h => by cases h), by simp; omega, hm'⟩
        · simp only [List.length_map, List.length_take, Nat.min_eq_left hlz]
          simpa using hcs
        · by_cases h0 : l' = 0
          · subst h0; exact .inl (by simp)
          · obtain ⟨b, off, rfl, hc⟩ := ints_at hcell (by omega)
            refine .inr ⟨b, off, rfl, fun j hj => ?_⟩
            have hj' : j < l' := by simp at hj; omega
            have hb := range_u8 hwz j
            rw [hc j (by omega)]
            unfold Plain.byteAt
            rw [List.getD_eq_getElem?_getD, List.getD_eq_getElem?_getD, List.getElem?_map, List.getElem?_take, if_pos hj']
            rw [List.getElem?_eq_getElem (by omega)] at hb ⊢
            simp at hb ⊢
            omega)
    refine ⟨fun i => (f i).1, fun i => (f i).1.length, fun i => (f i).2.1, fun i => (f i).2.2, ⟨fun h0 => ?_, fun i _ => rfl, fun i hi => (hf i hi).2.1, fun i hi => (hf i hi).2.2.1, fun i hi => (hf i hi).2.2.2⟩, by omega, (fun h => by cases h)⟩
    obtain ⟨b, o, spot⟩ := x
    have hspot : spot = none := by simpa [Addr.add] using World.cell?_spot (hV 0 (by omega)).1
    subst hspot
    refine ⟨b, o, rfl, fun i hi => ?_⟩
    have h1 := (hV i (by omega)).1
    rw [add_plain, (hf i hi).1] at h1
    exact h1

/-! ### THE ROW's STEP: WRITTEN OUT: LEAVE IT -/
set_option maxRecDepth 100000 in
theorem lifted (os : Os) (started : os.Started) (H : Type) (enc : TypeId × Value → H) :
    ReturnsInHanded {} Try.checked os 4 .any (Rows.fnFieldScriptGathersDataAndKeepsLastEventSpec.pre6 enc Try.prog Try.f4 Rows.fnFieldScriptGathersDataAndKeepsLastEventRow.domain false) (Rows.fnFieldScriptGathersDataAndKeepsLastEventSpec.post enc Try.prog Try.f4 false true false false) := by
  refine returnsInHanded_of_change (C := Try.checked) own started (by kernel_rfl) Try.func4
    (ChangeSpec.witness6 (enc := enc) (C := Try.checked) false ⟨#[], #[.slice none 0 0], []⟩ 8 (by kernel_rfl) (by kernel_rfl) (by kernel_rfl) (by kernel_rfl)) ?_
  intro W base args ds gs before hval0 hW hcnd _
  have hval : ∀ (j : Nat) t v, Try.f4.params[j]? = some t → args[j]? = some v → Value.okWide Try.prog W .any base t v := hval0
  have hW' := hW
  obtain ⟨p, q, hA0, hV, rfl, hfz, hnd⟩ := hW
  have hA : DataW.TrodAll enc Try.prog W 0 (fun _ => true) true Try.f4.params.toList args.toList ds p := hA0
  rw [Try.params4] at hA hval
  obtain ⟨v0, vs0, d0, ds0, p0, q0, hargs, rfl, rfl, h0, r0⟩ := trodAll_cons hA
  obtain ⟨rfl, rfl, rfl⟩ := trodAll_nil r0
  obtain rfl : args = #[v0] := by cases args; simp_all
  obtain ⟨rfl, rfl⟩ := trodVars_none hV
  obtain ⟨a0, len0, cap0, rfl⟩ := okWide_slice Try.underlying25 (hval 0 25 v0 rfl rfl)
  have k0 := h0
  have lt0 : ∀ x ∈ p0, x.block < W.heap.size := by obtain ⟨m, hm⟩ := k0; exact DataW.trod_lt m _ _ _ hm
  obtain ⟨ls, ns, aa, cs, w0, wm, wn⟩ : ∃ (ls : Nat → List UInt8) (ns : Nat → Nat) (aa : Nat → Option Addr) (cs : Nat → Nat), LinesAt W a0 len0 ls ns aa cs ∧ len0 ≤ maxLen ∧ (a0 = none → len0 = 0 ∧ cap0 = 0) := by
    obtain ⟨fuel, hf⟩ := h0
    exact lines_of (by simpa [Value.cells] using hf)
  clear hA0 hval0
  refine (walk_main a0 len0 cap0 ls ns aa cs W wm wn w0).mono fun e W' ⟨he, bel⟩ => ?_
  subst he
  exact ⟨_, rfl, _, _, _, [], _, [], hW', trodAll_mk1 (shut_bool Try.underlying4 _), (trodAll_cons_mk (Below.trod laidOut (by kernel_rfl) (of_decide_eq_true (by kernel_rfl)) k0 bel lt0) trodAll_mk0), rfl, bel.frame _, fun h => by cases h⟩

theorem over : Rows.fnFieldScriptGathersDataAndKeepsLastEventRow.holds Try.pinned (OpenSpec.ofChange Rows.fnFieldScriptGathersDataAndKeepsLastEventSpec) :=
  OpenClaim.holds_of_wide 4 Try.f4 rfl rfl rfl rfl rfl rfl rfl ⟨rfl, rfl, rfl, rfl, rfl⟩ rfl rfl rfl rfl rfl (by kernel_rfl) Try.func4 (by kernel_rfl)
    (of_decide_eq_true (by kernel_rfl)) (by unfold Func.isWrapper; first | (rw [if_pos (by decide +kernel)]; kernel_rfl) | (rw [if_neg (by decide +kernel)]; exact ⟨rfl, rfl⟩))
    (fun os started H enc _ => lifted os started H enc)

/-- ████ THE STATEMENT ████ -/
theorem proved : Rows.FnFieldScriptGathersDataAndKeepsLastEventSaid := over
end Go.Proofs.Qxb6000122a.fnFieldScriptGathersDataAndKeepsLastEvent
