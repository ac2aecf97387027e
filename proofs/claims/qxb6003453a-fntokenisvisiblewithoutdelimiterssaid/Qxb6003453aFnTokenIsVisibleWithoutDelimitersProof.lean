/-
  THE PROOF OF 'Rows.FnTokenIsVisibleWithoutDelimitersSaid'. The frame was written by program (proof-skeleton.mjs); the walk is ours.
-/
import Derived.Test.Qxb6003453aRows
import Derived.WalkKit
import Derived.ProofKit
import Derived.OpenShut
import Derived.ShutString
import Derived.ChangeOld
import Derived.Below
import Derived.Test.Qxb6003453aToken
import Derived.Test.Qxb6003453aClone
namespace Go.Proofs.Qxb6003453a.fnTokenIsVisibleWithoutDelimiters
open Go.ChangeShapes Go.WideShapes Go.ChangeAt Go.RowKit
open Go.ChangeMaps (open_string shut_string)
set_option linter.unusedVariables false

theorem own : ownKnob Try.prog.godebug = none := by kernel_rfl
theorem laidOut : laidOutB Try.prog = true := by kernel_rfl

/-- WHAT THE WALK IS TOLD OF A SLICE OF INTEGERS THAT CAME IN: it is nil; or it leads to a row of 'cap' cells, the numbers 'zs' (the first 'len' are its elements, the rest its spare room), each fitting its kind. -/
def IsRow (k : IntKind) (w : World) (a : Option Addr) (len cap : Nat) (zs : List Int) : Prop :=
  (a = none ∧ len = 0 ∧ cap = 0 ∧ zs = []) ∨
  ∃ x, a = some x ∧ len ≤ cap ∧ cap ≤ maxLen ∧ zs.length = cap ∧ (∀ i, i < zs.length → w.cell? (x.add i) = some (.int k (zs.getD i 0))) ∧ ∀ n ∈ zs, (Lit.int k n).wf = true

/-! ### STEP 1: THE WALK: the Go text returns true, AND WRITES NOTHING THAT WAS THERE: 'Below w.heap.size w w'' (Derived/Below.lean: '.refl', '.alloc', '.drew', '.setCell' at a new block, '.trans'). Open each 'IsRow' by 'rcases' AHEAD of 'go_enter'; part every test ahead of the walk. -/
theorem walk (a0 : Option Addr) (len0 cap0 : Nat) (z0 : List Int) (w : World) (w0 : IsRow .u8 w a0 len0 cap0 z0) :
    Calls Try.prog 5 #[.slice a0 len0 cap0] w fun e w' => e = .returned (.bool true) ∧ Below w.heap.size w w' := by
  rcases w0 with ⟨rfl, rfl, rfl, rfl⟩ | ⟨x, rfl, hlc, hcm, hzl, hcell, hwf⟩
  · -- nil: no byte, no token
    go_enter Try.func5, Try.ntmps5
    go_wp2_with (first
      | (go_at_call 9; refine (clone_nil _).mono ?_; rintro e w' ⟨rfl, rfl⟩)
      | (go_at_call 23; refine (token_empty _ _ _).mono ?_; rintro e w' ⟨rfl, rfl⟩)
      | go_in)
    go_ret
    exact ⟨rfl, Below.refl _ _⟩
  · by_cases hbig : 1048576 < len0
    · go_enter Try.func5, Try.ntmps5
      go_wp2
      go_ret
      exact ⟨rfl, Below.refl _ _⟩
    · by_cases hz : len0 = 0
      · subst hz
        clear hcell hwf
        go_enter Try.func5, Try.ntmps5
        go_wp2_with (first
          | (go_at_call 9; refine (clone_zero _ _ _).mono ?_; rintro e w1 ⟨rfl, hbel⟩)
          | (go_at_call 23; refine (token_empty _ _ _).mono ?_; rintro e w' ⟨rfl, rfl⟩)
          | go_in)
        go_ret
        exact ⟨rfl, hbel⟩
      · obtain ⟨b, off, rfl, hc⟩ := ints_at hcell (by omega)
        have hblt : b < w.heap.size := World.block_lt_of_cell? w ⟨b, off + 0, none⟩ (hc 0 (by omega))
        obtain ⟨z, hzz⟩ : ∃ z : Nat → Int, ∀ k, z0.getD k 0 = z k := ⟨_, fun _ => rfl⟩
        have hzb : ∀ k, 0 ≤ z k ∧ z k ≤ 255 := fun k => by rw [← hzz]; simpa using range_u8 hwf k
        have hcl := clone_any b off len0 cap0 z w (by omega) hblt (fun k hk => by rw [← hzz]; exact hc k (by omega))
        have hne : ((len0 : Int) == 0) = false := by simp; omega
        have hle : len0 ≤ 1048576 := by omega
        clear hcell hwf hc hzz hbig hz
        have HL := hid (Plain.law z len0 hzb)
        have HB := hid hzb
        have HD : Hid ((fun c => !Plain.memB (ByteArray.mk #[34, 40, 41, 44, 47, 58, 59, 60, 61, 62, 63, 64, 91, 92, 93, 123, 125]).data.toList c) = Plain.notDelim) := rfl
        clear hzb
        have HVi : Hid (∀ w1 : World, (∀ k, k < len0 → w1.cell? ⟨w.heap.size, k, none⟩ = some (.int .u8 (z k))) → Calls Try.prog 21 #[.slice (some ⟨w.heap.size, 0, none⟩) len0 len0] w1 fun e w' => e = .returned (.bool (Plain.allUpTo Plain.visB z len0)) ∧ w' = w1) :=
          fun w1 hcw => visible_any w.heap.size 0 len0 len0 z w1 (by unfold maxLen; omega) HB.out (fun k hk => by rw [Nat.zero_add]; exact hcw k hk)
        have HTo : Hid (∀ w1 : World, (∀ k, k < len0 → w1.cell? ⟨w.heap.size, k, none⟩ = some (.int .u8 (z k))) → Calls Try.prog 23 #[.slice (some ⟨w.heap.size, 0, none⟩) len0 len0] w1 fun e w' => e = .returned (.bool (Plain.allUpTo Plain.tokB z len0)) ∧ w' = w1) :=
          fun w1 hcw => token_any w.heap.size 0 len0 len0 z w1 (by have := hne; simp at this; omega) (by unfold maxLen; omega) HB.out (fun k hk => by rw [Nat.zero_add]; exact hcw k hk)
        have HNo : Hid (∀ w1 : World, (∀ k, k < len0 → w1.cell? ⟨w.heap.size, k, none⟩ = some (.int .u8 (z k))) → Calls Try.prog 16 #[.string (ByteArray.mk #[34, 40, 41, 44, 47, 58, 59, 60, 61, 62, 63, 64, 91, 92, 93, 123, 125]), .slice (some ⟨w.heap.size, 0, none⟩) len0 len0] w1 fun e w' => e = .returned (.bool (Plain.allUpTo Plain.notDelim z len0)) ∧ w' = w1) :=
          fun w1 hcw => by rw [← HD.out]; exact noneIn_any (ByteArray.mk #[34, 40, 41, 44, 47, 58, 59, 60, 61, 62, 63, 64, 91, 92, 93, 123, 125]) (by decide) w.heap.size 0 len0 len0 z w1 (by unfold maxLen; omega) (fun k hk => by rw [Nat.zero_add]; exact hcw k hk)
        generalize hv : Plain.allUpTo Plain.visB z len0 = v at HL HVi
        generalize ht : Plain.allUpTo Plain.tokB z len0 = t at HL HTo
        generalize hn : Plain.allUpTo Plain.notDelim z len0 = n at HL HNo
        clear hv ht hn HB HD
        obtain rfl : t = (v && n) := HL.out
        clear HL
        have HC := hid hcl
        clear hcl
        cases v
        · go_enter Try.func5, Try.ntmps5
          go_wp2_with (first
            | (go_at_call 9; refine HC.out.mono ?_; rintro e w1 ⟨rfl, hbel, hcw⟩; have HW := hid hcw; clear hcw)
            | (go_at_call 21; refine (HVi.out _ (Hid.out (by assumption))).mono ?_; rintro e w' ⟨rfl, rfl⟩)
            | (go_at_call 23; refine (HTo.out _ (Hid.out (by assumption))).mono ?_; rintro e w' ⟨rfl, rfl⟩)
            | (go_at_call 16; refine (HNo.out _ (Hid.out (by assumption))).mono ?_; rintro e w' ⟨rfl, rfl⟩)
            | go_in)
          go_ret
          exact ⟨rfl, by assumption⟩
        · go_enter Try.func5, Try.ntmps5
          go_wp2_with (first
            | (go_at_call 9; refine HC.out.mono ?_; rintro e w1 ⟨rfl, hbel, hcw⟩; have HW := hid hcw; clear hcw)
            | (go_at_call 21; refine (HVi.out _ (Hid.out (by assumption))).mono ?_; rintro e w' ⟨rfl, rfl⟩)
            | (go_at_call 23; refine (HTo.out _ (Hid.out (by assumption))).mono ?_; rintro e w' ⟨rfl, rfl⟩)
            | (go_at_call 16; refine (HNo.out _ (Hid.out (by assumption))).mono ?_; rintro e w' ⟨rfl, rfl⟩)
            | go_in)
          go_ret
          exact ⟨by simp, by assumption⟩

/-! ### THE ROW's STEP: WRITTEN OUT: LEAVE IT -/
set_option maxRecDepth 100000 in
theorem lifted (os : Os) (started : os.Started) (H : Type) (enc : TypeId × Value → H) :
    ReturnsInHanded {} Try.checked os 5 .any (Rows.fnTokenIsVisibleWithoutDelimitersSpec.pre6 enc Try.prog Try.f5 Rows.fnTokenIsVisibleWithoutDelimitersRow.domain false) (Rows.fnTokenIsVisibleWithoutDelimitersSpec.post enc Try.prog Try.f5 false true false false) := by
  refine returnsInHanded_of_change (C := Try.checked) own started (by kernel_rfl) Try.func5
    (ChangeSpec.witness6 (enc := enc) (C := Try.checked) false ⟨#[], #[.slice none 0 0], []⟩ 8 (by kernel_rfl) (by kernel_rfl) (by kernel_rfl) (by kernel_rfl)) ?_
  intro W base args ds gs before hval0 hW hcnd _
  have hval : ∀ (j : Nat) t v, Try.f5.params[j]? = some t → args[j]? = some v → Value.okWide Try.prog W .any base t v := hval0
  have hW' := hW
  obtain ⟨p, q, hA0, hV, rfl, hfz, hnd⟩ := hW
  have hA : DataW.TrodAll enc Try.prog W 0 (fun _ => true) true Try.f5.params.toList args.toList ds p := hA0
  rw [Try.params5] at hA hval
  obtain ⟨v0, vs0, d0, ds0, p0, q0, hargs, rfl, rfl, h0, r0⟩ := trodAll_cons hA
  obtain ⟨rfl, rfl, rfl⟩ := trodAll_nil r0
  obtain rfl : args = #[v0] := by cases args; simp_all
  obtain ⟨rfl, rfl⟩ := trodVars_none hV
  obtain ⟨a0, len0, cap0, rfl⟩ := okWide_slice Try.underlying22 (hval 0 22 v0 rfl rfl)
  have k0 := h0
  have lt0 : ∀ x ∈ p0, x.block < W.heap.size := by obtain ⟨m, hm⟩ := k0; exact DataW.trod_lt m _ _ _ hm
  obtain ⟨z0, w0⟩ : ∃ zs, IsRow .u8 W a0 len0 cap0 zs := by
    obtain ⟨fuel, hf⟩ := h0
    rcases open_ints Try.underlying22 Try.underlying5 (by kernel_rfl) hf with ⟨hcs, _⟩ | ⟨x, l, c, zs, hcs, _, hl, hm, hz, _, hcell, hwz⟩
    · simp [Value.cells] at hcs
      obtain ⟨rfl, rfl, rfl⟩ := hcs
      exact ⟨[], .inl ⟨rfl, rfl, rfl, rfl⟩⟩
    · simp [Value.cells] at hcs
      obtain ⟨rfl, rfl, rfl⟩ := hcs
      exact ⟨zs, .inr ⟨_, rfl, hl, hm, by simpa using hz, hcell, hwz⟩⟩
  clear hA0 hval0
  refine (walk a0 len0 cap0 z0 W w0).mono fun e W' ⟨he, bel⟩ => ?_
  subst he
  exact ⟨_, rfl, _, _, _, [], _, [], hW', trodAll_mk1 (shut_bool Try.underlying4 _), (trodAll_cons_mk (Below.trod laidOut (by kernel_rfl) (of_decide_eq_true (by kernel_rfl)) k0 bel lt0) trodAll_mk0), rfl, bel.frame _, fun h => by cases h⟩

theorem over : Rows.fnTokenIsVisibleWithoutDelimitersRow.holds Try.pinned (OpenSpec.ofChange Rows.fnTokenIsVisibleWithoutDelimitersSpec) :=
  OpenClaim.holds_of_wide 5 Try.f5 rfl rfl rfl rfl rfl rfl rfl ⟨rfl, rfl, rfl, rfl, rfl⟩ rfl rfl rfl rfl rfl (by kernel_rfl) Try.func5 (by kernel_rfl)
    (of_decide_eq_true (by kernel_rfl)) (by unfold Func.isWrapper; first | (rw [if_pos (by decide +kernel)]; kernel_rfl) | (rw [if_neg (by decide +kernel)]; exact ⟨rfl, rfl⟩))
    (fun os started H enc _ => lifted os started H enc)

/-- ████ THE STATEMENT ████ -/
theorem proved : Rows.FnTokenIsVisibleWithoutDelimitersSaid := over
end Go.Proofs.Qxb6003453a.fnTokenIsVisibleWithoutDelimiters
