/-
  THE PROOF OF FnEscapeSPCInjectiveSaid.
-/
import Derived.Test.Qxb6600747aRows
import Derived.Test.Qxb6600747aWalk
import Derived.WalkKit
import Derived.ProofKit
import Derived.OpenShut
import Derived.ShutString
import Derived.ChangeOld
import Derived.Below
namespace Go.Proofs.Qxb6600747a.fnEscapeSPCInjective
open Go.ChangeShapes Go.WideShapes Go.ChangeAt Go.RowKit
open Go.ChangeMaps (open_string shut_string)
set_option linter.unusedVariables false      -- a walk need not use every 'w<i>' (that an integer argument fits its kind)

theorem own : ownKnob Try.prog.godebug = none := by kernel_rfl

def IsBool (e : Ending) : Prop := ∃ x, e = .returned (.bool x)

set_option maxRecDepth 100000 in
theorem bytes11 (a0 : ByteArray) (a1 : ByteArray) (w0 : a0.size ≤ maxLen) (w1 : a1.size ≤ maxLen) (w : World) :
    Calls Try.prog 11 #[.string a0, .string a1] w fun e w' => IsBool e ∧ w = w' := by
  by_cases h0 : a0.size ≤ 1048576
  · by_cases h1 : a1.size ≤ 1048576
    · by_cases h2 : a0.size + a1.size ≤ 1048576
      all_goals
        go_enter Try.func11, Try.ntmps11
        go_wp2
        all_goals
          go_ret
          exact ⟨⟨_, rfl⟩, rfl⟩
    · go_enter Try.func11, Try.ntmps11
      go_wp2
      all_goals
        go_ret
        exact ⟨⟨_, rfl⟩, rfl⟩
  · go_enter Try.func11, Try.ntmps11
    go_wp2
    all_goals
      go_ret
      exact ⟨⟨_, rfl⟩, rfl⟩

/-! ### STEP 1: THE WALK: the Go text returns true. the frame is 'Below' (String() freezes a new block, so 'Grown' does not hold). Part the cases AHEAD of 'go_enter' where a test parts the walk; take each callee by a contract of your own. -/
set_option maxRecDepth 100000 in
theorem walk (a0 : ByteArray) (a1 : ByteArray) (w0 : a0.size ≤ maxLen) (w1 : a1.size ≤ maxLen) (w : World) :
    Calls Try.prog 5 #[.string a0, .string a1] w fun e w' => e = .returned (.bool true) ∧ Below w.heap.size w w' := by
  go_enter Try.func5, Try.ntmps5
  go_wp2_with fail
  refine (bytes11 a0 a1 w0 w1 w).mono ?_
  rintro e _ ⟨⟨x, rfl⟩, rfl⟩
  cases x
  · go_wp2_with fail
    go_ret
    exact ⟨rfl, Below.refl _ _⟩
  · by_cases h0 : a0.size ≤ 524288
    · by_cases h1 : a1.size ≤ 524288
      · go_wp2_with fail
        refine (esc7 a0 w (by omega)).mono ?_
        rintro e W1 ⟨rfl, b1⟩
        go_wp2_with fail
        refine (esc7 a1 W1 (by omega)).mono ?_
        rintro e W2 ⟨rfl, b2⟩
        go_wp2_with fail
        go_ret
        refine ⟨?_, b1.trans (b2.mono b1.size)⟩
        rw [ByteArray.toList_eq, ByteArray.toList_eq]
        by_cases he : a0.data.toList = a1.data.toList
        · simp [he]
        · have hn : ¬ esc a0.data.toList = esc a1.data.toList := fun h => he (esc_inj _ _ h)
          simp [beq_eq_false_iff_ne.2 he, beq_eq_false_iff_ne.2 hn]
      · go_wp2_with fail
        go_ret
        exact ⟨rfl, Below.refl _ _⟩
    · go_wp2_with fail
      go_ret
      exact ⟨rfl, Below.refl _ _⟩

/-! ### THE ROW's STEP: WRITTEN OUT: LEAVE IT -/
set_option maxRecDepth 100000 in
theorem lifted (os : Os) (started : os.Started) (H : Type) (enc : TypeId × Value → H) :
    ReturnsInHanded {} Try.checked os 5 .any (Rows.fnEscapeSPCInjectiveSpec.pre6 enc Try.prog Try.f5 Rows.fnEscapeSPCInjectiveRow.domain false) (Rows.fnEscapeSPCInjectiveSpec.post enc Try.prog Try.f5 false true false false) := by
  refine returnsInHanded_of_change (C := Try.checked) own started (by kernel_rfl) Try.func5
    (ChangeSpec.witness6 (enc := enc) (C := Try.checked) false ⟨#[], #[.string ByteArray.empty, .string ByteArray.empty], []⟩ 8 (by kernel_rfl) (by kernel_rfl) (by kernel_rfl) (by kernel_rfl)) ?_
  intro W base args ds gs before hval0 hW hcnd _
  have hval : ∀ (j : Nat) t v, Try.f5.params[j]? = some t → args[j]? = some v → Value.okWide Try.prog W .any base t v := hval0
  have hW' := hW
  obtain ⟨p, q, hA0, hV, rfl, hfz, hnd⟩ := hW
  have hA : DataW.TrodAll enc Try.prog W 0 (fun _ => true) true Try.f5.params.toList args.toList ds p := hA0
  rw [Try.params5] at hA hval
  obtain ⟨v0, vs0, d0, ds0, p0, q0, hargs, rfl, rfl, h0, r0⟩ := trodAll_cons hA
  obtain ⟨v1, vs1, d1, ds1, p1, q1, rfl, rfl, rfl, h1, r1⟩ := trodAll_cons r0
  obtain ⟨rfl, rfl, rfl⟩ := trodAll_nil r1
  obtain rfl : args = #[v0, v1] := by cases args; simp_all
  obtain ⟨rfl, rfl⟩ := trodVars_none hV
  obtain ⟨a0, rfl, rfl, rfl, w0⟩ := open_string Try.underlying9 (hval 0 9 v0 rfl rfl) h0
  obtain ⟨a1, rfl, rfl, rfl, w1⟩ := open_string Try.underlying9 (hval 1 9 v1 rfl rfl) h1
  clear hA0 hval0
  refine (walk a0 a1 w0 w1 W).mono fun e W' ⟨he, bel⟩ => ?_
  subst he
  exact ⟨_, rfl, _, _, _, [], _, [], hW', trodAll_mk1 (shut_bool Try.underlying4 _), (trodAll_cons_mk (shut_string Try.underlying9 w0) (trodAll_cons_mk (shut_string Try.underlying9 w1) trodAll_mk0)), rfl, bel.frame _, fun h => by cases h⟩

theorem over : Rows.fnEscapeSPCInjectiveRow.holds Try.pinned (OpenSpec.ofChange Rows.fnEscapeSPCInjectiveSpec) :=
  OpenClaim.holds_of_wide 5 Try.f5 rfl rfl rfl rfl rfl rfl rfl ⟨rfl, rfl, rfl, rfl, rfl⟩ rfl rfl rfl rfl rfl (by kernel_rfl) Try.func5 (by kernel_rfl)
    (of_decide_eq_true (by kernel_rfl)) (by unfold Func.isWrapper; first | (rw [if_pos (by decide +kernel)]; kernel_rfl) | (rw [if_neg (by decide +kernel)]; exact ⟨rfl, rfl⟩))
    (fun os started H enc _ => lifted os started H enc)

/-- ████ THE STATEMENT ████ -/
theorem proved : Rows.FnEscapeSPCInjectiveSaid :=
  over
#print axioms proved
end Go.Proofs.Qxb6600747a.fnEscapeSPCInjective
