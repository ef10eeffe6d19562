/-
  Proved: laws.FnRequest returns true for every version and every number that is sent. Conditions: none beyond the given statement's own.
  The row's frame below is the kit's own skeleton (proof-skeleton.mjs), closed by 'Below' as the skeleton for slices closes it; the walk is by the contracts of this claim's other texts.
-/
import Derived.Test.YtbalnfkglnimeaaDoorRows
import Derived.Test.YtbalnfkglnimeaaDoorFnRequest
import Derived.WalkKit
import Derived.ProofKit
import Derived.OpenShut
import Derived.ShutString
import Derived.ChangeOld
import Derived.Below
namespace Go.Proofs.YtbalnfkglnimeaaDoor.fnRequest
open Go.ChangeShapes Go.WideShapes Go.ChangeAt Go.RowKit
open Go.ChangeMaps (open_string shut_string)
set_option linter.unusedVariables false      -- a walk need not use every 'w<i>' (that an integer argument fits its kind)

theorem own : ownKnob Tryd.prog.godebug = none := by kernel_rfl

/-! ### STEP 1: THE WALK -/
theorem walk (a0 : Int) (a1 : Int) (w1 : (Lit.int .u64 a1).wf = true) (w : World) :
    Calls Tryd.prog 4 #[.int .i64 a0, .int .u64 a1] w fun e w' => e = .returned (.bool true) ∧ Below w.heap.size w w' := by
  have hb : Hid (0 ≤ a1 ∧ a1 < 18446744073709551616) := Lib.hid (by
    have hmin : IntKind.u64.min = 0 := rfl
    have hmax : IntKind.u64.max = 18446744073709551615 := rfl
    simp only [Lit.wf, Bool.and_eq_true, decide_eq_true_eq] at w1
    omega)
  clear w1
  by_cases h3 : a0 = 3
  · subst h3; exact fnRequest_three a1 hb w
  by_cases h4 : a0 = 4
  · subst h4; exact fnRequest_four a1 hb w
  exact fnRequest_else a0 a1 w (by simpa using h3) (by simpa using h4)

/-! ### THE ROW's STEP: WRITTEN OUT: LEAVE IT -/
set_option maxRecDepth 100000 in
theorem lifted (os : Os) (started : os.Started) (H : Type) (enc : TypeId × Value → H) :
    ReturnsInHanded {} Tryd.checked os 4 .any (Rows.fnRequestSpec.pre6 enc Tryd.prog Tryd.f4 Rows.fnRequestRow.domain false) (Rows.fnRequestSpec.post enc Tryd.prog Tryd.f4 false true false false) := by
  refine returnsInHanded_of_change (C := Tryd.checked) own started (by kernel_rfl) Tryd.func4
    (ChangeSpec.witness6 (enc := enc) (C := Tryd.checked) false ⟨#[], #[.int .i64 0, .int .u64 0], []⟩ 8 (by kernel_rfl) (by kernel_rfl) (by kernel_rfl) (by kernel_rfl)) ?_
  intro W base args ds gs before hval0 hW hcnd _
  have hval : ∀ (j : Nat) t v, Tryd.f4.params[j]? = some t → args[j]? = some v → Value.okWide Tryd.prog W .any base t v := hval0
  have hW' := hW
  obtain ⟨p, q, hA0, hV, rfl, hfz, hnd⟩ := hW
  have hA : DataW.TrodAll enc Tryd.prog W 0 (fun _ => true) true Tryd.f4.params.toList args.toList ds p := hA0
  rw [Tryd.params4] at hA hval
  obtain ⟨v0, vs0, d0, ds0, p0, q0, hargs, rfl, rfl, h0, r0⟩ := trodAll_cons hA
  obtain ⟨v1, vs1, d1, ds1, p1, q1, rfl, rfl, rfl, h1, r1⟩ := trodAll_cons r0
  obtain ⟨rfl, rfl, rfl⟩ := trodAll_nil r1
  obtain rfl : args = #[v0, v1] := by cases args; simp_all
  obtain ⟨rfl, rfl⟩ := trodVars_none hV
  obtain ⟨a0, rfl, rfl, rfl, w0⟩ := open_int Tryd.underlying3 (hval 0 3 v0 rfl rfl) h0
  obtain ⟨a1, rfl, rfl, rfl, w1⟩ := open_int Tryd.underlying29 (hval 1 29 v1 rfl rfl) h1
  clear hA0 hval0
  simp only [List.append_nil] at hW'
  refine (walk a0 a1 w1 W).mono fun e W' ⟨he, bel⟩ => ?_
  subst he
  exact ⟨_, rfl, _, _, _, [], [], [], hW', trodAll_mk1 (shut_bool Tryd.underlying4 _), (trodAll_cons_mk (shut_int Tryd.underlying3 w0) (trodAll_cons_mk (shut_int Tryd.underlying29 w1) trodAll_mk0)), rfl, bel.frame _, fun h => by cases h⟩

theorem over : Rows.fnRequestRow.holds Tryd.pinned (OpenSpec.ofChange Rows.fnRequestSpec) :=
  OpenClaim.holds_of_wide 4 Tryd.f4 rfl rfl rfl rfl rfl rfl rfl ⟨rfl, rfl, rfl, rfl, rfl⟩ rfl rfl rfl rfl rfl (by kernel_rfl) Tryd.func4 (by kernel_rfl)
    (of_decide_eq_true (by kernel_rfl)) (by unfold Func.isWrapper; first | (rw [if_pos (by decide +kernel)]; kernel_rfl) | (rw [if_neg (by decide +kernel)]; exact ⟨rfl, rfl⟩))
    (fun os started H enc _ => lifted os started H enc)

/-- ████ THE STATEMENT ████ -/
theorem proved : Rows.FnRequestSaid :=
  over
#print axioms proved
end Go.Proofs.YtbalnfkglnimeaaDoor.fnRequest
