/-
  THE PROOF OF 'Rows.FnErrorEqualsRefusesOtherTypesSaid'. The walk is 'law4' (YoefowRef); the row's step is the seed's shell of the other statement, turned to (int64, float64, string).
-/
import Derived.Test.YoefowRows
import Derived.Test.YoefowRef
import Derived.Laws.Cover2
import Derived.WalkKit
import Derived.ProofKit
import Derived.OpenShut
import Derived.ShutString
namespace Go.Proofs.Yoefow.fnErrorEqualsRefusesOtherTypes
open Go.ChangeShapes Go.WideShapes Go.ChangeAt Go.RowKit
open Go.ChangeMaps (open_string shut_string)
set_option linter.unusedVariables false      -- a walk need not use every 'w<i>' (that an integer argument fits its kind)

theorem own : ownKnob Efog.prog.godebug = none := by kernel_rfl

/-- The Go text returns true; the world has at most new blocks. -/
theorem walk (a0 : Int) (a1 : Nat) (a2 : ByteArray) (w : World) :
    Calls Efog.prog 4 #[.int .i64 a0, .float .f64 a1, .string a2] w fun e w' => e = .returned (.bool true) ∧ Grown w w' :=
  law4 a0 a1 a2 w

/-! ### The row's step -/
set_option maxRecDepth 100000 in
theorem lifted (os : Os) (started : os.Started) (H : Type) (enc : TypeId × Value → H) :
    ReturnsInHanded {} Efog.checked os 4 .any (Rows.fnErrorEqualsRefusesOtherTypesSpec.pre6 enc Efog.prog Efog.f4 Rows.fnErrorEqualsRefusesOtherTypesRow.domain false) (Rows.fnErrorEqualsRefusesOtherTypesSpec.post enc Efog.prog Efog.f4 false true false false) := by
  refine returnsInHanded_of_change (C := Efog.checked) own started (by kernel_rfl) Efog.func4
    (ChangeSpec.witness6 (enc := enc) (C := Efog.checked) false ⟨#[], #[.int .i64 0, .float .f64 0, .string ⟨#[]⟩], []⟩ 8 (by kernel_rfl) (by kernel_rfl) (by kernel_rfl) (by kernel_rfl)) ?_
  intro W base args ds gs before hval0 hW hcnd _
  have hval : ∀ (j : Nat) t v, Efog.f4.params[j]? = some t → args[j]? = some v → Value.okWide Efog.prog W .any base t v := hval0
  have hW' := hW
  obtain ⟨p, q, hA0, hV, rfl, hfz, hnd⟩ := hW
  have hA : DataW.TrodAll enc Efog.prog W 0 (fun _ => true) true Efog.f4.params.toList args.toList ds p := hA0
  rw [Efog.params4] at hA hval
  obtain ⟨v0, vs0, d0, ds0, p0, q0, hargs, rfl, rfl, h0, r0⟩ := trodAll_cons hA
  obtain ⟨v1, vs1, d1, ds1, p1, q1, rfl, rfl, rfl, h1, r1⟩ := trodAll_cons r0
  obtain ⟨v2, vs2, d2, ds2, p2, q2, rfl, rfl, rfl, h2, r2⟩ := trodAll_cons r1
  obtain ⟨rfl, rfl, rfl⟩ := trodAll_nil r2
  obtain rfl : args = #[v0, v1, v2] := by cases args; simp_all
  obtain ⟨rfl, rfl⟩ := trodVars_none hV
  obtain ⟨a0, rfl, rfl, rfl, w0⟩ := open_int Efog.underlying2 (hval 0 2 v0 rfl rfl) h0
  obtain ⟨a1, rfl, rfl, rfl, w1⟩ := open_float Efog.underlying35 (hval 1 35 v1 rfl rfl) h1
  obtain ⟨a2, rfl, rfl, rfl, w2⟩ := open_string Efog.underlying9 (hval 2 9 v2 rfl rfl) h2
  clear hA0 hval0
  simp only [List.append_nil] at hW'
  refine (walk a0 a1 a2 W).mono fun e W' ⟨he, hg⟩ => ?_
  subst he
  exact ⟨_, rfl, post_of_same (pa := []) (pv := []) hW' (fun _ _ _ => (trodAll_cons_mk (shut_bool Efog.underlying4 _) trodAll_mk0)) (fun sp _ => (trodAll_cons_mk (shut_int Efog.underlying2 w0) (trodAll_cons_mk (shut_float Efog.underlying35 w1) (trodAll_cons_mk (shut_string Efog.underlying9 w2) trodAll_mk0)))) (fun _ _ => rfl) rfl
    (hg.frame _) hg.2.1 (ok_one (by kernel_rfl) rfl (okWide_bool_mk Efog.underlying4 _))⟩

theorem over : Rows.fnErrorEqualsRefusesOtherTypesRow.holds Efog.pinned (OpenSpec.ofChange Rows.fnErrorEqualsRefusesOtherTypesSpec) :=
  OpenClaim.holds_of_wide 4 Efog.f4 rfl rfl rfl rfl rfl rfl rfl ⟨rfl, rfl, rfl, rfl, rfl⟩ rfl rfl rfl rfl rfl (by kernel_rfl) Efog.func4 (by kernel_rfl)
    (of_decide_eq_true (by kernel_rfl)) (by unfold Func.isWrapper; first | (rw [if_pos (by decide +kernel)]; kernel_rfl) | (rw [if_neg (by decide +kernel)]; exact ⟨rfl, rfl⟩))
    (fun os started H enc _ => lifted os started H enc)

end Go.Proofs.Yoefow.fnErrorEqualsRefusesOtherTypes

namespace Go.Proofs.Yoefow
theorem fnErrorEqualsRefusesOtherTypes_holds : Rows.FnErrorEqualsRefusesOtherTypesSaid := fnErrorEqualsRefusesOtherTypes.over
end Go.Proofs.Yoefow
