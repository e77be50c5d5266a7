/-
  FnStoreAgreesWithLastWriteModel: the row (the frame after the kit's template).
-/
import Derived.Test.Qxb6600882aRows
import Derived.WalkKit
import Derived.ProofKit
import Derived.OpenShut
import Derived.ShutString
import Derived.Test.Qxb6600882aFrame
import Derived.Test.Qxb6600882aLast
namespace Go.Proofs.Qxb6600882a.fnStoreAgreesWithLastWriteModel
open Go.ChangeShapes Go.WideShapes Go.ChangeAt Go.RowKit
open Go.ChangeMaps (open_string shut_string)
set_option linter.unusedVariables false

set_option maxRecDepth 100000 in
theorem lifted (os : Os) (started : os.Started) (H : Type) (enc : TypeId × Value → H) :
    ReturnsInHanded {} Try.checked os 3 .any (Rows.fnStoreAgreesWithLastWriteModelSpec.pre6 enc Try.prog Try.f3 Rows.fnStoreAgreesWithLastWriteModelRow.domain false) (Rows.fnStoreAgreesWithLastWriteModelSpec.post enc Try.prog Try.f3 false true false false) := by
  refine returnsInHanded_of_change (C := Try.checked) ownK started (by kernel_rfl) Try.func3
    (ChangeSpec.witness6 (enc := enc) (C := Try.checked) false ⟨#[], #[.slice none 0 0, .slice none 0 0, .slice none 0 0], []⟩ 8 (by kernel_rfl) (by kernel_rfl) (by kernel_rfl) (by kernel_rfl)) ?_
  intro W base args ds gs before hval0 hW hcnd _
  have hval : ∀ (j : Nat) t v, Try.f3.params[j]? = some t → args[j]? = some v → Value.okWide Try.prog W .any base t v := hval0
  have hW' := hW
  obtain ⟨p, q, hA0, hV, rfl, hfz, hnd⟩ := hW
  have hA : DataW.TrodAll enc Try.prog W 0 (fun _ => true) true Try.f3.params.toList args.toList ds p := hA0
  rw [Try.params3] at hA hval
  obtain ⟨v0, vs0, d0, ds0, p0, q0, hargs, rfl, rfl, h0, r0⟩ := trodAll_cons hA
  obtain ⟨v1, vs1, d1, ds1, p1, q1, rfl, rfl, rfl, h1, r1⟩ := trodAll_cons r0
  obtain ⟨v2, vs2, d2, ds2, p2, q2, rfl, rfl, rfl, h2, r2⟩ := trodAll_cons r1
  obtain ⟨rfl, rfl, rfl⟩ := trodAll_nil r2
  obtain rfl : args = #[v0, v1, v2] := by cases args; simp_all
  obtain ⟨rfl, rfl⟩ := trodVars_none hV
  obtain ⟨a0, n0, c0, x0, rfl, s0⟩ := open_arg (hval 0 22 v0 rfl rfl) h0
  obtain ⟨a1, n1, c1, x1, rfl, s1⟩ := open_arg (hval 1 22 v1 rfl rfl) h1
  obtain ⟨a2, n2, c2, x2, rfl, s2⟩ := open_arg (hval 2 22 v2 rfl rfl) h2
  clear hA0 hval0
  have hlt := hW'.lt
  simp only [List.append_nil] at hW' hlt
  refine (last_any W a0 n0 c0 x0 s0 a1 n1 c1 x1 s1 a2 n2 c2 x2 s2).mono fun e W' ⟨he, hg⟩ => ?_
  subst he
  have hb : Below W.heap.size W W' := hg.below _ (Nat.le_refl _) (by simp)
  have l0 : ∀ x ∈ p0, x.block < W.heap.size := fun x hx => by simpa using hlt x (by simp [hx])
  have l1 : ∀ x ∈ p1, x.block < W.heap.size := fun x hx => by simpa using hlt x (by simp [hx])
  have l2 : ∀ x ∈ p2, x.block < W.heap.size := fun x hx => by simpa using hlt x (by simp [hx])
  refine ⟨_, rfl, ⟨_, _, _, [], p0 ++ (p1 ++ p2), [], hW', trodAll_cons_mk (shut_bool Try.underlying4 _) trodAll_mk0, ?_, rfl, hb.frame _, fun h => by cases h⟩⟩
  have hshut := trodAll_cons_mk (shut_arg h0 hb l0) (trodAll_cons_mk (shut_arg h1 hb l1) (trodAll_cons_mk (shut_arg h2 hb l2) (trodAll_mk0)))
  simp only [List.append_nil] at hshut
  exact hshut

theorem over : Rows.fnStoreAgreesWithLastWriteModelRow.holds Try.pinned (OpenSpec.ofChange Rows.fnStoreAgreesWithLastWriteModelSpec) :=
  OpenClaim.holds_of_wide 3 Try.f3 rfl rfl rfl rfl rfl rfl rfl ⟨rfl, rfl, rfl, rfl, rfl⟩ rfl rfl rfl rfl rfl (by kernel_rfl) Try.func3 (by kernel_rfl)
    (of_decide_eq_true (by kernel_rfl)) (by unfold Func.isWrapper; first | (rw [if_pos (by decide +kernel)]; kernel_rfl) | (rw [if_neg (by decide +kernel)]; exact ⟨rfl, rfl⟩))
    (fun os started H enc _ => lifted os started H enc)

/-- The statement. -/
theorem proved : Rows.FnStoreAgreesWithLastWriteModelSaid :=
  over

end Go.Proofs.Qxb6600882a.fnStoreAgreesWithLastWriteModel
