/-
  A PROOF OF 'Rows.FnSyntaxFunctionsGivesAFreshListSaid'.
-/
import Derived.Test.Qxb6615509aOpen
import Derived.Test.Qxb6615509aLawThree
import Derived.OpenShut
import Derived.ShutString
import Derived.ChangeOld
namespace Go.Proofs.Qxb6615509a.Three
open Go.ChangeShapes Go.WideShapes Go.ChangeAt Go.RowKit

set_option maxRecDepth 100000 in
theorem lifted (os : Os) (started : os.Started) (H : Type) (enc : TypeId × Value → H) :
    ReturnsInHanded {} Try.checked os 4 .any (Rows.fnSyntaxFunctionsGivesAFreshListSpec.pre6 enc Try.prog Try.f4 Rows.fnSyntaxFunctionsGivesAFreshListRow.domain false) (Rows.fnSyntaxFunctionsGivesAFreshListSpec.post enc Try.prog Try.f4 false true false false) := by
  refine returnsInHanded_of_change (C := Try.checked) own started (by kernel_rfl) Try.func4
    (ChangeSpec.witness6 (enc := enc) (C := Try.checked) false ⟨#[], #[.slice none 0 0, .slice none 0 0, .slice none 0 0], []⟩ 8 (by kernel_rfl) (by kernel_rfl) (by kernel_rfl) (by kernel_rfl)) ?_
  intro W base args ds gs before hval0 hW hcnd _
  have hval : ∀ (j : Nat) t v, Try.f4.params[j]? = some t → args[j]? = some v → Value.okWide Try.prog W .any base t v := hval0
  have hW' := hW
  obtain ⟨p, q, hA0, hV, rfl, hfz, hnd⟩ := hW
  have hA : DataW.TrodAll enc Try.prog W 0 (fun _ => true) true Try.f4.params.toList args.toList ds p := hA0
  rw [Try.params4] at hA hval
  obtain ⟨v0, v1, v2, d0, d1, d2, p0, p1, p2, rfl, rfl, rfl, h0, h1, h2⟩ := trodAll_three hA
  obtain ⟨rfl, rfl⟩ := trodVars_none hV
  obtain ⟨a0, len0, cap0, rfl⟩ := okWide_slice Try.underlying22 (hval 0 22 v0 rfl rfl)
  obtain ⟨a1, len1, cap1, rfl⟩ := okWide_slice Try.underlying22 (hval 1 22 v1 rfl rfl)
  obtain ⟨a2, len2, cap2, rfl⟩ := okWide_slice Try.underlying22 (hval 2 22 v2 rfl rfl)
  have k0 := h0
  have k1 := h1
  have k2 := h2
  have lt0 : ∀ x ∈ p0, x.block < W.heap.size := by obtain ⟨m, hm⟩ := k0; exact DataW.trod_lt m _ _ _ hm
  have lt1 : ∀ x ∈ p1, x.block < W.heap.size := by obtain ⟨m, hm⟩ := k1; exact DataW.trod_lt m _ _ _ hm
  have lt2 : ∀ x ∈ p2, x.block < W.heap.size := by obtain ⟨m, hm⟩ := k2; exact DataW.trod_lt m _ _ _ hm
  obtain ⟨A, rfl, w0⟩ : ∃ A : List Decl, len0 = A.length ∧ DRow W (.slice a0 len0 cap0) A := by
    obtain ⟨fuel, hf⟩ := h0
    obtain ⟨v, A, hcs, hd⟩ := drow_of_trod hf
    simp [Value.cells] at hcs
    subst hcs
    obtain ⟨oa, c, he⟩ := hd.form
    cases he
    exact ⟨A, rfl, hd⟩
  obtain ⟨B, rfl, w1⟩ : ∃ B : List Decl, len1 = B.length ∧ DRow W (.slice a1 len1 cap1) B := by
    obtain ⟨fuel, hf⟩ := h1
    obtain ⟨v, B, hcs, hd⟩ := drow_of_trod hf
    simp [Value.cells] at hcs
    subst hcs
    obtain ⟨oa, c, he⟩ := hd.form
    cases he
    exact ⟨B, rfl, hd⟩
  obtain ⟨C, rfl, w2⟩ : ∃ C : List Decl, len2 = C.length ∧ DRow W (.slice a2 len2 cap2) C := by
    obtain ⟨fuel, hf⟩ := h2
    obtain ⟨v, C, hcs, hd⟩ := drow_of_trod hf
    simp [Value.cells] at hcs
    subst hcs
    obtain ⟨oa, c, he⟩ := hd.form
    cases he
    exact ⟨C, rfl, hd⟩
  clear hA0 hval0
  refine (law_three a0 cap0 A a1 cap1 B a2 cap2 C W w0 w1 w2).mono fun e W' ⟨he, bel⟩ => ?_
  subst he
  exact ⟨_, rfl, _, _, _, [], _, [], hW', trodAll_mk1 (shut_bool Try.underlying4 _), trodAll_mk3 (Below.trod laidOut (by kernel_rfl) (of_decide_eq_true (by kernel_rfl)) k0 bel lt0) (Below.trod laidOut (by kernel_rfl) (of_decide_eq_true (by kernel_rfl)) k1 bel lt1) (Below.trod laidOut (by kernel_rfl) (of_decide_eq_true (by kernel_rfl)) k2 bel lt2), rfl, bel.frame _, fun h => by cases h⟩

theorem over : Rows.fnSyntaxFunctionsGivesAFreshListRow.holds Try.pinned (OpenSpec.ofChange Rows.fnSyntaxFunctionsGivesAFreshListSpec) :=
  OpenClaim.holds_of_wide 4 Try.f4 rfl rfl rfl rfl rfl rfl rfl ⟨rfl, rfl, rfl, rfl, rfl⟩ rfl rfl rfl rfl rfl (by kernel_rfl) Try.func4 (by kernel_rfl)
    (of_decide_eq_true (by kernel_rfl)) (by unfold Func.isWrapper; first | (rw [if_pos (by decide +kernel)]; kernel_rfl) | (rw [if_neg (by decide +kernel)]; exact ⟨rfl, rfl⟩))
    (fun os started H enc _ => lifted os started H enc)

/-- ████ THE STATEMENT ████ -/
theorem proved : Rows.FnSyntaxFunctionsGivesAFreshListSaid := over
end Go.Proofs.Qxb6615509a.Three
