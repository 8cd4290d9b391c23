/-
  A PROOF OF 'Rows.FnBetterBestOfThreeIsLatestRoundLeastProposerSaid': the frame by the guide's skeleton tool, the walks filled by hand: one case for each order of the rounds and, among equal rounds, of the proposers.
-/
import Derived.Test.Qxb6615479aRows
import Derived.WalkKit
import Derived.ProofKit
import Derived.OpenShut
import Derived.ShutString
namespace Go.Proofs.Qxb6615479a.fnBetterBestOfThreeIsLatestRoundLeastProposer
open Go.ChangeShapes Go.WideShapes Go.ChangeAt Go.RowKit
open Go.ChangeMaps (open_string shut_string)
set_option linter.unusedVariables false      -- a walk need not use every 'w<i>' (that an integer argument fits its kind)

theorem own : ownKnob Try.prog.godebug = none := by kernel_rfl

/-! ### THE WALKS: every test decided ahead -/
theorem way0 (a0 a1 a2 a3 a4 a5 : Int) (h0 : a0 < a2) (h1 : a0 < a4) (h2 : a2 < a4) (w : World) :
    Calls Try.prog 4 #[.int .i64 a0, .int .i64 a1, .int .i64 a2, .int .i64 a3, .int .i64 a4, .int .i64 a5] w fun e w' => e = .returned (.bool true) ∧ Grown w w' := by
  go_enter Try.func4, Try.ntmps4
  go_wp2
  go_ret
  exact ⟨rfl, by repeat (first | exact Grown.refl _ | apply Grown.drew | apply Grown.alloc)⟩
theorem way1 (a0 a1 a2 a3 a4 a5 : Int) (h0 : a0 < a4) (h1 : a0 < a2) (h2 : a4 < a2) (w : World) :
    Calls Try.prog 4 #[.int .i64 a0, .int .i64 a1, .int .i64 a2, .int .i64 a3, .int .i64 a4, .int .i64 a5] w fun e w' => e = .returned (.bool true) ∧ Grown w w' := by
  go_enter Try.func4, Try.ntmps4
  go_wp2
  go_ret
  exact ⟨rfl, by repeat (first | exact Grown.refl _ | apply Grown.drew | apply Grown.alloc)⟩
theorem way2 (a0 a1 a2 a3 a5 : Int) (h0 : a0 < a2) (h1 : a3 < a5) (w : World) :
    Calls Try.prog 4 #[.int .i64 a0, .int .i64 a1, .int .i64 a2, .int .i64 a3, .int .i64 a2, .int .i64 a5] w fun e w' => e = .returned (.bool true) ∧ Grown w w' := by
  go_enter Try.func4, Try.ntmps4
  go_wp2
  go_ret
  exact ⟨rfl, by repeat (first | exact Grown.refl _ | apply Grown.drew | apply Grown.alloc)⟩
theorem way3 (a0 a1 a2 a3 a5 : Int) (h0 : a0 < a2) (h1 : a5 < a3) (w : World) :
    Calls Try.prog 4 #[.int .i64 a0, .int .i64 a1, .int .i64 a2, .int .i64 a3, .int .i64 a2, .int .i64 a5] w fun e w' => e = .returned (.bool true) ∧ Grown w w' := by
  go_enter Try.func4, Try.ntmps4
  go_wp2
  go_ret
  exact ⟨rfl, by repeat (first | exact Grown.refl _ | apply Grown.drew | apply Grown.alloc)⟩
theorem way4 (a0 a1 a2 a3 : Int) (h0 : a0 < a2) (w : World) :
    Calls Try.prog 4 #[.int .i64 a0, .int .i64 a1, .int .i64 a2, .int .i64 a3, .int .i64 a2, .int .i64 a3] w fun e w' => e = .returned (.bool true) ∧ Grown w w' := by
  go_enter Try.func4, Try.ntmps4
  go_wp2
  go_ret
  exact ⟨rfl, by repeat (first | exact Grown.refl _ | apply Grown.drew | apply Grown.alloc)⟩
theorem way5 (a0 a1 a2 a3 a4 a5 : Int) (h0 : a2 < a0) (h1 : a2 < a4) (h2 : a0 < a4) (w : World) :
    Calls Try.prog 4 #[.int .i64 a0, .int .i64 a1, .int .i64 a2, .int .i64 a3, .int .i64 a4, .int .i64 a5] w fun e w' => e = .returned (.bool true) ∧ Grown w w' := by
  go_enter Try.func4, Try.ntmps4
  go_wp2
  go_ret
  exact ⟨rfl, by repeat (first | exact Grown.refl _ | apply Grown.drew | apply Grown.alloc)⟩
theorem way6 (a0 a1 a2 a3 a4 a5 : Int) (h0 : a2 < a4) (h1 : a2 < a0) (h2 : a4 < a0) (w : World) :
    Calls Try.prog 4 #[.int .i64 a0, .int .i64 a1, .int .i64 a2, .int .i64 a3, .int .i64 a4, .int .i64 a5] w fun e w' => e = .returned (.bool true) ∧ Grown w w' := by
  go_enter Try.func4, Try.ntmps4
  go_wp2
  go_ret
  exact ⟨rfl, by repeat (first | exact Grown.refl _ | apply Grown.drew | apply Grown.alloc)⟩
theorem way7 (a0 a1 a2 a3 a5 : Int) (h0 : a2 < a0) (h1 : a1 < a5) (w : World) :
    Calls Try.prog 4 #[.int .i64 a0, .int .i64 a1, .int .i64 a2, .int .i64 a3, .int .i64 a0, .int .i64 a5] w fun e w' => e = .returned (.bool true) ∧ Grown w w' := by
  go_enter Try.func4, Try.ntmps4
  go_wp2
  go_ret
  exact ⟨rfl, by repeat (first | exact Grown.refl _ | apply Grown.drew | apply Grown.alloc)⟩
theorem way8 (a0 a1 a2 a3 a5 : Int) (h0 : a2 < a0) (h1 : a5 < a1) (w : World) :
    Calls Try.prog 4 #[.int .i64 a0, .int .i64 a1, .int .i64 a2, .int .i64 a3, .int .i64 a0, .int .i64 a5] w fun e w' => e = .returned (.bool true) ∧ Grown w w' := by
  go_enter Try.func4, Try.ntmps4
  go_wp2
  go_ret
  exact ⟨rfl, by repeat (first | exact Grown.refl _ | apply Grown.drew | apply Grown.alloc)⟩
theorem way9 (a0 a1 a2 a3 : Int) (h0 : a2 < a0) (w : World) :
    Calls Try.prog 4 #[.int .i64 a0, .int .i64 a1, .int .i64 a2, .int .i64 a3, .int .i64 a0, .int .i64 a1] w fun e w' => e = .returned (.bool true) ∧ Grown w w' := by
  go_enter Try.func4, Try.ntmps4
  go_wp2
  go_ret
  exact ⟨rfl, by repeat (first | exact Grown.refl _ | apply Grown.drew | apply Grown.alloc)⟩
theorem way10 (a0 a1 a3 a4 a5 : Int) (h0 : a0 < a4) (h1 : a1 < a3) (w : World) :
    Calls Try.prog 4 #[.int .i64 a0, .int .i64 a1, .int .i64 a0, .int .i64 a3, .int .i64 a4, .int .i64 a5] w fun e w' => e = .returned (.bool true) ∧ Grown w w' := by
  go_enter Try.func4, Try.ntmps4
  go_wp2
  go_ret
  exact ⟨rfl, by repeat (first | exact Grown.refl _ | apply Grown.drew | apply Grown.alloc)⟩
theorem way11 (a0 a1 a3 a4 a5 : Int) (h0 : a0 < a4) (h1 : a3 < a1) (w : World) :
    Calls Try.prog 4 #[.int .i64 a0, .int .i64 a1, .int .i64 a0, .int .i64 a3, .int .i64 a4, .int .i64 a5] w fun e w' => e = .returned (.bool true) ∧ Grown w w' := by
  go_enter Try.func4, Try.ntmps4
  go_wp2
  go_ret
  exact ⟨rfl, by repeat (first | exact Grown.refl _ | apply Grown.drew | apply Grown.alloc)⟩
theorem way12 (a0 a1 a4 a5 : Int) (h0 : a0 < a4) (w : World) :
    Calls Try.prog 4 #[.int .i64 a0, .int .i64 a1, .int .i64 a0, .int .i64 a1, .int .i64 a4, .int .i64 a5] w fun e w' => e = .returned (.bool true) ∧ Grown w w' := by
  go_enter Try.func4, Try.ntmps4
  go_wp2
  go_ret
  exact ⟨rfl, by repeat (first | exact Grown.refl _ | apply Grown.drew | apply Grown.alloc)⟩
theorem way13 (a0 a1 a2 a3 a4 a5 : Int) (h0 : a4 < a0) (h1 : a4 < a2) (h2 : a0 < a2) (w : World) :
    Calls Try.prog 4 #[.int .i64 a0, .int .i64 a1, .int .i64 a2, .int .i64 a3, .int .i64 a4, .int .i64 a5] w fun e w' => e = .returned (.bool true) ∧ Grown w w' := by
  go_enter Try.func4, Try.ntmps4
  go_wp2
  go_ret
  exact ⟨rfl, by repeat (first | exact Grown.refl _ | apply Grown.drew | apply Grown.alloc)⟩
theorem way14 (a0 a1 a2 a3 a4 a5 : Int) (h0 : a4 < a2) (h1 : a4 < a0) (h2 : a2 < a0) (w : World) :
    Calls Try.prog 4 #[.int .i64 a0, .int .i64 a1, .int .i64 a2, .int .i64 a3, .int .i64 a4, .int .i64 a5] w fun e w' => e = .returned (.bool true) ∧ Grown w w' := by
  go_enter Try.func4, Try.ntmps4
  go_wp2
  go_ret
  exact ⟨rfl, by repeat (first | exact Grown.refl _ | apply Grown.drew | apply Grown.alloc)⟩
theorem way15 (a0 a1 a3 a4 a5 : Int) (h0 : a4 < a0) (h1 : a1 < a3) (w : World) :
    Calls Try.prog 4 #[.int .i64 a0, .int .i64 a1, .int .i64 a0, .int .i64 a3, .int .i64 a4, .int .i64 a5] w fun e w' => e = .returned (.bool true) ∧ Grown w w' := by
  go_enter Try.func4, Try.ntmps4
  go_wp2
  go_ret
  exact ⟨rfl, by repeat (first | exact Grown.refl _ | apply Grown.drew | apply Grown.alloc)⟩
theorem way16 (a0 a1 a3 a4 a5 : Int) (h0 : a4 < a0) (h1 : a3 < a1) (w : World) :
    Calls Try.prog 4 #[.int .i64 a0, .int .i64 a1, .int .i64 a0, .int .i64 a3, .int .i64 a4, .int .i64 a5] w fun e w' => e = .returned (.bool true) ∧ Grown w w' := by
  go_enter Try.func4, Try.ntmps4
  go_wp2
  go_ret
  exact ⟨rfl, by repeat (first | exact Grown.refl _ | apply Grown.drew | apply Grown.alloc)⟩
theorem way17 (a0 a1 a4 a5 : Int) (h0 : a4 < a0) (w : World) :
    Calls Try.prog 4 #[.int .i64 a0, .int .i64 a1, .int .i64 a0, .int .i64 a1, .int .i64 a4, .int .i64 a5] w fun e w' => e = .returned (.bool true) ∧ Grown w w' := by
  go_enter Try.func4, Try.ntmps4
  go_wp2
  go_ret
  exact ⟨rfl, by repeat (first | exact Grown.refl _ | apply Grown.drew | apply Grown.alloc)⟩
theorem way18 (a0 a1 a2 a3 a5 : Int) (h0 : a0 < a2) (h1 : a1 < a5) (w : World) :
    Calls Try.prog 4 #[.int .i64 a0, .int .i64 a1, .int .i64 a2, .int .i64 a3, .int .i64 a0, .int .i64 a5] w fun e w' => e = .returned (.bool true) ∧ Grown w w' := by
  go_enter Try.func4, Try.ntmps4
  go_wp2
  go_ret
  exact ⟨rfl, by repeat (first | exact Grown.refl _ | apply Grown.drew | apply Grown.alloc)⟩
theorem way19 (a0 a1 a2 a3 a5 : Int) (h0 : a0 < a2) (h1 : a5 < a1) (w : World) :
    Calls Try.prog 4 #[.int .i64 a0, .int .i64 a1, .int .i64 a2, .int .i64 a3, .int .i64 a0, .int .i64 a5] w fun e w' => e = .returned (.bool true) ∧ Grown w w' := by
  go_enter Try.func4, Try.ntmps4
  go_wp2
  go_ret
  exact ⟨rfl, by repeat (first | exact Grown.refl _ | apply Grown.drew | apply Grown.alloc)⟩
theorem way20 (a0 a1 a2 a3 : Int) (h0 : a0 < a2) (w : World) :
    Calls Try.prog 4 #[.int .i64 a0, .int .i64 a1, .int .i64 a2, .int .i64 a3, .int .i64 a0, .int .i64 a1] w fun e w' => e = .returned (.bool true) ∧ Grown w w' := by
  go_enter Try.func4, Try.ntmps4
  go_wp2
  go_ret
  exact ⟨rfl, by repeat (first | exact Grown.refl _ | apply Grown.drew | apply Grown.alloc)⟩
theorem way21 (a0 a1 a2 a3 a5 : Int) (h0 : a2 < a0) (h1 : a3 < a5) (w : World) :
    Calls Try.prog 4 #[.int .i64 a0, .int .i64 a1, .int .i64 a2, .int .i64 a3, .int .i64 a2, .int .i64 a5] w fun e w' => e = .returned (.bool true) ∧ Grown w w' := by
  go_enter Try.func4, Try.ntmps4
  go_wp2
  go_ret
  exact ⟨rfl, by repeat (first | exact Grown.refl _ | apply Grown.drew | apply Grown.alloc)⟩
theorem way22 (a0 a1 a2 a3 a5 : Int) (h0 : a2 < a0) (h1 : a5 < a3) (w : World) :
    Calls Try.prog 4 #[.int .i64 a0, .int .i64 a1, .int .i64 a2, .int .i64 a3, .int .i64 a2, .int .i64 a5] w fun e w' => e = .returned (.bool true) ∧ Grown w w' := by
  go_enter Try.func4, Try.ntmps4
  go_wp2
  go_ret
  exact ⟨rfl, by repeat (first | exact Grown.refl _ | apply Grown.drew | apply Grown.alloc)⟩
theorem way23 (a0 a1 a2 a3 : Int) (h0 : a2 < a0) (w : World) :
    Calls Try.prog 4 #[.int .i64 a0, .int .i64 a1, .int .i64 a2, .int .i64 a3, .int .i64 a2, .int .i64 a3] w fun e w' => e = .returned (.bool true) ∧ Grown w w' := by
  go_enter Try.func4, Try.ntmps4
  go_wp2
  go_ret
  exact ⟨rfl, by repeat (first | exact Grown.refl _ | apply Grown.drew | apply Grown.alloc)⟩
theorem way24 (a0 a1 a3 a5 : Int) (h0 : a1 < a3) (h1 : a1 < a5) (h2 : a3 < a5) (w : World) :
    Calls Try.prog 4 #[.int .i64 a0, .int .i64 a1, .int .i64 a0, .int .i64 a3, .int .i64 a0, .int .i64 a5] w fun e w' => e = .returned (.bool true) ∧ Grown w w' := by
  go_enter Try.func4, Try.ntmps4
  go_wp2
  go_ret
  exact ⟨rfl, by repeat (first | exact Grown.refl _ | apply Grown.drew | apply Grown.alloc)⟩
theorem way25 (a0 a1 a3 a5 : Int) (h0 : a1 < a5) (h1 : a1 < a3) (h2 : a5 < a3) (w : World) :
    Calls Try.prog 4 #[.int .i64 a0, .int .i64 a1, .int .i64 a0, .int .i64 a3, .int .i64 a0, .int .i64 a5] w fun e w' => e = .returned (.bool true) ∧ Grown w w' := by
  go_enter Try.func4, Try.ntmps4
  go_wp2
  go_ret
  exact ⟨rfl, by repeat (first | exact Grown.refl _ | apply Grown.drew | apply Grown.alloc)⟩
theorem way26 (a0 a1 a3 : Int) (h0 : a1 < a3) (w : World) :
    Calls Try.prog 4 #[.int .i64 a0, .int .i64 a1, .int .i64 a0, .int .i64 a3, .int .i64 a0, .int .i64 a3] w fun e w' => e = .returned (.bool true) ∧ Grown w w' := by
  go_enter Try.func4, Try.ntmps4
  go_wp2
  go_ret
  exact ⟨rfl, by repeat (first | exact Grown.refl _ | apply Grown.drew | apply Grown.alloc)⟩
theorem way27 (a0 a1 a3 a5 : Int) (h0 : a3 < a1) (h1 : a3 < a5) (h2 : a1 < a5) (w : World) :
    Calls Try.prog 4 #[.int .i64 a0, .int .i64 a1, .int .i64 a0, .int .i64 a3, .int .i64 a0, .int .i64 a5] w fun e w' => e = .returned (.bool true) ∧ Grown w w' := by
  go_enter Try.func4, Try.ntmps4
  go_wp2
  go_ret
  exact ⟨rfl, by repeat (first | exact Grown.refl _ | apply Grown.drew | apply Grown.alloc)⟩
theorem way28 (a0 a1 a3 a5 : Int) (h0 : a3 < a5) (h1 : a3 < a1) (h2 : a5 < a1) (w : World) :
    Calls Try.prog 4 #[.int .i64 a0, .int .i64 a1, .int .i64 a0, .int .i64 a3, .int .i64 a0, .int .i64 a5] w fun e w' => e = .returned (.bool true) ∧ Grown w w' := by
  go_enter Try.func4, Try.ntmps4
  go_wp2
  go_ret
  exact ⟨rfl, by repeat (first | exact Grown.refl _ | apply Grown.drew | apply Grown.alloc)⟩
theorem way29 (a0 a1 a3 : Int) (h0 : a3 < a1) (w : World) :
    Calls Try.prog 4 #[.int .i64 a0, .int .i64 a1, .int .i64 a0, .int .i64 a3, .int .i64 a0, .int .i64 a1] w fun e w' => e = .returned (.bool true) ∧ Grown w w' := by
  go_enter Try.func4, Try.ntmps4
  go_wp2
  go_ret
  exact ⟨rfl, by repeat (first | exact Grown.refl _ | apply Grown.drew | apply Grown.alloc)⟩
theorem way30 (a0 a1 a5 : Int) (h0 : a1 < a5) (w : World) :
    Calls Try.prog 4 #[.int .i64 a0, .int .i64 a1, .int .i64 a0, .int .i64 a1, .int .i64 a0, .int .i64 a5] w fun e w' => e = .returned (.bool true) ∧ Grown w w' := by
  go_enter Try.func4, Try.ntmps4
  go_wp2
  go_ret
  exact ⟨rfl, by repeat (first | exact Grown.refl _ | apply Grown.drew | apply Grown.alloc)⟩
theorem way31 (a0 a1 a3 a5 : Int) (h0 : a5 < a1) (h1 : a5 < a3) (h2 : a1 < a3) (w : World) :
    Calls Try.prog 4 #[.int .i64 a0, .int .i64 a1, .int .i64 a0, .int .i64 a3, .int .i64 a0, .int .i64 a5] w fun e w' => e = .returned (.bool true) ∧ Grown w w' := by
  go_enter Try.func4, Try.ntmps4
  go_wp2
  go_ret
  exact ⟨rfl, by repeat (first | exact Grown.refl _ | apply Grown.drew | apply Grown.alloc)⟩
theorem way32 (a0 a1 a3 a5 : Int) (h0 : a5 < a3) (h1 : a5 < a1) (h2 : a3 < a1) (w : World) :
    Calls Try.prog 4 #[.int .i64 a0, .int .i64 a1, .int .i64 a0, .int .i64 a3, .int .i64 a0, .int .i64 a5] w fun e w' => e = .returned (.bool true) ∧ Grown w w' := by
  go_enter Try.func4, Try.ntmps4
  go_wp2
  go_ret
  exact ⟨rfl, by repeat (first | exact Grown.refl _ | apply Grown.drew | apply Grown.alloc)⟩
theorem way33 (a0 a1 a5 : Int) (h0 : a5 < a1) (w : World) :
    Calls Try.prog 4 #[.int .i64 a0, .int .i64 a1, .int .i64 a0, .int .i64 a1, .int .i64 a0, .int .i64 a5] w fun e w' => e = .returned (.bool true) ∧ Grown w w' := by
  go_enter Try.func4, Try.ntmps4
  go_wp2
  go_ret
  exact ⟨rfl, by repeat (first | exact Grown.refl _ | apply Grown.drew | apply Grown.alloc)⟩
theorem way34 (a0 a1 a3 : Int) (h0 : a1 < a3) (w : World) :
    Calls Try.prog 4 #[.int .i64 a0, .int .i64 a1, .int .i64 a0, .int .i64 a3, .int .i64 a0, .int .i64 a1] w fun e w' => e = .returned (.bool true) ∧ Grown w w' := by
  go_enter Try.func4, Try.ntmps4
  go_wp2
  go_ret
  exact ⟨rfl, by repeat (first | exact Grown.refl _ | apply Grown.drew | apply Grown.alloc)⟩
theorem way35 (a0 a1 a3 : Int) (h0 : a3 < a1) (w : World) :
    Calls Try.prog 4 #[.int .i64 a0, .int .i64 a1, .int .i64 a0, .int .i64 a3, .int .i64 a0, .int .i64 a3] w fun e w' => e = .returned (.bool true) ∧ Grown w w' := by
  go_enter Try.func4, Try.ntmps4
  go_wp2
  go_ret
  exact ⟨rfl, by repeat (first | exact Grown.refl _ | apply Grown.drew | apply Grown.alloc)⟩
theorem way36 (a0 a1 : Int)  (w : World) :
    Calls Try.prog 4 #[.int .i64 a0, .int .i64 a1, .int .i64 a0, .int .i64 a1, .int .i64 a0, .int .i64 a1] w fun e w' => e = .returned (.bool true) ∧ Grown w w' := by
  go_enter Try.func4, Try.ntmps4
  go_wp2
  go_ret
  exact ⟨rfl, by repeat (first | exact Grown.refl _ | apply Grown.drew | apply Grown.alloc)⟩

theorem walk (a0 : Int) (a1 : Int) (a2 : Int) (a3 : Int) (a4 : Int) (a5 : Int) (w0 : (Lit.int .i64 a0).wf = true) (w1 : (Lit.int .i64 a1).wf = true) (w2 : (Lit.int .i64 a2).wf = true) (w3 : (Lit.int .i64 a3).wf = true) (w4 : (Lit.int .i64 a4).wf = true) (w5 : (Lit.int .i64 a5).wf = true) (w : World) :
    Calls Try.prog 4 #[.int .i64 a0, .int .i64 a1, .int .i64 a2, .int .i64 a3, .int .i64 a4, .int .i64 a5] w fun e w' => e = .returned (.bool true) ∧ Grown w w' := by
  rcases Int.lt_trichotomy a0 a2 with r01 | r01 | r01
  · skip
    rcases Int.lt_trichotomy a0 a4 with r02 | r02 | r02
    · skip
      rcases Int.lt_trichotomy a2 a4 with r12 | r12 | r12
      · skip
        exact way0 _ _ _ _ _ _ (by omega) (by omega) (by omega) w
      · skip
        rcases Int.lt_trichotomy a3 a5 with p12 | p12 | p12
        · skip
          obtain rfl := (show a2 = a4 by omega)
          exact way2 _ _ _ _ _ (by omega) (by omega) w
        · skip
          obtain rfl := (show a2 = a4 by omega)
          obtain rfl := (show a3 = a5 by omega)
          exact way4 _ _ _ _ (by omega) w
        · skip
          obtain rfl := (show a2 = a4 by omega)
          exact way3 _ _ _ _ _ (by omega) (by omega) w
      · skip
        exact way1 _ _ _ _ _ _ (by omega) (by omega) (by omega) w
    · skip
      rcases Int.lt_trichotomy a2 a4 with r12 | r12 | r12
      · omega
      · omega
      · skip
        rcases Int.lt_trichotomy a1 a5 with p02 | p02 | p02
        · skip
          obtain rfl := (show a0 = a4 by omega)
          exact way18 _ _ _ _ _ (by omega) (by omega) w
        · skip
          obtain rfl := (show a0 = a4 by omega)
          obtain rfl := (show a1 = a5 by omega)
          exact way20 _ _ _ _ (by omega) w
        · skip
          obtain rfl := (show a0 = a4 by omega)
          exact way19 _ _ _ _ _ (by omega) (by omega) w
    · skip
      rcases Int.lt_trichotomy a2 a4 with r12 | r12 | r12
      · omega
      · omega
      · skip
        exact way13 _ _ _ _ _ _ (by omega) (by omega) (by omega) w
  · skip
    rcases Int.lt_trichotomy a0 a4 with r02 | r02 | r02
    · skip
      rcases Int.lt_trichotomy a2 a4 with r12 | r12 | r12
      · skip
        rcases Int.lt_trichotomy a1 a3 with p01 | p01 | p01
        · skip
          obtain rfl := (show a0 = a2 by omega)
          exact way10 _ _ _ _ _ (by omega) (by omega) w
        · skip
          obtain rfl := (show a0 = a2 by omega)
          obtain rfl := (show a1 = a3 by omega)
          exact way12 _ _ _ _ (by omega) w
        · skip
          obtain rfl := (show a0 = a2 by omega)
          exact way11 _ _ _ _ _ (by omega) (by omega) w
      · omega
      · omega
    · skip
      rcases Int.lt_trichotomy a2 a4 with r12 | r12 | r12
      · omega
      · skip
        rcases Int.lt_trichotomy a1 a3 with p01 | p01 | p01
        · skip
          rcases Int.lt_trichotomy a1 a5 with p02 | p02 | p02
          · skip
            rcases Int.lt_trichotomy a3 a5 with p12 | p12 | p12
            · skip
              obtain rfl := (show a0 = a2 by omega)
              obtain rfl := (show a0 = a4 by omega)
              exact way24 _ _ _ _ (by omega) (by omega) (by omega) w
            · skip
              obtain rfl := (show a0 = a2 by omega)
              obtain rfl := (show a0 = a4 by omega)
              obtain rfl := (show a3 = a5 by omega)
              exact way26 _ _ _ (by omega) w
            · skip
              obtain rfl := (show a0 = a2 by omega)
              obtain rfl := (show a0 = a4 by omega)
              exact way25 _ _ _ _ (by omega) (by omega) (by omega) w
          · skip
            rcases Int.lt_trichotomy a3 a5 with p12 | p12 | p12
            · omega
            · omega
            · skip
              obtain rfl := (show a0 = a2 by omega)
              obtain rfl := (show a0 = a4 by omega)
              obtain rfl := (show a1 = a5 by omega)
              exact way34 _ _ _ (by omega) w
          · skip
            rcases Int.lt_trichotomy a3 a5 with p12 | p12 | p12
            · omega
            · omega
            · skip
              obtain rfl := (show a0 = a2 by omega)
              obtain rfl := (show a0 = a4 by omega)
              exact way31 _ _ _ _ (by omega) (by omega) (by omega) w
        · skip
          rcases Int.lt_trichotomy a1 a5 with p02 | p02 | p02
          · skip
            rcases Int.lt_trichotomy a3 a5 with p12 | p12 | p12
            · skip
              obtain rfl := (show a0 = a2 by omega)
              obtain rfl := (show a1 = a3 by omega)
              obtain rfl := (show a0 = a4 by omega)
              exact way30 _ _ _ (by omega) w
            · omega
            · omega
          · skip
            rcases Int.lt_trichotomy a3 a5 with p12 | p12 | p12
            · omega
            · skip
              obtain rfl := (show a0 = a2 by omega)
              obtain rfl := (show a1 = a3 by omega)
              obtain rfl := (show a0 = a4 by omega)
              obtain rfl := (show a1 = a5 by omega)
              exact way36 _ _  w
            · omega
          · skip
            rcases Int.lt_trichotomy a3 a5 with p12 | p12 | p12
            · omega
            · omega
            · skip
              obtain rfl := (show a0 = a2 by omega)
              obtain rfl := (show a1 = a3 by omega)
              obtain rfl := (show a0 = a4 by omega)
              exact way33 _ _ _ (by omega) w
        · skip
          rcases Int.lt_trichotomy a1 a5 with p02 | p02 | p02
          · skip
            rcases Int.lt_trichotomy a3 a5 with p12 | p12 | p12
            · skip
              obtain rfl := (show a0 = a2 by omega)
              obtain rfl := (show a0 = a4 by omega)
              exact way27 _ _ _ _ (by omega) (by omega) (by omega) w
            · omega
            · omega
          · skip
            rcases Int.lt_trichotomy a3 a5 with p12 | p12 | p12
            · skip
              obtain rfl := (show a0 = a2 by omega)
              obtain rfl := (show a0 = a4 by omega)
              obtain rfl := (show a1 = a5 by omega)
              exact way29 _ _ _ (by omega) w
            · omega
            · omega
          · skip
            rcases Int.lt_trichotomy a3 a5 with p12 | p12 | p12
            · skip
              obtain rfl := (show a0 = a2 by omega)
              obtain rfl := (show a0 = a4 by omega)
              exact way28 _ _ _ _ (by omega) (by omega) (by omega) w
            · skip
              obtain rfl := (show a0 = a2 by omega)
              obtain rfl := (show a0 = a4 by omega)
              obtain rfl := (show a3 = a5 by omega)
              exact way35 _ _ _ (by omega) w
            · skip
              obtain rfl := (show a0 = a2 by omega)
              obtain rfl := (show a0 = a4 by omega)
              exact way32 _ _ _ _ (by omega) (by omega) (by omega) w
      · omega
    · skip
      rcases Int.lt_trichotomy a2 a4 with r12 | r12 | r12
      · omega
      · omega
      · skip
        rcases Int.lt_trichotomy a1 a3 with p01 | p01 | p01
        · skip
          obtain rfl := (show a0 = a2 by omega)
          exact way15 _ _ _ _ _ (by omega) (by omega) w
        · skip
          obtain rfl := (show a0 = a2 by omega)
          obtain rfl := (show a1 = a3 by omega)
          exact way17 _ _ _ _ (by omega) w
        · skip
          obtain rfl := (show a0 = a2 by omega)
          exact way16 _ _ _ _ _ (by omega) (by omega) w
  · skip
    rcases Int.lt_trichotomy a0 a4 with r02 | r02 | r02
    · skip
      rcases Int.lt_trichotomy a2 a4 with r12 | r12 | r12
      · skip
        exact way5 _ _ _ _ _ _ (by omega) (by omega) (by omega) w
      · omega
      · omega
    · skip
      rcases Int.lt_trichotomy a2 a4 with r12 | r12 | r12
      · skip
        rcases Int.lt_trichotomy a1 a5 with p02 | p02 | p02
        · skip
          obtain rfl := (show a0 = a4 by omega)
          exact way7 _ _ _ _ _ (by omega) (by omega) w
        · skip
          obtain rfl := (show a0 = a4 by omega)
          obtain rfl := (show a1 = a5 by omega)
          exact way9 _ _ _ _ (by omega) w
        · skip
          obtain rfl := (show a0 = a4 by omega)
          exact way8 _ _ _ _ _ (by omega) (by omega) w
      · omega
      · omega
    · skip
      rcases Int.lt_trichotomy a2 a4 with r12 | r12 | r12
      · skip
        exact way6 _ _ _ _ _ _ (by omega) (by omega) (by omega) w
      · skip
        rcases Int.lt_trichotomy a3 a5 with p12 | p12 | p12
        · skip
          obtain rfl := (show a2 = a4 by omega)
          exact way21 _ _ _ _ _ (by omega) (by omega) w
        · skip
          obtain rfl := (show a2 = a4 by omega)
          obtain rfl := (show a3 = a5 by omega)
          exact way23 _ _ _ _ (by omega) w
        · skip
          obtain rfl := (show a2 = a4 by omega)
          exact way22 _ _ _ _ _ (by omega) (by omega) w
      · skip
        exact way14 _ _ _ _ _ _ (by omega) (by omega) (by omega) w

/-! ### THE ROW's STEP: WRITTEN OUT: LEAVE IT -/
set_option maxRecDepth 100000 in
theorem lifted (os : Os) (started : os.Started) (H : Type) (enc : TypeId × Value → H) :
    ReturnsInHanded {} Try.checked os 4 .any (Rows.fnBetterBestOfThreeIsLatestRoundLeastProposerSpec.pre6 enc Try.prog Try.f4 Rows.fnBetterBestOfThreeIsLatestRoundLeastProposerRow.domain false) (Rows.fnBetterBestOfThreeIsLatestRoundLeastProposerSpec.post enc Try.prog Try.f4 false true false false) := by
  refine returnsInHanded_of_change (C := Try.checked) own started (by kernel_rfl) Try.func4
    (ChangeSpec.witness6 (enc := enc) (C := Try.checked) false ⟨#[], #[.int .i64 0, .int .i64 0, .int .i64 0, .int .i64 0, .int .i64 0, .int .i64 0], []⟩ 8 (by kernel_rfl) (by kernel_rfl) (by kernel_rfl) (by kernel_rfl)) ?_
  intro W base args ds gs before hval0 hW hcnd _
  have hval : ∀ (j : Nat) t v, Try.f4.params[j]? = some t → args[j]? = some v → Value.okWide Try.prog W .any base t v := hval0
  have hW' := hW
  obtain ⟨p, q, hA0, hV, rfl, hfz, hnd⟩ := hW
  have hA : DataW.TrodAll enc Try.prog W 0 (fun _ => true) true Try.f4.params.toList args.toList ds p := hA0
  rw [Try.params4] at hA hval
  obtain ⟨v0, vs0, d0, ds0, p0, q0, hargs, rfl, rfl, h0, r0⟩ := trodAll_cons hA
  obtain ⟨v1, vs1, d1, ds1, p1, q1, rfl, rfl, rfl, h1, r1⟩ := trodAll_cons r0
  obtain ⟨v2, vs2, d2, ds2, p2, q2, rfl, rfl, rfl, h2, r2⟩ := trodAll_cons r1
  obtain ⟨v3, vs3, d3, ds3, p3, q3, rfl, rfl, rfl, h3, r3⟩ := trodAll_cons r2
  obtain ⟨v4, vs4, d4, ds4, p4, q4, rfl, rfl, rfl, h4, r4⟩ := trodAll_cons r3
  obtain ⟨v5, vs5, d5, ds5, p5, q5, rfl, rfl, rfl, h5, r5⟩ := trodAll_cons r4
  obtain ⟨rfl, rfl, rfl⟩ := trodAll_nil r5
  obtain rfl : args = #[v0, v1, v2, v3, v4, v5] := by cases args; simp_all
  obtain ⟨rfl, rfl⟩ := trodVars_none hV
  obtain ⟨a0, rfl, rfl, rfl, w0⟩ := open_int Try.underlying3 (hval 0 3 v0 rfl rfl) h0
  obtain ⟨a1, rfl, rfl, rfl, w1⟩ := open_int Try.underlying3 (hval 1 3 v1 rfl rfl) h1
  obtain ⟨a2, rfl, rfl, rfl, w2⟩ := open_int Try.underlying3 (hval 2 3 v2 rfl rfl) h2
  obtain ⟨a3, rfl, rfl, rfl, w3⟩ := open_int Try.underlying3 (hval 3 3 v3 rfl rfl) h3
  obtain ⟨a4, rfl, rfl, rfl, w4⟩ := open_int Try.underlying3 (hval 4 3 v4 rfl rfl) h4
  obtain ⟨a5, rfl, rfl, rfl, w5⟩ := open_int Try.underlying3 (hval 5 3 v5 rfl rfl) h5
  clear hA0 hval0
  simp only [List.append_nil] at hW'
  refine (walk a0 a1 a2 a3 a4 a5 w0 w1 w2 w3 w4 w5 W).mono fun e W' ⟨he, hg⟩ => ?_
  subst he
  exact ⟨_, rfl, post_of_same (pa := []) (pv := []) hW' (fun _ _ _ => (trodAll_cons_mk (shut_bool Try.underlying4 _) trodAll_mk0)) (fun sp _ => (trodAll_cons_mk (shut_int Try.underlying3 w0) (trodAll_cons_mk (shut_int Try.underlying3 w1) (trodAll_cons_mk (shut_int Try.underlying3 w2) (trodAll_cons_mk (shut_int Try.underlying3 w3) (trodAll_cons_mk (shut_int Try.underlying3 w4) (trodAll_cons_mk (shut_int Try.underlying3 w5) trodAll_mk0))))))) (fun _ _ => rfl) rfl
    (hg.frame _) hg.2.1 (ok_one (by kernel_rfl) rfl (okWide_bool_mk Try.underlying4 _))⟩

theorem over : Rows.fnBetterBestOfThreeIsLatestRoundLeastProposerRow.holds Try.pinned (OpenSpec.ofChange Rows.fnBetterBestOfThreeIsLatestRoundLeastProposerSpec) :=
  OpenClaim.holds_of_wide 4 Try.f4 rfl rfl rfl rfl rfl rfl rfl ⟨rfl, rfl, rfl, rfl, rfl⟩ rfl rfl rfl rfl rfl (by kernel_rfl) Try.func4 (by kernel_rfl)
    (of_decide_eq_true (by kernel_rfl)) (by unfold Func.isWrapper; first | (rw [if_pos (by decide +kernel)]; kernel_rfl) | (rw [if_neg (by decide +kernel)]; exact ⟨rfl, rfl⟩))
    (fun os started H enc _ => lifted os started H enc)

/-- ████ THE STATEMENT ████ -/
theorem proved : Rows.FnBetterBestOfThreeIsLatestRoundLeastProposerSaid :=
  over
end Go.Proofs.Qxb6615479a.fnBetterBestOfThreeIsLatestRoundLeastProposer
