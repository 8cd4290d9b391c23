/-
  The row of FnSyntaxIsConstantNameInsertAnywhere, and its tied card.
-/
import Derived.Test.Qxb6615509aDoorOpen
import Derived.Test.Qxb6615509aDoorInsertWalk
import Derived.Test.Qxb6615509aDoorTie
import Derived.Test.Qxb6615509aDoorCards
import Derived.OpenShut
import Derived.SevenTiedAt
namespace Go.Proofs.Qxb6615509aDoor.Insert
open Go.ChangeShapes Go.WideShapes Go.ChangeAt Go.WideMaps Go.WideElems Go.RowKit
open Go.ChangeMaps (open_string shut_string)

/-- The door's own heap meets the condition. -/
theorem door_met (os : Os) (args : Array Value) : laidMetH Tryd.prog Rows.fnSyntaxIsConstantNameInsertAnywhereRow.laid ((World.doorLaid Tryd.prog 400 os).forCall (fun _ _ => 0) ⟨#[], args, []⟩).memory :=
  laidMetH_of_parts3 (fuel := 8) (laidMet_of_run' 8 (by kernel_rfl) (by kernel_rfl)) (by kernel_rfl) (by kernel_rfl)

theorem byte_of {b : Int} (h : (Lit.int .u8 b).wf = true) : ∃ c : UInt8, b = (c.toNat : Int) := by
  have h' : 0 ≤ b ∧ b ≤ 255 := by
    simp [Lit.wf, IntKind.min, IntKind.max, IntKind.signed, IntKind.bits] at h
    omega
  refine ⟨UInt8.ofNat b.toNat, ?_⟩
  rw [UInt8.toNat_ofNat_of_lt' (by simp [UInt8.size]; omega)]
  omega

set_option maxRecDepth 100000 in
theorem lifted (os : Os) (started : os.Started) (H : Type) (enc : TypeId × Value → H) :
    ReturnsInHanded {} Tryd.checked os 4 .any (fun w args => (Rows.fnSyntaxIsConstantNameInsertAnywhereSpec.pre enc Tryd.prog Tryd.f4 [] false w args ∧ laidMetH Tryd.prog Rows.fnSyntaxIsConstantNameInsertAnywhereRow.laid w) ∧ sizedMet enc Tryd.prog Tryd.f4 (OpenSpec.ofChange Rows.fnSyntaxIsConstantNameInsertAnywhereSpec) false w args)
      (Rows.fnSyntaxIsConstantNameInsertAnywhereSpec.post enc Tryd.prog Tryd.f4 false true false false) := by
  refine returnsInHanded_of_change_and (C := Tryd.checked) (X := fun w _ => laidMetH Tryd.prog Rows.fnSyntaxIsConstantNameInsertAnywhereRow.laid w) (fun _ _ _ hh h => h.of_heap hh) own started (by kernel_rfl) Tryd.func4
    (ChangeSpec.witness_shaped (enc := enc) (C := Tryd.checked) (os := os) (X := fun w _ => laidMetH Tryd.prog Rows.fnSyntaxIsConstantNameInsertAnywhereRow.laid w) false (World.doorLaid Tryd.prog 400 os) #[.string ⟨#[]⟩, .int .i64 0, .int .u8 0] 8 rfl (World.shaped_of_RefB (by kernel_rfl) (by kernel_rfl)) (by kernel_rfl) (by kernel_rfl) (by kernel_rfl) (door_met os _)) ?_
  intro W base args ds gs before hval0 hW _ _ hL _
  have hval : ∀ (j : Nat) t v, Tryd.f4.params[j]? = some t → args[j]? = some v → Value.okWide Tryd.prog W .any base t v := hval0
  have hW' := hW
  obtain ⟨p, q, hA0, hV0, rfl, hfz, hnd⟩ := hW
  have hA : DataW.TrodAll enc Tryd.prog W 0 (fun _ => true) true Tryd.f4.params.toList args.toList ds p := hA0
  have hV : DataW.TrodVars enc Tryd.prog W (fun _ => true) [resName] gs q := hV0
  rw [Tryd.params4] at hA hval
  obtain ⟨v0, v1, v2, d0, d1, d2, p0, p1, p2, rfl, rfl, rfl, h0, h1, h2⟩ := trodAll_three hA
  obtain ⟨g, t, cs, fuel, d, p', rfl, hg, ht, hvar, hd, rfl⟩ := trodVars_one hV
  obtain rfl := Option.some.inj (gRes.symm.trans hg)
  obtain rfl := Option.some.inj (tRes.symm.trans ht)
  obtain ⟨s0, rfl, rfl, rfl, ws0⟩ := open_string Tryd.underlying9 (hval 0 9 v0 rfl rfl) h0
  obtain ⟨i, rfl, rfl, rfl, wi⟩ := open_int Tryd.underlying3 (hval 1 3 v1 rfl rfl) h1
  obtain ⟨b, rfl, rfl, rfl, wb⟩ := open_int Tryd.underlying5 (hval 2 5 v2 rfl rfl) h2
  obtain ⟨c, rfl⟩ : ∃ c : UInt8, b = (c.toNat : Int) := byte_of wb
  clear hA0 hV0 hval0 hA hV
  have hltv : ∀ x ∈ p', x.block < W.heap.size := fun x hx => hW'.lt x (List.mem_append_right _ (List.mem_append_right _ hx))
  obtain ⟨r, rfl, hM⟩ := mapOk_of hvar hd
  refine (insert_walk s0 i c W (.map r) hM ws0).mono fun e W' ⟨he, hB⟩ => ?_
  subst he
  obtain ⟨fuel', hd'⟩ := Below.trod laidOut (by kernel_rfl) (of_decide_eq_true (by kernel_rfl)) (v := .map r) (⟨fuel, by simpa [Value.cells] using hd⟩ : DataW.Trod enc Tryd.prog W 0 (fun _ => true) true 32 (.map r) d p') hB hltv
  have hv' := trodVars_mk1 (enc := enc) (spare := fun b => decide (b < W.heap.size)) hg ht (var?_below hB hg hM.2.1 hvar) (by simpa [Value.cells] using hd')
  exact ⟨_, rfl, _, _, _, [], [], (MemPlace.row ⟨0, 0, none⟩ (#[.map r] : Array Value).size ++ p'), hW', trodAll_mk1 (shut_bool Tryd.underlying4 _), trodAll_mk3 (shut_string Tryd.underlying9 ws0) (shut_int Tryd.underlying3 wi) (shut_int Tryd.underlying5 wb), hv', hB.frame _, fun h => by cases h⟩

theorem over : Rows.FnSyntaxIsConstantNameInsertAnywhereSaid :=
  OpenClaim.holds_of_wide 4 Tryd.f4 rfl rfl rfl rfl rfl rfl rfl ⟨rfl, rfl, rfl, rfl, rfl⟩ rfl rfl rfl rfl rfl (by kernel_rfl) Tryd.func4 (by kernel_rfl)
    (of_decide_eq_true (by kernel_rfl)) (by unfold Func.isWrapper; first | (rw [if_pos (by decide +kernel)]; kernel_rfl) | (rw [if_neg (by decide +kernel)]; exact ⟨rfl, rfl⟩))
    (fun os started H enc _ => lifted os started H enc)

/-- ████ THE STATEMENT ████ -/
theorem proved : Rows.FnSyntaxIsConstantNameInsertAnywhereCardSaid :=
  Claim7.holds_tied_plain_at .later [] [.called] true (true, "1d2f204a6ea5e37bb4355e345ca6f93be47f18a841ae4b03d39fe220be52e715") false
    over (fun _ h => by cases h) (by kernel_rfl) (fun _ h => by cases h) fnSyntaxIsConstantNameInsertAnywhere_row_tie rfl ⟨rfl, rfl⟩ (by kernel_rfl) rfl
    (fun f fn hf hfn => by
      obtain rfl : f = 4 := Option.some.inj ((show Tryd.prog.funcNamed Rows.fnSyntaxIsConstantNameInsertAnywhereRow.func = some 4 by kernel_rfl).symm.trans hf) |>.symm
      obtain rfl : fn = Tryd.f4 := (Option.some.inj (Tryd.func4.symm.trans hfn)).symm
      exact ⟨by kernel_rfl, fun j t ht => by
        rw [Tryd.params4] at ht
        have hm : t ∈ [9, 3, 5] := by simpa using Array.mem_of_getElem? ht
        have hall : ([9, 3, 5].all fun u => !Tryd.prog.wantsStandIn u) = true := by kernel_rfl
        exact (show Tryd.prog.wantsStandIn t = false by simpa using List.all_eq_true.1 hall t hm)⟩)
    (by kernel_rfl)
end Go.Proofs.Qxb6615509aDoor.Insert
