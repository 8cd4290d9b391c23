/-
  The contracts in the form in which the laws' walks take them: a slice written out.
-/
import Derived.Test.Qxb6615509aToF
import Derived.Test.Qxb6615509aMatch
import Derived.Test.Qxb6615509aSize
namespace Go.Proofs.Qxb6615509a
open Go.RowKit

theorem cloneF_form (v : Value) (ds : List Decl) (w : World) (h : DRow w v ds) (hl : ds.length ≤ 1048576) (ha : ∀ d ∈ ds, d.args.length ≤ 1048576) :
    Calls Try.prog 7 #[v] w fun e w' => ∃ oa c, e = .returned (.slice oa ds.length c) ∧ DRow w' (.slice oa ds.length c) ds ∧ Below w.heap.size w w' := by
  refine (cloneF_any v ds w h hl ha).mono ?_
  rintro e w' ⟨v', rfl, hd, _, hb⟩
  obtain ⟨oa, c, rfl⟩ := hd.form
  exact ⟨oa, c, rfl, hd, hb⟩
theorem toF_form (v : Value) (ds : List Decl) (w : World) (h : DRow w v ds) (hl : ds.length ≤ 1048576) (ha : ∀ d ∈ ds, d.args.length ≤ 1048576) :
    Calls Try.prog 9 #[v] w fun e w' => ∃ oa c, e = .returned (.slice oa ds.length c) ∧ DRow w' (.slice oa ds.length c) ds ∧ Below w.heap.size w w' := by
  refine (toF_any v ds w h hl ha).mono ?_
  rintro e w' ⟨v', rfl, hd, _, hb⟩
  obtain ⟨oa, c, rfl⟩ := hd.form
  exact ⟨oa, c, rfl, hd, hb⟩
theorem pol_form (ov fv : Value) (ds : List Decl) (cs : List (List Decl)) (w : World) (hd : DRow w fv ds) (hp : Pol w ov cs) :
    Calls Try.prog 8 #[ov, fv] w fun e w' => ∃ b, e = .returned (.pointer (some ⟨b, 0, none⟩)) ∧ Pol w' (.pointer (some ⟨b, 0, none⟩)) (ds :: cs) ∧ Below w.heap.size w w' := by
  refine (newPolicy_any ov fv ds cs w hd hp).mono ?_
  rintro e w' ⟨p, rfl, hp, hb⟩
  obtain ⟨b, ov', fv', rfl, rest⟩ := hp
  exact ⟨b, rfl, ⟨b, ov', fv', rfl, rest⟩, hb⟩
theorem funs_form (cs : List (List Decl)) (ds : List Decl) (hds : flat cs = ds) (p : Value) (w : World) (hne : cs ≠ []) (hp : Pol w p cs) (hl : ds.length ≤ 4000000) :
    Calls Try.prog 10 #[p] w fun e w' => ∃ oa c, e = .returned (.slice oa ds.length c) ∧ DRow w' (.slice oa ds.length c) ds ∧ FreshV w.heap.size (.slice oa ds.length c) ∧ Below w.heap.size w w' := by
  subst hds
  refine (funs_any cs p w hne hp hl).mono ?_
  rintro e w' ⟨v, xs, rfl, ho, hc, hb⟩
  obtain ⟨hd, hf⟩ := drow_of_own ho hc hb
  obtain ⟨oa, c, rfl⟩ := hd.form
  exact ⟨oa, c, rfl, hd, hf, hb⟩

theorem match0 (gv wv : Value) (G W : List Decl) (w : World) (hg : DRow w gv G) (hw : DRow w wv W) (hle : W.length ≤ G.length) (hl : G.length ≤ 4000000) (heq : ∀ i d, W[i]? = some d → G[0 + i]? = some d) :
    Calls Try.prog 11 #[gv, .int .i64 0, wv] w fun e w' => e = .returned (.bool true) ∧ Below w.heap.size w w' := by
  have := matches_any gv wv G W 0 w hg hw (by omega) hl heq
  simpa using this

theorem at_append {α : Type} (X W Y : List α) : ∀ i d, W[i]? = some d → (X ++ W ++ Y)[X.length + i]? = some d := fun i d h => by
  have hi : i < W.length := (List.getElem?_eq_some_iff.1 h).1
  rw [List.getElem?_append_left (by simp; omega), List.getElem?_append_right (by omega)]
  simpa using h
end Go.Proofs.Qxb6615509a
