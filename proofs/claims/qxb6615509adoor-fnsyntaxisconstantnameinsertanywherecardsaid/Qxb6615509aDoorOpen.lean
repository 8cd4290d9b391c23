/-
  What the listed variable gives the walks: from its reading to 'MapOk'; the door's own heap as the witness.
-/
import Derived.Test.Qxb6615509aDoorRows
import Derived.Test.Qxb6615509aDoorIsName
import Derived.ProofKit
import Derived.LaidMore
import Derived.ChangeBears2
import Derived.Stop.Joined
import Derived.Maps.OwnSet
import Derived.WalkSmall
namespace Go.Proofs.Qxb6615509aDoor
open Go.ChangeShapes Go.WideShapes Go.ChangeAt Go.WideMaps Go.WideElems Go.RowKit Go.Maps

theorem own : ownKnob Tryd.prog.godebug = none := by kernel_rfl
theorem laidOut : laidOutB Tryd.prog = true := by kernel_rfl
/-- The one listed variable's name, as the rows have it. -/
abbrev resName : String := Rows.fnSyntaxIsConstantNameSplitsAtAnyCutRow.named.headD ""

theorem gRes : Tryd.prog.globalNamed resName = some 0 := by kernel_rfl
theorem tRes : (Tryd.prog.globals[0]?).map (·.type) = some 32 := by kernel_rfl
theorem law : KeyLaw Tryd.prog 9 := string_law Tryd.underlying9
theorem zero30 (w : World) : (zeroValue 30).run Tryd.prog w = .ok (.int .i64 0) w := by kernel_rfl

/-- FROM THE VARIABLE's READING TO WHAT THE WALKS ARE TOLD. -/
theorem mapOk_of {H : Type} {enc : TypeId × Value → H} {W : World} {base : Nat} {sp : Nat → Bool} {held : Bool} {fuel : Nat} {cs : Array Value} {d : DataW H} {p : List MemPlace}
    (hvar : W.var? Tryd.prog resName = some cs) (hd : DataW.trod enc Tryd.prog W base sp held fuel 32 cs.toList = some (d, p)) :
    ∃ r, cs = #[.map r] ∧ MapOk W (.map r) := by
  have lt0 : ∀ v, W.cell? ⟨0, 0, none⟩ = some v → 0 < W.heap.size := fun v h => World.block_lt_of_cell? _ _ h
  rcases open_map Tryd.underlying32 hd with ⟨hcs, _⟩ | ⟨bm, es, clock, m, _, hcs, hb, _, F, _⟩
  · have hcs' : cs = #[.map none] := by cases cs; simp_all
    subst hcs'
    have hE : W.cell? ⟨0, 0, none⟩ = some (.map none) := by simpa using World.var?_cell gRes hvar 0
    refine ⟨_, rfl, hE, lt0 _ hE, fun wr _ s hs => ⟨0, false, ?_⟩⟩
    simpa using Maps.look_nil (w := wr) true (string_keyed Tryd.underlying9) Tryd.underlying32 (zero30 _) (keyOf_string_mk (s := s) Tryd.underlying9 hs)
  · have hcs' : cs = #[.map (some bm)] := by cases cs; simp_all
    subst hcs'
    have hE : W.cell? ⟨0, 0, none⟩ = some (.map (some bm)) := by simpa using World.var?_cell gRes hvar 0
    have hbm : bm < W.heap.size := lt_of_block hb
    refine ⟨_, rfl, hE, lt0 _ hE, fun wr hB s hs => ?_⟩
    have hb' : wr.heap[bm]? = some (.map es clock) := by rw [hB.block bm hbm]; exact hb
    rcases fit_lookup_ok (w := wr) law Tryd.underlying32 (zero30 wr) hb' F (keyOf_string_mk (s := s) Tryd.underlying9 hs) with ⟨hrun, _⟩ | ⟨v, y, hrun, hRv, _, _⟩
    · exact ⟨0, false, hrun⟩
    · obtain ⟨r, rfl, _, _⟩ := elemAt_int Tryd.underlying30 hRv
      exact ⟨r, true, hrun⟩
end Go.Proofs.Qxb6615509aDoor
