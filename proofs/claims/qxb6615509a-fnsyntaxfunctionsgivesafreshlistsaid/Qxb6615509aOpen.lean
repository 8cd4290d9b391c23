/-
  From an argument's reading to what the walks are told.
-/
import Derived.Test.Qxb6615509aRows
import Derived.Test.Qxb6615509aMem
import Derived.ProofKit
import Derived.Deep.Strs
namespace Go.Proofs.Qxb6615509a
open Go.ChangeShapes Go.WideShapes Go.ChangeAt Go.RowKit Go.Deep

theorem own : ownKnob Try.prog.godebug = none := by kernel_rfl
theorem laidOut : laidOutB Try.prog = true := by kernel_rfl
theorem cells9 : Try.prog.cellsOf 9 = 1 := by kernel_rfl
theorem cells33 : Try.prog.cellsOf 33 = 1 := by kernel_rfl
theorem cells36 : Try.prog.cellsOf 36 = 3 := by kernel_rfl

section
variable {H : Type} {enc : TypeId × Value → H} {W : World} {base : Nat} {spare : Nat → Bool} {held : Bool}

theorem srow_of_trod {fuel : Nat} {cs : List Value} {x : DataW H × List MemPlace} (h : DataW.trod enc Try.prog W base spare held fuel 33 cs = some x) : ∃ v xs, cs = [v] ∧ SRow W v xs := by
  rcases open_strs Try.underlying33 Try.underlying9 cells9 h with ⟨rfl, _⟩ | ⟨a, len, cap, m, Sx, rfl, _, hl, hm, hmm, _, hc⟩
  · exact ⟨_, [], rfl, .inl ⟨rfl, rfl⟩⟩
  · have hlm : len ≤ m := by rw [hmm]; split <;> omega
    refine ⟨_, (List.range len).map Sx, rfl, .inr ⟨a, cap, by simp, by simp; omega, fun i s hi => ?_⟩⟩
    have hil : i < len := by simpa using (List.getElem?_eq_some_iff.1 hi).1
    have hs : s = Sx i := by simpa [hil] using hi.symm
    rw [hs]
    exact hc i (by omega)

theorem decl_of_trod {fuel : Nat} {a : Addr} {cs : List Value} {x : DataW H × List MemPlace} (hc : W.cells? base a 3 = some cs) (h : DataW.trod enc Try.prog W base spare held fuel 36 cs = some x) : ∃ d : Decl, DCell W a d := by
  obtain ⟨y0, y1, y2, n, _, hl, h0, h1, h2⟩ := trod_struct3 Try.underlying36 h
  obtain ⟨_, hlen, hcell⟩ := World.cells?_some hc
  match cs, hlen with
  | [c0, c1, c2], _ =>
    simp only [cells9, cells33, List.drop_zero, List.take_succ_cons, List.take_zero, List.drop_succ_cons] at h0 h1 h2
    obtain ⟨s0, e0, _, z0⟩ := DataW.trod_string Try.underlying9 h0
    obtain ⟨s2, e2, _, z2⟩ := DataW.trod_string Try.underlying9 h2
    obtain ⟨v, xs, e1, hs⟩ := srow_of_trod h1
    simp at e0 e1 e2
    subst e0 e1 e2
    exact ⟨⟨s0, xs, s2⟩, c1, hcell 0 (by omega), hcell 1 (by omega), hs, hcell 2 (by omega), z0, z2⟩

theorem drow_of_trod {fuel : Nat} {cs : List Value} {x : DataW H × List MemPlace} (h : DataW.trod enc Try.prog W base spare held fuel 22 cs = some x) : ∃ v ds, cs = [v] ∧ DRow W v ds := by
  rcases open_slice Try.underlying22 h with ⟨rfl, _⟩ | ⟨a, len, cap, m, n, D, Pl, rfl, _, hl, hm, hmm, _, hx⟩
  · exact ⟨_, [], rfl, .inl ⟨rfl, rfl⟩⟩
  · have hlm : len ≤ m := by rw [hmm]; split <;> omega
    rw [cells36] at hx
    obtain ⟨f, hf⟩ := @choose_lt Decl ⟨⟨ByteArray.empty, [], ByteArray.empty⟩⟩ len (fun i d => DCell W (a.add (i * 3)) d) (fun i hi => by
      obtain ⟨cs', h1, h2⟩ := hx i (by omega)
      exact decl_of_trod h1 h2)
    refine ⟨_, (List.range len).map f, rfl, .inr ⟨a, cap, by simp, by simp; omega, fun i d hi => ?_⟩⟩
    have hil : i < len := by simpa using (List.getElem?_eq_some_iff.1 hi).1
    have hd : d = f i := by simpa [hil] using hi.symm
    rw [hd]
    exact hf i hil
end
end Go.Proofs.Qxb6615509a
