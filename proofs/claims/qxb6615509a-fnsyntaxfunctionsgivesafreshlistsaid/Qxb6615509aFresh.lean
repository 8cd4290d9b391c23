/-
  For the second law: a list that the call itself made, overwritten entry by entry.
-/
import Derived.Test.Qxb6615509aForms
import Derived.Test.Qxb6615509aBytesThree
namespace Go.Proofs.Qxb6615509a
open Go.RowKit

/-- From entry k on the list's names are strings that are not long; its row lies in a block from B on. -/
def RowAt (B : Nat) (w : World) (oa : Option Addr) (n k : Nat) : Prop :=
  n = 0 ∨ ∃ g cur, oa = some ⟨g, 0, none⟩ ∧ B ≤ g ∧ w.heap[g]? = some (.cells cur 35 (0, 0)) ∧ n * 3 ≤ cur.size ∧ ∀ j, k ≤ j → j < n → ∃ s : ByteArray, cur[j * 3]? = some (.string s) ∧ s.size ≤ 1048576

theorem RowAt.below {B : Nat} {w w' : World} {oa : Option Addr} {n k : Nat} (h : RowAt B w oa n k) (hb : Below w.heap.size w w') : RowAt B w' oa n k := by
  rcases h with h | ⟨g, cur, h1, h2, h3, h4, h5⟩
  · exact .inl h
  · exact .inr ⟨g, cur, h1, h2, by rw [hb.block g (lt_of_block h3)]; exact h3, h4, h5⟩

theorem rowAt_of_own {w w' : World} {oa : Option Addr} {c n : Nat} {xs : List Value} {ds : List Decl} (hn : ds.length = n) (ho : w'.ownsRow w.heap.size 35 3 (.slice oa n c) n xs) (hc : Cells w xs ds) (hs : ∀ d ∈ ds, d.name.size ≤ 1048576) :
    RowAt w.heap.size w' oa n 0 := by
  obtain ⟨h1, h2⟩ := ho
  rcases h2 with ⟨_, h0⟩ | ⟨g, cap, cur, hv, hg, hh, hnc, hcap, hsz, htake⟩
  · exact .inl h0
  · cases hv
    refine .inr ⟨g, cur, rfl, hg, hh, by rw [hsz]; omega, fun j _ hj => ?_⟩
    have hjl : j < ds.length := by omega
    obtain ⟨av, a0, _⟩ := hc.2 j ds[j] (by simp [hjl])
    refine ⟨ds[j].name, ?_, hs _ (List.getElem_mem hjl)⟩
    rw [← htake, List.getElem?_take_of_lt (by omega)] at a0
    simpa using a0

theorem funs_own (cs : List (List Decl)) (ds : List Decl) (n : Nat) (hds : flat cs = ds) (hn : ds.length = n) (p : Value) (w : World) (hne : cs ≠ []) (hp : Pol w p cs) (hl : n ≤ 4000000) (hs : ∀ d ∈ ds, d.name.size ≤ 1048576) :
    Calls Try.prog 10 #[p] w fun e w' => ∃ oa c, e = .returned (.slice oa n c) ∧ DRow w' (.slice oa n c) ds ∧ RowAt w.heap.size w' oa n 0 ∧ Below w.heap.size w w' := by
  subst hds
  subst hn
  refine (funs_any cs p w hne hp hl).mono ?_
  rintro e w' ⟨v, xs, rfl, ho, hc, hb⟩
  obtain ⟨hd, _⟩ := drow_of_own ho hc hb
  obtain ⟨oa, c, rfl⟩ := hd.form
  exact ⟨oa, c, rfl, hd, rowAt_of_own rfl ho hc hs, hb⟩
theorem funs_len (cs : List (List Decl)) (ds : List Decl) (n : Nat) (hds : flat cs = ds) (hn : ds.length = n) (p : Value) (w : World) (hne : cs ≠ []) (hp : Pol w p cs) (hl : n ≤ 4000000) :
    Calls Try.prog 10 #[p] w fun e w' => ∃ oa c, e = .returned (.slice oa n c) ∧ DRow w' (.slice oa n c) ds ∧ Below w.heap.size w w' := by
  subst hn
  refine (funs_form cs ds hds p w hne hp hl).mono ?_
  rintro e w' ⟨oa, c, rfl, hd, _, hb⟩
  exact ⟨oa, c, rfl, hd, hb⟩
theorem match_at (gv wv : Value) (G W : List Decl) (at_ : Nat) (z : Int) (hz : z = (at_ : Int)) (w : World) (hg : DRow w gv G) (hw : DRow w wv W) (hle : at_ + W.length ≤ G.length) (hl : G.length ≤ 4000000)
    (heq : ∀ i d, W[i]? = some d → G[at_ + i]? = some d) :
    Calls Try.prog 11 #[gv, .int .i64 z, wv] w fun e w' => e = .returned (.bool true) ∧ Below w.heap.size w w' := by
  subst hz
  exact matches_any gv wv G W at_ w hg hw hle hl heq

/-- The three stores of a round. -/
theorem row_over {B : Nat} {w wr : World} {g n k : Nat} {cur : Array Value} {W : World} (u0 u1 u2 : Value) (hb : Below B w wr) (hg : B ≤ g) (hh : wr.heap[g]? = some (.cells cur 35 (0, 0))) (hsz : n * 3 ≤ cur.size)
    (hf : ∀ j, k ≤ j → j < n → ∃ s : ByteArray, cur[j * 3]? = some (.string s) ∧ s.size ≤ 1048576)
    (hW : W = ((wr.setCell ⟨g, k * 3, none⟩ u0).setCell ⟨g, k * 3 + 2, none⟩ u2).setCell ⟨g, k * 3 + 1, none⟩ u1) :
    Below B w W ∧ RowAt B W (some ⟨g, 0, none⟩) n (k + 1) := by
  refine ⟨by rw [hW]; exact ((hb.setCell hg _).setCell hg _).setCell hg _, .inr ⟨g, _, rfl, hg, by rw [hW]; exact row_set (row_set (row_set hh _) _) _, by simp; omega, fun j hj hn => ?_⟩⟩
  obtain ⟨s, h0, h1⟩ := hf j (by omega) hn
  refine ⟨s, ?_, h1⟩
  rw [Array.getElem?_setIfInBounds_ne (by omega), Array.getElem?_setIfInBounds_ne (by omega), Array.getElem?_setIfInBounds_ne (by omega)]
  exact h0
end Go.Proofs.Qxb6615509a
