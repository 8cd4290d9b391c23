/-
  The contracts of ZZnewPolicy and of (*Policy).Functions.
-/
import Derived.Test.Qxb6615509aCloneF
import Derived.Laws.AppendOwnNone
namespace Go.Proofs.Qxb6615509a
open Go.RowKit

/-- A chain of policies, its own functions first, then the outer ones'. -/
def Pol (w : World) : Value → List (List Decl) → Prop
  | p, [] => p = .pointer none
  | p, ds :: rest => ∃ b ov fv, p = .pointer (some ⟨b, 0, none⟩) ∧ w.cell? ⟨b, 2, none⟩ = some ov ∧ w.cell? ⟨b, 7, none⟩ = some fv ∧ DRow w fv ds ∧ Pol w ov rest
/-- All functions of a chain, the outer ones first. -/
def flat : List (List Decl) → List Decl
  | [] => []
  | ds :: rest => flat rest ++ ds

theorem Pol.below {w w' : World} (hb : Below w.heap.size w w') : ∀ {p : Value} {cs : List (List Decl)}, Pol w p cs → Pol w' p cs
  | _, [], h => h
  | _, _ :: _, ⟨b, ov, fv, h0, h1, h2, h3, h4⟩ => ⟨b, ov, fv, h0, cell_later hb h1, cell_later hb h2, h3.below hb, Pol.below hb h4⟩

theorem Pol.form {w : World} {p : Value} {cs : List (List Decl)} (h : Pol w p cs) : ∃ oa, p = .pointer oa := by
  cases cs with
  | nil => exact ⟨_, h⟩
  | cons ds rest => obtain ⟨b, ov, fv, h0, _⟩ := h; exact ⟨_, h0⟩
theorem DRow.form {w : World} {v : Value} {ds : List Decl} (h : DRow w v ds) : ∃ oa c, v = .slice oa ds.length c := by
  rcases h with ⟨rfl, rfl⟩ | ⟨a, c, rfl, _⟩
  · exact ⟨_, _, rfl⟩
  · exact ⟨_, _, rfl⟩

set_option maxHeartbeats 400000 in
theorem newPolicy_any (ov fv : Value) (ds : List Decl) (cs : List (List Decl)) (w : World) (hd : DRow w fv ds) (hp : Pol w ov cs) :
    Calls Try.prog 8 #[ov, fv] w fun e w' => ∃ p, e = .returned p ∧ Pol w' p (ds :: cs) ∧ Below w.heap.size w w' := by
  obtain ⟨oa, c, rfl⟩ := hd.form
  obtain ⟨pa, rfl⟩ := hp.form
  have HD : Hid (DRow w (.slice oa ds.length c) ds) := hd
  have HP : Hid (Pol w (.pointer pa) cs) := hp
  clear hd hp
  go_enter Try.func8, Try.ntmps8
  go_wp2
  go_ret
  have hb : ∀ o, Below w.heap.size w (w.alloc o) := fun o => (Below.refl _ _).alloc (Nat.le_refl _) o
  exact ⟨_, rfl, ⟨w.heap.size, _, _, rfl, World.cell?_alloc_at (w := w) _ 48 w.heap.size 2 rfl, World.cell?_alloc_at (w := w) _ 48 w.heap.size 7 rfl, HD.out.below (hb _), HP.out.below (hb _)⟩, hb _⟩

theorem addr_add_add (a : Addr) (i j : Nat) : (a.add i).add j = a.add (i + j) := by
  unfold Addr.add
  by_cases hi : i = 0
  · subst hi; simp
  · by_cases hj : j = 0
    · subst hj; simp [hi]
    · simp [hi, hj]; omega

/-- The cells of the declarations ds, one behind the other; each one's arguments read in w. -/
def Cells (w : World) (news : List Value) (ds : List Decl) : Prop :=
  news.length = ds.length * 3 ∧ ∀ i d, ds[i]? = some d → ∃ av, news[i * 3]? = some (.string d.name) ∧ news[i * 3 + 1]? = some av ∧ SRow w av d.args ∧ news[i * 3 + 2]? = some (.string d.sort) ∧ d.name.size ≤ maxLen ∧ d.sort.size ≤ maxLen

theorem Cells.nil (w : World) : Cells w [] [] := ⟨rfl, fun i d h => by simp at h⟩
theorem Cells.append {w : World} {xs ys : List Value} {ds es : List Decl} (h : Cells w xs ds) (k : Cells w ys es) : Cells w (xs ++ ys) (ds ++ es) := by
  obtain ⟨h1, h2⟩ := h
  obtain ⟨k1, k2⟩ := k
  refine ⟨by simp [h1, k1]; omega, fun i d hi => ?_⟩
  by_cases hl : i < ds.length
  · rw [List.getElem?_append_left hl] at hi
    obtain ⟨av, a0, a1, a2, a3, a4⟩ := h2 i d hi
    exact ⟨av, by rw [List.getElem?_append_left (by omega)]; exact a0, by rw [List.getElem?_append_left (by omega)]; exact a1, a2, by rw [List.getElem?_append_left (by omega)]; exact a3, a4⟩
  · rw [List.getElem?_append_right (by omega)] at hi
    obtain ⟨av, a0, a1, a2, a3, a4⟩ := k2 _ d hi
    have e0 : i * 3 - xs.length = (i - ds.length) * 3 := by omega
    have e1 : i * 3 + 1 - xs.length = (i - ds.length) * 3 + 1 := by omega
    have e2 : i * 3 + 2 - xs.length = (i - ds.length) * 3 + 2 := by omega
    exact ⟨av, by rw [List.getElem?_append_right (by omega), e0]; exact a0, by rw [List.getElem?_append_right (by omega), e1]; exact a1, a2, by rw [List.getElem?_append_right (by omega), e2]; exact a3, a4⟩

theorem DRow.cells {w : World} {a : Addr} {c : Nat} {ds : List Decl} (h : DRow w (.slice (some a) ds.length c) ds) :
    ∃ news, Cells w news ds ∧ (∀ j u, news[j]? = some u → w.cell? (a.add j) = some u) ∧ ∀ u ∈ news, u.oneCell' = true := by
  rcases h with ⟨h, _⟩ | ⟨a', cap, hv, hl, hc⟩
  · cases h
  · cases hv
    have key : ∀ i d, ds[i]? = some d → ∃ av, w.cell? (a.add (i * 3)) = some (.string d.name) ∧ w.cell? (a.add (i * 3 + 1)) = some av ∧ SRow w av d.args ∧ w.cell? (a.add (i * 3 + 2)) = some (.string d.sort) ∧ d.name.size ≤ maxLen ∧ d.sort.size ≤ maxLen := fun i d hi => by
      obtain ⟨av, h0, h1, h2, h3, h4⟩ := hc i d hi
      rw [addr_add_add] at h1 h3
      exact ⟨av, h0, h1, h2, h3, h4⟩
    have some_at : ∀ j, j < ds.length * 3 → ∃ u, w.cell? (a.add j) = some u ∧ u.oneCell' = true := fun j hj => by
      have hi : j / 3 < ds.length := by omega
      obtain ⟨av, h0, h1, h2, h3, h4⟩ := key (j / 3) ds[j / 3] (by simp [hi])
      have : j = j / 3 * 3 ∨ j = j / 3 * 3 + 1 ∨ j = j / 3 * 3 + 2 := by omega
      rcases this with e | e | e
      · exact ⟨_, by rw [e]; exact h0, rfl⟩
      · obtain ⟨oa, c', rfl⟩ := h2.form
        exact ⟨_, by rw [e]; exact h1, rfl⟩
      · exact ⟨_, by rw [e]; exact h3, rfl⟩
    have at_ : ∀ j u, ((List.range (ds.length * 3)).map fun j => (w.cell? (a.add j)).getD undef)[j]? = some u ↔ j < ds.length * 3 ∧ u = (w.cell? (a.add j)).getD undef := fun j u => by
      rw [List.getElem?_map]
      by_cases hj : j < ds.length * 3
      · simp [hj, eq_comm]
      · simp [hj]
    have cell_of : ∀ j, j < ds.length * 3 → ∀ u, w.cell? (a.add j) = some u → ((List.range (ds.length * 3)).map fun j => (w.cell? (a.add j)).getD undef)[j]? = some u := fun j hj u hu => (at_ j u).2 ⟨hj, by rw [hu]; rfl⟩
    refine ⟨(List.range (ds.length * 3)).map fun j => (w.cell? (a.add j)).getD undef, ⟨by simp, fun i d hi => ?_⟩, fun j u hj => ?_, fun u hu => ?_⟩
    · have hil : i < ds.length := (List.getElem?_eq_some_iff.1 hi).1
      obtain ⟨av, h0, h1, h2, h3, h4⟩ := key i d hi
      exact ⟨av, cell_of _ (by omega) _ h0, cell_of _ (by omega) _ h1, h2, cell_of _ (by omega) _ h3, h4⟩
    · obtain ⟨hj', rfl⟩ := (at_ j u).1 hj
      obtain ⟨u, hu, _⟩ := some_at j hj'
      rw [hu]; rfl
    · obtain ⟨j, hj, rfl⟩ := List.mem_map.1 hu
      obtain ⟨u, hu, h1⟩ := some_at j (List.mem_range.1 hj)
      rw [hu]; exact h1

/-- A row of the call's own whose cells are declarations' is a slice of declarations. -/
theorem drow_of_own {w w' : World} {B : Nat} {v : Value} {xs : List Value} {ds : List Decl} (ho : w'.ownsRow B 35 3 v ds.length xs) (hc : Cells w xs ds) (hb : Below w.heap.size w w') : DRow w' v ds ∧ FreshV B v := by
  obtain ⟨h1, h2⟩ := ho
  rcases h2 with ⟨rfl, h0⟩ | ⟨g, cap, cur, rfl, hg, hh, hn, hcap, hsz, htake⟩
  · exact ⟨.inl ⟨rfl, List.eq_nil_of_length_eq_zero h0⟩, fun a n c h => by cases h⟩
  · refine ⟨.inr ⟨⟨g, 0, none⟩, cap, rfl, Nat.le_trans hn hcap, fun i d hi => ?_⟩, fun a n c h => by cases h; exact hg⟩
    have hil : i < ds.length := (List.getElem?_eq_some_iff.1 hi).1
    obtain ⟨av, a0, a1, a2, a3, a4⟩ := hc.2 i d hi
    have cell : ∀ j u, j < ds.length * 3 → xs[j]? = some u → w'.cell? ⟨g, j, none⟩ = some u := fun j u hj hu => by
      rw [← htake, List.getElem?_take_of_lt hj] at hu
      simp only [World.cell?, hh]
      simpa using hu
    rw [add_plain', Nat.zero_add]
    refine ⟨av, cell _ _ (by omega) a0, ?_, a2.below hb, ?_, a4⟩
    · rw [add_plain']; exact cell _ _ (by omega) a1
    · rw [add_plain']; exact cell _ _ (by omega) a3
end Go.Proofs.Qxb6615509a
