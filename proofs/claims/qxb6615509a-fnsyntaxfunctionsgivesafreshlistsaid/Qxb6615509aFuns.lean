/-
  The contract of (*Policy).Functions, by the chain's length.
-/
import Derived.Test.Qxb6615509aPolicy
namespace Go.Proofs.Qxb6615509a
open Go.RowKit

/-- What a call of Functions leaves. -/
def Gives (w : World) (ds : List Decl) (e : Ending) (w' : World) : Prop :=
  ∃ v xs, e = .returned v ∧ w'.ownsRow w.heap.size 35 3 v ds.length xs ∧ Cells w xs ds ∧ Below w.heap.size w w'

set_option maxHeartbeats 800000 in
theorem funs_some (b : Nat) (a : Addr) (c : Nat) (ds : List Decl) (w : World) (h2 : w.cell? ⟨b, 2, none⟩ = some (.pointer none)) (h7 : w.cell? ⟨b, 7, none⟩ = some (.slice (some a) ds.length c))
    (hd : DRow w (.slice (some a) ds.length c) ds) (hl : ds.length ≤ 4000000) :
    Calls Try.prog 10 #[.pointer (some ⟨b, 0, none⟩)] w (Gives w ds) := by
  obtain ⟨i0, hi, hz0, hz1, hz2⟩ := info_parts info35
  obtain ⟨news, hc, hn, h1⟩ := hd.cells
  have HC : Hid (Cells w news ds) := hc
  clear hc hd
  go_enter Try.func10, Try.ntmps10
  go_wp2_with (at_builtin; refine wpList_append_own _ rfl _ _ 28 rfl w.heap.size 35 i0 (.agg #[.string ⟨#[]⟩, .slice none 0 0, .string ⟨#[]⟩]) 3 56 Try.underlying28 hi hz0 hz1 hz2 rfl (by decide) _ 0 [] rfl (World.ownsRow_nil _ _ _ _) a ds.length c news rfl HC.out.1 hn h1 (by unfold maxLen; omega) (by omega) (Nat.le_refl _) ?_; intro v' w3 hown hgrow hnil3)
  go_ret
  refine ⟨v', _, rfl, by simpa using hown, HC.out, Below.grown (Below.refl _ _) hgrow (Nat.le_refl _) (fun k h => by cases h)⟩

set_option maxHeartbeats 800000 in
theorem funs_none (b : Nat) (w : World) (h2 : w.cell? ⟨b, 2, none⟩ = some (.pointer none)) (h7 : w.cell? ⟨b, 7, none⟩ = some (.slice none 0 0)) :
    Calls Try.prog 10 #[.pointer (some ⟨b, 0, none⟩)] w (Gives w []) := by
  obtain ⟨i0, hi, hz0, hz1, hz2⟩ := info_parts info35
  go_enter Try.func10, Try.ntmps10
  go_wp2_with (at_builtin; refine wpList_append_own_none rfl _ _ 28 rfl w.heap.size 35 i0 3 Try.underlying28 hi _ 0 [] rfl (World.ownsRow_nil _ _ _ _) rfl ?_)
  go_ret
  exact ⟨_, _, rfl, World.ownsRow_nil _ _ _ _, Cells.nil _, Below.refl _ _⟩

set_option maxHeartbeats 800000 in
theorem funs_out_some (b : Nat) (oa a : Addr) (c : Nat) (ds es : List Decl) (w : World) (h2 : w.cell? ⟨b, 2, none⟩ = some (.pointer (some oa))) (h7 : w.cell? ⟨b, 7, none⟩ = some (.slice (some a) ds.length c))
    (hd : DRow w (.slice (some a) ds.length c) ds) (hl : es.length + ds.length ≤ 4000000) (hr : Calls Try.prog 10 #[.pointer (some oa)] w (Gives w es)) :
    Calls Try.prog 10 #[.pointer (some ⟨b, 0, none⟩)] w (Gives w (es ++ ds)) := by
  obtain ⟨i0, hi, hz0, hz1, hz2⟩ := info_parts info35
  obtain ⟨news, hc, hn, h1⟩ := hd.cells
  have HC : Hid (Cells w news ds) := hc
  have HR : Hid (Calls Try.prog 10 #[.pointer (some oa)] w (Gives w es)) := hr
  have HN : Hid (∀ j u, news[j]? = some u → w.cell? (a.add j) = some u) := hn
  clear hc hd hr hn
  go_enter Try.func10, Try.ntmps10
  go_wp2_with fail
  refine HR.out.mono ?_
  rintro e w1 ⟨v1, xs1, rfl, hown1, hc1, hb1⟩
  have g7 : w1.cell? ⟨b, 7, none⟩ = some (.slice (some a) ds.length c) := cell_later hb1 h7
  have hn1 : ∀ j u, news[j]? = some u → w1.cell? (a.add j) = some u := fun j u h => cell_later hb1 (HN.out j u h)
  have HB1 : Hid (Below w.heap.size w w1) := hb1
  have HC1 : Hid (Cells w xs1 es) := hc1
  have hsz1 := hb1.size
  clear hb1 hc1 HR HN
  go_wp2_with (at_builtin; refine wpList_append_own _ rfl _ _ 28 rfl w.heap.size 35 i0 (.agg #[.string ⟨#[]⟩, .slice none 0 0, .string ⟨#[]⟩]) 3 56 Try.underlying28 hi hz0 hz1 hz2 rfl (by decide) v1 es.length xs1 rfl hown1 a ds.length c news rfl HC.out.1 hn1 h1 (by unfold maxLen; omega) (by omega) hsz1 ?_; intro v' w3 hown hgrow hnil3)
  go_ret
  refine ⟨v', _, rfl, by simpa using hown, HC1.out.append HC.out, Below.grown HB1.out hgrow hsz1 (fun k h => (hown1.lt k h).1)⟩

set_option maxHeartbeats 800000 in
theorem funs_out_none (b : Nat) (oa : Addr) (es : List Decl) (w : World) (h2 : w.cell? ⟨b, 2, none⟩ = some (.pointer (some oa))) (h7 : w.cell? ⟨b, 7, none⟩ = some (.slice none 0 0))
    (hr : Calls Try.prog 10 #[.pointer (some oa)] w (Gives w es)) :
    Calls Try.prog 10 #[.pointer (some ⟨b, 0, none⟩)] w (Gives w (es ++ [])) := by
  obtain ⟨i0, hi, hz0, hz1, hz2⟩ := info_parts info35
  have HR : Hid (Calls Try.prog 10 #[.pointer (some oa)] w (Gives w es)) := hr
  clear hr
  go_enter Try.func10, Try.ntmps10
  go_wp2_with fail
  refine HR.out.mono ?_
  rintro e w1 ⟨v1, xs1, rfl, hown1, hc1, hb1⟩
  have g7 : w1.cell? ⟨b, 7, none⟩ = some (.slice none 0 0) := cell_later hb1 h7
  have HB1 : Hid (Below w.heap.size w w1) := hb1
  have HC1 : Hid (Cells w xs1 es) := hc1
  clear hb1 hc1 HR
  go_wp2_with (at_builtin; refine wpList_append_own_none rfl _ _ 28 rfl w.heap.size 35 i0 3 Try.underlying28 hi v1 es.length xs1 rfl hown1 rfl ?_)
  go_ret
  exact ⟨v1, xs1, rfl, by simpa using hown1, by simpa using HC1.out, HB1.out⟩

theorem funs_any : ∀ (cs : List (List Decl)) (p : Value) (w : World), cs ≠ [] → Pol w p cs → (flat cs).length ≤ 4000000 → Calls Try.prog 10 #[p] w (Gives w (flat cs))
  | [], _, _, h, _, _ => absurd rfl h
  | [ds], p, w, _, hp, hl => by
    obtain ⟨b, ov, fv, rfl, h2, h7, hd, ho⟩ := hp
    have ho' : ov = .pointer none := ho
    subst ho'
    rcases hd with ⟨rfl, rfl⟩ | ⟨a, c, rfl, hlen, hcell⟩
    · exact funs_none b w h2 h7
    · have : flat [ds] = ds := by simp [flat]
      rw [this] at hl ⊢
      exact funs_some b a c ds w h2 h7 (.inr ⟨a, c, rfl, hlen, hcell⟩) hl
  | ds :: es :: rest, p, w, _, hp, hl => by
    obtain ⟨b, ov, fv, rfl, h2, h7, hd, ho⟩ := hp
    have hl' : (flat (es :: rest)).length + ds.length ≤ 4000000 := by
      have : flat (ds :: es :: rest) = flat (es :: rest) ++ ds := rfl
      rw [this, List.length_append] at hl
      exact hl
    have hr := funs_any (es :: rest) ov w (by simp) ho (by omega)
    obtain ⟨b', ov', fv', rfl, _⟩ := ho
    show Calls Try.prog 10 _ w (Gives w (flat (es :: rest) ++ ds))
    rcases hd with ⟨rfl, rfl⟩ | ⟨a, c, rfl, hlen, hcell⟩
    · exact funs_out_none b _ _ w h2 h7 hr
    · exact funs_out_some b _ a c ds _ w h2 h7 (.inr ⟨a, c, rfl, hlen, hcell⟩) hl' hr
end Go.Proofs.Qxb6615509a
