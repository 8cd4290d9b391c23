/-
  The contract of zzsynCloneStrings.
-/
import Derived.Test.Qxb6615509aLeaves
import Derived.OwnWalk
import Derived.Laws.Tables
namespace Go.Proofs.Qxb6615509a
open Go.RowKit

theorem fresh_at (B o n c : Nat) : FreshV B (.slice (some ⟨B, o, none⟩) n c) := fun a n' c' h => by cases h; exact Nat.le_refl _
theorem info9 : (Try.prog.info? 9).map (fun i => (i.zero, i.size, i.bytes)) = some (some (.string ⟨#[]⟩), 1, 16) := by kernel_rfl

/-- A row of the call's own, as it lies. -/
theorem row_cell {w : World} {g j : Nat} {e : TypeId} {cur : Array Value} (h : w.heap[g]? = some (.cells cur e (0, 0))) : w.cell? ⟨g, j, none⟩ = cur[j]? := by
  simp [World.cell?, h]
theorem row_frozen {w : World} {g j : Nat} {e : TypeId} {cur : Array Value} (h : w.heap[g]? = some (.cells cur e (0, 0))) : w.frozen? ⟨g, j, none⟩ = false := by
  simp [World.frozen?, h]
theorem row_set {w : World} {g j : Nat} {e : TypeId} {cur : Array Value} (h : w.heap[g]? = some (.cells cur e (0, 0))) (v : Value) : (w.setCell ⟨g, j, none⟩ v).heap[g]? = some (.cells (cur.setIfInBounds j v) e (0, 0)) := by
  rw [setCell_eq_setRow w g j cur e (0, 0) v h]
  exact setRow_heap w g cur _ e (0, 0) h

set_option maxHeartbeats 800000 in
theorem cloneS_full (b o c : Nat) (xs : List ByteArray) (w : World) (hl : xs.length ≤ 1048576)
    (h1 : ∀ i s, xs[i]? = some s → w.cell? ⟨b, o + i, none⟩ = some (.string s) ∧ s.size ≤ maxLen) :
    Calls Try.prog 15 #[.slice (some ⟨b, o, none⟩) xs.length c] w fun e w' => ∃ v, e = .returned v ∧ SRow w' v xs ∧ FreshV w.heap.size v ∧ Below w.heap.size w w' := by
  have H1 : Hid (∀ i s, xs[i]? = some s → w.cell? ⟨b, o + i, none⟩ = some (.string s) ∧ s.size ≤ maxLen) := h1
  clear h1
  obtain ⟨i0, hi, hz0, hz1, hz2⟩ := info_parts info9
  have hnil := fun (w : World) => Lib.run_eql_slice_nil (P := Try.prog) w 33 _ (some ⟨b, o, none⟩) xs.length c 0 0 Try.underlying33
  go_enter Try.func15, Try.ntmps15
  go_wp2_with (at_make; refine wpList_make_full _ rfl _ _ 33 rfl w.heap.size 9 i0 (.string ⟨#[]⟩) 1 Try.underlying33 hi hz0 hz1 .i64 .i64 xs.length xs.length xs.length rfl rfl rfl rfl (by rw [hz2]; omega) (by unfold maxLen; omega) (Nat.le_refl _) ?_; intro w1 hown hgr)
  obtain ⟨cur0, hcur0, hsz0⟩ : ∃ cur, w1.heap[w.heap.size]? = some (.cells cur 9 (0, 0)) ∧ cur.size = xs.length := by
    rcases hown.2 with ⟨h, _⟩ | ⟨g, cap, cur, hv, _, hh, _, _, hs, _⟩
    · cases h
    · cases hv
      exact ⟨cur, hh, by simpa using hs⟩
  have hb1 : Below w.heap.size w w1 := Below.grown (Below.refl _ _) hgr (Nat.le_refl _) (fun k h => by cases h)
  have H0 : Hid (∃ cur, w1.heap[w.heap.size]? = some (.cells cur 9 (0, 0)) ∧ cur.size = xs.length) := ⟨cur0, hcur0, hsz0⟩
  have HB1 : Hid (Below w.heap.size w w1) := hb1
  clear hcur0 hsz0 hb1 hown hgr hi hz0 hz1 hz2
  go_loopw [4] (fun i wr => ∃ (k : Nat) (cur : Array Value), k ≤ xs.length ∧ i = .int .i64 k ∧ Hid (Below w.heap.size w wr) ∧ Hid (wr.heap[w.heap.size]? = some (.cells cur 9 (0, 0))) ∧ Hid (cur.size = xs.length) ∧ Hid (∀ j s, j < k → xs[j]? = some s → cur[j]? = some (.string s))) (fun i _ => xs.length - (intOf i).toNat)
  case atStart =>
    obtain ⟨cur, h1, h2⟩ := H0.out
    exact ⟨0, cur, Nat.zero_le _, rfl, HB1.out, h1, h2, fun j s hj => absurd hj (Nat.not_lt_zero _)⟩
  case round =>
    obtain ⟨k, cur, hk, rfl, HB, HC, HS, HF⟩ := hrel
    by_cases hlt : k < xs.length
    · have e1 : wr.cell? ⟨b, o + k, none⟩ = some (.string xs[k]) := cell_later HB.out (H1.out k xs[k] (by simp [hlt])).1
      obtain ⟨old, hold⟩ : ∃ old, wr.cell? ⟨w.heap.size, k, none⟩ = some old := ⟨cur[k]'(by rw [HS.out]; exact hlt), by rw [row_cell HC.out]; simp⟩
      have hfz : wr.frozen? ⟨w.heap.size, k, none⟩ = false := row_frozen HC.out
      have hlt' : (k : Int) < (xs.length : Int) := by omega
      go_wp2
      go_roundw
      case rel =>
        refine ⟨k + 1, cur.setIfInBounds k (.string xs[k]), by omega, by go_num, HB.out.setCell (Nat.le_refl _) _, row_set HC.out _, by show _ = _; simp [HS.out], fun j s hj hs => ?_⟩
        by_cases hjk : j = k
        · subst hjk
          have : s = xs[j] := by simpa [hlt] using hs.symm
          subst this
          simp [HS.out, hlt]
        · rw [Array.getElem?_setIfInBounds_ne (by omega)]
          exact HF.out j s (by omega) hs
      case measure => simp [intOf]; omega
    · go_wp2
      go_ret
      refine ⟨_, rfl, .inr ⟨⟨w.heap.size, 0, none⟩, _, rfl, by unfold maxLen; omega, fun i s hi => ?_⟩, fresh_at _ _ _ _, HB.out⟩
      have hil : i < xs.length := (List.getElem?_eq_some_iff.1 hi).1
      refine ⟨?_, (H1.out i s hi).2⟩
      rw [add_plain', row_cell HC.out, Nat.zero_add]
      exact HF.out i s (by omega) hi

set_option maxHeartbeats 800000 in
theorem cloneS_empty (a : Addr) (c : Nat) (w : World) :
    Calls Try.prog 15 #[.slice (some a) 0 c] w fun e w' => ∃ v, e = .returned v ∧ SRow w' v [] ∧ FreshV w.heap.size v ∧ Below w.heap.size w w' := by
  obtain ⟨i0, hi, hz0, hz1, hz2⟩ := info_parts info9
  have hnil := fun (w : World) => Lib.run_eql_slice_nil (P := Try.prog) w 33 _ (some a) 0 c 0 0 Try.underlying33
  go_enter Try.func15, Try.ntmps15
  go_wp2_with (at_make; refine wpList_make_full _ rfl _ _ 33 rfl w.heap.size 9 i0 (.string ⟨#[]⟩) 1 Try.underlying33 hi hz0 hz1 .i64 .i64 0 0 0 rfl rfl rfl rfl (by omega) (by unfold maxLen; omega) (Nat.le_refl _) ?_; intro w1 hown hgr)
  have hb1 : Below w.heap.size w w1 := Below.grown (Below.refl _ _) hgr (Nat.le_refl _) (fun k h => by cases h)
  have HB1 : Hid (Below w.heap.size w w1) := hb1
  clear hb1 hown hgr hi hz0 hz1 hz2
  go_loop [4] (fun i => i = .int .i64 0) (fun _ => 0)
  case atStart => rfl
  case round =>
    subst hrel
    go_wp2
    go_ret
    exact ⟨_, rfl, .inr ⟨⟨w.heap.size, 0, none⟩, _, rfl, by simp, fun i s hi => by simp at hi⟩, fresh_at _ _ _ _, HB1.out⟩

theorem cloneS_nil (w : World) :
    Calls Try.prog 15 #[.slice none 0 0] w fun e w' => ∃ v, e = .returned v ∧ SRow w' v [] ∧ FreshV w.heap.size v ∧ Below w.heap.size w w' := by
  have hnil := fun (w : World) => Lib.run_eql_slice_nil (P := Try.prog) w 33 _ none 0 0 0 0 Try.underlying33
  go_enter Try.func15, Try.ntmps15
  go_wp2
  go_ret
  exact ⟨_, rfl, .inl ⟨rfl, rfl⟩, (fun a n c h => by cases h), Below.refl _ _⟩

theorem cloneS_any (v : Value) (xs : List ByteArray) (w : World) (h : SRow w v xs) (hl : xs.length ≤ 1048576) :
    Calls Try.prog 15 #[v] w fun e w' => ∃ v', e = .returned v' ∧ SRow w' v' xs ∧ FreshV w.heap.size v' ∧ Below w.heap.size w w' := by
  by_cases hn : 0 < xs.length
  · obtain ⟨b, o, c, rfl, h1⟩ := h.plain hn
    exact cloneS_full b o c xs w hl h1
  · have h0 : xs = [] := List.eq_nil_of_length_eq_zero (by omega)
    subst h0
    rcases h with ⟨rfl, _⟩ | ⟨a, c, rfl, _⟩
    · exact cloneS_nil w
    · exact cloneS_empty a c w
end Go.Proofs.Qxb6615509a
