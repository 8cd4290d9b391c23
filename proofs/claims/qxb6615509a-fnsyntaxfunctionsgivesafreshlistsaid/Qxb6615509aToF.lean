/-
  The contract of zzsynToFunctions.
-/
import Derived.Test.Qxb6615509aCloneF
namespace Go.Proofs.Qxb6615509a
open Go.RowKit

set_option maxRecDepth 100000 in
set_option maxHeartbeats 2000000 in
theorem toF_full (b o c : Nat) (ds : List Decl) (w : World) (hl : ds.length ≤ 1048576) (ha : ∀ d ∈ ds, d.args.length ≤ 1048576)
    (h1 : ∀ i d, ds[i]? = some d → DCell w ⟨b, o + i * 3, none⟩ d) :
    Calls Try.prog 9 #[.slice (some ⟨b, o, none⟩) ds.length c] w fun e w' => ∃ v, e = .returned v ∧ DRow w' v ds ∧ FreshV w.heap.size v ∧ Below w.heap.size w w' := by
  have H1 : Hid (∀ i d, ds[i]? = some d → DCell w ⟨b, o + i * 3, none⟩ d) := h1
  have HA : Hid (∀ d ∈ ds, d.args.length ≤ 1048576) := ha
  clear h1 ha
  obtain ⟨i0, hi, hz0, hz1, hz2⟩ := info_parts info35
  have hnil := fun (w : World) => Lib.run_eql_slice_nil (P := Try.prog) w 22 _ (some ⟨b, o, none⟩) ds.length c 0 0 Try.underlying22
  go_enter Try.func9, Try.ntmps9
  go_wp2_with (at_make; refine wpList_make_full _ rfl _ _ 28 rfl w.heap.size 35 i0 (.agg #[.string ⟨#[]⟩, .slice none 0 0, .string ⟨#[]⟩]) 3 Try.underlying28 hi hz0 hz1 .i64 .i64 ds.length ds.length ds.length rfl rfl rfl rfl (by rw [hz2]; omega) (by unfold maxLen; omega) (Nat.le_refl _) ?_; intro w1 hown hgr)
  obtain ⟨cur0, hcur0, hsz0⟩ : ∃ cur, w1.heap[w.heap.size]? = some (.cells cur 35 (0, 0)) ∧ cur.size = ds.length * 3 := by
    rcases hown.2 with ⟨h, _⟩ | ⟨g, cap, cur, hv, _, hh, _, _, hs, _⟩
    · cases h
    · cases hv
      exact ⟨cur, hh, hs⟩
  have hb1 : Below w.heap.size w w1 := Below.grown (Below.refl _ _) hgr (Nat.le_refl _) (fun k h => by cases h)
  have H0 : Hid (∃ cur, w1.heap[w.heap.size]? = some (.cells cur 35 (0, 0)) ∧ cur.size = ds.length * 3) := ⟨cur0, hcur0, hsz0⟩
  have HB1 : Hid (Below w.heap.size w w1) := hb1
  clear hcur0 hsz0 hb1 hown hgr hi hz0 hz1 hz2
  go_loopw [4] (fun i wr => ∃ (k : Nat) (cur : Array Value), k ≤ ds.length ∧ i = .int .i64 k ∧ Hid (Below w.heap.size w wr) ∧ Hid (wr.heap[w.heap.size]? = some (.cells cur 35 (0, 0))) ∧ Hid (cur.size = ds.length * 3) ∧ Hid (∀ j d, j < k → ds[j]? = some d → Laid wr w.heap.size cur j d)) (fun i _ => ds.length - (intOf i).toNat)
  case atStart =>
    obtain ⟨cur, h1, h2⟩ := H0.out
    exact ⟨0, cur, Nat.zero_le _, rfl, HB1.out, h1, h2, fun j s hj => absurd hj (Nat.not_lt_zero _)⟩
  case round =>
    obtain ⟨k, cur, hk, rfl, HB, HC, HS, HF⟩ := hrel
    by_cases hlt : k < ds.length
    · obtain ⟨av, e0, e1, hsr, e2, s0, s2⟩ : DCell wr ⟨b, o + k * 3, none⟩ ds[k] := (H1.out k ds[k] (by simp [hlt])).below HB.out
      rw [add_plain'] at e1 e2
      have HSR : Hid (SRow wr.drew av ds[k].args) := hsr.below (Below.drew (Below.refl _ _))
      have HSZ : Hid (ds[k].name.size ≤ maxLen ∧ ds[k].sort.size ≤ maxLen) := ⟨s0, s2⟩
      have hAk : ds[k].args.length ≤ 1048576 := HA.out _ (List.getElem_mem hlt)
      have hsz3 : k * 3 + 2 < cur.size := by rw [HS.out]; omega
      obtain ⟨x0, g0⟩ : ∃ x, wr.cell? ⟨w.heap.size, k * 3, none⟩ = some x := ⟨cur[k * 3]'(by omega), by rw [row_cell HC.out]; simp⟩
      obtain ⟨x1, g1⟩ : ∃ x, wr.cell? ⟨w.heap.size, k * 3 + 1, none⟩ = some x := ⟨cur[k * 3 + 1]'(by omega), by rw [row_cell HC.out]; simp⟩
      obtain ⟨x2, g2⟩ : ∃ x, wr.cell? ⟨w.heap.size, k * 3 + 2, none⟩ = some x := ⟨cur[k * 3 + 2]'(by omega), by rw [row_cell HC.out]; simp⟩
      have z0 : wr.frozen? ⟨w.heap.size, k * 3, none⟩ = false := row_frozen HC.out
      have z1 : wr.frozen? ⟨w.heap.size, k * 3 + 1, none⟩ = false := row_frozen HC.out
      have z2 : wr.frozen? ⟨w.heap.size, k * 3 + 2, none⟩ = false := row_frozen HC.out
      have hgl : w.heap.size < wr.heap.size := World.block_lt_of_cell? _ _ g0
      have hlt' : (k : Int) < (ds.length : Int) := by omega
      clear hsr s0 s2 hsz3
      go_wp2
      go_region_with (go_at_call 15; refine (cloneS_form av ds[k].args _ HSR.out hAk).mono ?_; rintro e w3 ⟨oa3, c3, rfl, hsr3, hfr3, hb3⟩; have f0 : w3.cell? ⟨b, o + k * 3, none⟩ = some (.string ds[k].name) := cell_later hb3 e0; have f2 : w3.cell? ⟨b, o + k * 3 + 2, none⟩ = some (.string ds[k].sort) := cell_later hb3 e2; have q0 : w3.cell? ⟨w.heap.size, k * 3, none⟩ = some x0 := cell_later hb3 g0; have q1 : w3.cell? ⟨w.heap.size, k * 3 + 1, none⟩ = some x1 := cell_later hb3 g1; have q2 : w3.cell? ⟨w.heap.size, k * 3 + 2, none⟩ = some x2 := cell_later hb3 g2; have y0 : w3.frozen? ⟨w.heap.size, k * 3, none⟩ = false := (hb3.frozen (p := ⟨w.heap.size, k * 3, none⟩) hgl).trans z0; have y1 : w3.frozen? ⟨w.heap.size, k * 3 + 1, none⟩ = false := (hb3.frozen (p := ⟨w.heap.size, k * 3 + 1, none⟩) hgl).trans z1; have y2 : w3.frozen? ⟨w.heap.size, k * 3 + 2, none⟩ = false := (hb3.frozen (p := ⟨w.heap.size, k * 3 + 2, none⟩) hgl).trans z2; have HX : Hid (SRow w3 (.slice oa3 ds[k].args.length c3) ds[k].args ∧ FreshV wr.heap.size (.slice oa3 ds[k].args.length c3) ∧ Below wr.heap.size wr w3) := ⟨hsr3, hfr3, (Below.drew (Below.refl _ _)).trans hb3⟩; clear hsr3 hfr3 hb3)
      all_goals
        have hst := step_row (cur := cur) hlt HB.out HC.out HS.out HF.out HX.out.1 HX.out.2.1 HX.out.2.2 HSZ.out.1 HSZ.out.2 rfl
        have HST : Hid _ := hst
        clear hst f0 f2 q0 q1 q2 y0 y1 y2 g0 g1 g2 z0 z1 z2 e0 e1 e2
        go_wp2
        go_roundw
        case rel =>
          obtain ⟨s1, cur', s2, s3, s4⟩ := HST.out
          exact ⟨k + 1, cur', by omega, by go_num, s1, s2, s3, s4⟩
        case measure => simp [intOf]; omega
    · go_wp2
      go_ret
      have hkl : k = ds.length := by omega
      subst hkl
      exact ⟨_, rfl, row_done (by unfold maxLen; omega) HC.out HF.out, fresh_at _ _ _ _, HB.out⟩

set_option maxHeartbeats 800000 in
theorem toF_empty (a : Addr) (c : Nat) (w : World) :
    Calls Try.prog 9 #[.slice (some a) 0 c] w fun e w' => ∃ v, e = .returned v ∧ DRow w' v [] ∧ FreshV w.heap.size v ∧ Below w.heap.size w w' := by
  obtain ⟨i0, hi, hz0, hz1, hz2⟩ := info_parts info35
  have hnil := fun (w : World) => Lib.run_eql_slice_nil (P := Try.prog) w 22 _ (some a) 0 c 0 0 Try.underlying22
  go_enter Try.func9, Try.ntmps9
  go_wp2_with (at_make; refine wpList_make_full _ rfl _ _ 28 rfl w.heap.size 35 i0 (.agg #[.string ⟨#[]⟩, .slice none 0 0, .string ⟨#[]⟩]) 3 Try.underlying28 hi hz0 hz1 .i64 .i64 0 0 0 rfl rfl rfl rfl (by omega) (by unfold maxLen; omega) (Nat.le_refl _) ?_; intro w1 hown hgr)
  have hb1 : Below w.heap.size w w1 := Below.grown (Below.refl _ _) hgr (Nat.le_refl _) (fun k h => by cases h)
  have HB1 : Hid (Below w.heap.size w w1) := hb1
  clear hb1 hown hgr hi hz0 hz1 hz2
  go_loop [4] (fun i => i = .int .i64 0) (fun _ => 0)
  case atStart => rfl
  case round =>
    subst hrel
    go_wp2
    go_ret
    exact ⟨_, rfl, .inr ⟨⟨w.heap.size, 0, none⟩, _, rfl, by simp, fun i s hi => by simp at hi⟩, fresh_at _ _ _ _, HB1.out⟩

theorem toF_nil (w : World) :
    Calls Try.prog 9 #[.slice none 0 0] w fun e w' => ∃ v, e = .returned v ∧ DRow w' v [] ∧ FreshV w.heap.size v ∧ Below w.heap.size w w' := by
  have hnil := fun (w : World) => Lib.run_eql_slice_nil (P := Try.prog) w 22 _ none 0 0 0 0 Try.underlying22
  go_enter Try.func9, Try.ntmps9
  go_wp2
  go_ret
  exact ⟨_, rfl, .inl ⟨rfl, rfl⟩, (fun a n c h => by cases h), Below.refl _ _⟩

theorem toF_any (v : Value) (ds : List Decl) (w : World) (h : DRow w v ds) (hl : ds.length ≤ 1048576) (ha : ∀ d ∈ ds, d.args.length ≤ 1048576) :
    Calls Try.prog 9 #[v] w fun e w' => ∃ v', e = .returned v' ∧ DRow w' v' ds ∧ FreshV w.heap.size v' ∧ Below w.heap.size w w' := by
  by_cases hn : 0 < ds.length
  · obtain ⟨b, o, c, rfl, h1⟩ := h.plain hn
    exact toF_full b o c ds w hl ha h1
  · have h0 : ds = [] := List.eq_nil_of_length_eq_zero (by omega)
    subst h0
    rcases h with ⟨rfl, _⟩ | ⟨a, c, rfl, _⟩
    · exact toF_nil w
    · exact toF_empty a c w
end Go.Proofs.Qxb6615509a
