/-
  The contract of zzsynMatchesAt, where the one list holds the other.
-/
import Derived.Test.Qxb6615509aFuns
namespace Go.Proofs.Qxb6615509a
open Go.RowKit

set_option maxRecDepth 100000 in
set_option maxHeartbeats 2000000 in
theorem matches_full (bg og cg bw ow cw at_ : Nat) (G W : List Decl) (w : World) (hle : at_ + W.length ≤ G.length) (hl : G.length ≤ 4000000)
    (heq : ∀ i d, W[i]? = some d → G[at_ + i]? = some d) (hg : ∀ i d, G[i]? = some d → DCell w ⟨bg, og + i * 3, none⟩ d) (hw : ∀ i d, W[i]? = some d → DCell w ⟨bw, ow + i * 3, none⟩ d) :
    Calls Try.prog 11 #[.slice (some ⟨bg, og, none⟩) G.length cg, .int .i64 at_, .slice (some ⟨bw, ow, none⟩) W.length cw] w fun e w' => e = .returned (.bool true) ∧ Below w.heap.size w w' := by
  have HE : Hid (∀ i d, W[i]? = some d → G[at_ + i]? = some d) := heq
  have HG : Hid (∀ i d, G[i]? = some d → DCell w ⟨bg, og + i * 3, none⟩ d) := hg
  have HW : Hid (∀ i d, W[i]? = some d → DCell w ⟨bw, ow + i * 3, none⟩ d) := hw
  clear heq hg hw
  have l1 : (at_ : Int) ≤ (G.length : Int) := by omega
  have l2 : (W.length : Int) ≤ (G.length : Int) - (at_ : Int) := by omega
  have l3 : (G.length : Int) ≤ 4000000 := by omega
  go_enter Try.func11, Try.ntmps11
  go_wp2
  go_loopw [7] (fun i wr => ∃ k : Nat, k ≤ W.length ∧ i = .int .i64 k ∧ Hid (Below w.heap.size w wr)) (fun i _ => W.length - (intOf i).toNat)
  case atStart => exact ⟨0, Nat.zero_le _, rfl, Below.refl _ _⟩
  case round =>
    obtain ⟨k, hk, rfl, HB⟩ := hrel
    by_cases hlt : k < W.length
    · obtain ⟨av, e0, e1, hsr, e2, s0, s2⟩ : DCell wr ⟨bw, ow + k * 3, none⟩ W[k] := (HW.out k W[k] (by simp [hlt])).below HB.out
      obtain ⟨gv, f0, f1, hgr, f2, _, _⟩ : DCell wr ⟨bg, og + (at_ + k) * 3, none⟩ W[k] := (HG.out (at_ + k) W[k] (HE.out k W[k] (by simp [hlt]))).below HB.out
      rw [add_plain'] at e1 e2 f1 f2
      obtain ⟨oa, c1, rfl⟩ := hsr.form
      obtain ⟨ob, c2, rfl⟩ := hgr.form
      have hlt' : (k : Int) < (W.length : Int) := by omega
      have hix : (at_ : Int) + (k : Int) < (G.length : Int) := by omega
      have H1 : Hid (SRow wr (.slice oa W[k].args.length c1) W[k].args) := hsr
      have H2 : Hid (SRow wr (.slice ob W[k].args.length c2) W[k].args) := hgr
      clear hsr hgr s0 s2
      go_wp2
      obtain ⟨W4, hW4⟩ : ∃ W4, W4 = wr.alloc (.cells #[.string W[k].name, .slice ob W[k].args.length c2, .string W[k].sort] 35) := ⟨_, rfl⟩
      rw [← hW4]
      have hb4 : Below wr.heap.size wr W4 := by rw [hW4]; exact (Below.refl _ _).alloc (Nat.le_refl _) _
      have n0 : W4.cell? ⟨wr.heap.size, 0, none⟩ = some (.string W[k].name) := by rw [hW4]; exact World.cell?_alloc_at (w := wr) _ 35 _ 0 rfl
      have n1 : W4.cell? ⟨wr.heap.size, 1, none⟩ = some (.slice ob W[k].args.length c2) := by rw [hW4]; exact World.cell?_alloc_at (w := wr) _ 35 _ 1 rfl
      have n2 : W4.cell? ⟨wr.heap.size, 2, none⟩ = some (.string W[k].sort) := by rw [hW4]; exact World.cell?_alloc_at (w := wr) _ 35 _ 2 rfl
      have m0 : W4.cell? ⟨bw, ow + k * 3, none⟩ = some (.string W[k].name) := cell_later hb4 e0
      have m1 : W4.cell? ⟨bw, ow + k * 3 + 1, none⟩ = some (.slice oa W[k].args.length c1) := cell_later hb4 e1
      have m2 : W4.cell? ⟨bw, ow + k * 3 + 2, none⟩ = some (.string W[k].sort) := cell_later hb4 e2
      have S1 : Hid (SRow W4 (.slice oa W[k].args.length c1) W[k].args) := H1.out.below hb4
      have S2 : Hid (SRow W4 (.slice ob W[k].args.length c2) W[k].args) := H2.out.below hb4
      have HB4 : Hid (Below w.heap.size w W4) := HB.out.trans (hb4.mono HB.out.size)
      clear hW4 hb4 H1 H2 e0 e1 e2 f0 f1 f2 HB
      go_quiet ((go_at_call 16; exact Calls.quiet_of (same_any _ _ W[k].args _ (S2.out.below (Go.below_drewN (Below.refl _ _) _)) (S1.out.below (Go.below_drewN (Below.refl _ _) _)))))
      go_wp2
      go_roundw
      case rel => exact ⟨k + 1, by omega, by go_num, Go.below_drewN HB4.out _⟩
      case measure => simp [intOf]; omega
    · go_wp2
      go_ret
      exact ⟨rfl, HB.out⟩

set_option maxHeartbeats 800000 in
theorem matches_empty (og ow : Option Addr) (n cg cw at_ : Nat) (w : World) (hle : at_ ≤ n) (hl : n ≤ 4000000) :
    Calls Try.prog 11 #[.slice og n cg, .int .i64 at_, .slice ow 0 cw] w fun e w' => e = .returned (.bool true) ∧ Below w.heap.size w w' := by
  have l1 : (at_ : Int) ≤ (n : Int) := by omega
  have l2 : (0 : Int) ≤ (n : Int) - (at_ : Int) := by omega
  have l3 : (n : Int) ≤ 4000000 := by omega
  go_enter Try.func11, Try.ntmps11
  go_wp2
  go_loop [7] (fun i => i = .int .i64 0) (fun _ => 0)
  case atStart => rfl
  case round =>
    subst hrel
    go_wp2
    go_ret
    exact ⟨rfl, Below.refl _ _⟩

theorem matches_any (gv wv : Value) (G W : List Decl) (at_ : Nat) (w : World) (hg : DRow w gv G) (hw : DRow w wv W) (hle : at_ + W.length ≤ G.length) (hl : G.length ≤ 4000000)
    (heq : ∀ i d, W[i]? = some d → G[at_ + i]? = some d) :
    Calls Try.prog 11 #[gv, .int .i64 at_, wv] w fun e w' => e = .returned (.bool true) ∧ Below w.heap.size w w' := by
  by_cases hn : 0 < W.length
  · obtain ⟨bg, og, cg, rfl, h1⟩ := hg.plain (by omega)
    obtain ⟨bw, ow, cw, rfl, h2⟩ := hw.plain hn
    exact matches_full bg og cg bw ow cw at_ G W w hle hl heq h1 h2
  · have h0 : W = [] := List.eq_nil_of_length_eq_zero (by omega)
    subst h0
    obtain ⟨oa, c, rfl⟩ := hg.form
    obtain ⟨ob, c', rfl⟩ := hw.form
    exact matches_empty oa ob G.length c c' at_ w (by simpa using hle) hl
end Go.Proofs.Qxb6615509a
