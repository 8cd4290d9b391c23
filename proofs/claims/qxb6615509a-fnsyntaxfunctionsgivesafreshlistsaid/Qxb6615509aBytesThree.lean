/-
  The contract of the second length check: where it answers true the lengths are small.
-/
import Derived.Test.Qxb6615509aSize
namespace Go.Proofs.Qxb6615509a
open Go.RowKit

theorem next_ok2 {L : List Decl} {k : Nat} (hlt : k < L.length) (h : ∀ j d, j < k → L[j]? = some d → (d.args.length ≤ 1048576 ∧ d.name.size ≤ 1048576)) (hk : L[k].args.length ≤ 1048576) (hn : L[k].name.size ≤ 1048576) : ∀ j d, j < k + 1 → L[j]? = some d → (d.args.length ≤ 1048576 ∧ d.name.size ≤ 1048576) := fun j d hj hd => by
  by_cases e : j = k
  · subst e
    have : d = L[j] := by simpa [hlt] using hd.symm
    rw [this]; exact ⟨hk, hn⟩
  · exact h j d (by omega) hd
theorem all_ok2 {L : List Decl} {k : Nat} (hk : L.length ≤ k) (h : ∀ j d, j < k → L[j]? = some d → (d.args.length ≤ 1048576 ∧ d.name.size ≤ 1048576)) : ∀ d ∈ L, (d.args.length ≤ 1048576 ∧ d.name.size ≤ 1048576) := fun d hd => by
  obtain ⟨j, hj, rfl⟩ := List.mem_iff_getElem.1 hd
  exact h j _ (by omega) (by simp [hj])

def Small3 (A : List Decl) (B : List Decl) (C : List Decl) : Prop := A.length + B.length + C.length ≤ 1048576 ∧ (∀ d ∈ A, (d.args.length ≤ 1048576 ∧ d.name.size ≤ 1048576)) ∧ (∀ d ∈ B, (d.args.length ≤ 1048576 ∧ d.name.size ≤ 1048576)) ∧ (∀ d ∈ C, (d.args.length ≤ 1048576 ∧ d.name.size ≤ 1048576))

set_option maxRecDepth 100000 in
set_option maxHeartbeats 16000000 in
theorem bytes_three (oA : Option Addr) (cA : Nat) (A : List Decl) (oB : Option Addr) (cB : Nat) (B : List Decl) (oC : Option Addr) (cC : Nat) (C : List Decl) (w : World) (hA : DRow w (.slice oA A.length cA) A) (hB : DRow w (.slice oB B.length cB) B) (hC : DRow w (.slice oC C.length cC) C) :
    Calls Try.prog 12 #[.slice oA A.length cA, .slice oB B.length cB, .slice oC C.length cC] w (Answers w (Small3 A B C)) := by
  have HDA : Hid (DRow w (.slice oA A.length cA) A) := hA
  have hlA := hA.len
  unfold maxLen at hlA
  clear hA
  have HDB : Hid (DRow w (.slice oB B.length cB) B) := hB
  have hlB := hB.len
  unfold maxLen at hlB
  clear hB
  have HDC : Hid (DRow w (.slice oC C.length cC) C) := hC
  have hlC := hC.len
  unfold maxLen at hlC
  clear hC
  go_enter Try.func12, Try.ntmps12
  go_wp2
  all_goals try (go_ret; exact ⟨false, rfl, rfl, fun h => by cases h⟩)
  go_loop [7, 8] (fun zv iv => ∃ (k : Nat) (n : Int), k ≤ A.length ∧ (A.length : Int) ≤ n ∧ n ≤ 1048576 ∧ zv = .int .i64 n ∧ iv = .int .i64 k ∧ Hid (∀ j d, j < k → A[j]? = some d → (d.args.length ≤ 1048576 ∧ d.name.size ≤ 1048576))) (fun _ iv => A.length - (intOf iv).toNat)
  case atStart => exact ⟨0, _, Nat.zero_le _, by omega, by omega, rfl, rfl, fun j d hj => absurd hj (Nat.not_lt_zero _)⟩
  case round =>
    obtain ⟨k, n, hk, n0, n1, rfl, rfl, HQA⟩ := hrel
    by_cases hlt : k < A.length
    · obtain ⟨b, o, rfl, hcell⟩ := HDA.out.at hlt
      obtain ⟨av, e0, e1, hsr, e2, s0, s2⟩ := hcell
      rw [add_plain'] at e1 e2
      obtain ⟨oa, ca, rfl⟩ := hsr.form'
      have HSR : Hid (SRow w (.slice oa A[k].args.length ca) A[k].args) := hsr
      have hal := hsr.len
      unfold maxLen at s0 s2 hal
      clear hsr
      have hlt' : (k : Int) < (A.length : Int) := by omega
      go_wp2
      all_goals try (go_ret; exact ⟨false, rfl, rfl, fun h => by cases h⟩)
      go_loop [7, 9] (fun zv jv => ∃ (j : Nat) (m : Int), j ≤ A[k].args.length ∧ (A.length : Int) ≤ m ∧ m ≤ 1048576 ∧ zv = .int .i64 m ∧ jv = .int .i64 j) (fun _ jv => A[k].args.length - (intOf jv).toNat)
      case atStart => exact ⟨0, _, Nat.zero_le _, by omega, by omega, rfl, rfl⟩
      case round =>
        obtain ⟨j, m, hj, m0, m1, rfl, rfl⟩ := hrel
        by_cases hjl : j < A[k].args.length
        · obtain ⟨ba, oo, rfl, hc, hs⟩ := HSR.out.at hjl
          unfold maxLen at hs
          have hjl' : (j : Int) < (A[k].args.length : Int) := by omega
          go_wp2
          all_goals try (go_ret; exact ⟨false, rfl, rfl, fun h => by cases h⟩)
          go_round
          case rel => exact ⟨j + 1, _, by omega, by omega, by omega, rfl, by go_num⟩
          case measure => simp [intOf]; omega
        · go_wp2
          all_goals try (go_ret; exact ⟨false, rfl, rfl, fun h => by cases h⟩)
          go_round
          case rel => exact ⟨k + 1, _, by omega, by omega, by omega, rfl, by go_num, next_ok2 hlt HQA.out (by omega) (by omega)⟩
          case measure => simp [intOf]; omega
    · have HKA : Hid (∀ d ∈ A, (d.args.length ≤ 1048576 ∧ d.name.size ≤ 1048576)) := all_ok2 (by omega) HQA.out
      clear HQA
      go_wp2
      all_goals try (go_ret; exact ⟨false, rfl, rfl, fun h => by cases h⟩)
      go_loop [7, 10] (fun zv iv => ∃ (k : Nat) (n : Int), k ≤ B.length ∧ (A.length : Int) + (B.length : Int) ≤ n ∧ n ≤ 1048576 ∧ zv = .int .i64 n ∧ iv = .int .i64 k ∧ Hid (∀ j d, j < k → B[j]? = some d → (d.args.length ≤ 1048576 ∧ d.name.size ≤ 1048576))) (fun _ iv => B.length - (intOf iv).toNat)
      case atStart => exact ⟨0, _, Nat.zero_le _, by omega, by omega, rfl, rfl, fun j d hj => absurd hj (Nat.not_lt_zero _)⟩
      case round =>
        obtain ⟨k, n, hk, n0, n1, rfl, rfl, HQB⟩ := hrel
        by_cases hlt : k < B.length
        · obtain ⟨b, o, rfl, hcell⟩ := HDB.out.at hlt
          obtain ⟨av, e0, e1, hsr, e2, s0, s2⟩ := hcell
          rw [add_plain'] at e1 e2
          obtain ⟨oa, ca, rfl⟩ := hsr.form'
          have HSR : Hid (SRow w (.slice oa B[k].args.length ca) B[k].args) := hsr
          have hal := hsr.len
          unfold maxLen at s0 s2 hal
          clear hsr
          have hlt' : (k : Int) < (B.length : Int) := by omega
          go_wp2
          all_goals try (go_ret; exact ⟨false, rfl, rfl, fun h => by cases h⟩)
          go_loop [7, 11] (fun zv jv => ∃ (j : Nat) (m : Int), j ≤ B[k].args.length ∧ (A.length : Int) + (B.length : Int) ≤ m ∧ m ≤ 1048576 ∧ zv = .int .i64 m ∧ jv = .int .i64 j) (fun _ jv => B[k].args.length - (intOf jv).toNat)
          case atStart => exact ⟨0, _, Nat.zero_le _, by omega, by omega, rfl, rfl⟩
          case round =>
            obtain ⟨j, m, hj, m0, m1, rfl, rfl⟩ := hrel
            by_cases hjl : j < B[k].args.length
            · obtain ⟨ba, oo, rfl, hc, hs⟩ := HSR.out.at hjl
              unfold maxLen at hs
              have hjl' : (j : Int) < (B[k].args.length : Int) := by omega
              go_wp2
              all_goals try (go_ret; exact ⟨false, rfl, rfl, fun h => by cases h⟩)
              go_round
              case rel => exact ⟨j + 1, _, by omega, by omega, by omega, rfl, by go_num⟩
              case measure => simp [intOf]; omega
            · go_wp2
              all_goals try (go_ret; exact ⟨false, rfl, rfl, fun h => by cases h⟩)
              go_round
              case rel => exact ⟨k + 1, _, by omega, by omega, by omega, rfl, by go_num, next_ok2 hlt HQB.out (by omega) (by omega)⟩
              case measure => simp [intOf]; omega
        · have HKB : Hid (∀ d ∈ B, (d.args.length ≤ 1048576 ∧ d.name.size ≤ 1048576)) := all_ok2 (by omega) HQB.out
          clear HQB
          go_wp2
          all_goals try (go_ret; exact ⟨false, rfl, rfl, fun h => by cases h⟩)
          go_loop [7, 12] (fun zv iv => ∃ (k : Nat) (n : Int), k ≤ C.length ∧ (A.length : Int) + (B.length : Int) + (C.length : Int) ≤ n ∧ n ≤ 1048576 ∧ zv = .int .i64 n ∧ iv = .int .i64 k ∧ Hid (∀ j d, j < k → C[j]? = some d → (d.args.length ≤ 1048576 ∧ d.name.size ≤ 1048576))) (fun _ iv => C.length - (intOf iv).toNat)
          case atStart => exact ⟨0, _, Nat.zero_le _, by omega, by omega, rfl, rfl, fun j d hj => absurd hj (Nat.not_lt_zero _)⟩
          case round =>
            obtain ⟨k, n, hk, n0, n1, rfl, rfl, HQC⟩ := hrel
            by_cases hlt : k < C.length
            · obtain ⟨b, o, rfl, hcell⟩ := HDC.out.at hlt
              obtain ⟨av, e0, e1, hsr, e2, s0, s2⟩ := hcell
              rw [add_plain'] at e1 e2
              obtain ⟨oa, ca, rfl⟩ := hsr.form'
              have HSR : Hid (SRow w (.slice oa C[k].args.length ca) C[k].args) := hsr
              have hal := hsr.len
              unfold maxLen at s0 s2 hal
              clear hsr
              have hlt' : (k : Int) < (C.length : Int) := by omega
              go_wp2
              all_goals try (go_ret; exact ⟨false, rfl, rfl, fun h => by cases h⟩)
              go_loop [7, 13] (fun zv jv => ∃ (j : Nat) (m : Int), j ≤ C[k].args.length ∧ (A.length : Int) + (B.length : Int) + (C.length : Int) ≤ m ∧ m ≤ 1048576 ∧ zv = .int .i64 m ∧ jv = .int .i64 j) (fun _ jv => C[k].args.length - (intOf jv).toNat)
              case atStart => exact ⟨0, _, Nat.zero_le _, by omega, by omega, rfl, rfl⟩
              case round =>
                obtain ⟨j, m, hj, m0, m1, rfl, rfl⟩ := hrel
                by_cases hjl : j < C[k].args.length
                · obtain ⟨ba, oo, rfl, hc, hs⟩ := HSR.out.at hjl
                  unfold maxLen at hs
                  have hjl' : (j : Int) < (C[k].args.length : Int) := by omega
                  go_wp2
                  all_goals try (go_ret; exact ⟨false, rfl, rfl, fun h => by cases h⟩)
                  go_round
                  case rel => exact ⟨j + 1, _, by omega, by omega, by omega, rfl, by go_num⟩
                  case measure => simp [intOf]; omega
                · go_wp2
                  all_goals try (go_ret; exact ⟨false, rfl, rfl, fun h => by cases h⟩)
                  go_round
                  case rel => exact ⟨k + 1, _, by omega, by omega, by omega, rfl, by go_num, next_ok2 hlt HQC.out (by omega) (by omega)⟩
                  case measure => simp [intOf]; omega
            · have HKC : Hid (∀ d ∈ C, (d.args.length ≤ 1048576 ∧ d.name.size ≤ 1048576)) := all_ok2 (by omega) HQC.out
              clear HQC
              go_wp2
              all_goals try (go_ret; exact ⟨false, rfl, rfl, fun h => by cases h⟩)
              go_ret
              exact ⟨true, rfl, rfl, fun _ => ⟨by omega, HKA.out, HKB.out, HKC.out⟩⟩
end Go.Proofs.Qxb6615509a
