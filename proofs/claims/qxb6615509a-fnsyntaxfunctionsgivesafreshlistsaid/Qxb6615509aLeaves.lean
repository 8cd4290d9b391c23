/-
  Contracts of the leaves: zzsynAdd, zzsynAddWords, zzsynSameStrings.
-/
import Derived.Test.Qxb6615509aProg
import Derived.Test.Qxb6615509aMem
import Derived.WalkLawsBesides
import Derived.BigQuiet
import Derived.Deep.QuietTactic
namespace Go.Proofs.Qxb6615509a
open Go.RowKit

theorem add_any (t n : Int) (w : World) (ht : 0 ≤ t) (ht2 : t ≤ 1048577) (hn : 0 ≤ n) (hn2 : n ≤ 9223372036854775807) :
    Calls Try.prog 14 #[.int .i64 t, .int .i64 n] w fun e w' => ∃ r : Int, e = .returned (.int .i64 r) ∧ 0 ≤ r ∧ r ≤ 1048577 ∧ w = w' := by
  by_cases h : 1048576 - t < n
  · go_enter Try.func14, Try.ntmps14
    go_wp2
    go_ret
    exact ⟨_, rfl, by omega, by omega, rfl⟩
  · go_enter Try.func14, Try.ntmps14
    go_wp2
    go_ret
    exact ⟨_, rfl, by omega, by omega, rfl⟩

theorem addWords_any (t n k : Int) (w : World) (ht : 0 ≤ t) (ht2 : t ≤ 1048577) (hn : 0 ≤ n) (hn2 : n ≤ 9223372036854775807) (hk : k = 56 ∨ k = 16) :
    Calls Try.prog 13 #[.int .i64 t, .int .i64 n, .int .i64 k] w fun e w' => ∃ r : Int, e = .returned (.int .i64 r) ∧ 0 ≤ r ∧ r ≤ 1048577 ∧ w = w' := by
  rcases hk with rfl | rfl
  all_goals
    by_cases h1 : t = 1048577
    · subst h1
      go_enter Try.func13, Try.ntmps13
      go_wp2
      all_goals (go_ret; exact ⟨_, rfl, by omega, by omega, rfl⟩)
    · have ht3 : t ≤ 1048576 := by omega
      go_enter Try.func13, Try.ntmps13
      go_wp2
      all_goals (go_ret; exact ⟨_, rfl, by omega, by omega, rfl⟩)

theorem drewN_drewN (w : World) (a b : Nat) : (w.drewN a).drewN b = w.drewN (a + b) := by
  unfold World.drewN
  simp [Nat.add_assoc]

set_option maxHeartbeats 800000 in
theorem same_full (b1 o1 c1 b2 o2 c2 : Nat) (xs : List ByteArray) (w : World) (hl : xs.length ≤ maxLen)
    (h1 : ∀ i s, xs[i]? = some s → w.cell? ⟨b1, o1 + i, none⟩ = some (.string s) ∧ s.size ≤ maxLen) (h2 : ∀ i s, xs[i]? = some s → w.cell? ⟨b2, o2 + i, none⟩ = some (.string s) ∧ s.size ≤ maxLen) :
    Calls Try.prog 16 #[.slice (some ⟨b1, o1, none⟩) xs.length c1, .slice (some ⟨b2, o2, none⟩) xs.length c2] w fun e w' => e = .returned (.bool true) ∧ ∃ n, w' = w.drewN n := by
  have H1 : Hid (∀ i s, xs[i]? = some s → w.cell? ⟨b1, o1 + i, none⟩ = some (.string s) ∧ s.size ≤ maxLen) := h1
  have H2 : Hid (∀ i s, xs[i]? = some s → w.cell? ⟨b2, o2 + i, none⟩ = some (.string s) ∧ s.size ≤ maxLen) := h2
  clear h1 h2
  unfold maxLen at hl
  go_enter Try.func16, Try.ntmps16
  go_wp2
  go_loopw [5] (fun i w' => ∃ k n : Nat, k ≤ xs.length ∧ i = .int .i64 k ∧ w' = w.drewN n) (fun i _ => xs.length - (intOf i).toNat)
  case atStart => exact ⟨0, 0, Nat.zero_le _, rfl, rfl⟩
  case round =>
    obtain ⟨k, n, hk, rfl, rfl⟩ := hrel
    by_cases hlt : k < xs.length
    · have e1 : w.cell? ⟨b1, o1 + k, none⟩ = some (.string xs[k]) := (H1.out k xs[k] (by simp [hlt])).1
      have e2 : w.cell? ⟨b2, o2 + k, none⟩ = some (.string xs[k]) := (H2.out k xs[k] (by simp [hlt])).1
      have hlt' : (k : Int) < (xs.length : Int) := by omega
      go_wp2
      go_quiet (fail)
      go_wp2
      go_roundw
      case rel => exact ⟨k + 1, n + nq, by omega, by go_num, rfl⟩
      case measure => simp [intOf]; omega
    · go_wp2
      go_ret
      exact ⟨rfl, n, rfl⟩

set_option maxHeartbeats 800000 in
theorem same_none (a1 a2 : Option Addr) (c1 c2 : Nat) (w : World) :
    Calls Try.prog 16 #[.slice a1 0 c1, .slice a2 0 c2] w fun e w' => e = .returned (.bool true) ∧ ∃ n, w' = w.drewN n := by
  go_enter Try.func16, Try.ntmps16
  go_wp2
  go_loop [5] (fun i => i = .int .i64 0) (fun _ => 0)
  case atStart => rfl
  case round =>
    subst hrel
    go_wp2
    go_ret
    exact ⟨rfl, 0, rfl⟩

theorem same_any (va vb : Value) (xs : List ByteArray) (w : World) (ha : SRow w va xs) (hb : SRow w vb xs) :
    Calls Try.prog 16 #[va, vb] w fun e w' => e = .returned (.bool true) ∧ ∃ n, w' = w.drewN n := by
  by_cases hn : 0 < xs.length
  · obtain ⟨b1, o1, c1, rfl, h1⟩ := ha.plain hn
    obtain ⟨b2, o2, c2, rfl, h2⟩ := hb.plain hn
    exact same_full b1 o1 c1 b2 o2 c2 xs w ha.len h1 h2
  · have h0 : xs = [] := List.eq_nil_of_length_eq_zero (by omega)
    subst h0
    have e1 : ∃ a c, va = .slice a 0 c := by
      rcases ha with ⟨rfl, _⟩ | ⟨a, c, rfl, _⟩
      · exact ⟨_, _, rfl⟩
      · exact ⟨_, _, rfl⟩
    have e2 : ∃ a c, vb = .slice a 0 c := by
      rcases hb with ⟨rfl, _⟩ | ⟨a, c, rfl, _⟩
      · exact ⟨_, _, rfl⟩
      · exact ⟨_, _, rfl⟩
    obtain ⟨a1, c1, rfl⟩ := e1
    obtain ⟨a2, c2, rfl⟩ := e2
    exact same_none a1 a2 c1 c2 w
end Go.Proofs.Qxb6615509a
