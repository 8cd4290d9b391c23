/-
  Contracts of the leaves: inString, zzsynQuotable, isNameStart, isNamePart, unquotable.
-/
import Derived.Test.Qxb6615509aDoorProg
import Derived.Test.Qxb6615509aDoorPlain
import Derived.WalkKit
import Derived.WalkSpells
import Derived.WalkLawsBesides
namespace Go.Proofs.Qxb6615509aDoor
open Go.RowKit Plain

theorem ret_bool {a b : Bool} (h : a = b) : Ending.returned (.bool a) = .returned (.bool b) := by rw [h]

theorem quotable_any (c : Int) (w : World) : Calls Tryd.prog 8 #[.int .u8 c] w fun e w' => e = .returned (.bool (quot c)) ∧ w' = w := by
  go_enter Tryd.func8, Tryd.ntmps8
  go_wp2
  all_goals (go_ret; refine ⟨ret_bool ?_, rfl⟩; unfold quot; rw [Bool.eq_iff_iff]; simp; try omega)

theorem inString_any (c : Int) (w : World) : Calls Tryd.prog 14 #[.int .u8 c] w fun e w' => e = .returned (.bool (quot c)) ∧ w' = w := by
  go_enter Tryd.func14, Tryd.ntmps14
  go_wp2
  all_goals (go_ret; refine ⟨ret_bool ?_, rfl⟩; unfold quot; rw [Bool.eq_iff_iff]; simp; try omega)

theorem nameStart_any (c : Int) (w : World) : Calls Tryd.prog 12 #[.int .i32 c] w fun e w' => e = .returned (.bool (nstart c)) ∧ w' = w := by
  go_enter Tryd.func12, Tryd.ntmps12
  go_wp2
  all_goals (go_ret; refine ⟨ret_bool ?_, rfl⟩; unfold nstart; rw [Bool.eq_iff_iff]; simp; try omega)

theorem npart_of_start {c : Int} (h : nstart c = true) : npart c = true := by
  unfold nstart at h; unfold npart; simp at h ⊢; omega
theorem npart_of_not {c : Int} (h : nstart c = false) : npart c = decide ((48 ≤ c ∧ c ≤ 57) ∨ c = 95) := by
  unfold nstart at h; unfold npart; rw [Bool.eq_iff_iff]; simp at h ⊢; omega

theorem namePart_any (c : Int) (w : World) : Calls Tryd.prog 13 #[.int .i32 c] w fun e w' => e = .returned (.bool (npart c)) ∧ w' = w := by
  cases hs : nstart c
  · have hp := npart_of_not hs
    have HP : Hid (npart c = decide ((48 ≤ c ∧ c ≤ 57) ∨ c = 95)) := hp
    clear hp
    go_enter Tryd.func13, Tryd.ntmps13
    go_wp2_with (go_at_call 12; refine (nameStart_any _ _).mono ?_; rintro e w' ⟨rfl, rfl⟩)
    all_goals (go_ret; refine ⟨ret_bool ?_, rfl⟩; rw [HP.out, Bool.eq_iff_iff]; simp; try omega)
  · have hp := npart_of_start hs
    have HP : Hid (npart c = true) := hp
    clear hp
    go_enter Tryd.func13, Tryd.ntmps13
    go_wp2_with (go_at_call 12; refine (nameStart_any _ _).mono ?_; rintro e w' ⟨rfl, rfl⟩)
    all_goals (go_ret; refine ⟨ret_bool ?_, rfl⟩; rw [HP.out])

theorem allQ_take_snoc (s : ByteArray) (k : Nat) (h : k < s.size) : allQ (s.data.toList.take (k + 1)) = (allQ (s.data.toList.take k) && quot (s[k].toNat : Int)) := by
  rw [List.take_succ_eq_append_getElem (by simpa using h), allQ_append, allQ_one]; rfl

theorem allQ_false_of_take {l : List UInt8} (k : Nat) (h : allQ (l.take k) = false) : allQ l = false := by
  have : allQ l = (allQ (l.take k) && allQ (l.drop k)) := by rw [← allQ_append, List.take_append_drop]
  rw [this, h]; rfl

set_option maxHeartbeats 400000 in
theorem unquotable_any (s : ByteArray) (w : World) (hs : s.size ≤ maxLen) :
    Calls Tryd.prog 11 #[.string s] w fun e w' => ∃ r : Int, e = .returned (.int .i64 r) ∧ allQ s.data.toList = decide (r < 0) ∧ w' = w := by
  unfold maxLen at hs
  go_enter Tryd.func11, Tryd.ntmps11
  go_wp2
  go_loop [3] (fun i => ∃ k : Nat, k ≤ s.size ∧ i = .int .i64 k ∧ Hid (allQ (s.data.toList.take k) = true)) (fun i => s.size - (intOf i).toNat)
  case atStart => exact ⟨0, Nat.zero_le _, rfl, by show _ = _; simp [allQ]⟩
  case round =>
    obtain ⟨k, hk, rfl, HQ⟩ := hrel
    by_cases hlt : k < s.size
    · have HS : Hid (allQ (s.data.toList.take (k + 1)) = (allQ (s.data.toList.take k) && quot (s[k].toNat : Int))) := allQ_take_snoc s k hlt
      cases hq : quot (s[k].toNat : Int)
      · go_wp2_with (go_at_call 14; refine (inString_any _ _).mono ?_; rintro e w' ⟨rfl, rfl⟩)
        go_ret
        refine ⟨_, rfl, ?_, rfl⟩
        rw [allQ_false_of_take (k + 1) (by rw [HS.out, hq]; simp)]
        simp
      · go_wp2_with (go_at_call 14; refine (inString_any _ _).mono ?_; rintro e w' ⟨rfl, rfl⟩)
        go_round
        case rel => exact ⟨k + 1, by omega, by go_num, by show _ = _; rw [HS.out, hq, HQ.out]; rfl⟩
        case measure => simp [intOf]; omega
    · go_wp2
      go_ret
      refine ⟨_, rfl, ?_, rfl⟩
      have := HQ.out
      rw [List.take_of_length_le (by simp; omega)] at this
      rw [this]; rfl
end Go.Proofs.Qxb6615509aDoor
