/-
  The walk of the law FnInputErrorMessageLastVerbatim, fmt's text told.
-/
import Derived.Test.Qxb6615892aFmtWalkB
namespace Go.Proofs.Qxb6615892aFmt
open Go.RowKit Go.Extern.Stop Go.Stop Go.Extern

theorem ret_bool {a b : Bool} (h : a = b) : Ending.returned (.bool a) = .returned (.bool b) := by rw [h]

theorem bytes_any (p m n : ByteArray) (line : Int) (w : World) (hp : p.size ≤ maxLen) (hm : m.size ≤ maxLen) (hn : n.size ≤ maxLen) :
    Calls Tryf.prog 4 #[.string p, .int .i64 line, .string m, .string n] w fun e w' => e = .returned (.bool (decide (p.size + m.size + n.size ≤ 1048576))) ∧ w = w' := by
  unfold maxLen at hp hm hn
  go_enter Tryf.func4, Tryf.ntmps4
  go_wp2
  all_goals (go_ret; refine ⟨ret_bool ?_, rfl⟩; rw [Bool.eq_iff_iff]; simp; try omega)

set_option maxHeartbeats 800000 in
theorem law_long (p m n : ByteArray) (line : Int) (w : World) (hp : p.size ≤ maxLen) (hm : m.size ≤ maxLen) (hn : n.size ≤ maxLen) (hl : ¬ p.size + m.size + n.size ≤ 1048576) :
    Calls Tryf.prog 3 #[.string p, .int .i64 line, .string m, .string n] w fun e w' => e = .returned (.bool true) ∧ Below w.heap.size w w' := by
  go_enter Tryf.func3, Tryf.ntmps3
  go_wp2_with fail
  refine (bytes_any p m n line _ hp hm hn).mono ?_
  rintro e w' ⟨rfl, rfl⟩
  have hd : decide (p.size + m.size + n.size ≤ 1048576) = false := by simpa using hl
  rw [hd]
  go_wp2
  go_ret
  exact ⟨rfl, Below.refl _ _⟩

set_option maxHeartbeats 800000 in
theorem law_wide (p m n : ByteArray) (line : Int) (w : World) (hl : p.size + m.size + n.size ≤ 1048576) (hx : 65536 < p.size ∨ (p.size ≤ 65536 ∧ 65536 < m.size) ∨ (p.size ≤ 65536 ∧ m.size ≤ 65536 ∧ 65536 < n.size)) :
    Calls Tryf.prog 3 #[.string p, .int .i64 line, .string m, .string n] w fun e w' => e = .returned (.bool true) ∧ Below w.heap.size w w' := by
  rcases hx with h1 | ⟨h1, h2⟩ | ⟨h1, h2, h3⟩
  all_goals
    go_enter Tryf.func3, Tryf.ntmps3
    go_wp2_with fail
    refine (bytes_any p m n line _ (by unfold maxLen; omega) (by unfold maxLen; omega) (by unfold maxLen; omega)).mono ?_
    rintro e w' ⟨rfl, rfl⟩
    have hd : decide (p.size + m.size + n.size ≤ 1048576) = true := by simpa using hl
    rw [hd]
    go_wp2
    go_ret
    exact ⟨rfl, Below.refl _ _⟩

theorem same_of {a b : ByteArray} (h : a.data.toList = b.data.toList) : a = b := by
  apply ByteArray.ext
  exact Array.ext' h
theorem ext_data (s : ByteArray) (a b : Nat) : (s.extract a b).data.toList = (s.data.toList.drop a).take (b - a) := by
  simp [ByteArray.data_extract]
theorem len_data (s : ByteArray) : s.data.toList.length = s.size := Array.length_toList

/-- The pieces of a text that ends in its message. -/
theorem pieces (A P m : ByteArray) (h : A.data.toList = P.data.toList ++ m.data.toList) : A.size = P.size + m.size ∧ A.extract 0 P.size = P ∧ A.extract P.size (P.size + m.size) = m := by
  have hs : A.size = P.size + m.size := by
    have := congrArg List.length h
    simpa using this
  refine ⟨hs, same_of ?_, same_of ?_⟩
  · rw [ext_data, h, List.drop_zero, Nat.sub_zero, ← len_data P, List.take_left]
  · rw [ext_data, h, ← len_data P, List.drop_left, List.take_of_length_le]
    rw [len_data m]; omega
theorem pieces_ahead (P p : ByteArray) (line : Int) (hw : (Lit.int .i64 line).wf = true) (hp : p.size ≤ 65536) (h : P.data.toList = ahead p.data.toList line) : ∃ r : Nat, P.size = r + 2 ∧ p.size ≤ r ∧ r ≤ 70000 ∧ P.extract 0 p.size = p ∧ P.extract r (r + 2) = ⟨#[58, 32]⟩ := by
  obtain ⟨x, hx, hxl⟩ : ∃ x : List UInt8, ahead p.data.toList line = p.data.toList ++ x ++ [58, 32] ∧ x.length ≤ 27 := by
    unfold ahead
    split
    · exact ⟨[], by simp, by simp⟩
    · have := FmtText.itoa_length_le hw
      exact ⟨[32, 108, 105, 110, 101, 32] ++ Lib.itoa line, by simp, by simp; omega⟩
  rw [hx] at h
  have hs : P.size = (p.data.toList ++ x).length + 2 := by
    have := congrArg List.length h
    rw [len_data] at this
    simp at this
    simp
    omega
  refine ⟨(p.data.toList ++ x).length, hs, by simp, by simp; omega, same_of ?_, same_of ?_⟩
  · rw [ext_data, h, List.drop_zero, Nat.sub_zero, ← len_data p, List.append_assoc, List.take_left]
  · rw [ext_data, h, List.drop_left, List.take_of_length_le (by simp)]

/-- Two texts over one beginning are the same just where the messages are. -/
theorem same_texts (A B P m n : ByteArray) (hA : A.data.toList = P.data.toList ++ m.data.toList) (hB : B.data.toList = P.data.toList ++ n.data.toList) : (A.toList == B.toList) = (m.toList == n.toList) := by
  rw [ByteArray.toList_eq, ByteArray.toList_eq, ByteArray.toList_eq, ByteArray.toList_eq, hA, hB, Bool.eq_iff_iff]
  simp

set_option maxHeartbeats 1600000 in
theorem law_core (F : Interp) (p m n : ByteArray) (line : Int) (w : World) (hF : F.told.answers w.tape) (hp : p.size ≤ 65536) (hm : m.size ≤ 65536) (hn : n.size ≤ 65536) (hw : (Lit.int .i64 line).wf = true) :
    Calls Tryf.prog 3 #[.string p, .int .i64 line, .string m, .string n] w fun e w' => e = .returned (.bool true) ∧ Below w.heap.size w w' := by
  have HF : Hid (F.told.answers w.tape) := hF
  clear hF
  have HW : Hid ((Lit.int .i64 line).wf = true) := hw
  clear hw
  go_enter Tryf.func3, Tryf.ntmps3
  go_wp2_with fail
  refine (bytes_any p m n line _ (by unfold maxLen; omega) (by unfold maxLen; omega) (by unfold maxLen; omega)).mono ?_
  rintro e w' ⟨rfl, rfl⟩
  have hd : decide (p.size + m.size + n.size ≤ 1048576) = true := by simp; omega
  rw [hd]
  clear hd
  go_wp2_with fail
  refine (text_told F p m line _ HF.out hp hm HW.out).mono ?_
  rintro e w1 ⟨A, rfl, hA, hb1⟩
  have HA : Hid (A.data.toList = ahead p.data.toList line ++ m.data.toList) := hA
  have HB1 : Hid (Below w.heap.size w w1) := hb1
  have HF1 : Hid (F.told.answers w1.tape) := by show F.told.answers _; rw [hb1.tape]; exact HF.out
  clear hA hb1 HF
  go_wp2_with fail
  refine (text_told F p n line _ HF1.out hp hn HW.out).mono ?_
  rintro e w2 ⟨B, rfl, hB, hb2⟩
  have HB : Hid (B.data.toList = ahead p.data.toList line ++ n.data.toList) := hB
  have HB2 : Hid (Below w.heap.size w w2) := HB1.out.trans (hb2.mono HB1.out.size)
  clear hB hb2 HB1 HF1
  obtain ⟨P, hP⟩ : ∃ P : ByteArray, P.data.toList = ahead p.data.toList line := ⟨⟨(ahead p.data.toList line).toArray⟩, by simp⟩
  have hA := HA.out
  have hB := HB.out
  rw [← hP] at hA hB
  obtain ⟨r, r1, r2, rb, r3, r4⟩ := pieces_ahead P p line HW.out hp hP
  obtain ⟨a1, a2, a3⟩ := pieces A P m hA
  obtain ⟨b1, b2, b3⟩ := pieces B P n hB
  have hAB := same_texts A B P m n hA hB
  rw [r1] at a1 a2 a3 b1 b2 b3
  clear HA HB hP hA hB HW
  have hr : (r : Int) ≤ 70000 := by omega
  go_wp2
  go_ret
  exact ⟨rfl, HB2.out⟩

theorem law_walk (F : Interp) (p m n : ByteArray) (line : Int) (w : World) (hF : F.told.answers w.tape) (hp : p.size ≤ maxLen) (hm : m.size ≤ maxLen) (hn : n.size ≤ maxLen) (hw : (Lit.int .i64 line).wf = true) :
    Calls Tryf.prog 3 #[.string p, .int .i64 line, .string m, .string n] w fun e w' => e = .returned (.bool true) ∧ Below w.heap.size w w' := by
  by_cases hl : p.size + m.size + n.size ≤ 1048576
  · by_cases hx : 65536 < p.size ∨ (p.size ≤ 65536 ∧ 65536 < m.size) ∨ (p.size ≤ 65536 ∧ m.size ≤ 65536 ∧ 65536 < n.size)
    · exact law_wide p m n line w hl hx
    · exact law_core F p m n line w hF (by omega) (by omega) (by omega) hw
  · exact law_long p m n line w hp hm hn hl
end Go.Proofs.Qxb6615892aFmt
