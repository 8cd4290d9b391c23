/-
  The walk of FnSyntaxIsConstantNameInsertAnywhere.
-/
import Derived.Test.Qxb6615509aDoorIsName
import Derived.Deep.RegionWith
import Derived.BigQuiet
import Derived.Deep.QuietTactic
import Derived.Laws.IdiomStrings
namespace Go.Proofs.Qxb6615509aDoor.Insert
open Go.RowKit Plain

theorem quotable_w (c : Int) (w : World) : Calls Tryd.prog 8 #[.int .u8 c] w fun e w' => e = .returned (.bool (quot c)) ∧ w = w' :=
  (quotable_any c w).mono fun _ _ h => ⟨h.1, h.2.symm⟩

theorem quotable_eq (c : Int) (w : World) (q : Bool) (hq : quot c = q) : Calls Tryd.prog 8 #[.int .u8 c] w fun e w' => e = .returned (.bool q) ∧ w = w' :=
  hq ▸ quotable_w c w

theorem bytes_any (s : ByteArray) (i c : Int) (w : World) (hs : s.size ≤ maxLen) :
    Calls Tryd.prog 9 #[.string s, .int .i64 i, .int .u8 c] w fun e w' => e = .returned (.bool (decide (s.size ≤ 1048576))) ∧ w = w' := by
  unfold maxLen at hs
  go_enter Tryd.func9, Tryd.ntmps9
  go_wp2
  all_goals (go_ret; refine ⟨ret_bool ?_, rfl⟩; rw [Bool.eq_iff_iff]; simp; try omega)

set_option maxHeartbeats 800000 in
theorem out_long (s : ByteArray) (i c : Int) (w : World) (hs : s.size ≤ maxLen) (hl : ¬ s.size ≤ 1048576) :
    Calls Tryd.prog 4 #[.string s, .int .i64 i, .int .u8 c] w fun e w' => e = .returned (.bool true) ∧ Below w.heap.size w w' := by
  go_enter Tryd.func4, Tryd.ntmps4
  go_wp2_with fail
  refine (bytes_any s i c _ hs).mono ?_
  rintro e w' ⟨rfl, rfl⟩
  have hd : decide (s.size ≤ 1048576) = false := by simpa using hl
  rw [hd]
  go_wp2
  go_ret
  exact ⟨rfl, Below.refl _ _⟩

set_option maxHeartbeats 800000 in
theorem out_index (s : ByteArray) (i c : Int) (w : World) (hs : s.size ≤ 1048576) (hi : i < 0 ∨ (s.size : Int) < i) :
    Calls Tryd.prog 4 #[.string s, .int .i64 i, .int .u8 c] w fun e w' => e = .returned (.bool true) ∧ Below w.heap.size w w' := by
  rcases hi with hi | hi
  all_goals
    go_enter Tryd.func4, Tryd.ntmps4
    go_wp2_with fail
    refine (bytes_any s i c _ (by unfold maxLen; omega)).mono ?_
    rintro e w' ⟨rfl, rfl⟩
    have hd : decide (s.size ≤ 1048576) = true := by simpa using hs
    rw [hd]
    go_wp2
    go_ret
    exact ⟨rfl, Below.refl _ _⟩

theorem isConst_eq (s : ByteArray) (B : Bool) (w : World) (mv : Value) (hB : icn s.data.toList = B) (hs : s.size ≤ maxLen) (hm : MapOk w mv) :
    Calls Tryd.prog 7 #[.string s] w fun e w' => e = .returned (.bool B) ∧ Below w.heap.size w w' :=
  hB ▸ isConst_any s w mv hs hm

theorem one_conv (c : UInt8) (w : World) : ∃ one : ByteArray, one.data.toList = [c] ∧ one.size = 1 ∧
    (convert 27 9 (.slice (some ⟨w.heap.size, 0, none⟩) 1 1)).run Tryd.prog (w.alloc (.cells #[.int .u8 (c.toNat : Int)] 5)) = .ok (.string one) (w.alloc (.cells #[.int .u8 (c.toNat : Int)] 5)) :=
  ⟨⟨#[c]⟩, rfl, rfl, run_convert_bytes_back (P := Tryd.prog) (w.alloc (.cells #[.int .u8 (c.toNat : Int)] 5)) 27 9 5 ⟨w.heap.size, 0, none⟩ 1 [c] Tryd.underlying27 Tryd.underlying5 Tryd.underlying9 (fun j hj => by
    have hj0 : j = 0 := by simpa using hj
    subst hj0
    simp [Addr.add])⟩

theorem grown_eq (s one : ByteArray) (k : Nat) (c : UInt8) (h : one.data.toList = [c]) (_hk : k ≤ s.size) :
    icn (s.extract 0 k ++ one ++ s.extract k s.size).data.toList = (quot (c.toNat : Int) && (s.data.toList.isEmpty || icn s.data.toList)) := by
  have e : (s.extract 0 k ++ one ++ s.extract k s.size).data.toList = s.data.toList.take k ++ [c] ++ s.data.toList.drop k := by
    have e1 : (s.extract 0 k).data.toList = s.data.toList.take k := by simp [ByteArray.data_extract]
    have e2 : (s.extract k s.size).data.toList = s.data.toList.drop k := by
      simp [ByteArray.data_extract]
      rw [List.take_of_length_le (by simp)]
    rw [ByteArray.data_append, ByteArray.data_append, Array.toList_append, Array.toList_append, e1, e2, h]
  rw [e, insert_law, List.take_append_drop]

set_option maxHeartbeats 3200000 in
theorem in_empty (s : ByteArray) (k : Nat) (c : UInt8) (w : World) (mv : Value) (hM : MapOk w mv) (hs : s.size ≤ 1048576) (hi : k ≤ s.size) (he : s.toList = []) :
    Calls Tryd.prog 4 #[.string s, .int .i64 k, .int .u8 c.toNat] w fun e w' => e = .returned (.bool true) ∧ Below w.heap.size w w' := by
  have HM : Hid (MapOk w mv) := hM
  clear hM
  have hi' : (k : Int) ≤ (s.size : Int) := by omega
  obtain ⟨one, h1, h2, hcv⟩ := one_conv c w
  have HO : Hid (one.data.toList = [c]) := h1
  have HL : Hid ((s.extract 0 k ++ one ++ s.extract k s.size).size ≤ maxLen) := by show _ ≤ _; unfold maxLen; simp [h2]; omega
  have HG : Hid (icn (s.extract 0 k ++ one ++ s.extract k s.size).data.toList = (quot (c.toNat : Int) && (s.data.toList.isEmpty || icn s.data.toList))) := grown_eq s one k c h1 hi
  have HL1 : Hid (one.size ≤ maxLen) := by show _ ≤ _; unfold maxLen; omega
  have HA : Hid (icn one.data.toList = quot (c.toNat : Int)) := by show _ = _; rw [h1]; simp [icn, allQ_one]
  clear h1
  have HEL : Hid (s.data.toList = []) := by show _ = _; rw [← ByteArray.toList_eq]; exact he
  have HE : Hid (s.data.toList.isEmpty = true) := by show _ = _; rw [HEL.out]; rfl
  obtain ⟨W1, hW1⟩ : ∃ W, W = w.alloc (.cells #[.int .u8 (c.toNat : Int)] 5) := ⟨_, rfl⟩
  have HB1 : Hid (Below w.heap.size w W1) := by show Below _ _ _; rw [hW1]; exact (Below.refl _ _).alloc (Nat.le_refl _) _
  have HM1 : Hid (MapOk W1 mv) := HM.out.below HB1.out
  clear HM
  generalize hq : quot (c.toNat : Int) = q at HG HA
  have HQ : Hid (quot (c.toNat : Int) = q) := hq
  clear hq
  go_enter Tryd.func4, Tryd.ntmps4
  go_wp2_with fail
  refine (bytes_any s k c.toNat _ (by unfold maxLen; omega)).mono ?_
  rintro e w' ⟨rfl, rfl⟩
  have hd : decide (s.size ≤ 1048576) = true := by simpa using hs
  rw [hd]
  clear hd
  go_wp2_with fail
  rw [← hW1]
  clear hW1 hcv
  generalize hG0 : icn (s.extract 0 k ++ one ++ s.extract k s.size).data.toList = G at HG
  have HGG : Hid (icn (s.extract 0 k ++ one ++ s.extract k s.size).data.toList = G) := hG0
  clear hG0
  go_region_with (go_at_call 7; refine (isConst_eq (s.extract 0 k ++ one ++ s.extract k s.size) G _ mv HGG.out HL.out (HM1.out.below (by repeat (first | exact Below.refl _ _ | refine Below.drew ?_)))).mono ?_; rintro e w2 ⟨rfl, hb2⟩)
  all_goals
    have hGv := HG.out.symm
    rw [HE.out] at hGv
    simp only [Bool.true_or, Bool.and_true] at hGv
    clear HG HGG
    subst hGv
    have HB2 : Hid (Below w.heap.size w _) := HB1.out.trans ((Below.drew (Below.refl _ _)).trans hb2 |>.mono HB1.out.size)
    have HM2 : Hid (MapOk _ mv) := HM1.out.below ((Below.drew (Below.refl _ _)).trans hb2)
    clear hb2
    go_wp2_with fail
    refine (isConst_eq one q _ mv HA.out HL1.out HM2.out).mono ?_
    rintro e w3 ⟨rfl, hb3⟩
    have HM3 : Hid (MapOk w3 mv) := HM2.out.below hb3
    have HB3 : Hid (Below w.heap.size w w3) := HB2.out.trans (hb3.mono HB2.out.size)
    clear hb3 HM2 HB2
    go_wp2_with fail
    refine (isName_any s _ mv (by unfold maxLen; omega) HM3.out).mono ?_
    rintro e w4 ⟨b, rfl, hbt, hb4⟩
    have HM4 : Hid (MapOk w4 mv) := HM3.out.below hb4
    have HB4 : Hid (Below w.heap.size w w4) := HB3.out.trans (hb4.mono HB3.out.size)
    clear hb4 HM3 HB3
    have hb0 : b = false := by
      cases b
      · rfl
      · have := hbt rfl
        rw [HEL.out] at this
        exact absurd this (by decide)
    clear hbt
    subst hb0
    cases q
    all_goals
      go_wp2_with (go_at_call 8; refine (quotable_eq _ _ _ HQ.out).mono ?_; rintro e w' ⟨rfl, rfl⟩)
      go_ret
      exact ⟨rfl, HB4.out⟩

set_option maxHeartbeats 3200000 in
theorem in_full (s : ByteArray) (k : Nat) (c : UInt8) (w : World) (mv : Value) (hM : MapOk w mv) (hs : s.size ≤ 1048576) (hi : k ≤ s.size) (hne : ¬ s.toList = []) :
    Calls Tryd.prog 4 #[.string s, .int .i64 k, .int .u8 c.toNat] w fun e w' => e = .returned (.bool true) ∧ Below w.heap.size w w' := by
  have HM : Hid (MapOk w mv) := hM
  clear hM
  have hi' : (k : Int) ≤ (s.size : Int) := by omega
  obtain ⟨one, h1, h2, hcv⟩ := one_conv c w
  have HO : Hid (one.data.toList = [c]) := h1
  have HL : Hid ((s.extract 0 k ++ one ++ s.extract k s.size).size ≤ maxLen) := by show _ ≤ _; unfold maxLen; simp [h2]; omega
  have HG : Hid (icn (s.extract 0 k ++ one ++ s.extract k s.size).data.toList = (quot (c.toNat : Int) && (s.data.toList.isEmpty || icn s.data.toList))) := grown_eq s one k c h1 hi
  have HL1 : Hid (one.size ≤ maxLen) := by show _ ≤ _; unfold maxLen; omega
  have HA : Hid (icn one.data.toList = quot (c.toNat : Int)) := by show _ = _; rw [h1]; simp [icn, allQ_one]
  clear h1
  have hem : s.toList.isEmpty = false := by simpa using hne
  have HE : Hid (s.data.toList.isEmpty = false) := by show _ = _; rw [← ByteArray.toList_eq]; exact hem
  clear hne
  generalize hS : icn s.data.toList = S at HG
  have HS : Hid (icn s.data.toList = S) := hS
  clear hS
  obtain ⟨W1, hW1⟩ : ∃ W, W = w.alloc (.cells #[.int .u8 (c.toNat : Int)] 5) := ⟨_, rfl⟩
  have HB1 : Hid (Below w.heap.size w W1) := by show Below _ _ _; rw [hW1]; exact (Below.refl _ _).alloc (Nat.le_refl _) _
  have HM1 : Hid (MapOk W1 mv) := HM.out.below HB1.out
  clear HM
  generalize hq : quot (c.toNat : Int) = q at HG HA
  have HQ : Hid (quot (c.toNat : Int) = q) := hq
  clear hq
  go_enter Tryd.func4, Tryd.ntmps4
  go_wp2_with fail
  refine (bytes_any s k c.toNat _ (by unfold maxLen; omega)).mono ?_
  rintro e w' ⟨rfl, rfl⟩
  have hd : decide (s.size ≤ 1048576) = true := by simpa using hs
  rw [hd]
  clear hd
  go_wp2_with fail
  rw [← hW1]
  clear hW1 hcv
  generalize hG0 : icn (s.extract 0 k ++ one ++ s.extract k s.size).data.toList = G at HG
  have HGG : Hid (icn (s.extract 0 k ++ one ++ s.extract k s.size).data.toList = G) := hG0
  clear hG0
  go_region_with (go_at_call 7; refine (isConst_eq (s.extract 0 k ++ one ++ s.extract k s.size) G _ mv HGG.out HL.out (HM1.out.below (by repeat (first | exact Below.refl _ _ | refine Below.drew ?_)))).mono ?_; rintro e w2 ⟨rfl, hb2⟩)
  all_goals
    have hGv := HG.out.symm
    rw [HE.out] at hGv
    simp only [Bool.false_or] at hGv
    clear HG HGG
    subst hGv
    have HB2 : Hid (Below w.heap.size w _) := HB1.out.trans ((Below.drew (Below.refl _ _)).trans hb2 |>.mono HB1.out.size)
    have HM2 : Hid (MapOk _ mv) := HM1.out.below ((Below.drew (Below.refl _ _)).trans hb2)
    clear hb2
    go_wp2_with fail
    refine (isConst_eq s S _ mv HS.out (by unfold maxLen; omega) HM2.out).mono ?_
    rintro e w3 ⟨rfl, hb3⟩
    have HM3 : Hid (MapOk w3 mv) := HM2.out.below hb3
    have HB3 : Hid (Below w.heap.size w w3) := HB2.out.trans (hb3.mono HB2.out.size)
    clear hb3 HM2 HB2
    go_wp2_with fail
    refine (isConst_eq one q _ mv HA.out HL1.out HM3.out).mono ?_
    rintro e w4 ⟨rfl, hb4⟩
    have HM4 : Hid (MapOk w4 mv) := HM3.out.below hb4
    have HB4 : Hid (Below w.heap.size w w4) := HB3.out.trans (hb4.mono HB3.out.size)
    clear hb4 HM3 HB3
    go_wp2_with fail
    refine (isName_any s _ mv (by unfold maxLen; omega) HM4.out).mono ?_
    rintro e w5 ⟨b, rfl, hbt, hb5⟩
    have HM5 : Hid (MapOk w5 mv) := HM4.out.below hb5
    have HB5 : Hid (Below w.heap.size w w5) := HB4.out.trans (hb5.mono HB4.out.size)
    clear hb5 HM4 HB4
    rw [HS.out] at hbt
    cases b
    · clear hbt
      cases q
      all_goals cases S
      all_goals
        go_wp2_with (go_at_call 8; refine (quotable_eq _ _ _ HQ.out).mono ?_; rintro e w' ⟨rfl, rfl⟩)
        go_ret
        exact ⟨rfl, HB5.out⟩
    · have hS1 := hbt rfl
      subst hS1
      clear hbt
      go_wp2_with fail
      refine (isConst_eq s true _ mv HS.out (by unfold maxLen; omega) HM5.out).mono ?_
      rintro e w6 ⟨rfl, hb6⟩
      have HB6 : Hid (Below w.heap.size w w6) := HB5.out.trans (hb6.mono HB5.out.size)
      clear hb6 HM5 HB5
      cases q
      all_goals
        go_wp2_with (go_at_call 8; refine (quotable_eq _ _ _ HQ.out).mono ?_; rintro e w' ⟨rfl, rfl⟩)
        go_ret
        exact ⟨rfl, HB6.out⟩

theorem insert_walk (s : ByteArray) (i : Int) (c : UInt8) (w : World) (mv : Value) (hM : MapOk w mv) (hs : s.size ≤ maxLen) :
    Calls Tryd.prog 4 #[.string s, .int .i64 i, .int .u8 c.toNat] w fun e w' => e = .returned (.bool true) ∧ Below w.heap.size w w' := by
  by_cases hl : s.size ≤ 1048576
  · by_cases hi : i < 0 ∨ (s.size : Int) < i
    · exact out_index s i c.toNat w hl hi
    · obtain ⟨k, rfl⟩ : ∃ k : Nat, i = (k : Int) := ⟨i.toNat, by omega⟩
      by_cases he : s.toList = []
      · exact in_empty s k c w mv hM hl (by omega) he
      · exact in_full s k c w mv hM hl (by omega) he
  · exact out_long s i c.toNat w hs hl
end Go.Proofs.Qxb6615509aDoor.Insert
