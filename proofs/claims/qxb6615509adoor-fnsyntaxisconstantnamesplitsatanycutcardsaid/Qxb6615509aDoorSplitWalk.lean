/-
  The walk of FnSyntaxIsConstantNameSplitsAtAnyCut.
-/
import Derived.Test.Qxb6615509aDoorIsName
import Derived.Deep.RegionWith
import Derived.BigQuiet
import Derived.Deep.QuietTactic
namespace Go.Proofs.Qxb6615509aDoor
open Go.RowKit Plain

theorem data_append (a b : ByteArray) : (a ++ b).data.toList = a.data.toList ++ b.data.toList := by simp

theorem bytes_any (a b : ByteArray) (w : World) (ha : a.size ≤ maxLen) (hb : b.size ≤ maxLen) :
    Calls Tryd.prog 5 #[.string a, .string b] w fun e w' => e = .returned (.bool (decide (a.size + b.size ≤ 1048576))) ∧ w' = w := by
  unfold maxLen at ha hb
  go_enter Tryd.func5, Tryd.ntmps5
  go_wp2
  all_goals (go_ret; refine ⟨ret_bool ?_, rfl⟩; rw [Bool.eq_iff_iff]; simp; try omega)

theorem add_any (t n : Int) (w : World) (ht : 0 ≤ t) (ht2 : t ≤ 1048576) (hn : 0 ≤ n) (hn2 : n ≤ 1048576) (hs : t + n ≤ 1048576) :
    Calls Tryd.prog 6 #[.int .i64 t, .int .i64 n] w fun e w' => e = .returned (.int .i64 (t + n)) ∧ w = w' := by
  go_enter Tryd.func6, Tryd.ntmps6
  go_wp2
  go_ret
  exact ⟨rfl, rfl⟩

theorem quotable_w (c : Int) (w : World) : Calls Tryd.prog 8 #[.int .u8 c] w fun e w' => e = .returned (.bool (quot c)) ∧ w = w' :=
  (quotable_any c w).mono fun _ _ h => ⟨h.1, h.2.symm⟩

theorem first_data (a : ByteArray) (h : 0 < a.size) : (a.extract 0 1).data.toList = [a[0]] := by
  obtain ⟨⟨l⟩⟩ := a
  cases l with
  | nil => simp [ByteArray.size] at h
  | cons x l => simp [ByteArray.data_extract]; rfl

theorem isConst_first (a : ByteArray) (w : World) (mv : Value) (h : 0 < a.size) (hm : MapOk w mv) :
    Calls Tryd.prog 7 #[.string (a.extract 0 1)] w fun e w' => e = .returned (.bool (quot (a[0].toNat : Int))) ∧ Below w.heap.size w w' := by
  refine (isConst_any (a.extract 0 1) w mv (by unfold maxLen; simp; omega) hm).mono ?_
  rintro e w' ⟨rfl, hb⟩
  refine ⟨ret_bool ?_, hb⟩
  rw [first_data a h]
  simp [icn, allQ_one]

theorem size_pos {a : ByteArray} (h : ¬ a.toList = []) : 0 < a.size := by
  have : a.data.toList ≠ [] := by rw [← ByteArray.toList_eq]; exact h
  have := List.length_pos_iff.2 this
  simpa using this

set_option maxHeartbeats 800000 in
theorem split_long (a b : ByteArray) (w : World) (ha : a.size ≤ maxLen) (hb : b.size ≤ maxLen) (hl : ¬ a.size + b.size ≤ 1048576) :
    Calls Tryd.prog 3 #[.string a, .string b] w fun e w' => e = .returned (.bool true) ∧ Below w.heap.size w w' := by
  go_enter Tryd.func3, Tryd.ntmps3
  go_wp2_with fail
  refine (bytes_any a b _ ha hb).mono ?_
  rintro e w' ⟨rfl, rfl⟩
  have hd : decide (a.size + b.size ≤ 1048576) = false := by simpa using hl
  rw [hd]
  go_wp2
  go_ret
  exact ⟨rfl, Below.refl _ _⟩

set_option maxHeartbeats 800000 in
theorem split_ee (a b : ByteArray) (w : World) (mv : Value) (hM : MapOk w mv) (hl : a.size + b.size ≤ 1048576) (hae : a.toList = []) (hbe : b.toList = []) :
    Calls Tryd.prog 3 #[.string a, .string b] w fun e w' => e = .returned (.bool true) ∧ Below w.heap.size w w' := by
  have HM : Hid (MapOk w mv) := hM
  clear hM
  have hsz : (a ++ b).size ≤ maxLen := by unfold maxLen; simp; omega
  have HL : Hid ((a ++ b).size ≤ maxLen) := hsz
  clear hsz
  go_enter Tryd.func3, Tryd.ntmps3
  go_wp2_with fail
  refine (bytes_any a b _ (by unfold maxLen; omega) (by unfold maxLen; omega)).mono ?_
  rintro e w' ⟨rfl, hw⟩
  rw [hw]
  clear hw w'
  have hd : decide (a.size + b.size ≤ 1048576) = true := by simpa using hl
  rw [hd]
  clear hd
  go_wp2_with (go_at_call 6; refine (add_any _ _ _ (by omega) (by omega) (by omega) (by omega) (by omega)).mono ?_; rintro e w' ⟨rfl, rfl⟩)
  refine (isConst_any (a ++ b) _ mv HL.out HM.out).mono ?_
  rintro e w1 ⟨rfl, hb1⟩
  generalize hX : icn (a ++ b).data.toList = X
  have HX : Hid (icn (a ++ b).data.toList = X) := hX
  have HM1 : Hid (MapOk w1 mv) := HM.out.below hb1
  have HB1 : Hid (Below w.heap.size w w1) := hb1
  clear hX hb1 HM HL
  cases X
  case true =>
    have := HX.out
    rw [data_append, ← ByteArray.toList_eq, ← ByteArray.toList_eq, hae, hbe] at this
    exact absurd this (by decide)
  go_wp2
  go_quiet (fail)
  go_wp2
  go_ret
  exact ⟨rfl, Go.below_drewN HB1.out _⟩

set_option maxHeartbeats 1600000 in
theorem split_ne (a b : ByteArray) (w : World) (mv : Value) (hM : MapOk w mv) (hl : a.size + b.size ≤ 1048576) (hae : ¬ a.toList = []) (hbe : b.toList = []) :
    Calls Tryd.prog 3 #[.string a, .string b] w fun e w' => e = .returned (.bool true) ∧ Below w.heap.size w w' := by
  have HM : Hid (MapOk w mv) := hM
  clear hM
  have hsz : (a ++ b).size ≤ maxLen := by unfold maxLen; simp; omega
  have HL : Hid ((a ++ b).size ≤ maxLen) := hsz
  clear hsz
  have HS : Hid (icn (a ++ b).data.toList = ((!a.data.toList.isEmpty || !b.data.toList.isEmpty) && (a.data.toList.isEmpty || icn a.data.toList) && (b.data.toList.isEmpty || icn b.data.toList))) := by
    show _ = _
    rw [data_append]; exact split_law _ _
  go_enter Tryd.func3, Tryd.ntmps3
  go_wp2_with fail
  refine (bytes_any a b _ (by unfold maxLen; omega) (by unfold maxLen; omega)).mono ?_
  rintro e w' ⟨rfl, hw⟩
  rw [hw]
  clear hw w'
  have hd : decide (a.size + b.size ≤ 1048576) = true := by simpa using hl
  rw [hd]
  clear hd
  go_wp2_with (go_at_call 6; refine (add_any _ _ _ (by omega) (by omega) (by omega) (by omega) (by omega)).mono ?_; rintro e w' ⟨rfl, rfl⟩)
  refine (isConst_any (a ++ b) _ mv HL.out HM.out).mono ?_
  rintro e w1 ⟨rfl, hb1⟩
  generalize hX : icn (a ++ b).data.toList = X
  have HX : Hid (icn (a ++ b).data.toList = X) := hX
  have HM1 : Hid (MapOk w1 mv) := HM.out.below hb1
  have HB1 : Hid (Below w.heap.size w w1) := hb1
  clear hX hb1 HM HL
  have hem : a.toList.isEmpty = false := by simpa using hae
  have hp := size_pos hae
  have hp' : (0 : Int) < (a.size : Int) := by omega
  have hp1 : (1 : Int) ≤ (a.size : Int) := by omega
  have HA : Hid (a.data.toList.isEmpty = false) := by show _ = _; rw [← ByteArray.toList_eq]; exact hem
  clear hae
  have HB : Hid (b.data.toList.isEmpty = true) := by show _ = _; rw [← ByteArray.toList_eq, hbe]; rfl
  go_wp2_with fail
  refine (isConst_any a _ mv (by unfold maxLen; omega) HM1.out).mono ?_
  rintro e w2 ⟨rfl, hb2⟩
  generalize hY : icn a.data.toList = Y
  have HY : Hid (icn a.data.toList = Y) := hY
  have HM2 : Hid (MapOk w2 mv) := HM1.out.below hb2
  have HB2 : Hid (Below w.heap.size w w2) := HB1.out.trans (hb2.mono HB1.out.size)
  clear hY hb2 HM1 HB1
  have HXY : Hid (X = Y) := by
    show _ = _
    rw [← HX.out, HS.out, HA.out, HB.out, HY.out]; simp
  clear HX HS HA HB HY
  go_wp2_with fail
  go_region_with (first | (go_at_call 7; refine (isConst_first a _ mv hp (HM2.out.below (by repeat (first | exact Below.refl _ _ | refine Below.drew ?_)))).mono ?_; rintro e wz ⟨rfl, hbz⟩) | (go_at_call 8; refine (quotable_w _ _).mono ?_; rintro e w' ⟨rfl, rfl⟩))
  all_goals
    have HBz : Hid (Below w.heap.size w _) := HB2.out.trans ((Below.drew (Below.refl _ _)).trans hbz |>.mono HB2.out.size)
    clear hbz
    have hXY := HXY.out
    clear HXY
    subst hXY
    cases X
    all_goals (go_wp2; go_ret; exact ⟨rfl, HBz.out⟩)

set_option maxHeartbeats 1600000 in
theorem split_en (a b : ByteArray) (w : World) (mv : Value) (hM : MapOk w mv) (hl : a.size + b.size ≤ 1048576) (hae : a.toList = []) (hbe : ¬ b.toList = []) :
    Calls Tryd.prog 3 #[.string a, .string b] w fun e w' => e = .returned (.bool true) ∧ Below w.heap.size w w' := by
  have HM : Hid (MapOk w mv) := hM
  clear hM
  have hsz : (a ++ b).size ≤ maxLen := by unfold maxLen; simp; omega
  have HL : Hid ((a ++ b).size ≤ maxLen) := hsz
  clear hsz
  have HS : Hid (icn (a ++ b).data.toList = ((!a.data.toList.isEmpty || !b.data.toList.isEmpty) && (a.data.toList.isEmpty || icn a.data.toList) && (b.data.toList.isEmpty || icn b.data.toList))) := by
    show _ = _
    rw [data_append]; exact split_law _ _
  go_enter Tryd.func3, Tryd.ntmps3
  go_wp2_with fail
  refine (bytes_any a b _ (by unfold maxLen; omega) (by unfold maxLen; omega)).mono ?_
  rintro e w' ⟨rfl, hw⟩
  rw [hw]
  clear hw w'
  have hd : decide (a.size + b.size ≤ 1048576) = true := by simpa using hl
  rw [hd]
  clear hd
  go_wp2_with (go_at_call 6; refine (add_any _ _ _ (by omega) (by omega) (by omega) (by omega) (by omega)).mono ?_; rintro e w' ⟨rfl, rfl⟩)
  refine (isConst_any (a ++ b) _ mv HL.out HM.out).mono ?_
  rintro e w1 ⟨rfl, hb1⟩
  generalize hX : icn (a ++ b).data.toList = X
  have HX : Hid (icn (a ++ b).data.toList = X) := hX
  have HM1 : Hid (MapOk w1 mv) := HM.out.below hb1
  have HB1 : Hid (Below w.heap.size w w1) := hb1
  clear hX hb1 HM HL
  have heb : b.toList.isEmpty = false := by simpa using hbe
  have HA : Hid (a.data.toList.isEmpty = true) := by show _ = _; rw [← ByteArray.toList_eq, hae]; rfl
  have HB : Hid (b.data.toList.isEmpty = false) := by show _ = _; rw [← ByteArray.toList_eq]; exact heb
  clear hbe
  go_wp2_with fail
  refine (isConst_any b _ mv (by unfold maxLen; omega) HM1.out).mono ?_
  rintro e w2 ⟨rfl, hb2⟩
  generalize hY : icn b.data.toList = Y
  have HY : Hid (icn b.data.toList = Y) := hY
  have HM2 : Hid (MapOk w2 mv) := HM1.out.below hb2
  have HB2 : Hid (Below w.heap.size w w2) := HB1.out.trans (hb2.mono HB1.out.size)
  clear hY hb2 HM1 HB1
  have hXY : X = Y := by
    rw [← HX.out, HS.out, HA.out, HB.out, HY.out]; simp
  clear HX HS HA HB HY
  subst hXY
  cases X
  all_goals
    go_wp2
    go_quiet (fail)
    go_wp2
    go_ret
    exact ⟨rfl, Go.below_drewN HB2.out _⟩

set_option maxHeartbeats 1600000 in
theorem split_nn (a b : ByteArray) (w : World) (mv : Value) (hM : MapOk w mv) (hl : a.size + b.size ≤ 1048576) (hae : ¬ a.toList = []) (hbe : ¬ b.toList = []) :
    Calls Tryd.prog 3 #[.string a, .string b] w fun e w' => e = .returned (.bool true) ∧ Below w.heap.size w w' := by
  have HM : Hid (MapOk w mv) := hM
  clear hM
  have hsz : (a ++ b).size ≤ maxLen := by unfold maxLen; simp; omega
  have HL : Hid ((a ++ b).size ≤ maxLen) := hsz
  clear hsz
  have HS : Hid (icn (a ++ b).data.toList = ((!a.data.toList.isEmpty || !b.data.toList.isEmpty) && (a.data.toList.isEmpty || icn a.data.toList) && (b.data.toList.isEmpty || icn b.data.toList))) := by
    show _ = _
    rw [data_append]; exact split_law _ _
  go_enter Tryd.func3, Tryd.ntmps3
  go_wp2_with fail
  refine (bytes_any a b _ (by unfold maxLen; omega) (by unfold maxLen; omega)).mono ?_
  rintro e w' ⟨rfl, hw⟩
  rw [hw]
  clear hw w'
  have hd : decide (a.size + b.size ≤ 1048576) = true := by simpa using hl
  rw [hd]
  clear hd
  go_wp2_with (go_at_call 6; refine (add_any _ _ _ (by omega) (by omega) (by omega) (by omega) (by omega)).mono ?_; rintro e w' ⟨rfl, rfl⟩)
  refine (isConst_any (a ++ b) _ mv HL.out HM.out).mono ?_
  rintro e w1 ⟨rfl, hb1⟩
  generalize hX : icn (a ++ b).data.toList = X
  have HX : Hid (icn (a ++ b).data.toList = X) := hX
  have HM1 : Hid (MapOk w1 mv) := HM.out.below hb1
  have HB1 : Hid (Below w.heap.size w w1) := hb1
  clear hX hb1 HM HL
  have hem : a.toList.isEmpty = false := by simpa using hae
  have hp := size_pos hae
  have hp' : (0 : Int) < (a.size : Int) := by omega
  have hp1 : (1 : Int) ≤ (a.size : Int) := by omega
  have HA : Hid (a.data.toList.isEmpty = false) := by show _ = _; rw [← ByteArray.toList_eq]; exact hem
  clear hae
  have heb : b.toList.isEmpty = false := by simpa using hbe
  have HB : Hid (b.data.toList.isEmpty = false) := by show _ = _; rw [← ByteArray.toList_eq]; exact heb
  clear hbe
  go_wp2_with fail
  refine (isConst_any a _ mv (by unfold maxLen; omega) HM1.out).mono ?_
  rintro e w2 ⟨rfl, hb2⟩
  generalize hY : icn a.data.toList = Y
  have HY : Hid (icn a.data.toList = Y) := hY
  have HM2 : Hid (MapOk w2 mv) := HM1.out.below hb2
  have HB2 : Hid (Below w.heap.size w w2) := HB1.out.trans (hb2.mono HB1.out.size)
  clear hY hb2 HM1 HB1
  go_wp2_with fail
  refine (isConst_any b _ mv (by unfold maxLen; omega) HM2.out).mono ?_
  rintro e w3 ⟨rfl, hb3⟩
  generalize hY : icn b.data.toList = Z
  have HZ : Hid (icn b.data.toList = Z) := hY
  have HM3 : Hid (MapOk w3 mv) := HM2.out.below hb3
  have HB3 : Hid (Below w.heap.size w w3) := HB2.out.trans (hb3.mono HB2.out.size)
  clear hY hb3 HM2 HB2
  have HXY : Hid (X = (Y && Z)) := by
    show _ = _
    rw [← HX.out, HS.out, HA.out, HB.out, HY.out, HZ.out]; simp
  clear HX HS HA HB HY HZ
  go_wp2_with fail
  go_region_with (first | (go_at_call 7; refine (isConst_first a _ mv hp (HM3.out.below (by repeat (first | exact Below.refl _ _ | refine Below.drew ?_)))).mono ?_; rintro e wz ⟨rfl, hbz⟩) | (go_at_call 8; refine (quotable_w _ _).mono ?_; rintro e w' ⟨rfl, rfl⟩))
  all_goals
    have HBz : Hid (Below w.heap.size w _) := HB3.out.trans ((Below.drew (Below.refl _ _)).trans hbz |>.mono HB3.out.size)
    clear hbz
    have hXY := HXY.out
    clear HXY
    subst hXY
    cases Y
    all_goals cases Z
    all_goals (go_wp2; go_ret; exact ⟨rfl, HBz.out⟩)

theorem split_walk (a b : ByteArray) (w : World) (mv : Value) (hM : MapOk w mv) (ha : a.size ≤ maxLen) (hb : b.size ≤ maxLen) :
    Calls Tryd.prog 3 #[.string a, .string b] w fun e w' => e = .returned (.bool true) ∧ Below w.heap.size w w' := by
  by_cases hl : a.size + b.size ≤ 1048576
  · by_cases hae : a.toList = []
    · by_cases hbe : b.toList = []
      · exact split_ee a b w mv hM hl hae hbe
      · exact split_en a b w mv hM hl hae hbe
    · by_cases hbe : b.toList = []
      · exact split_ne a b w mv hM hl hae hbe
      · exact split_nn a b w mv hM hl hae hbe
  · exact split_long a b w ha hb hl
end Go.Proofs.Qxb6615509aDoor
