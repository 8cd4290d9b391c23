/-
  The contract of ZZinputErrorText (fmt's text told), and the walk of the law.
-/
import Derived.Test.Qxb6615892aFmtText
namespace Go.Proofs.Qxb6615892aFmt
open Go.RowKit Go.Extern.Stop Go.Stop Go.Extern

/-- The world in which Error() is called: the error's box, the struct's box. -/
theorem boxed (w : World) (path msg : ByteArray) (line : Int) {W : World}
    (hW : W = (w.alloc (.cells #[.string msg] 33)).alloc (.cells #[.string path, .int .i64 line, .iface 31 (.pointer (some ⟨w.heap.size, 0, none⟩))] 29)) :
    Below w.heap.size w W ∧ W.tape = w.tape ∧ w.heap.size + 1 < W.heap.size ∧ w.heap.size < W.heap.size ∧ W.cell? ⟨w.heap.size + 1, 0, none⟩ = some (.string path) ∧ W.cell? ⟨w.heap.size + 1, 1, none⟩ = some (.int .i64 line) ∧
      W.cell? ⟨w.heap.size + 1, 2, none⟩ = some (.iface 31 (.pointer (some ⟨w.heap.size, 0, none⟩))) ∧ W.cell? ⟨w.heap.size, 0, none⟩ = some (.string msg) := by
  subst hW
  have hb : Below w.heap.size w ((w.alloc (.cells #[.string msg] 33)).alloc (.cells #[.string path, .int .i64 line, .iface 31 (.pointer (some ⟨w.heap.size, 0, none⟩))] 29)) := ((Below.refl w.heap.size w).alloc (Nat.le_refl _) _).alloc (by simp) _
  refine ⟨hb, hb.tape, by simp, by simp; omega, ?_, ?_, ?_, ?_⟩
  · rw [World.cell?_alloc_at (hn := by simp)]; rfl
  · rw [World.cell?_alloc_at (hn := by simp)]; rfl
  · rw [World.cell?_alloc_at (hn := by simp)]; rfl
  · rw [((Below.refl ((w.alloc (.cells #[.string msg] 33)).heap.size) (w.alloc (.cells #[.string msg] 33))).alloc (Nat.le_refl _) _).cell (p := ⟨w.heap.size, 0, none⟩) (by simp), World.cell?_alloc_at (hn := by simp)]; rfl

set_option maxHeartbeats 800000 in
theorem text_F2 (F : Interp) (path msg : ByteArray) (w : World) (hF : F.answers w.tape) :
    Calls Tryf.prog 5 #[.string path, .int .i64 0, .string msg] w fun e w' =>
      e = .returned (.string (FmtStop.textOf (F "fmt.Sprintf" (read2 path.data.toList msg.data.toList) 0))) ∧ Below w.heap.size w w' := by
  have HF : Hid (F.answers w.tape) := hF
  clear hF
  obtain ⟨b1, b2, b3, b4, b5, b6, b7, b8⟩ := boxed w path msg 0 rfl
  have HB : Hid (Below w.heap.size w _) := b1
  have HX := error2 F path msg (w.heap.size + 1) w.heap.size _ (by rw [b2]; exact HF.out) b3 b4 b5 b6 b7 b8
  have HY : Hid (Calls _ _ _ _ _) := HX
  clear HX b1 b2 b3 b4 b5 b6 b7 b8
  go_enter Tryf.func5, Tryf.ntmps5
  go_wp2_with (go_at_call 6; refine (new_any _ _).mono ?_; rintro e w' ⟨rfl, rfl⟩)
  refine HY.out.mono ?_
  rintro e w' ⟨rfl, hb⟩
  go_wp2
  go_ret
  exact ⟨rfl, HB.out.trans (hb.mono HB.out.size)⟩

set_option maxHeartbeats 800000 in
theorem text_F3 (F : Interp) (path msg : ByteArray) (line : Int) (w : World) (hF : F.answers w.tape) (hl : (line == 0) = false) :
    Calls Tryf.prog 5 #[.string path, .int .i64 line, .string msg] w fun e w' =>
      e = .returned (.string (FmtStop.textOf (F "fmt.Sprintf" (read3 path.data.toList line msg.data.toList) 0))) ∧ Below w.heap.size w w' := by
  have HF : Hid (F.answers w.tape) := hF
  clear hF
  obtain ⟨b1, b2, b3, b4, b5, b6, b7, b8⟩ := boxed w path msg line rfl
  have HB : Hid (Below w.heap.size w _) := b1
  have HX := error3 F path msg line (w.heap.size + 1) w.heap.size _ (by rw [b2]; exact HF.out) b3 b4 hl b5 b6 b7 b8
  have HY : Hid (Calls _ _ _ _ _) := HX
  clear HX b1 b2 b3 b4 b5 b6 b7 b8
  go_enter Tryf.func5, Tryf.ntmps5
  go_wp2_with (go_at_call 6; refine (new_any _ _).mono ?_; rintro e w' ⟨rfl, rfl⟩)
  refine HY.out.mono ?_
  rintro e w' ⟨rfl, hb⟩
  go_wp2
  go_ret
  exact ⟨rfl, HB.out.trans (hb.mono HB.out.size)⟩

theorem text_told (F : Interp) (path msg : ByteArray) (line : Int) (w : World) (hF : F.told.answers w.tape) (hp : path.size ≤ 65536) (hm : msg.size ≤ 65536) (hw : (Lit.int .i64 line).wf = true) :
    Calls Tryf.prog 5 #[.string path, .int .i64 line, .string msg] w fun e w' =>
      ∃ T : ByteArray, e = .returned (.string T) ∧ T.data.toList = ahead path.data.toList line ++ msg.data.toList ∧ Below w.heap.size w w' := by
  have lp : path.data.toList.length = path.size := Array.length_toList
  have lm : msg.data.toList.length = msg.size := Array.length_toList
  by_cases hl : line = 0
  · subst hl
    refine (text_F2 F.told path msg w hF).mono ?_
    rintro e w' ⟨rfl, hb⟩
    refine ⟨_, rfl, ?_, hb⟩
    rw [Kit.textOf_list, told_string F (text2 path.data.toList msg.data.toList (by omega)) (by simp [lp, lm]; omega)]
    simp [ahead]
  · refine (text_F3 F.told path msg line w hF (by simpa using hl)).mono ?_
    rintro e w' ⟨rfl, hb⟩
    refine ⟨_, rfl, ?_, hb⟩
    have li := FmtText.itoa_length_le hw
    rw [Kit.textOf_list, told_string F (text3 path.data.toList msg.data.toList line (by omega) hw) (by simp [lp, lm]; omega)]
    simp [ahead, hl]
end Go.Proofs.Qxb6615892aFmt
