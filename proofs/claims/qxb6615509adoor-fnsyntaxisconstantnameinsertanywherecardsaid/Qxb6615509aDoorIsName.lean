/-
  Contract of IsName: it answers, and where it answers true the name is not empty and each byte is quotable.
-/
import Derived.Test.Qxb6615509aDoorLeaves
import Derived.Laws.RangeAny
import Derived.Below
namespace Go.Proofs.Qxb6615509aDoor
open Go.RowKit Plain

/-- What the walks are told of the listed map: its cell holds a map, and every look-up in it answers. -/
def MapOk (w : World) (mv : Value) : Prop :=
  w.cell? ⟨0, 0, none⟩ = some mv ∧ 0 < w.heap.size ∧ ∀ wr, Below w.heap.size w wr → ∀ s : ByteArray, s.size ≤ maxLen → ∃ (n : Int) (ok : Bool), (Instr.lookup 32 mv (.string s) true).run Tryd.prog wr = .ok (.tuple #[.int .i64 n, .bool ok]) wr

theorem MapOk.below {w w' : World} {mv : Value} (h : MapOk w mv) (hb : Below w.heap.size w w') : MapOk w' mv := by
  obtain ⟨h1, h2, h3⟩ := h
  have hsz := hb.size
  refine ⟨?_, by omega, fun wr hr s hs => h3 wr (hb.trans (hr.mono hsz)) s hs⟩
  rw [hb.cell (p := ⟨0, 0, none⟩) h2]; exact h1

theorem npart_lt {c : Nat} (h : npart (c : Int) = true) : c < 128 := by
  unfold npart at h; simp at h; omega

theorem decode_small (s : ByteArray) (pos : Nat) (h : pos < s.size) (hn : npart ((Utf8.decode s pos).1 : Int) = true) :
    (Utf8.decode s pos).2 = 1 ∧ quot (s[pos].toNat : Int) = true := by
  have hlt := npart_lt hn
  by_cases ha : (s[pos]'h).toNat < 128
  · have hd := decode_ascii s pos h ha
    rw [hd] at hn
    exact ⟨by rw [hd], quot_of_npart hn⟩
  · have := (decode_high s pos h (by omega)).1
    omega

theorem icn_of_ne {l : List UInt8} (h : ¬ l = []) : icn l = allQ l := by
  cases l with
  | nil => exact absurd rfl h
  | cons a l => rfl

theorem below_iter (w : World) (s : ByteArray) (p : Nat) : Below w.heap.size w (w.iter s p) := (Below.refl _ _).alloc (Nat.le_refl _) _

set_option maxHeartbeats 800000 in
theorem isName_any (s : ByteArray) (w : World) (mv : Value) (hs : s.size ≤ maxLen) (hm : MapOk w mv) :
    Calls Tryd.prog 10 #[.string s] w fun e w' => ∃ b : Bool, e = .returned (.bool b) ∧ (b = true → icn s.data.toList = true) ∧ Below w.heap.size w w' := by
  have hM : Hid (MapOk w mv) := hm
  clear hm
  have HS : Hid (s.size ≤ maxLen) := hs
  unfold maxLen at hs
  go_enter Tryd.func10, Tryd.ntmps10
  go_wp2
  go_loopw [2] (fun r w' => r = .bool false ∧ ∃ pos : Nat, pos ≤ s.size ∧ w' = w.iter s pos ∧ Hid (allQ (s.data.toList.take pos) = true)) (fun _ w' => s.size - w'.iterPos w.heap.size)
  case atStart => exact ⟨rfl, 0, Nat.zero_le _, rfl, by show _ = _; simp [allQ]⟩
  case round =>
    obtain ⟨rfl, pos, hpos, rfl, HQ⟩ := hrel
    by_cases hp : pos < s.size
    · have hnx := fun ty => run_next_any (P := Tryd.prog) w s pos ty hp
      cases hn : npart ((Utf8.decode s pos).1 : Int)
      · rcases Nat.eq_zero_or_pos pos with rfl | h0
        · cases hst : nstart ((Utf8.decode s 0).1 : Int)
          all_goals
            go_wp2_with (first | (go_at_call 12; refine (nameStart_any _ _).mono ?_; rintro e w' ⟨rfl, rfl⟩) | (go_at_call 13; refine (namePart_any _ _).mono ?_; rintro e w' ⟨rfl, rfl⟩))
            go_ret
            exact ⟨false, rfl, (fun h => by cases h), below_iter _ _ _⟩
        · have hz : ((pos : Int) == 0) = false := by simp; omega
          go_wp2_with (first | (go_at_call 12; refine (nameStart_any _ _).mono ?_; rintro e w' ⟨rfl, rfl⟩) | (go_at_call 13; refine (namePart_any _ _).mono ?_; rintro e w' ⟨rfl, rfl⟩))
          go_ret
          exact ⟨false, rfl, (fun h => by cases h), below_iter _ _ _⟩
      · obtain ⟨h1, h2⟩ := decode_small s pos hp hn
        have HQ2 : Hid (allQ (s.data.toList.take (pos + 1)) = true) := by show _ = _; rw [allQ_take_snoc s pos hp, h2, HQ.out]; rfl
        rw [h1] at hnx
        clear h1 h2
        rcases Nat.eq_zero_or_pos pos with rfl | h0
        · cases hst : nstart ((Utf8.decode s 0).1 : Int)
          · go_wp2_with (first | (go_at_call 12; refine (nameStart_any _ _).mono ?_; rintro e w' ⟨rfl, rfl⟩) | (go_at_call 13; refine (namePart_any _ _).mono ?_; rintro e w' ⟨rfl, rfl⟩))
            go_ret
            exact ⟨false, rfl, (fun h => by cases h), below_iter _ _ _⟩
          · go_wp2_with (first | (go_at_call 12; refine (nameStart_any _ _).mono ?_; rintro e w' ⟨rfl, rfl⟩) | (go_at_call 13; refine (namePart_any _ _).mono ?_; rintro e w' ⟨rfl, rfl⟩))
            go_roundw
            case rel => exact ⟨rfl, 1, by omega, rfl, HQ2⟩
            case measure => rw [World.iterPos_iter, World.iterPos_iter]; omega
        · have hz : ((pos : Int) == 0) = false := by simp; omega
          go_wp2_with (first | (go_at_call 12; refine (nameStart_any _ _).mono ?_; rintro e w' ⟨rfl, rfl⟩) | (go_at_call 13; refine (namePart_any _ _).mono ?_; rintro e w' ⟨rfl, rfl⟩))
          go_roundw
          case rel => exact ⟨rfl, pos + 1, by omega, rfl, HQ2⟩
          case measure => rw [World.iterPos_iter, World.iterPos_iter]; omega
    · have hnx := fun ty => run_next_end (P := Tryd.prog) w s pos ty hp
      obtain ⟨n, ok, hl⟩ := hM.out.2.2 _ (below_iter w s pos) s HS.out
      have hc : (w.iter s pos).cell? ⟨0, 0, none⟩ = some mv := (hM.out.below (below_iter w s pos)).1
      have HQ3 : Hid (allQ s.data.toList = true) := by
        have := HQ.out
        rw [List.take_of_length_le (by simp; omega)] at this
        exact this
      go_wp2
      all_goals go_ret
      · exact ⟨false, rfl, (fun h => by cases h), below_iter _ _ _⟩
      · rename_i hne
        refine ⟨_, rfl, fun _ => ?_, below_iter _ _ _⟩
        rw [ByteArray.toList_eq] at hne
        rw [icn_of_ne hne]
        exact HQ3.out

set_option maxHeartbeats 800000 in
theorem isConst_any (s : ByteArray) (w : World) (mv : Value) (hs : s.size ≤ maxLen) (hm : MapOk w mv) :
    Calls Tryd.prog 7 #[.string s] w fun e w' => e = .returned (.bool (icn s.data.toList)) ∧ Below w.heap.size w w' := by
  have hM : Hid (MapOk w mv) := hm
  clear hm
  have HS : Hid (s.size ≤ maxLen) := hs
  unfold maxLen at hs
  by_cases he : s.toList = []
  · go_enter Tryd.func7, Tryd.ntmps7
    go_wp2_with fail
    refine (isName_any s _ mv HS.out hM.out).mono ?_
    rintro e w' ⟨b, rfl, hb, hbel⟩
    have hb0 : b = false := by
      cases b
      · rfl
      · have := hb rfl
        rw [ByteArray.toList_eq] at he
        rw [he] at this
        exact absurd this (by decide)
    subst hb0
    go_wp2
    go_ret
    refine ⟨ret_bool ?_, hbel⟩
    rw [← ByteArray.toList_eq, he]; rfl
  · go_enter Tryd.func7, Tryd.ntmps7
    go_wp2_with fail
    refine (isName_any s _ mv HS.out hM.out).mono ?_
    rintro e w' ⟨b, rfl, hb, hbel⟩
    cases b
    · clear hb
      go_wp2_with fail
      refine (unquotable_any s _ HS.out).mono ?_
      rintro e w2 ⟨r, rfl, hr, rfl⟩
      have HR : Hid (allQ s.data.toList = decide (r < 0)) := hr
      clear hr
      have HE : Hid (icn s.data.toList = allQ s.data.toList) := icn_of_ne (by rw [← ByteArray.toList_eq]; exact he)
      go_wp2
      go_ret
      refine ⟨ret_bool ?_, hbel⟩
      rw [HE.out, HR.out]
      have : s.toList.isEmpty = false := by simpa using he
      simp [this]
    · have HB : Hid (icn s.data.toList = true) := hb rfl
      clear hb
      go_wp2
      go_ret
      exact ⟨ret_bool HB.out.symm, hbel⟩
end Go.Proofs.Qxb6615509aDoor
