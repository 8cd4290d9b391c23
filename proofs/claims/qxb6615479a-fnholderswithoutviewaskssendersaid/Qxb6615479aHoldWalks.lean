import Derived.Test.Qxb6615479aProg
import Derived.WalkKit
import Derived.WalkSpells
import Derived.WalkLawsBesides
import Derived.Below
import Derived.BigQuiet
import Derived.Deep.QuietTactic
import Derived.Laws.Tables
namespace Go.Proofs.Qxb6615479a.Hold
open Go.RowKit

theorem wpList_built {P : Program} {ops : Array Oper} {rest : List Oper} {o : Oper} {a : Act} {w : World} {Q : Exit → Act → World → Prop} (hgd : o.guard = none) (t : TypeId) (parts : Array (Nat × Operand)) (ho : o.op = .build t parts)
    (l : List (Nat × Value)) (hl : parts.toList.map (fun p => (p.1, a.eval p.2)) = l) (cells : Array Value) (hb : P.built t l = some cells)
    (h : wpList P ops Q rest (a.put o.dst (.agg cells)) w) : wpList P ops Q (o :: rest) a w :=
  by
  have e : (parts.map fun (i, x) => (i, a.eval x)).toList = l := by rw [Array.toList_map]; exact hl
  exact wpList_plain hgd fun _ hK => wp_build t parts ho (by rw [e, hb]; rfl) (by rw [e, hb]; exact hK _ _ h)

theorem rec_built : ∃ Z : Array Value, Try.prog.built 53 [] = some Z ∧ Z.size = 55 ∧ Z[3]? = some (.slice none 0 0) :=
  ⟨(Try.prog.built 53 []).getD #[], by kernel_rfl, by kernel_rfl, by kernel_rfl⟩
theorem mem_built (self seq : Int) (a : Addr) : ∃ M : Array Value, Try.prog.built 72 [(0, .int .i64 self), (1, .int .i64 seq), (14, .pointer (some a))] = some M ∧ M.size = 38 ∧ M[0]? = some (.int .i64 self) ∧ M[14]? = some (.pointer (some a)) ∧ M[17]? = some (.pointer none) :=
  ⟨(Try.prog.built 72 [(0, .int .i64 self), (1, .int .i64 seq), (14, .pointer (some a))]).getD #[], by kernel_rfl, by kernel_rfl, by kernel_rfl, by kernel_rfl, by kernel_rfl⟩

/-- What the walks are told of a recovering member that holds no view: its four cells. -/
def Mem (w : World) (mb rb : Nat) (self : Int) : Prop :=
  mb < w.heap.size ∧ rb < w.heap.size ∧ w.cell? ⟨mb, 0, none⟩ = some (.int .i64 self) ∧ w.cell? ⟨mb, 14, none⟩ = some (.pointer (some ⟨rb, 0, none⟩)) ∧
    w.cell? ⟨mb, 17, none⟩ = some (.pointer none) ∧ w.cell? ⟨rb, 3, none⟩ = some (.slice none 0 0)

theorem Mem.below {w w' : World} {mb rb : Nat} {self : Int} (h : Mem w mb rb self) (hb : Below w.heap.size w w') : Mem w' mb rb self := by
  obtain ⟨h1, h2, h3, h4, h5, h6⟩ := h
  have hs := hb.size
  exact ⟨by omega, by omega, by rw [hb.cell (p := ⟨mb, 0, none⟩) h1]; exact h3, by rw [hb.cell (p := ⟨mb, 14, none⟩) h1]; exact h4, by rw [hb.cell (p := ⟨mb, 17, none⟩) h1]; exact h5, by rw [hb.cell (p := ⟨rb, 3, none⟩) h2]; exact h6⟩

set_option maxHeartbeats 400000 in
theorem new_any (self seq : Int) (w : World) :
    Calls Try.prog 7 #[.int .i64 self, .int .i64 seq] w fun e w' => e = .returned (.pointer (some ⟨w.heap.size + 1, 0, none⟩)) ∧ Mem w' (w.heap.size + 1) w.heap.size self ∧ Below w.heap.size w w' := by
  obtain ⟨Z, hZ, hZs, hZ3⟩ := rec_built
  obtain ⟨M, hM, hMs, hM0, hM14, hM17⟩ := mem_built self seq ⟨w.heap.size, 0, none⟩
  have H1 : Hid (Try.prog.built 53 [] = some Z) := hZ
  have H2 : Hid (Try.prog.built 72 [(0, .int .i64 self), (1, .int .i64 seq), (14, .pointer (some ⟨w.heap.size, 0, none⟩))] = some M) := hM
  have H3 : Hid (Mem ((w.alloc (.cells Z 53)).alloc (.cells M 72)) (w.heap.size + 1) w.heap.size self) := by
    refine ⟨by simp, by simp; omega, ?_, ?_, ?_, ?_⟩
    · rw [World.cell?_alloc_at (hn := by simp)]; exact hM0
    · rw [World.cell?_alloc_at (hn := by simp)]; exact hM14
    · rw [World.cell?_alloc_at (hn := by simp)]; exact hM17
    · rw [((Below.refl ((w.alloc (.cells Z 53)).heap.size) (w.alloc (.cells Z 53))).alloc (Nat.le_refl _) (.cells M 72)).cell (p := ⟨w.heap.size, 3, none⟩) (by simp), World.cell?_alloc_at (hn := by simp)]; exact hZ3
  clear hZ hM hZ3 hM0 hM14 hM17 hZs hMs
  go_enter Try.func7, Try.ntmps7
  go_wp2_with (first | (refine wpList_built rfl 53 #[] rfl [] rfl Z H1.out ?_) | (refine wpList_built rfl 72 #[(0, .tmp 5), (1, .tmp 6), (14, .tmp 8)] rfl [(0, .int .i64 self), (1, .int .i64 seq), (14, .pointer (some ⟨w.heap.size, 0, none⟩))] rfl M H2.out ?_))
  go_ret
  exact ⟨rfl, H3.out, ((Below.refl w.heap.size w).alloc (Nat.le_refl _) _).alloc (by simp) _⟩

theorem inGroup_any (mb : Nat) (s : Int) (w : World) (h : w.cell? ⟨mb, 17, none⟩ = some (.pointer none)) :
    Calls Try.prog 9 #[.pointer (some ⟨mb, 0, none⟩), .int .i64 s] w fun e w' => e = .returned (.bool true) ∧ w' = w := by
  go_enter Try.func9, Try.ntmps9
  go_wp2
  go_ret
  exact ⟨rfl, rfl⟩

/-- The world in which the test of the second case stands: three boxes more, the member's cells as they were. -/
theorem boxed {w W : World} {mb rb : Nat} {self s : Int} (h : Mem w mb rb self)
    (hW : W = ((w.alloc (.cells #[.pointer (some ⟨mb, 0, none⟩)] 24)).alloc (.cells #[.int .i64 s] 3)).alloc (.cells #[.pointer (some ⟨rb, 0, none⟩)] 30)) :
    Mem W mb rb self ∧ W.cell? ⟨w.heap.size, 0, none⟩ = some (.pointer (some ⟨mb, 0, none⟩)) ∧ W.cell? ⟨w.heap.size + 1, 0, none⟩ = some (.int .i64 s) ∧ W.cell? ⟨w.heap.size + 1 + 1, 0, none⟩ = some (.pointer (some ⟨rb, 0, none⟩)) ∧ Below w.heap.size w W := by
  subst hW
  have hb : Below w.heap.size w (((w.alloc (.cells #[.pointer (some ⟨mb, 0, none⟩)] 24)).alloc (.cells #[.int .i64 s] 3)).alloc (.cells #[.pointer (some ⟨rb, 0, none⟩)] 30)) := (((Below.refl w.heap.size w).alloc (Nat.le_refl _) _).alloc (by simp) _).alloc (by simp; omega) _
  refine ⟨h.below hb, ?_, ?_, ?_, hb⟩
  · go_simp
  · go_simp
  · go_simp

set_option maxRecDepth 100000 in
set_option maxHeartbeats 1000000 in
theorem holders_any (mb rb : Nat) (self s place un : Int) (w : World) (h : Mem w mb rb self) :
    Calls Try.prog 11 #[.pointer (some ⟨mb, 0, none⟩), .int .i64 s, .int .i64 place, .int .i64 un] w fun e w' => ∃ b, e = .returned (.slice (some ⟨b, 0, none⟩) 1 1) ∧ w'.cell? ⟨b, 0, none⟩ = some (.int .i64 s) ∧ Below w.heap.size w w' := by
  have HM : Hid (Mem w mb rb self) := h
  obtain ⟨h1, h2, h3, h4, h5, h6⟩ := h
  have hnil := fun (w : World) => Lib.run_eql_slice_nil (P := Try.prog) w 32 _ none 0 0 0 0 Try.underlying32
  go_enter Try.func11, Try.ntmps11
  go_wp2_with fail
  refine (inGroup_any mb s _ ?c5).mono ?_
  case c5 => exact (Below.cell ((((Below.refl w.heap.size w).alloc (Nat.le_refl _) _).alloc (by simp) _).alloc (by simp; omega) _) (p := ⟨mb, 17, none⟩) h1).trans h5
  rintro e W3 ⟨rfl, hW⟩
  obtain ⟨⟨g1, g2, g3, g4, g5, g6⟩, b0, b1, b2, hG⟩ := boxed HM.out hW
  have HG : Hid (Below w.heap.size w W3) := hG
  clear hG hW h1 h2 h3 h4 h5 h6 HM
  by_cases hs : s = self
  · subst hs
    go_wp2
    go_quiet (fail)
    go_wp2
    go_ret
    refine ⟨W3.heap.size, rfl, ?_, ?_⟩
    · exact World.cell?_alloc_at (w := W3.drewN nq) #[.int .i64 s] 3 W3.heap.size 0 rfl
    · exact (Go.below_drewN HG.out _).alloc HG.out.size _
  · have hs' : (s == self) = false := by simpa using hs
    have HS : Hid (¬ s = self) := hs
    clear hs
    go_wp2
    go_quiet (fail)
    go_wp2
    go_ret
    refine ⟨W3.heap.size, rfl, ?_, ?_⟩
    · exact World.cell?_alloc_at (w := W3.drewN nq) #[.int .i64 s] 3 W3.heap.size 0 rfl
    · exact (Go.below_drewN HG.out _).alloc HG.out.size _

theorem zzholders_any (mb rb : Nat) (self s place un : Int) (w : World) (h : Mem w mb rb self) :
    Calls Try.prog 8 #[.pointer (some ⟨mb, 0, none⟩), .int .i64 s, .int .i64 place, .int .i64 un] w fun e w' => ∃ b, e = .returned (.slice (some ⟨b, 0, none⟩) 1 1) ∧ w'.cell? ⟨b, 0, none⟩ = some (.int .i64 s) ∧ Below w.heap.size w w' := by
  have HM : Hid (Mem w mb rb self) := h
  clear h
  go_enter Try.func8, Try.ntmps8
  go_wp2_with fail
  refine (holders_any mb rb self s place un _ HM.out).mono ?_
  rintro e w' ⟨b, rfl, hc, hb⟩
  go_wp2
  go_ret
  exact ⟨b, rfl, hc, hb⟩

theorem walk (self seq s place un : Int) (w : World) :
    Calls Try.prog 5 #[.int .i64 self, .int .i64 seq, .int .i64 s, .int .i64 place, .int .i64 un] w fun e w' => e = .returned (.bool true) ∧ Below w.heap.size w w' := by
  go_enter Try.func5, Try.ntmps5
  go_wp2_with fail
  refine (new_any self seq _).mono ?_
  rintro e w1 ⟨rfl, hm, hb1⟩
  have HM : Hid (Mem w1 (w.heap.size + 1) w.heap.size self) := hm
  have HB1 : Hid (Below w.heap.size w w1) := hb1
  clear hm hb1
  go_wp2_with fail
  refine (zzholders_any (w.heap.size + 1) w.heap.size self s place un _ HM.out).mono ?_
  rintro e w2 ⟨b, rfl, hc, hb2⟩
  have HM2 : Hid (Mem w2 (w.heap.size + 1) w.heap.size self) := HM.out.below hb2
  have HB2 : Hid (Below w.heap.size w w2) := HB1.out.trans (hb2.mono HB1.out.size)
  clear hb2 HM HB1
  go_wp2_with fail
  refine (inGroup_any (w.heap.size + 1) s _ HM2.out.2.2.2.2.1).mono ?_
  rintro e w3 ⟨rfl, rfl⟩
  go_wp2
  go_ret
  exact ⟨rfl, HB2.out⟩
end Go.Proofs.Qxb6615479a.Hold
