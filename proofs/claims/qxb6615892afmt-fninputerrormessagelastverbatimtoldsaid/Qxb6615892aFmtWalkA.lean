/-
  Contracts of errors.New and of (*InputError).Error. For every F.
-/
import Derived.Test.Qxb6615892aFmtFacts
import Derived.WalkKit
import Derived.WalkSpells
import Derived.WalkLawsBesides
import Derived.Stop.Texts
import Derived.Deep.RegionWith
import Derived.Below
namespace Go.Proofs.Qxb6615892aFmt
open Go.RowKit Go.Extern.Stop Go.Stop Go.Extern

attribute [local go_sem] call8 guard fmt2 fmt2r fmt3 fmt3r act3_100 op3_100 str3 act9_115 op9_115 str9 str31 actPlain31_118

/-- What fmt is asked. -/
def read2 (path msg : List UInt8) : List (List UInt8) := [[37, 115, 58, 32, 37, 118], shape9, FmtStop.pack path, plain31, msg]
def read3 (path : List UInt8) (line : Int) (msg : List UInt8) : List (List UInt8) :=
  [[37, 115, 32, 108, 105, 110, 101, 32, 37, 100, 58, 32, 37, 118], shape9, FmtStop.pack path, shape3, digits 8 (line % 18446744073709551616).toNat, plain31, msg]

theorem new_any (msg : ByteArray) (w : World) :
    Calls Tryf.prog 6 #[.string msg] w fun e w' => e = .returned (.iface 31 (.pointer (some ⟨w.heap.size, 0, none⟩))) ∧ w' = w.alloc (.cells #[.string msg] 33) := by
  go_enter Tryf.func6, Tryf.ntmps6
  go_wp2
  go_ret
  exact ⟨rfl, rfl⟩

set_option maxRecDepth 100000 in
set_option maxHeartbeats 800000 in
theorem error2 (F : Interp) (path msg : ByteArray) (b eb : Nat) (w : World) (hF : F.answers w.tape) (_hb : b < w.heap.size) (_heb : eb < w.heap.size)
    (h0 : w.cell? ⟨b, 0, none⟩ = some (.string path)) (h1 : w.cell? ⟨b, 1, none⟩ = some (.int .i64 0)) (h2 : w.cell? ⟨b, 2, none⟩ = some (.iface 31 (.pointer (some ⟨eb, 0, none⟩)))) (he : w.cell? ⟨eb, 0, none⟩ = some (.string msg)) :
    Calls Tryf.prog 7 #[.pointer (some ⟨b, 0, none⟩)] w fun e w' =>
      e = .returned (.string (FmtStop.textOf (F "fmt.Sprintf" (read2 path.data.toList msg.data.toList) 0))) ∧ Below w.heap.size w w' := by
  have hF' := answers_open hF
  have hop := fun (o : Obj) => opPlain31_118 "fmt.Sprintf" ⟨eb, 0, none⟩ msg (w.alloc o).drew (cell_later ((Below.refl _ w).alloc (Nat.le_refl _) o).drew he)
  go_enter Tryf.func7, Tryf.ntmps7
  go_wp2
  go_region_with (apply rows_value nextTurns; case hr => (go_simp; exact ⟨rfl, rfl⟩))
  all_goals
    go_wp2
    go_ret
    exact ⟨rfl, by repeat' (first | exact Below.refl _ _ | refine Below.drew ?_ | refine Below.alloc ?_ (by simp) _)⟩

set_option maxRecDepth 100000 in
set_option maxHeartbeats 1600000 in
theorem error3 (F : Interp) (path msg : ByteArray) (line : Int) (b eb : Nat) (w : World) (hF : F.answers w.tape) (_hb : b < w.heap.size) (_heb : eb < w.heap.size) (hl : (line == 0) = false)
    (h0 : w.cell? ⟨b, 0, none⟩ = some (.string path)) (h1 : w.cell? ⟨b, 1, none⟩ = some (.int .i64 line)) (h2 : w.cell? ⟨b, 2, none⟩ = some (.iface 31 (.pointer (some ⟨eb, 0, none⟩)))) (he : w.cell? ⟨eb, 0, none⟩ = some (.string msg)) :
    Calls Tryf.prog 7 #[.pointer (some ⟨b, 0, none⟩)] w fun e w' =>
      e = .returned (.string (FmtStop.textOf (F "fmt.Sprintf" (read3 path.data.toList line msg.data.toList) 0))) ∧ Below w.heap.size w w' := by
  have hF' := answers_open hF
  have hop := fun (o : Obj) => opPlain31_118 "fmt.Sprintf" ⟨eb, 0, none⟩ msg (w.alloc o).drew (cell_later ((Below.refl _ w).alloc (Nat.le_refl _) o).drew he)
  go_enter Tryf.func7, Tryf.ntmps7
  go_wp2
  go_region_with (apply rows_value nextTurns; case hr => (go_simp; exact ⟨rfl, rfl⟩))
  all_goals
    go_wp2
    go_ret
    exact ⟨rfl, by repeat' (first | exact Below.refl _ _ | refine Below.drew ?_ | refine Below.alloc ?_ (by simp) _)⟩
end Go.Proofs.Qxb6615892aFmt
