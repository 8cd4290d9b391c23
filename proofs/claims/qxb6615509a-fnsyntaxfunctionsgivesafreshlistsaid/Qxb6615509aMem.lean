/-
  What the walks are told of memory: a slice of strings, a slice of declarations (three cells each: name, arguments, sort). No Go text in sight.
-/
import Derived.WalkKit
import Derived.WalkSpells
import Derived.Below
import Derived.Laws.AppendOwn
namespace Go.Proofs.Qxb6615509a
open Go.RowKit

/-- One declaration, read as bytes. -/
structure Decl where
  name : ByteArray
  args : List ByteArray
  sort : ByteArray

/-- The value v is a slice of the strings xs in the world w. -/
def SRow (w : World) (v : Value) (xs : List ByteArray) : Prop :=
  (v = .slice none 0 0 ∧ xs = []) ∨
  ∃ (a : Addr) (cap : Nat), v = .slice (some a) xs.length cap ∧ xs.length ≤ maxLen ∧ (∀ i s, xs[i]? = some s → w.cell? (a.add i) = some (.string s) ∧ s.size ≤ maxLen)

/-- The three cells of a declaration at the address a. -/
def DCell (w : World) (a : Addr) (d : Decl) : Prop :=
  ∃ av, w.cell? a = some (.string d.name) ∧ w.cell? (a.add 1) = some av ∧ SRow w av d.args ∧ w.cell? (a.add 2) = some (.string d.sort) ∧ d.name.size ≤ maxLen ∧ d.sort.size ≤ maxLen

/-- The value v is a slice of the declarations ds in the world w. -/
def DRow (w : World) (v : Value) (ds : List Decl) : Prop :=
  (v = .slice none 0 0 ∧ ds = []) ∨
  ∃ (a : Addr) (cap : Nat), v = .slice (some a) ds.length cap ∧ ds.length ≤ maxLen ∧ (∀ i d, ds[i]? = some d → DCell w (a.add (i * 3)) d)

/-- A slice that lies in blocks from B on (or nowhere). -/
def FreshV (B : Nat) (v : Value) : Prop := ∀ a n c, v = .slice (some a) n c → B ≤ a.block

theorem SRow.below {w w' : World} {v : Value} {xs : List ByteArray} (h : SRow w v xs) (hb : Below w.heap.size w w') : SRow w' v xs := by
  rcases h with h | ⟨a, cap, rfl, hl, hc⟩
  · exact .inl h
  · exact .inr ⟨a, cap, rfl, hl, fun i s hi => ⟨cell_later hb (hc i s hi).1, (hc i s hi).2⟩⟩
theorem DCell.below {w w' : World} {a : Addr} {d : Decl} (h : DCell w a d) (hb : Below w.heap.size w w') : DCell w' a d := by
  obtain ⟨av, h0, h1, h2, h3, h4, h5⟩ := h
  exact ⟨av, cell_later hb h0, cell_later hb h1, h2.below hb, cell_later hb h3, h4, h5⟩
theorem DRow.below {w w' : World} {v : Value} {ds : List Decl} (h : DRow w v ds) (hb : Below w.heap.size w w') : DRow w' v ds := by
  rcases h with h | ⟨a, cap, rfl, hl, hc⟩
  · exact .inl h
  · exact .inr ⟨a, cap, rfl, hl, fun i d hi => (hc i d hi).below hb⟩

theorem SRow.len {w : World} {v : Value} {xs : List ByteArray} (h : SRow w v xs) : xs.length ≤ maxLen := by
  rcases h with ⟨_, rfl⟩ | ⟨a, cap, _, hl, _⟩
  · simp
  · exact hl
theorem DRow.len {w : World} {v : Value} {ds : List Decl} (h : DRow w v ds) : ds.length ≤ maxLen := by
  rcases h with ⟨_, rfl⟩ | ⟨a, cap, _, hl, _⟩
  · simp
  · exact hl

theorem add_plain' (b o n : Nat) : (⟨b, o, none⟩ : Addr).add n = ⟨b, o + n, none⟩ := by
  unfold Addr.add
  by_cases h : n = 0
  · subst h; rfl
  · simp [h]
theorem add_form {a : Addr} {w : World} {v : Value} (h : w.cell? (a.add 0) = some v) : a = ⟨a.block, a.off, none⟩ := by
  have h' : w.cell? a = some v := h
  have := World.cell?_spot h'
  obtain ⟨b, o, s⟩ := a
  simp at this
  subst this
  rfl

/-- A slice of strings that is not empty: its address is plain. -/
theorem SRow.plain {w : World} {v : Value} {xs : List ByteArray} (h : SRow w v xs) (hn : 0 < xs.length) :
    ∃ b off cap, v = .slice (some ⟨b, off, none⟩) xs.length cap ∧ (∀ i s, xs[i]? = some s → w.cell? ⟨b, off + i, none⟩ = some (.string s) ∧ s.size ≤ maxLen) := by
  rcases h with ⟨_, rfl⟩ | ⟨a, cap, rfl, hl, hc⟩
  · simp at hn
  · have h0 := (hc 0 xs[0] (by simp [hn])).1
    have ha := add_form h0
    refine ⟨a.block, a.off, cap, by rw [← ha], fun i s hi => ?_⟩
    have := hc i s hi
    rw [ha, add_plain'] at this
    exact this
theorem DRow.plain {w : World} {v : Value} {ds : List Decl} (h : DRow w v ds) (hn : 0 < ds.length) :
    ∃ b off cap, v = .slice (some ⟨b, off, none⟩) ds.length cap ∧ (∀ i d, ds[i]? = some d → DCell w ⟨b, off + i * 3, none⟩ d) := by
  rcases h with ⟨_, rfl⟩ | ⟨a, cap, rfl, hl, hc⟩
  · simp at hn
  · obtain ⟨av, h0, _⟩ := hc 0 ds[0] (by simp [hn])
    rw [Nat.zero_mul] at h0
    have ha := add_form h0
    refine ⟨a.block, a.off, cap, by rw [← ha], fun i d hi => ?_⟩
    have := hc i d hi
    rw [ha, add_plain'] at this
    exact this

/-- A store into another block does not turn a slice of strings. -/
theorem SRow.setCell {w : World} {v : Value} {xs : List ByteArray} {B g j : Nat} (h : SRow w v xs) (hf : FreshV B v) (hg : g < B) (u : Value) : SRow (w.setCell ⟨g, j, none⟩ u) v xs := by
  rcases h with h | ⟨a, cap, rfl, hl, hc⟩
  · exact .inl h
  · have hB := hf a _ _ rfl
    refine .inr ⟨a, cap, rfl, hl, fun i s hi => ⟨?_, (hc i s hi).2⟩⟩
    have hb : (a.add i).block = a.block := by unfold Addr.add; split <;> rfl
    rw [World.cell?_setCell_other]
    · exact (hc i s hi).1
    · intro he
      have := congrArg Addr.block he
      rw [hb] at this
      simp at this
      omega
end Go.Proofs.Qxb6615509a
