/-
  The plain side of the two laws on IsConstantName: no Go in sight.
-/
import Derived.WalkKit
namespace Go.Proofs.Qxb6615509aDoor.Plain

/-- May the byte c stand in a quoted name? -/
def quot (c : Int) : Bool := decide (32 ≤ c ∧ c ≤ 126 ∧ c ≠ 34 ∧ c ≠ 92)
def nstart (r : Int) : Bool := decide ((97 ≤ r ∧ r ≤ 122) ∨ (65 ≤ r ∧ r ≤ 90))
def npart (r : Int) : Bool := decide ((97 ≤ r ∧ r ≤ 122) ∨ (65 ≤ r ∧ r ≤ 90) ∨ (48 ≤ r ∧ r ≤ 57) ∨ r = 95)
def allQ (l : List UInt8) : Bool := l.all fun c => quot (c.toNat : Int)
/-- IsConstantName as a plain function of the bytes. -/
def icn (l : List UInt8) : Bool := !l.isEmpty && allQ l

theorem quot_of_npart {c : Int} (h : npart c = true) : quot c = true := by
  unfold npart at h; unfold quot; simp at h ⊢; omega
theorem allQ_append (a b : List UInt8) : allQ (a ++ b) = (allQ a && allQ b) := by simp [allQ]
theorem allQ_nil : allQ [] = true := rfl
theorem allQ_one (c : UInt8) : allQ [c] = quot (c.toNat : Int) := by simp [allQ]

/-- The first law, plain. -/
theorem split_law (a b : List UInt8) : icn (a ++ b) = ((!a.isEmpty || !b.isEmpty) && (a.isEmpty || icn a) && (b.isEmpty || icn b)) := by
  unfold icn
  rw [allQ_append]
  cases a with
  | nil => cases b with
    | nil => rfl
    | cons y b => simp [allQ_nil]
  | cons x a => cases b with
    | nil => simp [allQ_nil]
    | cons y b => simp
/-- The second law, plain. -/
theorem insert_law (a b : List UInt8) (c : UInt8) : icn (a ++ [c] ++ b) = (quot (c.toNat : Int) && ((a ++ b).isEmpty || icn (a ++ b))) := by
  unfold icn
  rw [allQ_append, allQ_append, allQ_append, allQ_one]
  cases a with
  | nil => cases b with
    | nil => simp [allQ_nil]
    | cons y b => simp [allQ_nil]
  | cons x a => simp; cases allQ (x :: a) <;> cases quot (c.toNat : Int) <;> simp
end Go.Proofs.Qxb6615509aDoor.Plain
