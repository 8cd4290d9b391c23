/-
  The walk of FnSyntaxFunctionsOuterThenOwn.
-/
import Derived.Test.Qxb6615509aForms
import Derived.Test.Qxb6615509aBytesTwo
namespace Go.Proofs.Qxb6615509a
open Go.RowKit

set_option maxRecDepth 100000 in
set_option maxHeartbeats 4000000 in
theorem law_two (oA : Option Addr) (cA : Nat) (A : List Decl) (oB : Option Addr) (cB : Nat) (B : List Decl) (w : World) (hA : DRow w (.slice oA A.length cA) A) (hB : DRow w (.slice oB B.length cB) B) :
    Calls Try.prog 3 #[.slice oA A.length cA, .slice oB B.length cB] w fun e w' => e = .returned (.bool true) ∧ Below w.heap.size w w' := by
  have DA0 : Hid (DRow w (.slice oA A.length cA) A) := hA
  have DB0 : Hid (DRow w (.slice oB B.length cB) B) := hB
  clear hA hB
  go_enter Try.func3, Try.ntmps3
  go_wp2_with fail
  refine (bytes_two oA cA A oB cB B _ DA0.out DB0.out).mono ?_
  rintro e w' ⟨bb, rfl, rfl, hsm⟩
  cases bb
  · clear hsm
    go_wp2
    go_ret
    exact ⟨rfl, Below.refl _ _⟩
  · obtain ⟨hlen, ha, hb⟩ := hsm rfl
    have SA : Hid (∀ d ∈ A, d.args.length ≤ 1048576) := ha
    have SB : Hid (∀ d ∈ B, d.args.length ≤ 1048576) := hb
    clear hsm ha hb
    go_wp2_with fail
    refine (size_any 0 _ A _ (by omega) (by omega) DA0.out).mono ?_
    rintro e w' ⟨t1, rfl, p0, p1, rfl⟩
    go_wp2_with fail
    refine (size_any t1 _ B _ p0 p1 DB0.out).mono ?_
    rintro e w' ⟨t2, rfl, q0, q1, rfl⟩
    clear p0 p1
    by_cases ht : t2 ≤ 1048576
    · skip
      go_wp2_with fail
      refine (cloneF_form _ A _ DA0.out (by omega) SA.out).mono ?_
      rintro e w1 ⟨oa1, c1, rfl, hd1, hb1⟩
      have BW1 : Hid (Below w.heap.size w w1) := hb1
      have DB1 : Hid (DRow w1 (.slice oB B.length cB) B) := DB0.out.below hb1
      have EA1 : Hid (DRow w1 (.slice oa1 A.length c1) A) := hd1
      clear hb1 DB0
      clear hd1 DA0
      go_wp2_with fail
      refine (cloneF_form _ B _ DB1.out (by omega) SB.out).mono ?_
      rintro e w2 ⟨ob2, c2, rfl, hd2, hb2⟩
      have BW2 : Hid (Below w.heap.size w w2) := BW1.out.trans (hb2.mono BW1.out.size)
      have EA2 : Hid (DRow w2 (.slice oa1 A.length c1) A) := EA1.out.below hb2
      have EB2 : Hid (DRow w2 (.slice ob2 B.length c2) B) := hd2
      clear hb2 EA1 BW1
      clear hd2 DB1
      go_wp2_with fail
      refine (toF_form _ A _ EA2.out (by omega) SA.out).mono ?_
      rintro e w3 ⟨of3, c3, rfl, hd3, hb3⟩
      have BW3 : Hid (Below w.heap.size w w3) := BW2.out.trans (hb3.mono BW2.out.size)
      have EA3 : Hid (DRow w3 (.slice oa1 A.length c1) A) := EA2.out.below hb3
      have EB3 : Hid (DRow w3 (.slice ob2 B.length c2) B) := EB2.out.below hb3
      have FA3 : Hid (DRow w3 (.slice of3 A.length c3) A) := hd3
      clear hb3 EA2 EB2 BW2
      clear hd3
      go_wp2_with fail
      refine (pol_form (.pointer none) _ A [] _ FA3.out rfl).mono ?_
      rintro e w4 ⟨p4, rfl, hp4, hb4⟩
      have BW4 : Hid (Below w.heap.size w w4) := BW3.out.trans (hb4.mono BW3.out.size)
      have EA4 : Hid (DRow w4 (.slice oa1 A.length c1) A) := EA3.out.below hb4
      have EB4 : Hid (DRow w4 (.slice ob2 B.length c2) B) := EB3.out.below hb4
      have PO4 : Hid (Pol w4 (.pointer (some ⟨p4, 0, none⟩)) [A]) := hp4
      clear hb4 EA3 EB3 BW3
      clear hp4 FA3
      go_wp2_with fail
      refine (toF_form _ B _ EB4.out (by omega) SB.out).mono ?_
      rintro e w5 ⟨of5, c5, rfl, hd5, hb5⟩
      have BW5 : Hid (Below w.heap.size w w5) := BW4.out.trans (hb5.mono BW4.out.size)
      have EA5 : Hid (DRow w5 (.slice oa1 A.length c1) A) := EA4.out.below hb5
      have EB5 : Hid (DRow w5 (.slice ob2 B.length c2) B) := EB4.out.below hb5
      have PO5 : Hid (Pol w5 (.pointer (some ⟨p4, 0, none⟩)) [A]) := PO4.out.below hb5
      have FB5 : Hid (DRow w5 (.slice of5 B.length c5) B) := hd5
      clear hb5 EA4 EB4 PO4 BW4
      clear hd5
      go_wp2_with fail
      refine (pol_form (.pointer (some ⟨p4, 0, none⟩)) _ B [A] _ FB5.out PO5.out).mono ?_
      rintro e w6 ⟨p6, rfl, hp6, hb6⟩
      have BW6 : Hid (Below w.heap.size w w6) := BW5.out.trans (hb6.mono BW5.out.size)
      have EA6 : Hid (DRow w6 (.slice oa1 A.length c1) A) := EA5.out.below hb6
      have EB6 : Hid (DRow w6 (.slice ob2 B.length c2) B) := EB5.out.below hb6
      have PO6 : Hid (Pol w6 (.pointer (some ⟨p4, 0, none⟩)) [A]) := PO5.out.below hb6
      have PE6 : Hid (Pol w6 (.pointer (some ⟨p6, 0, none⟩)) [B, A]) := hp6
      clear hb6 EA5 EB5 PO5 BW5
      clear hp6 FB5
      go_wp2_with fail
      refine (funs_form [A] A (by simp [flat]) _ _ (by simp) PO6.out (by omega)).mono ?_
      rintro e w7 ⟨og7, c7, rfl, hd7, _, hb7⟩
      have BW7 : Hid (Below w.heap.size w w7) := BW6.out.trans (hb7.mono BW6.out.size)
      have EA7 : Hid (DRow w7 (.slice oa1 A.length c1) A) := EA6.out.below hb7
      have EB7 : Hid (DRow w7 (.slice ob2 B.length c2) B) := EB6.out.below hb7
      have PO7 : Hid (Pol w7 (.pointer (some ⟨p4, 0, none⟩)) [A]) := PO6.out.below hb7
      have PE7 : Hid (Pol w7 (.pointer (some ⟨p6, 0, none⟩)) [B, A]) := PE6.out.below hb7
      have GO7 : Hid (DRow w7 (.slice og7 A.length c7) A) := hd7
      clear hb7 EA6 EB6 PO6 PE6 BW6
      clear hd7
      clear PO7
      go_wp2_with fail
      refine (funs_form [B, A] (A ++ B) (by simp [flat]) _ _ (by simp) PE7.out (by simp; omega)).mono ?_
      rintro e w8 ⟨oe8, c8, rfl, hd8, _, hb8⟩
      have BW8 : Hid (Below w.heap.size w w8) := BW7.out.trans (hb8.mono BW7.out.size)
      have EA8 : Hid (DRow w8 (.slice oa1 A.length c1) A) := EA7.out.below hb8
      have EB8 : Hid (DRow w8 (.slice ob2 B.length c2) B) := EB7.out.below hb8
      have PE8 : Hid (Pol w8 (.pointer (some ⟨p6, 0, none⟩)) [B, A]) := PE7.out.below hb8
      have GO8 : Hid (DRow w8 (.slice og7 A.length c7) A) := GO7.out.below hb8
      have GE8 : Hid (DRow w8 (.slice oe8 (A.length + B.length) c8) (A ++ B)) := by have h := hd8; rw [List.length_append] at h; exact h
      clear hb8 EA7 EB7 PE7 GO7 BW7
      clear hd8
      clear PE8
      go_wp2_with fail
      refine (match0 _ _ A A _ GO8.out EA8.out (Nat.le_refl _) (by omega) (fun i d h => by rw [Nat.zero_add]; exact h)).mono ?_
      rintro e w9 ⟨rfl, hb9⟩
      have BW9 : Hid (Below w.heap.size w w9) := BW8.out.trans (hb9.mono BW8.out.size)
      have EA9 : Hid (DRow w9 (.slice oa1 A.length c1) A) := EA8.out.below hb9
      have EB9 : Hid (DRow w9 (.slice ob2 B.length c2) B) := EB8.out.below hb9
      have GE9 : Hid (DRow w9 (.slice oe8 (A.length + B.length) c8) (A ++ B)) := GE8.out.below hb9
      clear hb9 BW8 EA8 EB8 GE8 GO8
      go_wp2_with fail
      refine (match0 _ _ (A ++ B) A _ GE9.out EA9.out (by simp) (by simp; omega) (fun i d h => by have := at_append [] A B i d h; simpa using this)).mono ?_
      rintro e w10 ⟨rfl, hb10⟩
      have BW10 : Hid (Below w.heap.size w w10) := BW9.out.trans (hb10.mono BW9.out.size)
      have EB10 : Hid (DRow w10 (.slice ob2 B.length c2) B) := EB9.out.below hb10
      have GE10 : Hid (DRow w10 (.slice oe8 (A.length + B.length) c8) (A ++ B)) := GE9.out.below hb10
      clear hb10 BW9 EA9 EB9 GE9
      go_wp2_with fail
      refine (matches_any _ _ (A ++ B) B A.length _ GE10.out EB10.out (by simp) (by simp; omega) (fun i d h => by have := at_append A B [] i d h; simpa using this)).mono ?_
      rintro e w11 ⟨rfl, hb11⟩
      have BW11 : Hid (Below w.heap.size w w11) := BW10.out.trans (hb11.mono BW10.out.size)
      clear hb11 BW10 EB10 GE10
      go_wp2
      go_ret
      exact ⟨rfl, BW11.out⟩
    · go_wp2
      go_ret
      exact ⟨rfl, Below.refl _ _⟩
end Go.Proofs.Qxb6615509a
