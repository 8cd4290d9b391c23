/-
  The walk of FnSyntaxFunctionsGivesAFreshList.
-/
import Derived.Test.Qxb6615509aFresh
namespace Go.Proofs.Qxb6615509a
open Go.RowKit

theorem three_a {A B C : List Decl} : ∀ i d, A[i]? = some d → (A ++ B ++ C)[0 + i]? = some d := fun i d h => by
  have := at_append [] A (B ++ C) i d h
  simpa using this
theorem three_c {A B C : List Decl} : ∀ i d, C[i]? = some d → (A ++ B ++ C)[A.length + B.length + i]? = some d := fun i d h => by
  have := at_append (A ++ B) C [] i d h
  simpa using this
theorem two_a {A B : List Decl} : ∀ i d, A[i]? = some d → (A ++ B)[0 + i]? = some d := fun i d h => by
  have := at_append [] A B i d h
  simpa using this
theorem two_b {A B : List Decl} : ∀ i d, B[i]? = some d → (A ++ B)[A.length + i]? = some d := fun i d h => by
  have := at_append A B [] i d h
  simpa using this
theorem names_three {A B C : List Decl} (ha : ∀ d ∈ A, d.args.length ≤ 1048576 ∧ d.name.size ≤ 1048576) (hb : ∀ d ∈ B, d.args.length ≤ 1048576 ∧ d.name.size ≤ 1048576) (hc : ∀ d ∈ C, d.args.length ≤ 1048576 ∧ d.name.size ≤ 1048576) : ∀ d ∈ A ++ B ++ C, d.name.size ≤ 1048576 := fun d hd => by
  rcases List.mem_append.1 hd with h | h
  · rcases List.mem_append.1 h with h | h
    · exact (ha d h).2
    · exact (hb d h).2
  · exact (hc d h).2

set_option maxRecDepth 100000 in
set_option maxHeartbeats 16000000 in
theorem law_three (oA : Option Addr) (cA : Nat) (A : List Decl) (oB : Option Addr) (cB : Nat) (B : List Decl) (oC : Option Addr) (cC : Nat) (C : List Decl) (w : World) (hA : DRow w (.slice oA A.length cA) A) (hB : DRow w (.slice oB B.length cB) B) (hC : DRow w (.slice oC C.length cC) C) :
    Calls Try.prog 4 #[.slice oA A.length cA, .slice oB B.length cB, .slice oC C.length cC] w fun e w' => e = .returned (.bool true) ∧ Below w.heap.size w w' := by
  have DA0 : Hid (DRow w (.slice oA A.length cA) A) := hA
  have DB0 : Hid (DRow w (.slice oB B.length cB) B) := hB
  have DC0 : Hid (DRow w (.slice oC C.length cC) C) := hC
  clear hA hB hC
  go_enter Try.func4, Try.ntmps4
  go_wp2_with fail
  refine (bytes_three oA cA A oB cB B oC cC C _ DA0.out DB0.out DC0.out).mono ?_
  rintro e w' ⟨bb, rfl, rfl, hsm⟩
  cases bb
  · clear hsm
    go_wp2
    go_ret
    exact ⟨rfl, Below.refl _ _⟩
  · obtain ⟨hlen, ha, hb, hc⟩ := hsm rfl
    have SA : Hid (∀ d ∈ A, d.args.length ≤ 1048576) := fun d h => (ha d h).1
    have SB : Hid (∀ d ∈ B, d.args.length ≤ 1048576) := fun d h => (hb d h).1
    have SC : Hid (∀ d ∈ C, d.args.length ≤ 1048576) := fun d h => (hc d h).1
    have SN : Hid (∀ d ∈ A ++ B ++ C, d.name.size ≤ 1048576) := names_three ha hb hc
    clear hsm ha hb hc
    go_wp2_with fail
    refine (size_any 0 _ A _ (by omega) (by omega) DA0.out).mono ?_
    rintro e w' ⟨t1, rfl, p0, p1, rfl⟩
    go_wp2_with fail
    refine (size_any t1 _ B _ p0 p1 DB0.out).mono ?_
    rintro e w' ⟨t2, rfl, q0, q1, rfl⟩
    go_wp2_with fail
    refine (size_any t2 _ C _ q0 q1 DC0.out).mono ?_
    rintro e w' ⟨t3, rfl, r0, r1, rfl⟩
    clear p0 p1 q0 q1
    by_cases ht : t3 ≤ 1048576
    · skip
      go_wp2_with fail
      refine (cloneF_form _ A _ DA0.out (by omega) SA.out).mono ?_
      rintro e w1 ⟨oa1, c1, rfl, hd1, hb1⟩
      have BW1 : Hid (Below w.heap.size w w1) := hb1
      have DB1 : Hid (DRow w1 (.slice oB B.length cB) B) := DB0.out.below hb1
      have DC1 : Hid (DRow w1 (.slice oC C.length cC) C) := DC0.out.below hb1
      have EA1 : Hid (DRow w1 (.slice oa1 A.length c1) A) := hd1
      clear hb1 DB0 DC0
      clear hd1 DA0
      go_wp2_with fail
      refine (cloneF_form _ B _ DB1.out (by omega) SB.out).mono ?_
      rintro e w2 ⟨ob2, c2, rfl, hd2, hb2⟩
      have BW2 : Hid (Below w.heap.size w w2) := BW1.out.trans (hb2.mono BW1.out.size)
      have DC2 : Hid (DRow w2 (.slice oC C.length cC) C) := DC1.out.below hb2
      have EA2 : Hid (DRow w2 (.slice oa1 A.length c1) A) := EA1.out.below hb2
      have EB2 : Hid (DRow w2 (.slice ob2 B.length c2) B) := hd2
      clear hb2 DC1 EA1 BW1
      clear hd2 DB1
      go_wp2_with fail
      refine (cloneF_form _ C _ DC2.out (by omega) SC.out).mono ?_
      rintro e w3 ⟨oc3, c3, rfl, hd3, hb3⟩
      have BW3 : Hid (Below w.heap.size w w3) := BW2.out.trans (hb3.mono BW2.out.size)
      have EA3 : Hid (DRow w3 (.slice oa1 A.length c1) A) := EA2.out.below hb3
      have EB3 : Hid (DRow w3 (.slice ob2 B.length c2) B) := EB2.out.below hb3
      have EC3 : Hid (DRow w3 (.slice oc3 C.length c3) C) := hd3
      clear hb3 EA2 EB2 BW2
      clear hd3 DC2
      go_wp2_with fail
      refine (toF_form _ A _ EA3.out (by omega) SA.out).mono ?_
      rintro e w4 ⟨of4, c4, rfl, hd4, hb4⟩
      have BW4 : Hid (Below w.heap.size w w4) := BW3.out.trans (hb4.mono BW3.out.size)
      have EA4 : Hid (DRow w4 (.slice oa1 A.length c1) A) := EA3.out.below hb4
      have EB4 : Hid (DRow w4 (.slice ob2 B.length c2) B) := EB3.out.below hb4
      have EC4 : Hid (DRow w4 (.slice oc3 C.length c3) C) := EC3.out.below hb4
      have FA4 : Hid (DRow w4 (.slice of4 A.length c4) A) := hd4
      clear hb4 EA3 EB3 EC3 BW3
      clear hd4
      go_wp2_with fail
      refine (pol_form (.pointer none) _ A [] _ FA4.out rfl).mono ?_
      rintro e w5 ⟨p5, rfl, hp5, hb5⟩
      have BW5 : Hid (Below w.heap.size w w5) := BW4.out.trans (hb5.mono BW4.out.size)
      have EA5 : Hid (DRow w5 (.slice oa1 A.length c1) A) := EA4.out.below hb5
      have EB5 : Hid (DRow w5 (.slice ob2 B.length c2) B) := EB4.out.below hb5
      have EC5 : Hid (DRow w5 (.slice oc3 C.length c3) C) := EC4.out.below hb5
      have PO5 : Hid (Pol w5 (.pointer (some ⟨p5, 0, none⟩)) [A]) := hp5
      clear hb5 EA4 EB4 EC4 BW4
      clear hp5 FA4
      go_wp2_with fail
      refine (toF_form _ B _ EB5.out (by omega) SB.out).mono ?_
      rintro e w6 ⟨of6, c6, rfl, hd6, hb6⟩
      have BW6 : Hid (Below w.heap.size w w6) := BW5.out.trans (hb6.mono BW5.out.size)
      have EA6 : Hid (DRow w6 (.slice oa1 A.length c1) A) := EA5.out.below hb6
      have EB6 : Hid (DRow w6 (.slice ob2 B.length c2) B) := EB5.out.below hb6
      have EC6 : Hid (DRow w6 (.slice oc3 C.length c3) C) := EC5.out.below hb6
      have PO6 : Hid (Pol w6 (.pointer (some ⟨p5, 0, none⟩)) [A]) := PO5.out.below hb6
      have FB6 : Hid (DRow w6 (.slice of6 B.length c6) B) := hd6
      clear hb6 EA5 EB5 EC5 PO5 BW5
      clear hd6
      go_wp2_with fail
      refine (pol_form (.pointer (some ⟨p5, 0, none⟩)) _ B [A] _ FB6.out PO6.out).mono ?_
      rintro e w7 ⟨p7, rfl, hp7, hb7⟩
      have BW7 : Hid (Below w.heap.size w w7) := BW6.out.trans (hb7.mono BW6.out.size)
      have EA7 : Hid (DRow w7 (.slice oa1 A.length c1) A) := EA6.out.below hb7
      have EB7 : Hid (DRow w7 (.slice ob2 B.length c2) B) := EB6.out.below hb7
      have EC7 : Hid (DRow w7 (.slice oc3 C.length c3) C) := EC6.out.below hb7
      have PM7 : Hid (Pol w7 (.pointer (some ⟨p7, 0, none⟩)) [B, A]) := hp7
      clear hb7 EA6 EB6 EC6 BW6
      clear hp7 FB6 PO6
      go_wp2_with fail
      refine (toF_form _ C _ EC7.out (by omega) SC.out).mono ?_
      rintro e w8 ⟨of8, c8, rfl, hd8, hb8⟩
      have BW8 : Hid (Below w.heap.size w w8) := BW7.out.trans (hb8.mono BW7.out.size)
      have EA8 : Hid (DRow w8 (.slice oa1 A.length c1) A) := EA7.out.below hb8
      have EB8 : Hid (DRow w8 (.slice ob2 B.length c2) B) := EB7.out.below hb8
      have EC8 : Hid (DRow w8 (.slice oc3 C.length c3) C) := EC7.out.below hb8
      have PM8 : Hid (Pol w8 (.pointer (some ⟨p7, 0, none⟩)) [B, A]) := PM7.out.below hb8
      have FC8 : Hid (DRow w8 (.slice of8 C.length c8) C) := hd8
      clear hb8 EA7 EB7 EC7 PM7 BW7
      clear hd8
      go_wp2_with fail
      refine (pol_form (.pointer (some ⟨p7, 0, none⟩)) _ C [B, A] _ FC8.out PM8.out).mono ?_
      rintro e w9 ⟨p9, rfl, hp9, hb9⟩
      have BW9 : Hid (Below w.heap.size w w9) := BW8.out.trans (hb9.mono BW8.out.size)
      have EA9 : Hid (DRow w9 (.slice oa1 A.length c1) A) := EA8.out.below hb9
      have EB9 : Hid (DRow w9 (.slice ob2 B.length c2) B) := EB8.out.below hb9
      have EC9 : Hid (DRow w9 (.slice oc3 C.length c3) C) := EC8.out.below hb9
      have PM9 : Hid (Pol w9 (.pointer (some ⟨p7, 0, none⟩)) [B, A]) := PM8.out.below hb9
      have PE9 : Hid (Pol w9 (.pointer (some ⟨p9, 0, none⟩)) [C, B, A]) := hp9
      clear hb9 EA8 EB8 EC8 PM8 BW8
      clear hp9 FC8
      clear SA SB SC
      go_wp2_with fail
      refine (funs_own [C, B, A] (A ++ B ++ C) (A.length + B.length + C.length) (by simp [flat]) (by simp; omega) _ _ (by simp) PE9.out (by omega) SN.out).mono ?_
      rintro e w10 ⟨og, cg, rfl, hg10, hr10, hb10⟩
      have KB10 : Hid (Below w9.heap.size w9 w10) := hb10
      have GF10 : Hid (DRow w10 (.slice og (A.length + B.length + C.length) cg) (A ++ B ++ C)) := hg10
      have RF10 : Hid (RowAt w9.heap.size w10 og (A.length + B.length + C.length) 0) := hr10
      clear hg10 hr10 hb10 SN
      go_wp2_with fail
      refine (match0 _ _ (A ++ B ++ C) A _ GF10.out (EA9.out.below KB10.out) (by simp) (by simp; omega) three_a).mono ?_
      rintro e w11 ⟨rfl, hb11⟩
      have KB11 : Hid (Below w9.heap.size w9 w11) := KB10.out.trans (hb11.mono KB10.out.size)
      have GF11 : Hid (DRow w11 (.slice og (A.length + B.length + C.length) cg) (A ++ B ++ C)) := GF10.out.below hb11
      have RF11 : Hid (RowAt w9.heap.size w11 og (A.length + B.length + C.length) 0) := RF10.out.below hb11
      clear hb11 KB10 GF10 RF10
      go_wp2_with fail
      refine (match_at _ _ (A ++ B ++ C) B A.length _ rfl _ GF11.out (EB9.out.below KB11.out) (by simp) (by simp; omega) (at_append A B C)).mono ?_
      rintro e w12 ⟨rfl, hb12⟩
      have KB12 : Hid (Below w9.heap.size w9 w12) := KB11.out.trans (hb12.mono KB11.out.size)
      have GF12 : Hid (DRow w12 (.slice og (A.length + B.length + C.length) cg) (A ++ B ++ C)) := GF11.out.below hb12
      have RF12 : Hid (RowAt w9.heap.size w12 og (A.length + B.length + C.length) 0) := RF11.out.below hb12
      clear hb12 KB11 GF11 RF11
      go_wp2_with fail
      refine (match_at _ _ (A ++ B ++ C) C (A.length + B.length) _ (by omega) _ GF12.out (EC9.out.below KB12.out) (by simp; omega) (by simp; omega) three_c).mono ?_
      rintro e w13 ⟨rfl, hb13⟩
      have KB13 : Hid (Below w9.heap.size w9 w13) := KB12.out.trans (hb13.mono KB12.out.size)
      have GF13 : Hid (DRow w13 (.slice og (A.length + B.length + C.length) cg) (A ++ B ++ C)) := GF12.out.below hb13
      have RF13 : Hid (RowAt w9.heap.size w13 og (A.length + B.length + C.length) 0) := RF12.out.below hb13
      clear hb13 KB12 GF12 RF12
      clear GF13
      go_wp2
      go_loopw [14] (fun iv wr => ∃ k : Nat, k ≤ A.length + B.length + C.length ∧ iv = .int .i64 k ∧ Hid (Below w9.heap.size w9 wr) ∧ Hid (RowAt w9.heap.size wr og (A.length + B.length + C.length) k)) (fun iv _ => (A.length + B.length + C.length) - (intOf iv).toNat)
      case atStart => exact ⟨0, Nat.zero_le _, rfl, KB13.out, RF13.out⟩
      case round =>
        obtain ⟨k, hk, rfl, HB, HR⟩ := hrel
        by_cases hlt : k < A.length + B.length + C.length
        · rcases HR.out with hz | ⟨g, cur, rfl, hgB, hh, hsz, hf⟩
          · omega
          obtain ⟨s, hs0, hs1⟩ := hf k (Nat.le_refl _) hlt
          have q0 : wr.cell? ⟨g, k * 3, none⟩ = some (.string s) := by rw [row_cell hh]; exact hs0
          obtain ⟨x1, q1⟩ : ∃ x, wr.cell? ⟨g, k * 3 + 1, none⟩ = some x := ⟨cur[k * 3 + 1]'(by omega), by rw [row_cell hh]; simp⟩
          obtain ⟨x2, q2⟩ : ∃ x, wr.cell? ⟨g, k * 3 + 2, none⟩ = some x := ⟨cur[k * 3 + 2]'(by omega), by rw [row_cell hh]; simp⟩
          have z0 : wr.frozen? ⟨g, k * 3, none⟩ = false := row_frozen hh
          have z1 : wr.frozen? ⟨g, k * 3 + 1, none⟩ = false := row_frozen hh
          have z2 : wr.frozen? ⟨g, k * 3 + 2, none⟩ = false := row_frozen hh
          have HO : Hid (∀ u0 u1 u2, Below w9.heap.size w9 (((wr.setCell ⟨g, k * 3, none⟩ u0).setCell ⟨g, k * 3 + 2, none⟩ u2).setCell ⟨g, k * 3 + 1, none⟩ u1) ∧ RowAt w9.heap.size (((wr.setCell ⟨g, k * 3, none⟩ u0).setCell ⟨g, k * 3 + 2, none⟩ u2).setCell ⟨g, k * 3 + 1, none⟩ u1) (some ⟨g, 0, none⟩) (A.length + B.length + C.length) (k + 1)) := fun u0 u1 u2 => row_over u0 u1 u2 HB.out hgB hh hsz hf rfl
          have hlt' : (k : Int) < (A.length : Int) + (B.length : Int) + (C.length : Int) := by omega
          clear hh hsz hf hs0
          go_wp2
          go_roundw
          case rel => exact ⟨k + 1, by omega, by go_num, (HO.out _ _ _).1, (HO.out _ _ _).2⟩
          case measure => simp [intOf]; omega
        · clear HR KB13 RF13
          go_wp2_with fail
          refine (funs_len [C, B, A] (A ++ B ++ C) (A.length + B.length + C.length) (by simp [flat]) (by simp; omega) _ _ (by simp) (PE9.out.below HB.out) (by omega)).mono ?_
          rintro e w14 ⟨oh, ch, rfl, hg14, hb14⟩
          have KB14 : Hid (Below w9.heap.size w9 w14) := HB.out.trans (hb14.mono HB.out.size)
          have GH14 : Hid (DRow w14 (.slice oh (A.length + B.length + C.length) ch) (A ++ B ++ C)) := hg14
          clear hg14 hb14 HB
          go_wp2_with fail
          refine (match0 _ _ (A ++ B ++ C) A _ GH14.out (EA9.out.below KB14.out) (by simp) (by simp; omega) three_a).mono ?_
          rintro e w15 ⟨rfl, hb15⟩
          have KB15 : Hid (Below w9.heap.size w9 w15) := KB14.out.trans (hb15.mono KB14.out.size)
          have GH15 : Hid (DRow w15 (.slice oh (A.length + B.length + C.length) ch) (A ++ B ++ C)) := GH14.out.below hb15
          clear hb15 KB14 GH14
          go_wp2_with fail
          refine (match_at _ _ (A ++ B ++ C) B A.length _ rfl _ GH15.out (EB9.out.below KB15.out) (by simp) (by simp; omega) (at_append A B C)).mono ?_
          rintro e w16 ⟨rfl, hb16⟩
          have KB16 : Hid (Below w9.heap.size w9 w16) := KB15.out.trans (hb16.mono KB15.out.size)
          have GH16 : Hid (DRow w16 (.slice oh (A.length + B.length + C.length) ch) (A ++ B ++ C)) := GH15.out.below hb16
          clear hb16 KB15 GH15
          go_wp2_with fail
          refine (match_at _ _ (A ++ B ++ C) C (A.length + B.length) _ (by omega) _ GH16.out (EC9.out.below KB16.out) (by simp; omega) (by simp; omega) three_c).mono ?_
          rintro e w17 ⟨rfl, hb17⟩
          have KB17 : Hid (Below w9.heap.size w9 w17) := KB16.out.trans (hb17.mono KB16.out.size)
          have GH17 : Hid (DRow w17 (.slice oh (A.length + B.length + C.length) ch) (A ++ B ++ C)) := GH16.out.below hb17
          clear hb17 KB16 GH16
          clear GH17
          go_wp2_with fail
          refine (funs_len [B, A] (A ++ B) (A.length + B.length) (by simp [flat]) (by simp) _ _ (by simp) (PM9.out.below KB17.out) (by omega)).mono ?_
          rintro e w18 ⟨om, cm, rfl, hg18, hb18⟩
          have KB18 : Hid (Below w9.heap.size w9 w18) := KB17.out.trans (hb18.mono KB17.out.size)
          have GM18 : Hid (DRow w18 (.slice om (A.length + B.length) cm) (A ++ B)) := hg18
          clear hg18 hb18 KB17
          go_wp2_with fail
          refine (match0 _ _ (A ++ B) A _ GM18.out (EA9.out.below KB18.out) (by simp) (by simp; omega) two_a).mono ?_
          rintro e w19 ⟨rfl, hb19⟩
          have KB19 : Hid (Below w9.heap.size w9 w19) := KB18.out.trans (hb19.mono KB18.out.size)
          have GM19 : Hid (DRow w19 (.slice om (A.length + B.length) cm) (A ++ B)) := GM18.out.below hb19
          clear hb19 KB18 GM18
          go_wp2_with fail
          refine (match_at _ _ (A ++ B) B A.length _ rfl _ GM19.out (EB9.out.below KB19.out) (by simp) (by simp; omega) two_b).mono ?_
          rintro e w20 ⟨rfl, hb20⟩
          have KB20 : Hid (Below w9.heap.size w9 w20) := KB19.out.trans (hb20.mono KB19.out.size)
          have GM20 : Hid (DRow w20 (.slice om (A.length + B.length) cm) (A ++ B)) := GM19.out.below hb20
          clear hb20 KB19 GM19
          go_wp2
          go_ret
          exact ⟨rfl, BW9.out.trans (KB20.out.mono BW9.out.size)⟩
    · go_wp2
      go_ret
      exact ⟨rfl, Below.refl _ _⟩
end Go.Proofs.Qxb6615509a
