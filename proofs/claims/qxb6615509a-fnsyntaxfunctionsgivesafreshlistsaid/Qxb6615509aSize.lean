/-
  The contract of zzsynFunsSize: it answers a number from 0 to 2^20 + 1.
-/
import Derived.Test.Qxb6615509aLeaves
namespace Go.Proofs.Qxb6615509a
open Go.RowKit

theorem SRow.form' {w : World} {v : Value} {xs : List ByteArray} (h : SRow w v xs) : ∃ oa c, v = .slice oa xs.length c := by
  rcases h with ⟨rfl, rfl⟩ | ⟨a, c, rfl, _⟩
  · exact ⟨_, _, rfl⟩
  · exact ⟨_, _, rfl⟩
/-- Inside: the address is plain, the cell holds the string. -/
theorem SRow.at {w : World} {oa : Option Addr} {c j : Nat} {xs : List ByteArray} (h : SRow w (.slice oa xs.length c) xs) (hj : j < xs.length) :
    ∃ b o, oa = some ⟨b, o, none⟩ ∧ w.cell? ⟨b, o + j, none⟩ = some (.string xs[j]) ∧ xs[j].size ≤ maxLen := by
  obtain ⟨b, o, c', hv, hc⟩ := h.plain (by omega)
  cases hv
  exact ⟨b, o, rfl, (hc j xs[j] (by simp [hj])).1, (hc j xs[j] (by simp [hj])).2⟩

theorem DRow.at {w : World} {oa : Option Addr} {c k : Nat} {ds : List Decl} (h : DRow w (.slice oa ds.length c) ds) (hk : k < ds.length) :
    ∃ b o, oa = some ⟨b, o, none⟩ ∧ DCell w ⟨b, o + k * 3, none⟩ ds[k] := by
  obtain ⟨b, o, c', hv, hc⟩ := h.plain (by omega)
  cases hv
  exact ⟨b, o, rfl, hc k ds[k] (by simp [hk])⟩

set_option maxRecDepth 100000 in
set_option maxHeartbeats 2000000 in
theorem size_full (t0 : Int) (b o c : Nat) (ds : List Decl) (w : World) (ht0 : 0 ≤ t0) (ht1 : t0 ≤ 1048577) (hl : ds.length ≤ maxLen) (h1 : ∀ i d, ds[i]? = some d → DCell w ⟨b, o + i * 3, none⟩ d) :
    Calls Try.prog 6 #[.int .i64 t0, .slice (some ⟨b, o, none⟩) ds.length c] w fun e w' => ∃ r : Int, e = .returned (.int .i64 r) ∧ 0 ≤ r ∧ r ≤ 1048577 ∧ w = w' := by
  have H1 : Hid (∀ i d, ds[i]? = some d → DCell w ⟨b, o + i * 3, none⟩ d) := h1
  clear h1
  unfold maxLen at hl
  go_enter Try.func6, Try.ntmps6
  go_wp2_with fail
  refine (addWords_any _ _ _ _ ht0 ht1 (by omega) (by omega) (.inl rfl)).mono ?_
  rintro e w' ⟨r, rfl, hr0, hr1, rfl⟩
  go_wp2
  go_loop [0, 5] (fun tv iv => ∃ (k : Nat) (t : Int), k ≤ ds.length ∧ 0 ≤ t ∧ t ≤ 1048577 ∧ tv = .int .i64 t ∧ iv = .int .i64 k) (fun _ iv => ds.length - (intOf iv).toNat)
  case atStart => exact ⟨0, r, Nat.zero_le _, hr0, hr1, rfl, rfl⟩
  case round =>
    obtain ⟨k, t, hk, h0, h2, rfl, rfl⟩ := hrel
    clear hr0 hr1 ht0 ht1
    by_cases hlt : k < ds.length
    · by_cases hb : t ≤ 1048576
      · obtain ⟨av, e0, e1, hsr, e2, s0, s2⟩ : DCell w ⟨b, o + k * 3, none⟩ ds[k] := H1.out k ds[k] (by simp [hlt])
        rw [add_plain'] at e1 e2
        obtain ⟨oa, ca, rfl⟩ := hsr.form'
        have HSR : Hid (SRow w (.slice oa ds[k].args.length ca) ds[k].args) := hsr
        have hal := hsr.len
        unfold maxLen at s0 s2 hal
        clear hsr
        have hlt' : (k : Int) < (ds.length : Int) := by omega
        go_wp2_with fail
        refine (add_any _ _ _ h0 h2 (by omega) (by omega)).mono ?_
        rintro e w' ⟨t1, rfl, p0, p1, rfl⟩
        go_wp2_with fail
        refine (add_any _ _ _ p0 p1 (by omega) (by omega)).mono ?_
        rintro e w' ⟨t2, rfl, q0, q1, rfl⟩
        go_wp2_with fail
        refine (addWords_any _ _ _ _ q0 q1 (by omega) (by omega) (.inr rfl)).mono ?_
        rintro e w' ⟨t3, rfl, r0, r1, rfl⟩
        go_wp2
        go_loop [0, 6] (fun tv jv => ∃ (j : Nat) (t : Int), j ≤ ds[k].args.length ∧ 0 ≤ t ∧ t ≤ 1048577 ∧ tv = .int .i64 t ∧ jv = .int .i64 j) (fun _ jv => ds[k].args.length - (intOf jv).toNat)
        case atStart => exact ⟨0, t3, Nat.zero_le _, r0, r1, rfl, rfl⟩
        case round =>
          obtain ⟨j, u, hj, u0, u1, rfl, rfl⟩ := hrel
          clear p0 p1 q0 q1 r0 r1
          by_cases hjl : j < ds[k].args.length
          · by_cases hu : u ≤ 1048576
            · obtain ⟨ba, oo, rfl, hc, hs⟩ := HSR.out.at hjl
              unfold maxLen at hs
              have hjl' : (j : Int) < (ds[k].args.length : Int) := by omega
              go_wp2_with fail
              refine (add_any _ _ _ u0 u1 (by omega) (by omega)).mono ?_
              rintro e w' ⟨t4, rfl, v0, v1, rfl⟩
              go_wp2
              go_round
              case rel => exact ⟨j + 1, t4, by omega, v0, v1, rfl, by go_num⟩
              case measure => simp [intOf]; omega
            · go_wp2
              go_round
              case rel => exact ⟨k + 1, u, by omega, u0, u1, rfl, by go_num⟩
              case measure => simp [intOf]; omega
          · go_wp2
            go_round
            case rel => exact ⟨k + 1, u, by omega, u0, u1, rfl, by go_num⟩
            case measure => simp [intOf]; omega
      · go_wp2
        go_ret
        exact ⟨t, rfl, h0, h2, rfl⟩
    · go_wp2
      go_ret
      exact ⟨t, rfl, h0, h2, rfl⟩

set_option maxHeartbeats 800000 in
theorem size_empty (t0 : Int) (oa : Option Addr) (c : Nat) (w : World) (ht0 : 0 ≤ t0) (ht1 : t0 ≤ 1048577) :
    Calls Try.prog 6 #[.int .i64 t0, .slice oa 0 c] w fun e w' => ∃ r : Int, e = .returned (.int .i64 r) ∧ 0 ≤ r ∧ r ≤ 1048577 ∧ w = w' := by
  go_enter Try.func6, Try.ntmps6
  go_wp2_with fail
  refine (addWords_any _ _ _ _ ht0 ht1 (by omega) (by omega) (.inl rfl)).mono ?_
  rintro e w' ⟨r, rfl, hr0, hr1, rfl⟩
  go_wp2
  go_loop [0, 5] (fun tv iv => tv = .int .i64 r ∧ iv = .int .i64 0) (fun _ _ => 0)
  case atStart => exact ⟨rfl, rfl⟩
  case round =>
    obtain ⟨rfl, rfl⟩ := hrel
    go_wp2
    go_ret
    exact ⟨r, rfl, hr0, hr1, rfl⟩

theorem size_any (t0 : Int) (v : Value) (ds : List Decl) (w : World) (ht0 : 0 ≤ t0) (ht1 : t0 ≤ 1048577) (h : DRow w v ds) :
    Calls Try.prog 6 #[.int .i64 t0, v] w fun e w' => ∃ r : Int, e = .returned (.int .i64 r) ∧ 0 ≤ r ∧ r ≤ 1048577 ∧ w = w' := by
  by_cases hn : 0 < ds.length
  · obtain ⟨b, o, c, rfl, h1⟩ := h.plain hn
    exact size_full t0 b o c ds w ht0 ht1 h.len h1
  · have h0 : ds = [] := List.eq_nil_of_length_eq_zero (by omega)
    subst h0
    rcases h with ⟨rfl, _⟩ | ⟨a, c, rfl, _⟩
    · exact size_empty t0 none 0 w ht0 ht1
    · exact size_empty t0 (some a) c w ht0 ht1

/-- A bool comes back, the world stands, and where it is true Q holds. -/
def Answers (w : World) (Q : Prop) (e : Ending) (w' : World) : Prop := ∃ bb : Bool, e = .returned (.bool bb) ∧ w = w' ∧ (bb = true → Q)

theorem next_ok {L : List Decl} {k : Nat} (hlt : k < L.length) (h : ∀ j d, j < k → L[j]? = some d → d.args.length ≤ 1048576) (hk : L[k].args.length ≤ 1048576) : ∀ j d, j < k + 1 → L[j]? = some d → d.args.length ≤ 1048576 := fun j d hj hd => by
  by_cases e : j = k
  · subst e
    have : d = L[j] := by simpa [hlt] using hd.symm
    rw [this]; exact hk
  · exact h j d (by omega) hd
theorem all_ok {L : List Decl} {k : Nat} (hk : L.length ≤ k) (h : ∀ j d, j < k → L[j]? = some d → d.args.length ≤ 1048576) : ∀ d ∈ L, d.args.length ≤ 1048576 := fun d hd => by
  obtain ⟨j, hj, rfl⟩ := List.mem_iff_getElem.1 hd
  exact h j _ (by omega) (by simp [hj])
end Go.Proofs.Qxb6615509a
