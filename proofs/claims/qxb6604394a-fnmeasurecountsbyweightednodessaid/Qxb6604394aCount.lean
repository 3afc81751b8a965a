/-
  FnMeasureCountsByWeightedNodes: the walk.
-/
import Derived.Test.Qxb6604394aMeasure2
import Derived.Test.Qxb6604394aShape
namespace Go.Proofs.Qxb6604394a
open Go.RowKit

theorem zz7_yes (ao : Option Addr) (n cap : Nat) (w : World) (hn : n ≤ 1048576) :
    Calls Try.prog 7 #[.slice ao n cap] w fun e w' => e = .returned (.bool true) ∧ w' = w := by
  go_enter Try.func7, Try.ntmps7
  go_wp2
  go_ret
  exact ⟨rfl, rfl⟩
theorem zz7_no (ao : Option Addr) (n cap : Nat) (w : World) (hn : 1048576 < n) :
    Calls Try.prog 7 #[.slice ao n cap] w fun e w' => e = .returned (.bool false) ∧ w' = w := by
  go_enter Try.func7, Try.ntmps7
  go_wp2
  go_ret
  exact ⟨rfl, rfl⟩
theorem count_no (ao : Option Addr) (n cap : Nat) (w : World) (hn : 262144 < n) :
    Calls Try.prog 3 #[.slice ao n cap] w fun e w' => e = .returned (.bool true) ∧ w' = w := by
  by_cases h : n ≤ 1048576
  · go_enter Try.func3, Try.ntmps3
    go_wp2_with (go_at_call 7; refine (zz7_yes _ _ _ _ h).mono ?_; rintro e w' ⟨rfl, rfl⟩)
    go_ret
    exact ⟨rfl, rfl⟩
  · have h' : 1048576 < n := by omega
    go_enter Try.func3, Try.ntmps3
    go_wp2_with (go_at_call 7; refine (zz7_no _ _ _ _ h').mono ?_; rintro e w' ⟨rfl, rfl⟩)
    go_ret
    exact ⟨rfl, rfl⟩

theorem reads_at {w wr : World} {ao : Option Addr} {n j B : Nat} {zs : List Int} (hr : Reads w ao n zs) (hb : Below B w wr) (hB : w.heap.size ≤ B) (hj : j < n) : ∃ g off, ao = some ⟨g, off, none⟩ ∧ wr.cell? ⟨g, off + j, none⟩ = some (.int .i32 (zs.getD j 0)) := by
  obtain ⟨g, off, e, hg, hc⟩ := hr (by omega)
  exact ⟨g, off, e, (hb.cell (by exact Nat.lt_of_lt_of_le hg hB)).trans (hc j hj)⟩
theorem getD_drop' (S : List Int) (u j : Nat) : (S.drop u).getD j 0 = S.getD (u + j) 0 := by simp [List.getD]

set_option maxHeartbeats 1000000 in
theorem count_yes (ao : Option Addr) (n cap : Nat) (S : List Int) (w : World) (hn : n ≤ 262144) (hl : S.length = n) (hr : Reads w ao n S) (hf : Fit S) :
    Calls Try.prog 3 #[.slice ao n cap] w fun e w' => e = .returned (.bool true) ∧ Below w.heap.size w w' := by
  have hn20 : n ≤ 1048576 := by omega
  have HR := hid hr
  have HF := hid hf
  have HL := hid hl
  clear hr hf hl
  go_enter Try.func3, Try.ntmps3
  go_wp2_with (go_at_call 7; refine (zz7_yes _ _ _ _ hn20).mono ?_; rintro e w' ⟨rfl, rfl⟩)
  refine (shape_any ao n cap S _ hn HL.out HR.out HF.out).mono ?_
  rintro e w1 ⟨want, used, short, nn, pos, ok, rfl, hu, hok, hb1⟩
  cases ok with
  | false =>
    clear hok
    go_wp2
    go_ret
    exact ⟨rfl, hb1⟩
  | true =>
    obtain ⟨W, hW, hread⟩ := hok rfl
    obtain ⟨f, hitems⟩ := read_items hread
    have HI := hid hitems
    have HW := hid hW
    clear hok hread hitems hW
    go_wp2_with fail
    refine (clone_any ao n cap S w1 hn20 HL.out (HR.out.later hb1 (Nat.le_refl _))).mono ?_
    rintro e w2 ⟨a1, c1, rfl, hc1, hc2, hnil, hr2, hb2⟩
    have HM := hid (zzMeasure f S _ a1 n c1 w2 HI.out HL.out hr2 hc1 hc2 hnil HF.out)
    clear hnil
    go_wp2_with fail
    refine HM.out.mono ?_
    rintro e w3 ⟨v, ao', c', rfl, q1, q2, q3, q4, q5, q6, q7⟩
    clear HM
    have hlen : (S.drop used).length = n - used := by rw [List.length_drop, HL.out]
    simp only [hlen] at q1 q2 q4 ⊢
    have HQ1 := hid q1
    have HQ6 := hid q6
    have HR3 := hid (hr2.later q7 (Nat.le_refl _))
    have hbb : Below w'.heap.size w' w3 := hb1.trans ((hb2.mono hb1.size).trans (q7.mono (Nat.le_trans hb1.size hb2.size)))
    obtain ⟨m, hm⟩ : ∃ m, m = n - used := ⟨_, rfl⟩
    rw [← hm] at q2 HQ1 ⊢
    have hm1 : m + used ≤ n := by omega
    have hm2 : n ≤ m + used := by omega
    clear q1 q4 q5 q6 hr2 hm hlen
    cases nn with
    | false =>
      go_wp2
      go_loopw [11] (fun i wr => ∃ k : Nat, k ≤ m ∧ i = .int .i64 (k : Int) ∧ Below w3.heap.size w3 wr) (fun i _ => m - (intOf i).toNat)
      case atStart => exact ⟨0, by omega, rfl, Below.refl _ _⟩
      case round =>
        obtain ⟨k, hk, rfl, hb4⟩ := hrel
        by_cases hlt : k < m
        · obtain ⟨g1, o1, rfl, hc4⟩ := reads_at (j := k) HQ1.out hb4 (Nat.le_refl _) hlt
          obtain ⟨g2, o2, rfl, hc5⟩ := reads_at (j := used + k) HR3.out hb4 (Nat.le_refl _) (by omega)
          rw [getD_drop'] at hc4
          generalize S.getD (used + k) 0 = x at hc4 hc5
          go_wp2_with fail
          go_quiet (fail)
          go_wp2
          go_roundw
          case rel => exact ⟨k + 1, by omega, by go_num, below_drewN hb4 _⟩
          case measure => simp [intOf]; omega
        · go_wp2
          go_ret
          exact ⟨rfl, hbb.trans (hb4.mono hbb.size)⟩
    | true =>
      have hv : v = want := (HQ6.out rfl).trans HW.out.symm
      clear HQ6 HW
      subst hv
      go_wp2
      go_loopw [11] (fun i wr => ∃ k : Nat, k ≤ m ∧ i = .int .i64 (k : Int) ∧ Below w3.heap.size w3 wr) (fun i _ => m - (intOf i).toNat)
      case atStart => exact ⟨0, by omega, rfl, Below.refl _ _⟩
      case round =>
        obtain ⟨k, hk, rfl, hb4⟩ := hrel
        by_cases hlt : k < m
        · obtain ⟨g1, o1, rfl, hc4⟩ := reads_at (j := k) HQ1.out hb4 (Nat.le_refl _) hlt
          obtain ⟨g2, o2, rfl, hc5⟩ := reads_at (j := used + k) HR3.out hb4 (Nat.le_refl _) (by omega)
          rw [getD_drop'] at hc4
          generalize S.getD (used + k) 0 = x at hc4 hc5
          go_wp2_with fail
          go_quiet (fail)
          go_wp2
          go_roundw
          case rel => exact ⟨k + 1, by omega, by go_num, below_drewN hb4 _⟩
          case measure => simp [intOf]; omega
        · go_wp2
          go_ret
          exact ⟨rfl, hbb.trans (hb4.mono hbb.size)⟩

end Go.Proofs.Qxb6604394a
