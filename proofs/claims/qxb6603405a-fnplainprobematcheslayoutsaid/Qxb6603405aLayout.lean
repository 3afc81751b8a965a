/-
  FnPlainProbeMatchesLayout: the walk.
-/
import Derived.Test.Qxb6603405aProbe
import Derived.Deep.QuietTactic
import Derived.BigQuiet
import Derived.WalkSmall
namespace Go.Proofs.Qxb6603405a
open Go.RowKit

theorem zz19_yes (ao : Option Addr) (n cap : Nat) (root : Value) (w : World) (hn : n ≤ 1048576) :
    Calls Try.prog 19 #[.slice ao n cap, root] w fun e w' => e = .returned (.bool true) ∧ w' = w := by
  go_enter Try.func19, Try.ntmps19
  go_wp2
  go_ret
  exact ⟨rfl, rfl⟩
theorem zz19_no (ao : Option Addr) (n cap : Nat) (root : Value) (w : World) (hn : 1048576 < n) :
    Calls Try.prog 19 #[.slice ao n cap, root] w fun e w' => e = .returned (.bool false) ∧ w' = w := by
  go_enter Try.func19, Try.ntmps19
  go_wp2
  go_ret
  exact ⟨rfl, rfl⟩
theorem layout_no (ao : Option Addr) (n cap : Nat) (root : Int) (w : World) (hn : 1048576 < n) :
    Calls Try.prog 8 #[.slice ao n cap, .int .i64 root] w fun e w' => e = .returned (.bool true) ∧ w' = w := by
  go_enter Try.func8, Try.ntmps8
  go_wp2_with (go_at_call 19; refine (zz19_no _ _ _ _ _ hn).mono ?_; rintro e w' ⟨rfl, rfl⟩)
  go_ret
  exact ⟨rfl, rfl⟩

theorem reads_at {w wr : World} {ao : Option Addr} {n j B : Nat} {zs : List Int} (hr : Reads w ao n zs) (hb : Below B w wr) (hB : w.heap.size ≤ B) (hj : j < n) : ∃ g off, ao = some ⟨g, off, none⟩ ∧ wr.cell? ⟨g, off + j, none⟩ = some (.int .u8 (zs.getD j 0)) := by
  obtain ⟨g, off, e, hg, hc⟩ := hr (by omega)
  exact ⟨g, off, e, (hb.cell (by exact Nat.lt_of_lt_of_le hg hB)).trans (hc j hj)⟩
theorem reads_zero {w wr : World} {b n j B : Nat} {zs : List Int} (hr : Reads w (some ⟨b, 0, none⟩) n zs) (hb : Below B w wr) (hB : w.heap.size ≤ B) (hj : j < n) : wr.cell? ⟨b, j, none⟩ = some (.int .u8 (zs.getD j 0)) := by
  obtain ⟨g, off, e, hc⟩ := reads_at hr hb hB hj
  cases e
  rwa [Nat.zero_add] at hc

set_option maxHeartbeats 400000 in
theorem layout_out (ao : Option Addr) (n cap : Nat) (root : Int) (zs : List Int) (w : World) (hn : n ≤ 1048576) (hl : n ≤ zs.length) (hr : Reads w ao n zs) (hout : root < 0 ∨ (n : Int) ≤ root) :
    Calls Try.prog 8 #[.slice ao n cap, .int .i64 root] w fun e w' => e = .returned (.bool true) ∧ Below w.heap.size w w' := by
  have HO := hid' hout
  go_enter Try.func8, Try.ntmps8
  clear hout
  go_wp2_with (go_at_call 19; refine (zz19_yes _ _ _ _ _ hn).mono ?_; rintro e w' ⟨rfl, rfl⟩)
  refine (clone_nn ao n cap zs _ hn hl hr).mono ?_
  rintro e w1 ⟨ao1, c1, rfl, hc1, hc2, hnil, hr1, hb1⟩
  clear hr
  have HC := hid' (zzProbe_out ao1 n c1 root zs w1 hr1 hnil hl hn HO.out)
  clear hnil
  go_wp2_with fail
  refine HC.out.mono ?_
  rintro e w2 ⟨rfl, hrp, hb2⟩
  clear HC
  have hrc := hr1.later hb2
  clear hr1
  have hlast : w2.cell? ⟨w1.heap.size, n, none⟩ = some (.int .u8 9) := by
    have := reads_zero (j := n) hrp (Below.refl w2.heap.size w2) (Nat.le_refl _) (by omega)
    rwa [outL_last hl] at this
  have HP := hid' hrp
  have HRc := hid' hrc
  have HL := hid' hlast
  have hbb : Below w'.heap.size w' w2 := hb1.trans (hb2.mono hb1.size)
  clear hrp hrc hlast
  by_cases h0 : root < 0
  · go_wp2
    go_loopw [9] (fun i wr => ∃ k : Nat, k ≤ n ∧ i = .int .i64 k ∧ Below w2.heap.size w2 wr) (fun i _ => n - (intOf i).toNat)
    case atStart => exact ⟨0, by omega, rfl, Below.refl _ _⟩
    case round =>
      obtain ⟨k, hk, rfl, hb3⟩ := hrel
      by_cases hlt : k < n
      · have hpx := reads_zero (j := k) HP.out hb3 (Nat.le_refl _) (by omega)
        rw [outL_lt hl hlt] at hpx
        obtain ⟨g, off, rfl, hcx⟩ := reads_at (j := k) HRc.out hb3 (Nat.le_refl _) hlt
        generalize zs.getD k 0 = c at hpx hcx
        go_wp2_with fail
        go_quiet ((go_at_call 21; exact Calls.quiet_of_same (tab_any _ _)))
        go_wp2
        go_roundw
        case rel => exact ⟨k + 1, by omega, by go_num, below_drewN hb3 _⟩
        case measure => simp [intOf]; omega
      · have hcl : wr.cell? ⟨w1.heap.size, n, none⟩ = some (.int .u8 9) := (hb3.cell (by exact World.block_lt_of_cell? w2 _ HL.out)).trans HL.out
        go_wp2
        go_ret
        exact ⟨rfl, hbb.trans (hb3.mono hbb.size)⟩
  · have hge : (n : Int) ≤ root := by have := HO.out; omega
    go_wp2
    go_loopw [9] (fun i wr => ∃ k : Nat, k ≤ n ∧ i = .int .i64 k ∧ Below w2.heap.size w2 wr) (fun i _ => n - (intOf i).toNat)
    case atStart => exact ⟨0, by omega, rfl, Below.refl _ _⟩
    case round =>
      obtain ⟨k, hk, rfl, hb3⟩ := hrel
      by_cases hlt : k < n
      · have hpx := reads_zero (j := k) HP.out hb3 (Nat.le_refl _) (by omega)
        rw [outL_lt hl hlt] at hpx
        obtain ⟨g, off, rfl, hcx⟩ := reads_at (j := k) HRc.out hb3 (Nat.le_refl _) hlt
        generalize zs.getD k 0 = c at hpx hcx
        go_wp2_with fail
        go_quiet ((go_at_call 21; exact Calls.quiet_of_same (tab_any _ _)))
        go_wp2
        go_roundw
        case rel => exact ⟨k + 1, by omega, by go_num, below_drewN hb3 _⟩
        case measure => simp [intOf]; omega
      · have hcl : wr.cell? ⟨w1.heap.size, n, none⟩ = some (.int .u8 9) := (hb3.cell (by exact World.block_lt_of_cell? w2 _ HL.out)).trans HL.out
        go_wp2
        go_ret
        exact ⟨rfl, hbb.trans (hb3.mono hbb.size)⟩

set_option maxHeartbeats 400000 in
theorem layout_in (ao : Option Addr) (n cap r : Nat) (zs : List Int) (w : World) (hn : n ≤ 1048576) (hl : n ≤ zs.length) (hr : Reads w ao n zs) (hin : r < n) :
    Calls Try.prog 8 #[.slice ao n cap, .int .i64 r] w fun e w' => e = .returned (.bool true) ∧ Below w.heap.size w w' := by
  go_enter Try.func8, Try.ntmps8
  go_wp2_with (go_at_call 19; refine (zz19_yes _ _ _ _ _ hn).mono ?_; rintro e w' ⟨rfl, rfl⟩)
  refine (clone_nn ao n cap zs _ hn hl hr).mono ?_
  rintro e w1 ⟨ao1, c1, rfl, hc1, hc2, _, hr1, hb1⟩
  clear hr
  obtain ⟨g, off, rfl, _, _⟩ := hr1 (by omega)
  have HC := hid' (zzProbe_in g off n c1 r zs w1 hr1 hl hn hc1 hin)
  go_wp2_with fail
  refine HC.out.mono ?_
  rintro e w2 ⟨rfl, hrp, hb2⟩
  clear HC
  have hrc := hr1.later hb2
  clear hr1
  have HP := hid' hrp
  have HRc := hid' hrc
  have HG : Hid (w1.heap.size < w2.heap.size) := by
    obtain ⟨g', off', e, hg', _⟩ := hrp (by omega)
    cases e
    exact hg'
  have hbb : Below w'.heap.size w' w2 := hb1.trans (hb2.mono hb1.size)
  clear hrp hrc
  go_wp2
  go_loopw [7] (fun i wr => ∃ k : Nat, k ≤ r ∧ i = .int .i64 k ∧ Below w2.heap.size w2 wr) (fun i _ => r - (intOf i).toNat)
  case atStart => exact ⟨0, by omega, rfl, Below.refl _ _⟩
  case round =>
    obtain ⟨k, hk, rfl, hb3⟩ := hrel
    by_cases hlt : k < r
    · have hpx := reads_zero (j := k) HP.out hb3 (Nat.le_refl _) (by omega)
      rw [inL_lt hl hin hlt] at hpx
      obtain ⟨g', off', e', hcx⟩ := reads_at (j := k) HRc.out hb3 (Nat.le_refl _) (by omega)
      cases e'
      generalize zs.getD k 0 = c at hpx hcx
      go_wp2_with fail
      go_quiet ((go_at_call 21; exact Calls.quiet_of_same (tab_any _ _)))
      go_wp2
      go_roundw
      case rel => exact ⟨k + 1, by omega, by go_num, below_drewN hb3 _⟩
      case measure => simp [intOf]; omega
    · have hmid := inL_mid hl hin
      have c0 := reads_zero (j := r) HP.out hb3 (Nat.le_refl _) (by omega)
      have c1' := reads_zero (j := r + 1) HP.out hb3 (Nat.le_refl _) (by omega)
      have c2' := reads_zero (j := r + 2) HP.out hb3 (Nat.le_refl _) (by omega)
      have c3' := reads_zero (j := r + 3) HP.out hb3 (Nat.le_refl _) (by omega)
      rw [hmid.1] at c0
      rw [hmid.2.1] at c1'
      rw [hmid.2.2.1] at c2'
      rw [hmid.2.2.2] at c3'
      clear hmid
      obtain ⟨wo, rfl⟩ : ∃ wo : World, wo = wr := ⟨_, rfl⟩
      go_wp2
      go_loopw [8] (fun i wr => ∃ k : Nat, r ≤ k ∧ k ≤ n ∧ i = .int .i64 k ∧ Below w2.heap.size w2 wr) (fun i _ => n - (intOf i).toNat)
      case atStart => exact ⟨r, by omega, by omega, rfl, hb3⟩
      case round =>
        clear c0 c1' c2' c3'
        obtain ⟨j, hj0, hj, rfl, hb4⟩ := hrel
        by_cases hlt2 : j < n
        · have hpx := reads_zero (j := j + 4) HP.out hb4 (Nat.le_refl _) (by omega)
          rw [inL_ge hl hin hj0 hlt2] at hpx
          obtain ⟨g', off', e', hcx⟩ := reads_at (j := j) HRc.out hb4 (Nat.le_refl _) hlt2
          cases e'
          generalize zs.getD j 0 = c at hpx hcx
          go_wp2_with fail
          go_quiet ((go_at_call 21; exact Calls.quiet_of_same (tab_any _ _)))
          go_wp2
          go_roundw
          case rel => exact ⟨j + 1, by omega, by omega, by go_num, below_drewN hb4 _⟩
          case measure => simp [intOf]; omega
        · have hcl := reads_zero (j := n + 4) HP.out hb4 (Nat.le_refl _) (by omega)
          rw [inL_last hl hin] at hcl
          go_wp2
          go_ret
          exact ⟨rfl, hbb.trans (hb4.mono hbb.size)⟩

end Go.Proofs.Qxb6603405a
