/-
  measure: the walk at a struct, and the whole.
-/
import Derived.Test.Qxb6604394aMeasure
namespace Go.Proofs.Qxb6604394a
open Go.RowKit

set_option maxHeartbeats 800000 in
theorem meas_struct (F g off m cap X : Nat) (r : List Int) (a : Rd) (w : World) (hrm : r.length = m) (hcap : m + 1 ≤ cap) (hm : cap ≤ 1048576) (hX : 1 ≤ X) (hX2 : X ≤ 2147483647) (hr : Reads w (some ⟨g, off, none⟩) (m + 1) ((X : Int) :: r)) (hf : Fit ((X : Int) :: r)) (ha : items F X r = some a)
    (ih : ∀ (l : List Int) (b : Rd) (ao : Option Addr) (n c' : Nat) (w' : World), items F 1 l = some b → l.length = n → Reads w' ao n l → n ≤ c' → c' ≤ 1048576 → (ao = none → n = 0 ∧ c' = 0) → Fit l → Calls Try.prog 24 #[.slice ao n c'] w' fun e w'' => MPost b c' w' e w'') :
    Calls Try.prog 24 #[.slice (some ⟨g, off, none⟩) (m + 1) cap] w fun e w' => MPost ⟨1 + a.w, a.nn, a.pos, a.sh, a.rest⟩ cap w e w' := by
  have hn0 : ((m : Int) + 1 == 0) = false := beq_eq_false_iff_ne.2 (by omega)
  have IH := hid ih
  have HA := hid ha
  have HR := hid hr
  have HF := hid hf
  have HRM := hid hrm
  obtain ⟨g', off', e', hg, hcc⟩ := hr (by omega)
  cases e'
  have hc0 : w.cell? ⟨g, off, none⟩ = some (.int .i32 X) := hcc 0 (by omega)
  clear ih hr hcc hrm hf ha
  have e0 : ((X : Int) == 0) = false := beq_eq_false_iff_ne.2 (by omega)
  have e1 : ((X : Int) == -1) = false := beq_eq_false_iff_ne.2 (by omega)
  have e2 : ((X : Int) == -2) = false := beq_eq_false_iff_ne.2 (by omega)
  have e3 : ((X : Int) == -3) = false := beq_eq_false_iff_ne.2 (by omega)
  have e4 : ((X : Int) == -4) = false := beq_eq_false_iff_ne.2 (by omega)
  by_cases hc1 : cap = 1
  · have hm0 : m = 0 := by omega
    subst hm0
    subst hc1
    go_enter Try.func24, Try.ntmps24
    go_wp2
    go_quiet (fail)
    go_wp2
    go_loopw [6, 7, 69] (fun p q i wr => ∃ (k : Nat) (l : List Int) (b : Rd) (N : Int) (ao : Option Addr) (n c W0 : Nat), k ≤ X ∧ i = .int .i32 ((X : Int) - k) ∧ p = .int .i64 N ∧ q = .slice ao n c ∧ l.length = n ∧ items F k l = some b ∧ Reads wr ao n l ∧ n ≤ c ∧ c ≤ 1 ∧ (ao = none → n = 0 ∧ c = 0) ∧ Fit l ∧ a.rest = b.rest ∧ (a.nn = true → b.nn = true ∧ N = sat ((1 + W0 : Nat) : Int) ∧ W0 + b.w = a.w) ∧ Below w.heap.size w wr)
      (fun _ _ i _ => ((X : Int) - intOf i).toNat)
    case atStart => exact ⟨X, r, a, 1, _, 0, 0, 0, Nat.le_refl _, by go_num, rfl, rfl, HRM.out, HA.out, (fun h => absurd h (by omega)), by omega, by omega, (fun h => by cases h), fit_tail HF.out, rfl, fun h => ⟨h, rfl, by omega⟩, below_drewN (Below.refl _ _) _⟩
    case round =>
      clear hc0
      obtain ⟨k, l, b, N, ao, n, c, W0, hk, rfl, rfl, rfl, hln, hit, hrd, h1, h2, h3, h4, h5, h6, hb⟩ := hrel
      by_cases hk0 : k = 0
      · subst hk0
        have hfin : MPost ⟨1 + a.w, a.nn, a.pos, a.sh, a.rest⟩ 1 w (.returned (.tuple #[.int .i64 N, .slice ao n c])) wr := by
          rw [items_zero] at hit
          cases hit
          have hrest : a.rest = l := h5
          have hl2 : a.rest.length = n := by rw [hrest]; exact hln
          refine ⟨N, ao, c, by rw [hl2], ?_, by rw [hl2]; exact h1, h2, ?_, ?_, fun hnn => ?_, hb⟩
          · show Reads wr ao a.rest.length a.rest
            rw [hl2, hrest]
            exact hrd
          · show ao = none → a.rest.length = 0 ∧ c = 0
            rw [hl2]
            exact h3
          · show Fit a.rest
            rw [hrest]
            exact h4
          · have h := h6 hnn
            have hw : W0 + 0 = a.w := h.2.2
            rw [h.2.1]
            show sat ((1 + W0 : Nat) : Int) = sat ((1 + a.w : Nat) : Int)
            rw [← hw, Nat.add_zero]
        have HFin := hid hfin
        clear hfin hit hrd h3 h4 h5 h6 hln
        go_wp2
        go_ret2
        exact HFin.out
      · obtain ⟨k, rfl⟩ : ∃ k', k = k' + 1 := ⟨k - 1, by omega⟩
        obtain ⟨cc, b', hcc, hbb, hadd⟩ := items_split hit
        have HC := hid (IH.out l cc ao n c wr hcc hln hrd h1 (by omega) h3 h4)
        have HN : Hid (a.rest = b'.rest ∧ ∀ v, (cc.nn = true → v = sat (cc.w : Int)) → a.nn = true → b'.nn = true ∧ (if 2147483648 < wrap64 (N + v) then 2147483648 else wrap64 (N + v)) = sat ((1 + (W0 + cc.w) : Nat) : Int) ∧ (W0 + cc.w) + b'.w = a.w) := by
          subst hadd
          refine ⟨h5, fun v hv hnn => ?_⟩
          have h := h6 hnn
          have hn2 : cc.nn = true ∧ b'.nn = true := by
            have := h.1
            simpa [Rd.add] using this
          refine ⟨hn2.2, ?_, ?_⟩
          · rw [add_val h.2.1 (hv hn2.1), Nat.add_assoc]
          · have : W0 + (cc.w + b'.w) = a.w := h.2.2
            omega
        have HB := hid hbb
        have hkX : (k : Int) + 1 ≤ X := by omega
        clear hit hrd h3 h4 h5 h6 hln hcc hbb hadd
        go_wp2_with fail
        refine HC.out.mono ?_
        rintro e w1 ⟨v, ao', c', rfl, q1, q2, q3, q4, q5, q6, q7⟩
        clear HC
        have HP := hid (HN.out.2 v q6)
        have HQ1 := hid q1
        have hb1 : Below w.heap.size w w1 := hb.trans (q7.mono hb.size)
        have HQ4 := hid q4
        have HQ5 := hid q5
        clear q1 q4 q5 q6
        go_wp2
        go_roundw
        case rel => exact ⟨k, cc.rest, b', _, ao', cc.rest.length, c', W0 + cc.w, by omega, by go_num, rfl, rfl, rfl, HB.out, HQ1.out, q2, by omega, HQ4.out, HQ5.out, HN.out.1, fun h => HP.out h, hb1⟩
        case measure => simp [intOf]; omega

  · go_enter Try.func24, Try.ntmps24
    go_wp2
    go_quiet (fail)
    go_wp2
    go_loopw [6, 7, 69] (fun p q i wr => ∃ (k : Nat) (l : List Int) (b : Rd) (N : Int) (ao : Option Addr) (n c W0 : Nat), k ≤ X ∧ i = .int .i32 ((X : Int) - k) ∧ p = .int .i64 N ∧ q = .slice ao n c ∧ l.length = n ∧ items F k l = some b ∧ Reads wr ao n l ∧ n ≤ c ∧ c ≤ cap ∧ (ao = none → n = 0 ∧ c = 0) ∧ Fit l ∧ a.rest = b.rest ∧ (a.nn = true → b.nn = true ∧ N = sat ((1 + W0 : Nat) : Int) ∧ W0 + b.w = a.w) ∧ Below w.heap.size w wr)
      (fun _ _ i _ => ((X : Int) - intOf i).toNat)
    case atStart => exact ⟨X, r, a, 1, _, m, cap - 1, 0, Nat.le_refl _, by go_num, rfl, rfl, HRM.out, HA.out, (reads_tail HR.out (fun _ => rfl)).later (below_drewN (Below.refl w.heap.size w) _) (Nat.le_refl _), by omega, by omega, (fun h => by cases h), fit_tail HF.out, rfl, fun h => ⟨h, rfl, by omega⟩, below_drewN (Below.refl _ _) _⟩
    case round =>
      clear hc0
      obtain ⟨k, l, b, N, ao, n, c, W0, hk, rfl, rfl, rfl, hln, hit, hrd, h1, h2, h3, h4, h5, h6, hb⟩ := hrel
      by_cases hk0 : k = 0
      · subst hk0
        have hfin : MPost ⟨1 + a.w, a.nn, a.pos, a.sh, a.rest⟩ cap w (.returned (.tuple #[.int .i64 N, .slice ao n c])) wr := by
          rw [items_zero] at hit
          cases hit
          have hrest : a.rest = l := h5
          have hl2 : a.rest.length = n := by rw [hrest]; exact hln
          refine ⟨N, ao, c, by rw [hl2], ?_, by rw [hl2]; exact h1, h2, ?_, ?_, fun hnn => ?_, hb⟩
          · show Reads wr ao a.rest.length a.rest
            rw [hl2, hrest]
            exact hrd
          · show ao = none → a.rest.length = 0 ∧ c = 0
            rw [hl2]
            exact h3
          · show Fit a.rest
            rw [hrest]
            exact h4
          · have h := h6 hnn
            have hw : W0 + 0 = a.w := h.2.2
            rw [h.2.1]
            show sat ((1 + W0 : Nat) : Int) = sat ((1 + a.w : Nat) : Int)
            rw [← hw, Nat.add_zero]
        have HFin := hid hfin
        clear hfin hit hrd h3 h4 h5 h6 hln
        go_wp2
        go_ret2
        exact HFin.out
      · obtain ⟨k, rfl⟩ : ∃ k', k = k' + 1 := ⟨k - 1, by omega⟩
        obtain ⟨cc, b', hcc, hbb, hadd⟩ := items_split hit
        have HC := hid (IH.out l cc ao n c wr hcc hln hrd h1 (by omega) h3 h4)
        have HN : Hid (a.rest = b'.rest ∧ ∀ v, (cc.nn = true → v = sat (cc.w : Int)) → a.nn = true → b'.nn = true ∧ (if 2147483648 < wrap64 (N + v) then 2147483648 else wrap64 (N + v)) = sat ((1 + (W0 + cc.w) : Nat) : Int) ∧ (W0 + cc.w) + b'.w = a.w) := by
          subst hadd
          refine ⟨h5, fun v hv hnn => ?_⟩
          have h := h6 hnn
          have hn2 : cc.nn = true ∧ b'.nn = true := by
            have := h.1
            simpa [Rd.add] using this
          refine ⟨hn2.2, ?_, ?_⟩
          · rw [add_val h.2.1 (hv hn2.1), Nat.add_assoc]
          · have : W0 + (cc.w + b'.w) = a.w := h.2.2
            omega
        have HB := hid hbb
        have hkX : (k : Int) + 1 ≤ X := by omega
        clear hit hrd h3 h4 h5 h6 hln hcc hbb hadd
        go_wp2_with fail
        refine HC.out.mono ?_
        rintro e w1 ⟨v, ao', c', rfl, q1, q2, q3, q4, q5, q6, q7⟩
        clear HC
        have HP := hid (HN.out.2 v q6)
        have HQ1 := hid q1
        have hb1 : Below w.heap.size w w1 := hb.trans (q7.mono hb.size)
        have HQ4 := hid q4
        have HQ5 := hid q5
        clear q1 q4 q5 q6
        go_wp2
        go_roundw
        case rel => exact ⟨k, cc.rest, b', _, ao', cc.rest.length, c', W0 + cc.w, by omega, by go_num, rfl, rfl, rfl, HB.out, HQ1.out, q2, by omega, HQ4.out, HQ5.out, HN.out.1, fun h => HP.out h, hb1⟩
        case measure => simp [intOf]; omega


theorem reads_head {w : World} {ao : Option Addr} {n : Nat} {x : Int} {r : List Int} (h : Reads w ao (n + 1) (x :: r)) : ∃ g off, ao = some ⟨g, off, none⟩ ∧ w.cell? ⟨g, off, none⟩ = some (.int .i32 x) := by
  obtain ⟨g, off, e, _, hc⟩ := h (by omega)
  exact ⟨g, off, e, hc 0 (by omega)⟩

/-- measure, whatever it reads without a panic. -/
theorem meas_all : ∀ (F : Nat) (l : List Int) (a : Rd) (ao : Option Addr) (n cap : Nat) (w : World), items F 1 l = some a → l.length = n → Reads w ao n l → n ≤ cap → cap ≤ 1048576 → (ao = none → n = 0 ∧ cap = 0) → Fit l →
    Calls Try.prog 24 #[.slice ao n cap] w fun e w' => MPost a cap w e w'
  | F, [], a, ao, n, cap, w, hi, hl, hr, hc, hm, hnil, hf => by
    rw [items_nil] at hi
    cases hi
    have hn : n = 0 := hl.symm
    subst hn
    exact meas_nil ao cap w (fun h => (hnil h).2)
  | 0, x :: r, a, ao, n, cap, w, hi, hl, hr, hc, hm, hnil, hf => by
    rw [items_out] at hi
    cases hi
  | F + 1, x :: r, a, ao, n, cap, w, hi, hl, hr, hc, hm, hnil, hf => by
    have ih := meas_all F
    rw [items_one] at hi
    have hn : n = r.length + 1 := hl.symm
    subst hn
    obtain ⟨g, off, rfl, hc0⟩ := reads_head hr
    unfold item at hi
    split at hi
    · rename_i h4
      subst h4
      cases r with
      | nil => cases hi
      | cons c r' =>
        simp only [Option.map_eq_some_iff] at hi
        obtain ⟨b, hb, rfl⟩ := hi
        exact meas_array g off r'.length cap c r' b w rfl hc hm hr hf (fun ao' c' q1 q2 q3 q4 => ih r' b ao' r'.length c' w hb rfl q1 q2 q3 q4 (fit_tail (fit_tail hf)))
    · rename_i h4
      split at hi
      · rename_i h0
        simp only [Option.map_eq_some_iff] at hi
        obtain ⟨b, hb, rfl⟩ := hi
        have hx := hf 0
        simp only [List.getD_cons_zero] at hx
        obtain ⟨X, rfl⟩ := Int.eq_ofNat_of_zero_le (show 0 ≤ x by omega)
        rw [Int.toNat_natCast] at hb
        exact meas_struct F g off r.length cap X r b w rfl hc hm (by omega) (by omega) hr hf hb (fun l b' ao' n' c' w' => ih l b' ao' n' c' w')
      · rename_i h0
        cases hi
        by_cases h3 : x = -3
        · subst h3
          exact (meas_3 g off _ cap w (by omega) hc hm hc0).mono fun e w' h => leaf_post rfl hr hf (by decide) h
        · rw [if_neg h3]
          by_cases hz : x = 0
          · subst hz
            exact (meas_0 g off _ cap w (by omega) hc hm hc0).mono fun e w' h => leaf_post rfl hr hf (by decide) h
          · by_cases h12 : x = -1 ∨ x = -2
            · exact (meas_12 g off _ cap x w (by omega) hc hm hc0 h12).mono fun e w' h => leaf_post rfl hr hf (by decide) h
            · exact (meas_low g off _ cap x w (by omega) hc hm hc0 (by omega)).mono fun e w' h => leaf_post rfl hr hf (by decide) h

/-- ZZmeasure. -/
theorem zzMeasure (F : Nat) (l : List Int) (a : Rd) (ao : Option Addr) (n cap : Nat) (w : World) (hi : items F 1 l = some a) (hl : l.length = n) (hr : Reads w ao n l) (hc : n ≤ cap) (hm : cap ≤ 1048576) (hnil : ao = none → n = 0 ∧ cap = 0) (hf : Fit l) :
    Calls Try.prog 10 #[.slice ao n cap] w fun e w' => MPost a cap w e w' := by
  have HC := hid (meas_all F l a ao n cap w hi hl hr hc hm hnil hf)
  clear hi hl hr hnil hf
  go_enter Try.func10, Try.ntmps10
  go_wp2_with fail
  refine HC.out.mono ?_
  rintro e w1 ⟨v, ao', c', rfl, q1, q2, q3, q4, q5, q6, q7⟩
  have HP : Hid (MPost a cap w (.returned (.tuple #[.int .i64 v, .slice ao' a.rest.length c'])) w1) := ⟨v, ao', c', rfl, q1, q2, q3, q4, q5, q6, q7⟩
  clear HC q1 q4 q5 q6
  go_wp2
  go_ret2
  exact HP.out

end Go.Proofs.Qxb6604394a
