/-
  measure: the walk.
-/
import Derived.Test.Qxb6604394aPlain
import Derived.Test.Qxb6604394aBase
import Derived.RegionTactic
import Derived.Deep.QuietTactic
import Derived.BigQuiet
namespace Go.Proofs.Qxb6604394a
open Go.RowKit

/-- What measure leaves. -/
def MPost (a : Rd) (cap : Nat) (w : World) (e : Ending) (w' : World) : Prop :=
  ∃ (v : Int) (ao : Option Addr) (c : Nat), e = .returned (.tuple #[.int .i64 v, .slice ao a.rest.length c]) ∧ Reads w' ao a.rest.length a.rest ∧ a.rest.length ≤ c ∧ c ≤ cap ∧ (ao = none → a.rest.length = 0 ∧ c = 0) ∧ Fit a.rest ∧ (a.nn = true → v = sat (a.w : Int)) ∧ Below w.heap.size w w'
/-- What it leaves at a leaf. -/
def LPost (g off n cap : Nat) (v : Int) (w : World) (e : Ending) (w' : World) : Prop :=
  ∃ (ao : Option Addr) (c : Nat), e = .returned (.tuple #[.int .i64 v, .slice ao (n - 1) c]) ∧ n - 1 ≤ c ∧ c ≤ cap ∧ ao ≠ none ∧ (1 < n → ao = some ⟨g, off + 1, none⟩) ∧ Below w.heap.size w w'

theorem fit_tail {x : Int} {r : List Int} (h : Fit (x :: r)) : Fit r := fun j => by simpa [List.getD] using h (j + 1)
theorem fit_nil : Fit [] := fun j => by simp
theorem reads_tail {w : World} {g off n : Nat} {x : Int} {r : List Int} (h : Reads w (some ⟨g, off, none⟩) (n + 1) (x :: r)) {ao : Option Addr} (hao : 0 < n → ao = some ⟨g, off + 1, none⟩) : Reads w ao n r := by
  intro hn
  obtain ⟨g', off', e, hg, hc⟩ := h (by omega)
  cases e
  refine ⟨g, off + 1, hao hn, hg, fun j hj => ?_⟩
  have := hc (j + 1) (by omega)
  rw [Nat.add_assoc, Nat.add_comm 1 j, this]
  simp [List.getD]

theorem leaf_post {g off n cap W : Nat} {x v : Int} {r : List Int} {w w' : World} {e : Ending} {p : Bool} (hn : n = r.length + 1) (hr : Reads w (some ⟨g, off, none⟩) n (x :: r)) (hf : Fit (x :: r)) (hv : v = sat (W : Int)) (h : LPost g off n cap v w e w') : MPost ⟨W, true, true, p, r⟩ cap w e w' := by
  obtain ⟨ao, c, rfl, h1, h2, h3, h4, hb⟩ := h
  subst hn
  exact ⟨v, ao, c, rfl, (reads_tail hr (fun h => h4 (by omega))).later hb (Nat.le_refl _), h1, h2, fun h => absurd h h3, fit_tail hf, fun _ => hv, hb⟩

set_option maxHeartbeats 400000 in
theorem meas_nil (ao : Option Addr) (cap : Nat) (w : World) (hnil : ao = none → cap = 0) :
    Calls Try.prog 24 #[.slice ao 0 cap] w fun e w' => MPost ⟨1, true, true, true, []⟩ cap w e w' := by
  cases ao with
  | none =>
    have h0 := hnil rfl
    subst h0
    clear hnil
    go_enter Try.func24, Try.ntmps24
    go_wp2
    go_quiet (fail)
    go_wp2
    go_ret2
    exact ⟨1, none, 0, rfl, fun h => absurd h (by simp), by simp, by simp, fun _ => ⟨rfl, rfl⟩, fit_nil, fun _ => rfl, below_drewN (Below.refl _ _) _⟩
  | some x =>
    clear hnil
    go_enter Try.func24, Try.ntmps24
    go_wp2
    go_quiet (fail)
    go_wp2
    go_ret2
    exact ⟨1, some x, cap, rfl, fun h => absurd h (by simp), by simp, by simp, (fun h => by cases h), fit_nil, fun _ => rfl, below_drewN (Below.refl _ _) _⟩

set_option maxHeartbeats 400000 in
theorem meas_0 (g off n cap : Nat) (w : World) (hn : 1 ≤ n) (hcap : n ≤ cap) (hm : cap ≤ 1048576) (hc : w.cell? ⟨g, off, none⟩ = some (.int .i32 0)) :
    Calls Try.prog 24 #[.slice (some ⟨g, off, none⟩) n cap] w fun e w' => LPost g off n cap 1 w e w' := by
  have hn0 : ((n : Int) == 0) = false := beq_eq_false_iff_ne.2 (by omega)
  go_enter Try.func24, Try.ntmps24
  go_wp2
  go_quiet (fail)
  go_wp2
  · go_ret2
    exact ⟨_, _, rfl, by omega, by omega, by simp, fun h => absurd h (by omega), below_drewN (Below.refl _ _) _⟩
  · go_ret2
    exact ⟨_, _, rfl, by omega, by omega, by simp, fun _ => rfl, below_drewN (Below.refl _ _) _⟩
set_option maxHeartbeats 400000 in
theorem meas_12 (g off n cap : Nat) (x : Int) (w : World) (hn : 1 ≤ n) (hcap : n ≤ cap) (hm : cap ≤ 1048576) (hc : w.cell? ⟨g, off, none⟩ = some (.int .i32 x)) (hx : x = -1 ∨ x = -2) :
    Calls Try.prog 24 #[.slice (some ⟨g, off, none⟩) n cap] w fun e w' => LPost g off n cap 1 w e w' := by
  have hn0 : ((n : Int) == 0) = false := beq_eq_false_iff_ne.2 (by omega)
  rcases hx with rfl | rfl
  all_goals
    go_enter Try.func24, Try.ntmps24
    go_wp2
    go_quiet (fail)
    go_wp2
    · go_ret2
      exact ⟨_, _, rfl, by omega, by omega, by simp, fun h => absurd h (by omega), below_drewN (Below.refl _ _) _⟩
    · go_ret2
      exact ⟨_, _, rfl, by omega, by omega, by simp, fun _ => rfl, below_drewN (Below.refl _ _) _⟩
set_option maxHeartbeats 400000 in
theorem meas_3 (g off n cap : Nat) (w : World) (hn : 1 ≤ n) (hcap : n ≤ cap) (hm : cap ≤ 1048576) (hc : w.cell? ⟨g, off, none⟩ = some (.int .i32 (-3))) :
    Calls Try.prog 24 #[.slice (some ⟨g, off, none⟩) n cap] w fun e w' => LPost g off n cap 2 w e w' := by
  have hn0 : ((n : Int) == 0) = false := beq_eq_false_iff_ne.2 (by omega)
  go_enter Try.func24, Try.ntmps24
  go_wp2
  go_quiet (fail)
  go_wp2
  · go_ret2
    exact ⟨_, _, rfl, by omega, by omega, by simp, fun h => absurd h (by omega), below_drewN (Below.refl _ _) _⟩
  · go_ret2
    exact ⟨_, _, rfl, by omega, by omega, by simp, fun _ => rfl, below_drewN (Below.refl _ _) _⟩
set_option maxHeartbeats 400000 in
theorem meas_low (g off n cap : Nat) (x : Int) (w : World) (hn : 1 ≤ n) (hcap : n ≤ cap) (hm : cap ≤ 1048576) (hc : w.cell? ⟨g, off, none⟩ = some (.int .i32 x)) (hx : x < -4) :
    Calls Try.prog 24 #[.slice (some ⟨g, off, none⟩) n cap] w fun e w' => LPost g off n cap 1 w e w' := by
  have hn0 : ((n : Int) == 0) = false := beq_eq_false_iff_ne.2 (by omega)
  have e0 : (x == 0) = false := beq_eq_false_iff_ne.2 (by omega)
  have e1 : (x == -1) = false := beq_eq_false_iff_ne.2 (by omega)
  have e2 : (x == -2) = false := beq_eq_false_iff_ne.2 (by omega)
  have e3 : (x == -3) = false := beq_eq_false_iff_ne.2 (by omega)
  have e4 : (x == -4) = false := beq_eq_false_iff_ne.2 (by omega)
  go_enter Try.func24, Try.ntmps24
  go_wp2
  go_quiet (fail)
  go_wp2
  all_goals
    refine wp_loop_rounds 1 ?_
    rw [rounds_succ]
    go_wp2
    go_ret2
    exact ⟨_, _, rfl, by omega, by omega, by simp, (fun h => by first | rfl | omega), below_drewN (Below.refl _ _) _⟩

theorem arr_val {c v : Int} {W : Nat} (hc0 : 0 ≤ c) (hc1 : c ≤ 2147483647) (hv : v = sat (W : Int)) :
    (if wrap64 (1 + wrap64 (c * v)) ≤ 2147483648 then wrap64 (1 + wrap64 (c * v)) else 2147483648) = sat ((1 + c.toNat * W : Nat) : Int) := by
  obtain ⟨n, rfl⟩ := Int.eq_ofNat_of_zero_le hc0
  rw [Int.toNat_natCast]
  unfold sat at hv
  split at hv
  · rename_i hW
    subst hv
    have e1 : wrap64 ((n : Int) * 2147483648) = (n : Int) * 2147483648 := IntWalk.wrap64_in _ ⟨by omega, by omega⟩
    have e2 : wrap64 (1 + (n : Int) * 2147483648) = 1 + (n : Int) * 2147483648 := IntWalk.wrap64_in _ ⟨by omega, by omega⟩
    rw [e1, e2]
    have hD : (n = 0 → n * W = 0) ∧ (1 ≤ n → W ≤ n * W) := ⟨fun h => by rw [h, Nat.zero_mul], fun h => Nat.le_mul_of_pos_left W h⟩
    generalize n * W = D at hD ⊢
    unfold sat
    by_cases h0 : n = 0
    · subst h0
      have := hD.1 rfl
      subst this
      rfl
    · have := hD.2 (by omega)
      rw [if_neg (by omega), if_pos (by omega)]
  · rename_i hW
    subst hv
    have hle : n * W ≤ 2147483647 * 2147483648 := Nat.mul_le_mul (by omega) (by omega)
    have e0 : (n : Int) * (W : Int) = ((n * W : Nat) : Int) := (Int.natCast_mul n W).symm
    rw [e0]
    generalize n * W = D at hle ⊢
    have e1 : wrap64 (D : Int) = (D : Int) := IntWalk.wrap64_in _ ⟨by omega, by omega⟩
    have e2 : wrap64 (1 + (D : Int)) = 1 + (D : Int) := IntWalk.wrap64_in _ ⟨by omega, by omega⟩
    rw [e1, e2]
    unfold sat
    by_cases h : 1 + (D : Int) ≤ 2147483648
    · rw [if_pos h, if_neg (by omega)]; omega
    · rw [if_neg h, if_pos (by omega)]
theorem add_val {N v : Int} {A B : Nat} (hN : N = sat (A : Int)) (hv : v = sat (B : Int)) :
    (if 2147483648 < wrap64 (N + v) then 2147483648 else wrap64 (N + v)) = sat ((A + B : Nat) : Int) := by
  have hNb : 0 ≤ N ∧ N ≤ 2147483648 := by rw [hN]; unfold sat; split <;> omega
  have hvb : 0 ≤ v ∧ v ≤ 2147483648 := by rw [hv]; unfold sat; split <;> omega
  rw [IntWalk.wrap64_in (N + v) ⟨by omega, by omega⟩]
  unfold sat at hN hv ⊢
  split at hN <;> split at hv <;> split <;> split <;> omega

theorem reads_two {w : World} {g off m : Nat} {x c : Int} {r : List Int} (h : Reads w (some ⟨g, off, none⟩) (m + 2) (x :: c :: r)) : Reads w (some ⟨g, off + 2, none⟩) m r :=
  reads_tail (n := m) (reads_tail (n := m + 1) h (fun _ => rfl)) (fun _ => rfl)

/-- From an array's element to the array. -/
theorem arr_post {c v : Int} {a : Rd} {ao : Option Addr} {d cap cap' : Nat} {w w1 : World} {e : Ending} (hcf : -2147483648 ≤ c ∧ c ≤ 2147483647) (hle : cap' ≤ cap)
    (hrd : Reads w1 ao a.rest.length a.rest) (h1 : a.rest.length ≤ d) (h2 : d ≤ cap') (h3 : ao = none → a.rest.length = 0 ∧ d = 0) (h4 : Fit a.rest) (h5 : a.nn = true → v = sat (a.w : Int)) (hb : Below w.heap.size w w1)
    {V : Int} (hV : V = if wrap64 (1 + wrap64 (c * v)) ≤ 2147483648 then wrap64 (1 + wrap64 (c * v)) else 2147483648) (he : e = .returned (.tuple #[.int .i64 V, .slice ao a.rest.length d])) :
    MPost ⟨1 + c.toNat * a.w, decide (0 ≤ c) && a.nn, decide (1 ≤ c) && a.pos, a.sh, a.rest⟩ cap w e w1 := by
  refine ⟨V, ao, d, he, hrd, h1, Nat.le_trans h2 hle, h3, h4, fun hn => ?_, hb⟩
  simp only [Bool.and_eq_true, decide_eq_true_eq] at hn
  rw [hV]
  exact arr_val hn.1 hcf.2 (h5 hn.2)

set_option maxHeartbeats 400000 in
theorem meas_array (g off m cap : Nat) (c : Int) (r : List Int) (a : Rd) (w : World) (hrm : r.length = m) (hcap : m + 2 ≤ cap) (hm : cap ≤ 1048576) (hr : Reads w (some ⟨g, off, none⟩) (m + 2) (-4 :: c :: r)) (hf : Fit (-4 :: c :: r))
    (ih : ∀ (ao : Option Addr) (c' : Nat), Reads w ao m r → m ≤ c' → c' ≤ 1048576 → (ao = none → m = 0 ∧ c' = 0) → Calls Try.prog 24 #[.slice ao m c'] w fun e w' => MPost a c' w e w') :
    Calls Try.prog 24 #[.slice (some ⟨g, off, none⟩) (m + 2) cap] w fun e w' => MPost ⟨1 + c.toNat * a.w, decide (0 ≤ c) && a.nn, decide (1 ≤ c) && a.pos, a.sh, a.rest⟩ cap w e w' := by
  have hn0 : ((m : Int) + 2 == 0) = false := beq_eq_false_iff_ne.2 (by omega)
  have IH := hid ih
  have HR := hid hr
  obtain ⟨g', off', e', hg, hcc⟩ := hr (by omega)
  cases e'
  have hc0 : w.cell? ⟨g, off, none⟩ = some (.int .i32 (-4)) := hcc 0 (by omega)
  have hc1 : w.cell? ⟨g, off + 1, none⟩ = some (.int .i32 c) := hcc 1 (by omega)
  have hcf : -2147483648 ≤ c ∧ c ≤ 2147483647 := hf 1
  clear ih hr hcc hrm
  have hfin : ∀ cap', cap' ≤ cap → ∀ (v : Int) (ao : Option Addr) (d : Nat) (w1 : World), Reads w1 ao a.rest.length a.rest → a.rest.length ≤ d → d ≤ cap' → (ao = none → a.rest.length = 0 ∧ d = 0) → Fit a.rest → (a.nn = true → v = sat (a.w : Int)) → Below w.heap.size w w1 →
      ∀ V, (V = if wrap64 (1 + wrap64 (c * v)) ≤ 2147483648 then wrap64 (1 + wrap64 (c * v)) else 2147483648) → MPost ⟨1 + c.toNat * a.w, decide (0 ≤ c) && a.nn, decide (1 ≤ c) && a.pos, a.sh, a.rest⟩ cap w (.returned (.tuple #[.int .i64 V, .slice ao a.rest.length d])) w1 :=
    fun cap' hle v ao d w1 q1 q2 q3 q4 q5 q6 q7 V hV => arr_post hcf hle q1 q2 q3 q4 q5 q6 q7 hV rfl
  have HF := hid hfin
  clear hfin hf
  by_cases hc2 : cap = 2
  · have hm0 : m = 0 := by omega
    subst hm0
    subst hc2
    have HC := hid (IH.out (some ⟨g, off, none⟩) 0 (fun h => absurd h (by omega)) (by omega) (by omega) (fun h => by cases h))
    go_enter Try.func24, Try.ntmps24
    go_wp2_with fail
    refine HC.out.mono ?_
    rintro e w1 ⟨v, ao, d, rfl, hrd, h1, h2, h3, h4, h5, hb⟩
    have hc1' : w1.cell? ⟨g, off + 1, none⟩ = some (.int .i32 c) := (hb.cell (by exact hg)).trans hc1
    have HF' := hid (HF.out 0 (by omega) v ao d w1 hrd h1 h2 h3 h4 h5 hb)
    clear hc1 hc0 HC HF h3 h4 h5 hrd
    go_wp2
    · go_ret2
      exact HF'.out _ (by rw [if_neg (by omega)])
    · go_ret2
      exact HF'.out _ (by rw [if_pos (by omega)])
  · have HC := hid (IH.out (some ⟨g, off + 2, none⟩) (cap - 2) (reads_two HR.out) (by omega) (by omega) (fun h => by cases h))
    go_enter Try.func24, Try.ntmps24
    go_wp2_with fail
    refine HC.out.mono ?_
    rintro e w1 ⟨v, ao, d, rfl, hrd, h1, h2, h3, h4, h5, hb⟩
    have hc1' : w1.cell? ⟨g, off + 1, none⟩ = some (.int .i32 c) := (hb.cell (by exact hg)).trans hc1
    have HF' := hid (HF.out (cap - 2) (by omega) v ao d w1 hrd h1 h2 h3 h4 h5 hb)
    clear hc1 hc0 HC HF h3 h4 h5 hrd
    go_wp2
    · go_ret2
      exact HF'.out _ (by rw [if_neg (by omega)])
    · go_ret2
      exact HF'.out _ (by rw [if_pos (by omega)])


end Go.Proofs.Qxb6604394a
