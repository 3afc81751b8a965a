/-
  zzShapeModel's rounds with no walk in sight: what stays true, the saturated numbers, the cells of the stack.
-/
import Derived.Test.Qxb6604394aPlain
import Derived.Test.Qxb6604394aBase
namespace Go.Proofs.Qxb6604394a
open Go.RowKit

/-- What the rounds keep true: whatever reads from here on, the whole reads so. -/
def Keeps (S : List Int) (E : List (Nat × Nat)) (T : Nat) (nn pos : Bool) (i : Nat) : Prop :=
  ∀ r, Read E (S.drop i) r → Read [(1, 1)] S ⟨T + r.w, nn && r.nn, pos && r.pos, r.sh, r.rest⟩

theorem keeps_start (S : List Int) : Keeps S [(1, 1)] 0 true true 0 := by
  intro r hr
  cases r
  simpa using hr

theorem drop_cons {S : List Int} {j : Nat} (h : j < S.length) : S.drop j = S.getD j 0 :: S.drop (j + 1) := by
  rw [List.drop_eq_getElem_cons h]
  simp [List.getD, h]

theorem keeps_leaf {S : List Int} {E : List (Nat × Nat)} {T m k j : Nat} {nn pos : Bool} {x : Int} (hK : Keeps S ((m, k + 1) :: E) T nn pos j) (hj : j < S.length) (hx : x = S.getD j 0) (h4 : x ≠ -4) (h0 : ¬ 0 < x) :
    Keeps S (keep m k E) (T + if x = -3 then 2 * m else m) nn pos (j + 1) := by
  intro r hr
  have h := hK _ (by rw [drop_cons hj, ← hx]; exact read_leaf h4 h0 hr)
  simpa [Nat.add_assoc] using h
theorem keeps_struct {S : List Int} {E : List (Nat × Nat)} {T m k j X : Nat} {nn pos : Bool} (hK : Keeps S ((m, k + 1) :: E) T nn pos j) (hj : j < S.length) (hx : (X : Int) = S.getD j 0) (h0 : 1 ≤ X) :
    Keeps S ((m, X) :: keep m k E) (T + m) nn pos (j + 1) := by
  intro r hr
  have h := hK _ (by rw [drop_cons hj, ← hx]; exact read_struct (by omega) (by rw [Int.toNat_natCast]; exact hr))
  simpa [Nat.add_assoc] using h
theorem keeps_array {S : List Int} {E : List (Nat × Nat)} {T m k j : Nat} {nn pos : Bool} {c : Int} (hK : Keeps S ((m, k + 1) :: E) T nn pos j) (hj : j + 1 < S.length) (hx : (-4 : Int) = S.getD j 0) (hc : c = S.getD (j + 1) 0) :
    Keeps S ((m * c.toNat, 1) :: keep m k E) (T + m) (nn && decide (0 ≤ c)) (pos && decide (1 ≤ c)) (j + 2) := by
  intro r hr
  have h := hK _ (by rw [drop_cons (show j < S.length by omega), ← hx, drop_cons hj, ← hc]; exact read_array hr)
  simpa [Nat.add_assoc, Bool.and_assoc] using h

/-- Both ways out. -/
theorem keeps_done {S : List Int} {T j : Nat} {nn pos : Bool} (hK : Keeps S [] T nn pos j) : Read [(1, 1)] S ⟨T, nn, pos, false, S.drop j⟩ := by
  have h := hK (zeroRd (S.drop j)) ⟨0, rfl⟩
  simpa [zeroRd] using h
theorem keeps_short {S : List Int} {p : Nat × Nat} {E : List (Nat × Nat)} {T j : Nat} {nn pos : Bool} (hK : Keeps S (p :: E) T nn pos j) (hj : S.length ≤ j) (hE : ∀ q ∈ p :: E, 1 ≤ q.2) : Read [(1, 1)] S ⟨T + sumS (p :: E), nn, pos, true, S.drop j⟩ := by
  have hd : S.drop j = [] := List.drop_eq_nil_of_le hj
  have h := hK _ ⟨0, by rw [hd]; exact read_end hE⟩
  rw [hd]
  simpa using h
theorem read_items {S : List Int} {r : Rd} (h : Read [(1, 1)] S r) : ∃ f, items f 1 S = some r := by
  obtain ⟨f, a, b, ha, hb, e⟩ := read_cons.1 h
  refine ⟨f, ?_⟩
  have hb' : b = zeroRd a.rest := by
    have : some (zeroRd a.rest) = some b := hb
    cases this
    rfl
  subst hb'
  rw [ha, e]
  cases a
  simp [zeroRd]

/-! ### Saturated numbers -/
theorem sat_range (x : Nat) : 0 ≤ sat (x : Int) ∧ sat (x : Int) ≤ 2147483648 := by unfold sat; split <;> omega
theorem sat_add (T m : Nat) : sat (sat (T : Int) + sat (m : Int)) = sat ((T + m : Nat) : Int) := by
  unfold sat
  repeat' split
  all_goals omega
theorem sat_add2 (T m : Nat) : sat (sat (T : Int) + 2 * sat (m : Int)) = sat ((T + 2 * m : Nat) : Int) := by
  unfold sat
  repeat' split
  all_goals omega
theorem prod_small {s k : Int} (h0 : 0 ≤ s) (h1 : s ≤ 2147483648) (k0 : 0 ≤ k) (k1 : k ≤ 2147483648) : 0 ≤ k * s ∧ k * s ≤ 4611686018427387904 := by
  obtain ⟨a, rfl⟩ := Int.eq_ofNat_of_zero_le h0
  obtain ⟨b, rfl⟩ := Int.eq_ofNat_of_zero_le k0
  have : b * a ≤ 2147483648 * 2147483648 := Nat.mul_le_mul (by omega) (by omega)
  rw [← Int.natCast_mul]
  omega
theorem prod_small' {s k : Int} (h0 : 0 ≤ s) (h1 : s ≤ 2147483648) (k0 : 0 ≤ k) (k1 : k ≤ 65536) : 0 ≤ k * s ∧ k * s ≤ 140737488355328 := by
  obtain ⟨a, rfl⟩ := Int.eq_ofNat_of_zero_le h0
  obtain ⟨b, rfl⟩ := Int.eq_ofNat_of_zero_le k0
  have : b * a ≤ 65536 * 2147483648 := Nat.mul_le_mul (by omega) (by omega)
  rw [← Int.natCast_mul]
  omega
theorem sat_mul (m n : Nat) : sat (sat (m : Int) * (n : Int)) = sat ((m * n : Nat) : Int) := by
  have hD : (n = 0 → m * n = 0) ∧ (1 ≤ n → m ≤ m * n) := ⟨fun h => by rw [h, Nat.mul_zero], fun h => Nat.le_mul_of_pos_right m h⟩
  have hE : ((m * n : Nat) : Int) = (m : Int) * (n : Int) := Int.natCast_mul m n
  by_cases h : 2147483648 < (m : Int)
  · have e : sat (m : Int) = 2147483648 := by unfold sat; rw [if_pos h]
    rw [e]
    generalize m * n = D at hD ⊢
    unfold sat
    by_cases h0 : n = 0
    · have := hD.1 h0
      subst h0 this
      rfl
    · have := hD.2 (by omega)
      rw [if_pos (show (2147483648 : Int) < (D : Int) by omega)]
      split <;> omega
  · have e : sat (m : Int) = (m : Int) := by unfold sat; rw [if_neg h]
    rw [e, hE]
theorem sat_sum (T m k : Nat) (hk : 1 ≤ k) : sat (sat (T : Int) + (k : Int) * sat (m : Int)) = sat ((T + m * k : Nat) : Int) := by
  have hD : m ≤ m * k := Nat.le_mul_of_pos_right m hk
  by_cases h : 2147483648 < (m : Int)
  · have e : sat (m : Int) = 2147483648 := by unfold sat; rw [if_pos h]
    rw [e]
    generalize m * k = D at hD ⊢
    unfold sat
    repeat' split
    all_goals omega
  · have e : sat (m : Int) = (m : Int) := by unfold sat; rw [if_neg h]
    rw [e, Int.mul_comm, ← Int.natCast_mul]
    generalize m * k = D at hD ⊢
    unfold sat
    repeat' split
    all_goals omega

/-! ### The cells -/
/-- The cells of the pending runs, the top one last. -/
def cellsOf : List (Nat × Nat) → List Value
  | [] => []
  | (m, k) :: E => cellsOf E ++ [.int .i64 (sat (m : Int)), .int .i64 (k : Int)]
theorem cellsOf_length : ∀ E : List (Nat × Nat), (cellsOf E).length = E.length * 2
  | [] => rfl
  | (m, k) :: E => by simp [cellsOf, cellsOf_length E]; omega
theorem cellsOf_top {m k L : Nat} {E : List (Nat × Nat)} (h : E.length = L) : (cellsOf ((m, k) :: E))[L * 2]? = some (.int .i64 (sat (m : Int))) ∧ (cellsOf ((m, k) :: E))[L * 2 + 1]? = some (.int .i64 (k : Int)) := by
  have hl : (cellsOf E).length = L * 2 := by rw [cellsOf_length, h]
  unfold cellsOf
  constructor
  · rw [List.getElem?_append_right (by omega), hl, Nat.sub_self]; rfl
  · rw [List.getElem?_append_right (by omega), hl, Nat.add_sub_cancel_left]; rfl
theorem cellsOf_set {m k L : Nat} {u : Int} {E : List (Nat × Nat)} (h : E.length = L) : (cellsOf ((m, k) :: E)).set (L * 2 + 1) (.int .i64 u) = cellsOf E ++ [.int .i64 (sat (m : Int)), .int .i64 u] := by
  have hl : (cellsOf E).length = L * 2 := by rw [cellsOf_length, h]
  rw [cellsOf, List.set_append_right _ _ (by omega), hl, Nat.add_sub_cancel_left]
  rfl

theorem top_cells {w : World} {B g L c m k : Nat} {E : List (Nat × Nat)} (h : E.length = L) (hown : w.ownsRow B 46 2 (.slice (some ⟨g, 0, none⟩) (L + 1) c) (L + 1) (cellsOf ((m, k) :: E))) :
    w.cell? ⟨g, L * 2, none⟩ = some (.int .i64 (sat (m : Int))) ∧ w.cell? ⟨g, L * 2 + 1, none⟩ = some (.int .i64 (k : Int)) ∧ w.frozen? ⟨g, L * 2 + 1, none⟩ = false :=
  ⟨by rw [hown.cellAt _ (by omega)]; exact (cellsOf_top h).1, by rw [hown.cellAt _ (by omega)]; exact (cellsOf_top h).2, hown.frozenAt _⟩
/-- The top run has one item less, or is gone. -/
theorem top_keep {w : World} {B g L c m k : Nat} {E : List (Nat × Nat)} (h : E.length = L) (hown : w.ownsRow B 46 2 (.slice (some ⟨g, 0, none⟩) (L + 1) c) (L + 1) (cellsOf ((m, k + 1) :: E))) :
    (w.setCell ⟨g, L * 2 + 1, none⟩ (.int .i64 (k : Int))).ownsRow B 46 2 (.slice (some ⟨g, 0, none⟩) (L + 1) c) (L + 1) (cellsOf ((m, k) :: E)) ∧ w.grownBy (w.setCell ⟨g, L * 2 + 1, none⟩ (.int .i64 (k : Int))) (some g) := by
  have R := hown.stored (L * 2 + 1) (.int .i64 (k : Int))
  rw [cellsOf_set h] at R
  exact R
theorem top_gone {w : World} {B g L c m k : Nat} {E : List (Nat × Nat)} (h : E.length = L) (hown : w.ownsRow B 46 2 (.slice (some ⟨g, 0, none⟩) (L + 1) c) (L + 1) (cellsOf ((m, k) :: E))) :
    w.ownsRow B 46 2 (.slice (some ⟨g, 0, none⟩) L c) L (cellsOf E) :=
  ownsRow_pop (by rw [cellsOf_length, h]) hown

/-- The bottom of the stack first. -/
def atBot (E : List (Nat × Nat)) (k : Nat) : Nat × Nat := E.reverse.getD k (0, 0)
theorem cells_bot : ∀ (E : List (Nat × Nat)) (k : Nat), k < E.length → (cellsOf E)[k * 2]? = some (.int .i64 (sat ((atBot E k).1 : Int))) ∧ (cellsOf E)[k * 2 + 1]? = some (.int .i64 ((atBot E k).2 : Int))
  | [], k, h => absurd h (by simp)
  | (m, n) :: E, k, h => by
    have hl := cellsOf_length E
    by_cases hk : k < E.length
    · have ih := cells_bot E k hk
      have e : atBot ((m, n) :: E) k = atBot E k := by
        unfold atBot
        rw [List.reverse_cons]
        simp only [List.getD]
        rw [List.getElem?_append_left (by simpa using hk)]
      rw [e]
      unfold cellsOf
      rw [List.getElem?_append_left (by omega), List.getElem?_append_left (by omega)]
      exact ih
    · have hke : E.length = k := by
        simp only [List.length_cons] at h
        omega
      have e : atBot ((m, n) :: E) k = (m, n) := by
        unfold atBot
        rw [List.reverse_cons]
        simp only [List.getD]
        rw [List.getElem?_append_right (by simp; omega)]
        simp [hke]
      rw [e]
      exact cellsOf_top hke
/-- The sum over the lowest k runs. -/
def sumBot (E : List (Nat × Nat)) : Nat → Nat
  | 0 => 0
  | k + 1 => sumBot E k + (atBot E k).1 * (atBot E k).2
theorem sumBot_cons (p : Nat × Nat) (E : List (Nat × Nat)) : ∀ k, k ≤ E.length → sumBot (p :: E) k = sumBot E k
  | 0, _ => rfl
  | k + 1, h => by
    have e : atBot (p :: E) k = atBot E k := by
      unfold atBot
      rw [List.reverse_cons]
      simp only [List.getD]
      rw [List.getElem?_append_left (by simp; omega)]
    rw [sumBot, sumBot, sumBot_cons p E k (by omega), e]
theorem sumBot_all : ∀ E : List (Nat × Nat), sumBot E E.length = sumS E
  | [] => rfl
  | (m, n) :: E => by
    have e : atBot ((m, n) :: E) E.length = (m, n) := by
      unfold atBot
      rw [List.reverse_cons]
      simp only [List.getD]
      rw [List.getElem?_append_right (by simp)]
      simp
    rw [List.length_cons, sumBot, sumBot_cons _ E _ (Nat.le_refl _), sumBot_all E, e, sumS, Nat.add_comm]
theorem atBot_mem {E : List (Nat × Nat)} {k : Nat} (h : k < E.length) : atBot E k ∈ E := by
  unfold atBot
  have h' : k < E.reverse.length := by simpa using h
  simp only [List.getD, List.getElem?_eq_getElem h', Option.getD_some]
  exact List.mem_reverse.1 (List.getElem_mem h')

end Go.Proofs.Qxb6604394a
