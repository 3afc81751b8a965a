/-
  FnShortIntegerReadsItsOwnDecimal: the walk.
-/
import Derived.Test.Qxb6603405aInt
namespace Go.Proofs.Qxb6603405a
open Go.RowKit

/-- The byte of the digit at place j. -/
def d10 (m j : Nat) : Int := ((48 + m / 10 ^ j % 10 : Nat) : Int)
def revTo (m k : Nat) : List Int := (List.range k).map (d10 m)
def topTo (m c k : Nat) : List Int := (List.range k).map fun j => d10 m (c - 1 - j)

theorem revTo_length (m k : Nat) : (revTo m k).length = k := by simp [revTo]
theorem revTo_succ (m k : Nat) : revTo m (k + 1) = revTo m k ++ [d10 m k] := by simp [revTo, List.range_succ]
theorem topTo_length (m c k : Nat) : (topTo m c k).length = k := by simp [topTo]
theorem topTo_succ (m c k : Nat) : topTo m c (k + 1) = topTo m c k ++ [d10 m (c - 1 - k)] := by simp [topTo, List.range_succ]
theorem revTo_getD {m k j : Nat} (h : j < k) : (revTo m k).getD j 0 = d10 m j := by simp [revTo, List.getD, h]
theorem div_step (m k : Nat) : m / 10 ^ k / 10 = m / 10 ^ (k + 1) := by rw [Nat.div_div_eq_div_mul, Nat.pow_succ]
theorem div_18 {m : Nat} (h : m < 1000000000000000000) : m / 10 ^ 18 = 0 := Nat.div_eq_of_lt h
theorem d10_bd (m j : Nat) : 48 ≤ d10 m j ∧ d10 m j ≤ 57 := by unfold d10; omega

theorem rev_start (w : World) : (w.alloc (.cells #[.int .u8 0, .int .u8 0, .int .u8 0, .int .u8 0, .int .u8 0, .int .u8 0, .int .u8 0, .int .u8 0, .int .u8 0, .int .u8 0, .int .u8 0, .int .u8 0, .int .u8 0, .int .u8 0, .int .u8 0, .int .u8 0, .int .u8 0, .int .u8 0] 33)).ownsRow w.heap.size 33 1 (.slice (some ⟨w.heap.size, 0, none⟩) 18 18) 18 (([] ++ List.replicate (18 - 0) (0 : Int)).map (Value.int .u8)) :=
  World.ownsRow_lit w _ 18 (Nat.le_refl _) (by unfold maxLen; omega) rfl

theorem rev_step {w : World} {B k : Nat} {ds : List Int} {c : Int} (hl : ds.length = k) (hk : k < 18)
    (hown : w.ownsRow B 33 1 (.slice (some ⟨B, 0, none⟩) 18 18) 18 ((ds ++ List.replicate (18 - k) (0 : Int)).map (Value.int .u8))) :
    (w.setCell ⟨B, k, none⟩ (.int .u8 c)).ownsRow B 33 1 (.slice (some ⟨B, 0, none⟩) 18 18) 18 (((ds ++ [c]) ++ List.replicate (18 - (k + 1)) (0 : Int)).map (Value.int .u8)) ∧
      w.grownBy (w.setCell ⟨B, k, none⟩ (.int .u8 c)) (some B) := by
  have R := hown.stored k (.int .u8 c)
  rw [← List.map_set] at R
  have e : (ds ++ List.replicate (18 - k) (0 : Int)).set k c = (ds ++ [c]) ++ List.replicate (18 - (k + 1)) (0 : Int) := by
    rw [show 18 - k = (18 - (k + 1)) + 1 by omega, List.replicate_succ, List.set_append_right _ _ (by omega), hl, Nat.sub_self, List.set_cons_zero]
    simp
  rw [e] at R
  exact R
theorem rev_cell {w : World} {B k : Nat} {ds : List Int} (hl : ds.length = k) (hk : k < 18)
    (hown : w.ownsRow B 33 1 (.slice (some ⟨B, 0, none⟩) 18 18) 18 ((ds ++ List.replicate (18 - k) (0 : Int)).map (Value.int .u8))) :
    w.cell? ⟨B, k, none⟩ = some (.int .u8 0) := by
  rw [hown.cellAt k (by omega)]
  have h1 : ¬ k < ds.length := by omega
  have h2 : k - ds.length < 18 - k := by omega
  simp [List.getElem?_append, h1, h2]
theorem rev_read {w : World} {B k j m : Nat} (hk : k ≤ 18) (hj : j < k)
    (hown : w.ownsRow B 33 1 (.slice (some ⟨B, 0, none⟩) 18 18) 18 ((revTo m k ++ List.replicate (18 - k) (0 : Int)).map (Value.int .u8))) :
    w.cell? ⟨B, j, none⟩ = some (.int .u8 (d10 m j)) := by
  rw [hown.cellAt j (by omega)]
  have h1 : j < (revTo m k).length := by rw [revTo_length]; exact hj
  rw [List.getElem?_map, List.getElem?_append_left h1]
  simp [revTo, hj]

theorem getD_app_lt {ds ts : List Int} {j : Nat} (h : j < ds.length) : (ds ++ ts).getD j 0 = ds.getD j 0 := by
  simp [List.getD, List.getElem?_append_left h]
theorem intTo_append (ds ts : List Int) : ∀ k, k ≤ ds.length → intTo (ds ++ ts) k = intTo ds k
  | 0, _ => rfl
  | k + 1, h => by rw [intTo, intTo, intTo_append ds ts k (by omega), getD_app_lt (by omega)]
theorem intTo_zeros (p : Nat) : ∀ k, k ≤ p → intTo (List.replicate p 48) k = some 0
  | 0, _ => rfl
  | k + 1, h => by
    have e : (List.replicate p (48 : Int)).getD k 0 = 48 := by simp [List.getD, show k < p by omega]
    rw [intTo, intTo_zeros p k (by omega), Option.bind_some, e]
    rfl
theorem intTo_snoc {ds : List Int} {k : Nat} {x c : Int} (hl : ds.length = k) (h : intTo ds k = some x) (h1 : 48 ≤ c) (h2 : c ≤ 57) : intTo (ds ++ [c]) (k + 1) = some (x * 10 + (c - 48)) := by
  subst hl
  exact intTo_step (by rw [intTo_append _ _ _ (Nat.le_refl _)]; exact h) (by simp [List.getD]) h1 h2
theorem intTo_top (m c p : Nat) (h : m / 10 ^ c = 0) : ∀ k, k ≤ c → intTo (List.replicate p 48 ++ topTo m c k) (p + k) = some ((m / 10 ^ (c - k) : Nat) : Int)
  | 0, _ => by
    rw [Nat.sub_zero, h, intTo_append _ _ _ (by simp), Nat.add_zero, intTo_zeros p p (Nat.le_refl _)]
    rfl
  | k + 1, hk => by
    have ih := intTo_top m c p h k (by omega)
    have b := d10_bd m (c - 1 - k)
    rw [topTo_succ, ← List.append_assoc, ← Nat.add_assoc, intTo_snoc (by simp [topTo_length]) ih b.1 b.2]
    have e1 : c - k = (c - 1 - k) + 1 := by omega
    have e2 : c - (k + 1) = c - 1 - k := by omega
    rw [e1, e2, ← div_step]
    unfold d10
    congr 1
    omega

/-- The text that is written: a sign, p zeros, the digits. -/
def textOf (sgn : List Int) (p m c : Nat) : List Int := (sgn ++ List.replicate p 48) ++ topTo m c c
def zerosTo (sgn : List Int) (t : Nat) : List Value := (sgn ++ List.replicate t 48).map (Value.int .u8)
theorem zerosTo_succ (sgn : List Int) (t : Nat) : zerosTo sgn (t + 1) = zerosTo sgn t ++ [.int .u8 48] := by
  unfold zerosTo
  rw [List.replicate_succ', ← List.append_assoc, List.map_append]
  rfl
def textTo (sgn : List Int) (p m c t : Nat) : List Value := ((sgn ++ List.replicate p 48) ++ topTo m c t).map (Value.int .u8)
theorem textTo_zero (sgn : List Int) (p m c : Nat) : textTo sgn p m c 0 = zerosTo sgn p := by simp [textTo, zerosTo, topTo]
theorem textTo_succ (sgn : List Int) (p m c t : Nat) : textTo sgn p m c (t + 1) = textTo sgn p m c t ++ [.int .u8 (d10 m (c - 1 - t))] := by
  unfold textTo
  rw [topTo_succ, ← List.append_assoc, List.map_append]
  rfl
theorem textTo_all (sgn : List Int) (p m c : Nat) : textTo sgn p m c c = (textOf sgn p m c).map (Value.int .u8) := rfl
theorem textOf_mem {sgn : List Int} {p m c : Nat} (hs : sgn = [] ∨ sgn = [45]) : ∀ x ∈ textOf sgn p m c, 45 ≤ x ∧ x ≤ 57 := by
  intro x hx
  unfold textOf at hx
  rcases List.mem_append.1 hx with hx | hx
  · rcases List.mem_append.1 hx with hx | hx
    · rcases hs with rfl | rfl
      · cases hx
      · rw [List.mem_singleton] at hx; omega
    · have := List.eq_of_mem_replicate hx; omega
  · unfold topTo at hx
    obtain ⟨j, _, rfl⟩ := List.mem_map.1 hx
    have := d10_bd m (c - 1 - j)
    omega
theorem textOf_bd {sgn : List Int} {p m c : Nat} (hs : sgn = [] ∨ sgn = [45]) (j : Nat) : 0 ≤ (textOf sgn p m c).getD j 0 ∧ (textOf sgn p m c).getD j 0 ≤ 255 := by
  by_cases h : j < (textOf sgn p m c).length
  · have := textOf_mem hs _ (List.getElem_mem h)
    simp only [List.getD, List.getElem?_eq_getElem h, Option.getD_some]
    omega
  · simp [List.getD, List.getElem?_eq_none (Nat.not_lt.1 h)]
theorem digits_is (p m c : Nat) (h : m / 10 ^ c = 0) (h1 : 1 ≤ c) (h2 : p + c ≤ 18) : digitsOf (List.replicate p 48 ++ topTo m c c) (p + c) = some (m : Int) := by
  unfold digitsOf
  rw [if_neg (by omega), intTo_top m c p h c (Nat.le_refl _), Nat.sub_self, Nat.pow_zero, Nat.div_one]
theorem short_pos (p m c : Nat) (h : m / 10 ^ c = 0) (h1 : 1 ≤ c) (h2 : p + c ≤ 18) : shortOf (textOf [] p m c) (p + c) = some (m : Int) := by
  have hlen : (List.replicate p 48 ++ topTo m c c).length = p + c := by simp [topTo_length]
  have hne : ((List.replicate p 48 ++ topTo m c c).getD 0 0 == 45) = false := by
    have h0 : 0 < (List.replicate p 48 ++ topTo m c c).length := by omega
    rw [beq_eq_false_iff_ne]
    simp only [List.getD, List.getElem?_eq_getElem h0, Option.getD_some]
    have hm := List.getElem_mem h0
    generalize (List.replicate p 48 ++ topTo m c c)[0] = y at hm ⊢
    rcases List.mem_append.1 hm with hx | hx
    · have := List.eq_of_mem_replicate hx; omega
    · unfold topTo at hx
      obtain ⟨j, _, e⟩ := List.mem_map.1 hx
      have := d10_bd m (c - 1 - j)
      omega
  have e : cutNeg (List.replicate p 48 ++ topTo m c c) (p + c) = false := by rw [cutNeg, hne, Bool.and_false]
  unfold shortOf textOf cutList cutLen
  rw [List.nil_append, e]
  exact digits_is p m c h h1 h2
theorem short_neg (p m c : Nat) (h : m / 10 ^ c = 0) (h1 : 1 ≤ c) (h2 : p + c ≤ 18) : shortOf (textOf [45] p m c) (1 + p + c) = some (-(m : Int)) := by
  have e : cutNeg ([45] ++ List.replicate p 48 ++ topTo m c c) (1 + p + c) = true := by
    rw [cutNeg, List.append_assoc]
    simp only [List.singleton_append, List.getD_cons_zero, Bool.and_eq_true, decide_eq_true_eq]
    exact ⟨by omega, rfl⟩
  unfold shortOf textOf cutList cutLen
  rw [e]
  have e3 : List.drop 1 ([(45 : Int)] ++ (List.replicate p 48 ++ topTo m c c)) = List.replicate p 48 ++ topTo m c c := rfl
  rw [if_pos rfl, if_pos rfl, List.append_assoc, e3, show 1 + p + c - 1 = p + c by omega, digits_is p m c h h1 h2]
  rfl

theorem own_reads' {w : World} {B b n cap : Nat} {xs : List Int} (h : w.ownsRow B 5 1 (.slice (some ⟨b, 0, none⟩) n cap) n (xs.map (Value.int .u8))) : Reads w (some ⟨b, 0, none⟩) n xs := by
  intro _
  refine ⟨b, 0, rfl, (h.lt b rfl).2, fun j hj => ?_⟩
  have hl : xs.length = n := by simpa using h.1
  rw [Nat.zero_add, h.cellAt j (by omega)]
  simp [show j < xs.length by omega]

set_option maxHeartbeats 400000 in
theorem intWrite_far (n z : Int) (w : World) (h : n ≤ -1000000000000000000 ∨ 1000000000000000000 ≤ n) :
    Calls Try.prog 6 #[.int .i64 n, .int .u8 z] w fun e w' => e = .returned (.bool true) ∧ Below w.heap.size w w' := by
  rcases h with h | h
  · go_enter Try.func6, Try.ntmps6
    go_wp2
    go_ret
    exact ⟨rfl, Below.refl _ _⟩
  · have h2 : ¬ n ≤ -1000000000000000000 := by omega
    go_enter Try.func6, Try.ntmps6
    go_wp2
    go_ret
    exact ⟨rfl, Below.refl _ _⟩

set_option maxHeartbeats 1000000 in
theorem intWrite_neg (n : Int) (z m : Nat) (w : World) (h1 : -1000000000000000000 < n) (h2 : n < 1000000000000000000) (hn : n < 0) (hm : (m : Int) = -n) (hz1 : z ≤ 255) :
    Calls Try.prog 6 #[.int .i64 n, .int .u8 z] w fun e w' => e = .returned (.bool true) ∧ Below w.heap.size w w' := by
  obtain ⟨i0, hi, hz0, hzz1, hz2⟩ := info_parts info5
  have HM : Hid ((m : Int) = -n) := hm
  have hm18 : m < 1000000000000000000 := by omega
  have hd1 : decide (n ≤ -1000000000000000000) = false := decide_eq_false (by omega)
  have hd2 : decide ((1000000000000000000 : Int) ≤ n) = false := decide_eq_false (by omega)
  have hb0 : Below w.heap.size w (w.alloc (.cells #[.int .u8 0, .int .u8 0, .int .u8 0, .int .u8 0, .int .u8 0, .int .u8 0, .int .u8 0, .int .u8 0, .int .u8 0, .int .u8 0, .int .u8 0, .int .u8 0, .int .u8 0, .int .u8 0, .int .u8 0, .int .u8 0, .int .u8 0, .int .u8 0] 33)) := (Below.refl _ _).alloc (Nat.le_refl _) _
  have ho0 := rev_start w
  clear hm
  go_enter Try.func6, Try.ntmps6
  go_wp2_with fail
  go_loopw [6, 8] (fun a i wr => ∃ k : Nat, k ≤ 18 ∧ i = .int .i64 k ∧ a = .int .i64 (m / 10 ^ k : Nat) ∧ wr.ownsRow w.heap.size 33 1 (.slice (some ⟨w.heap.size, 0, none⟩) 18 18) 18 ((revTo m k ++ List.replicate (18 - k) (0 : Int)).map (Value.int .u8)) ∧ Below w.heap.size w wr)
    (fun _ i _ => 18 - (intOf i).toNat)
  case atStart => exact ⟨0, by omega, rfl, by rw [Nat.pow_zero, Nat.div_one, HM.out], ho0, hb0⟩
  case round =>
    clear ho0 hb0
    obtain ⟨k, hk, rfl, rfl, hown, hb0⟩ := hrel
    obtain ⟨q, hq⟩ : ∃ q : Nat, q = m / 10 ^ k := ⟨_, rfl⟩
    rw [← hq]
    have hqm : q < 1000000000000000000 := by
      have := Nat.div_le_self m (10 ^ k)
      omega
    by_cases hgo : k = 0 ∨ 0 < q
    · have hk18 : k < 18 := by
        by_cases h : k = 18
        · subst h
          rw [div_18 hm18] at hq
          omega
        · omega
      have hfo := hown.frozenAt k
      have hco := rev_cell (revTo_length m k) hk18 hown
      have HT := hid (rev_step (c := d10 m k) (revTo_length m k) hk18 hown)
      have HD : Hid (d10 m k = 48 + (q : Int) % 10) := by
        show ((48 + m / 10 ^ k % 10 : Nat) : Int) = 48 + (q : Int) % 10
        rw [← hq]
        omega
      rw [← revTo_succ, HD.out] at HT
      have HQ : Hid ((q : Int) / 10 = ((m / 10 ^ (k + 1) : Nat) : Int)) := by
        show (q : Int) / 10 = ((m / 10 ^ (k + 1) : Nat) : Int)
        rw [← div_step, ← hq]
        omega
      clear hq hown
      by_cases hk0 : k = 0
      · subst hk0
        go_wp2
        go_roundw
        case rel => exact ⟨1, by omega, rfl, by rw [HQ.out], HT.out.1, hb0.grown HT.out.2 hb0.size (fun j h => by cases h; exact Nat.le_refl _)⟩
        case measure => simp [intOf]
      · have hk1 : ((k : Int) == 0) = false := beq_eq_false_iff_ne.2 (by omega)
        have hq1 : 0 < q := by omega
        go_wp2
        go_roundw
        case rel => exact ⟨k + 1, by omega, by go_num, by rw [HQ.out], HT.out.1, hb0.grown HT.out.2 hb0.size (fun j h => by cases h; exact Nat.le_refl _)⟩
        case measure => simp [intOf]; omega
    · have hk1 : ((k : Int) == 0) = false := beq_eq_false_iff_ne.2 (by omega)
      have hk2 : 1 ≤ k := by omega
      have hq0 : q = 0 := by omega
      have HQ : Hid (m / 10 ^ k = 0) := by
        show m / 10 ^ k = 0
        rw [← hq, hq0]
      clear hq hgo
      subst hq0
      by_cases hpz : 18 - k < z
      · obtain ⟨p, hp⟩ : ∃ p : Nat, p = (18 - k) := ⟨_, rfl⟩
        have hp18 : p + k ≤ 18 := by omega
        obtain ⟨wo, rfl⟩ : ∃ wo : World, wo = wr := ⟨_, rfl⟩
        go_wp2_with (at_make; refine wpList_make_own _ rfl _ _ 22 rfl wo.heap.size 5 i0 (.int .u8 0) 1 Try.underlying22 hi hz0 hzz1 _ _ _ 19 rfl rfl (by omega) (by rw [hz2]; omega) (by unfold maxLen; omega) (Nat.le_refl _) ?_)
        intro w2 hown2 hgrow2
        have hb2 : Below wo.heap.size wo w2 := (Below.refl _ _).grown hgrow2 (Nat.le_refl _) (fun k h => by cases h)
        have hrev : ∀ j, j < k → w2.cell? ⟨w.heap.size, j, none⟩ = some (.int .u8 (d10 m j)) := fun j hj => (hb2.cell (by exact (hown.lt w.heap.size rfl).2)).trans (rev_read hk hj hown)
        have hlt0 : w.heap.size < wo.heap.size := (hown.lt w.heap.size rfl).2
        have HR := hid hrev
        clear hgrow2 hrev hown
        rw [show (18 - (k : Int)) = (p : Int) by omega]
        have HP := hid hp
        clear hp hpz
        go_wp2_with (at_builtin; refine wpList_append_fits _ rfl _ _ 22 rfl wo.heap.size 5 i0 1 Try.underlying22 hi hzz1 wo.heap.size 0 19 [] rfl (hown2.alloc _) ⟨w2.heap.size, 0, none⟩ 1 1 [.int .u8 45] rfl rfl (cell_one_new _ _ _) (by intro u hu; simp at hu; subst hu; rfl) (by omega) ?_)
        intro w3 hown3 hgrow3
        have hb3 : Below wo.heap.size wo w3 := (hb2.alloc hb2.size _).grown hgrow3 (by have := hb2.size; simp; omega) (fun j h => by cases h; exact Nat.le_refl _)
        have HR3 : Hid (∀ j, j < k → w3.cell? ⟨w.heap.size, j, none⟩ = some (.int .u8 (d10 m j))) := fun j hj => (((Below.alloc (Below.refl _ _) hb2.size _).grown hgrow3 (by have := hb2.size; simp; omega) (fun j h => by cases h; exact Nat.le_refl _) : Below wo.heap.size w2 w3).cell (by exact hlt0)).trans (HR.out j hj)
        have hown3' : w3.ownsRow wo.heap.size 5 1 (.slice (some ⟨wo.heap.size, 0, none⟩) (1 + 0) 19) (1 + 0) (zerosTo [45] 0) := hown3
        clear hgrow3 hown3 hown2 hb2 HR
        go_wp2_with fail
        go_loopw [10, 11] (fun a i wr => ∃ t : Nat, t ≤ p ∧ i = .int .i64 t ∧ a = .slice (some ⟨wo.heap.size, 0, none⟩) (1 + t) 19 ∧ wr.ownsRow wo.heap.size 5 1 (.slice (some ⟨wo.heap.size, 0, none⟩) (1 + t) 19) (1 + t) (zerosTo [45] t) ∧ Below wo.heap.size w3 wr)
          (fun _ i _ => p - (intOf i).toNat)
        case atStart => exact ⟨0, by omega, rfl, rfl, hown3', Below.refl _ _⟩
        case round =>
          clear hown3'
          obtain ⟨t, ht, rfl, rfl, hown3, hb4⟩ := hrel
          have hsz : wo.heap.size ≤ wr.heap.size := Nat.le_trans hb3.size hb4.size
          by_cases htp : t < p
          · go_wp2_with (at_builtin; refine wpList_append_fits _ rfl _ _ 22 rfl wo.heap.size 5 i0 1 Try.underlying22 hi hzz1 wo.heap.size (1 + t) 19 _ rfl (hown3.alloc _) ⟨wr.heap.size, 0, none⟩ 1 1 [.int .u8 48] rfl rfl (cell_one_new _ _ _) (by intro u hu; simp at hu; subst hu; rfl) (by omega) ?_)
            intro w4 hown4 hgrow4
            have hb5 : Below wo.heap.size w3 w4 := (hb4.alloc hsz _).grown hgrow4 (by simp; omega) (fun j h => by cases h; exact Nat.le_refl _)
            have hown5 : w4.ownsRow wo.heap.size 5 1 (.slice (some ⟨wo.heap.size, 0, none⟩) (1 + (t + 1)) 19) (1 + (t + 1)) (zerosTo [45] (t + 1)) := by
              rw [zerosTo_succ]
              exact hown4
            clear hown4 hgrow4 hown3 hb4
            go_wp2
            go_roundw
            case rel => exact ⟨t + 1, by omega, by go_num, rfl, hown5, hb5⟩
            case measure => simp [intOf]; omega
          · have htp' : t = p := by omega
            subst htp'
            obtain ⟨w5, rfl⟩ : ∃ w5 : World, w5 = wr := ⟨_, rfl⟩
            rw [← textTo_zero [45] t m k] at hown3
            have HR5 : Hid (∀ j, j < k → w5.cell? ⟨w.heap.size, j, none⟩ = some (.int .u8 (d10 m j))) := fun j hj => (hb4.cell (by exact hlt0)).trans (HR3.out j hj)
            have hb5 : Below wo.heap.size wo w5 := hb3.trans hb4
            clear HR3 hb4 hsz
            go_wp2_with fail
            go_loopw [10, 12] (fun a i wr => ∃ r : Nat, r ≤ k ∧ i = .int .i64 ((k : Int) - 1 - r) ∧ a = .slice (some ⟨wo.heap.size, 0, none⟩) (1 + t + r) 19 ∧ wr.ownsRow wo.heap.size 5 1 (.slice (some ⟨wo.heap.size, 0, none⟩) (1 + t + r) 19) (1 + t + r) (textTo [45] t m k r) ∧ Below wo.heap.size w5 wr)
              (fun _ i _ => (intOf i + 1).toNat)
            case atStart => exact ⟨0, by omega, by go_num, rfl, hown3, Below.refl _ _⟩
            case round =>
              clear hown3
              obtain ⟨r, hr, rfl, rfl, hown6, hb6⟩ := hrel
              have hsz : wo.heap.size ≤ wr.heap.size := Nat.le_trans hb5.size hb6.size
              by_cases hrk : r < k
              · have hcx : wr.cell? ⟨w.heap.size, k - 1 - r, none⟩ = some (.int .u8 (d10 m (k - 1 - r))) := (hb6.cell (by exact hlt0)).trans (HR5.out (k - 1 - r) (by omega))
                obtain ⟨x, hx⟩ : ∃ x, x = d10 m (k - 1 - r) := ⟨_, rfl⟩
                rw [← hx] at hcx
                have HXd := hid hx
                clear hx
                go_wp2_with (at_builtin; refine wpList_append_fits _ rfl _ _ 22 rfl wo.heap.size 5 i0 1 Try.underlying22 hi hzz1 wo.heap.size (1 + t + r) 19 _ rfl (hown6.alloc _) ⟨wr.heap.size, 0, none⟩ 1 1 [.int .u8 x] rfl rfl (cell_one_new _ _ _) (by intro u hu; simp at hu; subst hu; rfl) (by omega) ?_)
                intro w7 hown7 hgrow7
                have hb7 : Below wo.heap.size w5 w7 := (hb6.alloc hsz _).grown hgrow7 (by simp; omega) (fun j h => by cases h; exact Nat.le_refl _)
                have hown8 : w7.ownsRow wo.heap.size 5 1 (.slice (some ⟨wo.heap.size, 0, none⟩) (1 + t + (r + 1)) 19) (1 + t + (r + 1)) (textTo [45] t m k (r + 1)) := by
                  rw [textTo_succ, ← HXd.out]
                  exact hown7
                clear hown7 hgrow7 hown6 hb6
                go_wp2
                go_roundw
                case rel => exact ⟨r + 1, by omega, by go_num, rfl, hown8, hb7⟩
                case measure => simp [intOf]; omega
              · have hrk' : r = k := by omega
                subst hrk'
                obtain ⟨w9, rfl⟩ : ∃ w9 : World, w9 = wr := ⟨_, rfl⟩
                rw [textTo_all] at hown6
                have HO := zzShort (some ⟨wo.heap.size, 0, none⟩) (1 + t + r) 19 (textOf [45] t m r) w9 (own_reads' hown6) (by omega) (by omega) (textOf_bd (by simp))
                rw [show shortOf (textOf [45] t m r) (1 + t + r) = some n by rw [short_neg t m r HQ.out hk2 hp18, HM.out]; simp] at HO
                simp only [Option.getD_some, Option.isSome_some] at HO
                have hb9 : Below w.heap.size w w9 := hb0.trans (((hb5.trans hb6).mono (Nat.le_of_lt hlt0)))
                have hs9 : w.heap.size ≤ w9.heap.size := hb9.size
                clear hown6
                go_wp2_with fail
                refine HO.mono ?_
                rintro e w10 ⟨rfl, hb10⟩
                clear HO
                go_wp2
                go_ret
                exact ⟨rfl, hb9.trans (hb10.mono hs9)⟩
      · obtain ⟨p, hp⟩ : ∃ p : Nat, p = z := ⟨_, rfl⟩
        have hp18 : p + k ≤ 18 := by omega
        obtain ⟨wo, rfl⟩ : ∃ wo : World, wo = wr := ⟨_, rfl⟩
        go_wp2_with (at_make; refine wpList_make_own _ rfl _ _ 22 rfl wo.heap.size 5 i0 (.int .u8 0) 1 Try.underlying22 hi hz0 hzz1 _ _ _ 19 rfl rfl (by omega) (by rw [hz2]; omega) (by unfold maxLen; omega) (Nat.le_refl _) ?_)
        intro w2 hown2 hgrow2
        have hb2 : Below wo.heap.size wo w2 := (Below.refl _ _).grown hgrow2 (Nat.le_refl _) (fun k h => by cases h)
        have hrev : ∀ j, j < k → w2.cell? ⟨w.heap.size, j, none⟩ = some (.int .u8 (d10 m j)) := fun j hj => (hb2.cell (by exact (hown.lt w.heap.size rfl).2)).trans (rev_read hk hj hown)
        have hlt0 : w.heap.size < wo.heap.size := (hown.lt w.heap.size rfl).2
        have HR := hid hrev
        clear hgrow2 hrev hown
        rw [← hp]
        have HP := hid hp
        clear hp hpz
        go_wp2_with (at_builtin; refine wpList_append_fits _ rfl _ _ 22 rfl wo.heap.size 5 i0 1 Try.underlying22 hi hzz1 wo.heap.size 0 19 [] rfl (hown2.alloc _) ⟨w2.heap.size, 0, none⟩ 1 1 [.int .u8 45] rfl rfl (cell_one_new _ _ _) (by intro u hu; simp at hu; subst hu; rfl) (by omega) ?_)
        intro w3 hown3 hgrow3
        have hb3 : Below wo.heap.size wo w3 := (hb2.alloc hb2.size _).grown hgrow3 (by have := hb2.size; simp; omega) (fun j h => by cases h; exact Nat.le_refl _)
        have HR3 : Hid (∀ j, j < k → w3.cell? ⟨w.heap.size, j, none⟩ = some (.int .u8 (d10 m j))) := fun j hj => (((Below.alloc (Below.refl _ _) hb2.size _).grown hgrow3 (by have := hb2.size; simp; omega) (fun j h => by cases h; exact Nat.le_refl _) : Below wo.heap.size w2 w3).cell (by exact hlt0)).trans (HR.out j hj)
        have hown3' : w3.ownsRow wo.heap.size 5 1 (.slice (some ⟨wo.heap.size, 0, none⟩) (1 + 0) 19) (1 + 0) (zerosTo [45] 0) := hown3
        clear hgrow3 hown3 hown2 hb2 HR
        go_wp2_with fail
        go_loopw [10, 11] (fun a i wr => ∃ t : Nat, t ≤ p ∧ i = .int .i64 t ∧ a = .slice (some ⟨wo.heap.size, 0, none⟩) (1 + t) 19 ∧ wr.ownsRow wo.heap.size 5 1 (.slice (some ⟨wo.heap.size, 0, none⟩) (1 + t) 19) (1 + t) (zerosTo [45] t) ∧ Below wo.heap.size w3 wr)
          (fun _ i _ => p - (intOf i).toNat)
        case atStart => exact ⟨0, by omega, rfl, rfl, hown3', Below.refl _ _⟩
        case round =>
          clear hown3'
          obtain ⟨t, ht, rfl, rfl, hown3, hb4⟩ := hrel
          have hsz : wo.heap.size ≤ wr.heap.size := Nat.le_trans hb3.size hb4.size
          by_cases htp : t < p
          · go_wp2_with (at_builtin; refine wpList_append_fits _ rfl _ _ 22 rfl wo.heap.size 5 i0 1 Try.underlying22 hi hzz1 wo.heap.size (1 + t) 19 _ rfl (hown3.alloc _) ⟨wr.heap.size, 0, none⟩ 1 1 [.int .u8 48] rfl rfl (cell_one_new _ _ _) (by intro u hu; simp at hu; subst hu; rfl) (by omega) ?_)
            intro w4 hown4 hgrow4
            have hb5 : Below wo.heap.size w3 w4 := (hb4.alloc hsz _).grown hgrow4 (by simp; omega) (fun j h => by cases h; exact Nat.le_refl _)
            have hown5 : w4.ownsRow wo.heap.size 5 1 (.slice (some ⟨wo.heap.size, 0, none⟩) (1 + (t + 1)) 19) (1 + (t + 1)) (zerosTo [45] (t + 1)) := by
              rw [zerosTo_succ]
              exact hown4
            clear hown4 hgrow4 hown3 hb4
            go_wp2
            go_roundw
            case rel => exact ⟨t + 1, by omega, by go_num, rfl, hown5, hb5⟩
            case measure => simp [intOf]; omega
          · have htp' : t = p := by omega
            subst htp'
            obtain ⟨w5, rfl⟩ : ∃ w5 : World, w5 = wr := ⟨_, rfl⟩
            rw [← textTo_zero [45] t m k] at hown3
            have HR5 : Hid (∀ j, j < k → w5.cell? ⟨w.heap.size, j, none⟩ = some (.int .u8 (d10 m j))) := fun j hj => (hb4.cell (by exact hlt0)).trans (HR3.out j hj)
            have hb5 : Below wo.heap.size wo w5 := hb3.trans hb4
            clear HR3 hb4 hsz
            go_wp2_with fail
            go_loopw [10, 12] (fun a i wr => ∃ r : Nat, r ≤ k ∧ i = .int .i64 ((k : Int) - 1 - r) ∧ a = .slice (some ⟨wo.heap.size, 0, none⟩) (1 + t + r) 19 ∧ wr.ownsRow wo.heap.size 5 1 (.slice (some ⟨wo.heap.size, 0, none⟩) (1 + t + r) 19) (1 + t + r) (textTo [45] t m k r) ∧ Below wo.heap.size w5 wr)
              (fun _ i _ => (intOf i + 1).toNat)
            case atStart => exact ⟨0, by omega, by go_num, rfl, hown3, Below.refl _ _⟩
            case round =>
              clear hown3
              obtain ⟨r, hr, rfl, rfl, hown6, hb6⟩ := hrel
              have hsz : wo.heap.size ≤ wr.heap.size := Nat.le_trans hb5.size hb6.size
              by_cases hrk : r < k
              · have hcx : wr.cell? ⟨w.heap.size, k - 1 - r, none⟩ = some (.int .u8 (d10 m (k - 1 - r))) := (hb6.cell (by exact hlt0)).trans (HR5.out (k - 1 - r) (by omega))
                obtain ⟨x, hx⟩ : ∃ x, x = d10 m (k - 1 - r) := ⟨_, rfl⟩
                rw [← hx] at hcx
                have HXd := hid hx
                clear hx
                go_wp2_with (at_builtin; refine wpList_append_fits _ rfl _ _ 22 rfl wo.heap.size 5 i0 1 Try.underlying22 hi hzz1 wo.heap.size (1 + t + r) 19 _ rfl (hown6.alloc _) ⟨wr.heap.size, 0, none⟩ 1 1 [.int .u8 x] rfl rfl (cell_one_new _ _ _) (by intro u hu; simp at hu; subst hu; rfl) (by omega) ?_)
                intro w7 hown7 hgrow7
                have hb7 : Below wo.heap.size w5 w7 := (hb6.alloc hsz _).grown hgrow7 (by simp; omega) (fun j h => by cases h; exact Nat.le_refl _)
                have hown8 : w7.ownsRow wo.heap.size 5 1 (.slice (some ⟨wo.heap.size, 0, none⟩) (1 + t + (r + 1)) 19) (1 + t + (r + 1)) (textTo [45] t m k (r + 1)) := by
                  rw [textTo_succ, ← HXd.out]
                  exact hown7
                clear hown7 hgrow7 hown6 hb6
                go_wp2
                go_roundw
                case rel => exact ⟨r + 1, by omega, by go_num, rfl, hown8, hb7⟩
                case measure => simp [intOf]; omega
              · have hrk' : r = k := by omega
                subst hrk'
                obtain ⟨w9, rfl⟩ : ∃ w9 : World, w9 = wr := ⟨_, rfl⟩
                rw [textTo_all] at hown6
                have HO := zzShort (some ⟨wo.heap.size, 0, none⟩) (1 + t + r) 19 (textOf [45] t m r) w9 (own_reads' hown6) (by omega) (by omega) (textOf_bd (by simp))
                rw [show shortOf (textOf [45] t m r) (1 + t + r) = some n by rw [short_neg t m r HQ.out hk2 hp18, HM.out]; simp] at HO
                simp only [Option.getD_some, Option.isSome_some] at HO
                have hb9 : Below w.heap.size w w9 := hb0.trans (((hb5.trans hb6).mono (Nat.le_of_lt hlt0)))
                have hs9 : w.heap.size ≤ w9.heap.size := hb9.size
                clear hown6
                go_wp2_with fail
                refine HO.mono ?_
                rintro e w10 ⟨rfl, hb10⟩
                clear HO
                go_wp2
                go_ret
                exact ⟨rfl, hb9.trans (hb10.mono hs9)⟩


set_option maxHeartbeats 1000000 in
theorem intWrite_pos (n : Int) (z m : Nat) (w : World) (h1 : -1000000000000000000 < n) (h2 : n < 1000000000000000000) (hn : 0 ≤ n) (hm : (m : Int) = n) (hz1 : z ≤ 255) :
    Calls Try.prog 6 #[.int .i64 n, .int .u8 z] w fun e w' => e = .returned (.bool true) ∧ Below w.heap.size w w' := by
  obtain ⟨i0, hi, hz0, hzz1, hz2⟩ := info_parts info5
  have HM : Hid ((m : Int) = n) := hm
  have hm18 : m < 1000000000000000000 := by omega
  have hd1 : decide (n ≤ -1000000000000000000) = false := decide_eq_false (by omega)
  have hd2 : decide ((1000000000000000000 : Int) ≤ n) = false := decide_eq_false (by omega)
  have hb0 : Below w.heap.size w (w.alloc (.cells #[.int .u8 0, .int .u8 0, .int .u8 0, .int .u8 0, .int .u8 0, .int .u8 0, .int .u8 0, .int .u8 0, .int .u8 0, .int .u8 0, .int .u8 0, .int .u8 0, .int .u8 0, .int .u8 0, .int .u8 0, .int .u8 0, .int .u8 0, .int .u8 0] 33)) := (Below.refl _ _).alloc (Nat.le_refl _) _
  have ho0 := rev_start w
  clear hm
  go_enter Try.func6, Try.ntmps6
  go_wp2_with fail
  go_loopw [6, 8] (fun a i wr => ∃ k : Nat, k ≤ 18 ∧ i = .int .i64 k ∧ a = .int .i64 (m / 10 ^ k : Nat) ∧ wr.ownsRow w.heap.size 33 1 (.slice (some ⟨w.heap.size, 0, none⟩) 18 18) 18 ((revTo m k ++ List.replicate (18 - k) (0 : Int)).map (Value.int .u8)) ∧ Below w.heap.size w wr)
    (fun _ i _ => 18 - (intOf i).toNat)
  case atStart => exact ⟨0, by omega, rfl, by rw [Nat.pow_zero, Nat.div_one, HM.out], ho0, hb0⟩
  case round =>
    clear ho0 hb0
    obtain ⟨k, hk, rfl, rfl, hown, hb0⟩ := hrel
    obtain ⟨q, hq⟩ : ∃ q : Nat, q = m / 10 ^ k := ⟨_, rfl⟩
    rw [← hq]
    have hqm : q < 1000000000000000000 := by
      have := Nat.div_le_self m (10 ^ k)
      omega
    by_cases hgo : k = 0 ∨ 0 < q
    · have hk18 : k < 18 := by
        by_cases h : k = 18
        · subst h
          rw [div_18 hm18] at hq
          omega
        · omega
      have hfo := hown.frozenAt k
      have hco := rev_cell (revTo_length m k) hk18 hown
      have HT := hid (rev_step (c := d10 m k) (revTo_length m k) hk18 hown)
      have HD : Hid (d10 m k = 48 + (q : Int) % 10) := by
        show ((48 + m / 10 ^ k % 10 : Nat) : Int) = 48 + (q : Int) % 10
        rw [← hq]
        omega
      rw [← revTo_succ, HD.out] at HT
      have HQ : Hid ((q : Int) / 10 = ((m / 10 ^ (k + 1) : Nat) : Int)) := by
        show (q : Int) / 10 = ((m / 10 ^ (k + 1) : Nat) : Int)
        rw [← div_step, ← hq]
        omega
      clear hq hown
      by_cases hk0 : k = 0
      · subst hk0
        go_wp2
        go_roundw
        case rel => exact ⟨1, by omega, rfl, by rw [HQ.out], HT.out.1, hb0.grown HT.out.2 hb0.size (fun j h => by cases h; exact Nat.le_refl _)⟩
        case measure => simp [intOf]
      · have hk1 : ((k : Int) == 0) = false := beq_eq_false_iff_ne.2 (by omega)
        have hq1 : 0 < q := by omega
        go_wp2
        go_roundw
        case rel => exact ⟨k + 1, by omega, by go_num, by rw [HQ.out], HT.out.1, hb0.grown HT.out.2 hb0.size (fun j h => by cases h; exact Nat.le_refl _)⟩
        case measure => simp [intOf]; omega
    · have hk1 : ((k : Int) == 0) = false := beq_eq_false_iff_ne.2 (by omega)
      have hk2 : 1 ≤ k := by omega
      have hq0 : q = 0 := by omega
      have HQ : Hid (m / 10 ^ k = 0) := by
        show m / 10 ^ k = 0
        rw [← hq, hq0]
      clear hq hgo
      subst hq0
      by_cases hpz : 18 - k < z
      · obtain ⟨p, hp⟩ : ∃ p : Nat, p = (18 - k) := ⟨_, rfl⟩
        have hp18 : p + k ≤ 18 := by omega
        obtain ⟨wo, rfl⟩ : ∃ wo : World, wo = wr := ⟨_, rfl⟩
        go_wp2_with (at_make; refine wpList_make_own _ rfl _ _ 22 rfl wo.heap.size 5 i0 (.int .u8 0) 1 Try.underlying22 hi hz0 hzz1 _ _ _ 19 rfl rfl (by omega) (by rw [hz2]; omega) (by unfold maxLen; omega) (Nat.le_refl _) ?_)
        intro w2 hown2 hgrow2
        have hb2 : Below wo.heap.size wo w2 := (Below.refl _ _).grown hgrow2 (Nat.le_refl _) (fun k h => by cases h)
        have hrev : ∀ j, j < k → w2.cell? ⟨w.heap.size, j, none⟩ = some (.int .u8 (d10 m j)) := fun j hj => (hb2.cell (by exact (hown.lt w.heap.size rfl).2)).trans (rev_read hk hj hown)
        have hlt0 : w.heap.size < wo.heap.size := (hown.lt w.heap.size rfl).2
        have HR := hid hrev
        clear hgrow2 hrev hown
        rw [show (18 - (k : Int)) = (p : Int) by omega]
        have HP := hid hp
        clear hp hpz
        obtain ⟨w3, rfl⟩ : ∃ w3 : World, w3 = w2 := ⟨_, rfl⟩
        have hb3 := hb2
        have HR3 := HR
        have hown3' : w3.ownsRow wo.heap.size 5 1 (.slice (some ⟨wo.heap.size, 0, none⟩) 0 19) 0 (zerosTo [] 0) := hown2
        clear hown2 hb2 HR
        go_wp2_with fail
        go_loopw [10, 11] (fun a i wr => ∃ t : Nat, t ≤ p ∧ i = .int .i64 t ∧ a = .slice (some ⟨wo.heap.size, 0, none⟩) (t) 19 ∧ wr.ownsRow wo.heap.size 5 1 (.slice (some ⟨wo.heap.size, 0, none⟩) (t) 19) (t) (zerosTo [] t) ∧ Below wo.heap.size w3 wr)
          (fun _ i _ => p - (intOf i).toNat)
        case atStart => exact ⟨0, by omega, rfl, rfl, hown3', Below.refl _ _⟩
        case round =>
          clear hown3'
          obtain ⟨t, ht, rfl, rfl, hown3, hb4⟩ := hrel
          have hsz : wo.heap.size ≤ wr.heap.size := Nat.le_trans hb3.size hb4.size
          by_cases htp : t < p
          · go_wp2_with (at_builtin; refine wpList_append_fits _ rfl _ _ 22 rfl wo.heap.size 5 i0 1 Try.underlying22 hi hzz1 wo.heap.size (t) 19 _ rfl (hown3.alloc _) ⟨wr.heap.size, 0, none⟩ 1 1 [.int .u8 48] rfl rfl (cell_one_new _ _ _) (by intro u hu; simp at hu; subst hu; rfl) (by omega) ?_)
            intro w4 hown4 hgrow4
            have hb5 : Below wo.heap.size w3 w4 := (hb4.alloc hsz _).grown hgrow4 (by simp; omega) (fun j h => by cases h; exact Nat.le_refl _)
            have hown5 : w4.ownsRow wo.heap.size 5 1 (.slice (some ⟨wo.heap.size, 0, none⟩) ((t + 1)) 19) ((t + 1)) (zerosTo [] (t + 1)) := by
              rw [zerosTo_succ]
              exact hown4
            clear hown4 hgrow4 hown3 hb4
            go_wp2
            go_roundw
            case rel => exact ⟨t + 1, by omega, by go_num, rfl, hown5, hb5⟩
            case measure => simp [intOf]; omega
          · have htp' : t = p := by omega
            subst htp'
            obtain ⟨w5, rfl⟩ : ∃ w5 : World, w5 = wr := ⟨_, rfl⟩
            rw [← textTo_zero [] t m k] at hown3
            have HR5 : Hid (∀ j, j < k → w5.cell? ⟨w.heap.size, j, none⟩ = some (.int .u8 (d10 m j))) := fun j hj => (hb4.cell (by exact hlt0)).trans (HR3.out j hj)
            have hb5 : Below wo.heap.size wo w5 := hb3.trans hb4
            clear HR3 hb4 hsz
            go_wp2_with fail
            go_loopw [10, 12] (fun a i wr => ∃ r : Nat, r ≤ k ∧ i = .int .i64 ((k : Int) - 1 - r) ∧ a = .slice (some ⟨wo.heap.size, 0, none⟩) (t + r) 19 ∧ wr.ownsRow wo.heap.size 5 1 (.slice (some ⟨wo.heap.size, 0, none⟩) (t + r) 19) (t + r) (textTo [] t m k r) ∧ Below wo.heap.size w5 wr)
              (fun _ i _ => (intOf i + 1).toNat)
            case atStart => exact ⟨0, by omega, by go_num, rfl, hown3, Below.refl _ _⟩
            case round =>
              clear hown3
              obtain ⟨r, hr, rfl, rfl, hown6, hb6⟩ := hrel
              have hsz : wo.heap.size ≤ wr.heap.size := Nat.le_trans hb5.size hb6.size
              by_cases hrk : r < k
              · have hcx : wr.cell? ⟨w.heap.size, k - 1 - r, none⟩ = some (.int .u8 (d10 m (k - 1 - r))) := (hb6.cell (by exact hlt0)).trans (HR5.out (k - 1 - r) (by omega))
                obtain ⟨x, hx⟩ : ∃ x, x = d10 m (k - 1 - r) := ⟨_, rfl⟩
                rw [← hx] at hcx
                have HXd := hid hx
                clear hx
                go_wp2_with (at_builtin; refine wpList_append_fits _ rfl _ _ 22 rfl wo.heap.size 5 i0 1 Try.underlying22 hi hzz1 wo.heap.size (t + r) 19 _ rfl (hown6.alloc _) ⟨wr.heap.size, 0, none⟩ 1 1 [.int .u8 x] rfl rfl (cell_one_new _ _ _) (by intro u hu; simp at hu; subst hu; rfl) (by omega) ?_)
                intro w7 hown7 hgrow7
                have hb7 : Below wo.heap.size w5 w7 := (hb6.alloc hsz _).grown hgrow7 (by simp; omega) (fun j h => by cases h; exact Nat.le_refl _)
                have hown8 : w7.ownsRow wo.heap.size 5 1 (.slice (some ⟨wo.heap.size, 0, none⟩) (t + (r + 1)) 19) (t + (r + 1)) (textTo [] t m k (r + 1)) := by
                  rw [textTo_succ, ← HXd.out]
                  exact hown7
                clear hown7 hgrow7 hown6 hb6
                go_wp2
                go_roundw
                case rel => exact ⟨r + 1, by omega, by go_num, rfl, hown8, hb7⟩
                case measure => simp [intOf]; omega
              · have hrk' : r = k := by omega
                subst hrk'
                obtain ⟨w9, rfl⟩ : ∃ w9 : World, w9 = wr := ⟨_, rfl⟩
                rw [textTo_all] at hown6
                have HO := zzShort (some ⟨wo.heap.size, 0, none⟩) (t + r) 19 (textOf [] t m r) w9 (own_reads' hown6) (by omega) (by omega) (textOf_bd (by simp))
                rw [show shortOf (textOf [] t m r) (t + r) = some n by rw [short_pos t m r HQ.out hk2 hp18, HM.out]] at HO
                simp only [Option.getD_some, Option.isSome_some] at HO
                have hb9 : Below w.heap.size w w9 := hb0.trans (((hb5.trans hb6).mono (Nat.le_of_lt hlt0)))
                have hs9 : w.heap.size ≤ w9.heap.size := hb9.size
                clear hown6
                go_wp2_with fail
                refine HO.mono ?_
                rintro e w10 ⟨rfl, hb10⟩
                clear HO
                go_wp2
                go_ret
                exact ⟨rfl, hb9.trans (hb10.mono hs9)⟩
      · obtain ⟨p, hp⟩ : ∃ p : Nat, p = z := ⟨_, rfl⟩
        have hp18 : p + k ≤ 18 := by omega
        obtain ⟨wo, rfl⟩ : ∃ wo : World, wo = wr := ⟨_, rfl⟩
        go_wp2_with (at_make; refine wpList_make_own _ rfl _ _ 22 rfl wo.heap.size 5 i0 (.int .u8 0) 1 Try.underlying22 hi hz0 hzz1 _ _ _ 19 rfl rfl (by omega) (by rw [hz2]; omega) (by unfold maxLen; omega) (Nat.le_refl _) ?_)
        intro w2 hown2 hgrow2
        have hb2 : Below wo.heap.size wo w2 := (Below.refl _ _).grown hgrow2 (Nat.le_refl _) (fun k h => by cases h)
        have hrev : ∀ j, j < k → w2.cell? ⟨w.heap.size, j, none⟩ = some (.int .u8 (d10 m j)) := fun j hj => (hb2.cell (by exact (hown.lt w.heap.size rfl).2)).trans (rev_read hk hj hown)
        have hlt0 : w.heap.size < wo.heap.size := (hown.lt w.heap.size rfl).2
        have HR := hid hrev
        clear hgrow2 hrev hown
        rw [← hp]
        have HP := hid hp
        clear hp hpz
        obtain ⟨w3, rfl⟩ : ∃ w3 : World, w3 = w2 := ⟨_, rfl⟩
        have hb3 := hb2
        have HR3 := HR
        have hown3' : w3.ownsRow wo.heap.size 5 1 (.slice (some ⟨wo.heap.size, 0, none⟩) 0 19) 0 (zerosTo [] 0) := hown2
        clear hown2 hb2 HR
        go_wp2_with fail
        go_loopw [10, 11] (fun a i wr => ∃ t : Nat, t ≤ p ∧ i = .int .i64 t ∧ a = .slice (some ⟨wo.heap.size, 0, none⟩) (t) 19 ∧ wr.ownsRow wo.heap.size 5 1 (.slice (some ⟨wo.heap.size, 0, none⟩) (t) 19) (t) (zerosTo [] t) ∧ Below wo.heap.size w3 wr)
          (fun _ i _ => p - (intOf i).toNat)
        case atStart => exact ⟨0, by omega, rfl, rfl, hown3', Below.refl _ _⟩
        case round =>
          clear hown3'
          obtain ⟨t, ht, rfl, rfl, hown3, hb4⟩ := hrel
          have hsz : wo.heap.size ≤ wr.heap.size := Nat.le_trans hb3.size hb4.size
          by_cases htp : t < p
          · go_wp2_with (at_builtin; refine wpList_append_fits _ rfl _ _ 22 rfl wo.heap.size 5 i0 1 Try.underlying22 hi hzz1 wo.heap.size (t) 19 _ rfl (hown3.alloc _) ⟨wr.heap.size, 0, none⟩ 1 1 [.int .u8 48] rfl rfl (cell_one_new _ _ _) (by intro u hu; simp at hu; subst hu; rfl) (by omega) ?_)
            intro w4 hown4 hgrow4
            have hb5 : Below wo.heap.size w3 w4 := (hb4.alloc hsz _).grown hgrow4 (by simp; omega) (fun j h => by cases h; exact Nat.le_refl _)
            have hown5 : w4.ownsRow wo.heap.size 5 1 (.slice (some ⟨wo.heap.size, 0, none⟩) ((t + 1)) 19) ((t + 1)) (zerosTo [] (t + 1)) := by
              rw [zerosTo_succ]
              exact hown4
            clear hown4 hgrow4 hown3 hb4
            go_wp2
            go_roundw
            case rel => exact ⟨t + 1, by omega, by go_num, rfl, hown5, hb5⟩
            case measure => simp [intOf]; omega
          · have htp' : t = p := by omega
            subst htp'
            obtain ⟨w5, rfl⟩ : ∃ w5 : World, w5 = wr := ⟨_, rfl⟩
            rw [← textTo_zero [] t m k] at hown3
            have HR5 : Hid (∀ j, j < k → w5.cell? ⟨w.heap.size, j, none⟩ = some (.int .u8 (d10 m j))) := fun j hj => (hb4.cell (by exact hlt0)).trans (HR3.out j hj)
            have hb5 : Below wo.heap.size wo w5 := hb3.trans hb4
            clear HR3 hb4 hsz
            go_wp2_with fail
            go_loopw [10, 12] (fun a i wr => ∃ r : Nat, r ≤ k ∧ i = .int .i64 ((k : Int) - 1 - r) ∧ a = .slice (some ⟨wo.heap.size, 0, none⟩) (t + r) 19 ∧ wr.ownsRow wo.heap.size 5 1 (.slice (some ⟨wo.heap.size, 0, none⟩) (t + r) 19) (t + r) (textTo [] t m k r) ∧ Below wo.heap.size w5 wr)
              (fun _ i _ => (intOf i + 1).toNat)
            case atStart => exact ⟨0, by omega, by go_num, rfl, hown3, Below.refl _ _⟩
            case round =>
              clear hown3
              obtain ⟨r, hr, rfl, rfl, hown6, hb6⟩ := hrel
              have hsz : wo.heap.size ≤ wr.heap.size := Nat.le_trans hb5.size hb6.size
              by_cases hrk : r < k
              · have hcx : wr.cell? ⟨w.heap.size, k - 1 - r, none⟩ = some (.int .u8 (d10 m (k - 1 - r))) := (hb6.cell (by exact hlt0)).trans (HR5.out (k - 1 - r) (by omega))
                obtain ⟨x, hx⟩ : ∃ x, x = d10 m (k - 1 - r) := ⟨_, rfl⟩
                rw [← hx] at hcx
                have HXd := hid hx
                clear hx
                go_wp2_with (at_builtin; refine wpList_append_fits _ rfl _ _ 22 rfl wo.heap.size 5 i0 1 Try.underlying22 hi hzz1 wo.heap.size (t + r) 19 _ rfl (hown6.alloc _) ⟨wr.heap.size, 0, none⟩ 1 1 [.int .u8 x] rfl rfl (cell_one_new _ _ _) (by intro u hu; simp at hu; subst hu; rfl) (by omega) ?_)
                intro w7 hown7 hgrow7
                have hb7 : Below wo.heap.size w5 w7 := (hb6.alloc hsz _).grown hgrow7 (by simp; omega) (fun j h => by cases h; exact Nat.le_refl _)
                have hown8 : w7.ownsRow wo.heap.size 5 1 (.slice (some ⟨wo.heap.size, 0, none⟩) (t + (r + 1)) 19) (t + (r + 1)) (textTo [] t m k (r + 1)) := by
                  rw [textTo_succ, ← HXd.out]
                  exact hown7
                clear hown7 hgrow7 hown6 hb6
                go_wp2
                go_roundw
                case rel => exact ⟨r + 1, by omega, by go_num, rfl, hown8, hb7⟩
                case measure => simp [intOf]; omega
              · have hrk' : r = k := by omega
                subst hrk'
                obtain ⟨w9, rfl⟩ : ∃ w9 : World, w9 = wr := ⟨_, rfl⟩
                rw [textTo_all] at hown6
                have HO := zzShort (some ⟨wo.heap.size, 0, none⟩) (t + r) 19 (textOf [] t m r) w9 (own_reads' hown6) (by omega) (by omega) (textOf_bd (by simp))
                rw [show shortOf (textOf [] t m r) (t + r) = some n by rw [short_pos t m r HQ.out hk2 hp18, HM.out]] at HO
                simp only [Option.getD_some, Option.isSome_some] at HO
                have hb9 : Below w.heap.size w w9 := hb0.trans (((hb5.trans hb6).mono (Nat.le_of_lt hlt0)))
                have hs9 : w.heap.size ≤ w9.heap.size := hb9.size
                clear hown6
                go_wp2_with fail
                refine HO.mono ?_
                rintro e w10 ⟨rfl, hb10⟩
                clear HO
                go_wp2
                go_ret
                exact ⟨rfl, hb9.trans (hb10.mono hs9)⟩


end Go.Proofs.Qxb6603405a
