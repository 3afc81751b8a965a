/-
  What a Shape says, with no Go in sight: the reading of k items off a list, its weight, and the same reading by a stack of pending runs.
-/
namespace Go.Proofs.Qxb6604394a

/-- What a reading comes to: the exact weight; no count negative; every count at least 1; it ran past the end; what is left. -/
structure Rd where
  w : Nat
  nn : Bool
  pos : Bool
  sh : Bool
  rest : List Int

def Rd.add (a b : Rd) : Rd := ⟨a.w + b.w, a.nn && b.nn, a.pos && b.pos, a.sh || b.sh, b.rest⟩
def zeroRd (l : List Int) : Rd := ⟨0, true, true, false, l⟩

/-- One item that opens with x, the rest being r; R reads items further down. -/
def item (R : Nat → List Int → Option Rd) (x : Int) (r : List Int) : Option Rd :=
  if x = -4 then
    match r with
    | [] => none
    | c :: r' => (R 1 r').map fun a => ⟨1 + c.toNat * a.w, decide (0 ≤ c) && a.nn, decide (1 ≤ c) && a.pos, a.sh, a.rest⟩
  else if 0 < x then (R x.toNat r).map fun a => ⟨1 + a.w, a.nn, a.pos, a.sh, a.rest⟩
  else some ⟨if x = -3 then 2 else 1, true, true, false, r⟩

/-- k items off l, with fuel. -/
def items : Nat → Nat → List Int → Option Rd
  | 0, k, l => match k, l with
    | 0, l => some (zeroRd l)
    | k + 1, [] => some ⟨k + 1, true, true, true, []⟩
    | _ + 1, _ :: _ => none
  | f + 1, k, l => match k, l with
    | 0, l => some (zeroRd l)
    | k + 1, [] => some ⟨k + 1, true, true, true, []⟩
    | k + 1, x :: r => (item (items f) x r).bind fun a => (items f k a.rest).map a.add

theorem items_zero (f : Nat) (l : List Int) : items f 0 l = some (zeroRd l) := by cases f <;> rfl
theorem items_nil (f k : Nat) : items f (k + 1) [] = some ⟨k + 1, true, true, true, []⟩ := by cases f <;> rfl
theorem items_cons (f k : Nat) (x : Int) (r : List Int) : items (f + 1) (k + 1) (x :: r) = (item (items f) x r).bind fun a => (items f k a.rest).map a.add := rfl
theorem items_out (k : Nat) (x : Int) (r : List Int) : items 0 (k + 1) (x :: r) = none := rfl

theorem add_zero (a : Rd) : a.add (zeroRd a.rest) = a := by
  cases a
  simp [Rd.add, zeroRd]

theorem item_mono {R R' : Nat → List Int → Option Rd} (h : ∀ k l a, R k l = some a → R' k l = some a) {x : Int} {r : List Int} {a : Rd} (hi : item R x r = some a) : item R' x r = some a := by
  unfold item at hi ⊢
  split at hi
  · rename_i h4
    rw [if_pos h4]
    cases r with
    | nil => cases hi
    | cons c r' =>
      simp only [Option.map_eq_some_iff] at hi ⊢
      obtain ⟨b, hb, e⟩ := hi
      exact ⟨b, h _ _ _ hb, e⟩
  · rename_i h4
    rw [if_neg h4]
    split at hi
    · rename_i h0
      rw [if_pos h0]
      simp only [Option.map_eq_some_iff] at hi ⊢
      obtain ⟨b, hb, e⟩ := hi
      exact ⟨b, h _ _ _ hb, e⟩
    · rename_i h0
      rw [if_neg h0]
      exact hi

theorem items_succ : ∀ (f k : Nat) (l : List Int) (a : Rd), items f k l = some a → items (f + 1) k l = some a
  | f, 0, l, a, h => by rw [items_zero] at h ⊢; exact h
  | f, k + 1, [], a, h => by rw [items_nil] at h ⊢; exact h
  | 0, k + 1, x :: r, a, h => by rw [items_out] at h; cases h
  | f + 1, k + 1, x :: r, a, h => by
    rw [items_cons] at h ⊢
    simp only [Option.bind_eq_some_iff, Option.map_eq_some_iff] at h ⊢
    obtain ⟨b, hb, c, hc, e⟩ := h
    exact ⟨b, item_mono (items_succ f) hb, c, items_succ f k _ _ hc, e⟩
theorem items_le {f f' k : Nat} {l : List Int} {a : Rd} (h : items f k l = some a) (hf : f ≤ f') : items f' k l = some a := by
  obtain ⟨d, rfl⟩ := Nat.le.dest hf
  clear hf
  induction d with
  | zero => exact h
  | succ d ih => exact items_succ _ _ _ _ ih

/-- One item alone. -/
theorem items_one (f : Nat) (x : Int) (r : List Int) : items (f + 1) 1 (x :: r) = item (items f) x r := by
  rw [items_cons]
  cases item (items f) x r with
  | none => rfl
  | some a => rw [Option.bind_some, items_zero, Option.map_some, add_zero]

theorem items_split {f k : Nat} {l : List Int} {b : Rd} (h : items f (k + 1) l = some b) : ∃ c b', items f 1 l = some c ∧ items f k c.rest = some b' ∧ b = c.add b' := by
  cases l with
  | nil =>
    rw [items_nil] at h
    cases h
    cases k with
    | zero => exact ⟨_, zeroRd [], items_nil f 0, items_zero f [], rfl⟩
    | succ k' => exact ⟨_, ⟨k' + 1, true, true, true, []⟩, items_nil f 0, items_nil f k', by simp [Rd.add]; omega⟩
  | cons x r =>
    cases f with
    | zero => rw [items_out] at h; cases h
    | succ f =>
      rw [items_cons] at h
      simp only [Option.bind_eq_some_iff, Option.map_eq_some_iff] at h
      obtain ⟨a, ha, c, hc, e⟩ := h
      exact ⟨a, c, by rw [items_one]; exact ha, items_succ _ _ _ _ hc, e.symm⟩

theorem items_join {f k : Nat} {l : List Int} {c b : Rd} (h1 : items f 1 l = some c) (h2 : items f k c.rest = some b) : items (f + 1) (k + 1) l = some (c.add b) := by
  cases l with
  | nil =>
    rw [items_nil] at h1 ⊢
    cases h1
    cases k with
    | zero => rw [items_zero] at h2; cases h2; rfl
    | succ k' => rw [items_nil] at h2; cases h2; simp [Rd.add]; omega
  | cons x r =>
    cases f with
    | zero => rw [items_out] at h1; cases h1
    | succ f =>
      rw [items_one] at h1
      rw [items_cons]
      simp only [Option.bind_eq_some_iff, Option.map_eq_some_iff]
      exact ⟨c, item_mono (items_succ f) h1, b, h2, rfl⟩

/-! ### The stack of pending runs -/
def readS (f : Nat) : List (Nat × Nat) → List Int → Option Rd
  | [], l => some (zeroRd l)
  | (m, k) :: st, l => (items f k l).bind fun a => (readS f st a.rest).map fun b => ⟨m * a.w + b.w, a.nn && b.nn, a.pos && b.pos, a.sh || b.sh, b.rest⟩
def Read (st : List (Nat × Nat)) (l : List Int) (r : Rd) : Prop := ∃ f, readS f st l = some r

theorem readS_le {f f' : Nat} (hf : f ≤ f') : ∀ {st : List (Nat × Nat)} {l : List Int} {r : Rd}, readS f st l = some r → readS f' st l = some r
  | [], l, r, h => h
  | (m, k) :: st, l, r, h => by
    rw [readS] at h ⊢
    simp only [Option.bind_eq_some_iff, Option.map_eq_some_iff] at h ⊢
    obtain ⟨a, ha, b, hb, e⟩ := h
    exact ⟨a, items_le ha hf, b, readS_le hf hb, e⟩

theorem read_cons {m k : Nat} {st : List (Nat × Nat)} {l : List Int} {r : Rd} : Read ((m, k) :: st) l r ↔ ∃ f a b, items f k l = some a ∧ readS f st a.rest = some b ∧ r = ⟨m * a.w + b.w, a.nn && b.nn, a.pos && b.pos, a.sh || b.sh, b.rest⟩ := by
  unfold Read
  simp only [readS, Option.bind_eq_some_iff, Option.map_eq_some_iff]
  constructor
  · rintro ⟨f, a, ha, b, hb, e⟩
    exact ⟨f, a, b, ha, hb, e.symm⟩
  · rintro ⟨f, a, b, ha, hb, e⟩
    exact ⟨f, a, ha, b, hb, e.symm⟩

/-- The run that has no item left is gone. -/
def keep (m k : Nat) (st : List (Nat × Nat)) : List (Nat × Nat) := if k = 0 then st else (m, k) :: st
theorem read_keep {m k : Nat} {st : List (Nat × Nat)} {l : List Int} {r : Rd} (h : Read (keep m k st) l r) : Read ((m, k) :: st) l r := by
  unfold keep at h
  split at h
  · rename_i h0
    subst h0
    obtain ⟨f, hf⟩ := h
    refine read_cons.2 ⟨f, zeroRd l, r, items_zero f l, hf, ?_⟩
    cases r
    simp [zeroRd]
  · exact h

theorem read_leaf {m k : Nat} {st : List (Nat × Nat)} {x : Int} {l : List Int} {r : Rd} (h4 : x ≠ -4) (h0 : ¬ 0 < x) (h : Read (keep m k st) l r) :
    Read ((m, k + 1) :: st) (x :: l) ⟨(if x = -3 then 2 * m else m) + r.w, r.nn, r.pos, r.sh, r.rest⟩ := by
  obtain ⟨f, a, b, ha, hb, e⟩ := read_cons.1 (read_keep h)
  subst e
  have hi : item (items f) x l = some ⟨if x = -3 then 2 else 1, true, true, false, l⟩ := by
    unfold item
    rw [if_neg h4, if_neg h0]
  refine read_cons.2 ⟨f + 1, Rd.add ⟨if x = -3 then 2 else 1, true, true, false, l⟩ a, b, ?_, readS_le (by omega) hb, ?_⟩
  · rw [items_cons, hi, Option.bind_some]
    show (items f k l).map _ = _
    rw [ha]
    rfl
  · by_cases h3 : x = -3
    · simp only [if_pos h3, Rd.add, Nat.mul_add, Bool.true_and, Bool.false_or]
      congr 1
      omega
    · simp only [if_neg h3, Rd.add, Nat.mul_add, Bool.true_and, Bool.false_or]
      congr 1
      omega

theorem read_struct {m k : Nat} {st : List (Nat × Nat)} {x : Int} {l : List Int} {r : Rd} (h0 : 0 < x) (h : Read ((m, x.toNat) :: keep m k st) l r) :
    Read ((m, k + 1) :: st) (x :: l) ⟨m + r.w, r.nn, r.pos, r.sh, r.rest⟩ := by
  obtain ⟨f1, a, b1, ha, hb1, e1⟩ := read_cons.1 h
  obtain ⟨f2, b, d, hb, hd, e2⟩ := read_cons.1 (read_keep ⟨f1, hb1⟩)
  subst e1 e2
  have ha' := items_le ha (Nat.le_add_right f1 f2)
  have hb' := items_le hb (Nat.le_add_left f2 f1)
  have hi : item (items (f1 + f2)) x l = some ⟨1 + a.w, a.nn, a.pos, a.sh, a.rest⟩ := by
    unfold item
    rw [if_neg (by omega), if_pos h0, ha']
    rfl
  refine read_cons.2 ⟨f1 + f2 + 1, Rd.add ⟨1 + a.w, a.nn, a.pos, a.sh, a.rest⟩ b, d, ?_, readS_le (by omega) hd, ?_⟩
  · rw [items_cons, hi, Option.bind_some]
    show (items (f1 + f2) k a.rest).map _ = _
    rw [hb']
    rfl
  · simp only [Rd.add, Nat.mul_add, Nat.mul_one, Bool.and_assoc, Bool.or_assoc]
    congr 1
    omega

theorem read_array {m k : Nat} {st : List (Nat × Nat)} {c : Int} {l : List Int} {r : Rd} (h : Read ((m * c.toNat, 1) :: keep m k st) l r) :
    Read ((m, k + 1) :: st) (-4 :: c :: l) ⟨m + r.w, decide (0 ≤ c) && r.nn, decide (1 ≤ c) && r.pos, r.sh, r.rest⟩ := by
  obtain ⟨f1, a, b1, ha, hb1, e1⟩ := read_cons.1 h
  obtain ⟨f2, b, d, hb, hd, e2⟩ := read_cons.1 (read_keep ⟨f1, hb1⟩)
  subst e1 e2
  have ha' := items_le ha (Nat.le_add_right f1 f2)
  have hb' := items_le hb (Nat.le_add_left f2 f1)
  have hi : item (items (f1 + f2)) (-4) (c :: l) = some ⟨1 + c.toNat * a.w, decide (0 ≤ c) && a.nn, decide (1 ≤ c) && a.pos, a.sh, a.rest⟩ := by
    unfold item
    rw [if_pos rfl]
    show (items (f1 + f2) 1 l).map _ = _
    rw [ha']
    rfl
  refine read_cons.2 ⟨f1 + f2 + 1, Rd.add ⟨1 + c.toNat * a.w, decide (0 ≤ c) && a.nn, decide (1 ≤ c) && a.pos, a.sh, a.rest⟩ b, d, ?_, readS_le (by omega) hd, ?_⟩
  · rw [items_cons, hi, Option.bind_some]
    show (items (f1 + f2) k a.rest).map _ = _
    rw [hb']
    rfl
  · simp only [Rd.add, Nat.mul_add, Nat.mul_one, Bool.and_assoc, Bool.or_assoc, Nat.mul_assoc]
    congr 1
    omega

/-- What the pending runs weigh where nothing is left to read. -/
def sumS : List (Nat × Nat) → Nat
  | [] => 0
  | (m, k) :: st => m * k + sumS st
theorem read_end : ∀ {st : List (Nat × Nat)}, (∀ p ∈ st, 1 ≤ p.2) → readS 0 st [] = some ⟨sumS st, true, true, !st.isEmpty, []⟩
  | [], _ => rfl
  | (m, k) :: st, h => by
    have hk : 1 ≤ k := h (m, k) (List.mem_cons_self ..)
    obtain ⟨k', rfl⟩ : ∃ k', k = k' + 1 := ⟨k - 1, by omega⟩
    rw [readS, items_nil, Option.bind_some]
    show (readS 0 st []).map _ = _
    rw [read_end fun p hp => h p (List.mem_cons_of_mem _ hp)]
    rfl

/-! ### What follows does not matter; every count at least 1 is none negative; a weight is at least 1 -/
theorem item_append {R : Nat → List Int → Option Rd} (b : List Int) (h : ∀ k l a, R k l = some a → a.sh = false → R k (l ++ b) = some ⟨a.w, a.nn, a.pos, a.sh, a.rest ++ b⟩) {x : Int} {r : List Int} {a : Rd} (hi : item R x r = some a) (hs : a.sh = false) :
    item R x (r ++ b) = some ⟨a.w, a.nn, a.pos, a.sh, a.rest ++ b⟩ := by
  unfold item at hi ⊢
  split at hi
  · rename_i h4
    rw [if_pos h4]
    cases r with
    | nil => cases hi
    | cons c r' =>
      simp only [Option.map_eq_some_iff] at hi
      obtain ⟨d, hd, e⟩ := hi
      subst e
      show (R 1 (r' ++ b)).map _ = _
      rw [h _ _ _ hd hs]
      rfl
  · rename_i h4
    rw [if_neg h4]
    split at hi
    · rename_i h0
      rw [if_pos h0]
      simp only [Option.map_eq_some_iff] at hi
      obtain ⟨d, hd, e⟩ := hi
      subst e
      rw [h _ _ _ hd hs]
      rfl
    · rename_i h0
      rw [if_neg h0]
      cases hi
      rfl
theorem items_append (b : List Int) : ∀ (f k : Nat) (l : List Int) (a : Rd), items f k l = some a → a.sh = false → items f k (l ++ b) = some ⟨a.w, a.nn, a.pos, a.sh, a.rest ++ b⟩
  | f, 0, l, a, h, _ => by rw [items_zero] at h ⊢; cases h; rfl
  | f, k + 1, [], a, h, hs => by rw [items_nil] at h; cases h; cases hs
  | 0, k + 1, x :: r, a, h, _ => by rw [items_out] at h; cases h
  | f + 1, k + 1, x :: r, a, h, hs => by
    rw [items_cons] at h
    simp only [Option.bind_eq_some_iff, Option.map_eq_some_iff] at h
    obtain ⟨c, hc, d, hd, e⟩ := h
    subst e
    simp only [Rd.add, Bool.or_eq_false_iff] at hs
    rw [List.cons_append, items_cons, item_append b (items_append b f) hc hs.1, Option.bind_some]
    show (items f k (c.rest ++ b)).map _ = _
    rw [items_append b f k _ _ hd hs.2]
    rfl

theorem item_nn {R : Nat → List Int → Option Rd} (h : ∀ k l a, R k l = some a → a.pos = true → a.nn = true) {x : Int} {r : List Int} {a : Rd} (hi : item R x r = some a) (hp : a.pos = true) : a.nn = true := by
  unfold item at hi
  split at hi
  · cases r with
    | nil => cases hi
    | cons c r' =>
      simp only [Option.map_eq_some_iff] at hi
      obtain ⟨d, hd, e⟩ := hi
      subst e
      simp only [Bool.and_eq_true, decide_eq_true_eq] at hp ⊢
      exact ⟨by omega, h _ _ _ hd hp.2⟩
  · split at hi
    · simp only [Option.map_eq_some_iff] at hi
      obtain ⟨d, hd, e⟩ := hi
      subst e
      exact h _ _ d hd hp
    · cases hi
      rfl
theorem items_nn : ∀ (f k : Nat) (l : List Int) (a : Rd), items f k l = some a → a.pos = true → a.nn = true
  | f, 0, l, a, h, _ => by rw [items_zero] at h; cases h; rfl
  | f, k + 1, [], a, h, _ => by rw [items_nil] at h; cases h; rfl
  | 0, k + 1, x :: r, a, h, _ => by rw [items_out] at h; cases h
  | f + 1, k + 1, x :: r, a, h, hp => by
    rw [items_cons] at h
    simp only [Option.bind_eq_some_iff, Option.map_eq_some_iff] at h
    obtain ⟨c, hc, d, hd, e⟩ := h
    subst e
    simp only [Rd.add, Bool.and_eq_true] at hp ⊢
    exact ⟨item_nn (items_nn f) hc hp.1, items_nn f k _ _ hd hp.2⟩

theorem item_pos {R : Nat → List Int → Option Rd} {x : Int} {r : List Int} {a : Rd} (hi : item R x r = some a) : 1 ≤ a.w := by
  unfold item at hi
  split at hi
  · cases r with
    | nil => cases hi
    | cons c r' =>
      simp only [Option.map_eq_some_iff] at hi
      obtain ⟨d, hd, e⟩ := hi
      subst e
      exact Nat.le_add_right 1 _
  · split at hi
    · simp only [Option.map_eq_some_iff] at hi
      obtain ⟨d, hd, e⟩ := hi
      subst e
      exact Nat.le_add_right 1 _
    · cases hi
      show 1 ≤ if x = -3 then 2 else 1
      split <;> omega
theorem items_pos {f : Nat} {l : List Int} {a : Rd} (h : items f 1 l = some a) : 1 ≤ a.w := by
  cases l with
  | nil => rw [items_nil] at h; cases h; exact Nat.le_refl 1
  | cons x r =>
    cases f with
    | zero => rw [items_out] at h; cases h
    | succ f => rw [items_one] at h; exact item_pos h

end Go.Proofs.Qxb6604394a
