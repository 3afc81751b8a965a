/-
  FnShortIntegerMatchesPlaceValueModel: the walk.
-/
import Derived.Test.Qxb6603405aInt
namespace Go.Proofs.Qxb6603405a
open Go.RowKit

/-- The sum of the last t digits of m, each times ten to its place from the right. -/
def plTo (ds : List Int) (m : Nat) : Nat → Int
  | 0 => 0
  | t + 1 => plTo ds m t + (ds.getD (m - 1 - t) 0 - 48) * 10 ^ t
/-- The digits from place a on are digits. -/
def AllDig (ds : List Int) (m a : Nat) : Prop := ∀ j, a ≤ j → j < m → 48 ≤ ds.getD j 0 ∧ ds.getD j 0 ≤ 57

theorem dig_of_some {ds : List Int} : ∀ {m : Nat} {x : Int}, intTo ds m = some x → AllDig ds m 0
  | 0, _, _ => fun j _ h => absurd h (by omega)
  | m + 1, x, h => by
    rw [intTo] at h
    cases h1 : intTo ds m with
    | none => rw [h1] at h; cases h
    | some y =>
      rw [h1, Option.bind_some] at h
      split at h
      · rename_i hd
        intro j h0 hj
        by_cases hjm : j = m
        · subst hjm; exact hd
        · exact dig_of_some h1 j h0 (by omega)
      · cases h
theorem some_of_dig {ds : List Int} : ∀ {m : Nat}, AllDig ds m 0 → intTo ds m ≠ none
  | 0, _ => by simp [intTo]
  | m + 1, h => by
    rw [intTo]
    have hd := h m (by omega) (by omega)
    cases h1 : intTo ds m with
    | none => exact absurd h1 (some_of_dig fun j h0 hj => h j h0 (by omega))
    | some y => rw [Option.bind_some, if_pos hd]; simp
theorem plTo_bound {ds : List Int} {m : Nat} : ∀ {t : Nat}, t ≤ m → AllDig ds m (m - t) → 0 ≤ plTo ds m t ∧ plTo ds m t < 10 ^ t
  | 0, _, _ => by simp [plTo]
  | t + 1, ht, h => by
    have ih := plTo_bound (t := t) (by omega) (fun j h0 hj => h j (by omega) hj)
    have hd := h (m - 1 - t) (by omega) (by omega)
    have hp : (0 : Int) < 10 ^ t := Int.pow_pos (by decide)
    rw [plTo, Int.pow_succ]
    generalize ds.getD (m - 1 - t) 0 = c at hd ⊢
    generalize plTo ds m t = V at ih ⊢
    generalize (10 : Int) ^ t = P at ih hp ⊢
    have h1 : 0 ≤ (c - 48) * P := Int.mul_nonneg (by omega) (by omega)
    have h2 : (c - 48) * P ≤ 9 * P := Int.mul_le_mul_of_nonneg_right (by omega) (by omega)
    omega
theorem split_at {ds : List Int} {m : Nat} {x : Int} (h : intTo ds m = some x) : ∀ t, t ≤ m → ∃ y, intTo ds (m - t) = some y ∧ x = y * 10 ^ t + plTo ds m t
  | 0, _ => ⟨x, h, by simp [plTo]⟩
  | t + 1, ht => by
    obtain ⟨y, hy, e⟩ := split_at h t (by omega)
    rw [show m - t = (m - (t + 1)) + 1 by omega, intTo] at hy
    cases h1 : intTo ds (m - (t + 1)) with
    | none => rw [h1] at hy; cases hy
    | some z =>
      rw [h1, Option.bind_some] at hy
      split at hy
      · cases hy
        refine ⟨z, rfl, ?_⟩
        rw [e, plTo, show m - 1 - t = m - (t + 1) by omega, Int.pow_succ, Int.add_mul, Int.mul_assoc, Int.mul_comm 10 ((10 : Int) ^ t)]
        omega
      · cases hy
theorem plTo_all {ds : List Int} {m : Nat} {x : Int} (h : intTo ds m = some x) : plTo ds m m = x := by
  obtain ⟨y, hy, e⟩ := split_at h m (Nat.le_refl _)
  rw [Nat.sub_self] at hy
  cases hy
  rw [e]
  omega
theorem prod_bd {c P : Int} {t : Nat} (h1 : 48 ≤ c) (h2 : c ≤ 57) (hP : P = 10 ^ t) (ht : t ≤ 17) : 0 ≤ (c - 48) * P ∧ (c - 48) * P ≤ 900000000000000000 ∧ 0 ≤ P ∧ P ≤ 100000000000000000 := by
  have hp : (0 : Int) < 10 ^ t := Int.pow_pos (by decide)
  have hq := pow10_le17 ht
  subst hP
  generalize (10 : Int) ^ t = P at *
  have h3 : 0 ≤ (c - 48) * P := Int.mul_nonneg (by omega) (by omega)
  have h4 : (c - 48) * P ≤ 9 * P := Int.mul_le_mul_of_nonneg_right (by omega) (by omega)
  omega

theorem zz16_yes (ao : Option Addr) (n cap : Nat) (w : World) (hn : n ≤ 1048576) :
    Calls Try.prog 16 #[.slice ao n cap] w fun e w' => e = .returned (.bool true) ∧ w' = w := by
  go_enter Try.func16, Try.ntmps16
  go_wp2
  go_ret
  exact ⟨rfl, rfl⟩
theorem zz16_no (ao : Option Addr) (n cap : Nat) (w : World) (hn : 1048576 < n) :
    Calls Try.prog 16 #[.slice ao n cap] w fun e w' => e = .returned (.bool false) ∧ w' = w := by
  go_enter Try.func16, Try.ntmps16
  go_wp2
  go_ret
  exact ⟨rfl, rfl⟩
theorem place_no (ao : Option Addr) (n cap : Nat) (w : World) (hn : 1048576 < n) :
    Calls Try.prog 5 #[.slice ao n cap] w fun e w' => e = .returned (.bool true) ∧ w' = w := by
  go_enter Try.func5, Try.ntmps5
  go_wp2_with (go_at_call 16; refine (zz16_no _ _ _ _ hn).mono ?_; rintro e w' ⟨rfl, rfl⟩)
  go_ret
  exact ⟨rfl, rfl⟩

set_option maxHeartbeats 400000 in
theorem place_neg_some (ao : Option Addr) (n m cap : Nat) (hn1 : n ≤ m + 1) (hn2 : m + 1 ≤ n) (zs : List Int) (w : World) (hl : n ≤ zs.length) (hz : ∀ j, 0 ≤ zs.getD j 0 ∧ zs.getD j 0 ≤ 255) (hr : Reads w ao n zs) (h45 : zs.getD 0 0 = 45) (hm1 : 1 ≤ m) (hm2 : m ≤ 18) (x : Int) (hx : intTo (zs.drop 1) m = some x) :
    Calls Try.prog 5 #[.slice ao n cap] w fun e w' => e = .returned (.bool true) ∧ Below w.heap.size w w' := by
  have HZ := hid hz
  have HX := hid hx
  have HS : Hid (shortOf zs n = some (-x)) := by
    show shortOf zs n = some (-x)
    have e : cutNeg zs n = true := by unfold cutNeg; rw [h45]; simp; omega
    unfold shortOf cutList cutLen
    rw [e]
    show signed true (digitsOf (zs.drop 1) (n - 1)) = some (-x)
    unfold digitsOf
    rw [show n - 1 = m by omega, if_neg (by omega), hx]
    rfl
  have H45 := hid h45
  have hn20 : n ≤ 1048576 := by omega
  clear hz hx h45
  go_enter Try.func5, Try.ntmps5
  go_wp2_with (go_at_call 16; refine (zz16_yes _ _ _ _ hn20).mono ?_; rintro e w' ⟨rfl, rfl⟩)
  refine (clone_any ao n cap zs _ (by omega) hl hr).mono ?_
  rintro e w1 ⟨ao1, c1, rfl, hc1, hc2, hr1, hb1⟩
  clear hr
  have HO := zzShort ao1 n c1 zs w1 hr1 hc1 (by omega) HZ.out
  rw [HS.out] at HO
  simp only [Option.getD_some, Option.isSome_some] at HO
  have HO' := hid HO
  clear HO HS
  go_wp2_with fail
  refine HO'.out.mono ?_
  rintro e w2 ⟨rfl, hb2⟩
  clear HO'
  have hr2 := hr1.later hb2
  obtain ⟨g, off, rfl, hg, hc⟩ := hr2 (by omega)
  have hbb : Below w'.heap.size w' w2 := hb1.trans (hb2.mono hb1.size)
  have hcell0 := hc 0 (by omega)
  rw [Nat.add_zero, H45.out] at hcell0
  have HC := hid hc
  clear hc hr1 hr2 hb1 hb2
  go_wp2
  go_loop [8, 9, 10] (fun a b i => ∃ (t : Nat) (V P : Int), t ≤ m ∧ i = .int .i64 ((m : Int) - t) ∧ a = .int .i64 (-V) ∧ b = .int .i64 P ∧ V = plTo (zs.drop 1) m t ∧ (t < m → P = 10 ^ t) ∧ AllDig (zs.drop 1) m (m - t))
    (fun _ _ i => (intOf i + 1).toNat)
  case atStart => exact ⟨0, 0, 1, by omega, by go_num, rfl, rfl, rfl, fun _ => rfl, fun j h0 hj => absurd hj (by omega)⟩
  case round =>
    clear hcell0
    obtain ⟨t, V, P, ht, rfl, rfl, rfl, hV, hP, hA⟩ := hrel
    have hVb := plTo_bound ht hA
    rw [← hV] at hVb
    have HV := hid hV
    have HA := hid hA
    have HP := hid hP
    clear hV hA hP
    by_cases hlt : t < m
    · have hcx := HC.out (m - t) (by omega)
      have hcz := HZ.out (m - t)
      have hdz : (zs.drop 1).getD (m - 1 - t) 0 = zs.getD (m - t) 0 := by rw [getD_drop_one, show m - 1 - t + 1 = m - t by omega]
      obtain ⟨c, hce⟩ : ∃ c, c = zs.getD (m - t) 0 := ⟨_, rfl⟩
      rw [← hce] at hcx hcz
      have HD := hid (hdz.trans hce.symm)
      clear hdz hce
      have hV17 : V ≤ 100000000000000000 := by
        have := pow10_le17 (show t ≤ 17 by omega)
        omega
      have hV0 := hVb.1
      clear hVb
      have hdig := dig_of_some HX.out (m - 1 - t) (by omega) (by omega)
      rw [HD.out] at hdig
      obtain ⟨hd48, hd57⟩ := hdig
      have HDP := prod_bd hd48 hd57 (HP.out hlt) (by omega)
      obtain ⟨D, hD⟩ : ∃ D, D = (c - 48) * P := ⟨_, rfl⟩
      rw [← hD] at HDP
      have hDw : wrap64 ((c - 48) * P) = D := by rw [← hD]; exact IntWalk.wrap64_in D ⟨by omega, by omega⟩
      have HDe := hid hD
      obtain ⟨hD0, hD1, hP0, hP1⟩ := HDP
      clear hD
      have HV2 : Hid (V + D = plTo (zs.drop 1) m (t + 1)) := by
        show V + D = plTo (zs.drop 1) m (t + 1)
        rw [plTo, ← HV.out, HD.out, HDe.out, HP.out hlt]
      have HA2 : Hid (AllDig (zs.drop 1) m (m - (t + 1))) := by
        intro j h0 hj
        by_cases hjm : j = m - 1 - t
        · subst hjm
          rw [HD.out]
          exact ⟨hd48, hd57⟩
        · exact HA.out j (by omega) hj
      by_cases hlast : t + 1 < m
      · go_wp2
        go_round
        case rel => exact ⟨t + 1, V + D, P * 10, by omega, by go_num, by go_num, rfl, HV2.out, fun _ => by rw [HP.out hlt, Int.pow_succ], HA2.out⟩
        case measure => simp [intOf]; omega
      · go_wp2
        go_round
        case rel => exact ⟨t + 1, V + D, P, by omega, by go_num, by go_num, rfl, HV2.out, fun h => absurd h (by omega), HA2.out⟩
        case measure => simp [intOf]; omega
    · have htm : t = m := by omega
      subst htm
      have hVx : V = x := by rw [HV.out]; exact plTo_all HX.out
      subst hVx
      go_wp2
      go_ret
      exact ⟨rfl, hbb⟩

set_option maxHeartbeats 400000 in
theorem place_neg_none (ao : Option Addr) (n m cap : Nat) (hn1 : n ≤ m + 1) (hn2 : m + 1 ≤ n) (zs : List Int) (w : World) (hl : n ≤ zs.length) (hz : ∀ j, 0 ≤ zs.getD j 0 ∧ zs.getD j 0 ≤ 255) (hr : Reads w ao n zs) (h45 : zs.getD 0 0 = 45) (hm1 : 1 ≤ m) (hm2 : m ≤ 18) (hx : intTo (zs.drop 1) m = none) :
    Calls Try.prog 5 #[.slice ao n cap] w fun e w' => e = .returned (.bool true) ∧ Below w.heap.size w w' := by
  have HZ := hid hz
  have HX := hid hx
  have HS : Hid (shortOf zs n = none) := by
    show shortOf zs n = none
    have e : cutNeg zs n = true := by unfold cutNeg; rw [h45]; simp; omega
    unfold shortOf cutList cutLen
    rw [e]
    show signed true (digitsOf (zs.drop 1) (n - 1)) = none
    unfold digitsOf
    rw [show n - 1 = m by omega, if_neg (by omega), hx]
    rfl
  have H45 := hid h45
  have hn20 : n ≤ 1048576 := by omega
  clear hz hx h45
  go_enter Try.func5, Try.ntmps5
  go_wp2_with (go_at_call 16; refine (zz16_yes _ _ _ _ hn20).mono ?_; rintro e w' ⟨rfl, rfl⟩)
  refine (clone_any ao n cap zs _ (by omega) hl hr).mono ?_
  rintro e w1 ⟨ao1, c1, rfl, hc1, hc2, hr1, hb1⟩
  clear hr
  have HO := zzShort ao1 n c1 zs w1 hr1 hc1 (by omega) HZ.out
  rw [HS.out] at HO
  simp only [Option.getD_none, Option.isSome_none] at HO
  have HO' := hid HO
  clear HO HS
  go_wp2_with fail
  refine HO'.out.mono ?_
  rintro e w2 ⟨rfl, hb2⟩
  clear HO'
  have hr2 := hr1.later hb2
  obtain ⟨g, off, rfl, hg, hc⟩ := hr2 (by omega)
  have hbb : Below w'.heap.size w' w2 := hb1.trans (hb2.mono hb1.size)
  have hcell0 := hc 0 (by omega)
  rw [Nat.add_zero, H45.out] at hcell0
  have HC := hid hc
  clear hc hr1 hr2 hb1 hb2
  go_wp2
  go_loop [8, 9, 10] (fun a b i => ∃ (t : Nat) (V P : Int), t ≤ m ∧ i = .int .i64 ((m : Int) - t) ∧ a = .int .i64 (-V) ∧ b = .int .i64 P ∧ V = plTo (zs.drop 1) m t ∧ (t < m → P = 10 ^ t) ∧ AllDig (zs.drop 1) m (m - t))
    (fun _ _ i => (intOf i + 1).toNat)
  case atStart => exact ⟨0, 0, 1, by omega, by go_num, rfl, rfl, rfl, fun _ => rfl, fun j h0 hj => absurd hj (by omega)⟩
  case round =>
    clear hcell0
    obtain ⟨t, V, P, ht, rfl, rfl, rfl, hV, hP, hA⟩ := hrel
    have hVb := plTo_bound ht hA
    rw [← hV] at hVb
    have HV := hid hV
    have HA := hid hA
    have HP := hid hP
    clear hV hA hP
    by_cases hlt : t < m
    · have hcx := HC.out (m - t) (by omega)
      have hcz := HZ.out (m - t)
      have hdz : (zs.drop 1).getD (m - 1 - t) 0 = zs.getD (m - t) 0 := by rw [getD_drop_one, show m - 1 - t + 1 = m - t by omega]
      obtain ⟨c, hce⟩ : ∃ c, c = zs.getD (m - t) 0 := ⟨_, rfl⟩
      rw [← hce] at hcx hcz
      have HD := hid (hdz.trans hce.symm)
      clear hdz hce
      have hV17 : V ≤ 100000000000000000 := by
        have := pow10_le17 (show t ≤ 17 by omega)
        omega
      have hV0 := hVb.1
      clear hVb
      by_cases hdig : 48 ≤ c ∧ c ≤ 57
      · obtain ⟨hd48, hd57⟩ := hdig
        have HDP := prod_bd hd48 hd57 (HP.out hlt) (by omega)
        obtain ⟨D, hD⟩ : ∃ D, D = (c - 48) * P := ⟨_, rfl⟩
        rw [← hD] at HDP
        have hDw : wrap64 ((c - 48) * P) = D := by rw [← hD]; exact IntWalk.wrap64_in D ⟨by omega, by omega⟩
        have HDe := hid hD
        obtain ⟨hD0, hD1, hP0, hP1⟩ := HDP
        clear hD
        have HV2 : Hid (V + D = plTo (zs.drop 1) m (t + 1)) := by
          show V + D = plTo (zs.drop 1) m (t + 1)
          rw [plTo, ← HV.out, HD.out, HDe.out, HP.out hlt]
        have HA2 : Hid (AllDig (zs.drop 1) m (m - (t + 1))) := by
          intro j h0 hj
          by_cases hjm : j = m - 1 - t
          · subst hjm
            rw [HD.out]
            exact ⟨hd48, hd57⟩
          · exact HA.out j (by omega) hj
        by_cases hlast : t + 1 < m
        · go_wp2
          go_round
          case rel => exact ⟨t + 1, V + D, P * 10, by omega, by go_num, by go_num, rfl, HV2.out, fun _ => by rw [HP.out hlt, Int.pow_succ], HA2.out⟩
          case measure => simp [intOf]; omega
        · go_wp2
          go_round
          case rel => exact ⟨t + 1, V + D, P, by omega, by go_num, by go_num, rfl, HV2.out, fun h => absurd h (by omega), HA2.out⟩
          case measure => simp [intOf]; omega
      · by_cases h48 : c < 48
        · go_wp2
          go_ret
          exact ⟨rfl, hbb⟩
        · have h57 : 57 < c := by omega
          go_wp2
          go_ret
          exact ⟨rfl, hbb⟩
    · have htm : t = m := by omega
      subst htm
      exact absurd HX.out (some_of_dig (by have := HA.out; rwa [Nat.sub_self] at this))

set_option maxHeartbeats 400000 in
theorem place_pos_some (ao : Option Addr) (m cap : Nat) (zs : List Int) (w : World) (hl : m ≤ zs.length) (hz : ∀ j, 0 ≤ zs.getD j 0 ∧ zs.getD j 0 ≤ 255) (hr : Reads w ao m zs) (h45 : zs.getD 0 0 ≠ 45) (hm1 : 1 ≤ m) (hm2 : m ≤ 18) (x : Int) (hx : intTo zs m = some x) :
    Calls Try.prog 5 #[.slice ao m cap] w fun e w' => e = .returned (.bool true) ∧ Below w.heap.size w w' := by
  have HZ := hid hz
  have HX := hid hx
  have HS : Hid (shortOf zs m = some x) := by
    show shortOf zs m = some x
    have e : cutNeg zs m = false := by unfold cutNeg; rw [beq_eq_false_iff_ne.2 h45, Bool.and_false]
    unfold shortOf cutList cutLen
    rw [e]
    show signed false (digitsOf zs m) = some x
    unfold digitsOf
    rw [if_neg (by omega), hx]
    rfl
  have H45 := hid h45
  have hn20 : m ≤ 1048576 := by omega
  clear hz hx h45
  go_enter Try.func5, Try.ntmps5
  go_wp2_with (go_at_call 16; refine (zz16_yes _ _ _ _ hn20).mono ?_; rintro e w' ⟨rfl, rfl⟩)
  refine (clone_any ao m cap zs _ (by omega) hl hr).mono ?_
  rintro e w1 ⟨ao1, c1, rfl, hc1, hc2, hr1, hb1⟩
  clear hr
  have HO := zzShort ao1 m c1 zs w1 hr1 hc1 (by omega) HZ.out
  rw [HS.out] at HO
  simp only [Option.getD_some, Option.isSome_some] at HO
  have HO' := hid HO
  clear HO HS
  go_wp2_with fail
  refine HO'.out.mono ?_
  rintro e w2 ⟨rfl, hb2⟩
  clear HO'
  have hr2 := hr1.later hb2
  obtain ⟨g, off, rfl, hg, hc⟩ := hr2 (by omega)
  have hbb : Below w'.heap.size w' w2 := hb1.trans (hb2.mono hb1.size)
  have hcell0 := hc 0 (by omega)
  rw [Nat.add_zero] at hcell0
  have h45b : (zs.getD 0 0 == 45) = false := beq_eq_false_iff_ne.2 H45.out
  generalize zs.getD 0 0 = c0 at hcell0 h45b
  have HC := hid hc
  clear hc hr1 hr2 hb1 hb2
  go_wp2
  go_loop [8, 9, 10] (fun a b i => ∃ (t : Nat) (V P : Int), t ≤ m ∧ i = .int .i64 ((m : Int) - 1 - t) ∧ a = .int .i64 V ∧ b = .int .i64 P ∧ V = plTo zs m t ∧ (t < m → P = 10 ^ t) ∧ AllDig zs m (m - t))
    (fun _ _ i => (intOf i + 1).toNat)
  case atStart => exact ⟨0, 0, 1, by omega, by go_num, rfl, rfl, rfl, fun _ => rfl, fun j h0 hj => absurd hj (by omega)⟩
  case round =>
    clear hcell0
    obtain ⟨t, V, P, ht, rfl, rfl, rfl, hV, hP, hA⟩ := hrel
    have hVb := plTo_bound ht hA
    rw [← hV] at hVb
    have HV := hid hV
    have HA := hid hA
    have HP := hid hP
    clear hV hA hP
    by_cases hlt : t < m
    · have hcx := HC.out (m - 1 - t) (by omega)
      have hcz := HZ.out (m - 1 - t)
      have hdz : zs.getD (m - 1 - t) 0 = zs.getD (m - 1 - t) 0 := by rfl
      obtain ⟨c, hce⟩ : ∃ c, c = zs.getD (m - 1 - t) 0 := ⟨_, rfl⟩
      rw [← hce] at hcx hcz
      have HD := hid (hdz.trans hce.symm)
      clear hdz hce
      have hV17 : V ≤ 100000000000000000 := by
        have := pow10_le17 (show t ≤ 17 by omega)
        omega
      have hV0 := hVb.1
      clear hVb
      have hdig := dig_of_some HX.out (m - 1 - t) (by omega) (by omega)
      rw [HD.out] at hdig
      obtain ⟨hd48, hd57⟩ := hdig
      have HDP := prod_bd hd48 hd57 (HP.out hlt) (by omega)
      obtain ⟨D, hD⟩ : ∃ D, D = (c - 48) * P := ⟨_, rfl⟩
      rw [← hD] at HDP
      have hDw : wrap64 ((c - 48) * P) = D := by rw [← hD]; exact IntWalk.wrap64_in D ⟨by omega, by omega⟩
      have HDe := hid hD
      obtain ⟨hD0, hD1, hP0, hP1⟩ := HDP
      clear hD
      have HV2 : Hid (V + D = plTo zs m (t + 1)) := by
        show V + D = plTo zs m (t + 1)
        rw [plTo, ← HV.out, HD.out, HDe.out, HP.out hlt]
      have HA2 : Hid (AllDig zs m (m - (t + 1))) := by
        intro j h0 hj
        by_cases hjm : j = m - 1 - t
        · subst hjm
          rw [HD.out]
          exact ⟨hd48, hd57⟩
        · exact HA.out j (by omega) hj
      by_cases hlast : t + 1 < m
      · go_wp2
        go_round
        case rel => exact ⟨t + 1, V + D, P * 10, by omega, by go_num, by go_num, rfl, HV2.out, fun _ => by rw [HP.out hlt, Int.pow_succ], HA2.out⟩
        case measure => simp [intOf]; omega
      · go_wp2
        go_round
        case rel => exact ⟨t + 1, V + D, P, by omega, by go_num, by go_num, rfl, HV2.out, fun h => absurd h (by omega), HA2.out⟩
        case measure => simp [intOf]; omega
    · have htm : t = m := by omega
      subst htm
      have hVx : V = x := by rw [HV.out]; exact plTo_all HX.out
      subst hVx
      go_wp2
      go_ret
      exact ⟨rfl, hbb⟩

set_option maxHeartbeats 400000 in
theorem place_pos_none (ao : Option Addr) (m cap : Nat) (zs : List Int) (w : World) (hl : m ≤ zs.length) (hz : ∀ j, 0 ≤ zs.getD j 0 ∧ zs.getD j 0 ≤ 255) (hr : Reads w ao m zs) (h45 : zs.getD 0 0 ≠ 45) (hm1 : 1 ≤ m) (hm2 : m ≤ 18) (hx : intTo zs m = none) :
    Calls Try.prog 5 #[.slice ao m cap] w fun e w' => e = .returned (.bool true) ∧ Below w.heap.size w w' := by
  have HZ := hid hz
  have HX := hid hx
  have HS : Hid (shortOf zs m = none) := by
    show shortOf zs m = none
    have e : cutNeg zs m = false := by unfold cutNeg; rw [beq_eq_false_iff_ne.2 h45, Bool.and_false]
    unfold shortOf cutList cutLen
    rw [e]
    show signed false (digitsOf zs m) = none
    unfold digitsOf
    rw [if_neg (by omega), hx]
    rfl
  have H45 := hid h45
  have hn20 : m ≤ 1048576 := by omega
  clear hz hx h45
  go_enter Try.func5, Try.ntmps5
  go_wp2_with (go_at_call 16; refine (zz16_yes _ _ _ _ hn20).mono ?_; rintro e w' ⟨rfl, rfl⟩)
  refine (clone_any ao m cap zs _ (by omega) hl hr).mono ?_
  rintro e w1 ⟨ao1, c1, rfl, hc1, hc2, hr1, hb1⟩
  clear hr
  have HO := zzShort ao1 m c1 zs w1 hr1 hc1 (by omega) HZ.out
  rw [HS.out] at HO
  simp only [Option.getD_none, Option.isSome_none] at HO
  have HO' := hid HO
  clear HO HS
  go_wp2_with fail
  refine HO'.out.mono ?_
  rintro e w2 ⟨rfl, hb2⟩
  clear HO'
  have hr2 := hr1.later hb2
  obtain ⟨g, off, rfl, hg, hc⟩ := hr2 (by omega)
  have hbb : Below w'.heap.size w' w2 := hb1.trans (hb2.mono hb1.size)
  have hcell0 := hc 0 (by omega)
  rw [Nat.add_zero] at hcell0
  have h45b : (zs.getD 0 0 == 45) = false := beq_eq_false_iff_ne.2 H45.out
  generalize zs.getD 0 0 = c0 at hcell0 h45b
  have HC := hid hc
  clear hc hr1 hr2 hb1 hb2
  go_wp2
  go_loop [8, 9, 10] (fun a b i => ∃ (t : Nat) (V P : Int), t ≤ m ∧ i = .int .i64 ((m : Int) - 1 - t) ∧ a = .int .i64 V ∧ b = .int .i64 P ∧ V = plTo zs m t ∧ (t < m → P = 10 ^ t) ∧ AllDig zs m (m - t))
    (fun _ _ i => (intOf i + 1).toNat)
  case atStart => exact ⟨0, 0, 1, by omega, by go_num, rfl, rfl, rfl, fun _ => rfl, fun j h0 hj => absurd hj (by omega)⟩
  case round =>
    clear hcell0
    obtain ⟨t, V, P, ht, rfl, rfl, rfl, hV, hP, hA⟩ := hrel
    have hVb := plTo_bound ht hA
    rw [← hV] at hVb
    have HV := hid hV
    have HA := hid hA
    have HP := hid hP
    clear hV hA hP
    by_cases hlt : t < m
    · have hcx := HC.out (m - 1 - t) (by omega)
      have hcz := HZ.out (m - 1 - t)
      have hdz : zs.getD (m - 1 - t) 0 = zs.getD (m - 1 - t) 0 := by rfl
      obtain ⟨c, hce⟩ : ∃ c, c = zs.getD (m - 1 - t) 0 := ⟨_, rfl⟩
      rw [← hce] at hcx hcz
      have HD := hid (hdz.trans hce.symm)
      clear hdz hce
      have hV17 : V ≤ 100000000000000000 := by
        have := pow10_le17 (show t ≤ 17 by omega)
        omega
      have hV0 := hVb.1
      clear hVb
      by_cases hdig : 48 ≤ c ∧ c ≤ 57
      · obtain ⟨hd48, hd57⟩ := hdig
        have HDP := prod_bd hd48 hd57 (HP.out hlt) (by omega)
        obtain ⟨D, hD⟩ : ∃ D, D = (c - 48) * P := ⟨_, rfl⟩
        rw [← hD] at HDP
        have hDw : wrap64 ((c - 48) * P) = D := by rw [← hD]; exact IntWalk.wrap64_in D ⟨by omega, by omega⟩
        have HDe := hid hD
        obtain ⟨hD0, hD1, hP0, hP1⟩ := HDP
        clear hD
        have HV2 : Hid (V + D = plTo zs m (t + 1)) := by
          show V + D = plTo zs m (t + 1)
          rw [plTo, ← HV.out, HD.out, HDe.out, HP.out hlt]
        have HA2 : Hid (AllDig zs m (m - (t + 1))) := by
          intro j h0 hj
          by_cases hjm : j = m - 1 - t
          · subst hjm
            rw [HD.out]
            exact ⟨hd48, hd57⟩
          · exact HA.out j (by omega) hj
        by_cases hlast : t + 1 < m
        · go_wp2
          go_round
          case rel => exact ⟨t + 1, V + D, P * 10, by omega, by go_num, by go_num, rfl, HV2.out, fun _ => by rw [HP.out hlt, Int.pow_succ], HA2.out⟩
          case measure => simp [intOf]; omega
        · go_wp2
          go_round
          case rel => exact ⟨t + 1, V + D, P, by omega, by go_num, by go_num, rfl, HV2.out, fun h => absurd h (by omega), HA2.out⟩
          case measure => simp [intOf]; omega
      · by_cases h48 : c < 48
        · go_wp2
          go_ret
          exact ⟨rfl, hbb⟩
        · have h57 : 57 < c := by omega
          go_wp2
          go_ret
          exact ⟨rfl, hbb⟩
    · have htm : t = m := by omega
      subst htm
      exact absurd HX.out (some_of_dig (by have := HA.out; rwa [Nat.sub_self] at this))

set_option maxHeartbeats 400000 in
theorem place_ezero (ao : Option Addr) (cap : Nat) (zs : List Int) (w : World) (hl : 0 ≤ zs.length) (hz : ∀ j, 0 ≤ zs.getD j 0 ∧ zs.getD j 0 ≤ 255) (hr : Reads w ao 0 zs)  :
    Calls Try.prog 5 #[.slice ao 0 cap] w fun e w' => e = .returned (.bool true) ∧ Below w.heap.size w w' := by
  have HZ := hid hz
  have HS : Hid (shortOf zs 0 = none) := by
    show shortOf zs 0 = none
    have e : cutNeg zs 0 = false := rfl
    unfold shortOf cutList cutLen
    rw [e]
    rfl
  have hn20 : (0 : Nat) ≤ 1048576 := by omega
  clear hz
  go_enter Try.func5, Try.ntmps5
  go_wp2_with (go_at_call 16; refine (zz16_yes _ _ _ _ hn20).mono ?_; rintro e w' ⟨rfl, rfl⟩)
  refine (clone_any ao 0 cap zs _ hn20 hl hr).mono ?_
  rintro e w1 ⟨ao1, c1, rfl, hc1, hc2, hr1, hb1⟩
  clear hr
  have HO := zzShort ao1 0 c1 zs w1 hr1 hc1 (by omega) HZ.out
  rw [HS.out] at HO
  simp only [Option.getD_none, Option.isSome_none] at HO
  have HO' := hid HO
  clear HO HS
  go_wp2_with fail
  refine HO'.out.mono ?_
  rintro e w2 ⟨rfl, hb2⟩
  clear HO'
  have hbb : Below w'.heap.size w' w2 := hb1.trans (hb2.mono hb1.size)
  clear hr1 hb1 hb2
  go_wp2
  go_ret
  exact ⟨rfl, hbb⟩

set_option maxHeartbeats 400000 in
theorem place_eneg (ao : Option Addr) (n cap : Nat) (zs : List Int) (w : World) (hn20 : n ≤ 1048576) (hl : n ≤ zs.length) (hz : ∀ j, 0 ≤ zs.getD j 0 ∧ zs.getD j 0 ≤ 255) (hr : Reads w ao n zs) (hn0 : 1 ≤ n) (h45 : zs.getD 0 0 = 45) (hbad : n = 1 ∨ 19 < n) :
    Calls Try.prog 5 #[.slice ao n cap] w fun e w' => e = .returned (.bool true) ∧ Below w.heap.size w w' := by
  have HZ := hid hz
  have HS : Hid (shortOf zs n = none) := by
    show shortOf zs n = none
    have e : cutNeg zs n = true := by unfold cutNeg; rw [h45]; simp; omega
    unfold shortOf cutList cutLen
    rw [e]
    show signed true (digitsOf (zs.drop 1) (n - 1)) = none
    unfold digitsOf
    rw [if_pos (by omega)]
    rfl
  have H45 := hid h45
  clear hz h45
  go_enter Try.func5, Try.ntmps5
  go_wp2_with (go_at_call 16; refine (zz16_yes _ _ _ _ hn20).mono ?_; rintro e w' ⟨rfl, rfl⟩)
  refine (clone_any ao n cap zs _ hn20 hl hr).mono ?_
  rintro e w1 ⟨ao1, c1, rfl, hc1, hc2, hr1, hb1⟩
  clear hr
  have HO := zzShort ao1 n c1 zs w1 hr1 hc1 (by omega) HZ.out
  rw [HS.out] at HO
  simp only [Option.getD_none, Option.isSome_none] at HO
  have HO' := hid HO
  clear HO HS
  go_wp2_with fail
  refine HO'.out.mono ?_
  rintro e w2 ⟨rfl, hb2⟩
  clear HO'
  have hbb : Below w'.heap.size w' w2 := hb1.trans (hb2.mono hb1.size)
  have hr2 := hr1.later hb2
  obtain ⟨g, off, rfl, hg, hc⟩ := hr2 (by omega)
  have hcell0 := hc 0 (by omega)
  rw [Nat.add_zero, H45.out] at hcell0
  clear hc hr1 hr2 hb1 hb2
  rcases hbad with hbad | hbad
  · have hle : n ≤ 1 := by omega
    clear hbad
    go_wp2
    go_ret
    exact ⟨rfl, hbb⟩
  · go_wp2
    go_ret
    exact ⟨rfl, hbb⟩

set_option maxHeartbeats 400000 in
theorem place_epos (ao : Option Addr) (n cap : Nat) (zs : List Int) (w : World) (hn20 : n ≤ 1048576) (hl : n ≤ zs.length) (hz : ∀ j, 0 ≤ zs.getD j 0 ∧ zs.getD j 0 ≤ 255) (hr : Reads w ao n zs) (h45 : zs.getD 0 0 ≠ 45) (hbad : 18 < n) :
    Calls Try.prog 5 #[.slice ao n cap] w fun e w' => e = .returned (.bool true) ∧ Below w.heap.size w w' := by
  have HZ := hid hz
  have HS : Hid (shortOf zs n = none) := by
    show shortOf zs n = none
    have e : cutNeg zs n = false := by unfold cutNeg; rw [beq_eq_false_iff_ne.2 h45, Bool.and_false]
    unfold shortOf cutList cutLen
    rw [e]
    show signed false (digitsOf zs n) = none
    unfold digitsOf
    rw [if_pos (by omega)]
    rfl
  have H45 := hid h45
  clear hz h45
  go_enter Try.func5, Try.ntmps5
  go_wp2_with (go_at_call 16; refine (zz16_yes _ _ _ _ hn20).mono ?_; rintro e w' ⟨rfl, rfl⟩)
  refine (clone_any ao n cap zs _ hn20 hl hr).mono ?_
  rintro e w1 ⟨ao1, c1, rfl, hc1, hc2, hr1, hb1⟩
  clear hr
  have HO := zzShort ao1 n c1 zs w1 hr1 hc1 (by omega) HZ.out
  rw [HS.out] at HO
  simp only [Option.getD_none, Option.isSome_none] at HO
  have HO' := hid HO
  clear HO HS
  go_wp2_with fail
  refine HO'.out.mono ?_
  rintro e w2 ⟨rfl, hb2⟩
  clear HO'
  have hbb : Below w'.heap.size w' w2 := hb1.trans (hb2.mono hb1.size)
  have hr2 := hr1.later hb2
  obtain ⟨g, off, rfl, hg, hc⟩ := hr2 (by omega)
  have hcell0 := hc 0 (by omega)
  rw [Nat.add_zero] at hcell0
  clear hc hr1 hr2 hb1 hb2
  have h45b : (zs.getD 0 0 == 45) = false := beq_eq_false_iff_ne.2 H45.out
  generalize zs.getD 0 0 = c0 at hcell0 h45b
  go_wp2
  go_ret
  exact ⟨rfl, hbb⟩

theorem place_any (ao : Option Addr) (n cap : Nat) (zs : List Int) (w : World) (hn : n ≤ 1048576) (hl : n ≤ zs.length) (hz : ∀ j, 0 ≤ zs.getD j 0 ∧ zs.getD j 0 ≤ 255) (hr : Reads w ao n zs) :
    Calls Try.prog 5 #[.slice ao n cap] w fun e w' => e = .returned (.bool true) ∧ Below w.heap.size w w' := by
  by_cases h0 : n = 0
  · subst h0
    exact place_ezero ao cap zs w hl hz hr
  · by_cases h45 : zs.getD 0 0 = 45
    · by_cases hbad : n = 1 ∨ 19 < n
      · exact place_eneg ao n cap zs w hn hl hz hr (by omega) h45 hbad
      · cases hx : intTo (zs.drop 1) (n - 1) with
        | none => exact place_neg_none ao n (n - 1) cap (by omega) (by omega) zs w hl hz hr h45 (by omega) (by omega) hx
        | some x => exact place_neg_some ao n (n - 1) cap (by omega) (by omega) zs w hl hz hr h45 (by omega) (by omega) x hx
    · by_cases hbad : 18 < n
      · exact place_epos ao n cap zs w hn hl hz hr h45 hbad
      · cases hx : intTo zs n with
        | none => exact place_pos_none ao n cap zs w hl hz hr h45 (by omega) (by omega) hx
        | some x => exact place_pos_some ao n cap zs w hl hz hr h45 (by omega) (by omega) x hx

end Go.Proofs.Qxb6603405a
