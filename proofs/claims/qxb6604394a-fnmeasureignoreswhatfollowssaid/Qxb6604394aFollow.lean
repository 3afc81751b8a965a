/-
  FnMeasureIgnoresWhatFollows: the walk.
-/
import Derived.Test.Qxb6604394aMeasure2
import Derived.Test.Qxb6604394aShape
namespace Go.Proofs.Qxb6604394a
open Go.RowKit

theorem zz11_yes (ao bo : Option Addr) (n m cap cbp : Nat) (w : World) (hn : n + m ≤ 1048576) :
    Calls Try.prog 11 #[.slice ao n cap, .slice bo m cbp] w fun e w' => e = .returned (.bool true) ∧ w' = w := by
  go_enter Try.func11, Try.ntmps11
  go_wp2
  go_ret
  exact ⟨rfl, rfl⟩
theorem zz11_no (ao bo : Option Addr) (n m cap cbp : Nat) (w : World) (hn : 1048576 < n + m) :
    Calls Try.prog 11 #[.slice ao n cap, .slice bo m cbp] w fun e w' => e = .returned (.bool false) ∧ w' = w := by
  by_cases h1 : 1048576 < n
  · go_enter Try.func11, Try.ntmps11
    go_wp2
    go_ret
    exact ⟨rfl, rfl⟩
  · by_cases h2 : 1048576 < m
    · go_enter Try.func11, Try.ntmps11
      go_wp2
      go_ret
      exact ⟨rfl, rfl⟩
    · go_enter Try.func11, Try.ntmps11
      go_wp2
      go_ret
      exact ⟨rfl, rfl⟩
theorem follow_no (ao bo : Option Addr) (n m cap cbp : Nat) (w : World) (hn : 262144 < n + m) :
    Calls Try.prog 4 #[.slice ao n cap, .slice bo m cbp] w fun e w' => e = .returned (.bool true) ∧ w' = w := by
  by_cases h : n + m ≤ 1048576
  · by_cases h1 : 262144 < n
    · go_enter Try.func4, Try.ntmps4
      go_wp2_with (go_at_call 11; refine (zz11_yes _ _ _ _ _ _ _ h).mono ?_; rintro e w' ⟨rfl, rfl⟩)
      go_ret
      exact ⟨rfl, rfl⟩
    · have d1 : decide ((262144 : Int) < (n : Int)) = false := decide_eq_false (by omega)
      by_cases h2 : 262144 < m
      · go_enter Try.func4, Try.ntmps4
        go_wp2_with (go_at_call 11; refine (zz11_yes _ _ _ _ _ _ _ h).mono ?_; rintro e w' ⟨rfl, rfl⟩)
        go_ret
        exact ⟨rfl, rfl⟩
      · have d2 : decide ((262144 : Int) < (m : Int)) = false := decide_eq_false (by omega)
        go_enter Try.func4, Try.ntmps4
        go_wp2_with (go_at_call 11; refine (zz11_yes _ _ _ _ _ _ _ h).mono ?_; rintro e w' ⟨rfl, rfl⟩)
        go_ret
        exact ⟨rfl, rfl⟩
  · have h' : 1048576 < n + m := by omega
    go_enter Try.func4, Try.ntmps4
    go_wp2_with (go_at_call 11; refine (zz11_no _ _ _ _ _ _ _ h').mono ?_; rintro e w' ⟨rfl, rfl⟩)
    go_ret
    exact ⟨rfl, rfl⟩


theorem reads_at' {w wr : World} {ao : Option Addr} {n j B : Nat} {zs : List Int} (hr : Reads w ao n zs) (hb : Below B w wr) (hB : w.heap.size ≤ B) (hj : j < n) : ∃ g off, ao = some ⟨g, off, none⟩ ∧ wr.cell? ⟨g, off + j, none⟩ = some (.int .i32 (zs.getD j 0)) := by
  obtain ⟨g, off, e, hg, hc⟩ := hr (by omega)
  exact ⟨g, off, e, (hb.cell (by exact Nat.lt_of_lt_of_le hg hB)).trans (hc j hj)⟩
/-- The cells of a source that is appended. -/
theorem reads_news {w : World} {ao : Option Addr} {n : Nat} {zs : List Int} (hr : Reads w ao n zs) (hz : zs.length = n) : ∀ ad, ao = some ad → ∀ j u, (zs.map (Value.int .i32))[j]? = some u → w.cell? (ad.add j) = some u := by
  intro ad had j u hu
  have hj : j < zs.length := by
    have := (List.getElem?_eq_some_iff.1 hu).1
    simpa using this
  obtain ⟨g, off, e, _, hc⟩ := hr (by omega)
  rw [had] at e
  cases e
  rw [Addr.add_lit, hc j (by omega), ← hu]
  simp [List.getD, hj]
theorem reads_own {w : World} {B b n cap : Nat} {xs : List Int} (h : w.ownsRow B 21 1 (.slice (some ⟨b, 0, none⟩) n cap) n (xs.map (Value.int .i32))) : Reads w (some ⟨b, 0, none⟩) n xs := by
  intro _
  refine ⟨b, 0, rfl, (h.lt b rfl).2, fun j hj => ?_⟩
  have hl : xs.length = n := by simpa using h.1
  rw [Nat.zero_add, h.cellAt j (by omega)]
  simp [List.getD, show j < xs.length by omega]
theorem fit_append {A B : List Int} (ha : Fit A) (hb : Fit B) : Fit (A ++ B) := by
  intro j
  by_cases h : j < A.length
  · have := ha j
    simpa [List.getD, List.getElem?_append_left h] using this
  · have := hb (j - A.length)
    simpa [List.getD, List.getElem?_append_right (Nat.not_lt.1 h)] using this
theorem sat_pos {W : Nat} (h : 1 ≤ W) : 1 ≤ sat (W : Int) ∧ sat (W : Int) ≤ 2147483648 := by unfold sat; split <;> omega

set_option maxRecDepth 100000 in
set_option maxHeartbeats 2000000 in
theorem follow_yes (ao bo : Option Addr) (n m cap cbp : Nat) (A B : List Int) (w : World) (hn : n + m ≤ 262144) (hla : A.length = n) (hlb : B.length = m) (hra : Reads w ao n A) (hrb : Reads w bo m B) (hfa : Fit A) (hfb : Fit B) :
    Calls Try.prog 4 #[.slice ao n cap, .slice bo m cbp] w fun e w' => e = .returned (.bool true) ∧ Below w.heap.size w w' := by
  obtain ⟨i0, hi, hz0, hz1, hz2⟩ := info_parts info21
  have h20 : n + m ≤ 1048576 := by omega
  have d1 : decide ((262144 : Int) < (n : Int)) = false := decide_eq_false (by omega)
  have d2 : decide ((262144 : Int) < (m : Int)) = false := decide_eq_false (by omega)
  have HRA := hid hra
  have HRB := hid hrb
  have HFA := hid hfa
  have HFB := hid hfb
  have HLA := hid hla
  have HLB := hid hlb
  clear hra hrb hfa hfb hla hlb
  go_enter Try.func4, Try.ntmps4
  go_wp2_with (go_at_call 11; refine (zz11_yes _ _ _ _ _ _ _ h20).mono ?_; rintro e w' ⟨rfl, rfl⟩)
  refine (shape_any ao n cap A _ (by omega) HLA.out HRA.out HFA.out).mono ?_
  rintro e w1 ⟨want, used, short, nn, pos, ok, rfl, hu, hok, hb1⟩
  by_cases hall : ok = true ∧ short = false ∧ pos = true ∧ used = n
  · obtain ⟨rfl, rfl, rfl, rfl⟩ := hall
    obtain ⟨W, hW, hread⟩ := hok rfl
    obtain ⟨f, hitems⟩ := read_items hread
    have hnn := items_nn _ _ _ _ hitems rfl
    have hdrop : A.drop used = [] := List.drop_eq_nil_of_le (by rw [HLA.out]; exact Nat.le_refl _)
    rw [hdrop] at hitems
    have hW1 := items_pos hitems
    have happ := items_append B f 1 A _ hitems rfl
    simp only [] at hnn hW1 happ
    subst hnn
    rw [List.nil_append] at happ
    have HI := hid hitems
    have HI2 := hid happ
    clear hok hread hitems happ hW hdrop
    go_wp2_with fail
    refine (clone_any ao used cap A w1 (by omega) HLA.out (HRA.out.later hb1 (Nat.le_refl _))).mono ?_
    rintro e w2 ⟨a1, c1, rfl, hc1, hc2, hnil1, hr2, hb2⟩
    have HN1 := hid hnil1
    have HR2 := hid hr2
    clear hnil1 hr2
    have hbB : Below w'.heap.size w' w2 := hb1.trans (hb2.mono hb1.size)
    go_wp2_with fail
    refine (clone_any bo m cbp B w2 (by omega) HLB.out (HRB.out.later hbB (Nat.le_refl _))).mono ?_
    rintro e w3 ⟨b1, d1', rfl, hd1, hd2, hnil2, hr3, hb3⟩
    have HN2 := hid hnil2
    have HRB3 := hid hr3
    have HRA3 := hid (HR2.out.later hb3 (Nat.le_refl _))
    have hbC : Below w'.heap.size w' w3 := hbB.trans (hb3.mono hbB.size)
    clear hnil2 hr3 HR2
    have HM := hid (zzMeasure f A _ a1 used c1 w3 HI.out HLA.out HRA3.out hc1 hc2 HN1.out HFA.out)
    go_wp2_with fail
    refine HM.out.mono ?_
    rintro e w4 ⟨v1, r1, e1, rfl, q1, q2, q3, q4, q5, q6, q7⟩
    have hv1 : v1 = sat (W : Int) := q6 rfl
    subst hv1
    have HRB4 := hid (HRB3.out.later q7 (Nat.le_refl _))
    have HRA4 := hid (HRA3.out.later q7 (Nat.le_refl _))
    have hbD : Below w'.heap.size w' w4 := hbC.trans (q7.mono hbC.size)
    clear HM HRB3 HRA3 q1 q4 q5 q6
    have hsw := sat_pos hW1
    generalize hV : sat (W : Int) = V at hsw ⊢
    have HV := hid hV
    clear hV
    go_wp2_with (at_make; refine wpList_make_own _ rfl _ _ 22 rfl w4.heap.size 21 i0 (.int .i32 0) 1 Try.underlying22 hi hz0 hz1 _ _ _ (used + m) rfl rfl (by omega) (by rw [hz2]; omega) (by unfold maxLen; omega) (Nat.le_refl _) ?_)
    intro w5 hown5 hgrow5
    have hb5 : Below w4.heap.size w4 w5 := (Below.refl _ _).grown hgrow5 (Nat.le_refl _) (fun k h => by cases h)
    clear hgrow5
    go_wp2_with (at_builtin; refine wpList_append_fits_any _ rfl (.tmp 76) (.tmp 77) 22 rfl w4.heap.size 21 i0 1 Try.underlying22 hi hz1 w4.heap.size 0 (used + m) [] rfl hown5 a1 used c1 (A.map (Value.int .i32)) rfl (by simp [HLA.out]) HN1.out (reads_news (HRA4.out.later hb5 (Nat.le_refl _)) HLA.out) (ints_oneCell _ _) (by omega) ?_)
    intro w6 hown6 hgrow6
    have hb6 : Below w4.heap.size w4 w6 := hb5.grown hgrow6 hb5.size (fun k h => by cases h; exact Nat.le_refl _)
    have hown6' : w6.ownsRow w4.heap.size 21 1 (.slice (some ⟨w4.heap.size, 0, none⟩) used (used + m)) used (A.map (Value.int .i32)) := by simpa using hown6
    clear hgrow6 hown6 hown5
    go_wp2_with (at_builtin; refine wpList_append_fits_any _ rfl (.tmp 79) (.tmp 80) 22 rfl w4.heap.size 21 i0 1 Try.underlying22 hi hz1 w4.heap.size used (used + m) _ rfl hown6' b1 m d1' (B.map (Value.int .i32)) rfl (by simp [HLB.out]) HN2.out (reads_news (HRB4.out.later hb6 (Nat.le_refl _)) HLB.out) (ints_oneCell _ _) (by omega) ?_)
    intro w7 hown7 hgrow7
    have hb7 : Below w4.heap.size w4 w7 := hb6.grown hgrow7 hb6.size (fun k h => by cases h; exact Nat.le_refl _)
    have hown7' : w7.ownsRow w4.heap.size 21 1 (.slice (some ⟨w4.heap.size, 0, none⟩) (used + m) (used + m)) (used + m) ((A ++ B).map (Value.int .i32)) := by rw [List.map_append]; exact hown7
    have HM := hid (zzMeasure f (A ++ B) _ (some ⟨w4.heap.size, 0, none⟩) (used + m) (used + m) w7 HI2.out (by rw [List.length_append, HLA.out, HLB.out]) (reads_own hown7') (Nat.le_refl _) (by omega) (fun h => by cases h) (fit_append HFA.out HFB.out))
    have HRB7 := hid (HRB4.out.later hb7 (Nat.le_refl _))
    have hbE : Below w'.heap.size w' w7 := hbD.trans (hb7.mono hbD.size)
    clear hgrow7 hown7 hown7' hown6' HRB4 HRA4
    go_wp2_with fail
    refine HM.out.mono ?_
    rintro e w8 ⟨v2, r2, e2, rfl, p1, p2, p3, p4, p5, p6, p7⟩
    have hv2 : v2 = V := (p6 rfl).trans HV.out
    subst hv2
    simp only [HLB.out] at p1 p2 p4 ⊢
    have HR2 := hid p1
    have HRB8 := hid (HRB7.out.later p7 (Nat.le_refl _))
    have hbF : Below w'.heap.size w' w8 := hbE.trans (p7.mono hbE.size)
    clear HM HRB7 p1 p4 p5 p6
    have e0 : ((0 : Int) != 0) = false := rfl
    go_wp2
    go_loopw [16] (fun i wr => ∃ k : Nat, k ≤ m ∧ i = .int .i64 (k : Int) ∧ Below w8.heap.size w8 wr) (fun i _ => m - (intOf i).toNat)
    case atStart => exact ⟨0, by omega, rfl, Below.refl _ _⟩
    case round =>
      obtain ⟨k, hk, rfl, hb9⟩ := hrel
      by_cases hlt : k < m
      · obtain ⟨g1, o1, rfl, hc4⟩ := reads_at' (j := k) HR2.out hb9 (Nat.le_refl _) hlt
        obtain ⟨g2, o2, rfl, hc5⟩ := reads_at' (j := k) HRB8.out hb9 (Nat.le_refl _) hlt
        generalize B.getD k 0 = x at hc4 hc5
        go_wp2_with fail
        go_quiet (fail)
        go_wp2
        go_roundw
        case rel => exact ⟨k + 1, by omega, by go_num, below_drewN hb9 _⟩
        case measure => simp [intOf]; omega
      · go_wp2
        go_ret
        exact ⟨rfl, hbF.trans (hb9.mono hbF.size)⟩
  · clear hok
    cases ok with
    | false =>
      go_wp2
      go_ret
      exact ⟨rfl, hb1⟩
    | true =>
      cases short with
      | true =>
        go_wp2
        go_ret
        exact ⟨rfl, hb1⟩
      | false =>
        cases pos with
        | false =>
          go_wp2
          go_ret
          exact ⟨rfl, hb1⟩
        | true =>
          have hne : used ≠ n := fun h => hall ⟨rfl, rfl, rfl, h⟩
          have hlt : used < n := by omega
          have hbne : ((used : Int) != (n : Int)) = true := by rw [bne_iff_ne]; omega
          clear hall hne
          go_wp2
          go_ret
          exact ⟨rfl, hb1⟩

end Go.Proofs.Qxb6604394a
