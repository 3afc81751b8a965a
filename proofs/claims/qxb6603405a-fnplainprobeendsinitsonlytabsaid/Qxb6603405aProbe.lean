/-
  plainProbe: what it computes, and the walk.
-/
import Derived.Test.Qxb6603405aBase
import Derived.Room.AppendFits
namespace Go.Proofs.Qxb6603405a
open Go.RowKit

theorem hid' {p : Prop} (h : p) : Hid p := h

def untab (c : Int) : Int := if c = 9 then 32 else c
/-- The first k bytes with their tabs as spaces, the rest as it is. -/
def tabbed (B : List Int) (k : Nat) : List Int := (B.take k).map untab ++ B.drop k

def untabbed (B : List Int) : List Int := B.map untab

theorem tabbed_zero (B : List Int) : tabbed B 0 = B := by simp [tabbed]
theorem tabbed_length (B : List Int) (k : Nat) : (tabbed B k).length = B.length := by simp [tabbed]; omega
theorem tabbed_all (B : List Int) : tabbed B B.length = untabbed B := by simp [tabbed, untabbed]
theorem tabbed_getD (B : List Int) (k : Nat) : (tabbed B k).getD k 0 = B.getD k 0 := by
  unfold tabbed
  by_cases h : k < B.length
  · have hl : ((B.take k).map untab).length = k := by simp; omega
    simp only [List.getD, List.getElem?_append_right (show ((B.take k).map untab).length ≤ k by omega), hl, Nat.sub_self, List.getElem?_drop, Nat.add_zero]
  · simp [List.getD, h, Nat.not_lt.1 h]
theorem tabbed_step (B : List Int) (k : Nat) (h : k < B.length) : tabbed B (k + 1) = (tabbed B k).set k (untab (B.getD k 0)) := by
  unfold tabbed
  have hl : ((B.take k).map untab).length = k := by simp; omega
  rw [List.set_append_right _ _ (by omega), hl, Nat.sub_self, List.drop_eq_getElem_cons h, List.set_cons_zero, List.take_succ_eq_append_getElem h, List.map_append, List.append_assoc]
  simp only [List.map_cons, List.map_nil, List.singleton_append, List.getD, List.getElem?_eq_getElem h, Option.getD_some]
theorem tabbed_keep (B : List Int) (k : Nat) (h : k < B.length) (h9 : ¬ B.getD k 0 = 9) : tabbed B (k + 1) = tabbed B k := by
  rw [tabbed_step B k h, untab, if_neg h9, ← tabbed_getD B k]
  have hk : k < (tabbed B k).length := by rw [tabbed_length]; exact h
  simp only [List.getD, List.getElem?_eq_getElem hk, Option.getD_some]
  exact List.set_getElem_self hk

/-- The clone, whatever came in; a nil clone has no capacity. -/
theorem clone_nn (a : Option Addr) (len cap : Nat) (zs : List Int) (w : World) (hl : len ≤ 1048576) (hz : len ≤ zs.length) (hr : Reads w a len zs) :
    Calls Try.prog 12 #[.slice a len cap] w fun e w' => ∃ ao c, e = .returned (.slice ao len c) ∧ len ≤ c ∧ c ≤ 1048576 ∧ (ao = none → len = 0 ∧ c = 0) ∧ Reads w' ao len zs ∧ Below w.heap.size w w' := by
  by_cases h0 : len = 0
  · subst h0
    cases a with
    | none =>
      refine (clone_nil cap w).mono ?_
      rintro e w' ⟨rfl, rfl⟩
      exact ⟨none, 0, rfl, by omega, by omega, fun _ => ⟨rfl, rfl⟩, fun h => absurd h (by omega), Below.refl _ _⟩
    | some x =>
      refine (clone_zero x cap w).mono ?_
      rintro e w' ⟨rfl, hb⟩
      exact ⟨_, 0, rfl, by omega, by omega, fun _ => ⟨rfl, rfl⟩, fun h => absurd h (by omega), hb⟩
  · obtain ⟨g, off, rfl, hg, hc⟩ := hr (by omega)
    refine (clone_some g off len cap zs w hl hz (fun _ => hg) hc).mono ?_
    rintro e w' ⟨rfl, hown, hb⟩
    refine ⟨_, len, rfl, by omega, by omega, (fun h => by cases h), (fun _ => ⟨w.heap.size, 0, rfl, ?_, fun j hj => ?_⟩), hb⟩
    · exact (hown.lt w.heap.size rfl).2
    · rw [Nat.zero_add, hown.cellAt j (by omega)]
      have hj2 : j < zs.length := by omega
      simp [hj, hj2]

theorem reads_news {w : World} {ao : Option Addr} {n m i : Nat} {zs : List Int} (hr : Reads w ao n zs) (hz : n ≤ zs.length) (him : i + m ≤ n) {ad : Addr} (had : ∀ g off, ao = some ⟨g, off, none⟩ → 0 < m → ad = ⟨g, off + i, none⟩) :
    ∀ j u, (((zs.drop i).take m).map (Value.int .u8))[j]? = some u → w.cell? (ad.add j) = some u := by
  intro j u hu
  have hj : j < m := by
    have := (List.getElem?_eq_some_iff.1 hu).1
    simp at this
    omega
  obtain ⟨g, off, rfl, _, hc⟩ := hr (by omega)
  rw [had g off rfl (by omega), Addr.add_lit, Nat.add_assoc, hc (i + j) (by omega), ← hu]
  have h1 : i + j < zs.length := by omega
  simp [hj, h1]

theorem own_cell {w : World} {B0 b N C k : Nat} {xs : List Int} (hown : w.ownsRow B0 5 1 (.slice (some ⟨b, 0, none⟩) N C) N (xs.map (Value.int .u8))) (hk : k < N) : w.cell? ⟨b, k, none⟩ = some (.int .u8 (xs.getD k 0)) := by
  have hl : xs.length = N := by simpa using hown.1
  rw [hown.cellAt k (by omega)]
  simp [List.getD, show k < xs.length by omega]
theorem own_set {w : World} {B0 b N C k : Nat} {xs : List Int} (hown : w.ownsRow B0 5 1 (.slice (some ⟨b, 0, none⟩) N C) N (xs.map (Value.int .u8))) (c : Int) :
    (w.setCell ⟨b, k, none⟩ (.int .u8 c)).ownsRow B0 5 1 (.slice (some ⟨b, 0, none⟩) N C) N ((xs.set k c).map (Value.int .u8)) ∧ w.grownBy (w.setCell ⟨b, k, none⟩ (.int .u8 c)) (some b) := by
  have R := hown.stored k (.int .u8 c)
  rw [← List.map_set] at R
  exact R

set_option maxHeartbeats 400000 in
theorem probe_out (ao : Option Addr) (n cap : Nat) (root : Int) (zs : List Int) (w : World) (hr : Reads w ao n zs) (hnil : ao = none → n = 0 ∧ cap = 0) (hz : n ≤ zs.length) (hl : n ≤ 1048576) (hout : root < 0 ∨ (n : Int) ≤ root) :
    Calls Try.prog 28 #[.slice ao n cap, .int .i64 root] w fun e w' => e = .returned (.tuple #[.slice (some ⟨w.heap.size, 0, none⟩) (n + 1) (n + 5), .int .i64 0]) ∧
      w'.ownsRow w.heap.size 5 1 (.slice (some ⟨w.heap.size, 0, none⟩) (n + 1) (n + 5)) (n + 1) ((untabbed (zs.take n) ++ [9]).map (Value.int .u8)) ∧ Below w.heap.size w w' := by
  obtain ⟨i0, hi, hz0, hz1, hz2⟩ := info_parts info5
  have HR := hid' hr
  have HN := hid' hnil
  clear hr hnil
  have hlen : (zs.take n).length = n := by simp; omega
  by_cases h0 : root < 0
  · clear hout
    go_enter Try.func28, Try.ntmps28
    go_wp2_with (at_make; refine wpList_make_own _ rfl _ _ 22 rfl w.heap.size 5 i0 (.int .u8 0) 1 Try.underlying22 hi hz0 hz1 _ _ _ (n + 5) rfl rfl (by omega) (by rw [hz2]; omega) (by unfold maxLen; omega) (Nat.le_refl _) ?_)
    intro w1 hown1 hgrow1
    have hb1 : Below w.heap.size w w1 := (Below.refl _ _).grown hgrow1 (Nat.le_refl _) (fun k h => by cases h)
    clear hgrow1
    go_wp2_with (at_builtin; refine wpList_append_fits_any _ rfl _ _ 22 rfl w.heap.size 5 i0 1 Try.underlying22 hi hz1 w.heap.size 0 (n + 5) [] rfl hown1 ao n cap ((zs.take n).map (Value.int .u8)) rfl (by simp; omega) HN.out (fun ad had => by have := reads_news (i := 0) (m := n) (ad := ad) (HR.out.later hb1) hz (by omega) (fun g off h _ => by rw [had] at h; cases h; rfl); simpa using this) (ints_oneCell _ _) (by omega) ?_)
    intro w2 hown2 hgrow2
    have hbB : Below w.heap.size w w2 := hb1.grown hgrow2 hb1.size (fun j h => by cases h; exact Nat.le_refl _)
    have hownB : w2.ownsRow w.heap.size 5 1 (.slice (some ⟨w.heap.size, 0, none⟩) n (n + 5)) n ((zs.take n).map (Value.int .u8)) := by simpa using hown2
    clear hown2 hgrow2 hown1
    go_wp2
    go_loopw [34] (fun i wr => ∃ k : Nat, k ≤ n ∧ i = .int .i64 k ∧ wr.ownsRow w.heap.size 5 1 (.slice (some ⟨w.heap.size, 0, none⟩) n (n + 5)) n ((tabbed (zs.take n) k).map (Value.int .u8)) ∧ Below w.heap.size w wr)
      (fun i _ => n - (intOf i).toNat)
    case atStart => exact ⟨0, by omega, rfl, by rw [tabbed_zero]; exact hownB, hbB⟩
    case round =>
      clear hownB hbB
      obtain ⟨k, hk, rfl, hown, hb⟩ := hrel
      by_cases hlt : k < n
      · have hco := own_cell hown hlt
        rw [tabbed_getD] at hco
        have hfo := hown.frozenAt k
        obtain ⟨c, hcz⟩ : ∃ c, c = ((zs.take n)).getD k 0 := ⟨_, rfl⟩
        rw [← hcz] at hco
        by_cases h9 : c = 9
        · subst h9
          have HS := hid' (own_set (k := k) hown 32)
          have e : (tabbed (zs.take n) k).set k 32 = tabbed (zs.take n) (k + 1) := by
            rw [tabbed_step _ _ (by rw [hlen]; exact hlt), ← hcz]; rfl
          rw [e] at HS
          clear e hcz hown
          go_wp2
          go_roundw
          case rel => exact ⟨k + 1, by omega, by go_num, HS.out.1, hb.grown HS.out.2 hb.size (fun j h => by cases h; exact Nat.le_refl _)⟩
          case measure => simp [intOf]; omega
        · have e := tabbed_keep _ _ (by rw [hlen]; exact hlt) (by rw [← hcz]; exact h9)
          rw [← e] at hown
          have h9' : (c == 9) = false := beq_eq_false_iff_ne.2 h9
          clear e hcz h9
          go_wp2
          go_roundw
          case rel => exact ⟨k + 1, by omega, by go_num, hown, hb⟩
          case measure => simp [intOf]; omega
      · have hkN : k = n := by omega
        have hta : tabbed (zs.take n) (n) = untabbed (zs.take n) := by
          have := tabbed_all ((zs.take n))
          rwa [hlen] at this
        rw [hkN, hta] at hown
        clear hkN hta
        obtain ⟨w8, rfl⟩ : ∃ w8 : World, w8 = wr := ⟨_, rfl⟩
        go_wp2_with (at_builtin; refine wpList_append_fits _ rfl _ _ 22 rfl w.heap.size 5 i0 1 Try.underlying22 hi hz1 w.heap.size n (n + 5) _ rfl (hown.alloc _) ⟨w8.heap.size, 0, none⟩ 1 1 [.int .u8 9] rfl rfl (cell_one_new _ _ _) (by intro u hu; simp at hu; subst hu; rfl) (by omega) ?_)
        intro w9 hown9 hgrow9
        have hb9 : Below w.heap.size w w9 := (hb.alloc hb.size _).grown hgrow9 (by have := hb.size; simp; omega) (fun j h => by cases h; exact Nat.le_refl _)
        have hown9' : w9.ownsRow w.heap.size 5 1 (.slice (some ⟨w.heap.size, 0, none⟩) (n + 1) (n + 5)) (n + 1) ((untabbed (zs.take n) ++ [9]).map (Value.int .u8)) := by
          rw [List.map_append]
          exact hown9
        clear hown9 hgrow9 hown hb
        go_wp2
        go_ret2
        exact ⟨rfl, hown9', hb9⟩
  · have hge : (n : Int) ≤ root := by omega
    clear hout
    go_enter Try.func28, Try.ntmps28
    go_wp2_with (at_make; refine wpList_make_own _ rfl _ _ 22 rfl w.heap.size 5 i0 (.int .u8 0) 1 Try.underlying22 hi hz0 hz1 _ _ _ (n + 5) rfl rfl (by omega) (by rw [hz2]; omega) (by unfold maxLen; omega) (Nat.le_refl _) ?_)
    intro w1 hown1 hgrow1
    have hb1 : Below w.heap.size w w1 := (Below.refl _ _).grown hgrow1 (Nat.le_refl _) (fun k h => by cases h)
    clear hgrow1
    go_wp2_with (at_builtin; refine wpList_append_fits_any _ rfl _ _ 22 rfl w.heap.size 5 i0 1 Try.underlying22 hi hz1 w.heap.size 0 (n + 5) [] rfl hown1 ao n cap ((zs.take n).map (Value.int .u8)) rfl (by simp; omega) HN.out (fun ad had => by have := reads_news (i := 0) (m := n) (ad := ad) (HR.out.later hb1) hz (by omega) (fun g off h _ => by rw [had] at h; cases h; rfl); simpa using this) (ints_oneCell _ _) (by omega) ?_)
    intro w2 hown2 hgrow2
    have hbB : Below w.heap.size w w2 := hb1.grown hgrow2 hb1.size (fun j h => by cases h; exact Nat.le_refl _)
    have hownB : w2.ownsRow w.heap.size 5 1 (.slice (some ⟨w.heap.size, 0, none⟩) n (n + 5)) n ((zs.take n).map (Value.int .u8)) := by simpa using hown2
    clear hown2 hgrow2 hown1
    go_wp2
    go_loopw [34] (fun i wr => ∃ k : Nat, k ≤ n ∧ i = .int .i64 k ∧ wr.ownsRow w.heap.size 5 1 (.slice (some ⟨w.heap.size, 0, none⟩) n (n + 5)) n ((tabbed (zs.take n) k).map (Value.int .u8)) ∧ Below w.heap.size w wr)
      (fun i _ => n - (intOf i).toNat)
    case atStart => exact ⟨0, by omega, rfl, by rw [tabbed_zero]; exact hownB, hbB⟩
    case round =>
      clear hownB hbB
      obtain ⟨k, hk, rfl, hown, hb⟩ := hrel
      by_cases hlt : k < n
      · have hco := own_cell hown hlt
        rw [tabbed_getD] at hco
        have hfo := hown.frozenAt k
        obtain ⟨c, hcz⟩ : ∃ c, c = ((zs.take n)).getD k 0 := ⟨_, rfl⟩
        rw [← hcz] at hco
        by_cases h9 : c = 9
        · subst h9
          have HS := hid' (own_set (k := k) hown 32)
          have e : (tabbed (zs.take n) k).set k 32 = tabbed (zs.take n) (k + 1) := by
            rw [tabbed_step _ _ (by rw [hlen]; exact hlt), ← hcz]; rfl
          rw [e] at HS
          clear e hcz hown
          go_wp2
          go_roundw
          case rel => exact ⟨k + 1, by omega, by go_num, HS.out.1, hb.grown HS.out.2 hb.size (fun j h => by cases h; exact Nat.le_refl _)⟩
          case measure => simp [intOf]; omega
        · have e := tabbed_keep _ _ (by rw [hlen]; exact hlt) (by rw [← hcz]; exact h9)
          rw [← e] at hown
          have h9' : (c == 9) = false := beq_eq_false_iff_ne.2 h9
          clear e hcz h9
          go_wp2
          go_roundw
          case rel => exact ⟨k + 1, by omega, by go_num, hown, hb⟩
          case measure => simp [intOf]; omega
      · have hkN : k = n := by omega
        have hta : tabbed (zs.take n) (n) = untabbed (zs.take n) := by
          have := tabbed_all ((zs.take n))
          rwa [hlen] at this
        rw [hkN, hta] at hown
        clear hkN hta
        obtain ⟨w8, rfl⟩ : ∃ w8 : World, w8 = wr := ⟨_, rfl⟩
        go_wp2_with (at_builtin; refine wpList_append_fits _ rfl _ _ 22 rfl w.heap.size 5 i0 1 Try.underlying22 hi hz1 w.heap.size n (n + 5) _ rfl (hown.alloc _) ⟨w8.heap.size, 0, none⟩ 1 1 [.int .u8 9] rfl rfl (cell_one_new _ _ _) (by intro u hu; simp at hu; subst hu; rfl) (by omega) ?_)
        intro w9 hown9 hgrow9
        have hb9 : Below w.heap.size w w9 := (hb.alloc hb.size _).grown hgrow9 (by have := hb.size; simp; omega) (fun j h => by cases h; exact Nat.le_refl _)
        have hown9' : w9.ownsRow w.heap.size 5 1 (.slice (some ⟨w.heap.size, 0, none⟩) (n + 1) (n + 5)) (n + 1) ((untabbed (zs.take n) ++ [9]).map (Value.int .u8)) := by
          rw [List.map_append]
          exact hown9
        clear hown9 hgrow9 hown hb
        go_wp2
        go_ret2
        exact ⟨rfl, hown9', hb9⟩

/-- What stands in the probe ahead of the tabs' turning, where root lies inside. -/
def inList (zs : List Int) (n r : Nat) : List Int := (zs.take r ++ [32, 10, 45, 32]) ++ (zs.drop r).take (n - r)
theorem inList_length (zs : List Int) (n r : Nat) (hz : n ≤ zs.length) (hr : r < n) : (inList zs n r).length = n + 4 := by simp [inList]; omega

set_option maxHeartbeats 400000 in
theorem probe_in (g off n cap r : Nat) (zs : List Int) (w : World) (hr : Reads w (some ⟨g, off, none⟩) n zs) (hz : n ≤ zs.length) (hl : n ≤ 1048576) (hcap : n ≤ cap) (hin : r < n) :
    Calls Try.prog 28 #[.slice (some ⟨g, off, none⟩) n cap, .int .i64 r] w fun e w' => e = .returned (.tuple #[.slice (some ⟨w.heap.size, 0, none⟩) (n + 4 + 1) (n + 5), .int .i64 1]) ∧
      w'.ownsRow w.heap.size 5 1 (.slice (some ⟨w.heap.size, 0, none⟩) (n + 4 + 1) (n + 5)) (n + 4 + 1) ((untabbed (inList zs n r) ++ [9]).map (Value.int .u8)) ∧ Below w.heap.size w w' := by
  obtain ⟨i0, hi, hz0, hz1, hz2⟩ := info_parts info5
  have HR := hid' hr
  clear hr
  have hlen := inList_length zs n r hz hin
  have hcr : ¬ cap = r := by omega
  go_enter Try.func28, Try.ntmps28
  go_wp2_with (at_make; refine wpList_make_own _ rfl _ _ 22 rfl w.heap.size 5 i0 (.int .u8 0) 1 Try.underlying22 hi hz0 hz1 _ _ _ (n + 5) rfl rfl (by omega) (by rw [hz2]; omega) (by unfold maxLen; omega) (Nat.le_refl _) ?_)
  intro w1 hown1 hgrow1
  have hb1 : Below w.heap.size w w1 := (Below.refl _ _).grown hgrow1 (Nat.le_refl _) (fun k h => by cases h)
  clear hgrow1
  go_wp2_with (at_builtin; refine wpList_append_fits _ rfl _ _ 22 rfl w.heap.size 5 i0 1 Try.underlying22 hi hz1 w.heap.size 0 (n + 5) [] rfl hown1 ⟨g, off, none⟩ r cap ((zs.take r).map (Value.int .u8)) rfl (by simp; omega) (by have := reads_news (i := 0) (m := r) (ad := ⟨g, off, none⟩) (HR.out.later hb1) hz (by omega) (fun g off h _ => by cases h; rfl); simpa using this) (ints_oneCell _ _) (by omega) ?_)
  intro w2 hown2 hgrow2
  have hb2 : Below w.heap.size w w2 := hb1.grown hgrow2 hb1.size (fun j h => by cases h; exact Nat.le_refl _)
  clear hgrow2
  go_wp2_with (at_builtin; refine Lib.wpList_append_fits_string _ rfl _ _ 22 9 rfl w.heap.size 5 i0 Try.underlying22 Try.underlying9 hi hz1 (some ⟨w.heap.size, 0, none⟩) r (n + 5) _ rfl (by simpa using hown2) ⟨#[32, 10, 45, 32]⟩ rfl (by omega) (by show r + 4 ≤ n + 5; omega) ?_)
  intro w3 hown3 hgrow3
  have hb3 : Below w.heap.size w w3 := hb2.grown hgrow3 hb2.size (fun j h => by cases h; exact Nat.le_refl _)
  have hown3' : w3.ownsRow w.heap.size 5 1 (.slice (some ⟨w.heap.size, 0, none⟩) (r + 4) (n + 5)) (r + 4) ((zs.take r ++ [32, 10, 45, 32]).map (Value.int .u8)) := by
    rw [List.map_append, List.map_take]
    exact hown3
  clear hgrow3 hown2 hown3
  go_wp2_with (at_builtin; refine wpList_append_fits _ rfl _ _ 22 rfl w.heap.size 5 i0 1 Try.underlying22 hi hz1 w.heap.size (r + 4) (n + 5) _ rfl hown3' ⟨g, off + r, none⟩ (n - r) (cap - r) (((zs.drop r).take (n - r)).map (Value.int .u8)) rfl (by simp; omega) (reads_news (i := r) (m := n - r) (HR.out.later hb3) hz (by omega) (fun g off h _ => by cases h; rfl)) (ints_oneCell _ _) (by omega) ?_)
  intro w4 hown4 hgrow4
  rw [show r + 4 + (n - r) = n + 4 by omega] at hown4 ⊢
  have hbB : Below w.heap.size w w4 := hb3.grown hgrow4 hb3.size (fun j h => by cases h; exact Nat.le_refl _)
  have hownB : w4.ownsRow w.heap.size 5 1 (.slice (some ⟨w.heap.size, 0, none⟩) (n + 4) (n + 5)) (n + 4) ((inList zs n r).map (Value.int .u8)) := by
    unfold inList
    rw [List.map_append]
    simpa using hown4
  clear hown4 hgrow4 hown3' hown1
  go_wp2
  go_loopw [34] (fun i wr => ∃ k : Nat, k ≤ (n + 4) ∧ i = .int .i64 k ∧ wr.ownsRow w.heap.size 5 1 (.slice (some ⟨w.heap.size, 0, none⟩) (n + 4) (n + 5)) (n + 4) ((tabbed (inList zs n r) k).map (Value.int .u8)) ∧ Below w.heap.size w wr)
    (fun i _ => (n + 4) - (intOf i).toNat)
  case atStart => exact ⟨0, by omega, rfl, by rw [tabbed_zero]; exact hownB, hbB⟩
  case round =>
    clear hownB hbB
    obtain ⟨k, hk, rfl, hown, hb⟩ := hrel
    by_cases hlt : k < (n + 4)
    · have hco := own_cell hown hlt
      rw [tabbed_getD] at hco
      have hfo := hown.frozenAt k
      obtain ⟨c, hcz⟩ : ∃ c, c = ((inList zs n r)).getD k 0 := ⟨_, rfl⟩
      rw [← hcz] at hco
      by_cases h9 : c = 9
      · subst h9
        have HS := hid' (own_set (k := k) hown 32)
        have e : (tabbed (inList zs n r) k).set k 32 = tabbed (inList zs n r) (k + 1) := by
          rw [tabbed_step _ _ (by rw [hlen]; exact hlt), ← hcz]; rfl
        rw [e] at HS
        clear e hcz hown
        go_wp2
        go_roundw
        case rel => exact ⟨k + 1, by omega, by go_num, HS.out.1, hb.grown HS.out.2 hb.size (fun j h => by cases h; exact Nat.le_refl _)⟩
        case measure => simp [intOf]; omega
      · have e := tabbed_keep _ _ (by rw [hlen]; exact hlt) (by rw [← hcz]; exact h9)
        rw [← e] at hown
        have h9' : (c == 9) = false := beq_eq_false_iff_ne.2 h9
        clear e hcz h9
        go_wp2
        go_roundw
        case rel => exact ⟨k + 1, by omega, by go_num, hown, hb⟩
        case measure => simp [intOf]; omega
    · have hkN : k = (n + 4) := by omega
      have hta : tabbed (inList zs n r) ((n + 4)) = untabbed (inList zs n r) := by
        have := tabbed_all ((inList zs n r))
        rwa [hlen] at this
      rw [hkN, hta] at hown
      clear hkN hta
      obtain ⟨w8, rfl⟩ : ∃ w8 : World, w8 = wr := ⟨_, rfl⟩
      go_wp2_with (at_builtin; refine wpList_append_fits _ rfl _ _ 22 rfl w.heap.size 5 i0 1 Try.underlying22 hi hz1 w.heap.size (n + 4) (n + 5) _ rfl (hown.alloc _) ⟨w8.heap.size, 0, none⟩ 1 1 [.int .u8 9] rfl rfl (cell_one_new _ _ _) (by intro u hu; simp at hu; subst hu; rfl) (by omega) ?_)
      intro w9 hown9 hgrow9
      have hb9 : Below w.heap.size w w9 := (hb.alloc hb.size _).grown hgrow9 (by have := hb.size; simp; omega) (fun j h => by cases h; exact Nat.le_refl _)
      have hown9' : w9.ownsRow w.heap.size 5 1 (.slice (some ⟨w.heap.size, 0, none⟩) ((n + 4) + 1) (n + 5)) ((n + 4) + 1) ((untabbed (inList zs n r) ++ [9]).map (Value.int .u8)) := by
        rw [List.map_append]
        exact hown9
      clear hown9 hgrow9 hown hb
      go_wp2
      go_ret2
      exact ⟨rfl, hown9', hb9⟩

def outL (zs : List Int) (n : Nat) : List Int := untabbed (zs.take n) ++ [9]
def inL (zs : List Int) (n r : Nat) : List Int := untabbed (inList zs n r) ++ [9]

theorem reads_own {w : World} {B b n cap : Nat} {xs : List Int} (h : w.ownsRow B 5 1 (.slice (some ⟨b, 0, none⟩) n cap) n (xs.map (Value.int .u8))) : Reads w (some ⟨b, 0, none⟩) n xs :=
  fun _ => ⟨b, 0, rfl, (h.lt b rfl).2, fun j hj => by rw [Nat.zero_add]; exact own_cell h hj⟩

theorem zzProbe_out (ao : Option Addr) (n cap : Nat) (root : Int) (zs : List Int) (w : World) (hr : Reads w ao n zs) (hnil : ao = none → n = 0 ∧ cap = 0) (hz : n ≤ zs.length) (hl : n ≤ 1048576) (hout : root < 0 ∨ (n : Int) ≤ root) :
    Calls Try.prog 20 #[.slice ao n cap, .int .i64 root] w fun e w' => e = .returned (.tuple #[.slice (some ⟨w.heap.size, 0, none⟩) (n + 1) (n + 5), .int .i64 0]) ∧
      Reads w' (some ⟨w.heap.size, 0, none⟩) (n + 1) (outL zs n) ∧ Below w.heap.size w w' := by
  have HC := hid' (probe_out ao n cap root zs w hr hnil hz hl hout)
  clear hr hnil hout
  go_enter Try.func20, Try.ntmps20
  go_wp2_with fail
  refine HC.out.mono ?_
  rintro e w' ⟨rfl, hown, hb⟩
  have hrd := hid' (reads_own hown)
  clear HC hown
  go_wp2
  go_ret2
  exact ⟨rfl, hrd.out, hb⟩

theorem zzProbe_in (g off n cap r : Nat) (zs : List Int) (w : World) (hr : Reads w (some ⟨g, off, none⟩) n zs) (hz : n ≤ zs.length) (hl : n ≤ 1048576) (hcap : n ≤ cap) (hin : r < n) :
    Calls Try.prog 20 #[.slice (some ⟨g, off, none⟩) n cap, .int .i64 r] w fun e w' => e = .returned (.tuple #[.slice (some ⟨w.heap.size, 0, none⟩) (n + 4 + 1) (n + 5), .int .i64 1]) ∧
      Reads w' (some ⟨w.heap.size, 0, none⟩) (n + 4 + 1) (inL zs n r) ∧ Below w.heap.size w w' := by
  have HC := hid' (probe_in g off n cap r zs w hr hz hl hcap hin)
  clear hr
  go_enter Try.func20, Try.ntmps20
  go_wp2_with fail
  refine HC.out.mono ?_
  rintro e w' ⟨rfl, hown, hb⟩
  have hrd := hid' (reads_own hown)
  clear HC hown
  go_wp2
  go_ret2
  exact ⟨rfl, hrd.out, hb⟩

theorem tab_any (c : Int) (w : World) : Calls Try.prog 21 #[.int .u8 c] w fun e w' => e = .returned (.int .u8 (untab c)) ∧ w' = w := by
  by_cases h : c = 9
  · subst h
    go_enter Try.func21, Try.ntmps21
    go_wp2
    go_ret
    exact ⟨rfl, rfl⟩
  · have hb : (c == 9) = false := beq_eq_false_iff_ne.2 h
    have HE : Hid (untab c = c) := by show untab c = c; unfold untab; rw [if_neg h]
    clear h
    go_enter Try.func21, Try.ntmps21
    go_wp2
    go_ret
    rw [HE.out]
    exact ⟨rfl, rfl⟩

theorem untabbed_append (A B : List Int) : untabbed (A ++ B) = untabbed A ++ untabbed B := by simp [untabbed]
theorem untabbed_length (A : List Int) : (untabbed A).length = A.length := by simp [untabbed]
theorem untab_zero : untab 0 = 0 := by decide
theorem untabbed_getD (A : List Int) (j : Nat) (h : j < A.length) : (untabbed A).getD j 0 = untab (A.getD j 0) := by simp [untabbed, List.getD, h]
theorem getD_left {A B : List Int} {j : Nat} (h : j < A.length) : (A ++ B).getD j 0 = A.getD j 0 := by simp [List.getD, List.getElem?_append_left h]
theorem getD_right {A B : List Int} {j : Nat} : (A ++ B).getD (A.length + j) 0 = B.getD j 0 := by simp [List.getD, List.getElem?_append_right]
theorem getD_right' {A B : List Int} {j k : Nat} (h : A.length + j = k) : (A ++ B).getD k 0 = B.getD j 0 := by subst h; exact getD_right
theorem getD_take_lt {zs : List Int} {n j : Nat} (h : j < n) : (zs.take n).getD j 0 = zs.getD j 0 := by simp [List.getD, h]

theorem outL_lt {zs : List Int} {n j : Nat} (hz : n ≤ zs.length) (h : j < n) : (outL zs n).getD j 0 = untab (zs.getD j 0) := by
  have hl : (zs.take n).length = n := by simp; omega
  unfold outL
  rw [getD_left (by rw [untabbed_length, hl]; exact h), untabbed_getD _ _ (by rw [hl]; exact h), getD_take_lt h]
theorem outL_last {zs : List Int} {n : Nat} (hz : n ≤ zs.length) : (outL zs n).getD n 0 = 9 := by
  have hl : (zs.take n).length = n := by simp; omega
  unfold outL
  exact getD_right' (j := 0) (by rw [untabbed_length, hl]; rfl)
theorem inL_eq (zs : List Int) (n r : Nat) : inL zs n r = untabbed (zs.take r) ++ ([32, 10, 45, 32] ++ (untabbed ((zs.drop r).take (n - r)) ++ [9])) := by
  unfold inL inList
  rw [untabbed_append, untabbed_append, show untabbed [32, 10, 45, 32] = [32, 10, 45, 32] from by decide]
  simp only [List.append_assoc]
theorem inL_lt {zs : List Int} {n r j : Nat} (hz : n ≤ zs.length) (hr : r < n) (h : j < r) : (inL zs n r).getD j 0 = untab (zs.getD j 0) := by
  have hl : (zs.take r).length = r := by simp; omega
  rw [inL_eq, getD_left (by rw [untabbed_length, hl]; exact h), untabbed_getD _ _ (by rw [hl]; exact h), getD_take_lt h]
theorem inL_mid {zs : List Int} {n r : Nat} (hz : n ≤ zs.length) (hr : r < n) : (inL zs n r).getD r 0 = 32 ∧ (inL zs n r).getD (r + 1) 0 = 10 ∧ (inL zs n r).getD (r + 2) 0 = 45 ∧ (inL zs n r).getD (r + 3) 0 = 32 := by
  have hl : (untabbed (zs.take r)).length = r := by rw [untabbed_length]; simp; omega
  rw [inL_eq]
  exact ⟨getD_right' (j := 0) (by omega), getD_right' (j := 1) (by omega), getD_right' (j := 2) (by omega), getD_right' (j := 3) (by omega)⟩
theorem inL_ge {zs : List Int} {n r j : Nat} (hz : n ≤ zs.length) (hr : r < n) (h1 : r ≤ j) (h2 : j < n) : (inL zs n r).getD (j + 4) 0 = untab (zs.getD j 0) := by
  have hl : (untabbed (zs.take r)).length = r := by rw [untabbed_length]; simp; omega
  have hl2 : ((zs.drop r).take (n - r)).length = n - r := by simp; omega
  rw [inL_eq, getD_right' (j := 4 + (j - r)) (by omega), getD_right' (j := j - r) (by simp), getD_left (by rw [untabbed_length, hl2]; omega), untabbed_getD _ _ (by rw [hl2]; omega), getD_take_lt (by omega)]
  simp [List.getD, show r + (j - r) = j by omega]
theorem inL_last {zs : List Int} {n r : Nat} (hz : n ≤ zs.length) (hr : r < n) : (inL zs n r).getD (n + 4) 0 = 9 := by
  have hl : (untabbed (zs.take r)).length = r := by rw [untabbed_length]; simp; omega
  have hl2 : (untabbed ((zs.drop r).take (n - r))).length = n - r := by rw [untabbed_length]; simp; omega
  rw [inL_eq, getD_right' (j := 4 + (n - r)) (by omega), getD_right' (j := n - r) (by simp)]
  exact getD_right' (j := 0) (by omega)

end Go.Proofs.Qxb6603405a
