/-
  FnPlainProbeEndsInItsOnlyTab: the walk.
-/
import Derived.Test.Qxb6603405aProbe
namespace Go.Proofs.Qxb6603405a
open Go.RowKit

/-- How often c stands in a list. -/
def cntL (c : Int) : List Int → Nat
  | [] => 0
  | x :: xs => (if x = c then 1 else 0) + cntL c xs
theorem cntL_append (c : Int) : ∀ A B : List Int, cntL c (A ++ B) = cntL c A + cntL c B
  | [], B => by simp [cntL]
  | x :: A, B => by rw [List.cons_append, cntL, cntL, cntL_append c A B, Nat.add_assoc]
theorem cntL_le (c : Int) : ∀ A : List Int, cntL c A ≤ A.length
  | [] => by simp [cntL]
  | x :: A => by
    have := cntL_le c A
    rw [cntL, List.length_cons]
    split <;> omega
theorem cntL_untabbed (c : Int) (h1 : c ≠ 9) (h2 : c ≠ 32) : ∀ A : List Int, cntL c (untabbed A) = cntL c A
  | [] => rfl
  | x :: A => by
    have ih := cntL_untabbed c h1 h2 A
    show (if untab x = c then 1 else 0) + cntL c (untabbed A) = (if x = c then 1 else 0) + cntL c A
    rw [ih]
    unfold untab
    by_cases h : x = 9
    · subst h
      rw [if_pos rfl, if_neg (by omega), if_neg (by omega)]
    · rw [if_neg h]
theorem cntL_snoc (c x : Int) (A : List Int) : cntL c (A ++ [x]) = cntL c A + if x = c then 1 else 0 := by
  rw [cntL_append]; simp [cntL]
theorem take_snoc' (zs : List Int) (k : Nat) (h : k < zs.length) : zs.take (k + 1) = zs.take k ++ [zs.getD k 0] := by
  rw [List.take_succ_eq_append_getElem h]
  simp only [List.getD, List.getElem?_eq_getElem h, Option.getD_some]

set_option maxHeartbeats 400000 in
theorem count_some (g off n cap : Nat) (c : Int) (zs : List Int) (w : World) (hl : n ≤ zs.length) (hn : n ≤ 140737488351232)
    (hc : ∀ j, j < n → w.cell? ⟨g, off + j, none⟩ = some (.int .u8 (zs.getD j 0))) :
    Calls Try.prog 23 #[.slice (some ⟨g, off, none⟩) n cap, .int .u8 c] w fun e w' => e = .returned (.int .i64 (cntL c (zs.take n))) ∧ w' = w := by
  go_enter Try.func23, Try.ntmps23
  go_wp2
  go_loop [5, 6] (fun a i => ∃ k : Nat, k ≤ n ∧ i = .int .i64 k ∧ a = .int .i64 (cntL c (zs.take k))) (fun _ i => n - (intOf i).toNat)
  case atStart => exact ⟨0, by omega, rfl, rfl⟩
  case round =>
    obtain ⟨k, hk, rfl, rfl⟩ := hrel
    by_cases hlt : k < n
    · have hcx := hc k hlt
      have hle : cntL c (zs.take k) ≤ k := Nat.le_trans (cntL_le c _) (List.length_take_le _ _)
      have HS : Hid (cntL c (zs.take (k + 1)) = cntL c (zs.take k) + if zs.getD k 0 = c then 1 else 0) := by
        show _ = _
        rw [take_snoc' zs k (by omega), cntL_snoc]
      obtain ⟨x, hx⟩ : ∃ x, x = zs.getD k 0 := ⟨_, rfl⟩
      rw [← hx] at hcx HS
      obtain ⟨m, hm⟩ : ∃ m, m = cntL c (zs.take k) := ⟨_, rfl⟩
      rw [← hm] at hle HS ⊢
      clear hx hm hc
      by_cases hxc : x = c
      · subst hxc
        go_wp2
        go_round
        case rel => exact ⟨k + 1, by omega, by go_num, by rw [HS.out, if_pos rfl]; go_num⟩
        case measure => simp [intOf]; omega
      · have hb : (x == c) = false := beq_eq_false_iff_ne.2 hxc
        go_wp2
        go_round
        case rel => exact ⟨k + 1, by omega, by go_num, by rw [HS.out, if_neg hxc]; rfl⟩
        case measure => simp [intOf]; omega
    · have hkn : k = n := by omega
      subst hkn
      go_wp2
      go_ret
      exact ⟨rfl, rfl⟩
set_option maxHeartbeats 400000 in
theorem count_zero (ao : Option Addr) (cap : Nat) (c : Int) (w : World) :
    Calls Try.prog 23 #[.slice ao 0 cap, .int .u8 c] w fun e w' => e = .returned (.int .i64 0) ∧ w' = w := by
  go_enter Try.func23, Try.ntmps23
  go_wp2
  refine wp_loop_rounds 1 ?_
  rw [rounds_succ]
  go_wp2
  go_ret
  exact ⟨rfl, rfl⟩
theorem count_any (ao : Option Addr) (n cap : Nat) (c : Int) (zs : List Int) (w : World) (hl : n ≤ zs.length) (hn : n ≤ 140737488351232) (hr : Reads w ao n zs) :
    Calls Try.prog 23 #[.slice ao n cap, .int .u8 c] w fun e w' => e = .returned (.int .i64 (cntL c (zs.take n))) ∧ w' = w := by
  by_cases h0 : n = 0
  · subst h0
    exact count_zero ao cap c w
  · obtain ⟨g, off, rfl, _, hc⟩ := hr (by omega)
    exact count_some g off n cap c zs w hl hn hc

/-- What both arms of plainProbe share. -/
theorem zzProbe_any (ao : Option Addr) (n cap : Nat) (root : Int) (zs : List Int) (w : World) (hr : Reads w ao n zs) (hnil : ao = none → n = 0 ∧ cap = 0) (hz : n ≤ zs.length) (hl : n ≤ 1048576) (hcap : n ≤ cap) :
    Calls Try.prog 20 #[.slice ao n cap, .int .i64 root] w fun e w' => ∃ (N C a : Nat) (B : List Int), e = .returned (.tuple #[.slice (some ⟨w.heap.size, 0, none⟩) (N + 1) C, .int .i64 (a : Int)]) ∧ a ≤ 1 ∧ B.length = N ∧ N ≤ 1048580 ∧
      cntL 10 B = cntL 10 (zs.take n) + a ∧ cntL 13 B = cntL 13 (zs.take n) ∧ Reads w' (some ⟨w.heap.size, 0, none⟩) (N + 1) (untabbed B ++ [9]) ∧ Below w.heap.size w w' := by
  by_cases hin : 0 ≤ root ∧ root < (n : Int)
  · obtain ⟨r, rfl⟩ := Int.eq_ofNat_of_zero_le hin.1
    have hrn : r < n := by omega
    obtain ⟨g, off, rfl, _, _⟩ := hr (by omega)
    refine (zzProbe_in g off n cap r zs w hr hz hl hcap hrn).mono ?_
    rintro e w' ⟨rfl, hrd, hb⟩
    have hsplit : zs.take n = zs.take r ++ (zs.drop r).take (n - r) := by
      have : n = r + (n - r) := by omega
      conv => lhs; rw [this]
      exact List.take_add
    refine ⟨n + 4, n + 5, 1, inList zs n r, rfl, by omega, inList_length zs n r hz hrn, by omega, ?_, ?_, hrd, hb⟩
    · unfold inList
      rw [cntL_append, cntL_append, hsplit, cntL_append, show cntL 10 [32, 10, 45, 32] = 1 from by decide]
      omega
    · unfold inList
      rw [cntL_append, cntL_append, hsplit, cntL_append, show cntL 13 [32, 10, 45, 32] = 0 from by decide]
      omega
  · refine (zzProbe_out ao n cap root zs w hr hnil hz hl (by omega)).mono ?_
    rintro e w' ⟨rfl, hrd, hb⟩
    exact ⟨n, n + 5, 0, zs.take n, rfl, by omega, by simp; omega, by omega, by omega, rfl, hrd, hb⟩

theorem zz22_yes (ao : Option Addr) (n cap : Nat) (root : Value) (w : World) (hn : n ≤ 1048576) :
    Calls Try.prog 22 #[.slice ao n cap, root] w fun e w' => e = .returned (.bool true) ∧ w' = w := by
  go_enter Try.func22, Try.ntmps22
  go_wp2
  go_ret
  exact ⟨rfl, rfl⟩
theorem zz22_no (ao : Option Addr) (n cap : Nat) (root : Value) (w : World) (hn : 1048576 < n) :
    Calls Try.prog 22 #[.slice ao n cap, root] w fun e w' => e = .returned (.bool false) ∧ w' = w := by
  go_enter Try.func22, Try.ntmps22
  go_wp2
  go_ret
  exact ⟨rfl, rfl⟩
theorem onlyTab_no (ao : Option Addr) (n cap : Nat) (root : Int) (w : World) (hn : 1048576 < n) :
    Calls Try.prog 9 #[.slice ao n cap, .int .i64 root] w fun e w' => e = .returned (.bool true) ∧ w' = w := by
  go_enter Try.func9, Try.ntmps9
  go_wp2_with (go_at_call 22; refine (zz22_no _ _ _ _ _ hn).mono ?_; rintro e w' ⟨rfl, rfl⟩)
  go_ret
  exact ⟨rfl, rfl⟩

theorem tabL_lt {B : List Int} {j : Nat} (h : j < B.length) : (untabbed B ++ [9]).getD j 0 = untab (B.getD j 0) := by
  rw [getD_left (by rw [untabbed_length]; exact h), untabbed_getD _ _ h]
theorem tabL_last {B : List Int} {N : Nat} (h : B.length = N) : (untabbed B ++ [9]).getD N 0 = 9 :=
  getD_right' (j := 0) (by rw [untabbed_length]; omega)
theorem untab_ne (c : Int) : (untab c == 9) = false := by
  rw [beq_eq_false_iff_ne]
  unfold untab
  split
  · decide
  · assumption
theorem tabL_take {B : List Int} {N : Nat} (h : B.length = N) : (untabbed B ++ [9]).take (N + 1) = untabbed B ++ [9] :=
  List.take_of_length_le (by simp [untabbed_length, h])
theorem tabL_count {B : List Int} {N : Nat} (c : Int) (h1 : c ≠ 9) (h2 : c ≠ 32) (h : B.length = N) : cntL c ((untabbed B ++ [9]).take (N + 1)) = cntL c B := by
  rw [tabL_take h, cntL_snoc, cntL_untabbed c h1 h2, if_neg (by omega)]
  rfl

set_option maxHeartbeats 400000 in
theorem onlyTab_yes (ao : Option Addr) (n cap : Nat) (root : Int) (zs : List Int) (w : World) (hn : n ≤ 1048576) (hl : n ≤ zs.length) (hr : Reads w ao n zs) :
    Calls Try.prog 9 #[.slice ao n cap, .int .i64 root] w fun e w' => e = .returned (.bool true) ∧ Below w.heap.size w w' := by
  go_enter Try.func9, Try.ntmps9
  go_wp2_with (go_at_call 22; refine (zz22_yes _ _ _ _ _ hn).mono ?_; rintro e w' ⟨rfl, rfl⟩)
  refine (clone_nn ao n cap zs _ hn hl hr).mono ?_
  rintro e w1 ⟨ao1, c1, rfl, hc1, hc2, hnil, hr1, hb1⟩
  clear hr
  have HC := hid' (zzProbe_any ao1 n c1 root zs w1 hr1 hnil hl hn hc1)
  clear hnil
  go_wp2_with fail
  refine HC.out.mono ?_
  rintro e w2 ⟨N, C, a, B, rfl, ha, hBN, hN, h10, h13, hrp, hb2⟩
  clear HC
  have HRc := hid' (hr1.later hb2)
  have HP := hid' hrp
  have HBN := hid' hBN
  obtain ⟨g0, off0, e0, hg0, hp0⟩ := hrp (by omega)
  cases e0
  have hlast := hp0 N (by omega)
  rw [tabL_last hBN, Nat.zero_add] at hlast
  have hpj : Hid (∀ j, j < N → w2.cell? ⟨w1.heap.size, j, none⟩ = some (.int .u8 (untab (B.getD j 0)))) := fun j hj => by
    have := hp0 j (by omega)
    rwa [tabL_lt (by omega), Nat.zero_add] at this
  have hx10 := tabL_count 10 (by decide) (by decide) hBN
  have hx13 := tabL_count 13 (by decide) (by decide) hBN
  rw [h10] at hx10
  rw [h13] at hx13
  have k1 := hid' (count_any _ (N + 1) C 10 _ w2 (by simp [untabbed_length, hBN]) (by omega) hrp)
  have k2 := hid' (count_any ao1 n c1 10 zs w2 hl (by omega) HRc.out)
  have k3 := hid' (count_any _ (N + 1) C 13 _ w2 (by simp [untabbed_length, hBN]) (by omega) hrp)
  have k4 := hid' (count_any ao1 n c1 13 zs w2 hl (by omega) HRc.out)
  rw [hx10] at k1
  rw [hx13] at k3
  have hle10 : cntL 10 (zs.take n) ≤ n := Nat.le_trans (cntL_le _ _) (List.length_take_le _ _)
  generalize cntL 10 (zs.take n) = p10 at k1 k2 hle10
  generalize cntL 13 (zs.take n) = p13 at k3 k4
  have hbb : Below w'.heap.size w' w2 := hb1.trans (hb2.mono hb1.size)
  clear hrp hr1 hp0 hx10 hx13 h10 h13 hBN
  have ha' : a = 0 ∨ a = 1 := by omega
  rcases ha' with rfl | rfl
  all_goals
    go_wp2
    go_loop [7] (fun i => ∃ k : Nat, k ≤ N ∧ i = .int .i64 k) (fun i => N - (intOf i).toNat)
    case atStart => exact ⟨0, by omega, rfl⟩
    case round =>
      obtain ⟨k, hk, rfl⟩ := hrel
      by_cases hlt : k < N
      · have hcx := hpj.out k hlt
        have hne := untab_ne (B.getD k 0)
        generalize untab (B.getD k 0) = x at hcx hne
        go_wp2
        go_round
        case rel => exact ⟨k + 1, by omega, by go_num⟩
        case measure => simp [intOf]; omega
      · go_wp2_with fail
        refine k1.out.mono ?_
        rintro e w3 ⟨rfl, rfl⟩
        go_wp2_with fail
        refine k2.out.mono ?_
        rintro e w4 ⟨rfl, rfl⟩
        go_wp2_with fail
        refine k3.out.mono ?_
        rintro e w5 ⟨rfl, rfl⟩
        go_wp2_with fail
        refine k4.out.mono ?_
        rintro e w6 ⟨rfl, rfl⟩
        go_wp2
        go_ret
        exact ⟨rfl, hbb⟩

end Go.Proofs.Qxb6603405a
