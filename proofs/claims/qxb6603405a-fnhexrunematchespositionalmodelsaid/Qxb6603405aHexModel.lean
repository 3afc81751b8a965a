/-
  FnHexRuneMatchesPositionalModel: the walk.
-/
import Derived.Test.Qxb6603405aHex
namespace Go.Proofs.Qxb6603405a
open Go.RowKit

def low (j : Nat) : Int := if j < 10 then 48 + (j : Int) else 87 + (j : Int)
def upp (j : Nat) : Int := if j < 10 then 48 + (j : Int) else 55 + (j : Int)
theorem low_is : ∀ q : Fin 16, (((ByteArray.mk #[48, 49, 50, 51, 52, 53, 54, 55, 56, 57, 97, 98, 99, 100, 101, 102])[q.val]'(by have := q.isLt; exact this)).toNat : Int) = low q.val := by decide
theorem upp_is : ∀ q : Fin 16, (((ByteArray.mk #[48, 49, 50, 51, 52, 53, 54, 55, 56, 57, 65, 66, 67, 68, 69, 70])[q.val]'(by have := q.isLt; exact this)).toNat : Int) = upp q.val := by decide
theorem dig_low {k : Nat} (h : k < 16) : dig (low k) = some (k : Int) := by
  have : ∀ q : Fin 16, dig (low q.val) = some (q.val : Int) := by decide
  exact this ⟨k, h⟩
theorem dig_upp {k : Nat} (h : k < 16) : dig (upp k) = some (k : Int) := by
  have : ∀ q : Fin 16, dig (upp q.val) = some (q.val : Int) := by decide
  exact this ⟨k, h⟩
theorem dig_none_of {c : Int} (h : ∀ j, j < 16 → c ≠ low j ∧ c ≠ upp j) : dig c = none := by
  refine dig_no (fun h1 => ?_) (fun h1 => ?_) (fun h1 => ?_)
  · exact (h (c - 48).toNat (by omega)).1 (by unfold low; rw [if_pos (by omega)]; omega)
  · exact (h (c - 87).toNat (by omega)).1 (by unfold low; rw [if_neg (by omega)]; omega)
  · exact (h (c - 55).toNat (by omega)).2 (by unfold upp; rw [if_neg (by omega)]; omega)

set_option maxHeartbeats 400000 in
theorem digit_any (c : Int) (w : World) :
    Calls Try.prog 14 #[.int .u8 c] w fun e w' => e = .returned (.tuple #[.int .i32 ((dig c).getD 0), .bool (dig c).isSome]) ∧ w' = w := by
  go_enter Try.func14, Try.ntmps14
  go_wp2
  go_loop [4] (fun i => ∃ k : Nat, k ≤ 16 ∧ i = .int .i64 k ∧ ∀ j, j < k → c ≠ low j ∧ c ≠ upp j) (fun i => 16 - (intOf i).toNat)
  case atStart => exact ⟨0, by omega, rfl, fun j hj => absurd hj (by omega)⟩
  case round =>
    obtain ⟨k, hk, rfl, hno⟩ := hrel
    have HN : Hid (∀ j, j < k → c ≠ low j ∧ c ≠ upp j) := hno
    clear hno
    by_cases hlt : k < 16
    · have e1 := low_is ⟨k, hlt⟩
      have e2 := upp_is ⟨k, hlt⟩
      simp only [] at e1 e2
      go_wp2
      · go_ret2
        exact ⟨by rw [dig_low hlt]; rfl, rfl⟩
      · have hn : ¬ c = low k := by assumption
        have ho : (c == low k) = true ∨ (c == upp k) = true := by assumption
        have hu : c = upp k := by
          rcases ho with h | h
          · exact absurd (by simpa using h) hn
          · simpa using h
        have HD : Hid (dig c = some (k : Int)) := by rw [hu]; exact dig_upp hlt
        clear hu ho
        go_ret2
        exact ⟨by rw [HD.out]; rfl, rfl⟩
      · have ho : (c == low k) = false ∧ (c == upp k) = false := by assumption
        go_round
        case rel =>
          refine ⟨k + 1, by omega, by go_num, fun j hj => ?_⟩
          by_cases hjk : j = k
          · subst hjk
            simpa using ho
          · exact HN.out j (by omega)
        case measure => simp [intOf]; omega
    · go_wp2
      go_ret2
      have hk16 : k = 16 := by omega
      subst hk16
      have e := dig_none_of HN.out
      rw [e]
      exact ⟨rfl, rfl⟩


def wt : Nat → Int
  | 0 => 4096
  | 1 => 256
  | 2 => 16
  | 3 => 1
  | _ => 0
def pl : Nat → Int
  | 0 => 65536
  | 1 => 4096
  | 2 => 256
  | 3 => 16
  | _ => 1
theorem digit_some (c d : Int) (w : World) (h : dig c = some d) :
    Calls Try.prog 14 #[.int .u8 c] w fun e w' => e = .returned (.tuple #[.int .i32 d, .bool true]) ∧ w' = w := by
  have := digit_any c w
  rw [h] at this
  exact this
theorem digit_none (c : Int) (w : World) (h : dig c = none) :
    Calls Try.prog 14 #[.int .u8 c] w fun e w' => e = .returned (.tuple #[.int .i32 0, .bool false]) ∧ w' = w := by
  have := digit_any c w
  rw [h] at this
  exact this
theorem hexTo_bound {zs : List Int} : ∀ {k : Nat} {x : Int}, hexTo zs k = some x → 0 ≤ x ∧ x < 16 ^ k
  | 0, x, h => by cases h; exact ⟨by omega, by decide⟩
  | k + 1, x, h => by
    rw [hexTo] at h
    cases h1 : hexTo zs k with
    | none => rw [h1] at h; cases h
    | some y =>
      rw [h1, Option.bind_some] at h
      cases h2 : dig (zs.getD k 0) with
      | none => rw [h2] at h; cases h
      | some d =>
        rw [h2] at h
        have hb := hexTo_bound h1
        have hr := dig_range h2
        cases h
        exact ⟨by show 0 ≤ y * 16 + d; omega, pow16_succ hb.2 hr.2⟩

theorem zz11_yes (ao : Option Addr) (n cap : Nat) (w : World) (hn : n ≤ 1048576) :
    Calls Try.prog 11 #[.slice ao n cap] w fun e w' => e = .returned (.bool true) ∧ w' = w := by
  go_enter Try.func11, Try.ntmps11
  go_wp2
  go_ret
  exact ⟨rfl, rfl⟩
theorem zz11_no (ao : Option Addr) (n cap : Nat) (w : World) (hn : 1048576 < n) :
    Calls Try.prog 11 #[.slice ao n cap] w fun e w' => e = .returned (.bool false) ∧ w' = w := by
  go_enter Try.func11, Try.ntmps11
  go_wp2
  go_ret
  exact ⟨rfl, rfl⟩

theorem hexModel_no (ao : Option Addr) (n cap : Nat) (w : World) (hn : 1048576 < n) :
    Calls Try.prog 3 #[.slice ao n cap] w fun e w' => e = .returned (.bool true) ∧ w' = w := by
  go_enter Try.func3, Try.ntmps3
  go_wp2_with (go_at_call 11; refine (zz11_no _ _ _ _ hn).mono ?_; rintro e w' ⟨rfl, rfl⟩)
  go_ret
  exact ⟨rfl, rfl⟩

set_option maxHeartbeats 400000 in
theorem hexModel_yes (ao : Option Addr) (n cap : Nat) (zs : List Int) (w : World) (hn : n ≤ 1048576)
    (hz : ∀ j, 0 ≤ zs.getD j 0 ∧ zs.getD j 0 ≤ 255) (hl : n ≤ zs.length) (hr : Reads w ao n zs) :
    Calls Try.prog 3 #[.slice ao n cap] w fun e w' => e = .returned (.bool true) ∧ Below w.heap.size w w' := by
  have HZ : Hid (∀ j, 0 ≤ zs.getD j 0 ∧ zs.getD j 0 ≤ 255) := hz
  clear hz
  go_enter Try.func3, Try.ntmps3
  go_wp2_with (go_at_call 11; refine (zz11_yes _ _ _ _ hn).mono ?_; rintro e w' ⟨rfl, rfl⟩)
  refine (clone_any ao n cap zs _ hn hl hr).mono ?_
  rintro e w1 ⟨ao1, c1, rfl, hc1, hc2, hr1, hb1⟩
  clear hr
  go_wp2_with fail
  refine (zzHex ao1 n c1 zs w1 hr1 hc1 (by omega) HZ.out).mono ?_
  rintro e w2 ⟨rfl, rfl⟩
  by_cases h4 : n < 4
  · rw [show hexOf zs n = none by unfold hexOf; rw [if_pos h4]]
    simp only [Option.getD_none, Option.isSome_none]
    go_wp2
    go_ret
    exact ⟨rfl, hb1⟩
  · rw [show hexOf zs n = hexTo zs 4 by unfold hexOf; rw [if_neg h4]]
    rcases ho : hexTo zs 4 with _ | x4
    · simp only [Option.getD_none, Option.isSome_none]
      have HO : Hid (hexTo zs 4 = none) := ho
      clear ho
      go_wp2
      go_loop [5, 6, 7] (fun a b i => ∃ (k : Nat) (x A W : Int), k ≤ 4 ∧ i = .int .i64 k ∧ a = .int .i32 A ∧ b = .int .i32 W ∧ hexTo zs k = some x ∧ A = x * pl k ∧ W = wt k) (fun _ _ i => 4 - (intOf i).toNat)
      case atStart => exact ⟨0, 0, _, _, by omega, rfl, rfl, rfl, rfl, rfl, rfl⟩
      case round =>
        obtain ⟨k, x, A, W, hk, rfl, rfl, rfl, hx, hA, hW⟩ := hrel
        have hxb := hexTo_bound hx
        have HX : Hid (hexTo zs k = some x) := hx
        have HA : Hid (A = x * pl k) := hA
        clear hx hA
        by_cases hlt : k < 4
        · obtain ⟨g, off, rfl, hg, hc⟩ := hr1 (by omega)
          have hcx := hc k (by omega)
          clear hc
          have hzk := HZ.out k
          rcases hd : dig (zs.getD k 0) with _ | d
          · have HD : Hid (dig (zs.getD k 0) = none) := hd
            clear hd hxb hW
            go_wp2_with (go_at_call 14; refine (digit_none _ _ HD.out).mono ?_; rintro e w3 ⟨rfl, rfl⟩)
            go_ret
            exact ⟨rfl, hb1⟩
          · have HD : Hid (dig (zs.getD k 0) = some d) := hd
            have hdr := dig_range hd
            have HS : Hid (hexTo zs (k + 1) = some (x * 16 + d)) := hexTo_step HX.out rfl hd
            clear hd
            have h4' : k = 0 ∨ k = 1 ∨ k = 2 ∨ k = 3 := by omega
            rcases h4' with rfl | rfl | rfl | rfl
            · have hA' : A = x * 65536 := HA.out
              have hAb : 0 ≤ A ∧ A ≤ 65536 := by omega
              have HA' : Hid (A = x * 65536) := hA'
              have hW' : W = 4096 := hW
              clear hA' hW hxb
              subst hW'
              rw [Nat.add_zero] at hcx
              go_wp2_with (go_at_call 14; refine (digit_some _ d _ HD.out).mono ?_; rintro e w3 ⟨rfl, rfl⟩)
              go_round
              case rel => exact ⟨1, x * 16 + d, _, _, by omega, rfl, rfl, rfl, HS.out, by show _ = (x * 16 + d) * 4096; have := HA'.out; omega, rfl⟩
              case measure => simp [intOf]
            · have hA' : A = x * 4096 := HA.out
              have hAb : 0 ≤ A ∧ A ≤ 65536 := by omega
              have HA' : Hid (A = x * 4096) := hA'
              have hW' : W = 256 := hW
              clear hA' hW hxb
              subst hW'
              go_wp2_with (go_at_call 14; refine (digit_some _ d _ HD.out).mono ?_; rintro e w3 ⟨rfl, rfl⟩)
              go_round
              case rel => exact ⟨2, x * 16 + d, _, _, by omega, rfl, rfl, rfl, HS.out, by show _ = (x * 16 + d) * 256; have := HA'.out; omega, rfl⟩
              case measure => simp [intOf]
            · have hA' : A = x * 256 := HA.out
              have hAb : 0 ≤ A ∧ A ≤ 65536 := by omega
              have HA' : Hid (A = x * 256) := hA'
              have hW' : W = 16 := hW
              clear hA' hW hxb
              subst hW'
              go_wp2_with (go_at_call 14; refine (digit_some _ d _ HD.out).mono ?_; rintro e w3 ⟨rfl, rfl⟩)
              go_round
              case rel => exact ⟨3, x * 16 + d, _, _, by omega, rfl, rfl, rfl, HS.out, by show _ = (x * 16 + d) * 16; have := HA'.out; omega, rfl⟩
              case measure => simp [intOf]
            · have hA' : A = x * 16 := HA.out
              have hAb : 0 ≤ A ∧ A ≤ 65536 := by omega
              have HA' : Hid (A = x * 16) := hA'
              have hW' : W = 1 := hW
              clear hA' hW hxb
              subst hW'
              go_wp2_with (go_at_call 14; refine (digit_some _ d _ HD.out).mono ?_; rintro e w3 ⟨rfl, rfl⟩)
              go_round
              case rel => exact ⟨4, x * 16 + d, _, _, by omega, rfl, rfl, rfl, HS.out, by show _ = (x * 16 + d) * 1; have := HA'.out; omega, rfl⟩
              case measure => simp [intOf]
        · have hk4 : k = 4 := by omega
          subst hk4
          have := HX.out.symm.trans HO.out
          cases this
    · simp only [Option.getD_some, Option.isSome_some]
      have HO : Hid (hexTo zs 4 = some x4) := ho
      clear ho
      go_wp2
      go_loop [5, 6, 7] (fun a b i => ∃ (k : Nat) (x A W : Int), k ≤ 4 ∧ i = .int .i64 k ∧ a = .int .i32 A ∧ b = .int .i32 W ∧ hexTo zs k = some x ∧ A = x * pl k ∧ W = wt k) (fun _ _ i => 4 - (intOf i).toNat)
      case atStart => exact ⟨0, 0, _, _, by omega, rfl, rfl, rfl, rfl, rfl, rfl⟩
      case round =>
        obtain ⟨k, x, A, W, hk, rfl, rfl, rfl, hx, hA, hW⟩ := hrel
        have hxb := hexTo_bound hx
        have HX : Hid (hexTo zs k = some x) := hx
        have HA : Hid (A = x * pl k) := hA
        clear hx hA
        by_cases hlt : k < 4
        · obtain ⟨g, off, rfl, hg, hc⟩ := hr1 (by omega)
          have hcx := hc k (by omega)
          clear hc
          have hzk := HZ.out k
          rcases hd : dig (zs.getD k 0) with _ | d
          · have HD : Hid (dig (zs.getD k 0) = none) := hd
            have := HO.out.symm.trans (hexTo_out hlt HX.out rfl hd)
            cases this
          · have HD : Hid (dig (zs.getD k 0) = some d) := hd
            have hdr := dig_range hd
            have HS : Hid (hexTo zs (k + 1) = some (x * 16 + d)) := hexTo_step HX.out rfl hd
            clear hd
            have h4' : k = 0 ∨ k = 1 ∨ k = 2 ∨ k = 3 := by omega
            rcases h4' with rfl | rfl | rfl | rfl
            · have hA' : A = x * 65536 := HA.out
              have hAb : 0 ≤ A ∧ A ≤ 65536 := by omega
              have HA' : Hid (A = x * 65536) := hA'
              have hW' : W = 4096 := hW
              clear hA' hW hxb
              subst hW'
              rw [Nat.add_zero] at hcx
              go_wp2_with (go_at_call 14; refine (digit_some _ d _ HD.out).mono ?_; rintro e w3 ⟨rfl, rfl⟩)
              go_round
              case rel => exact ⟨1, x * 16 + d, _, _, by omega, rfl, rfl, rfl, HS.out, by show _ = (x * 16 + d) * 4096; have := HA'.out; omega, rfl⟩
              case measure => simp [intOf]
            · have hA' : A = x * 4096 := HA.out
              have hAb : 0 ≤ A ∧ A ≤ 65536 := by omega
              have HA' : Hid (A = x * 4096) := hA'
              have hW' : W = 256 := hW
              clear hA' hW hxb
              subst hW'
              go_wp2_with (go_at_call 14; refine (digit_some _ d _ HD.out).mono ?_; rintro e w3 ⟨rfl, rfl⟩)
              go_round
              case rel => exact ⟨2, x * 16 + d, _, _, by omega, rfl, rfl, rfl, HS.out, by show _ = (x * 16 + d) * 256; have := HA'.out; omega, rfl⟩
              case measure => simp [intOf]
            · have hA' : A = x * 256 := HA.out
              have hAb : 0 ≤ A ∧ A ≤ 65536 := by omega
              have HA' : Hid (A = x * 256) := hA'
              have hW' : W = 16 := hW
              clear hA' hW hxb
              subst hW'
              go_wp2_with (go_at_call 14; refine (digit_some _ d _ HD.out).mono ?_; rintro e w3 ⟨rfl, rfl⟩)
              go_round
              case rel => exact ⟨3, x * 16 + d, _, _, by omega, rfl, rfl, rfl, HS.out, by show _ = (x * 16 + d) * 16; have := HA'.out; omega, rfl⟩
              case measure => simp [intOf]
            · have hA' : A = x * 16 := HA.out
              have hAb : 0 ≤ A ∧ A ≤ 65536 := by omega
              have HA' : Hid (A = x * 16) := hA'
              have hW' : W = 1 := hW
              clear hA' hW hxb
              subst hW'
              go_wp2_with (go_at_call 14; refine (digit_some _ d _ HD.out).mono ?_; rintro e w3 ⟨rfl, rfl⟩)
              go_round
              case rel => exact ⟨4, x * 16 + d, _, _, by omega, rfl, rfl, rfl, HS.out, by show _ = (x * 16 + d) * 1; have := HA'.out; omega, rfl⟩
              case measure => simp [intOf]
        · have hk4 : k = 4 := by omega
          subst hk4
          have hA' : A = x4 := by
            have h1 : A = x * 1 := HA.out
            have h2 := HX.out.symm.trans HO.out
            cases h2
            omega
          subst hA'
          clear hW hxb
          go_wp2
          go_ret
          exact ⟨rfl, hb1⟩

end Go.Proofs.Qxb6603405a
