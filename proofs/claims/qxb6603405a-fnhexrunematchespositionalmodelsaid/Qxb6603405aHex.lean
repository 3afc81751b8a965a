/-
  hexRune: what it computes, and the walk.
-/
import Derived.Test.Qxb6603405aBase
import Derived.Laws.BitsLemmas
namespace Go.Proofs.Qxb6603405a
open Go.RowKit

def dig (c : Int) : Option Int :=
  if 48 ≤ c ∧ c ≤ 57 then some (c - 48) else if 97 ≤ c ∧ c ≤ 102 then some (c - 87) else if 65 ≤ c ∧ c ≤ 70 then some (c - 55) else none

def hexTo (zs : List Int) : Nat → Option Int
  | 0 => some 0
  | k + 1 => (hexTo zs k).bind fun r => (dig (zs.getD k 0)).map fun d => r * 16 + d

theorem or4 (x d : Int) (h0 : 0 ≤ x) (h1 : x ≤ 4095) (d0 : 0 ≤ d) (d1 : d ≤ 15) : bits .or .i32 (x * 16) d = x * 16 + d :=
  bits_join .i32 31 (by decide) wraps_i32 4 (x * 16) d (by omega) (by omega) (by omega) d0 (by omega) (by omega)

theorem dig_09 {c : Int} (h1 : 48 ≤ c) (h2 : c ≤ 57) : dig c = some (c - 48) := by unfold dig; rw [if_pos ⟨h1, h2⟩]
theorem dig_af {c : Int} (h1 : 97 ≤ c) (h2 : c ≤ 102) : dig c = some (c - 97 + 10) := by
  unfold dig; rw [if_neg (by omega), if_pos ⟨h1, h2⟩]; congr 1; omega
theorem dig_AF {c : Int} (h1 : 65 ≤ c) (h2 : c ≤ 70) : dig c = some (c - 65 + 10) := by
  unfold dig; rw [if_neg (by omega), if_neg (by omega), if_pos ⟨h1, h2⟩]; congr 1; omega
theorem dig_no {c : Int} (h1 : ¬ (48 ≤ c ∧ c ≤ 57)) (h2 : ¬ (97 ≤ c ∧ c ≤ 102)) (h3 : ¬ (65 ≤ c ∧ c ≤ 70)) : dig c = none := by
  unfold dig; rw [if_neg h1, if_neg h2, if_neg h3]
theorem dig_range {c d : Int} (h : dig c = some d) : 0 ≤ d ∧ d ≤ 15 := by
  unfold dig at h
  split at h
  · cases h; omega
  · split at h
    · cases h; omega
    · split at h
      · cases h; omega
      · cases h

theorem dig_cases {c d : Int} (h : dig c = some d) : (48 ≤ c ∧ c ≤ 57 ∧ d = c - 48) ∨ (97 ≤ c ∧ c ≤ 102 ∧ d = c - 97 + 10) ∨ (65 ≤ c ∧ c ≤ 70 ∧ d = c - 65 + 10) := by
  unfold dig at h
  split at h
  · cases h; omega
  · split at h
    · cases h; omega
    · split at h
      · cases h; omega
      · cases h

theorem hexTo_step {zs : List Int} {k : Nat} {x c d : Int} (h : hexTo zs k = some x) (hc : c = zs.getD k 0) (hd : dig c = some d) : hexTo zs (k + 1) = some (x * 16 + d) := by
  subst hc
  rw [hexTo, h, Option.bind_some, hd, Option.map_some]
theorem hexTo_stop {zs : List Int} {k : Nat} {x c : Int} (h : hexTo zs k = some x) (hc : c = zs.getD k 0) (hd : dig c = none) : hexTo zs (k + 1) = none := by
  subst hc
  rw [hexTo, h, Option.bind_some, hd, Option.map_none]
theorem hexTo_dead {zs : List Int} {k : Nat} (h : hexTo zs k = none) : ∀ m, hexTo zs (k + m) = none
  | 0 => h
  | m + 1 => by rw [← Nat.add_assoc, hexTo, hexTo_dead h m]; rfl
theorem hexTo_out {zs : List Int} {k : Nat} {x c : Int} (hk : k < 4) (h : hexTo zs k = some x) (hc : c = zs.getD k 0) (hd : dig c = none) : hexTo zs 4 = none := by
  have := hexTo_dead (hexTo_stop h hc hd) (4 - (k + 1))
  rwa [show k + 1 + (4 - (k + 1)) = 4 by omega] at this
theorem pow16_succ {k : Nat} {x d : Int} (h : x < 16 ^ k) (hd : d ≤ 15) : x * 16 + d < 16 ^ (k + 1) := by
  rw [Int.pow_succ]; omega
theorem ret_hex {zs : List Int} (h : hexTo zs 4 = none) : Ending.returned (.tuple #[.int .i32 0, .bool false]) = .returned (.tuple #[.int .i32 ((hexTo zs 4).getD 0), .bool (hexTo zs 4).isSome]) := by rw [h]; rfl
theorem ret_hex' {zs : List Int} {x : Int} (h : hexTo zs 4 = some x) : Ending.returned (.tuple #[.int .i32 x, .bool true]) = .returned (.tuple #[.int .i32 ((hexTo zs 4).getD 0), .bool (hexTo zs 4).isSome]) := by rw [h]; rfl

set_option maxHeartbeats 400000 in
theorem hexRune_short (ao : Option Addr) (n cap : Nat) (w : World) (hn : n < 4) :
    Calls Try.prog 26 #[.slice ao n cap] w fun e w' => e = .returned (.tuple #[.int .i32 0, .bool false]) ∧ w' = w := by
  go_enter Try.func26, Try.ntmps26
  go_wp2
  go_ret2
  exact ⟨rfl, rfl⟩

set_option maxHeartbeats 400000 in
theorem hexRune_long (g off n cap : Nat) (zs : List Int) (w : World) (hn : 4 ≤ n) (hcap : n ≤ cap) (hm : cap ≤ 140737488351232)
    (hz : ∀ j, 0 ≤ zs.getD j 0 ∧ zs.getD j 0 ≤ 255)
    (hc : ∀ j, j < n → w.cell? ⟨g, off + j, none⟩ = some (.int .u8 (zs.getD j 0))) :
    Calls Try.prog 26 #[.slice (some ⟨g, off, none⟩) n cap] w fun e w' =>
      e = .returned (.tuple #[.int .i32 ((hexTo zs 4).getD 0), .bool (hexTo zs 4).isSome]) ∧ w' = w := by
  go_enter Try.func26, Try.ntmps26
  go_wp2
  go_loop [4, 13] (fun r i => ∃ (k : Nat) (x : Int), k ≤ 4 ∧ i = .int .i64 k ∧ r = .int .i32 x ∧ hexTo zs k = some x ∧ 0 ≤ x ∧ x < 16 ^ k)
    (fun _ i => 4 - (intOf i).toNat)
  case atStart => exact ⟨0, 0, by omega, rfl, rfl, rfl, by omega, by omega⟩
  case round =>
    obtain ⟨k, x, hk, rfl, rfl, hx, h0, h1⟩ := hrel
    have HX : Hid (hexTo zs k = some x) := hx
    clear hx
    by_cases hlt : k < 4
    · have hcx := hc k (by omega)
      have hzk := hz k
      have h2 : x ≤ 4095 := by
        have : k = 0 ∨ k = 1 ∨ k = 2 ∨ k = 3 := by omega
        rcases this with rfl | rfl | rfl | rfl <;> omega
      clear hc hz
      obtain ⟨c, hcz⟩ : ∃ c, c = zs.getD k 0 := ⟨_, rfl⟩
      rw [← hcz] at hcx hzk
      have HC : Hid (c = zs.getD k 0) := hcz
      clear hcz
      rcases hd : dig c with _ | d
      · have HE : Hid (hexTo zs 4 = none) := hexTo_out hlt HX.out HC.out hd
        have n1 : ¬ (48 ≤ c ∧ c ≤ 57) := fun h => by rw [dig_09 h.1 h.2] at hd; cases hd
        have n2 : ¬ (97 ≤ c ∧ c ≤ 102) := fun h => by rw [dig_af h.1 h.2] at hd; cases hd
        have n3 : ¬ (65 ≤ c ∧ c ≤ 70) := fun h => by rw [dig_AF h.1 h.2] at hd; cases hd
        clear hd
        go_wp2
        all_goals first
          | (exfalso; omega)
          | (go_ret2; exact ⟨ret_hex HE.out, rfl⟩)
      · have hr := dig_range hd
        have HS : Hid (hexTo zs (k + 1) = some (x * 16 + d)) := hexTo_step HX.out HC.out hd
        have HP : Hid (x * 16 + d < 16 ^ (k + 1)) := pow16_succ h1 hr.2
        rcases dig_cases hd with ⟨c1, c2, e⟩ | ⟨c1, c2, e⟩ | ⟨c1, c2, e⟩
        all_goals
          clear hd h1
          have HE : Hid (bits BinOp.or IntKind.i32 (x * 16) d = x * 16 + d) := or4 x d h0 h2 hr.1 hr.2
          subst e
          go_wp2
          go_round
          case rel => exact ⟨k + 1, _, by omega, by go_num, by rw [HE.out], HS.out, by omega, HP.out⟩
          case measure => simp [intOf]; omega
    · have hk4 : k = 4 := by omega
      subst hk4
      go_wp2
      go_ret2
      exact ⟨ret_hex' HX.out, rfl⟩


/-- What hexRune answers of n bytes. -/
def hexOf (zs : List Int) (n : Nat) : Option Int := if n < 4 then none else hexTo zs 4

theorem zzHex (ao : Option Addr) (n cap : Nat) (zs : List Int) (w : World) (hr : Reads w ao n zs) (hcap : n ≤ cap) (hm : cap ≤ 140737488351232)
    (hz : ∀ j, 0 ≤ zs.getD j 0 ∧ zs.getD j 0 ≤ 255) :
    Calls Try.prog 13 #[.slice ao n cap] w fun e w' => e = .returned (.tuple #[.int .i32 ((hexOf zs n).getD 0), .bool (hexOf zs n).isSome]) ∧ w' = w := by
  by_cases hn : n < 4
  · have e : hexOf zs n = none := by unfold hexOf; rw [if_pos hn]
    rw [e]
    clear hr e
    go_enter Try.func13, Try.ntmps13
    go_wp2_with (go_at_call 26; refine (hexRune_short _ _ _ _ hn).mono ?_; rintro e w' ⟨rfl, rfl⟩)
    go_ret2
    exact ⟨rfl, rfl⟩
  · have e : hexOf zs n = hexTo zs 4 := by unfold hexOf; rw [if_neg hn]
    rw [e]
    obtain ⟨g, off, rfl, _, hc⟩ := hr (by omega)
    clear e
    generalize ho : hexTo zs 4 = o
    have HO := hexRune_long g off n cap zs w (by omega) hcap hm hz hc
    rw [ho] at HO
    clear hc ho hz
    go_enter Try.func13, Try.ntmps13
    go_wp2_with fail
    refine HO.mono ?_
    rintro e w' ⟨rfl, rfl⟩
    clear HO
    go_wp2
    go_ret2
    exact ⟨rfl, rfl⟩

end Go.Proofs.Qxb6603405a
