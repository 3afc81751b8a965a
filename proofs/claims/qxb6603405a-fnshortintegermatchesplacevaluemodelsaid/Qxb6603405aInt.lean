/-
  shortInteger: what it computes, and the walk.
-/
import Derived.Test.Qxb6603405aBase
import Derived.Lib.SlBytesConst
import Derived.Lib.Bytes
namespace Go.Proofs.Qxb6603405a
open Go.RowKit

theorem hid {p : Prop} (h : p) : Hid p := h

theorem one_byte {c : Int} (h0 : 0 ≤ c) (h1 : c ≤ 255) : (Lib.bytesOf [c] == Lib.bytesOf [45]) = (c == 45) := by
  rw [Bool.eq_iff_iff]
  simp only [Lib.bytesOf, List.map_cons, List.map_nil, beq_iff_eq, List.cons.injEq, and_true]
  constructor
  · intro h
    have := congrArg UInt8.toNat h
    simp at this
    omega
  · rintro rfl
    rfl

theorem equal_one (g off cap p : Nat) (c : Int) (w : World) (h0 : 0 ≤ c) (h1 : c ≤ 255) (hc : w.cell? ⟨g, off, none⟩ = some (.int .u8 c)) (hp : w.cell? ⟨p, 0, none⟩ = some (.int .u8 45)) :
    Calls Try.prog 31 #[.slice (some ⟨g, off, none⟩) 1 cap, .slice (some ⟨p, 0, none⟩) 1 1] w fun e w' => e = .returned (.bool (c == 45)) ∧ w' = w := by
  rw [← one_byte h0 h1, ← Lib.strOfNums_toList, ← Lib.strOfNums_toList]
  have g1 := run_convert_bytes_arg (P := Try.prog) w 22 5 Try.underlying22 Try.underlying5 g off 1 cap [c] rfl (fun i hi => by have h : i = 0 := (by omega); subst h; exact hc) 9 Try.underlying9
  have g2 := run_convert_bytes_arg (P := Try.prog) w 22 5 Try.underlying22 Try.underlying5 p 0 1 1 [45] rfl (fun i hi => by have h : i = 0 := (by omega); subst h; exact hp) 9 Try.underlying9
  clear hc hp
  go_enter Try.func31, Try.ntmps31
  go_wp2
  go_ret
  exact ⟨rfl, rfl⟩

theorem hasPrefix_zero (ao : Option Addr) (cap : Nat) (v : Option Addr) (w : World) :
    Calls Try.prog 30 #[.slice ao 0 cap, .slice v 1 1] w fun e w' => e = .returned (.bool false) ∧ w' = w := by
  go_enter Try.func30, Try.ntmps30
  go_wp2
  go_ret
  exact ⟨rfl, rfl⟩

theorem hasPrefix_some (g off n cap p : Nat) (c : Int) (w : World) (hn : 0 < n) (hcap : n ≤ cap) (hm : cap ≤ 140737488351232) (h0 : 0 ≤ c) (h1 : c ≤ 255) (hc : w.cell? ⟨g, off, none⟩ = some (.int .u8 c)) (hp : w.cell? ⟨p, 0, none⟩ = some (.int .u8 45)) :
    Calls Try.prog 30 #[.slice (some ⟨g, off, none⟩) n cap, .slice (some ⟨p, 0, none⟩) 1 1] w fun e w' => e = .returned (.bool (c == 45)) ∧ w' = w := by
  have HC := equal_one g off cap p c w h0 h1 hc hp
  generalize (c == 45) = b at HC ⊢
  clear hc hp
  go_enter Try.func30, Try.ntmps30
  go_wp2_with fail
  refine HC.mono ?_
  rintro e w' ⟨rfl, rfl⟩
  clear HC
  go_wp2
  go_ret
  exact ⟨rfl, rfl⟩

def cutNeg (zs : List Int) (n : Nat) : Bool := decide (0 < n) && (zs.getD 0 0 == 45)
def cutLen (zs : List Int) (n : Nat) : Nat := if cutNeg zs n then n - 1 else n
def cutList (zs : List Int) (n : Nat) : List Int := if cutNeg zs n then zs.drop 1 else zs

theorem cut_zero (ao : Option Addr) (cap : Nat) (v : Option Addr) (w : World) :
    Calls Try.prog 29 #[.slice ao 0 cap, .slice v 1 1] w fun e w' => e = .returned (.tuple #[.slice ao 0 cap, .bool false]) ∧ w' = w := by
  go_enter Try.func29, Try.ntmps29
  go_wp2_with (go_at_call 30; refine (hasPrefix_zero _ _ _ _).mono ?_; rintro e w' ⟨rfl, rfl⟩)
  go_ret2
  exact ⟨rfl, rfl⟩

theorem cut_no (g off n cap p : Nat) (c : Int) (w : World) (hn : 0 < n) (hcap : n ≤ cap) (hm : cap ≤ 140737488351232) (h0 : 0 ≤ c) (h1 : c ≤ 255) (hne : (c == 45) = false) (hc : w.cell? ⟨g, off, none⟩ = some (.int .u8 c)) (hp : w.cell? ⟨p, 0, none⟩ = some (.int .u8 45)) :
    Calls Try.prog 29 #[.slice (some ⟨g, off, none⟩) n cap, .slice (some ⟨p, 0, none⟩) 1 1] w fun e w' => e = .returned (.tuple #[.slice (some ⟨g, off, none⟩) n cap, .bool false]) ∧ w' = w := by
  have HC := hasPrefix_some g off n cap p c w hn hcap hm h0 h1 hc hp
  rw [hne] at HC
  clear hc hp hne
  go_enter Try.func29, Try.ntmps29
  go_wp2_with fail
  refine HC.mono ?_
  rintro e w' ⟨rfl, rfl⟩
  clear HC
  go_wp2
  go_ret2
  exact ⟨rfl, rfl⟩

theorem cut_yes (g off n cap p : Nat) (c : Int) (w : World) (hn : 0 < n) (hcap : n ≤ cap) (hm : cap ≤ 140737488351232) (h0 : 0 ≤ c) (h1 : c ≤ 255) (hne : (c == 45) = true) (hc : w.cell? ⟨g, off, none⟩ = some (.int .u8 c)) (hp : w.cell? ⟨p, 0, none⟩ = some (.int .u8 45)) :
    Calls Try.prog 29 #[.slice (some ⟨g, off, none⟩) n cap, .slice (some ⟨p, 0, none⟩) 1 1] w fun e w' => ∃ ad d, e = .returned (.tuple #[.slice ad (n - 1) d, .bool true]) ∧ n - 1 ≤ d ∧ d ≤ cap ∧ (1 < n → ad = some ⟨g, off + 1, none⟩) ∧ w' = w := by
  have HC := hasPrefix_some g off n cap p c w hn hcap hm h0 h1 hc hp
  rw [hne] at HC
  clear hc hp hne
  go_enter Try.func29, Try.ntmps29
  go_wp2_with fail
  refine HC.mono ?_
  rintro e w' ⟨rfl, rfl⟩
  clear HC
  go_wp2
  · go_ret2
    exact ⟨_, _, rfl, by omega, by omega, fun h => absurd h (by omega), rfl⟩
  · go_ret2
    exact ⟨_, _, rfl, by omega, by omega, fun _ => rfl, rfl⟩

/-- bytes.CutPrefix with the one byte 45. -/
theorem cut_any (ao : Option Addr) (n cap p : Nat) (zs : List Int) (w : World) (hr : Reads w ao n zs) (hcap : n ≤ cap) (hm : cap ≤ 140737488351232) (hz : ∀ j, 0 ≤ zs.getD j 0 ∧ zs.getD j 0 ≤ 255) (hp : w.cell? ⟨p, 0, none⟩ = some (.int .u8 45)) :
    Calls Try.prog 29 #[.slice ao n cap, .slice (some ⟨p, 0, none⟩) 1 1] w fun e w' => ∃ ad d, e = .returned (.tuple #[.slice ad (cutLen zs n) d, .bool (cutNeg zs n)]) ∧ cutLen zs n ≤ d ∧ d ≤ cap ∧ Reads w ad (cutLen zs n) (cutList zs n) ∧ w' = w := by
  by_cases h0 : n = 0
  · subst h0
    have e : cutNeg zs 0 = false := by simp [cutNeg]
    simp only [cutLen, cutList, e]
    refine (cut_zero ao cap _ w).mono ?_
    rintro e w' ⟨rfl, rfl⟩
    exact ⟨ao, cap, rfl, by simp, by omega, hr, rfl⟩
  · obtain ⟨g, off, rfl, hg, hc⟩ := hr (by omega)
    have hc0 := hc 0 (by omega)
    rw [Nat.add_zero] at hc0
    cases hb : (zs.getD 0 0 == 45) with
    | false =>
      have e : cutNeg zs n = false := by rw [cutNeg, hb, Bool.and_false]
      simp only [cutLen, cutList, e]
      refine (cut_no g off n cap p _ w (by omega) hcap hm (hz 0).1 (hz 0).2 hb hc0 hp).mono ?_
      rintro e w' ⟨rfl, rfl⟩
      exact ⟨_, cap, rfl, by simpa using hcap, by omega, hr, rfl⟩
    | true =>
      have e : cutNeg zs n = true := by rw [cutNeg, hb, Bool.and_true]; simpa using Nat.pos_of_ne_zero h0
      simp only [cutLen, cutList, e, if_true]
      refine (cut_yes g off n cap p _ w (by omega) hcap hm (hz 0).1 (hz 0).2 hb hc0 hp).mono ?_
      rintro e w' ⟨ad, d, rfl, hd1, hd2, had, rfl⟩
      refine ⟨ad, d, rfl, hd1, hd2, fun hn => ?_, rfl⟩
      refine ⟨g, off + 1, had (by omega), hg, fun j hj => ?_⟩
      have := hc (j + 1) (by omega)
      rw [Nat.add_assoc, Nat.add_comm 1 j, this]
      simp [List.getD]

/-- The number that the first k digits stand for. -/
def intTo (zs : List Int) : Nat → Option Int
  | 0 => some 0
  | k + 1 => (intTo zs k).bind fun r => if 48 ≤ zs.getD k 0 ∧ zs.getD k 0 ≤ 57 then some (r * 10 + (zs.getD k 0 - 48)) else none

def digitsOf (zs : List Int) (m : Nat) : Option Int := if m = 0 ∨ 18 < m then none else intTo zs m
def signed (neg : Bool) (o : Option Int) : Option Int := if neg then o.map (fun x => -x) else o
/-- What shortInteger answers of the first n bytes of zs. -/
def shortOf (zs : List Int) (n : Nat) : Option Int := signed (cutNeg zs n) (digitsOf (cutList zs n) (cutLen zs n))

theorem intTo_step {zs : List Int} {k : Nat} {x c : Int} (h : intTo zs k = some x) (hc : c = zs.getD k 0) (h1 : 48 ≤ c) (h2 : c ≤ 57) : intTo zs (k + 1) = some (x * 10 + (c - 48)) := by
  subst hc
  rw [intTo, h, Option.bind_some, if_pos ⟨h1, h2⟩]
theorem intTo_stop {zs : List Int} {k : Nat} {c : Int} (hc : c = zs.getD k 0) (h1 : ¬ (48 ≤ c ∧ c ≤ 57)) : intTo zs (k + 1) = none := by
  subst hc
  rw [intTo]
  cases intTo zs k with
  | none => rfl
  | some x => rw [Option.bind_some, if_neg h1]
theorem intTo_dead {zs : List Int} {k : Nat} (h : intTo zs k = none) : ∀ m, intTo zs (k + m) = none
  | 0 => h
  | m + 1 => by rw [← Nat.add_assoc, intTo, intTo_dead h m]; rfl
theorem intTo_out {zs : List Int} {k m : Nat} {c : Int} (hk : k < m) (hc : c = zs.getD k 0) (h1 : ¬ (48 ≤ c ∧ c ≤ 57)) : intTo zs m = none := by
  have := intTo_dead (intTo_stop hc h1) (m - (k + 1))
  rwa [show k + 1 + (m - (k + 1)) = m by omega] at this
theorem intTo_bound {zs : List Int} : ∀ {k : Nat} {x : Int}, intTo zs k = some x → 0 ≤ x ∧ x < 10 ^ k
  | 0, x, h => by cases h; exact ⟨by omega, by decide⟩
  | k + 1, x, h => by
    rw [intTo] at h
    cases h1 : intTo zs k with
    | none => rw [h1] at h; cases h
    | some y =>
      rw [h1, Option.bind_some] at h
      have hb := intTo_bound h1
      split at h
      · cases h
        rw [Int.pow_succ]
        omega
      · cases h
theorem pow10_le17 {k : Nat} (h : k ≤ 17) : (10 : Int) ^ k ≤ 100000000000000000 := by
  have : ∀ q : Fin 18, (10 : Int) ^ q.val ≤ 100000000000000000 := by decide
  exact this ⟨k, by omega⟩
theorem pow10_le {k : Nat} (h : k ≤ 18) : (10 : Int) ^ k ≤ 1000000000000000000 := by
  have : ∀ q : Fin 19, (10 : Int) ^ q.val ≤ 1000000000000000000 := by decide
  exact this ⟨k, by omega⟩


set_option maxHeartbeats 400000 in
theorem short_walk (ao : Option Addr) (n cap : Nat) (zs : List Int) (w : World) (hr : Reads w ao n zs) (hcap : n ≤ cap) (hm : cap ≤ 140737488351232) (hz : ∀ j, 0 ≤ zs.getD j 0 ∧ zs.getD j 0 ≤ 255)
    (neg : Bool) (m : Nat) (ds : List Int) (hdz : ∀ j, 0 ≤ ds.getD j 0 ∧ ds.getD j 0 ≤ 255) (h1 : cutNeg zs n = neg) (h2 : cutLen zs n = m) (h3 : cutList zs n = ds) :
    Calls Try.prog 27 #[.slice ao n cap] w fun e w' => e = .returned (.tuple #[.int .i64 ((signed neg (digitsOf ds m)).getD 0), .bool (signed neg (digitsOf ds m)).isSome]) ∧ Below w.heap.size w w' := by
  have kc := fun (w : World) (C : Array Value) (n c : Nat) => Lib.run_convert_bytes_const (P := Try.prog) w 22 5 C n c Try.underlying22 Try.underlying5
  have HC := fun (W : World) (hb : Below w.heap.size w W) (hp : W.cell? ⟨w.heap.size, 0, none⟩ = some (.int .u8 45)) => cut_any ao n cap w.heap.size zs W (hr.later hb) hcap hm hz hp
  rw [h1, h2, h3] at HC
  have HC' := hid HC
  clear HC hr hz h1 h2 h3
  go_enter Try.func27, Try.ntmps27
  go_wp2_with fail
  refine (HC'.out _ ((Below.refl _ _).alloc (Nat.le_refl _) _) ?_).mono ?_
  · exact World.cell?_alloc_mark w _ _ _ 0
  rintro e w1 ⟨ad, d, rfl, hd1, hd2, hr1, rfl⟩
  clear HC' kc
  have hb : Below w.heap.size w (w.alloc (.cells #[.int .u8 45] 5 (1, 2))) := (Below.refl _ _).alloc (Nat.le_refl _) _
  generalize w.alloc (.cells #[.int .u8 45] 5 (1, 2)) = W at hr1 hb ⊢
  have HD := hid hdz
  clear hdz
  by_cases hbad : m = 0 ∨ 18 < m
  · have HF : Hid (signed neg (digitsOf ds m) = none) := by
      show signed neg (digitsOf ds m) = none
      unfold digitsOf
      rw [if_pos hbad]
      cases neg <;> rfl
    clear hr1
    rcases hbad with h | h
    · subst h
      go_wp2
      go_ret2
      rw [HF.out]
      exact ⟨rfl, hb⟩
    · have h0 : ((m : Int) == 0) = false := beq_eq_false_iff_ne.2 (by omega)
      go_wp2
      go_ret2
      rw [HF.out]
      exact ⟨rfl, hb⟩
  · obtain ⟨g, off, rfl, hg, hc⟩ := hr1 (by omega)
    have HE : Hid (digitsOf ds m = intTo ds m) := by
      show digitsOf ds m = intTo ds m
      unfold digitsOf
      rw [if_neg hbad]
    clear hr1
    have hm1 : 1 ≤ m := by omega
    have hm2 : m ≤ 18 := by omega
    have h0 : ((m : Int) == 0) = false := beq_eq_false_iff_ne.2 (by omega)
    have h18 : decide ((18 : Int) < (m : Int)) = false := decide_eq_false (by omega)
    clear hbad
    go_wp2
    go_loop [6, 26] (fun a i => ∃ (k : Nat) (x : Int), k ≤ m ∧ i = .int .i64 k ∧ a = .int .i64 x ∧ intTo ds k = some x) (fun _ i => m - (intOf i).toNat)
    case atStart => exact ⟨0, 0, by omega, rfl, rfl, rfl⟩
    case round =>
      obtain ⟨k, x, hk, rfl, rfl, hx⟩ := hrel
      have hxb := intTo_bound hx
      have HX := hid hx
      clear hx
      by_cases hlt : k < m
      · have hx17 : x ≤ 100000000000000000 := by
          have := pow10_le17 (show k ≤ 17 by omega)
          omega
        have hx0 := hxb.1
        have hcx := hc k hlt
        have hck := HD.out k
        obtain ⟨c, hcz⟩ : ∃ c, c = ds.getD k 0 := ⟨_, rfl⟩
        rw [← hcz] at hcx hck
        have HCz := hid hcz
        clear hcz hxb hc
        by_cases hdig : 48 ≤ c ∧ c ≤ 57
        · obtain ⟨hd48, hd57⟩ := hdig
          have HS := hid (intTo_step HX.out HCz.out hd48 hd57)
          go_wp2
          go_round
          case rel => exact ⟨k + 1, _, by omega, by go_num, rfl, HS.out⟩
          case measure => simp [intOf]; omega
        · have HN := hid (intTo_out hlt HCz.out hdig)
          by_cases h48 : c < 48
          · go_wp2
            go_ret2
            rw [HE.out, HN.out]
            cases neg <;> exact ⟨rfl, hb⟩
          · have h57 : 57 < c := by omega
            go_wp2
            go_ret2
            rw [HE.out, HN.out]
            cases neg <;> exact ⟨rfl, hb⟩
      · have hkm : k = m := by omega
        subst hkm
        have hx18 : x ≤ 1000000000000000000 := by
          have := pow10_le hm2
          omega
        have hx0 := hxb.1
        clear hxb hc
        cases neg with
        | false =>
          go_wp2
          go_ret2
          rw [HE.out, HX.out]
          exact ⟨rfl, hb⟩
        | true =>
          go_wp2
          go_ret2
          rw [HE.out, HX.out]
          exact ⟨rfl, hb⟩


theorem getD_drop_one (zs : List Int) (j : Nat) : (zs.drop 1).getD j 0 = zs.getD (j + 1) 0 := by simp [List.getD]
theorem cutList_bd {zs : List Int} {n : Nat} (hz : ∀ j, 0 ≤ zs.getD j 0 ∧ zs.getD j 0 ≤ 255) (j : Nat) : 0 ≤ (cutList zs n).getD j 0 ∧ (cutList zs n).getD j 0 ≤ 255 := by
  unfold cutList
  split
  · rw [getD_drop_one]; exact hz _
  · exact hz j

theorem zzShort (ao : Option Addr) (n cap : Nat) (zs : List Int) (w : World) (hr : Reads w ao n zs) (hcap : n ≤ cap) (hm : cap ≤ 140737488351232) (hz : ∀ j, 0 ≤ zs.getD j 0 ∧ zs.getD j 0 ≤ 255) :
    Calls Try.prog 17 #[.slice ao n cap] w fun e w' => e = .returned (.tuple #[.int .i64 ((shortOf zs n).getD 0), .bool (shortOf zs n).isSome]) ∧ Below w.heap.size w w' := by
  have HC := short_walk ao n cap zs w hr hcap hm hz _ _ _ (cutList_bd hz) rfl rfl rfl
  unfold shortOf
  generalize signed (cutNeg zs n) (digitsOf (cutList zs n) (cutLen zs n)) = o at HC ⊢
  clear hr hz
  go_enter Try.func17, Try.ntmps17
  go_wp2_with fail
  refine HC.mono ?_
  rintro e w' ⟨rfl, hb⟩
  clear HC
  go_wp2
  go_ret2
  exact ⟨rfl, hb⟩

end Go.Proofs.Qxb6603405a
