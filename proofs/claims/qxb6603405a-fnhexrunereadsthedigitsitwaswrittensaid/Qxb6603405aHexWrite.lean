/-
  FnHexRuneReadsTheDigitsItWasWritten: the walk.
-/
import Derived.Test.Qxb6603405aHex
namespace Go.Proofs.Qxb6603405a
open Go.RowKit

theorem wraps_u16 (n : Int) (h₀ : 0 ≤ n) (h₁ : n < 2 ^ 16) : IntKind.u16.wrap n = n := by rw [IntKind.wrap_u16]; omega
theorem mask15 (x : Int) (h0 : 0 ≤ x) (h1 : x ≤ 65535) : ∃ q : Nat, bits .and .u16 x 15 = (q : Int) ∧ q < 16 ∧ (q : Int) = x % 16 := by
  refine ⟨(x % 16).toNat, ?_, by omega, by omega⟩
  rw [show bits .and .u16 x 15 = x % 16 from bits_mask .u16 16 (by decide) wraps_u16 4 (by decide) x h0 (by omega)]
  omega

theorem dig_lower : ∀ q : Fin 16, dig (((ByteArray.mk #[48, 49, 50, 51, 52, 53, 54, 55, 56, 57, 97, 98, 99, 100, 101, 102])[q.val]'(by have := q.isLt; exact this)).toNat : Int) = some (q.val : Int) := by decide
theorem dig_upper : ∀ q : Fin 16, dig (((ByteArray.mk #[48, 49, 50, 51, 52, 53, 54, 55, 56, 57, 65, 66, 67, 68, 69, 70])[q.val]'(by have := q.isLt; exact this)).toNat : Int) = some (q.val : Int) := by decide

theorem getD_append_lt {ds ts : List Int} {j : Nat} (h : j < ds.length) : (ds ++ ts).getD j 0 = ds.getD j 0 := by
  simp [List.getD, List.getElem?_append_left h]
theorem hexTo_append (ds ts : List Int) : ∀ k, k ≤ ds.length → hexTo (ds ++ ts) k = hexTo ds k
  | 0, _ => rfl
  | k + 1, h => by rw [hexTo, hexTo, hexTo_append ds ts k (by omega), getD_append_lt (by omega)]

/-- The value of the first k digits. -/
def lead (r : Int) : Nat → Int
  | 0 => 0
  | 1 => r / 4096
  | 2 => r / 256
  | 3 => r / 16
  | _ => r

theorem hexTo_snoc {ds : List Int} {k : Nat} {x c d : Int} (hl : ds.length = k) (h : hexTo ds k = some x) (hd : dig c = some d) : hexTo (ds ++ [c]) (k + 1) = some (x * 16 + d) := by
  subst hl
  exact hexTo_step (by rw [hexTo_append _ _ _ (Nat.le_refl _)]; exact h) (by simp [List.getD]) hd

/-- What the first loop has come to after k rounds. -/
structure Wrote (r : Int) (k : Nat) (ds : List Int) : Prop where
  len : ds.length = k
  val : hexTo ds k = some (lead r k)
  bd : ∀ x ∈ ds, 0 ≤ x ∧ x ≤ 255

theorem Wrote.nil (r : Int) : Wrote r 0 [] := ⟨rfl, rfl, fun x h => by cases h⟩
theorem Wrote.snoc {r : Int} {k : Nat} {ds : List Int} (h : Wrote r k ds) {b : UInt8} {q : Int} (hd : dig (b.toNat : Int) = some q) (hq : lead r k * 16 + q = lead r (k + 1)) : Wrote r (k + 1) (ds ++ [(b.toNat : Int)]) :=
  ⟨by simp [h.len], by rw [hexTo_snoc h.len h.val hd, hq], fun x hx => by
    rcases List.mem_append.1 hx with hx | hx
    · exact h.bd x hx
    · rw [List.mem_singleton] at hx
      subst hx
      have := b.toNat_lt
      omega⟩

/-- One store into the row: position k. -/
theorem put_step {w : World} {B N k : Nat} {ds : List Int} {c : Int} (hl : ds.length = k) (hk : k < N)
    (hown : w.ownsRow B 5 1 (.slice (some ⟨B, 0, none⟩) N N) N ((ds ++ List.replicate (N - k) (0 : Int)).map (Value.int .u8))) :
    (w.setCell ⟨B, k, none⟩ (.int .u8 c)).ownsRow B 5 1 (.slice (some ⟨B, 0, none⟩) N N) N (((ds ++ [c]) ++ List.replicate (N - (k + 1)) (0 : Int)).map (Value.int .u8)) ∧
      w.grownBy (w.setCell ⟨B, k, none⟩ (.int .u8 c)) (some B) := by
  have R := hown.stored k (.int .u8 c)
  rw [← List.map_set] at R
  have e : (ds ++ List.replicate (N - k) (0 : Int)).set k c = (ds ++ [c]) ++ List.replicate (N - (k + 1)) (0 : Int) := by
    rw [show N - k = (N - (k + 1)) + 1 by omega, List.replicate_succ, List.set_append_right _ _ (by omega), hl, Nat.sub_self, List.set_cons_zero]
    simp
  rw [e] at R
  exact R

theorem put_cell {w : World} {B N k : Nat} {ds : List Int} (hl : ds.length = k) (hk : k < N)
    (hown : w.ownsRow B 5 1 (.slice (some ⟨B, 0, none⟩) N N) N ((ds ++ List.replicate (N - k) (0 : Int)).map (Value.int .u8))) :
    w.cell? ⟨B, k, none⟩ = some (.int .u8 0) := by
  rw [hown.cellAt k (by omega)]
  have h1 : ¬ k < ds.length := by omega
  have h2 : k - ds.length < N - k := by omega
  simp [List.getElem?_append, h1, h2]

theorem take_snoc_getD (zs : List Int) (k : Nat) (h : k < zs.length) : zs.take (k + 1) = zs.take k ++ [zs.getD k 0] := by
  rw [List.take_succ_eq_append_getElem h]
  simp only [List.getD, List.getElem?_eq_getElem h, Option.getD_some]

theorem own_reads {w : World} {B b n cap : Nat} {xs : List Int} (h : w.ownsRow B 5 1 (.slice (some ⟨b, 0, none⟩) n cap) n (xs.map (Value.int .u8))) : Reads w (some ⟨b, 0, none⟩) n xs := by
  intro _
  refine ⟨b, 0, rfl, (h.lt b rfl).2, fun j hj => ?_⟩
  have hl : xs.length = n := by simpa using h.1
  rw [Nat.zero_add, h.cellAt j (by omega)]
  simp [show j < xs.length by omega]

theorem append_bd {ds zs : List Int} {k : Nat} (h1 : ∀ x ∈ ds, 0 ≤ x ∧ x ≤ 255) (h2 : ∀ j, 0 ≤ zs.getD j 0 ∧ zs.getD j 0 ≤ 255) (j : Nat) : 0 ≤ (ds ++ zs.take k).getD j 0 ∧ (ds ++ zs.take k).getD j 0 ≤ 255 := by
  by_cases h : j < ds.length
  · rw [getD_append_lt h]
    have := h1 ds[j] (List.getElem_mem h)
    simpa [List.getD, h] using this
  · have h3 := h2 (j - ds.length)
    simp only [List.getD, List.getElem?_append_right (Nat.not_lt.1 h), List.getElem?_take] at h3 ⊢
    split
    · exact h3
    · simp

theorem zz15_yes (r u : Value) (ao : Option Addr) (n cap : Nat) (w : World) (hn : n ≤ 1048576) :
    Calls Try.prog 15 #[r, u, .slice ao n cap] w fun e w' => e = .returned (.bool true) ∧ w' = w := by
  go_enter Try.func15, Try.ntmps15
  go_wp2
  go_ret
  exact ⟨rfl, rfl⟩
theorem zz15_no (r u : Value) (ao : Option Addr) (n cap : Nat) (w : World) (hn : 1048576 < n) :
    Calls Try.prog 15 #[r, u, .slice ao n cap] w fun e w' => e = .returned (.bool false) ∧ w' = w := by
  go_enter Try.func15, Try.ntmps15
  go_wp2
  go_ret
  exact ⟨rfl, rfl⟩

theorem hexWrite_no (r u : Int) (ao : Option Addr) (n cap : Nat) (w : World) (hn : 1048576 < n) :
    Calls Try.prog 4 #[.int .u16 r, .int .u8 u, .slice ao n cap] w fun e w' => e = .returned (.bool true) ∧ w' = w := by
  go_enter Try.func4, Try.ntmps4
  go_wp2_with (go_at_call 15; refine (zz15_no _ _ _ _ _ _ hn).mono ?_; rintro e w' ⟨rfl, rfl⟩)
  go_ret
  exact ⟨rfl, rfl⟩

set_option maxHeartbeats 400000 in
theorem hexWrite_yes (r u : Int) (ao : Option Addr) (n cap : Nat) (zs : List Int) (w : World) (hn : n ≤ 1048576) (hr0 : 0 ≤ r) (hr1 : r ≤ 65535)
    (hz : ∀ j, 0 ≤ zs.getD j 0 ∧ zs.getD j 0 ≤ 255) (hl : n ≤ zs.length) (hr : Reads w ao n zs) :
    Calls Try.prog 4 #[.int .u16 r, .int .u8 u, .slice ao n cap] w fun e w' => e = .returned (.bool true) ∧ Below w.heap.size w w' := by
  obtain ⟨i0, hi, hz0, hz1, hz2⟩ := info_parts info5
  have HZ : Hid (∀ j, 0 ≤ zs.getD j 0 ∧ zs.getD j 0 ≤ 255) := hz
  clear hz
  go_enter Try.func4, Try.ntmps4
  go_wp2_with (go_at_call 15; refine (zz15_yes _ _ _ _ _ _ hn).mono ?_; rintro e w' ⟨rfl, rfl⟩)
  refine (clone_any ao n cap zs _ hn hl hr).mono ?_
  rintro e w1 ⟨ao1, c1, rfl, hc1, hc2, hr1, hb1⟩
  go_wp2_with (at_make; refine wpList_make_full _ rfl _ _ 22 rfl w1.heap.size 5 i0 (.int .u8 0) 1 Try.underlying22 hi hz0 hz1 _ _ _ _ (4 + n) rfl rfl (by omega) (by omega) (by rw [hz2]; omega) (by unfold maxLen; omega) (Nat.le_refl _) ?_)
  intro w2 hown hgrow
  rw [zeros_list] at hown
  have hb2 : Below w1.heap.size w1 w2 := (Below.refl _ _).grown hgrow (Nat.le_refl _) (fun k h => by cases h)
  clear hgrow hr
  go_wp2
  go_loopw [8] (fun i wr => ∃ (k : Nat) (ds : List Int), k ≤ 4 ∧ i = .int .i64 k ∧ Wrote r k ds ∧ wr.ownsRow w1.heap.size 5 1 (.slice (some ⟨w1.heap.size, 0, none⟩) (4 + n) (4 + n)) (4 + n) ((ds ++ List.replicate (4 + n - k) (0 : Int)).map (Value.int .u8)) ∧ Below w1.heap.size w1 wr)
    (fun i _ => 4 - (intOf i).toNat)
  case atStart => exact ⟨0, [], by omega, rfl, Wrote.nil r, hown, hb2⟩
  case round =>
    clear hown hb2
    obtain ⟨k, ds, hk, rfl, hW, hown, hb2⟩ := hrel
    by_cases hlt : k < 4
    · have hfo := hown.frozenAt k
      have hco := put_cell hW.len (by omega) hown
      have h4 : k = 0 ∨ k = 1 ∨ k = 2 ∨ k = 3 := by omega
      rcases h4 with rfl | rfl | rfl | rfl
      · obtain ⟨q, hq, hq16, hqm⟩ := mask15 (r / 4096) (by omega) (by omega)
        have HQ : Hid (lead r 0 * 16 + (q : Int) = lead r (0 + 1)) := by show (0 : Int) * 16 + (q : Int) = r / 4096; omega
        clear hqm
        go_wp2
        · have S := hW.snoc (dig_upper ⟨q, hq16⟩) HQ.out
          go_roundw
          case rel => exact ⟨1, _, by omega, rfl, S, (put_step hW.len (by omega) hown).1, hb2.grown (put_step hW.len (by omega) hown).2 hb2.size (fun j h => by cases h; exact Nat.le_refl _)⟩
          case measure => simp [intOf]
        · have S := hW.snoc (dig_lower ⟨q, hq16⟩) HQ.out
          go_roundw
          case rel => exact ⟨1, _, by omega, rfl, S, (put_step hW.len (by omega) hown).1, hb2.grown (put_step hW.len (by omega) hown).2 hb2.size (fun j h => by cases h; exact Nat.le_refl _)⟩
          case measure => simp [intOf]
      · obtain ⟨q, hq, hq16, hqm⟩ := mask15 (r / 256) (by omega) (by omega)
        have HQ : Hid (lead r 1 * 16 + (q : Int) = lead r (1 + 1)) := by show r / 4096 * 16 + (q : Int) = r / 256; omega
        clear hqm
        go_wp2
        · have S := hW.snoc (dig_upper ⟨q, hq16⟩) HQ.out
          go_roundw
          case rel => exact ⟨2, _, by omega, rfl, S, (put_step hW.len (by omega) hown).1, hb2.grown (put_step hW.len (by omega) hown).2 hb2.size (fun j h => by cases h; exact Nat.le_refl _)⟩
          case measure => simp [intOf]
        · have S := hW.snoc (dig_lower ⟨q, hq16⟩) HQ.out
          go_roundw
          case rel => exact ⟨2, _, by omega, rfl, S, (put_step hW.len (by omega) hown).1, hb2.grown (put_step hW.len (by omega) hown).2 hb2.size (fun j h => by cases h; exact Nat.le_refl _)⟩
          case measure => simp [intOf]
      · obtain ⟨q, hq, hq16, hqm⟩ := mask15 (r / 16) (by omega) (by omega)
        have HQ : Hid (lead r 2 * 16 + (q : Int) = lead r (2 + 1)) := by show r / 256 * 16 + (q : Int) = r / 16; omega
        clear hqm
        go_wp2
        · have S := hW.snoc (dig_upper ⟨q, hq16⟩) HQ.out
          go_roundw
          case rel => exact ⟨3, _, by omega, rfl, S, (put_step hW.len (by omega) hown).1, hb2.grown (put_step hW.len (by omega) hown).2 hb2.size (fun j h => by cases h; exact Nat.le_refl _)⟩
          case measure => simp [intOf]
        · have S := hW.snoc (dig_lower ⟨q, hq16⟩) HQ.out
          go_roundw
          case rel => exact ⟨3, _, by omega, rfl, S, (put_step hW.len (by omega) hown).1, hb2.grown (put_step hW.len (by omega) hown).2 hb2.size (fun j h => by cases h; exact Nat.le_refl _)⟩
          case measure => simp [intOf]
      · obtain ⟨q, hq, hq16, hqm⟩ := mask15 r (by omega) (by omega)
        have HQ : Hid (lead r 3 * 16 + (q : Int) = lead r (3 + 1)) := by show r / 16 * 16 + (q : Int) = r; omega
        clear hqm
        go_wp2
        · have S := hW.snoc (dig_upper ⟨q, hq16⟩) HQ.out
          go_roundw
          case rel => exact ⟨4, _, by omega, rfl, S, (put_step hW.len (by omega) hown).1, hb2.grown (put_step hW.len (by omega) hown).2 hb2.size (fun j h => by cases h; exact Nat.le_refl _)⟩
          case measure => simp [intOf]
        · have S := hW.snoc (dig_lower ⟨q, hq16⟩) HQ.out
          go_roundw
          case rel => exact ⟨4, _, by omega, rfl, S, (put_step hW.len (by omega) hown).1, hb2.grown (put_step hW.len (by omega) hown).2 hb2.size (fun j h => by cases h; exact Nat.le_refl _)⟩
          case measure => simp [intOf]
    · have hk4 : k = 4 := by omega
      subst hk4
      obtain ⟨wo, rfl⟩ : ∃ wo : World, wo = wr := ⟨_, rfl⟩
      have hlen := hW.len
      go_wp2
      go_loopw [11] (fun i wr => ∃ (k : Nat), k ≤ n ∧ i = .int .i64 k ∧ wr.ownsRow w1.heap.size 5 1 (.slice (some ⟨w1.heap.size, 0, none⟩) (4 + n) (4 + n)) (4 + n) (((ds ++ zs.take k) ++ List.replicate (4 + n - (4 + k)) (0 : Int)).map (Value.int .u8)) ∧ Below w1.heap.size w1 wr)
        (fun i _ => n - (intOf i).toNat)
      case atStart => exact ⟨0, by omega, rfl, by simpa using hown, hb2⟩
      case round =>
        clear hown hb2
        obtain ⟨k, hk, rfl, hown, hb2⟩ := hrel
        by_cases hlt : k < n
        · obtain ⟨g, off, rfl, hg, hc⟩ := hr1 (by omega)
          have hcx : wr.cell? ⟨g, off + k, none⟩ = some (.int .u8 (zs.getD k 0)) := (hb2.cell (by exact hg)).trans (hc k hlt)
          have hll : (ds ++ zs.take k).length = 4 + k := by simp [hlen]; omega
          have hfo := hown.frozenAt (4 + k)
          have hco := put_cell hll (by omega) hown
          have HT : Hid _ := put_step (c := zs.getD k 0) hll (by omega) hown
          rw [List.append_assoc ds, ← take_snoc_getD zs k (by omega)] at HT
          clear hc hll hown
          go_wp2
          go_roundw
          case rel => exact ⟨k + 1, by omega, by go_num, HT.out.1, hb2.grown HT.out.2 hb2.size (fun j h => by cases h; exact Nat.le_refl _)⟩
          case measure => simp [intOf]; omega
        · have hkn : k = n := by omega
          subst hkn
          have HO := zzHex (some ⟨w1.heap.size, 0, none⟩) (4 + k) (4 + k) (ds ++ zs.take k) wr (own_reads (by simpa using hown)) (Nat.le_refl _) (by omega) (append_bd hW.bd HZ.out)
          rw [show hexOf (ds ++ zs.take k) (4 + k) = some r by unfold hexOf; rw [if_neg (by omega), hexTo_append _ _ _ (by omega)]; exact hW.val] at HO
          simp only [Option.getD_some, Option.isSome_some] at HO
          clear hown
          go_wp2_with fail
          refine HO.mono ?_
          rintro e w3 ⟨rfl, rfl⟩
          clear HO
          go_wp2
          go_ret
          exact ⟨rfl, hb1.trans (hb2.mono hb1.size)⟩

end Go.Proofs.Qxb6603405a
