/-
  What the laws of this seat share: the row of bytes in memory, the clone.
-/
import Derived.Test.Qxb6603405aProg
import Derived.WalkKit
import Derived.WalkSpells
import Derived.Lib.SliceRun
import Derived.OpenShut
namespace Go.Proofs.Qxb6603405a
open Go.RowKit

theorem info5 : (Try.prog.info? 5).map (fun i => (i.zero, i.size, i.bytes)) = some (some (.int .u8 0), 1, 1) := by kernel_rfl

theorem zeros_list (n : Nat) : (madeCells #[Value.int .u8 0] n).toList = (List.replicate n (0 : Int)).map (Value.int .u8) := by
  rw [toList_madeCells_one]
  simp

/-- What has been copied after k rounds. -/
def copied (zs : List Int) (n k : Nat) : List Int := zs.take k ++ List.replicate (n - k) 0

theorem copied_set (zs : List Int) (n k : Nat) (hk : k < n) (hz : n ≤ zs.length) : (copied zs n k).set k (zs.getD k 0) = copied zs n (k + 1) := by
  unfold copied
  have e : n - k = (n - (k + 1)) + 1 := by omega
  rw [e, List.replicate_succ, List.set_append_right _ _ (by simp; omega)]
  have e2 : k - (zs.take k).length = 0 := by simp; omega
  rw [e2, List.set_cons_zero, List.take_succ_eq_append_getElem (show k < zs.length by omega)]
  simp only [List.append_assoc, List.singleton_append, List.getD, List.getElem?_eq_getElem (show k < zs.length by omega), Option.getD_some]

theorem copied_length (zs : List Int) (n k : Nat) (hk : k ≤ n) (hz : n ≤ zs.length) : (copied zs n k).length = n := by simp [copied]; omega

theorem copied_all (zs : List Int) (n : Nat) : copied zs n n = zs.take n := by simp [copied]
theorem copied_none (zs : List Int) (n : Nat) : copied zs n 0 = List.replicate n 0 := by simp [copied]

set_option maxHeartbeats 400000 in
theorem clone_some (b off len cap : Nat) (zs : List Int) (w : World) (hl : len ≤ 1048576) (hz : len ≤ zs.length) (hb : 0 < len → b < w.heap.size)
    (hc : ∀ j, j < len → w.cell? ⟨b, off + j, none⟩ = some (.int .u8 (zs.getD j 0))) :
    Calls Try.prog 12 #[.slice (some ⟨b, off, none⟩) len cap] w fun e w' => e = .returned (.slice (some ⟨w.heap.size, 0, none⟩) len len) ∧
      w'.ownsRow w.heap.size 5 1 (.slice (some ⟨w.heap.size, 0, none⟩) len len) len ((zs.take len).map (Value.int .u8)) ∧ Below w.heap.size w w' := by
  obtain ⟨i0, hi, hz0, hz1, hz2⟩ := info_parts info5
  have q22 : ∀ (w : World) (a : Option Addr) (n c n' c' : Nat), (binOp .eql 22 (.slice a n c) (.slice none n' c')).run Try.prog w = .ok (.bool a.isNone) w := fun w a n c n' c' => Lib.run_eql_slice_nil w _ _ a n c n' c' Try.underlying22
  go_enter Try.func12, Try.ntmps12
  go_wp2_with (at_make; refine wpList_make_full _ rfl _ _ 22 rfl w.heap.size 5 i0 (.int .u8 0) 1 Try.underlying22 hi hz0 hz1 _ _ _ _ len rfl rfl rfl rfl (by rw [hz2]; omega) (by unfold maxLen; omega) (Nat.le_refl _) ?_)
  intro w1 hown hgrow
  rw [zeros_list, ← copied_none zs] at hown
  have hbel : Below w.heap.size w w1 := (Below.refl _ _).grown hgrow (Nat.le_refl _) (fun k h => by cases h)
  clear hgrow
  go_wp2
  go_loopw [4] (fun i wr => ∃ k : Nat, k ≤ len ∧ i = .int .i64 k ∧ wr.ownsRow w.heap.size 5 1 (.slice (some ⟨w.heap.size, 0, none⟩) len len) len ((copied zs len k).map (Value.int .u8)) ∧ Below w.heap.size w wr)
    (fun i _ => len - (intOf i).toNat)
  case atStart => exact ⟨0, Nat.zero_le _, rfl, hown, hbel⟩
  case round =>
    clear hown hbel
    obtain ⟨k, hk, rfl, hown, hbel⟩ := hrel
    by_cases hlt : k < len
    · have hcx : wr.cell? ⟨b, off + k, none⟩ = some (.int .u8 (zs.getD k 0)) := (hbel.cell (by exact hb (by omega))).trans (hc k hlt)
      have hco : wr.cell? ⟨w.heap.size, k, none⟩ = some (.int .u8 ((copied zs len k).getD k 0)) := by
        rw [hown.cellAt k (by omega)]
        simp [List.getD, show k < (copied zs len k).length by rw [copied_length zs len k hk hz]; exact hlt]
      have hfo := hown.frozenAt k
      have R := hown.stored k (.int .u8 (zs.getD k 0))
      rw [← List.map_set, copied_set zs len k hlt hz] at R
      have HR : Hid _ := R
      clear R hown
      go_wp2
      go_roundw
      case rel => exact ⟨k + 1, by omega, by go_num, HR.out.1, hbel.grown HR.out.2 hbel.size (fun j h => by cases h; exact Nat.le_refl _)⟩
      case measure => simp [intOf]; omega
    · have hkl : k = len := by omega
      subst hkl
      rw [copied_all] at hown
      go_wp2
      go_ret
      exact ⟨rfl, hown, hbel⟩


set_option maxHeartbeats 400000 in
theorem clone_zero (x : Addr) (cap : Nat) (w : World) :
    Calls Try.prog 12 #[.slice (some x) 0 cap] w fun e w' => e = .returned (.slice (some ⟨w.heap.size, 0, none⟩) 0 0) ∧ Below w.heap.size w w' := by
  obtain ⟨i0, hi, hz0, hz1, hz2⟩ := info_parts info5
  have q22 : ∀ (w : World) (a : Option Addr) (n c n' c' : Nat), (binOp .eql 22 (.slice a n c) (.slice none n' c')).run Try.prog w = .ok (.bool a.isNone) w := fun w a n c n' c' => Lib.run_eql_slice_nil w _ _ a n c n' c' Try.underlying22
  go_enter Try.func12, Try.ntmps12
  go_wp2_with (at_make; refine wpList_make_full _ rfl _ _ 22 rfl w.heap.size 5 i0 (.int .u8 0) 1 Try.underlying22 hi hz0 hz1 _ _ _ _ 0 rfl rfl rfl rfl (by omega) (by unfold maxLen; omega) (Nat.le_refl _) ?_)
  intro w1 hown hgrow
  have hbel : Below w.heap.size w w1 := (Below.refl _ _).grown hgrow (Nat.le_refl _) (fun k h => by cases h)
  clear hgrow hown
  go_wp2
  refine wp_loop_rounds 1 ?_
  rw [rounds_succ]
  go_wp2
  go_ret
  exact ⟨rfl, hbel⟩

theorem clone_nil (cap : Nat) (w : World) :
    Calls Try.prog 12 #[.slice none 0 cap] w fun e w' => e = .returned (.slice none 0 0) ∧ w' = w := by
  have q22 : ∀ (w : World) (a : Option Addr) (n c n' c' : Nat), (binOp .eql 22 (.slice a n c) (.slice none n' c')).run Try.prog w = .ok (.bool a.isNone) w := fun w a n c n' c' => Lib.run_eql_slice_nil w _ _ a n c n' c' Try.underlying22
  go_enter Try.func12, Try.ntmps12
  go_wp2
  go_ret
  exact ⟨rfl, rfl⟩

/-- A slice's address 'ao', its first n bytes are those of zs. -/
def Reads (w : World) (ao : Option Addr) (n : Nat) (zs : List Int) : Prop :=
  0 < n → ∃ g off, ao = some ⟨g, off, none⟩ ∧ g < w.heap.size ∧ ∀ j, j < n → w.cell? ⟨g, off + j, none⟩ = some (.int .u8 (zs.getD j 0))

theorem Reads.later {w w' : World} {ao : Option Addr} {n : Nat} {zs : List Int} (h : Reads w ao n zs) (hb : Below w.heap.size w w') : Reads w' ao n zs := by
  intro hn
  obtain ⟨g, off, e, hg, hc⟩ := h hn
  exact ⟨g, off, e, Nat.lt_of_lt_of_le hg hb.size, fun j hj => (hb.cell (by exact hg)).trans (hc j hj)⟩

def IsRow (k : IntKind) (w : World) (a : Option Addr) (len cap : Nat) (zs : List Int) : Prop :=
  (a = none ∧ len = 0 ∧ cap = 0 ∧ zs = []) ∨
  ∃ x, a = some x ∧ len ≤ cap ∧ cap ≤ maxLen ∧ zs.length = cap ∧ (∀ i, i < zs.length → w.cell? (x.add i) = some (.int k (zs.getD i 0))) ∧ ∀ n ∈ zs, (Lit.int k n).wf = true

theorem IsRow.parts {w : World} {a : Option Addr} {len cap : Nat} {zs : List Int} (h : IsRow .u8 w a len cap zs) :
    Reads w a len zs ∧ len ≤ zs.length ∧ len ≤ cap ∧ cap ≤ maxLen ∧ ∀ j, 0 ≤ zs.getD j 0 ∧ zs.getD j 0 ≤ 255 := by
  rcases h with ⟨rfl, rfl, rfl, rfl⟩ | ⟨x, rfl, h1, h2, h3, h4, h5⟩
  · exact ⟨fun h => absurd h (by omega), by simp, by simp, by unfold maxLen; omega, fun j => by simp⟩
  · refine ⟨fun hn => ?_, by omega, h1, h2, fun j => ?_⟩
    · obtain ⟨b, off, rfl, hc⟩ := ints_at h4 (by omega)
      exact ⟨b, off, rfl, World.block_lt_of_cell? w _ (hc 0 (by omega)), fun j hj => hc j (by omega)⟩
    · have := range_u8 h5 j
      simpa [List.getD] using this

/-- The clone, whatever came in. -/
theorem clone_any (a : Option Addr) (len cap : Nat) (zs : List Int) (w : World) (hl : len ≤ 1048576) (hz : len ≤ zs.length) (hr : Reads w a len zs) :
    Calls Try.prog 12 #[.slice a len cap] w fun e w' => ∃ ao c, e = .returned (.slice ao len c) ∧ len ≤ c ∧ c ≤ 1048576 ∧ Reads w' ao len zs ∧ Below w.heap.size w w' := by
  by_cases h0 : len = 0
  · subst h0
    cases a with
    | none =>
      refine (clone_nil cap w).mono ?_
      rintro e w' ⟨rfl, rfl⟩
      exact ⟨none, 0, rfl, by omega, by omega, fun h => absurd h (by omega), Below.refl _ _⟩
    | some x =>
      refine (clone_zero x cap w).mono ?_
      rintro e w' ⟨rfl, hb⟩
      exact ⟨_, 0, rfl, by omega, by omega, fun h => absurd h (by omega), hb⟩
  · obtain ⟨g, off, rfl, hg, hc⟩ := hr (by omega)
    refine (clone_some g off len cap zs w hl hz (fun _ => hg) hc).mono ?_
    rintro e w' ⟨rfl, hown, hb⟩
    refine ⟨_, len, rfl, by omega, by omega, fun _ => ⟨w.heap.size, 0, rfl, ?_, fun j hj => ?_⟩, hb⟩
    · exact (hown.lt w.heap.size rfl).2
    · rw [Nat.zero_add, hown.cellAt j (by omega)]
      have hj2 : j < zs.length := by omega
      simp [hj, hj2]

end Go.Proofs.Qxb6603405a
