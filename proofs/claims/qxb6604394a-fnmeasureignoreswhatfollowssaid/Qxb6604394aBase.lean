/-
  What the laws of this seat share: the row of int32 in memory, the clone, the guard zzSat.
-/
import Derived.Test.Qxb6604394aProg
import Derived.WalkKit
import Derived.WalkSpells
import Derived.WalkSmall
import Derived.Lib.SliceRun
import Derived.OpenShut
import Derived.Laws.CopyOwn
namespace Go.Proofs.Qxb6604394a
open Go.RowKit

theorem hid {p : Prop} (h : p) : Hid p := h
theorem info21 : (Try.prog.info? 21).map (fun i => (i.zero, i.size, i.bytes)) = some (some (.int .i32 0), 1, 4) := by kernel_rfl
theorem size21 : (Try.prog.info? 21).map (·.size) = some 1 := by kernel_rfl

/-- A slice's address 'ao', its first n numbers are those of zs. -/
def Reads (w : World) (ao : Option Addr) (n : Nat) (zs : List Int) : Prop :=
  0 < n → ∃ g off, ao = some ⟨g, off, none⟩ ∧ g < w.heap.size ∧ ∀ j, j < n → w.cell? ⟨g, off + j, none⟩ = some (.int .i32 (zs.getD j 0))

theorem Reads.later {w w' : World} {ao : Option Addr} {n B : Nat} {zs : List Int} (h : Reads w ao n zs) (hb : Below B w w') (hB : w.heap.size ≤ B) : Reads w' ao n zs := by
  intro hn
  obtain ⟨g, off, e, hg, hc⟩ := h hn
  exact ⟨g, off, e, Nat.lt_of_lt_of_le hg hb.size, fun j hj => (hb.cell (by exact Nat.lt_of_lt_of_le hg hB)).trans (hc j hj)⟩

def IsRow (k : IntKind) (w : World) (a : Option Addr) (len cap : Nat) (zs : List Int) : Prop :=
  (a = none ∧ len = 0 ∧ cap = 0 ∧ zs = []) ∨
  ∃ x, a = some x ∧ len ≤ cap ∧ cap ≤ maxLen ∧ zs.length = cap ∧ (∀ i, i < zs.length → w.cell? (x.add i) = some (.int k (zs.getD i 0))) ∧ ∀ n ∈ zs, (Lit.int k n).wf = true

/-- Every number fits int32. -/
def Fit (zs : List Int) : Prop := ∀ j, -2147483648 ≤ zs.getD j 0 ∧ zs.getD j 0 ≤ 2147483647

theorem IsRow.parts {w : World} {a : Option Addr} {len cap : Nat} {zs : List Int} (h : IsRow .i32 w a len cap zs) :
    Reads w a len (zs.take len) ∧ (zs.take len).length = len ∧ len ≤ cap ∧ (a = none → len = 0 ∧ cap = 0) ∧ Fit (zs.take len) := by
  rcases h with ⟨rfl, rfl, rfl, rfl⟩ | ⟨x, rfl, h1, h2, h3, h4, h5⟩
  · exact ⟨fun h => absurd h (by omega), rfl, by simp, fun _ => ⟨rfl, rfl⟩, fun j => by simp⟩
  · refine ⟨fun hn => ?_, by simp; omega, h1, (fun h => by cases h), fun j => ?_⟩
    · obtain ⟨b, off, rfl, hc⟩ := ints_at h4 (by omega)
      refine ⟨b, off, rfl, World.block_lt_of_cell? w _ (hc 0 (by omega)), fun j hj => ?_⟩
      rw [hc j (by omega)]
      simp [List.getD, hj]
    · have := range_i32 h5 j
      simp only [List.getD, List.getElem?_take]
      split
      · simpa using this
      · simp

theorem made_row (n : Nat) : (madeCells #[Value.int .i32 0] n).toList = List.replicate n (Value.int .i32 0) := toList_madeCells_one _ _

theorem copy_all {zs : List Int} {n : Nat} (h : zs.length = n) : splice (List.replicate n (Value.int .i32 0)) 0 (zs.map (Value.int .i32)) = zs.map (Value.int .i32) := by
  unfold splice
  simp [h]

set_option maxHeartbeats 400000 in
theorem clone_some (x : Addr) (n cap : Nat) (zs : List Int) (w : World) (hl : n ≤ 1048576) (hz : zs.length = n) (hr : Reads w (some x) n zs) :
    Calls Try.prog 9 #[.slice (some x) n cap] w fun e w' => e = .returned (.slice (some ⟨w.heap.size, 0, none⟩) n n) ∧ Reads w' (some ⟨w.heap.size, 0, none⟩) n zs ∧ Below w.heap.size w w' := by
  obtain ⟨i0, hi, hz0, hz1, hz2⟩ := info_parts info21
  have q22 : ∀ (w : World) (a : Option Addr) (n c n' c' : Nat), (binOp .eql 22 (.slice a n c) (.slice none n' c')).run Try.prog w = .ok (.bool a.isNone) w := fun w a n c n' c' => Lib.run_eql_slice_nil w _ _ a n c n' c' Try.underlying22
  have HR := hid hr
  clear hr
  obtain ⟨cs, hcs⟩ : ∃ cs, cs = zs.map (Value.int .i32) := ⟨_, rfl⟩
  have HCS := hid hcs
  have hcl : cs.length = n := by rw [hcs]; simpa using hz
  have h1c : ∀ u ∈ cs, u.oneCell' = true := by rw [hcs]; exact ints_oneCell _ _
  have H1C := hid h1c
  clear hcs h1c
  go_enter Try.func9, Try.ntmps9
  go_wp2_with (at_make; refine wpList_make_full _ rfl _ _ 22 rfl w.heap.size 21 i0 (.int .i32 0) 1 Try.underlying22 hi hz0 hz1 _ _ _ _ n rfl rfl rfl rfl (by rw [hz2]; omega) (by unfold maxLen; omega) (Nat.le_refl _) ?_)
  intro w1 hown hgrow
  rw [made_row] at hown
  have hb1 : Below w.heap.size w w1 := (Below.refl _ _).grown hgrow (Nat.le_refl _) (fun k h => by cases h)
  have hblk : w1.heap[w.heap.size]? = some (.cells (List.replicate n (Value.int .i32 0)).toArray 21 (0, 0)) := by
    rcases hown.2 with ⟨h, _⟩ | ⟨g, c, cur, h, _, hh, _, _, hsz, htk⟩
    · cases h
    · cases h
      rw [hh]
      congr 2
      have : cur.toList.take (n * 1) = cur.toList := List.take_of_length_le (by simp; omega)
      rw [this] at htk
      rw [← htk]
  have HB := hid hblk
  clear hgrow hown hblk
  go_wp2_with (refine wpList_copy_splice rfl (.tmp 9) (.tmp 10) 22 22 rfl 21 Try.underlying22 size21 (some ⟨w.heap.size, 0, none⟩) (some x) n n n cap rfl rfl w.heap.size 0 _ 21 HB.out cs (by rw [hcl]; simp) ?hp (by rw [hcl]; simp) H1C.out w.heap.size w hb1 (Nat.le_refl _) ?_)
  case hp =>
    intro hp
    obtain ⟨g, off, e, hg, hc⟩ := HR.out (by omega)
    cases e
    intro j v hj
    rw [HCS.out] at hj
    have hjn : j < zs.length := by
      have := (List.getElem?_eq_some_iff.1 hj).1
      simpa using this
    rw [Addr.add_lit, hb1.cell (by exact hg), hc j (by omega), ← hj]
    simp [List.getD, hjn]
  intro w2 HG2 hB2
  have HRd : Hid (Reads w2 (some ⟨w.heap.size, 0, none⟩) n zs) := by
    intro hn
    have hg2 := HG2.out
    rw [HCS.out, copy_all hz] at hg2
    refine ⟨w.heap.size, 0, rfl, (Array.getElem?_eq_some_iff.1 hg2).1, fun j hj => ?_⟩
    rw [Nat.zero_add, cell_of_row w2 _ j _ _ _ hg2]
    simp [List.getD, show j < zs.length by omega]
  clear HB HG2
  go_wp2
  go_ret
  exact ⟨rfl, HRd.out, hB2⟩

theorem clone_nil (cap : Nat) (w : World) :
    Calls Try.prog 9 #[.slice none 0 cap] w fun e w' => e = .returned (.slice none 0 0) ∧ w' = w := by
  have q22 : ∀ (w : World) (a : Option Addr) (n c n' c' : Nat), (binOp .eql 22 (.slice a n c) (.slice none n' c')).run Try.prog w = .ok (.bool a.isNone) w := fun w a n c n' c' => Lib.run_eql_slice_nil w _ _ a n c n' c' Try.underlying22
  go_enter Try.func9, Try.ntmps9
  go_wp2
  go_ret
  exact ⟨rfl, rfl⟩

theorem clone_any (ao : Option Addr) (n cap : Nat) (zs : List Int) (w : World) (hl : n ≤ 1048576) (hz : zs.length = n) (hr : Reads w ao n zs) :
    Calls Try.prog 9 #[.slice ao n cap] w fun e w' => ∃ a c, e = .returned (.slice a n c) ∧ n ≤ c ∧ c ≤ 1048576 ∧ (a = none → n = 0 ∧ c = 0) ∧ Reads w' a n zs ∧ Below w.heap.size w w' := by
  cases ao with
  | none =>
    by_cases h0 : n = 0
    · subst h0
      refine (clone_nil cap w).mono ?_
      rintro e w' ⟨rfl, rfl⟩
      exact ⟨none, 0, rfl, by omega, by omega, fun _ => ⟨rfl, rfl⟩, fun h => absurd h (by omega), Below.refl _ _⟩
    · obtain ⟨g, off, e, _⟩ := hr (by omega)
      cases e
  | some x =>
    refine (clone_some x n cap zs w hl hz hr).mono ?_
    rintro e w' ⟨rfl, hrd, hb⟩
    exact ⟨_, n, rfl, by omega, by omega, (fun h => by cases h), hrd, hb⟩

/-- zzSat. -/
def sat (x : Int) : Int := if 2147483648 < x then 2147483648 else x
theorem sat_any (x : Int) (w : World) : Calls Try.prog 23 #[.int .i64 x] w fun e w' => e = .returned (.int .i64 (sat x)) ∧ w' = w := by
  by_cases h : 2147483648 < x
  · have HE : Hid (sat x = 2147483648) := by show sat x = 2147483648; unfold sat; rw [if_pos h]
    go_enter Try.func23, Try.ntmps23
    go_wp2
    go_ret
    rw [HE.out]
    exact ⟨rfl, rfl⟩
  · have HE : Hid (sat x = x) := by show sat x = x; unfold sat; rw [if_neg h]
    go_enter Try.func23, Try.ntmps23
    go_wp2
    go_ret
    rw [HE.out]
    exact ⟨rfl, rfl⟩

end Go.Proofs.Qxb6604394a
