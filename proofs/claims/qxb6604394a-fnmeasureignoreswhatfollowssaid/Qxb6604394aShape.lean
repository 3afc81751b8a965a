/-
  zzShapeModel: the walk.
-/
import Derived.Test.Qxb6604394aKeeps
import Derived.Deep.QuietTactic
import Derived.BigQuiet
namespace Go.Proofs.Qxb6604394a
open Go.RowKit

theorem info46 : (Try.prog.info? 46).map (fun i => (i.zero, i.size, i.bytes)) = some (some (.agg #[.int .i64 0, .int .i64 0]), 2, 16) := by kernel_rfl

theorem results_tmp6 {fn : Func} {t0 t1 t2 t3 t4 t5 : Tmp} (h : fn.results = #[.tmp t0, .tmp t1, .tmp t2, .tmp t3, .tmp t4, .tmp t5]) (tmps : Array Value) (P : Program) (w : World) :
    (results fn tmps).run P w = .ok (.tuple #[tmps.getD t0 undef, tmps.getD t1 undef, tmps.getD t2 undef, tmps.getD t3 undef, tmps.getD t4 undef, tmps.getD t5 undef]) w := by
  simp [results, h]

/-- What zzShapeModel leaves. -/
def SPost (S : List Int) (n : Nat) (w : World) (e : Ending) (w' : World) : Prop :=
  ∃ (want : Int) (used : Nat) (short nn pos ok : Bool), e = .returned (.tuple #[.int .i64 want, .int .i64 (used : Int), .bool short, .bool nn, .bool pos, .bool ok]) ∧ used ≤ n ∧
    (ok = true → ∃ W : Nat, want = sat (W : Int) ∧ Read [(1, 1)] S ⟨W, nn, pos, short, S.drop used⟩) ∧ Below w.heap.size w w'

theorem spost_ok {S : List Int} {n used : Nat} {w w' : World} {W : Nat} {short nn pos : Bool} (hu : used ≤ n) (h : Read [(1, 1)] S ⟨W, nn, pos, short, S.drop used⟩) (hb : Below w.heap.size w w') :
    SPost S n w (.returned (.tuple #[.int .i64 (sat (W : Int)), .int .i64 (used : Int), .bool short, .bool nn, .bool pos, .bool true])) w' :=
  ⟨_, used, short, nn, pos, true, rfl, hu, fun _ => ⟨W, rfl, h⟩, hb⟩
theorem spost_no {S : List Int} {n : Nat} {w w' : World} {nn pos : Bool} (hb : Below w.heap.size w w') :
    SPost S n w (.returned (.tuple #[.int .i64 0, .int .i64 0, .bool false, .bool nn, .bool pos, .bool false])) w' :=
  ⟨0, 0, false, nn, pos, false, rfl, Nat.zero_le _, fun h => (by cases h), hb⟩

/-- The rounds' relation. -/
structure Rel (S : List Int) (n : Nat) (w : World) (E : List (Nat × Nat)) (L T D j : Nat) (bn bp : Bool) (g c : Nat) (wr : World) : Prop where
  len : E.length = L
  jn : j ≤ n
  dec : D ≤ 65536
  depth : L ≤ j + 1
  each : ∀ p ∈ E, 1 ≤ p.2 ∧ p.2 ≤ 65536
  keeps : Keeps S E T bn bp j
  own : wr.ownsRow w.heap.size 46 2 (.slice (some ⟨g, 0, none⟩) L c) L (cellsOf E)
  below : Below w.heap.size w wr

theorem rel_start (S : List Int) (n : Nat) (w : World) : Rel S n w [(1, 1)] 1 0 0 0 true true w.heap.size 1 (w.alloc (.cells #[.int .i64 1, .int .i64 1] 46)) where
  len := rfl
  jn := Nat.zero_le _
  dec := Nat.zero_le _
  depth := Nat.le_refl _
  each := fun p hp => by rw [List.mem_singleton] at hp; subst hp; exact ⟨Nat.le_refl _, by omega⟩
  keeps := keeps_start S
  own := World.ownsRow_lit w _ 1 (Nat.le_refl _) (by unfold maxLen; omega) rfl
  below := (Below.refl _ _).alloc (Nat.le_refl _) _

theorem news_two (w : World) (p : Addr) (u : Value) (a b : Value) : ∀ j x, [a, b][j]? = some x → ((w.setCell p u).alloc (.cells #[a, b] 46)).cell? ((⟨w.heap.size, 0, none⟩ : Addr).add j) = some x := by
  have h := cell_two_new (w.setCell p u) a b 46
  rwa [World.size_setCell] at h

theorem rel_push {S : List Int} {E : List (Nat × Nat)} {n L T D j m k : Nat} {bn bp : Bool} {w W w1 : World} {o : Obj} {v v1 : Value} {mv : Int} (hl : E.length = L)
    (hown : w1.ownsRow w.heap.size 46 2 v1 (L + 1) (cellsOf E ++ [.int .i64 mv, .int .i64 (k : Int)])) (hgrow : (W.alloc o).grownBy w1 v.ownBlock) (hold : W.ownsRow w.heap.size 46 2 v L (cellsOf E)) (hb : Below w.heap.size w W) (hmv : mv = sat (m : Int))
    (he : ∀ q ∈ E, 1 ≤ q.2 ∧ q.2 ≤ 65536) (hk1 : 1 ≤ k) (hk2 : k ≤ 65536) (hK : Keeps S ((m, k) :: E) T bn bp j) (hj : j ≤ n) (hD : D ≤ 65536) (hd : L + 1 ≤ j + 1) :
    ∃ g c, v1 = .slice (some ⟨g, 0, none⟩) (L + 1) c ∧ Rel S n w ((m, k) :: E) (L + 1) T D j bn bp g c w1 := by
  obtain ⟨g, c, rfl⟩ : ∃ g c, v1 = .slice (some ⟨g, 0, none⟩) (L + 1) c := by
    rcases hown.2 with ⟨_, h⟩ | ⟨g, c, _, h, _⟩
    · omega
    · exact ⟨g, c, h⟩
  refine ⟨g, c, rfl, ⟨by simp [hl], hj, hD, hd, fun q hq => ?_, hK, by rw [cellsOf, ← hmv]; exact hown, (hb.alloc hb.size o).grown hgrow (by have := hb.size; simp; omega) (fun i h => (hold.lt i h).1)⟩⟩
  rcases List.mem_cons.1 hq with h | h
  · subst h; exact ⟨hk1, hk2⟩
  · exact he q h

set_option maxRecDepth 100000 in
set_option maxHeartbeats 2000000 in
theorem shape_any (ao : Option Addr) (n cap : Nat) (S : List Int) (w : World) (hn : n ≤ 262144) (hl : S.length = n) (hr : Reads w ao n S) (hf : Fit S) :
    Calls Try.prog 8 #[.slice ao n cap] w fun e w' => SPost S n w e w' := by
  obtain ⟨i0, hi, hz0, hz1, hz2⟩ := info_parts info46
  have HR := hid hr
  have HF := hid hf
  have HL := hid hl
  clear hr hf hl
  go_enter Try.func8, Try.ntmps8
  go_wp2
  go_loopw [8, 9, 10, 11, 12, 13] (fun st tot dec nn pos i wr => ∃ (E : List (Nat × Nat)) (L T D j : Nat) (bn bp : Bool) (g c : Nat), st = .slice (some ⟨g, 0, none⟩) L c ∧ tot = .int .i64 (sat (T : Int)) ∧ dec = .int .i64 (D : Int) ∧ nn = .bool bn ∧ pos = .bool bp ∧ i = .int .i64 (j : Int) ∧ Rel S n w E L T D j bn bp g c wr)
    (fun _ _ _ _ _ i _ => n - (intOf i).toNat)
  case atStart => exact ⟨[(1, 1)], 1, 0, 0, 0, true, true, w.heap.size, 1, rfl, rfl, rfl, rfl, rfl, rfl, rel_start S n w⟩
  case round =>
    obtain ⟨E, L, T, D, j, bn, bp, g, c, rfl, rfl, rfl, rfl, rfl, rfl, R⟩ := hrel
    have hj := R.jn
    have hD := R.dec
    have hdep := R.depth
    obtain ⟨A, hA⟩ : ∃ A, A = sat (T : Int) := ⟨_, rfl⟩
    have hAb := sat_range T
    rw [← hA] at hAb ⊢
    have HA := hid hA
    clear hA
    cases E with
    | nil =>
      have hL0 : L = 0 := R.len.symm
      subst hL0
      have HP := hid (spost_ok hj (keeps_done R.keeps) R.below)
      rw [← HA.out] at HP
      clear R
      go_wp2
      refine bodyPost_ret (results_tmp6 rfl _ _ _) rfl ?_
      exact HP.out
    | cons p E =>
      obtain ⟨L', hL'⟩ : ∃ L', L = L' + 1 := ⟨E.length, by have := R.len; simp at this; omega⟩
      subst hL'
      by_cases hjn : n ≤ j
      · have HS := hid (keeps_short R.keeps (by rw [HL.out]; omega) (fun q hq => (R.each q hq).1))
        have HE := hid R
        obtain ⟨wo, rfl⟩ : ∃ wo : World, wo = wr := ⟨_, rfl⟩
        clear R
        go_wp2
        go_loopw [9, 14] (fun tot i wr => ∃ k : Nat, k ≤ L' + 1 ∧ i = .int .i64 (k : Int) ∧ tot = .int .i64 (sat ((T + sumBot (p :: E) k : Nat) : Int)) ∧ Below wo.heap.size wo wr) (fun _ i _ => L' + 1 - (intOf i).toNat)
        case atStart => exact ⟨0, by omega, rfl, by rw [HA.out]; rfl, Below.refl _ _⟩
        case round =>
          obtain ⟨k, hk, rfl, rfl, hb4⟩ := hrel
          by_cases hlt : k < L' + 1
          · have hcb := cells_bot (p :: E) k (by rw [HE.out.len]; exact hlt)
            have hke := HE.out.each _ (atBot_mem (by rw [HE.out.len]; exact hlt))
            have hown := HE.out.own
            have hgl := (hown.lt g rfl).2
            have c0 : wr.cell? ⟨g, k * 2, none⟩ = some (.int .i64 (sat ((atBot (p :: E) k).1 : Int))) := (hb4.cell (by exact hgl)).trans (by rw [hown.cellAt _ (by omega)]; exact hcb.1)
            have c1 : wr.cell? ⟨g, k * 2 + 1, none⟩ = some (.int .i64 ((atBot (p :: E) k).2 : Int)) := (hb4.cell (by exact hgl)).trans (by rw [hown.cellAt _ (by omega)]; exact hcb.2)
            have HT : Hid (sat (sat ((T + sumBot (p :: E) k : Nat) : Int) + ((atBot (p :: E) k).2 : Int) * sat ((atBot (p :: E) k).1 : Int)) = sat ((T + sumBot (p :: E) (k + 1) : Nat) : Int)) := by
              show _ = _
              rw [sat_sum _ _ _ hke.1, sumBot, Nat.add_assoc]
            have hsb := sat_range (atBot (p :: E) k).1
            have htb := sat_range (T + sumBot (p :: E) k)
            generalize sat ((atBot (p :: E) k).1 : Int) = s at c0 HT hsb
            generalize (atBot (p :: E) k).2 = kk at c1 HT hke
            generalize sat ((T + sumBot (p :: E) k : Nat) : Int) = tt at HT htb ⊢
            have hpb := prod_small' hsb.1 hsb.2 (show (0 : Int) ≤ (kk : Int) by omega) (show (kk : Int) ≤ 65536 by omega)
            obtain ⟨dd, hdd⟩ : ∃ dd, dd = (kk : Int) * s := ⟨_, rfl⟩
            rw [← hdd] at HT hpb
            have hdw : wrap64 ((kk : Int) * s) = dd := by rw [← hdd]; exact IntWalk.wrap64_in dd ⟨by omega, by omega⟩
            clear hdd hcb hown hgl hke
            go_wp2_with fail
            go_quiet ((go_at_call 23; exact Calls.quiet_of_same (sat_any _ _)))
            go_wp2
            go_roundw
            case rel => exact ⟨k + 1, by omega, by go_num, by rw [HT.out], below_drewN hb4 _⟩
            case measure => simp [intOf]; omega
          · have hkL : k = L' + 1 := by omega
            have HP : Hid (SPost S n w (.returned (.tuple #[.int .i64 (sat ((T + sumBot (p :: E) k : Nat) : Int)), .int .i64 (j : Int), .bool true, .bool bn, .bool bp, .bool true])) wr) := by
              have hs : sumBot (p :: E) k = sumS (p :: E) := by rw [hkL, ← HE.out.len]; exact sumBot_all _
              rw [hs]
              exact spost_ok hj HS.out (HE.out.below.trans (hb4.mono HE.out.below.size))
            clear hkL HE HS
            generalize sat ((T + sumBot (p :: E) k : Nat) : Int) = tt at HP ⊢
            go_wp2
            refine bodyPost_ret (results_tmp6 rfl _ _ _) rfl ?_
            exact HP.out
      · obtain ⟨mm, k1⟩ := p
        have hk1 := R.each (mm, k1) (List.mem_cons_self ..)
        simp only [] at hk1
        have hlen : E.length = L' := by have := R.len; simpa using this
        obtain ⟨gs, os, rfl, hgs, hcs⟩ := HR.out (by omega)
        have hxc : wr.cell? ⟨gs, os + j, none⟩ = some (.int .i32 (S.getD j 0)) := (R.below.cell (by exact hgs)).trans (hcs j (by omega))
        have hxf := HF.out j
        obtain ⟨t0, t1, t2⟩ := top_cells hlen R.own
        obtain ⟨x, hx⟩ : ∃ x, x = S.getD j 0 := ⟨_, rfl⟩
        rw [← hx] at hxc hxf
        have HX := hid hx
        obtain ⟨mv, hmv⟩ : ∃ mv, mv = sat (mm : Int) := ⟨_, rfl⟩
        have hmb := sat_range mm
        rw [← hmv] at hmb t0
        have HMV := hid hmv
        have HSL : Hid (S.length = n) := HL.out
        have HRel := hid R
        have hLc : L' + 1 ≤ c := by
          rcases R.own.2 with ⟨h, _⟩ | ⟨g', c', cur, h, _, _, h6, _⟩
          · cases h
          · cases h; exact h6
        have hgg : w.heap.size ≤ g := (R.own.lt g rfl).1
        have hxs : ∀ v, (wr.setCell ⟨g, L' * 2 + 1, none⟩ v).cell? ⟨gs, os + j, none⟩ = some (.int .i32 x) := fun v => (World.cell?_setCell_other _ _ _ _ (by intro h; have h' := congrArg Addr.block h; simp only [] at h'; omega)).trans hxc
        clear R hx hmv
        have HCS : Hid (∀ i, i < n → wr.cell? ⟨gs, os + i, none⟩ = some (.int .i32 (S.getD i 0))) := fun i hi => (HRel.out.below.cell (by exact hgs)).trans (hcs i hi)
        clear hcs
        obtain ⟨k, hk⟩ : ∃ k, k1 = k + 1 := ⟨k1 - 1, by omega⟩
        subst hk
        have HTK := hid (top_keep hlen HRel.out.own)
        have HB := hid HRel.out.below
        by_cases hk0 : k = 0
        · subst hk0
          have HOW := hid (top_gone hlen HTK.out.1)
          have HBW := hid (HB.out.grown HTK.out.2 HB.out.size (fun i h => by cases h; exact (HRel.out.own.lt g rfl).1))
          have HEA : Hid (∀ q ∈ E, 1 ≤ q.2 ∧ q.2 ≤ 65536) := fun q hq => HRel.out.each q (List.mem_cons_of_mem _ hq)
          have hkeep : keep mm 0 E = E := rfl
          have HKE := hid hkeep
          have HKP := hid HRel.out.keeps
          have hll : E.length = L' := hlen
          have HLL := hid hll
          clear HTK hkeep hll
          by_cases h4 : x = -4
          · subst h4
            by_cases hj1 : n ≤ j + 1
            · clear HKP HRel
              go_wp2_with (go_at_call 23; refine (sat_any _ _).mono ?_; rintro e w' ⟨rfl, rfl⟩)
              refine bodyPost_ret (results_tmp6 rfl _ _ _) rfl ?_
              exact spost_no HBW.out
            · have hcf := HF.out (j + 1)
              have hcx := HCS.out (j + 1) (by omega)
              obtain ⟨cv, hcv⟩ : ∃ cv, cv = S.getD (j + 1) 0 := ⟨_, rfl⟩
              rw [← hcv] at hcf hcx
              have HK3 := hid (keeps_array HKP.out (by rw [HSL.out]; omega) HX.out hcv)
              rw [HKE.out] at HK3
              have hcs2 : ∀ v, (wr.setCell ⟨g, L' * 2 + 1, none⟩ v).cell? ⟨gs, os + (j + 1), none⟩ = some (.int .i32 cv) := fun v => (World.cell?_setCell_other _ _ _ _ (by intro h; have h' := congrArg Addr.block h; simp only [] at h'; omega)).trans hcx
              have HT : Hid (sat (A + mv) = sat ((T + mm : Nat) : Int)) := by
                show _ = _
                rw [HA.out, HMV.out, sat_add]
              have hsz : w.heap.size ≤ wr.heap.size := HB.out.size
              clear hcv hcx
              by_cases hc1 : 1 ≤ cv
              · have hcn : mv * cv = cv * mv := Int.mul_comm _ _
                have hpb := prod_small hmb.1 hmb.2 (show (0 : Int) ≤ cv by omega) (show cv ≤ 2147483648 by omega)
                obtain ⟨dd, hdd⟩ : ∃ dd, dd = mv * cv := ⟨_, rfl⟩
                have HM2 : Hid (sat dd = sat ((mm * cv.toNat : Nat) : Int)) := by
                  show _ = _
                  rw [hdd, HMV.out, ← sat_mul mm cv.toNat, Int.toNat_of_nonneg (by omega)]
                rw [← hcn, ← hdd] at hpb
                have hdw : wrap64 (mv * cv) = dd := by rw [← hdd]; exact IntWalk.wrap64_in dd ⟨by omega, by omega⟩
                have hb0 : ¬ cv < 0 := by omega
                rw [show decide (0 ≤ cv) = true from decide_eq_true (by omega), show decide (1 ≤ cv) = true from decide_eq_true hc1, Bool.and_true, Bool.and_true] at HK3
                clear hdd hcn
                clear HKP HRel
                go_wp2_with (first | (go_at_call 23; refine (sat_any _ _).mono ?_; rintro e w' ⟨rfl, rfl⟩) | (at_builtin; refine wpList_append_own _ rfl _ _ 47 rfl w.heap.size 46 i0 (.agg #[.int .i64 0, .int .i64 0]) 2 16 Try.underlying47 hi hz0 hz1 hz2 rfl (by decide) _ _ _ rfl (HOW.out.alloc _) ⟨wr.heap.size, 0, none⟩ 1 1 [.int .i64 (sat dd), .int .i64 1] rfl rfl ?c1 ?c2 ?c3 ?c4 ?c5 ?_))
                case c1 => exact news_two _ _ _ _ _
                case c2 => intro u hu; simp at hu; rcases hu with rfl | rfl <;> rfl
                case c3 => unfold maxLen; omega
                case c4 => omega
                case c5 => simp; omega
                intro v1 w1 hown1 hgrow1 _
                have HR3 := hid (rel_push (E := E) (m := mm * cv.toNat) (k := 1) HLL.out hown1 hgrow1 HOW.out HBW.out HM2.out HEA.out (by omega) (by omega) HK3.out (D := D) (n := n) (by omega) (by omega) (by omega))
                obtain ⟨g2, c2, hv1, HR4⟩ := HR3.out
                have HR5 := hid HR4
                clear hown1 hgrow1 HR3 HR4 HOW HBW
                subst hv1
                go_wp2
                go_roundw
                case rel => exact ⟨(mm * cv.toNat, 1) :: E, L' + 1, T + mm, D, j + 2, bn, bp, g2, c2, rfl, by rw [HT.out], rfl, rfl, rfl, by go_num, HR5.out⟩
                case measure => simp [intOf]; omega
              · by_cases hc0 : cv < 0
                · have HM2 : Hid (sat 0 = sat ((mm * cv.toNat : Nat) : Int)) := by
                    show _ = _
                    rw [show cv.toNat = 0 by omega, Nat.mul_zero]
                    rfl
                  rw [show decide (0 ≤ cv) = false from decide_eq_false (by omega), show decide (1 ≤ cv) = false from decide_eq_false (by omega), Bool.and_false, Bool.and_false] at HK3
                  clear HKP HRel
                  go_wp2_with (first | (go_at_call 23; refine (sat_any _ _).mono ?_; rintro e w' ⟨rfl, rfl⟩) | (at_builtin; refine wpList_append_own _ rfl _ _ 47 rfl w.heap.size 46 i0 (.agg #[.int .i64 0, .int .i64 0]) 2 16 Try.underlying47 hi hz0 hz1 hz2 rfl (by decide) _ _ _ rfl (HOW.out.alloc _) ⟨wr.heap.size, 0, none⟩ 1 1 [.int .i64 (sat 0), .int .i64 1] rfl rfl ?c1 ?c2 ?c3 ?c4 ?c5 ?_))
                  case c1 => exact news_two _ _ _ _ _
                  case c2 => intro u hu; simp at hu; rcases hu with rfl | rfl <;> rfl
                  case c3 => unfold maxLen; omega
                  case c4 => omega
                  case c5 => simp; omega
                  intro v1 w1 hown1 hgrow1 _
                  have HR3 := hid (rel_push (E := E) (m := mm * cv.toNat) (k := 1) HLL.out hown1 hgrow1 HOW.out HBW.out HM2.out HEA.out (by omega) (by omega) HK3.out (D := D) (n := n) (by omega) (by omega) (by omega))
                  obtain ⟨g2, c2, hv1, HR4⟩ := HR3.out
                  have HR5 := hid HR4
                  clear hown1 hgrow1 HR3 HR4 HOW HBW
                  subst hv1
                  go_wp2
                  go_roundw
                  case rel => exact ⟨(mm * cv.toNat, 1) :: E, L' + 1, T + mm, D, j + 2, false, false, g2, c2, rfl, by rw [HT.out], rfl, rfl, rfl, by go_num, HR5.out⟩
                  case measure => simp [intOf]; omega
                · have HM2 : Hid (sat 0 = sat ((mm * cv.toNat : Nat) : Int)) := by
                    show _ = _
                    rw [show cv.toNat = 0 by omega, Nat.mul_zero]
                    rfl
                  rw [show decide (0 ≤ cv) = true from decide_eq_true (by omega), show decide (1 ≤ cv) = false from decide_eq_false (by omega), Bool.and_true, Bool.and_false] at HK3
                  have hz0' : cv = 0 := by omega
                  subst hz0'
                  clear HKP HRel
                  go_wp2_with (first | (go_at_call 23; refine (sat_any _ _).mono ?_; rintro e w' ⟨rfl, rfl⟩) | (at_builtin; refine wpList_append_own _ rfl _ _ 47 rfl w.heap.size 46 i0 (.agg #[.int .i64 0, .int .i64 0]) 2 16 Try.underlying47 hi hz0 hz1 hz2 rfl (by decide) _ _ _ rfl (HOW.out.alloc _) ⟨wr.heap.size, 0, none⟩ 1 1 [.int .i64 (sat 0), .int .i64 1] rfl rfl ?c1 ?c2 ?c3 ?c4 ?c5 ?_))
                  case c1 => exact news_two _ _ _ _ _
                  case c2 => intro u hu; simp at hu; rcases hu with rfl | rfl <;> rfl
                  case c3 => unfold maxLen; omega
                  case c4 => omega
                  case c5 => simp; omega
                  intro v1 w1 hown1 hgrow1 _
                  have HR3 := hid (rel_push (E := E) (m := mm * (0 : Int).toNat) (k := 1) HLL.out hown1 hgrow1 HOW.out HBW.out HM2.out HEA.out (by omega) (by omega) HK3.out (D := D) (n := n) (by omega) (by omega) (by omega))
                  obtain ⟨g2, c2, hv1, HR4⟩ := HR3.out
                  have HR5 := hid HR4
                  clear hown1 hgrow1 HR3 HR4 HOW HBW
                  subst hv1
                  go_wp2
                  go_roundw
                  case rel => exact ⟨(mm * (0 : Int).toNat, 1) :: E, L' + 1, T + mm, D, j + 2, bn, false, g2, c2, rfl, by rw [HT.out], rfl, rfl, rfl, by go_num, HR5.out⟩
                  case measure => simp [intOf]; omega
          · have e4 : (x == -4) = false := beq_eq_false_iff_ne.2 h4
            by_cases h0 : 0 < x
            · obtain ⟨X, hX⟩ := Int.eq_ofNat_of_zero_le (show 0 ≤ x by omega)
              subst hX
              by_cases hbud : 65536 < D + X
              · clear HKP HRel
                go_wp2_with (go_at_call 23; refine (sat_any _ _).mono ?_; rintro e w' ⟨rfl, rfl⟩)
                refine bodyPost_ret (results_tmp6 rfl _ _ _) rfl ?_
                exact spost_no HBW.out
              · have HK3 := hid (keeps_struct (X := X) HKP.out (by rw [HSL.out]; omega) HX.out (by omega))
                rw [HKE.out] at HK3
                have HT : Hid (sat (A + mv) = sat ((T + mm : Nat) : Int)) := by
                  show _ = _
                  rw [HA.out, HMV.out, sat_add]
                have hsz : w.heap.size ≤ wr.heap.size := HB.out.size
                clear HKP HRel
                go_wp2_with (first | (go_at_call 23; refine (sat_any _ _).mono ?_; rintro e w' ⟨rfl, rfl⟩) | (at_builtin; refine wpList_append_own _ rfl _ _ 47 rfl w.heap.size 46 i0 (.agg #[.int .i64 0, .int .i64 0]) 2 16 Try.underlying47 hi hz0 hz1 hz2 rfl (by decide) _ _ _ rfl (HOW.out.alloc _) ⟨wr.heap.size, 0, none⟩ 1 1 [.int .i64 mv, .int .i64 X] rfl rfl ?c1 ?c2 ?c3 ?c4 ?c5 ?_))
                case c1 => exact news_two _ _ _ _ _
                case c2 => intro u hu; simp at hu; rcases hu with rfl | rfl <;> rfl
                case c3 => unfold maxLen; omega
                case c4 => omega
                case c5 => simp; omega
                intro v1 w1 hown1 hgrow1 _
                have HR3 := hid (rel_push (E := E) (m := mm) (k := X) HLL.out hown1 hgrow1 HOW.out HBW.out HMV.out HEA.out (by omega) (by omega) HK3.out (D := D + X) (n := n) (by omega) (by omega) (by omega))
                obtain ⟨g2, c2, hv1, HR4⟩ := HR3.out
                have HR5 := hid HR4
                clear hown1 hgrow1 HR3 HR4 HOW HBW
                subst hv1
                go_wp2
                go_roundw
                case rel => exact ⟨(mm, X) :: E, L' + 1, T + mm, D + X, j + 1, bn, bp, g2, c2, rfl, by rw [HT.out], by go_num, rfl, rfl, by go_num, HR5.out⟩
                case measure => simp [intOf]; omega
            · have HK2 := hid (keeps_leaf HKP.out (by rw [HSL.out]; omega) HX.out h4 h0)
              rw [HKE.out] at HK2
              by_cases h3 : x = -3
              · rw [if_pos h3] at HK2
                have HT : Hid (sat (A + 2 * mv) = sat ((T + 2 * mm : Nat) : Int)) := by
                  show _ = _
                  rw [HA.out, HMV.out, sat_add2]
                subst h3
                clear HKP HRel
                go_wp2_with (go_at_call 23; refine (sat_any _ _).mono ?_; rintro e w' ⟨rfl, rfl⟩)
                go_roundw
                case rel => exact ⟨E, L', T + 2 * mm, D, j + 1, bn, bp, g, c, rfl, by rw [HT.out], rfl, rfl, rfl, by go_num, ⟨HLL.out, by omega, hD, by omega, HEA.out, HK2.out, HOW.out, HBW.out⟩⟩
                case measure => simp [intOf]; omega
              · rw [if_neg h3] at HK2
                have e3 : (x == -3) = false := beq_eq_false_iff_ne.2 h3
                have HT : Hid (sat (A + mv) = sat ((T + mm : Nat) : Int)) := by
                  show _ = _
                  rw [HA.out, HMV.out, sat_add]
                clear HKP HRel
                go_wp2_with (go_at_call 23; refine (sat_any _ _).mono ?_; rintro e w' ⟨rfl, rfl⟩)
                go_roundw
                case rel => exact ⟨E, L', T + mm, D, j + 1, bn, bp, g, c, rfl, by rw [HT.out], rfl, rfl, rfl, by go_num, ⟨HLL.out, by omega, hD, by omega, HEA.out, HK2.out, HOW.out, HBW.out⟩⟩
                case measure => simp [intOf]; omega
        · have HOW := hid HTK.out.1
          have hk2 : 1 ≤ k := by omega
          have HBW := hid (HB.out.grown HTK.out.2 HB.out.size (fun i h => by cases h; exact (HRel.out.own.lt g rfl).1))
          have HEA : Hid (∀ q ∈ ((mm, k) :: E), 1 ≤ q.2 ∧ q.2 ≤ 65536) := fun q hq => by rcases List.mem_cons.1 hq with h | h; exact (by subst h; exact ⟨by omega, by omega⟩); exact HRel.out.each q (List.mem_cons_of_mem _ h)
          have hkeep : keep mm k E = ((mm, k) :: E) := by unfold keep; rw [if_neg (by omega)]
          have HKE := hid hkeep
          have HKP := hid HRel.out.keeps
          have hll : ((mm, k) :: E).length = (L' + 1) := by simp [hlen]
          have HLL := hid hll
          clear HTK hkeep hll
          by_cases h4 : x = -4
          · subst h4
            by_cases hj1 : n ≤ j + 1
            · clear HKP HRel
              go_wp2_with (go_at_call 23; refine (sat_any _ _).mono ?_; rintro e w' ⟨rfl, rfl⟩)
              refine bodyPost_ret (results_tmp6 rfl _ _ _) rfl ?_
              exact spost_no HBW.out
            · have hcf := HF.out (j + 1)
              have hcx := HCS.out (j + 1) (by omega)
              obtain ⟨cv, hcv⟩ : ∃ cv, cv = S.getD (j + 1) 0 := ⟨_, rfl⟩
              rw [← hcv] at hcf hcx
              have HK3 := hid (keeps_array HKP.out (by rw [HSL.out]; omega) HX.out hcv)
              rw [HKE.out] at HK3
              have hcs2 : ∀ v, (wr.setCell ⟨g, L' * 2 + 1, none⟩ v).cell? ⟨gs, os + (j + 1), none⟩ = some (.int .i32 cv) := fun v => (World.cell?_setCell_other _ _ _ _ (by intro h; have h' := congrArg Addr.block h; simp only [] at h'; omega)).trans hcx
              have HT : Hid (sat (A + mv) = sat ((T + mm : Nat) : Int)) := by
                show _ = _
                rw [HA.out, HMV.out, sat_add]
              have hsz : w.heap.size ≤ wr.heap.size := HB.out.size
              clear hcv hcx
              by_cases hc1 : 1 ≤ cv
              · have hcn : mv * cv = cv * mv := Int.mul_comm _ _
                have hpb := prod_small hmb.1 hmb.2 (show (0 : Int) ≤ cv by omega) (show cv ≤ 2147483648 by omega)
                obtain ⟨dd, hdd⟩ : ∃ dd, dd = mv * cv := ⟨_, rfl⟩
                have HM2 : Hid (sat dd = sat ((mm * cv.toNat : Nat) : Int)) := by
                  show _ = _
                  rw [hdd, HMV.out, ← sat_mul mm cv.toNat, Int.toNat_of_nonneg (by omega)]
                rw [← hcn, ← hdd] at hpb
                have hdw : wrap64 (mv * cv) = dd := by rw [← hdd]; exact IntWalk.wrap64_in dd ⟨by omega, by omega⟩
                have hb0 : ¬ cv < 0 := by omega
                rw [show decide (0 ≤ cv) = true from decide_eq_true (by omega), show decide (1 ≤ cv) = true from decide_eq_true hc1, Bool.and_true, Bool.and_true] at HK3
                clear hdd hcn
                clear HKP HRel
                go_wp2_with (first | (go_at_call 23; refine (sat_any _ _).mono ?_; rintro e w' ⟨rfl, rfl⟩) | (at_builtin; refine wpList_append_own _ rfl _ _ 47 rfl w.heap.size 46 i0 (.agg #[.int .i64 0, .int .i64 0]) 2 16 Try.underlying47 hi hz0 hz1 hz2 rfl (by decide) _ _ _ rfl (HOW.out.alloc _) ⟨wr.heap.size, 0, none⟩ 1 1 [.int .i64 (sat dd), .int .i64 1] rfl rfl ?c1 ?c2 ?c3 ?c4 ?c5 ?_))
                case c1 => exact news_two _ _ _ _ _
                case c2 => intro u hu; simp at hu; rcases hu with rfl | rfl <;> rfl
                case c3 => unfold maxLen; omega
                case c4 => omega
                case c5 => simp; omega
                intro v1 w1 hown1 hgrow1 _
                have HR3 := hid (rel_push (E := ((mm, k) :: E)) (m := mm * cv.toNat) (k := 1) HLL.out hown1 hgrow1 HOW.out HBW.out HM2.out HEA.out (by omega) (by omega) HK3.out (D := D) (n := n) (by omega) (by omega) (by omega))
                obtain ⟨g2, c2, hv1, HR4⟩ := HR3.out
                have HR5 := hid HR4
                clear hown1 hgrow1 HR3 HR4 HOW HBW
                subst hv1
                go_wp2
                go_roundw
                case rel => exact ⟨(mm * cv.toNat, 1) :: ((mm, k) :: E), (L' + 1) + 1, T + mm, D, j + 2, bn, bp, g2, c2, rfl, by rw [HT.out], rfl, rfl, rfl, by go_num, HR5.out⟩
                case measure => simp [intOf]; omega
              · by_cases hc0 : cv < 0
                · have HM2 : Hid (sat 0 = sat ((mm * cv.toNat : Nat) : Int)) := by
                    show _ = _
                    rw [show cv.toNat = 0 by omega, Nat.mul_zero]
                    rfl
                  rw [show decide (0 ≤ cv) = false from decide_eq_false (by omega), show decide (1 ≤ cv) = false from decide_eq_false (by omega), Bool.and_false, Bool.and_false] at HK3
                  clear HKP HRel
                  go_wp2_with (first | (go_at_call 23; refine (sat_any _ _).mono ?_; rintro e w' ⟨rfl, rfl⟩) | (at_builtin; refine wpList_append_own _ rfl _ _ 47 rfl w.heap.size 46 i0 (.agg #[.int .i64 0, .int .i64 0]) 2 16 Try.underlying47 hi hz0 hz1 hz2 rfl (by decide) _ _ _ rfl (HOW.out.alloc _) ⟨wr.heap.size, 0, none⟩ 1 1 [.int .i64 (sat 0), .int .i64 1] rfl rfl ?c1 ?c2 ?c3 ?c4 ?c5 ?_))
                  case c1 => exact news_two _ _ _ _ _
                  case c2 => intro u hu; simp at hu; rcases hu with rfl | rfl <;> rfl
                  case c3 => unfold maxLen; omega
                  case c4 => omega
                  case c5 => simp; omega
                  intro v1 w1 hown1 hgrow1 _
                  have HR3 := hid (rel_push (E := ((mm, k) :: E)) (m := mm * cv.toNat) (k := 1) HLL.out hown1 hgrow1 HOW.out HBW.out HM2.out HEA.out (by omega) (by omega) HK3.out (D := D) (n := n) (by omega) (by omega) (by omega))
                  obtain ⟨g2, c2, hv1, HR4⟩ := HR3.out
                  have HR5 := hid HR4
                  clear hown1 hgrow1 HR3 HR4 HOW HBW
                  subst hv1
                  go_wp2
                  go_roundw
                  case rel => exact ⟨(mm * cv.toNat, 1) :: ((mm, k) :: E), (L' + 1) + 1, T + mm, D, j + 2, false, false, g2, c2, rfl, by rw [HT.out], rfl, rfl, rfl, by go_num, HR5.out⟩
                  case measure => simp [intOf]; omega
                · have HM2 : Hid (sat 0 = sat ((mm * cv.toNat : Nat) : Int)) := by
                    show _ = _
                    rw [show cv.toNat = 0 by omega, Nat.mul_zero]
                    rfl
                  rw [show decide (0 ≤ cv) = true from decide_eq_true (by omega), show decide (1 ≤ cv) = false from decide_eq_false (by omega), Bool.and_true, Bool.and_false] at HK3
                  have hz0' : cv = 0 := by omega
                  subst hz0'
                  clear HKP HRel
                  go_wp2_with (first | (go_at_call 23; refine (sat_any _ _).mono ?_; rintro e w' ⟨rfl, rfl⟩) | (at_builtin; refine wpList_append_own _ rfl _ _ 47 rfl w.heap.size 46 i0 (.agg #[.int .i64 0, .int .i64 0]) 2 16 Try.underlying47 hi hz0 hz1 hz2 rfl (by decide) _ _ _ rfl (HOW.out.alloc _) ⟨wr.heap.size, 0, none⟩ 1 1 [.int .i64 (sat 0), .int .i64 1] rfl rfl ?c1 ?c2 ?c3 ?c4 ?c5 ?_))
                  case c1 => exact news_two _ _ _ _ _
                  case c2 => intro u hu; simp at hu; rcases hu with rfl | rfl <;> rfl
                  case c3 => unfold maxLen; omega
                  case c4 => omega
                  case c5 => simp; omega
                  intro v1 w1 hown1 hgrow1 _
                  have HR3 := hid (rel_push (E := ((mm, k) :: E)) (m := mm * (0 : Int).toNat) (k := 1) HLL.out hown1 hgrow1 HOW.out HBW.out HM2.out HEA.out (by omega) (by omega) HK3.out (D := D) (n := n) (by omega) (by omega) (by omega))
                  obtain ⟨g2, c2, hv1, HR4⟩ := HR3.out
                  have HR5 := hid HR4
                  clear hown1 hgrow1 HR3 HR4 HOW HBW
                  subst hv1
                  go_wp2
                  go_roundw
                  case rel => exact ⟨(mm * (0 : Int).toNat, 1) :: ((mm, k) :: E), (L' + 1) + 1, T + mm, D, j + 2, bn, false, g2, c2, rfl, by rw [HT.out], rfl, rfl, rfl, by go_num, HR5.out⟩
                  case measure => simp [intOf]; omega
          · have e4 : (x == -4) = false := beq_eq_false_iff_ne.2 h4
            by_cases h0 : 0 < x
            · obtain ⟨X, hX⟩ := Int.eq_ofNat_of_zero_le (show 0 ≤ x by omega)
              subst hX
              by_cases hbud : 65536 < D + X
              · clear HKP HRel
                go_wp2_with (go_at_call 23; refine (sat_any _ _).mono ?_; rintro e w' ⟨rfl, rfl⟩)
                refine bodyPost_ret (results_tmp6 rfl _ _ _) rfl ?_
                exact spost_no HBW.out
              · have HK3 := hid (keeps_struct (X := X) HKP.out (by rw [HSL.out]; omega) HX.out (by omega))
                rw [HKE.out] at HK3
                have HT : Hid (sat (A + mv) = sat ((T + mm : Nat) : Int)) := by
                  show _ = _
                  rw [HA.out, HMV.out, sat_add]
                have hsz : w.heap.size ≤ wr.heap.size := HB.out.size
                clear HKP HRel
                go_wp2_with (first | (go_at_call 23; refine (sat_any _ _).mono ?_; rintro e w' ⟨rfl, rfl⟩) | (at_builtin; refine wpList_append_own _ rfl _ _ 47 rfl w.heap.size 46 i0 (.agg #[.int .i64 0, .int .i64 0]) 2 16 Try.underlying47 hi hz0 hz1 hz2 rfl (by decide) _ _ _ rfl (HOW.out.alloc _) ⟨wr.heap.size, 0, none⟩ 1 1 [.int .i64 mv, .int .i64 X] rfl rfl ?c1 ?c2 ?c3 ?c4 ?c5 ?_))
                case c1 => exact news_two _ _ _ _ _
                case c2 => intro u hu; simp at hu; rcases hu with rfl | rfl <;> rfl
                case c3 => unfold maxLen; omega
                case c4 => omega
                case c5 => simp; omega
                intro v1 w1 hown1 hgrow1 _
                have HR3 := hid (rel_push (E := ((mm, k) :: E)) (m := mm) (k := X) HLL.out hown1 hgrow1 HOW.out HBW.out HMV.out HEA.out (by omega) (by omega) HK3.out (D := D + X) (n := n) (by omega) (by omega) (by omega))
                obtain ⟨g2, c2, hv1, HR4⟩ := HR3.out
                have HR5 := hid HR4
                clear hown1 hgrow1 HR3 HR4 HOW HBW
                subst hv1
                go_wp2
                go_roundw
                case rel => exact ⟨(mm, X) :: ((mm, k) :: E), (L' + 1) + 1, T + mm, D + X, j + 1, bn, bp, g2, c2, rfl, by rw [HT.out], by go_num, rfl, rfl, by go_num, HR5.out⟩
                case measure => simp [intOf]; omega
            · have HK2 := hid (keeps_leaf HKP.out (by rw [HSL.out]; omega) HX.out h4 h0)
              rw [HKE.out] at HK2
              by_cases h3 : x = -3
              · rw [if_pos h3] at HK2
                have HT : Hid (sat (A + 2 * mv) = sat ((T + 2 * mm : Nat) : Int)) := by
                  show _ = _
                  rw [HA.out, HMV.out, sat_add2]
                subst h3
                clear HKP HRel
                go_wp2_with (go_at_call 23; refine (sat_any _ _).mono ?_; rintro e w' ⟨rfl, rfl⟩)
                go_roundw
                case rel => exact ⟨((mm, k) :: E), (L' + 1), T + 2 * mm, D, j + 1, bn, bp, g, c, rfl, by rw [HT.out], rfl, rfl, rfl, by go_num, ⟨HLL.out, by omega, hD, by omega, HEA.out, HK2.out, HOW.out, HBW.out⟩⟩
                case measure => simp [intOf]; omega
              · rw [if_neg h3] at HK2
                have e3 : (x == -3) = false := beq_eq_false_iff_ne.2 h3
                have HT : Hid (sat (A + mv) = sat ((T + mm : Nat) : Int)) := by
                  show _ = _
                  rw [HA.out, HMV.out, sat_add]
                clear HKP HRel
                go_wp2_with (go_at_call 23; refine (sat_any _ _).mono ?_; rintro e w' ⟨rfl, rfl⟩)
                go_roundw
                case rel => exact ⟨((mm, k) :: E), (L' + 1), T + mm, D, j + 1, bn, bp, g, c, rfl, by rw [HT.out], rfl, rfl, rfl, by go_num, ⟨HLL.out, by omega, hD, by omega, HEA.out, HK2.out, HOW.out, HBW.out⟩⟩
                case measure => simp [intOf]; omega

end Go.Proofs.Qxb6604394a
