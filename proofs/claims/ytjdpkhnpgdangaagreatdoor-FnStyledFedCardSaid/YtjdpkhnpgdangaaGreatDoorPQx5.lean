/- Contracts of functions that the law FnStyledFed reaches (read and made memory as stated), for this claim alone; no condition but those stated. -/
import Derived.Test.YtjdpkhnpgdangaaGreatDoorPQx0
namespace Go.Proofs.YtjdpkhnpgdangaaGreatDoor.PQ
open Go.RowKit Go.Proofs.YtjdpkhnpgdangaaGreatDoorW.PrintWords Go.Proofs.YtjdpkhnpgdangaaGreatDoorW.PrintLast Go.Proofs.YtjdpkhnpgdangaaGreatDoorW.PrintMore
attribute [local go_sem] max2_int min2_int max_two min_two max_three min_three max_four min_four   -- for this text's walks alone
set_option linter.unusedVariables false
set_option linter.unusedSimpArgs false

/-! ### spec_PackedOf: function 24 -/
def spec_PackedOf.l0 : Nat → List Int → List (S89) → Int → Int → Option (List Int)
  | 0, _, _, _, _ => none
  | k + 1, x3, x8, x9, x10 => if x10 < x9 then (if 0 ≤ x10 then (if x10 < (x8.length : Int) then (if (rd_T89 x8 x10).f1 = true then (none) else (if (rd_T89 x8 x10).f2 = true then (none) else (if x3.length < 17592186044416 then (spec_PackedOf.l0 k (x3 ++ [(rd_T89 x8 x10).f0]) x8 x9 (wrap64 (x10 + 1))) else (none)))) else (none)) else (none)) else (if (x3.length : Int) = 1 then (if 0 < (x3.length : Int) then (if (rd x3 0) = 2147483647 then (none) else (some x3)) else (none)) else (some x3))
def spec_PackedOf.f (k : Nat) (a0_0 : Int) (a0_1 : Int) (l0_2 : List (S89)) (l0_3 : List Int) (a0_4 : Int) (l0_5 : List Int) (a0_6 : Bool) : Option (List Int) := spec_PackedOf.l0 k ([] : List Int) l0_2 (l0_2.length : Int) 0
theorem spec_PackedOf.mono_l : ∀ k, (∀ y0 y1 y2 y3, LeO (spec_PackedOf.l0 k y0 y1 y2 y3) (spec_PackedOf.l0 (k + 1) y0 y1 y2 y3))
  | 0 => fun _ _ _ _ r h => by simp [spec_PackedOf.l0] at h
  | k + 1 => by
    have ih0 := spec_PackedOf.mono_l k
    · intro y0 y1 y2 y3
      unfold spec_PackedOf.l0
      repeat' first
      | (with_reducible exact ih0 _ _ _ _)
      | (with_reducible exact LeO.refl _)
      | (with_reducible exact LeO.none _)
      | (with_reducible refine LeO.ite ?_ ?_)
      | (with_reducible refine LeO.bind ?_ (fun _ => ?_))
      | exact ih0 _ _ _ _
      | exact LeO.none _
      | refine LeO.ite ?_ ?_
      | refine LeO.bind ?_ (fun _ => ?_)
theorem spec_PackedOf.mono : ∀ a0 a1 a2 a3 a4 a5 a6 k, LeO (spec_PackedOf.f k a0 a1 a2 a3 a4 a5 a6) (spec_PackedOf.f (k + 1) a0 a1 a2 a3 a4 a5 a6) := by
  intro a0 a1 a2 a3 a4 a5 a6 k
  have ih0 := spec_PackedOf.mono_l k
  unfold spec_PackedOf.f
  repeat' first
      | (with_reducible exact ih0 _ _ _ _)
      | (with_reducible exact LeO.refl _)
      | (with_reducible exact LeO.none _)
      | (with_reducible refine LeO.ite ?_ ?_)
      | (with_reducible refine LeO.bind ?_ (fun _ => ?_))
      | exact ih0 _ _ _ _
      | exact LeO.none _
      | refine LeO.ite ?_ ?_
      | refine LeO.bind ?_ (fun _ => ?_)
set_option maxHeartbeats 8000000 in
set_option maxRecDepth 100000 in
theorem spec_PackedOf.calls (k : Nat) (a0_0 : Int) (a0_1 : Int) (A0_2 : Option Addr) (c0_2 : Nat) (l0_2 : List (S89)) (A0_3 : Option Addr) (c0_3 : Nat) (l0_3 : List Int) (a0_4 : Int) (A0_5 : Option Addr) (c0_5 : Nat) (l0_5 : List Int) (a0_6 : Bool) (r : List Int) (w : World) (hr0_2 : Kd.C k89 w A0_2 l0_2.length l0_2) (hc0_2 : l0_2.length ≤ c0_2) (hr0_3 : Kd.C (Kd.int .u8) w A0_3 l0_3.length l0_3) (hc0_3 : l0_3.length ≤ c0_3) (hr0_5 : Kd.C (Kd.int .u8) w A0_5 l0_5.length l0_5) (hc0_5 : l0_5.length ≤ c0_5) (h : spec_PackedOf.f k a0_0 a0_1 l0_2 l0_3 a0_4 l0_5 a0_6 = some r) :
    Calls Tryz.prog 24 #[.agg #[.int .i64 a0_0, .int .u8 a0_1, .slice A0_2 l0_2.length c0_2, .slice A0_3 l0_3.length c0_3, .int .u8 a0_4, .slice A0_5 l0_5.length c0_5, .bool a0_6]] w fun e w' => ∃ v0_ : Value, e = .returned (v0_) ∧ Kd.R (Kd.int .i64) 2 w' w.heap.size (fun _ => True) v0_ r ∧ Below w.heap.size w w' := by
  have hu37 := Tryz.underlying37
  have hu89 := Tryz.underlying89
  have HR0_2 := Aside0.mk hr0_2
  have HC0_2 := Aside0.mk hc0_2
  clear hr0_2 hc0_2
  have HR0_3 := Aside0.mk hr0_3
  have HC0_3 := Aside0.mk hc0_3
  clear hr0_3 hc0_3
  have HR0_5 := Aside0.mk hr0_5
  have HC0_5 := Aside0.mk hc0_5
  clear hr0_5 hc0_5
  have HB := Aside0.mk (Below.refl w.heap.size w)
  have H : (spec_PackedOf.l0 k ([] : List Int) l0_2 (l0_2.length : Int) 0) = some r := h
  clear h
  have H' := Aside0.mk H
  clear H
  go_enter Tryz.func24, Tryz.ntmps24
  go_wp2_with (first | ((with_reducible refine gate_dst (N := 1) rfl ?_); refine box_event ?hg (N := 1) ?hd (cs := #[.int .i64 a0_0, .int .u8 a0_1, .slice A0_2 l0_2.length c0_2, .slice A0_3 l0_3.length c0_3, .int .u8 a0_4, .slice A0_5 l0_5.length c0_5, .bool a0_6]) (t := 37) ?hr ?_; (case hd => rfl); (case hg => rfl); (case hr => first | (go_simp; done) | (go_simp; rfl)); intro gb119 hg w2 hbox hb; have n0_ := Aside0.mk (below_step (by repeat (first | (with_reducible first | exact HB.out | apply below_alloc | apply pw_below_drewN | apply below_drew1) | exact HB.out)) hb); have n1_ := Aside0.mk (hbox); have n2_ := Aside0.mk ((by rw [hg]; exact (below_size (by repeat (first | (with_reducible first | exact HB.out | apply below_alloc | apply pw_below_drewN | apply below_drew1) | exact HB.out))) : w.heap.size ≤ gb119)); have n3_ := Aside0.mk ((by rw [hg]; exact (below_size (by repeat (first | (with_reducible first | exact HB.out | apply below_alloc | apply pw_below_drewN | apply below_drew1) | exact HB.out))) : w.heap.size ≤ gb119)); clear HB; have HB := n0_; have BK119 := n1_; have GW119 := n2_; have GE119 := n3_; clear n0_ n1_ n2_ n3_; clear hb hbox hg; have hcz3_0 : w2.cell? ⟨gb119, 0, none⟩ = some (.int .i64 a0_0) := (blk_cell BK119.out 0).trans rfl; have hcz3_1 : w2.cell? ⟨gb119, 1, none⟩ = some (.int .u8 a0_1) := (blk_cell BK119.out 1).trans rfl; have hcz3_2 : w2.cell? ⟨gb119, 2, none⟩ = some (.slice A0_2 l0_2.length c0_2) := (blk_cell BK119.out 2).trans rfl; have hcz3_3 : w2.cell? ⟨gb119, 3, none⟩ = some (.slice A0_3 l0_3.length c0_3) := (blk_cell BK119.out 3).trans rfl; have hcz3_4 : w2.cell? ⟨gb119, 4, none⟩ = some (.int .u8 a0_4) := (blk_cell BK119.out 4).trans rfl; have hcz3_5 : w2.cell? ⟨gb119, 5, none⟩ = some (.slice A0_5 l0_5.length c0_5) := (blk_cell BK119.out 5).trans rfl; have hcz3_6 : w2.cell? ⟨gb119, 6, none⟩ = some (.bool a0_6) := (blk_cell BK119.out 6).trans rfl; have hfz3_0 := blk_frozen BK119.out 0; have hfz3_1 := blk_frozen BK119.out 1; have hfz3_2 := blk_frozen BK119.out 2; have hfz3_3 := blk_frozen BK119.out 3; have hfz3_4 := blk_frozen BK119.out 4; have hfz3_5 := blk_frozen BK119.out 5; have hfz3_6 := blk_frozen BK119.out 6))
  go_loopg [3, 10] k (fun kq v3 v10 w' => ∃ (x3_1 : List Int) (x10_1 : Int), v10 = .int .i64 x10_1 ∧ Aside0 (spec_PackedOf.l0 kq x3_1 l0_2 (l0_2.length : Int) x10_1 = some r) ∧ Aside0 (kq ≤ k) ∧ Aside0 (Kd.R (Kd.int .i64) 2 w' w.heap.size (fun _ => True) v3 x3_1) ∧ Aside0 (w'.heap[gb119]? = some (.cells #[.int .i64 a0_0, .int .u8 a0_1, (.slice A0_2 l0_2.length c0_2), (.slice A0_3 l0_3.length c0_3), .int .u8 a0_4, (.slice A0_5 l0_5.length c0_5), .bool a0_6] 37 (0, 0))) ∧ Aside0 (Below w.heap.size w w'))
  case atStart => exact ⟨(([] : List Int)), (0), (by first | rfl | (simp; done) | (simp [*]; done)), H', ⟨Nat.le_refl _⟩, ⟨by first | exact Kd.R_nil _ _ _ _ _ | exact Kd.N_nil _ _ _ _ _ | exact Kd.V_nil _ _ _ _ _ | exact Kd.Q_nil _ _ _ _ _ | exact Kd.S_nil _ _ _ _ _⟩, ⟨by (with_reducible repeat (first | refine blk_drewN ?_ _ | refine blk_drew ?_ | refine blk_alloc ?_ _)); exact BK119.out⟩, ⟨by repeat (first | (with_reducible first | exact HB.out | apply below_alloc | apply pw_below_drewN | apply below_drew1 | refine below_set ?_ GE119.out) | exact HB.out)⟩⟩
  case round =>
    clear H'
    try clear c2
    try clear p2
    try clear hcz3_0
    try clear hcz3_1
    try clear hcz3_2
    try clear hcz3_3
    try clear hcz3_4
    try clear hcz3_5
    try clear hcz3_6
    try clear hfz3_0
    try clear hfz3_1
    try clear hfz3_2
    try clear hfz3_3
    try clear hfz3_4
    try clear hfz3_5
    try clear hfz3_6
    obtain ⟨x3_1, x10_1, rfl, HA, HK1, HO_3, BK119, HB⟩ := hrel
    cases gk with
    | zero => exact absurd HA.out (by simp [spec_PackedOf.l0])
    | succ k1 =>
      have H := HA.out
      clear HA
      simp only [spec_PackedOf.l0] at H
      by_cases c4 : x10_1 < (l0_2.length : Int)
      · rw [if_pos c4] at H
        have c4b0 : decide (x10_1 < (l0_2.length : Int)) = true := decide_eq_true c4
        clear c4
        by_cases c5 : 0 ≤ x10_1
        · rw [if_pos c5] at H
          have c5b0 : decide (0 ≤ x10_1) = true := decide_eq_true c5
          clear c5
          by_cases c6 : x10_1 < (l0_2.length : Int)
          · rw [if_pos c6] at H
            have c6b0 : decide (x10_1 < (l0_2.length : Int)) = true := decide_eq_true c6
            clear c6
            obtain ⟨bq7, hbq7⟩ : ∃ b_ : Bool, b_ = ((rd_T89 l0_2 x10_1).f1) := ⟨_, rfl⟩
            replace H : (if bq7 = true then (none) else (if (rd_T89 l0_2 x10_1).f2 = true then (none) else (if x3_1.length < 17592186044416 then (spec_PackedOf.l0 k1 (x3_1 ++ [(rd_T89 l0_2 x10_1).f0]) l0_2 (l0_2.length : Int) (wrap64 (x10_1 + 1))) else (none)))) = some r := by rw [← hbq7] at H; exact H
            have Nbq7 := Aside0.mk hbq7
            clear hbq7
            by_cases c8 : bq7 = true
            · subst c8
              have H1 : (none) = some r := by rw [if_pos rfl] at H; exact H
              clear H
              have H := H1
              clear H1
              exact absurd H (by simp)
            · replace c8 := Bool.eq_false_iff.mpr c8
              subst c8
              have H1 : (if (rd_T89 l0_2 x10_1).f2 = true then (none) else (if x3_1.length < 17592186044416 then (spec_PackedOf.l0 k1 (x3_1 ++ [(rd_T89 l0_2 x10_1).f0]) l0_2 (l0_2.length : Int) (wrap64 (x10_1 + 1))) else (none))) = some r := by rw [if_neg (show ¬ (false = true) by decide)] at H; exact H
              clear H
              have H := H1
              clear H1
              obtain ⟨bq9, hbq9⟩ : ∃ b_ : Bool, b_ = ((rd_T89 l0_2 x10_1).f2) := ⟨_, rfl⟩
              replace H : (if bq9 = true then (none) else (if x3_1.length < 17592186044416 then (spec_PackedOf.l0 k1 (x3_1 ++ [(rd_T89 l0_2 x10_1).f0]) l0_2 (l0_2.length : Int) (wrap64 (x10_1 + 1))) else (none))) = some r := by rw [← hbq9] at H; exact H
              have Nbq9 := Aside0.mk hbq9
              clear hbq9
              by_cases c10 : bq9 = true
              · subst c10
                have H1 : (none) = some r := by rw [if_pos rfl] at H; exact H
                clear H
                have H := H1
                clear H1
                exact absurd H (by simp)
              · replace c10 := Bool.eq_false_iff.mpr c10
                subst c10
                have H1 : (if x3_1.length < 17592186044416 then (spec_PackedOf.l0 k1 (x3_1 ++ [(rd_T89 l0_2 x10_1).f0]) l0_2 (l0_2.length : Int) (wrap64 (x10_1 + 1))) else (none)) = some r := by rw [if_neg (show ¬ (false = true) by decide)] at H; exact H
                clear H
                have H := H1
                clear H1
                by_cases c11 : x3_1.length < 17592186044416
                · rw [if_pos c11] at H
                  have LMc11 := Aside0.mk c11
                  clear c11
                  obtain ⟨y123, hy123⟩ : ∃ y_ : List Int, y_ = (x3_1 ++ [(rd_T89 l0_2 x10_1).f0]) := ⟨_, rfl⟩
                  replace H : (spec_PackedOf.l0 k1 y123 l0_2 (l0_2.length : Int) (wrap64 (x10_1 + 1))) = some r := by first | (rw [hy123]; with_reducible exact H) | (have H2_ := (Option.bind_some _ _).symm.trans H; rw [hy123]; with_reducible exact H2_) | (have H2_ := (Option.bind_some _ _).symm.trans H; with_reducible exact H2_) | with_reducible exact H | (rw [hy123]; exact H) | exact H
                  have Ny123 := Aside0.mk hy123
                  clear hy123
                  have H' := Aside0.mk H
                  clear H
                  have p121 : 0 ≤ (x10_1 : Int) := of_decide_eq_true (by first | (with_reducible assumption) | assumption)
                  have q121 : x10_1 < (l0_2.length : Int) := of_decide_eq_true (by first | (with_reducible assumption) | assumption)
                  obtain ⟨ad121, e121, hx121_0, hx121_1, hx121_2⟩ := at_T89 HR0_2.out x10_1 p121 q121
                  (try rw [← Nbq7.out] at hx121_1)
                  (try rw [← Nbq9.out] at hx121_1)
                  (try rw [← Nbq7.out] at hx121_2)
                  (try rw [← Nbq9.out] at hx121_2)
                  cases e121
                  replace hx121_0 := (HB.out.cell (World.block_lt_of_cell? w _ hx121_0)).trans hx121_0
                  replace hx121_1 := (HB.out.cell (World.block_lt_of_cell? w _ hx121_1)).trans hx121_1
                  replace hx121_2 := (HB.out.cell (World.block_lt_of_cell? w _ hx121_2)).trans hx121_2
                  replace p121 := eq_true p121
                  replace q121 := eq_true q121
                  go_wp2_with (first | ((with_reducible refine gate_dst (N := 5) rfl ?_); refine box_event ?hg (N := 5) ?hd (cs := #[.int .i64 0, .bool false, .bool false]) (t := 89) ?hr ?_; (case hd => rfl); (case hg => rfl); (case hr => first | (go_simp; done) | (go_simp; rfl)); intro gb122 hg w12 hbox hb; have n0_ := Aside0.mk (Kd.R_below (by (with_reducible repeat (first | apply Kd.R_alloc | apply Kd.R_drewN | apply Kd.R_drew)); exact HO_3.out) hb); have n1_ := Aside0.mk (blk_below (g := gb119) (o := .cells #[.int .i64 a0_0, .int .u8 a0_1, .slice (some ad121) l0_2.length c0_2, .slice A0_3 l0_3.length c0_3, .int .u8 a0_4, .slice A0_5 l0_5.length c0_5, .bool a0_6] 37 (0, 0)) (by (with_reducible repeat (first | refine blk_drewN ?_ _ | refine blk_drew ?_ | refine blk_alloc ?_ _)); exact BK119.out) hb); have n2_ := Aside0.mk (below_step (by repeat (first | (with_reducible first | exact HB.out | apply below_alloc | apply pw_below_drewN | apply below_drew1 | refine below_set ?_ GE119.out) | exact HB.out)) hb); have n3_ := Aside0.mk (hbox); have n4_ := Aside0.mk ((by rw [hg]; exact (below_size (by repeat (first | (with_reducible first | exact HB.out | apply below_alloc | apply pw_below_drewN | apply below_drew1 | refine below_set ?_ GE119.out) | exact HB.out))) : w.heap.size ≤ gb122)); have n5_ := Aside0.mk ((by rw [hg]; exact (below_size (by repeat (first | (with_reducible first | exact HB.out | apply below_alloc | apply pw_below_drewN | apply below_drew1 | refine below_set ?_ GE119.out) | exact HB.out))) : w.heap.size ≤ gb122)); have n6_ := Aside0.mk ((by rw [hg]; exact Nat.ne_of_lt (blk_lt (g := gb119) (o := .cells #[.int .i64 a0_0, .int .u8 a0_1, .slice (some ad121) l0_2.length c0_2, .slice A0_3 l0_3.length c0_3, .int .u8 a0_4, .slice A0_5 l0_5.length c0_5, .bool a0_6] 37 (0, 0)) (by (with_reducible repeat (first | refine blk_drewN ?_ _ | refine blk_drew ?_ | refine blk_alloc ?_ _)); exact BK119.out)) : gb119 ≠ gb122)); have n7_ := Aside0.mk ((by rw [hg]; exact Nat.ne_of_gt (blk_lt (g := gb119) (o := .cells #[.int .i64 a0_0, .int .u8 a0_1, .slice (some ad121) l0_2.length c0_2, .slice A0_3 l0_3.length c0_3, .int .u8 a0_4, .slice A0_5 l0_5.length c0_5, .bool a0_6] 37 (0, 0)) (by (with_reducible repeat (first | refine blk_drewN ?_ _ | refine blk_drew ?_ | refine blk_alloc ?_ _)); exact BK119.out)) : gb122 ≠ gb119)); clear HO_3; clear BK119; clear HB; have HO_3 := n0_; have BK119 := n1_; have HB := n2_; have BK122 := n3_; have GW122 := n4_; have GE122 := n5_; have NB119_122 := n6_; have NB122_119 := n7_; clear n0_ n1_ n2_ n3_ n4_ n5_ n6_ n7_; clear hb hbox hg; have hnb13 := NB122_119.out; have hnc13 := NB119_122.out; have hcz14_0 : w12.cell? ⟨gb122, 0, none⟩ = some (.int .i64 0) := (blk_cell BK122.out 0).trans rfl; have hcz14_1 : w12.cell? ⟨gb122, 1, none⟩ = some (.bool false) := (blk_cell BK122.out 1).trans rfl; have hcz14_2 : w12.cell? ⟨gb122, 2, none⟩ = some (.bool false) := (blk_cell BK122.out 2).trans rfl; have hfz14_0 := blk_frozen BK122.out 0; have hfz14_1 := blk_frozen BK122.out 1; have hfz14_2 := blk_frozen BK122.out 2) | ((with_reducible refine gate_builtin (b := .append) (xs := #[.tmp 22, .tmp 24]) rfl ?_); at_builtin; refine Kd.R_append (Kd.int .i64) (w0 := w) w.heap.size rfl (.tmp 22) (.tmp 24) 22 2 (.int .i64 0) 8 rfl Tryz.underlying22 info2 rfl (by decide) (by omega) u3 x3_1 ((rd_T89 l0_2 x10_1).f0) [.int .i64 ((rd_T89 l0_2 x10_1).f0)] (fun _ => True) (fun _ => False) rfl (by first | (go_simp; done) | (go_simp; rfl)) ?aP (fun _ hk => hk.elim) ?aF ?aO ?aB ?aS ?aL ?_; (case aP => exact rfl); (case aB => exact (by repeat (first | (with_reducible first | exact HB.out | apply below_alloc | apply pw_below_drewN | apply below_drew1 | refine below_set ?_ GE119.out | refine below_set ?_ GE122.out) | exact HB.out))); (case aF => exact (fun _ _ => trivial)); (case aO => exact (by (with_reducible repeat (first | apply Kd.R_alloc | apply Kd.R_drewN | apply Kd.R_drew)); exact Kd.R_mono (Kd.R_far (p := ⟨gb122, 2, none⟩) (Kd.R_far (p := ⟨gb122, 1, none⟩) (Kd.R_far (p := ⟨gb122, 0, none⟩) (Kd.R_types HO_3.out BK122.out (by decide)) (fun _ hk => hk.2) (.int .i64 ((rd_T89 l0_2 x10_1).f0))) (fun _ hk => hk.2) (.bool false)) (fun _ hk => hk.2) (.bool false)) (fun _ hk => trivial))); (case aS => exact (below_size (by repeat (first | (with_reducible first | exact HB.out | apply below_alloc | apply pw_below_drewN | apply below_drew1 | refine below_set ?_ GE119.out | refine below_set ?_ GE122.out) | exact HB.out)))); (case aL => have := LMc11.out; omega); intro v124 w15 ho hb hg hat; rw [← Ny123.out] at ho; have n0_ := Aside0.mk (blk_grown (g := gb119) (o := .cells #[.int .i64 a0_0, .int .u8 a0_1, .slice (some ad121) l0_2.length c0_2, .slice A0_3 l0_3.length c0_3, .int .u8 a0_4, .slice A0_5 l0_5.length c0_5, .bool a0_6] 37 (0, 0)) (by (with_reducible repeat (first | refine blk_drewN ?_ _ | refine blk_drew ?_ | refine blk_alloc ?_ _)); refine blk_far ?_ NB119_122.out _; (with_reducible repeat (first | refine blk_drewN ?_ _ | refine blk_drew ?_ | refine blk_alloc ?_ _)); refine blk_far ?_ NB119_122.out _; (with_reducible repeat (first | refine blk_drewN ?_ _ | refine blk_drew ?_ | refine blk_alloc ?_ _)); refine blk_far ?_ NB119_122.out _; (with_reducible repeat (first | refine blk_drewN ?_ _ | refine blk_drew ?_ | refine blk_alloc ?_ _)); exact BK119.out) hg (Kd.R_ne HO_3.out BK119.out (by decide))); have n1_ := Aside0.mk (blk_grown (g := gb122) (o := .cells #[.int .i64 ((rd_T89 l0_2 x10_1).f0), .bool false, .bool false] 89 (0, 0)) (by (with_reducible repeat (first | refine blk_drewN ?_ _ | refine blk_drew ?_ | refine blk_alloc ?_ _)); refine blk_put (cs := #[.int .i64 ((rd_T89 l0_2 x10_1).f0), .bool false, .bool false]) ?_ 2 _ rfl; (with_reducible repeat (first | refine blk_drewN ?_ _ | refine blk_drew ?_ | refine blk_alloc ?_ _)); refine blk_put (cs := #[.int .i64 ((rd_T89 l0_2 x10_1).f0), .bool false, .bool false]) ?_ 1 _ rfl; (with_reducible repeat (first | refine blk_drewN ?_ _ | refine blk_drew ?_ | refine blk_alloc ?_ _)); refine blk_put (cs := #[.int .i64 0, .bool false, .bool false]) ?_ 0 _ rfl; (with_reducible repeat (first | refine blk_drewN ?_ _ | refine blk_drew ?_ | refine blk_alloc ?_ _)); exact BK122.out) hg (Kd.R_ne HO_3.out BK122.out (by decide))); have n2_ := Aside0.mk (hb); have n3_ := Aside0.mk (ho); clear BK119; clear BK122; clear HB; clear HO_3; have BK119 := n0_; have BK122 := n1_; have HB := n2_; have HO125 := n3_; clear n0_ n1_ n2_ n3_; clear ho hb hg hat))
                  go_roundg k1
                  case measure => have := HK1.out; omega
                  case rel => exact ⟨(y123), (wrap64 (x10_1 + 1)), (by first | rfl | (simp; done) | (simp [*]; done)), H', ⟨by have := HK1.out; omega⟩, ⟨by (with_reducible repeat (first | apply Kd.R_alloc | apply Kd.R_drewN | apply Kd.R_drew)); exact HO125.out⟩, ⟨by (with_reducible repeat (first | refine blk_drewN ?_ _ | refine blk_drew ?_ | refine blk_alloc ?_ _)); exact BK119.out⟩, ⟨by repeat (first | (with_reducible first | exact HB.out | apply below_alloc | apply pw_below_drewN | apply below_drew1 | refine below_set ?_ GE119.out | refine below_set ?_ GE122.out) | exact HB.out)⟩⟩
                · rw [if_neg c11] at H
                  exact absurd H (by simp)
          · rw [if_neg c6] at H
            exact absurd H (by simp)
        · rw [if_neg c5] at H
          exact absurd H (by simp)
      · rw [if_neg c4] at H
        have c4b0 : decide (x10_1 < (l0_2.length : Int)) = false := decide_eq_false c4
        clear c4
        by_cases c16 : (x3_1.length : Int) = 1
        · rw [if_pos c16] at H
          have c16b0 : ((x3_1.length : Int) == 1) = true := beq_iff_eq.mpr c16
          have c16b1 : ((x3_1.length : Int) != 1) = false := bne_eq_false_iff_eq.mpr c16
          clear c16
          by_cases c17 : 0 < (x3_1.length : Int)
          · rw [if_pos c17] at H
            have c17b0 : decide (0 < (x3_1.length : Int)) = true := decide_eq_true c17
            have c17b1 : decide (0 < x3_1.length) = true := decide_eq_true (by omega)
            clear c17
            by_cases c18 : (rd x3_1 0) = 2147483647
            · rw [if_pos c18] at H
              exact absurd H (by simp)
            · rw [if_neg c18] at H
              have c18b0 : ((rd x3_1 0) == 2147483647) = false := beq_eq_false_iff_ne.mpr c18
              have c18b1 : ((rd x3_1 0) != 2147483647) = true := bne_iff_ne.mpr c18
              obtain rfl := Option.some.inj H
              obtain ⟨Ao19, co19, eo19⟩ := Kd.R_slice HO_3.out
              subst eo19
              have p120 : 0 ≤ (0 : Int) := (by omega)
              have q120 : 0 < (x3_1.length : Int) := of_decide_eq_true (by first | (with_reducible assumption) | assumption)
              obtain ⟨ad120, e120, hx120_0⟩ := Kd.at_int (Kd.R_reads' HO_3.out).2.2 0 p120 q120
              cases e120
              have qi120 : (0 < x3_1.length) = True := eq_true (by omega)
              (try rw [show ((0 : Int)).toNat = 0 from rfl] at hx120_0)
              (try rw [Addr.add_zero'] at hx120_0)
              replace p120 := eq_true p120
              replace q120 := eq_true q120
              go_wp2
              go_ret
              exact ⟨_, by first | rfl | (simp [errW_none, errW_some] <;> rfl) | (simp [*, errW_none, errW_some] <;> rfl), by (with_reducible repeat (first | apply Kd.R_alloc | apply Kd.R_drewN | apply Kd.R_drew)); exact HO_3.out, by repeat (first | (with_reducible first | exact HB.out | apply below_alloc | apply pw_below_drewN | apply below_drew1 | refine below_set ?_ GE119.out) | exact HB.out)⟩
          · rw [if_neg c17] at H
            exact absurd H (by simp)
        · rw [if_neg c16] at H
          have c16b0 : ((x3_1.length : Int) == 1) = false := beq_eq_false_iff_ne.mpr c16
          have c16b1 : ((x3_1.length : Int) != 1) = true := bne_iff_ne.mpr c16
          obtain rfl := Option.some.inj H
          obtain ⟨Ao20, co20, eo20⟩ := Kd.R_slice HO_3.out
          subst eo20
          go_wp2
          go_ret
          exact ⟨_, by first | rfl | (simp [errW_none, errW_some] <;> rfl) | (simp [*, errW_none, errW_some] <;> rfl), by (with_reducible repeat (first | apply Kd.R_alloc | apply Kd.R_drewN | apply Kd.R_drew)); exact HO_3.out, by repeat (first | (with_reducible first | exact HB.out | apply below_alloc | apply pw_below_drewN | apply below_drew1 | refine below_set ?_ GE119.out) | exact HB.out)⟩

/-! ### spec_SameInts: function 30 -/
def spec_SameInts.l0 : Nat → List Int → List Int → Int → Int → Option (Bool)
  | 0, _, _, _, _ => none
  | k + 1, x0, x1, x12, x13 => if x13 < x12 then (if 0 ≤ x13 then (if x13 < (x0.length : Int) then (if x13 < (x1.length : Int) then (if (rd x0 x13) = (rd x1 x13) then (spec_SameInts.l0 k x0 x1 x12 (wrap64 (x13 + 1))) else (none)) else (none)) else (none)) else (none)) else (some true)
def spec_SameInts.f (k : Nat) (l0 : List Int) (l1 : List Int) : Option (Bool) := if (l0.length : Int) = (l1.length : Int) then (spec_SameInts.l0 k l0 l1 (l0.length : Int) 0) else (none)
theorem spec_SameInts.mono_l : ∀ k, (∀ y0 y1 y2 y3, LeO (spec_SameInts.l0 k y0 y1 y2 y3) (spec_SameInts.l0 (k + 1) y0 y1 y2 y3))
  | 0 => fun _ _ _ _ r h => by simp [spec_SameInts.l0] at h
  | k + 1 => by
    have ih0 := spec_SameInts.mono_l k
    · intro y0 y1 y2 y3
      unfold spec_SameInts.l0
      repeat' first
      | (with_reducible exact ih0 _ _ _ _)
      | (with_reducible exact LeO.refl _)
      | (with_reducible exact LeO.none _)
      | (with_reducible refine LeO.ite ?_ ?_)
      | (with_reducible refine LeO.bind ?_ (fun _ => ?_))
      | exact ih0 _ _ _ _
      | exact LeO.none _
      | refine LeO.ite ?_ ?_
      | refine LeO.bind ?_ (fun _ => ?_)
theorem spec_SameInts.mono : ∀ a0 a1 k, LeO (spec_SameInts.f k a0 a1) (spec_SameInts.f (k + 1) a0 a1) := by
  intro a0 a1 k
  have ih0 := spec_SameInts.mono_l k
  unfold spec_SameInts.f
  repeat' first
      | (with_reducible exact ih0 _ _ _ _)
      | (with_reducible exact LeO.refl _)
      | (with_reducible exact LeO.none _)
      | (with_reducible refine LeO.ite ?_ ?_)
      | (with_reducible refine LeO.bind ?_ (fun _ => ?_))
      | exact ih0 _ _ _ _
      | exact LeO.none _
      | refine LeO.ite ?_ ?_
      | refine LeO.bind ?_ (fun _ => ?_)
set_option maxHeartbeats 8000000 in
set_option maxRecDepth 100000 in
theorem spec_SameInts.calls (k : Nat) (A0 : Option Addr) (c0 : Nat) (l0 : List Int) (A1 : Option Addr) (c1 : Nat) (l1 : List Int) (r : Bool) (w : World) (hr0 : Kd.C (Kd.int .i64) w A0 l0.length l0) (hc0 : l0.length ≤ c0) (hr1 : Kd.C (Kd.int .i64) w A1 l1.length l1) (hc1 : l1.length ≤ c1) (h : spec_SameInts.f k l0 l1 = some r) :
    Calls Tryz.prog 30 #[.slice A0 l0.length c0, .slice A1 l1.length c1] w fun e w' => e = .returned (.bool r) ∧ Drawn0 w w' := by
  have HR0 := Aside0.mk hr0
  have HC0 := Aside0.mk hc0
  clear hr0 hc0
  have HR1 := Aside0.mk hr1
  have HC1 := Aside0.mk hc1
  clear hr1 hc1
  have H : (if (l0.length : Int) = (l1.length : Int) then (spec_SameInts.l0 k l0 l1 (l0.length : Int) 0) else (none)) = some r := h
  clear h
  by_cases c3 : (l0.length : Int) = (l1.length : Int)
  · rw [if_pos c3] at H
    have c3b0 : ((l0.length : Int) == (l1.length : Int)) = true := beq_iff_eq.mpr c3
    have c3b1 : ((l0.length : Int) != (l1.length : Int)) = false := bne_eq_false_iff_eq.mpr c3
    have c3b2 : (l0.length == l1.length) = true := by first | simpa using c3 | (simp at c3 ⊢; omega)
    clear c3
    have H' := Aside0.mk H
    clear H
    go_enter Tryz.func30, Tryz.ntmps30
    go_wp2
    repeat (go_quiet (fail); try go_wp2)
    go_loopg [13] k (fun kq v13 w' => ∃ (x13_1 : Int), v13 = .int .i64 x13_1 ∧ Aside0 (spec_SameInts.l0 kq l0 l1 (l0.length : Int) x13_1 = some r) ∧ Aside0 (kq ≤ k) ∧ Drawn0 w w')
    case atStart => exact ⟨(0), (by first | rfl | (simp; done) | (simp [*]; done)), H', ⟨Nat.le_refl _⟩, by repeat (first | exact Drawn0.refl _ | apply Drawn0.step)⟩
    case round =>
      clear H'
      try clear c1
      try clear p2
      try clear c3
      try clear c3b0
      try clear c3b1
      try clear c3b2
      obtain ⟨x13_1, rfl, HA, HK1, ⟨m1, rfl⟩⟩ := hrel
      cases gk with
      | zero => exact absurd HA.out (by simp [spec_SameInts.l0])
      | succ k1 =>
        have H := HA.out
        clear HA
        simp only [spec_SameInts.l0] at H
        by_cases c4 : x13_1 < (l0.length : Int)
        · rw [if_pos c4] at H
          have c4b0 : decide (x13_1 < (l0.length : Int)) = true := decide_eq_true c4
          clear c4
          by_cases c5 : 0 ≤ x13_1
          · rw [if_pos c5] at H
            have c5b0 : decide (0 ≤ x13_1) = true := decide_eq_true c5
            clear c5
            by_cases c6 : x13_1 < (l0.length : Int)
            · rw [if_pos c6] at H
              have c6b0 : decide (x13_1 < (l0.length : Int)) = true := decide_eq_true c6
              clear c6
              by_cases c7 : x13_1 < (l1.length : Int)
              · rw [if_pos c7] at H
                have c7b0 : decide (x13_1 < (l1.length : Int)) = true := decide_eq_true c7
                clear c7
                by_cases c8 : (rd l0 x13_1) = (rd l1 x13_1)
                · rw [if_pos c8] at H
                  have c8b0 : ((rd l0 x13_1) == (rd l1 x13_1)) = true := beq_iff_eq.mpr c8
                  have c8b1 : ((rd l0 x13_1) != (rd l1 x13_1)) = false := bne_eq_false_iff_eq.mpr c8
                  clear c8
                  have H' := Aside0.mk H
                  clear H
                  have p134 : 0 ≤ (x13_1 : Int) := of_decide_eq_true (by first | (with_reducible assumption) | assumption)
                  have q134 : x13_1 < (l0.length : Int) := of_decide_eq_true (by first | (with_reducible assumption) | assumption)
                  obtain ⟨ad134, e134, hx134_0⟩ := Kd.at_int HR0.out x13_1 p134 q134
                  cases e134
                  replace p134 := eq_true p134
                  replace q134 := eq_true q134
                  have p135 : 0 ≤ (x13_1 : Int) := of_decide_eq_true (by first | (with_reducible assumption) | assumption)
                  have q135 : x13_1 < (l1.length : Int) := of_decide_eq_true (by first | (with_reducible assumption) | assumption)
                  obtain ⟨ad135, e135, hx135_0⟩ := Kd.at_int HR1.out x13_1 p135 q135
                  cases e135
                  replace p135 := eq_true p135
                  replace q135 := eq_true q135
                  go_wp2
                  repeat (go_quiet (fail); try go_wp2)
                  go_roundg k1
                  case measure => have := HK1.out; omega
                  case rel => exact ⟨(wrap64 (x13_1 + 1)), (by first | rfl | (simp; done) | (simp [*]; done)), H', ⟨by have := HK1.out; omega⟩, by repeat (first | exact Drawn0.refl _ | apply Drawn0.step)⟩
                · rw [if_neg c8] at H
                  exact absurd H (by simp)
              · rw [if_neg c7] at H
                exact absurd H (by simp)
            · rw [if_neg c6] at H
              exact absurd H (by simp)
          · rw [if_neg c5] at H
            exact absurd H (by simp)
        · rw [if_neg c4] at H
          have c4b0 : decide (x13_1 < (l0.length : Int)) = false := decide_eq_false c4
          clear c4
          obtain rfl := Option.some.inj H
          go_wp2
          repeat (go_quiet (fail); try go_wp2)
          go_ret
          exact ⟨by first | rfl | (simp; done) | (simp [*]; done), by repeat (first | exact Drawn0.refl _ | apply Drawn0.step)⟩
  · rw [if_neg c3] at H
    exact absurd H (by simp)

/-! ### spec_SameBytes: function 31 -/
def spec_SameBytes.l0 : Nat → List Int → List Int → Int → Int → Option (Bool)
  | 0, _, _, _, _ => none
  | k + 1, x0, x1, x12, x13 => if x13 < x12 then (if 0 ≤ x13 then (if x13 < (x0.length : Int) then (if x13 < (x1.length : Int) then (if (rd x0 x13) = (rd x1 x13) then (spec_SameBytes.l0 k x0 x1 x12 (wrap64 (x13 + 1))) else (none)) else (none)) else (none)) else (none)) else (some true)
def spec_SameBytes.f (k : Nat) (l0 : List Int) (l1 : List Int) : Option (Bool) := if (l0.length : Int) = (l1.length : Int) then (spec_SameBytes.l0 k l0 l1 (l0.length : Int) 0) else (none)
theorem spec_SameBytes.mono_l : ∀ k, (∀ y0 y1 y2 y3, LeO (spec_SameBytes.l0 k y0 y1 y2 y3) (spec_SameBytes.l0 (k + 1) y0 y1 y2 y3))
  | 0 => fun _ _ _ _ r h => by simp [spec_SameBytes.l0] at h
  | k + 1 => by
    have ih0 := spec_SameBytes.mono_l k
    · intro y0 y1 y2 y3
      unfold spec_SameBytes.l0
      repeat' first
      | (with_reducible exact ih0 _ _ _ _)
      | (with_reducible exact LeO.refl _)
      | (with_reducible exact LeO.none _)
      | (with_reducible refine LeO.ite ?_ ?_)
      | (with_reducible refine LeO.bind ?_ (fun _ => ?_))
      | exact ih0 _ _ _ _
      | exact LeO.none _
      | refine LeO.ite ?_ ?_
      | refine LeO.bind ?_ (fun _ => ?_)
theorem spec_SameBytes.mono : ∀ a0 a1 k, LeO (spec_SameBytes.f k a0 a1) (spec_SameBytes.f (k + 1) a0 a1) := by
  intro a0 a1 k
  have ih0 := spec_SameBytes.mono_l k
  unfold spec_SameBytes.f
  repeat' first
      | (with_reducible exact ih0 _ _ _ _)
      | (with_reducible exact LeO.refl _)
      | (with_reducible exact LeO.none _)
      | (with_reducible refine LeO.ite ?_ ?_)
      | (with_reducible refine LeO.bind ?_ (fun _ => ?_))
      | exact ih0 _ _ _ _
      | exact LeO.none _
      | refine LeO.ite ?_ ?_
      | refine LeO.bind ?_ (fun _ => ?_)
set_option maxHeartbeats 8000000 in
set_option maxRecDepth 100000 in
theorem spec_SameBytes.calls (k : Nat) (A0 : Option Addr) (c0 : Nat) (l0 : List Int) (A1 : Option Addr) (c1 : Nat) (l1 : List Int) (r : Bool) (w : World) (hr0 : Kd.C (Kd.int .u8) w A0 l0.length l0) (hc0 : l0.length ≤ c0) (hr1 : Kd.C (Kd.int .u8) w A1 l1.length l1) (hc1 : l1.length ≤ c1) (h : spec_SameBytes.f k l0 l1 = some r) :
    Calls Tryz.prog 31 #[.slice A0 l0.length c0, .slice A1 l1.length c1] w fun e w' => e = .returned (.bool r) ∧ Drawn0 w w' := by
  have HR0 := Aside0.mk hr0
  have HC0 := Aside0.mk hc0
  clear hr0 hc0
  have HR1 := Aside0.mk hr1
  have HC1 := Aside0.mk hc1
  clear hr1 hc1
  have H : (if (l0.length : Int) = (l1.length : Int) then (spec_SameBytes.l0 k l0 l1 (l0.length : Int) 0) else (none)) = some r := h
  clear h
  by_cases c3 : (l0.length : Int) = (l1.length : Int)
  · rw [if_pos c3] at H
    have c3b0 : ((l0.length : Int) == (l1.length : Int)) = true := beq_iff_eq.mpr c3
    have c3b1 : ((l0.length : Int) != (l1.length : Int)) = false := bne_eq_false_iff_eq.mpr c3
    have c3b2 : (l0.length == l1.length) = true := by first | simpa using c3 | (simp at c3 ⊢; omega)
    clear c3
    have H' := Aside0.mk H
    clear H
    go_enter Tryz.func31, Tryz.ntmps31
    go_wp2
    repeat (go_quiet (fail); try go_wp2)
    go_loopg [13] k (fun kq v13 w' => ∃ (x13_1 : Int), v13 = .int .i64 x13_1 ∧ Aside0 (spec_SameBytes.l0 kq l0 l1 (l0.length : Int) x13_1 = some r) ∧ Aside0 (kq ≤ k) ∧ Drawn0 w w')
    case atStart => exact ⟨(0), (by first | rfl | (simp; done) | (simp [*]; done)), H', ⟨Nat.le_refl _⟩, by repeat (first | exact Drawn0.refl _ | apply Drawn0.step)⟩
    case round =>
      clear H'
      try clear c1
      try clear p2
      try clear c3
      try clear c3b0
      try clear c3b1
      try clear c3b2
      obtain ⟨x13_1, rfl, HA, HK1, ⟨m1, rfl⟩⟩ := hrel
      cases gk with
      | zero => exact absurd HA.out (by simp [spec_SameBytes.l0])
      | succ k1 =>
        have H := HA.out
        clear HA
        simp only [spec_SameBytes.l0] at H
        by_cases c4 : x13_1 < (l0.length : Int)
        · rw [if_pos c4] at H
          have c4b0 : decide (x13_1 < (l0.length : Int)) = true := decide_eq_true c4
          clear c4
          by_cases c5 : 0 ≤ x13_1
          · rw [if_pos c5] at H
            have c5b0 : decide (0 ≤ x13_1) = true := decide_eq_true c5
            clear c5
            by_cases c6 : x13_1 < (l0.length : Int)
            · rw [if_pos c6] at H
              have c6b0 : decide (x13_1 < (l0.length : Int)) = true := decide_eq_true c6
              clear c6
              by_cases c7 : x13_1 < (l1.length : Int)
              · rw [if_pos c7] at H
                have c7b0 : decide (x13_1 < (l1.length : Int)) = true := decide_eq_true c7
                clear c7
                by_cases c8 : (rd l0 x13_1) = (rd l1 x13_1)
                · rw [if_pos c8] at H
                  have c8b0 : ((rd l0 x13_1) == (rd l1 x13_1)) = true := beq_iff_eq.mpr c8
                  have c8b1 : ((rd l0 x13_1) != (rd l1 x13_1)) = false := bne_eq_false_iff_eq.mpr c8
                  clear c8
                  have H' := Aside0.mk H
                  clear H
                  have p136 : 0 ≤ (x13_1 : Int) := of_decide_eq_true (by first | (with_reducible assumption) | assumption)
                  have q136 : x13_1 < (l0.length : Int) := of_decide_eq_true (by first | (with_reducible assumption) | assumption)
                  obtain ⟨ad136, e136, hx136_0⟩ := Kd.at_int HR0.out x13_1 p136 q136
                  cases e136
                  replace p136 := eq_true p136
                  replace q136 := eq_true q136
                  have p137 : 0 ≤ (x13_1 : Int) := of_decide_eq_true (by first | (with_reducible assumption) | assumption)
                  have q137 : x13_1 < (l1.length : Int) := of_decide_eq_true (by first | (with_reducible assumption) | assumption)
                  obtain ⟨ad137, e137, hx137_0⟩ := Kd.at_int HR1.out x13_1 p137 q137
                  cases e137
                  replace p137 := eq_true p137
                  replace q137 := eq_true q137
                  go_wp2
                  repeat (go_quiet (fail); try go_wp2)
                  go_roundg k1
                  case measure => have := HK1.out; omega
                  case rel => exact ⟨(wrap64 (x13_1 + 1)), (by first | rfl | (simp; done) | (simp [*]; done)), H', ⟨by have := HK1.out; omega⟩, by repeat (first | exact Drawn0.refl _ | apply Drawn0.step)⟩
                · rw [if_neg c8] at H
                  exact absurd H (by simp)
              · rw [if_neg c7] at H
                exact absurd H (by simp)
            · rw [if_neg c6] at H
              exact absurd H (by simp)
          · rw [if_neg c5] at H
            exact absurd H (by simp)
        · rw [if_neg c4] at H
          have c4b0 : decide (x13_1 < (l0.length : Int)) = false := decide_eq_false c4
          clear c4
          obtain rfl := Option.some.inj H
          go_wp2
          repeat (go_quiet (fail); try go_wp2)
          go_ret
          exact ⟨by first | rfl | (simp; done) | (simp [*]; done), by repeat (first | exact Drawn0.refl _ | apply Drawn0.step)⟩
  · rw [if_neg c3] at H
    exact absurd H (by simp)

/-! ### laws_asEvents: function 11 -/
def laws_asEvents.l0 : Nat → List (S39) → List (S77) → Int → Int → Option ((List (S39)))
  | 0, _, _, _, _ => none
  | k + 1, x3, x6, x7, x8 => if x8 < x7 then (if 0 ≤ x8 then (if x8 < (x6.length : Int) then (if x3.length < 1759218604441 then (laws_asEvents.l0 k (x3 ++ [(⟨(rd_T77 x6 x8).f0, (rd_T77 x6 x8).f1, (rd_T77 x6 x8).f2, (rd_T77 x6 x8).f3, (rd_T77 x6 x8).f4, (rd_T77 x6 x8).f5⟩ : S39)]) x6 x7 (wrap64 (x8 + 1))) else (none)) else (none)) else (none)) else (some x3)
def laws_asEvents.f (k : Nat) (l0 : List (S77)) : Option ((List (S39))) := laws_asEvents.l0 k ([] : List (S39)) l0 (l0.length : Int) 0
theorem laws_asEvents.mono_l : ∀ k, (∀ y0 y1 y2 y3, LeO (laws_asEvents.l0 k y0 y1 y2 y3) (laws_asEvents.l0 (k + 1) y0 y1 y2 y3))
  | 0 => fun _ _ _ _ r h => by simp [laws_asEvents.l0] at h
  | k + 1 => by
    have ih0 := laws_asEvents.mono_l k
    · intro y0 y1 y2 y3
      unfold laws_asEvents.l0
      repeat' first
      | (with_reducible exact ih0 _ _ _ _)
      | (with_reducible exact LeO.refl _)
      | (with_reducible exact LeO.none _)
      | (with_reducible refine LeO.ite ?_ ?_)
      | (with_reducible refine LeO.bind ?_ (fun _ => ?_))
      | exact ih0 _ _ _ _
      | exact LeO.none _
      | refine LeO.ite ?_ ?_
      | refine LeO.bind ?_ (fun _ => ?_)
theorem laws_asEvents.mono : ∀ a0 k, LeO (laws_asEvents.f k a0) (laws_asEvents.f (k + 1) a0) := by
  intro a0 k
  have ih0 := laws_asEvents.mono_l k
  unfold laws_asEvents.f
  repeat' first
      | (with_reducible exact ih0 _ _ _ _)
      | (with_reducible exact LeO.refl _)
      | (with_reducible exact LeO.none _)
      | (with_reducible refine LeO.ite ?_ ?_)
      | (with_reducible refine LeO.bind ?_ (fun _ => ?_))
      | exact ih0 _ _ _ _
      | exact LeO.none _
      | refine LeO.ite ?_ ?_
      | refine LeO.bind ?_ (fun _ => ?_)
set_option maxHeartbeats 8000000 in
set_option maxRecDepth 100000 in
theorem laws_asEvents.calls (k : Nat) (P0_ : Nat → Prop) (A0 : Option Addr) (c0 : Nat) (l0 : List (S77)) (r : List (S39)) (w : World) (hs0 : Kd.V k77 77 w w.heap.size (fun k_ => P0_ k_) (.slice A0 l0.length c0) l0) (h : laws_asEvents.f k l0 = some r) :
    Calls Tryz.prog 11 #[.slice A0 l0.length c0] w fun e w' => ∃ v0_ : Value, e = .returned (v0_) ∧ Kd.N k39 39 w' w.heap.size (fun k_ => (P0_ k_ ∨ w.heap.size ≤ k_)) v0_ r ∧ Below w.heap.size w w' := by
  have hu77 := Tryz.underlying77
  have HO0 := Aside0.mk (show Kd.V k77 77 w w.heap.size (fun k_ => (P0_ k_ ∨ w.heap.size ≤ k_)) (.slice A0 l0.length c0) l0 from Kd.V_mono hs0 (fun k_ hk => .inl hk))
  have HB := Aside0.mk (Below.refl w.heap.size w)
  have H : (laws_asEvents.l0 k ([] : List (S39)) l0 (l0.length : Int) 0) = some r := h
  clear h
  have H' := Aside0.mk H
  clear H
  go_enter Tryz.func11, Tryz.ntmps11
  go_wp2
  go_loopg [3, 8] k (fun kq v3 v8 w' => ∃ (x3_1 : List (S39)) (x8_1 : Int), v8 = .int .i64 x8_1 ∧ Aside0 (laws_asEvents.l0 kq x3_1 l0 (l0.length : Int) x8_1 = some r) ∧ Aside0 (kq ≤ k) ∧ Aside0 (Kd.N k39 39 w' w.heap.size (fun k_ => (P0_ k_ ∨ w.heap.size ≤ k_)) v3 x3_1) ∧ Aside0 (Kd.V k77 77 w' w.heap.size (fun k_ => (P0_ k_ ∨ w.heap.size ≤ k_) ∧ some k_ ≠ (v3 : Value).ownBlock) (.slice A0 l0.length c0) l0) ∧ Aside0 (Below w.heap.size w w'))
  case atStart => exact ⟨(([] : List (S39))), (0), (by first | rfl | (simp; done) | (simp [*]; done)), H', ⟨Nat.le_refl _⟩, ⟨by first | exact Kd.S_nil _ _ _ _ _ | exact Kd.N_nil _ _ _ _ _ | exact Kd.V_nil _ _ _ _ _ | exact Kd.Q_nil _ _ _ _ _ | exact Kd.R_nil _ _ _ _ _⟩, ⟨by (with_reducible repeat (first | apply Kd.V_alloc | apply Kd.V_drewN | apply Kd.V_drew)); exact Kd.V_mono HO0.out (fun _ hk => ⟨hk, (by simp [Value.ownBlock])⟩)⟩, ⟨by repeat (first | (with_reducible first | exact HB.out | apply below_alloc | apply pw_below_drewN | apply below_drew1) | exact HB.out)⟩⟩
  case round =>
    clear H'
    try clear c1
    obtain ⟨x3_1, x8_1, rfl, HA, HK1, HO_3, HO_6, HB⟩ := hrel
    cases gk with
    | zero => exact absurd HA.out (by simp [laws_asEvents.l0])
    | succ k1 =>
      have H := HA.out
      clear HA
      simp only [laws_asEvents.l0] at H
      by_cases c2 : x8_1 < (l0.length : Int)
      · rw [if_pos c2] at H
        have c2b0 : decide (x8_1 < (l0.length : Int)) = true := decide_eq_true c2
        clear c2
        by_cases c3 : 0 ≤ x8_1
        · rw [if_pos c3] at H
          have c3b0 : decide (0 ≤ x8_1) = true := decide_eq_true c3
          clear c3
          by_cases c4 : x8_1 < (l0.length : Int)
          · rw [if_pos c4] at H
            have c4b0 : decide (x8_1 < (l0.length : Int)) = true := decide_eq_true c4
            clear c4
            by_cases c5 : x3_1.length < 1759218604441
            · rw [if_pos c5] at H
              have LMc5 := Aside0.mk c5
              clear c5
              obtain ⟨y194, hy194⟩ : ∃ y_ : List (S39), y_ = (x3_1 ++ [(⟨(rd_T77 l0 x8_1).f0, (rd_T77 l0 x8_1).f1, (rd_T77 l0 x8_1).f2, (rd_T77 l0 x8_1).f3, (rd_T77 l0 x8_1).f4, (rd_T77 l0 x8_1).f5⟩ : S39)]) := ⟨_, rfl⟩
              replace H : (laws_asEvents.l0 k1 y194 l0 (l0.length : Int) (wrap64 (x8_1 + 1))) = some r := by first | (rw [hy194]; with_reducible exact H) | (have H2_ := (Option.bind_some _ _).symm.trans H; rw [hy194]; with_reducible exact H2_) | (have H2_ := (Option.bind_some _ _).symm.trans H; with_reducible exact H2_) | with_reducible exact H | (rw [hy194]; exact H) | exact H
              have Ny194 := Aside0.mk hy194
              clear hy194
              have H' := Aside0.mk H
              clear H
              have p192 : 0 ≤ (x8_1 : Int) := of_decide_eq_true (by first | (with_reducible assumption) | assumption)
              have q192 : x8_1 < (l0.length : Int) := of_decide_eq_true (by first | (with_reducible assumption) | assumption)
              obtain ⟨ad192, A192_4, c192_4, A192_5, c192_5, e192, hx192_0, hx192_1, hx192_2, hx192_3, hx192_4, hx192_5, hl192_4, hi192_4, hl192_5, hi192_5⟩ := at_T77 (Kd.V_reads' HO_6.out).2.2 x8_1 p192 q192
              cases e192
              obtain ⟨ce192, hce192, hMe192, hcc192⟩ := Kd.V_get HO_6.out z77 x8_1 p192 (by first | exact q192 | exact of_decide_eq_true (by first | (with_reducible assumption) | assumption) | (have e_ := (Kd.V_reads' HO_6.out).1; omega))
              obtain ⟨ua192_4, uc192_4, ua192_5, uc192_5, rfl, ul192_4, ge192_4, ul192_5, ge192_5⟩ := k77_openF hMe192
              have hv192_4 := hcc192 4 _ rfl
              rw [add_field _ _ 4 (by omega)] at hv192_4
              replace hv192_4 := Option.some.inj (hv192_4.symm.trans hx192_4)
              injection hv192_4 with hva_ hvn_ hvc_
              rw [hva_] at ge192_4
              rw [hvc_] at ul192_4
              have HL192_4 := Aside0.mk (show Kd.V (Kd.int .i64) 2 _ w.heap.size _ _ ((rd_T77 l0 x8_1).f4) from Kd.V_mk ul192_4 ge192_4)
              clear hva_ hvn_ hvc_ ge192_4 ul192_4
              have hv192_5 := hcc192 5 _ rfl
              rw [add_field _ _ 5 (by omega)] at hv192_5
              replace hv192_5 := Option.some.inj (hv192_5.symm.trans hx192_5)
              injection hv192_5 with hva_ hvn_ hvc_
              rw [hva_] at ge192_5
              rw [hvc_] at ul192_5
              have HL192_5 := Aside0.mk (show Kd.V (Kd.int .u8) 5 _ w.heap.size _ _ ((rd_T77 l0 x8_1).f5) from Kd.V_mk ul192_5 ge192_5)
              clear hva_ hvn_ hvc_ ge192_5 ul192_5
              clear hcc192 hce192
              have HR192_4 := Aside0.mk hi192_4
              have HC192_4 := Aside0.mk hl192_4
              clear hi192_4 hl192_4
              have HR192_5 := Aside0.mk hi192_5
              have HC192_5 := Aside0.mk hl192_5
              clear hi192_5 hl192_5
              replace p192 := eq_true p192
              replace q192 := eq_true q192
              go_wp2_with (first | ((with_reducible refine gate_dst (N := 5) rfl ?_); refine box_event ?hg (N := 5) ?hd (cs := #[.int .i64 0, .int .i64 0, .int .u8 0, .int .i64 0, .slice none 0 0, .slice none 0 0]) (t := 77) ?hr ?_; (case hd => rfl); (case hg => rfl); (case hr => first | (go_simp; done) | (go_simp; rfl)); intro gb193 hg w6 hbox hb; have n0_ := Aside0.mk (Kd.N_below (Kd.N_elderB (by (with_reducible repeat (first | apply Kd.N_alloc | apply Kd.N_drewN | apply Kd.N_drew)); exact HO_3.out) gb193 (Nat.le_of_eq hg.symm)) hb); have n1_ := Aside0.mk (Kd.V_below (Kd.V_elderB (by (with_reducible repeat (first | apply Kd.V_alloc | apply Kd.V_drewN | apply Kd.V_drew)); exact HO_6.out) gb193 (Nat.le_of_eq hg.symm)) hb); have n2_ := Aside0.mk (Kd.V_below (Kd.V_elderB (by (with_reducible repeat (first | apply Kd.V_alloc | apply Kd.V_drewN | apply Kd.V_drew)); exact HL192_4.out) gb193 (Nat.le_of_eq hg.symm)) hb); have n3_ := Aside0.mk (Kd.V_below (Kd.V_elderB (by (with_reducible repeat (first | apply Kd.V_alloc | apply Kd.V_drewN | apply Kd.V_drew)); exact HL192_5.out) gb193 (Nat.le_of_eq hg.symm)) hb); have n4_ := Aside0.mk (Kd.C_below (by repeat (first | (with_reducible exact HR192_4.out) | (with_reducible refine Kd.C_alloc ?_ _) | (with_reducible refine Kd.C_drewN ?_ _) | (with_reducible refine Kd.C_drew ?_) | exact HR192_4.out)) hb); have n5_ := Aside0.mk (Kd.C_below (by repeat (first | (with_reducible exact HR192_5.out) | (with_reducible refine Kd.C_alloc ?_ _) | (with_reducible refine Kd.C_drewN ?_ _) | (with_reducible refine Kd.C_drew ?_) | exact HR192_5.out)) hb); have n6_ := Aside0.mk (below_step (by repeat (first | (with_reducible first | exact HB.out | apply below_alloc | apply pw_below_drewN | apply below_drew1) | exact HB.out)) hb); have n7_ := Aside0.mk (hbox); have n8_ := Aside0.mk ((by rw [hg]; exact (below_size (by repeat (first | (with_reducible first | exact HB.out | apply below_alloc | apply pw_below_drewN | apply below_drew1) | exact HB.out))) : w.heap.size ≤ gb193)); have n9_ := Aside0.mk ((by rw [hg]; exact (below_size (by repeat (first | (with_reducible first | exact HB.out | apply below_alloc | apply pw_below_drewN | apply below_drew1) | exact HB.out))) : w.heap.size ≤ gb193)); clear HO_3; clear HO_6; clear HL192_4; clear HL192_5; clear HR192_4; clear HR192_5; clear HB; have HO_3 := n0_; have HO_6 := n1_; have HL192_4 := n2_; have HL192_5 := n3_; have HR192_4 := n4_; have HR192_5 := n5_; have HB := n6_; have BK193 := n7_; have GW193 := n8_; have GE193 := n9_; clear n0_ n1_ n2_ n3_ n4_ n5_ n6_ n7_ n8_ n9_; clear hb hbox hg; have hcz7_0 : w6.cell? ⟨gb193, 0, none⟩ = some (.int .i64 0) := (blk_cell BK193.out 0).trans rfl; have hcz7_1 : w6.cell? ⟨gb193, 1, none⟩ = some (.int .i64 0) := (blk_cell BK193.out 1).trans rfl; have hcz7_2 : w6.cell? ⟨gb193, 2, none⟩ = some (.int .u8 0) := (blk_cell BK193.out 2).trans rfl; have hcz7_3 : w6.cell? ⟨gb193, 3, none⟩ = some (.int .i64 0) := (blk_cell BK193.out 3).trans rfl; have hcz7_4 : w6.cell? ⟨gb193, 4, none⟩ = some (.slice none 0 0) := (blk_cell BK193.out 4).trans rfl; have hcz7_5 : w6.cell? ⟨gb193, 5, none⟩ = some (.slice none 0 0) := (blk_cell BK193.out 5).trans rfl; have hfz7_0 := blk_frozen BK193.out 0; have hfz7_1 := blk_frozen BK193.out 1; have hfz7_2 := blk_frozen BK193.out 2; have hfz7_3 := blk_frozen BK193.out 3; have hfz7_4 := blk_frozen BK193.out 4; have hfz7_5 := blk_frozen BK193.out 5) | ((with_reducible refine gate_store (t := 77) (p := 5) rfl ?_); refine store_event (t := 77) (p := 5) (v := ?vo_w8) (w1 := ((((((w6.setCell ⟨gb193, 0, none⟩ (.int .i64 ((rd_T77 l0 x8_1).f0))).setCell ⟨gb193, 1, none⟩ (.int .i64 ((rd_T77 l0 x8_1).f1))).setCell ⟨gb193, 2, none⟩ (.int .u8 ((rd_T77 l0 x8_1).f2))).setCell ⟨gb193, 3, none⟩ (.int .i64 ((rd_T77 l0 x8_1).f3))).setCell ⟨gb193, 4, none⟩ (.slice A192_4 ((rd_T77 l0 x8_1).f4).length c192_4)).setCell ⟨gb193, 5, none⟩ (.slice A192_5 ((rd_T77 l0 x8_1).f5).length c192_5))) ?hg ?ho ?hn ?hr ?_; (case ho => rfl); (case hg => rfl); (case hn => rfl); (case hr => first | (go_simp; done) | (go_simp; rfl)); intro w8 hw; have n0_ : Aside0 (Kd.N k39 39 w8 w.heap.size (fun k_ => (P0_ k_ ∨ w.heap.size ≤ k_) ∧ k_ ≠ gb193) u3 x3_1) := ⟨(by rw [hw]; exact (by (with_reducible repeat (first | apply Kd.N_alloc | apply Kd.N_drewN | apply Kd.N_drew)); exact Kd.N_mono (Kd.N_far (p := ⟨gb193, 5, none⟩) (Kd.N_far (p := ⟨gb193, 4, none⟩) (Kd.N_far (p := ⟨gb193, 3, none⟩) (Kd.N_far (p := ⟨gb193, 2, none⟩) (Kd.N_far (p := ⟨gb193, 1, none⟩) (Kd.N_far (p := ⟨gb193, 0, none⟩) (Kd.N_mono HO_3.out (fun k_ hk => (⟨hk, hk.2⟩ : _ ∧ k_ ≠ gb193))) (fun _ hk => hk.2) (.int .i64 ((rd_T77 l0 x8_1).f0))) (fun _ hk => hk.2) (.int .i64 ((rd_T77 l0 x8_1).f1))) (fun _ hk => hk.2) (.int .u8 ((rd_T77 l0 x8_1).f2))) (fun _ hk => hk.2) (.int .i64 ((rd_T77 l0 x8_1).f3))) (fun _ hk => hk.2) (.slice A192_4 ((rd_T77 l0 x8_1).f4).length c192_4)) (fun _ hk => hk.2) (.slice A192_5 ((rd_T77 l0 x8_1).f5).length c192_5)) (fun _ hk => ⟨hk.1.1, hk.1.2⟩)))⟩; have n1_ : Aside0 (Kd.V k77 77 w8 w.heap.size (fun k_ => (P0_ k_ ∨ w.heap.size ≤ k_) ∧ some k_ ≠ (u3 : Value).ownBlock ∧ k_ ≠ gb193) (.slice (some ad192) l0.length c0) l0) := ⟨(by rw [hw]; exact (by (with_reducible repeat (first | apply Kd.V_alloc | apply Kd.V_drewN | apply Kd.V_drew)); exact Kd.V_mono (Kd.V_far (p := ⟨gb193, 5, none⟩) (Kd.V_far (p := ⟨gb193, 4, none⟩) (Kd.V_far (p := ⟨gb193, 3, none⟩) (Kd.V_far (p := ⟨gb193, 2, none⟩) (Kd.V_far (p := ⟨gb193, 1, none⟩) (Kd.V_far (p := ⟨gb193, 0, none⟩) (Kd.V_mono HO_6.out (fun k_ hk => (⟨hk, hk.2⟩ : _ ∧ k_ ≠ gb193))) (fun _ hk => hk.2) (.int .i64 ((rd_T77 l0 x8_1).f0))) (fun _ hk => hk.2) (.int .i64 ((rd_T77 l0 x8_1).f1))) (fun _ hk => hk.2) (.int .u8 ((rd_T77 l0 x8_1).f2))) (fun _ hk => hk.2) (.int .i64 ((rd_T77 l0 x8_1).f3))) (fun _ hk => hk.2) (.slice A192_4 ((rd_T77 l0 x8_1).f4).length c192_4)) (fun _ hk => hk.2) (.slice A192_5 ((rd_T77 l0 x8_1).f5).length c192_5)) (fun _ hk => ⟨hk.1.1.1, ⟨hk.1.1.2, hk.1.2⟩⟩)))⟩; have n2_ : Aside0 (Kd.V (Kd.int .i64) 2 w8 w.heap.size (fun k_ => (P0_ k_ ∨ w.heap.size ≤ k_) ∧ some k_ ≠ (u3 : Value).ownBlock ∧ k_ ≠ gb193) (.slice A192_4 ((rd_T77 l0 x8_1).f4).length c192_4) ((rd_T77 l0 x8_1).f4)) := ⟨(by rw [hw]; exact (by (with_reducible repeat (first | apply Kd.V_alloc | apply Kd.V_drewN | apply Kd.V_drew)); exact Kd.V_mono (Kd.V_far (p := ⟨gb193, 5, none⟩) (Kd.V_far (p := ⟨gb193, 4, none⟩) (Kd.V_far (p := ⟨gb193, 3, none⟩) (Kd.V_far (p := ⟨gb193, 2, none⟩) (Kd.V_far (p := ⟨gb193, 1, none⟩) (Kd.V_far (p := ⟨gb193, 0, none⟩) (Kd.V_mono HL192_4.out (fun k_ hk => (⟨hk, hk.2⟩ : _ ∧ k_ ≠ gb193))) (fun _ hk => hk.2) (.int .i64 ((rd_T77 l0 x8_1).f0))) (fun _ hk => hk.2) (.int .i64 ((rd_T77 l0 x8_1).f1))) (fun _ hk => hk.2) (.int .u8 ((rd_T77 l0 x8_1).f2))) (fun _ hk => hk.2) (.int .i64 ((rd_T77 l0 x8_1).f3))) (fun _ hk => hk.2) (.slice A192_4 ((rd_T77 l0 x8_1).f4).length c192_4)) (fun _ hk => hk.2) (.slice A192_5 ((rd_T77 l0 x8_1).f5).length c192_5)) (fun _ hk => ⟨hk.1.1.1, ⟨hk.1.1.2, hk.1.2⟩⟩)))⟩; have n3_ : Aside0 (Kd.V (Kd.int .u8) 5 w8 w.heap.size (fun k_ => (P0_ k_ ∨ w.heap.size ≤ k_) ∧ some k_ ≠ (u3 : Value).ownBlock ∧ k_ ≠ gb193) (.slice A192_5 ((rd_T77 l0 x8_1).f5).length c192_5) ((rd_T77 l0 x8_1).f5)) := ⟨(by rw [hw]; exact (by (with_reducible repeat (first | apply Kd.V_alloc | apply Kd.V_drewN | apply Kd.V_drew)); exact Kd.V_mono (Kd.V_far (p := ⟨gb193, 5, none⟩) (Kd.V_far (p := ⟨gb193, 4, none⟩) (Kd.V_far (p := ⟨gb193, 3, none⟩) (Kd.V_far (p := ⟨gb193, 2, none⟩) (Kd.V_far (p := ⟨gb193, 1, none⟩) (Kd.V_far (p := ⟨gb193, 0, none⟩) (Kd.V_mono HL192_5.out (fun k_ hk => (⟨hk, hk.2⟩ : _ ∧ k_ ≠ gb193))) (fun _ hk => hk.2) (.int .i64 ((rd_T77 l0 x8_1).f0))) (fun _ hk => hk.2) (.int .i64 ((rd_T77 l0 x8_1).f1))) (fun _ hk => hk.2) (.int .u8 ((rd_T77 l0 x8_1).f2))) (fun _ hk => hk.2) (.int .i64 ((rd_T77 l0 x8_1).f3))) (fun _ hk => hk.2) (.slice A192_4 ((rd_T77 l0 x8_1).f4).length c192_4)) (fun _ hk => hk.2) (.slice A192_5 ((rd_T77 l0 x8_1).f5).length c192_5)) (fun _ hk => ⟨hk.1.1.1, ⟨hk.1.1.2, hk.1.2⟩⟩)))⟩; have n4_ : Aside0 (w8.heap[gb193]? = some (.cells #[.int .i64 ((rd_T77 l0 x8_1).f0), .int .i64 ((rd_T77 l0 x8_1).f1), .int .u8 ((rd_T77 l0 x8_1).f2), .int .i64 ((rd_T77 l0 x8_1).f3), .slice A192_4 ((rd_T77 l0 x8_1).f4).length c192_4, .slice A192_5 ((rd_T77 l0 x8_1).f5).length c192_5] 77 (0, 0))) := ⟨(by rw [hw]; exact (by (with_reducible repeat (first | refine blk_drewN ?_ _ | refine blk_drew ?_ | refine blk_alloc ?_ _)); refine blk_put (cs := #[.int .i64 ((rd_T77 l0 x8_1).f0), .int .i64 ((rd_T77 l0 x8_1).f1), .int .u8 ((rd_T77 l0 x8_1).f2), .int .i64 ((rd_T77 l0 x8_1).f3), .slice A192_4 ((rd_T77 l0 x8_1).f4).length c192_4, .slice none 0 0]) ?_ 5 _ rfl; (with_reducible repeat (first | refine blk_drewN ?_ _ | refine blk_drew ?_ | refine blk_alloc ?_ _)); refine blk_put (cs := #[.int .i64 ((rd_T77 l0 x8_1).f0), .int .i64 ((rd_T77 l0 x8_1).f1), .int .u8 ((rd_T77 l0 x8_1).f2), .int .i64 ((rd_T77 l0 x8_1).f3), .slice none 0 0, .slice none 0 0]) ?_ 4 _ rfl; (with_reducible repeat (first | refine blk_drewN ?_ _ | refine blk_drew ?_ | refine blk_alloc ?_ _)); refine blk_put (cs := #[.int .i64 ((rd_T77 l0 x8_1).f0), .int .i64 ((rd_T77 l0 x8_1).f1), .int .u8 ((rd_T77 l0 x8_1).f2), .int .i64 0, .slice none 0 0, .slice none 0 0]) ?_ 3 _ rfl; (with_reducible repeat (first | refine blk_drewN ?_ _ | refine blk_drew ?_ | refine blk_alloc ?_ _)); refine blk_put (cs := #[.int .i64 ((rd_T77 l0 x8_1).f0), .int .i64 ((rd_T77 l0 x8_1).f1), .int .u8 0, .int .i64 0, .slice none 0 0, .slice none 0 0]) ?_ 2 _ rfl; (with_reducible repeat (first | refine blk_drewN ?_ _ | refine blk_drew ?_ | refine blk_alloc ?_ _)); refine blk_put (cs := #[.int .i64 ((rd_T77 l0 x8_1).f0), .int .i64 0, .int .u8 0, .int .i64 0, .slice none 0 0, .slice none 0 0]) ?_ 1 _ rfl; (with_reducible repeat (first | refine blk_drewN ?_ _ | refine blk_drew ?_ | refine blk_alloc ?_ _)); refine blk_put (cs := #[.int .i64 0, .int .i64 0, .int .u8 0, .int .i64 0, .slice none 0 0, .slice none 0 0]) ?_ 0 _ rfl; (with_reducible repeat (first | refine blk_drewN ?_ _ | refine blk_drew ?_ | refine blk_alloc ?_ _)); exact BK193.out))⟩; have n5_ : Aside0 (Below w.heap.size w w8) := ⟨(by rw [hw]; exact (by repeat (first | (with_reducible first | exact HB.out | apply below_alloc | apply pw_below_drewN | apply below_drew1 | refine below_set ?_ GE193.out) | exact HB.out)))⟩; clear hw; clear HO_3; clear HO_6; clear HL192_4; clear HL192_5; clear BK193; clear HB; have HO_3 := n0_; have HO_6 := n1_; have HL192_4 := n2_; have HL192_5 := n3_; have BK193 := n4_; have HB := n5_; clear n0_ n1_ n2_ n3_ n4_ n5_; have hcz9_0 : w8.cell? ⟨gb193, 0, none⟩ = some (.int .i64 ((rd_T77 l0 x8_1).f0)) := (blk_cell BK193.out 0).trans rfl; have hcz9_1 : w8.cell? ⟨gb193, 1, none⟩ = some (.int .i64 ((rd_T77 l0 x8_1).f1)) := (blk_cell BK193.out 1).trans rfl; have hcz9_2 : w8.cell? ⟨gb193, 2, none⟩ = some (.int .u8 ((rd_T77 l0 x8_1).f2)) := (blk_cell BK193.out 2).trans rfl; have hcz9_3 : w8.cell? ⟨gb193, 3, none⟩ = some (.int .i64 ((rd_T77 l0 x8_1).f3)) := (blk_cell BK193.out 3).trans rfl; have hcz9_4 : w8.cell? ⟨gb193, 4, none⟩ = some (.slice A192_4 ((rd_T77 l0 x8_1).f4).length c192_4) := (blk_cell BK193.out 4).trans rfl; have hcz9_5 : w8.cell? ⟨gb193, 5, none⟩ = some (.slice A192_5 ((rd_T77 l0 x8_1).f5).length c192_5) := (blk_cell BK193.out 5).trans rfl; have hfz9_0 := blk_frozen BK193.out 0; have hfz9_1 := blk_frozen BK193.out 1; have hfz9_2 := blk_frozen BK193.out 2; have hfz9_3 := blk_frozen BK193.out 3; have hfz9_4 := blk_frozen BK193.out 4; have hfz9_5 := blk_frozen BK193.out 5) | ((with_reducible refine gate_builtin (b := .append) (xs := #[.tmp 12, .tmp 14]) rfl ?_); at_builtin; refine Kd.N_append k39 (w0 := w) w.heap.size rfl (.tmp 12) (.tmp 14) 32 39 (.agg #[(.int .i64 0), (.int .i64 0), (.int .u8 0), (.int .i64 0), (.slice none 0 0), (.slice none 0 0)]) 80 rfl Tryz.underlying32 info39 rfl (by decide) (by omega) u3 x3_1 (⟨(rd_T77 l0 x8_1).f0, (rd_T77 l0 x8_1).f1, (rd_T77 l0 x8_1).f2, (rd_T77 l0 x8_1).f3, (rd_T77 l0 x8_1).f4, (rd_T77 l0 x8_1).f5⟩ : S39) [.int .i64 ((rd_T77 l0 x8_1).f0), .int .i64 ((rd_T77 l0 x8_1).f1), .int .u8 ((rd_T77 l0 x8_1).f2), .int .i64 ((rd_T77 l0 x8_1).f3), .slice A192_4 ((rd_T77 l0 x8_1).f4).length c192_4, .slice A192_5 ((rd_T77 l0 x8_1).f5).length c192_5] (fun k_ => (P0_ k_ ∨ w.heap.size ≤ k_) ∧ k_ ≠ gb193) (fun k_ => ((fun k_ => (P0_ k_ ∨ w.heap.size ≤ k_) ∧ k_ ≠ gb193)) k_ ∧ some k_ ≠ (u3 : Value).ownBlock) rfl rfl ?aP (fun _ hk => hk) ?aF ?aO ?aB ?aS ?aL ?_; (case aP => exact (k39_mkF _ _ (⟨(rd_T77 l0 x8_1).f0, (rd_T77 l0 x8_1).f1, (rd_T77 l0 x8_1).f2, (rd_T77 l0 x8_1).f3, (rd_T77 l0 x8_1).f4, (rd_T77 l0 x8_1).f5⟩ : S39) (Kd.V_reads' (Kd.V_mono (ok' := (fun k_ => ((fun k_ => (P0_ k_ ∨ w.heap.size ≤ k_) ∧ k_ ≠ gb193)) k_ ∧ some k_ ≠ (u3 : Value).ownBlock)) (HL192_4.out) (fun k_ hk => ⟨⟨hk.1, hk.2.2⟩, hk.2.1⟩))).2.1 (Kd.V_F (Kd.V_mono (ok' := (fun k_ => ((fun k_ => (P0_ k_ ∨ w.heap.size ≤ k_) ∧ k_ ≠ gb193)) k_ ∧ some k_ ≠ (u3 : Value).ownBlock)) (HL192_4.out) (fun k_ hk => ⟨⟨hk.1, hk.2.2⟩, hk.2.1⟩))) (Kd.V_reads' (Kd.V_mono (ok' := (fun k_ => ((fun k_ => (P0_ k_ ∨ w.heap.size ≤ k_) ∧ k_ ≠ gb193)) k_ ∧ some k_ ≠ (u3 : Value).ownBlock)) (HL192_5.out) (fun k_ hk => ⟨⟨hk.1, hk.2.2⟩, hk.2.1⟩))).2.1 (Kd.V_F (Kd.V_mono (ok' := (fun k_ => ((fun k_ => (P0_ k_ ∨ w.heap.size ≤ k_) ∧ k_ ≠ gb193)) k_ ∧ some k_ ≠ (u3 : Value).ownBlock)) (HL192_5.out) (fun k_ hk => ⟨⟨hk.1, hk.2.2⟩, hk.2.1⟩))))); (case aB => exact (by repeat (first | (with_reducible first | exact HB.out | apply below_alloc | apply pw_below_drewN | apply below_drew1 | refine below_set ?_ GE193.out) | exact HB.out))); (case aF => exact (fun k_ hk => ⟨(.inr (Nat.le_trans (below_size (by repeat (first | (with_reducible first | exact HB.out | apply below_alloc | apply pw_below_drewN | apply below_drew1 | refine below_set ?_ GE193.out) | exact HB.out))) hk)), Kd.freshB (g := gb193) (o := .cells #[.int .i64 ((rd_T77 l0 x8_1).f0), .int .i64 ((rd_T77 l0 x8_1).f1), .int .u8 ((rd_T77 l0 x8_1).f2), .int .i64 ((rd_T77 l0 x8_1).f3), .slice A192_4 ((rd_T77 l0 x8_1).f4).length c192_4, .slice A192_5 ((rd_T77 l0 x8_1).f5).length c192_5] 77 (0, 0)) (by (with_reducible repeat (first | refine blk_drewN ?_ _ | refine blk_drew ?_ | refine blk_alloc ?_ _)); exact BK193.out) k_ hk⟩)); (case aO => exact (by (with_reducible repeat (first | apply Kd.N_alloc | apply Kd.N_drewN | apply Kd.N_drew)); exact HO_3.out)); (case aS => exact (below_size (by repeat (first | (with_reducible first | exact HB.out | apply below_alloc | apply pw_below_drewN | apply below_drew1 | refine below_set ?_ GE193.out) | exact HB.out)))); (case aL => have := LMc5.out; omega); intro v195 w10 ho hb hg hat; rw [← Ny194.out] at ho; have n0_ := Aside0.mk (Kd.V_afterv (ok := (fun k_ => (P0_ k_ ∨ w.heap.size ≤ k_) ∧ k_ ≠ gb193)) (by (with_reducible repeat (first | apply Kd.V_alloc | apply Kd.V_drewN | apply Kd.V_drew)); exact Kd.V_mono HO_6.out (fun _ hk => ⟨⟨hk.1, hk.2.2⟩, hk.2.1⟩)) hg hat); have n1_ := Aside0.mk (Kd.V_afterv (ok := (fun k_ => (P0_ k_ ∨ w.heap.size ≤ k_) ∧ k_ ≠ gb193)) (by (with_reducible repeat (first | apply Kd.V_alloc | apply Kd.V_drewN | apply Kd.V_drew)); exact Kd.V_mono HL192_4.out (fun _ hk => ⟨⟨hk.1, hk.2.2⟩, hk.2.1⟩)) hg hat); have n2_ := Aside0.mk (Kd.V_afterv (ok := (fun k_ => (P0_ k_ ∨ w.heap.size ≤ k_) ∧ k_ ≠ gb193)) (by (with_reducible repeat (first | apply Kd.V_alloc | apply Kd.V_drewN | apply Kd.V_drew)); exact Kd.V_mono HL192_5.out (fun _ hk => ⟨⟨hk.1, hk.2.2⟩, hk.2.1⟩)) hg hat); have n3_ := Aside0.mk (blk_grown (g := gb193) (o := .cells #[.int .i64 ((rd_T77 l0 x8_1).f0), .int .i64 ((rd_T77 l0 x8_1).f1), .int .u8 ((rd_T77 l0 x8_1).f2), .int .i64 ((rd_T77 l0 x8_1).f3), .slice A192_4 ((rd_T77 l0 x8_1).f4).length c192_4, .slice A192_5 ((rd_T77 l0 x8_1).f5).length c192_5] 77 (0, 0)) (by (with_reducible repeat (first | refine blk_drewN ?_ _ | refine blk_drew ?_ | refine blk_alloc ?_ _)); exact BK193.out) hg (Kd.N_ne HO_3.out BK193.out (by decide))); have n4_ := Aside0.mk (hb); have n5_ := Aside0.mk (ho); clear HO_6; clear HL192_4; clear HL192_5; clear BK193; clear HB; clear HO_3; have HO_6 := n0_; have HL192_4 := n1_; have HL192_5 := n2_; have BK193 := n3_; have HB := n4_; have HO196 := n5_; clear n0_ n1_ n2_ n3_ n4_ n5_; clear ho hb hg hat))
              go_roundg k1
              case measure => have := HK1.out; omega
              case rel => exact ⟨(y194), (wrap64 (x8_1 + 1)), (by first | rfl | (simp; done) | (simp [*]; done)), H', ⟨by have := HK1.out; omega⟩, ⟨by (with_reducible repeat (first | apply Kd.N_alloc | apply Kd.N_drewN | apply Kd.N_drew)); exact Kd.N_mono HO196.out (fun _ hk => hk.1)⟩, ⟨by (with_reducible repeat (first | apply Kd.V_alloc | apply Kd.V_drewN | apply Kd.V_drew)); exact Kd.V_mono HO_6.out (fun _ hk => ⟨hk.1.1, hk.2⟩)⟩, ⟨by repeat (first | (with_reducible first | exact HB.out | apply below_alloc | apply pw_below_drewN | apply below_drew1 | refine below_set ?_ GE193.out) | exact HB.out)⟩⟩
            · rw [if_neg c5] at H
              exact absurd H (by simp)
          · rw [if_neg c4] at H
            exact absurd H (by simp)
        · rw [if_neg c3] at H
          exact absurd H (by simp)
      · rw [if_neg c2] at H
        have c2b0 : decide (x8_1 < (l0.length : Int)) = false := decide_eq_false c2
        clear c2
        obtain rfl := Option.some.inj H
        go_wp2
        go_ret
        exact ⟨_, by first | rfl | (simp [errW_none, errW_some] <;> rfl) | (simp [*, errW_none, errW_some] <;> rfl), by (with_reducible repeat (first | apply Kd.N_alloc | apply Kd.N_drewN | apply Kd.N_drew)); exact HO_3.out, by repeat (first | (with_reducible first | exact HB.out | apply below_alloc | apply pw_below_drewN | apply below_drew1) | exact HB.out)⟩

end Go.Proofs.YtjdpkhnpgdangaaGreatDoor.PQ
