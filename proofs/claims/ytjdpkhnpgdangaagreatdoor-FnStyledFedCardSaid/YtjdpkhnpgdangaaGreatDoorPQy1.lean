/- Contracts of functions that the law FnStyledFed reaches (read and made memory as stated), for this claim alone; no condition but those stated. -/
import Derived.Test.YtjdpkhnpgdangaaGreatDoorPQx0
import Derived.Test.YtjdpkhnpgdangaaGreatDoorPQx3
namespace Go.Proofs.YtjdpkhnpgdangaaGreatDoor.PQ
open Go.RowKit Go.Proofs.YtjdpkhnpgdangaaGreatDoorW.PrintWords Go.Proofs.YtjdpkhnpgdangaaGreatDoorW.PrintLast Go.Proofs.YtjdpkhnpgdangaaGreatDoorW.PrintMore
attribute [local go_sem] max2_int min2_int max_two min_two max_three min_three max_four min_four   -- for this text's walks alone
set_option linter.unusedVariables false
set_option linter.unusedSimpArgs false

/-! ### spec_IsSequence: function 14 -/
mutual
def spec_IsSequence.l0 : Nat → List (S89) → Int → Int → Int → Int → List (S89) → List Int → Int → List Int → Bool → Option (Bool)
  | 0, _, _, _, _, _, _, _, _, _, _ => none
  | k + 1, x38, x39, x40, x110000, x110001, x110002, x110003, x110004, x110005, x110006 => if x40 < x39 then (if 0 ≤ x40 then (if x40 < (x38.length : Int) then (if ((rd_T89 x38 x40).f0) < 0 then (none) else (if ((rd_T89 x38 x40).f0) > 65535 then (none) else (if (rd_T89 x38 x40).f1 = true then (none) else (if (rd_T89 x38 x40).f2 = true then (none) else (spec_IsSequence.l0 k x38 x39 (wrap64 (x40 + 1)) x110000 x110001 x110002 x110003 x110004 x110005 x110006))))) else (none)) else (none)) else (spec_IsSequence.l1 k (x110003.length : Int) 0 x110000 x110001 x110002 x110003 x110004 x110005 x110006)
def spec_IsSequence.l1 : Nat → Int → Int → Int → Int → List (S89) → List Int → Int → List Int → Bool → Option (Bool)
  | 0, _, _, _, _, _, _, _, _, _ => none
  | k + 1, x77, x78, x110000, x110001, x110002, x110003, x110004, x110005, x110006 => if x78 < x77 then (none) else (spec_IsSequence.l2 k (x110005.length : Int) 0 x110000 x110001 x110002 x110003 x110004 x110005 x110006)
def spec_IsSequence.l2 : Nat → Int → Int → Int → Int → List (S89) → List Int → Int → List Int → Bool → Option (Bool)
  | 0, _, _, _, _, _, _, _, _, _ => none
  | k + 1, x88, x89, x110000, x110001, x110002, x110003, x110004, x110005, x110006 => if x89 < x88 then (none) else (if x110000 = 0 then (none) else (if x110000 = 1 then (if x110001 = 0 then ((spec_within.f x110004 64 126).bind fun t112 => (if t112 = true then (if x110006 = true then (none) else (if x110000 = 2 then (none) else (some ((x110005.length : Int) == 0)))) else (none))) else (none)) else (none)))
end
def spec_IsSequence.f (k : Nat) (a0_0 : Int) (a0_1 : Int) (l0_2 : List (S89)) (l0_3 : List Int) (a0_4 : Int) (l0_5 : List Int) (a0_6 : Bool) : Option (Bool) := if a0_0 < 0 then (none) else (if a0_0 > 6 then (none) else (if (l0_2.length : Int) > 20 then (none) else (if (l0_3.length : Int) > 3 then (none) else (if (l0_5.length : Int) > 60 then (none) else (spec_IsSequence.l0 k l0_2 (l0_2.length : Int) 0 a0_0 a0_1 l0_2 l0_3 a0_4 l0_5 a0_6)))))
theorem spec_IsSequence.mono_l : ∀ k, (∀ y0 y1 y2 y3 y4 y5 y6 y7 y8 y9, LeO (spec_IsSequence.l0 k y0 y1 y2 y3 y4 y5 y6 y7 y8 y9) (spec_IsSequence.l0 (k + 1) y0 y1 y2 y3 y4 y5 y6 y7 y8 y9)) ∧ (∀ y0 y1 y2 y3 y4 y5 y6 y7 y8, LeO (spec_IsSequence.l1 k y0 y1 y2 y3 y4 y5 y6 y7 y8) (spec_IsSequence.l1 (k + 1) y0 y1 y2 y3 y4 y5 y6 y7 y8)) ∧ (∀ y0 y1 y2 y3 y4 y5 y6 y7 y8, LeO (spec_IsSequence.l2 k y0 y1 y2 y3 y4 y5 y6 y7 y8) (spec_IsSequence.l2 (k + 1) y0 y1 y2 y3 y4 y5 y6 y7 y8))
  | 0 => ⟨fun _ _ _ _ _ _ _ _ _ _ r h => by simp [spec_IsSequence.l0] at h, fun _ _ _ _ _ _ _ _ _ r h => by simp [spec_IsSequence.l1] at h, fun _ _ _ _ _ _ _ _ _ r h => by simp [spec_IsSequence.l2] at h⟩
  | k + 1 => by
    obtain ⟨ih0, ih1, ih2⟩ := spec_IsSequence.mono_l k
    refine ⟨?_, ?_, ?_⟩
    · intro y0 y1 y2 y3 y4 y5 y6 y7 y8 y9
      unfold spec_IsSequence.l0
      repeat' first
      | (with_reducible exact ih0 _ _ _ _ _ _ _ _ _ _)
      | (with_reducible exact ih1 _ _ _ _ _ _ _ _ _)
      | (with_reducible exact ih2 _ _ _ _ _ _ _ _ _)
      | (with_reducible exact LeO.refl _)
      | (with_reducible exact LeO.none _)
      | (with_reducible refine LeO.ite ?_ ?_)
      | (with_reducible refine LeO.bind ?_ (fun _ => ?_))
      | exact ih0 _ _ _ _ _ _ _ _ _ _
      | exact ih1 _ _ _ _ _ _ _ _ _
      | exact ih2 _ _ _ _ _ _ _ _ _
      | exact LeO.none _
      | refine LeO.ite ?_ ?_
      | refine LeO.bind ?_ (fun _ => ?_)
    · intro y0 y1 y2 y3 y4 y5 y6 y7 y8
      unfold spec_IsSequence.l1
      repeat' first
      | (with_reducible exact ih0 _ _ _ _ _ _ _ _ _ _)
      | (with_reducible exact ih1 _ _ _ _ _ _ _ _ _)
      | (with_reducible exact ih2 _ _ _ _ _ _ _ _ _)
      | (with_reducible exact LeO.refl _)
      | (with_reducible exact LeO.none _)
      | (with_reducible refine LeO.ite ?_ ?_)
      | (with_reducible refine LeO.bind ?_ (fun _ => ?_))
      | exact ih0 _ _ _ _ _ _ _ _ _ _
      | exact ih1 _ _ _ _ _ _ _ _ _
      | exact ih2 _ _ _ _ _ _ _ _ _
      | exact LeO.none _
      | refine LeO.ite ?_ ?_
      | refine LeO.bind ?_ (fun _ => ?_)
    · intro y0 y1 y2 y3 y4 y5 y6 y7 y8
      unfold spec_IsSequence.l2
      repeat' first
      | (with_reducible exact ih0 _ _ _ _ _ _ _ _ _ _)
      | (with_reducible exact ih1 _ _ _ _ _ _ _ _ _)
      | (with_reducible exact ih2 _ _ _ _ _ _ _ _ _)
      | (with_reducible exact LeO.refl _)
      | (with_reducible exact LeO.none _)
      | (with_reducible refine LeO.ite ?_ ?_)
      | (with_reducible refine LeO.bind ?_ (fun _ => ?_))
      | exact ih0 _ _ _ _ _ _ _ _ _ _
      | exact ih1 _ _ _ _ _ _ _ _ _
      | exact ih2 _ _ _ _ _ _ _ _ _
      | exact LeO.none _
      | refine LeO.ite ?_ ?_
      | refine LeO.bind ?_ (fun _ => ?_)
theorem spec_IsSequence.mono : ∀ a0 a1 a2 a3 a4 a5 a6 k, LeO (spec_IsSequence.f k a0 a1 a2 a3 a4 a5 a6) (spec_IsSequence.f (k + 1) a0 a1 a2 a3 a4 a5 a6) := by
  intro a0 a1 a2 a3 a4 a5 a6 k
  obtain ⟨ih0, ih1, ih2⟩ := spec_IsSequence.mono_l k
  unfold spec_IsSequence.f
  repeat' first
      | (with_reducible exact ih0 _ _ _ _ _ _ _ _ _ _)
      | (with_reducible exact ih1 _ _ _ _ _ _ _ _ _)
      | (with_reducible exact ih2 _ _ _ _ _ _ _ _ _)
      | (with_reducible exact LeO.refl _)
      | (with_reducible exact LeO.none _)
      | (with_reducible refine LeO.ite ?_ ?_)
      | (with_reducible refine LeO.bind ?_ (fun _ => ?_))
      | exact ih0 _ _ _ _ _ _ _ _ _ _
      | exact ih1 _ _ _ _ _ _ _ _ _
      | exact ih2 _ _ _ _ _ _ _ _ _
      | exact LeO.none _
      | refine LeO.ite ?_ ?_
      | refine LeO.bind ?_ (fun _ => ?_)
set_option maxHeartbeats 8000000 in
set_option maxRecDepth 100000 in
theorem spec_IsSequence.calls (k : Nat) (a0_0 : Int) (a0_1 : Int) (A0_2 : Option Addr) (c0_2 : Nat) (l0_2 : List (S89)) (A0_3 : Option Addr) (c0_3 : Nat) (l0_3 : List Int) (a0_4 : Int) (A0_5 : Option Addr) (c0_5 : Nat) (l0_5 : List Int) (a0_6 : Bool) (r : Bool) (w : World) (hr0_2 : Kd.C k89 w A0_2 l0_2.length l0_2) (hc0_2 : l0_2.length ≤ c0_2) (hr0_3 : Kd.C (Kd.int .u8) w A0_3 l0_3.length l0_3) (hc0_3 : l0_3.length ≤ c0_3) (hr0_5 : Kd.C (Kd.int .u8) w A0_5 l0_5.length l0_5) (hc0_5 : l0_5.length ≤ c0_5) (h : spec_IsSequence.f k a0_0 a0_1 l0_2 l0_3 a0_4 l0_5 a0_6 = some r) :
    Calls Tryz.prog 14 #[.agg #[.int .i64 a0_0, .int .u8 a0_1, .slice A0_2 l0_2.length c0_2, .slice A0_3 l0_3.length c0_3, .int .u8 a0_4, .slice A0_5 l0_5.length c0_5, .bool a0_6]] w fun e w' => e = .returned (.bool r) ∧ Below w.heap.size w w' := by
  have hu37 := Tryz.underlying37
  have hu89 := Tryz.underlying89
  have HR0_2 := Aside0.mk hr0_2
  have HC0_2 := Aside0.mk hc0_2
  clear hr0_2 hc0_2
  have HR0_3 := Aside0.mk hr0_3
  have HC0_3 := Aside0.mk hc0_3
  clear hr0_3 hc0_3
  have HR0_5 := Aside0.mk hr0_5
  have HC0_5 := Aside0.mk hc0_5
  clear hr0_5 hc0_5
  have HB := Aside0.mk (Below.refl w.heap.size w)
  have H : (if a0_0 < 0 then (none) else (if a0_0 > 6 then (none) else (if (l0_2.length : Int) > 20 then (none) else (if (l0_3.length : Int) > 3 then (none) else (if (l0_5.length : Int) > 60 then (none) else (spec_IsSequence.l0 k l0_2 (l0_2.length : Int) 0 a0_0 a0_1 l0_2 l0_3 a0_4 l0_5 a0_6)))))) = some r := h
  clear h
  by_cases c2 : a0_0 < 0
  · rw [if_pos c2] at H
    exact absurd H (by simp)
  · rw [if_neg c2] at H
    have c2b0 : decide (a0_0 < 0) = false := decide_eq_false c2
    clear c2
    by_cases c3 : a0_0 > 6
    · rw [if_pos c3] at H
      exact absurd H (by simp)
    · rw [if_neg c3] at H
      have c3b0 : decide (6 < a0_0) = false := decide_eq_false c3
      clear c3
      by_cases c4 : (l0_2.length : Int) > 20
      · rw [if_pos c4] at H
        exact absurd H (by simp)
      · rw [if_neg c4] at H
        have c4b0 : decide (20 < (l0_2.length : Int)) = false := decide_eq_false c4
        have c4b1 : decide (20 < l0_2.length) = false := decide_eq_false (by omega)
        clear c4
        by_cases c5 : (l0_3.length : Int) > 3
        · rw [if_pos c5] at H
          exact absurd H (by simp)
        · rw [if_neg c5] at H
          have c5b0 : decide (3 < (l0_3.length : Int)) = false := decide_eq_false c5
          have c5b1 : decide (3 < l0_3.length) = false := decide_eq_false (by omega)
          clear c5
          by_cases c6 : (l0_5.length : Int) > 60
          · rw [if_pos c6] at H
            exact absurd H (by simp)
          · rw [if_neg c6] at H
            have c6b0 : decide (60 < (l0_5.length : Int)) = false := decide_eq_false c6
            have c6b1 : decide (60 < l0_5.length) = false := decide_eq_false (by omega)
            clear c6
            have H' := Aside0.mk H
            clear H
            go_enter Tryz.func14, Tryz.ntmps14
            go_wp2_with (first | ((with_reducible refine gate_dst (N := 1) rfl ?_); (try (refine gate_guard (by rfl) ?_; dsimp only)); refine box_event ?hg (N := 1) ?hd (cs := #[.int .i64 a0_0, .int .u8 a0_1, .slice A0_2 l0_2.length c0_2, .slice A0_3 l0_3.length c0_3, .int .u8 a0_4, .slice A0_5 l0_5.length c0_5, .bool a0_6]) (t := 37) ?hr ?_; (case hd => rfl); (case hg => rfl); (case hr => first | (go_simp; done) | (go_simp; rfl)); intro gb109 hg w7 hbox hb; have n0_ := Aside0.mk (below_step (by repeat (first | (with_reducible first | exact HB.out | apply below_alloc | apply pw_below_drewN | apply below_drew1) | exact HB.out)) hb); have n1_ := Aside0.mk (hbox); have n2_ := Aside0.mk ((by rw [hg]; exact (below_size (by repeat (first | (with_reducible first | exact HB.out | apply below_alloc | apply pw_below_drewN | apply below_drew1) | exact HB.out))) : w.heap.size ≤ gb109)); have n3_ := Aside0.mk ((by rw [hg]; exact (below_size (by repeat (first | (with_reducible first | exact HB.out | apply below_alloc | apply pw_below_drewN | apply below_drew1) | exact HB.out))) : w.heap.size ≤ gb109)); clear HB; have HB := n0_; have BK109 := n1_; have GW109 := n2_; have GE109 := n3_; clear n0_ n1_ n2_ n3_; clear hb hbox hg; have hcz8_0 : w7.cell? ⟨gb109, 0, none⟩ = some (.int .i64 a0_0) := (blk_cell BK109.out 0).trans rfl; have hcz8_1 : w7.cell? ⟨gb109, 1, none⟩ = some (.int .u8 a0_1) := (blk_cell BK109.out 1).trans rfl; have hcz8_2 : w7.cell? ⟨gb109, 2, none⟩ = some (.slice A0_2 l0_2.length c0_2) := (blk_cell BK109.out 2).trans rfl; have hcz8_3 : w7.cell? ⟨gb109, 3, none⟩ = some (.slice A0_3 l0_3.length c0_3) := (blk_cell BK109.out 3).trans rfl; have hcz8_4 : w7.cell? ⟨gb109, 4, none⟩ = some (.int .u8 a0_4) := (blk_cell BK109.out 4).trans rfl; have hcz8_5 : w7.cell? ⟨gb109, 5, none⟩ = some (.slice A0_5 l0_5.length c0_5) := (blk_cell BK109.out 5).trans rfl; have hcz8_6 : w7.cell? ⟨gb109, 6, none⟩ = some (.bool a0_6) := (blk_cell BK109.out 6).trans rfl; have hfz8_0 := blk_frozen BK109.out 0; have hfz8_1 := blk_frozen BK109.out 1; have hfz8_2 := blk_frozen BK109.out 2; have hfz8_3 := blk_frozen BK109.out 3; have hfz8_4 := blk_frozen BK109.out 4; have hfz8_5 := blk_frozen BK109.out 5; have hfz8_6 := blk_frozen BK109.out 6))
            go_loopg [40] k (fun kq v40 w' => ∃ (x40_1 : Int), v40 = .int .i64 x40_1 ∧ Aside0 (spec_IsSequence.l0 kq l0_2 (l0_2.length : Int) x40_1 a0_0 a0_1 l0_2 l0_3 a0_4 l0_5 a0_6 = some r) ∧ Aside0 (kq ≤ k) ∧ Aside0 (w'.heap[gb109]? = some (.cells #[.int .i64 a0_0, .int .u8 a0_1, (.slice A0_2 l0_2.length c0_2), (.slice A0_3 l0_3.length c0_3), .int .u8 a0_4, (.slice A0_5 l0_5.length c0_5), .bool a0_6] 37 (0, 0))) ∧ Aside0 (Below w.heap.size w w'))
            case atStart => exact ⟨(0), (by first | rfl | (simp; done) | (simp [*]; done)), H', ⟨Nat.le_refl _⟩, ⟨by (with_reducible repeat (first | refine blk_drewN ?_ _ | refine blk_drew ?_ | refine blk_alloc ?_ _)); exact BK109.out⟩, ⟨by repeat (first | (with_reducible first | exact HB.out | apply below_alloc | apply pw_below_drewN | apply below_drew1 | refine below_set ?_ GE109.out) | exact HB.out)⟩⟩
            case round =>
              clear H'
              try clear c1
              try clear c2
              try clear c2b0
              try clear p2
              try clear c3
              try clear c3b0
              try clear c4
              try clear c4b0
              try clear c4b1
              try clear c5
              try clear c5b0
              try clear c5b1
              try clear c6
              try clear c6b0
              try clear c6b1
              try clear hcz8_0
              try clear hcz8_1
              try clear hcz8_2
              try clear hcz8_3
              try clear hcz8_4
              try clear hcz8_5
              try clear hcz8_6
              try clear hfz8_0
              try clear hfz8_1
              try clear hfz8_2
              try clear hfz8_3
              try clear hfz8_4
              try clear hfz8_5
              try clear hfz8_6
              obtain ⟨x40_1, rfl, HA, HK1, BK109, HB⟩ := hrel
              cases gk with
              | zero => exact absurd HA.out (by simp [spec_IsSequence.l0])
              | succ k1 =>
                have H := HA.out
                clear HA
                simp only [spec_IsSequence.l0] at H
                by_cases c9 : x40_1 < (l0_2.length : Int)
                · rw [if_pos c9] at H
                  have c9b0 : decide (x40_1 < (l0_2.length : Int)) = true := decide_eq_true c9
                  clear c9
                  by_cases c10 : 0 ≤ x40_1
                  · rw [if_pos c10] at H
                    have c10b0 : decide (0 ≤ x40_1) = true := decide_eq_true c10
                    clear c10
                    by_cases c11 : x40_1 < (l0_2.length : Int)
                    · rw [if_pos c11] at H
                      have c11b0 : decide (x40_1 < (l0_2.length : Int)) = true := decide_eq_true c11
                      clear c11
                      by_cases c12 : ((rd_T89 l0_2 x40_1).f0) < 0
                      · rw [if_pos c12] at H
                        exact absurd H (by simp)
                      · rw [if_neg c12] at H
                        have c12b0 : decide (((rd_T89 l0_2 x40_1).f0) < 0) = false := decide_eq_false c12
                        clear c12
                        by_cases c13 : ((rd_T89 l0_2 x40_1).f0) > 65535
                        · rw [if_pos c13] at H
                          exact absurd H (by simp)
                        · rw [if_neg c13] at H
                          have c13b0 : decide (65535 < ((rd_T89 l0_2 x40_1).f0)) = false := decide_eq_false c13
                          clear c13
                          obtain ⟨bq14, hbq14⟩ : ∃ b_ : Bool, b_ = ((rd_T89 l0_2 x40_1).f1) := ⟨_, rfl⟩
                          replace H : (if bq14 = true then (none) else (if (rd_T89 l0_2 x40_1).f2 = true then (none) else (spec_IsSequence.l0 k1 l0_2 (l0_2.length : Int) (wrap64 (x40_1 + 1)) a0_0 a0_1 l0_2 l0_3 a0_4 l0_5 a0_6))) = some r := by rw [← hbq14] at H; exact H
                          have Nbq14 := Aside0.mk hbq14
                          clear hbq14
                          by_cases c15 : bq14 = true
                          · subst c15
                            have H1 : (none) = some r := by rw [if_pos rfl] at H; exact H
                            clear H
                            have H := H1
                            clear H1
                            exact absurd H (by simp)
                          · replace c15 := Bool.eq_false_iff.mpr c15
                            subst c15
                            have H1 : (if (rd_T89 l0_2 x40_1).f2 = true then (none) else (spec_IsSequence.l0 k1 l0_2 (l0_2.length : Int) (wrap64 (x40_1 + 1)) a0_0 a0_1 l0_2 l0_3 a0_4 l0_5 a0_6)) = some r := by rw [if_neg (show ¬ (false = true) by decide)] at H; exact H
                            clear H
                            have H := H1
                            clear H1
                            obtain ⟨bq16, hbq16⟩ : ∃ b_ : Bool, b_ = ((rd_T89 l0_2 x40_1).f2) := ⟨_, rfl⟩
                            replace H : (if bq16 = true then (none) else (spec_IsSequence.l0 k1 l0_2 (l0_2.length : Int) (wrap64 (x40_1 + 1)) a0_0 a0_1 l0_2 l0_3 a0_4 l0_5 a0_6)) = some r := by rw [← hbq16] at H; exact H
                            have Nbq16 := Aside0.mk hbq16
                            clear hbq16
                            by_cases c17 : bq16 = true
                            · subst c17
                              have H1 : (none) = some r := by rw [if_pos rfl] at H; exact H
                              clear H
                              have H := H1
                              clear H1
                              exact absurd H (by simp)
                            · replace c17 := Bool.eq_false_iff.mpr c17
                              subst c17
                              have H1 : (spec_IsSequence.l0 k1 l0_2 (l0_2.length : Int) (wrap64 (x40_1 + 1)) a0_0 a0_1 l0_2 l0_3 a0_4 l0_5 a0_6) = some r := by rw [if_neg (show ¬ (false = true) by decide)] at H; exact H
                              clear H
                              have H := H1
                              clear H1
                              have H' := Aside0.mk H
                              clear H
                              have p110 : 0 ≤ (x40_1 : Int) := of_decide_eq_true (by first | (with_reducible assumption) | assumption)
                              have q110 : x40_1 < (l0_2.length : Int) := of_decide_eq_true (by first | (with_reducible assumption) | assumption)
                              obtain ⟨ad110, e110, hx110_0, hx110_1, hx110_2⟩ := at_T89 HR0_2.out x40_1 p110 q110
                              (try rw [← Nbq14.out] at hx110_1)
                              (try rw [← Nbq16.out] at hx110_1)
                              (try rw [← Nbq14.out] at hx110_2)
                              (try rw [← Nbq16.out] at hx110_2)
                              cases e110
                              replace hx110_0 := (HB.out.cell (World.block_lt_of_cell? w _ hx110_0)).trans hx110_0
                              replace hx110_1 := (HB.out.cell (World.block_lt_of_cell? w _ hx110_1)).trans hx110_1
                              replace hx110_2 := (HB.out.cell (World.block_lt_of_cell? w _ hx110_2)).trans hx110_2
                              replace p110 := eq_true p110
                              replace q110 := eq_true q110
                              go_wp2_with (first | ((with_reducible refine gate_dst (N := 4) rfl ?_); (try (refine gate_guard (by rfl) ?_; dsimp only)); refine box_event ?hg (N := 4) ?hd (cs := #[.int .i64 0, .bool false, .bool false]) (t := 89) ?hr ?_; (case hd => rfl); (case hg => rfl); (case hr => first | (go_simp; done) | (go_simp; rfl)); intro gb111 hg w18 hbox hb; have n0_ := Aside0.mk (blk_below (g := gb109) (o := .cells #[.int .i64 a0_0, .int .u8 a0_1, .slice (some ad110) l0_2.length c0_2, .slice A0_3 l0_3.length c0_3, .int .u8 a0_4, .slice A0_5 l0_5.length c0_5, .bool a0_6] 37 (0, 0)) (by (with_reducible repeat (first | refine blk_drewN ?_ _ | refine blk_drew ?_ | refine blk_alloc ?_ _)); exact BK109.out) hb); have n1_ := Aside0.mk (below_step (by repeat (first | (with_reducible first | exact HB.out | apply below_alloc | apply pw_below_drewN | apply below_drew1 | refine below_set ?_ GE109.out) | exact HB.out)) hb); have n2_ := Aside0.mk (hbox); have n3_ := Aside0.mk ((by rw [hg]; exact (below_size (by repeat (first | (with_reducible first | exact HB.out | apply below_alloc | apply pw_below_drewN | apply below_drew1 | refine below_set ?_ GE109.out) | exact HB.out))) : w.heap.size ≤ gb111)); have n4_ := Aside0.mk ((by rw [hg]; exact (below_size (by repeat (first | (with_reducible first | exact HB.out | apply below_alloc | apply pw_below_drewN | apply below_drew1 | refine below_set ?_ GE109.out) | exact HB.out))) : w.heap.size ≤ gb111)); have n5_ := Aside0.mk ((by rw [hg]; exact Nat.ne_of_lt (blk_lt (g := gb109) (o := .cells #[.int .i64 a0_0, .int .u8 a0_1, .slice (some ad110) l0_2.length c0_2, .slice A0_3 l0_3.length c0_3, .int .u8 a0_4, .slice A0_5 l0_5.length c0_5, .bool a0_6] 37 (0, 0)) (by (with_reducible repeat (first | refine blk_drewN ?_ _ | refine blk_drew ?_ | refine blk_alloc ?_ _)); exact BK109.out)) : gb109 ≠ gb111)); have n6_ := Aside0.mk ((by rw [hg]; exact Nat.ne_of_gt (blk_lt (g := gb109) (o := .cells #[.int .i64 a0_0, .int .u8 a0_1, .slice (some ad110) l0_2.length c0_2, .slice A0_3 l0_3.length c0_3, .int .u8 a0_4, .slice A0_5 l0_5.length c0_5, .bool a0_6] 37 (0, 0)) (by (with_reducible repeat (first | refine blk_drewN ?_ _ | refine blk_drew ?_ | refine blk_alloc ?_ _)); exact BK109.out)) : gb111 ≠ gb109)); clear BK109; clear HB; have BK109 := n0_; have HB := n1_; have BK111 := n2_; have GW111 := n3_; have GE111 := n4_; have NB109_111 := n5_; have NB111_109 := n6_; clear n0_ n1_ n2_ n3_ n4_ n5_ n6_; clear hb hbox hg; have hnb19 := NB111_109.out; have hnc19 := NB109_111.out; have hcz20_0 : w18.cell? ⟨gb111, 0, none⟩ = some (.int .i64 0) := (blk_cell BK111.out 0).trans rfl; have hcz20_1 : w18.cell? ⟨gb111, 1, none⟩ = some (.bool false) := (blk_cell BK111.out 1).trans rfl; have hcz20_2 : w18.cell? ⟨gb111, 2, none⟩ = some (.bool false) := (blk_cell BK111.out 2).trans rfl; have hfz20_0 := blk_frozen BK111.out 0; have hfz20_1 := blk_frozen BK111.out 1; have hfz20_2 := blk_frozen BK111.out 2))
                              go_roundg k1
                              case measure => have := HK1.out; omega
                              case rel => exact ⟨(wrap64 (x40_1 + 1)), (by first | rfl | (simp; done) | (simp [*]; done)), H', ⟨by have := HK1.out; omega⟩, ⟨by (with_reducible repeat (first | refine blk_drewN ?_ _ | refine blk_drew ?_ | refine blk_alloc ?_ _)); refine blk_far ?_ NB109_111.out _; (with_reducible repeat (first | refine blk_drewN ?_ _ | refine blk_drew ?_ | refine blk_alloc ?_ _)); refine blk_far ?_ NB109_111.out _; (with_reducible repeat (first | refine blk_drewN ?_ _ | refine blk_drew ?_ | refine blk_alloc ?_ _)); refine blk_far ?_ NB109_111.out _; (with_reducible repeat (first | refine blk_drewN ?_ _ | refine blk_drew ?_ | refine blk_alloc ?_ _)); exact BK109.out⟩, ⟨by repeat (first | (with_reducible first | exact HB.out | apply below_alloc | apply pw_below_drewN | apply below_drew1 | refine below_set ?_ GE109.out | refine below_set ?_ GE111.out) | exact HB.out)⟩⟩
                    · rw [if_neg c11] at H
                      exact absurd H (by simp)
                  · rw [if_neg c10] at H
                    exact absurd H (by simp)
                · rw [if_neg c9] at H
                  have c9b0 : decide (x40_1 < (l0_2.length : Int)) = false := decide_eq_false c9
                  clear c9
                  have H' := Aside0.mk H
                  clear H
                  have hcz21_0 : wr.cell? ⟨gb109, 0, none⟩ = some (.int .i64 a0_0) := (blk_cell BK109.out 0).trans rfl
                  have hcz21_1 : wr.cell? ⟨gb109, 1, none⟩ = some (.int .u8 a0_1) := (blk_cell BK109.out 1).trans rfl
                  have hcz21_2 : wr.cell? ⟨gb109, 2, none⟩ = some (.slice A0_2 l0_2.length c0_2) := (blk_cell BK109.out 2).trans rfl
                  have hcz21_3 : wr.cell? ⟨gb109, 3, none⟩ = some (.slice A0_3 l0_3.length c0_3) := (blk_cell BK109.out 3).trans rfl
                  have hcz21_4 : wr.cell? ⟨gb109, 4, none⟩ = some (.int .u8 a0_4) := (blk_cell BK109.out 4).trans rfl
                  have hcz21_5 : wr.cell? ⟨gb109, 5, none⟩ = some (.slice A0_5 l0_5.length c0_5) := (blk_cell BK109.out 5).trans rfl
                  have hcz21_6 : wr.cell? ⟨gb109, 6, none⟩ = some (.bool a0_6) := (blk_cell BK109.out 6).trans rfl
                  have hfz21_0 := blk_frozen BK109.out 0
                  have hfz21_1 := blk_frozen BK109.out 1
                  have hfz21_2 := blk_frozen BK109.out 2
                  have hfz21_3 := blk_frozen BK109.out 3
                  have hfz21_4 := blk_frozen BK109.out 4
                  have hfz21_5 := blk_frozen BK109.out 5
                  have hfz21_6 := blk_frozen BK109.out 6
                  go_wp2
                  go_loopg [78] k1 (fun kq v78 w' => ∃ (x78_2 : Int), v78 = .int .i64 x78_2 ∧ Aside0 (spec_IsSequence.l1 kq (l0_3.length : Int) x78_2 a0_0 a0_1 l0_2 l0_3 a0_4 l0_5 a0_6 = some r) ∧ Aside0 (kq ≤ k1) ∧ Aside0 (w'.heap[gb109]? = some (.cells #[.int .i64 a0_0, .int .u8 a0_1, (.slice A0_2 l0_2.length c0_2), (.slice A0_3 l0_3.length c0_3), .int .u8 a0_4, (.slice A0_5 l0_5.length c0_5), .bool a0_6] 37 (0, 0))) ∧ Aside0 (Below w.heap.size w w'))
                  case atStart => exact ⟨(0), (by first | rfl | (simp; done) | (simp [*]; done)), H', ⟨Nat.le_refl _⟩, ⟨by (with_reducible repeat (first | refine blk_drewN ?_ _ | refine blk_drew ?_ | refine blk_alloc ?_ _)); exact BK109.out⟩, ⟨by repeat (first | (with_reducible first | exact HB.out | apply below_alloc | apply pw_below_drewN | apply below_drew1 | refine below_set ?_ GE109.out) | exact HB.out)⟩⟩
                  case round =>
                    clear H'
                    try clear c1
                    try clear p1
                    try clear q1
                    try clear hx1
                    try clear c2
                    try clear c2b0
                    try clear p2
                    try clear c3
                    try clear c3b0
                    try clear c4
                    try clear c4b0
                    try clear c4b1
                    try clear c5
                    try clear c5b0
                    try clear c5b1
                    try clear c6
                    try clear c6b0
                    try clear c6b1
                    try clear p6
                    try clear c9
                    try clear c9b0
                    try clear c10
                    try clear c10b0
                    try clear c11
                    try clear c11b0
                    try clear p11
                    try clear q11
                    try clear hx11
                    try clear c12
                    try clear c12b0
                    try clear c13
                    try clear c13b0
                    try clear c14
                    try clear q14
                    try clear c15
                    try clear q16
                    try clear c17
                    try clear c19
                    try clear hcz20_0
                    try clear hcz20_1
                    try clear hcz20_2
                    try clear hcz21_0
                    try clear hcz21_1
                    try clear hcz21_2
                    try clear hcz21_3
                    try clear hcz21_4
                    try clear hcz21_5
                    try clear hcz21_6
                    try clear hcz8_0
                    try clear hcz8_1
                    try clear hcz8_2
                    try clear hcz8_3
                    try clear hcz8_4
                    try clear hcz8_5
                    try clear hcz8_6
                    try clear hfz20_0
                    try clear hfz20_1
                    try clear hfz20_2
                    try clear hfz21_0
                    try clear hfz21_1
                    try clear hfz21_2
                    try clear hfz21_3
                    try clear hfz21_4
                    try clear hfz21_5
                    try clear hfz21_6
                    try clear hfz8_0
                    try clear hfz8_1
                    try clear hfz8_2
                    try clear hfz8_3
                    try clear hfz8_4
                    try clear hfz8_5
                    try clear hfz8_6
                    try clear hx110_0
                    try clear hx110_1
                    try clear hx110_2
                    try clear p110
                    try clear p2
                    try clear q110
                    obtain ⟨x78_2, rfl, HA, HK2, BK109, HB⟩ := hrel
                    cases gk with
                    | zero => exact absurd HA.out (by simp [spec_IsSequence.l1])
                    | succ k2 =>
                      have H := HA.out
                      clear HA
                      simp only [spec_IsSequence.l1] at H
                      by_cases c22 : x78_2 < (l0_3.length : Int)
                      · rw [if_pos c22] at H
                        exact absurd H (by simp)
                      · rw [if_neg c22] at H
                        have c22b0 : decide (x78_2 < (l0_3.length : Int)) = false := decide_eq_false c22
                        clear c22
                        have H' := Aside0.mk H
                        clear H
                        have hcz23_0 : wr.cell? ⟨gb109, 0, none⟩ = some (.int .i64 a0_0) := (blk_cell BK109.out 0).trans rfl
                        have hcz23_1 : wr.cell? ⟨gb109, 1, none⟩ = some (.int .u8 a0_1) := (blk_cell BK109.out 1).trans rfl
                        have hcz23_2 : wr.cell? ⟨gb109, 2, none⟩ = some (.slice A0_2 l0_2.length c0_2) := (blk_cell BK109.out 2).trans rfl
                        have hcz23_3 : wr.cell? ⟨gb109, 3, none⟩ = some (.slice A0_3 l0_3.length c0_3) := (blk_cell BK109.out 3).trans rfl
                        have hcz23_4 : wr.cell? ⟨gb109, 4, none⟩ = some (.int .u8 a0_4) := (blk_cell BK109.out 4).trans rfl
                        have hcz23_5 : wr.cell? ⟨gb109, 5, none⟩ = some (.slice A0_5 l0_5.length c0_5) := (blk_cell BK109.out 5).trans rfl
                        have hcz23_6 : wr.cell? ⟨gb109, 6, none⟩ = some (.bool a0_6) := (blk_cell BK109.out 6).trans rfl
                        have hfz23_0 := blk_frozen BK109.out 0
                        have hfz23_1 := blk_frozen BK109.out 1
                        have hfz23_2 := blk_frozen BK109.out 2
                        have hfz23_3 := blk_frozen BK109.out 3
                        have hfz23_4 := blk_frozen BK109.out 4
                        have hfz23_5 := blk_frozen BK109.out 5
                        have hfz23_6 := blk_frozen BK109.out 6
                        go_wp2
                        go_loopg [89] k2 (fun kq v89 w' => ∃ (x89_3 : Int), v89 = .int .i64 x89_3 ∧ Aside0 (spec_IsSequence.l2 kq (l0_5.length : Int) x89_3 a0_0 a0_1 l0_2 l0_3 a0_4 l0_5 a0_6 = some r) ∧ Aside0 (kq ≤ k2) ∧ Aside0 (w'.heap[gb109]? = some (.cells #[.int .i64 a0_0, .int .u8 a0_1, (.slice A0_2 l0_2.length c0_2), (.slice A0_3 l0_3.length c0_3), .int .u8 a0_4, (.slice A0_5 l0_5.length c0_5), .bool a0_6] 37 (0, 0))) ∧ Aside0 (Below w.heap.size w w'))
                        case atStart => exact ⟨(0), (by first | rfl | (simp; done) | (simp [*]; done)), H', ⟨Nat.le_refl _⟩, ⟨by (with_reducible repeat (first | refine blk_drewN ?_ _ | refine blk_drew ?_ | refine blk_alloc ?_ _)); exact BK109.out⟩, ⟨by repeat (first | (with_reducible first | exact HB.out | apply below_alloc | apply pw_below_drewN | apply below_drew1 | refine below_set ?_ GE109.out) | exact HB.out)⟩⟩
                        case round =>
                          clear H'
                          try clear c1
                          try clear p1
                          try clear q1
                          try clear hx1
                          try clear c2
                          try clear c2b0
                          try clear p2
                          try clear c3
                          try clear c3b0
                          try clear c4
                          try clear c4b0
                          try clear c4b1
                          try clear c5
                          try clear c5b0
                          try clear c5b1
                          try clear c6
                          try clear c6b0
                          try clear c6b1
                          try clear p6
                          try clear c9
                          try clear c9b0
                          try clear c10
                          try clear c10b0
                          try clear c11
                          try clear c11b0
                          try clear p11
                          try clear q11
                          try clear hx11
                          try clear c12
                          try clear c12b0
                          try clear c13
                          try clear c13b0
                          try clear c14
                          try clear q14
                          try clear c15
                          try clear q16
                          try clear c17
                          try clear c19
                          try clear c22
                          try clear c22b0
                          try clear hcz20_0
                          try clear hcz20_1
                          try clear hcz20_2
                          try clear hcz21_0
                          try clear hcz21_1
                          try clear hcz21_2
                          try clear hcz21_3
                          try clear hcz21_4
                          try clear hcz21_5
                          try clear hcz21_6
                          try clear hcz23_0
                          try clear hcz23_1
                          try clear hcz23_2
                          try clear hcz23_3
                          try clear hcz23_4
                          try clear hcz23_5
                          try clear hcz23_6
                          try clear hcz8_0
                          try clear hcz8_1
                          try clear hcz8_2
                          try clear hcz8_3
                          try clear hcz8_4
                          try clear hcz8_5
                          try clear hcz8_6
                          try clear hfz20_0
                          try clear hfz20_1
                          try clear hfz20_2
                          try clear hfz21_0
                          try clear hfz21_1
                          try clear hfz21_2
                          try clear hfz21_3
                          try clear hfz21_4
                          try clear hfz21_5
                          try clear hfz21_6
                          try clear hfz23_0
                          try clear hfz23_1
                          try clear hfz23_2
                          try clear hfz23_3
                          try clear hfz23_4
                          try clear hfz23_5
                          try clear hfz23_6
                          try clear hfz8_0
                          try clear hfz8_1
                          try clear hfz8_2
                          try clear hfz8_3
                          try clear hfz8_4
                          try clear hfz8_5
                          try clear hfz8_6
                          try clear hx110_0
                          try clear hx110_1
                          try clear hx110_2
                          try clear p1
                          try clear p11
                          try clear p110
                          try clear p2
                          try clear p6
                          try clear q1
                          try clear q11
                          try clear q110
                          try clear q14
                          try clear q16
                          obtain ⟨x89_3, rfl, HA, HK3, BK109, HB⟩ := hrel
                          cases gk with
                          | zero => exact absurd HA.out (by simp [spec_IsSequence.l2])
                          | succ k3 =>
                            have H := HA.out
                            clear HA
                            simp only [spec_IsSequence.l2] at H
                            by_cases c24 : x89_3 < (l0_5.length : Int)
                            · rw [if_pos c24] at H
                              exact absurd H (by simp)
                            · rw [if_neg c24] at H
                              have c24b0 : decide (x89_3 < (l0_5.length : Int)) = false := decide_eq_false c24
                              clear c24
                              by_cases c25 : a0_0 = 0
                              · rw [if_pos c25] at H
                                exact absurd H (by simp)
                              · rw [if_neg c25] at H
                                have c25b0 : (a0_0 == 0) = false := beq_eq_false_iff_ne.mpr c25
                                have c25b1 : (a0_0 != 0) = true := bne_iff_ne.mpr c25
                                by_cases c26 : a0_0 = 1
                                · rw [if_pos c26] at H
                                  have c26b0 : (a0_0 == 1) = true := beq_iff_eq.mpr c26
                                  have c26b1 : (a0_0 != 1) = false := bne_eq_false_iff_eq.mpr c26
                                  clear c26
                                  by_cases c27 : a0_1 = 0
                                  · rw [if_pos c27] at H
                                    have c27b0 : (a0_1 == 0) = true := beq_iff_eq.mpr c27
                                    have c27b1 : (a0_1 != 0) = false := bne_eq_false_iff_eq.mpr c27
                                    clear c27
                                    replace H := Option.bind_eq_some_iff.mp H
                                    obtain ⟨t112, A280, H⟩ := H
                                    replace H : (if t112 = true then (if a0_6 = true then (none) else (if a0_0 = 2 then (none) else (some ((l0_5.length : Int) == 0)))) else (none)) = some r := H
                                    have A28 := Aside0.mk A280
                                    clear A280
                                    by_cases c29 : t112 = true
                                    · subst c29
                                      have H1 : (if a0_6 = true then (none) else (if a0_0 = 2 then (none) else (some ((l0_5.length : Int) == 0)))) = some r := by rw [if_pos rfl] at H; exact H
                                      clear H
                                      have H := H1
                                      clear H1
                                      by_cases c30 : a0_6 = true
                                      · subst c30
                                        have H1 : (none) = some r := by rw [if_pos rfl] at H; exact H
                                        clear H
                                        have H := H1
                                        clear H1
                                        exact absurd H (by simp)
                                      · replace c30 := Bool.eq_false_iff.mpr c30
                                        subst c30
                                        have H1 : (if a0_0 = 2 then (none) else (some ((l0_5.length : Int) == 0))) = some r := by rw [if_neg (show ¬ (false = true) by decide)] at H; exact H
                                        clear H
                                        have H := H1
                                        clear H1
                                        by_cases c31 : a0_0 = 2
                                        · rw [if_pos c31] at H
                                          exact absurd H (by simp)
                                        · rw [if_neg c31] at H
                                          have c31b0 : (a0_0 == 2) = false := beq_eq_false_iff_ne.mpr c31
                                          have c31b1 : (a0_0 != 2) = true := bne_iff_ne.mpr c31
                                          obtain rfl := Option.some.inj H
                                          have hcz32_0 : wr.cell? ⟨gb109, 0, none⟩ = some (.int .i64 a0_0) := (blk_cell BK109.out 0).trans rfl
                                          have hcz32_1 : wr.cell? ⟨gb109, 1, none⟩ = some (.int .u8 a0_1) := (blk_cell BK109.out 1).trans rfl
                                          have hcz32_2 : wr.cell? ⟨gb109, 2, none⟩ = some (.slice A0_2 l0_2.length c0_2) := (blk_cell BK109.out 2).trans rfl
                                          have hcz32_3 : wr.cell? ⟨gb109, 3, none⟩ = some (.slice A0_3 l0_3.length c0_3) := (blk_cell BK109.out 3).trans rfl
                                          have hcz32_4 : wr.cell? ⟨gb109, 4, none⟩ = some (.int .u8 a0_4) := (blk_cell BK109.out 4).trans rfl
                                          have hcz32_5 : wr.cell? ⟨gb109, 5, none⟩ = some (.slice A0_5 l0_5.length c0_5) := (blk_cell BK109.out 5).trans rfl
                                          have hcz32_6 : wr.cell? ⟨gb109, 6, none⟩ = some (.bool false) := (blk_cell BK109.out 6).trans rfl
                                          have hfz32_0 := blk_frozen BK109.out 0
                                          have hfz32_1 := blk_frozen BK109.out 1
                                          have hfz32_2 := blk_frozen BK109.out 2
                                          have hfz32_3 := blk_frozen BK109.out 3
                                          have hfz32_4 := blk_frozen BK109.out 4
                                          have hfz32_5 := blk_frozen BK109.out 5
                                          have hfz32_6 := blk_frozen BK109.out 6
                                          go_wp2_with (first | (go_at_call 38; (with_reducible refine (spec_within.calls a0_4 64 126 true _ A28.out).mono ?_); rintro e w' ⟨rfl, ⟨nd, rfl⟩⟩))
                                          go_ret
                                          exact ⟨by first | rfl | (simp [errW_none, errW_some] <;> rfl) | (simp [*, errW_none, errW_some] <;> rfl), by repeat (first | (with_reducible first | exact HB.out | apply below_alloc | apply pw_below_drewN | apply below_drew1 | refine below_set ?_ GE109.out) | exact HB.out)⟩
                                    · replace c29 := Bool.eq_false_iff.mpr c29
                                      subst c29
                                      have H1 : (none) = some r := by rw [if_neg (show ¬ (false = true) by decide)] at H; exact H
                                      clear H
                                      have H := H1
                                      clear H1
                                      exact absurd H (by simp)
                                  · rw [if_neg c27] at H
                                    exact absurd H (by simp)
                                · rw [if_neg c26] at H
                                  exact absurd H (by simp)

end Go.Proofs.YtjdpkhnpgdangaaGreatDoor.PQ
