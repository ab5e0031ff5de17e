/- Contracts of functions that the law FnStyledFed reaches (read and made memory as stated), for this claim alone; no condition but those stated. -/
import Derived.Test.YtjdpkhnpgdangaaGreatDoorPQx0
import Derived.Test.YtjdpkhnpgdangaaGreatDoorPQx4
import Derived.Test.YtjdpkhnpgdangaaGreatDoorPQx5
namespace Go.Proofs.YtjdpkhnpgdangaaGreatDoor.PQ
open Go.RowKit Go.Proofs.YtjdpkhnpgdangaaGreatDoorW.PrintWords Go.Proofs.YtjdpkhnpgdangaaGreatDoorW.PrintLast Go.Proofs.YtjdpkhnpgdangaaGreatDoorW.PrintMore
attribute [local go_sem] max2_int min2_int max_two min_two max_three min_three max_four min_four   -- for this text's walks alone
set_option linter.unusedVariables false
set_option linter.unusedSimpArgs false

/-! ### spec_EventsOf: function 8 -/
def spec_EventsOf.f (k : Nat) (a0_0 : Int) (a0_1 : Int) (l0_2 : List (S89)) (l0_3 : List Int) (a0_4 : Int) (l0_5 : List Int) (a0_6 : Bool) : Option ((List (S39))) := if a0_0 = 0 then (none) else (if a0_0 = 1 then ((spec_CommandOf.f a0_0 a0_1 l0_2 l0_3 a0_4 l0_5 a0_6).bind fun t127 => ((spec_PackedOf.f k a0_0 a0_1 l0_2 l0_3 a0_4 l0_5 a0_6).bind fun t128 => (some (([(⟨2, 0, 0, t127, t128, ([] : List Int)⟩ : S39)] : List (S39)))))) else (none))
theorem spec_EventsOf.mono : ∀ a0 a1 a2 a3 a4 a5 a6 k, LeO (spec_EventsOf.f k a0 a1 a2 a3 a4 a5 a6) (spec_EventsOf.f (k + 1) a0 a1 a2 a3 a4 a5 a6) := by
  intro a0 a1 a2 a3 a4 a5 a6 k
  unfold spec_EventsOf.f
  repeat' first
      | (with_reducible exact spec_PackedOf.mono _ _ _ _ _ _ _ _)
      | (with_reducible exact LeO.refl _)
      | (with_reducible exact LeO.none _)
      | (with_reducible refine LeO.ite ?_ ?_)
      | (with_reducible refine LeO.bind ?_ (fun _ => ?_))
      | exact spec_PackedOf.mono _ _ _ _ _ _ _ _
      | exact LeO.none _
      | refine LeO.ite ?_ ?_
      | refine LeO.bind ?_ (fun _ => ?_)
set_option maxHeartbeats 8000000 in
set_option maxRecDepth 100000 in
theorem spec_EventsOf.calls (k : Nat) (a0_0 : Int) (a0_1 : Int) (A0_2 : Option Addr) (c0_2 : Nat) (l0_2 : List (S89)) (A0_3 : Option Addr) (c0_3 : Nat) (l0_3 : List Int) (a0_4 : Int) (A0_5 : Option Addr) (c0_5 : Nat) (l0_5 : List Int) (a0_6 : Bool) (r : List (S39)) (w : World) (hr0_2 : Kd.C k89 w A0_2 l0_2.length l0_2) (hc0_2 : l0_2.length ≤ c0_2) (hr0_3 : Kd.C (Kd.int .u8) w A0_3 l0_3.length l0_3) (hc0_3 : l0_3.length ≤ c0_3) (hr0_5 : Kd.C (Kd.int .u8) w A0_5 l0_5.length l0_5) (hc0_5 : l0_5.length ≤ c0_5) (h : spec_EventsOf.f k a0_0 a0_1 l0_2 l0_3 a0_4 l0_5 a0_6 = some r) :
    Calls Tryz.prog 8 #[.agg #[.int .i64 a0_0, .int .u8 a0_1, .slice A0_2 l0_2.length c0_2, .slice A0_3 l0_3.length c0_3, .int .u8 a0_4, .slice A0_5 l0_5.length c0_5, .bool a0_6]] w fun e w' => ∃ v0_ : Value, e = .returned (v0_) ∧ Kd.N k39 39 w' w.heap.size (fun k_ => (w.heap.size ≤ k_)) v0_ r ∧ Below w.heap.size w w' := by
  have hu37 := Tryz.underlying37
  have hu39 := Tryz.underlying39
  have HR0_2 := Aside0.mk hr0_2
  have HC0_2 := Aside0.mk hc0_2
  clear hr0_2 hc0_2
  have HR0_3 := Aside0.mk hr0_3
  have HC0_3 := Aside0.mk hc0_3
  clear hr0_3 hc0_3
  have HR0_5 := Aside0.mk hr0_5
  have HC0_5 := Aside0.mk hc0_5
  clear hr0_5 hc0_5
  have HB := Aside0.mk (Below.refl w.heap.size w)
  have H : (if a0_0 = 0 then (none) else (if a0_0 = 1 then ((spec_CommandOf.f a0_0 a0_1 l0_2 l0_3 a0_4 l0_5 a0_6).bind fun t127 => ((spec_PackedOf.f k a0_0 a0_1 l0_2 l0_3 a0_4 l0_5 a0_6).bind fun t128 => (some (([(⟨2, 0, 0, t127, t128, ([] : List Int)⟩ : S39)] : List (S39)))))) else (none))) = some r := h
  clear h
  by_cases c2 : a0_0 = 0
  · rw [if_pos c2] at H
    exact absurd H (by simp)
  · rw [if_neg c2] at H
    have c2b0 : (a0_0 == 0) = false := beq_eq_false_iff_ne.mpr c2
    have c2b1 : (a0_0 != 0) = true := bne_iff_ne.mpr c2
    by_cases c3 : a0_0 = 1
    · rw [if_pos c3] at H
      have c3b0 : (a0_0 == 1) = true := beq_iff_eq.mpr c3
      have c3b1 : (a0_0 != 1) = false := bne_eq_false_iff_eq.mpr c3
      clear c3
      replace H := Option.bind_eq_some_iff.mp H
      obtain ⟨t127, A40, H⟩ := H
      replace H : ((spec_PackedOf.f k a0_0 a0_1 l0_2 l0_3 a0_4 l0_5 a0_6).bind fun t128 => (some (([(⟨2, 0, 0, t127, t128, ([] : List Int)⟩ : S39)] : List (S39))))) = some r := H
      have A4 := Aside0.mk A40
      clear A40
      replace H := Option.bind_eq_some_iff.mp H
      obtain ⟨t128, A50, H⟩ := H
      replace H : (some (([(⟨2, 0, 0, t127, t128, ([] : List Int)⟩ : S39)] : List (S39)))) = some r := H
      have A5 := Aside0.mk A50
      clear A50
      obtain ⟨y131, hy131⟩ : ∃ y_ : List (S39), y_ = (([(⟨2, 0, 0, t127, t128, ([] : List Int)⟩ : S39)] : List (S39))) := ⟨_, rfl⟩
      replace H : (some y131) = some r := by first | (rw [hy131]; with_reducible exact H) | (have H2_ := (Option.bind_some _ _).symm.trans H; rw [hy131]; with_reducible exact H2_) | (have H2_ := (Option.bind_some _ _).symm.trans H; with_reducible exact H2_) | with_reducible exact H | (rw [hy131]; exact H) | exact H
      have Ny131 := Aside0.mk hy131
      clear hy131
      obtain rfl := Option.some.inj H
      go_enter Tryz.func8, Tryz.ntmps8
      try go_wp2_with (first | ((with_reducible refine gate_dst (N := 1) rfl ?_); refine box_event ?hg (N := 1) ?hd (cs := #[.int .i64 a0_0, .int .u8 a0_1, .slice A0_2 l0_2.length c0_2, .slice A0_3 l0_3.length c0_3, .int .u8 a0_4, .slice A0_5 l0_5.length c0_5, .bool a0_6]) (t := 37) ?hr ?_; (case hd => rfl); (case hg => rfl); (case hr => first | (go_simp; done) | (go_simp; rfl)); intro gb126 hg w6 hbox hb; have n0_ := Aside0.mk (below_step (by repeat (first | (with_reducible first | exact HB.out | apply below_alloc | apply pw_below_drewN | apply below_drew1) | exact HB.out)) hb); have n1_ := Aside0.mk (hbox); have n2_ := Aside0.mk ((by rw [hg]; exact (below_size (by repeat (first | (with_reducible first | exact HB.out | apply below_alloc | apply pw_below_drewN | apply below_drew1) | exact HB.out))) : w.heap.size ≤ gb126)); have n3_ := Aside0.mk ((by rw [hg]; exact (below_size (by repeat (first | (with_reducible first | exact HB.out | apply below_alloc | apply pw_below_drewN | apply below_drew1) | exact HB.out))) : w.heap.size ≤ gb126)); clear HB; have HB := n0_; have BK126 := n1_; have GW126 := n2_; have GE126 := n3_; clear n0_ n1_ n2_ n3_; clear hb hbox hg; have hcz7_0 : w6.cell? ⟨gb126, 0, none⟩ = some (.int .i64 a0_0) := (blk_cell BK126.out 0).trans rfl; have hcz7_1 : w6.cell? ⟨gb126, 1, none⟩ = some (.int .u8 a0_1) := (blk_cell BK126.out 1).trans rfl; have hcz7_2 : w6.cell? ⟨gb126, 2, none⟩ = some (.slice A0_2 l0_2.length c0_2) := (blk_cell BK126.out 2).trans rfl; have hcz7_3 : w6.cell? ⟨gb126, 3, none⟩ = some (.slice A0_3 l0_3.length c0_3) := (blk_cell BK126.out 3).trans rfl; have hcz7_4 : w6.cell? ⟨gb126, 4, none⟩ = some (.int .u8 a0_4) := (blk_cell BK126.out 4).trans rfl; have hcz7_5 : w6.cell? ⟨gb126, 5, none⟩ = some (.slice A0_5 l0_5.length c0_5) := (blk_cell BK126.out 5).trans rfl; have hcz7_6 : w6.cell? ⟨gb126, 6, none⟩ = some (.bool a0_6) := (blk_cell BK126.out 6).trans rfl; have hfz7_0 := blk_frozen BK126.out 0; have hfz7_1 := blk_frozen BK126.out 1; have hfz7_2 := blk_frozen BK126.out 2; have hfz7_3 := blk_frozen BK126.out 3; have hfz7_4 := blk_frozen BK126.out 4; have hfz7_5 := blk_frozen BK126.out 5; have hfz7_6 := blk_frozen BK126.out 6))
      have n0_ := Aside0.mk (blk_drew BK126.out)
      have n1_ := Aside0.mk (below_drew1 HB.out)
      clear BK126
      clear HB
      have BK126 := n0_
      have HB := n1_
      clear n0_ n1_
      refine start_ (n := 7) (S := fun w' => w'.cell? ⟨gb126, 0, none⟩ = some (.int .i64 a0_0) ∧ w'.cell? ⟨gb126, 1, none⟩ = some (.int .u8 a0_1) ∧ w'.cell? ⟨gb126, 2, none⟩ = some (.slice A0_2 l0_2.length c0_2) ∧ w'.cell? ⟨gb126, 3, none⟩ = some (.slice A0_3 l0_3.length c0_3) ∧ w'.cell? ⟨gb126, 4, none⟩ = some (.int .u8 a0_4) ∧ w'.cell? ⟨gb126, 5, none⟩ = some (.slice A0_5 l0_5.length c0_5) ∧ w'.cell? ⟨gb126, 6, none⟩ = some (.bool a0_6)) (ds := []) #[false, false, false, false, false, false, false] (by kernel_rfl) rfl rfl ⟨(blk_cell BK126.out 0).trans rfl, (blk_cell BK126.out 1).trans rfl, (blk_cell BK126.out 2).trans rfl, (blk_cell BK126.out 3).trans rfl, (blk_cell BK126.out 4).trans rfl, (blk_cell BK126.out 5).trans rfl, (blk_cell BK126.out 6).trans rfl⟩ (fun hHeld => ?_)
      generalize w6.drew = w8 at BK126 HB hHeld ⊢
      refine take_ (i := 0) (N := some 17) (v := ?_) (a' := ?_) #[true, false, false, false, false, false, false] rfl rfl (by kernel_rfl) (fun _ _ _ h => h) (Or.inl ⟨by rfl, ?_⟩) hHeld ?_ ?_
      rotate_left
      · rintro w' ⟨s0, s1, s2, s3, s4, s5, s6⟩
        go_simp
        with_reducible rfl
      rotate_left
      · simp only [Act.put, List.setIfInBounds_toArray, List.set_cons_zero, List.set_cons_succ, i64_w, i32_w]
        rfl
      refine take_ (i := 2) (N := some 19) (v := ?_) (a' := ?_) #[true, false, true, false, false, false, false] rfl rfl (by kernel_rfl) (fun _ _ _ h => h) (Or.inl ⟨by rfl, ?_⟩) hHeld ?_ ?_
      rotate_left
      · rintro w' ⟨s0, s1, s2, s3, s4, s5, s6⟩
        go_simp
        with_reducible rfl
      rotate_left
      · simp only [Act.put, List.setIfInBounds_toArray, List.set_cons_zero, List.set_cons_succ, i64_w, i32_w]
        rfl
      refine one_ (i := 1) (N := some 18) #[true, true, true, false, false, false, false] rfl rfl (by kernel_rfl) (by decide) (fun K hK => ?_)
      refine goes_ Tryz.func23 (by kernel_rfl) rfl #[.agg #[.int .i64 a0_0, .int .u8 a0_1, .slice A0_2 l0_2.length c0_2, .slice A0_3 l0_3.length c0_3, .int .u8 a0_4, .slice A0_5 l0_5.length c0_5, .bool a0_6]] (by rfl) rfl rfl (by (try simp only [List.map_toArray, List.map_cons, List.map_nil]); first | done | rfl | (simp only [List.length_drop, List.length_take]; rfl)) ?_
      with_reducible refine (spec_CommandOf.calls a0_0 a0_1 _ _ l0_2 _ _ l0_3 a0_4 _ _ l0_5 a0_6 t127 _ ?side1 ?side2 ?side3 ?side4 ?side5 ?side6 A4.out).mono ?_
      (case side1 => repeat (first | exact (Kd.C_below HR0_2.out HB.out) | (with_reducible refine Kd.C_alloc ?_ _) | (with_reducible refine Kd.C_drewN ?_ _) | (with_reducible refine Kd.C_drew ?_)))
      (case side2 => exact HC0_2.out)
      (case side3 => repeat (first | exact (Kd.C_below HR0_3.out HB.out) | (with_reducible refine Kd.C_alloc ?_ _) | (with_reducible refine Kd.C_drewN ?_ _) | (with_reducible refine Kd.C_drew ?_)))
      (case side4 => exact HC0_3.out)
      (case side5 => repeat (first | exact (Kd.C_below HR0_5.out HB.out) | (with_reducible refine Kd.C_alloc ?_ _) | (with_reducible refine Kd.C_drewN ?_ _) | (with_reducible refine Kd.C_drew ?_)))
      (case side6 => exact HC0_5.out)
      rintro e w9 ⟨rfl, hb⟩
      refine ⟨_, rfl, ?_⟩
      have n0_ := Aside0.mk (blk_below (g := gb126) (o := .cells #[.int .i64 a0_0, .int .u8 a0_1, .slice A0_2 l0_2.length c0_2, .slice A0_3 l0_3.length c0_3, .int .u8 a0_4, .slice A0_5 l0_5.length c0_5, .bool a0_6] 37 (0, 0)) (by (with_reducible repeat (first | refine blk_drewN ?_ _ | refine blk_drew ?_ | refine blk_alloc ?_ _)); exact BK126.out) hb)
      have n1_ := Aside0.mk (below_step (by repeat (first | (with_reducible first | exact HB.out | apply below_alloc | apply pw_below_drewN | apply below_drew1 | refine below_set ?_ GE126.out) | exact HB.out)) hb)
      clear BK126
      clear HB
      have BK126 := n0_
      have HB := n1_
      clear n0_ n1_
      (try clear hb)
      (try clear hb2)
      (try clear hk)
      (try clear hi)
      refine hK.out _ _ ⟨(blk_cell BK126.out 0).trans rfl, (blk_cell BK126.out 1).trans rfl, (blk_cell BK126.out 2).trans rfl, (blk_cell BK126.out 3).trans rfl, (blk_cell BK126.out 4).trans rfl, (blk_cell BK126.out 5).trans rfl, (blk_cell BK126.out 6).trans rfl⟩ (fun hHeld => ?_)
      clear hK K
      refine norm_ (a' := ?_) ?_ ?_
      rotate_left
      · show Act.put _ (some 18) _ = _
        simp only [Act.put, List.setIfInBounds_toArray, List.set_cons_zero, List.set_cons_succ, i64_w, i32_w]
        rfl
      refine one_ (i := 3) (N := some 20) #[true, true, true, true, false, false, false] rfl rfl (by kernel_rfl) (by decide) (fun K hK => ?_)
      refine goes_ Tryz.func24 (by kernel_rfl) rfl #[.agg #[.int .i64 a0_0, .int .u8 a0_1, .slice A0_2 l0_2.length c0_2, .slice A0_3 l0_3.length c0_3, .int .u8 a0_4, .slice A0_5 l0_5.length c0_5, .bool a0_6]] (by rfl) rfl rfl (by (try simp only [List.map_toArray, List.map_cons, List.map_nil]); first | done | rfl | (simp only [List.length_drop, List.length_take]; rfl)) ?_
      with_reducible refine (spec_PackedOf.calls k a0_0 a0_1 _ _ l0_2 _ _ l0_3 a0_4 _ _ l0_5 a0_6 t128 _ ?side1 ?side2 ?side3 ?side4 ?side5 ?side6 A5.out).mono ?_
      (case side1 => repeat (first | exact (Kd.C_below HR0_2.out HB.out) | (with_reducible refine Kd.C_alloc ?_ _) | (with_reducible refine Kd.C_drewN ?_ _) | (with_reducible refine Kd.C_drew ?_)))
      (case side2 => exact HC0_2.out)
      (case side3 => repeat (first | exact (Kd.C_below HR0_3.out HB.out) | (with_reducible refine Kd.C_alloc ?_ _) | (with_reducible refine Kd.C_drewN ?_ _) | (with_reducible refine Kd.C_drew ?_)))
      (case side4 => exact HC0_3.out)
      (case side5 => repeat (first | exact (Kd.C_below HR0_5.out HB.out) | (with_reducible refine Kd.C_alloc ?_ _) | (with_reducible refine Kd.C_drewN ?_ _) | (with_reducible refine Kd.C_drew ?_)))
      (case side6 => exact HC0_5.out)
      rintro e w10 ⟨v129, rfl, ho0, hb⟩
      refine ⟨_, rfl, ?_⟩
      have n0_ := Aside0.mk (Kd.R_lower (Kd.R_newM (M := fun k_ => (w.heap.size ≤ k_)) ho0 (below_size (by repeat (first | (with_reducible first | exact HB.out | apply below_alloc | apply pw_below_drewN | apply below_drew1 | refine below_set ?_ GE126.out) | exact HB.out))) (fun k_ h_ => h_)) (below_size (by repeat (first | (with_reducible first | exact HB.out | apply below_alloc | apply pw_below_drewN | apply below_drew1 | refine below_set ?_ GE126.out) | exact HB.out))))
      have n1_ := Aside0.mk (blk_below (g := gb126) (o := .cells #[.int .i64 a0_0, .int .u8 a0_1, .slice A0_2 l0_2.length c0_2, .slice A0_3 l0_3.length c0_3, .int .u8 a0_4, .slice A0_5 l0_5.length c0_5, .bool a0_6] 37 (0, 0)) (by (with_reducible repeat (first | refine blk_drewN ?_ _ | refine blk_drew ?_ | refine blk_alloc ?_ _)); exact BK126.out) hb)
      have n2_ := Aside0.mk (below_step (by repeat (first | (with_reducible first | exact HB.out | apply below_alloc | apply pw_below_drewN | apply below_drew1 | refine below_set ?_ GE126.out) | exact HB.out)) hb)
      clear BK126
      clear HB
      have HO130 := n0_
      have BK126 := n1_
      have HB := n2_
      clear n0_ n1_ n2_
      (try clear hb)
      (try clear hb2)
      (try clear hk)
      (try clear hi)
      (try clear ho0)
      obtain ⟨Ao11, co11, eo11⟩ := Kd.R_slice HO130.out
      (first | subst eo11 | (injection eo11 with f1_ f2_ f3_; have f4_ := f1_.symm; have f5_ := f3_.symm; clear f1_ f2_ f3_; subst f4_; subst f5_))
      refine hK.out _ _ ⟨(blk_cell BK126.out 0).trans rfl, (blk_cell BK126.out 1).trans rfl, (blk_cell BK126.out 2).trans rfl, (blk_cell BK126.out 3).trans rfl, (blk_cell BK126.out 4).trans rfl, (blk_cell BK126.out 5).trans rfl, (blk_cell BK126.out 6).trans rfl⟩ (fun hHeld => ?_)
      clear hK K
      refine norm_ (a' := ?_) ?_ ?_
      rotate_left
      · show Act.put _ (some 20) _ = _
        simp only [Act.put, List.setIfInBounds_toArray, List.set_cons_zero, List.set_cons_succ, i64_w, i32_w]
        rfl
      refine pure_ (i := 4) (N := some 21) (v := ?_) (a' := ?_) #[true, true, true, true, true, false, false] rfl rfl (by kernel_rfl) (fun _ _ _ h => h) (Or.inl ⟨by rfl, ?_⟩) ?_ ?_
      rotate_left
      · intro w'
        go_simp
        with_reducible rfl
      rotate_left
      · simp only [Act.put, List.setIfInBounds_toArray, List.set_cons_zero, List.set_cons_succ, i64_w, i32_w]
        rfl
      refine one_ (i := 5) (N := some 22) #[true, true, true, true, true, true, false] rfl rfl (by kernel_rfl) (by decide) (fun K hK => ?_)
      refine Kd.N_lit_step k39 _ 39 ?hg (N' := 22) ?hd (xs := ([(⟨2, 0, 0, t127, t128, ([] : List Int)⟩ : S39)] : List (S39))) (inner := [.int .i64 2, .int .i64 0, .int .u8 0, .int .i64 t127, .slice Ao11 t128.length co11, .slice none 0 0]) (ok := (fun k_ => (w.heap.size ≤ k_) ∧ k_ ≠ gb126)) (okp := (fun k_ => (w.heap.size ≤ k_) ∧ k_ ≠ gb126)) ?hr ?hp (fun _ hk => hk) ((show ∀ k_, w10.heap.size ≤ k_ → (fun k_ => (w.heap.size ≤ k_) ∧ k_ ≠ gb126) k_ from fun k_ hk => ⟨(Nat.le_trans (below_size (by repeat (first | (with_reducible first | exact HB.out | apply below_alloc | apply pw_below_drewN | apply below_drew1 | refine below_set ?_ GE126.out) | exact HB.out))) hk), Kd.freshB (g := gb126) (o := .cells #[.int .i64 a0_0, .int .u8 a0_1, .slice A0_2 l0_2.length c0_2, .slice A0_3 l0_3.length c0_3, .int .u8 a0_4, .slice A0_5 l0_5.length c0_5, .bool a0_6] 37 (0, 0)) (by (with_reducible repeat (first | refine blk_drewN ?_ _ | refine blk_drew ?_ | refine blk_alloc ?_ _)); exact BK126.out) k_ hk⟩) _ (Nat.le_refl _)) (Below.refl _ _) (Nat.le_refl _) (by simp) ?_; (case hd => rfl); (case hg => rfl); (case hr => first | (go_simp; done) | (go_simp; rfl)); (case hp => exact (Reps.c6 (show Kd.FK k39 _ _ (⟨2, 0, 0, t127, t128, ([] : List Int)⟩ : S39) [.int .i64 2, .int .i64 0, .int .u8 0, .int .i64 t127, .slice Ao11 t128.length co11, .slice none 0 0] from (k39_mkF _ _ (⟨2, 0, 0, t127, t128, ([] : List Int)⟩ : S39) (Kd.R_reads' (Kd.R_mono (ok' := (fun k_ => (w.heap.size ≤ k_) ∧ k_ ≠ gb126)) (Kd.R_types (HO130.out) BK126.out (by decide)) (fun k_ hk => ⟨hk.1.1, hk.2⟩))).2.1 (Kd.R_F (Kd.R_mono (ok' := (fun k_ => (w.heap.size ≤ k_) ∧ k_ ≠ gb126)) (Kd.R_types (HO130.out) BK126.out (by decide)) (fun k_ hk => ⟨hk.1.1, hk.2⟩))) (Nat.le_refl _) (Kd.F_nil _ _ _))) (Reps.none _ _)))
      intro v132 w12 ho13 hb hg_ hnew_
      clear hg_ hnew_
      (first | rw [← Ny131.out] at ho13 | (simp only [Int.reduceToNat] at ho13; rw [← Ny131.out] at ho13))
      have n0_ := Aside0.mk (Kd.N_lower ho13 (below_size (by repeat (first | (with_reducible first | exact HB.out | apply below_alloc | apply pw_below_drewN | apply below_drew1 | refine below_set ?_ GE126.out) | exact HB.out))))
      have n1_ := Aside0.mk (blk_below (g := gb126) (o := .cells #[.int .i64 a0_0, .int .u8 a0_1, .slice A0_2 l0_2.length c0_2, .slice A0_3 l0_3.length c0_3, .int .u8 a0_4, .slice A0_5 l0_5.length c0_5, .bool a0_6] 37 (0, 0)) (by (with_reducible repeat (first | refine blk_drewN ?_ _ | refine blk_drew ?_ | refine blk_alloc ?_ _)); exact BK126.out) hb)
      have n2_ := Aside0.mk (below_step (by repeat (first | (with_reducible first | exact HB.out | apply below_alloc | apply pw_below_drewN | apply below_drew1 | refine below_set ?_ GE126.out) | exact HB.out)) hb)
      clear BK126
      clear HB
      clear HO130
      have HO133 := n0_
      have BK126 := n1_
      have HB := n2_
      clear n0_ n1_ n2_
      clear hb ho13
      refine hK.out _ _ ⟨(blk_cell BK126.out 0).trans rfl, (blk_cell BK126.out 1).trans rfl, (blk_cell BK126.out 2).trans rfl, (blk_cell BK126.out 3).trans rfl, (blk_cell BK126.out 4).trans rfl, (blk_cell BK126.out 5).trans rfl, (blk_cell BK126.out 6).trans rfl⟩ (fun hHeld => ?_)
      clear hK K
      refine norm_ (a' := ?_) ?_ ?_
      rotate_left
      · show Act.put _ (some 22) _ = _
        simp only [Act.put, List.setIfInBounds_toArray, List.set_cons_zero, List.set_cons_succ, i64_w, i32_w]
        rfl
      refine pure_ (i := 6) (N := some 2) (v := ?_) (a' := ?_) #[true, true, true, true, true, true, true] rfl rfl (by kernel_rfl) (fun _ _ _ h => h) (Or.inl ⟨by rfl, ?_⟩) ?_ ?_
      rotate_left
      · intro w'
        go_simp
        with_reducible rfl
      rotate_left
      · simp only [Act.put, List.setIfInBounds_toArray, List.set_cons_zero, List.set_cons_succ, i64_w, i32_w]
        rfl
      refine done_ (by kernel_rfl) ?_
      try go_wp2
      go_ret
      exact ⟨_, by first | rfl | (simp [errW_none, errW_some] <;> rfl) | (simp [*, errW_none, errW_some] <;> rfl), by (with_reducible repeat (first | apply Kd.N_alloc | apply Kd.N_drewN | apply Kd.N_drew)); exact Kd.N_mono HO133.out (fun _ hk => hk.1), by repeat (first | (with_reducible first | exact HB.out | apply below_alloc | apply pw_below_drewN | apply below_drew1 | refine below_set ?_ GE126.out) | exact HB.out)⟩
    · rw [if_neg c3] at H
      exact absurd H (by simp)

end Go.Proofs.YtjdpkhnpgdangaaGreatDoor.PQ
