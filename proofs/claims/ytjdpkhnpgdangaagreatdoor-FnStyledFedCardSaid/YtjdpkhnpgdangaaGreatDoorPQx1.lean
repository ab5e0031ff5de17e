/- Contracts of functions that the law FnStyledFed reaches (read and made memory as stated), for this claim alone; no condition but those stated. -/
import Derived.Test.YtjdpkhnpgdangaaGreatDoorPQx0
namespace Go.Proofs.YtjdpkhnpgdangaaGreatDoor.PQ
open Go.RowKit Go.Proofs.YtjdpkhnpgdangaaGreatDoorW.PrintWords Go.Proofs.YtjdpkhnpgdangaaGreatDoorW.PrintLast Go.Proofs.YtjdpkhnpgdangaaGreatDoorW.PrintMore
attribute [local go_sem] max2_int min2_int max_two min_two max_three min_three max_four min_four   -- for this text's walks alone
set_option linter.unusedVariables false
set_option linter.unusedSimpArgs false

/-! ### spec_IsMadeCall: function 4 -/
mutual
def spec_IsMadeCall.l0 : Nat → List Int → Int → Int → Int → Int → Int → Int → List Int → List (S48) → ByteArray → Option (Bool)
  | 0, _, _, _, _, _, _, _, _, _, _ => none
  | k + 1, x15, x16, x17, x102000, x102001, x102002, x102003, x102004, x102005, x102006 => if x17 < x16 then (if 0 ≤ x17 then (if x17 < (x15.length : Int) then (if (rd x15 x17) < 0 then (some false) else (if (rd x15 x17) > 60000 then (some false) else (spec_IsMadeCall.l0 k x15 x16 (wrap64 (x17 + 1)) x102000 x102001 x102002 x102003 x102004 x102005 x102006))) else (none)) else (none)) else (spec_IsMadeCall.l1 k (x102005.length : Int) 0 x102000 x102001 x102002 x102003 x102004 x102005 x102006)
def spec_IsMadeCall.l1 : Nat → Int → Int → Int → Int → Int → Int → List Int → List (S48) → ByteArray → Option (Bool)
  | 0, _, _, _, _, _, _, _, _, _ => none
  | k + 1, x30, x31, x102000, x102001, x102002, x102003, x102004, x102005, x102006 => if x31 < x30 then (none) else (spec_IsMadeCall.l2 k 0 x102000 x102001 x102002 x102003 x102004 x102005 x102006)
def spec_IsMadeCall.l2 : Nat → Int → Int → Int → Int → Int → List Int → List (S48) → ByteArray → Option (Bool)
  | 0, _, _, _, _, _, _, _, _ => none
  | k + 1, x7, x102000, x102001, x102002, x102003, x102004, x102005, x102006 => if x7 < (x102006.size : Int) then (if 0 ≤ x7 then (if (bt x102006 x7) < 32 then (some false) else (if (bt x102006 x7) > 126 then (some false) else (spec_IsMadeCall.l2 k (wrap64 (x7 + 1)) x102000 x102001 x102002 x102003 x102004 x102005 x102006))) else (none)) else (if (x102004.length : Int) > 12 then (spec_IsMadeCall.j3 k true x102000 x102001 x102002 x102003 x102004 x102005 x102006) else (if (x102005.length : Int) > 12 then (none) else (if (x102006.size : Int) > 100 then (spec_IsMadeCall.j3 k true x102000 x102001 x102002 x102003 x102004 x102005 x102006) else (spec_IsMadeCall.j3 k (decide (x102001 < 0)) x102000 x102001 x102002 x102003 x102004 x102005 x102006))))
def spec_IsMadeCall.j3 : Nat → Bool → Int → Int → Int → Int → List Int → List (S48) → ByteArray → Option (Bool)
  | 0, _, _, _, _, _, _, _, _ => none
  | k + 1, x83, x102000, x102001, x102002, x102003, x102004, x102005, x102006 => if x83 = true then (some false) else (if x102000 = 0 then (none) else (if x102000 = 1 then (none) else (if x102000 = 2 then (none) else (if x102000 = 3 then (none) else (if x102000 = 4 then (none) else (if x102000 = 5 then (none) else (some (x102000 == 6))))))))
end
def spec_IsMadeCall.f (k : Nat) (a0_0 : Int) (a0_1 : Int) (a0_2 : Int) (a0_3 : Int) (l0_4 : List Int) (l0_5 : List (S48)) (a0_6 : ByteArray) : Option (Bool) := (some (([a0_2, a0_3] : List Int) : List Int)).bind fun y102 => (if y102.length + l0_4.length < 17592186044416 then ((some (y102 ++ l0_4 : List Int)).bind fun y105 => (spec_IsMadeCall.l0 k y105 (y105.length : Int) 0 a0_0 a0_1 a0_2 a0_3 l0_4 l0_5 a0_6)) else (none))
theorem spec_IsMadeCall.mono_l : ∀ k, (∀ y0 y1 y2 y3 y4 y5 y6 y7 y8 y9, LeO (spec_IsMadeCall.l0 k y0 y1 y2 y3 y4 y5 y6 y7 y8 y9) (spec_IsMadeCall.l0 (k + 1) y0 y1 y2 y3 y4 y5 y6 y7 y8 y9)) ∧ (∀ y0 y1 y2 y3 y4 y5 y6 y7 y8, LeO (spec_IsMadeCall.l1 k y0 y1 y2 y3 y4 y5 y6 y7 y8) (spec_IsMadeCall.l1 (k + 1) y0 y1 y2 y3 y4 y5 y6 y7 y8)) ∧ (∀ y0 y1 y2 y3 y4 y5 y6 y7, LeO (spec_IsMadeCall.l2 k y0 y1 y2 y3 y4 y5 y6 y7) (spec_IsMadeCall.l2 (k + 1) y0 y1 y2 y3 y4 y5 y6 y7)) ∧ (∀ y0 y1 y2 y3 y4 y5 y6 y7, LeO (spec_IsMadeCall.j3 k y0 y1 y2 y3 y4 y5 y6 y7) (spec_IsMadeCall.j3 (k + 1) y0 y1 y2 y3 y4 y5 y6 y7))
  | 0 => ⟨fun _ _ _ _ _ _ _ _ _ _ r h => by simp [spec_IsMadeCall.l0] at h, fun _ _ _ _ _ _ _ _ _ r h => by simp [spec_IsMadeCall.l1] at h, fun _ _ _ _ _ _ _ _ r h => by simp [spec_IsMadeCall.l2] at h, fun _ _ _ _ _ _ _ _ r h => by simp [spec_IsMadeCall.j3] at h⟩
  | k + 1 => by
    obtain ⟨ih0, ih1, ih2, ih3⟩ := spec_IsMadeCall.mono_l k
    refine ⟨?_, ?_, ?_, ?_⟩
    · intro y0 y1 y2 y3 y4 y5 y6 y7 y8 y9
      unfold spec_IsMadeCall.l0
      repeat' first
      | (with_reducible exact ih0 _ _ _ _ _ _ _ _ _ _)
      | (with_reducible exact ih1 _ _ _ _ _ _ _ _ _)
      | (with_reducible exact ih2 _ _ _ _ _ _ _ _)
      | (with_reducible exact ih3 _ _ _ _ _ _ _ _)
      | (with_reducible exact LeO.refl _)
      | (with_reducible exact LeO.none _)
      | (with_reducible refine LeO.ite ?_ ?_)
      | (with_reducible refine LeO.bind ?_ (fun _ => ?_))
      | exact ih0 _ _ _ _ _ _ _ _ _ _
      | exact ih1 _ _ _ _ _ _ _ _ _
      | exact ih2 _ _ _ _ _ _ _ _
      | exact ih3 _ _ _ _ _ _ _ _
      | exact LeO.none _
      | refine LeO.ite ?_ ?_
      | refine LeO.bind ?_ (fun _ => ?_)
    · intro y0 y1 y2 y3 y4 y5 y6 y7 y8
      unfold spec_IsMadeCall.l1
      repeat' first
      | (with_reducible exact ih0 _ _ _ _ _ _ _ _ _ _)
      | (with_reducible exact ih1 _ _ _ _ _ _ _ _ _)
      | (with_reducible exact ih2 _ _ _ _ _ _ _ _)
      | (with_reducible exact ih3 _ _ _ _ _ _ _ _)
      | (with_reducible exact LeO.refl _)
      | (with_reducible exact LeO.none _)
      | (with_reducible refine LeO.ite ?_ ?_)
      | (with_reducible refine LeO.bind ?_ (fun _ => ?_))
      | exact ih0 _ _ _ _ _ _ _ _ _ _
      | exact ih1 _ _ _ _ _ _ _ _ _
      | exact ih2 _ _ _ _ _ _ _ _
      | exact ih3 _ _ _ _ _ _ _ _
      | exact LeO.none _
      | refine LeO.ite ?_ ?_
      | refine LeO.bind ?_ (fun _ => ?_)
    · intro y0 y1 y2 y3 y4 y5 y6 y7
      unfold spec_IsMadeCall.l2
      repeat' first
      | (with_reducible exact ih0 _ _ _ _ _ _ _ _ _ _)
      | (with_reducible exact ih1 _ _ _ _ _ _ _ _ _)
      | (with_reducible exact ih2 _ _ _ _ _ _ _ _)
      | (with_reducible exact ih3 _ _ _ _ _ _ _ _)
      | (with_reducible exact LeO.refl _)
      | (with_reducible exact LeO.none _)
      | (with_reducible refine LeO.ite ?_ ?_)
      | (with_reducible refine LeO.bind ?_ (fun _ => ?_))
      | exact ih0 _ _ _ _ _ _ _ _ _ _
      | exact ih1 _ _ _ _ _ _ _ _ _
      | exact ih2 _ _ _ _ _ _ _ _
      | exact ih3 _ _ _ _ _ _ _ _
      | exact LeO.none _
      | refine LeO.ite ?_ ?_
      | refine LeO.bind ?_ (fun _ => ?_)
    · intro y0 y1 y2 y3 y4 y5 y6 y7
      unfold spec_IsMadeCall.j3
      repeat' first
      | (with_reducible exact ih0 _ _ _ _ _ _ _ _ _ _)
      | (with_reducible exact ih1 _ _ _ _ _ _ _ _ _)
      | (with_reducible exact ih2 _ _ _ _ _ _ _ _)
      | (with_reducible exact ih3 _ _ _ _ _ _ _ _)
      | (with_reducible exact LeO.refl _)
      | (with_reducible exact LeO.none _)
      | (with_reducible refine LeO.ite ?_ ?_)
      | (with_reducible refine LeO.bind ?_ (fun _ => ?_))
      | exact ih0 _ _ _ _ _ _ _ _ _ _
      | exact ih1 _ _ _ _ _ _ _ _ _
      | exact ih2 _ _ _ _ _ _ _ _
      | exact ih3 _ _ _ _ _ _ _ _
      | exact LeO.none _
      | refine LeO.ite ?_ ?_
      | refine LeO.bind ?_ (fun _ => ?_)
theorem spec_IsMadeCall.mono : ∀ a0 a1 a2 a3 a4 a5 a6 k, LeO (spec_IsMadeCall.f k a0 a1 a2 a3 a4 a5 a6) (spec_IsMadeCall.f (k + 1) a0 a1 a2 a3 a4 a5 a6) := by
  intro a0 a1 a2 a3 a4 a5 a6 k
  obtain ⟨ih0, ih1, ih2, ih3⟩ := spec_IsMadeCall.mono_l k
  unfold spec_IsMadeCall.f
  repeat' first
      | (with_reducible exact ih0 _ _ _ _ _ _ _ _ _ _)
      | (with_reducible exact ih1 _ _ _ _ _ _ _ _ _)
      | (with_reducible exact ih2 _ _ _ _ _ _ _ _)
      | (with_reducible exact ih3 _ _ _ _ _ _ _ _)
      | (with_reducible exact LeO.refl _)
      | (with_reducible exact LeO.none _)
      | (with_reducible refine LeO.ite ?_ ?_)
      | (with_reducible refine LeO.bind ?_ (fun _ => ?_))
      | exact ih0 _ _ _ _ _ _ _ _ _ _
      | exact ih1 _ _ _ _ _ _ _ _ _
      | exact ih2 _ _ _ _ _ _ _ _
      | exact ih3 _ _ _ _ _ _ _ _
      | exact LeO.none _
      | refine LeO.ite ?_ ?_
      | refine LeO.bind ?_ (fun _ => ?_)
set_option maxHeartbeats 8000000 in
set_option maxRecDepth 100000 in
theorem spec_IsMadeCall.calls (k : Nat) (a0_0 : Int) (a0_1 : Int) (a0_2 : Int) (a0_3 : Int) (A0_4 : Option Addr) (c0_4 : Nat) (l0_4 : List Int) (A0_5 : Option Addr) (c0_5 : Nat) (l0_5 : List (S48)) (a0_6 : ByteArray) (r : Bool) (w : World) (hr0_4 : Kd.C (Kd.int .i64) w A0_4 l0_4.length l0_4) (hc0_4 : l0_4.length ≤ c0_4) (hr0_5 : Kd.C k48 w A0_5 l0_5.length l0_5) (hc0_5 : l0_5.length ≤ c0_5) (h : spec_IsMadeCall.f k a0_0 a0_1 a0_2 a0_3 l0_4 l0_5 a0_6 = some r) :
    Calls Tryz.prog 4 #[.agg #[.int .i64 a0_0, .int .i64 a0_1, .int .i64 a0_2, .int .i64 a0_3, .slice A0_4 l0_4.length c0_4, .slice A0_5 l0_5.length c0_5, .string a0_6]] w fun e w' => e = .returned (.bool r) ∧ Below w.heap.size w w' := by
  have hu25 := Tryz.underlying25
  have hu48 := Tryz.underlying48
  have HR0_4 := Aside0.mk hr0_4
  have HC0_4 := Aside0.mk hc0_4
  clear hr0_4 hc0_4
  have HR0_5 := Aside0.mk hr0_5
  have HC0_5 := Aside0.mk hc0_5
  clear hr0_5 hc0_5
  have HB := Aside0.mk (Below.refl w.heap.size w)
  have H : ((some (([a0_2, a0_3] : List Int) : List Int)).bind fun y102 => (if y102.length + l0_4.length < 17592186044416 then ((some (y102 ++ l0_4 : List Int)).bind fun y105 => (spec_IsMadeCall.l0 k y105 (y105.length : Int) 0 a0_0 a0_1 a0_2 a0_3 l0_4 l0_5 a0_6)) else (none))) = some r := h
  clear h
  obtain ⟨y102, hy102⟩ : ∃ y_ : List Int, y_ = (([a0_2, a0_3] : List Int)) := ⟨_, rfl⟩
  replace H : (if y102.length + l0_4.length < 17592186044416 then ((some (y102 ++ l0_4 : List Int)).bind fun y105 => (spec_IsMadeCall.l0 k y105 (y105.length : Int) 0 a0_0 a0_1 a0_2 a0_3 l0_4 l0_5 a0_6)) else (none)) = some r := by first | (rw [hy102]; with_reducible exact H) | (have H2_ := (Option.bind_some _ _).symm.trans H; rw [hy102]; with_reducible exact H2_) | (have H2_ := (Option.bind_some _ _).symm.trans H; with_reducible exact H2_) | with_reducible exact H | (rw [hy102]; exact H) | exact H
  have Ny102 := Aside0.mk hy102
  clear hy102
  by_cases c2 : y102.length + l0_4.length < 17592186044416
  · rw [if_pos c2] at H
    have LMc2 := Aside0.mk c2
    clear c2
    obtain ⟨y105, hy105⟩ : ∃ y_ : List Int, y_ = (y102 ++ l0_4) := ⟨_, rfl⟩
    replace H : (spec_IsMadeCall.l0 k y105 (y105.length : Int) 0 a0_0 a0_1 a0_2 a0_3 l0_4 l0_5 a0_6) = some r := by first | (rw [hy105]; with_reducible exact H) | (have H2_ := (Option.bind_some _ _).symm.trans H; rw [hy105]; with_reducible exact H2_) | (have H2_ := (Option.bind_some _ _).symm.trans H; with_reducible exact H2_) | with_reducible exact H | (rw [hy105]; exact H) | exact H
    have Ny105 := Aside0.mk hy105
    clear hy105
    have H' := Aside0.mk H
    clear H
    go_enter Tryz.func4, Tryz.ntmps4
    go_wp2_with (first | ((with_reducible refine gate_dst (N := 1) rfl ?_); (try (refine gate_guard (by rfl) ?_; dsimp only)); refine box_event ?hg (N := 1) ?hd (cs := #[.int .i64 a0_0, .int .i64 a0_1, .int .i64 a0_2, .int .i64 a0_3, .slice A0_4 l0_4.length c0_4, .slice A0_5 l0_5.length c0_5, .string a0_6]) (t := 25) ?hr ?_; (case hd => rfl); (case hg => rfl); (case hr => first | (go_simp; done) | (go_simp; rfl)); intro gb101 hg w3 hbox hb; have n0_ := Aside0.mk (below_step (by repeat (first | (with_reducible first | exact HB.out | apply below_alloc | apply pw_below_drewN | apply below_drew1) | exact HB.out)) hb); have n1_ := Aside0.mk (hbox); have n2_ := Aside0.mk ((by rw [hg]; exact (below_size (by repeat (first | (with_reducible first | exact HB.out | apply below_alloc | apply pw_below_drewN | apply below_drew1) | exact HB.out))) : w.heap.size ≤ gb101)); have n3_ := Aside0.mk ((by rw [hg]; exact (below_size (by repeat (first | (with_reducible first | exact HB.out | apply below_alloc | apply pw_below_drewN | apply below_drew1) | exact HB.out))) : w.heap.size ≤ gb101)); clear HB; have HB := n0_; have BK101 := n1_; have GW101 := n2_; have GE101 := n3_; clear n0_ n1_ n2_ n3_; clear hb hbox hg; have hcz4_0 : w3.cell? ⟨gb101, 0, none⟩ = some (.int .i64 a0_0) := (blk_cell BK101.out 0).trans rfl; have hcz4_1 : w3.cell? ⟨gb101, 1, none⟩ = some (.int .i64 a0_1) := (blk_cell BK101.out 1).trans rfl; have hcz4_2 : w3.cell? ⟨gb101, 2, none⟩ = some (.int .i64 a0_2) := (blk_cell BK101.out 2).trans rfl; have hcz4_3 : w3.cell? ⟨gb101, 3, none⟩ = some (.int .i64 a0_3) := (blk_cell BK101.out 3).trans rfl; have hcz4_4 : w3.cell? ⟨gb101, 4, none⟩ = some (.slice A0_4 l0_4.length c0_4) := (blk_cell BK101.out 4).trans rfl; have hcz4_5 : w3.cell? ⟨gb101, 5, none⟩ = some (.slice A0_5 l0_5.length c0_5) := (blk_cell BK101.out 5).trans rfl; have hcz4_6 : w3.cell? ⟨gb101, 6, none⟩ = some (.string a0_6) := (blk_cell BK101.out 6).trans rfl; have hfz4_0 := blk_frozen BK101.out 0; have hfz4_1 := blk_frozen BK101.out 1; have hfz4_2 := blk_frozen BK101.out 2; have hfz4_3 := blk_frozen BK101.out 3; have hfz4_4 := blk_frozen BK101.out 4; have hfz4_5 := blk_frozen BK101.out 5; have hfz4_6 := blk_frozen BK101.out 6) | ((with_reducible refine gate_dst (N := 12) rfl ?_); (try (refine gate_guard (by rfl) ?_; dsimp only)); refine Kd.R_lit (Kd.int .i64) _ 2 ?hg (N := 12) ?hd (xs := ([a0_2, a0_3] : List Int)) (inner := [.int .i64 a0_2, .int .i64 a0_3]) (ok := fun _ => True) (okp := fun _ => True) ?hr ?hp (fun _ hk => hk) trivial (Below.refl _ _) (Nat.le_refl _) (by simp) ?_; (case hd => rfl); (case hg => rfl); (case hr => first | (go_simp; done) | (go_simp; rfl)); (case hp => exact (Reps.one (show Kd.M (Kd.int .i64) _ _ _ a0_2 [.int .i64 a0_2] from rfl) (Reps.one (show Kd.M (Kd.int .i64) _ _ _ a0_3 [.int .i64 a0_3] from rfl) (Reps.none _ _)))); intro v103 w5 ho6 hb hg_ hnew_; clear hg_ hnew_; (first | rw [← Ny102.out] at ho6 | (simp only [Int.reduceToNat] at ho6; rw [← Ny102.out] at ho6)); have n0_ := Aside0.mk (Kd.R_lower ho6 (below_size (by repeat (first | (with_reducible first | exact HB.out | apply below_alloc | apply pw_below_drewN | apply below_drew1 | refine below_set ?_ GE101.out) | exact HB.out)))); have n1_ := Aside0.mk (blk_below (g := gb101) (o := .cells #[.int .i64 a0_0, .int .i64 a0_1, .int .i64 a0_2, .int .i64 a0_3, .slice A0_4 l0_4.length c0_4, .slice A0_5 l0_5.length c0_5, .string a0_6] 25 (0, 0)) (by (with_reducible repeat (first | refine blk_drewN ?_ _ | refine blk_drew ?_ | refine blk_alloc ?_ _)); exact BK101.out) hb); have n2_ := Aside0.mk (below_step (by repeat (first | (with_reducible first | exact HB.out | apply below_alloc | apply pw_below_drewN | apply below_drew1 | refine below_set ?_ GE101.out) | exact HB.out)) hb); clear BK101; clear HB; have HO104 := n0_; have BK101 := n1_; have HB := n2_; clear n0_ n1_ n2_; clear hb ho6; have hcz7_0 : w5.cell? ⟨gb101, 0, none⟩ = some (.int .i64 a0_0) := (blk_cell BK101.out 0).trans rfl; have hcz7_1 : w5.cell? ⟨gb101, 1, none⟩ = some (.int .i64 a0_1) := (blk_cell BK101.out 1).trans rfl; have hcz7_2 : w5.cell? ⟨gb101, 2, none⟩ = some (.int .i64 a0_2) := (blk_cell BK101.out 2).trans rfl; have hcz7_3 : w5.cell? ⟨gb101, 3, none⟩ = some (.int .i64 a0_3) := (blk_cell BK101.out 3).trans rfl; have hcz7_4 : w5.cell? ⟨gb101, 4, none⟩ = some (.slice A0_4 l0_4.length c0_4) := (blk_cell BK101.out 4).trans rfl; have hcz7_5 : w5.cell? ⟨gb101, 5, none⟩ = some (.slice A0_5 l0_5.length c0_5) := (blk_cell BK101.out 5).trans rfl; have hcz7_6 : w5.cell? ⟨gb101, 6, none⟩ = some (.string a0_6) := (blk_cell BK101.out 6).trans rfl; have hfz7_0 := blk_frozen BK101.out 0; have hfz7_1 := blk_frozen BK101.out 1; have hfz7_2 := blk_frozen BK101.out 2; have hfz7_3 := blk_frozen BK101.out 3; have hfz7_4 := blk_frozen BK101.out 4; have hfz7_5 := blk_frozen BK101.out 5; have hfz7_6 := blk_frozen BK101.out 6) | ((with_reducible refine gate_builtin (b := .append) (xs := #[.tmp 12, .tmp 14]) rfl ?_); (try (refine gate_guard (by rfl) ?_; dsimp only)); at_builtin; refine Kd.R_append_rows (Kd.int .i64) (w0 := w) w.heap.size rfl (.tmp 12) (.tmp 14) 22 2 (.int .i64 0) 8 rfl Tryz.underlying22 info2 rfl (by decide) (by omega) v103 y102 l0_4 _ _ _ (fun _ => True) (fun _ => False) rfl rfl ?aO ?aR (fun _ _ h => h) (fun _ h => h.elim) ?aF ?aB ?aS ?aL ?_; (case aR => repeat (first | exact (Kd.C_below HR0_4.out HB.out) | (with_reducible refine Kd.C_alloc ?_ _) | (with_reducible refine Kd.C_drewN ?_ _) | (with_reducible refine Kd.C_drew ?_))); (case aB => exact (by repeat (first | (with_reducible first | exact HB.out | apply below_alloc | apply pw_below_drewN | apply below_drew1 | refine below_set ?_ GE101.out) | exact HB.out))); (case aF => exact (fun _ _ => trivial)); (case aO => exact (by (with_reducible repeat (first | apply Kd.R_alloc | apply Kd.R_drewN | apply Kd.R_drew)); exact HO104.out)); (case aS => exact (below_size (by repeat (first | (with_reducible first | exact HB.out | apply below_alloc | apply pw_below_drewN | apply below_drew1 | refine below_set ?_ GE101.out) | exact HB.out)))); (case aL => have := LMc2.out; omega); intro v106 w8 ho hb hg hat; rw [← Ny105.out] at ho; have n0_ := Aside0.mk (blk_grown (g := gb101) (o := .cells #[.int .i64 a0_0, .int .i64 a0_1, .int .i64 a0_2, .int .i64 a0_3, .slice A0_4 l0_4.length c0_4, .slice A0_5 l0_5.length c0_5, .string a0_6] 25 (0, 0)) (by (with_reducible repeat (first | refine blk_drewN ?_ _ | refine blk_drew ?_ | refine blk_alloc ?_ _)); exact BK101.out) hg (Kd.R_ne HO104.out BK101.out (by decide))); have n1_ := Aside0.mk (hb); have n2_ := Aside0.mk (ho); clear BK101; clear HB; clear HO104; have BK101 := n0_; have HB := n1_; have HO107 := n2_; clear n0_ n1_ n2_; clear ho hb hg hat; obtain ⟨Ao9, co9, eo9⟩ := Kd.R_slice HO107.out; subst eo9))
    go_loopg [17] k (fun kq v17 w' => ∃ (x17_1 : Int), v17 = .int .i64 x17_1 ∧ Aside0 (spec_IsMadeCall.l0 kq y105 (y105.length : Int) x17_1 a0_0 a0_1 a0_2 a0_3 l0_4 l0_5 a0_6 = some r) ∧ Aside0 (kq ≤ k) ∧ Aside0 (Kd.R (Kd.int .i64) 2 w' w.heap.size (fun _ => True) (.slice Ao9 y105.length co9) y105) ∧ Aside0 (w'.heap[gb101]? = some (.cells #[.int .i64 a0_0, .int .i64 a0_1, .int .i64 a0_2, .int .i64 a0_3, (.slice A0_4 l0_4.length c0_4), (.slice A0_5 l0_5.length c0_5), .string a0_6] 25 (0, 0))) ∧ Aside0 (Below w.heap.size w w'))
    case atStart => exact ⟨(0), (by first | rfl | (simp; done) | (simp [*]; done)), H', ⟨Nat.le_refl _⟩, ⟨by (with_reducible repeat (first | apply Kd.R_alloc | apply Kd.R_drewN | apply Kd.R_drew)); exact HO107.out⟩, ⟨by (with_reducible repeat (first | refine blk_drewN ?_ _ | refine blk_drew ?_ | refine blk_alloc ?_ _)); exact BK101.out⟩, ⟨by repeat (first | (with_reducible first | exact HB.out | apply below_alloc | apply pw_below_drewN | apply below_drew1 | refine below_set ?_ GE101.out) | exact HB.out)⟩⟩
    case round =>
      clear H'
      try clear c2
      try clear p2
      try clear c4
      try clear hcz4_0
      try clear hcz4_1
      try clear hcz4_2
      try clear hcz4_3
      try clear hcz4_4
      try clear hcz4_5
      try clear hcz4_6
      try clear hcz7_0
      try clear hcz7_1
      try clear hcz7_2
      try clear hcz7_3
      try clear hcz7_4
      try clear hcz7_5
      try clear hcz7_6
      try clear hfz4_0
      try clear hfz4_1
      try clear hfz4_2
      try clear hfz4_3
      try clear hfz4_4
      try clear hfz4_5
      try clear hfz4_6
      try clear hfz7_0
      try clear hfz7_1
      try clear hfz7_2
      try clear hfz7_3
      try clear hfz7_4
      try clear hfz7_5
      try clear hfz7_6
      obtain ⟨x17_1, rfl, HA, HK1, HO_15, BK101, HB⟩ := hrel
      cases gk with
      | zero => exact absurd HA.out (by simp [spec_IsMadeCall.l0])
      | succ k1 =>
        have H := HA.out
        clear HA
        simp only [spec_IsMadeCall.l0] at H
        by_cases c10 : x17_1 < (y105.length : Int)
        · rw [if_pos c10] at H
          have c10b0 : decide (x17_1 < (y105.length : Int)) = true := decide_eq_true c10
          clear c10
          by_cases c11 : 0 ≤ x17_1
          · rw [if_pos c11] at H
            have c11b0 : decide (0 ≤ x17_1) = true := decide_eq_true c11
            clear c11
            by_cases c12 : x17_1 < (y105.length : Int)
            · rw [if_pos c12] at H
              have c12b0 : decide (x17_1 < (y105.length : Int)) = true := decide_eq_true c12
              clear c12
              by_cases c13 : (rd y105 x17_1) < 0
              · rw [if_pos c13] at H
                have c13b0 : decide ((rd y105 x17_1) < 0) = true := decide_eq_true c13
                clear c13
                obtain rfl := Option.some.inj H
                have p108 : 0 ≤ (x17_1 : Int) := of_decide_eq_true (by first | (with_reducible assumption) | assumption)
                have q108 : x17_1 < (y105.length : Int) := of_decide_eq_true (by first | (with_reducible assumption) | assumption)
                obtain ⟨ad108, e108, hx108_0⟩ := Kd.at_int (Kd.R_reads' HO_15.out).2.2 x17_1 p108 q108
                cases e108
                replace p108 := eq_true p108
                replace q108 := eq_true q108
                go_wp2
                go_ret
                exact ⟨by first | rfl | (simp [errW_none, errW_some] <;> rfl) | (simp [*, errW_none, errW_some] <;> rfl), by repeat (first | (with_reducible first | exact HB.out | apply below_alloc | apply pw_below_drewN | apply below_drew1 | refine below_set ?_ GE101.out) | exact HB.out)⟩
              · rw [if_neg c13] at H
                have c13b0 : decide ((rd y105 x17_1) < 0) = false := decide_eq_false c13
                clear c13
                by_cases c14 : (rd y105 x17_1) > 60000
                · rw [if_pos c14] at H
                  have c14b0 : decide (60000 < (rd y105 x17_1)) = true := decide_eq_true c14
                  clear c14
                  obtain rfl := Option.some.inj H
                  have p108 : 0 ≤ (x17_1 : Int) := of_decide_eq_true (by first | (with_reducible assumption) | assumption)
                  have q108 : x17_1 < (y105.length : Int) := of_decide_eq_true (by first | (with_reducible assumption) | assumption)
                  obtain ⟨ad108, e108, hx108_0⟩ := Kd.at_int (Kd.R_reads' HO_15.out).2.2 x17_1 p108 q108
                  cases e108
                  replace p108 := eq_true p108
                  replace q108 := eq_true q108
                  go_wp2
                  go_ret
                  exact ⟨by first | rfl | (simp [errW_none, errW_some] <;> rfl) | (simp [*, errW_none, errW_some] <;> rfl), by repeat (first | (with_reducible first | exact HB.out | apply below_alloc | apply pw_below_drewN | apply below_drew1 | refine below_set ?_ GE101.out) | exact HB.out)⟩
                · rw [if_neg c14] at H
                  have c14b0 : decide (60000 < (rd y105 x17_1)) = false := decide_eq_false c14
                  clear c14
                  have H' := Aside0.mk H
                  clear H
                  have p108 : 0 ≤ (x17_1 : Int) := of_decide_eq_true (by first | (with_reducible assumption) | assumption)
                  have q108 : x17_1 < (y105.length : Int) := of_decide_eq_true (by first | (with_reducible assumption) | assumption)
                  obtain ⟨ad108, e108, hx108_0⟩ := Kd.at_int (Kd.R_reads' HO_15.out).2.2 x17_1 p108 q108
                  cases e108
                  replace p108 := eq_true p108
                  replace q108 := eq_true q108
                  go_wp2
                  go_roundg k1
                  case measure => have := HK1.out; omega
                  case rel => exact ⟨(wrap64 (x17_1 + 1)), (by first | rfl | (simp; done) | (simp [*]; done)), H', ⟨by have := HK1.out; omega⟩, ⟨by (with_reducible repeat (first | apply Kd.R_alloc | apply Kd.R_drewN | apply Kd.R_drew)); exact HO_15.out⟩, ⟨by (with_reducible repeat (first | refine blk_drewN ?_ _ | refine blk_drew ?_ | refine blk_alloc ?_ _)); exact BK101.out⟩, ⟨by repeat (first | (with_reducible first | exact HB.out | apply below_alloc | apply pw_below_drewN | apply below_drew1 | refine below_set ?_ GE101.out) | exact HB.out)⟩⟩
            · rw [if_neg c12] at H
              exact absurd H (by simp)
          · rw [if_neg c11] at H
            exact absurd H (by simp)
        · rw [if_neg c10] at H
          have c10b0 : decide (x17_1 < (y105.length : Int)) = false := decide_eq_false c10
          clear c10
          have H' := Aside0.mk H
          clear H
          have hcz15_0 : wr.cell? ⟨gb101, 0, none⟩ = some (.int .i64 a0_0) := (blk_cell BK101.out 0).trans rfl
          have hcz15_1 : wr.cell? ⟨gb101, 1, none⟩ = some (.int .i64 a0_1) := (blk_cell BK101.out 1).trans rfl
          have hcz15_2 : wr.cell? ⟨gb101, 2, none⟩ = some (.int .i64 a0_2) := (blk_cell BK101.out 2).trans rfl
          have hcz15_3 : wr.cell? ⟨gb101, 3, none⟩ = some (.int .i64 a0_3) := (blk_cell BK101.out 3).trans rfl
          have hcz15_4 : wr.cell? ⟨gb101, 4, none⟩ = some (.slice A0_4 l0_4.length c0_4) := (blk_cell BK101.out 4).trans rfl
          have hcz15_5 : wr.cell? ⟨gb101, 5, none⟩ = some (.slice A0_5 l0_5.length c0_5) := (blk_cell BK101.out 5).trans rfl
          have hcz15_6 : wr.cell? ⟨gb101, 6, none⟩ = some (.string a0_6) := (blk_cell BK101.out 6).trans rfl
          have hfz15_0 := blk_frozen BK101.out 0
          have hfz15_1 := blk_frozen BK101.out 1
          have hfz15_2 := blk_frozen BK101.out 2
          have hfz15_3 := blk_frozen BK101.out 3
          have hfz15_4 := blk_frozen BK101.out 4
          have hfz15_5 := blk_frozen BK101.out 5
          have hfz15_6 := blk_frozen BK101.out 6
          go_wp2
          go_loopg [31] k1 (fun kq v31 w' => ∃ (x31_2 : Int), v31 = .int .i64 x31_2 ∧ Aside0 (spec_IsMadeCall.l1 kq (l0_5.length : Int) x31_2 a0_0 a0_1 a0_2 a0_3 l0_4 l0_5 a0_6 = some r) ∧ Aside0 (kq ≤ k1) ∧ Aside0 (w'.heap[gb101]? = some (.cells #[.int .i64 a0_0, .int .i64 a0_1, .int .i64 a0_2, .int .i64 a0_3, (.slice A0_4 l0_4.length c0_4), (.slice A0_5 l0_5.length c0_5), .string a0_6] 25 (0, 0))) ∧ Aside0 (Below w.heap.size w w'))
          case atStart => exact ⟨(0), (by first | rfl | (simp; done) | (simp [*]; done)), H', ⟨Nat.le_refl _⟩, ⟨by (with_reducible repeat (first | refine blk_drewN ?_ _ | refine blk_drew ?_ | refine blk_alloc ?_ _)); exact BK101.out⟩, ⟨by repeat (first | (with_reducible first | exact HB.out | apply below_alloc | apply pw_below_drewN | apply below_drew1 | refine below_set ?_ GE101.out) | exact HB.out)⟩⟩
          case round =>
            clear H'
            try clear c1
            try clear p1
            try clear q1
            try clear hx1
            try clear c2
            try clear p2
            try clear c4
            try clear p6
            try clear c10
            try clear c10b0
            try clear p10
            try clear q10
            try clear hx10
            try clear c11
            try clear c11b0
            try clear c12
            try clear c12b0
            try clear c13
            try clear c13b0
            try clear c14
            try clear c14b0
            try clear hcz15_0
            try clear hcz15_1
            try clear hcz15_2
            try clear hcz15_3
            try clear hcz15_4
            try clear hcz15_5
            try clear hcz15_6
            try clear hcz4_0
            try clear hcz4_1
            try clear hcz4_2
            try clear hcz4_3
            try clear hcz4_4
            try clear hcz4_5
            try clear hcz4_6
            try clear hcz7_0
            try clear hcz7_1
            try clear hcz7_2
            try clear hcz7_3
            try clear hcz7_4
            try clear hcz7_5
            try clear hcz7_6
            try clear hfz15_0
            try clear hfz15_1
            try clear hfz15_2
            try clear hfz15_3
            try clear hfz15_4
            try clear hfz15_5
            try clear hfz15_6
            try clear hfz4_0
            try clear hfz4_1
            try clear hfz4_2
            try clear hfz4_3
            try clear hfz4_4
            try clear hfz4_5
            try clear hfz4_6
            try clear hfz7_0
            try clear hfz7_1
            try clear hfz7_2
            try clear hfz7_3
            try clear hfz7_4
            try clear hfz7_5
            try clear hfz7_6
            try clear hx108_0
            try clear p108
            try clear p2
            try clear q108
            obtain ⟨x31_2, rfl, HA, HK2, BK101, HB⟩ := hrel
            cases gk with
            | zero => exact absurd HA.out (by simp [spec_IsMadeCall.l1])
            | succ k2 =>
              have H := HA.out
              clear HA
              simp only [spec_IsMadeCall.l1] at H
              by_cases c16 : x31_2 < (l0_5.length : Int)
              · rw [if_pos c16] at H
                exact absurd H (by simp)
              · rw [if_neg c16] at H
                have c16b0 : decide (x31_2 < (l0_5.length : Int)) = false := decide_eq_false c16
                clear c16
                have H' := Aside0.mk H
                clear H
                go_wp2
                go_loopg [7] k2 (fun kq v7 w' => ∃ (x7_3 : Int), v7 = .int .i64 x7_3 ∧ Aside0 (spec_IsMadeCall.l2 kq x7_3 a0_0 a0_1 a0_2 a0_3 l0_4 l0_5 a0_6 = some r) ∧ Aside0 (kq ≤ k2) ∧ Aside0 (w'.heap[gb101]? = some (.cells #[.int .i64 a0_0, .int .i64 a0_1, .int .i64 a0_2, .int .i64 a0_3, (.slice A0_4 l0_4.length c0_4), (.slice A0_5 l0_5.length c0_5), .string a0_6] 25 (0, 0))) ∧ Aside0 (Below w.heap.size w w'))
                case atStart => exact ⟨(0), (by first | rfl | (simp; done) | (simp [*]; done)), H', ⟨Nat.le_refl _⟩, ⟨by (with_reducible repeat (first | refine blk_drewN ?_ _ | refine blk_drew ?_ | refine blk_alloc ?_ _)); exact BK101.out⟩, ⟨by repeat (first | (with_reducible first | exact HB.out | apply below_alloc | apply pw_below_drewN | apply below_drew1 | refine below_set ?_ GE101.out) | exact HB.out)⟩⟩
                case round =>
                  clear H'
                  try clear c1
                  try clear p1
                  try clear q1
                  try clear hx1
                  try clear c2
                  try clear p2
                  try clear c4
                  try clear p6
                  try clear c10
                  try clear c10b0
                  try clear p10
                  try clear q10
                  try clear hx10
                  try clear c11
                  try clear c11b0
                  try clear c12
                  try clear c12b0
                  try clear c13
                  try clear c13b0
                  try clear c14
                  try clear c14b0
                  try clear c16
                  try clear c16b0
                  try clear hcz15_0
                  try clear hcz15_1
                  try clear hcz15_2
                  try clear hcz15_3
                  try clear hcz15_4
                  try clear hcz15_5
                  try clear hcz15_6
                  try clear hcz4_0
                  try clear hcz4_1
                  try clear hcz4_2
                  try clear hcz4_3
                  try clear hcz4_4
                  try clear hcz4_5
                  try clear hcz4_6
                  try clear hcz7_0
                  try clear hcz7_1
                  try clear hcz7_2
                  try clear hcz7_3
                  try clear hcz7_4
                  try clear hcz7_5
                  try clear hcz7_6
                  try clear hfz15_0
                  try clear hfz15_1
                  try clear hfz15_2
                  try clear hfz15_3
                  try clear hfz15_4
                  try clear hfz15_5
                  try clear hfz15_6
                  try clear hfz4_0
                  try clear hfz4_1
                  try clear hfz4_2
                  try clear hfz4_3
                  try clear hfz4_4
                  try clear hfz4_5
                  try clear hfz4_6
                  try clear hfz7_0
                  try clear hfz7_1
                  try clear hfz7_2
                  try clear hfz7_3
                  try clear hfz7_4
                  try clear hfz7_5
                  try clear hfz7_6
                  try clear hx108_0
                  try clear p1
                  try clear p10
                  try clear p108
                  try clear p2
                  try clear p6
                  try clear q1
                  try clear q10
                  try clear q108
                  obtain ⟨x7_3, rfl, HA, HK3, BK101, HB⟩ := hrel
                  cases gk with
                  | zero => exact absurd HA.out (by simp [spec_IsMadeCall.l2])
                  | succ k3 =>
                    have H := HA.out
                    clear HA
                    simp only [spec_IsMadeCall.l2] at H
                    by_cases c17 : x7_3 < (a0_6.size : Int)
                    · rw [if_pos c17] at H
                      have c17b0 : decide (x7_3 < (a0_6.size : Int)) = true := decide_eq_true c17
                      clear c17
                      by_cases c18 : 0 ≤ x7_3
                      · rw [if_pos c18] at H
                        have c18b0 : decide (0 ≤ x7_3) = true := decide_eq_true c18
                        clear c18
                        by_cases c20 : (bt a0_6 x7_3) < 32
                        · rw [if_pos c20] at H
                          have c20b0 : decide ((bt a0_6 x7_3) < 32) = true := decide_eq_true c20
                          clear c20
                          obtain rfl := Option.some.inj H
                          have hcz21_0 : wr.cell? ⟨gb101, 0, none⟩ = some (.int .i64 a0_0) := (blk_cell BK101.out 0).trans rfl
                          have hcz21_1 : wr.cell? ⟨gb101, 1, none⟩ = some (.int .i64 a0_1) := (blk_cell BK101.out 1).trans rfl
                          have hcz21_2 : wr.cell? ⟨gb101, 2, none⟩ = some (.int .i64 a0_2) := (blk_cell BK101.out 2).trans rfl
                          have hcz21_3 : wr.cell? ⟨gb101, 3, none⟩ = some (.int .i64 a0_3) := (blk_cell BK101.out 3).trans rfl
                          have hcz21_4 : wr.cell? ⟨gb101, 4, none⟩ = some (.slice A0_4 l0_4.length c0_4) := (blk_cell BK101.out 4).trans rfl
                          have hcz21_5 : wr.cell? ⟨gb101, 5, none⟩ = some (.slice A0_5 l0_5.length c0_5) := (blk_cell BK101.out 5).trans rfl
                          have hcz21_6 : wr.cell? ⟨gb101, 6, none⟩ = some (.string a0_6) := (blk_cell BK101.out 6).trans rfl
                          have hfz21_0 := blk_frozen BK101.out 0
                          have hfz21_1 := blk_frozen BK101.out 1
                          have hfz21_2 := blk_frozen BK101.out 2
                          have hfz21_3 := blk_frozen BK101.out 3
                          have hfz21_4 := blk_frozen BK101.out 4
                          have hfz21_5 := blk_frozen BK101.out 5
                          have hfz21_6 := blk_frozen BK101.out 6
                          have p19 : 0 ≤ (x7_3 : Int) := of_decide_eq_true (by first | (with_reducible assumption) | assumption)
                          have q19 : x7_3 < (a0_6.size : Int) := of_decide_eq_true (by first | (with_reducible assumption) | assumption)
                          have hx19 := bt_at a0_6 x7_3
                          replace p19 := eq_true p19
                          replace q19 := eq_true q19
                          go_wp2
                          go_ret
                          exact ⟨by first | rfl | (simp [errW_none, errW_some] <;> rfl) | (simp [*, errW_none, errW_some] <;> rfl), by repeat (first | (with_reducible first | exact HB.out | apply below_alloc | apply pw_below_drewN | apply below_drew1 | refine below_set ?_ GE101.out) | exact HB.out)⟩
                        · rw [if_neg c20] at H
                          have c20b0 : decide ((bt a0_6 x7_3) < 32) = false := decide_eq_false c20
                          clear c20
                          by_cases c23 : (bt a0_6 x7_3) > 126
                          · rw [if_pos c23] at H
                            have c23b0 : decide (126 < (bt a0_6 x7_3)) = true := decide_eq_true c23
                            clear c23
                            obtain rfl := Option.some.inj H
                            have hcz24_0 : wr.cell? ⟨gb101, 0, none⟩ = some (.int .i64 a0_0) := (blk_cell BK101.out 0).trans rfl
                            have hcz24_1 : wr.cell? ⟨gb101, 1, none⟩ = some (.int .i64 a0_1) := (blk_cell BK101.out 1).trans rfl
                            have hcz24_2 : wr.cell? ⟨gb101, 2, none⟩ = some (.int .i64 a0_2) := (blk_cell BK101.out 2).trans rfl
                            have hcz24_3 : wr.cell? ⟨gb101, 3, none⟩ = some (.int .i64 a0_3) := (blk_cell BK101.out 3).trans rfl
                            have hcz24_4 : wr.cell? ⟨gb101, 4, none⟩ = some (.slice A0_4 l0_4.length c0_4) := (blk_cell BK101.out 4).trans rfl
                            have hcz24_5 : wr.cell? ⟨gb101, 5, none⟩ = some (.slice A0_5 l0_5.length c0_5) := (blk_cell BK101.out 5).trans rfl
                            have hcz24_6 : wr.cell? ⟨gb101, 6, none⟩ = some (.string a0_6) := (blk_cell BK101.out 6).trans rfl
                            have hfz24_0 := blk_frozen BK101.out 0
                            have hfz24_1 := blk_frozen BK101.out 1
                            have hfz24_2 := blk_frozen BK101.out 2
                            have hfz24_3 := blk_frozen BK101.out 3
                            have hfz24_4 := blk_frozen BK101.out 4
                            have hfz24_5 := blk_frozen BK101.out 5
                            have hfz24_6 := blk_frozen BK101.out 6
                            have p19 : 0 ≤ (x7_3 : Int) := of_decide_eq_true (by first | (with_reducible assumption) | assumption)
                            have q19 : x7_3 < (a0_6.size : Int) := of_decide_eq_true (by first | (with_reducible assumption) | assumption)
                            have hx19 := bt_at a0_6 x7_3
                            replace p19 := eq_true p19
                            replace q19 := eq_true q19
                            have p22 : 0 ≤ (x7_3 : Int) := of_decide_eq_true (by first | (with_reducible assumption) | assumption)
                            have q22 : x7_3 < (a0_6.size : Int) := of_decide_eq_true (by first | (with_reducible assumption) | assumption)
                            have hx22 := bt_at a0_6 x7_3
                            replace p22 := eq_true p22
                            replace q22 := eq_true q22
                            go_wp2
                            go_ret
                            exact ⟨by first | rfl | (simp [errW_none, errW_some] <;> rfl) | (simp [*, errW_none, errW_some] <;> rfl), by repeat (first | (with_reducible first | exact HB.out | apply below_alloc | apply pw_below_drewN | apply below_drew1 | refine below_set ?_ GE101.out) | exact HB.out)⟩
                          · rw [if_neg c23] at H
                            have c23b0 : decide (126 < (bt a0_6 x7_3)) = false := decide_eq_false c23
                            clear c23
                            have H' := Aside0.mk H
                            clear H
                            have hcz25_0 : wr.cell? ⟨gb101, 0, none⟩ = some (.int .i64 a0_0) := (blk_cell BK101.out 0).trans rfl
                            have hcz25_1 : wr.cell? ⟨gb101, 1, none⟩ = some (.int .i64 a0_1) := (blk_cell BK101.out 1).trans rfl
                            have hcz25_2 : wr.cell? ⟨gb101, 2, none⟩ = some (.int .i64 a0_2) := (blk_cell BK101.out 2).trans rfl
                            have hcz25_3 : wr.cell? ⟨gb101, 3, none⟩ = some (.int .i64 a0_3) := (blk_cell BK101.out 3).trans rfl
                            have hcz25_4 : wr.cell? ⟨gb101, 4, none⟩ = some (.slice A0_4 l0_4.length c0_4) := (blk_cell BK101.out 4).trans rfl
                            have hcz25_5 : wr.cell? ⟨gb101, 5, none⟩ = some (.slice A0_5 l0_5.length c0_5) := (blk_cell BK101.out 5).trans rfl
                            have hcz25_6 : wr.cell? ⟨gb101, 6, none⟩ = some (.string a0_6) := (blk_cell BK101.out 6).trans rfl
                            have hfz25_0 := blk_frozen BK101.out 0
                            have hfz25_1 := blk_frozen BK101.out 1
                            have hfz25_2 := blk_frozen BK101.out 2
                            have hfz25_3 := blk_frozen BK101.out 3
                            have hfz25_4 := blk_frozen BK101.out 4
                            have hfz25_5 := blk_frozen BK101.out 5
                            have hfz25_6 := blk_frozen BK101.out 6
                            have p19 : 0 ≤ (x7_3 : Int) := of_decide_eq_true (by first | (with_reducible assumption) | assumption)
                            have q19 : x7_3 < (a0_6.size : Int) := of_decide_eq_true (by first | (with_reducible assumption) | assumption)
                            have hx19 := bt_at a0_6 x7_3
                            replace p19 := eq_true p19
                            replace q19 := eq_true q19
                            have p22 : 0 ≤ (x7_3 : Int) := of_decide_eq_true (by first | (with_reducible assumption) | assumption)
                            have q22 : x7_3 < (a0_6.size : Int) := of_decide_eq_true (by first | (with_reducible assumption) | assumption)
                            have hx22 := bt_at a0_6 x7_3
                            replace p22 := eq_true p22
                            replace q22 := eq_true q22
                            go_wp2
                            go_roundg k3
                            case measure => have := HK1.out; have := HK2.out; have := HK3.out; omega
                            case rel => exact ⟨(wrap64 (x7_3 + 1)), (by first | rfl | (simp; done) | (simp [*]; done)), H', ⟨by have := HK1.out; have := HK2.out; have := HK3.out; omega⟩, ⟨by (with_reducible repeat (first | refine blk_drewN ?_ _ | refine blk_drew ?_ | refine blk_alloc ?_ _)); exact BK101.out⟩, ⟨by repeat (first | (with_reducible first | exact HB.out | apply below_alloc | apply pw_below_drewN | apply below_drew1 | refine below_set ?_ GE101.out) | exact HB.out)⟩⟩
                      · rw [if_neg c18] at H
                        exact absurd H (by simp)
                    · rw [if_neg c17] at H
                      have c17b0 : decide (x7_3 < (a0_6.size : Int)) = false := decide_eq_false c17
                      clear c17
                      have HC26 := Aside0.mk H
                      clear H
                      have hcz27_0 : wr.cell? ⟨gb101, 0, none⟩ = some (.int .i64 a0_0) := (blk_cell BK101.out 0).trans rfl
                      have hcz27_1 : wr.cell? ⟨gb101, 1, none⟩ = some (.int .i64 a0_1) := (blk_cell BK101.out 1).trans rfl
                      have hcz27_2 : wr.cell? ⟨gb101, 2, none⟩ = some (.int .i64 a0_2) := (blk_cell BK101.out 2).trans rfl
                      have hcz27_3 : wr.cell? ⟨gb101, 3, none⟩ = some (.int .i64 a0_3) := (blk_cell BK101.out 3).trans rfl
                      have hcz27_4 : wr.cell? ⟨gb101, 4, none⟩ = some (.slice A0_4 l0_4.length c0_4) := (blk_cell BK101.out 4).trans rfl
                      have hcz27_5 : wr.cell? ⟨gb101, 5, none⟩ = some (.slice A0_5 l0_5.length c0_5) := (blk_cell BK101.out 5).trans rfl
                      have hcz27_6 : wr.cell? ⟨gb101, 6, none⟩ = some (.string a0_6) := (blk_cell BK101.out 6).trans rfl
                      have hfz27_0 := blk_frozen BK101.out 0
                      have hfz27_1 := blk_frozen BK101.out 1
                      have hfz27_2 := blk_frozen BK101.out 2
                      have hfz27_3 := blk_frozen BK101.out 3
                      have hfz27_4 := blk_frozen BK101.out 4
                      have hfz27_5 := blk_frozen BK101.out 5
                      have hfz27_6 := blk_frozen BK101.out 6
                      go_upto_region 18 with (fail)
                      go_cut [83] (fun v83 wc => ∃ (kq : Nat) (x83_25 : Bool), v83 = .bool x83_25 ∧ Aside0 (spec_IsMadeCall.j3 kq x83_25 a0_0 a0_1 a0_2 a0_3 l0_4 l0_5 a0_6 = some r) ∧ Aside0 (kq ≤ k3) ∧ Aside0 (wc.heap[gb101]? = some (.cells #[.int .i64 a0_0, .int .i64 a0_1, .int .i64 a0_2, .int .i64 a0_3, (.slice A0_4 l0_4.length c0_4), (.slice A0_5 l0_5.length c0_5), .string a0_6] 25 (0, 0))) ∧ Aside0 (Below w.heap.size w wc))
                      case first =>
                        have H := HC26.out
                        clear HC26
                        by_cases c28 : (l0_4.length : Int) > 12
                        · rw [if_pos c28] at H
                          have c28b0 : decide (12 < (l0_4.length : Int)) = true := decide_eq_true c28
                          have c28b1 : decide (12 < l0_4.length) = true := decide_eq_true (by omega)
                          clear c28
                          (first | rw [c28b0] | (simp only [i64_w, i32_w]; rw [c28b0]) | skip)
                          have H' := Aside0.mk H
                          clear H
                          have hcz29_0 : wr.cell? ⟨gb101, 0, none⟩ = some (.int .i64 a0_0) := (blk_cell BK101.out 0).trans rfl
                          have hcz29_1 : wr.cell? ⟨gb101, 1, none⟩ = some (.int .i64 a0_1) := (blk_cell BK101.out 1).trans rfl
                          have hcz29_2 : wr.cell? ⟨gb101, 2, none⟩ = some (.int .i64 a0_2) := (blk_cell BK101.out 2).trans rfl
                          have hcz29_3 : wr.cell? ⟨gb101, 3, none⟩ = some (.int .i64 a0_3) := (blk_cell BK101.out 3).trans rfl
                          have hcz29_4 : wr.cell? ⟨gb101, 4, none⟩ = some (.slice A0_4 l0_4.length c0_4) := (blk_cell BK101.out 4).trans rfl
                          have hcz29_5 : wr.cell? ⟨gb101, 5, none⟩ = some (.slice A0_5 l0_5.length c0_5) := (blk_cell BK101.out 5).trans rfl
                          have hcz29_6 : wr.cell? ⟨gb101, 6, none⟩ = some (.string a0_6) := (blk_cell BK101.out 6).trans rfl
                          have hfz29_0 := blk_frozen BK101.out 0
                          have hfz29_1 := blk_frozen BK101.out 1
                          have hfz29_2 := blk_frozen BK101.out 2
                          have hfz29_3 := blk_frozen BK101.out 3
                          have hfz29_4 := blk_frozen BK101.out 4
                          have hfz29_5 := blk_frozen BK101.out 5
                          have hfz29_6 := blk_frozen BK101.out 6
                          go_wp2
                          go_meet
                          case rel => exact ⟨_, (true), (by first | rfl | (simp; done) | (simp [*]; done)), H', ⟨by have := HK1.out; have := HK2.out; have := HK3.out; first | omega | exact Nat.le_refl _⟩, ⟨by (with_reducible repeat (first | refine blk_drewN ?_ _ | refine blk_drew ?_ | refine blk_alloc ?_ _)); exact BK101.out⟩, ⟨by repeat (first | (with_reducible first | exact HB.out | apply below_alloc | apply pw_below_drewN | apply below_drew1 | refine below_set ?_ GE101.out) | exact HB.out)⟩⟩
                        · rw [if_neg c28] at H
                          have c28b0 : decide (12 < (l0_4.length : Int)) = false := decide_eq_false c28
                          have c28b1 : decide (12 < l0_4.length) = false := decide_eq_false (by omega)
                          clear c28
                          (first | rw [c28b0] | (simp only [i64_w, i32_w]; rw [c28b0]) | skip)
                          by_cases c30 : (l0_5.length : Int) > 12
                          · rw [if_pos c30] at H
                            exact absurd H (by simp)
                          · rw [if_neg c30] at H
                            have c30b0 : decide (12 < (l0_5.length : Int)) = false := decide_eq_false c30
                            have c30b1 : decide (12 < l0_5.length) = false := decide_eq_false (by omega)
                            clear c30
                            by_cases c31 : (a0_6.size : Int) > 100
                            · rw [if_pos c31] at H
                              have c31b0 : decide (100 < (a0_6.size : Int)) = true := decide_eq_true c31
                              have c31b1 : decide (100 < a0_6.size) = true := decide_eq_true (by omega)
                              clear c31
                              have H' := Aside0.mk H
                              clear H
                              have hcz32_0 : wr.cell? ⟨gb101, 0, none⟩ = some (.int .i64 a0_0) := (blk_cell BK101.out 0).trans rfl
                              have hcz32_1 : wr.cell? ⟨gb101, 1, none⟩ = some (.int .i64 a0_1) := (blk_cell BK101.out 1).trans rfl
                              have hcz32_2 : wr.cell? ⟨gb101, 2, none⟩ = some (.int .i64 a0_2) := (blk_cell BK101.out 2).trans rfl
                              have hcz32_3 : wr.cell? ⟨gb101, 3, none⟩ = some (.int .i64 a0_3) := (blk_cell BK101.out 3).trans rfl
                              have hcz32_4 : wr.cell? ⟨gb101, 4, none⟩ = some (.slice A0_4 l0_4.length c0_4) := (blk_cell BK101.out 4).trans rfl
                              have hcz32_5 : wr.cell? ⟨gb101, 5, none⟩ = some (.slice A0_5 l0_5.length c0_5) := (blk_cell BK101.out 5).trans rfl
                              have hcz32_6 : wr.cell? ⟨gb101, 6, none⟩ = some (.string a0_6) := (blk_cell BK101.out 6).trans rfl
                              have hfz32_0 := blk_frozen BK101.out 0
                              have hfz32_1 := blk_frozen BK101.out 1
                              have hfz32_2 := blk_frozen BK101.out 2
                              have hfz32_3 := blk_frozen BK101.out 3
                              have hfz32_4 := blk_frozen BK101.out 4
                              have hfz32_5 := blk_frozen BK101.out 5
                              have hfz32_6 := blk_frozen BK101.out 6
                              go_wp2
                              go_meet
                              case rel => exact ⟨_, (true), (by first | rfl | (simp; done) | (simp [*]; done)), H', ⟨by have := HK1.out; have := HK2.out; have := HK3.out; first | omega | exact Nat.le_refl _⟩, ⟨by (with_reducible repeat (first | refine blk_drewN ?_ _ | refine blk_drew ?_ | refine blk_alloc ?_ _)); exact BK101.out⟩, ⟨by repeat (first | (with_reducible first | exact HB.out | apply below_alloc | apply pw_below_drewN | apply below_drew1 | refine below_set ?_ GE101.out) | exact HB.out)⟩⟩
                            · rw [if_neg c31] at H
                              have c31b0 : decide (100 < (a0_6.size : Int)) = false := decide_eq_false c31
                              have c31b1 : decide (100 < a0_6.size) = false := decide_eq_false (by omega)
                              clear c31
                              have H' := Aside0.mk H
                              clear H
                              have hcz33_0 : wr.cell? ⟨gb101, 0, none⟩ = some (.int .i64 a0_0) := (blk_cell BK101.out 0).trans rfl
                              have hcz33_1 : wr.cell? ⟨gb101, 1, none⟩ = some (.int .i64 a0_1) := (blk_cell BK101.out 1).trans rfl
                              have hcz33_2 : wr.cell? ⟨gb101, 2, none⟩ = some (.int .i64 a0_2) := (blk_cell BK101.out 2).trans rfl
                              have hcz33_3 : wr.cell? ⟨gb101, 3, none⟩ = some (.int .i64 a0_3) := (blk_cell BK101.out 3).trans rfl
                              have hcz33_4 : wr.cell? ⟨gb101, 4, none⟩ = some (.slice A0_4 l0_4.length c0_4) := (blk_cell BK101.out 4).trans rfl
                              have hcz33_5 : wr.cell? ⟨gb101, 5, none⟩ = some (.slice A0_5 l0_5.length c0_5) := (blk_cell BK101.out 5).trans rfl
                              have hcz33_6 : wr.cell? ⟨gb101, 6, none⟩ = some (.string a0_6) := (blk_cell BK101.out 6).trans rfl
                              have hfz33_0 := blk_frozen BK101.out 0
                              have hfz33_1 := blk_frozen BK101.out 1
                              have hfz33_2 := blk_frozen BK101.out 2
                              have hfz33_3 := blk_frozen BK101.out 3
                              have hfz33_4 := blk_frozen BK101.out 4
                              have hfz33_5 := blk_frozen BK101.out 5
                              have hfz33_6 := blk_frozen BK101.out 6
                              go_wp2
                              go_meet
                              case rel => exact ⟨_, (decide (a0_1 < 0)), (by first | rfl | (simp; done) | (simp [*]; done)), H', ⟨by have := HK1.out; have := HK2.out; have := HK3.out; first | omega | exact Nat.le_refl _⟩, ⟨by (with_reducible repeat (first | refine blk_drewN ?_ _ | refine blk_drew ?_ | refine blk_alloc ?_ _)); exact BK101.out⟩, ⟨by repeat (first | (with_reducible first | exact HB.out | apply below_alloc | apply pw_below_drewN | apply below_drew1 | refine below_set ?_ GE101.out) | exact HB.out)⟩⟩
                      case rest =>
                        clear HC26
                        try clear c1
                        try clear p1
                        try clear q1
                        try clear hx1
                        try clear c2
                        try clear p2
                        try clear q2
                        try clear hx2
                        try clear c3
                        try clear c4
                        try clear p6
                        try clear c10
                        try clear c10b0
                        try clear p10
                        try clear q10
                        try clear hx10
                        try clear c11
                        try clear c11b0
                        try clear c12
                        try clear c12b0
                        try clear c13
                        try clear c13b0
                        try clear c14
                        try clear c14b0
                        try clear c16
                        try clear c16b0
                        try clear c17
                        try clear c17b0
                        try clear c18
                        try clear c18b0
                        try clear p19
                        try clear q19
                        try clear hx19
                        try clear c20
                        try clear c20b0
                        try clear p22
                        try clear q22
                        try clear hx22
                        try clear c23
                        try clear c23b0
                        try clear c28
                        try clear c28b0
                        try clear c28b1
                        try clear c30
                        try clear c30b0
                        try clear c30b1
                        try clear c31
                        try clear c31b0
                        try clear c31b1
                        try clear hcz15_0
                        try clear hcz15_1
                        try clear hcz15_2
                        try clear hcz15_3
                        try clear hcz15_4
                        try clear hcz15_5
                        try clear hcz15_6
                        try clear hcz21_0
                        try clear hcz21_1
                        try clear hcz21_2
                        try clear hcz21_3
                        try clear hcz21_4
                        try clear hcz21_5
                        try clear hcz21_6
                        try clear hcz24_0
                        try clear hcz24_1
                        try clear hcz24_2
                        try clear hcz24_3
                        try clear hcz24_4
                        try clear hcz24_5
                        try clear hcz24_6
                        try clear hcz25_0
                        try clear hcz25_1
                        try clear hcz25_2
                        try clear hcz25_3
                        try clear hcz25_4
                        try clear hcz25_5
                        try clear hcz25_6
                        try clear hcz27_0
                        try clear hcz27_1
                        try clear hcz27_2
                        try clear hcz27_3
                        try clear hcz27_4
                        try clear hcz27_5
                        try clear hcz27_6
                        try clear hcz29_0
                        try clear hcz29_1
                        try clear hcz29_2
                        try clear hcz29_3
                        try clear hcz29_4
                        try clear hcz29_5
                        try clear hcz29_6
                        try clear hcz32_0
                        try clear hcz32_1
                        try clear hcz32_2
                        try clear hcz32_3
                        try clear hcz32_4
                        try clear hcz32_5
                        try clear hcz32_6
                        try clear hcz33_0
                        try clear hcz33_1
                        try clear hcz33_2
                        try clear hcz33_3
                        try clear hcz33_4
                        try clear hcz33_5
                        try clear hcz33_6
                        try clear hcz4_0
                        try clear hcz4_1
                        try clear hcz4_2
                        try clear hcz4_3
                        try clear hcz4_4
                        try clear hcz4_5
                        try clear hcz4_6
                        try clear hcz7_0
                        try clear hcz7_1
                        try clear hcz7_2
                        try clear hcz7_3
                        try clear hcz7_4
                        try clear hcz7_5
                        try clear hcz7_6
                        try clear hfz15_0
                        try clear hfz15_1
                        try clear hfz15_2
                        try clear hfz15_3
                        try clear hfz15_4
                        try clear hfz15_5
                        try clear hfz15_6
                        try clear hfz21_0
                        try clear hfz21_1
                        try clear hfz21_2
                        try clear hfz21_3
                        try clear hfz21_4
                        try clear hfz21_5
                        try clear hfz21_6
                        try clear hfz24_0
                        try clear hfz24_1
                        try clear hfz24_2
                        try clear hfz24_3
                        try clear hfz24_4
                        try clear hfz24_5
                        try clear hfz24_6
                        try clear hfz25_0
                        try clear hfz25_1
                        try clear hfz25_2
                        try clear hfz25_3
                        try clear hfz25_4
                        try clear hfz25_5
                        try clear hfz25_6
                        try clear hfz27_0
                        try clear hfz27_1
                        try clear hfz27_2
                        try clear hfz27_3
                        try clear hfz27_4
                        try clear hfz27_5
                        try clear hfz27_6
                        try clear hfz29_0
                        try clear hfz29_1
                        try clear hfz29_2
                        try clear hfz29_3
                        try clear hfz29_4
                        try clear hfz29_5
                        try clear hfz29_6
                        try clear hfz32_0
                        try clear hfz32_1
                        try clear hfz32_2
                        try clear hfz32_3
                        try clear hfz32_4
                        try clear hfz32_5
                        try clear hfz32_6
                        try clear hfz33_0
                        try clear hfz33_1
                        try clear hfz33_2
                        try clear hfz33_3
                        try clear hfz33_4
                        try clear hfz33_5
                        try clear hfz33_6
                        try clear hfz4_0
                        try clear hfz4_1
                        try clear hfz4_2
                        try clear hfz4_3
                        try clear hfz4_4
                        try clear hfz4_5
                        try clear hfz4_6
                        try clear hfz7_0
                        try clear hfz7_1
                        try clear hfz7_2
                        try clear hfz7_3
                        try clear hfz7_4
                        try clear hfz7_5
                        try clear hfz7_6
                        try clear hx108_0
                        try clear p1
                        try clear p10
                        try clear p108
                        try clear p19
                        try clear p2
                        try clear p22
                        try clear p6
                        try clear q1
                        try clear q10
                        try clear q108
                        try clear q19
                        try clear q22
                        obtain ⟨kq, x83_25, rfl, HA, HJ25, BK101, HB⟩ := hcut
                        cases kq with
                        | zero => exact absurd HA.out (by simp [spec_IsMadeCall.j3])
                        | succ kj25 =>
                          have H := HA.out
                          clear HA
                          simp only [spec_IsMadeCall.j3] at H
                          by_cases c34 : x83_25 = true
                          · subst c34
                            have H1 : (some false) = some r := by rw [if_pos rfl] at H; exact H
                            clear H
                            have H := H1
                            clear H1
                            obtain rfl := Option.some.inj H
                            go_wp2
                            go_ret
                            exact ⟨by first | rfl | (simp [errW_none, errW_some] <;> rfl) | (simp [*, errW_none, errW_some] <;> rfl), by repeat (first | (with_reducible first | exact HB.out | apply below_alloc | apply pw_below_drewN | apply below_drew1 | refine below_set ?_ GE101.out) | exact HB.out)⟩
                          · replace c34 := Bool.eq_false_iff.mpr c34
                            subst c34
                            have H1 : (if a0_0 = 0 then (none) else (if a0_0 = 1 then (none) else (if a0_0 = 2 then (none) else (if a0_0 = 3 then (none) else (if a0_0 = 4 then (none) else (if a0_0 = 5 then (none) else (some (a0_0 == 6)))))))) = some r := by rw [if_neg (show ¬ (false = true) by decide)] at H; exact H
                            clear H
                            have H := H1
                            clear H1
                            by_cases c35 : a0_0 = 0
                            · rw [if_pos c35] at H
                              exact absurd H (by simp)
                            · rw [if_neg c35] at H
                              have c35b0 : (a0_0 == 0) = false := beq_eq_false_iff_ne.mpr c35
                              have c35b1 : (a0_0 != 0) = true := bne_iff_ne.mpr c35
                              by_cases c36 : a0_0 = 1
                              · rw [if_pos c36] at H
                                exact absurd H (by simp)
                              · rw [if_neg c36] at H
                                have c36b0 : (a0_0 == 1) = false := beq_eq_false_iff_ne.mpr c36
                                have c36b1 : (a0_0 != 1) = true := bne_iff_ne.mpr c36
                                by_cases c37 : a0_0 = 2
                                · rw [if_pos c37] at H
                                  exact absurd H (by simp)
                                · rw [if_neg c37] at H
                                  have c37b0 : (a0_0 == 2) = false := beq_eq_false_iff_ne.mpr c37
                                  have c37b1 : (a0_0 != 2) = true := bne_iff_ne.mpr c37
                                  by_cases c38 : a0_0 = 3
                                  · rw [if_pos c38] at H
                                    exact absurd H (by simp)
                                  · rw [if_neg c38] at H
                                    have c38b0 : (a0_0 == 3) = false := beq_eq_false_iff_ne.mpr c38
                                    have c38b1 : (a0_0 != 3) = true := bne_iff_ne.mpr c38
                                    by_cases c39 : a0_0 = 4
                                    · rw [if_pos c39] at H
                                      exact absurd H (by simp)
                                    · rw [if_neg c39] at H
                                      have c39b0 : (a0_0 == 4) = false := beq_eq_false_iff_ne.mpr c39
                                      have c39b1 : (a0_0 != 4) = true := bne_iff_ne.mpr c39
                                      by_cases c40 : a0_0 = 5
                                      · rw [if_pos c40] at H
                                        exact absurd H (by simp)
                                      · rw [if_neg c40] at H
                                        have c40b0 : (a0_0 == 5) = false := beq_eq_false_iff_ne.mpr c40
                                        have c40b1 : (a0_0 != 5) = true := bne_iff_ne.mpr c40
                                        obtain rfl := Option.some.inj H
                                        have hcz41_0 : wc.cell? ⟨gb101, 0, none⟩ = some (.int .i64 a0_0) := (blk_cell BK101.out 0).trans rfl
                                        have hcz41_1 : wc.cell? ⟨gb101, 1, none⟩ = some (.int .i64 a0_1) := (blk_cell BK101.out 1).trans rfl
                                        have hcz41_2 : wc.cell? ⟨gb101, 2, none⟩ = some (.int .i64 a0_2) := (blk_cell BK101.out 2).trans rfl
                                        have hcz41_3 : wc.cell? ⟨gb101, 3, none⟩ = some (.int .i64 a0_3) := (blk_cell BK101.out 3).trans rfl
                                        have hcz41_4 : wc.cell? ⟨gb101, 4, none⟩ = some (.slice A0_4 l0_4.length c0_4) := (blk_cell BK101.out 4).trans rfl
                                        have hcz41_5 : wc.cell? ⟨gb101, 5, none⟩ = some (.slice A0_5 l0_5.length c0_5) := (blk_cell BK101.out 5).trans rfl
                                        have hcz41_6 : wc.cell? ⟨gb101, 6, none⟩ = some (.string a0_6) := (blk_cell BK101.out 6).trans rfl
                                        have hfz41_0 := blk_frozen BK101.out 0
                                        have hfz41_1 := blk_frozen BK101.out 1
                                        have hfz41_2 := blk_frozen BK101.out 2
                                        have hfz41_3 := blk_frozen BK101.out 3
                                        have hfz41_4 := blk_frozen BK101.out 4
                                        have hfz41_5 := blk_frozen BK101.out 5
                                        have hfz41_6 := blk_frozen BK101.out 6
                                        go_wp2
                                        go_ret
                                        exact ⟨by first | rfl | (simp [errW_none, errW_some] <;> rfl) | (simp [*, errW_none, errW_some] <;> rfl), by repeat (first | (with_reducible first | exact HB.out | apply below_alloc | apply pw_below_drewN | apply below_drew1 | refine below_set ?_ GE101.out) | exact HB.out)⟩
  · rw [if_neg c2] at H
    exact absurd H (by simp)

end Go.Proofs.YtjdpkhnpgdangaaGreatDoor.PQ
