/- Contracts of functions that the law FnStyledFed reaches (read and made memory as stated), for this claim alone; no condition but those stated. -/
import Derived.Test.YtjdpkhnpgdangaaGreatDoorPQx0
import Derived.Test.YtjdpkhnpgdangaaGreatDoorPQx5
namespace Go.Proofs.YtjdpkhnpgdangaaGreatDoor.PQ
open Go.RowKit Go.Proofs.YtjdpkhnpgdangaaGreatDoorW.PrintWords Go.Proofs.YtjdpkhnpgdangaaGreatDoorW.PrintLast Go.Proofs.YtjdpkhnpgdangaaGreatDoorW.PrintMore
attribute [local go_sem] max2_int min2_int max_two min_two max_three min_three max_four min_four   -- for this text's walks alone
set_option linter.unusedVariables false
set_option linter.unusedSimpArgs false

/-- A cell that is there is in no block that comes later. -/
theorem cell_ne {w : World} {a : Addr} {v : Value} {g : Nat} (h : w.cell? a = some v) (hg : w.heap.size ≤ g) : a.block ≠ g := Nat.ne_of_lt (Nat.lt_of_lt_of_le (World.block_lt_of_cell? w a h) hg)

/-! ### spec_SameEvents: function 10 -/
def spec_SameEvents.l0 : Nat → List (S39) → List (S39) → Int → Int → Option (Bool)
  | 0, _, _, _, _ => none
  | k + 1, x0, x1, x14, x15 => if x15 < x14 then (if 0 ≤ x15 then (if x15 < (x0.length : Int) then (if x15 < (x1.length : Int) then (if ((rd_T39 x0 x15).f0) = ((rd_T39 x1 x15).f0) then (if ((rd_T39 x0 x15).f1) = ((rd_T39 x1 x15).f1) then (if ((rd_T39 x0 x15).f2) = ((rd_T39 x1 x15).f2) then (if ((rd_T39 x0 x15).f3) = ((rd_T39 x1 x15).f3) then ((spec_SameInts.f k ((rd_T39 x0 x15).f4) ((rd_T39 x1 x15).f4)).bind fun t142 => (if t142 = true then ((spec_SameBytes.f k ((rd_T39 x0 x15).f5) ((rd_T39 x1 x15).f5)).bind fun t143 => (if t143 = true then (spec_SameEvents.l0 k x0 x1 x14 (wrap64 (x15 + 1))) else (none))) else (none))) else (none)) else (none)) else (none)) else (none)) else (none)) else (none)) else (none)) else (some true)
def spec_SameEvents.f (k : Nat) (l0 : List (S39)) (l1 : List (S39)) : Option (Bool) := if (l0.length : Int) = (l1.length : Int) then (spec_SameEvents.l0 k l0 l1 (l0.length : Int) 0) else (none)
theorem spec_SameEvents.mono_l : ∀ k, (∀ y0 y1 y2 y3, LeO (spec_SameEvents.l0 k y0 y1 y2 y3) (spec_SameEvents.l0 (k + 1) y0 y1 y2 y3))
  | 0 => fun _ _ _ _ r h => by simp [spec_SameEvents.l0] at h
  | k + 1 => by
    have ih0 := spec_SameEvents.mono_l k
    · intro y0 y1 y2 y3
      unfold spec_SameEvents.l0
      repeat' first
      | (with_reducible exact ih0 _ _ _ _)
      | (with_reducible exact spec_SameBytes.mono _ _ _)
      | (with_reducible exact spec_SameInts.mono _ _ _)
      | (with_reducible exact LeO.refl _)
      | (with_reducible exact LeO.none _)
      | (with_reducible refine LeO.ite ?_ ?_)
      | (with_reducible refine LeO.bind ?_ (fun _ => ?_))
      | exact ih0 _ _ _ _
      | exact spec_SameBytes.mono _ _ _
      | exact spec_SameInts.mono _ _ _
      | exact LeO.none _
      | refine LeO.ite ?_ ?_
      | refine LeO.bind ?_ (fun _ => ?_)
theorem spec_SameEvents.mono : ∀ a0 a1 k, LeO (spec_SameEvents.f k a0 a1) (spec_SameEvents.f (k + 1) a0 a1) := by
  intro a0 a1 k
  have ih0 := spec_SameEvents.mono_l k
  unfold spec_SameEvents.f
  repeat' first
      | (with_reducible exact ih0 _ _ _ _)
      | (with_reducible exact spec_SameBytes.mono _ _ _)
      | (with_reducible exact spec_SameInts.mono _ _ _)
      | (with_reducible exact LeO.refl _)
      | (with_reducible exact LeO.none _)
      | (with_reducible refine LeO.ite ?_ ?_)
      | (with_reducible refine LeO.bind ?_ (fun _ => ?_))
      | exact ih0 _ _ _ _
      | exact spec_SameBytes.mono _ _ _
      | exact spec_SameInts.mono _ _ _
      | exact LeO.none _
      | refine LeO.ite ?_ ?_
      | refine LeO.bind ?_ (fun _ => ?_)
def spec_SameEvents.T6 : Bool × List (List Nat × List Nat) := (true, [([], []), ([], []), ([0, 1], [0, 1]), ([2], [2]), ([], []), ([], []), ([4, 5], [4, 5]), ([6], [6]), ([], []), ([], []), ([8, 3, 0, 1, 2, 3, 8, 9], [3, 8]), ([9, 7, 10, 0, 1, 2, 3, 4, 5, 6, 7, 8, 9, 10], [7, 9])])
def spec_SameEvents.B6 : List Nat := [0, 0, 3, 7, 0, 0, 48, 112, 0, 0, 783, 2047]
theorem spec_SameEvents.tab6 : rtab .any (opsOf Tryz.f10 6) = spec_SameEvents.T6 := by kernel_rfl
theorem spec_SameEvents.bits6 : waitsOk spec_SameEvents.T6.2 spec_SameEvents.B6 = true := by kernel_rfl
set_option maxHeartbeats 8000000 in
set_option maxRecDepth 100000 in
theorem spec_SameEvents.calls (k : Nat) (A0 : Option Addr) (c0 : Nat) (l0 : List (S39)) (A1 : Option Addr) (c1 : Nat) (l1 : List (S39)) (r : Bool) (w : World) (hr0 : Kd.C k39 w A0 l0.length l0) (hc0 : l0.length ≤ c0) (hr1 : Kd.C k39 w A1 l1.length l1) (hc1 : l1.length ≤ c1) (h : spec_SameEvents.f k l0 l1 = some r) :
    Calls Tryz.prog 10 #[.slice A0 l0.length c0, .slice A1 l1.length c1] w fun e w' => e = .returned (.bool r) ∧ Below w.heap.size w w' := by
  have hu39 := Tryz.underlying39
  have HR0 := Aside0.mk hr0
  have HC0 := Aside0.mk hc0
  clear hr0 hc0
  have HR1 := Aside0.mk hr1
  have HC1 := Aside0.mk hc1
  clear hr1 hc1
  have HB := Aside0.mk (Below.refl w.heap.size w)
  have H : (if (l0.length : Int) = (l1.length : Int) then (spec_SameEvents.l0 k l0 l1 (l0.length : Int) 0) else (none)) = some r := h
  clear h
  by_cases c3 : (l0.length : Int) = (l1.length : Int)
  · rw [if_pos c3] at H
    have c3b0 : ((l0.length : Int) == (l1.length : Int)) = true := beq_iff_eq.mpr c3
    have c3b1 : ((l0.length : Int) != (l1.length : Int)) = false := bne_eq_false_iff_eq.mpr c3
    have c3b2 : (l0.length == l1.length) = true := by first | simpa using c3 | (simp at c3 ⊢; omega)
    clear c3
    have H' := Aside0.mk H
    clear H
    go_enter Tryz.func10, Tryz.ntmps10
    go_wp2
    go_loopg [15] k (fun kq v15 w' => ∃ (x15_1 : Int), v15 = .int .i64 x15_1 ∧ Aside0 (spec_SameEvents.l0 kq l0 l1 (l0.length : Int) x15_1 = some r) ∧ Aside0 (kq ≤ k) ∧ Aside0 (Below w.heap.size w w'))
    case atStart => exact ⟨(0), (by first | rfl | (simp; done) | (simp [*]; done)), H', ⟨Nat.le_refl _⟩, ⟨by repeat (first | (with_reducible first | exact HB.out | apply below_alloc | apply pw_below_drewN | apply below_drew1) | exact HB.out)⟩⟩
    case round =>
      clear H'
      try clear c1
      try clear p2
      try clear c3
      try clear c3b0
      try clear c3b1
      try clear c3b2
      obtain ⟨x15_1, rfl, HA, HK1, HB⟩ := hrel
      cases gk with
      | zero => exact absurd HA.out (by simp [spec_SameEvents.l0])
      | succ k1 =>
        have H := HA.out
        clear HA
        simp only [spec_SameEvents.l0] at H
        by_cases c4 : x15_1 < (l0.length : Int)
        · rw [if_pos c4] at H
          have c4b0 : decide (x15_1 < (l0.length : Int)) = true := decide_eq_true c4
          clear c4
          by_cases c5 : 0 ≤ x15_1
          · rw [if_pos c5] at H
            have c5b0 : decide (0 ≤ x15_1) = true := decide_eq_true c5
            clear c5
            by_cases c6 : x15_1 < (l0.length : Int)
            · rw [if_pos c6] at H
              have c6b0 : decide (x15_1 < (l0.length : Int)) = true := decide_eq_true c6
              clear c6
              by_cases c7 : x15_1 < (l1.length : Int)
              · rw [if_pos c7] at H
                have c7b0 : decide (x15_1 < (l1.length : Int)) = true := decide_eq_true c7
                clear c7
                by_cases c8 : ((rd_T39 l0 x15_1).f0) = ((rd_T39 l1 x15_1).f0)
                · rw [if_pos c8] at H
                  have c8b0 : (((rd_T39 l0 x15_1).f0) == ((rd_T39 l1 x15_1).f0)) = true := beq_iff_eq.mpr c8
                  have c8b1 : (((rd_T39 l0 x15_1).f0) != ((rd_T39 l1 x15_1).f0)) = false := bne_eq_false_iff_eq.mpr c8
                  clear c8
                  by_cases c9 : ((rd_T39 l0 x15_1).f1) = ((rd_T39 l1 x15_1).f1)
                  · rw [if_pos c9] at H
                    have c9b0 : (((rd_T39 l0 x15_1).f1) == ((rd_T39 l1 x15_1).f1)) = true := beq_iff_eq.mpr c9
                    have c9b1 : (((rd_T39 l0 x15_1).f1) != ((rd_T39 l1 x15_1).f1)) = false := bne_eq_false_iff_eq.mpr c9
                    clear c9
                    by_cases c10 : ((rd_T39 l0 x15_1).f2) = ((rd_T39 l1 x15_1).f2)
                    · rw [if_pos c10] at H
                      have c10b0 : (((rd_T39 l0 x15_1).f2) == ((rd_T39 l1 x15_1).f2)) = true := beq_iff_eq.mpr c10
                      have c10b1 : (((rd_T39 l0 x15_1).f2) != ((rd_T39 l1 x15_1).f2)) = false := bne_eq_false_iff_eq.mpr c10
                      clear c10
                      by_cases c11 : ((rd_T39 l0 x15_1).f3) = ((rd_T39 l1 x15_1).f3)
                      · rw [if_pos c11] at H
                        have c11b0 : (((rd_T39 l0 x15_1).f3) == ((rd_T39 l1 x15_1).f3)) = true := beq_iff_eq.mpr c11
                        have c11b1 : (((rd_T39 l0 x15_1).f3) != ((rd_T39 l1 x15_1).f3)) = false := bne_eq_false_iff_eq.mpr c11
                        clear c11
                        replace H := Option.bind_eq_some_iff.mp H
                        obtain ⟨t142, A120, H⟩ := H
                        replace H : (if t142 = true then ((spec_SameBytes.f k1 ((rd_T39 l0 x15_1).f5) ((rd_T39 l1 x15_1).f5)).bind fun t143 => (if t143 = true then (spec_SameEvents.l0 k1 l0 l1 (l0.length : Int) (wrap64 (x15_1 + 1))) else (none))) else (none)) = some r := H
                        have A12 := Aside0.mk A120
                        clear A120
                        by_cases c13 : t142 = true
                        · subst c13
                          have H1 : ((spec_SameBytes.f k1 ((rd_T39 l0 x15_1).f5) ((rd_T39 l1 x15_1).f5)).bind fun t143 => (if t143 = true then (spec_SameEvents.l0 k1 l0 l1 (l0.length : Int) (wrap64 (x15_1 + 1))) else (none))) = some r := by rw [if_pos rfl] at H; exact H
                          clear H
                          have H := H1
                          clear H1
                          replace H := Option.bind_eq_some_iff.mp H
                          obtain ⟨t143, A140, H⟩ := H
                          replace H : (if t143 = true then (spec_SameEvents.l0 k1 l0 l1 (l0.length : Int) (wrap64 (x15_1 + 1))) else (none)) = some r := H
                          have A14 := Aside0.mk A140
                          clear A140
                          by_cases c15 : t143 = true
                          · subst c15
                            have H1 : (spec_SameEvents.l0 k1 l0 l1 (l0.length : Int) (wrap64 (x15_1 + 1))) = some r := by rw [if_pos rfl] at H; exact H
                            clear H
                            have H := H1
                            clear H1
                            have H' := Aside0.mk H
                            clear H
                            try go_wp2
                            have n0_ := Aside0.mk (below_drew1 HB.out)
                            clear HB
                            have HB := n0_
                            clear n0_
                            have p138 : 0 ≤ (x15_1 : Int) := of_decide_eq_true (by first | (with_reducible assumption) | assumption)
                            have q138 : x15_1 < (l0.length : Int) := of_decide_eq_true (by first | (with_reducible assumption) | assumption)
                            obtain ⟨ad138, A138_4, c138_4, A138_5, c138_5, e138, hx138_0, hx138_1, hx138_2, hx138_3, hx138_4, hx138_5, hl138_4, hi138_4, hl138_5, hi138_5⟩ := at_T39 HR0.out x15_1 p138 q138
                            have hw138_5 := hx138_5
                            have hw138_4 := hx138_4
                            have hw138_3 := hx138_3
                            have hw138_2 := hx138_2
                            have hw138_1 := hx138_1
                            have hw138_0 := hx138_0
                            cases e138
                            replace hx138_0 := (HB.out.cell (World.block_lt_of_cell? w _ hx138_0)).trans hx138_0
                            replace hx138_1 := (HB.out.cell (World.block_lt_of_cell? w _ hx138_1)).trans hx138_1
                            replace hx138_2 := (HB.out.cell (World.block_lt_of_cell? w _ hx138_2)).trans hx138_2
                            replace hx138_3 := (HB.out.cell (World.block_lt_of_cell? w _ hx138_3)).trans hx138_3
                            replace hx138_4 := (HB.out.cell (World.block_lt_of_cell? w _ hx138_4)).trans hx138_4
                            replace hx138_5 := (HB.out.cell (World.block_lt_of_cell? w _ hx138_5)).trans hx138_5
                            have HR138_4 := Aside0.mk hi138_4
                            have HC138_4 := Aside0.mk hl138_4
                            clear hi138_4 hl138_4
                            have HR138_5 := Aside0.mk hi138_5
                            have HC138_5 := Aside0.mk hl138_5
                            clear hi138_5 hl138_5
                            replace p138 := eq_true p138
                            replace q138 := eq_true q138
                            have p139 : 0 ≤ (x15_1 : Int) := of_decide_eq_true (by first | (with_reducible assumption) | assumption)
                            have q139 : x15_1 < (l1.length : Int) := of_decide_eq_true (by first | (with_reducible assumption) | assumption)
                            obtain ⟨ad139, A139_4, c139_4, A139_5, c139_5, e139, hx139_0, hx139_1, hx139_2, hx139_3, hx139_4, hx139_5, hl139_4, hi139_4, hl139_5, hi139_5⟩ := at_T39 HR1.out x15_1 p139 q139
                            have hw139_5 := hx139_5
                            have hw139_4 := hx139_4
                            have hw139_3 := hx139_3
                            have hw139_2 := hx139_2
                            have hw139_1 := hx139_1
                            have hw139_0 := hx139_0
                            cases e139
                            replace hx139_0 := (HB.out.cell (World.block_lt_of_cell? w _ hx139_0)).trans hx139_0
                            replace hx139_1 := (HB.out.cell (World.block_lt_of_cell? w _ hx139_1)).trans hx139_1
                            replace hx139_2 := (HB.out.cell (World.block_lt_of_cell? w _ hx139_2)).trans hx139_2
                            replace hx139_3 := (HB.out.cell (World.block_lt_of_cell? w _ hx139_3)).trans hx139_3
                            replace hx139_4 := (HB.out.cell (World.block_lt_of_cell? w _ hx139_4)).trans hx139_4
                            replace hx139_5 := (HB.out.cell (World.block_lt_of_cell? w _ hx139_5)).trans hx139_5
                            have HR139_4 := Aside0.mk hi139_4
                            have HC139_4 := Aside0.mk hl139_4
                            clear hi139_4 hl139_4
                            have HR139_5 := Aside0.mk hi139_5
                            have HC139_5 := Aside0.mk hl139_5
                            clear hi139_5 hl139_5
                            replace p139 := eq_true p139
                            replace q139 := eq_true q139
                            refine start_ (n := 12) (S := fun w' => w'.cell? (ad138.add ((x15_1).toNat * 6)) = some (.int .i64 ((rd_T39 l0 x15_1).f0)) ∧ w'.cell? ⟨(ad138.add ((x15_1).toNat * 6)).block, (ad138.add ((x15_1).toNat * 6)).off + 1, none⟩ = some (.int .i64 ((rd_T39 l0 x15_1).f1)) ∧ w'.cell? ⟨(ad138.add ((x15_1).toNat * 6)).block, (ad138.add ((x15_1).toNat * 6)).off + 2, none⟩ = some (.int .u8 ((rd_T39 l0 x15_1).f2)) ∧ w'.cell? ⟨(ad138.add ((x15_1).toNat * 6)).block, (ad138.add ((x15_1).toNat * 6)).off + 3, none⟩ = some (.int .i64 ((rd_T39 l0 x15_1).f3)) ∧ w'.cell? ⟨(ad138.add ((x15_1).toNat * 6)).block, (ad138.add ((x15_1).toNat * 6)).off + 4, none⟩ = some (.slice A138_4 ((rd_T39 l0 x15_1).f4).length c138_4) ∧ w'.cell? ⟨(ad138.add ((x15_1).toNat * 6)).block, (ad138.add ((x15_1).toNat * 6)).off + 5, none⟩ = some (.slice A138_5 ((rd_T39 l0 x15_1).f5).length c138_5) ∧ w'.cell? (ad139.add ((x15_1).toNat * 6)) = some (.int .i64 ((rd_T39 l1 x15_1).f0)) ∧ w'.cell? ⟨(ad139.add ((x15_1).toNat * 6)).block, (ad139.add ((x15_1).toNat * 6)).off + 1, none⟩ = some (.int .i64 ((rd_T39 l1 x15_1).f1)) ∧ w'.cell? ⟨(ad139.add ((x15_1).toNat * 6)).block, (ad139.add ((x15_1).toNat * 6)).off + 2, none⟩ = some (.int .u8 ((rd_T39 l1 x15_1).f2)) ∧ w'.cell? ⟨(ad139.add ((x15_1).toNat * 6)).block, (ad139.add ((x15_1).toNat * 6)).off + 3, none⟩ = some (.int .i64 ((rd_T39 l1 x15_1).f3)) ∧ w'.cell? ⟨(ad139.add ((x15_1).toNat * 6)).block, (ad139.add ((x15_1).toNat * 6)).off + 4, none⟩ = some (.slice A139_4 ((rd_T39 l1 x15_1).f4).length c139_4) ∧ w'.cell? ⟨(ad139.add ((x15_1).toNat * 6)).block, (ad139.add ((x15_1).toNat * 6)).off + 5, none⟩ = some (.slice A139_5 ((rd_T39 l1 x15_1).f5).length c139_5)) (ds := []) #[false, false, false, false, false, false, false, false, false, false, false, false] (by kernel_rfl) rfl rfl ⟨((HB.out.cell (World.block_lt_of_cell? w _ hw138_0)).trans hw138_0), ((HB.out.cell (World.block_lt_of_cell? w _ hw138_1)).trans hw138_1), ((HB.out.cell (World.block_lt_of_cell? w _ hw138_2)).trans hw138_2), ((HB.out.cell (World.block_lt_of_cell? w _ hw138_3)).trans hw138_3), ((HB.out.cell (World.block_lt_of_cell? w _ hw138_4)).trans hw138_4), ((HB.out.cell (World.block_lt_of_cell? w _ hw138_5)).trans hw138_5), ((HB.out.cell (World.block_lt_of_cell? w _ hw139_0)).trans hw139_0), ((HB.out.cell (World.block_lt_of_cell? w _ hw139_1)).trans hw139_1), ((HB.out.cell (World.block_lt_of_cell? w _ hw139_2)).trans hw139_2), ((HB.out.cell (World.block_lt_of_cell? w _ hw139_3)).trans hw139_3), ((HB.out.cell (World.block_lt_of_cell? w _ hw139_4)).trans hw139_4), ((HB.out.cell (World.block_lt_of_cell? w _ hw139_5)).trans hw139_5)⟩ (fun hHeld => ?_); refine with_tabW spec_SameEvents.tab6 spec_SameEvents.bits6 (fun HT_ HW_ => ?_)
                            generalize wr.drew = w16 at HB HR138_4 HR138_5 HR139_4 HR139_5 hx138_0 hx138_1 hx138_2 hx138_3 hx138_4 hx138_5 hx139_0 hx139_1 hx139_2 hx139_3 hx139_4 hx139_5 hHeld ⊢
                            refine pure_ (i := 0) (N := some 18) (v := ?_) (a' := ?_) #[true, false, false, false, false, false, false, false, false, false, false, false] rfl rfl (any_of HT_.out (by kernel_rfl)) (fun _ _ _ h => h) (Or.inl ⟨by rfl, ?_⟩) ?_ ?_
                            rotate_left
                            · intro w'
                              go_simp
                              with_reducible rfl
                            rotate_left
                            · simp only [Act.put, List.setIfInBounds_toArray, List.set_cons_zero, List.set_cons_succ, i64_w, i32_w]
                              rfl
                            refine pure_ (i := 1) (N := some 19) (v := ?_) (a' := ?_) #[true, true, false, false, false, false, false, false, false, false, false, false] rfl rfl (any_of HT_.out (by kernel_rfl)) (fun _ _ _ h => h) (Or.inl ⟨by rfl, ?_⟩) ?_ ?_
                            rotate_left
                            · intro w'
                              go_simp
                              with_reducible rfl
                            rotate_left
                            · simp only [Act.put, List.setIfInBounds_toArray, List.set_cons_zero, List.set_cons_succ, i64_w, i32_w]
                              rfl
                            refine pure_ (i := 2) (N := some 20) (v := ?_) (a' := ?_) #[true, true, true, false, false, false, false, false, false, false, false, false] rfl rfl (any_of HT_.out (by kernel_rfl)) (fun _ _ _ h => h) (Or.inl ⟨by rfl, ?_⟩) ?_ ?_
                            rotate_left
                            · intro w'
                              go_simp
                              with_reducible rfl
                            rotate_left
                            · simp only [Act.put, List.setIfInBounds_toArray, List.set_cons_zero, List.set_cons_succ, i64_w, i32_w]
                              rfl
                            refine pure_ (i := 4) (N := some 22) (v := ?_) (a' := ?_) #[true, true, true, false, true, false, false, false, false, false, false, false] rfl rfl (any_of HT_.out (by kernel_rfl)) (fun _ _ _ h => h) (Or.inl ⟨by rfl, ?_⟩) ?_ ?_
                            rotate_left
                            · intro w'
                              go_simp
                              with_reducible rfl
                            rotate_left
                            · simp only [Act.put, List.setIfInBounds_toArray, List.set_cons_zero, List.set_cons_succ, i64_w, i32_w]
                              rfl
                            refine pure_ (i := 5) (N := some 23) (v := ?_) (a' := ?_) #[true, true, true, false, true, true, false, false, false, false, false, false] rfl rfl (any_of HT_.out (by kernel_rfl)) (fun _ _ _ h => h) (Or.inl ⟨by rfl, ?_⟩) ?_ ?_
                            rotate_left
                            · intro w'
                              go_simp
                              with_reducible rfl
                            rotate_left
                            · simp only [Act.put, List.setIfInBounds_toArray, List.set_cons_zero, List.set_cons_succ, i64_w, i32_w]
                              rfl
                            refine pure_ (i := 6) (N := some 24) (v := ?_) (a' := ?_) #[true, true, true, false, true, true, true, false, false, false, false, false] rfl rfl (any_of HT_.out (by kernel_rfl)) (fun _ _ _ h => h) (Or.inl ⟨by rfl, ?_⟩) ?_ ?_
                            rotate_left
                            · intro w'
                              go_simp
                              with_reducible rfl
                            rotate_left
                            · simp only [Act.put, List.setIfInBounds_toArray, List.set_cons_zero, List.set_cons_succ, i64_w, i32_w]
                              rfl
                            refine take_ (i := 3) (N := some 21) (v := ?_) (a' := ?_) #[true, true, true, true, true, true, true, false, false, false, false, false] rfl rfl (take_ofW HT_.out HW_.out (by kernel_rfl)) (fun _ _ _ h => h) (Or.inl ⟨by rfl, ?_⟩) hHeld ?_ ?_
                            rotate_left
                            · rintro w' ⟨s0, s1, s2, s3, s4, s5, s6, s7, s8, s9, s10, s11⟩
                              go_simp
                              with_reducible rfl
                            rotate_left
                            · simp only [Act.put, List.setIfInBounds_toArray, List.set_cons_zero, List.set_cons_succ, i64_w, i32_w]
                              rfl
                            refine take_ (i := 7) (N := some 25) (v := ?_) (a' := ?_) #[true, true, true, true, true, true, true, true, false, false, false, false] rfl rfl (take_ofW HT_.out HW_.out (by kernel_rfl)) (fun _ _ _ h => h) (Or.inl ⟨by rfl, ?_⟩) hHeld ?_ ?_
                            rotate_left
                            · rintro w' ⟨s0, s1, s2, s3, s4, s5, s6, s7, s8, s9, s10, s11⟩
                              go_simp
                              with_reducible rfl
                            rotate_left
                            · simp only [Act.put, List.setIfInBounds_toArray, List.set_cons_zero, List.set_cons_succ, i64_w, i32_w]
                              rfl
                            refine join_ (σ := Nat × Nat) 2 #[true, true, true, true, true, true, true, true, true, true, false, false] (fun s_ => [(6, .pointer (some ⟨s_.1, 0, none⟩)), (7, .pointer (some ⟨s_.2, 0, none⟩))]) (fun s_ w' => (w'.cell? (ad138.add ((x15_1).toNat * 6)) = some (.int .i64 ((rd_T39 l0 x15_1).f0)) ∧ w'.cell? ⟨(ad138.add ((x15_1).toNat * 6)).block, (ad138.add ((x15_1).toNat * 6)).off + 1, none⟩ = some (.int .i64 ((rd_T39 l0 x15_1).f1)) ∧ w'.cell? ⟨(ad138.add ((x15_1).toNat * 6)).block, (ad138.add ((x15_1).toNat * 6)).off + 2, none⟩ = some (.int .u8 ((rd_T39 l0 x15_1).f2)) ∧ w'.cell? ⟨(ad138.add ((x15_1).toNat * 6)).block, (ad138.add ((x15_1).toNat * 6)).off + 3, none⟩ = some (.int .i64 ((rd_T39 l0 x15_1).f3)) ∧ w'.cell? ⟨(ad138.add ((x15_1).toNat * 6)).block, (ad138.add ((x15_1).toNat * 6)).off + 4, none⟩ = some (.slice A138_4 ((rd_T39 l0 x15_1).f4).length c138_4) ∧ w'.cell? ⟨(ad138.add ((x15_1).toNat * 6)).block, (ad138.add ((x15_1).toNat * 6)).off + 5, none⟩ = some (.slice A138_5 ((rd_T39 l0 x15_1).f5).length c138_5) ∧ w'.cell? (ad139.add ((x15_1).toNat * 6)) = some (.int .i64 ((rd_T39 l1 x15_1).f0)) ∧ w'.cell? ⟨(ad139.add ((x15_1).toNat * 6)).block, (ad139.add ((x15_1).toNat * 6)).off + 1, none⟩ = some (.int .i64 ((rd_T39 l1 x15_1).f1)) ∧ w'.cell? ⟨(ad139.add ((x15_1).toNat * 6)).block, (ad139.add ((x15_1).toNat * 6)).off + 2, none⟩ = some (.int .u8 ((rd_T39 l1 x15_1).f2)) ∧ w'.cell? ⟨(ad139.add ((x15_1).toNat * 6)).block, (ad139.add ((x15_1).toNat * 6)).off + 3, none⟩ = some (.int .i64 ((rd_T39 l1 x15_1).f3)) ∧ w'.cell? ⟨(ad139.add ((x15_1).toNat * 6)).block, (ad139.add ((x15_1).toNat * 6)).off + 4, none⟩ = some (.slice A139_4 ((rd_T39 l1 x15_1).f4).length c139_4) ∧ w'.cell? ⟨(ad139.add ((x15_1).toNat * 6)).block, (ad139.add ((x15_1).toNat * 6)).off + 5, none⟩ = some (.slice A139_5 ((rd_T39 l1 x15_1).f5).length c139_5)) ∧ (w'.heap[s_.1]? = some (.cells #[.int .i64 0, .int .i64 0, .int .u8 0, .int .i64 0, .slice none 0 0, .slice none 0 0] 39 (0, 0))) ∧ (w'.heap[s_.2]? = some (.cells #[.int .i64 0, .int .i64 0, .int .u8 0, .int .i64 0, .slice none 0 0, .slice none 0 0] 39 (0, 0))) ∧ (w.heap.size ≤ s_.1) ∧ (w.heap.size ≤ s_.1) ∧ (s_.2 ≠ s_.1) ∧ (s_.1 ≠ s_.2) ∧ (w.heap.size ≤ s_.2) ∧ (w.heap.size ≤ s_.2) ∧ (Below w.heap.size w w')) ?_ ?_
                            rotate_left
                            · intro hCont
                              refine two_ (i := 8) (j := 9) (Ni := some 6) (Nj := some 7) #[true, true, true, true, true, true, true, true, true, false, false, false] #[true, true, true, true, true, true, true, true, false, true, false, false] rfl rfl rfl rfl (two_of HT_.out (by kernel_rfl)) (by decide) (by decide) (fun K hK => ?_) (fun K hK => ?_)
                              · skip
                                refine box_step ?hg (N := 6) ?hd (cs := #[.int .i64 0, .int .i64 0, .int .u8 0, .int .i64 0, .slice none 0 0, .slice none 0 0]) (t := 39) ?hr ?_; (case hd => rfl); (case hg => rfl); (case hr => first | (go_simp; done) | (go_simp; rfl))
                                intro gb140 hg w17 hbox hb
                                have n0_ := Aside0.mk (below_step (by repeat (first | (with_reducible first | exact HB.out | apply below_alloc | apply pw_below_drewN | apply below_drew1) | exact HB.out)) hb)
                                have n1_ := Aside0.mk (hbox)
                                have n2_ := Aside0.mk ((by rw [hg]; exact (below_size (by repeat (first | (with_reducible first | exact HB.out | apply below_alloc | apply pw_below_drewN | apply below_drew1) | exact HB.out))) : w.heap.size ≤ gb140))
                                have n3_ := Aside0.mk ((by rw [hg]; exact (below_size (by repeat (first | (with_reducible first | exact HB.out | apply below_alloc | apply pw_below_drewN | apply below_drew1) | exact HB.out))) : w.heap.size ≤ gb140))
                                clear HB
                                have HB := n0_
                                have BK140 := n1_
                                have GW140 := n2_
                                have GE140 := n3_
                                clear n0_ n1_ n2_ n3_
                                clear hb hbox hg
                                refine hK.out _ _ ⟨((HB.out.cell (World.block_lt_of_cell? w _ hw138_0)).trans hw138_0), ((HB.out.cell (World.block_lt_of_cell? w _ hw138_1)).trans hw138_1), ((HB.out.cell (World.block_lt_of_cell? w _ hw138_2)).trans hw138_2), ((HB.out.cell (World.block_lt_of_cell? w _ hw138_3)).trans hw138_3), ((HB.out.cell (World.block_lt_of_cell? w _ hw138_4)).trans hw138_4), ((HB.out.cell (World.block_lt_of_cell? w _ hw138_5)).trans hw138_5), ((HB.out.cell (World.block_lt_of_cell? w _ hw139_0)).trans hw139_0), ((HB.out.cell (World.block_lt_of_cell? w _ hw139_1)).trans hw139_1), ((HB.out.cell (World.block_lt_of_cell? w _ hw139_2)).trans hw139_2), ((HB.out.cell (World.block_lt_of_cell? w _ hw139_3)).trans hw139_3), ((HB.out.cell (World.block_lt_of_cell? w _ hw139_4)).trans hw139_4), ((HB.out.cell (World.block_lt_of_cell? w _ hw139_5)).trans hw139_5)⟩ (fun hHeld => ?_)
                                clear hK K
                                refine norm_ (a' := ?_) ?_ ?_
                                rotate_left
                                · show Act.put _ (some 6) _ = _
                                  simp only [Act.put, List.setIfInBounds_toArray, List.set_cons_zero, List.set_cons_succ, i64_w, i32_w]
                                  rfl
                                refine one_ (i := 9) (N := some 7) #[true, true, true, true, true, true, true, true, true, true, false, false] rfl rfl (one_of HT_.out (by kernel_rfl)) (by decide) (fun K hK => ?_)
                                refine box_step ?hg (N := 7) ?hd (cs := #[.int .i64 0, .int .i64 0, .int .u8 0, .int .i64 0, .slice none 0 0, .slice none 0 0]) (t := 39) ?hr ?_; (case hd => rfl); (case hg => rfl); (case hr => first | (go_simp; done) | (go_simp; rfl))
                                intro gb141 hg w18 hbox hb
                                have n0_ := Aside0.mk (blk_below (g := gb140) (o := .cells #[.int .i64 0, .int .i64 0, .int .u8 0, .int .i64 0, .slice none 0 0, .slice none 0 0] 39 (0, 0)) (by (with_reducible repeat (first | refine blk_drewN ?_ _ | refine blk_drew ?_ | refine blk_alloc ?_ _)); exact BK140.out) hb)
                                have n1_ := Aside0.mk (below_step (by repeat (first | (with_reducible first | exact HB.out | apply below_alloc | apply pw_below_drewN | apply below_drew1 | refine below_set ?_ GE140.out) | exact HB.out)) hb)
                                have n2_ := Aside0.mk (hbox)
                                have n3_ := Aside0.mk ((by rw [hg]; exact (below_size (by repeat (first | (with_reducible first | exact HB.out | apply below_alloc | apply pw_below_drewN | apply below_drew1 | refine below_set ?_ GE140.out) | exact HB.out))) : w.heap.size ≤ gb141))
                                have n4_ := Aside0.mk ((by rw [hg]; exact (below_size (by repeat (first | (with_reducible first | exact HB.out | apply below_alloc | apply pw_below_drewN | apply below_drew1 | refine below_set ?_ GE140.out) | exact HB.out))) : w.heap.size ≤ gb141))
                                have n5_ := Aside0.mk ((by rw [hg]; exact Nat.ne_of_lt (blk_lt (g := gb140) (o := .cells #[.int .i64 0, .int .i64 0, .int .u8 0, .int .i64 0, .slice none 0 0, .slice none 0 0] 39 (0, 0)) (by (with_reducible repeat (first | refine blk_drewN ?_ _ | refine blk_drew ?_ | refine blk_alloc ?_ _)); exact BK140.out)) : gb140 ≠ gb141))
                                have n6_ := Aside0.mk ((by rw [hg]; exact Nat.ne_of_gt (blk_lt (g := gb140) (o := .cells #[.int .i64 0, .int .i64 0, .int .u8 0, .int .i64 0, .slice none 0 0, .slice none 0 0] 39 (0, 0)) (by (with_reducible repeat (first | refine blk_drewN ?_ _ | refine blk_drew ?_ | refine blk_alloc ?_ _)); exact BK140.out)) : gb141 ≠ gb140))
                                clear BK140
                                clear HB
                                have BK140 := n0_
                                have HB := n1_
                                have BK141 := n2_
                                have GW141 := n3_
                                have GE141 := n4_
                                have NB140_141 := n5_
                                have NB141_140 := n6_
                                clear n0_ n1_ n2_ n3_ n4_ n5_ n6_
                                clear hb hbox hg
                                refine hK.out _ _ ⟨((HB.out.cell (World.block_lt_of_cell? w _ hw138_0)).trans hw138_0), ((HB.out.cell (World.block_lt_of_cell? w _ hw138_1)).trans hw138_1), ((HB.out.cell (World.block_lt_of_cell? w _ hw138_2)).trans hw138_2), ((HB.out.cell (World.block_lt_of_cell? w _ hw138_3)).trans hw138_3), ((HB.out.cell (World.block_lt_of_cell? w _ hw138_4)).trans hw138_4), ((HB.out.cell (World.block_lt_of_cell? w _ hw138_5)).trans hw138_5), ((HB.out.cell (World.block_lt_of_cell? w _ hw139_0)).trans hw139_0), ((HB.out.cell (World.block_lt_of_cell? w _ hw139_1)).trans hw139_1), ((HB.out.cell (World.block_lt_of_cell? w _ hw139_2)).trans hw139_2), ((HB.out.cell (World.block_lt_of_cell? w _ hw139_3)).trans hw139_3), ((HB.out.cell (World.block_lt_of_cell? w _ hw139_4)).trans hw139_4), ((HB.out.cell (World.block_lt_of_cell? w _ hw139_5)).trans hw139_5)⟩ (fun hHeld => ?_)
                                clear hK K
                                refine norm_ (a' := ?_) ?_ ?_
                                rotate_left
                                · show Act.put _ (some 7) _ = _
                                  simp only [Act.put, List.setIfInBounds_toArray, List.set_cons_zero, List.set_cons_succ, i64_w, i32_w]
                                  rfl
                                exact norm_ (by simp only [putAll, Act.put, List.setIfInBounds_toArray, List.set_cons_zero, List.set_cons_succ]) (hCont (gb140, gb141) _ ⟨hHeld, (by (with_reducible repeat (first | refine blk_drewN ?_ _ | refine blk_drew ?_ | refine blk_alloc ?_ _)); exact BK140.out), (by (with_reducible repeat (first | refine blk_drewN ?_ _ | refine blk_drew ?_ | refine blk_alloc ?_ _)); exact BK141.out), GW140.out, GE140.out, NB141_140.out, NB140_141.out, GW141.out, GE141.out, (by repeat (first | (with_reducible first | exact HB.out | apply below_alloc | apply pw_below_drewN | apply below_drew1 | refine below_set ?_ GE140.out | refine below_set ?_ GE141.out) | exact HB.out))⟩)
                              · skip
                                refine box_step ?hg (N := 7) ?hd (cs := #[.int .i64 0, .int .i64 0, .int .u8 0, .int .i64 0, .slice none 0 0, .slice none 0 0]) (t := 39) ?hr ?_; (case hd => rfl); (case hg => rfl); (case hr => first | (go_simp; done) | (go_simp; rfl))
                                intro gb141 hg w17 hbox hb
                                have n0_ := Aside0.mk (below_step (by repeat (first | (with_reducible first | exact HB.out | apply below_alloc | apply pw_below_drewN | apply below_drew1) | exact HB.out)) hb)
                                have n1_ := Aside0.mk (hbox)
                                have n2_ := Aside0.mk ((by rw [hg]; exact (below_size (by repeat (first | (with_reducible first | exact HB.out | apply below_alloc | apply pw_below_drewN | apply below_drew1) | exact HB.out))) : w.heap.size ≤ gb141))
                                have n3_ := Aside0.mk ((by rw [hg]; exact (below_size (by repeat (first | (with_reducible first | exact HB.out | apply below_alloc | apply pw_below_drewN | apply below_drew1) | exact HB.out))) : w.heap.size ≤ gb141))
                                clear HB
                                have HB := n0_
                                have BK141 := n1_
                                have GW141 := n2_
                                have GE141 := n3_
                                clear n0_ n1_ n2_ n3_
                                clear hb hbox hg
                                refine hK.out _ _ ⟨((HB.out.cell (World.block_lt_of_cell? w _ hw138_0)).trans hw138_0), ((HB.out.cell (World.block_lt_of_cell? w _ hw138_1)).trans hw138_1), ((HB.out.cell (World.block_lt_of_cell? w _ hw138_2)).trans hw138_2), ((HB.out.cell (World.block_lt_of_cell? w _ hw138_3)).trans hw138_3), ((HB.out.cell (World.block_lt_of_cell? w _ hw138_4)).trans hw138_4), ((HB.out.cell (World.block_lt_of_cell? w _ hw138_5)).trans hw138_5), ((HB.out.cell (World.block_lt_of_cell? w _ hw139_0)).trans hw139_0), ((HB.out.cell (World.block_lt_of_cell? w _ hw139_1)).trans hw139_1), ((HB.out.cell (World.block_lt_of_cell? w _ hw139_2)).trans hw139_2), ((HB.out.cell (World.block_lt_of_cell? w _ hw139_3)).trans hw139_3), ((HB.out.cell (World.block_lt_of_cell? w _ hw139_4)).trans hw139_4), ((HB.out.cell (World.block_lt_of_cell? w _ hw139_5)).trans hw139_5)⟩ (fun hHeld => ?_)
                                clear hK K
                                refine norm_ (a' := ?_) ?_ ?_
                                rotate_left
                                · show Act.put _ (some 7) _ = _
                                  simp only [Act.put, List.setIfInBounds_toArray, List.set_cons_zero, List.set_cons_succ, i64_w, i32_w]
                                  rfl
                                refine one_ (i := 8) (N := some 6) #[true, true, true, true, true, true, true, true, true, true, false, false] rfl rfl (one_of HT_.out (by kernel_rfl)) (by decide) (fun K hK => ?_)
                                refine box_step ?hg (N := 6) ?hd (cs := #[.int .i64 0, .int .i64 0, .int .u8 0, .int .i64 0, .slice none 0 0, .slice none 0 0]) (t := 39) ?hr ?_; (case hd => rfl); (case hg => rfl); (case hr => first | (go_simp; done) | (go_simp; rfl))
                                intro gb140 hg w18 hbox hb
                                have n0_ := Aside0.mk (blk_below (g := gb141) (o := .cells #[.int .i64 0, .int .i64 0, .int .u8 0, .int .i64 0, .slice none 0 0, .slice none 0 0] 39 (0, 0)) (by (with_reducible repeat (first | refine blk_drewN ?_ _ | refine blk_drew ?_ | refine blk_alloc ?_ _)); exact BK141.out) hb)
                                have n1_ := Aside0.mk (below_step (by repeat (first | (with_reducible first | exact HB.out | apply below_alloc | apply pw_below_drewN | apply below_drew1 | refine below_set ?_ GE141.out) | exact HB.out)) hb)
                                have n2_ := Aside0.mk (hbox)
                                have n3_ := Aside0.mk ((by rw [hg]; exact (below_size (by repeat (first | (with_reducible first | exact HB.out | apply below_alloc | apply pw_below_drewN | apply below_drew1 | refine below_set ?_ GE141.out) | exact HB.out))) : w.heap.size ≤ gb140))
                                have n4_ := Aside0.mk ((by rw [hg]; exact (below_size (by repeat (first | (with_reducible first | exact HB.out | apply below_alloc | apply pw_below_drewN | apply below_drew1 | refine below_set ?_ GE141.out) | exact HB.out))) : w.heap.size ≤ gb140))
                                have n5_ := Aside0.mk ((by rw [hg]; exact Nat.ne_of_lt (blk_lt (g := gb141) (o := .cells #[.int .i64 0, .int .i64 0, .int .u8 0, .int .i64 0, .slice none 0 0, .slice none 0 0] 39 (0, 0)) (by (with_reducible repeat (first | refine blk_drewN ?_ _ | refine blk_drew ?_ | refine blk_alloc ?_ _)); exact BK141.out)) : gb141 ≠ gb140))
                                have n6_ := Aside0.mk ((by rw [hg]; exact Nat.ne_of_gt (blk_lt (g := gb141) (o := .cells #[.int .i64 0, .int .i64 0, .int .u8 0, .int .i64 0, .slice none 0 0, .slice none 0 0] 39 (0, 0)) (by (with_reducible repeat (first | refine blk_drewN ?_ _ | refine blk_drew ?_ | refine blk_alloc ?_ _)); exact BK141.out)) : gb140 ≠ gb141))
                                clear BK141
                                clear HB
                                have BK141 := n0_
                                have HB := n1_
                                have BK140 := n2_
                                have GW140 := n3_
                                have GE140 := n4_
                                have NB141_140 := n5_
                                have NB140_141 := n6_
                                clear n0_ n1_ n2_ n3_ n4_ n5_ n6_
                                clear hb hbox hg
                                refine hK.out _ _ ⟨((HB.out.cell (World.block_lt_of_cell? w _ hw138_0)).trans hw138_0), ((HB.out.cell (World.block_lt_of_cell? w _ hw138_1)).trans hw138_1), ((HB.out.cell (World.block_lt_of_cell? w _ hw138_2)).trans hw138_2), ((HB.out.cell (World.block_lt_of_cell? w _ hw138_3)).trans hw138_3), ((HB.out.cell (World.block_lt_of_cell? w _ hw138_4)).trans hw138_4), ((HB.out.cell (World.block_lt_of_cell? w _ hw138_5)).trans hw138_5), ((HB.out.cell (World.block_lt_of_cell? w _ hw139_0)).trans hw139_0), ((HB.out.cell (World.block_lt_of_cell? w _ hw139_1)).trans hw139_1), ((HB.out.cell (World.block_lt_of_cell? w _ hw139_2)).trans hw139_2), ((HB.out.cell (World.block_lt_of_cell? w _ hw139_3)).trans hw139_3), ((HB.out.cell (World.block_lt_of_cell? w _ hw139_4)).trans hw139_4), ((HB.out.cell (World.block_lt_of_cell? w _ hw139_5)).trans hw139_5)⟩ (fun hHeld => ?_)
                                clear hK K
                                refine norm_ (a' := ?_) ?_ ?_
                                rotate_left
                                · show Act.put _ (some 6) _ = _
                                  simp only [Act.put, List.setIfInBounds_toArray, List.set_cons_zero, List.set_cons_succ, i64_w, i32_w]
                                  rfl
                                exact norm_ (by simp only [putAll, Act.put, List.setIfInBounds_toArray, List.set_cons_zero, List.set_cons_succ]) (hCont (gb140, gb141) _ ⟨hHeld, (by (with_reducible repeat (first | refine blk_drewN ?_ _ | refine blk_drew ?_ | refine blk_alloc ?_ _)); exact BK140.out), (by (with_reducible repeat (first | refine blk_drewN ?_ _ | refine blk_drew ?_ | refine blk_alloc ?_ _)); exact BK141.out), GW140.out, GE140.out, NB141_140.out, NB140_141.out, GW141.out, GE141.out, (by repeat (first | (with_reducible first | exact HB.out | apply below_alloc | apply pw_below_drewN | apply below_drew1 | refine below_set ?_ GE141.out | refine below_set ?_ GE140.out) | exact HB.out))⟩)
                            rintro ⟨gb140, gb141⟩ w19 ⟨hS_, h0_, h1_, h2_, h3_, h4_, h5_, h6_, h7_, h8_⟩
                            have n0_ : Aside0 (w19.heap[gb140]? = some (.cells #[.int .i64 0, .int .i64 0, .int .u8 0, .int .i64 0, .slice none 0 0, .slice none 0 0] 39 (0, 0))) := ⟨h0_⟩
                            have n1_ : Aside0 (w19.heap[gb141]? = some (.cells #[.int .i64 0, .int .i64 0, .int .u8 0, .int .i64 0, .slice none 0 0, .slice none 0 0] 39 (0, 0))) := ⟨h1_⟩
                            have n2_ : Aside0 (w.heap.size ≤ gb140) := ⟨h2_⟩
                            have n3_ : Aside0 (w.heap.size ≤ gb140) := ⟨h3_⟩
                            have n4_ : Aside0 (gb141 ≠ gb140) := ⟨h4_⟩
                            have n5_ : Aside0 (gb140 ≠ gb141) := ⟨h5_⟩
                            have n6_ : Aside0 (w.heap.size ≤ gb141) := ⟨h6_⟩
                            have n7_ : Aside0 (w.heap.size ≤ gb141) := ⟨h7_⟩
                            have n8_ : Aside0 (Below w.heap.size w w19) := ⟨h8_⟩
                            clear HB
                            clear h0_ h1_ h2_ h3_ h4_ h5_ h6_ h7_ h8_
                            have BK140 := n0_
                            have BK141 := n1_
                            have GW140 := n2_
                            have GE140 := n3_
                            have NB141_140 := n4_
                            have NB140_141 := n5_
                            have GW141 := n6_
                            have GE141 := n7_
                            have HB := n8_
                            clear n0_ n1_ n2_ n3_ n4_ n5_ n6_ n7_ n8_
                            have hHeld : w19.cell? (ad138.add ((x15_1).toNat * 6)) = some (.int .i64 ((rd_T39 l0 x15_1).f0)) ∧ w19.cell? ⟨(ad138.add ((x15_1).toNat * 6)).block, (ad138.add ((x15_1).toNat * 6)).off + 1, none⟩ = some (.int .i64 ((rd_T39 l0 x15_1).f1)) ∧ w19.cell? ⟨(ad138.add ((x15_1).toNat * 6)).block, (ad138.add ((x15_1).toNat * 6)).off + 2, none⟩ = some (.int .u8 ((rd_T39 l0 x15_1).f2)) ∧ w19.cell? ⟨(ad138.add ((x15_1).toNat * 6)).block, (ad138.add ((x15_1).toNat * 6)).off + 3, none⟩ = some (.int .i64 ((rd_T39 l0 x15_1).f3)) ∧ w19.cell? ⟨(ad138.add ((x15_1).toNat * 6)).block, (ad138.add ((x15_1).toNat * 6)).off + 4, none⟩ = some (.slice A138_4 ((rd_T39 l0 x15_1).f4).length c138_4) ∧ w19.cell? ⟨(ad138.add ((x15_1).toNat * 6)).block, (ad138.add ((x15_1).toNat * 6)).off + 5, none⟩ = some (.slice A138_5 ((rd_T39 l0 x15_1).f5).length c138_5) ∧ w19.cell? (ad139.add ((x15_1).toNat * 6)) = some (.int .i64 ((rd_T39 l1 x15_1).f0)) ∧ w19.cell? ⟨(ad139.add ((x15_1).toNat * 6)).block, (ad139.add ((x15_1).toNat * 6)).off + 1, none⟩ = some (.int .i64 ((rd_T39 l1 x15_1).f1)) ∧ w19.cell? ⟨(ad139.add ((x15_1).toNat * 6)).block, (ad139.add ((x15_1).toNat * 6)).off + 2, none⟩ = some (.int .u8 ((rd_T39 l1 x15_1).f2)) ∧ w19.cell? ⟨(ad139.add ((x15_1).toNat * 6)).block, (ad139.add ((x15_1).toNat * 6)).off + 3, none⟩ = some (.int .i64 ((rd_T39 l1 x15_1).f3)) ∧ w19.cell? ⟨(ad139.add ((x15_1).toNat * 6)).block, (ad139.add ((x15_1).toNat * 6)).off + 4, none⟩ = some (.slice A139_4 ((rd_T39 l1 x15_1).f4).length c139_4) ∧ w19.cell? ⟨(ad139.add ((x15_1).toNat * 6)).block, (ad139.add ((x15_1).toNat * 6)).off + 5, none⟩ = some (.slice A139_5 ((rd_T39 l1 x15_1).f5).length c139_5) := hS_
                            refine norm_ (a' := ?_) ?_ ?_
                            rotate_left
                            · simp only [putAll, Act.put, List.setIfInBounds_toArray, List.set_cons_zero, List.set_cons_succ]
                              rfl
                            refine one_ (i := 10) (N := none) #[true, true, true, true, true, true, true, true, true, true, true, false] rfl rfl (one_of HT_.out (by kernel_rfl)) (by decide) (fun K hK => ?_)
                            have hs20 : w19.cell? ⟨gb140, 0, none⟩ = some (.int .i64 0) := (blk_cell BK140.out 0).trans rfl
                            have hfs20 := blk_frozen BK140.out 0
                            have hns20_1 := NB141_140.out
                            have hms20_1 := NB140_141.out
                            have hs21 : w19.cell? ⟨gb140, 1, none⟩ = some (.int .i64 0) := (blk_cell BK140.out 1).trans rfl
                            have hfs21 := blk_frozen BK140.out 1
                            have hns21_1 := NB141_140.out
                            have hms21_1 := NB140_141.out
                            have hs22 : w19.cell? ⟨gb140, 2, none⟩ = some (.int .u8 0) := (blk_cell BK140.out 2).trans rfl
                            have hfs22 := blk_frozen BK140.out 2
                            have hns22_1 := NB141_140.out
                            have hms22_1 := NB140_141.out
                            have hs23 : w19.cell? ⟨gb140, 3, none⟩ = some (.int .i64 0) := (blk_cell BK140.out 3).trans rfl
                            have hfs23 := blk_frozen BK140.out 3
                            have hns23_1 := NB141_140.out
                            have hms23_1 := NB140_141.out
                            have hs24 : w19.cell? ⟨gb140, 4, none⟩ = some (.slice none 0 0) := (blk_cell BK140.out 4).trans rfl
                            have hfs24 := blk_frozen BK140.out 4
                            have hns24_1 := NB141_140.out
                            have hms24_1 := NB140_141.out
                            have hs25 : w19.cell? ⟨gb140, 5, none⟩ = some (.slice none 0 0) := (blk_cell BK140.out 5).trans rfl
                            have hfs25 := blk_frozen BK140.out 5
                            have hns25_1 := NB141_140.out
                            have hms25_1 := NB140_141.out
                            refine skip_ (w1 := ?_) (by rfl) rfl ?_ ?_
                            rotate_left
                            · go_simp
                              rfl
                            refine hK.out _ _ ⟨((cell_far (p := ⟨gb140, _, none⟩) (cell_ne hw138_0 GW140.out) _).trans (((cell_far (p := ⟨gb140, _, none⟩) (cell_ne hw138_0 GW140.out) _).trans (((cell_far (p := ⟨gb140, _, none⟩) (cell_ne hw138_0 GW140.out) _).trans (((cell_far (p := ⟨gb140, _, none⟩) (cell_ne hw138_0 GW140.out) _).trans (((cell_far (p := ⟨gb140, _, none⟩) (cell_ne hw138_0 GW140.out) _).trans (((cell_far (p := ⟨gb140, _, none⟩) (cell_ne hw138_0 GW140.out) _).trans (hHeld.1)))))))))))), ((cell_far (p := ⟨gb140, _, none⟩) (cell_ne hw138_1 GW140.out) _).trans (((cell_far (p := ⟨gb140, _, none⟩) (cell_ne hw138_1 GW140.out) _).trans (((cell_far (p := ⟨gb140, _, none⟩) (cell_ne hw138_1 GW140.out) _).trans (((cell_far (p := ⟨gb140, _, none⟩) (cell_ne hw138_1 GW140.out) _).trans (((cell_far (p := ⟨gb140, _, none⟩) (cell_ne hw138_1 GW140.out) _).trans (((cell_far (p := ⟨gb140, _, none⟩) (cell_ne hw138_1 GW140.out) _).trans (hHeld.2.1)))))))))))), ((cell_far (p := ⟨gb140, _, none⟩) (cell_ne hw138_2 GW140.out) _).trans (((cell_far (p := ⟨gb140, _, none⟩) (cell_ne hw138_2 GW140.out) _).trans (((cell_far (p := ⟨gb140, _, none⟩) (cell_ne hw138_2 GW140.out) _).trans (((cell_far (p := ⟨gb140, _, none⟩) (cell_ne hw138_2 GW140.out) _).trans (((cell_far (p := ⟨gb140, _, none⟩) (cell_ne hw138_2 GW140.out) _).trans (((cell_far (p := ⟨gb140, _, none⟩) (cell_ne hw138_2 GW140.out) _).trans (hHeld.2.2.1)))))))))))), ((cell_far (p := ⟨gb140, _, none⟩) (cell_ne hw138_3 GW140.out) _).trans (((cell_far (p := ⟨gb140, _, none⟩) (cell_ne hw138_3 GW140.out) _).trans (((cell_far (p := ⟨gb140, _, none⟩) (cell_ne hw138_3 GW140.out) _).trans (((cell_far (p := ⟨gb140, _, none⟩) (cell_ne hw138_3 GW140.out) _).trans (((cell_far (p := ⟨gb140, _, none⟩) (cell_ne hw138_3 GW140.out) _).trans (((cell_far (p := ⟨gb140, _, none⟩) (cell_ne hw138_3 GW140.out) _).trans (hHeld.2.2.2.1)))))))))))), ((cell_far (p := ⟨gb140, _, none⟩) (cell_ne hw138_4 GW140.out) _).trans (((cell_far (p := ⟨gb140, _, none⟩) (cell_ne hw138_4 GW140.out) _).trans (((cell_far (p := ⟨gb140, _, none⟩) (cell_ne hw138_4 GW140.out) _).trans (((cell_far (p := ⟨gb140, _, none⟩) (cell_ne hw138_4 GW140.out) _).trans (((cell_far (p := ⟨gb140, _, none⟩) (cell_ne hw138_4 GW140.out) _).trans (((cell_far (p := ⟨gb140, _, none⟩) (cell_ne hw138_4 GW140.out) _).trans (hHeld.2.2.2.2.1)))))))))))), ((cell_far (p := ⟨gb140, _, none⟩) (cell_ne hw138_5 GW140.out) _).trans (((cell_far (p := ⟨gb140, _, none⟩) (cell_ne hw138_5 GW140.out) _).trans (((cell_far (p := ⟨gb140, _, none⟩) (cell_ne hw138_5 GW140.out) _).trans (((cell_far (p := ⟨gb140, _, none⟩) (cell_ne hw138_5 GW140.out) _).trans (((cell_far (p := ⟨gb140, _, none⟩) (cell_ne hw138_5 GW140.out) _).trans (((cell_far (p := ⟨gb140, _, none⟩) (cell_ne hw138_5 GW140.out) _).trans (hHeld.2.2.2.2.2.1)))))))))))), ((cell_far (p := ⟨gb140, _, none⟩) (cell_ne hw139_0 GW140.out) _).trans (((cell_far (p := ⟨gb140, _, none⟩) (cell_ne hw139_0 GW140.out) _).trans (((cell_far (p := ⟨gb140, _, none⟩) (cell_ne hw139_0 GW140.out) _).trans (((cell_far (p := ⟨gb140, _, none⟩) (cell_ne hw139_0 GW140.out) _).trans (((cell_far (p := ⟨gb140, _, none⟩) (cell_ne hw139_0 GW140.out) _).trans (((cell_far (p := ⟨gb140, _, none⟩) (cell_ne hw139_0 GW140.out) _).trans (hHeld.2.2.2.2.2.2.1)))))))))))), ((cell_far (p := ⟨gb140, _, none⟩) (cell_ne hw139_1 GW140.out) _).trans (((cell_far (p := ⟨gb140, _, none⟩) (cell_ne hw139_1 GW140.out) _).trans (((cell_far (p := ⟨gb140, _, none⟩) (cell_ne hw139_1 GW140.out) _).trans (((cell_far (p := ⟨gb140, _, none⟩) (cell_ne hw139_1 GW140.out) _).trans (((cell_far (p := ⟨gb140, _, none⟩) (cell_ne hw139_1 GW140.out) _).trans (((cell_far (p := ⟨gb140, _, none⟩) (cell_ne hw139_1 GW140.out) _).trans (hHeld.2.2.2.2.2.2.2.1)))))))))))), ((cell_far (p := ⟨gb140, _, none⟩) (cell_ne hw139_2 GW140.out) _).trans (((cell_far (p := ⟨gb140, _, none⟩) (cell_ne hw139_2 GW140.out) _).trans (((cell_far (p := ⟨gb140, _, none⟩) (cell_ne hw139_2 GW140.out) _).trans (((cell_far (p := ⟨gb140, _, none⟩) (cell_ne hw139_2 GW140.out) _).trans (((cell_far (p := ⟨gb140, _, none⟩) (cell_ne hw139_2 GW140.out) _).trans (((cell_far (p := ⟨gb140, _, none⟩) (cell_ne hw139_2 GW140.out) _).trans (hHeld.2.2.2.2.2.2.2.2.1)))))))))))), ((cell_far (p := ⟨gb140, _, none⟩) (cell_ne hw139_3 GW140.out) _).trans (((cell_far (p := ⟨gb140, _, none⟩) (cell_ne hw139_3 GW140.out) _).trans (((cell_far (p := ⟨gb140, _, none⟩) (cell_ne hw139_3 GW140.out) _).trans (((cell_far (p := ⟨gb140, _, none⟩) (cell_ne hw139_3 GW140.out) _).trans (((cell_far (p := ⟨gb140, _, none⟩) (cell_ne hw139_3 GW140.out) _).trans (((cell_far (p := ⟨gb140, _, none⟩) (cell_ne hw139_3 GW140.out) _).trans (hHeld.2.2.2.2.2.2.2.2.2.1)))))))))))), ((cell_far (p := ⟨gb140, _, none⟩) (cell_ne hw139_4 GW140.out) _).trans (((cell_far (p := ⟨gb140, _, none⟩) (cell_ne hw139_4 GW140.out) _).trans (((cell_far (p := ⟨gb140, _, none⟩) (cell_ne hw139_4 GW140.out) _).trans (((cell_far (p := ⟨gb140, _, none⟩) (cell_ne hw139_4 GW140.out) _).trans (((cell_far (p := ⟨gb140, _, none⟩) (cell_ne hw139_4 GW140.out) _).trans (((cell_far (p := ⟨gb140, _, none⟩) (cell_ne hw139_4 GW140.out) _).trans (hHeld.2.2.2.2.2.2.2.2.2.2.1)))))))))))), ((cell_far (p := ⟨gb140, _, none⟩) (cell_ne hw139_5 GW140.out) _).trans (((cell_far (p := ⟨gb140, _, none⟩) (cell_ne hw139_5 GW140.out) _).trans (((cell_far (p := ⟨gb140, _, none⟩) (cell_ne hw139_5 GW140.out) _).trans (((cell_far (p := ⟨gb140, _, none⟩) (cell_ne hw139_5 GW140.out) _).trans (((cell_far (p := ⟨gb140, _, none⟩) (cell_ne hw139_5 GW140.out) _).trans (((cell_far (p := ⟨gb140, _, none⟩) (cell_ne hw139_5 GW140.out) _).trans (hHeld.2.2.2.2.2.2.2.2.2.2.2))))))))))))⟩ (fun hHeld => ?_)
                            clear hK K
                            refine one_ (i := 11) (N := none) #[true, true, true, true, true, true, true, true, true, true, true, true] rfl rfl (one_of HT_.out (by kernel_rfl)) (by decide) (fun K hK => ?_)
                            have hs26 : w19.cell? ⟨gb141, 0, none⟩ = some (.int .i64 0) := (blk_cell BK141.out 0).trans rfl
                            have hfs26 := blk_frozen BK141.out 0
                            have hns26_0 := NB140_141.out
                            have hms26_0 := NB141_140.out
                            have hs27 : w19.cell? ⟨gb141, 1, none⟩ = some (.int .i64 0) := (blk_cell BK141.out 1).trans rfl
                            have hfs27 := blk_frozen BK141.out 1
                            have hns27_0 := NB140_141.out
                            have hms27_0 := NB141_140.out
                            have hs28 : w19.cell? ⟨gb141, 2, none⟩ = some (.int .u8 0) := (blk_cell BK141.out 2).trans rfl
                            have hfs28 := blk_frozen BK141.out 2
                            have hns28_0 := NB140_141.out
                            have hms28_0 := NB141_140.out
                            have hs29 : w19.cell? ⟨gb141, 3, none⟩ = some (.int .i64 0) := (blk_cell BK141.out 3).trans rfl
                            have hfs29 := blk_frozen BK141.out 3
                            have hns29_0 := NB140_141.out
                            have hms29_0 := NB141_140.out
                            have hs30 : w19.cell? ⟨gb141, 4, none⟩ = some (.slice none 0 0) := (blk_cell BK141.out 4).trans rfl
                            have hfs30 := blk_frozen BK141.out 4
                            have hns30_0 := NB140_141.out
                            have hms30_0 := NB141_140.out
                            have hs31 : w19.cell? ⟨gb141, 5, none⟩ = some (.slice none 0 0) := (blk_cell BK141.out 5).trans rfl
                            have hfs31 := blk_frozen BK141.out 5
                            have hns31_0 := NB140_141.out
                            have hms31_0 := NB141_140.out
                            refine skip_ (w1 := ?_) (by rfl) rfl ?_ ?_
                            rotate_left
                            · go_simp
                              rfl
                            refine hK.out _ _ ⟨((cell_far (p := ⟨gb141, _, none⟩) (cell_ne hw138_0 GW141.out) _).trans (((cell_far (p := ⟨gb141, _, none⟩) (cell_ne hw138_0 GW141.out) _).trans (((cell_far (p := ⟨gb141, _, none⟩) (cell_ne hw138_0 GW141.out) _).trans (((cell_far (p := ⟨gb141, _, none⟩) (cell_ne hw138_0 GW141.out) _).trans (((cell_far (p := ⟨gb141, _, none⟩) (cell_ne hw138_0 GW141.out) _).trans (((cell_far (p := ⟨gb141, _, none⟩) (cell_ne hw138_0 GW141.out) _).trans (hHeld.1)))))))))))), ((cell_far (p := ⟨gb141, _, none⟩) (cell_ne hw138_1 GW141.out) _).trans (((cell_far (p := ⟨gb141, _, none⟩) (cell_ne hw138_1 GW141.out) _).trans (((cell_far (p := ⟨gb141, _, none⟩) (cell_ne hw138_1 GW141.out) _).trans (((cell_far (p := ⟨gb141, _, none⟩) (cell_ne hw138_1 GW141.out) _).trans (((cell_far (p := ⟨gb141, _, none⟩) (cell_ne hw138_1 GW141.out) _).trans (((cell_far (p := ⟨gb141, _, none⟩) (cell_ne hw138_1 GW141.out) _).trans (hHeld.2.1)))))))))))), ((cell_far (p := ⟨gb141, _, none⟩) (cell_ne hw138_2 GW141.out) _).trans (((cell_far (p := ⟨gb141, _, none⟩) (cell_ne hw138_2 GW141.out) _).trans (((cell_far (p := ⟨gb141, _, none⟩) (cell_ne hw138_2 GW141.out) _).trans (((cell_far (p := ⟨gb141, _, none⟩) (cell_ne hw138_2 GW141.out) _).trans (((cell_far (p := ⟨gb141, _, none⟩) (cell_ne hw138_2 GW141.out) _).trans (((cell_far (p := ⟨gb141, _, none⟩) (cell_ne hw138_2 GW141.out) _).trans (hHeld.2.2.1)))))))))))), ((cell_far (p := ⟨gb141, _, none⟩) (cell_ne hw138_3 GW141.out) _).trans (((cell_far (p := ⟨gb141, _, none⟩) (cell_ne hw138_3 GW141.out) _).trans (((cell_far (p := ⟨gb141, _, none⟩) (cell_ne hw138_3 GW141.out) _).trans (((cell_far (p := ⟨gb141, _, none⟩) (cell_ne hw138_3 GW141.out) _).trans (((cell_far (p := ⟨gb141, _, none⟩) (cell_ne hw138_3 GW141.out) _).trans (((cell_far (p := ⟨gb141, _, none⟩) (cell_ne hw138_3 GW141.out) _).trans (hHeld.2.2.2.1)))))))))))), ((cell_far (p := ⟨gb141, _, none⟩) (cell_ne hw138_4 GW141.out) _).trans (((cell_far (p := ⟨gb141, _, none⟩) (cell_ne hw138_4 GW141.out) _).trans (((cell_far (p := ⟨gb141, _, none⟩) (cell_ne hw138_4 GW141.out) _).trans (((cell_far (p := ⟨gb141, _, none⟩) (cell_ne hw138_4 GW141.out) _).trans (((cell_far (p := ⟨gb141, _, none⟩) (cell_ne hw138_4 GW141.out) _).trans (((cell_far (p := ⟨gb141, _, none⟩) (cell_ne hw138_4 GW141.out) _).trans (hHeld.2.2.2.2.1)))))))))))), ((cell_far (p := ⟨gb141, _, none⟩) (cell_ne hw138_5 GW141.out) _).trans (((cell_far (p := ⟨gb141, _, none⟩) (cell_ne hw138_5 GW141.out) _).trans (((cell_far (p := ⟨gb141, _, none⟩) (cell_ne hw138_5 GW141.out) _).trans (((cell_far (p := ⟨gb141, _, none⟩) (cell_ne hw138_5 GW141.out) _).trans (((cell_far (p := ⟨gb141, _, none⟩) (cell_ne hw138_5 GW141.out) _).trans (((cell_far (p := ⟨gb141, _, none⟩) (cell_ne hw138_5 GW141.out) _).trans (hHeld.2.2.2.2.2.1)))))))))))), ((cell_far (p := ⟨gb141, _, none⟩) (cell_ne hw139_0 GW141.out) _).trans (((cell_far (p := ⟨gb141, _, none⟩) (cell_ne hw139_0 GW141.out) _).trans (((cell_far (p := ⟨gb141, _, none⟩) (cell_ne hw139_0 GW141.out) _).trans (((cell_far (p := ⟨gb141, _, none⟩) (cell_ne hw139_0 GW141.out) _).trans (((cell_far (p := ⟨gb141, _, none⟩) (cell_ne hw139_0 GW141.out) _).trans (((cell_far (p := ⟨gb141, _, none⟩) (cell_ne hw139_0 GW141.out) _).trans (hHeld.2.2.2.2.2.2.1)))))))))))), ((cell_far (p := ⟨gb141, _, none⟩) (cell_ne hw139_1 GW141.out) _).trans (((cell_far (p := ⟨gb141, _, none⟩) (cell_ne hw139_1 GW141.out) _).trans (((cell_far (p := ⟨gb141, _, none⟩) (cell_ne hw139_1 GW141.out) _).trans (((cell_far (p := ⟨gb141, _, none⟩) (cell_ne hw139_1 GW141.out) _).trans (((cell_far (p := ⟨gb141, _, none⟩) (cell_ne hw139_1 GW141.out) _).trans (((cell_far (p := ⟨gb141, _, none⟩) (cell_ne hw139_1 GW141.out) _).trans (hHeld.2.2.2.2.2.2.2.1)))))))))))), ((cell_far (p := ⟨gb141, _, none⟩) (cell_ne hw139_2 GW141.out) _).trans (((cell_far (p := ⟨gb141, _, none⟩) (cell_ne hw139_2 GW141.out) _).trans (((cell_far (p := ⟨gb141, _, none⟩) (cell_ne hw139_2 GW141.out) _).trans (((cell_far (p := ⟨gb141, _, none⟩) (cell_ne hw139_2 GW141.out) _).trans (((cell_far (p := ⟨gb141, _, none⟩) (cell_ne hw139_2 GW141.out) _).trans (((cell_far (p := ⟨gb141, _, none⟩) (cell_ne hw139_2 GW141.out) _).trans (hHeld.2.2.2.2.2.2.2.2.1)))))))))))), ((cell_far (p := ⟨gb141, _, none⟩) (cell_ne hw139_3 GW141.out) _).trans (((cell_far (p := ⟨gb141, _, none⟩) (cell_ne hw139_3 GW141.out) _).trans (((cell_far (p := ⟨gb141, _, none⟩) (cell_ne hw139_3 GW141.out) _).trans (((cell_far (p := ⟨gb141, _, none⟩) (cell_ne hw139_3 GW141.out) _).trans (((cell_far (p := ⟨gb141, _, none⟩) (cell_ne hw139_3 GW141.out) _).trans (((cell_far (p := ⟨gb141, _, none⟩) (cell_ne hw139_3 GW141.out) _).trans (hHeld.2.2.2.2.2.2.2.2.2.1)))))))))))), ((cell_far (p := ⟨gb141, _, none⟩) (cell_ne hw139_4 GW141.out) _).trans (((cell_far (p := ⟨gb141, _, none⟩) (cell_ne hw139_4 GW141.out) _).trans (((cell_far (p := ⟨gb141, _, none⟩) (cell_ne hw139_4 GW141.out) _).trans (((cell_far (p := ⟨gb141, _, none⟩) (cell_ne hw139_4 GW141.out) _).trans (((cell_far (p := ⟨gb141, _, none⟩) (cell_ne hw139_4 GW141.out) _).trans (((cell_far (p := ⟨gb141, _, none⟩) (cell_ne hw139_4 GW141.out) _).trans (hHeld.2.2.2.2.2.2.2.2.2.2.1)))))))))))), ((cell_far (p := ⟨gb141, _, none⟩) (cell_ne hw139_5 GW141.out) _).trans (((cell_far (p := ⟨gb141, _, none⟩) (cell_ne hw139_5 GW141.out) _).trans (((cell_far (p := ⟨gb141, _, none⟩) (cell_ne hw139_5 GW141.out) _).trans (((cell_far (p := ⟨gb141, _, none⟩) (cell_ne hw139_5 GW141.out) _).trans (((cell_far (p := ⟨gb141, _, none⟩) (cell_ne hw139_5 GW141.out) _).trans (((cell_far (p := ⟨gb141, _, none⟩) (cell_ne hw139_5 GW141.out) _).trans (hHeld.2.2.2.2.2.2.2.2.2.2.2))))))))))))⟩ (fun hHeld => ?_)
                            clear hK K
                            refine done_ (done_of HT_.out (by kernel_rfl)) ?_
                            have hnb32 := NB140_141.out
                            have hnc32 := NB141_140.out
                            have hcz33_0 : w19.cell? ⟨gb140, 0, none⟩ = some (.int .i64 0) := (blk_cell BK140.out 0).trans rfl
                            have hcz33_1 : w19.cell? ⟨gb140, 1, none⟩ = some (.int .i64 0) := (blk_cell BK140.out 1).trans rfl
                            have hcz33_2 : w19.cell? ⟨gb140, 2, none⟩ = some (.int .u8 0) := (blk_cell BK140.out 2).trans rfl
                            have hcz33_3 : w19.cell? ⟨gb140, 3, none⟩ = some (.int .i64 0) := (blk_cell BK140.out 3).trans rfl
                            have hcz33_4 : w19.cell? ⟨gb140, 4, none⟩ = some (.slice none 0 0) := (blk_cell BK140.out 4).trans rfl
                            have hcz33_5 : w19.cell? ⟨gb140, 5, none⟩ = some (.slice none 0 0) := (blk_cell BK140.out 5).trans rfl
                            have hfz33_0 := blk_frozen BK140.out 0
                            have hfz33_1 := blk_frozen BK140.out 1
                            have hfz33_2 := blk_frozen BK140.out 2
                            have hfz33_3 := blk_frozen BK140.out 3
                            have hfz33_4 := blk_frozen BK140.out 4
                            have hfz33_5 := blk_frozen BK140.out 5
                            have hcz34_0 : w19.cell? ⟨gb141, 0, none⟩ = some (.int .i64 0) := (blk_cell BK141.out 0).trans rfl
                            have hcz34_1 : w19.cell? ⟨gb141, 1, none⟩ = some (.int .i64 0) := (blk_cell BK141.out 1).trans rfl
                            have hcz34_2 : w19.cell? ⟨gb141, 2, none⟩ = some (.int .u8 0) := (blk_cell BK141.out 2).trans rfl
                            have hcz34_3 : w19.cell? ⟨gb141, 3, none⟩ = some (.int .i64 0) := (blk_cell BK141.out 3).trans rfl
                            have hcz34_4 : w19.cell? ⟨gb141, 4, none⟩ = some (.slice none 0 0) := (blk_cell BK141.out 4).trans rfl
                            have hcz34_5 : w19.cell? ⟨gb141, 5, none⟩ = some (.slice none 0 0) := (blk_cell BK141.out 5).trans rfl
                            have hfz34_0 := blk_frozen BK141.out 0
                            have hfz34_1 := blk_frozen BK141.out 1
                            have hfz34_2 := blk_frozen BK141.out 2
                            have hfz34_3 := blk_frozen BK141.out 3
                            have hfz34_4 := blk_frozen BK141.out 4
                            have hfz34_5 := blk_frozen BK141.out 5
                            try go_wp2_with (first | (go_at_call 30; (with_reducible refine (spec_SameInts.calls k1 _ _ ((rd_T39 l0 x15_1).f4) _ _ ((rd_T39 l1 x15_1).f4) true _ ?side1 ?side2 ?side3 ?side4 A12.out).mono ?_); (case side1 => exact Kd.C_below HR138_4.out (by repeat (first | (with_reducible first | exact HB.out | apply below_alloc | apply pw_below_drewN | apply below_drew1 | refine below_set ?_ GE140.out | refine below_set ?_ GE141.out) | exact HB.out))); (case side2 => exact HC138_4.out); (case side3 => exact Kd.C_below HR139_4.out (by repeat (first | (with_reducible first | exact HB.out | apply below_alloc | apply pw_below_drewN | apply below_drew1 | refine below_set ?_ GE140.out | refine below_set ?_ GE141.out) | exact HB.out))); (case side4 => exact HC139_4.out); rintro e w' ⟨rfl, ⟨nd, rfl⟩⟩) | (go_at_call 31; (with_reducible refine (spec_SameBytes.calls k1 _ _ ((rd_T39 l0 x15_1).f5) _ _ ((rd_T39 l1 x15_1).f5) true _ ?side1 ?side2 ?side3 ?side4 A14.out).mono ?_); (case side1 => exact Kd.C_below HR138_5.out (by repeat (first | (with_reducible first | exact HB.out | apply below_alloc | apply pw_below_drewN | apply below_drew1 | refine below_set ?_ GE140.out | refine below_set ?_ GE141.out) | exact HB.out))); (case side2 => exact HC138_5.out); (case side3 => exact Kd.C_below HR139_5.out (by repeat (first | (with_reducible first | exact HB.out | apply below_alloc | apply pw_below_drewN | apply below_drew1 | refine below_set ?_ GE140.out | refine below_set ?_ GE141.out) | exact HB.out))); (case side4 => exact HC139_5.out); rintro e w' ⟨rfl, ⟨nd, rfl⟩⟩))
                            go_roundg k1
                            case measure => have := HK1.out; omega
                            case rel => exact ⟨(wrap64 (x15_1 + 1)), (by first | rfl | (simp; done) | (simp [*]; done)), H', ⟨by have := HK1.out; omega⟩, ⟨by repeat (first | (with_reducible first | exact HB.out | apply below_alloc | apply pw_below_drewN | apply below_drew1 | refine below_set ?_ GE140.out | refine below_set ?_ GE141.out) | exact HB.out)⟩⟩
                          · replace c15 := Bool.eq_false_iff.mpr c15
                            subst c15
                            have H1 : (none) = some r := by rw [if_neg (show ¬ (false = true) by decide)] at H; exact H
                            clear H
                            have H := H1
                            clear H1
                            exact absurd H (by simp)
                        · replace c13 := Bool.eq_false_iff.mpr c13
                          subst c13
                          have H1 : (none) = some r := by rw [if_neg (show ¬ (false = true) by decide)] at H; exact H
                          clear H
                          have H := H1
                          clear H1
                          exact absurd H (by simp)
                      · rw [if_neg c11] at H
                        exact absurd H (by simp)
                    · rw [if_neg c10] at H
                      exact absurd H (by simp)
                  · rw [if_neg c9] at H
                    exact absurd H (by simp)
                · rw [if_neg c8] at H
                  exact absurd H (by simp)
              · rw [if_neg c7] at H
                exact absurd H (by simp)
            · rw [if_neg c6] at H
              exact absurd H (by simp)
          · rw [if_neg c5] at H
            exact absurd H (by simp)
        · rw [if_neg c4] at H
          have c4b0 : decide (x15_1 < (l0.length : Int)) = false := decide_eq_false c4
          clear c4
          obtain rfl := Option.some.inj H
          go_wp2
          go_ret
          exact ⟨by first | rfl | (simp [errW_none, errW_some] <;> rfl) | (simp [*, errW_none, errW_some] <;> rfl), by repeat (first | (with_reducible first | exact HB.out | apply below_alloc | apply pw_below_drewN | apply below_drew1) | exact HB.out)⟩
  · rw [if_neg c3] at H
    exact absurd H (by simp)

end Go.Proofs.YtjdpkhnpgdangaaGreatDoor.PQ
