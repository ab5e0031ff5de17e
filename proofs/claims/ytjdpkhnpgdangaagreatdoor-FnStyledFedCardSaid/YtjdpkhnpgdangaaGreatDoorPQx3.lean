/- Contracts of functions that the law FnStyledFed reaches (read and made memory as stated), for this claim alone; no condition but those stated. -/
import Derived.Test.YtjdpkhnpgdangaaGreatDoorPQx0
import Derived.Test.YtjdpkhnpgdangaaGreatDoorE25
namespace Go.Proofs.YtjdpkhnpgdangaaGreatDoor.PQ
open Go.RowKit Go.Proofs.YtjdpkhnpgdangaaGreatDoorW.PrintWords Go.Proofs.YtjdpkhnpgdangaaGreatDoorW.PrintLast Go.Proofs.YtjdpkhnpgdangaaGreatDoorW.PrintMore
attribute [local go_sem] max2_int min2_int max_two min_two max_three min_three max_four min_four   -- for this text's walks alone
set_option linter.unusedVariables false
set_option linter.unusedSimpArgs false

/-! ### impl_count: function 26 -/
def impl_count.l0 : Nat → List Int → List Int → Int → Int → Option (List Int)
  | 0, _, _, _, _ => none
  | k + 1, x3, x6, x7, x8 => if x8 < x7 then (if 0 ≤ x8 then (if x8 < (x6.length : Int) then (if x3.length < 17592186044416 then (impl_count.l0 k (x3 ++ [rd x6 x8]) x6 x7 (wrap64 (x8 + 1))) else (none)) else (none)) else (none)) else (some x3)
def impl_count.f (k : Nat) (l0 : List Int) : Option (List Int) := impl_count.l0 k ([] : List Int) l0 (l0.length : Int) 0
theorem impl_count.mono_l : ∀ k, (∀ y0 y1 y2 y3, LeO (impl_count.l0 k y0 y1 y2 y3) (impl_count.l0 (k + 1) y0 y1 y2 y3))
  | 0 => fun _ _ _ _ r h => by simp [impl_count.l0] at h
  | k + 1 => by
    have ih0 := impl_count.mono_l k
    · intro y0 y1 y2 y3
      unfold impl_count.l0
      repeat' first
      | (with_reducible exact ih0 _ _ _ _)
      | (with_reducible exact LeO.refl _)
      | (with_reducible exact LeO.none _)
      | (with_reducible refine LeO.ite ?_ ?_)
      | (with_reducible refine LeO.bind ?_ (fun _ => ?_))
      | exact ih0 _ _ _ _
      | exact LeO.none _
      | refine LeO.ite ?_ ?_
      | refine LeO.bind ?_ (fun _ => ?_)
theorem impl_count.mono : ∀ a0 k, LeO (impl_count.f k a0) (impl_count.f (k + 1) a0) := by
  intro a0 k
  have ih0 := impl_count.mono_l k
  unfold impl_count.f
  repeat' first
      | (with_reducible exact ih0 _ _ _ _)
      | (with_reducible exact LeO.refl _)
      | (with_reducible exact LeO.none _)
      | (with_reducible refine LeO.ite ?_ ?_)
      | (with_reducible refine LeO.bind ?_ (fun _ => ?_))
      | exact ih0 _ _ _ _
      | exact LeO.none _
      | refine LeO.ite ?_ ?_
      | refine LeO.bind ?_ (fun _ => ?_)
set_option maxHeartbeats 8000000 in
set_option maxRecDepth 100000 in
theorem impl_count.calls (k : Nat) (A0 : Option Addr) (c0 : Nat) (l0 : List Int) (r : List Int) (w : World) (hr0 : Kd.C (Kd.int .i64) w A0 l0.length l0) (hc0 : l0.length ≤ c0) (h : impl_count.f k l0 = some r) :
    Calls Tryz.prog 26 #[.slice A0 l0.length c0] w fun e w' => ∃ v0_ : Value, e = .returned (v0_) ∧ Kd.R (Kd.int .i64) 3 w' w.heap.size (fun _ => True) v0_ r ∧ Below w.heap.size w w' := by
  have HR0 := Aside0.mk hr0
  have HC0 := Aside0.mk hc0
  clear hr0 hc0
  have HB := Aside0.mk (Below.refl w.heap.size w)
  have H : (impl_count.l0 k ([] : List Int) l0 (l0.length : Int) 0) = some r := h
  clear h
  have H' := Aside0.mk H
  clear H
  go_enter Tryz.func26, Tryz.ntmps26
  go_wp2
  go_loopg [3, 8] k (fun kq v3 v8 w' => ∃ (x3_1 : List Int) (x8_1 : Int), v8 = .int .i64 x8_1 ∧ Aside0 (impl_count.l0 kq x3_1 l0 (l0.length : Int) x8_1 = some r) ∧ Aside0 (kq ≤ k) ∧ Aside0 (Kd.R (Kd.int .i64) 3 w' w.heap.size (fun _ => True) v3 x3_1) ∧ Aside0 (Below w.heap.size w w'))
  case atStart => exact ⟨(([] : List Int)), (0), (by first | rfl | (simp; done) | (simp [*]; done)), H', ⟨Nat.le_refl _⟩, ⟨by first | exact Kd.R_nil _ _ _ _ _ | exact Kd.N_nil _ _ _ _ _ | exact Kd.V_nil _ _ _ _ _ | exact Kd.Q_nil _ _ _ _ _ | exact Kd.S_nil _ _ _ _ _⟩, ⟨by repeat (first | (with_reducible first | exact HB.out | apply below_alloc | apply pw_below_drewN | apply below_drew1) | exact HB.out)⟩⟩
  case round =>
    clear H'
    obtain ⟨x3_1, x8_1, rfl, HA, HK1, HO_3, HB⟩ := hrel
    cases gk with
    | zero => exact absurd HA.out (by simp [impl_count.l0])
    | succ k1 =>
      have H := HA.out
      clear HA
      simp only [impl_count.l0] at H
      by_cases c2 : x8_1 < (l0.length : Int)
      · rw [if_pos c2] at H
        have c2b0 : decide (x8_1 < (l0.length : Int)) = true := decide_eq_true c2
        clear c2
        by_cases c3 : 0 ≤ x8_1
        · rw [if_pos c3] at H
          have c3b0 : decide (0 ≤ x8_1) = true := decide_eq_true c3
          clear c3
          by_cases c4 : x8_1 < (l0.length : Int)
          · rw [if_pos c4] at H
            have c4b0 : decide (x8_1 < (l0.length : Int)) = true := decide_eq_true c4
            clear c4
            by_cases c5 : x3_1.length < 17592186044416
            · rw [if_pos c5] at H
              have LMc5 := Aside0.mk c5
              clear c5
              obtain ⟨y112, hy112⟩ : ∃ y_ : List Int, y_ = (x3_1 ++ [rd l0 x8_1]) := ⟨_, rfl⟩
              replace H : (impl_count.l0 k1 y112 l0 (l0.length : Int) (wrap64 (x8_1 + 1))) = some r := by first | (rw [hy112]; with_reducible exact H) | (have H2_ := (Option.bind_some _ _).symm.trans H; rw [hy112]; with_reducible exact H2_) | (have H2_ := (Option.bind_some _ _).symm.trans H; with_reducible exact H2_) | with_reducible exact H | (rw [hy112]; exact H) | exact H
              have Ny112 := Aside0.mk hy112
              clear hy112
              have H' := Aside0.mk H
              clear H
              have p111 : 0 ≤ (x8_1 : Int) := of_decide_eq_true (by first | (with_reducible assumption) | assumption)
              have q111 : x8_1 < (l0.length : Int) := of_decide_eq_true (by first | (with_reducible assumption) | assumption)
              obtain ⟨ad111, e111, hx111_0⟩ := Kd.at_int HR0.out x8_1 p111 q111
              cases e111
              replace hx111_0 := (HB.out.cell (World.block_lt_of_cell? w _ hx111_0)).trans hx111_0
              replace p111 := eq_true p111
              replace q111 := eq_true q111
              go_wp2_with (first | ((with_reducible refine gate_builtin (b := .append) (xs := #[.tmp 12, .tmp 14]) rfl ?_); at_builtin; refine Kd.R_append (Kd.int .i64) (w0 := w) w.heap.size rfl (.tmp 12) (.tmp 14) 70 3 (.int .i64 0) 8 rfl Tryz.underlying70 info3 rfl (by decide) (by omega) u3 x3_1 (rd l0 x8_1) [.int .i64 (rd l0 x8_1)] (fun _ => True) (fun _ => False) rfl rfl ?aP (fun _ hk => hk.elim) ?aF ?aO ?aB ?aS ?aL ?_; (case aP => exact rfl); (case aB => exact (by repeat (first | (with_reducible first | exact HB.out | apply below_alloc | apply pw_below_drewN | apply below_drew1) | exact HB.out))); (case aF => exact (fun _ _ => trivial)); (case aO => exact (by (with_reducible repeat (first | apply Kd.R_alloc | apply Kd.R_drewN | apply Kd.R_drew)); exact HO_3.out)); (case aS => exact (below_size (by repeat (first | (with_reducible first | exact HB.out | apply below_alloc | apply pw_below_drewN | apply below_drew1) | exact HB.out)))); (case aL => have := LMc5.out; omega); intro v113 w6 ho hb hg hat; rw [← Ny112.out] at ho; have n0_ := Aside0.mk (hb); have n1_ := Aside0.mk (ho); clear HB; clear HO_3; have HB := n0_; have HO114 := n1_; clear n0_ n1_; clear ho hb hg hat))
              go_roundg k1
              case measure => have := HK1.out; omega
              case rel => exact ⟨(y112), (wrap64 (x8_1 + 1)), (by first | rfl | (simp; done) | (simp [*]; done)), H', ⟨by have := HK1.out; omega⟩, ⟨by (with_reducible repeat (first | apply Kd.R_alloc | apply Kd.R_drewN | apply Kd.R_drew)); exact HO114.out⟩, ⟨by repeat (first | (with_reducible first | exact HB.out | apply below_alloc | apply pw_below_drewN | apply below_drew1) | exact HB.out)⟩⟩
            · rw [if_neg c5] at H
              exact absurd H (by simp)
          · rw [if_neg c4] at H
            exact absurd H (by simp)
        · rw [if_neg c3] at H
          exact absurd H (by simp)
      · rw [if_neg c2] at H
        have c2b0 : decide (x8_1 < (l0.length : Int)) = false := decide_eq_false c2
        clear c2
        obtain rfl := Option.some.inj H
        go_wp2
        go_ret
        exact ⟨_, by first | rfl | (simp [errW_none, errW_some] <;> rfl) | (simp [*, errW_none, errW_some] <;> rfl), by (with_reducible repeat (first | apply Kd.R_alloc | apply Kd.R_drewN | apply Kd.R_drew)); exact HO_3.out, by repeat (first | (with_reducible first | exact HB.out | apply below_alloc | apply pw_below_drewN | apply below_drew1) | exact HB.out)⟩

-- NOT PRINTED: function 49 (xansi_Style_Reset)

-- NOT PRINTED: function 50 (xansi_Style_Bold)

-- NOT PRINTED: function 51 (xansi_Style_Faint)

-- NOT PRINTED: function 52 (xansi_Style_Normal)

/-! ### xansi_Style_Italic: function 53 -/
def xansi_Style_Italic.f (l0 : List ByteArray) (a1 : Bool) : Option (List ByteArray) := if a1 = true then (if l0.length < 8796093022208 then (some (l0 ++ [(⟨#[51]⟩ : ByteArray)])) else (none)) else (if l0.length < 8796093022208 then (some (l0 ++ [(⟨#[50, 51]⟩ : ByteArray)])) else (none))
set_option maxHeartbeats 8000000 in
set_option maxRecDepth 100000 in
theorem xansi_Style_Italic.calls (P0_ : Nat → Prop) (u9000_ : Value) (l0 : List ByteArray) (a1 : Bool) (r : List ByteArray) (w0 w : World) (hB : Below w0.heap.size w0 w) (ho0 : Kd.R Kd.string 9 w w0.heap.size P0_ u9000_ l0) (h : xansi_Style_Italic.f l0 a1 = some r) :
    Calls Tryz.prog 53 #[u9000_, .bool a1] w fun e w' => ∃ v0_ : Value, e = .returned (v0_) ∧ Kd.R Kd.string 9 w' w0.heap.size (fun k_ => (P0_ k_ ∨ w.heap.size ≤ k_)) v0_ r ∧ Below w0.heap.size w0 w' ∧ Kept w w' (fun k_ => P0_ k_) := by
  have HO0 := Aside0.mk (show Kd.R Kd.string 9 w w0.heap.size (fun k_ => (P0_ k_ ∨ w.heap.size ≤ k_)) u9000_ l0 from Kd.R_mono ho0 (fun k_ hk => (.inl hk)))
  have HK := Aside0.mk (Kept.refl w (fun k_ => P0_ k_))
  have HW0 := Aside0.mk hB.size
  have HB := Aside0.mk hB
  clear hB
  have H : (if a1 = true then (if l0.length < 8796093022208 then (some (l0 ++ [(⟨#[51]⟩ : ByteArray)])) else (none)) else (if l0.length < 8796093022208 then (some (l0 ++ [(⟨#[50, 51]⟩ : ByteArray)])) else (none))) = some r := h
  clear h
  by_cases c3 : a1 = true
  · subst c3
    have H1 : (if l0.length < 8796093022208 then (some (l0 ++ [(⟨#[51]⟩ : ByteArray)])) else (none)) = some r := by rw [if_pos rfl] at H; exact H
    clear H
    have H := H1
    clear H1
    by_cases c4 : l0.length < 8796093022208
    · rw [if_pos c4] at H
      have LMc4 := Aside0.mk c4
      clear c4
      obtain ⟨y115, hy115⟩ : ∃ y_ : List ByteArray, y_ = (l0 ++ [(⟨#[51]⟩ : ByteArray)]) := ⟨_, rfl⟩
      replace H : (some y115) = some r := by first | (rw [hy115]; with_reducible exact H) | (have H2_ := (Option.bind_some _ _).symm.trans H; rw [hy115]; with_reducible exact H2_) | (have H2_ := (Option.bind_some _ _).symm.trans H; with_reducible exact H2_) | with_reducible exact H | (rw [hy115]; exact H) | exact H
      have Ny115 := Aside0.mk hy115
      clear hy115
      obtain rfl := Option.some.inj H
      go_enter Tryz.func53, Tryz.ntmps53
      go_wp2_with (first | ((with_reducible refine gate_builtin (b := .append) (xs := #[.tmp 6, .tmp 7]) rfl ?_); at_builtin; refine Kd.R_append Kd.string (w0 := w0) w0.heap.size rfl (.tmp 6) (.tmp 7) 68 9 (.string ⟨#[]⟩) 16 rfl Tryz.underlying68 info9 rfl (by decide) (by omega) u9000_ l0 (⟨#[51]⟩ : ByteArray) [.string (⟨#[51]⟩ : ByteArray)] (fun k_ => (P0_ k_ ∨ w.heap.size ≤ k_)) (fun _ => False) rfl rfl ?aP (fun _ hk => hk.elim) ?aF ?aO ?aB ?aS ?aL ?_; (case aP => exact rfl); (case aB => exact (by repeat (first | (with_reducible first | exact HB.out | apply below_alloc | apply pw_below_drewN | apply below_drew1) | exact HB.out))); (case aF => exact (fun k_ hk => (.inr (Nat.le_trans (by first | exact HK.out.1 | exact (show Kept w _ (fun k_ => P0_ k_) from by repeat (first | (with_reducible first | exact HK.out | apply Kept.alloc | apply Kept.drewN | apply Kept.drew) | exact HK.out)).1) hk)))); (case aO => exact (by (with_reducible repeat (first | apply Kd.R_alloc | apply Kd.R_drewN | apply Kd.R_drew)); exact HO0.out)); (case aS => exact (below_size (by repeat (first | (with_reducible first | exact HB.out | apply below_alloc | apply pw_below_drewN | apply below_drew1) | exact HB.out)))); (case aL => have := LMc4.out; omega); intro v116 w5 ho hb hg hat; rw [← Ny115.out] at ho; have n0_ := Aside0.mk (hb); have n1_ := Aside0.mk (Kept.of_grown (S := (fun k_ => P0_ k_)) hg (by repeat (first | (with_reducible first | exact HK.out | apply Kept.alloc | apply Kept.drewN | apply Kept.drew) | exact HK.out)) (fun k_ e_ => (HO0.out.1 k_ e_))); have n2_ := Aside0.mk (ho); clear HB; clear HK; clear HO0; have HB := n0_; have HK := n1_; have HO117 := n2_; clear n0_ n1_ n2_; clear ho hb hg hat))
      go_ret
      exact ⟨_, by first | rfl | (simp [errW_none, errW_some] <;> rfl) | (simp [*, errW_none, errW_some] <;> rfl), by (with_reducible repeat (first | apply Kd.R_alloc | apply Kd.R_drewN | apply Kd.R_drew)); exact HO117.out, by repeat (first | (with_reducible first | exact HB.out | apply below_alloc | apply pw_below_drewN | apply below_drew1) | exact HB.out), by repeat (first | (with_reducible first | exact HK.out | apply Kept.alloc | apply Kept.drewN | apply Kept.drew) | exact HK.out)⟩
    · rw [if_neg c4] at H
      exact absurd H (by simp)
  · replace c3 := Bool.eq_false_iff.mpr c3
    subst c3
    have H1 : (if l0.length < 8796093022208 then (some (l0 ++ [(⟨#[50, 51]⟩ : ByteArray)])) else (none)) = some r := by rw [if_neg (show ¬ (false = true) by decide)] at H; exact H
    clear H
    have H := H1
    clear H1
    by_cases c6 : l0.length < 8796093022208
    · rw [if_pos c6] at H
      have LMc6 := Aside0.mk c6
      clear c6
      obtain ⟨y118, hy118⟩ : ∃ y_ : List ByteArray, y_ = (l0 ++ [(⟨#[50, 51]⟩ : ByteArray)]) := ⟨_, rfl⟩
      replace H : (some y118) = some r := by first | (rw [hy118]; with_reducible exact H) | (have H2_ := (Option.bind_some _ _).symm.trans H; rw [hy118]; with_reducible exact H2_) | (have H2_ := (Option.bind_some _ _).symm.trans H; with_reducible exact H2_) | with_reducible exact H | (rw [hy118]; exact H) | exact H
      have Ny118 := Aside0.mk hy118
      clear hy118
      obtain rfl := Option.some.inj H
      go_enter Tryz.func53, Tryz.ntmps53
      go_wp2_with (first | ((with_reducible refine gate_builtin (b := .append) (xs := #[.tmp 9, .tmp 10]) rfl ?_); at_builtin; refine Kd.R_append Kd.string (w0 := w0) w0.heap.size rfl (.tmp 9) (.tmp 10) 68 9 (.string ⟨#[]⟩) 16 rfl Tryz.underlying68 info9 rfl (by decide) (by omega) u9000_ l0 (⟨#[50, 51]⟩ : ByteArray) [.string (⟨#[50, 51]⟩ : ByteArray)] (fun k_ => (P0_ k_ ∨ w.heap.size ≤ k_)) (fun _ => False) rfl rfl ?aP (fun _ hk => hk.elim) ?aF ?aO ?aB ?aS ?aL ?_; (case aP => exact rfl); (case aB => exact (by repeat (first | (with_reducible first | exact HB.out | apply below_alloc | apply pw_below_drewN | apply below_drew1) | exact HB.out))); (case aF => exact (fun k_ hk => (.inr (Nat.le_trans (by first | exact HK.out.1 | exact (show Kept w _ (fun k_ => P0_ k_) from by repeat (first | (with_reducible first | exact HK.out | apply Kept.alloc | apply Kept.drewN | apply Kept.drew) | exact HK.out)).1) hk)))); (case aO => exact (by (with_reducible repeat (first | apply Kd.R_alloc | apply Kd.R_drewN | apply Kd.R_drew)); exact HO0.out)); (case aS => exact (below_size (by repeat (first | (with_reducible first | exact HB.out | apply below_alloc | apply pw_below_drewN | apply below_drew1) | exact HB.out)))); (case aL => have := LMc6.out; omega); intro v119 w7 ho hb hg hat; rw [← Ny118.out] at ho; have n0_ := Aside0.mk (hb); have n1_ := Aside0.mk (Kept.of_grown (S := (fun k_ => P0_ k_)) hg (by repeat (first | (with_reducible first | exact HK.out | apply Kept.alloc | apply Kept.drewN | apply Kept.drew) | exact HK.out)) (fun k_ e_ => (HO0.out.1 k_ e_))); have n2_ := Aside0.mk (ho); clear HB; clear HK; clear HO0; have HB := n0_; have HK := n1_; have HO120 := n2_; clear n0_ n1_ n2_; clear ho hb hg hat))
      go_ret
      exact ⟨_, by first | rfl | (simp [errW_none, errW_some] <;> rfl) | (simp [*, errW_none, errW_some] <;> rfl), by (with_reducible repeat (first | apply Kd.R_alloc | apply Kd.R_drewN | apply Kd.R_drew)); exact HO120.out, by repeat (first | (with_reducible first | exact HB.out | apply below_alloc | apply pw_below_drewN | apply below_drew1) | exact HB.out), by repeat (first | (with_reducible first | exact HK.out | apply Kept.alloc | apply Kept.drewN | apply Kept.drew) | exact HK.out)⟩
    · rw [if_neg c6] at H
      exact absurd H (by simp)

-- NOT PRINTED: function 54 (xansi_Style_Underline)

-- NOT PRINTED: function 55 (xansi_Style_Blink)

-- NOT PRINTED: function 56 (xansi_Style_RapidBlink)

-- NOT PRINTED: function 57 (xansi_Style_Reverse)

-- NOT PRINTED: function 58 (xansi_Style_Conceal)

-- NOT PRINTED: function 59 (xansi_Style_Strikethrough)

-- NOT PRINTED: function 60 (xansi_Style_UnderlineStyle)

-- NOT PRINTED: function 113 (strconv_FormatUint_113)

-- NOT PRINTED: function 102 (strconv_FormatUint_102)

-- NOT PRINTED: function 103 (xansi_shift_uint32)

-- NOT PRINTED: function 88 (xansi_foregroundColorString)

-- NOT PRINTED: function 61 (xansi_Style_ForegroundColor)

-- NOT PRINTED: function 89 (xansi_Solid)

-- NOT PRINTED: function 62 (impl_colorOf)

-- NOT PRINTED: function 90 (xansi_backgroundColorString)

-- NOT PRINTED: function 63 (xansi_Style_BackgroundColor)

-- NOT PRINTED: function 91 (xansi_underlineColorString)

-- NOT PRINTED: function 64 (xansi_Style_UnderlineColor)

/-! ### impl_styled: function 27 -/
def impl_styled.f (l0 : List ByteArray) (a1_0 : Int) (a1_1 : Bool) (a1_2 : Int) (a1_3 : Int) (a1_4 : Int) (a1_5 : Int) (a1_6 : Int) (a1_7 : Int) (a1_8 : Int) : Option (List ByteArray) := if a1_0 = 0 then (none) else (if a1_0 = 1 then (none) else (if a1_0 = 2 then (none) else (if a1_0 = 3 then (none) else (if a1_0 = 4 then ((xansi_Style_Italic.f l0 a1_1).bind fun t122 => (some t122)) else (if a1_0 = 5 then (none) else (if a1_0 = 6 then (none) else (if a1_0 = 7 then (none) else (if a1_0 = 8 then (none) else (if a1_0 = 9 then (none) else (if a1_0 = 10 then (none) else (if a1_0 = 11 then (none) else (if a1_0 = 12 then (none) else (if a1_0 = 13 then (none) else (if a1_0 = 14 then (none) else (some l0)))))))))))))))
set_option maxHeartbeats 8000000 in
set_option maxRecDepth 100000 in
theorem impl_styled.calls (P0_ : Nat → Prop) (u9000_ : Value) (l0 : List ByteArray) (a1_0 : Int) (a1_1 : Bool) (a1_2 : Int) (a1_3 : Int) (a1_4 : Int) (a1_5 : Int) (a1_6 : Int) (a1_7 : Int) (a1_8 : Int) (r : List ByteArray) (w0 w : World) (hB : Below w0.heap.size w0 w) (ho0 : Kd.R Kd.string 9 w w0.heap.size P0_ u9000_ l0) (h : impl_styled.f l0 a1_0 a1_1 a1_2 a1_3 a1_4 a1_5 a1_6 a1_7 a1_8 = some r) :
    Calls Tryz.prog 27 #[u9000_, .agg #[.int .i64 a1_0, .bool a1_1, .int .u8 a1_2, .int .i64 a1_3, .int .i64 a1_4, .int .u8 a1_5, .int .u8 a1_6, .int .u8 a1_7, .int .u8 a1_8]] w fun e w' => ∃ v0_ : Value, e = .returned (v0_) ∧ Kd.R Kd.string 9 w' w0.heap.size (fun k_ => (P0_ k_ ∨ w.heap.size ≤ k_)) v0_ r ∧ Below w0.heap.size w0 w' ∧ Kept w w' (fun k_ => P0_ k_) := by
  have hu52 := Tryz.underlying52
  have hu50 := Tryz.underlying50
  have HO0 := Aside0.mk (show Kd.R Kd.string 9 w w0.heap.size (fun k_ => (P0_ k_ ∨ w.heap.size ≤ k_)) u9000_ l0 from Kd.R_mono ho0 (fun k_ hk => (.inl hk)))
  have HK := Aside0.mk (Kept.refl w (fun k_ => P0_ k_))
  have HW0 := Aside0.mk hB.size
  have HB := Aside0.mk hB
  clear hB
  have H : (if a1_0 = 0 then (none) else (if a1_0 = 1 then (none) else (if a1_0 = 2 then (none) else (if a1_0 = 3 then (none) else (if a1_0 = 4 then ((xansi_Style_Italic.f l0 a1_1).bind fun t122 => (some t122)) else (if a1_0 = 5 then (none) else (if a1_0 = 6 then (none) else (if a1_0 = 7 then (none) else (if a1_0 = 8 then (none) else (if a1_0 = 9 then (none) else (if a1_0 = 10 then (none) else (if a1_0 = 11 then (none) else (if a1_0 = 12 then (none) else (if a1_0 = 13 then (none) else (if a1_0 = 14 then (none) else (some l0)))))))))))))))) = some r := h
  clear h
  by_cases c3 : a1_0 = 0
  · rw [if_pos c3] at H
    exact absurd H (by simp)
  · rw [if_neg c3] at H
    have c3b0 : (a1_0 == 0) = false := beq_eq_false_iff_ne.mpr c3
    have c3b1 : (a1_0 != 0) = true := bne_iff_ne.mpr c3
    by_cases c4 : a1_0 = 1
    · rw [if_pos c4] at H
      exact absurd H (by simp)
    · rw [if_neg c4] at H
      have c4b0 : (a1_0 == 1) = false := beq_eq_false_iff_ne.mpr c4
      have c4b1 : (a1_0 != 1) = true := bne_iff_ne.mpr c4
      by_cases c5 : a1_0 = 2
      · rw [if_pos c5] at H
        exact absurd H (by simp)
      · rw [if_neg c5] at H
        have c5b0 : (a1_0 == 2) = false := beq_eq_false_iff_ne.mpr c5
        have c5b1 : (a1_0 != 2) = true := bne_iff_ne.mpr c5
        by_cases c6 : a1_0 = 3
        · rw [if_pos c6] at H
          exact absurd H (by simp)
        · rw [if_neg c6] at H
          have c6b0 : (a1_0 == 3) = false := beq_eq_false_iff_ne.mpr c6
          have c6b1 : (a1_0 != 3) = true := bne_iff_ne.mpr c6
          by_cases c7 : a1_0 = 4
          · rw [if_pos c7] at H
            have c7b0 : (a1_0 == 4) = true := beq_iff_eq.mpr c7
            have c7b1 : (a1_0 != 4) = false := bne_eq_false_iff_eq.mpr c7
            clear c7
            replace H := Option.bind_eq_some_iff.mp H
            obtain ⟨t122, A80, H⟩ := H
            replace H : (some t122) = some r := H
            have A8 := Aside0.mk A80
            clear A80
            obtain rfl := Option.some.inj H
            go_enter Tryz.func27, Tryz.ntmps27
            go_wp2_with (first | ((with_reducible refine gate_dst (N := 3) rfl ?_); refine box_event ?hg (N := 3) ?hd (cs := #[.int .i64 a1_0, .bool a1_1, .int .u8 a1_2, .int .i64 a1_3, .int .i64 a1_4, .int .u8 a1_5, .int .u8 a1_6, .int .u8 a1_7, .int .u8 a1_8]) (t := 52) ?hr ?_; (case hd => rfl); (case hg => rfl); (case hr => first | (go_simp; done) | (go_simp; rfl)); intro gb121 hg w9 hbox hb; have n0_ := Aside0.mk (Kd.R_below (by (with_reducible repeat (first | apply Kd.R_alloc | apply Kd.R_drewN | apply Kd.R_drew)); exact HO0.out) hb); have n1_ := Aside0.mk (Kept.below (S := (fun k_ => P0_ k_)) (by repeat (first | (with_reducible first | exact HK.out | apply Kept.alloc | apply Kept.drewN | apply Kept.drew) | exact HK.out)) hb); have n2_ := Aside0.mk (below_step (by repeat (first | (with_reducible first | exact HB.out | apply below_alloc | apply pw_below_drewN | apply below_drew1) | exact HB.out)) hb); have n3_ := Aside0.mk (hbox); have n4_ := Aside0.mk ((by rw [hg]; exact (by first | exact HK.out.1 | exact (show Kept w _ (fun k_ => P0_ k_) from by repeat (first | (with_reducible first | exact HK.out | apply Kept.alloc | apply Kept.drewN | apply Kept.drew) | exact HK.out)).1) : w.heap.size ≤ gb121)); have n5_ := Aside0.mk ((by rw [hg]; exact (below_size (by repeat (first | (with_reducible first | exact HB.out | apply below_alloc | apply pw_below_drewN | apply below_drew1) | exact HB.out))) : w0.heap.size ≤ gb121)); clear HO0; clear HK; clear HB; have HO0 := n0_; have HK := n1_; have HB := n2_; have BK121 := n3_; have GW121 := n4_; have GE121 := n5_; clear n0_ n1_ n2_ n3_ n4_ n5_; clear hb hbox hg; have hcz10_0 : w9.cell? ⟨gb121, 0, none⟩ = some (.int .i64 a1_0) := (blk_cell BK121.out 0).trans rfl; have hcz10_1 : w9.cell? ⟨gb121, 1, none⟩ = some (.bool a1_1) := (blk_cell BK121.out 1).trans rfl; have hcz10_2 : w9.cell? ⟨gb121, 2, none⟩ = some (.int .u8 a1_2) := (blk_cell BK121.out 2).trans rfl; have hcz10_3 : w9.cell? ⟨gb121, 3, none⟩ = some (.int .i64 a1_3) := (blk_cell BK121.out 3).trans rfl; have hcz10_4 : w9.cell? ⟨gb121, 4, none⟩ = some (.int .i64 a1_4) := (blk_cell BK121.out 4).trans rfl; have hcz10_5 : w9.cell? ⟨gb121, 5, none⟩ = some (.int .u8 a1_5) := (blk_cell BK121.out 5).trans rfl; have hcz10_6 : w9.cell? ⟨gb121, 6, none⟩ = some (.int .u8 a1_6) := (blk_cell BK121.out 6).trans rfl; have hcz10_7 : w9.cell? ⟨gb121, 7, none⟩ = some (.int .u8 a1_7) := (blk_cell BK121.out 7).trans rfl; have hcz10_8 : w9.cell? ⟨gb121, 8, none⟩ = some (.int .u8 a1_8) := (blk_cell BK121.out 8).trans rfl; have hfz10_0 := blk_frozen BK121.out 0; have hfz10_1 := blk_frozen BK121.out 1; have hfz10_2 := blk_frozen BK121.out 2; have hfz10_3 := blk_frozen BK121.out 3; have hfz10_4 := blk_frozen BK121.out 4; have hfz10_5 := blk_frozen BK121.out 5; have hfz10_6 := blk_frozen BK121.out 6; have hfz10_7 := blk_frozen BK121.out 7; have hfz10_8 := blk_frozen BK121.out 8; obtain ⟨Ao11, co11, eo11⟩ := Kd.R_slice HO0.out; subst eo11) | ((with_reducible refine gate_callee (f := 53) rfl ?_); refine goesL_ (some 28) rfl rfl Tryz.func53 (by kernel_rfl) rfl #[.slice Ao11 l0.length co11, .bool a1_1] rfl (by (try simp only [List.map_toArray, List.map_cons, List.map_nil]); first | done | rfl | (simp only [List.length_drop, List.length_take]; rfl)) ?_; (with_reducible refine (xansi_Style_Italic.calls (fun k_ => some k_ = (.slice Ao11 l0.length co11 : Value).ownBlock) (.slice Ao11 l0.length co11) l0 a1_1 t122 w0 _ ?side1 ?side2 A8.out).mono ?_); (case side1 => repeat (first | (with_reducible first | exact HB.out | apply below_alloc | apply pw_below_drewN | apply below_drew1 | refine below_set ?_ GE121.out) | exact HB.out)); (case side2 => exact Kd.R_tight rfl HO0.out); rintro e w12 ⟨v123, rfl, ho0, hb, hkp⟩; refine ⟨_, rfl, ?_⟩; have n0_ := Aside0.mk (blk_kept (by (with_reducible repeat (first | refine blk_drewN ?_ _ | refine blk_drew ?_ | refine blk_alloc ?_ _)); exact BK121.out) hkp (fun hs_ => (fun e_ => (Kd.R_ne HO0.out BK121.out (by decide)) e_) hs_)); have n1_ := Aside0.mk (Kd.R_mono (ok' := fun k_ => (P0_ k_ ∨ w.heap.size ≤ k_)) ho0 (fun k_ hk_ => Or.elim hk_ (fun hs_ => (HO0.out.1 k_ (hs_).symm)) (fun hn_ => (.inr (Nat.le_trans (by first | exact HK.out.1 | exact (show Kept w _ (fun k_ => P0_ k_) from by repeat (first | (with_reducible first | exact HK.out | apply Kept.alloc | apply Kept.drewN | apply Kept.drew | refine Kept.setCell ?_ (.inr GW121.out) _) | exact HK.out)).1) hn_))))); have n2_ := Aside0.mk (Kept.then_ (S := (fun k_ => P0_ k_)) (by repeat (first | (with_reducible first | exact HK.out | apply Kept.alloc | apply Kept.drewN | apply Kept.drew | refine Kept.setCell ?_ (.inr GW121.out) _) | exact HK.out)) hkp (fun k_ hs_ => (fun e_ => (HO0.out.1 k_ e_.symm)) hs_)); have n3_ := Aside0.mk (hb); clear BK121; clear HK; clear HB; clear HO0; have BK121 := n0_; have HO124 := n1_; have HK := n2_; have HB := n3_; clear n0_ n1_ n2_ n3_; (try clear hb); (try clear hkp); (try clear ho0)))
            go_ret
            exact ⟨_, by first | rfl | (simp [errW_none, errW_some] <;> rfl) | (simp [*, errW_none, errW_some] <;> rfl), by (with_reducible repeat (first | apply Kd.R_alloc | apply Kd.R_drewN | apply Kd.R_drew)); exact HO124.out, by repeat (first | (with_reducible first | exact HB.out | apply below_alloc | apply pw_below_drewN | apply below_drew1 | refine below_set ?_ GE121.out) | exact HB.out), by repeat (first | (with_reducible first | exact HK.out | apply Kept.alloc | apply Kept.drewN | apply Kept.drew | refine Kept.setCell ?_ (.inr GW121.out) _) | exact HK.out)⟩
          · rw [if_neg c7] at H
            have c7b0 : (a1_0 == 4) = false := beq_eq_false_iff_ne.mpr c7
            have c7b1 : (a1_0 != 4) = true := bne_iff_ne.mpr c7
            by_cases c13 : a1_0 = 5
            · rw [if_pos c13] at H
              have c13b0 : (a1_0 == 5) = true := beq_iff_eq.mpr c13
              have c13b1 : (a1_0 != 5) = false := bne_eq_false_iff_eq.mpr c13
              clear c13
              exact absurd H (by simp)
            · rw [if_neg c13] at H
              have c13b0 : (a1_0 == 5) = false := beq_eq_false_iff_ne.mpr c13
              have c13b1 : (a1_0 != 5) = true := bne_iff_ne.mpr c13
              by_cases c14 : a1_0 = 6
              · rw [if_pos c14] at H
                have c14b0 : (a1_0 == 6) = true := beq_iff_eq.mpr c14
                have c14b1 : (a1_0 != 6) = false := bne_eq_false_iff_eq.mpr c14
                clear c14
                exact absurd H (by simp)
              · rw [if_neg c14] at H
                have c14b0 : (a1_0 == 6) = false := beq_eq_false_iff_ne.mpr c14
                have c14b1 : (a1_0 != 6) = true := bne_iff_ne.mpr c14
                by_cases c15 : a1_0 = 7
                · rw [if_pos c15] at H
                  have c15b0 : (a1_0 == 7) = true := beq_iff_eq.mpr c15
                  have c15b1 : (a1_0 != 7) = false := bne_eq_false_iff_eq.mpr c15
                  clear c15
                  exact absurd H (by simp)
                · rw [if_neg c15] at H
                  have c15b0 : (a1_0 == 7) = false := beq_eq_false_iff_ne.mpr c15
                  have c15b1 : (a1_0 != 7) = true := bne_iff_ne.mpr c15
                  by_cases c16 : a1_0 = 8
                  · rw [if_pos c16] at H
                    have c16b0 : (a1_0 == 8) = true := beq_iff_eq.mpr c16
                    have c16b1 : (a1_0 != 8) = false := bne_eq_false_iff_eq.mpr c16
                    clear c16
                    exact absurd H (by simp)
                  · rw [if_neg c16] at H
                    have c16b0 : (a1_0 == 8) = false := beq_eq_false_iff_ne.mpr c16
                    have c16b1 : (a1_0 != 8) = true := bne_iff_ne.mpr c16
                    by_cases c17 : a1_0 = 9
                    · rw [if_pos c17] at H
                      have c17b0 : (a1_0 == 9) = true := beq_iff_eq.mpr c17
                      have c17b1 : (a1_0 != 9) = false := bne_eq_false_iff_eq.mpr c17
                      clear c17
                      exact absurd H (by simp)
                    · rw [if_neg c17] at H
                      have c17b0 : (a1_0 == 9) = false := beq_eq_false_iff_ne.mpr c17
                      have c17b1 : (a1_0 != 9) = true := bne_iff_ne.mpr c17
                      by_cases c18 : a1_0 = 10
                      · rw [if_pos c18] at H
                        have c18b0 : (a1_0 == 10) = true := beq_iff_eq.mpr c18
                        have c18b1 : (a1_0 != 10) = false := bne_eq_false_iff_eq.mpr c18
                        clear c18
                        exact absurd H (by simp)
                      · rw [if_neg c18] at H
                        have c18b0 : (a1_0 == 10) = false := beq_eq_false_iff_ne.mpr c18
                        have c18b1 : (a1_0 != 10) = true := bne_iff_ne.mpr c18
                        by_cases c19 : a1_0 = 11
                        · rw [if_pos c19] at H
                          have c19b0 : (a1_0 == 11) = true := beq_iff_eq.mpr c19
                          have c19b1 : (a1_0 != 11) = false := bne_eq_false_iff_eq.mpr c19
                          clear c19
                          exact absurd H (by simp)
                        · rw [if_neg c19] at H
                          have c19b0 : (a1_0 == 11) = false := beq_eq_false_iff_ne.mpr c19
                          have c19b1 : (a1_0 != 11) = true := bne_iff_ne.mpr c19
                          by_cases c20 : a1_0 = 12
                          · rw [if_pos c20] at H
                            have c20b0 : (a1_0 == 12) = true := beq_iff_eq.mpr c20
                            have c20b1 : (a1_0 != 12) = false := bne_eq_false_iff_eq.mpr c20
                            clear c20
                            exact absurd H (by simp)
                          · rw [if_neg c20] at H
                            have c20b0 : (a1_0 == 12) = false := beq_eq_false_iff_ne.mpr c20
                            have c20b1 : (a1_0 != 12) = true := bne_iff_ne.mpr c20
                            by_cases c21 : a1_0 = 13
                            · rw [if_pos c21] at H
                              have c21b0 : (a1_0 == 13) = true := beq_iff_eq.mpr c21
                              have c21b1 : (a1_0 != 13) = false := bne_eq_false_iff_eq.mpr c21
                              clear c21
                              exact absurd H (by simp)
                            · rw [if_neg c21] at H
                              have c21b0 : (a1_0 == 13) = false := beq_eq_false_iff_ne.mpr c21
                              have c21b1 : (a1_0 != 13) = true := bne_iff_ne.mpr c21
                              by_cases c22 : a1_0 = 14
                              · rw [if_pos c22] at H
                                have c22b0 : (a1_0 == 14) = true := beq_iff_eq.mpr c22
                                have c22b1 : (a1_0 != 14) = false := bne_eq_false_iff_eq.mpr c22
                                clear c22
                                exact absurd H (by simp)
                              · rw [if_neg c22] at H
                                have c22b0 : (a1_0 == 14) = false := beq_eq_false_iff_ne.mpr c22
                                have c22b1 : (a1_0 != 14) = true := bne_iff_ne.mpr c22
                                obtain rfl := Option.some.inj H
                                go_enter Tryz.func27, Tryz.ntmps27
                                go_wp2_with (first | ((with_reducible refine gate_dst (N := 3) rfl ?_); refine box_event ?hg (N := 3) ?hd (cs := #[.int .i64 a1_0, .bool a1_1, .int .u8 a1_2, .int .i64 a1_3, .int .i64 a1_4, .int .u8 a1_5, .int .u8 a1_6, .int .u8 a1_7, .int .u8 a1_8]) (t := 52) ?hr ?_; (case hd => rfl); (case hg => rfl); (case hr => first | (go_simp; done) | (go_simp; rfl)); intro gb121 hg w23 hbox hb; have n0_ := Aside0.mk (Kd.R_below (by (with_reducible repeat (first | apply Kd.R_alloc | apply Kd.R_drewN | apply Kd.R_drew)); exact HO0.out) hb); have n1_ := Aside0.mk (Kept.below (S := (fun k_ => P0_ k_)) (by repeat (first | (with_reducible first | exact HK.out | apply Kept.alloc | apply Kept.drewN | apply Kept.drew) | exact HK.out)) hb); have n2_ := Aside0.mk (below_step (by repeat (first | (with_reducible first | exact HB.out | apply below_alloc | apply pw_below_drewN | apply below_drew1) | exact HB.out)) hb); have n3_ := Aside0.mk (hbox); have n4_ := Aside0.mk ((by rw [hg]; exact (by first | exact HK.out.1 | exact (show Kept w _ (fun k_ => P0_ k_) from by repeat (first | (with_reducible first | exact HK.out | apply Kept.alloc | apply Kept.drewN | apply Kept.drew) | exact HK.out)).1) : w.heap.size ≤ gb121)); have n5_ := Aside0.mk ((by rw [hg]; exact (below_size (by repeat (first | (with_reducible first | exact HB.out | apply below_alloc | apply pw_below_drewN | apply below_drew1) | exact HB.out))) : w0.heap.size ≤ gb121)); clear HO0; clear HK; clear HB; have HO0 := n0_; have HK := n1_; have HB := n2_; have BK121 := n3_; have GW121 := n4_; have GE121 := n5_; clear n0_ n1_ n2_ n3_ n4_ n5_; clear hb hbox hg; have hcz24_0 : w23.cell? ⟨gb121, 0, none⟩ = some (.int .i64 a1_0) := (blk_cell BK121.out 0).trans rfl; have hcz24_1 : w23.cell? ⟨gb121, 1, none⟩ = some (.bool a1_1) := (blk_cell BK121.out 1).trans rfl; have hcz24_2 : w23.cell? ⟨gb121, 2, none⟩ = some (.int .u8 a1_2) := (blk_cell BK121.out 2).trans rfl; have hcz24_3 : w23.cell? ⟨gb121, 3, none⟩ = some (.int .i64 a1_3) := (blk_cell BK121.out 3).trans rfl; have hcz24_4 : w23.cell? ⟨gb121, 4, none⟩ = some (.int .i64 a1_4) := (blk_cell BK121.out 4).trans rfl; have hcz24_5 : w23.cell? ⟨gb121, 5, none⟩ = some (.int .u8 a1_5) := (blk_cell BK121.out 5).trans rfl; have hcz24_6 : w23.cell? ⟨gb121, 6, none⟩ = some (.int .u8 a1_6) := (blk_cell BK121.out 6).trans rfl; have hcz24_7 : w23.cell? ⟨gb121, 7, none⟩ = some (.int .u8 a1_7) := (blk_cell BK121.out 7).trans rfl; have hcz24_8 : w23.cell? ⟨gb121, 8, none⟩ = some (.int .u8 a1_8) := (blk_cell BK121.out 8).trans rfl; have hfz24_0 := blk_frozen BK121.out 0; have hfz24_1 := blk_frozen BK121.out 1; have hfz24_2 := blk_frozen BK121.out 2; have hfz24_3 := blk_frozen BK121.out 3; have hfz24_4 := blk_frozen BK121.out 4; have hfz24_5 := blk_frozen BK121.out 5; have hfz24_6 := blk_frozen BK121.out 6; have hfz24_7 := blk_frozen BK121.out 7; have hfz24_8 := blk_frozen BK121.out 8))
                                go_ret
                                exact ⟨_, by first | rfl | (simp [errW_none, errW_some] <;> rfl) | (simp [*, errW_none, errW_some] <;> rfl), by (with_reducible repeat (first | apply Kd.R_alloc | apply Kd.R_drewN | apply Kd.R_drew)); exact HO0.out, by repeat (first | (with_reducible first | exact HB.out | apply below_alloc | apply pw_below_drewN | apply below_drew1 | refine below_set ?_ GE121.out) | exact HB.out), by repeat (first | (with_reducible first | exact HK.out | apply Kept.alloc | apply Kept.drewN | apply Kept.drew | refine Kept.setCell ?_ (.inr GW121.out) _) | exact HK.out)⟩

/-! ### xansi_zzJoin: function 65 -/
def xansi_zzJoin.l0 : Nat → ByteArray → ByteArray → List ByteArray → Int → Int → Option (ByteArray)
  | 0, _, _, _, _, _ => none
  | k + 1, x1, x5, x8, x9, x10 => if x10 < x9 then (if 0 ≤ x10 then (if x10 < (x8.length : Int) then (if x10 > 0 then (if x5.size + x1.size ≤ 9223372036854775807 then (if (x5 ++ x1).size + (rdOf ByteArray.empty x8 x10).size ≤ 9223372036854775807 then (xansi_zzJoin.l0 k x1 ((x5 ++ x1) ++ (rdOf ByteArray.empty x8 x10)) x8 x9 (wrap64 (x10 + 1))) else (none)) else (none)) else (if x5.size + (rdOf ByteArray.empty x8 x10).size ≤ 9223372036854775807 then (xansi_zzJoin.l0 k x1 (x5 ++ (rdOf ByteArray.empty x8 x10)) x8 x9 (wrap64 (x10 + 1))) else (none))) else (none)) else (none)) else (some x5)
def xansi_zzJoin.f (k : Nat) (l0 : List ByteArray) (a1 : ByteArray) : Option (ByteArray) := xansi_zzJoin.l0 k a1 (⟨#[]⟩ : ByteArray) l0 (l0.length : Int) 0
theorem xansi_zzJoin.mono_l : ∀ k, (∀ y0 y1 y2 y3 y4, LeO (xansi_zzJoin.l0 k y0 y1 y2 y3 y4) (xansi_zzJoin.l0 (k + 1) y0 y1 y2 y3 y4))
  | 0 => fun _ _ _ _ _ r h => by simp [xansi_zzJoin.l0] at h
  | k + 1 => by
    have ih0 := xansi_zzJoin.mono_l k
    · intro y0 y1 y2 y3 y4
      unfold xansi_zzJoin.l0
      repeat' first
      | (with_reducible exact ih0 _ _ _ _ _)
      | (with_reducible exact LeO.refl _)
      | (with_reducible exact LeO.none _)
      | (with_reducible refine LeO.ite ?_ ?_)
      | (with_reducible refine LeO.bind ?_ (fun _ => ?_))
      | exact ih0 _ _ _ _ _
      | exact LeO.none _
      | refine LeO.ite ?_ ?_
      | refine LeO.bind ?_ (fun _ => ?_)
theorem xansi_zzJoin.mono : ∀ a0 a1 k, LeO (xansi_zzJoin.f k a0 a1) (xansi_zzJoin.f (k + 1) a0 a1) := by
  intro a0 a1 k
  have ih0 := xansi_zzJoin.mono_l k
  unfold xansi_zzJoin.f
  repeat' first
      | (with_reducible exact ih0 _ _ _ _ _)
      | (with_reducible exact LeO.refl _)
      | (with_reducible exact LeO.none _)
      | (with_reducible refine LeO.ite ?_ ?_)
      | (with_reducible refine LeO.bind ?_ (fun _ => ?_))
      | exact ih0 _ _ _ _ _
      | exact LeO.none _
      | refine LeO.ite ?_ ?_
      | refine LeO.bind ?_ (fun _ => ?_)
set_option maxHeartbeats 8000000 in
set_option maxRecDepth 100000 in
theorem xansi_zzJoin.calls (k : Nat) (A0 : Option Addr) (c0 : Nat) (l0 : List ByteArray) (a1 : ByteArray) (r : ByteArray) (w : World) (hr0 : Kd.C Kd.string w A0 l0.length l0) (hc0 : l0.length ≤ c0) (h : xansi_zzJoin.f k l0 a1 = some r) :
    Calls Tryz.prog 65 #[.slice A0 l0.length c0, .string a1] w fun e w' => e = .returned (.string r) ∧ Drawn0 w w' := by
  have HR0 := Aside0.mk hr0
  have HC0 := Aside0.mk hc0
  clear hr0 hc0
  have H : (xansi_zzJoin.l0 k a1 (⟨#[]⟩ : ByteArray) l0 (l0.length : Int) 0) = some r := h
  clear h
  have H' := Aside0.mk H
  clear H
  go_enter Tryz.func65, Tryz.ntmps65
  go_wp2
  go_loopg [5, 10] k (fun kq v5 v10 w' => ∃ (x5_1 : ByteArray) (x10_1 : Int), v5 = .string x5_1 ∧ v10 = .int .i64 x10_1 ∧ Aside0 (xansi_zzJoin.l0 kq a1 x5_1 l0 (l0.length : Int) x10_1 = some r) ∧ Aside0 (kq ≤ k) ∧ Drawn0 w w')
  case atStart => exact ⟨((⟨#[]⟩ : ByteArray)), (0), (by first | rfl | (simp; done) | (simp [*]; done)), (by first | rfl | (simp; done) | (simp [*]; done)), H', ⟨Nat.le_refl _⟩, by repeat (first | exact Drawn0.refl _ | apply Drawn0.step)⟩
  case round =>
    clear H'
    try clear p2
    obtain ⟨x5_1, x10_1, rfl, rfl, HA, HK1, ⟨m1, rfl⟩⟩ := hrel
    cases gk with
    | zero => exact absurd HA.out (by simp [xansi_zzJoin.l0])
    | succ k1 =>
      have H := HA.out
      clear HA
      simp only [xansi_zzJoin.l0] at H
      by_cases c3 : x10_1 < (l0.length : Int)
      · rw [if_pos c3] at H
        have c3b0 : decide (x10_1 < (l0.length : Int)) = true := decide_eq_true c3
        clear c3
        by_cases c4 : 0 ≤ x10_1
        · rw [if_pos c4] at H
          have c4b0 : decide (0 ≤ x10_1) = true := decide_eq_true c4
          clear c4
          by_cases c5 : x10_1 < (l0.length : Int)
          · rw [if_pos c5] at H
            have c5b0 : decide (x10_1 < (l0.length : Int)) = true := decide_eq_true c5
            clear c5
            by_cases c6 : x10_1 > 0
            · rw [if_pos c6] at H
              have c6b0 : decide (0 < x10_1) = true := decide_eq_true c6
              clear c6
              by_cases c7 : x5_1.size + a1.size ≤ 9223372036854775807
              · rw [if_pos c7] at H
                have c7b0 := eq_true c7
                have c7b1 : decide (x5_1.size + a1.size ≤ 9223372036854775807) = true := decide_eq_true c7
                try have c7b2 : (9223372036854775807 < x5_1.size + a1.size) = False := eq_false (Nat.not_lt.2 c7)
                by_cases c8 : (x5_1 ++ a1).size + (rdOf ByteArray.empty l0 x10_1).size ≤ 9223372036854775807
                · rw [if_pos c8] at H
                  have c8b0 := eq_true c8
                  have c8b1 : decide ((x5_1 ++ a1).size + (rdOf ByteArray.empty l0 x10_1).size ≤ 9223372036854775807) = true := decide_eq_true c8
                  try have c8b2 : (9223372036854775807 < (x5_1 ++ a1).size + (rdOf ByteArray.empty l0 x10_1).size) = False := eq_false (Nat.not_lt.2 c8)
                  have H' := Aside0.mk H
                  clear H
                  have p125 : 0 ≤ (x10_1 : Int) := of_decide_eq_true (by first | (with_reducible assumption) | assumption)
                  have q125 : x10_1 < (l0.length : Int) := of_decide_eq_true (by first | (with_reducible assumption) | assumption)
                  obtain ⟨ad125, e125, hx125_0⟩ := Kd.at_string HR0.out x10_1 p125 q125
                  cases e125
                  replace p125 := eq_true p125
                  replace q125 := eq_true q125
                  go_wp2
                  go_roundg k1
                  case measure => have := HK1.out; omega
                  case rel => exact ⟨((x5_1 ++ a1) ++ (rdOf ByteArray.empty l0 x10_1)), (wrap64 (x10_1 + 1)), (by first | rfl | (simp; done) | (simp [*]; done)), (by first | rfl | (simp; done) | (simp [*]; done)), H', ⟨by have := HK1.out; omega⟩, by repeat (first | exact Drawn0.refl _ | apply Drawn0.step)⟩
                · rw [if_neg c8] at H
                  exact absurd H (by simp)
              · rw [if_neg c7] at H
                exact absurd H (by simp)
            · rw [if_neg c6] at H
              have c6b0 : decide (0 < x10_1) = false := decide_eq_false c6
              clear c6
              by_cases c9 : x5_1.size + (rdOf ByteArray.empty l0 x10_1).size ≤ 9223372036854775807
              · rw [if_pos c9] at H
                have c9b0 := eq_true c9
                have c9b1 : decide (x5_1.size + (rdOf ByteArray.empty l0 x10_1).size ≤ 9223372036854775807) = true := decide_eq_true c9
                try have c9b2 : (9223372036854775807 < x5_1.size + (rdOf ByteArray.empty l0 x10_1).size) = False := eq_false (Nat.not_lt.2 c9)
                have H' := Aside0.mk H
                clear H
                have p125 : 0 ≤ (x10_1 : Int) := of_decide_eq_true (by first | (with_reducible assumption) | assumption)
                have q125 : x10_1 < (l0.length : Int) := of_decide_eq_true (by first | (with_reducible assumption) | assumption)
                obtain ⟨ad125, e125, hx125_0⟩ := Kd.at_string HR0.out x10_1 p125 q125
                cases e125
                replace p125 := eq_true p125
                replace q125 := eq_true q125
                go_wp2
                go_roundg k1
                case measure => have := HK1.out; omega
                case rel => exact ⟨(x5_1 ++ (rdOf ByteArray.empty l0 x10_1)), (wrap64 (x10_1 + 1)), (by first | rfl | (simp; done) | (simp [*]; done)), (by first | rfl | (simp; done) | (simp [*]; done)), H', ⟨by have := HK1.out; omega⟩, by repeat (first | exact Drawn0.refl _ | apply Drawn0.step)⟩
              · rw [if_neg c9] at H
                exact absurd H (by simp)
          · rw [if_neg c5] at H
            exact absurd H (by simp)
        · rw [if_neg c4] at H
          exact absurd H (by simp)
      · rw [if_neg c3] at H
        have c3b0 : decide (x10_1 < (l0.length : Int)) = false := decide_eq_false c3
        clear c3
        obtain rfl := Option.some.inj H
        go_wp2
        go_ret
        exact ⟨by first | rfl | (simp; done) | (simp [*]; done), by repeat (first | exact Drawn0.refl _ | apply Drawn0.step)⟩

/-! ### xansi_Style_String: function 28 -/
def xansi_Style_String.f (k : Nat) (l0 : List ByteArray) : Option (ByteArray) := if (l0.length : Int) = 0 then (some (⟨#[27, 91, 109]⟩ : ByteArray)) else ((xansi_zzJoin.f k l0 (⟨#[59]⟩ : ByteArray)).bind fun t126 => (if 2 + t126.size ≤ 9223372036854775807 then (if ((⟨#[27, 91]⟩ : ByteArray) ++ t126).size + 1 ≤ 9223372036854775807 then (some (((⟨#[27, 91]⟩ : ByteArray) ++ t126) ++ (⟨#[109]⟩ : ByteArray))) else (none)) else (none)))
theorem xansi_Style_String.mono : ∀ a0 k, LeO (xansi_Style_String.f k a0) (xansi_Style_String.f (k + 1) a0) := by
  intro a0 k
  unfold xansi_Style_String.f
  repeat' first
      | (with_reducible exact xansi_zzJoin.mono _ _ _)
      | (with_reducible exact LeO.refl _)
      | (with_reducible exact LeO.none _)
      | (with_reducible refine LeO.ite ?_ ?_)
      | (with_reducible refine LeO.bind ?_ (fun _ => ?_))
      | exact xansi_zzJoin.mono _ _ _
      | exact LeO.none _
      | refine LeO.ite ?_ ?_
      | refine LeO.bind ?_ (fun _ => ?_)
set_option maxHeartbeats 8000000 in
set_option maxRecDepth 100000 in
theorem xansi_Style_String.calls (k : Nat) (A0 : Option Addr) (c0 : Nat) (l0 : List ByteArray) (r : ByteArray) (w : World) (hr0 : Kd.C Kd.string w A0 l0.length l0) (hc0 : l0.length ≤ c0) (h : xansi_Style_String.f k l0 = some r) :
    Calls Tryz.prog 28 #[.slice A0 l0.length c0] w fun e w' => e = .returned (.string r) ∧ Drawn0 w w' := by
  have HR0 := Aside0.mk hr0
  have HC0 := Aside0.mk hc0
  clear hr0 hc0
  have H : (if (l0.length : Int) = 0 then (some (⟨#[27, 91, 109]⟩ : ByteArray)) else ((xansi_zzJoin.f k l0 (⟨#[59]⟩ : ByteArray)).bind fun t126 => (if 2 + t126.size ≤ 9223372036854775807 then (if ((⟨#[27, 91]⟩ : ByteArray) ++ t126).size + 1 ≤ 9223372036854775807 then (some (((⟨#[27, 91]⟩ : ByteArray) ++ t126) ++ (⟨#[109]⟩ : ByteArray))) else (none)) else (none)))) = some r := h
  clear h
  by_cases c2 : (l0.length : Int) = 0
  · rw [if_pos c2] at H
    have c2b0 : ((l0.length : Int) == 0) = true := beq_iff_eq.mpr c2
    have c2b1 : ((l0.length : Int) != 0) = false := bne_eq_false_iff_eq.mpr c2
    clear c2
    obtain rfl := Option.some.inj H
    go_enter Tryz.func28, Tryz.ntmps28
    go_wp2
    go_ret
    exact ⟨by first | rfl | (simp; done) | (simp [*]; done), by repeat (first | exact Drawn0.refl _ | apply Drawn0.step)⟩
  · rw [if_neg c2] at H
    have c2b0 : ((l0.length : Int) == 0) = false := beq_eq_false_iff_ne.mpr c2
    have c2b1 : ((l0.length : Int) != 0) = true := bne_iff_ne.mpr c2
    have c2b2 : ¬ (l0 = []) := fun h_ => c2 (by rw [h_]; rfl)
    replace H := Option.bind_eq_some_iff.mp H
    obtain ⟨t126, A30, H⟩ := H
    replace H : (if 2 + t126.size ≤ 9223372036854775807 then (if ((⟨#[27, 91]⟩ : ByteArray) ++ t126).size + 1 ≤ 9223372036854775807 then (some (((⟨#[27, 91]⟩ : ByteArray) ++ t126) ++ (⟨#[109]⟩ : ByteArray))) else (none)) else (none)) = some r := H
    have A3 := Aside0.mk A30
    clear A30
    by_cases c4 : 2 + t126.size ≤ 9223372036854775807
    · rw [if_pos c4] at H
      have c4b0 := eq_true c4
      have c4b1 : decide (2 + t126.size ≤ 9223372036854775807) = true := decide_eq_true c4
      try have c4b2 : (9223372036854775807 < 2 + t126.size) = False := eq_false (Nat.not_lt.2 c4)
      by_cases c5 : ((⟨#[27, 91]⟩ : ByteArray) ++ t126).size + 1 ≤ 9223372036854775807
      · rw [if_pos c5] at H
        have c5b0 := eq_true c5
        have c5b1 : decide (((⟨#[27, 91]⟩ : ByteArray) ++ t126).size + 1 ≤ 9223372036854775807) = true := decide_eq_true c5
        try have c5b2 : (9223372036854775807 < ((⟨#[27, 91]⟩ : ByteArray) ++ t126).size + 1) = False := eq_false (Nat.not_lt.2 c5)
        have c5b3 : (9223372036854775807 < 2 + t126.size + 1) = False := eq_false (by have h_ := c5; rw [ByteArray.size_append] at h_; have e_ : (⟨#[27, 91]⟩ : ByteArray).size = 2 := rfl; omega)
        obtain rfl := Option.some.inj H
        go_enter Tryz.func28, Tryz.ntmps28
        go_wp2_with (first | ((with_reducible refine gate_callee (f := 65) rfl ?_); refine goesL_ (some 7) rfl rfl Tryz.func65 (by kernel_rfl) rfl #[.slice A0 l0.length c0, .string (⟨#[59]⟩ : ByteArray)] rfl (by (try simp only [List.map_toArray, List.map_cons, List.map_nil]); first | done | rfl | (simp only [List.length_drop, List.length_take]; rfl)) ?_; (with_reducible refine (xansi_zzJoin.calls k _ _ l0 (⟨#[59]⟩ : ByteArray) t126 _ ?side1 ?side2 A3.out).mono ?_); (case side1 => repeat (first | exact HR0.out | (with_reducible refine Kd.C_alloc ?_ _) | (with_reducible refine Kd.C_drewN ?_ _) | (with_reducible refine Kd.C_drew ?_))); (case side2 => exact HC0.out); rintro e w' ⟨rfl, ⟨nd, rfl⟩⟩; refine ⟨_, rfl, ?_⟩))
        go_ret
        exact ⟨by first | rfl | (simp; done) | (simp [*]; done), by repeat (first | exact Drawn0.refl _ | apply Drawn0.step)⟩
      · rw [if_neg c5] at H
        exact absurd H (by simp)
    · rw [if_neg c4] at H
      exact absurd H (by simp)

/-! ### xansi_Style_Styled: function 29 -/
def xansi_Style_Styled.f (k : Nat) (l0 : List ByteArray) (a1 : ByteArray) : Option (ByteArray) := if (l0.length : Int) = 0 then (some a1) else ((xansi_Style_String.f k l0).bind fun t127 => (if t127.size + a1.size ≤ 9223372036854775807 then (if (t127 ++ a1).size + 3 ≤ 9223372036854775807 then (some ((t127 ++ a1) ++ (⟨#[27, 91, 109]⟩ : ByteArray))) else (none)) else (none)))
theorem xansi_Style_Styled.mono : ∀ a0 a1 k, LeO (xansi_Style_Styled.f k a0 a1) (xansi_Style_Styled.f (k + 1) a0 a1) := by
  intro a0 a1 k
  unfold xansi_Style_Styled.f
  repeat' first
      | (with_reducible exact xansi_Style_String.mono _ _)
      | (with_reducible exact LeO.refl _)
      | (with_reducible exact LeO.none _)
      | (with_reducible refine LeO.ite ?_ ?_)
      | (with_reducible refine LeO.bind ?_ (fun _ => ?_))
      | exact xansi_Style_String.mono _ _
      | exact LeO.none _
      | refine LeO.ite ?_ ?_
      | refine LeO.bind ?_ (fun _ => ?_)
set_option maxHeartbeats 8000000 in
set_option maxRecDepth 100000 in
theorem xansi_Style_Styled.calls (k : Nat) (A0 : Option Addr) (c0 : Nat) (l0 : List ByteArray) (a1 : ByteArray) (r : ByteArray) (w : World) (hr0 : Kd.C Kd.string w A0 l0.length l0) (hc0 : l0.length ≤ c0) (h : xansi_Style_Styled.f k l0 a1 = some r) :
    Calls Tryz.prog 29 #[.slice A0 l0.length c0, .string a1] w fun e w' => e = .returned (.string r) ∧ Drawn0 w w' := by
  have HR0 := Aside0.mk hr0
  have HC0 := Aside0.mk hc0
  clear hr0 hc0
  have H : (if (l0.length : Int) = 0 then (some a1) else ((xansi_Style_String.f k l0).bind fun t127 => (if t127.size + a1.size ≤ 9223372036854775807 then (if (t127 ++ a1).size + 3 ≤ 9223372036854775807 then (some ((t127 ++ a1) ++ (⟨#[27, 91, 109]⟩ : ByteArray))) else (none)) else (none)))) = some r := h
  clear h
  by_cases c3 : (l0.length : Int) = 0
  · rw [if_pos c3] at H
    have c3b0 : ((l0.length : Int) == 0) = true := beq_iff_eq.mpr c3
    have c3b1 : ((l0.length : Int) != 0) = false := bne_eq_false_iff_eq.mpr c3
    clear c3
    obtain rfl := Option.some.inj H
    go_enter Tryz.func29, Tryz.ntmps29
    go_wp2
    go_ret
    exact ⟨by first | rfl | (simp; done) | (simp [*]; done), by repeat (first | exact Drawn0.refl _ | apply Drawn0.step)⟩
  · rw [if_neg c3] at H
    have c3b0 : ((l0.length : Int) == 0) = false := beq_eq_false_iff_ne.mpr c3
    have c3b1 : ((l0.length : Int) != 0) = true := bne_iff_ne.mpr c3
    have c3b2 : ¬ (l0 = []) := fun h_ => c3 (by rw [h_]; rfl)
    replace H := Option.bind_eq_some_iff.mp H
    obtain ⟨t127, A40, H⟩ := H
    replace H : (if t127.size + a1.size ≤ 9223372036854775807 then (if (t127 ++ a1).size + 3 ≤ 9223372036854775807 then (some ((t127 ++ a1) ++ (⟨#[27, 91, 109]⟩ : ByteArray))) else (none)) else (none)) = some r := H
    have A4 := Aside0.mk A40
    clear A40
    by_cases c5 : t127.size + a1.size ≤ 9223372036854775807
    · rw [if_pos c5] at H
      have c5b0 := eq_true c5
      have c5b1 : decide (t127.size + a1.size ≤ 9223372036854775807) = true := decide_eq_true c5
      try have c5b2 : (9223372036854775807 < t127.size + a1.size) = False := eq_false (Nat.not_lt.2 c5)
      by_cases c6 : (t127 ++ a1).size + 3 ≤ 9223372036854775807
      · rw [if_pos c6] at H
        have c6b0 := eq_true c6
        have c6b1 : decide ((t127 ++ a1).size + 3 ≤ 9223372036854775807) = true := decide_eq_true c6
        try have c6b2 : (9223372036854775807 < (t127 ++ a1).size + 3) = False := eq_false (Nat.not_lt.2 c6)
        have c6b3 : (9223372036854775807 < t127.size + a1.size + 3) = False := eq_false (by have h_ := c6; rw [ByteArray.size_append] at h_; omega)
        obtain rfl := Option.some.inj H
        go_enter Tryz.func29, Tryz.ntmps29
        go_wp2_with (first | ((with_reducible refine gate_callee (f := 28) rfl ?_); refine goesL_ (some 10) rfl rfl Tryz.func28 (by kernel_rfl) rfl #[.slice A0 l0.length c0] rfl (by (try simp only [List.map_toArray, List.map_cons, List.map_nil]); first | done | rfl | (simp only [List.length_drop, List.length_take]; rfl)) ?_; (with_reducible refine (xansi_Style_String.calls k _ _ l0 t127 _ ?side1 ?side2 A4.out).mono ?_); (case side1 => repeat (first | exact HR0.out | (with_reducible refine Kd.C_alloc ?_ _) | (with_reducible refine Kd.C_drewN ?_ _) | (with_reducible refine Kd.C_drew ?_))); (case side2 => exact HC0.out); rintro e w' ⟨rfl, ⟨nd, rfl⟩⟩; refine ⟨_, rfl, ?_⟩))
        go_ret
        exact ⟨by first | rfl | (simp; done) | (simp [*]; done), by repeat (first | exact Drawn0.refl _ | apply Drawn0.step)⟩
      · rw [if_neg c6] at H
        exact absurd H (by simp)
    · rw [if_neg c5] at H
      exact absurd H (by simp)

/-! ### impl_StyleRun: function 9 -/
def impl_StyleRun.l0 : Nat → ByteArray → List ByteArray → List (S52) → Int → Int → Option (ByteArray × ByteArray)
  | 0, _, _, _, _, _ => none
  | k + 1, x2, x8, x14, x15, x16 => if x16 < x15 then (if 0 ≤ x16 then (if x16 < (x14.length : Int) then ((impl_styled.f x8 ((rd_T52 x14 x16).f0) ((rd_T52 x14 x16).f1) ((rd_T52 x14 x16).f2) ((rd_T52 x14 x16).f3.f0) ((rd_T52 x14 x16).f3.f1) ((rd_T52 x14 x16).f3.f2) ((rd_T52 x14 x16).f3.f3) ((rd_T52 x14 x16).f3.f4) ((rd_T52 x14 x16).f3.f5)).bind fun t136 => (impl_StyleRun.l0 k x2 t136 x14 x15 (wrap64 (x16 + 1)))) else (none)) else (none)) else ((xansi_Style_String.f k x8).bind fun t139 => ((xansi_Style_Styled.f k x8 x2).bind fun t140 => (some (t139, t140))))
def impl_StyleRun.f (k : Nat) (l0 : List Int) (l1 : List (S52)) (a2 : ByteArray) : Option (ByteArray × ByteArray) := (impl_count.f k l0).bind fun t128 => ((xansi_NewStyle.f k t128).bind fun t131 => (impl_StyleRun.l0 k a2 t131 l1 (l1.length : Int) 0))
theorem impl_StyleRun.mono_l : ∀ k, (∀ y0 y1 y2 y3 y4, LeO (impl_StyleRun.l0 k y0 y1 y2 y3 y4) (impl_StyleRun.l0 (k + 1) y0 y1 y2 y3 y4))
  | 0 => fun _ _ _ _ _ r h => by simp [impl_StyleRun.l0] at h
  | k + 1 => by
    have ih0 := impl_StyleRun.mono_l k
    · intro y0 y1 y2 y3 y4
      unfold impl_StyleRun.l0
      repeat' first
      | (with_reducible exact ih0 _ _ _ _ _)
      | (with_reducible exact impl_count.mono _ _)
      | (with_reducible exact xansi_NewStyle.mono _ _)
      | (with_reducible exact xansi_Style_String.mono _ _)
      | (with_reducible exact xansi_Style_Styled.mono _ _ _)
      | (with_reducible exact LeO.refl _)
      | (with_reducible exact LeO.none _)
      | (with_reducible refine LeO.ite ?_ ?_)
      | (with_reducible refine LeO.bind ?_ (fun _ => ?_))
      | exact ih0 _ _ _ _ _
      | exact impl_count.mono _ _
      | exact xansi_NewStyle.mono _ _
      | exact xansi_Style_String.mono _ _
      | exact xansi_Style_Styled.mono _ _ _
      | exact LeO.none _
      | refine LeO.ite ?_ ?_
      | refine LeO.bind ?_ (fun _ => ?_)
theorem impl_StyleRun.mono : ∀ a0 a1 a2 k, LeO (impl_StyleRun.f k a0 a1 a2) (impl_StyleRun.f (k + 1) a0 a1 a2) := by
  intro a0 a1 a2 k
  have ih0 := impl_StyleRun.mono_l k
  unfold impl_StyleRun.f
  repeat' first
      | (with_reducible exact ih0 _ _ _ _ _)
      | (with_reducible exact impl_count.mono _ _)
      | (with_reducible exact xansi_NewStyle.mono _ _)
      | (with_reducible exact xansi_Style_String.mono _ _)
      | (with_reducible exact xansi_Style_Styled.mono _ _ _)
      | (with_reducible exact LeO.refl _)
      | (with_reducible exact LeO.none _)
      | (with_reducible refine LeO.ite ?_ ?_)
      | (with_reducible refine LeO.bind ?_ (fun _ => ?_))
      | exact ih0 _ _ _ _ _
      | exact impl_count.mono _ _
      | exact xansi_NewStyle.mono _ _
      | exact xansi_Style_String.mono _ _
      | exact xansi_Style_Styled.mono _ _ _
      | exact LeO.none _
      | refine LeO.ite ?_ ?_
      | refine LeO.bind ?_ (fun _ => ?_)
set_option maxHeartbeats 8000000 in
set_option maxRecDepth 100000 in
theorem impl_StyleRun.calls (k : Nat) (A0 : Option Addr) (c0 : Nat) (l0 : List Int) (A1 : Option Addr) (c1 : Nat) (l1 : List (S52)) (a2 : ByteArray) (r1 : ByteArray) (r2 : ByteArray) (w : World) (hT : HasTab w) (hr0 : Kd.C (Kd.int .i64) w A0 l0.length l0) (hc0 : l0.length ≤ c0) (hr1 : Kd.C k52 w A1 l1.length l1) (hc1 : l1.length ≤ c1) (h : impl_StyleRun.f k l0 l1 a2 = some (r1, r2)) :
    Calls Tryz.prog 9 #[.slice A0 l0.length c0, .slice A1 l1.length c1, .string a2] w fun e w' => e = .returned (.tuple #[.string r1, .string r2]) ∧ Below w.heap.size w w' := by
  have hu52 := Tryz.underlying52
  have HR0 := Aside0.mk hr0
  have HC0 := Aside0.mk hc0
  clear hr0 hc0
  have HR1 := Aside0.mk hr1
  have HC1 := Aside0.mk hc1
  clear hr1 hc1
  have HT := Aside0.mk hT
  clear hT
  have HB := Aside0.mk (Below.refl w.heap.size w)
  have H : ((impl_count.f k l0).bind fun t128 => ((xansi_NewStyle.f k t128).bind fun t131 => (impl_StyleRun.l0 k a2 t131 l1 (l1.length : Int) 0))) = some (r1, r2) := h
  clear h
  replace H := Option.bind_eq_some_iff.mp H
  obtain ⟨t128, A40, H⟩ := H
  replace H : ((xansi_NewStyle.f k t128).bind fun t131 => (impl_StyleRun.l0 k a2 t131 l1 (l1.length : Int) 0)) = some (r1, r2) := H
  have A4 := Aside0.mk A40
  clear A40
  replace H := Option.bind_eq_some_iff.mp H
  obtain ⟨t131, A50, H⟩ := H
  replace H : (impl_StyleRun.l0 k a2 t131 l1 (l1.length : Int) 0) = some (r1, r2) := H
  have A5 := Aside0.mk A50
  clear A50
  have H' := Aside0.mk H
  clear H
  go_enter Tryz.func9, Tryz.ntmps9
  go_wp2_with (first | ((with_reducible refine gate_callee (f := 26) rfl ?_); refine goesL_ (some 12) rfl rfl Tryz.func26 (by kernel_rfl) rfl #[.slice A0 l0.length c0] rfl (by (try simp only [List.map_toArray, List.map_cons, List.map_nil]); first | done | rfl | (simp only [List.length_drop, List.length_take]; rfl)) ?_; (with_reducible refine (impl_count.calls k _ _ l0 t128 _ ?side1 ?side2 A4.out).mono ?_); (case side1 => repeat (first | exact HR0.out | (with_reducible refine Kd.C_alloc ?_ _) | (with_reducible refine Kd.C_drewN ?_ _) | (with_reducible refine Kd.C_drew ?_))); (case side2 => exact HC0.out); rintro e w6 ⟨v129, rfl, ho0, hb⟩; refine ⟨_, rfl, ?_⟩; have n0_ := Aside0.mk (Kd.R_lower ho0 (below_size (by repeat (first | (with_reducible first | exact HB.out | apply below_alloc | apply pw_below_drewN | apply below_drew1) | exact HB.out)))); have n1_ := Aside0.mk (below_step (by repeat (first | (with_reducible first | exact HB.out | apply below_alloc | apply pw_below_drewN | apply below_drew1) | exact HB.out)) hb); clear HB; have HO130 := n0_; have HB := n1_; clear n0_ n1_; (try clear hb); (try clear hb2); (try clear hk); (try clear hi); (try clear ho0); obtain ⟨Ao7, co7, eo7⟩ := Kd.R_slice HO130.out; subst eo7) | ((with_reducible refine gate_callee (f := 25) rfl ?_); refine goesL_ (some 13) rfl rfl Tryz.func25 (by kernel_rfl) rfl #[.slice Ao7 t128.length co7] rfl (by (try simp only [List.map_toArray, List.map_cons, List.map_nil]); first | done | rfl | (simp only [List.length_drop, List.length_take]; rfl)) ?_; (with_reducible refine (xansi_NewStyle.calls k _ _ t128 t131 _ ?sideT ?side1 ?side2 A5.out).mono ?_); (case sideT => exact HasTab.below HT.out (by repeat (first | (with_reducible first | exact HB.out | apply below_alloc | apply pw_below_drewN | apply below_drew1) | exact HB.out))); (case side1 => repeat (first | exact (Kd.R_reads' HO130.out).2.2 | (with_reducible refine Kd.C_alloc ?_ _) | (with_reducible refine Kd.C_drewN ?_ _) | (with_reducible refine Kd.C_drew ?_))); (case side2 => exact (Kd.R_reads' HO130.out).2.1); rintro e w8 ⟨v132, rfl, ho0, hb⟩; refine ⟨_, rfl, ?_⟩; have n0_ := Aside0.mk (Kd.R_below (by (with_reducible repeat (first | apply Kd.R_alloc | apply Kd.R_drewN | apply Kd.R_drew)); exact HO130.out) hb); have n1_ := Aside0.mk (Kd.R_lower ho0 (below_size (by repeat (first | (with_reducible first | exact HB.out | apply below_alloc | apply pw_below_drewN | apply below_drew1) | exact HB.out)))); have n2_ := Aside0.mk (below_step (by repeat (first | (with_reducible first | exact HB.out | apply below_alloc | apply pw_below_drewN | apply below_drew1) | exact HB.out)) hb); clear HO130; clear HB; have HO130 := n0_; have HO133 := n1_; have HB := n2_; clear n0_ n1_ n2_; (try clear hb); (try clear hb2); (try clear hk); (try clear hi); (try clear ho0)))
  go_loopg [8, 16] k (fun kq v8 v16 w' => ∃ (x8_1 : List ByteArray) (x16_1 : Int), v16 = .int .i64 x16_1 ∧ Aside0 (impl_StyleRun.l0 kq a2 x8_1 l1 (l1.length : Int) x16_1 = some (r1, r2)) ∧ Aside0 (kq ≤ k) ∧ Aside0 (Kd.R Kd.string 9 w' w.heap.size (fun _ => True) v8 x8_1) ∧ Aside0 (Below w.heap.size w w'))
  case atStart => exact ⟨(t131), (0), (by first | rfl | (simp; done) | (simp [*]; done)), H', ⟨Nat.le_refl _⟩, ⟨by (with_reducible repeat (first | apply Kd.R_alloc | apply Kd.R_drewN | apply Kd.R_drew)); exact HO133.out⟩, ⟨by repeat (first | (with_reducible first | exact HB.out | apply below_alloc | apply pw_below_drewN | apply below_drew1) | exact HB.out)⟩⟩
  case round =>
    clear H'
    try clear c1
    try clear c2
    try clear p2
    obtain ⟨x8_1, x16_1, rfl, HA, HK1, HO_8, HB⟩ := hrel
    cases gk with
    | zero => exact absurd HA.out (by simp [impl_StyleRun.l0])
    | succ k1 =>
      have H := HA.out
      clear HA
      simp only [impl_StyleRun.l0] at H
      by_cases c9 : x16_1 < (l1.length : Int)
      · rw [if_pos c9] at H
        have c9b0 : decide (x16_1 < (l1.length : Int)) = true := decide_eq_true c9
        clear c9
        by_cases c10 : 0 ≤ x16_1
        · rw [if_pos c10] at H
          have c10b0 : decide (0 ≤ x16_1) = true := decide_eq_true c10
          clear c10
          by_cases c11 : x16_1 < (l1.length : Int)
          · rw [if_pos c11] at H
            have c11b0 : decide (x16_1 < (l1.length : Int)) = true := decide_eq_true c11
            clear c11
            replace H := Option.bind_eq_some_iff.mp H
            obtain ⟨t136, A120, H⟩ := H
            replace H : (impl_StyleRun.l0 k1 a2 t136 l1 (l1.length : Int) (wrap64 (x16_1 + 1))) = some (r1, r2) := H
            have A12 := Aside0.mk A120
            clear A120
            have H' := Aside0.mk H
            clear H
            have p134 : 0 ≤ (x16_1 : Int) := of_decide_eq_true (by first | (with_reducible assumption) | assumption)
            have q134 : x16_1 < (l1.length : Int) := of_decide_eq_true (by first | (with_reducible assumption) | assumption)
            obtain ⟨ad134, e134, hx134_0, hx134_1, hx134_2, hx134_3, hx134_4, hx134_5, hx134_6, hx134_7, hx134_8⟩ := at_T52 HR1.out x16_1 p134 q134
            cases e134
            replace hx134_0 := (HB.out.cell (World.block_lt_of_cell? w _ hx134_0)).trans hx134_0
            replace hx134_1 := (HB.out.cell (World.block_lt_of_cell? w _ hx134_1)).trans hx134_1
            replace hx134_2 := (HB.out.cell (World.block_lt_of_cell? w _ hx134_2)).trans hx134_2
            replace hx134_3 := (HB.out.cell (World.block_lt_of_cell? w _ hx134_3)).trans hx134_3
            replace hx134_4 := (HB.out.cell (World.block_lt_of_cell? w _ hx134_4)).trans hx134_4
            replace hx134_5 := (HB.out.cell (World.block_lt_of_cell? w _ hx134_5)).trans hx134_5
            replace hx134_6 := (HB.out.cell (World.block_lt_of_cell? w _ hx134_6)).trans hx134_6
            replace hx134_7 := (HB.out.cell (World.block_lt_of_cell? w _ hx134_7)).trans hx134_7
            replace hx134_8 := (HB.out.cell (World.block_lt_of_cell? w _ hx134_8)).trans hx134_8
            replace p134 := eq_true p134
            replace q134 := eq_true q134
            go_wp2_with (first | ((with_reducible refine gate_dst (N := 10) rfl ?_); refine box_event ?hg (N := 10) ?hd (cs := #[.int .i64 0, .bool false, .int .u8 0, .int .i64 0, .int .i64 0, .int .u8 0, .int .u8 0, .int .u8 0, .int .u8 0]) (t := 52) ?hr ?_; (case hd => rfl); (case hg => rfl); (case hr => first | (go_simp; done) | (go_simp; rfl)); intro gb135 hg w13 hbox hb; have n0_ := Aside0.mk (Kd.R_below (by (with_reducible repeat (first | apply Kd.R_alloc | apply Kd.R_drewN | apply Kd.R_drew)); exact HO_8.out) hb); have n1_ := Aside0.mk (below_step (by repeat (first | (with_reducible first | exact HB.out | apply below_alloc | apply pw_below_drewN | apply below_drew1) | exact HB.out)) hb); have n2_ := Aside0.mk (hbox); have n3_ := Aside0.mk ((by rw [hg]; exact (below_size (by repeat (first | (with_reducible first | exact HB.out | apply below_alloc | apply pw_below_drewN | apply below_drew1) | exact HB.out))) : w.heap.size ≤ gb135)); have n4_ := Aside0.mk ((by rw [hg]; exact (below_size (by repeat (first | (with_reducible first | exact HB.out | apply below_alloc | apply pw_below_drewN | apply below_drew1) | exact HB.out))) : w.heap.size ≤ gb135)); clear HO_8; clear HB; have HO_8 := n0_; have HB := n1_; have BK135 := n2_; have GW135 := n3_; have GE135 := n4_; clear n0_ n1_ n2_ n3_ n4_; clear hb hbox hg; have hcz14_0 : w13.cell? ⟨gb135, 0, none⟩ = some (.int .i64 0) := (blk_cell BK135.out 0).trans rfl; have hcz14_1 : w13.cell? ⟨gb135, 1, none⟩ = some (.bool false) := (blk_cell BK135.out 1).trans rfl; have hcz14_2 : w13.cell? ⟨gb135, 2, none⟩ = some (.int .u8 0) := (blk_cell BK135.out 2).trans rfl; have hcz14_3 : w13.cell? ⟨gb135, 3, none⟩ = some (.int .i64 0) := (blk_cell BK135.out 3).trans rfl; have hcz14_4 : w13.cell? ⟨gb135, 4, none⟩ = some (.int .i64 0) := (blk_cell BK135.out 4).trans rfl; have hcz14_5 : w13.cell? ⟨gb135, 5, none⟩ = some (.int .u8 0) := (blk_cell BK135.out 5).trans rfl; have hcz14_6 : w13.cell? ⟨gb135, 6, none⟩ = some (.int .u8 0) := (blk_cell BK135.out 6).trans rfl; have hcz14_7 : w13.cell? ⟨gb135, 7, none⟩ = some (.int .u8 0) := (blk_cell BK135.out 7).trans rfl; have hcz14_8 : w13.cell? ⟨gb135, 8, none⟩ = some (.int .u8 0) := (blk_cell BK135.out 8).trans rfl; have hfz14_0 := blk_frozen BK135.out 0; have hfz14_1 := blk_frozen BK135.out 1; have hfz14_2 := blk_frozen BK135.out 2; have hfz14_3 := blk_frozen BK135.out 3; have hfz14_4 := blk_frozen BK135.out 4; have hfz14_5 := blk_frozen BK135.out 5; have hfz14_6 := blk_frozen BK135.out 6; have hfz14_7 := blk_frozen BK135.out 7; have hfz14_8 := blk_frozen BK135.out 8) | ((with_reducible refine gate_store (t := 52) (p := 10) rfl ?_); refine store_event (t := 52) (p := 10) (v := ?vo_w15) (w1 := (((((((((w13.setCell ⟨gb135, 0, none⟩ (.int .i64 ((rd_T52 l1 x16_1).f0))).setCell ⟨gb135, 1, none⟩ (.bool ((rd_T52 l1 x16_1).f1))).setCell ⟨gb135, 2, none⟩ (.int .u8 ((rd_T52 l1 x16_1).f2))).setCell ⟨gb135, 3, none⟩ (.int .i64 ((rd_T52 l1 x16_1).f3.f0))).setCell ⟨gb135, 4, none⟩ (.int .i64 ((rd_T52 l1 x16_1).f3.f1))).setCell ⟨gb135, 5, none⟩ (.int .u8 ((rd_T52 l1 x16_1).f3.f2))).setCell ⟨gb135, 6, none⟩ (.int .u8 ((rd_T52 l1 x16_1).f3.f3))).setCell ⟨gb135, 7, none⟩ (.int .u8 ((rd_T52 l1 x16_1).f3.f4))).setCell ⟨gb135, 8, none⟩ (.int .u8 ((rd_T52 l1 x16_1).f3.f5)))) ?hg ?ho ?hn ?hr ?_; (case ho => rfl); (case hg => rfl); (case hn => rfl); (case hr => first | (go_simp; done) | (go_simp; rfl)); intro w15 hw; have n0_ : Aside0 (Kd.R Kd.string 9 w15 w.heap.size (fun _ => True) u8 x8_1) := ⟨(by rw [hw]; exact (by (with_reducible repeat (first | apply Kd.R_alloc | apply Kd.R_drewN | apply Kd.R_drew)); exact Kd.R_mono (Kd.R_far (p := ⟨gb135, 8, none⟩) (Kd.R_far (p := ⟨gb135, 7, none⟩) (Kd.R_far (p := ⟨gb135, 6, none⟩) (Kd.R_far (p := ⟨gb135, 5, none⟩) (Kd.R_far (p := ⟨gb135, 4, none⟩) (Kd.R_far (p := ⟨gb135, 3, none⟩) (Kd.R_far (p := ⟨gb135, 2, none⟩) (Kd.R_far (p := ⟨gb135, 1, none⟩) (Kd.R_far (p := ⟨gb135, 0, none⟩) (Kd.R_types HO_8.out BK135.out (by decide)) (fun _ hk => hk.2) (.int .i64 ((rd_T52 l1 x16_1).f0))) (fun _ hk => hk.2) (.bool ((rd_T52 l1 x16_1).f1))) (fun _ hk => hk.2) (.int .u8 ((rd_T52 l1 x16_1).f2))) (fun _ hk => hk.2) (.int .i64 ((rd_T52 l1 x16_1).f3.f0))) (fun _ hk => hk.2) (.int .i64 ((rd_T52 l1 x16_1).f3.f1))) (fun _ hk => hk.2) (.int .u8 ((rd_T52 l1 x16_1).f3.f2))) (fun _ hk => hk.2) (.int .u8 ((rd_T52 l1 x16_1).f3.f3))) (fun _ hk => hk.2) (.int .u8 ((rd_T52 l1 x16_1).f3.f4))) (fun _ hk => hk.2) (.int .u8 ((rd_T52 l1 x16_1).f3.f5))) (fun _ hk => trivial)))⟩; have n1_ : Aside0 (w15.heap[gb135]? = some (.cells #[.int .i64 ((rd_T52 l1 x16_1).f0), .bool ((rd_T52 l1 x16_1).f1), .int .u8 ((rd_T52 l1 x16_1).f2), .int .i64 ((rd_T52 l1 x16_1).f3.f0), .int .i64 ((rd_T52 l1 x16_1).f3.f1), .int .u8 ((rd_T52 l1 x16_1).f3.f2), .int .u8 ((rd_T52 l1 x16_1).f3.f3), .int .u8 ((rd_T52 l1 x16_1).f3.f4), .int .u8 ((rd_T52 l1 x16_1).f3.f5)] 52 (0, 0))) := ⟨(by rw [hw]; exact (by (with_reducible repeat (first | refine blk_drewN ?_ _ | refine blk_drew ?_ | refine blk_alloc ?_ _)); refine blk_put (cs := #[.int .i64 ((rd_T52 l1 x16_1).f0), .bool ((rd_T52 l1 x16_1).f1), .int .u8 ((rd_T52 l1 x16_1).f2), .int .i64 ((rd_T52 l1 x16_1).f3.f0), .int .i64 ((rd_T52 l1 x16_1).f3.f1), .int .u8 ((rd_T52 l1 x16_1).f3.f2), .int .u8 ((rd_T52 l1 x16_1).f3.f3), .int .u8 ((rd_T52 l1 x16_1).f3.f4), .int .u8 0]) ?_ 8 _ rfl; (with_reducible repeat (first | refine blk_drewN ?_ _ | refine blk_drew ?_ | refine blk_alloc ?_ _)); refine blk_put (cs := #[.int .i64 ((rd_T52 l1 x16_1).f0), .bool ((rd_T52 l1 x16_1).f1), .int .u8 ((rd_T52 l1 x16_1).f2), .int .i64 ((rd_T52 l1 x16_1).f3.f0), .int .i64 ((rd_T52 l1 x16_1).f3.f1), .int .u8 ((rd_T52 l1 x16_1).f3.f2), .int .u8 ((rd_T52 l1 x16_1).f3.f3), .int .u8 0, .int .u8 0]) ?_ 7 _ rfl; (with_reducible repeat (first | refine blk_drewN ?_ _ | refine blk_drew ?_ | refine blk_alloc ?_ _)); refine blk_put (cs := #[.int .i64 ((rd_T52 l1 x16_1).f0), .bool ((rd_T52 l1 x16_1).f1), .int .u8 ((rd_T52 l1 x16_1).f2), .int .i64 ((rd_T52 l1 x16_1).f3.f0), .int .i64 ((rd_T52 l1 x16_1).f3.f1), .int .u8 ((rd_T52 l1 x16_1).f3.f2), .int .u8 0, .int .u8 0, .int .u8 0]) ?_ 6 _ rfl; (with_reducible repeat (first | refine blk_drewN ?_ _ | refine blk_drew ?_ | refine blk_alloc ?_ _)); refine blk_put (cs := #[.int .i64 ((rd_T52 l1 x16_1).f0), .bool ((rd_T52 l1 x16_1).f1), .int .u8 ((rd_T52 l1 x16_1).f2), .int .i64 ((rd_T52 l1 x16_1).f3.f0), .int .i64 ((rd_T52 l1 x16_1).f3.f1), .int .u8 0, .int .u8 0, .int .u8 0, .int .u8 0]) ?_ 5 _ rfl; (with_reducible repeat (first | refine blk_drewN ?_ _ | refine blk_drew ?_ | refine blk_alloc ?_ _)); refine blk_put (cs := #[.int .i64 ((rd_T52 l1 x16_1).f0), .bool ((rd_T52 l1 x16_1).f1), .int .u8 ((rd_T52 l1 x16_1).f2), .int .i64 ((rd_T52 l1 x16_1).f3.f0), .int .i64 0, .int .u8 0, .int .u8 0, .int .u8 0, .int .u8 0]) ?_ 4 _ rfl; (with_reducible repeat (first | refine blk_drewN ?_ _ | refine blk_drew ?_ | refine blk_alloc ?_ _)); refine blk_put (cs := #[.int .i64 ((rd_T52 l1 x16_1).f0), .bool ((rd_T52 l1 x16_1).f1), .int .u8 ((rd_T52 l1 x16_1).f2), .int .i64 0, .int .i64 0, .int .u8 0, .int .u8 0, .int .u8 0, .int .u8 0]) ?_ 3 _ rfl; (with_reducible repeat (first | refine blk_drewN ?_ _ | refine blk_drew ?_ | refine blk_alloc ?_ _)); refine blk_put (cs := #[.int .i64 ((rd_T52 l1 x16_1).f0), .bool ((rd_T52 l1 x16_1).f1), .int .u8 0, .int .i64 0, .int .i64 0, .int .u8 0, .int .u8 0, .int .u8 0, .int .u8 0]) ?_ 2 _ rfl; (with_reducible repeat (first | refine blk_drewN ?_ _ | refine blk_drew ?_ | refine blk_alloc ?_ _)); refine blk_put (cs := #[.int .i64 ((rd_T52 l1 x16_1).f0), .bool false, .int .u8 0, .int .i64 0, .int .i64 0, .int .u8 0, .int .u8 0, .int .u8 0, .int .u8 0]) ?_ 1 _ rfl; (with_reducible repeat (first | refine blk_drewN ?_ _ | refine blk_drew ?_ | refine blk_alloc ?_ _)); refine blk_put (cs := #[.int .i64 0, .bool false, .int .u8 0, .int .i64 0, .int .i64 0, .int .u8 0, .int .u8 0, .int .u8 0, .int .u8 0]) ?_ 0 _ rfl; (with_reducible repeat (first | refine blk_drewN ?_ _ | refine blk_drew ?_ | refine blk_alloc ?_ _)); exact BK135.out))⟩; have n2_ : Aside0 (Below w.heap.size w w15) := ⟨(by rw [hw]; exact (by repeat (first | (with_reducible first | exact HB.out | apply below_alloc | apply pw_below_drewN | apply below_drew1 | refine below_set ?_ GE135.out) | exact HB.out)))⟩; clear hw; clear HO_8; clear BK135; clear HB; have HO_8 := n0_; have BK135 := n1_; have HB := n2_; clear n0_ n1_ n2_; have hcz16_0 : w15.cell? ⟨gb135, 0, none⟩ = some (.int .i64 ((rd_T52 l1 x16_1).f0)) := (blk_cell BK135.out 0).trans rfl; have hcz16_1 : w15.cell? ⟨gb135, 1, none⟩ = some (.bool ((rd_T52 l1 x16_1).f1)) := (blk_cell BK135.out 1).trans rfl; have hcz16_2 : w15.cell? ⟨gb135, 2, none⟩ = some (.int .u8 ((rd_T52 l1 x16_1).f2)) := (blk_cell BK135.out 2).trans rfl; have hcz16_3 : w15.cell? ⟨gb135, 3, none⟩ = some (.int .i64 ((rd_T52 l1 x16_1).f3.f0)) := (blk_cell BK135.out 3).trans rfl; have hcz16_4 : w15.cell? ⟨gb135, 4, none⟩ = some (.int .i64 ((rd_T52 l1 x16_1).f3.f1)) := (blk_cell BK135.out 4).trans rfl; have hcz16_5 : w15.cell? ⟨gb135, 5, none⟩ = some (.int .u8 ((rd_T52 l1 x16_1).f3.f2)) := (blk_cell BK135.out 5).trans rfl; have hcz16_6 : w15.cell? ⟨gb135, 6, none⟩ = some (.int .u8 ((rd_T52 l1 x16_1).f3.f3)) := (blk_cell BK135.out 6).trans rfl; have hcz16_7 : w15.cell? ⟨gb135, 7, none⟩ = some (.int .u8 ((rd_T52 l1 x16_1).f3.f4)) := (blk_cell BK135.out 7).trans rfl; have hcz16_8 : w15.cell? ⟨gb135, 8, none⟩ = some (.int .u8 ((rd_T52 l1 x16_1).f3.f5)) := (blk_cell BK135.out 8).trans rfl; have hfz16_0 := blk_frozen BK135.out 0; have hfz16_1 := blk_frozen BK135.out 1; have hfz16_2 := blk_frozen BK135.out 2; have hfz16_3 := blk_frozen BK135.out 3; have hfz16_4 := blk_frozen BK135.out 4; have hfz16_5 := blk_frozen BK135.out 5; have hfz16_6 := blk_frozen BK135.out 6; have hfz16_7 := blk_frozen BK135.out 7; have hfz16_8 := blk_frozen BK135.out 8; obtain ⟨Ao17, co17, eo17⟩ := Kd.R_slice HO_8.out; subst eo17) | ((with_reducible refine gate_callee (f := 27) rfl ?_); refine goesL_ (some 22) rfl rfl Tryz.func27 (by kernel_rfl) rfl #[.slice Ao17 x8_1.length co17, .agg #[.int .i64 ((rd_T52 l1 x16_1).f0), .bool ((rd_T52 l1 x16_1).f1), .int .u8 ((rd_T52 l1 x16_1).f2), .int .i64 ((rd_T52 l1 x16_1).f3.f0), .int .i64 ((rd_T52 l1 x16_1).f3.f1), .int .u8 ((rd_T52 l1 x16_1).f3.f2), .int .u8 ((rd_T52 l1 x16_1).f3.f3), .int .u8 ((rd_T52 l1 x16_1).f3.f4), .int .u8 ((rd_T52 l1 x16_1).f3.f5)]] rfl (by (try simp only [List.map_toArray, List.map_cons, List.map_nil]); first | done | rfl | (simp only [List.length_drop, List.length_take]; rfl)) ?_; (with_reducible refine (impl_styled.calls (fun k_ => some k_ = (.slice Ao17 x8_1.length co17 : Value).ownBlock) (.slice Ao17 x8_1.length co17) x8_1 ((rd_T52 l1 x16_1).f0) ((rd_T52 l1 x16_1).f1) ((rd_T52 l1 x16_1).f2) ((rd_T52 l1 x16_1).f3.f0) ((rd_T52 l1 x16_1).f3.f1) ((rd_T52 l1 x16_1).f3.f2) ((rd_T52 l1 x16_1).f3.f3) ((rd_T52 l1 x16_1).f3.f4) ((rd_T52 l1 x16_1).f3.f5) t136 w _ ?side1 ?side2 A12.out).mono ?_); (case side1 => repeat (first | (with_reducible first | exact HB.out | apply below_alloc | apply pw_below_drewN | apply below_drew1 | refine below_set ?_ GE135.out) | exact HB.out)); (case side2 => exact Kd.R_tight rfl HO_8.out); rintro e w18 ⟨v137, rfl, ho0, hb, hkp⟩; refine ⟨_, rfl, ?_⟩; have n0_ := Aside0.mk (blk_kept (by (with_reducible repeat (first | refine blk_drewN ?_ _ | refine blk_drew ?_ | refine blk_alloc ?_ _)); exact BK135.out) hkp (fun hs_ => (fun e_ => (Kd.R_ne HO_8.out BK135.out (by decide)) e_) hs_)); have n1_ := Aside0.mk (Kd.R_mono (ok' := fun k_ => True) ho0 (fun k_ hk_ => trivial)); have n2_ := Aside0.mk (hb); clear BK135; clear HB; clear HO_8; have BK135 := n0_; have HO138 := n1_; have HB := n2_; clear n0_ n1_ n2_; (try clear hb); (try clear hkp); (try clear ho0)))
            go_roundg k1
            case measure => have := HK1.out; omega
            case rel => exact ⟨(t136), (wrap64 (x16_1 + 1)), (by first | rfl | (simp; done) | (simp [*]; done)), H', ⟨by have := HK1.out; omega⟩, ⟨by (with_reducible repeat (first | apply Kd.R_alloc | apply Kd.R_drewN | apply Kd.R_drew)); exact HO138.out⟩, ⟨by repeat (first | (with_reducible first | exact HB.out | apply below_alloc | apply pw_below_drewN | apply below_drew1 | refine below_set ?_ GE135.out) | exact HB.out)⟩⟩
          · rw [if_neg c11] at H
            exact absurd H (by simp)
        · rw [if_neg c10] at H
          exact absurd H (by simp)
      · rw [if_neg c9] at H
        have c9b0 : decide (x16_1 < (l1.length : Int)) = false := decide_eq_false c9
        clear c9
        replace H := Option.bind_eq_some_iff.mp H
        obtain ⟨t139, A190, H⟩ := H
        replace H : ((xansi_Style_Styled.f k1 x8_1 a2).bind fun t140 => (some (t139, t140))) = some (r1, r2) := H
        have A19 := Aside0.mk A190
        clear A190
        replace H := Option.bind_eq_some_iff.mp H
        obtain ⟨t140, A200, H⟩ := H
        replace H : (some (t139, t140)) = some (r1, r2) := H
        have A20 := Aside0.mk A200
        clear A200
        simp only [Option.some.injEq, Prod.mk.injEq] at H
        obtain ⟨rfl, rfl⟩ := H
        obtain ⟨Ao21, co21, eo21⟩ := Kd.R_slice HO_8.out
        subst eo21
        go_wp2_with (first | ((with_reducible refine gate_callee (f := 28) rfl ?_); refine goesL_ (some 25) rfl rfl Tryz.func28 (by kernel_rfl) rfl #[.slice Ao21 x8_1.length co21] rfl (by (try simp only [List.map_toArray, List.map_cons, List.map_nil]); first | done | rfl | (simp only [List.length_drop, List.length_take]; rfl)) ?_; (with_reducible refine (xansi_Style_String.calls k1 _ _ x8_1 t139 _ ?side1 ?side2 A19.out).mono ?_); (case side1 => repeat (first | exact (Kd.R_reads' HO_8.out).2.2 | (with_reducible refine Kd.C_alloc ?_ _) | (with_reducible refine Kd.C_drewN ?_ _) | (with_reducible refine Kd.C_drew ?_))); (case side2 => exact (Kd.R_reads' HO_8.out).2.1); rintro e w' ⟨rfl, ⟨nd, rfl⟩⟩; refine ⟨_, rfl, ?_⟩) | ((with_reducible refine gate_callee (f := 29) rfl ?_); refine goesL_ (some 28) rfl rfl Tryz.func29 (by kernel_rfl) rfl #[.slice Ao21 x8_1.length co21, .string a2] rfl (by (try simp only [List.map_toArray, List.map_cons, List.map_nil]); first | done | rfl | (simp only [List.length_drop, List.length_take]; rfl)) ?_; (with_reducible refine (xansi_Style_Styled.calls k1 _ _ x8_1 a2 t140 _ ?side1 ?side2 A20.out).mono ?_); (case side1 => repeat (first | exact (Kd.R_reads' HO_8.out).2.2 | (with_reducible refine Kd.C_alloc ?_ _) | (with_reducible refine Kd.C_drewN ?_ _) | (with_reducible refine Kd.C_drew ?_))); (case side2 => exact (Kd.R_reads' HO_8.out).2.1); rintro e w' ⟨rfl, ⟨nd, rfl⟩⟩; refine ⟨_, rfl, ?_⟩))
        go_ret2
        exact ⟨by first | rfl | (simp [errW_none, errW_some] <;> rfl) | (simp [*, errW_none, errW_some] <;> rfl), by repeat (first | (with_reducible first | exact HB.out | apply below_alloc | apply pw_below_drewN | apply below_drew1) | exact HB.out)⟩

/-! ### laws_styleAwake: function 5 -/
def laws_styleAwake.f (k : Nat)  : Option (Bool) := (impl_StyleRun.f k (([1] : List Int)) (([(⟨4, true, 0, (⟨0, 0, 0, 0, 0, 0⟩ : S50)⟩ : S52)] : List (S52))) (⟨#[120]⟩ : ByteArray)).bind fun bt147 => (if bt147.1.toList = ([27, 91, 49, 59, 51, 109] : List UInt8) then (some (bt147.2.toList == ([27, 91, 49, 59, 51, 109, 120, 27, 91, 109] : List UInt8))) else (some false))
theorem laws_styleAwake.mono : ∀ k, LeO (laws_styleAwake.f k ) (laws_styleAwake.f (k + 1) ) := by
  intro  k
  unfold laws_styleAwake.f
  repeat' first
      | (with_reducible exact impl_StyleRun.mono _ _ _ _)
      | (with_reducible exact LeO.refl _)
      | (with_reducible exact LeO.none _)
      | (with_reducible refine LeO.ite ?_ ?_)
      | (with_reducible refine LeO.bind ?_ (fun _ => ?_))
      | exact impl_StyleRun.mono _ _ _ _
      | exact LeO.none _
      | refine LeO.ite ?_ ?_
      | refine LeO.bind ?_ (fun _ => ?_)
set_option maxHeartbeats 8000000 in
set_option maxRecDepth 100000 in
theorem laws_styleAwake.calls (k : Nat)  (r : Bool) (w : World) (hT : HasTab w) (h : laws_styleAwake.f k  = some r) :
    Calls Tryz.prog 5 #[] w fun e w' => e = .returned (.bool r) ∧ Below w.heap.size w w' := by
  have hu52 := Tryz.underlying52
  have HT := Aside0.mk hT
  clear hT
  have HB := Aside0.mk (Below.refl w.heap.size w)
  have H : ((impl_StyleRun.f k (([1] : List Int)) (([(⟨4, true, 0, (⟨0, 0, 0, 0, 0, 0⟩ : S50)⟩ : S52)] : List (S52))) (⟨#[120]⟩ : ByteArray)).bind fun bt147 => (if bt147.1.toList = ([27, 91, 49, 59, 51, 109] : List UInt8) then (some (bt147.2.toList == ([27, 91, 49, 59, 51, 109, 120, 27, 91, 109] : List UInt8))) else (some false))) = some r := h
  clear h
  obtain ⟨y141, hy141⟩ : ∃ y_ : List Int, y_ = (([1] : List Int)) := ⟨_, rfl⟩
  replace H : ((impl_StyleRun.f k y141 (([(⟨4, true, 0, (⟨0, 0, 0, 0, 0, 0⟩ : S50)⟩ : S52)] : List (S52))) (⟨#[120]⟩ : ByteArray)).bind fun bt147 => (if bt147.1.toList = ([27, 91, 49, 59, 51, 109] : List UInt8) then (some (bt147.2.toList == ([27, 91, 49, 59, 51, 109, 120, 27, 91, 109] : List UInt8))) else (some false))) = some r := by first | (rw [hy141]; with_reducible exact H) | (have H2_ := (Option.bind_some _ _).symm.trans H; rw [hy141]; with_reducible exact H2_) | (have H2_ := (Option.bind_some _ _).symm.trans H; with_reducible exact H2_) | with_reducible exact H | (rw [hy141]; exact H) | exact H
  have Ny141 := Aside0.mk hy141
  clear hy141
  obtain ⟨y144, hy144⟩ : ∃ y_ : List (S52), y_ = (([(⟨4, true, 0, (⟨0, 0, 0, 0, 0, 0⟩ : S50)⟩ : S52)] : List (S52))) := ⟨_, rfl⟩
  replace H : ((impl_StyleRun.f k y141 y144 (⟨#[120]⟩ : ByteArray)).bind fun bt147 => (if bt147.1.toList = ([27, 91, 49, 59, 51, 109] : List UInt8) then (some (bt147.2.toList == ([27, 91, 49, 59, 51, 109, 120, 27, 91, 109] : List UInt8))) else (some false))) = some r := by first | (rw [hy144]; with_reducible exact H) | (have H2_ := (Option.bind_some _ _).symm.trans H; rw [hy144]; with_reducible exact H2_) | (have H2_ := (Option.bind_some _ _).symm.trans H; with_reducible exact H2_) | with_reducible exact H | (rw [hy144]; exact H) | exact H
  have Ny144 := Aside0.mk hy144
  clear hy144
  replace H := Option.bind_eq_some_iff.mp H
  obtain ⟨⟨t147, t148⟩, A10, H⟩ := H
  replace H : (if t147.toList = ([27, 91, 49, 59, 51, 109] : List UInt8) then (some (t148.toList == ([27, 91, 49, 59, 51, 109, 120, 27, 91, 109] : List UInt8))) else (some false)) = some r := H
  have A1 := Aside0.mk A10
  clear A10
  by_cases c2 : t147.toList = ([27, 91, 49, 59, 51, 109] : List UInt8)
  · rw [if_pos c2] at H
    have c2b0 : (t147.toList == ([27, 91, 49, 59, 51, 109] : List UInt8)) = true := beq_iff_eq.mpr c2
    have c2b1 : (t147.toList != ([27, 91, 49, 59, 51, 109] : List UInt8)) = false := bne_eq_false_iff_eq.mpr c2
    clear c2
    obtain rfl := Option.some.inj H
    go_enter Tryz.func5, Tryz.ntmps5
    go_wp2_with (first | ((with_reducible refine gate_dst (N := 4) rfl ?_); refine Kd.R_lit (Kd.int .i64) _ 2 ?hg (N := 4) ?hd (xs := ([1] : List Int)) (inner := [.int .i64 1]) (ok := fun _ => True) (okp := fun _ => True) ?hr ?hp (fun _ hk => hk) trivial (Below.refl _ _) (Nat.le_refl _) (by simp) ?_; (case hd => rfl); (case hg => rfl); (case hr => first | (go_simp; done) | (go_simp; rfl)); (case hp => exact (Reps.one (show Kd.M (Kd.int .i64) _ _ _ 1 [.int .i64 1] from rfl) (Reps.none _ _))); intro v142 w3 ho4 hb hg_ hnew_; clear hg_ hnew_; (first | rw [← Ny141.out] at ho4 | (simp only [Int.reduceToNat] at ho4; rw [← Ny141.out] at ho4)); have n0_ := Aside0.mk (Kd.R_lower ho4 (below_size (by repeat (first | (with_reducible first | exact HB.out | apply below_alloc | apply pw_below_drewN | apply below_drew1) | exact HB.out)))); have n1_ := Aside0.mk (below_step (by repeat (first | (with_reducible first | exact HB.out | apply below_alloc | apply pw_below_drewN | apply below_drew1) | exact HB.out)) hb); clear HB; have HO143 := n0_; have HB := n1_; clear n0_ n1_; clear hb ho4) | ((with_reducible refine gate_dst (N := 6) rfl ?_); refine Kd.R_lit k52 _ 52 ?hg (N := 6) ?hd (xs := ([(⟨4, true, 0, (⟨0, 0, 0, 0, 0, 0⟩ : S50)⟩ : S52)] : List (S52))) (inner := [.int .i64 4, .bool true, .int .u8 0, .int .i64 0, .int .i64 0, .int .u8 0, .int .u8 0, .int .u8 0, .int .u8 0]) (ok := fun _ => True) (okp := fun _ => True) ?hr ?hp (fun _ hk => hk) trivial (Below.refl _ _) (Nat.le_refl _) (by simp) ?_; (case hd => rfl); (case hg => rfl); (case hr => first | (go_simp; done) | (go_simp; rfl)); (case hp => exact (Reps.c9 (show Kd.M k52 _ _ _ (⟨4, true, 0, (⟨0, 0, 0, 0, 0, 0⟩ : S50)⟩ : S52) [.int .i64 4, .bool true, .int .u8 0, .int .i64 0, .int .i64 0, .int .u8 0, .int .u8 0, .int .u8 0, .int .u8 0] from (k52_mkM _ _ _ (⟨4, true, 0, (⟨0, 0, 0, 0, 0, 0⟩ : S50)⟩ : S52) )) (Reps.none _ _))); intro v145 w5 ho6 hb hg_ hnew_; clear hg_ hnew_; (first | rw [← Ny144.out] at ho6 | (simp only [Int.reduceToNat] at ho6; rw [← Ny144.out] at ho6)); have n0_ := Aside0.mk (Kd.R_below (by (with_reducible repeat (first | apply Kd.R_alloc | apply Kd.R_drewN | apply Kd.R_drew)); exact HO143.out) hb); have n1_ := Aside0.mk (Kd.R_lower ho6 (below_size (by repeat (first | (with_reducible first | exact HB.out | apply below_alloc | apply pw_below_drewN | apply below_drew1) | exact HB.out)))); have n2_ := Aside0.mk (below_step (by repeat (first | (with_reducible first | exact HB.out | apply below_alloc | apply pw_below_drewN | apply below_drew1) | exact HB.out)) hb); clear HO143; clear HB; have HO143 := n0_; have HO146 := n1_; have HB := n2_; clear n0_ n1_ n2_; clear hb ho6; obtain ⟨Ao7, co7, eo7⟩ := Kd.R_slice HO143.out; subst eo7; obtain ⟨Ao8, co8, eo8⟩ := Kd.R_slice HO146.out; subst eo8) | ((with_reducible refine gate_callee (f := 9) rfl ?_); refine goesL_ (some 7) rfl rfl Tryz.func9 (by kernel_rfl) rfl #[.slice Ao7 y141.length co7, .slice Ao8 y144.length co8, .string (⟨#[120]⟩ : ByteArray)] rfl (by (try simp only [List.map_toArray, List.map_cons, List.map_nil]); first | done | rfl | (simp only [List.length_drop, List.length_take]; rfl)) ?_; (with_reducible refine (impl_StyleRun.calls k _ _ y141 _ _ y144 (⟨#[120]⟩ : ByteArray) t147 t148 _ ?sideT ?side1 ?side2 ?side3 ?side4 A1.out).mono ?_); (case sideT => exact HasTab.below HT.out (by repeat (first | (with_reducible first | exact HB.out | apply below_alloc | apply pw_below_drewN | apply below_drew1) | exact HB.out))); (case side1 => repeat (first | exact (Kd.R_reads' HO143.out).2.2 | (with_reducible refine Kd.C_alloc ?_ _) | (with_reducible refine Kd.C_drewN ?_ _) | (with_reducible refine Kd.C_drew ?_))); (case side2 => exact (Kd.R_reads' HO143.out).2.1); (case side3 => repeat (first | exact (Kd.R_reads' HO146.out).2.2 | (with_reducible refine Kd.C_alloc ?_ _) | (with_reducible refine Kd.C_drewN ?_ _) | (with_reducible refine Kd.C_drew ?_))); (case side4 => exact (Kd.R_reads' HO146.out).2.1); rintro e w9 ⟨rfl, hb⟩; refine ⟨_, rfl, ?_⟩; have n0_ := Aside0.mk (Kd.R_below (by (with_reducible repeat (first | apply Kd.R_alloc | apply Kd.R_drewN | apply Kd.R_drew)); exact HO143.out) hb); have n1_ := Aside0.mk (Kd.R_below (by (with_reducible repeat (first | apply Kd.R_alloc | apply Kd.R_drewN | apply Kd.R_drew)); exact HO146.out) hb); have n2_ := Aside0.mk (below_step (by repeat (first | (with_reducible first | exact HB.out | apply below_alloc | apply pw_below_drewN | apply below_drew1) | exact HB.out)) hb); clear HO143; clear HO146; clear HB; have HO143 := n0_; have HO146 := n1_; have HB := n2_; clear n0_ n1_ n2_; (try clear hb); (try clear hb2); (try clear hk); (try clear hi)))
    go_ret
    exact ⟨by first | rfl | (simp [errW_none, errW_some] <;> rfl) | (simp [*, errW_none, errW_some] <;> rfl), by repeat (first | (with_reducible first | exact HB.out | apply below_alloc | apply pw_below_drewN | apply below_drew1) | exact HB.out)⟩
  · rw [if_neg c2] at H
    have c2b0 : (t147.toList == ([27, 91, 49, 59, 51, 109] : List UInt8)) = false := beq_eq_false_iff_ne.mpr c2
    have c2b1 : (t147.toList != ([27, 91, 49, 59, 51, 109] : List UInt8)) = true := bne_iff_ne.mpr c2
    obtain rfl := Option.some.inj H
    go_enter Tryz.func5, Tryz.ntmps5
    go_wp2_with (first | ((with_reducible refine gate_dst (N := 4) rfl ?_); refine Kd.R_lit (Kd.int .i64) _ 2 ?hg (N := 4) ?hd (xs := ([1] : List Int)) (inner := [.int .i64 1]) (ok := fun _ => True) (okp := fun _ => True) ?hr ?hp (fun _ hk => hk) trivial (Below.refl _ _) (Nat.le_refl _) (by simp) ?_; (case hd => rfl); (case hg => rfl); (case hr => first | (go_simp; done) | (go_simp; rfl)); (case hp => exact (Reps.one (show Kd.M (Kd.int .i64) _ _ _ 1 [.int .i64 1] from rfl) (Reps.none _ _))); intro v142 w10 ho11 hb hg_ hnew_; clear hg_ hnew_; (first | rw [← Ny141.out] at ho11 | (simp only [Int.reduceToNat] at ho11; rw [← Ny141.out] at ho11)); have n0_ := Aside0.mk (Kd.R_lower ho11 (below_size (by repeat (first | (with_reducible first | exact HB.out | apply below_alloc | apply pw_below_drewN | apply below_drew1) | exact HB.out)))); have n1_ := Aside0.mk (below_step (by repeat (first | (with_reducible first | exact HB.out | apply below_alloc | apply pw_below_drewN | apply below_drew1) | exact HB.out)) hb); clear HB; have HO143 := n0_; have HB := n1_; clear n0_ n1_; clear hb ho11) | ((with_reducible refine gate_dst (N := 6) rfl ?_); refine Kd.R_lit k52 _ 52 ?hg (N := 6) ?hd (xs := ([(⟨4, true, 0, (⟨0, 0, 0, 0, 0, 0⟩ : S50)⟩ : S52)] : List (S52))) (inner := [.int .i64 4, .bool true, .int .u8 0, .int .i64 0, .int .i64 0, .int .u8 0, .int .u8 0, .int .u8 0, .int .u8 0]) (ok := fun _ => True) (okp := fun _ => True) ?hr ?hp (fun _ hk => hk) trivial (Below.refl _ _) (Nat.le_refl _) (by simp) ?_; (case hd => rfl); (case hg => rfl); (case hr => first | (go_simp; done) | (go_simp; rfl)); (case hp => exact (Reps.c9 (show Kd.M k52 _ _ _ (⟨4, true, 0, (⟨0, 0, 0, 0, 0, 0⟩ : S50)⟩ : S52) [.int .i64 4, .bool true, .int .u8 0, .int .i64 0, .int .i64 0, .int .u8 0, .int .u8 0, .int .u8 0, .int .u8 0] from (k52_mkM _ _ _ (⟨4, true, 0, (⟨0, 0, 0, 0, 0, 0⟩ : S50)⟩ : S52) )) (Reps.none _ _))); intro v145 w12 ho13 hb hg_ hnew_; clear hg_ hnew_; (first | rw [← Ny144.out] at ho13 | (simp only [Int.reduceToNat] at ho13; rw [← Ny144.out] at ho13)); have n0_ := Aside0.mk (Kd.R_below (by (with_reducible repeat (first | apply Kd.R_alloc | apply Kd.R_drewN | apply Kd.R_drew)); exact HO143.out) hb); have n1_ := Aside0.mk (Kd.R_lower ho13 (below_size (by repeat (first | (with_reducible first | exact HB.out | apply below_alloc | apply pw_below_drewN | apply below_drew1) | exact HB.out)))); have n2_ := Aside0.mk (below_step (by repeat (first | (with_reducible first | exact HB.out | apply below_alloc | apply pw_below_drewN | apply below_drew1) | exact HB.out)) hb); clear HO143; clear HB; have HO143 := n0_; have HO146 := n1_; have HB := n2_; clear n0_ n1_ n2_; clear hb ho13; obtain ⟨Ao14, co14, eo14⟩ := Kd.R_slice HO143.out; subst eo14; obtain ⟨Ao15, co15, eo15⟩ := Kd.R_slice HO146.out; subst eo15) | ((with_reducible refine gate_callee (f := 9) rfl ?_); refine goesL_ (some 7) rfl rfl Tryz.func9 (by kernel_rfl) rfl #[.slice Ao14 y141.length co14, .slice Ao15 y144.length co15, .string (⟨#[120]⟩ : ByteArray)] rfl (by (try simp only [List.map_toArray, List.map_cons, List.map_nil]); first | done | rfl | (simp only [List.length_drop, List.length_take]; rfl)) ?_; (with_reducible refine (impl_StyleRun.calls k _ _ y141 _ _ y144 (⟨#[120]⟩ : ByteArray) t147 t148 _ ?sideT ?side1 ?side2 ?side3 ?side4 A1.out).mono ?_); (case sideT => exact HasTab.below HT.out (by repeat (first | (with_reducible first | exact HB.out | apply below_alloc | apply pw_below_drewN | apply below_drew1) | exact HB.out))); (case side1 => repeat (first | exact (Kd.R_reads' HO143.out).2.2 | (with_reducible refine Kd.C_alloc ?_ _) | (with_reducible refine Kd.C_drewN ?_ _) | (with_reducible refine Kd.C_drew ?_))); (case side2 => exact (Kd.R_reads' HO143.out).2.1); (case side3 => repeat (first | exact (Kd.R_reads' HO146.out).2.2 | (with_reducible refine Kd.C_alloc ?_ _) | (with_reducible refine Kd.C_drewN ?_ _) | (with_reducible refine Kd.C_drew ?_))); (case side4 => exact (Kd.R_reads' HO146.out).2.1); rintro e w16 ⟨rfl, hb⟩; refine ⟨_, rfl, ?_⟩; have n0_ := Aside0.mk (Kd.R_below (by (with_reducible repeat (first | apply Kd.R_alloc | apply Kd.R_drewN | apply Kd.R_drew)); exact HO143.out) hb); have n1_ := Aside0.mk (Kd.R_below (by (with_reducible repeat (first | apply Kd.R_alloc | apply Kd.R_drewN | apply Kd.R_drew)); exact HO146.out) hb); have n2_ := Aside0.mk (below_step (by repeat (first | (with_reducible first | exact HB.out | apply below_alloc | apply pw_below_drewN | apply below_drew1) | exact HB.out)) hb); clear HO143; clear HO146; clear HB; have HO143 := n0_; have HO146 := n1_; have HB := n2_; clear n0_ n1_ n2_; (try clear hb); (try clear hb2); (try clear hk); (try clear hi)))
    go_ret
    exact ⟨by first | rfl | (simp [errW_none, errW_some] <;> rfl) | (simp [*, errW_none, errW_some] <;> rfl), by repeat (first | (with_reducible first | exact HB.out | apply below_alloc | apply pw_below_drewN | apply below_drew1) | exact HB.out)⟩

/-! ### spec_within: function 38 -/
def spec_within.f (a0 : Int) (a1 : Int) (a2 : Int) : Option (Bool) := if a1 ≤ a0 then (some (decide (a0 ≤ a2))) else (some false)
set_option maxHeartbeats 8000000 in
set_option maxRecDepth 100000 in
theorem spec_within.calls (a0 : Int) (a1 : Int) (a2 : Int) (r : Bool) (w : World) (h : spec_within.f a0 a1 a2 = some r) :
    Calls Tryz.prog 38 #[.int .u8 a0, .int .u8 a1, .int .u8 a2] w fun e w' => e = .returned (.bool r) ∧ Drawn0 w w' := by
  have H : (if a1 ≤ a0 then (some (decide (a0 ≤ a2))) else (some false)) = some r := h
  clear h
  by_cases c4 : a1 ≤ a0
  · rw [if_pos c4] at H
    have c4b0 : decide (a1 ≤ a0) = true := decide_eq_true c4
    clear c4
    obtain rfl := Option.some.inj H
    go_enter Tryz.func38, Tryz.ntmps38
    go_wp2
    go_ret
    exact ⟨by first | rfl | (simp; done) | (simp [*]; done), by repeat (first | exact Drawn0.refl _ | apply Drawn0.step)⟩
  · rw [if_neg c4] at H
    have c4b0 : decide (a1 ≤ a0) = false := decide_eq_false c4
    clear c4
    obtain rfl := Option.some.inj H
    go_enter Tryz.func38, Tryz.ntmps38
    go_wp2
    go_ret
    exact ⟨by first | rfl | (simp; done) | (simp [*]; done), by repeat (first | exact Drawn0.refl _ | apply Drawn0.step)⟩

-- NOT PRINTED: function 36 (spec_readParameters)

-- NOT PRINTED: function 37 (spec_readString)

-- NOT PRINTED: function 13 (spec_ReadSequence)

-- NOT PRINTED: function 14 (spec_IsSequence)

-- NOT PRINTED: function 6 (spec_Sequences)

end Go.Proofs.YtjdpkhnpgdangaaGreatDoor.PQ
