/- Contracts of functions that the law FnStyledFed reaches (read and made memory as stated), for this claim alone; no condition but those stated. -/
import Derived.Test.YtjdpkhnpgdangaaGreatDoorPQx0
namespace Go.Proofs.YtjdpkhnpgdangaaGreatDoor.PQ
open Go.RowKit Go.Proofs.YtjdpkhnpgdangaaGreatDoorW.PrintWords Go.Proofs.YtjdpkhnpgdangaaGreatDoorW.PrintLast Go.Proofs.YtjdpkhnpgdangaaGreatDoorW.PrintMore
attribute [local go_sem] max2_int min2_int max_two min_two max_three min_three max_four min_four   -- for this text's walks alone
set_option linter.unusedVariables false
set_option linter.unusedSimpArgs false

/-! ### spec_Digits: function 39 -/
def spec_Digits.f : Nat → Int → Option (ByteArray)
  | 0, _ => none
  | k + 1, a0 => if a0 < 0 then (none) else (if a0 < 10 then (some (strOfNums (([(wrap64 (48 + a0)) % 256] : List Int)))) else ((spec_Digits.f k (wrap64 (Int.tdiv a0 10))).bind fun t116 => ((spec_Digits.f k (Int.tmod a0 10)).bind fun t117 => (if t116.size + t117.size ≤ 9223372036854775807 then (some (t116 ++ t117)) else (none)))))
theorem spec_Digits.mono_l : ∀ k, (∀ y0, LeO (spec_Digits.f k y0) (spec_Digits.f (k + 1) y0))
  | 0 => fun _ r h => by simp [spec_Digits.f] at h
  | k + 1 => by
    have ih0 := spec_Digits.mono_l k
    · intro y0
      unfold spec_Digits.f
      repeat' first
      | (with_reducible exact ih0 _)
      | (with_reducible exact LeO.refl _)
      | (with_reducible exact LeO.none _)
      | (with_reducible refine LeO.ite ?_ ?_)
      | (with_reducible refine LeO.bind ?_ (fun _ => ?_))
      | exact ih0 _
      | exact LeO.none _
      | refine LeO.ite ?_ ?_
      | refine LeO.bind ?_ (fun _ => ?_)
theorem spec_Digits.mono : ∀ a0 k, LeO (spec_Digits.f k a0) (spec_Digits.f (k + 1) a0) := by
  intro a0 k
  have ih0 := spec_Digits.mono_l k
  exact ih0 a0
set_option maxHeartbeats 8000000 in
set_option maxRecDepth 100000 in
theorem spec_Digits.calls (k : Nat) : ∀ (a0 : Int) (r : ByteArray) (w : World) (h : spec_Digits.f k a0 = some r),
    Calls Tryz.prog 39 #[.int .i64 a0] w fun e w' => e = .returned (.string r) ∧ Below w.heap.size w w' := by
  induction k using Nat.strongRecOn with
  | _ k ih =>
  intro a0 r w h
  cases k with
  | zero => exact absurd h (by simp [spec_Digits.f])
  | succ k =>
  simp only [spec_Digits.f] at h
  have HB := Aside0.mk (Below.refl w.heap.size w)
  have H : (if a0 < 0 then (none) else (if a0 < 10 then (some (strOfNums (([(wrap64 (48 + a0)) % 256] : List Int)))) else ((spec_Digits.f k (wrap64 (Int.tdiv a0 10))).bind fun t116 => ((spec_Digits.f k (Int.tmod a0 10)).bind fun t117 => (if t116.size + t117.size ≤ 9223372036854775807 then (some (t116 ++ t117)) else (none)))))) = some r := h
  clear h
  by_cases c2 : a0 < 0
  · rw [if_pos c2] at H
    exact absurd H (by simp)
  · rw [if_neg c2] at H
    have c2b0 : decide (a0 < 0) = false := decide_eq_false c2
    clear c2
    by_cases c3 : a0 < 10
    · rw [if_pos c3] at H
      have c3b0 : decide (a0 < 10) = true := decide_eq_true c3
      clear c3
      obtain ⟨y113, hy113⟩ : ∃ y_ : List Int, y_ = (([(wrap64 (48 + a0)) % 256] : List Int)) := ⟨_, rfl⟩
      replace H : (some (strOfNums y113)) = some r := by first | (rw [hy113]; with_reducible exact H) | (have H2_ := (Option.bind_some _ _).symm.trans H; rw [hy113]; with_reducible exact H2_) | (have H2_ := (Option.bind_some _ _).symm.trans H; with_reducible exact H2_) | with_reducible exact H | (rw [hy113]; exact H) | exact H
      have Ny113 := Aside0.mk hy113
      clear hy113
      obtain rfl := Option.some.inj H
      go_enter Tryz.func39, Tryz.ntmps39
      go_wp2_with (first | ((with_reducible refine gate_dst (N := 16) rfl ?_); refine Kd.R_lit (Kd.int .u8) _ 5 ?hg (N := 16) ?hd (xs := ([(wrap64 (48 + a0)) % 256] : List Int)) (inner := [.int .u8 ((wrap64 (48 + a0)) % 256)]) (ok := fun _ => True) (okp := fun _ => True) ?hr ?hp (fun _ hk => hk) trivial (Below.refl _ _) (Nat.le_refl _) (by simp) ?_; (case hd => rfl); (case hg => rfl); (case hr => first | (go_simp; done) | (go_simp; rfl)); (case hp => exact (Reps.one (show Kd.M (Kd.int .u8) _ _ _ ((wrap64 (48 + a0)) % 256) [.int .u8 ((wrap64 (48 + a0)) % 256)] from rfl) (Reps.none _ _))); intro v114 w4 ho5 hb hg_ hnew_; clear hg_ hnew_; (first | rw [← Ny113.out] at ho5 | (simp only [Int.reduceToNat] at ho5; rw [← Ny113.out] at ho5)); have n0_ := Aside0.mk (Kd.R_lower ho5 (below_size (by repeat (first | (with_reducible first | exact HB.out | apply below_alloc | apply pw_below_drewN | apply below_drew1) | exact HB.out)))); have n1_ := Aside0.mk (below_step (by repeat (first | (with_reducible first | exact HB.out | apply below_alloc | apply pw_below_drewN | apply below_drew1) | exact HB.out)) hb); clear HB; have HO115 := n0_; have HB := n1_; clear n0_ n1_; clear hb ho5; have hcv6 := own_string (P := Tryz.prog) Tryz.underlying35 Tryz.underlying5 Tryz.underlying9 (Kd.own_of_R HO115.out)))
      go_ret
      exact ⟨by first | rfl | (simp [errW_none, errW_some] <;> rfl) | (simp [*, errW_none, errW_some] <;> rfl), by repeat (first | (with_reducible first | exact HB.out | apply below_alloc | apply pw_below_drewN | apply below_drew1) | exact HB.out)⟩
    · rw [if_neg c3] at H
      have c3b0 : decide (a0 < 10) = false := decide_eq_false c3
      clear c3
      replace H := Option.bind_eq_some_iff.mp H
      obtain ⟨t116, A70, H⟩ := H
      replace H : ((spec_Digits.f k (Int.tmod a0 10)).bind fun t117 => (if t116.size + t117.size ≤ 9223372036854775807 then (some (t116 ++ t117)) else (none))) = some r := H
      have A7 := Aside0.mk A70
      clear A70
      replace H := Option.bind_eq_some_iff.mp H
      obtain ⟨t117, A80, H⟩ := H
      replace H : (if t116.size + t117.size ≤ 9223372036854775807 then (some (t116 ++ t117)) else (none)) = some r := H
      have A8 := Aside0.mk A80
      clear A80
      by_cases c9 : t116.size + t117.size ≤ 9223372036854775807
      · rw [if_pos c9] at H
        have c9b0 := eq_true c9
        have c9b1 : decide (t116.size + t117.size ≤ 9223372036854775807) = true := decide_eq_true c9
        try have c9b2 : (9223372036854775807 < t116.size + t117.size) = False := eq_false (Nat.not_lt.2 c9)
        obtain rfl := Option.some.inj H
        go_enter Tryz.func39, Tryz.ntmps39
        go_wp2_with (first | ((with_reducible refine gate_callee (f := 39) rfl ?_); refine goesL_ (some 20) rfl rfl Tryz.func39 (by kernel_rfl) rfl #[.int .i64 (wrap64 (Int.tdiv a0 10))] rfl (by (try simp only [List.map_toArray, List.map_cons, List.map_nil]); first | done | rfl | (simp only [List.length_drop, List.length_take]; rfl)) ?_; (with_reducible refine (ih k (by omega) (wrap64 (Int.tdiv a0 10)) t116 _ A7.out).mono ?_); rintro e w10 ⟨rfl, hb⟩; refine ⟨_, rfl, ?_⟩; have n0_ := Aside0.mk (below_step (by repeat (first | (with_reducible first | exact HB.out | apply below_alloc | apply pw_below_drewN | apply below_drew1) | exact HB.out)) hb); clear HB; have HB := n0_; clear n0_; (try clear hb); (try clear hb2); (try clear hk); (try clear hi)) | ((with_reducible refine gate_callee (f := 39) rfl ?_); refine goesL_ (some 23) rfl rfl Tryz.func39 (by kernel_rfl) rfl #[.int .i64 (Int.tmod a0 10)] rfl (by (try simp only [List.map_toArray, List.map_cons, List.map_nil]); first | done | rfl | (simp only [List.length_drop, List.length_take]; rfl)) ?_; (with_reducible refine (ih k (by omega) (Int.tmod a0 10) t117 _ A8.out).mono ?_); rintro e w11 ⟨rfl, hb⟩; refine ⟨_, rfl, ?_⟩; have n0_ := Aside0.mk (below_step (by repeat (first | (with_reducible first | exact HB.out | apply below_alloc | apply pw_below_drewN | apply below_drew1) | exact HB.out)) hb); clear HB; have HB := n0_; clear n0_; (try clear hb); (try clear hb2); (try clear hk); (try clear hi)))
        go_ret
        exact ⟨by first | rfl | (simp [errW_none, errW_some] <;> rfl) | (simp [*, errW_none, errW_some] <;> rfl), by repeat (first | (with_reducible first | exact HB.out | apply below_alloc | apply pw_below_drewN | apply below_drew1) | exact HB.out)⟩
      · rw [if_neg c9] at H
        exact absurd H (by simp)

/-! ### spec_madeJoined: function 45 -/
def spec_madeJoined.l0 : Nat → ByteArray → ByteArray → List ByteArray → Int → Int → Option (ByteArray)
  | 0, _, _, _, _, _ => none
  | k + 1, x1, x5, x8, x9, x10 => if x10 < x9 then (if 0 ≤ x10 then (if x10 < (x8.length : Int) then (if x10 > 0 then (if x5.size + x1.size ≤ 9223372036854775807 then (if (x5 ++ x1).size + (rdOf ByteArray.empty x8 x10).size ≤ 9223372036854775807 then (spec_madeJoined.l0 k x1 ((x5 ++ x1) ++ (rdOf ByteArray.empty x8 x10)) x8 x9 (wrap64 (x10 + 1))) else (none)) else (none)) else (if x5.size + (rdOf ByteArray.empty x8 x10).size ≤ 9223372036854775807 then (spec_madeJoined.l0 k x1 (x5 ++ (rdOf ByteArray.empty x8 x10)) x8 x9 (wrap64 (x10 + 1))) else (none))) else (none)) else (none)) else (some x5)
def spec_madeJoined.f (k : Nat) (l0 : List ByteArray) (a1 : ByteArray) : Option (ByteArray) := spec_madeJoined.l0 k a1 (⟨#[]⟩ : ByteArray) l0 (l0.length : Int) 0
theorem spec_madeJoined.mono_l : ∀ k, (∀ y0 y1 y2 y3 y4, LeO (spec_madeJoined.l0 k y0 y1 y2 y3 y4) (spec_madeJoined.l0 (k + 1) y0 y1 y2 y3 y4))
  | 0 => fun _ _ _ _ _ r h => by simp [spec_madeJoined.l0] at h
  | k + 1 => by
    have ih0 := spec_madeJoined.mono_l k
    · intro y0 y1 y2 y3 y4
      unfold spec_madeJoined.l0
      repeat' first
      | (with_reducible exact ih0 _ _ _ _ _)
      | (with_reducible exact LeO.refl _)
      | (with_reducible exact LeO.none _)
      | (with_reducible refine LeO.ite ?_ ?_)
      | (with_reducible refine LeO.bind ?_ (fun _ => ?_))
      | exact ih0 _ _ _ _ _
      | exact LeO.none _
      | refine LeO.ite ?_ ?_
      | refine LeO.bind ?_ (fun _ => ?_)
theorem spec_madeJoined.mono : ∀ a0 a1 k, LeO (spec_madeJoined.f k a0 a1) (spec_madeJoined.f (k + 1) a0 a1) := by
  intro a0 a1 k
  have ih0 := spec_madeJoined.mono_l k
  unfold spec_madeJoined.f
  repeat' first
      | (with_reducible exact ih0 _ _ _ _ _)
      | (with_reducible exact LeO.refl _)
      | (with_reducible exact LeO.none _)
      | (with_reducible refine LeO.ite ?_ ?_)
      | (with_reducible refine LeO.bind ?_ (fun _ => ?_))
      | exact ih0 _ _ _ _ _
      | exact LeO.none _
      | refine LeO.ite ?_ ?_
      | refine LeO.bind ?_ (fun _ => ?_)
set_option maxHeartbeats 8000000 in
set_option maxRecDepth 100000 in
theorem spec_madeJoined.calls (k : Nat) (A0 : Option Addr) (c0 : Nat) (l0 : List ByteArray) (a1 : ByteArray) (r : ByteArray) (w : World) (hr0 : Kd.C Kd.string w A0 l0.length l0) (hc0 : l0.length ≤ c0) (h : spec_madeJoined.f k l0 a1 = some r) :
    Calls Tryz.prog 45 #[.slice A0 l0.length c0, .string a1] w fun e w' => e = .returned (.string r) ∧ Drawn0 w w' := by
  have HR0 := Aside0.mk hr0
  have HC0 := Aside0.mk hc0
  clear hr0 hc0
  have H : (spec_madeJoined.l0 k a1 (⟨#[]⟩ : ByteArray) l0 (l0.length : Int) 0) = some r := h
  clear h
  have H' := Aside0.mk H
  clear H
  go_enter Tryz.func45, Tryz.ntmps45
  go_wp2
  go_loopg [5, 10] k (fun kq v5 v10 w' => ∃ (x5_1 : ByteArray) (x10_1 : Int), v5 = .string x5_1 ∧ v10 = .int .i64 x10_1 ∧ Aside0 (spec_madeJoined.l0 kq a1 x5_1 l0 (l0.length : Int) x10_1 = some r) ∧ Aside0 (kq ≤ k) ∧ Drawn0 w w')
  case atStart => exact ⟨((⟨#[]⟩ : ByteArray)), (0), (by first | rfl | (simp; done) | (simp [*]; done)), (by first | rfl | (simp; done) | (simp [*]; done)), H', ⟨Nat.le_refl _⟩, by repeat (first | exact Drawn0.refl _ | apply Drawn0.step)⟩
  case round =>
    clear H'
    try clear p2
    obtain ⟨x5_1, x10_1, rfl, rfl, HA, HK1, ⟨m1, rfl⟩⟩ := hrel
    cases gk with
    | zero => exact absurd HA.out (by simp [spec_madeJoined.l0])
    | succ k1 =>
      have H := HA.out
      clear HA
      simp only [spec_madeJoined.l0] at H
      by_cases c3 : x10_1 < (l0.length : Int)
      · rw [if_pos c3] at H
        have c3b0 : decide (x10_1 < (l0.length : Int)) = true := decide_eq_true c3
        clear c3
        by_cases c4 : 0 ≤ x10_1
        · rw [if_pos c4] at H
          have c4b0 : decide (0 ≤ x10_1) = true := decide_eq_true c4
          clear c4
          by_cases c5 : x10_1 < (l0.length : Int)
          · rw [if_pos c5] at H
            have c5b0 : decide (x10_1 < (l0.length : Int)) = true := decide_eq_true c5
            clear c5
            by_cases c6 : x10_1 > 0
            · rw [if_pos c6] at H
              have c6b0 : decide (0 < x10_1) = true := decide_eq_true c6
              clear c6
              by_cases c7 : x5_1.size + a1.size ≤ 9223372036854775807
              · rw [if_pos c7] at H
                have c7b0 := eq_true c7
                have c7b1 : decide (x5_1.size + a1.size ≤ 9223372036854775807) = true := decide_eq_true c7
                try have c7b2 : (9223372036854775807 < x5_1.size + a1.size) = False := eq_false (Nat.not_lt.2 c7)
                by_cases c8 : (x5_1 ++ a1).size + (rdOf ByteArray.empty l0 x10_1).size ≤ 9223372036854775807
                · rw [if_pos c8] at H
                  have c8b0 := eq_true c8
                  have c8b1 : decide ((x5_1 ++ a1).size + (rdOf ByteArray.empty l0 x10_1).size ≤ 9223372036854775807) = true := decide_eq_true c8
                  try have c8b2 : (9223372036854775807 < (x5_1 ++ a1).size + (rdOf ByteArray.empty l0 x10_1).size) = False := eq_false (Nat.not_lt.2 c8)
                  have H' := Aside0.mk H
                  clear H
                  have p155 : 0 ≤ (x10_1 : Int) := of_decide_eq_true (by first | (with_reducible assumption) | assumption)
                  have q155 : x10_1 < (l0.length : Int) := of_decide_eq_true (by first | (with_reducible assumption) | assumption)
                  obtain ⟨ad155, e155, hx155_0⟩ := Kd.at_string HR0.out x10_1 p155 q155
                  cases e155
                  replace p155 := eq_true p155
                  replace q155 := eq_true q155
                  go_wp2
                  go_roundg k1
                  case measure => have := HK1.out; omega
                  case rel => exact ⟨((x5_1 ++ a1) ++ (rdOf ByteArray.empty l0 x10_1)), (wrap64 (x10_1 + 1)), (by first | rfl | (simp; done) | (simp [*]; done)), (by first | rfl | (simp; done) | (simp [*]; done)), H', ⟨by have := HK1.out; omega⟩, by repeat (first | exact Drawn0.refl _ | apply Drawn0.step)⟩
                · rw [if_neg c8] at H
                  exact absurd H (by simp)
              · rw [if_neg c7] at H
                exact absurd H (by simp)
            · rw [if_neg c6] at H
              have c6b0 : decide (0 < x10_1) = false := decide_eq_false c6
              clear c6
              by_cases c9 : x5_1.size + (rdOf ByteArray.empty l0 x10_1).size ≤ 9223372036854775807
              · rw [if_pos c9] at H
                have c9b0 := eq_true c9
                have c9b1 : decide (x5_1.size + (rdOf ByteArray.empty l0 x10_1).size ≤ 9223372036854775807) = true := decide_eq_true c9
                try have c9b2 : (9223372036854775807 < x5_1.size + (rdOf ByteArray.empty l0 x10_1).size) = False := eq_false (Nat.not_lt.2 c9)
                have H' := Aside0.mk H
                clear H
                have p155 : 0 ≤ (x10_1 : Int) := of_decide_eq_true (by first | (with_reducible assumption) | assumption)
                have q155 : x10_1 < (l0.length : Int) := of_decide_eq_true (by first | (with_reducible assumption) | assumption)
                obtain ⟨ad155, e155, hx155_0⟩ := Kd.at_string HR0.out x10_1 p155 q155
                cases e155
                replace p155 := eq_true p155
                replace q155 := eq_true q155
                go_wp2
                go_roundg k1
                case measure => have := HK1.out; omega
                case rel => exact ⟨(x5_1 ++ (rdOf ByteArray.empty l0 x10_1)), (wrap64 (x10_1 + 1)), (by first | rfl | (simp; done) | (simp [*]; done)), (by first | rfl | (simp; done) | (simp [*]; done)), H', ⟨by have := HK1.out; omega⟩, by repeat (first | exact Drawn0.refl _ | apply Drawn0.step)⟩
              · rw [if_neg c9] at H
                exact absurd H (by simp)
          · rw [if_neg c5] at H
            exact absurd H (by simp)
        · rw [if_neg c4] at H
          exact absurd H (by simp)
      · rw [if_neg c3] at H
        have c3b0 : decide (x10_1 < (l0.length : Int)) = false := decide_eq_false c3
        clear c3
        obtain rfl := Option.some.inj H
        go_wp2
        go_ret
        exact ⟨by first | rfl | (simp; done) | (simp [*]; done), by repeat (first | exact Drawn0.refl _ | apply Drawn0.step)⟩

/-! ### spec_StyleText: function 21 -/
def spec_StyleText.f (k : Nat) (l0 : List ByteArray) : Option (ByteArray) := (spec_madeJoined.f k l0 (⟨#[59]⟩ : ByteArray)).bind fun t156 => (if 2 + t156.size ≤ 9223372036854775807 then (if ((⟨#[27, 91]⟩ : ByteArray) ++ t156).size + 1 ≤ 9223372036854775807 then (some (((⟨#[27, 91]⟩ : ByteArray) ++ t156) ++ (⟨#[109]⟩ : ByteArray))) else (none)) else (none))
theorem spec_StyleText.mono : ∀ a0 k, LeO (spec_StyleText.f k a0) (spec_StyleText.f (k + 1) a0) := by
  intro a0 k
  unfold spec_StyleText.f
  repeat' first
      | (with_reducible exact spec_madeJoined.mono _ _ _)
      | (with_reducible exact LeO.refl _)
      | (with_reducible exact LeO.none _)
      | (with_reducible refine LeO.ite ?_ ?_)
      | (with_reducible refine LeO.bind ?_ (fun _ => ?_))
      | exact spec_madeJoined.mono _ _ _
      | exact LeO.none _
      | refine LeO.ite ?_ ?_
      | refine LeO.bind ?_ (fun _ => ?_)
set_option maxHeartbeats 8000000 in
set_option maxRecDepth 100000 in
theorem spec_StyleText.calls (k : Nat) (A0 : Option Addr) (c0 : Nat) (l0 : List ByteArray) (r : ByteArray) (w : World) (hr0 : Kd.C Kd.string w A0 l0.length l0) (hc0 : l0.length ≤ c0) (h : spec_StyleText.f k l0 = some r) :
    Calls Tryz.prog 21 #[.slice A0 l0.length c0] w fun e w' => e = .returned (.string r) ∧ Drawn0 w w' := by
  have HR0 := Aside0.mk hr0
  have HC0 := Aside0.mk hc0
  clear hr0 hc0
  have H : ((spec_madeJoined.f k l0 (⟨#[59]⟩ : ByteArray)).bind fun t156 => (if 2 + t156.size ≤ 9223372036854775807 then (if ((⟨#[27, 91]⟩ : ByteArray) ++ t156).size + 1 ≤ 9223372036854775807 then (some (((⟨#[27, 91]⟩ : ByteArray) ++ t156) ++ (⟨#[109]⟩ : ByteArray))) else (none)) else (none))) = some r := h
  clear h
  replace H := Option.bind_eq_some_iff.mp H
  obtain ⟨t156, A20, H⟩ := H
  replace H : (if 2 + t156.size ≤ 9223372036854775807 then (if ((⟨#[27, 91]⟩ : ByteArray) ++ t156).size + 1 ≤ 9223372036854775807 then (some (((⟨#[27, 91]⟩ : ByteArray) ++ t156) ++ (⟨#[109]⟩ : ByteArray))) else (none)) else (none)) = some r := H
  have A2 := Aside0.mk A20
  clear A20
  by_cases c3 : 2 + t156.size ≤ 9223372036854775807
  · rw [if_pos c3] at H
    have c3b0 := eq_true c3
    have c3b1 : decide (2 + t156.size ≤ 9223372036854775807) = true := decide_eq_true c3
    try have c3b2 : (9223372036854775807 < 2 + t156.size) = False := eq_false (Nat.not_lt.2 c3)
    by_cases c4 : ((⟨#[27, 91]⟩ : ByteArray) ++ t156).size + 1 ≤ 9223372036854775807
    · rw [if_pos c4] at H
      have c4b0 := eq_true c4
      have c4b1 : decide (((⟨#[27, 91]⟩ : ByteArray) ++ t156).size + 1 ≤ 9223372036854775807) = true := decide_eq_true c4
      try have c4b2 : (9223372036854775807 < ((⟨#[27, 91]⟩ : ByteArray) ++ t156).size + 1) = False := eq_false (Nat.not_lt.2 c4)
      have c4b3 : (9223372036854775807 < 2 + t156.size + 1) = False := eq_false (by have h_ := c4; rw [ByteArray.size_append] at h_; have e_ : (⟨#[27, 91]⟩ : ByteArray).size = 2 := rfl; omega)
      obtain rfl := Option.some.inj H
      go_enter Tryz.func21, Tryz.ntmps21
      go_wp2_with (first | ((with_reducible refine gate_callee (f := 45) rfl ?_); refine goesL_ (some 4) rfl rfl Tryz.func45 (by kernel_rfl) rfl #[.slice A0 l0.length c0, .string (⟨#[59]⟩ : ByteArray)] rfl (by (try simp only [List.map_toArray, List.map_cons, List.map_nil]); first | done | rfl | (simp only [List.length_drop, List.length_take]; rfl)) ?_; (with_reducible refine (spec_madeJoined.calls k _ _ l0 (⟨#[59]⟩ : ByteArray) t156 _ ?side1 ?side2 A2.out).mono ?_); (case side1 => repeat (first | exact HR0.out | (with_reducible refine Kd.C_alloc ?_ _) | (with_reducible refine Kd.C_drewN ?_ _) | (with_reducible refine Kd.C_drew ?_))); (case side2 => exact HC0.out); rintro e w' ⟨rfl, ⟨nd, rfl⟩⟩; refine ⟨_, rfl, ?_⟩))
      go_ret
      exact ⟨by first | rfl | (simp; done) | (simp [*]; done), by repeat (first | exact Drawn0.refl _ | apply Drawn0.step)⟩
    · rw [if_neg c4] at H
      exact absurd H (by simp)
  · rw [if_neg c3] at H
    exact absurd H (by simp)

/-! ### spec_StyleParts: function 22 -/
mutual
def spec_StyleParts.l0 : Nat → List (S104) → List ByteArray → List Int → Int → Int → Option (List ByteArray)
  | 0, _, _, _, _, _ => none
  | k + 1, x1, x5, x11, x12, x13 => if x13 < x12 then (if 0 ≤ x13 then (if x13 < (x11.length : Int) then ((spec_Digits.f k (mx (rd x11 x13) 0)).bind fun t158 => (if x5.length < 8796093022208 then (spec_StyleParts.l0 k x1 (x5 ++ [t158]) x11 x12 (wrap64 (x13 + 1))) else (none))) else (none)) else (none)) else (spec_StyleParts.l1 k x5 x1 (x1.length : Int) 0)
def spec_StyleParts.l1 : Nat → List ByteArray → List (S104) → Int → Int → Option (List ByteArray)
  | 0, _, _, _, _ => none
  | k + 1, x5, x24, x25, x26 => if x26 < x25 then (if 0 ≤ x26 then (if x26 < (x24.length : Int) then (none) else (none)) else (none)) else (some x5)
end
def spec_StyleParts.f (k : Nat) (l0 : List Int) (l1 : List (S104)) : Option (List ByteArray) := spec_StyleParts.l0 k l1 ([] : List ByteArray) l0 (l0.length : Int) 0
theorem spec_StyleParts.mono_l : ∀ k, (∀ y0 y1 y2 y3 y4, LeO (spec_StyleParts.l0 k y0 y1 y2 y3 y4) (spec_StyleParts.l0 (k + 1) y0 y1 y2 y3 y4)) ∧ (∀ y0 y1 y2 y3, LeO (spec_StyleParts.l1 k y0 y1 y2 y3) (spec_StyleParts.l1 (k + 1) y0 y1 y2 y3))
  | 0 => ⟨fun _ _ _ _ _ r h => by simp [spec_StyleParts.l0] at h, fun _ _ _ _ r h => by simp [spec_StyleParts.l1] at h⟩
  | k + 1 => by
    obtain ⟨ih0, ih1⟩ := spec_StyleParts.mono_l k
    refine ⟨?_, ?_⟩
    · intro y0 y1 y2 y3 y4
      unfold spec_StyleParts.l0
      repeat' first
      | (with_reducible exact ih0 _ _ _ _ _)
      | (with_reducible exact ih1 _ _ _ _)
      | (with_reducible exact spec_Digits.mono _ _)
      | (with_reducible exact LeO.refl _)
      | (with_reducible exact LeO.none _)
      | (with_reducible refine LeO.ite ?_ ?_)
      | (with_reducible refine LeO.bind ?_ (fun _ => ?_))
      | exact ih0 _ _ _ _ _
      | exact ih1 _ _ _ _
      | exact spec_Digits.mono _ _
      | exact LeO.none _
      | refine LeO.ite ?_ ?_
      | refine LeO.bind ?_ (fun _ => ?_)
    · intro y0 y1 y2 y3
      unfold spec_StyleParts.l1
      repeat' first
      | (with_reducible exact ih0 _ _ _ _ _)
      | (with_reducible exact ih1 _ _ _ _)
      | (with_reducible exact spec_Digits.mono _ _)
      | (with_reducible exact LeO.refl _)
      | (with_reducible exact LeO.none _)
      | (with_reducible refine LeO.ite ?_ ?_)
      | (with_reducible refine LeO.bind ?_ (fun _ => ?_))
      | exact ih0 _ _ _ _ _
      | exact ih1 _ _ _ _
      | exact spec_Digits.mono _ _
      | exact LeO.none _
      | refine LeO.ite ?_ ?_
      | refine LeO.bind ?_ (fun _ => ?_)
theorem spec_StyleParts.mono : ∀ a0 a1 k, LeO (spec_StyleParts.f k a0 a1) (spec_StyleParts.f (k + 1) a0 a1) := by
  intro a0 a1 k
  obtain ⟨ih0, ih1⟩ := spec_StyleParts.mono_l k
  unfold spec_StyleParts.f
  repeat' first
      | (with_reducible exact ih0 _ _ _ _ _)
      | (with_reducible exact ih1 _ _ _ _)
      | (with_reducible exact spec_Digits.mono _ _)
      | (with_reducible exact LeO.refl _)
      | (with_reducible exact LeO.none _)
      | (with_reducible refine LeO.ite ?_ ?_)
      | (with_reducible refine LeO.bind ?_ (fun _ => ?_))
      | exact ih0 _ _ _ _ _
      | exact ih1 _ _ _ _
      | exact spec_Digits.mono _ _
      | exact LeO.none _
      | refine LeO.ite ?_ ?_
      | refine LeO.bind ?_ (fun _ => ?_)
set_option maxHeartbeats 8000000 in
set_option maxRecDepth 100000 in
theorem spec_StyleParts.calls (k : Nat) (A0 : Option Addr) (c0 : Nat) (l0 : List Int) (A1 : Option Addr) (c1 : Nat) (l1 : List (S104)) (r : List ByteArray) (w : World) (hr0 : Kd.C (Kd.int .i64) w A0 l0.length l0) (hc0 : l0.length ≤ c0) (hr1 : Kd.C k104 w A1 l1.length l1) (hc1 : l1.length ≤ c1) (h : spec_StyleParts.f k l0 l1 = some r) :
    Calls Tryz.prog 22 #[.slice A0 l0.length c0, .slice A1 l1.length c1] w fun e w' => ∃ v0_ : Value, e = .returned (v0_) ∧ Kd.R Kd.string 9 w' w.heap.size (fun _ => True) v0_ r ∧ Below w.heap.size w w' := by
  have hu104 := Tryz.underlying104
  have HR0 := Aside0.mk hr0
  have HC0 := Aside0.mk hc0
  clear hr0 hc0
  have HR1 := Aside0.mk hr1
  have HC1 := Aside0.mk hc1
  clear hr1 hc1
  have HB := Aside0.mk (Below.refl w.heap.size w)
  have H : (spec_StyleParts.l0 k l1 ([] : List ByteArray) l0 (l0.length : Int) 0) = some r := h
  clear h
  have H' := Aside0.mk H
  clear H
  go_enter Tryz.func22, Tryz.ntmps22
  go_wp2
  go_loopg [5, 13] k (fun kq v5 v13 w' => ∃ (x5_1 : List ByteArray) (x13_1 : Int), v13 = .int .i64 x13_1 ∧ Aside0 (spec_StyleParts.l0 kq l1 x5_1 l0 (l0.length : Int) x13_1 = some r) ∧ Aside0 (kq ≤ k) ∧ Aside0 (Kd.R Kd.string 9 w' w.heap.size (fun _ => True) v5 x5_1) ∧ Aside0 (Below w.heap.size w w'))
  case atStart => exact ⟨(([] : List ByteArray)), (0), (by first | rfl | (simp; done) | (simp [*]; done)), H', ⟨Nat.le_refl _⟩, ⟨by first | exact Kd.R_nil _ _ _ _ _ | exact Kd.N_nil _ _ _ _ _ | exact Kd.V_nil _ _ _ _ _ | exact Kd.Q_nil _ _ _ _ _ | exact Kd.S_nil _ _ _ _ _⟩, ⟨by repeat (first | (with_reducible first | exact HB.out | apply below_alloc | apply pw_below_drewN | apply below_drew1) | exact HB.out)⟩⟩
  case round =>
    clear H'
    try clear c1
    try clear c2
    try clear p2
    obtain ⟨x5_1, x13_1, rfl, HA, HK1, HO_5, HB⟩ := hrel
    cases gk with
    | zero => exact absurd HA.out (by simp [spec_StyleParts.l0])
    | succ k1 =>
      have H := HA.out
      clear HA
      simp only [spec_StyleParts.l0] at H
      by_cases c3 : x13_1 < (l0.length : Int)
      · rw [if_pos c3] at H
        have c3b0 : decide (x13_1 < (l0.length : Int)) = true := decide_eq_true c3
        clear c3
        by_cases c4 : 0 ≤ x13_1
        · rw [if_pos c4] at H
          have c4b0 : decide (0 ≤ x13_1) = true := decide_eq_true c4
          clear c4
          by_cases c5 : x13_1 < (l0.length : Int)
          · rw [if_pos c5] at H
            have c5b0 : decide (x13_1 < (l0.length : Int)) = true := decide_eq_true c5
            clear c5
            obtain ⟨ji6, hji6⟩ : ∃ j_ : Int, (mx (rd l0 x13_1) 0) = j_ := ⟨_, rfl⟩
            replace H : ((spec_Digits.f k1 (ji6)).bind fun t158 => (if x5_1.length < 8796093022208 then (spec_StyleParts.l0 k1 l1 (x5_1 ++ [t158]) l0 (l0.length : Int) (wrap64 (x13_1 + 1))) else (none))) = some r := by first | (rw [hji6] at H; exact H) | (simp only [hji6] at H ⊢; exact H)
            have hji6_ : (if (rd l0 x13_1) < 0 then 0 else (rd l0 x13_1)) = ji6 := hji6
            replace H := Option.bind_eq_some_iff.mp H
            obtain ⟨t158, A70, H⟩ := H
            replace H : (if x5_1.length < 8796093022208 then (spec_StyleParts.l0 k1 l1 (x5_1 ++ [t158]) l0 (l0.length : Int) (wrap64 (x13_1 + 1))) else (none)) = some r := H
            have A7 := Aside0.mk A70
            clear A70
            by_cases c8 : x5_1.length < 8796093022208
            · rw [if_pos c8] at H
              have LMc8 := Aside0.mk c8
              clear c8
              obtain ⟨y159, hy159⟩ : ∃ y_ : List ByteArray, y_ = (x5_1 ++ [t158]) := ⟨_, rfl⟩
              replace H : (spec_StyleParts.l0 k1 l1 y159 l0 (l0.length : Int) (wrap64 (x13_1 + 1))) = some r := by first | (rw [hy159]; with_reducible exact H) | (have H2_ := (Option.bind_some _ _).symm.trans H; rw [hy159]; with_reducible exact H2_) | (have H2_ := (Option.bind_some _ _).symm.trans H; with_reducible exact H2_) | with_reducible exact H | (rw [hy159]; exact H) | exact H
              have Ny159 := Aside0.mk hy159
              clear hy159
              have H' := Aside0.mk H
              clear H
              have p157 : 0 ≤ (x13_1 : Int) := of_decide_eq_true (by first | (with_reducible assumption) | assumption)
              have q157 : x13_1 < (l0.length : Int) := of_decide_eq_true (by first | (with_reducible assumption) | assumption)
              obtain ⟨ad157, e157, hx157_0⟩ := Kd.at_int HR0.out x13_1 p157 q157
              cases e157
              replace hx157_0 := (HB.out.cell (World.block_lt_of_cell? w _ hx157_0)).trans hx157_0
              replace p157 := eq_true p157
              replace q157 := eq_true q157
              go_wp2_with (first | ((with_reducible refine gate_callee (f := 39) rfl ?_); refine goesL_ (some 20) rfl rfl Tryz.func39 (by kernel_rfl) rfl #[.int .i64 ji6] rfl (by (try simp only [List.map_toArray, List.map_cons, List.map_nil]); first | done | (simp only [hji6]; rfl) | rfl | (simp only [List.length_drop, List.length_take]; rfl)) ?_; (with_reducible refine (spec_Digits.calls k1 ji6 t158 _ A7.out).mono ?_); rintro e w9 ⟨rfl, hb⟩; refine ⟨_, rfl, ?_⟩; have n0_ := Aside0.mk (Kd.R_below (by (with_reducible repeat (first | apply Kd.R_alloc | apply Kd.R_drewN | apply Kd.R_drew)); exact HO_5.out) hb); have n1_ := Aside0.mk (below_step (by repeat (first | (with_reducible first | exact HB.out | apply below_alloc | apply pw_below_drewN | apply below_drew1) | exact HB.out)) hb); clear HO_5; clear HB; have HO_5 := n0_; have HB := n1_; clear n0_ n1_; (try clear hb); (try clear hb2); (try clear hk); (try clear hi)) | ((with_reducible refine gate_builtin (b := .append) (xs := #[.tmp 17, .tmp 21]) rfl ?_); at_builtin; refine Kd.R_append Kd.string (w0 := w) w.heap.size rfl (.tmp 17) (.tmp 21) 64 9 (.string ⟨#[]⟩) 16 rfl Tryz.underlying64 info9 rfl (by decide) (by omega) u5 x5_1 t158 [.string t158] (fun _ => True) (fun _ => False) rfl rfl ?aP (fun _ hk => hk.elim) ?aF ?aO ?aB ?aS ?aL ?_; (case aP => exact rfl); (case aB => exact (by repeat (first | (with_reducible first | exact HB.out | apply below_alloc | apply pw_below_drewN | apply below_drew1) | exact HB.out))); (case aF => exact (fun _ _ => trivial)); (case aO => exact (by (with_reducible repeat (first | apply Kd.R_alloc | apply Kd.R_drewN | apply Kd.R_drew)); exact HO_5.out)); (case aS => exact (below_size (by repeat (first | (with_reducible first | exact HB.out | apply below_alloc | apply pw_below_drewN | apply below_drew1) | exact HB.out)))); (case aL => have := LMc8.out; omega); intro v160 w10 ho hb hg hat; rw [← Ny159.out] at ho; have n0_ := Aside0.mk (hb); have n1_ := Aside0.mk (ho); clear HB; clear HO_5; have HB := n0_; have HO161 := n1_; clear n0_ n1_; clear ho hb hg hat))
              go_roundg k1
              case measure => have := HK1.out; omega
              case rel => exact ⟨(y159), (wrap64 (x13_1 + 1)), (by first | rfl | (simp; done) | (simp [*]; done)), H', ⟨by have := HK1.out; omega⟩, ⟨by (with_reducible repeat (first | apply Kd.R_alloc | apply Kd.R_drewN | apply Kd.R_drew)); exact HO161.out⟩, ⟨by repeat (first | (with_reducible first | exact HB.out | apply below_alloc | apply pw_below_drewN | apply below_drew1) | exact HB.out)⟩⟩
            · rw [if_neg c8] at H
              exact absurd H (by simp)
          · rw [if_neg c5] at H
            exact absurd H (by simp)
        · rw [if_neg c4] at H
          exact absurd H (by simp)
      · rw [if_neg c3] at H
        have c3b0 : decide (x13_1 < (l0.length : Int)) = false := decide_eq_false c3
        clear c3
        have H' := Aside0.mk H
        clear H
        go_wp2
        go_loopg [5, 26] k1 (fun kq v5 v26 w' => ∃ (x5_2 : List ByteArray) (x26_2 : Int), v26 = .int .i64 x26_2 ∧ Aside0 (spec_StyleParts.l1 kq x5_2 l1 (l1.length : Int) x26_2 = some r) ∧ Aside0 (kq ≤ k1) ∧ Aside0 (Kd.R Kd.string 9 w' w.heap.size (fun _ => True) v5 x5_2) ∧ Aside0 (Below w.heap.size w w'))
        case atStart => exact ⟨(x5_1), (0), (by first | rfl | (simp; done) | (simp [*]; done)), H', ⟨Nat.le_refl _⟩, ⟨by (with_reducible repeat (first | apply Kd.R_alloc | apply Kd.R_drewN | apply Kd.R_drew)); exact HO_5.out⟩, ⟨by repeat (first | (with_reducible first | exact HB.out | apply below_alloc | apply pw_below_drewN | apply below_drew1) | exact HB.out)⟩⟩
        case round =>
          clear H'
          try clear c1
          try clear p1
          try clear q1
          try clear hx1
          try clear c2
          try clear p2
          try clear c3
          try clear c3b0
          try clear c4
          try clear c4b0
          try clear c5
          try clear c5b0
          try clear p6
          try clear c8
          try clear hx157_0
          try clear p157
          try clear p2
          try clear q157
          obtain ⟨x5_2, x26_2, rfl, HA, HK2, HO_5, HB⟩ := hrel
          cases gk with
          | zero => exact absurd HA.out (by simp [spec_StyleParts.l1])
          | succ k2 =>
            have H := HA.out
            clear HA
            simp only [spec_StyleParts.l1] at H
            by_cases c11 : x26_2 < (l1.length : Int)
            · rw [if_pos c11] at H
              have c11b0 : decide (x26_2 < (l1.length : Int)) = true := decide_eq_true c11
              clear c11
              by_cases c12 : 0 ≤ x26_2
              · rw [if_pos c12] at H
                have c12b0 : decide (0 ≤ x26_2) = true := decide_eq_true c12
                clear c12
                by_cases c13 : x26_2 < (l1.length : Int)
                · rw [if_pos c13] at H
                  have c13b0 : decide (x26_2 < (l1.length : Int)) = true := decide_eq_true c13
                  clear c13
                  exact absurd H (by simp)
                · rw [if_neg c13] at H
                  exact absurd H (by simp)
              · rw [if_neg c12] at H
                exact absurd H (by simp)
            · rw [if_neg c11] at H
              have c11b0 : decide (x26_2 < (l1.length : Int)) = false := decide_eq_false c11
              clear c11
              obtain rfl := Option.some.inj H
              go_wp2
              go_ret
              exact ⟨_, by first | rfl | (simp [errW_none, errW_some] <;> rfl) | (simp [*, errW_none, errW_some] <;> rfl), by (with_reducible repeat (first | apply Kd.R_alloc | apply Kd.R_drewN | apply Kd.R_drew)); exact HO_5.out, by repeat (first | (with_reducible first | exact HB.out | apply below_alloc | apply pw_below_drewN | apply below_drew1) | exact HB.out)⟩

/-! ### spec_MadeBy: function 7 -/
def spec_MadeBy.f (k : Nat) (a0_0 : Int) (a0_1 : Int) (a0_2 : Int) (a0_3 : Int) (l0_4 : List Int) (l0_5 : List (S48)) (a0_6 : ByteArray) : Option (ByteArray) := if a0_0 = 0 then (none) else (if a0_0 = 1 then (none) else (if a0_0 = 2 then (none) else (if a0_0 = 3 then (none) else (if a0_0 = 4 then (if 0 < (l0_5.length : Int) then (none) else (none)) else (if a0_0 = 5 then (none) else ((spec_StyleParts.f k l0_4 ([] : List (S104))).bind fun t166 => ((spec_StyleText.f k t166).bind fun t169 => (some t169))))))))
theorem spec_MadeBy.mono : ∀ a0 a1 a2 a3 a4 a5 a6 k, LeO (spec_MadeBy.f k a0 a1 a2 a3 a4 a5 a6) (spec_MadeBy.f (k + 1) a0 a1 a2 a3 a4 a5 a6) := by
  intro a0 a1 a2 a3 a4 a5 a6 k
  unfold spec_MadeBy.f
  repeat' first
      | (with_reducible exact spec_StyleParts.mono _ _ _)
      | (with_reducible exact spec_StyleText.mono _ _)
      | (with_reducible exact LeO.refl _)
      | (with_reducible exact LeO.none _)
      | (with_reducible refine LeO.ite ?_ ?_)
      | (with_reducible refine LeO.bind ?_ (fun _ => ?_))
      | exact spec_StyleParts.mono _ _ _
      | exact spec_StyleText.mono _ _
      | exact LeO.none _
      | refine LeO.ite ?_ ?_
      | refine LeO.bind ?_ (fun _ => ?_)
set_option maxHeartbeats 8000000 in
set_option maxRecDepth 100000 in
theorem spec_MadeBy.calls (k : Nat) (a0_0 : Int) (a0_1 : Int) (a0_2 : Int) (a0_3 : Int) (A0_4 : Option Addr) (c0_4 : Nat) (l0_4 : List Int) (A0_5 : Option Addr) (c0_5 : Nat) (l0_5 : List (S48)) (a0_6 : ByteArray) (r : ByteArray) (w : World) (hr0_4 : Kd.C (Kd.int .i64) w A0_4 l0_4.length l0_4) (hc0_4 : l0_4.length ≤ c0_4) (hr0_5 : Kd.C k48 w A0_5 l0_5.length l0_5) (hc0_5 : l0_5.length ≤ c0_5) (h : spec_MadeBy.f k a0_0 a0_1 a0_2 a0_3 l0_4 l0_5 a0_6 = some r) :
    Calls Tryz.prog 7 #[.agg #[.int .i64 a0_0, .int .i64 a0_1, .int .i64 a0_2, .int .i64 a0_3, .slice A0_4 l0_4.length c0_4, .slice A0_5 l0_5.length c0_5, .string a0_6]] w fun e w' => e = .returned (.string r) ∧ Below w.heap.size w w' := by
  have hu25 := Tryz.underlying25
  have hu48 := Tryz.underlying48
  have HR0_4 := Aside0.mk hr0_4
  have HC0_4 := Aside0.mk hc0_4
  clear hr0_4 hc0_4
  have HR0_5 := Aside0.mk hr0_5
  have HC0_5 := Aside0.mk hc0_5
  clear hr0_5 hc0_5
  have HB := Aside0.mk (Below.refl w.heap.size w)
  have H : (if a0_0 = 0 then (none) else (if a0_0 = 1 then (none) else (if a0_0 = 2 then (none) else (if a0_0 = 3 then (none) else (if a0_0 = 4 then (if 0 < (l0_5.length : Int) then (none) else (none)) else (if a0_0 = 5 then (none) else ((spec_StyleParts.f k l0_4 ([] : List (S104))).bind fun t166 => ((spec_StyleText.f k t166).bind fun t169 => (some t169))))))))) = some r := h
  clear h
  by_cases c2 : a0_0 = 0
  · rw [if_pos c2] at H
    have c2b0 : (a0_0 == 0) = true := beq_iff_eq.mpr c2
    have c2b1 : (a0_0 != 0) = false := bne_eq_false_iff_eq.mpr c2
    clear c2
    exact absurd H (by simp)
  · rw [if_neg c2] at H
    have c2b0 : (a0_0 == 0) = false := beq_eq_false_iff_ne.mpr c2
    have c2b1 : (a0_0 != 0) = true := bne_iff_ne.mpr c2
    by_cases c3 : a0_0 = 1
    · rw [if_pos c3] at H
      have c3b0 : (a0_0 == 1) = true := beq_iff_eq.mpr c3
      have c3b1 : (a0_0 != 1) = false := bne_eq_false_iff_eq.mpr c3
      clear c3
      exact absurd H (by simp)
    · rw [if_neg c3] at H
      have c3b0 : (a0_0 == 1) = false := beq_eq_false_iff_ne.mpr c3
      have c3b1 : (a0_0 != 1) = true := bne_iff_ne.mpr c3
      by_cases c4 : a0_0 = 2
      · rw [if_pos c4] at H
        have c4b0 : (a0_0 == 2) = true := beq_iff_eq.mpr c4
        have c4b1 : (a0_0 != 2) = false := bne_eq_false_iff_eq.mpr c4
        clear c4
        exact absurd H (by simp)
      · rw [if_neg c4] at H
        have c4b0 : (a0_0 == 2) = false := beq_eq_false_iff_ne.mpr c4
        have c4b1 : (a0_0 != 2) = true := bne_iff_ne.mpr c4
        by_cases c5 : a0_0 = 3
        · rw [if_pos c5] at H
          have c5b0 : (a0_0 == 3) = true := beq_iff_eq.mpr c5
          have c5b1 : (a0_0 != 3) = false := bne_eq_false_iff_eq.mpr c5
          clear c5
          exact absurd H (by simp)
        · rw [if_neg c5] at H
          have c5b0 : (a0_0 == 3) = false := beq_eq_false_iff_ne.mpr c5
          have c5b1 : (a0_0 != 3) = true := bne_iff_ne.mpr c5
          by_cases c6 : a0_0 = 4
          · rw [if_pos c6] at H
            have c6b0 : (a0_0 == 4) = true := beq_iff_eq.mpr c6
            have c6b1 : (a0_0 != 4) = false := bne_eq_false_iff_eq.mpr c6
            clear c6
            by_cases c7 : 0 < (l0_5.length : Int)
            · rw [if_pos c7] at H
              have c7b0 : decide (0 < (l0_5.length : Int)) = true := decide_eq_true c7
              have c7b1 : decide (0 < l0_5.length) = true := decide_eq_true (by omega)
              clear c7
              exact absurd H (by simp)
            · rw [if_neg c7] at H
              exact absurd H (by simp)
          · rw [if_neg c6] at H
            have c6b0 : (a0_0 == 4) = false := beq_eq_false_iff_ne.mpr c6
            have c6b1 : (a0_0 != 4) = true := bne_iff_ne.mpr c6
            by_cases c8 : a0_0 = 5
            · rw [if_pos c8] at H
              have c8b0 : (a0_0 == 5) = true := beq_iff_eq.mpr c8
              have c8b1 : (a0_0 != 5) = false := bne_eq_false_iff_eq.mpr c8
              clear c8
              exact absurd H (by simp)
            · rw [if_neg c8] at H
              have c8b0 : (a0_0 == 5) = false := beq_eq_false_iff_ne.mpr c8
              have c8b1 : (a0_0 != 5) = true := bne_iff_ne.mpr c8
              replace H := Option.bind_eq_some_iff.mp H
              obtain ⟨t166, A90, H⟩ := H
              replace H : ((spec_StyleText.f k t166).bind fun t169 => (some t169)) = some r := H
              have A9 := Aside0.mk A90
              clear A90
              replace H := Option.bind_eq_some_iff.mp H
              obtain ⟨t169, A100, H⟩ := H
              replace H : (some t169) = some r := H
              have A10 := Aside0.mk A100
              clear A100
              obtain rfl := Option.some.inj H
              go_enter Tryz.func7, Tryz.ntmps7
              go_wp2_with (first | ((with_reducible refine gate_dst (N := 1) rfl ?_); refine box_event ?hg (N := 1) ?hd (cs := #[.int .i64 a0_0, .int .i64 a0_1, .int .i64 a0_2, .int .i64 a0_3, .slice A0_4 l0_4.length c0_4, .slice A0_5 l0_5.length c0_5, .string a0_6]) (t := 25) ?hr ?_; (case hd => rfl); (case hg => rfl); (case hr => first | (go_simp; done) | (go_simp; rfl)); intro gb164 hg w11 hbox hb; have n0_ := Aside0.mk (below_step (by repeat (first | (with_reducible first | exact HB.out | apply below_alloc | apply pw_below_drewN | apply below_drew1) | exact HB.out)) hb); have n1_ := Aside0.mk (hbox); have n2_ := Aside0.mk ((by rw [hg]; exact (below_size (by repeat (first | (with_reducible first | exact HB.out | apply below_alloc | apply pw_below_drewN | apply below_drew1) | exact HB.out))) : w.heap.size ≤ gb164)); have n3_ := Aside0.mk ((by rw [hg]; exact (below_size (by repeat (first | (with_reducible first | exact HB.out | apply below_alloc | apply pw_below_drewN | apply below_drew1) | exact HB.out))) : w.heap.size ≤ gb164)); clear HB; have HB := n0_; have BK164 := n1_; have GW164 := n2_; have GE164 := n3_; clear n0_ n1_ n2_ n3_; clear hb hbox hg; have hcz12_0 : w11.cell? ⟨gb164, 0, none⟩ = some (.int .i64 a0_0) := (blk_cell BK164.out 0).trans rfl; have hcz12_1 : w11.cell? ⟨gb164, 1, none⟩ = some (.int .i64 a0_1) := (blk_cell BK164.out 1).trans rfl; have hcz12_2 : w11.cell? ⟨gb164, 2, none⟩ = some (.int .i64 a0_2) := (blk_cell BK164.out 2).trans rfl; have hcz12_3 : w11.cell? ⟨gb164, 3, none⟩ = some (.int .i64 a0_3) := (blk_cell BK164.out 3).trans rfl; have hcz12_4 : w11.cell? ⟨gb164, 4, none⟩ = some (.slice A0_4 l0_4.length c0_4) := (blk_cell BK164.out 4).trans rfl; have hcz12_5 : w11.cell? ⟨gb164, 5, none⟩ = some (.slice A0_5 l0_5.length c0_5) := (blk_cell BK164.out 5).trans rfl; have hcz12_6 : w11.cell? ⟨gb164, 6, none⟩ = some (.string a0_6) := (blk_cell BK164.out 6).trans rfl; have hfz12_0 := blk_frozen BK164.out 0; have hfz12_1 := blk_frozen BK164.out 1; have hfz12_2 := blk_frozen BK164.out 2; have hfz12_3 := blk_frozen BK164.out 3; have hfz12_4 := blk_frozen BK164.out 4; have hfz12_5 := blk_frozen BK164.out 5; have hfz12_6 := blk_frozen BK164.out 6) | ((with_reducible refine gate_callee (f := 22) rfl ?_); refine goesL_ (some 51) rfl rfl Tryz.func22 (by kernel_rfl) rfl #[.slice A0_4 l0_4.length c0_4, .slice none 0 0] rfl (by (try simp only [List.map_toArray, List.map_cons, List.map_nil]); first | done | rfl | (simp only [List.length_drop, List.length_take]; rfl)) ?_; (refine (spec_StyleParts.calls k _ _ l0_4 _ _ ([] : List (S104)) t166 _ ?side1 ?side2 ?side3 ?side4 A9.out).mono ?_); (case side1 => repeat (first | exact (Kd.C_below HR0_4.out HB.out) | (with_reducible refine Kd.C_alloc ?_ _) | (with_reducible refine Kd.C_drewN ?_ _) | (with_reducible refine Kd.C_drew ?_))); (case side2 => exact HC0_4.out); (case side3 => exact Kd.C_nil _ _); (case side4 => exact Nat.le_refl _); rintro e w13 ⟨v167, rfl, ho0, hb⟩; refine ⟨_, rfl, ?_⟩; have n0_ := Aside0.mk (Kd.R_lower ho0 (below_size (by repeat (first | (with_reducible first | exact HB.out | apply below_alloc | apply pw_below_drewN | apply below_drew1 | refine below_set ?_ GE164.out) | exact HB.out)))); have n1_ := Aside0.mk (blk_below (g := gb164) (o := .cells #[.int .i64 a0_0, .int .i64 a0_1, .int .i64 a0_2, .int .i64 a0_3, .slice A0_4 l0_4.length c0_4, .slice A0_5 l0_5.length c0_5, .string a0_6] 25 (0, 0)) (by (with_reducible repeat (first | refine blk_drewN ?_ _ | refine blk_drew ?_ | refine blk_alloc ?_ _)); exact BK164.out) hb); have n2_ := Aside0.mk (below_step (by repeat (first | (with_reducible first | exact HB.out | apply below_alloc | apply pw_below_drewN | apply below_drew1 | refine below_set ?_ GE164.out) | exact HB.out)) hb); clear BK164; clear HB; have HO168 := n0_; have BK164 := n1_; have HB := n2_; clear n0_ n1_ n2_; (try clear hb); (try clear hb2); (try clear hk); (try clear hi); (try clear ho0); obtain ⟨Ao14, co14, eo14⟩ := Kd.R_slice HO168.out; subst eo14) | ((with_reducible refine gate_callee (f := 21) rfl ?_); refine goesL_ (some 52) rfl rfl Tryz.func21 (by kernel_rfl) rfl #[.slice Ao14 t166.length co14] rfl (by (try simp only [List.map_toArray, List.map_cons, List.map_nil]); first | done | rfl | (simp only [List.length_drop, List.length_take]; rfl)) ?_; (with_reducible refine (spec_StyleText.calls k _ _ t166 t169 _ ?side1 ?side2 A10.out).mono ?_); (case side1 => repeat (first | exact (Kd.R_reads' HO168.out).2.2 | (with_reducible refine Kd.C_alloc ?_ _) | (with_reducible refine Kd.C_drewN ?_ _) | (with_reducible refine Kd.C_drew ?_))); (case side2 => exact (Kd.R_reads' HO168.out).2.1); rintro e w' ⟨rfl, ⟨nd, rfl⟩⟩; refine ⟨_, rfl, ?_⟩))
              go_ret
              exact ⟨by first | rfl | (simp [errW_none, errW_some] <;> rfl) | (simp [*, errW_none, errW_some] <;> rfl), by repeat (first | (with_reducible first | exact HB.out | apply below_alloc | apply pw_below_drewN | apply below_drew1 | refine below_set ?_ GE164.out) | exact HB.out)⟩

/-! ### spec_CommandOf: function 23 -/
def spec_CommandOf.f (a0_0 : Int) (a0_1 : Int) (l0_2 : List (S89)) (l0_3 : List Int) (a0_4 : Int) (l0_5 : List Int) (a0_6 : Bool) : Option (Int) := if (l0_3.length : Int) > 0 then (none) else (some (Go.bits .or .i64 (wrap64 (a0_4)) (wrap64 ((wrap64 (a0_1)) * 256))))
set_option maxHeartbeats 8000000 in
set_option maxRecDepth 100000 in
theorem spec_CommandOf.calls (a0_0 : Int) (a0_1 : Int) (A0_2 : Option Addr) (c0_2 : Nat) (l0_2 : List (S89)) (A0_3 : Option Addr) (c0_3 : Nat) (l0_3 : List Int) (a0_4 : Int) (A0_5 : Option Addr) (c0_5 : Nat) (l0_5 : List Int) (a0_6 : Bool) (r : Int) (w : World) (hr0_2 : Kd.C k89 w A0_2 l0_2.length l0_2) (hc0_2 : l0_2.length ≤ c0_2) (hr0_3 : Kd.C (Kd.int .u8) w A0_3 l0_3.length l0_3) (hc0_3 : l0_3.length ≤ c0_3) (hr0_5 : Kd.C (Kd.int .u8) w A0_5 l0_5.length l0_5) (hc0_5 : l0_5.length ≤ c0_5) (h : spec_CommandOf.f a0_0 a0_1 l0_2 l0_3 a0_4 l0_5 a0_6 = some r) :
    Calls Tryz.prog 23 #[.agg #[.int .i64 a0_0, .int .u8 a0_1, .slice A0_2 l0_2.length c0_2, .slice A0_3 l0_3.length c0_3, .int .u8 a0_4, .slice A0_5 l0_5.length c0_5, .bool a0_6]] w fun e w' => e = .returned (.int .i64 r) ∧ Below w.heap.size w w' := by
  have hu37 := Tryz.underlying37
  have HR0_2 := Aside0.mk hr0_2
  have HC0_2 := Aside0.mk hc0_2
  clear hr0_2 hc0_2
  have HR0_3 := Aside0.mk hr0_3
  have HC0_3 := Aside0.mk hc0_3
  clear hr0_3 hc0_3
  have HR0_5 := Aside0.mk hr0_5
  have HC0_5 := Aside0.mk hc0_5
  clear hr0_5 hc0_5
  have HB := Aside0.mk (Below.refl w.heap.size w)
  have H : (if (l0_3.length : Int) > 0 then (none) else (some (Go.bits .or .i64 (wrap64 (a0_4)) (wrap64 ((wrap64 (a0_1)) * 256))))) = some r := h
  clear h
  by_cases c2 : (l0_3.length : Int) > 0
  · rw [if_pos c2] at H
    exact absurd H (by simp)
  · rw [if_neg c2] at H
    have c2b0 : decide (0 < (l0_3.length : Int)) = false := decide_eq_false c2
    have c2b1 : decide (0 < l0_3.length) = false := decide_eq_false (by omega)
    clear c2
    obtain rfl := Option.some.inj H
    go_enter Tryz.func23, Tryz.ntmps23
    go_wp2_with (first | ((with_reducible refine gate_dst (N := 1) rfl ?_); refine box_event ?hg (N := 1) ?hd (cs := #[.int .i64 a0_0, .int .u8 a0_1, .slice A0_2 l0_2.length c0_2, .slice A0_3 l0_3.length c0_3, .int .u8 a0_4, .slice A0_5 l0_5.length c0_5, .bool a0_6]) (t := 37) ?hr ?_; (case hd => rfl); (case hg => rfl); (case hr => first | (go_simp; done) | (go_simp; rfl)); intro gb118 hg w3 hbox hb; have n0_ := Aside0.mk (below_step (by repeat (first | (with_reducible first | exact HB.out | apply below_alloc | apply pw_below_drewN | apply below_drew1) | exact HB.out)) hb); have n1_ := Aside0.mk (hbox); have n2_ := Aside0.mk ((by rw [hg]; exact (below_size (by repeat (first | (with_reducible first | exact HB.out | apply below_alloc | apply pw_below_drewN | apply below_drew1) | exact HB.out))) : w.heap.size ≤ gb118)); have n3_ := Aside0.mk ((by rw [hg]; exact (below_size (by repeat (first | (with_reducible first | exact HB.out | apply below_alloc | apply pw_below_drewN | apply below_drew1) | exact HB.out))) : w.heap.size ≤ gb118)); clear HB; have HB := n0_; have BK118 := n1_; have GW118 := n2_; have GE118 := n3_; clear n0_ n1_ n2_ n3_; clear hb hbox hg; have hcz4_0 : w3.cell? ⟨gb118, 0, none⟩ = some (.int .i64 a0_0) := (blk_cell BK118.out 0).trans rfl; have hcz4_1 : w3.cell? ⟨gb118, 1, none⟩ = some (.int .u8 a0_1) := (blk_cell BK118.out 1).trans rfl; have hcz4_2 : w3.cell? ⟨gb118, 2, none⟩ = some (.slice A0_2 l0_2.length c0_2) := (blk_cell BK118.out 2).trans rfl; have hcz4_3 : w3.cell? ⟨gb118, 3, none⟩ = some (.slice A0_3 l0_3.length c0_3) := (blk_cell BK118.out 3).trans rfl; have hcz4_4 : w3.cell? ⟨gb118, 4, none⟩ = some (.int .u8 a0_4) := (blk_cell BK118.out 4).trans rfl; have hcz4_5 : w3.cell? ⟨gb118, 5, none⟩ = some (.slice A0_5 l0_5.length c0_5) := (blk_cell BK118.out 5).trans rfl; have hcz4_6 : w3.cell? ⟨gb118, 6, none⟩ = some (.bool a0_6) := (blk_cell BK118.out 6).trans rfl; have hfz4_0 := blk_frozen BK118.out 0; have hfz4_1 := blk_frozen BK118.out 1; have hfz4_2 := blk_frozen BK118.out 2; have hfz4_3 := blk_frozen BK118.out 3; have hfz4_4 := blk_frozen BK118.out 4; have hfz4_5 := blk_frozen BK118.out 5; have hfz4_6 := blk_frozen BK118.out 6))
    go_ret
    exact ⟨by first | rfl | (simp [errW_none, errW_some] <;> rfl) | (simp [*, errW_none, errW_some] <;> rfl), by repeat (first | (with_reducible first | exact HB.out | apply below_alloc | apply pw_below_drewN | apply below_drew1 | refine below_set ?_ GE118.out) | exact HB.out)⟩

end Go.Proofs.YtjdpkhnpgdangaaGreatDoor.PQ
