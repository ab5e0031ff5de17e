/- What the handlers that listen lays tell: a letter printed (listen$1), a control sequence (listen$3 with ints). No condition but those stated. -/
import Derived.Test.YtjdpkhnpgdangaaGreatDoorPa0
import Derived.Test.YtjdpkhnpgdangaaGreatDoorPQx3
import Derived.Deep.RegionHeld3
import Derived.Outline
namespace Go.Proofs.YtjdpkhnpgdangaaGreatDoor.PQ
open Go.RowKit Go.Proofs.YtjdpkhnpgdangaaGreatDoorW.PrintWords Go.Proofs.YtjdpkhnpgdangaaGreatDoorW.PrintLast Go.Proofs.YtjdpkhnpgdangaaGreatDoorW.PrintMore
attribute [local go_sem] max2_int min2_int max_two min_two max_three min_three max_four min_four
set_option linter.unusedVariables false
set_option linter.unusedSimpArgs false

theorem info77 : (Tryz.prog.info? 77).map (fun i => (i.zero, i.size, i.bytes)) = some (some (.agg #[.int .i64 0, .int .i64 0, .int .u8 0, .int .i64 0, .slice none 0 0, .slice none 0 0]), 6, 80) := by kernel_rfl

/-- An append at a step of a region that draws its order: the world told by an equation. -/
theorem append_step {P : Program} {ops : Array Oper} {o : Oper} {a : Act} {Q : Exit → Act → World → Prop} {Kc : Act → World → Prop} {E : Prop} {α : Type} (d : Kd α) {w0 W WW : World} (base : Nat) (hw : Region.wanted o (yielded ops a.tmps) = true) (s x : Operand) (t e : TypeId) (z : Value) (bytes : Nat)
    (ho : o.op = .call { callee := .builtin .append, args := #[s, x], argTypes := #[t, t] })
    (ht : P.underlying t = some (.slice e)) (hinfo : (P.info? e).map (fun i => (i.zero, i.size, i.bytes)) = some (some z, d.sz, bytes)) (hz : z.cells.size = d.sz) (hs0 : 0 < d.sz) (hb0 : 0 < bytes)
    (v : Value) (xs : List α) (p : α) (cs : List Value) (ok okp : Nat → Prop) (hWW : WW = W.alloc (.cells cs.toArray e)) (hs : a.eval s = v) (hx : a.eval x = .slice (some ⟨W.heap.size, 0, none⟩) 1 1) (hp : d.M W base okp p cs) (hokp : ∀ k, okp k → ok k ∧ some k ≠ v.ownBlock) (hfresh : ∀ k, W.heap.size ≤ k → ok k)
    (HO : d.R e W base ok v xs) (HB : Below base w0 W) (hbase : base ≤ W.heap.size) (hl : (xs.length + 1) * bytes ≤ 140737488355328)
    (h : ∀ v1 w1, d.R e w1 base ok v1 (xs ++ [p]) → Below base w0 w1 → W.grownBy w1 v.ownBlock → (v1.ownBlock = v.ownBlock ∨ ∃ b, v1.ownBlock = some b ∧ W.heap.size ≤ b) → Kc (a.put o.dst v1) w1) :
    if Region.wanted o (yielded ops a.tmps) = true then Oper.wp P o a WW Kc Q else E := by
  subst hWW
  have hk := Kd.R_append_step (Q := Q) (Kc := Kc) d (w0 := w0) base hw s x t e z bytes ho ht hinfo hz hs0 hb0 v xs p cs ok okp hs hx hp hokp hfresh HO HB hbase hl h
  rw [if_pos hw] at hk
  rw [if_pos hw]
  exact hk

section
variable {B gp gq : Nat} {gd : GX} {gb go : Nat} {w w1 W : World} {qs : List Int} {n cmd st : Int} {evs evs' : List S77}
/-- Behind an append to the events, stored back. -/
theorem PSt.told (h : PSt B gp gq gd gb go W qs n cmd st evs) {v v1 : Value} (ho : W.heap[go]? = some (.cells #[v] 44 (0, 0))) (hg : W.grownBy w1 v.ownBlock)
    (hr : Kd.R k77 77 w1 B (fun _ => True) v1 evs') : PSt B gp gq gd gb go (w1.setCell ⟨go, 0, none⟩ v1) qs n cmd st evs' := by
  obtain ⟨v', ho', hr'⟩ := h.o
  obtain rfl : v' = v := by
    rw [ho'] at ho
    injection ho with ho
    injection ho with ho
    simpa using ho
  have p := blk_grown h.p hg (Kd.R_ne hr' h.p (by decide))
  have q := blk_grown h.q hg (Kd.R_ne hr' h.q (by decide))
  have b := blk_grown h.b hg (Kd.R_ne hr' h.b (by decide))
  have o := blk_grown ho hg (Kd.R_ne hr' ho (by decide))
  exact ⟨blk_far p h.neO _, blk_far q h.neQO _, h.ql, blk_far b h.neBO _, ⟨v1, by simpa using blk_set o 0 v1, Kd.R_set hr o (types77 44 (by decide) (by decide) (by decide)) 0 v1⟩, fun k cs hk => blk_far (blk_grown (h.x k cs hk) hg (Kd.R_ne hr' (h.x k cs hk) (by decide))) (blk_ne (h.x k cs hk) ho (by decide)) _, h.geP, h.geQ, h.geB, h.geO⟩
end
set_option maxRecDepth 100000 in
set_option maxHeartbeats 2000000 in
theorem listen1_calls {B gp gq : Nat} {gd : GX} {gb go : Nat} {qs : List Int} {n cmd st : Int} {evs : List S77} (r : Int) (w : World) (h : PSt B gp gq gd gb go w qs n cmd st evs) (h0 : 0 ≤ r) (h1 : r ≤ 255) (hl : evs.length ≤ 100000) :
    Calls Tryz.prog 70 #[.int .i32 r, .pointer (some ⟨gb, 0, none⟩)] w (PPost B gp gq gd gb go w qs n cmd st (evs ++ [⟨0, r, 0, 0, [], []⟩])) := by
  have H := Aside0.mk h
  obtain ⟨v, ho, hr⟩ := h.o
  have HO := Aside0.mk ho
  have HR := Aside0.mk hr
  have cb : w.cell? ⟨gb, 0, none⟩ = some (.pointer (some ⟨go, 0, none⟩)) := (blk_cell h.b 0).trans rfl
  have co : w.cell? ⟨go, 0, none⟩ = some v := (blk_cell ho 0).trans rfl
  have fo : w.frozen? ⟨go, 0, none⟩ = false := blk_frozen ho 0
  have hu77 := Tryz.underlying77
  have nb : some gb ≠ v.ownBlock := Kd.R_ne hr h.b (by decide)
  have nv : some go ≠ v.ownBlock := Kd.R_ne hr ho (by decide)
  have lb := blk_lt h.b
  have lo := blk_lt ho
  have n1 := World.new_ne w _ cb
  have n2 := World.new_ne w _ co
  have hw : IntKind.i64.wrap r = r := by rw [IntKind.wrap_i64]; omega
  have cb' : w.drew.cell? ⟨gb, 0, none⟩ = some (.pointer (some ⟨go, 0, none⟩)) := cb
  have co' : w.drew.cell? ⟨go, 0, none⟩ = some v := co
  have fo' : w.drew.frozen? ⟨go, 0, none⟩ = false := fo
  have lo' : go < w.drew.heap.size := lo
  clear h ho hr
  go_enter Tryz.func70, Tryz.ntmps70
  go_wp2_with fail
  refine start_ (n := 11) (S := fun w' => w'.cell? ⟨gb, 0, none⟩ = some (.pointer (some ⟨go, 0, none⟩)) ∧ w'.cell? ⟨go, 0, none⟩ = some v) (ds := [10]) #[false, false, false, false, false, false, false, false, false, false, false] (by kernel_rfl) rfl rfl ⟨cb, co⟩ (fun hHeld => ?_)
  refine pure_ (i := 4) (N := some 7) (v := ?_) (a' := ?_) #[false, false, false, false, true, false, false, false, false, false, false] rfl rfl (by kernel_rfl) (fun _ _ _ h => h) (Or.inl ⟨by rfl, ?_⟩) ?_ ?_
  rotate_left
  · intro w'
    go_simp
    with_reducible rfl
  rotate_left
  · simp only [Act.put, List.setIfInBounds_toArray, List.set_cons_zero, List.set_cons_succ, i64_w, i32_w]
    rfl
  refine pure_ (i := 5) (N := some 8) (v := ?_) (a' := ?_) #[false, false, false, false, true, true, false, false, false, false, false] rfl rfl (by kernel_rfl) (fun _ _ _ h => h) (Or.inl ⟨by rfl, ?_⟩) ?_ ?_
  rotate_left
  · intro w'
    go_simp
    with_reducible rfl
  rotate_left
  · simp only [Act.put, List.setIfInBounds_toArray, List.set_cons_zero, List.set_cons_succ, i64_w, i32_w]
    rfl
  refine pure_ (i := 6) (N := some 9) (v := ?_) (a' := ?_) #[false, false, false, false, true, true, true, false, false, false, false] rfl rfl (by kernel_rfl) (fun _ _ _ h => h) (Or.inl ⟨by rfl, ?_⟩) ?_ ?_
  rotate_left
  · intro w'
    go_simp
    with_reducible rfl
  rotate_left
  · simp only [Act.put, List.setIfInBounds_toArray, List.set_cons_zero, List.set_cons_succ, i64_w, i32_w]
    rfl
  refine take_ (i := 0) (N := some 3) (v := ?_) (a' := ?_) #[true, false, false, false, true, true, true, false, false, false, false] rfl rfl (by kernel_rfl) (fun _ _ _ h => h) (Or.inl ⟨by rfl, ?_⟩) hHeld ?_ ?_
  rotate_left
  · rintro w' ⟨s0, s1⟩
    go_simp
    with_reducible rfl
  rotate_left
  · simp only [Act.put, List.setIfInBounds_toArray, List.set_cons_zero, List.set_cons_succ, i64_w, i32_w]
    rfl
  refine take_ (i := 1) (N := some 4) (v := ?_) (a' := ?_) #[true, true, false, false, true, true, true, false, false, false, false] rfl rfl (by kernel_rfl) (fun _ _ _ h => h) (Or.inl ⟨by rfl, ?_⟩) hHeld ?_ ?_
  rotate_left
  · rintro w' ⟨s0, s1⟩
    go_simp
    with_reducible rfl
  rotate_left
  · simp only [Act.put, List.setIfInBounds_toArray, List.set_cons_zero, List.set_cons_succ, i64_w, i32_w]
    rfl
  refine pure_ (i := 2) (N := some 5) (v := ?_) (a' := ?_) #[true, true, true, false, true, true, true, false, false, false, false] rfl rfl (by kernel_rfl) (fun _ _ _ h => h) (Or.inl ⟨by rfl, ?_⟩) ?_ ?_
  rotate_left
  · intro w'
    go_simp
    with_reducible rfl
  rotate_left
  · simp only [Act.put, List.setIfInBounds_toArray, List.set_cons_zero, List.set_cons_succ, i64_w, i32_w]
    rfl
  refine take_ (i := 3) (N := some 6) (v := ?_) (a' := ?_) #[true, true, true, true, true, true, true, false, false, false, false] rfl rfl (by kernel_rfl) (fun _ _ _ h => h) (Or.inl ⟨by rfl, ?_⟩) hHeld ?_ ?_
  rotate_left
  · rintro w' ⟨s0, s1⟩
    go_simp
    with_reducible rfl
  rotate_left
  · simp only [Act.put, List.setIfInBounds_toArray, List.set_cons_zero, List.set_cons_succ, i64_w, i32_w]
    rfl
  refine one_ (i := 7) (N := some 10) #[true, true, true, true, true, true, true, true, false, false, false] rfl rfl (by kernel_rfl) (by decide) (fun K hK => ?_)
  refine value_ (w1 := ?_) (v := ?_) (by rfl) rfl ?_ ?_
  rotate_left 2
  · go_simp
    constructor
    · rfl
    · rfl
  refine hK.out _ _ ⟨(World.cell?_alloc_some _ _ _ (by rw [show _ = some _ from cb]; rfl)).trans cb', (World.cell?_alloc_some _ _ _ (by rw [show _ = some _ from co]; rfl)).trans co'⟩ (fun hHeld => ?_)
  clear hK K
  refine norm_ (a' := ?_) ?_ ?_
  rotate_left
  · show Act.put _ (some 10) _ = _
    simp only [Act.put, List.setIfInBounds_toArray, List.set_cons_zero, List.set_cons_succ, i64_w, i32_w]
    rfl
  refine one_ (i := 8) (N := some 11) #[true, true, true, true, true, true, true, true, true, false, false] rfl rfl (by kernel_rfl) (by decide) (fun K hK => ?_)
  refine append_step k77 (w0 := w) (W := w.drew) B (by rfl) (.tmp 6) (.tmp 10) 44 77 (.agg #[.int .i64 0, .int .i64 0, .int .u8 0, .int .i64 0, .slice none 0 0, .slice none 0 0]) 80 (by rfl) Tryz.underlying44 info77 (by rfl) (by decide) (by omega) v evs ⟨0, r, 0, 0, [], []⟩ [.int .i64 0, .int .i64 r, .int .u8 0, .int .i64 0, .slice none 0 0, .slice none 0 0] (fun _ => True) (fun _ => False) (by rfl) (by rfl) (by rfl) (k77_mkM _ _ _ _ (Kd.R_nil _ _ _ _ _) (Kd.R_nil _ _ _ _ _)) (fun _ hk => hk.elim) (fun _ _ => trivial) (Kd.R_drew HR.out) (below_drew1 (Below.refl _ _)) H.out.size (by omega) ?_
  intro v1 w1 ho1 hb1 hg1 hat1
  obtain ⟨A1, c1, hv1⟩ := Kd.R_slice ho1
  simp only [List.length_append, List.length_cons, List.length_nil, Nat.zero_add] at hv1
  subst hv1
  have co1 := hg1.cell co' nv
  have cb1 := hg1.cell cb' nb
  have fo1 := (World.frozen?_of_block (a := ⟨go, 0, none⟩) (hg1.block go lo' nv)).trans fo'
  refine hK.out _ _ ⟨cb1, co1⟩ (fun hHeld => ?_)
  clear hK K
  refine norm_ (a' := ?_) ?_ ?_
  rotate_left
  · show Act.put _ (some 11) _ = _
    simp only [Act.put, List.setIfInBounds_toArray, List.set_cons_zero, List.set_cons_succ, i64_w, i32_w]
    rfl
  refine pure_ (i := 9) (N := some 12) (v := ?_) (a' := ?_) #[true, true, true, true, true, true, true, true, true, true, false] rfl rfl (by kernel_rfl) (fun _ _ _ h => h) (Or.inl ⟨by rfl, ?_⟩) ?_ ?_
  rotate_left
  · intro w'
    go_simp
    with_reducible rfl
  rotate_left
  · simp only [Act.put, List.setIfInBounds_toArray, List.set_cons_zero, List.set_cons_succ, i64_w, i32_w]
    rfl
  refine last_ (i := 10) (N := none) #[true, true, true, true, true, true, true, true, true, true, true] rfl rfl (by kernel_rfl) (by decide) (fun K hK => ?_)
  refine skip_ (w1 := ?_) (by rfl) rfl ?_ ?_
  rotate_left
  · go_simp
    rfl
  refine hK.out _ _ ?_
  clear hK K
  refine done_ (by kernel_rfl) ?_
  go_end0
  exact ⟨rfl, (H.out.drew.told (HO.out) hg1 ho1), (hb1.setCell (p := ⟨go, 0, none⟩) H.out.geO _)⟩

set_option maxHeartbeats 8000000 in
set_option maxRecDepth 100000 in
theorem ints_calls (k : Nat) (A0 : Option Addr) (c0 : Nat) (l0 : List Int) (r : List Int) (w : World) (hr0 : Kd.C (Kd.int .i64) w A0 l0.length l0) (hc0 : l0.length ≤ c0) (h : impl_count.f k l0 = some r) :
    Calls Tryz.prog 73 #[.slice A0 l0.length c0] w fun e w' => ∃ v0_ : Value, e = .returned (v0_) ∧ Kd.R (Kd.int .i64) 2 w' w.heap.size (fun _ => True) v0_ r ∧ Below w.heap.size w w' := by
  have HR0 := Aside0.mk hr0
  have HC0 := Aside0.mk hc0
  clear hr0 hc0
  have HB := Aside0.mk (Below.refl w.heap.size w)
  have H : (impl_count.l0 k ([] : List Int) l0 (l0.length : Int) 0) = some r := h
  clear h
  have H' := Aside0.mk H
  clear H
  go_enter Tryz.func73, Tryz.ntmps73
  go_wp2
  go_loopg [3, 8] k (fun kq v3 v8 w' => ∃ (x3_1 : List Int) (x8_1 : Int), v8 = .int .i64 x8_1 ∧ Aside0 (impl_count.l0 kq x3_1 l0 (l0.length : Int) x8_1 = some r) ∧ Aside0 (kq ≤ k) ∧ Aside0 (Kd.R (Kd.int .i64) 2 w' w.heap.size (fun _ => True) v3 x3_1) ∧ Aside0 (Below w.heap.size w w'))
  case atStart => exact ⟨(([] : List Int)), (0), (by first | rfl | (simp; done) | (simp [*]; done)), H', ⟨Nat.le_refl _⟩, ⟨by first | exact Kd.R_nil _ _ _ _ _ | exact Kd.N_nil _ _ _ _ _ | exact Kd.V_nil _ _ _ _ _ | exact Kd.Q_nil _ _ _ _ _ | exact Kd.S_nil _ _ _ _ _⟩, ⟨by repeat (first | (with_reducible first | exact HB.out | apply below_alloc | apply pw_below_drewN | apply below_drew1) | exact HB.out)⟩⟩
  case round =>
    clear H'
    obtain ⟨x3_1, x8_1, rfl, HA, HK1, HO_3, HB⟩ := hrel
    cases gk with
    | zero => exact absurd HA.out (by simp [impl_count.l0])
    | succ k1 =>
      have H := HA.out
      clear HA
      simp only [impl_count.l0] at H
      by_cases c2 : x8_1 < (l0.length : Int)
      · rw [if_pos c2] at H
        have c2b0 : decide (x8_1 < (l0.length : Int)) = true := decide_eq_true c2
        clear c2
        by_cases c3 : 0 ≤ x8_1
        · rw [if_pos c3] at H
          have c3b0 : decide (0 ≤ x8_1) = true := decide_eq_true c3
          clear c3
          by_cases c4 : x8_1 < (l0.length : Int)
          · rw [if_pos c4] at H
            have c4b0 : decide (x8_1 < (l0.length : Int)) = true := decide_eq_true c4
            clear c4
            by_cases c5 : x3_1.length < 17592186044416
            · rw [if_pos c5] at H
              have LMc5 := Aside0.mk c5
              clear c5
              obtain ⟨y112, hy112⟩ : ∃ y_ : List Int, y_ = (x3_1 ++ [rd l0 x8_1]) := ⟨_, rfl⟩
              replace H : (impl_count.l0 k1 y112 l0 (l0.length : Int) (wrap64 (x8_1 + 1))) = some r := by first | (rw [hy112]; with_reducible exact H) | (have H2_ := (Option.bind_some _ _).symm.trans H; rw [hy112]; with_reducible exact H2_) | (have H2_ := (Option.bind_some _ _).symm.trans H; with_reducible exact H2_) | with_reducible exact H | (rw [hy112]; exact H) | exact H
              have Ny112 := Aside0.mk hy112
              clear hy112
              have H' := Aside0.mk H
              clear H
              have p111 : 0 ≤ (x8_1 : Int) := of_decide_eq_true (by first | (with_reducible assumption) | assumption)
              have q111 : x8_1 < (l0.length : Int) := of_decide_eq_true (by first | (with_reducible assumption) | assumption)
              obtain ⟨ad111, e111, hx111_0⟩ := Kd.at_int HR0.out x8_1 p111 q111
              cases e111
              replace hx111_0 := (HB.out.cell (World.block_lt_of_cell? w _ hx111_0)).trans hx111_0
              replace p111 := eq_true p111
              replace q111 := eq_true q111
              go_wp2_with (first | ((with_reducible refine gate_builtin (b := .append) (xs := #[.tmp 12, .tmp 14]) rfl ?_); at_builtin; refine Kd.R_append (Kd.int .i64) (w0 := w) w.heap.size rfl (.tmp 12) (.tmp 14) 22 2 (.int .i64 0) 8 rfl Tryz.underlying22 info2 rfl (by decide) (by omega) u3 x3_1 (rd l0 x8_1) [.int .i64 (rd l0 x8_1)] (fun _ => True) (fun _ => False) rfl rfl ?aP (fun _ hk => hk.elim) ?aF ?aO ?aB ?aS ?aL ?_; (case aP => exact rfl); (case aB => exact (by repeat (first | (with_reducible first | exact HB.out | apply below_alloc | apply pw_below_drewN | apply below_drew1) | exact HB.out))); (case aF => exact (fun _ _ => trivial)); (case aO => exact (by (with_reducible repeat (first | apply Kd.R_alloc | apply Kd.R_drewN | apply Kd.R_drew)); exact HO_3.out)); (case aS => exact (below_size (by repeat (first | (with_reducible first | exact HB.out | apply below_alloc | apply pw_below_drewN | apply below_drew1) | exact HB.out)))); (case aL => have := LMc5.out; omega); intro v113 w6 ho hb hg hat; rw [← Ny112.out] at ho; have n0_ := Aside0.mk (hb); have n1_ := Aside0.mk (ho); clear HB; clear HO_3; have HB := n0_; have HO114 := n1_; clear n0_ n1_; clear ho hb hg hat))
              go_roundg k1
              case measure => have := HK1.out; omega
              case rel => exact ⟨(y112), (wrap64 (x8_1 + 1)), (by first | rfl | (simp; done) | (simp [*]; done)), H', ⟨by have := HK1.out; omega⟩, ⟨by (with_reducible repeat (first | apply Kd.R_alloc | apply Kd.R_drewN | apply Kd.R_drew)); exact HO114.out⟩, ⟨by repeat (first | (with_reducible first | exact HB.out | apply below_alloc | apply pw_below_drewN | apply below_drew1) | exact HB.out)⟩⟩
            · rw [if_neg c5] at H
              exact absurd H (by simp)
          · rw [if_neg c4] at H
            exact absurd H (by simp)
        · rw [if_neg c3] at H
          exact absurd H (by simp)
      · rw [if_neg c2] at H
        have c2b0 : decide (x8_1 < (l0.length : Int)) = false := decide_eq_false c2
        clear c2
        obtain rfl := Option.some.inj H
        go_wp2
        go_ret
        exact ⟨_, by first | rfl | (simp [errW_none, errW_some] <;> rfl) | (simp [*, errW_none, errW_some] <;> rfl), by (with_reducible repeat (first | apply Kd.R_alloc | apply Kd.R_drewN | apply Kd.R_drew)); exact HO_3.out, by repeat (first | (with_reducible first | exact HB.out | apply below_alloc | apply pw_below_drewN | apply below_drew1) | exact HB.out)⟩

set_option maxRecDepth 100000 in
set_option maxHeartbeats 2000000 in
theorem listen3_calls {B gp gq : Nat} {gd : GX} {gb go : Nat} {qs : List Int} {n cmd st : Int} {evs : List S77} (cmd' : Int) (k : Nat) (A : Option Addr) (c0 : Nat) (l : List Int) (w : World) (h : PSt B gp gq gd gb go w qs n cmd st evs) (hC : Kd.C (Kd.int .i64) w A l.length l) (hc0 : l.length ≤ c0) (hk : impl_count.f k l = some l) (hl : evs.length ≤ 100000) :
    Calls Tryz.prog 72 #[.int .i64 cmd', .slice A l.length c0, .pointer (some ⟨gb, 0, none⟩)] w (PPost B gp gq gd gb go w qs n cmd st (evs ++ [⟨2, 0, 0, cmd', l, []⟩])) := by
  have H := Aside0.mk h
  obtain ⟨v, ho, hr⟩ := h.o
  have HO := Aside0.mk ho
  have HR := Aside0.mk hr
  replace hC := Aside0.mk hC
  have cb : w.cell? ⟨gb, 0, none⟩ = some (.pointer (some ⟨go, 0, none⟩)) := (blk_cell h.b 0).trans rfl
  have co : w.cell? ⟨go, 0, none⟩ = some v := (blk_cell ho 0).trans rfl
  have fo : w.frozen? ⟨go, 0, none⟩ = false := blk_frozen ho 0
  have hu77 := Tryz.underlying77
  have nb : some gb ≠ v.ownBlock := Kd.R_ne hr h.b (by decide)
  have nv : some go ≠ v.ownBlock := Kd.R_ne hr ho (by decide)
  have lb := blk_lt h.b
  have lo := blk_lt ho
  have n1 := World.new_ne w _ cb
  have n2 := World.new_ne w _ co
  clear h ho hr
  go_enter Tryz.func72, Tryz.ntmps72
  go_wp2_with fail
  refine start_ (n := 12) (S := fun w' => w'.cell? ⟨gb, 0, none⟩ = some (.pointer (some ⟨go, 0, none⟩)) ∧ w'.cell? ⟨go, 0, none⟩ = some v) (ds := [11]) #[false, false, false, false, false, false, false, false, false, false, false, false] (by kernel_rfl) rfl rfl ⟨cb, co⟩ (fun hHeld => ?_)
  refine pure_ (i := 4) (N := some 9) (v := ?_) (a' := ?_) #[false, false, false, false, true, false, false, false, false, false, false, false] rfl rfl (by kernel_rfl) (fun _ _ _ h => h) (Or.inl ⟨by rfl, ?_⟩) ?_ ?_
  rotate_left
  · intro w'
    go_simp
    with_reducible rfl
  rotate_left
  · simp only [Act.put, List.setIfInBounds_toArray, List.set_cons_zero, List.set_cons_succ, i64_w, i32_w]
    rfl
  refine pure_ (i := 5) (N := some 10) (v := ?_) (a' := ?_) #[false, false, false, false, true, true, false, false, false, false, false, false] rfl rfl (by kernel_rfl) (fun _ _ _ h => h) (Or.inl ⟨by rfl, ?_⟩) ?_ ?_
  rotate_left
  · intro w'
    go_simp
    with_reducible rfl
  rotate_left
  · simp only [Act.put, List.setIfInBounds_toArray, List.set_cons_zero, List.set_cons_succ, i64_w, i32_w]
    rfl
  refine take_ (i := 0) (N := some 5) (v := ?_) (a' := ?_) #[true, false, false, false, true, true, false, false, false, false, false, false] rfl rfl (by kernel_rfl) (fun _ _ _ h => h) (Or.inl ⟨by rfl, ?_⟩) hHeld ?_ ?_
  rotate_left
  · rintro w' ⟨s0, s1⟩
    go_simp
    with_reducible rfl
  rotate_left
  · simp only [Act.put, List.setIfInBounds_toArray, List.set_cons_zero, List.set_cons_succ, i64_w, i32_w]
    rfl
  refine take_ (i := 1) (N := some 6) (v := ?_) (a' := ?_) #[true, true, false, false, true, true, false, false, false, false, false, false] rfl rfl (by kernel_rfl) (fun _ _ _ h => h) (Or.inl ⟨by rfl, ?_⟩) hHeld ?_ ?_
  rotate_left
  · rintro w' ⟨s0, s1⟩
    go_simp
    with_reducible rfl
  rotate_left
  · simp only [Act.put, List.setIfInBounds_toArray, List.set_cons_zero, List.set_cons_succ, i64_w, i32_w]
    rfl
  refine pure_ (i := 2) (N := some 7) (v := ?_) (a' := ?_) #[true, true, true, false, true, true, false, false, false, false, false, false] rfl rfl (by kernel_rfl) (fun _ _ _ h => h) (Or.inl ⟨by rfl, ?_⟩) ?_ ?_
  rotate_left
  · intro w'
    go_simp
    with_reducible rfl
  rotate_left
  · simp only [Act.put, List.setIfInBounds_toArray, List.set_cons_zero, List.set_cons_succ, i64_w, i32_w]
    rfl
  refine take_ (i := 3) (N := some 8) (v := ?_) (a' := ?_) #[true, true, true, true, true, true, false, false, false, false, false, false] rfl rfl (by kernel_rfl) (fun _ _ _ h => h) (Or.inl ⟨by rfl, ?_⟩) hHeld ?_ ?_
  rotate_left
  · rintro w' ⟨s0, s1⟩
    go_simp
    with_reducible rfl
  rotate_left
  · simp only [Act.put, List.setIfInBounds_toArray, List.set_cons_zero, List.set_cons_succ, i64_w, i32_w]
    rfl
  refine one_ (i := 6) (N := some 11) #[true, true, true, true, true, true, true, false, false, false, false, false] rfl rfl (by kernel_rfl) (by decide) (fun K hK => ?_)
  refine goes_ Tryz.func73 (by kernel_rfl) rfl #[.slice A l.length c0] (by rfl) rfl rfl (by simp only [List.map_toArray, List.map_cons, List.map_nil]; rfl) ?_
  with_reducible refine (ints_calls k A c0 l l w.drew (Kd.C_below hC.out (below_drew (Below.refl _ _))) hc0 hk).mono ?_
  rintro e w2 ⟨v0, rfl, hr2, hb2⟩
  refine ⟨_, rfl, ?_⟩
  obtain ⟨A2, c2, hv2⟩ := Kd.R_slice hr2
  subst hv2
  have cb2 := (hb2.cell lb).trans cb
  have co2 := (hb2.cell lo).trans co
  have fo2 := (hb2.frozen lo).trans fo
  have lo2 := Nat.lt_of_lt_of_le lo hb2.size
  refine hK.out _ _ ⟨cb2, co2⟩ (fun hHeld => ?_)
  clear hK K
  refine norm_ (a' := ?_) ?_ ?_
  rotate_left
  · show Act.put _ (some 11) _ = _
    simp only [Act.put, List.setIfInBounds_toArray, List.set_cons_zero, List.set_cons_succ, i64_w, i32_w]
    rfl
  refine pure_ (i := 7) (N := some 12) (v := ?_) (a' := ?_) #[true, true, true, true, true, true, true, true, false, false, false, false] rfl rfl (by kernel_rfl) (fun _ _ _ h => h) (Or.inl ⟨by rfl, ?_⟩) ?_ ?_
  rotate_left
  · intro w'
    go_simp
    with_reducible rfl
  rotate_left
  · simp only [Act.put, List.setIfInBounds_toArray, List.set_cons_zero, List.set_cons_succ, i64_w, i32_w]
    rfl
  refine one_ (i := 8) (N := some 13) #[true, true, true, true, true, true, true, true, true, false, false, false] rfl rfl (by kernel_rfl) (by decide) (fun K hK => ?_)
  refine value_ (w1 := ?_) (v := ?_) (by rfl) rfl ?_ ?_
  rotate_left 2
  · go_simp
    constructor
    · rfl
    · rfl
  refine hK.out _ _ ⟨(World.cell?_alloc_some _ _ _ (by rw [show _ = some _ from cb2]; rfl)).trans cb2, (World.cell?_alloc_some _ _ _ (by rw [show _ = some _ from co2]; rfl)).trans co2⟩ (fun hHeld => ?_)
  clear hK K
  refine norm_ (a' := ?_) ?_ ?_
  rotate_left
  · show Act.put _ (some 13) _ = _
    simp only [Act.put, List.setIfInBounds_toArray, List.set_cons_zero, List.set_cons_succ, i64_w, i32_w]
    rfl
  refine one_ (i := 9) (N := some 14) #[true, true, true, true, true, true, true, true, true, true, false, false] rfl rfl (by kernel_rfl) (by decide) (fun K hK => ?_)
  refine append_step k77 (w0 := w) (W := w2) B (by rfl) (.tmp 8) (.tmp 13) 44 77 (.agg #[.int .i64 0, .int .i64 0, .int .u8 0, .int .i64 0, .slice none 0 0, .slice none 0 0]) 80 (by rfl) Tryz.underlying44 info77 (by rfl) (by decide) (by omega) v evs ⟨2, 0, 0, cmd', l, []⟩ [.int .i64 2, .int .i64 0, .int .u8 0, .int .i64 cmd', .slice A2 l.length c2, .slice none 0 0] (fun _ => True) (fun k => w.heap.size ≤ k) (by rfl) (by rfl) (by rfl) (k77_mkM _ _ _ _ (Kd.R_lower (Kd.R_mono (Kd.R_bound hr2) (fun k hk => hk.2.1)) H.out.size) (Kd.R_nil _ _ _ _ _)) (fun k hk => ⟨trivial, fun e => absurd (Kd.R_lt HR.out k e.symm) (Nat.not_lt.2 hk)⟩) (fun _ _ => trivial) (Kd.R_below (Kd.R_drew HR.out) hb2) (Below.trans (below_drew1 (Below.refl _ _)) (hb2.mono H.out.size)) (Nat.le_trans H.out.size hb2.size) (by omega) ?_
  intro v1 w1 ho1 hb1 hg1 hat1
  obtain ⟨A1, c1, hv1⟩ := Kd.R_slice ho1
  simp only [List.length_append, List.length_cons, List.length_nil, Nat.zero_add] at hv1
  subst hv1
  have co1 := hg1.cell co2 nv
  have cb1 := hg1.cell cb2 nb
  have fo1 := (World.frozen?_of_block (a := ⟨go, 0, none⟩) (hg1.block go lo2 nv)).trans fo2
  refine hK.out _ _ ⟨cb1, co1⟩ (fun hHeld => ?_)
  clear hK K
  refine norm_ (a' := ?_) ?_ ?_
  rotate_left
  · show Act.put _ (some 14) _ = _
    simp only [Act.put, List.setIfInBounds_toArray, List.set_cons_zero, List.set_cons_succ, i64_w, i32_w]
    rfl
  refine pure_ (i := 10) (N := some 15) (v := ?_) (a' := ?_) #[true, true, true, true, true, true, true, true, true, true, true, false] rfl rfl (by kernel_rfl) (fun _ _ _ h => h) (Or.inl ⟨by rfl, ?_⟩) ?_ ?_
  rotate_left
  · intro w'
    go_simp
    with_reducible rfl
  rotate_left
  · simp only [Act.put, List.setIfInBounds_toArray, List.set_cons_zero, List.set_cons_succ, i64_w, i32_w]
    rfl
  refine last_ (i := 11) (N := none) #[true, true, true, true, true, true, true, true, true, true, true, true] rfl rfl (by kernel_rfl) (by decide) (fun K hK => ?_)
  refine skip_ (w1 := ?_) (by rfl) rfl ?_ ?_
  rotate_left
  · go_simp
    rfl
  refine hK.out _ _ ?_
  clear hK K
  refine done_ (by kernel_rfl) ?_
  go_end0
  exact ⟨rfl, ((H.out.drew.below hb2).told (blk_below (w := w.drew) HO.out hb2) hg1 ho1), (hb1.setCell (p := ⟨go, 0, none⟩) H.out.geO _)⟩
end Go.Proofs.YtjdpkhnpgdangaaGreatDoor.PQ
