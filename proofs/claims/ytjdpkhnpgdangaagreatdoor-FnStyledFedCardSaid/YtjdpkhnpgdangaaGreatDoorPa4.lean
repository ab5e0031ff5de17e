/- performAction: a semicolon, dispatch. -/
import Derived.Test.YtjdpkhnpgdangaaGreatDoorPa3
namespace Go.Proofs.YtjdpkhnpgdangaaGreatDoor.PQ
open Go.RowKit Go.Proofs.YtjdpkhnpgdangaaGreatDoorW.PrintWords Go.Proofs.YtjdpkhnpgdangaaGreatDoorW.PrintLast Go.Proofs.YtjdpkhnpgdangaaGreatDoorW.PrintMore
set_option linter.unusedVariables false
set_option linter.unusedSimpArgs false
theorem count_l0 (l : List Int) (hl : l.length ≤ 1000000) : ∀ (j i : Nat), i + j = l.length → impl_count.l0 (j + 1) (l.take i) l (l.length : Int) (i : Int) = some l
  | 0, i, h => by
    unfold impl_count.l0
    rw [if_neg (by omega), List.take_of_length_le (by omega)]
  | j + 1, i, h => by
    unfold impl_count.l0
    have hi : i < l.length := by omega
    rw [if_pos (by omega), if_pos (by omega), if_pos (by omega), if_pos (by rw [List.length_take]; omega)]
    have h1 : l.take i ++ [rd l (i : Int)] = l.take (i + 1) := by
      rw [List.take_add_one]
      simp [rd, List.getElem?_eq_getElem hi]
    have h2 : wrap64 ((i : Int) + 1) = ((i + 1 : Nat) : Int) := by rw [← i64_w, IntKind.wrap_i64]; omega
    rw [h1, h2]
    exact count_l0 l hl j (i + 1) (by omega)
theorem count_f (l : List Int) (hl : l.length ≤ 1000000) : impl_count.f (l.length + 1) l = some l := count_l0 l hl l.length 0 (by omega)
section
variable {B gp gq : Nat} {gd : GX} {gb go : Nat} {qs : List Int} {n cmd st : Int} {evs : List S77}
set_option maxRecDepth 1000000 in
set_option maxHeartbeats 20000000 in
theorem act_semi (w : World) (s : Int) (m : Nat) (h : PSt B gp gq gd gb go w qs m cmd st evs) (hm : m + 1 < 32) :
    Calls Tryz.prog 97 #[.pointer (some ⟨gp, 0, none⟩), .int .u8 8, .int .u8 s, .int .u8 59] w (PPost B gp gq gd gb go w (qs.set (m + 1) 2147483647) ((m + 1 : Nat) : Int) cmd st evs) := by
  have H := Aside0.mk h
  have c9 := h.c9; have c12 := h.c12; have f12 := h.fp 12
  clear h
  have hm3 : (m : Int) < 32 := by omega
  have d1 : decide ((m : Int) ≥ 32) = false := decide_eq_false (by omega)
  obtain ⟨k, hk⟩ : ∃ k : Nat, k = m + 1 := ⟨_, rfl⟩
  have m1 : wrap64 ((m : Int) + 1) = (k : Int) := by rw [← i64_w, IntKind.wrap_i64]; omega
  have hk3 : (k : Int) < 32 := by omega
  have hk4 : k < 32 := by omega
  have hlt : decide ((k : Int) < 32) = true := decide_eq_true hk3
  rw [← hk]
  have HK := Aside0.mk hk
  clear hk
  go_enter Tryz.func97, Tryz.ntmps97
  go_wp2_with fail
  go_quiet (fail)
  go_wp2_with fail
  refine cutW (S := fun W => PSt B gp gq gd gb go W qs (k : Int) cmd st evs ∧ Below B w W) ⟨by rw [show (k : Int) = (m : Int) + 1 by have := HK.out; omega]; repeat (first | with_reducible exact H.out | with_reducible apply PSt.setQ | with_reducible apply PSt.setN | with_reducible apply PSt.setC | with_reducible apply PSt.setS | with_reducible apply PSt.drewN | with_reducible apply PSt.drew), by repeat (first | with_reducible exact Below.refl _ _ | with_reducible apply below_drew1 | with_reducible apply pw_below_drewN | (with_reducible refine Below.setCell ?_ H.out.geQ _) | (with_reducible refine Below.setCell ?_ H.out.geP _))⟩ ?_
  rintro w1 ⟨H1, B1⟩
  replace H := Aside0.mk H1
  have BB := Aside0.mk B1
  clear c9 c12 f12 m1
  have c9 := H1.c9; have c12 := H1.c12; have cq := H1.cq k hk4; have fq := H1.fq k
  clear H1 B1
  generalize qs.getD k 0 = x at cq
  go_quiet (fail)
  go_wp2_with fail
  refine start_ (n := 10) (S := fun w' => w'.cell? ⟨gp, 9, none⟩ = some (.slice (some ⟨gq, 0, none⟩) 32 32) ∧ w'.cell? ⟨gp, 12, none⟩ = some (.int .i64 (k : Nat)) ∧ w'.cell? ⟨gq, k, none⟩ = some (.int .i64 x)) (ds := [9]) #[false, false, false, false, false, false, false, false, false, false] (by kernel_rfl) rfl rfl ⟨c9, c12, cq⟩ (fun hHeld => ?_)
  refine pure_ (i := 0) (N := some 205) (v := ?_) (a' := ?_) #[true, false, false, false, false, false, false, false, false, false] rfl rfl (by kernel_rfl) (fun _ _ _ h => h) (Or.inl ⟨by rfl, ?_⟩) ?_ ?_
  rotate_left
  · intro w'
    go_simp
    with_reducible rfl
  rotate_left
  · simp only [Act.put, List.setIfInBounds_toArray, List.set_cons_zero, List.set_cons_succ, i64_w, i32_w]
    rfl
  refine pure_ (i := 1) (N := some 206) (v := ?_) (a' := ?_) #[true, true, false, false, false, false, false, false, false, false] rfl rfl (by kernel_rfl) (fun _ _ _ h => h) (Or.inl ⟨by rfl, ?_⟩) ?_ ?_
  rotate_left
  · intro w'
    go_simp
    with_reducible rfl
  rotate_left
  · simp only [Act.put, List.setIfInBounds_toArray, List.set_cons_zero, List.set_cons_succ, i64_w, i32_w]
    rfl
  refine pure_ (i := 2) (N := some 207) (v := ?_) (a' := ?_) #[true, true, true, false, false, false, false, false, false, false] rfl rfl (by kernel_rfl) (fun _ _ _ h => h) (Or.inl ⟨by rfl, ?_⟩) ?_ ?_
  rotate_left
  · intro w'
    go_simp
    with_reducible rfl
  rotate_left
  · simp only [Act.put, List.setIfInBounds_toArray, List.set_cons_zero, List.set_cons_succ, i64_w, i32_w]
    rfl
  refine pure_ (i := 4) (N := some 209) (v := ?_) (a' := ?_) #[true, true, true, false, true, false, false, false, false, false] rfl rfl (by kernel_rfl) (fun _ _ _ h => h) (Or.inl ⟨by rfl, ?_⟩) ?_ ?_
  rotate_left
  · intro w'
    go_simp
    with_reducible rfl
  rotate_left
  · simp only [Act.put, List.setIfInBounds_toArray, List.set_cons_zero, List.set_cons_succ, i64_w, i32_w]
    rfl
  refine pure_ (i := 5) (N := some 210) (v := ?_) (a' := ?_) #[true, true, true, false, true, true, false, false, false, false] rfl rfl (by kernel_rfl) (fun _ _ _ h => h) (Or.inl ⟨by rfl, ?_⟩) ?_ ?_
  rotate_left
  · intro w'
    go_simp
    with_reducible rfl
  rotate_left
  · simp only [Act.put, List.setIfInBounds_toArray, List.set_cons_zero, List.set_cons_succ, i64_w, i32_w]
    rfl
  refine pure_ (i := 6) (N := some 211) (v := ?_) (a' := ?_) #[true, true, true, false, true, true, true, false, false, false] rfl rfl (by kernel_rfl) (fun _ _ _ h => h) (Or.inl ⟨by rfl, ?_⟩) ?_ ?_
  rotate_left
  · intro w'
    go_simp
    with_reducible rfl
  rotate_left
  · simp only [Act.put, List.setIfInBounds_toArray, List.set_cons_zero, List.set_cons_succ, i64_w, i32_w]
    rfl
  refine take_ (i := 3) (N := some 208) (v := ?_) (a' := ?_) #[true, true, true, true, true, true, true, false, false, false] rfl rfl (by kernel_rfl) (fun _ _ _ h => h) (Or.inl ⟨by rfl, ?_⟩) hHeld ?_ ?_
  rotate_left
  · rintro w' ⟨s0, s1, s2⟩
    go_simp
    with_reducible rfl
  rotate_left
  · simp only [Act.put, List.setIfInBounds_toArray, List.set_cons_zero, List.set_cons_succ, i64_w, i32_w]
    rfl
  refine take_ (i := 7) (N := some 212) (v := ?_) (a' := ?_) #[true, true, true, true, true, true, true, true, false, false] rfl rfl (by kernel_rfl) (fun _ _ _ h => h) (Or.inl ⟨by rfl, ?_⟩) hHeld ?_ ?_
  rotate_left
  · rintro w' ⟨s0, s1, s2⟩
    go_simp
    with_reducible rfl
  rotate_left
  · simp only [Act.put, List.setIfInBounds_toArray, List.set_cons_zero, List.set_cons_succ, i64_w, i32_w]
    rfl
  refine pure_ (i := 8) (N := some 213) (v := ?_) (a' := ?_) #[true, true, true, true, true, true, true, true, true, false] rfl rfl (by kernel_rfl) (fun _ _ _ h => h) (Or.inl ⟨by rfl, ?_⟩) ?_ ?_
  rotate_left
  · intro w'
    go_simp
    with_reducible rfl
  rotate_left
  · simp only [Act.put, List.setIfInBounds_toArray, List.set_cons_zero, List.set_cons_succ, i64_w, i32_w]
    rfl
  refine last_ (i := 9) (N := none) #[true, true, true, true, true, true, true, true, true, true] rfl rfl (by kernel_rfl) (by decide) (fun K hK => ?_)
  refine skip_ (w1 := ?_) (by rfl) rfl ?_ ?_
  rotate_left
  · go_simp
    rfl
  refine hK.out _ _ ?_
  clear hK K
  refine done_ (by kernel_rfl) ?_
  go_wp2_with fail
  go_end0
  exact ⟨rfl, by repeat (first | with_reducible exact H.out | with_reducible apply PSt.setQ | with_reducible apply PSt.setN | with_reducible apply PSt.setC | with_reducible apply PSt.setS | with_reducible apply PSt.drewN | with_reducible apply PSt.drew), Below.trans BB.out (by repeat (first | with_reducible exact Below.refl _ _ | with_reducible apply below_drew1 | with_reducible apply pw_below_drewN | (with_reducible refine Below.setCell ?_ H.out.geQ _) | (with_reducible refine Below.setCell ?_ H.out.geP _)))⟩

set_option maxRecDepth 1000000 in
set_option maxHeartbeats 20000000 in
theorem act_disp (w : World) (s : Int) (m : Nat) (hm0 : 0 < m) (hm : m < 31) (h : PSt B gp gq gd gb go w qs (m : Int) 0 3 evs) (hl : evs.length ≤ 100000) :
    Calls Tryz.prog 97 #[.pointer (some ⟨gp, 0, none⟩), .int .u8 4, .int .u8 s, .int .u8 109] w (PPost B gp gq gd gb go w qs ((m + 1 : Nat) : Int) 109 3 (evs ++ [⟨2, 0, 0, 109, qs.take (m + 1), []⟩])) := by
  have H := Aside0.mk h
  have lq := h.ql
  have c9 := h.c9; have c10 := h.c10; have c11 := h.c11; have c12 := h.c12; have c13 := h.c13; have c14 := h.c14; have c2 := h.c2; have f12 := h.fp 12; have f13 := h.fp 13
  have cq := h.cq 0 (by omega)
  have e1 : decide ((m : Int) > 0) = true := decide_eq_true (by omega)
  have e2 : decide ((m : Int) < 31) = true := decide_eq_true (by omega)
  have hm3 : (m : Int) < 31 := by omega
  obtain ⟨k, hk⟩ : ∃ k : Nat, k = m + 1 := ⟨_, rfl⟩
  rw [← hk]
  have HK := Aside0.mk hk
  clear hk
  have b109 : bits .or .i64 0 109 = 109 := by decide
  have hn := fun W => neq_nilFunc Tryz.underlying126 (.func 72) #[] #[.pointer (some ⟨gb, 0, none⟩)] W
  clear h
  go_enter Tryz.func97, Tryz.ntmps97
  go_wp2_with fail
  go_quiet (fail)
  go_wp2_with fail
  refine cutW (S := fun W => PSt B gp gq gd gb go W qs (k : Int) 109 3 evs ∧ Below B w W) ⟨by rw [show (k : Int) = (m : Int) + 1 by have := HK.out; omega]; repeat (first | with_reducible exact H.out | with_reducible apply PSt.setQ | with_reducible apply PSt.setN | with_reducible apply PSt.setC | with_reducible apply PSt.setS | with_reducible apply PSt.drewN | with_reducible apply PSt.drew), by repeat (first | with_reducible exact Below.refl _ _ | with_reducible apply below_drew1 | with_reducible apply pw_below_drewN | (with_reducible refine Below.setCell ?_ H.out.geQ _) | (with_reducible refine Below.setCell ?_ H.out.geP _))⟩ ?_
  rintro w1 ⟨H1, B1⟩
  replace H1 : PSt B gp gq gd gb go w1 qs ((k : Nat) : Int) 109 3 evs := H1
  replace H := Aside0.mk H1
  have BB := Aside0.mk B1
  clear c9 c10 c11 c12 c13 c14 c2 f12 f13 cq
  have c2 := H1.c2; have c13 := H1.c13; have lt := blk_lt H1.p
  have nc := World.new_ne w1 _ c2
  obtain ⟨L, hL⟩ : ∃ L, L = qs.take k := ⟨_, rfl⟩
  have lL : L.length = k := by rw [hL, List.length_take, lq]; have := HK.out; omega
  clear H1 B1
  refine start_ (n := 12) (S := fun w' => w'.cell? ⟨gp, 2, none⟩ = some (.func (.func 72) #[] #[.pointer (some ⟨gb, 0, none⟩)]) ∧ w'.cell? ⟨gp, 13, none⟩ = some (.int .i64 109)) (ds := [11]) #[false, false, false, false, false, false, false, false, false, false, false, false] (by kernel_rfl) rfl rfl ⟨c2, c13⟩ (fun hHeld => ?_)
  refine pure_ (i := 0) (N := some 427) (v := ?_) (a' := ?_) #[true, false, false, false, false, false, false, false, false, false, false, false] rfl rfl (by kernel_rfl) (fun _ _ _ h => h) (Or.inl ⟨by rfl, ?_⟩) ?_ ?_
  rotate_left
  · intro w'
    go_simp
    with_reducible rfl
  rotate_left
  · simp only [Act.put, List.setIfInBounds_toArray, List.set_cons_zero, List.set_cons_succ, i64_w, i32_w]
    rfl
  refine pure_ (i := 1) (N := some 428) (v := ?_) (a' := ?_) #[true, true, false, false, false, false, false, false, false, false, false, false] rfl rfl (by kernel_rfl) (fun _ _ _ h => h) (Or.inl ⟨by rfl, ?_⟩) ?_ ?_
  rotate_left
  · intro w'
    go_simp
    with_reducible rfl
  rotate_left
  · simp only [Act.put, List.setIfInBounds_toArray, List.set_cons_zero, List.set_cons_succ, i64_w, i32_w]
    rfl
  refine pure_ (i := 2) (N := some 429) (v := ?_) (a' := ?_) #[true, true, true, false, false, false, false, false, false, false, false, false] rfl rfl (by kernel_rfl) (fun _ _ _ h => h) (Or.inl ⟨by rfl, ?_⟩) ?_ ?_
  rotate_left
  · intro w'
    go_simp
    with_reducible rfl
  rotate_left
  · simp only [Act.put, List.setIfInBounds_toArray, List.set_cons_zero, List.set_cons_succ, i64_w, i32_w]
    rfl
  refine pure_ (i := 3) (N := some 430) (v := ?_) (a' := ?_) #[true, true, true, true, false, false, false, false, false, false, false, false] rfl rfl (by kernel_rfl) (fun _ _ _ h => h) (Or.inl ⟨by rfl, ?_⟩) ?_ ?_
  rotate_left
  · intro w'
    go_simp
    with_reducible rfl
  rotate_left
  · simp only [Act.put, List.setIfInBounds_toArray, List.set_cons_zero, List.set_cons_succ, i64_w, i32_w]
    rfl
  refine pure_ (i := 5) (N := some 432) (v := ?_) (a' := ?_) #[true, true, true, true, false, true, false, false, false, false, false, false] rfl rfl (by kernel_rfl) (fun _ _ _ h => h) (Or.inl ⟨by rfl, ?_⟩) ?_ ?_
  rotate_left
  · intro w'
    go_simp
    with_reducible rfl
  rotate_left
  · simp only [Act.put, List.setIfInBounds_toArray, List.set_cons_zero, List.set_cons_succ, i64_w, i32_w]
    rfl
  refine pure_ (i := 6) (N := some 433) (v := ?_) (a' := ?_) #[true, true, true, true, false, true, true, false, false, false, false, false] rfl rfl (by kernel_rfl) (fun _ _ _ h => h) (Or.inl ⟨by rfl, ?_⟩) ?_ ?_
  rotate_left
  · intro w'
    go_simp
    with_reducible rfl
  rotate_left
  · simp only [Act.put, List.setIfInBounds_toArray, List.set_cons_zero, List.set_cons_succ, i64_w, i32_w]
    rfl
  refine pure_ (i := 7) (N := some 434) (v := ?_) (a' := ?_) #[true, true, true, true, false, true, true, true, false, false, false, false] rfl rfl (by kernel_rfl) (fun _ _ _ h => h) (Or.inl ⟨by rfl, ?_⟩) ?_ ?_
  rotate_left
  · intro w'
    go_simp
    with_reducible rfl
  rotate_left
  · simp only [Act.put, List.setIfInBounds_toArray, List.set_cons_zero, List.set_cons_succ, i64_w, i32_w]
    rfl
  refine pure_ (i := 9) (N := some 436) (v := ?_) (a' := ?_) #[true, true, true, true, false, true, true, true, false, true, false, false] rfl rfl (by kernel_rfl) (fun _ _ _ h => h) (Or.inl ⟨by rfl, ?_⟩) ?_ ?_
  rotate_left
  · intro w'
    go_simp
    with_reducible rfl
  rotate_left
  · simp only [Act.put, List.setIfInBounds_toArray, List.set_cons_zero, List.set_cons_succ, i64_w, i32_w]
    rfl
  refine take_ (i := 4) (N := some 431) (v := ?_) (a' := ?_) #[true, true, true, true, true, true, true, true, false, true, false, false] rfl rfl (by kernel_rfl) (fun _ _ _ h => h) (Or.inl ⟨by rfl, ?_⟩) hHeld ?_ ?_
  rotate_left
  · rintro w' ⟨s0, s1⟩
    go_simp
    with_reducible rfl
  rotate_left
  · simp only [Act.put, List.setIfInBounds_toArray, List.set_cons_zero, List.set_cons_succ, i64_w, i32_w]
    rfl
  refine take_ (i := 8) (N := some 435) (v := ?_) (a' := ?_) #[true, true, true, true, true, true, true, true, true, true, false, false] rfl rfl (by kernel_rfl) (fun _ _ _ h => h) (Or.inl ⟨by rfl, ?_⟩) hHeld ?_ ?_
  rotate_left
  · rintro w' ⟨s0, s1⟩
    go_simp
    with_reducible rfl
  rotate_left
  · simp only [Act.put, List.setIfInBounds_toArray, List.set_cons_zero, List.set_cons_succ, i64_w, i32_w]
    rfl
  refine one_ (i := 10) (N := some 437) #[true, true, true, true, true, true, true, true, true, true, true, false] rfl rfl (by kernel_rfl) (by decide) (fun K hK => ?_)
  refine goes_ Tryz.func107 (by kernel_rfl) rfl #[.pointer (some ⟨gp, 0, none⟩)] (by rfl) rfl rfl (by simp only [List.map_toArray, List.map_cons, List.map_nil]; rfl) ?_
  with_reducible refine (Params_calls w1.drew H.out.drew (by have := HK.out; omega)).mono ?_
  rintro e w2 ⟨A, c, rfl, hc, hC, hb2⟩
  refine ⟨_, rfl, ?_⟩
  have c22 := (hb2.cell lt).trans c2
  have c23 := (hb2.cell lt).trans c13
  refine hK.out _ _ ⟨c22, c23⟩ (fun hHeld => ?_)
  clear hK K
  refine norm_ (a' := ?_) ?_ ?_
  rotate_left
  · show Act.put _ (some 437) _ = _
    simp only [Act.put, List.setIfInBounds_toArray, List.set_cons_zero, List.set_cons_succ, i64_w, i32_w]
    rfl
  refine last_ (i := 11) (N := some 438) #[true, true, true, true, true, true, true, true, true, true, true, true] rfl rfl (by kernel_rfl) (by decide) (fun K hK => ?_)
  refine call_ 72 #[.int .i64 109, .slice A L.length c, .pointer (some ⟨gb, 0, none⟩)] (by rfl) rfl ?_ ?_
  · rw [lL]
    go_simp
  refine (listen3_calls 109 (L.length + 1) A c L w2 (H.out.drew.below hb2) (by rw [hL, ← hL, lL]; rw [hL]; exact hC) (by rw [lL]; exact hc) (count_f L (by rw [lL]; have := HK.out; omega)) hl).mono ?_
  rintro e w3 ⟨rfl, h3, hb3⟩
  refine ⟨_, rfl, ?_⟩
  refine hK.out _ _ ?_
  clear hK K
  refine norm_ (a' := ?_) ?_ ?_
  rotate_left
  · show Act.put _ (some 438) _ = _
    simp only [Act.put, List.setIfInBounds_toArray, List.set_cons_zero, List.set_cons_succ, i64_w, i32_w]
    rfl
  refine done_ (by kernel_rfl) ?_
  go_wp2_with fail
  go_end0
  refine ⟨rfl, ?_, Below.trans BB.out ((Below.trans (below_drew1 (Below.refl _ _)) (hb2.mono H.out.size)).trans hb3)⟩
  rw [hL] at h3
  exact h3

set_option maxRecDepth 1000000 in
set_option maxHeartbeats 20000000 in
theorem act_disp1 (w : World) (s : Int) (hq : qs.getD 0 0 ≠ 2147483647) (h : PSt B gp gq gd gb go w qs 0 0 3 evs) (hl : evs.length ≤ 100000) :
    Calls Tryz.prog 97 #[.pointer (some ⟨gp, 0, none⟩), .int .u8 4, .int .u8 s, .int .u8 109] w (PPost B gp gq gd gb go w qs 1 109 3 (evs ++ [⟨2, 0, 0, 109, qs.take 1, []⟩])) := by
  have H := Aside0.mk h
  have lq := h.ql
  have c9 := h.c9; have c10 := h.c10; have c11 := h.c11; have c12 := h.c12; have c13 := h.c13; have c14 := h.c14; have c2 := h.c2; have f12 := h.fp 12; have f13 := h.fp 13
  have cq := h.cq 0 (by omega)
  have e1 : (qs.getD 0 0 != 2147483647) = true := by simpa using hq
  generalize qs.getD 0 0 = x at cq e1
  have b109 : bits .or .i64 0 109 = 109 := by decide
  have hn := fun W => neq_nilFunc Tryz.underlying126 (.func 72) #[] #[.pointer (some ⟨gb, 0, none⟩)] W
  clear h
  go_enter Tryz.func97, Tryz.ntmps97
  go_wp2_with fail
  go_quiet (fail)
  go_wp2_with fail
  refine cutW (S := fun W => PSt B gp gq gd gb go W qs 1 109 3 evs ∧ Below B w W) ⟨by repeat (first | with_reducible exact H.out | with_reducible apply PSt.setQ | with_reducible apply PSt.setN | with_reducible apply PSt.setC | with_reducible apply PSt.setS | with_reducible apply PSt.drewN | with_reducible apply PSt.drew), by repeat (first | with_reducible exact Below.refl _ _ | with_reducible apply below_drew1 | with_reducible apply pw_below_drewN | (with_reducible refine Below.setCell ?_ H.out.geQ _) | (with_reducible refine Below.setCell ?_ H.out.geP _))⟩ ?_
  rintro w1 ⟨H1, B1⟩
  replace H1 : PSt B gp gq gd gb go w1 qs ((1 : Nat) : Int) 109 3 evs := H1
  replace H := Aside0.mk H1
  have BB := Aside0.mk B1
  clear c9 c10 c11 c12 c13 c14 c2 f12 f13 cq
  have c2 := H1.c2; have c13 := H1.c13; have lt := blk_lt H1.p
  have nc := World.new_ne w1 _ c2
  obtain ⟨L, hL⟩ : ∃ L, L = qs.take 1 := ⟨_, rfl⟩
  have lL : L.length = 1 := by rw [hL, List.length_take, lq]; rfl
  clear H1 B1
  refine start_ (n := 12) (S := fun w' => w'.cell? ⟨gp, 2, none⟩ = some (.func (.func 72) #[] #[.pointer (some ⟨gb, 0, none⟩)]) ∧ w'.cell? ⟨gp, 13, none⟩ = some (.int .i64 109)) (ds := [11]) #[false, false, false, false, false, false, false, false, false, false, false, false] (by kernel_rfl) rfl rfl ⟨c2, c13⟩ (fun hHeld => ?_)
  refine pure_ (i := 0) (N := some 427) (v := ?_) (a' := ?_) #[true, false, false, false, false, false, false, false, false, false, false, false] rfl rfl (by kernel_rfl) (fun _ _ _ h => h) (Or.inl ⟨by rfl, ?_⟩) ?_ ?_
  rotate_left
  · intro w'
    go_simp
    with_reducible rfl
  rotate_left
  · simp only [Act.put, List.setIfInBounds_toArray, List.set_cons_zero, List.set_cons_succ, i64_w, i32_w]
    rfl
  refine pure_ (i := 1) (N := some 428) (v := ?_) (a' := ?_) #[true, true, false, false, false, false, false, false, false, false, false, false] rfl rfl (by kernel_rfl) (fun _ _ _ h => h) (Or.inl ⟨by rfl, ?_⟩) ?_ ?_
  rotate_left
  · intro w'
    go_simp
    with_reducible rfl
  rotate_left
  · simp only [Act.put, List.setIfInBounds_toArray, List.set_cons_zero, List.set_cons_succ, i64_w, i32_w]
    rfl
  refine pure_ (i := 2) (N := some 429) (v := ?_) (a' := ?_) #[true, true, true, false, false, false, false, false, false, false, false, false] rfl rfl (by kernel_rfl) (fun _ _ _ h => h) (Or.inl ⟨by rfl, ?_⟩) ?_ ?_
  rotate_left
  · intro w'
    go_simp
    with_reducible rfl
  rotate_left
  · simp only [Act.put, List.setIfInBounds_toArray, List.set_cons_zero, List.set_cons_succ, i64_w, i32_w]
    rfl
  refine pure_ (i := 3) (N := some 430) (v := ?_) (a' := ?_) #[true, true, true, true, false, false, false, false, false, false, false, false] rfl rfl (by kernel_rfl) (fun _ _ _ h => h) (Or.inl ⟨by rfl, ?_⟩) ?_ ?_
  rotate_left
  · intro w'
    go_simp
    with_reducible rfl
  rotate_left
  · simp only [Act.put, List.setIfInBounds_toArray, List.set_cons_zero, List.set_cons_succ, i64_w, i32_w]
    rfl
  refine pure_ (i := 5) (N := some 432) (v := ?_) (a' := ?_) #[true, true, true, true, false, true, false, false, false, false, false, false] rfl rfl (by kernel_rfl) (fun _ _ _ h => h) (Or.inl ⟨by rfl, ?_⟩) ?_ ?_
  rotate_left
  · intro w'
    go_simp
    with_reducible rfl
  rotate_left
  · simp only [Act.put, List.setIfInBounds_toArray, List.set_cons_zero, List.set_cons_succ, i64_w, i32_w]
    rfl
  refine pure_ (i := 6) (N := some 433) (v := ?_) (a' := ?_) #[true, true, true, true, false, true, true, false, false, false, false, false] rfl rfl (by kernel_rfl) (fun _ _ _ h => h) (Or.inl ⟨by rfl, ?_⟩) ?_ ?_
  rotate_left
  · intro w'
    go_simp
    with_reducible rfl
  rotate_left
  · simp only [Act.put, List.setIfInBounds_toArray, List.set_cons_zero, List.set_cons_succ, i64_w, i32_w]
    rfl
  refine pure_ (i := 7) (N := some 434) (v := ?_) (a' := ?_) #[true, true, true, true, false, true, true, true, false, false, false, false] rfl rfl (by kernel_rfl) (fun _ _ _ h => h) (Or.inl ⟨by rfl, ?_⟩) ?_ ?_
  rotate_left
  · intro w'
    go_simp
    with_reducible rfl
  rotate_left
  · simp only [Act.put, List.setIfInBounds_toArray, List.set_cons_zero, List.set_cons_succ, i64_w, i32_w]
    rfl
  refine pure_ (i := 9) (N := some 436) (v := ?_) (a' := ?_) #[true, true, true, true, false, true, true, true, false, true, false, false] rfl rfl (by kernel_rfl) (fun _ _ _ h => h) (Or.inl ⟨by rfl, ?_⟩) ?_ ?_
  rotate_left
  · intro w'
    go_simp
    with_reducible rfl
  rotate_left
  · simp only [Act.put, List.setIfInBounds_toArray, List.set_cons_zero, List.set_cons_succ, i64_w, i32_w]
    rfl
  refine take_ (i := 4) (N := some 431) (v := ?_) (a' := ?_) #[true, true, true, true, true, true, true, true, false, true, false, false] rfl rfl (by kernel_rfl) (fun _ _ _ h => h) (Or.inl ⟨by rfl, ?_⟩) hHeld ?_ ?_
  rotate_left
  · rintro w' ⟨s0, s1⟩
    go_simp
    with_reducible rfl
  rotate_left
  · simp only [Act.put, List.setIfInBounds_toArray, List.set_cons_zero, List.set_cons_succ, i64_w, i32_w]
    rfl
  refine take_ (i := 8) (N := some 435) (v := ?_) (a' := ?_) #[true, true, true, true, true, true, true, true, true, true, false, false] rfl rfl (by kernel_rfl) (fun _ _ _ h => h) (Or.inl ⟨by rfl, ?_⟩) hHeld ?_ ?_
  rotate_left
  · rintro w' ⟨s0, s1⟩
    go_simp
    with_reducible rfl
  rotate_left
  · simp only [Act.put, List.setIfInBounds_toArray, List.set_cons_zero, List.set_cons_succ, i64_w, i32_w]
    rfl
  refine one_ (i := 10) (N := some 437) #[true, true, true, true, true, true, true, true, true, true, true, false] rfl rfl (by kernel_rfl) (by decide) (fun K hK => ?_)
  refine goes_ Tryz.func107 (by kernel_rfl) rfl #[.pointer (some ⟨gp, 0, none⟩)] (by rfl) rfl rfl (by simp only [List.map_toArray, List.map_cons, List.map_nil]; rfl) ?_
  with_reducible refine (Params_calls w1.drew H.out.drew (by omega)).mono ?_
  rintro e w2 ⟨A, c, rfl, hc, hC, hb2⟩
  refine ⟨_, rfl, ?_⟩
  have c22 := (hb2.cell lt).trans c2
  have c23 := (hb2.cell lt).trans c13
  refine hK.out _ _ ⟨c22, c23⟩ (fun hHeld => ?_)
  clear hK K
  refine norm_ (a' := ?_) ?_ ?_
  rotate_left
  · show Act.put _ (some 437) _ = _
    simp only [Act.put, List.setIfInBounds_toArray, List.set_cons_zero, List.set_cons_succ, i64_w, i32_w]
    rfl
  refine last_ (i := 11) (N := some 438) #[true, true, true, true, true, true, true, true, true, true, true, true] rfl rfl (by kernel_rfl) (by decide) (fun K hK => ?_)
  refine call_ 72 #[.int .i64 109, .slice A L.length c, .pointer (some ⟨gb, 0, none⟩)] (by rfl) rfl ?_ ?_
  · rw [lL]
    go_simp
  refine (listen3_calls 109 (L.length + 1) A c L w2 (H.out.drew.below hb2) (by rw [hL, ← hL, lL]; rw [hL]; exact hC) (by rw [lL]; exact hc) (count_f L (by rw [lL]; omega)) hl).mono ?_
  rintro e w3 ⟨rfl, h3, hb3⟩
  refine ⟨_, rfl, ?_⟩
  refine hK.out _ _ ?_
  clear hK K
  refine norm_ (a' := ?_) ?_ ?_
  rotate_left
  · show Act.put _ (some 438) _ = _
    simp only [Act.put, List.setIfInBounds_toArray, List.set_cons_zero, List.set_cons_succ, i64_w, i32_w]
    rfl
  refine done_ (by kernel_rfl) ?_
  go_wp2_with fail
  go_end0
  refine ⟨rfl, ?_, Below.trans BB.out ((Below.trans (below_drew1 (Below.refl _ _)) (hb2.mono H.out.size)).trans hb3)⟩
  rw [hL] at h3
  exact h3

set_option maxRecDepth 1000000 in
set_option maxHeartbeats 20000000 in
theorem act_disp0 (w : World) (s : Int) (hq : qs.getD 0 0 = 2147483647) (h : PSt B gp gq gd gb go w qs 0 0 1 evs) (hl : evs.length ≤ 100000) :
    Calls Tryz.prog 97 #[.pointer (some ⟨gp, 0, none⟩), .int .u8 4, .int .u8 s, .int .u8 109] w (PPost B gp gq gd gb go w qs 0 109 1 (evs ++ [⟨2, 0, 0, 109, [], []⟩])) := by
  have H := Aside0.mk h
  have lq := h.ql
  have c9 := h.c9; have c10 := h.c10; have c11 := h.c11; have c12 := h.c12; have c13 := h.c13; have c14 := h.c14; have c2 := h.c2; have f12 := h.fp 12; have f13 := h.fp 13
  have cq := h.cq 0 (by omega)
  rw [hq] at cq
  have b109 : bits .or .i64 0 109 = 109 := by decide
  have hn := fun W => neq_nilFunc Tryz.underlying126 (.func 72) #[] #[.pointer (some ⟨gb, 0, none⟩)] W
  clear h
  go_enter Tryz.func97, Tryz.ntmps97
  go_wp2_with fail
  go_quiet (fail)
  go_wp2_with fail
  refine cutW (S := fun W => PSt B gp gq gd gb go W qs 0 109 1 evs ∧ Below B w W) ⟨by repeat (first | with_reducible exact H.out | with_reducible apply PSt.setQ | with_reducible apply PSt.setN | with_reducible apply PSt.setC | with_reducible apply PSt.setS | with_reducible apply PSt.drewN | with_reducible apply PSt.drew), by repeat (first | with_reducible exact Below.refl _ _ | with_reducible apply below_drew1 | with_reducible apply pw_below_drewN | (with_reducible refine Below.setCell ?_ H.out.geQ _) | (with_reducible refine Below.setCell ?_ H.out.geP _))⟩ ?_
  rintro w1 ⟨H1, B1⟩
  replace H1 : PSt B gp gq gd gb go w1 qs ((0 : Nat) : Int) 109 1 evs := H1
  replace H := Aside0.mk H1
  have BB := Aside0.mk B1
  clear c9 c10 c11 c12 c13 c14 c2 f12 f13 cq
  have c2 := H1.c2; have c13 := H1.c13; have lt := blk_lt H1.p
  have nc := World.new_ne w1 _ c2
  obtain ⟨L, hL⟩ : ∃ L, L = qs.take 0 := ⟨_, rfl⟩
  have lL : L.length = 0 := by rw [hL, List.length_take, lq]; rfl
  clear H1 B1
  refine start_ (n := 12) (S := fun w' => w'.cell? ⟨gp, 2, none⟩ = some (.func (.func 72) #[] #[.pointer (some ⟨gb, 0, none⟩)]) ∧ w'.cell? ⟨gp, 13, none⟩ = some (.int .i64 109)) (ds := [11]) #[false, false, false, false, false, false, false, false, false, false, false, false] (by kernel_rfl) rfl rfl ⟨c2, c13⟩ (fun hHeld => ?_)
  refine pure_ (i := 0) (N := some 427) (v := ?_) (a' := ?_) #[true, false, false, false, false, false, false, false, false, false, false, false] rfl rfl (by kernel_rfl) (fun _ _ _ h => h) (Or.inl ⟨by rfl, ?_⟩) ?_ ?_
  rotate_left
  · intro w'
    go_simp
    with_reducible rfl
  rotate_left
  · simp only [Act.put, List.setIfInBounds_toArray, List.set_cons_zero, List.set_cons_succ, i64_w, i32_w]
    rfl
  refine pure_ (i := 1) (N := some 428) (v := ?_) (a' := ?_) #[true, true, false, false, false, false, false, false, false, false, false, false] rfl rfl (by kernel_rfl) (fun _ _ _ h => h) (Or.inl ⟨by rfl, ?_⟩) ?_ ?_
  rotate_left
  · intro w'
    go_simp
    with_reducible rfl
  rotate_left
  · simp only [Act.put, List.setIfInBounds_toArray, List.set_cons_zero, List.set_cons_succ, i64_w, i32_w]
    rfl
  refine pure_ (i := 2) (N := some 429) (v := ?_) (a' := ?_) #[true, true, true, false, false, false, false, false, false, false, false, false] rfl rfl (by kernel_rfl) (fun _ _ _ h => h) (Or.inl ⟨by rfl, ?_⟩) ?_ ?_
  rotate_left
  · intro w'
    go_simp
    with_reducible rfl
  rotate_left
  · simp only [Act.put, List.setIfInBounds_toArray, List.set_cons_zero, List.set_cons_succ, i64_w, i32_w]
    rfl
  refine pure_ (i := 3) (N := some 430) (v := ?_) (a' := ?_) #[true, true, true, true, false, false, false, false, false, false, false, false] rfl rfl (by kernel_rfl) (fun _ _ _ h => h) (Or.inl ⟨by rfl, ?_⟩) ?_ ?_
  rotate_left
  · intro w'
    go_simp
    with_reducible rfl
  rotate_left
  · simp only [Act.put, List.setIfInBounds_toArray, List.set_cons_zero, List.set_cons_succ, i64_w, i32_w]
    rfl
  refine pure_ (i := 5) (N := some 432) (v := ?_) (a' := ?_) #[true, true, true, true, false, true, false, false, false, false, false, false] rfl rfl (by kernel_rfl) (fun _ _ _ h => h) (Or.inl ⟨by rfl, ?_⟩) ?_ ?_
  rotate_left
  · intro w'
    go_simp
    with_reducible rfl
  rotate_left
  · simp only [Act.put, List.setIfInBounds_toArray, List.set_cons_zero, List.set_cons_succ, i64_w, i32_w]
    rfl
  refine pure_ (i := 6) (N := some 433) (v := ?_) (a' := ?_) #[true, true, true, true, false, true, true, false, false, false, false, false] rfl rfl (by kernel_rfl) (fun _ _ _ h => h) (Or.inl ⟨by rfl, ?_⟩) ?_ ?_
  rotate_left
  · intro w'
    go_simp
    with_reducible rfl
  rotate_left
  · simp only [Act.put, List.setIfInBounds_toArray, List.set_cons_zero, List.set_cons_succ, i64_w, i32_w]
    rfl
  refine pure_ (i := 7) (N := some 434) (v := ?_) (a' := ?_) #[true, true, true, true, false, true, true, true, false, false, false, false] rfl rfl (by kernel_rfl) (fun _ _ _ h => h) (Or.inl ⟨by rfl, ?_⟩) ?_ ?_
  rotate_left
  · intro w'
    go_simp
    with_reducible rfl
  rotate_left
  · simp only [Act.put, List.setIfInBounds_toArray, List.set_cons_zero, List.set_cons_succ, i64_w, i32_w]
    rfl
  refine pure_ (i := 9) (N := some 436) (v := ?_) (a' := ?_) #[true, true, true, true, false, true, true, true, false, true, false, false] rfl rfl (by kernel_rfl) (fun _ _ _ h => h) (Or.inl ⟨by rfl, ?_⟩) ?_ ?_
  rotate_left
  · intro w'
    go_simp
    with_reducible rfl
  rotate_left
  · simp only [Act.put, List.setIfInBounds_toArray, List.set_cons_zero, List.set_cons_succ, i64_w, i32_w]
    rfl
  refine take_ (i := 4) (N := some 431) (v := ?_) (a' := ?_) #[true, true, true, true, true, true, true, true, false, true, false, false] rfl rfl (by kernel_rfl) (fun _ _ _ h => h) (Or.inl ⟨by rfl, ?_⟩) hHeld ?_ ?_
  rotate_left
  · rintro w' ⟨s0, s1⟩
    go_simp
    with_reducible rfl
  rotate_left
  · simp only [Act.put, List.setIfInBounds_toArray, List.set_cons_zero, List.set_cons_succ, i64_w, i32_w]
    rfl
  refine take_ (i := 8) (N := some 435) (v := ?_) (a' := ?_) #[true, true, true, true, true, true, true, true, true, true, false, false] rfl rfl (by kernel_rfl) (fun _ _ _ h => h) (Or.inl ⟨by rfl, ?_⟩) hHeld ?_ ?_
  rotate_left
  · rintro w' ⟨s0, s1⟩
    go_simp
    with_reducible rfl
  rotate_left
  · simp only [Act.put, List.setIfInBounds_toArray, List.set_cons_zero, List.set_cons_succ, i64_w, i32_w]
    rfl
  refine one_ (i := 10) (N := some 437) #[true, true, true, true, true, true, true, true, true, true, true, false] rfl rfl (by kernel_rfl) (by decide) (fun K hK => ?_)
  refine goes_ Tryz.func107 (by kernel_rfl) rfl #[.pointer (some ⟨gp, 0, none⟩)] (by rfl) rfl rfl (by simp only [List.map_toArray, List.map_cons, List.map_nil]; rfl) ?_
  with_reducible refine (Params_calls w1.drew H.out.drew (by omega)).mono ?_
  rintro e w2 ⟨A, c, rfl, hc, hC, hb2⟩
  refine ⟨_, rfl, ?_⟩
  have c22 := (hb2.cell lt).trans c2
  have c23 := (hb2.cell lt).trans c13
  refine hK.out _ _ ⟨c22, c23⟩ (fun hHeld => ?_)
  clear hK K
  refine norm_ (a' := ?_) ?_ ?_
  rotate_left
  · show Act.put _ (some 437) _ = _
    simp only [Act.put, List.setIfInBounds_toArray, List.set_cons_zero, List.set_cons_succ, i64_w, i32_w]
    rfl
  refine last_ (i := 11) (N := some 438) #[true, true, true, true, true, true, true, true, true, true, true, true] rfl rfl (by kernel_rfl) (by decide) (fun K hK => ?_)
  refine call_ 72 #[.int .i64 109, .slice A L.length c, .pointer (some ⟨gb, 0, none⟩)] (by rfl) rfl ?_ ?_
  · rw [lL]
    go_simp
  refine (listen3_calls 109 (L.length + 1) A c L w2 (H.out.drew.below hb2) (by rw [hL, ← hL, lL]; rw [hL]; exact hC) (by rw [lL]; exact hc) (count_f L (by rw [lL]; omega)) hl).mono ?_
  rintro e w3 ⟨rfl, h3, hb3⟩
  refine ⟨_, rfl, ?_⟩
  refine hK.out _ _ ?_
  clear hK K
  refine norm_ (a' := ?_) ?_ ?_
  rotate_left
  · show Act.put _ (some 438) _ = _
    simp only [Act.put, List.setIfInBounds_toArray, List.set_cons_zero, List.set_cons_succ, i64_w, i32_w]
    rfl
  refine done_ (by kernel_rfl) ?_
  go_wp2_with fail
  go_end0
  refine ⟨rfl, ?_, Below.trans BB.out ((Below.trans (below_drew1 (Below.refl _ _)) (hb2.mono H.out.size)).trans hb3)⟩
  rw [hL] at h3
  exact h3
end
end Go.Proofs.YtjdpkhnpgdangaaGreatDoor.PQ

