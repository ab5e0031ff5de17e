/- advance and Advance: one byte of a styled text. -/
import Derived.Test.YtjdpkhnpgdangaaGreatDoorPa4
namespace Go.Proofs.YtjdpkhnpgdangaaGreatDoor.PQ
open Go.RowKit Go.Proofs.YtjdpkhnpgdangaaGreatDoorW.PrintWords Go.Proofs.YtjdpkhnpgdangaaGreatDoorW.PrintLast Go.Proofs.YtjdpkhnpgdangaaGreatDoorW.PrintMore
set_option linter.unusedVariables false
set_option linter.unusedSimpArgs false
theorem trans_at (s b : Nat) (w : World) (hd : tdom s b = true) (S B' x y : Int) (hS : (s : Int) = S) (hB : (b : Int) = B') (hx : ((tz s b % 16 : Nat) : Int) = x) (hy : ((tz s b / 16 : Nat) : Int) = y) :
    Calls Tryz.prog 96 #[.agg #[], .int .u8 S, .int .u8 B'] w (fun e w' => e = .returned (.tuple #[.int .u8 x, .int .u8 y]) ∧ Below w.heap.size w w') := by
  subst hS hB hx hy
  exact Transition_calls s b w hd
def APost (B gp gq : Nat) (gd : GX) (gb go : Nat) (w : World) (qs : List Int) (n cmd st : Int) (evs : List S77) (e : Ending) (w' : World) : Prop :=
  ∃ a, e = .returned (.int .u8 a) ∧ PSt B gp gq gd gb go w' qs n cmd st evs ∧ Below B w w'
section
variable {B gp gq : Nat} {gd : GX} {gb go : Nat} {qs : List Int} {n cmd st : Int} {evs : List S77}
set_option maxRecDepth 1000000 in
set_option maxHeartbeats 20000000 in
theorem adv_print (w : World) (b : Nat) (h0 : 32 ≤ b) (h1 : b < 127) (h : PSt B gp gq gd gb go w qs n cmd 0 evs) (hl : evs.length ≤ 100000) :
    Calls Tryz.prog 81 #[.pointer (some ⟨gp, 0, none⟩), .int .u8 (b : Int)] w (APost B gp gq gd gb go w qs n b 0 (evs ++ [⟨0, b, 0, 0, [], []⟩])) := by
  have H := Aside0.mk h
  have c14 := h.c14; have lt := blk_lt h.p
  have HD : tdom 0 b = true := by simp [tdom]; omega
  have hz : tz 0 b = 144 := by unfold tz; rw [if_pos rfl, if_neg (by omega)]
  have HX : ((tz 0 b % 16 : Nat) : Int) = 0 := by rw [hz]; rfl
  have HY : ((tz 0 b / 16 : Nat) : Int) = 9 := by rw [hz]; rfl
  have e1 : ((b : Int) == 27) = false := by simp; omega
  clear hz
  clear h
  go_enter Tryz.func81, Tryz.ntmps81
  go_wp2_with fail
  refine start_ (n := 12) (S := fun w' => w'.cell? ⟨gp, 14, none⟩ = some (.int .u8 0)) (ds := []) #[false, false, false, false, false, false, false, false, false, false, false, false] (by kernel_rfl) rfl rfl (c14) (fun hHeld => ?_)
  refine pure_ (i := 1) (N := some 9) (v := ?_) (a' := ?_) #[false, true, false, false, false, false, false, false, false, false, false, false] rfl rfl (by kernel_rfl) (fun _ _ _ h => h) (Or.inl ⟨by rfl, ?_⟩) ?_ ?_
  rotate_left
  · intro w'
    go_simp
    with_reducible rfl
  rotate_left
  · simp only [Act.put, List.setIfInBounds_toArray, List.set_cons_zero, List.set_cons_succ, i64_w, i32_w]
    rfl
  refine pure_ (i := 2) (N := some 10) (v := ?_) (a' := ?_) #[false, true, true, false, false, false, false, false, false, false, false, false] rfl rfl (by kernel_rfl) (fun _ _ _ h => h) (Or.inl ⟨by rfl, ?_⟩) ?_ ?_
  rotate_left
  · intro w'
    go_simp
    with_reducible rfl
  rotate_left
  · simp only [Act.put, List.setIfInBounds_toArray, List.set_cons_zero, List.set_cons_succ, i64_w, i32_w]
    rfl
  refine pure_ (i := 3) (N := some 11) (v := ?_) (a' := ?_) #[false, true, true, true, false, false, false, false, false, false, false, false] rfl rfl (by kernel_rfl) (fun _ _ _ h => h) (Or.inl ⟨by rfl, ?_⟩) ?_ ?_
  rotate_left
  · intro w'
    go_simp
    with_reducible rfl
  rotate_left
  · simp only [Act.put, List.setIfInBounds_toArray, List.set_cons_zero, List.set_cons_succ, i64_w, i32_w]
    rfl
  refine pure_ (i := 5) (N := some 13) (v := ?_) (a' := ?_) #[false, true, true, true, false, true, false, false, false, false, false, false] rfl rfl (by kernel_rfl) (fun _ _ _ h => h) (Or.inl ⟨by rfl, ?_⟩) ?_ ?_
  rotate_left
  · intro w'
    go_simp
    with_reducible rfl
  rotate_left
  · simp only [Act.put, List.setIfInBounds_toArray, List.set_cons_zero, List.set_cons_succ, i64_w, i32_w]
    rfl
  refine take_ (i := 4) (N := some 12) (v := ?_) (a' := ?_) #[false, true, true, true, true, true, false, false, false, false, false, false] rfl rfl (by kernel_rfl) (fun _ _ _ h => h) (Or.inl ⟨by rfl, ?_⟩) hHeld ?_ ?_
  rotate_left
  · intro w' s0
    go_simp
    with_reducible rfl
  rotate_left
  · simp only [Act.put, List.setIfInBounds_toArray, List.set_cons_zero, List.set_cons_succ, i64_w, i32_w]
    rfl
  refine one_ (i := 0) (N := some 8) #[true, true, true, true, true, true, false, false, false, false, false, false] rfl rfl (by kernel_rfl) (by decide) (fun K hK => ?_)
  refine goes_ Tryz.func95 (by kernel_rfl) rfl #[] (by rfl) rfl rfl (by simp) ?_
  with_reducible refine (Table_calls w.drew).mono ?_
  rintro e w1 ⟨rfl, hb1⟩
  refine ⟨_, rfl, ?_⟩
  have c14a := (hb1.cell lt).trans c14
  have lt1 := Nat.lt_of_lt_of_le lt hb1.size
  refine hK.out _ _ (c14a) (fun hHeld => ?_)
  clear hK K
  refine norm_ (a' := ?_) ?_ ?_
  rotate_left
  · show Act.put _ (some 8) _ = _
    simp only [Act.put, List.setIfInBounds_toArray, List.set_cons_zero, List.set_cons_succ, i64_w, i32_w]
    rfl
  refine one_ (i := 6) (N := some 14) #[true, true, true, true, true, true, true, false, false, false, false, false] rfl rfl (by kernel_rfl) (by decide) (fun K hK => ?_)
  refine goes_ Tryz.func96 (by kernel_rfl) rfl #[.agg #[], .int .u8 0, .int .u8 (b : Int)] (by rfl) rfl rfl (by simp only [List.map_toArray, List.map_cons, List.map_nil]; rfl) ?_
  with_reducible refine (trans_at 0 b w1 HD 0 (b : Int) 0 9 rfl rfl HX HY).mono ?_
  rintro e w2 ⟨rfl, hb2⟩
  refine ⟨_, rfl, ?_⟩
  have c14b := (hb2.cell lt1).trans c14a
  refine hK.out _ _ (c14b) (fun hHeld => ?_)
  clear hK K
  refine norm_ (a' := ?_) ?_ ?_
  rotate_left
  · show Act.put _ (some 14) _ = _
    simp only [Act.put, List.setIfInBounds_toArray, List.set_cons_zero, List.set_cons_succ, i64_w, i32_w]
    rfl
  refine pure_ (i := 7) (N := some 7) (v := ?_) (a' := ?_) #[true, true, true, true, true, true, true, true, false, false, false, false] rfl rfl (by kernel_rfl) (fun _ _ _ h => h) (Or.inl ⟨by rfl, ?_⟩) ?_ ?_
  rotate_left
  · intro w'
    go_simp
    with_reducible rfl
  rotate_left
  · simp only [Act.put, List.setIfInBounds_toArray, List.set_cons_zero, List.set_cons_succ, i64_w, i32_w]
    rfl
  refine pure_ (i := 8) (N := some 15) (v := ?_) (a' := ?_) #[true, true, true, true, true, true, true, true, true, false, false, false] rfl rfl (by kernel_rfl) (fun _ _ _ h => h) (Or.inl ⟨by rfl, ?_⟩) ?_ ?_
  rotate_left
  · intro w'
    go_simp
    with_reducible rfl
  rotate_left
  · simp only [Act.put, List.setIfInBounds_toArray, List.set_cons_zero, List.set_cons_succ, i64_w, i32_w]
    rfl
  refine pure_ (i := 9) (N := some 16) (v := ?_) (a' := ?_) #[true, true, true, true, true, true, true, true, true, true, false, false] rfl rfl (by kernel_rfl) (fun _ _ _ h => h) (Or.inl ⟨by rfl, ?_⟩) ?_ ?_
  rotate_left
  · intro w'
    go_simp
    with_reducible rfl
  rotate_left
  · simp only [Act.put, List.setIfInBounds_toArray, List.set_cons_zero, List.set_cons_succ, i64_w, i32_w]
    rfl
  refine pure_ (i := 10) (N := some 5) (v := ?_) (a' := ?_) #[true, true, true, true, true, true, true, true, true, true, true, false] rfl rfl (by kernel_rfl) (fun _ _ _ h => h) (Or.inl ⟨by rfl, ?_⟩) ?_ ?_
  rotate_left
  · intro w'
    go_simp
    with_reducible rfl
  rotate_left
  · simp only [Act.put, List.setIfInBounds_toArray, List.set_cons_zero, List.set_cons_succ, i64_w, i32_w]
    rfl
  refine pure_ (i := 11) (N := some 6) (v := ?_) (a' := ?_) #[true, true, true, true, true, true, true, true, true, true, true, true] rfl rfl (by kernel_rfl) (fun _ _ _ h => h) (Or.inl ⟨by rfl, ?_⟩) ?_ ?_
  rotate_left
  · intro w'
    go_simp
    with_reducible rfl
  rotate_left
  · simp only [Act.put, List.setIfInBounds_toArray, List.set_cons_zero, List.set_cons_succ, i64_w, i32_w]
    rfl
  refine done_ (by kernel_rfl) ?_
  have H2 := Aside0.mk ((H.out.drew.below hb1).below hb2)
  have BB := Aside0.mk ((Below.trans (below_drew1 (Below.refl _ _)) (hb1.mono H.out.size)).trans (hb2.mono (Nat.le_trans H.out.size hb1.size)) : Below B w w2)
  clear c14 c14a lt lt1 hb1 hb2
  go_wp2_with (go_at_call 97; refine (act_print w2 _ b H2.out (by omega) (by omega) hl).mono ?_; rintro e w4 ⟨rfl, h4, hb4⟩; have c14d := h4.c14; have f14 := h4.fp 14; have H4 := Aside0.mk h4; have B4 := Aside0.mk (Below.trans BB.out hb4); clear h4 hb4)
  go_ret
  refine ⟨_, rfl, by repeat (first | with_reducible exact H4.out | with_reducible apply PSt.setQ | with_reducible apply PSt.setN | with_reducible apply PSt.setC | with_reducible apply PSt.setS | with_reducible apply PSt.drewN | with_reducible apply PSt.drew), Below.trans B4.out (by repeat (first | with_reducible exact Below.refl _ _ | with_reducible apply below_drew1 | with_reducible apply pw_below_drewN | (with_reducible refine Below.setCell ?_ H4.out.geQ _) | (with_reducible refine Below.setCell ?_ H4.out.geP _)))⟩
set_option maxRecDepth 1000000 in
set_option maxHeartbeats 20000000 in
theorem adv_esc (w : World)  (h : PSt B gp gq gd gb go w qs n cmd 0 evs) (hl : evs.length ≤ 100000) :
    Calls Tryz.prog 81 #[.pointer (some ⟨gp, 0, none⟩), .int .u8 27] w (APost B gp gq gd gb go w (qs.set 0 2147483647) 0 0 8 evs) := by
  have H := Aside0.mk h
  have c14 := h.c14; have lt := blk_lt h.p
  have HD : tdom 0 27 = true := by decide
  have HX : ((tz 0 27 % 16 : Nat) : Int) = 8 := by decide
  have HY : ((tz 0 27 / 16 : Nat) : Int) = 1 := by decide
  clear h
  go_enter Tryz.func81, Tryz.ntmps81
  go_wp2_with fail
  refine start_ (n := 12) (S := fun w' => w'.cell? ⟨gp, 14, none⟩ = some (.int .u8 0)) (ds := []) #[false, false, false, false, false, false, false, false, false, false, false, false] (by kernel_rfl) rfl rfl (c14) (fun hHeld => ?_)
  refine pure_ (i := 1) (N := some 9) (v := ?_) (a' := ?_) #[false, true, false, false, false, false, false, false, false, false, false, false] rfl rfl (by kernel_rfl) (fun _ _ _ h => h) (Or.inl ⟨by rfl, ?_⟩) ?_ ?_
  rotate_left
  · intro w'
    go_simp
    with_reducible rfl
  rotate_left
  · simp only [Act.put, List.setIfInBounds_toArray, List.set_cons_zero, List.set_cons_succ, i64_w, i32_w]
    rfl
  refine pure_ (i := 2) (N := some 10) (v := ?_) (a' := ?_) #[false, true, true, false, false, false, false, false, false, false, false, false] rfl rfl (by kernel_rfl) (fun _ _ _ h => h) (Or.inl ⟨by rfl, ?_⟩) ?_ ?_
  rotate_left
  · intro w'
    go_simp
    with_reducible rfl
  rotate_left
  · simp only [Act.put, List.setIfInBounds_toArray, List.set_cons_zero, List.set_cons_succ, i64_w, i32_w]
    rfl
  refine pure_ (i := 3) (N := some 11) (v := ?_) (a' := ?_) #[false, true, true, true, false, false, false, false, false, false, false, false] rfl rfl (by kernel_rfl) (fun _ _ _ h => h) (Or.inl ⟨by rfl, ?_⟩) ?_ ?_
  rotate_left
  · intro w'
    go_simp
    with_reducible rfl
  rotate_left
  · simp only [Act.put, List.setIfInBounds_toArray, List.set_cons_zero, List.set_cons_succ, i64_w, i32_w]
    rfl
  refine pure_ (i := 5) (N := some 13) (v := ?_) (a' := ?_) #[false, true, true, true, false, true, false, false, false, false, false, false] rfl rfl (by kernel_rfl) (fun _ _ _ h => h) (Or.inl ⟨by rfl, ?_⟩) ?_ ?_
  rotate_left
  · intro w'
    go_simp
    with_reducible rfl
  rotate_left
  · simp only [Act.put, List.setIfInBounds_toArray, List.set_cons_zero, List.set_cons_succ, i64_w, i32_w]
    rfl
  refine take_ (i := 4) (N := some 12) (v := ?_) (a' := ?_) #[false, true, true, true, true, true, false, false, false, false, false, false] rfl rfl (by kernel_rfl) (fun _ _ _ h => h) (Or.inl ⟨by rfl, ?_⟩) hHeld ?_ ?_
  rotate_left
  · intro w' s0
    go_simp
    with_reducible rfl
  rotate_left
  · simp only [Act.put, List.setIfInBounds_toArray, List.set_cons_zero, List.set_cons_succ, i64_w, i32_w]
    rfl
  refine one_ (i := 0) (N := some 8) #[true, true, true, true, true, true, false, false, false, false, false, false] rfl rfl (by kernel_rfl) (by decide) (fun K hK => ?_)
  refine goes_ Tryz.func95 (by kernel_rfl) rfl #[] (by rfl) rfl rfl (by simp) ?_
  with_reducible refine (Table_calls w.drew).mono ?_
  rintro e w1 ⟨rfl, hb1⟩
  refine ⟨_, rfl, ?_⟩
  have c14a := (hb1.cell lt).trans c14
  have lt1 := Nat.lt_of_lt_of_le lt hb1.size
  refine hK.out _ _ (c14a) (fun hHeld => ?_)
  clear hK K
  refine norm_ (a' := ?_) ?_ ?_
  rotate_left
  · show Act.put _ (some 8) _ = _
    simp only [Act.put, List.setIfInBounds_toArray, List.set_cons_zero, List.set_cons_succ, i64_w, i32_w]
    rfl
  refine one_ (i := 6) (N := some 14) #[true, true, true, true, true, true, true, false, false, false, false, false] rfl rfl (by kernel_rfl) (by decide) (fun K hK => ?_)
  refine goes_ Tryz.func96 (by kernel_rfl) rfl #[.agg #[], .int .u8 0, .int .u8 27] (by rfl) rfl rfl (by simp only [List.map_toArray, List.map_cons, List.map_nil]; rfl) ?_
  with_reducible refine (trans_at 0 27 w1 HD 0 27 8 1 rfl rfl HX HY).mono ?_
  rintro e w2 ⟨rfl, hb2⟩
  refine ⟨_, rfl, ?_⟩
  have c14b := (hb2.cell lt1).trans c14a
  refine hK.out _ _ (c14b) (fun hHeld => ?_)
  clear hK K
  refine norm_ (a' := ?_) ?_ ?_
  rotate_left
  · show Act.put _ (some 14) _ = _
    simp only [Act.put, List.setIfInBounds_toArray, List.set_cons_zero, List.set_cons_succ, i64_w, i32_w]
    rfl
  refine pure_ (i := 7) (N := some 7) (v := ?_) (a' := ?_) #[true, true, true, true, true, true, true, true, false, false, false, false] rfl rfl (by kernel_rfl) (fun _ _ _ h => h) (Or.inl ⟨by rfl, ?_⟩) ?_ ?_
  rotate_left
  · intro w'
    go_simp
    with_reducible rfl
  rotate_left
  · simp only [Act.put, List.setIfInBounds_toArray, List.set_cons_zero, List.set_cons_succ, i64_w, i32_w]
    rfl
  refine pure_ (i := 8) (N := some 15) (v := ?_) (a' := ?_) #[true, true, true, true, true, true, true, true, true, false, false, false] rfl rfl (by kernel_rfl) (fun _ _ _ h => h) (Or.inl ⟨by rfl, ?_⟩) ?_ ?_
  rotate_left
  · intro w'
    go_simp
    with_reducible rfl
  rotate_left
  · simp only [Act.put, List.setIfInBounds_toArray, List.set_cons_zero, List.set_cons_succ, i64_w, i32_w]
    rfl
  refine pure_ (i := 9) (N := some 16) (v := ?_) (a' := ?_) #[true, true, true, true, true, true, true, true, true, true, false, false] rfl rfl (by kernel_rfl) (fun _ _ _ h => h) (Or.inl ⟨by rfl, ?_⟩) ?_ ?_
  rotate_left
  · intro w'
    go_simp
    with_reducible rfl
  rotate_left
  · simp only [Act.put, List.setIfInBounds_toArray, List.set_cons_zero, List.set_cons_succ, i64_w, i32_w]
    rfl
  refine pure_ (i := 10) (N := some 5) (v := ?_) (a' := ?_) #[true, true, true, true, true, true, true, true, true, true, true, false] rfl rfl (by kernel_rfl) (fun _ _ _ h => h) (Or.inl ⟨by rfl, ?_⟩) ?_ ?_
  rotate_left
  · intro w'
    go_simp
    with_reducible rfl
  rotate_left
  · simp only [Act.put, List.setIfInBounds_toArray, List.set_cons_zero, List.set_cons_succ, i64_w, i32_w]
    rfl
  refine pure_ (i := 11) (N := some 6) (v := ?_) (a' := ?_) #[true, true, true, true, true, true, true, true, true, true, true, true] rfl rfl (by kernel_rfl) (fun _ _ _ h => h) (Or.inl ⟨by rfl, ?_⟩) ?_ ?_
  rotate_left
  · intro w'
    go_simp
    with_reducible rfl
  rotate_left
  · simp only [Act.put, List.setIfInBounds_toArray, List.set_cons_zero, List.set_cons_succ, i64_w, i32_w]
    rfl
  refine done_ (by kernel_rfl) ?_
  have H2 := Aside0.mk ((H.out.drew.below hb1).below hb2)
  have BB := Aside0.mk ((Below.trans (below_drew1 (Below.refl _ _)) (hb1.mono H.out.size)).trans (hb2.mono (Nat.le_trans H.out.size hb1.size)) : Below B w w2)
  clear c14 c14a lt lt1 hb1 hb2
  go_wp2_with (go_at_call 97; refine (act_clear w2 _ _ H2.out).mono ?_; rintro e w4 ⟨rfl, h4, hb4⟩; have c14d := h4.c14; have f14 := h4.fp 14; have H4 := Aside0.mk h4; have B4 := Aside0.mk (Below.trans BB.out hb4); clear h4 hb4)
  go_ret
  refine ⟨_, rfl, by repeat (first | with_reducible exact H4.out | with_reducible apply PSt.setQ | with_reducible apply PSt.setN | with_reducible apply PSt.setC | with_reducible apply PSt.setS | with_reducible apply PSt.drewN | with_reducible apply PSt.drew), Below.trans B4.out (by repeat (first | with_reducible exact Below.refl _ _ | with_reducible apply below_drew1 | with_reducible apply pw_below_drewN | (with_reducible refine Below.setCell ?_ H4.out.geQ _) | (with_reducible refine Below.setCell ?_ H4.out.geP _)))⟩
set_option maxRecDepth 1000000 in
set_option maxHeartbeats 20000000 in
theorem adv_bra (w : World)  (h : PSt B gp gq gd gb go w qs n cmd 8 evs) (hl : evs.length ≤ 100000) :
    Calls Tryz.prog 81 #[.pointer (some ⟨gp, 0, none⟩), .int .u8 91] w (APost B gp gq gd gb go w (qs.set 0 2147483647) 0 0 1 evs) := by
  have H := Aside0.mk h
  have c14 := h.c14; have lt := blk_lt h.p
  have HD : tdom 8 91 = true := by decide
  have HX : ((tz 8 91 % 16 : Nat) : Int) = 1 := by decide
  have HY : ((tz 8 91 / 16 : Nat) : Int) = 1 := by decide
  clear h
  go_enter Tryz.func81, Tryz.ntmps81
  go_wp2_with fail
  refine start_ (n := 12) (S := fun w' => w'.cell? ⟨gp, 14, none⟩ = some (.int .u8 8)) (ds := []) #[false, false, false, false, false, false, false, false, false, false, false, false] (by kernel_rfl) rfl rfl (c14) (fun hHeld => ?_)
  refine pure_ (i := 1) (N := some 9) (v := ?_) (a' := ?_) #[false, true, false, false, false, false, false, false, false, false, false, false] rfl rfl (by kernel_rfl) (fun _ _ _ h => h) (Or.inl ⟨by rfl, ?_⟩) ?_ ?_
  rotate_left
  · intro w'
    go_simp
    with_reducible rfl
  rotate_left
  · simp only [Act.put, List.setIfInBounds_toArray, List.set_cons_zero, List.set_cons_succ, i64_w, i32_w]
    rfl
  refine pure_ (i := 2) (N := some 10) (v := ?_) (a' := ?_) #[false, true, true, false, false, false, false, false, false, false, false, false] rfl rfl (by kernel_rfl) (fun _ _ _ h => h) (Or.inl ⟨by rfl, ?_⟩) ?_ ?_
  rotate_left
  · intro w'
    go_simp
    with_reducible rfl
  rotate_left
  · simp only [Act.put, List.setIfInBounds_toArray, List.set_cons_zero, List.set_cons_succ, i64_w, i32_w]
    rfl
  refine pure_ (i := 3) (N := some 11) (v := ?_) (a' := ?_) #[false, true, true, true, false, false, false, false, false, false, false, false] rfl rfl (by kernel_rfl) (fun _ _ _ h => h) (Or.inl ⟨by rfl, ?_⟩) ?_ ?_
  rotate_left
  · intro w'
    go_simp
    with_reducible rfl
  rotate_left
  · simp only [Act.put, List.setIfInBounds_toArray, List.set_cons_zero, List.set_cons_succ, i64_w, i32_w]
    rfl
  refine pure_ (i := 5) (N := some 13) (v := ?_) (a' := ?_) #[false, true, true, true, false, true, false, false, false, false, false, false] rfl rfl (by kernel_rfl) (fun _ _ _ h => h) (Or.inl ⟨by rfl, ?_⟩) ?_ ?_
  rotate_left
  · intro w'
    go_simp
    with_reducible rfl
  rotate_left
  · simp only [Act.put, List.setIfInBounds_toArray, List.set_cons_zero, List.set_cons_succ, i64_w, i32_w]
    rfl
  refine take_ (i := 4) (N := some 12) (v := ?_) (a' := ?_) #[false, true, true, true, true, true, false, false, false, false, false, false] rfl rfl (by kernel_rfl) (fun _ _ _ h => h) (Or.inl ⟨by rfl, ?_⟩) hHeld ?_ ?_
  rotate_left
  · intro w' s0
    go_simp
    with_reducible rfl
  rotate_left
  · simp only [Act.put, List.setIfInBounds_toArray, List.set_cons_zero, List.set_cons_succ, i64_w, i32_w]
    rfl
  refine one_ (i := 0) (N := some 8) #[true, true, true, true, true, true, false, false, false, false, false, false] rfl rfl (by kernel_rfl) (by decide) (fun K hK => ?_)
  refine goes_ Tryz.func95 (by kernel_rfl) rfl #[] (by rfl) rfl rfl (by simp) ?_
  with_reducible refine (Table_calls w.drew).mono ?_
  rintro e w1 ⟨rfl, hb1⟩
  refine ⟨_, rfl, ?_⟩
  have c14a := (hb1.cell lt).trans c14
  have lt1 := Nat.lt_of_lt_of_le lt hb1.size
  refine hK.out _ _ (c14a) (fun hHeld => ?_)
  clear hK K
  refine norm_ (a' := ?_) ?_ ?_
  rotate_left
  · show Act.put _ (some 8) _ = _
    simp only [Act.put, List.setIfInBounds_toArray, List.set_cons_zero, List.set_cons_succ, i64_w, i32_w]
    rfl
  refine one_ (i := 6) (N := some 14) #[true, true, true, true, true, true, true, false, false, false, false, false] rfl rfl (by kernel_rfl) (by decide) (fun K hK => ?_)
  refine goes_ Tryz.func96 (by kernel_rfl) rfl #[.agg #[], .int .u8 8, .int .u8 91] (by rfl) rfl rfl (by simp only [List.map_toArray, List.map_cons, List.map_nil]; rfl) ?_
  with_reducible refine (trans_at 8 91 w1 HD 8 91 1 1 rfl rfl HX HY).mono ?_
  rintro e w2 ⟨rfl, hb2⟩
  refine ⟨_, rfl, ?_⟩
  have c14b := (hb2.cell lt1).trans c14a
  refine hK.out _ _ (c14b) (fun hHeld => ?_)
  clear hK K
  refine norm_ (a' := ?_) ?_ ?_
  rotate_left
  · show Act.put _ (some 14) _ = _
    simp only [Act.put, List.setIfInBounds_toArray, List.set_cons_zero, List.set_cons_succ, i64_w, i32_w]
    rfl
  refine pure_ (i := 7) (N := some 7) (v := ?_) (a' := ?_) #[true, true, true, true, true, true, true, true, false, false, false, false] rfl rfl (by kernel_rfl) (fun _ _ _ h => h) (Or.inl ⟨by rfl, ?_⟩) ?_ ?_
  rotate_left
  · intro w'
    go_simp
    with_reducible rfl
  rotate_left
  · simp only [Act.put, List.setIfInBounds_toArray, List.set_cons_zero, List.set_cons_succ, i64_w, i32_w]
    rfl
  refine pure_ (i := 8) (N := some 15) (v := ?_) (a' := ?_) #[true, true, true, true, true, true, true, true, true, false, false, false] rfl rfl (by kernel_rfl) (fun _ _ _ h => h) (Or.inl ⟨by rfl, ?_⟩) ?_ ?_
  rotate_left
  · intro w'
    go_simp
    with_reducible rfl
  rotate_left
  · simp only [Act.put, List.setIfInBounds_toArray, List.set_cons_zero, List.set_cons_succ, i64_w, i32_w]
    rfl
  refine pure_ (i := 9) (N := some 16) (v := ?_) (a' := ?_) #[true, true, true, true, true, true, true, true, true, true, false, false] rfl rfl (by kernel_rfl) (fun _ _ _ h => h) (Or.inl ⟨by rfl, ?_⟩) ?_ ?_
  rotate_left
  · intro w'
    go_simp
    with_reducible rfl
  rotate_left
  · simp only [Act.put, List.setIfInBounds_toArray, List.set_cons_zero, List.set_cons_succ, i64_w, i32_w]
    rfl
  refine pure_ (i := 10) (N := some 5) (v := ?_) (a' := ?_) #[true, true, true, true, true, true, true, true, true, true, true, false] rfl rfl (by kernel_rfl) (fun _ _ _ h => h) (Or.inl ⟨by rfl, ?_⟩) ?_ ?_
  rotate_left
  · intro w'
    go_simp
    with_reducible rfl
  rotate_left
  · simp only [Act.put, List.setIfInBounds_toArray, List.set_cons_zero, List.set_cons_succ, i64_w, i32_w]
    rfl
  refine pure_ (i := 11) (N := some 6) (v := ?_) (a' := ?_) #[true, true, true, true, true, true, true, true, true, true, true, true] rfl rfl (by kernel_rfl) (fun _ _ _ h => h) (Or.inl ⟨by rfl, ?_⟩) ?_ ?_
  rotate_left
  · intro w'
    go_simp
    with_reducible rfl
  rotate_left
  · simp only [Act.put, List.setIfInBounds_toArray, List.set_cons_zero, List.set_cons_succ, i64_w, i32_w]
    rfl
  refine done_ (by kernel_rfl) ?_
  have H2 := Aside0.mk ((H.out.drew.below hb1).below hb2)
  have BB := Aside0.mk ((Below.trans (below_drew1 (Below.refl _ _)) (hb1.mono H.out.size)).trans (hb2.mono (Nat.le_trans H.out.size hb1.size)) : Below B w w2)
  clear c14 c14a lt lt1 hb1 hb2
  go_wp2_with (first | (go_at_call 97; refine (act_clear w2 _ _ H2.out).mono ?_; rintro e w4 ⟨rfl, h4, hb4⟩; have c14d := h4.c14; have H4 := Aside0.mk h4; have B4 := Aside0.mk (Below.trans BB.out hb4); clear h4 hb4) | (go_at_call 97; refine (act_clear w4 _ _ H4.out).mono ?_; rintro e w5 ⟨rfl, h5, hb5⟩; have c14e := h5.c14; have f14 := h5.fp 14; have H5 := Aside0.mk h5; have B5 := Aside0.mk (Below.trans B4.out hb5); clear h5 hb5))
  go_ret
  refine ⟨_, rfl, by rw [← List.set_set (a := 2147483647) (b := 2147483647)]; repeat (first | with_reducible exact H5.out | with_reducible apply PSt.setQ | with_reducible apply PSt.setN | with_reducible apply PSt.setC | with_reducible apply PSt.setS | with_reducible apply PSt.drewN | with_reducible apply PSt.drew), Below.trans B5.out (by repeat (first | with_reducible exact Below.refl _ _ | with_reducible apply below_drew1 | with_reducible apply pw_below_drewN | (with_reducible refine Below.setCell ?_ H5.out.geQ _) | (with_reducible refine Below.setCell ?_ H5.out.geP _)))⟩
set_option maxRecDepth 1000000 in
set_option maxHeartbeats 20000000 in
theorem adv_first1 (w : World) (b : Nat) (h0 : 48 ≤ b) (h1 : b ≤ 57) (m : Nat) (hm : m < 32) (hx : qs.getD m 0 = 2147483647)  (h : PSt B gp gq gd gb go w qs m cmd 1 evs) (hl : evs.length ≤ 100000) :
    Calls Tryz.prog 81 #[.pointer (some ⟨gp, 0, none⟩), .int .u8 (b : Int)] w (APost B gp gq gd gb go w (qs.set m ((b : Int) - 48)) m cmd 3 evs) := by
  have H := Aside0.mk h
  have c14 := h.c14; have lt := blk_lt h.p
  have HD : tdom 1 b = true := by simp [tdom]; omega
  have hz : tz 1 b = 131 := by unfold tz; rw [if_neg (by omega), if_neg (by omega), if_neg (by omega)]
  have HX : ((tz 1 b % 16 : Nat) : Int) = 3 := by rw [hz]; rfl
  have HY : ((tz 1 b / 16 : Nat) : Int) = 8 := by rw [hz]; rfl
  have e1 : ((b : Int) == 27) = false := by simp; omega
  clear hz
  clear h
  go_enter Tryz.func81, Tryz.ntmps81
  go_wp2_with fail
  refine start_ (n := 12) (S := fun w' => w'.cell? ⟨gp, 14, none⟩ = some (.int .u8 1)) (ds := []) #[false, false, false, false, false, false, false, false, false, false, false, false] (by kernel_rfl) rfl rfl (c14) (fun hHeld => ?_)
  refine pure_ (i := 1) (N := some 9) (v := ?_) (a' := ?_) #[false, true, false, false, false, false, false, false, false, false, false, false] rfl rfl (by kernel_rfl) (fun _ _ _ h => h) (Or.inl ⟨by rfl, ?_⟩) ?_ ?_
  rotate_left
  · intro w'
    go_simp
    with_reducible rfl
  rotate_left
  · simp only [Act.put, List.setIfInBounds_toArray, List.set_cons_zero, List.set_cons_succ, i64_w, i32_w]
    rfl
  refine pure_ (i := 2) (N := some 10) (v := ?_) (a' := ?_) #[false, true, true, false, false, false, false, false, false, false, false, false] rfl rfl (by kernel_rfl) (fun _ _ _ h => h) (Or.inl ⟨by rfl, ?_⟩) ?_ ?_
  rotate_left
  · intro w'
    go_simp
    with_reducible rfl
  rotate_left
  · simp only [Act.put, List.setIfInBounds_toArray, List.set_cons_zero, List.set_cons_succ, i64_w, i32_w]
    rfl
  refine pure_ (i := 3) (N := some 11) (v := ?_) (a' := ?_) #[false, true, true, true, false, false, false, false, false, false, false, false] rfl rfl (by kernel_rfl) (fun _ _ _ h => h) (Or.inl ⟨by rfl, ?_⟩) ?_ ?_
  rotate_left
  · intro w'
    go_simp
    with_reducible rfl
  rotate_left
  · simp only [Act.put, List.setIfInBounds_toArray, List.set_cons_zero, List.set_cons_succ, i64_w, i32_w]
    rfl
  refine pure_ (i := 5) (N := some 13) (v := ?_) (a' := ?_) #[false, true, true, true, false, true, false, false, false, false, false, false] rfl rfl (by kernel_rfl) (fun _ _ _ h => h) (Or.inl ⟨by rfl, ?_⟩) ?_ ?_
  rotate_left
  · intro w'
    go_simp
    with_reducible rfl
  rotate_left
  · simp only [Act.put, List.setIfInBounds_toArray, List.set_cons_zero, List.set_cons_succ, i64_w, i32_w]
    rfl
  refine take_ (i := 4) (N := some 12) (v := ?_) (a' := ?_) #[false, true, true, true, true, true, false, false, false, false, false, false] rfl rfl (by kernel_rfl) (fun _ _ _ h => h) (Or.inl ⟨by rfl, ?_⟩) hHeld ?_ ?_
  rotate_left
  · intro w' s0
    go_simp
    with_reducible rfl
  rotate_left
  · simp only [Act.put, List.setIfInBounds_toArray, List.set_cons_zero, List.set_cons_succ, i64_w, i32_w]
    rfl
  refine one_ (i := 0) (N := some 8) #[true, true, true, true, true, true, false, false, false, false, false, false] rfl rfl (by kernel_rfl) (by decide) (fun K hK => ?_)
  refine goes_ Tryz.func95 (by kernel_rfl) rfl #[] (by rfl) rfl rfl (by simp) ?_
  with_reducible refine (Table_calls w.drew).mono ?_
  rintro e w1 ⟨rfl, hb1⟩
  refine ⟨_, rfl, ?_⟩
  have c14a := (hb1.cell lt).trans c14
  have lt1 := Nat.lt_of_lt_of_le lt hb1.size
  refine hK.out _ _ (c14a) (fun hHeld => ?_)
  clear hK K
  refine norm_ (a' := ?_) ?_ ?_
  rotate_left
  · show Act.put _ (some 8) _ = _
    simp only [Act.put, List.setIfInBounds_toArray, List.set_cons_zero, List.set_cons_succ, i64_w, i32_w]
    rfl
  refine one_ (i := 6) (N := some 14) #[true, true, true, true, true, true, true, false, false, false, false, false] rfl rfl (by kernel_rfl) (by decide) (fun K hK => ?_)
  refine goes_ Tryz.func96 (by kernel_rfl) rfl #[.agg #[], .int .u8 1, .int .u8 (b : Int)] (by rfl) rfl rfl (by simp only [List.map_toArray, List.map_cons, List.map_nil]; rfl) ?_
  with_reducible refine (trans_at 1 b w1 HD 1 (b : Int) 3 8 rfl rfl HX HY).mono ?_
  rintro e w2 ⟨rfl, hb2⟩
  refine ⟨_, rfl, ?_⟩
  have c14b := (hb2.cell lt1).trans c14a
  refine hK.out _ _ (c14b) (fun hHeld => ?_)
  clear hK K
  refine norm_ (a' := ?_) ?_ ?_
  rotate_left
  · show Act.put _ (some 14) _ = _
    simp only [Act.put, List.setIfInBounds_toArray, List.set_cons_zero, List.set_cons_succ, i64_w, i32_w]
    rfl
  refine pure_ (i := 7) (N := some 7) (v := ?_) (a' := ?_) #[true, true, true, true, true, true, true, true, false, false, false, false] rfl rfl (by kernel_rfl) (fun _ _ _ h => h) (Or.inl ⟨by rfl, ?_⟩) ?_ ?_
  rotate_left
  · intro w'
    go_simp
    with_reducible rfl
  rotate_left
  · simp only [Act.put, List.setIfInBounds_toArray, List.set_cons_zero, List.set_cons_succ, i64_w, i32_w]
    rfl
  refine pure_ (i := 8) (N := some 15) (v := ?_) (a' := ?_) #[true, true, true, true, true, true, true, true, true, false, false, false] rfl rfl (by kernel_rfl) (fun _ _ _ h => h) (Or.inl ⟨by rfl, ?_⟩) ?_ ?_
  rotate_left
  · intro w'
    go_simp
    with_reducible rfl
  rotate_left
  · simp only [Act.put, List.setIfInBounds_toArray, List.set_cons_zero, List.set_cons_succ, i64_w, i32_w]
    rfl
  refine pure_ (i := 9) (N := some 16) (v := ?_) (a' := ?_) #[true, true, true, true, true, true, true, true, true, true, false, false] rfl rfl (by kernel_rfl) (fun _ _ _ h => h) (Or.inl ⟨by rfl, ?_⟩) ?_ ?_
  rotate_left
  · intro w'
    go_simp
    with_reducible rfl
  rotate_left
  · simp only [Act.put, List.setIfInBounds_toArray, List.set_cons_zero, List.set_cons_succ, i64_w, i32_w]
    rfl
  refine pure_ (i := 10) (N := some 5) (v := ?_) (a' := ?_) #[true, true, true, true, true, true, true, true, true, true, true, false] rfl rfl (by kernel_rfl) (fun _ _ _ h => h) (Or.inl ⟨by rfl, ?_⟩) ?_ ?_
  rotate_left
  · intro w'
    go_simp
    with_reducible rfl
  rotate_left
  · simp only [Act.put, List.setIfInBounds_toArray, List.set_cons_zero, List.set_cons_succ, i64_w, i32_w]
    rfl
  refine pure_ (i := 11) (N := some 6) (v := ?_) (a' := ?_) #[true, true, true, true, true, true, true, true, true, true, true, true] rfl rfl (by kernel_rfl) (fun _ _ _ h => h) (Or.inl ⟨by rfl, ?_⟩) ?_ ?_
  rotate_left
  · intro w'
    go_simp
    with_reducible rfl
  rotate_left
  · simp only [Act.put, List.setIfInBounds_toArray, List.set_cons_zero, List.set_cons_succ, i64_w, i32_w]
    rfl
  refine done_ (by kernel_rfl) ?_
  have H2 := Aside0.mk ((H.out.drew.below hb1).below hb2)
  have BB := Aside0.mk ((Below.trans (below_drew1 (Below.refl _ _)) (hb1.mono H.out.size)).trans (hb2.mono (Nat.le_trans H.out.size hb1.size)) : Below B w w2)
  clear c14 c14a lt lt1 hb1 hb2
  go_wp2_with (go_at_call 97; refine (act_digit1 w2 _ m b H2.out (by omega) (by omega) hm _ rfl hx).mono ?_; rintro e w4 ⟨rfl, h4, hb4⟩; have c14d := h4.c14; have f14 := h4.fp 14; have H4 := Aside0.mk h4; have B4 := Aside0.mk (Below.trans BB.out hb4); clear h4 hb4)
  go_ret
  refine ⟨_, rfl, by rw [show ((b : Int) - 48) = 0 * 10 + ((b : Int) - 48) by omega]; repeat (first | with_reducible exact H4.out | with_reducible apply PSt.setQ | with_reducible apply PSt.setN | with_reducible apply PSt.setC | with_reducible apply PSt.setS | with_reducible apply PSt.drewN | with_reducible apply PSt.drew), Below.trans B4.out (by repeat (first | with_reducible exact Below.refl _ _ | with_reducible apply below_drew1 | with_reducible apply pw_below_drewN | (with_reducible refine Below.setCell ?_ H4.out.geQ _) | (with_reducible refine Below.setCell ?_ H4.out.geP _)))⟩
set_option maxRecDepth 1000000 in
set_option maxHeartbeats 20000000 in
theorem adv_first3 (w : World) (b : Nat) (h0 : 48 ≤ b) (h1 : b ≤ 57) (m : Nat) (hm : m < 32) (hx : qs.getD m 0 = 2147483647)  (h : PSt B gp gq gd gb go w qs m cmd 3 evs) (hl : evs.length ≤ 100000) :
    Calls Tryz.prog 81 #[.pointer (some ⟨gp, 0, none⟩), .int .u8 (b : Int)] w (APost B gp gq gd gb go w (qs.set m ((b : Int) - 48)) m cmd 3 evs) := by
  have H := Aside0.mk h
  have c14 := h.c14; have lt := blk_lt h.p
  have HD : tdom 3 b = true := by simp [tdom]; omega
  have hz : tz 3 b = 131 := by unfold tz; rw [if_neg (by omega), if_neg (by omega), if_neg (by omega)]
  have HX : ((tz 3 b % 16 : Nat) : Int) = 3 := by rw [hz]; rfl
  have HY : ((tz 3 b / 16 : Nat) : Int) = 8 := by rw [hz]; rfl
  have e1 : ((b : Int) == 27) = false := by simp; omega
  clear hz
  clear h
  go_enter Tryz.func81, Tryz.ntmps81
  go_wp2_with fail
  refine start_ (n := 12) (S := fun w' => w'.cell? ⟨gp, 14, none⟩ = some (.int .u8 3)) (ds := []) #[false, false, false, false, false, false, false, false, false, false, false, false] (by kernel_rfl) rfl rfl (c14) (fun hHeld => ?_)
  refine pure_ (i := 1) (N := some 9) (v := ?_) (a' := ?_) #[false, true, false, false, false, false, false, false, false, false, false, false] rfl rfl (by kernel_rfl) (fun _ _ _ h => h) (Or.inl ⟨by rfl, ?_⟩) ?_ ?_
  rotate_left
  · intro w'
    go_simp
    with_reducible rfl
  rotate_left
  · simp only [Act.put, List.setIfInBounds_toArray, List.set_cons_zero, List.set_cons_succ, i64_w, i32_w]
    rfl
  refine pure_ (i := 2) (N := some 10) (v := ?_) (a' := ?_) #[false, true, true, false, false, false, false, false, false, false, false, false] rfl rfl (by kernel_rfl) (fun _ _ _ h => h) (Or.inl ⟨by rfl, ?_⟩) ?_ ?_
  rotate_left
  · intro w'
    go_simp
    with_reducible rfl
  rotate_left
  · simp only [Act.put, List.setIfInBounds_toArray, List.set_cons_zero, List.set_cons_succ, i64_w, i32_w]
    rfl
  refine pure_ (i := 3) (N := some 11) (v := ?_) (a' := ?_) #[false, true, true, true, false, false, false, false, false, false, false, false] rfl rfl (by kernel_rfl) (fun _ _ _ h => h) (Or.inl ⟨by rfl, ?_⟩) ?_ ?_
  rotate_left
  · intro w'
    go_simp
    with_reducible rfl
  rotate_left
  · simp only [Act.put, List.setIfInBounds_toArray, List.set_cons_zero, List.set_cons_succ, i64_w, i32_w]
    rfl
  refine pure_ (i := 5) (N := some 13) (v := ?_) (a' := ?_) #[false, true, true, true, false, true, false, false, false, false, false, false] rfl rfl (by kernel_rfl) (fun _ _ _ h => h) (Or.inl ⟨by rfl, ?_⟩) ?_ ?_
  rotate_left
  · intro w'
    go_simp
    with_reducible rfl
  rotate_left
  · simp only [Act.put, List.setIfInBounds_toArray, List.set_cons_zero, List.set_cons_succ, i64_w, i32_w]
    rfl
  refine take_ (i := 4) (N := some 12) (v := ?_) (a' := ?_) #[false, true, true, true, true, true, false, false, false, false, false, false] rfl rfl (by kernel_rfl) (fun _ _ _ h => h) (Or.inl ⟨by rfl, ?_⟩) hHeld ?_ ?_
  rotate_left
  · intro w' s0
    go_simp
    with_reducible rfl
  rotate_left
  · simp only [Act.put, List.setIfInBounds_toArray, List.set_cons_zero, List.set_cons_succ, i64_w, i32_w]
    rfl
  refine one_ (i := 0) (N := some 8) #[true, true, true, true, true, true, false, false, false, false, false, false] rfl rfl (by kernel_rfl) (by decide) (fun K hK => ?_)
  refine goes_ Tryz.func95 (by kernel_rfl) rfl #[] (by rfl) rfl rfl (by simp) ?_
  with_reducible refine (Table_calls w.drew).mono ?_
  rintro e w1 ⟨rfl, hb1⟩
  refine ⟨_, rfl, ?_⟩
  have c14a := (hb1.cell lt).trans c14
  have lt1 := Nat.lt_of_lt_of_le lt hb1.size
  refine hK.out _ _ (c14a) (fun hHeld => ?_)
  clear hK K
  refine norm_ (a' := ?_) ?_ ?_
  rotate_left
  · show Act.put _ (some 8) _ = _
    simp only [Act.put, List.setIfInBounds_toArray, List.set_cons_zero, List.set_cons_succ, i64_w, i32_w]
    rfl
  refine one_ (i := 6) (N := some 14) #[true, true, true, true, true, true, true, false, false, false, false, false] rfl rfl (by kernel_rfl) (by decide) (fun K hK => ?_)
  refine goes_ Tryz.func96 (by kernel_rfl) rfl #[.agg #[], .int .u8 3, .int .u8 (b : Int)] (by rfl) rfl rfl (by simp only [List.map_toArray, List.map_cons, List.map_nil]; rfl) ?_
  with_reducible refine (trans_at 3 b w1 HD 3 (b : Int) 3 8 rfl rfl HX HY).mono ?_
  rintro e w2 ⟨rfl, hb2⟩
  refine ⟨_, rfl, ?_⟩
  have c14b := (hb2.cell lt1).trans c14a
  refine hK.out _ _ (c14b) (fun hHeld => ?_)
  clear hK K
  refine norm_ (a' := ?_) ?_ ?_
  rotate_left
  · show Act.put _ (some 14) _ = _
    simp only [Act.put, List.setIfInBounds_toArray, List.set_cons_zero, List.set_cons_succ, i64_w, i32_w]
    rfl
  refine pure_ (i := 7) (N := some 7) (v := ?_) (a' := ?_) #[true, true, true, true, true, true, true, true, false, false, false, false] rfl rfl (by kernel_rfl) (fun _ _ _ h => h) (Or.inl ⟨by rfl, ?_⟩) ?_ ?_
  rotate_left
  · intro w'
    go_simp
    with_reducible rfl
  rotate_left
  · simp only [Act.put, List.setIfInBounds_toArray, List.set_cons_zero, List.set_cons_succ, i64_w, i32_w]
    rfl
  refine pure_ (i := 8) (N := some 15) (v := ?_) (a' := ?_) #[true, true, true, true, true, true, true, true, true, false, false, false] rfl rfl (by kernel_rfl) (fun _ _ _ h => h) (Or.inl ⟨by rfl, ?_⟩) ?_ ?_
  rotate_left
  · intro w'
    go_simp
    with_reducible rfl
  rotate_left
  · simp only [Act.put, List.setIfInBounds_toArray, List.set_cons_zero, List.set_cons_succ, i64_w, i32_w]
    rfl
  refine pure_ (i := 9) (N := some 16) (v := ?_) (a' := ?_) #[true, true, true, true, true, true, true, true, true, true, false, false] rfl rfl (by kernel_rfl) (fun _ _ _ h => h) (Or.inl ⟨by rfl, ?_⟩) ?_ ?_
  rotate_left
  · intro w'
    go_simp
    with_reducible rfl
  rotate_left
  · simp only [Act.put, List.setIfInBounds_toArray, List.set_cons_zero, List.set_cons_succ, i64_w, i32_w]
    rfl
  refine pure_ (i := 10) (N := some 5) (v := ?_) (a' := ?_) #[true, true, true, true, true, true, true, true, true, true, true, false] rfl rfl (by kernel_rfl) (fun _ _ _ h => h) (Or.inl ⟨by rfl, ?_⟩) ?_ ?_
  rotate_left
  · intro w'
    go_simp
    with_reducible rfl
  rotate_left
  · simp only [Act.put, List.setIfInBounds_toArray, List.set_cons_zero, List.set_cons_succ, i64_w, i32_w]
    rfl
  refine pure_ (i := 11) (N := some 6) (v := ?_) (a' := ?_) #[true, true, true, true, true, true, true, true, true, true, true, true] rfl rfl (by kernel_rfl) (fun _ _ _ h => h) (Or.inl ⟨by rfl, ?_⟩) ?_ ?_
  rotate_left
  · intro w'
    go_simp
    with_reducible rfl
  rotate_left
  · simp only [Act.put, List.setIfInBounds_toArray, List.set_cons_zero, List.set_cons_succ, i64_w, i32_w]
    rfl
  refine done_ (by kernel_rfl) ?_
  have H2 := Aside0.mk ((H.out.drew.below hb1).below hb2)
  have BB := Aside0.mk ((Below.trans (below_drew1 (Below.refl _ _)) (hb1.mono H.out.size)).trans (hb2.mono (Nat.le_trans H.out.size hb1.size)) : Below B w w2)
  clear c14 c14a lt lt1 hb1 hb2
  go_wp2_with (go_at_call 97; refine (act_digit1 w2 _ m b H2.out (by omega) (by omega) hm _ rfl hx).mono ?_; rintro e w4 ⟨rfl, h4, hb4⟩; have c14d := h4.c14; have f14 := h4.fp 14; have H4 := Aside0.mk h4; have B4 := Aside0.mk (Below.trans BB.out hb4); clear h4 hb4)
  go_ret
  refine ⟨_, rfl, by rw [show ((b : Int) - 48) = 0 * 10 + ((b : Int) - 48) by omega]; repeat (first | with_reducible exact H4.out | with_reducible apply PSt.setQ | with_reducible apply PSt.setN | with_reducible apply PSt.setC | with_reducible apply PSt.setS | with_reducible apply PSt.drewN | with_reducible apply PSt.drew), Below.trans B4.out (by repeat (first | with_reducible exact Below.refl _ _ | with_reducible apply below_drew1 | with_reducible apply pw_below_drewN | (with_reducible refine Below.setCell ?_ H4.out.geQ _) | (with_reducible refine Below.setCell ?_ H4.out.geP _)))⟩
set_option maxRecDepth 1000000 in
set_option maxHeartbeats 20000000 in
theorem adv_digit (w : World) (b : Nat) (h0 : 48 ≤ b) (h1 : b ≤ 57) (m : Nat) (hm : m < 32) (x : Int) (hx : qs.getD m 0 = x) (hx1 : 0 ≤ x) (hx2 : x ≤ 100000)  (h : PSt B gp gq gd gb go w qs m cmd 3 evs) (hl : evs.length ≤ 100000) :
    Calls Tryz.prog 81 #[.pointer (some ⟨gp, 0, none⟩), .int .u8 (b : Int)] w (APost B gp gq gd gb go w (qs.set m (x * 10 + ((b : Int) - 48))) m cmd 3 evs) := by
  have H := Aside0.mk h
  have c14 := h.c14; have lt := blk_lt h.p
  have HD : tdom 3 b = true := by simp [tdom]; omega
  have hz : tz 3 b = 131 := by unfold tz; rw [if_neg (by omega), if_neg (by omega), if_neg (by omega)]
  have HX : ((tz 3 b % 16 : Nat) : Int) = 3 := by rw [hz]; rfl
  have HY : ((tz 3 b / 16 : Nat) : Int) = 8 := by rw [hz]; rfl
  have e1 : ((b : Int) == 27) = false := by simp; omega
  clear hz
  clear h
  go_enter Tryz.func81, Tryz.ntmps81
  go_wp2_with fail
  refine start_ (n := 12) (S := fun w' => w'.cell? ⟨gp, 14, none⟩ = some (.int .u8 3)) (ds := []) #[false, false, false, false, false, false, false, false, false, false, false, false] (by kernel_rfl) rfl rfl (c14) (fun hHeld => ?_)
  refine pure_ (i := 1) (N := some 9) (v := ?_) (a' := ?_) #[false, true, false, false, false, false, false, false, false, false, false, false] rfl rfl (by kernel_rfl) (fun _ _ _ h => h) (Or.inl ⟨by rfl, ?_⟩) ?_ ?_
  rotate_left
  · intro w'
    go_simp
    with_reducible rfl
  rotate_left
  · simp only [Act.put, List.setIfInBounds_toArray, List.set_cons_zero, List.set_cons_succ, i64_w, i32_w]
    rfl
  refine pure_ (i := 2) (N := some 10) (v := ?_) (a' := ?_) #[false, true, true, false, false, false, false, false, false, false, false, false] rfl rfl (by kernel_rfl) (fun _ _ _ h => h) (Or.inl ⟨by rfl, ?_⟩) ?_ ?_
  rotate_left
  · intro w'
    go_simp
    with_reducible rfl
  rotate_left
  · simp only [Act.put, List.setIfInBounds_toArray, List.set_cons_zero, List.set_cons_succ, i64_w, i32_w]
    rfl
  refine pure_ (i := 3) (N := some 11) (v := ?_) (a' := ?_) #[false, true, true, true, false, false, false, false, false, false, false, false] rfl rfl (by kernel_rfl) (fun _ _ _ h => h) (Or.inl ⟨by rfl, ?_⟩) ?_ ?_
  rotate_left
  · intro w'
    go_simp
    with_reducible rfl
  rotate_left
  · simp only [Act.put, List.setIfInBounds_toArray, List.set_cons_zero, List.set_cons_succ, i64_w, i32_w]
    rfl
  refine pure_ (i := 5) (N := some 13) (v := ?_) (a' := ?_) #[false, true, true, true, false, true, false, false, false, false, false, false] rfl rfl (by kernel_rfl) (fun _ _ _ h => h) (Or.inl ⟨by rfl, ?_⟩) ?_ ?_
  rotate_left
  · intro w'
    go_simp
    with_reducible rfl
  rotate_left
  · simp only [Act.put, List.setIfInBounds_toArray, List.set_cons_zero, List.set_cons_succ, i64_w, i32_w]
    rfl
  refine take_ (i := 4) (N := some 12) (v := ?_) (a' := ?_) #[false, true, true, true, true, true, false, false, false, false, false, false] rfl rfl (by kernel_rfl) (fun _ _ _ h => h) (Or.inl ⟨by rfl, ?_⟩) hHeld ?_ ?_
  rotate_left
  · intro w' s0
    go_simp
    with_reducible rfl
  rotate_left
  · simp only [Act.put, List.setIfInBounds_toArray, List.set_cons_zero, List.set_cons_succ, i64_w, i32_w]
    rfl
  refine one_ (i := 0) (N := some 8) #[true, true, true, true, true, true, false, false, false, false, false, false] rfl rfl (by kernel_rfl) (by decide) (fun K hK => ?_)
  refine goes_ Tryz.func95 (by kernel_rfl) rfl #[] (by rfl) rfl rfl (by simp) ?_
  with_reducible refine (Table_calls w.drew).mono ?_
  rintro e w1 ⟨rfl, hb1⟩
  refine ⟨_, rfl, ?_⟩
  have c14a := (hb1.cell lt).trans c14
  have lt1 := Nat.lt_of_lt_of_le lt hb1.size
  refine hK.out _ _ (c14a) (fun hHeld => ?_)
  clear hK K
  refine norm_ (a' := ?_) ?_ ?_
  rotate_left
  · show Act.put _ (some 8) _ = _
    simp only [Act.put, List.setIfInBounds_toArray, List.set_cons_zero, List.set_cons_succ, i64_w, i32_w]
    rfl
  refine one_ (i := 6) (N := some 14) #[true, true, true, true, true, true, true, false, false, false, false, false] rfl rfl (by kernel_rfl) (by decide) (fun K hK => ?_)
  refine goes_ Tryz.func96 (by kernel_rfl) rfl #[.agg #[], .int .u8 3, .int .u8 (b : Int)] (by rfl) rfl rfl (by simp only [List.map_toArray, List.map_cons, List.map_nil]; rfl) ?_
  with_reducible refine (trans_at 3 b w1 HD 3 (b : Int) 3 8 rfl rfl HX HY).mono ?_
  rintro e w2 ⟨rfl, hb2⟩
  refine ⟨_, rfl, ?_⟩
  have c14b := (hb2.cell lt1).trans c14a
  refine hK.out _ _ (c14b) (fun hHeld => ?_)
  clear hK K
  refine norm_ (a' := ?_) ?_ ?_
  rotate_left
  · show Act.put _ (some 14) _ = _
    simp only [Act.put, List.setIfInBounds_toArray, List.set_cons_zero, List.set_cons_succ, i64_w, i32_w]
    rfl
  refine pure_ (i := 7) (N := some 7) (v := ?_) (a' := ?_) #[true, true, true, true, true, true, true, true, false, false, false, false] rfl rfl (by kernel_rfl) (fun _ _ _ h => h) (Or.inl ⟨by rfl, ?_⟩) ?_ ?_
  rotate_left
  · intro w'
    go_simp
    with_reducible rfl
  rotate_left
  · simp only [Act.put, List.setIfInBounds_toArray, List.set_cons_zero, List.set_cons_succ, i64_w, i32_w]
    rfl
  refine pure_ (i := 8) (N := some 15) (v := ?_) (a' := ?_) #[true, true, true, true, true, true, true, true, true, false, false, false] rfl rfl (by kernel_rfl) (fun _ _ _ h => h) (Or.inl ⟨by rfl, ?_⟩) ?_ ?_
  rotate_left
  · intro w'
    go_simp
    with_reducible rfl
  rotate_left
  · simp only [Act.put, List.setIfInBounds_toArray, List.set_cons_zero, List.set_cons_succ, i64_w, i32_w]
    rfl
  refine pure_ (i := 9) (N := some 16) (v := ?_) (a' := ?_) #[true, true, true, true, true, true, true, true, true, true, false, false] rfl rfl (by kernel_rfl) (fun _ _ _ h => h) (Or.inl ⟨by rfl, ?_⟩) ?_ ?_
  rotate_left
  · intro w'
    go_simp
    with_reducible rfl
  rotate_left
  · simp only [Act.put, List.setIfInBounds_toArray, List.set_cons_zero, List.set_cons_succ, i64_w, i32_w]
    rfl
  refine pure_ (i := 10) (N := some 5) (v := ?_) (a' := ?_) #[true, true, true, true, true, true, true, true, true, true, true, false] rfl rfl (by kernel_rfl) (fun _ _ _ h => h) (Or.inl ⟨by rfl, ?_⟩) ?_ ?_
  rotate_left
  · intro w'
    go_simp
    with_reducible rfl
  rotate_left
  · simp only [Act.put, List.setIfInBounds_toArray, List.set_cons_zero, List.set_cons_succ, i64_w, i32_w]
    rfl
  refine pure_ (i := 11) (N := some 6) (v := ?_) (a' := ?_) #[true, true, true, true, true, true, true, true, true, true, true, true] rfl rfl (by kernel_rfl) (fun _ _ _ h => h) (Or.inl ⟨by rfl, ?_⟩) ?_ ?_
  rotate_left
  · intro w'
    go_simp
    with_reducible rfl
  rotate_left
  · simp only [Act.put, List.setIfInBounds_toArray, List.set_cons_zero, List.set_cons_succ, i64_w, i32_w]
    rfl
  refine done_ (by kernel_rfl) ?_
  have H2 := Aside0.mk ((H.out.drew.below hb1).below hb2)
  have BB := Aside0.mk ((Below.trans (below_drew1 (Below.refl _ _)) (hb1.mono H.out.size)).trans (hb2.mono (Nat.le_trans H.out.size hb1.size)) : Below B w w2)
  clear c14 c14a lt lt1 hb1 hb2
  go_wp2_with (go_at_call 97; refine (act_digit2 w2 _ m b H2.out (by omega) (by omega) hm x hx hx1 hx2).mono ?_; rintro e w4 ⟨rfl, h4, hb4⟩; have c14d := h4.c14; have f14 := h4.fp 14; have H4 := Aside0.mk h4; have B4 := Aside0.mk (Below.trans BB.out hb4); clear h4 hb4)
  go_ret
  refine ⟨_, rfl, by repeat (first | with_reducible exact H4.out | with_reducible apply PSt.setQ | with_reducible apply PSt.setN | with_reducible apply PSt.setC | with_reducible apply PSt.setS | with_reducible apply PSt.drewN | with_reducible apply PSt.drew), Below.trans B4.out (by repeat (first | with_reducible exact Below.refl _ _ | with_reducible apply below_drew1 | with_reducible apply pw_below_drewN | (with_reducible refine Below.setCell ?_ H4.out.geQ _) | (with_reducible refine Below.setCell ?_ H4.out.geP _)))⟩
set_option maxRecDepth 1000000 in
set_option maxHeartbeats 20000000 in
theorem adv_semi (w : World) (m : Nat) (hm : m + 1 < 32)  (h : PSt B gp gq gd gb go w qs m cmd 3 evs) (hl : evs.length ≤ 100000) :
    Calls Tryz.prog 81 #[.pointer (some ⟨gp, 0, none⟩), .int .u8 59] w (APost B gp gq gd gb go w (qs.set (m + 1) 2147483647) ((m + 1 : Nat) : Int) cmd 3 evs) := by
  have H := Aside0.mk h
  have c14 := h.c14; have lt := blk_lt h.p
  have HD : tdom 3 59 = true := by decide
  have HX : ((tz 3 59 % 16 : Nat) : Int) = 3 := by decide
  have HY : ((tz 3 59 / 16 : Nat) : Int) = 8 := by decide
  clear h
  go_enter Tryz.func81, Tryz.ntmps81
  go_wp2_with fail
  refine start_ (n := 12) (S := fun w' => w'.cell? ⟨gp, 14, none⟩ = some (.int .u8 3)) (ds := []) #[false, false, false, false, false, false, false, false, false, false, false, false] (by kernel_rfl) rfl rfl (c14) (fun hHeld => ?_)
  refine pure_ (i := 1) (N := some 9) (v := ?_) (a' := ?_) #[false, true, false, false, false, false, false, false, false, false, false, false] rfl rfl (by kernel_rfl) (fun _ _ _ h => h) (Or.inl ⟨by rfl, ?_⟩) ?_ ?_
  rotate_left
  · intro w'
    go_simp
    with_reducible rfl
  rotate_left
  · simp only [Act.put, List.setIfInBounds_toArray, List.set_cons_zero, List.set_cons_succ, i64_w, i32_w]
    rfl
  refine pure_ (i := 2) (N := some 10) (v := ?_) (a' := ?_) #[false, true, true, false, false, false, false, false, false, false, false, false] rfl rfl (by kernel_rfl) (fun _ _ _ h => h) (Or.inl ⟨by rfl, ?_⟩) ?_ ?_
  rotate_left
  · intro w'
    go_simp
    with_reducible rfl
  rotate_left
  · simp only [Act.put, List.setIfInBounds_toArray, List.set_cons_zero, List.set_cons_succ, i64_w, i32_w]
    rfl
  refine pure_ (i := 3) (N := some 11) (v := ?_) (a' := ?_) #[false, true, true, true, false, false, false, false, false, false, false, false] rfl rfl (by kernel_rfl) (fun _ _ _ h => h) (Or.inl ⟨by rfl, ?_⟩) ?_ ?_
  rotate_left
  · intro w'
    go_simp
    with_reducible rfl
  rotate_left
  · simp only [Act.put, List.setIfInBounds_toArray, List.set_cons_zero, List.set_cons_succ, i64_w, i32_w]
    rfl
  refine pure_ (i := 5) (N := some 13) (v := ?_) (a' := ?_) #[false, true, true, true, false, true, false, false, false, false, false, false] rfl rfl (by kernel_rfl) (fun _ _ _ h => h) (Or.inl ⟨by rfl, ?_⟩) ?_ ?_
  rotate_left
  · intro w'
    go_simp
    with_reducible rfl
  rotate_left
  · simp only [Act.put, List.setIfInBounds_toArray, List.set_cons_zero, List.set_cons_succ, i64_w, i32_w]
    rfl
  refine take_ (i := 4) (N := some 12) (v := ?_) (a' := ?_) #[false, true, true, true, true, true, false, false, false, false, false, false] rfl rfl (by kernel_rfl) (fun _ _ _ h => h) (Or.inl ⟨by rfl, ?_⟩) hHeld ?_ ?_
  rotate_left
  · intro w' s0
    go_simp
    with_reducible rfl
  rotate_left
  · simp only [Act.put, List.setIfInBounds_toArray, List.set_cons_zero, List.set_cons_succ, i64_w, i32_w]
    rfl
  refine one_ (i := 0) (N := some 8) #[true, true, true, true, true, true, false, false, false, false, false, false] rfl rfl (by kernel_rfl) (by decide) (fun K hK => ?_)
  refine goes_ Tryz.func95 (by kernel_rfl) rfl #[] (by rfl) rfl rfl (by simp) ?_
  with_reducible refine (Table_calls w.drew).mono ?_
  rintro e w1 ⟨rfl, hb1⟩
  refine ⟨_, rfl, ?_⟩
  have c14a := (hb1.cell lt).trans c14
  have lt1 := Nat.lt_of_lt_of_le lt hb1.size
  refine hK.out _ _ (c14a) (fun hHeld => ?_)
  clear hK K
  refine norm_ (a' := ?_) ?_ ?_
  rotate_left
  · show Act.put _ (some 8) _ = _
    simp only [Act.put, List.setIfInBounds_toArray, List.set_cons_zero, List.set_cons_succ, i64_w, i32_w]
    rfl
  refine one_ (i := 6) (N := some 14) #[true, true, true, true, true, true, true, false, false, false, false, false] rfl rfl (by kernel_rfl) (by decide) (fun K hK => ?_)
  refine goes_ Tryz.func96 (by kernel_rfl) rfl #[.agg #[], .int .u8 3, .int .u8 59] (by rfl) rfl rfl (by simp only [List.map_toArray, List.map_cons, List.map_nil]; rfl) ?_
  with_reducible refine (trans_at 3 59 w1 HD 3 59 3 8 rfl rfl HX HY).mono ?_
  rintro e w2 ⟨rfl, hb2⟩
  refine ⟨_, rfl, ?_⟩
  have c14b := (hb2.cell lt1).trans c14a
  refine hK.out _ _ (c14b) (fun hHeld => ?_)
  clear hK K
  refine norm_ (a' := ?_) ?_ ?_
  rotate_left
  · show Act.put _ (some 14) _ = _
    simp only [Act.put, List.setIfInBounds_toArray, List.set_cons_zero, List.set_cons_succ, i64_w, i32_w]
    rfl
  refine pure_ (i := 7) (N := some 7) (v := ?_) (a' := ?_) #[true, true, true, true, true, true, true, true, false, false, false, false] rfl rfl (by kernel_rfl) (fun _ _ _ h => h) (Or.inl ⟨by rfl, ?_⟩) ?_ ?_
  rotate_left
  · intro w'
    go_simp
    with_reducible rfl
  rotate_left
  · simp only [Act.put, List.setIfInBounds_toArray, List.set_cons_zero, List.set_cons_succ, i64_w, i32_w]
    rfl
  refine pure_ (i := 8) (N := some 15) (v := ?_) (a' := ?_) #[true, true, true, true, true, true, true, true, true, false, false, false] rfl rfl (by kernel_rfl) (fun _ _ _ h => h) (Or.inl ⟨by rfl, ?_⟩) ?_ ?_
  rotate_left
  · intro w'
    go_simp
    with_reducible rfl
  rotate_left
  · simp only [Act.put, List.setIfInBounds_toArray, List.set_cons_zero, List.set_cons_succ, i64_w, i32_w]
    rfl
  refine pure_ (i := 9) (N := some 16) (v := ?_) (a' := ?_) #[true, true, true, true, true, true, true, true, true, true, false, false] rfl rfl (by kernel_rfl) (fun _ _ _ h => h) (Or.inl ⟨by rfl, ?_⟩) ?_ ?_
  rotate_left
  · intro w'
    go_simp
    with_reducible rfl
  rotate_left
  · simp only [Act.put, List.setIfInBounds_toArray, List.set_cons_zero, List.set_cons_succ, i64_w, i32_w]
    rfl
  refine pure_ (i := 10) (N := some 5) (v := ?_) (a' := ?_) #[true, true, true, true, true, true, true, true, true, true, true, false] rfl rfl (by kernel_rfl) (fun _ _ _ h => h) (Or.inl ⟨by rfl, ?_⟩) ?_ ?_
  rotate_left
  · intro w'
    go_simp
    with_reducible rfl
  rotate_left
  · simp only [Act.put, List.setIfInBounds_toArray, List.set_cons_zero, List.set_cons_succ, i64_w, i32_w]
    rfl
  refine pure_ (i := 11) (N := some 6) (v := ?_) (a' := ?_) #[true, true, true, true, true, true, true, true, true, true, true, true] rfl rfl (by kernel_rfl) (fun _ _ _ h => h) (Or.inl ⟨by rfl, ?_⟩) ?_ ?_
  rotate_left
  · intro w'
    go_simp
    with_reducible rfl
  rotate_left
  · simp only [Act.put, List.setIfInBounds_toArray, List.set_cons_zero, List.set_cons_succ, i64_w, i32_w]
    rfl
  refine done_ (by kernel_rfl) ?_
  have H2 := Aside0.mk ((H.out.drew.below hb1).below hb2)
  have BB := Aside0.mk ((Below.trans (below_drew1 (Below.refl _ _)) (hb1.mono H.out.size)).trans (hb2.mono (Nat.le_trans H.out.size hb1.size)) : Below B w w2)
  clear c14 c14a lt lt1 hb1 hb2
  go_wp2_with (go_at_call 97; refine (act_semi w2 _ m H2.out hm).mono ?_; rintro e w4 ⟨rfl, h4, hb4⟩; have c14d := h4.c14; have f14 := h4.fp 14; have H4 := Aside0.mk h4; have B4 := Aside0.mk (Below.trans BB.out hb4); clear h4 hb4)
  go_ret
  refine ⟨_, rfl, by repeat (first | with_reducible exact H4.out | with_reducible apply PSt.setQ | with_reducible apply PSt.setN | with_reducible apply PSt.setC | with_reducible apply PSt.setS | with_reducible apply PSt.drewN | with_reducible apply PSt.drew), Below.trans B4.out (by repeat (first | with_reducible exact Below.refl _ _ | with_reducible apply below_drew1 | with_reducible apply pw_below_drewN | (with_reducible refine Below.setCell ?_ H4.out.geQ _) | (with_reducible refine Below.setCell ?_ H4.out.geP _)))⟩
set_option maxRecDepth 1000000 in
set_option maxHeartbeats 20000000 in
theorem adv_m (w : World) (m : Nat) (hm0 : 0 < m) (hm : m < 31)  (h : PSt B gp gq gd gb go w qs m 0 3 evs) (hl : evs.length ≤ 100000) :
    Calls Tryz.prog 81 #[.pointer (some ⟨gp, 0, none⟩), .int .u8 109] w (APost B gp gq gd gb go w qs ((m + 1 : Nat) : Int) 109 0 (evs ++ [⟨2, 0, 0, 109, qs.take (m + 1), []⟩])) := by
  have H := Aside0.mk h
  have c14 := h.c14; have lt := blk_lt h.p
  have HD : tdom 3 109 = true := by decide
  have HX : ((tz 3 109 % 16 : Nat) : Int) = 0 := by decide
  have HY : ((tz 3 109 / 16 : Nat) : Int) = 4 := by decide
  clear h
  go_enter Tryz.func81, Tryz.ntmps81
  go_wp2_with fail
  refine start_ (n := 12) (S := fun w' => w'.cell? ⟨gp, 14, none⟩ = some (.int .u8 3)) (ds := []) #[false, false, false, false, false, false, false, false, false, false, false, false] (by kernel_rfl) rfl rfl (c14) (fun hHeld => ?_)
  refine pure_ (i := 1) (N := some 9) (v := ?_) (a' := ?_) #[false, true, false, false, false, false, false, false, false, false, false, false] rfl rfl (by kernel_rfl) (fun _ _ _ h => h) (Or.inl ⟨by rfl, ?_⟩) ?_ ?_
  rotate_left
  · intro w'
    go_simp
    with_reducible rfl
  rotate_left
  · simp only [Act.put, List.setIfInBounds_toArray, List.set_cons_zero, List.set_cons_succ, i64_w, i32_w]
    rfl
  refine pure_ (i := 2) (N := some 10) (v := ?_) (a' := ?_) #[false, true, true, false, false, false, false, false, false, false, false, false] rfl rfl (by kernel_rfl) (fun _ _ _ h => h) (Or.inl ⟨by rfl, ?_⟩) ?_ ?_
  rotate_left
  · intro w'
    go_simp
    with_reducible rfl
  rotate_left
  · simp only [Act.put, List.setIfInBounds_toArray, List.set_cons_zero, List.set_cons_succ, i64_w, i32_w]
    rfl
  refine pure_ (i := 3) (N := some 11) (v := ?_) (a' := ?_) #[false, true, true, true, false, false, false, false, false, false, false, false] rfl rfl (by kernel_rfl) (fun _ _ _ h => h) (Or.inl ⟨by rfl, ?_⟩) ?_ ?_
  rotate_left
  · intro w'
    go_simp
    with_reducible rfl
  rotate_left
  · simp only [Act.put, List.setIfInBounds_toArray, List.set_cons_zero, List.set_cons_succ, i64_w, i32_w]
    rfl
  refine pure_ (i := 5) (N := some 13) (v := ?_) (a' := ?_) #[false, true, true, true, false, true, false, false, false, false, false, false] rfl rfl (by kernel_rfl) (fun _ _ _ h => h) (Or.inl ⟨by rfl, ?_⟩) ?_ ?_
  rotate_left
  · intro w'
    go_simp
    with_reducible rfl
  rotate_left
  · simp only [Act.put, List.setIfInBounds_toArray, List.set_cons_zero, List.set_cons_succ, i64_w, i32_w]
    rfl
  refine take_ (i := 4) (N := some 12) (v := ?_) (a' := ?_) #[false, true, true, true, true, true, false, false, false, false, false, false] rfl rfl (by kernel_rfl) (fun _ _ _ h => h) (Or.inl ⟨by rfl, ?_⟩) hHeld ?_ ?_
  rotate_left
  · intro w' s0
    go_simp
    with_reducible rfl
  rotate_left
  · simp only [Act.put, List.setIfInBounds_toArray, List.set_cons_zero, List.set_cons_succ, i64_w, i32_w]
    rfl
  refine one_ (i := 0) (N := some 8) #[true, true, true, true, true, true, false, false, false, false, false, false] rfl rfl (by kernel_rfl) (by decide) (fun K hK => ?_)
  refine goes_ Tryz.func95 (by kernel_rfl) rfl #[] (by rfl) rfl rfl (by simp) ?_
  with_reducible refine (Table_calls w.drew).mono ?_
  rintro e w1 ⟨rfl, hb1⟩
  refine ⟨_, rfl, ?_⟩
  have c14a := (hb1.cell lt).trans c14
  have lt1 := Nat.lt_of_lt_of_le lt hb1.size
  refine hK.out _ _ (c14a) (fun hHeld => ?_)
  clear hK K
  refine norm_ (a' := ?_) ?_ ?_
  rotate_left
  · show Act.put _ (some 8) _ = _
    simp only [Act.put, List.setIfInBounds_toArray, List.set_cons_zero, List.set_cons_succ, i64_w, i32_w]
    rfl
  refine one_ (i := 6) (N := some 14) #[true, true, true, true, true, true, true, false, false, false, false, false] rfl rfl (by kernel_rfl) (by decide) (fun K hK => ?_)
  refine goes_ Tryz.func96 (by kernel_rfl) rfl #[.agg #[], .int .u8 3, .int .u8 109] (by rfl) rfl rfl (by simp only [List.map_toArray, List.map_cons, List.map_nil]; rfl) ?_
  with_reducible refine (trans_at 3 109 w1 HD 3 109 0 4 rfl rfl HX HY).mono ?_
  rintro e w2 ⟨rfl, hb2⟩
  refine ⟨_, rfl, ?_⟩
  have c14b := (hb2.cell lt1).trans c14a
  refine hK.out _ _ (c14b) (fun hHeld => ?_)
  clear hK K
  refine norm_ (a' := ?_) ?_ ?_
  rotate_left
  · show Act.put _ (some 14) _ = _
    simp only [Act.put, List.setIfInBounds_toArray, List.set_cons_zero, List.set_cons_succ, i64_w, i32_w]
    rfl
  refine pure_ (i := 7) (N := some 7) (v := ?_) (a' := ?_) #[true, true, true, true, true, true, true, true, false, false, false, false] rfl rfl (by kernel_rfl) (fun _ _ _ h => h) (Or.inl ⟨by rfl, ?_⟩) ?_ ?_
  rotate_left
  · intro w'
    go_simp
    with_reducible rfl
  rotate_left
  · simp only [Act.put, List.setIfInBounds_toArray, List.set_cons_zero, List.set_cons_succ, i64_w, i32_w]
    rfl
  refine pure_ (i := 8) (N := some 15) (v := ?_) (a' := ?_) #[true, true, true, true, true, true, true, true, true, false, false, false] rfl rfl (by kernel_rfl) (fun _ _ _ h => h) (Or.inl ⟨by rfl, ?_⟩) ?_ ?_
  rotate_left
  · intro w'
    go_simp
    with_reducible rfl
  rotate_left
  · simp only [Act.put, List.setIfInBounds_toArray, List.set_cons_zero, List.set_cons_succ, i64_w, i32_w]
    rfl
  refine pure_ (i := 9) (N := some 16) (v := ?_) (a' := ?_) #[true, true, true, true, true, true, true, true, true, true, false, false] rfl rfl (by kernel_rfl) (fun _ _ _ h => h) (Or.inl ⟨by rfl, ?_⟩) ?_ ?_
  rotate_left
  · intro w'
    go_simp
    with_reducible rfl
  rotate_left
  · simp only [Act.put, List.setIfInBounds_toArray, List.set_cons_zero, List.set_cons_succ, i64_w, i32_w]
    rfl
  refine pure_ (i := 10) (N := some 5) (v := ?_) (a' := ?_) #[true, true, true, true, true, true, true, true, true, true, true, false] rfl rfl (by kernel_rfl) (fun _ _ _ h => h) (Or.inl ⟨by rfl, ?_⟩) ?_ ?_
  rotate_left
  · intro w'
    go_simp
    with_reducible rfl
  rotate_left
  · simp only [Act.put, List.setIfInBounds_toArray, List.set_cons_zero, List.set_cons_succ, i64_w, i32_w]
    rfl
  refine pure_ (i := 11) (N := some 6) (v := ?_) (a' := ?_) #[true, true, true, true, true, true, true, true, true, true, true, true] rfl rfl (by kernel_rfl) (fun _ _ _ h => h) (Or.inl ⟨by rfl, ?_⟩) ?_ ?_
  rotate_left
  · intro w'
    go_simp
    with_reducible rfl
  rotate_left
  · simp only [Act.put, List.setIfInBounds_toArray, List.set_cons_zero, List.set_cons_succ, i64_w, i32_w]
    rfl
  refine done_ (by kernel_rfl) ?_
  have H2 := Aside0.mk ((H.out.drew.below hb1).below hb2)
  have BB := Aside0.mk ((Below.trans (below_drew1 (Below.refl _ _)) (hb1.mono H.out.size)).trans (hb2.mono (Nat.le_trans H.out.size hb1.size)) : Below B w w2)
  clear c14 c14a lt lt1 hb1 hb2
  go_wp2_with (go_at_call 97; refine (act_disp w2 _ m hm0 hm H2.out hl).mono ?_; rintro e w4 ⟨rfl, h4, hb4⟩; have c14d := h4.c14; have f14 := h4.fp 14; have H4 := Aside0.mk h4; have B4 := Aside0.mk (Below.trans BB.out hb4); clear h4 hb4)
  go_ret
  refine ⟨_, rfl, by repeat (first | with_reducible exact H4.out | with_reducible apply PSt.setQ | with_reducible apply PSt.setN | with_reducible apply PSt.setC | with_reducible apply PSt.setS | with_reducible apply PSt.drewN | with_reducible apply PSt.drew), Below.trans B4.out (by repeat (first | with_reducible exact Below.refl _ _ | with_reducible apply below_drew1 | with_reducible apply pw_below_drewN | (with_reducible refine Below.setCell ?_ H4.out.geQ _) | (with_reducible refine Below.setCell ?_ H4.out.geP _)))⟩
set_option maxRecDepth 1000000 in
set_option maxHeartbeats 20000000 in
theorem adv_m1 (w : World) (hq : qs.getD 0 0 ≠ 2147483647)  (h : PSt B gp gq gd gb go w qs 0 0 3 evs) (hl : evs.length ≤ 100000) :
    Calls Tryz.prog 81 #[.pointer (some ⟨gp, 0, none⟩), .int .u8 109] w (APost B gp gq gd gb go w qs 1 109 0 (evs ++ [⟨2, 0, 0, 109, qs.take 1, []⟩])) := by
  have H := Aside0.mk h
  have c14 := h.c14; have lt := blk_lt h.p
  have HD : tdom 3 109 = true := by decide
  have HX : ((tz 3 109 % 16 : Nat) : Int) = 0 := by decide
  have HY : ((tz 3 109 / 16 : Nat) : Int) = 4 := by decide
  clear h
  go_enter Tryz.func81, Tryz.ntmps81
  go_wp2_with fail
  refine start_ (n := 12) (S := fun w' => w'.cell? ⟨gp, 14, none⟩ = some (.int .u8 3)) (ds := []) #[false, false, false, false, false, false, false, false, false, false, false, false] (by kernel_rfl) rfl rfl (c14) (fun hHeld => ?_)
  refine pure_ (i := 1) (N := some 9) (v := ?_) (a' := ?_) #[false, true, false, false, false, false, false, false, false, false, false, false] rfl rfl (by kernel_rfl) (fun _ _ _ h => h) (Or.inl ⟨by rfl, ?_⟩) ?_ ?_
  rotate_left
  · intro w'
    go_simp
    with_reducible rfl
  rotate_left
  · simp only [Act.put, List.setIfInBounds_toArray, List.set_cons_zero, List.set_cons_succ, i64_w, i32_w]
    rfl
  refine pure_ (i := 2) (N := some 10) (v := ?_) (a' := ?_) #[false, true, true, false, false, false, false, false, false, false, false, false] rfl rfl (by kernel_rfl) (fun _ _ _ h => h) (Or.inl ⟨by rfl, ?_⟩) ?_ ?_
  rotate_left
  · intro w'
    go_simp
    with_reducible rfl
  rotate_left
  · simp only [Act.put, List.setIfInBounds_toArray, List.set_cons_zero, List.set_cons_succ, i64_w, i32_w]
    rfl
  refine pure_ (i := 3) (N := some 11) (v := ?_) (a' := ?_) #[false, true, true, true, false, false, false, false, false, false, false, false] rfl rfl (by kernel_rfl) (fun _ _ _ h => h) (Or.inl ⟨by rfl, ?_⟩) ?_ ?_
  rotate_left
  · intro w'
    go_simp
    with_reducible rfl
  rotate_left
  · simp only [Act.put, List.setIfInBounds_toArray, List.set_cons_zero, List.set_cons_succ, i64_w, i32_w]
    rfl
  refine pure_ (i := 5) (N := some 13) (v := ?_) (a' := ?_) #[false, true, true, true, false, true, false, false, false, false, false, false] rfl rfl (by kernel_rfl) (fun _ _ _ h => h) (Or.inl ⟨by rfl, ?_⟩) ?_ ?_
  rotate_left
  · intro w'
    go_simp
    with_reducible rfl
  rotate_left
  · simp only [Act.put, List.setIfInBounds_toArray, List.set_cons_zero, List.set_cons_succ, i64_w, i32_w]
    rfl
  refine take_ (i := 4) (N := some 12) (v := ?_) (a' := ?_) #[false, true, true, true, true, true, false, false, false, false, false, false] rfl rfl (by kernel_rfl) (fun _ _ _ h => h) (Or.inl ⟨by rfl, ?_⟩) hHeld ?_ ?_
  rotate_left
  · intro w' s0
    go_simp
    with_reducible rfl
  rotate_left
  · simp only [Act.put, List.setIfInBounds_toArray, List.set_cons_zero, List.set_cons_succ, i64_w, i32_w]
    rfl
  refine one_ (i := 0) (N := some 8) #[true, true, true, true, true, true, false, false, false, false, false, false] rfl rfl (by kernel_rfl) (by decide) (fun K hK => ?_)
  refine goes_ Tryz.func95 (by kernel_rfl) rfl #[] (by rfl) rfl rfl (by simp) ?_
  with_reducible refine (Table_calls w.drew).mono ?_
  rintro e w1 ⟨rfl, hb1⟩
  refine ⟨_, rfl, ?_⟩
  have c14a := (hb1.cell lt).trans c14
  have lt1 := Nat.lt_of_lt_of_le lt hb1.size
  refine hK.out _ _ (c14a) (fun hHeld => ?_)
  clear hK K
  refine norm_ (a' := ?_) ?_ ?_
  rotate_left
  · show Act.put _ (some 8) _ = _
    simp only [Act.put, List.setIfInBounds_toArray, List.set_cons_zero, List.set_cons_succ, i64_w, i32_w]
    rfl
  refine one_ (i := 6) (N := some 14) #[true, true, true, true, true, true, true, false, false, false, false, false] rfl rfl (by kernel_rfl) (by decide) (fun K hK => ?_)
  refine goes_ Tryz.func96 (by kernel_rfl) rfl #[.agg #[], .int .u8 3, .int .u8 109] (by rfl) rfl rfl (by simp only [List.map_toArray, List.map_cons, List.map_nil]; rfl) ?_
  with_reducible refine (trans_at 3 109 w1 HD 3 109 0 4 rfl rfl HX HY).mono ?_
  rintro e w2 ⟨rfl, hb2⟩
  refine ⟨_, rfl, ?_⟩
  have c14b := (hb2.cell lt1).trans c14a
  refine hK.out _ _ (c14b) (fun hHeld => ?_)
  clear hK K
  refine norm_ (a' := ?_) ?_ ?_
  rotate_left
  · show Act.put _ (some 14) _ = _
    simp only [Act.put, List.setIfInBounds_toArray, List.set_cons_zero, List.set_cons_succ, i64_w, i32_w]
    rfl
  refine pure_ (i := 7) (N := some 7) (v := ?_) (a' := ?_) #[true, true, true, true, true, true, true, true, false, false, false, false] rfl rfl (by kernel_rfl) (fun _ _ _ h => h) (Or.inl ⟨by rfl, ?_⟩) ?_ ?_
  rotate_left
  · intro w'
    go_simp
    with_reducible rfl
  rotate_left
  · simp only [Act.put, List.setIfInBounds_toArray, List.set_cons_zero, List.set_cons_succ, i64_w, i32_w]
    rfl
  refine pure_ (i := 8) (N := some 15) (v := ?_) (a' := ?_) #[true, true, true, true, true, true, true, true, true, false, false, false] rfl rfl (by kernel_rfl) (fun _ _ _ h => h) (Or.inl ⟨by rfl, ?_⟩) ?_ ?_
  rotate_left
  · intro w'
    go_simp
    with_reducible rfl
  rotate_left
  · simp only [Act.put, List.setIfInBounds_toArray, List.set_cons_zero, List.set_cons_succ, i64_w, i32_w]
    rfl
  refine pure_ (i := 9) (N := some 16) (v := ?_) (a' := ?_) #[true, true, true, true, true, true, true, true, true, true, false, false] rfl rfl (by kernel_rfl) (fun _ _ _ h => h) (Or.inl ⟨by rfl, ?_⟩) ?_ ?_
  rotate_left
  · intro w'
    go_simp
    with_reducible rfl
  rotate_left
  · simp only [Act.put, List.setIfInBounds_toArray, List.set_cons_zero, List.set_cons_succ, i64_w, i32_w]
    rfl
  refine pure_ (i := 10) (N := some 5) (v := ?_) (a' := ?_) #[true, true, true, true, true, true, true, true, true, true, true, false] rfl rfl (by kernel_rfl) (fun _ _ _ h => h) (Or.inl ⟨by rfl, ?_⟩) ?_ ?_
  rotate_left
  · intro w'
    go_simp
    with_reducible rfl
  rotate_left
  · simp only [Act.put, List.setIfInBounds_toArray, List.set_cons_zero, List.set_cons_succ, i64_w, i32_w]
    rfl
  refine pure_ (i := 11) (N := some 6) (v := ?_) (a' := ?_) #[true, true, true, true, true, true, true, true, true, true, true, true] rfl rfl (by kernel_rfl) (fun _ _ _ h => h) (Or.inl ⟨by rfl, ?_⟩) ?_ ?_
  rotate_left
  · intro w'
    go_simp
    with_reducible rfl
  rotate_left
  · simp only [Act.put, List.setIfInBounds_toArray, List.set_cons_zero, List.set_cons_succ, i64_w, i32_w]
    rfl
  refine done_ (by kernel_rfl) ?_
  have H2 := Aside0.mk ((H.out.drew.below hb1).below hb2)
  have BB := Aside0.mk ((Below.trans (below_drew1 (Below.refl _ _)) (hb1.mono H.out.size)).trans (hb2.mono (Nat.le_trans H.out.size hb1.size)) : Below B w w2)
  clear c14 c14a lt lt1 hb1 hb2
  go_wp2_with (go_at_call 97; refine (act_disp1 w2 _ hq H2.out hl).mono ?_; rintro e w4 ⟨rfl, h4, hb4⟩; have c14d := h4.c14; have f14 := h4.fp 14; have H4 := Aside0.mk h4; have B4 := Aside0.mk (Below.trans BB.out hb4); clear h4 hb4)
  go_ret
  refine ⟨_, rfl, by repeat (first | with_reducible exact H4.out | with_reducible apply PSt.setQ | with_reducible apply PSt.setN | with_reducible apply PSt.setC | with_reducible apply PSt.setS | with_reducible apply PSt.drewN | with_reducible apply PSt.drew), Below.trans B4.out (by repeat (first | with_reducible exact Below.refl _ _ | with_reducible apply below_drew1 | with_reducible apply pw_below_drewN | (with_reducible refine Below.setCell ?_ H4.out.geQ _) | (with_reducible refine Below.setCell ?_ H4.out.geP _)))⟩
set_option maxRecDepth 1000000 in
set_option maxHeartbeats 20000000 in
theorem adv_m0 (w : World) (hq : qs.getD 0 0 = 2147483647)  (h : PSt B gp gq gd gb go w qs 0 0 1 evs) (hl : evs.length ≤ 100000) :
    Calls Tryz.prog 81 #[.pointer (some ⟨gp, 0, none⟩), .int .u8 109] w (APost B gp gq gd gb go w qs 0 109 0 (evs ++ [⟨2, 0, 0, 109, [], []⟩])) := by
  have H := Aside0.mk h
  have c14 := h.c14; have lt := blk_lt h.p
  have HD : tdom 1 109 = true := by decide
  have HX : ((tz 1 109 % 16 : Nat) : Int) = 0 := by decide
  have HY : ((tz 1 109 / 16 : Nat) : Int) = 4 := by decide
  clear h
  go_enter Tryz.func81, Tryz.ntmps81
  go_wp2_with fail
  refine start_ (n := 12) (S := fun w' => w'.cell? ⟨gp, 14, none⟩ = some (.int .u8 1)) (ds := []) #[false, false, false, false, false, false, false, false, false, false, false, false] (by kernel_rfl) rfl rfl (c14) (fun hHeld => ?_)
  refine pure_ (i := 1) (N := some 9) (v := ?_) (a' := ?_) #[false, true, false, false, false, false, false, false, false, false, false, false] rfl rfl (by kernel_rfl) (fun _ _ _ h => h) (Or.inl ⟨by rfl, ?_⟩) ?_ ?_
  rotate_left
  · intro w'
    go_simp
    with_reducible rfl
  rotate_left
  · simp only [Act.put, List.setIfInBounds_toArray, List.set_cons_zero, List.set_cons_succ, i64_w, i32_w]
    rfl
  refine pure_ (i := 2) (N := some 10) (v := ?_) (a' := ?_) #[false, true, true, false, false, false, false, false, false, false, false, false] rfl rfl (by kernel_rfl) (fun _ _ _ h => h) (Or.inl ⟨by rfl, ?_⟩) ?_ ?_
  rotate_left
  · intro w'
    go_simp
    with_reducible rfl
  rotate_left
  · simp only [Act.put, List.setIfInBounds_toArray, List.set_cons_zero, List.set_cons_succ, i64_w, i32_w]
    rfl
  refine pure_ (i := 3) (N := some 11) (v := ?_) (a' := ?_) #[false, true, true, true, false, false, false, false, false, false, false, false] rfl rfl (by kernel_rfl) (fun _ _ _ h => h) (Or.inl ⟨by rfl, ?_⟩) ?_ ?_
  rotate_left
  · intro w'
    go_simp
    with_reducible rfl
  rotate_left
  · simp only [Act.put, List.setIfInBounds_toArray, List.set_cons_zero, List.set_cons_succ, i64_w, i32_w]
    rfl
  refine pure_ (i := 5) (N := some 13) (v := ?_) (a' := ?_) #[false, true, true, true, false, true, false, false, false, false, false, false] rfl rfl (by kernel_rfl) (fun _ _ _ h => h) (Or.inl ⟨by rfl, ?_⟩) ?_ ?_
  rotate_left
  · intro w'
    go_simp
    with_reducible rfl
  rotate_left
  · simp only [Act.put, List.setIfInBounds_toArray, List.set_cons_zero, List.set_cons_succ, i64_w, i32_w]
    rfl
  refine take_ (i := 4) (N := some 12) (v := ?_) (a' := ?_) #[false, true, true, true, true, true, false, false, false, false, false, false] rfl rfl (by kernel_rfl) (fun _ _ _ h => h) (Or.inl ⟨by rfl, ?_⟩) hHeld ?_ ?_
  rotate_left
  · intro w' s0
    go_simp
    with_reducible rfl
  rotate_left
  · simp only [Act.put, List.setIfInBounds_toArray, List.set_cons_zero, List.set_cons_succ, i64_w, i32_w]
    rfl
  refine one_ (i := 0) (N := some 8) #[true, true, true, true, true, true, false, false, false, false, false, false] rfl rfl (by kernel_rfl) (by decide) (fun K hK => ?_)
  refine goes_ Tryz.func95 (by kernel_rfl) rfl #[] (by rfl) rfl rfl (by simp) ?_
  with_reducible refine (Table_calls w.drew).mono ?_
  rintro e w1 ⟨rfl, hb1⟩
  refine ⟨_, rfl, ?_⟩
  have c14a := (hb1.cell lt).trans c14
  have lt1 := Nat.lt_of_lt_of_le lt hb1.size
  refine hK.out _ _ (c14a) (fun hHeld => ?_)
  clear hK K
  refine norm_ (a' := ?_) ?_ ?_
  rotate_left
  · show Act.put _ (some 8) _ = _
    simp only [Act.put, List.setIfInBounds_toArray, List.set_cons_zero, List.set_cons_succ, i64_w, i32_w]
    rfl
  refine one_ (i := 6) (N := some 14) #[true, true, true, true, true, true, true, false, false, false, false, false] rfl rfl (by kernel_rfl) (by decide) (fun K hK => ?_)
  refine goes_ Tryz.func96 (by kernel_rfl) rfl #[.agg #[], .int .u8 1, .int .u8 109] (by rfl) rfl rfl (by simp only [List.map_toArray, List.map_cons, List.map_nil]; rfl) ?_
  with_reducible refine (trans_at 1 109 w1 HD 1 109 0 4 rfl rfl HX HY).mono ?_
  rintro e w2 ⟨rfl, hb2⟩
  refine ⟨_, rfl, ?_⟩
  have c14b := (hb2.cell lt1).trans c14a
  refine hK.out _ _ (c14b) (fun hHeld => ?_)
  clear hK K
  refine norm_ (a' := ?_) ?_ ?_
  rotate_left
  · show Act.put _ (some 14) _ = _
    simp only [Act.put, List.setIfInBounds_toArray, List.set_cons_zero, List.set_cons_succ, i64_w, i32_w]
    rfl
  refine pure_ (i := 7) (N := some 7) (v := ?_) (a' := ?_) #[true, true, true, true, true, true, true, true, false, false, false, false] rfl rfl (by kernel_rfl) (fun _ _ _ h => h) (Or.inl ⟨by rfl, ?_⟩) ?_ ?_
  rotate_left
  · intro w'
    go_simp
    with_reducible rfl
  rotate_left
  · simp only [Act.put, List.setIfInBounds_toArray, List.set_cons_zero, List.set_cons_succ, i64_w, i32_w]
    rfl
  refine pure_ (i := 8) (N := some 15) (v := ?_) (a' := ?_) #[true, true, true, true, true, true, true, true, true, false, false, false] rfl rfl (by kernel_rfl) (fun _ _ _ h => h) (Or.inl ⟨by rfl, ?_⟩) ?_ ?_
  rotate_left
  · intro w'
    go_simp
    with_reducible rfl
  rotate_left
  · simp only [Act.put, List.setIfInBounds_toArray, List.set_cons_zero, List.set_cons_succ, i64_w, i32_w]
    rfl
  refine pure_ (i := 9) (N := some 16) (v := ?_) (a' := ?_) #[true, true, true, true, true, true, true, true, true, true, false, false] rfl rfl (by kernel_rfl) (fun _ _ _ h => h) (Or.inl ⟨by rfl, ?_⟩) ?_ ?_
  rotate_left
  · intro w'
    go_simp
    with_reducible rfl
  rotate_left
  · simp only [Act.put, List.setIfInBounds_toArray, List.set_cons_zero, List.set_cons_succ, i64_w, i32_w]
    rfl
  refine pure_ (i := 10) (N := some 5) (v := ?_) (a' := ?_) #[true, true, true, true, true, true, true, true, true, true, true, false] rfl rfl (by kernel_rfl) (fun _ _ _ h => h) (Or.inl ⟨by rfl, ?_⟩) ?_ ?_
  rotate_left
  · intro w'
    go_simp
    with_reducible rfl
  rotate_left
  · simp only [Act.put, List.setIfInBounds_toArray, List.set_cons_zero, List.set_cons_succ, i64_w, i32_w]
    rfl
  refine pure_ (i := 11) (N := some 6) (v := ?_) (a' := ?_) #[true, true, true, true, true, true, true, true, true, true, true, true] rfl rfl (by kernel_rfl) (fun _ _ _ h => h) (Or.inl ⟨by rfl, ?_⟩) ?_ ?_
  rotate_left
  · intro w'
    go_simp
    with_reducible rfl
  rotate_left
  · simp only [Act.put, List.setIfInBounds_toArray, List.set_cons_zero, List.set_cons_succ, i64_w, i32_w]
    rfl
  refine done_ (by kernel_rfl) ?_
  have H2 := Aside0.mk ((H.out.drew.below hb1).below hb2)
  have BB := Aside0.mk ((Below.trans (below_drew1 (Below.refl _ _)) (hb1.mono H.out.size)).trans (hb2.mono (Nat.le_trans H.out.size hb1.size)) : Below B w w2)
  clear c14 c14a lt lt1 hb1 hb2
  go_wp2_with (go_at_call 97; refine (act_disp0 w2 _ hq H2.out hl).mono ?_; rintro e w4 ⟨rfl, h4, hb4⟩; have c14d := h4.c14; have f14 := h4.fp 14; have H4 := Aside0.mk h4; have B4 := Aside0.mk (Below.trans BB.out hb4); clear h4 hb4)
  go_ret
  refine ⟨_, rfl, by repeat (first | with_reducible exact H4.out | with_reducible apply PSt.setQ | with_reducible apply PSt.setN | with_reducible apply PSt.setC | with_reducible apply PSt.setS | with_reducible apply PSt.drewN | with_reducible apply PSt.drew), Below.trans B4.out (by repeat (first | with_reducible exact Below.refl _ _ | with_reducible apply below_drew1 | with_reducible apply pw_below_drewN | (with_reducible refine Below.setCell ?_ H4.out.geQ _) | (with_reducible refine Below.setCell ?_ H4.out.geP _)))⟩
end
end Go.Proofs.YtjdpkhnpgdangaaGreatDoor.PQ

