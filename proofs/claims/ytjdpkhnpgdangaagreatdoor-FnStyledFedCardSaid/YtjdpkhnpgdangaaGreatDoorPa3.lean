/- performAction: clear, print, a digit, a semicolon, dispatch. -/
import Derived.Test.YtjdpkhnpgdangaaGreatDoorPa2
namespace Go.Proofs.YtjdpkhnpgdangaaGreatDoor.PQ
open Go.RowKit Go.Proofs.YtjdpkhnpgdangaaGreatDoorW.PrintWords Go.Proofs.YtjdpkhnpgdangaaGreatDoorW.PrintLast Go.Proofs.YtjdpkhnpgdangaaGreatDoorW.PrintMore
set_option linter.unusedVariables false
set_option linter.unusedSimpArgs false

theorem neq_nilFunc {P : Program} {t : TypeId} {ps : Array TypeId} {rs : Array TypeId} {v : Bool} (ht : P.underlying t = some (.func ps rs v)) (f : Fn) (p x : Array Value) (W : World) : (binOp .neq t (.func f p x) .nilFunc).run P W = .ok (.bool true) W := by
  have he : (Op.equalIn (9999 + 1) t (.func f p x) .nilFunc).run P W = .ok false W := by
    unfold Op.equalIn
    simp [run_underlying ht]
  have he' : (Op.equal t (.func f p x) .nilFunc).run P W = .ok false W := he
  simp [binOp]
  rw [he']
  rfl
theorem set_same (qs : List Int) (m : Nat) : qs.set m (qs.getD m 0) = qs := by
  apply List.ext_getElem?
  intro i
  by_cases h : m = i
  · subst h
    by_cases hl : m < qs.length
    · rw [List.getElem?_set_self hl, List.getD_eq_getElem?_getD, List.getElem?_eq_getElem hl]; rfl
    · rw [List.set_eq_of_length_le (by omega)]
  · rw [List.getElem?_set_ne h]
theorem cutW {P : Program} {c : Code} {Q : Exit → Act → World → Prop} {a : Act} {W : World} {S : World → Prop} (h : S W) (k : ∀ W', S W' → Code.wp P c Q a W') : Code.wp P c Q a W := k W h
theorem pst_set2 {B gp gq : Nat} {gd : GX} {gb go : Nat} {qs : List Int} {n cmd st : Int} {evs : List S77} {W : World} {m : Nat} {x y z : Int} (h : PSt B gp gq gd gb go W ((qs.set m x).set m y) n cmd st evs) (e : z = y) : PSt B gp gq gd gb go W (qs.set m z) n cmd st evs := by
  rw [List.set_set] at h
  rw [e]
  exact h
section
variable {B gp gq : Nat} {gd : GX} {gb go : Nat} {qs : List Int} {n cmd st : Int} {evs : List S77}
set_option maxRecDepth 1000000 in
set_option maxHeartbeats 20000000 in
theorem act_clear (w : World) (s b : Int) (h : PSt B gp gq gd gb go w qs n cmd st evs) :
    Calls Tryz.prog 97 #[.pointer (some ⟨gp, 0, none⟩), .int .u8 1, .int .u8 s, .int .u8 b] w (PPost B gp gq gd gb go w (qs.set 0 2147483647) 0 0 st evs) := by
  have H := Aside0.mk h
  clear h
  go_enter Tryz.func97, Tryz.ntmps97
  go_wp2_with (go_at_call 105; refine (clear_calls w H.out).mono ?_; rintro e w1 ⟨rfl, h1, hb1⟩)
  go_end0
  exact ⟨rfl, h1, hb1⟩

set_option maxRecDepth 1000000 in
set_option maxHeartbeats 20000000 in
theorem act_print (w : World) (s b : Int) (h : PSt B gp gq gd gb go w qs n cmd st evs) (h0 : 0 ≤ b) (h1 : b ≤ 255) (hl : evs.length ≤ 100000) :
    Calls Tryz.prog 97 #[.pointer (some ⟨gp, 0, none⟩), .int .u8 9, .int .u8 s, .int .u8 b] w (PPost B gp gq gd gb go w qs n b st (evs ++ [⟨0, b, 0, 0, [], []⟩])) := by
  have H := Aside0.mk h
  have c0 := h.c0; have c13 := h.c13; have f13 := h.fp 13
  have hw : IntKind.i64.wrap b = b := by rw [IntKind.wrap_i64]; omega
  have hw2 : IntKind.i32.wrap b = b := by rw [IntKind.wrap_i32]; omega
  have hn := fun W => neq_nilFunc Tryz.underlying120 (.func 70) #[] #[.pointer (some ⟨gb, 0, none⟩)] W
  clear h
  go_enter Tryz.func97, Tryz.ntmps97
  go_wp2_with (go_at_call 70; refine (listen1_calls b _ (H.out.setC b) h0 h1 hl).mono ?_; rintro e w1 ⟨rfl, h2, hb1⟩)
  go_end0
  exact ⟨rfl, h2, (((Below.refl B w).setCell (p := ⟨gp, 13, none⟩) H.out.geP _).trans hb1)⟩

set_option maxRecDepth 1000000 in
set_option maxHeartbeats 20000000 in
theorem act_digit1 (w : World) (s : Int) (m : Nat) (b : Int) (h : PSt B gp gq gd gb go w qs m cmd st evs) (h0 : 48 ≤ b) (h1 : b ≤ 57) (hm : m < 32) (x : Int) (hx : qs.getD m 0 = x) (hx1 : x = 2147483647) :
    Calls Tryz.prog 97 #[.pointer (some ⟨gp, 0, none⟩), .int .u8 8, .int .u8 s, .int .u8 b] w (PPost B gp gq gd gb go w (qs.set m (0 * 10 + (b - 48))) m cmd st evs) := by
  have H := Aside0.mk h
  have c9 := h.c9; have c12 := h.c12; have cq := h.cq m hm; have fq := h.fq m
  rw [hx] at cq
  clear h
  have hm3 : (m : Int) < 32 := by omega
  have d1 : decide ((m : Int) ≥ 32) = false := decide_eq_false (by omega)
  have d2 : decide (b ≥ 48) = true := decide_eq_true h0
  have d3 : decide (b ≤ 57) = true := decide_eq_true h1
  have d4 : (b == 58) = false := by simp; omega
  have d5 : (b == 59) = false := by simp; omega
  have d6 : (x == 2147483647) = true := by simp [hx1]
  go_enter Tryz.func97, Tryz.ntmps97
  go_wp2_with fail
  go_quiet (fail)
  go_wp2_with fail
  go_quiet (fail)
  go_wp2_with fail
  refine start_ (n := 10) (S := fun w' => w'.cell? ⟨gp, 9, none⟩ = some (.slice (some ⟨gq, 0, none⟩) 32 32) ∧ w'.cell? ⟨gp, 12, none⟩ = some (.int .i64 (m : Nat)) ∧ w'.cell? ⟨gq, m, none⟩ = some (.int .i64 x)) (ds := [9]) #[false, false, false, false, false, false, false, false, false, false] (by kernel_rfl) rfl rfl ⟨c9, c12, cq⟩ (fun hHeld => ?_)
  refine pure_ (i := 0) (N := some 132) (v := ?_) (a' := ?_) #[true, false, false, false, false, false, false, false, false, false] rfl rfl (by kernel_rfl) (fun _ _ _ h => h) (Or.inl ⟨by rfl, ?_⟩) ?_ ?_
  rotate_left
  · intro w'
    go_simp
    with_reducible rfl
  rotate_left
  · simp only [Act.put, List.setIfInBounds_toArray, List.set_cons_zero, List.set_cons_succ, i64_w, i32_w]
    rfl
  refine pure_ (i := 1) (N := some 133) (v := ?_) (a' := ?_) #[true, true, false, false, false, false, false, false, false, false] rfl rfl (by kernel_rfl) (fun _ _ _ h => h) (Or.inl ⟨by rfl, ?_⟩) ?_ ?_
  rotate_left
  · intro w'
    go_simp
    with_reducible rfl
  rotate_left
  · simp only [Act.put, List.setIfInBounds_toArray, List.set_cons_zero, List.set_cons_succ, i64_w, i32_w]
    rfl
  refine pure_ (i := 2) (N := some 134) (v := ?_) (a' := ?_) #[true, true, true, false, false, false, false, false, false, false] rfl rfl (by kernel_rfl) (fun _ _ _ h => h) (Or.inl ⟨by rfl, ?_⟩) ?_ ?_
  rotate_left
  · intro w'
    go_simp
    with_reducible rfl
  rotate_left
  · simp only [Act.put, List.setIfInBounds_toArray, List.set_cons_zero, List.set_cons_succ, i64_w, i32_w]
    rfl
  refine pure_ (i := 4) (N := some 136) (v := ?_) (a' := ?_) #[true, true, true, false, true, false, false, false, false, false] rfl rfl (by kernel_rfl) (fun _ _ _ h => h) (Or.inl ⟨by rfl, ?_⟩) ?_ ?_
  rotate_left
  · intro w'
    go_simp
    with_reducible rfl
  rotate_left
  · simp only [Act.put, List.setIfInBounds_toArray, List.set_cons_zero, List.set_cons_succ, i64_w, i32_w]
    rfl
  refine pure_ (i := 5) (N := some 137) (v := ?_) (a' := ?_) #[true, true, true, false, true, true, false, false, false, false] rfl rfl (by kernel_rfl) (fun _ _ _ h => h) (Or.inl ⟨by rfl, ?_⟩) ?_ ?_
  rotate_left
  · intro w'
    go_simp
    with_reducible rfl
  rotate_left
  · simp only [Act.put, List.setIfInBounds_toArray, List.set_cons_zero, List.set_cons_succ, i64_w, i32_w]
    rfl
  refine pure_ (i := 6) (N := some 138) (v := ?_) (a' := ?_) #[true, true, true, false, true, true, true, false, false, false] rfl rfl (by kernel_rfl) (fun _ _ _ h => h) (Or.inl ⟨by rfl, ?_⟩) ?_ ?_
  rotate_left
  · intro w'
    go_simp
    with_reducible rfl
  rotate_left
  · simp only [Act.put, List.setIfInBounds_toArray, List.set_cons_zero, List.set_cons_succ, i64_w, i32_w]
    rfl
  refine take_ (i := 3) (N := some 135) (v := ?_) (a' := ?_) #[true, true, true, true, true, true, true, false, false, false] rfl rfl (by kernel_rfl) (fun _ _ _ h => h) (Or.inl ⟨by rfl, ?_⟩) hHeld ?_ ?_
  rotate_left
  · rintro w' ⟨s0, s1, s2⟩
    go_simp
    with_reducible rfl
  rotate_left
  · simp only [Act.put, List.setIfInBounds_toArray, List.set_cons_zero, List.set_cons_succ, i64_w, i32_w]
    rfl
  refine take_ (i := 7) (N := some 139) (v := ?_) (a' := ?_) #[true, true, true, true, true, true, true, true, false, false] rfl rfl (by kernel_rfl) (fun _ _ _ h => h) (Or.inl ⟨by rfl, ?_⟩) hHeld ?_ ?_
  rotate_left
  · rintro w' ⟨s0, s1, s2⟩
    go_simp
    with_reducible rfl
  rotate_left
  · simp only [Act.put, List.setIfInBounds_toArray, List.set_cons_zero, List.set_cons_succ, i64_w, i32_w]
    rfl
  refine pure_ (i := 8) (N := some 140) (v := ?_) (a' := ?_) #[true, true, true, true, true, true, true, true, true, false] rfl rfl (by kernel_rfl) (fun _ _ _ h => h) (Or.inl ⟨by rfl, ?_⟩) ?_ ?_
  rotate_left
  · intro w'
    go_simp
    with_reducible rfl
  rotate_left
  · simp only [Act.put, List.setIfInBounds_toArray, List.set_cons_zero, List.set_cons_succ, i64_w, i32_w]
    rfl
  refine last_ (i := 9) (N := none) #[true, true, true, true, true, true, true, true, true, true] rfl rfl (by kernel_rfl) (by decide) (fun K hK => ?_)
  refine skip_ (w1 := ?_) (by rfl) rfl ?_ ?_
  rotate_left
  · go_simp
    rfl
  refine hK.out _ _ ?_
  clear hK K
  refine done_ (by kernel_rfl) ?_
  go_wp2_with fail
  obtain ⟨x1, e1⟩ : ∃ x1 : Int, x1 = 0 := ⟨0, rfl⟩
  refine cutW (S := fun W => PSt B gp gq gd gb go W (qs.set m x1) m cmd st evs ∧ Below B w W) ⟨by subst e1; repeat (first | with_reducible exact H.out | with_reducible apply PSt.setQ | with_reducible apply PSt.setN | with_reducible apply PSt.setC | with_reducible apply PSt.setS | with_reducible apply PSt.drewN | with_reducible apply PSt.drew), by subst e1; repeat (first | with_reducible exact Below.refl _ _ | with_reducible apply below_drew1 | with_reducible apply pw_below_drewN | (with_reducible refine Below.setCell ?_ H.out.geQ _) | (with_reducible refine Below.setCell ?_ H.out.geP _))⟩ ?_
  rintro w1 ⟨H1, B1⟩
  have hb1 : 0 ≤ x1 := by omega
  have hb2 : x1 ≤ 100000 := by omega
  have E1 := Aside0.mk e1
  clear e1
  have lq : qs.length = 32 := H.out.ql
  have e2 : (qs.set m x1).getD m 0 = x1 := by rw [List.getD_eq_getElem?_getD, List.getElem?_set_self (by omega)]; rfl
  replace H := Aside0.mk H1
  have BB := Aside0.mk B1
  clear c9 c12 cq fq d6 hx
  have c9 := H1.c9; have c12 := H1.c12; have cq := H1.cq m hm; have fq := H1.fq m
  rw [e2] at cq
  clear H1 B1
  obtain ⟨x2, e3⟩ : ∃ x2 : Int, x2 = x1 * 10 := ⟨_, rfl⟩
  have m1 : wrap64 (x1 * 10) = x2 := by rw [← i64_w, IntKind.wrap_i64]; omega
  have hb3 : 0 ≤ x2 := by omega
  have hb4 : x2 ≤ 1000000 := by omega
  have E3 := Aside0.mk e3
  clear e3
  refine start_ (n := 13) (S := fun w' => w'.cell? ⟨gp, 9, none⟩ = some (.slice (some ⟨gq, 0, none⟩) 32 32) ∧ w'.cell? ⟨gp, 12, none⟩ = some (.int .i64 (m : Nat)) ∧ w'.cell? ⟨gq, m, none⟩ = some (.int .i64 x1)) (ds := [12]) #[false, false, false, false, false, false, false, false, false, false, false, false, false] (by kernel_rfl) rfl rfl ⟨c9, c12, cq⟩ (fun hHeld => ?_)
  refine pure_ (i := 0) (N := some 141) (v := ?_) (a' := ?_) #[true, false, false, false, false, false, false, false, false, false, false, false, false] rfl rfl (by kernel_rfl) (fun _ _ _ h => h) (Or.inl ⟨by rfl, ?_⟩) ?_ ?_
  rotate_left
  · intro w'
    go_simp
    with_reducible rfl
  rotate_left
  · simp only [Act.put, List.setIfInBounds_toArray, List.set_cons_zero, List.set_cons_succ, i64_w, i32_w]
    rfl
  refine pure_ (i := 1) (N := some 142) (v := ?_) (a' := ?_) #[true, true, false, false, false, false, false, false, false, false, false, false, false] rfl rfl (by kernel_rfl) (fun _ _ _ h => h) (Or.inl ⟨by rfl, ?_⟩) ?_ ?_
  rotate_left
  · intro w'
    go_simp
    with_reducible rfl
  rotate_left
  · simp only [Act.put, List.setIfInBounds_toArray, List.set_cons_zero, List.set_cons_succ, i64_w, i32_w]
    rfl
  refine pure_ (i := 2) (N := some 143) (v := ?_) (a' := ?_) #[true, true, true, false, false, false, false, false, false, false, false, false, false] rfl rfl (by kernel_rfl) (fun _ _ _ h => h) (Or.inl ⟨by rfl, ?_⟩) ?_ ?_
  rotate_left
  · intro w'
    go_simp
    with_reducible rfl
  rotate_left
  · simp only [Act.put, List.setIfInBounds_toArray, List.set_cons_zero, List.set_cons_succ, i64_w, i32_w]
    rfl
  refine pure_ (i := 4) (N := some 145) (v := ?_) (a' := ?_) #[true, true, true, false, true, false, false, false, false, false, false, false, false] rfl rfl (by kernel_rfl) (fun _ _ _ h => h) (Or.inl ⟨by rfl, ?_⟩) ?_ ?_
  rotate_left
  · intro w'
    go_simp
    with_reducible rfl
  rotate_left
  · simp only [Act.put, List.setIfInBounds_toArray, List.set_cons_zero, List.set_cons_succ, i64_w, i32_w]
    rfl
  refine pure_ (i := 5) (N := some 146) (v := ?_) (a' := ?_) #[true, true, true, false, true, true, false, false, false, false, false, false, false] rfl rfl (by kernel_rfl) (fun _ _ _ h => h) (Or.inl ⟨by rfl, ?_⟩) ?_ ?_
  rotate_left
  · intro w'
    go_simp
    with_reducible rfl
  rotate_left
  · simp only [Act.put, List.setIfInBounds_toArray, List.set_cons_zero, List.set_cons_succ, i64_w, i32_w]
    rfl
  refine pure_ (i := 6) (N := some 147) (v := ?_) (a' := ?_) #[true, true, true, false, true, true, true, false, false, false, false, false, false] rfl rfl (by kernel_rfl) (fun _ _ _ h => h) (Or.inl ⟨by rfl, ?_⟩) ?_ ?_
  rotate_left
  · intro w'
    go_simp
    with_reducible rfl
  rotate_left
  · simp only [Act.put, List.setIfInBounds_toArray, List.set_cons_zero, List.set_cons_succ, i64_w, i32_w]
    rfl
  refine take_ (i := 3) (N := some 144) (v := ?_) (a' := ?_) #[true, true, true, true, true, true, true, false, false, false, false, false, false] rfl rfl (by kernel_rfl) (fun _ _ _ h => h) (Or.inl ⟨by rfl, ?_⟩) hHeld ?_ ?_
  rotate_left
  · rintro w' ⟨s0, s1, s2⟩
    go_simp
    with_reducible rfl
  rotate_left
  · simp only [Act.put, List.setIfInBounds_toArray, List.set_cons_zero, List.set_cons_succ, i64_w, i32_w]
    rfl
  refine take_ (i := 7) (N := some 148) (v := ?_) (a' := ?_) #[true, true, true, true, true, true, true, true, false, false, false, false, false] rfl rfl (by kernel_rfl) (fun _ _ _ h => h) (Or.inl ⟨by rfl, ?_⟩) hHeld ?_ ?_
  rotate_left
  · rintro w' ⟨s0, s1, s2⟩
    go_simp
    with_reducible rfl
  rotate_left
  · simp only [Act.put, List.setIfInBounds_toArray, List.set_cons_zero, List.set_cons_succ, i64_w, i32_w]
    rfl
  refine pure_ (i := 8) (N := some 149) (v := ?_) (a' := ?_) #[true, true, true, true, true, true, true, true, true, false, false, false, false] rfl rfl (by kernel_rfl) (fun _ _ _ h => h) (Or.inl ⟨by rfl, ?_⟩) ?_ ?_
  rotate_left
  · intro w'
    go_simp
    with_reducible rfl
  rotate_left
  · simp only [Act.put, List.setIfInBounds_toArray, List.set_cons_zero, List.set_cons_succ, i64_w, i32_w]
    rfl
  refine take_ (i := 9) (N := some 150) (v := ?_) (a' := ?_) #[true, true, true, true, true, true, true, true, true, true, false, false, false] rfl rfl (by kernel_rfl) (fun _ _ _ h => h) (Or.inl ⟨by rfl, ?_⟩) hHeld ?_ ?_
  rotate_left
  · rintro w' ⟨s0, s1, s2⟩
    go_simp
    with_reducible rfl
  rotate_left
  · simp only [Act.put, List.setIfInBounds_toArray, List.set_cons_zero, List.set_cons_succ, i64_w, i32_w]
    rfl
  refine pure_ (i := 10) (N := some 151) (v := ?_) (a' := ?_) #[true, true, true, true, true, true, true, true, true, true, true, false, false] rfl rfl (by kernel_rfl) (fun _ _ _ h => h) (Or.inl ⟨by rfl, ?_⟩) ?_ ?_
  rotate_left
  · intro w'
    go_simp
    with_reducible rfl
  rotate_left
  · simp only [Act.put, List.setIfInBounds_toArray, List.set_cons_zero, List.set_cons_succ, i64_w, i32_w]
    rfl
  refine pure_ (i := 11) (N := some 152) (v := ?_) (a' := ?_) #[true, true, true, true, true, true, true, true, true, true, true, true, false] rfl rfl (by kernel_rfl) (fun _ _ _ h => h) (Or.inl ⟨by rfl, ?_⟩) ?_ ?_
  rotate_left
  · intro w'
    go_simp
    with_reducible rfl
  rotate_left
  · simp only [Act.put, List.setIfInBounds_toArray, List.set_cons_zero, List.set_cons_succ, i64_w, i32_w]
    rfl
  refine last_ (i := 12) (N := none) #[true, true, true, true, true, true, true, true, true, true, true, true, true] rfl rfl (by kernel_rfl) (by decide) (fun K hK => ?_)
  refine skip_ (w1 := ?_) (by rfl) rfl ?_ ?_
  rotate_left
  · go_simp
    rfl
  refine hK.out _ _ ?_
  clear hK K
  refine done_ (by kernel_rfl) ?_
  go_wp2_with fail
  refine cutW (S := fun W => PSt B gp gq gd gb go W ((qs.set m x1).set m x2) m cmd st evs ∧ Below B w1 W) ⟨by repeat (first | with_reducible exact H.out | with_reducible apply PSt.setQ | with_reducible apply PSt.setN | with_reducible apply PSt.setC | with_reducible apply PSt.setS | with_reducible apply PSt.drewN | with_reducible apply PSt.drew), by repeat (first | with_reducible exact Below.refl _ _ | with_reducible apply below_drew1 | with_reducible apply pw_below_drewN | (with_reducible refine Below.setCell ?_ H.out.geQ _) | (with_reducible refine Below.setCell ?_ H.out.geP _))⟩ ?_
  rintro w2 ⟨H1, B1⟩
  rw [List.set_set] at H1
  have e4 : (qs.set m x2).getD m 0 = x2 := by rw [List.getD_eq_getElem?_getD, List.getElem?_set_self (by omega)]; rfl
  replace H := Aside0.mk H1
  replace BB := Aside0.mk (Below.trans BB.out B1)
  clear c9 c12 cq fq m1
  have c9 := H1.c9; have c12 := H1.c12; have cq := H1.cq m hm; have fq := H1.fq m
  rw [e4] at cq
  clear H1 B1
  obtain ⟨x3, e5⟩ : ∃ x3 : Int, x3 = x2 + (b - 48) := ⟨_, rfl⟩
  have m1 : IntKind.u8.wrap (b - 48) = b - 48 := by rw [IntKind.wrap_u8]; omega
  have m2 : wrap64 (b - 48) = b - 48 := by rw [← i64_w, IntKind.wrap_i64]; omega
  have m3 : wrap64 (x2 + (b - 48)) = x3 := by rw [← i64_w, IntKind.wrap_i64]; omega
  have E5 := Aside0.mk e5
  clear e5
  refine start_ (n := 16) (S := fun w' => w'.cell? ⟨gp, 9, none⟩ = some (.slice (some ⟨gq, 0, none⟩) 32 32) ∧ w'.cell? ⟨gp, 12, none⟩ = some (.int .i64 (m : Nat)) ∧ w'.cell? ⟨gq, m, none⟩ = some (.int .i64 x2)) (ds := [15]) #[false, false, false, false, false, false, false, false, false, false, false, false, false, false, false, false] (by kernel_rfl) rfl rfl ⟨c9, c12, cq⟩ (fun hHeld => ?_)
  refine pure_ (i := 0) (N := some 153) (v := ?_) (a' := ?_) #[true, false, false, false, false, false, false, false, false, false, false, false, false, false, false, false] rfl rfl (by kernel_rfl) (fun _ _ _ h => h) (Or.inl ⟨by rfl, ?_⟩) ?_ ?_
  rotate_left
  · intro w'
    go_simp
    with_reducible rfl
  rotate_left
  · simp only [Act.put, List.setIfInBounds_toArray, List.set_cons_zero, List.set_cons_succ, i64_w, i32_w]
    rfl
  refine pure_ (i := 1) (N := some 154) (v := ?_) (a' := ?_) #[true, true, false, false, false, false, false, false, false, false, false, false, false, false, false, false] rfl rfl (by kernel_rfl) (fun _ _ _ h => h) (Or.inl ⟨by rfl, ?_⟩) ?_ ?_
  rotate_left
  · intro w'
    go_simp
    with_reducible rfl
  rotate_left
  · simp only [Act.put, List.setIfInBounds_toArray, List.set_cons_zero, List.set_cons_succ, i64_w, i32_w]
    rfl
  refine pure_ (i := 2) (N := some 155) (v := ?_) (a' := ?_) #[true, true, true, false, false, false, false, false, false, false, false, false, false, false, false, false] rfl rfl (by kernel_rfl) (fun _ _ _ h => h) (Or.inl ⟨by rfl, ?_⟩) ?_ ?_
  rotate_left
  · intro w'
    go_simp
    with_reducible rfl
  rotate_left
  · simp only [Act.put, List.setIfInBounds_toArray, List.set_cons_zero, List.set_cons_succ, i64_w, i32_w]
    rfl
  refine pure_ (i := 4) (N := some 157) (v := ?_) (a' := ?_) #[true, true, true, false, true, false, false, false, false, false, false, false, false, false, false, false] rfl rfl (by kernel_rfl) (fun _ _ _ h => h) (Or.inl ⟨by rfl, ?_⟩) ?_ ?_
  rotate_left
  · intro w'
    go_simp
    with_reducible rfl
  rotate_left
  · simp only [Act.put, List.setIfInBounds_toArray, List.set_cons_zero, List.set_cons_succ, i64_w, i32_w]
    rfl
  refine pure_ (i := 5) (N := some 158) (v := ?_) (a' := ?_) #[true, true, true, false, true, true, false, false, false, false, false, false, false, false, false, false] rfl rfl (by kernel_rfl) (fun _ _ _ h => h) (Or.inl ⟨by rfl, ?_⟩) ?_ ?_
  rotate_left
  · intro w'
    go_simp
    with_reducible rfl
  rotate_left
  · simp only [Act.put, List.setIfInBounds_toArray, List.set_cons_zero, List.set_cons_succ, i64_w, i32_w]
    rfl
  refine pure_ (i := 6) (N := some 159) (v := ?_) (a' := ?_) #[true, true, true, false, true, true, true, false, false, false, false, false, false, false, false, false] rfl rfl (by kernel_rfl) (fun _ _ _ h => h) (Or.inl ⟨by rfl, ?_⟩) ?_ ?_
  rotate_left
  · intro w'
    go_simp
    with_reducible rfl
  rotate_left
  · simp only [Act.put, List.setIfInBounds_toArray, List.set_cons_zero, List.set_cons_succ, i64_w, i32_w]
    rfl
  refine pure_ (i := 10) (N := some 163) (v := ?_) (a' := ?_) #[true, true, true, false, true, true, true, false, false, false, true, false, false, false, false, false] rfl rfl (by kernel_rfl) (fun _ _ _ h => h) (Or.inl ⟨by rfl, ?_⟩) ?_ ?_
  rotate_left
  · intro w'
    go_simp
    with_reducible rfl
  rotate_left
  · simp only [Act.put, List.setIfInBounds_toArray, List.set_cons_zero, List.set_cons_succ, i64_w, i32_w]
    rfl
  refine pure_ (i := 11) (N := some 164) (v := ?_) (a' := ?_) #[true, true, true, false, true, true, true, false, false, false, true, true, false, false, false, false] rfl rfl (by kernel_rfl) (fun _ _ _ h => h) (Or.inl ⟨by rfl, ?_⟩) ?_ ?_
  rotate_left
  · intro w'
    go_simp
    with_reducible rfl
  rotate_left
  · simp only [Act.put, List.setIfInBounds_toArray, List.set_cons_zero, List.set_cons_succ, i64_w, i32_w]
    rfl
  refine pure_ (i := 12) (N := some 165) (v := ?_) (a' := ?_) #[true, true, true, false, true, true, true, false, false, false, true, true, true, false, false, false] rfl rfl (by kernel_rfl) (fun _ _ _ h => h) (Or.inl ⟨by rfl, ?_⟩) ?_ ?_
  rotate_left
  · intro w'
    go_simp
    with_reducible rfl
  rotate_left
  · simp only [Act.put, List.setIfInBounds_toArray, List.set_cons_zero, List.set_cons_succ, i64_w, i32_w]
    rfl
  refine take_ (i := 3) (N := some 156) (v := ?_) (a' := ?_) #[true, true, true, true, true, true, true, false, false, false, true, true, true, false, false, false] rfl rfl (by kernel_rfl) (fun _ _ _ h => h) (Or.inl ⟨by rfl, ?_⟩) hHeld ?_ ?_
  rotate_left
  · rintro w' ⟨s0, s1, s2⟩
    go_simp
    with_reducible rfl
  rotate_left
  · simp only [Act.put, List.setIfInBounds_toArray, List.set_cons_zero, List.set_cons_succ, i64_w, i32_w]
    rfl
  refine take_ (i := 7) (N := some 160) (v := ?_) (a' := ?_) #[true, true, true, true, true, true, true, true, false, false, true, true, true, false, false, false] rfl rfl (by kernel_rfl) (fun _ _ _ h => h) (Or.inl ⟨by rfl, ?_⟩) hHeld ?_ ?_
  rotate_left
  · rintro w' ⟨s0, s1, s2⟩
    go_simp
    with_reducible rfl
  rotate_left
  · simp only [Act.put, List.setIfInBounds_toArray, List.set_cons_zero, List.set_cons_succ, i64_w, i32_w]
    rfl
  refine pure_ (i := 8) (N := some 161) (v := ?_) (a' := ?_) #[true, true, true, true, true, true, true, true, true, false, true, true, true, false, false, false] rfl rfl (by kernel_rfl) (fun _ _ _ h => h) (Or.inl ⟨by rfl, ?_⟩) ?_ ?_
  rotate_left
  · intro w'
    go_simp
    with_reducible rfl
  rotate_left
  · simp only [Act.put, List.setIfInBounds_toArray, List.set_cons_zero, List.set_cons_succ, i64_w, i32_w]
    rfl
  refine take_ (i := 9) (N := some 162) (v := ?_) (a' := ?_) #[true, true, true, true, true, true, true, true, true, true, true, true, true, false, false, false] rfl rfl (by kernel_rfl) (fun _ _ _ h => h) (Or.inl ⟨by rfl, ?_⟩) hHeld ?_ ?_
  rotate_left
  · rintro w' ⟨s0, s1, s2⟩
    go_simp
    with_reducible rfl
  rotate_left
  · simp only [Act.put, List.setIfInBounds_toArray, List.set_cons_zero, List.set_cons_succ, i64_w, i32_w]
    rfl
  refine pure_ (i := 13) (N := some 166) (v := ?_) (a' := ?_) #[true, true, true, true, true, true, true, true, true, true, true, true, true, true, false, false] rfl rfl (by kernel_rfl) (fun _ _ _ h => h) (Or.inl ⟨by rfl, ?_⟩) ?_ ?_
  rotate_left
  · intro w'
    go_simp
    with_reducible rfl
  rotate_left
  · simp only [Act.put, List.setIfInBounds_toArray, List.set_cons_zero, List.set_cons_succ, i64_w, i32_w]
    rfl
  refine pure_ (i := 14) (N := some 167) (v := ?_) (a' := ?_) #[true, true, true, true, true, true, true, true, true, true, true, true, true, true, true, false] rfl rfl (by kernel_rfl) (fun _ _ _ h => h) (Or.inl ⟨by rfl, ?_⟩) ?_ ?_
  rotate_left
  · intro w'
    go_simp
    with_reducible rfl
  rotate_left
  · simp only [Act.put, List.setIfInBounds_toArray, List.set_cons_zero, List.set_cons_succ, i64_w, i32_w]
    rfl
  refine last_ (i := 15) (N := none) #[true, true, true, true, true, true, true, true, true, true, true, true, true, true, true, true] rfl rfl (by kernel_rfl) (by decide) (fun K hK => ?_)
  refine skip_ (w1 := ?_) (by rfl) rfl ?_ ?_
  rotate_left
  · go_simp
    rfl
  refine hK.out _ _ ?_
  clear hK K
  refine done_ (by kernel_rfl) ?_
  go_wp2_with fail
  go_end0
  refine ⟨rfl, ?_, ?_⟩
  · exact pst_set2 (by repeat (first | with_reducible exact H.out | with_reducible apply PSt.setQ | with_reducible apply PSt.setN | with_reducible apply PSt.setC | with_reducible apply PSt.setS | with_reducible apply PSt.drewN | with_reducible apply PSt.drew)) (show (0 * 10 + (b - 48)) = x3 by rw [E5.out, E3.out, E1.out])
  · exact Below.trans BB.out (by repeat (first | with_reducible exact Below.refl _ _ | with_reducible apply below_drew1 | with_reducible apply pw_below_drewN | (with_reducible refine Below.setCell ?_ H.out.geQ _) | (with_reducible refine Below.setCell ?_ H.out.geP _)))

set_option maxRecDepth 1000000 in
set_option maxHeartbeats 20000000 in
theorem act_digit2 (w : World) (s : Int) (m : Nat) (b : Int) (h : PSt B gp gq gd gb go w qs m cmd st evs) (h0 : 48 ≤ b) (h1 : b ≤ 57) (hm : m < 32) (x : Int) (hx : qs.getD m 0 = x) (hx1 : 0 ≤ x) (hx2 : x ≤ 100000) :
    Calls Tryz.prog 97 #[.pointer (some ⟨gp, 0, none⟩), .int .u8 8, .int .u8 s, .int .u8 b] w (PPost B gp gq gd gb go w (qs.set m (x * 10 + (b - 48))) m cmd st evs) := by
  have H := Aside0.mk h
  have c9 := h.c9; have c12 := h.c12; have cq := h.cq m hm; have fq := h.fq m
  rw [hx] at cq
  clear h
  have hm3 : (m : Int) < 32 := by omega
  have d1 : decide ((m : Int) ≥ 32) = false := decide_eq_false (by omega)
  have d2 : decide (b ≥ 48) = true := decide_eq_true h0
  have d3 : decide (b ≤ 57) = true := decide_eq_true h1
  have d4 : (b == 58) = false := by simp; omega
  have d5 : (b == 59) = false := by simp; omega
  have d6 : (x == 2147483647) = false := by simp; omega
  go_enter Tryz.func97, Tryz.ntmps97
  go_wp2_with fail
  go_quiet (fail)
  go_wp2_with fail
  go_quiet (fail)
  go_wp2_with fail
  obtain ⟨x1, e1⟩ : ∃ x1 : Int, x1 = x := ⟨x, rfl⟩
  have es : qs.set m x1 = qs := by rw [e1, ← hx]; exact set_same qs m
  refine cutW (S := fun W => PSt B gp gq gd gb go W (qs.set m x1) m cmd st evs ∧ Below B w W) ⟨by rw [es]; repeat (first | with_reducible exact H.out | with_reducible apply PSt.setQ | with_reducible apply PSt.setN | with_reducible apply PSt.setC | with_reducible apply PSt.setS | with_reducible apply PSt.drewN | with_reducible apply PSt.drew), by repeat (first | with_reducible exact Below.refl _ _ | with_reducible apply below_drew1 | with_reducible apply pw_below_drewN | (with_reducible refine Below.setCell ?_ H.out.geQ _) | (with_reducible refine Below.setCell ?_ H.out.geP _))⟩ ?_
  rintro w1 ⟨H1, B1⟩
  have hb1 : 0 ≤ x1 := by omega
  have hb2 : x1 ≤ 100000 := by omega
  have E1 := Aside0.mk e1
  clear e1
  have lq : qs.length = 32 := H.out.ql
  have e2 : (qs.set m x1).getD m 0 = x1 := by rw [List.getD_eq_getElem?_getD, List.getElem?_set_self (by omega)]; rfl
  replace H := Aside0.mk H1
  have BB := Aside0.mk B1
  clear c9 c12 cq fq d6 hx
  have c9 := H1.c9; have c12 := H1.c12; have cq := H1.cq m hm; have fq := H1.fq m
  rw [e2] at cq
  clear H1 B1
  obtain ⟨x2, e3⟩ : ∃ x2 : Int, x2 = x1 * 10 := ⟨_, rfl⟩
  have m1 : wrap64 (x1 * 10) = x2 := by rw [← i64_w, IntKind.wrap_i64]; omega
  have hb3 : 0 ≤ x2 := by omega
  have hb4 : x2 ≤ 1000000 := by omega
  have E3 := Aside0.mk e3
  clear e3
  refine start_ (n := 13) (S := fun w' => w'.cell? ⟨gp, 9, none⟩ = some (.slice (some ⟨gq, 0, none⟩) 32 32) ∧ w'.cell? ⟨gp, 12, none⟩ = some (.int .i64 (m : Nat)) ∧ w'.cell? ⟨gq, m, none⟩ = some (.int .i64 x1)) (ds := [12]) #[false, false, false, false, false, false, false, false, false, false, false, false, false] (by kernel_rfl) rfl rfl ⟨c9, c12, cq⟩ (fun hHeld => ?_)
  refine pure_ (i := 0) (N := some 141) (v := ?_) (a' := ?_) #[true, false, false, false, false, false, false, false, false, false, false, false, false] rfl rfl (by kernel_rfl) (fun _ _ _ h => h) (Or.inl ⟨by rfl, ?_⟩) ?_ ?_
  rotate_left
  · intro w'
    go_simp
    with_reducible rfl
  rotate_left
  · simp only [Act.put, List.setIfInBounds_toArray, List.set_cons_zero, List.set_cons_succ, i64_w, i32_w]
    rfl
  refine pure_ (i := 1) (N := some 142) (v := ?_) (a' := ?_) #[true, true, false, false, false, false, false, false, false, false, false, false, false] rfl rfl (by kernel_rfl) (fun _ _ _ h => h) (Or.inl ⟨by rfl, ?_⟩) ?_ ?_
  rotate_left
  · intro w'
    go_simp
    with_reducible rfl
  rotate_left
  · simp only [Act.put, List.setIfInBounds_toArray, List.set_cons_zero, List.set_cons_succ, i64_w, i32_w]
    rfl
  refine pure_ (i := 2) (N := some 143) (v := ?_) (a' := ?_) #[true, true, true, false, false, false, false, false, false, false, false, false, false] rfl rfl (by kernel_rfl) (fun _ _ _ h => h) (Or.inl ⟨by rfl, ?_⟩) ?_ ?_
  rotate_left
  · intro w'
    go_simp
    with_reducible rfl
  rotate_left
  · simp only [Act.put, List.setIfInBounds_toArray, List.set_cons_zero, List.set_cons_succ, i64_w, i32_w]
    rfl
  refine pure_ (i := 4) (N := some 145) (v := ?_) (a' := ?_) #[true, true, true, false, true, false, false, false, false, false, false, false, false] rfl rfl (by kernel_rfl) (fun _ _ _ h => h) (Or.inl ⟨by rfl, ?_⟩) ?_ ?_
  rotate_left
  · intro w'
    go_simp
    with_reducible rfl
  rotate_left
  · simp only [Act.put, List.setIfInBounds_toArray, List.set_cons_zero, List.set_cons_succ, i64_w, i32_w]
    rfl
  refine pure_ (i := 5) (N := some 146) (v := ?_) (a' := ?_) #[true, true, true, false, true, true, false, false, false, false, false, false, false] rfl rfl (by kernel_rfl) (fun _ _ _ h => h) (Or.inl ⟨by rfl, ?_⟩) ?_ ?_
  rotate_left
  · intro w'
    go_simp
    with_reducible rfl
  rotate_left
  · simp only [Act.put, List.setIfInBounds_toArray, List.set_cons_zero, List.set_cons_succ, i64_w, i32_w]
    rfl
  refine pure_ (i := 6) (N := some 147) (v := ?_) (a' := ?_) #[true, true, true, false, true, true, true, false, false, false, false, false, false] rfl rfl (by kernel_rfl) (fun _ _ _ h => h) (Or.inl ⟨by rfl, ?_⟩) ?_ ?_
  rotate_left
  · intro w'
    go_simp
    with_reducible rfl
  rotate_left
  · simp only [Act.put, List.setIfInBounds_toArray, List.set_cons_zero, List.set_cons_succ, i64_w, i32_w]
    rfl
  refine take_ (i := 3) (N := some 144) (v := ?_) (a' := ?_) #[true, true, true, true, true, true, true, false, false, false, false, false, false] rfl rfl (by kernel_rfl) (fun _ _ _ h => h) (Or.inl ⟨by rfl, ?_⟩) hHeld ?_ ?_
  rotate_left
  · rintro w' ⟨s0, s1, s2⟩
    go_simp
    with_reducible rfl
  rotate_left
  · simp only [Act.put, List.setIfInBounds_toArray, List.set_cons_zero, List.set_cons_succ, i64_w, i32_w]
    rfl
  refine take_ (i := 7) (N := some 148) (v := ?_) (a' := ?_) #[true, true, true, true, true, true, true, true, false, false, false, false, false] rfl rfl (by kernel_rfl) (fun _ _ _ h => h) (Or.inl ⟨by rfl, ?_⟩) hHeld ?_ ?_
  rotate_left
  · rintro w' ⟨s0, s1, s2⟩
    go_simp
    with_reducible rfl
  rotate_left
  · simp only [Act.put, List.setIfInBounds_toArray, List.set_cons_zero, List.set_cons_succ, i64_w, i32_w]
    rfl
  refine pure_ (i := 8) (N := some 149) (v := ?_) (a' := ?_) #[true, true, true, true, true, true, true, true, true, false, false, false, false] rfl rfl (by kernel_rfl) (fun _ _ _ h => h) (Or.inl ⟨by rfl, ?_⟩) ?_ ?_
  rotate_left
  · intro w'
    go_simp
    with_reducible rfl
  rotate_left
  · simp only [Act.put, List.setIfInBounds_toArray, List.set_cons_zero, List.set_cons_succ, i64_w, i32_w]
    rfl
  refine take_ (i := 9) (N := some 150) (v := ?_) (a' := ?_) #[true, true, true, true, true, true, true, true, true, true, false, false, false] rfl rfl (by kernel_rfl) (fun _ _ _ h => h) (Or.inl ⟨by rfl, ?_⟩) hHeld ?_ ?_
  rotate_left
  · rintro w' ⟨s0, s1, s2⟩
    go_simp
    with_reducible rfl
  rotate_left
  · simp only [Act.put, List.setIfInBounds_toArray, List.set_cons_zero, List.set_cons_succ, i64_w, i32_w]
    rfl
  refine pure_ (i := 10) (N := some 151) (v := ?_) (a' := ?_) #[true, true, true, true, true, true, true, true, true, true, true, false, false] rfl rfl (by kernel_rfl) (fun _ _ _ h => h) (Or.inl ⟨by rfl, ?_⟩) ?_ ?_
  rotate_left
  · intro w'
    go_simp
    with_reducible rfl
  rotate_left
  · simp only [Act.put, List.setIfInBounds_toArray, List.set_cons_zero, List.set_cons_succ, i64_w, i32_w]
    rfl
  refine pure_ (i := 11) (N := some 152) (v := ?_) (a' := ?_) #[true, true, true, true, true, true, true, true, true, true, true, true, false] rfl rfl (by kernel_rfl) (fun _ _ _ h => h) (Or.inl ⟨by rfl, ?_⟩) ?_ ?_
  rotate_left
  · intro w'
    go_simp
    with_reducible rfl
  rotate_left
  · simp only [Act.put, List.setIfInBounds_toArray, List.set_cons_zero, List.set_cons_succ, i64_w, i32_w]
    rfl
  refine last_ (i := 12) (N := none) #[true, true, true, true, true, true, true, true, true, true, true, true, true] rfl rfl (by kernel_rfl) (by decide) (fun K hK => ?_)
  refine skip_ (w1 := ?_) (by rfl) rfl ?_ ?_
  rotate_left
  · go_simp
    rfl
  refine hK.out _ _ ?_
  clear hK K
  refine done_ (by kernel_rfl) ?_
  go_wp2_with fail
  refine cutW (S := fun W => PSt B gp gq gd gb go W ((qs.set m x1).set m x2) m cmd st evs ∧ Below B w1 W) ⟨by repeat (first | with_reducible exact H.out | with_reducible apply PSt.setQ | with_reducible apply PSt.setN | with_reducible apply PSt.setC | with_reducible apply PSt.setS | with_reducible apply PSt.drewN | with_reducible apply PSt.drew), by repeat (first | with_reducible exact Below.refl _ _ | with_reducible apply below_drew1 | with_reducible apply pw_below_drewN | (with_reducible refine Below.setCell ?_ H.out.geQ _) | (with_reducible refine Below.setCell ?_ H.out.geP _))⟩ ?_
  rintro w2 ⟨H1, B1⟩
  rw [List.set_set] at H1
  have e4 : (qs.set m x2).getD m 0 = x2 := by rw [List.getD_eq_getElem?_getD, List.getElem?_set_self (by omega)]; rfl
  replace H := Aside0.mk H1
  replace BB := Aside0.mk (Below.trans BB.out B1)
  clear c9 c12 cq fq m1
  have c9 := H1.c9; have c12 := H1.c12; have cq := H1.cq m hm; have fq := H1.fq m
  rw [e4] at cq
  clear H1 B1
  obtain ⟨x3, e5⟩ : ∃ x3 : Int, x3 = x2 + (b - 48) := ⟨_, rfl⟩
  have m1 : IntKind.u8.wrap (b - 48) = b - 48 := by rw [IntKind.wrap_u8]; omega
  have m2 : wrap64 (b - 48) = b - 48 := by rw [← i64_w, IntKind.wrap_i64]; omega
  have m3 : wrap64 (x2 + (b - 48)) = x3 := by rw [← i64_w, IntKind.wrap_i64]; omega
  have E5 := Aside0.mk e5
  clear e5
  refine start_ (n := 16) (S := fun w' => w'.cell? ⟨gp, 9, none⟩ = some (.slice (some ⟨gq, 0, none⟩) 32 32) ∧ w'.cell? ⟨gp, 12, none⟩ = some (.int .i64 (m : Nat)) ∧ w'.cell? ⟨gq, m, none⟩ = some (.int .i64 x2)) (ds := [15]) #[false, false, false, false, false, false, false, false, false, false, false, false, false, false, false, false] (by kernel_rfl) rfl rfl ⟨c9, c12, cq⟩ (fun hHeld => ?_)
  refine pure_ (i := 0) (N := some 153) (v := ?_) (a' := ?_) #[true, false, false, false, false, false, false, false, false, false, false, false, false, false, false, false] rfl rfl (by kernel_rfl) (fun _ _ _ h => h) (Or.inl ⟨by rfl, ?_⟩) ?_ ?_
  rotate_left
  · intro w'
    go_simp
    with_reducible rfl
  rotate_left
  · simp only [Act.put, List.setIfInBounds_toArray, List.set_cons_zero, List.set_cons_succ, i64_w, i32_w]
    rfl
  refine pure_ (i := 1) (N := some 154) (v := ?_) (a' := ?_) #[true, true, false, false, false, false, false, false, false, false, false, false, false, false, false, false] rfl rfl (by kernel_rfl) (fun _ _ _ h => h) (Or.inl ⟨by rfl, ?_⟩) ?_ ?_
  rotate_left
  · intro w'
    go_simp
    with_reducible rfl
  rotate_left
  · simp only [Act.put, List.setIfInBounds_toArray, List.set_cons_zero, List.set_cons_succ, i64_w, i32_w]
    rfl
  refine pure_ (i := 2) (N := some 155) (v := ?_) (a' := ?_) #[true, true, true, false, false, false, false, false, false, false, false, false, false, false, false, false] rfl rfl (by kernel_rfl) (fun _ _ _ h => h) (Or.inl ⟨by rfl, ?_⟩) ?_ ?_
  rotate_left
  · intro w'
    go_simp
    with_reducible rfl
  rotate_left
  · simp only [Act.put, List.setIfInBounds_toArray, List.set_cons_zero, List.set_cons_succ, i64_w, i32_w]
    rfl
  refine pure_ (i := 4) (N := some 157) (v := ?_) (a' := ?_) #[true, true, true, false, true, false, false, false, false, false, false, false, false, false, false, false] rfl rfl (by kernel_rfl) (fun _ _ _ h => h) (Or.inl ⟨by rfl, ?_⟩) ?_ ?_
  rotate_left
  · intro w'
    go_simp
    with_reducible rfl
  rotate_left
  · simp only [Act.put, List.setIfInBounds_toArray, List.set_cons_zero, List.set_cons_succ, i64_w, i32_w]
    rfl
  refine pure_ (i := 5) (N := some 158) (v := ?_) (a' := ?_) #[true, true, true, false, true, true, false, false, false, false, false, false, false, false, false, false] rfl rfl (by kernel_rfl) (fun _ _ _ h => h) (Or.inl ⟨by rfl, ?_⟩) ?_ ?_
  rotate_left
  · intro w'
    go_simp
    with_reducible rfl
  rotate_left
  · simp only [Act.put, List.setIfInBounds_toArray, List.set_cons_zero, List.set_cons_succ, i64_w, i32_w]
    rfl
  refine pure_ (i := 6) (N := some 159) (v := ?_) (a' := ?_) #[true, true, true, false, true, true, true, false, false, false, false, false, false, false, false, false] rfl rfl (by kernel_rfl) (fun _ _ _ h => h) (Or.inl ⟨by rfl, ?_⟩) ?_ ?_
  rotate_left
  · intro w'
    go_simp
    with_reducible rfl
  rotate_left
  · simp only [Act.put, List.setIfInBounds_toArray, List.set_cons_zero, List.set_cons_succ, i64_w, i32_w]
    rfl
  refine pure_ (i := 10) (N := some 163) (v := ?_) (a' := ?_) #[true, true, true, false, true, true, true, false, false, false, true, false, false, false, false, false] rfl rfl (by kernel_rfl) (fun _ _ _ h => h) (Or.inl ⟨by rfl, ?_⟩) ?_ ?_
  rotate_left
  · intro w'
    go_simp
    with_reducible rfl
  rotate_left
  · simp only [Act.put, List.setIfInBounds_toArray, List.set_cons_zero, List.set_cons_succ, i64_w, i32_w]
    rfl
  refine pure_ (i := 11) (N := some 164) (v := ?_) (a' := ?_) #[true, true, true, false, true, true, true, false, false, false, true, true, false, false, false, false] rfl rfl (by kernel_rfl) (fun _ _ _ h => h) (Or.inl ⟨by rfl, ?_⟩) ?_ ?_
  rotate_left
  · intro w'
    go_simp
    with_reducible rfl
  rotate_left
  · simp only [Act.put, List.setIfInBounds_toArray, List.set_cons_zero, List.set_cons_succ, i64_w, i32_w]
    rfl
  refine pure_ (i := 12) (N := some 165) (v := ?_) (a' := ?_) #[true, true, true, false, true, true, true, false, false, false, true, true, true, false, false, false] rfl rfl (by kernel_rfl) (fun _ _ _ h => h) (Or.inl ⟨by rfl, ?_⟩) ?_ ?_
  rotate_left
  · intro w'
    go_simp
    with_reducible rfl
  rotate_left
  · simp only [Act.put, List.setIfInBounds_toArray, List.set_cons_zero, List.set_cons_succ, i64_w, i32_w]
    rfl
  refine take_ (i := 3) (N := some 156) (v := ?_) (a' := ?_) #[true, true, true, true, true, true, true, false, false, false, true, true, true, false, false, false] rfl rfl (by kernel_rfl) (fun _ _ _ h => h) (Or.inl ⟨by rfl, ?_⟩) hHeld ?_ ?_
  rotate_left
  · rintro w' ⟨s0, s1, s2⟩
    go_simp
    with_reducible rfl
  rotate_left
  · simp only [Act.put, List.setIfInBounds_toArray, List.set_cons_zero, List.set_cons_succ, i64_w, i32_w]
    rfl
  refine take_ (i := 7) (N := some 160) (v := ?_) (a' := ?_) #[true, true, true, true, true, true, true, true, false, false, true, true, true, false, false, false] rfl rfl (by kernel_rfl) (fun _ _ _ h => h) (Or.inl ⟨by rfl, ?_⟩) hHeld ?_ ?_
  rotate_left
  · rintro w' ⟨s0, s1, s2⟩
    go_simp
    with_reducible rfl
  rotate_left
  · simp only [Act.put, List.setIfInBounds_toArray, List.set_cons_zero, List.set_cons_succ, i64_w, i32_w]
    rfl
  refine pure_ (i := 8) (N := some 161) (v := ?_) (a' := ?_) #[true, true, true, true, true, true, true, true, true, false, true, true, true, false, false, false] rfl rfl (by kernel_rfl) (fun _ _ _ h => h) (Or.inl ⟨by rfl, ?_⟩) ?_ ?_
  rotate_left
  · intro w'
    go_simp
    with_reducible rfl
  rotate_left
  · simp only [Act.put, List.setIfInBounds_toArray, List.set_cons_zero, List.set_cons_succ, i64_w, i32_w]
    rfl
  refine take_ (i := 9) (N := some 162) (v := ?_) (a' := ?_) #[true, true, true, true, true, true, true, true, true, true, true, true, true, false, false, false] rfl rfl (by kernel_rfl) (fun _ _ _ h => h) (Or.inl ⟨by rfl, ?_⟩) hHeld ?_ ?_
  rotate_left
  · rintro w' ⟨s0, s1, s2⟩
    go_simp
    with_reducible rfl
  rotate_left
  · simp only [Act.put, List.setIfInBounds_toArray, List.set_cons_zero, List.set_cons_succ, i64_w, i32_w]
    rfl
  refine pure_ (i := 13) (N := some 166) (v := ?_) (a' := ?_) #[true, true, true, true, true, true, true, true, true, true, true, true, true, true, false, false] rfl rfl (by kernel_rfl) (fun _ _ _ h => h) (Or.inl ⟨by rfl, ?_⟩) ?_ ?_
  rotate_left
  · intro w'
    go_simp
    with_reducible rfl
  rotate_left
  · simp only [Act.put, List.setIfInBounds_toArray, List.set_cons_zero, List.set_cons_succ, i64_w, i32_w]
    rfl
  refine pure_ (i := 14) (N := some 167) (v := ?_) (a' := ?_) #[true, true, true, true, true, true, true, true, true, true, true, true, true, true, true, false] rfl rfl (by kernel_rfl) (fun _ _ _ h => h) (Or.inl ⟨by rfl, ?_⟩) ?_ ?_
  rotate_left
  · intro w'
    go_simp
    with_reducible rfl
  rotate_left
  · simp only [Act.put, List.setIfInBounds_toArray, List.set_cons_zero, List.set_cons_succ, i64_w, i32_w]
    rfl
  refine last_ (i := 15) (N := none) #[true, true, true, true, true, true, true, true, true, true, true, true, true, true, true, true] rfl rfl (by kernel_rfl) (by decide) (fun K hK => ?_)
  refine skip_ (w1 := ?_) (by rfl) rfl ?_ ?_
  rotate_left
  · go_simp
    rfl
  refine hK.out _ _ ?_
  clear hK K
  refine done_ (by kernel_rfl) ?_
  go_wp2_with fail
  go_end0
  refine ⟨rfl, ?_, ?_⟩
  · exact pst_set2 (by repeat (first | with_reducible exact H.out | with_reducible apply PSt.setQ | with_reducible apply PSt.setN | with_reducible apply PSt.setC | with_reducible apply PSt.setS | with_reducible apply PSt.drewN | with_reducible apply PSt.drew)) (show (x * 10 + (b - 48)) = x3 by rw [E5.out, E3.out, E1.out])
  · exact Below.trans BB.out (by repeat (first | with_reducible exact Below.refl _ _ | with_reducible apply below_drew1 | with_reducible apply pw_below_drewN | (with_reducible refine Below.setCell ?_ H.out.geQ _) | (with_reducible refine Below.setCell ?_ H.out.geP _)))
end
end Go.Proofs.YtjdpkhnpgdangaaGreatDoor.PQ
