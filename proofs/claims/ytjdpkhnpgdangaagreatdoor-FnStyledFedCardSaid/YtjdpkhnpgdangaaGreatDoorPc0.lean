/- readParameters at the bytes of a style: numbers with semicolons between, then 'm'. -/
import Derived.Test.YtjdpkhnpgdangaaGreatDoorPb0
import Derived.Test.YtjdpkhnpgdangaaGreatDoorPa3
namespace Go.Proofs.YtjdpkhnpgdangaaGreatDoor.PQ
open Go.RowKit Go.Proofs.YtjdpkhnpgdangaaGreatDoorW.PrintWords Go.Proofs.YtjdpkhnpgdangaaGreatDoorW.PrintLast Go.Proofs.YtjdpkhnpgdangaaGreatDoorW.PrintMore
set_option linter.unusedVariables false
set_option linter.unusedSimpArgs false
/-- One byte, as a plain function: the number so far, whether there is none, the parameters. -/
structure Rst where
  v : Int
  miss : Bool
  ps : List S89
def rstep (s : Rst) (b : Nat) : Option Rst :=
  if b = 59 then (if s.ps.length ≤ 1000 then some ⟨0, true, s.ps ++ [⟨s.v, s.miss, false⟩]⟩ else none)
  else if 48 ≤ b ∧ b ≤ 57 then (if 0 ≤ s.v ∧ s.v ≤ 100000 then some ⟨s.v * 10 + ((b : Int) - 48), false, s.ps⟩ else none) else none
def rrun : Rst → List Nat → Option Rst
  | s, [] => some s
  | s, b :: l => (rstep s b).bind fun s' => rrun s' l
theorem rrun_append (s : Rst) : ∀ (l l' : List Nat), rrun s (l ++ l') = (rrun s l).bind fun s' => rrun s' l'
  | [], l' => rfl
  | b :: l, l' => by
    simp only [List.cons_append, rrun]
    cases rstep s b with
    | none => rfl
    | some s' => exact rrun_append s' l l'
theorem rrun_dig (a : Nat) (ha : a ≤ 60000) (m : Bool) (ps : List S89) : rrun ⟨0, m, ps⟩ (dig a) = some ⟨a, false, ps⟩ := by
  induction a using Nat.strongRecOn with
  | _ a ih =>
    by_cases h : a < 10
    · rw [dig_small h]
      have e : (0 : Int) * 10 + (((48 + a : Nat) : Int) - 48) = (a : Int) := by omega
      simp only [rrun, rstep]
      rw [if_neg (by omega), if_pos (by omega), if_pos (by omega), e]; rfl
    · rw [dig_big h, rrun_append, ih (a / 10) (by omega) (by omega)]
      have e : ((a / 10 : Nat) : Int) * 10 + (((48 + a % 10 : Nat) : Int) - 48) = (a : Int) := by omega
      simp only [Option.bind_some, rrun, rstep]
      rw [if_neg (by omega), if_pos (by omega), if_pos (by omega), e]; rfl
def par (a : Nat) : S89 := ⟨a, false, false⟩
theorem rrun_join : ∀ (l : List Nat) (a : Nat), (∀ x ∈ a :: l, x ≤ 60000) → ∀ (m : Bool) (ps : List S89), ps.length + l.length ≤ 1000 →
    ∃ s, rrun ⟨0, m, ps⟩ (joinD (a :: l)) = some s ∧ s.ps ++ [⟨s.v, s.miss, false⟩] = ps ++ (a :: l).map par
  | [], a, hx, m, ps, hl => ⟨_, rrun_dig a (hx a (by simp)) m ps, rfl⟩
  | b :: l, a, hx, m, ps, hl => by
    have hl' : ps.length + (l.length + 1) ≤ 1000 := hl
    obtain ⟨s, h1, h2⟩ := rrun_join l b (fun x h => hx x (List.mem_cons_of_mem _ h)) true (ps ++ [par a]) (by simp; omega)
    refine ⟨s, ?_, by rw [h2]; simp⟩
    show rrun _ (dig a ++ 59 :: joinD (b :: l)) = _
    rw [rrun_append, rrun_dig a (hx a (by simp)) m ps]
    simp only [Option.bind_some, rrun]
    have e : rstep ⟨a, false, ps⟩ 59 = some ⟨0, true, ps ++ [par a]⟩ := by
      simp only [rstep]
      rw [if_pos trivial, if_pos (by omega)]
      rfl
    rw [e]
    exact h1
theorem rrun_bytes : ∀ (l : List Nat) {s s' : Rst}, rrun s l = some s' → ∀ b ∈ l, 48 ≤ b ∧ b ≤ 59
  | [], _, _, _, b, hb => by simp at hb
  | c :: l, s, s', h, b, hb => by
    simp only [rrun, Option.bind_eq_some_iff] at h
    obtain ⟨s1, h1, h2⟩ := h
    rcases List.mem_cons.1 hb with rfl | hb
    · unfold rstep at h1
      split at h1
      · omega
      · split at h1
        · omega
        · cases h1
    · exact rrun_bytes l h2 b hb
/-- A sequence that is being read: its block gs, the parameter that is being read: gn. -/
structure RSt (B gs gn : Nat) (w0 w : World) (s : Rst) : Prop where
  g : ∃ A c, w.heap[gs]? = some (.cells #[.int .i64 1, .int .u8 0, .slice A s.ps.length c, .slice none 0 0, .int .u8 0, .slice none 0 0, .bool false] 37 (0, 0)) ∧ Kd.R k89 89 w w0.heap.size (fun k => k ≠ gn) (.slice A s.ps.length c) s.ps
  n : w.heap[gn]? = some (.cells #[.int .i64 s.v, .bool s.miss, .bool false] 89 (0, 0))
  geS : B ≤ gs
  ltS : gs < w0.heap.size
  sz : w0.heap.size ≤ gn
  lt : ∀ k, k < w0.heap.size → k ≠ gs → w.heap[k]? = w0.heap[k]?
  bl : Below B w0 w
section
variable {B gs gn : Nat} {w0 w w1 : World} {s : Rst}
theorem RSt.below (h : RSt B gs gn w0 w s) (hb : Below w.heap.size w w1) : RSt B gs gn w0 w1 s := by
  obtain ⟨A, c, h1, h2⟩ := h.g
  have hs := h.bl.size
  exact ⟨⟨A, c, blk_below h1 hb, Kd.R_below h2 hb⟩, blk_below h.n hb, h.geS, h.ltS, h.sz, fun k hk hn => (hb.block k (by omega)).trans (h.lt k hk hn), h.bl.trans (hb.mono (by have := h.geS; have := h.ltS; omega))⟩
theorem RSt.drewN (h : RSt B gs gn w0 w s) (m : Nat) : RSt B gs gn w0 (w.drewN m) s := h.below (pw_below_drewN (Below.refl _ _) m)
theorem RSt.drew (h : RSt B gs gn w0 w s) : RSt B gs gn w0 w.drew s := h.below (below_drew (Below.refl _ _))
theorem RSt.putN (h : RSt B gs gn w0 w s) (j : Nat) (u : Value) {v : Int} {m : Bool} (e : #[Value.int .i64 s.v, .bool s.miss, .bool false].setIfInBounds j u = #[.int .i64 v, .bool m, .bool false]) : RSt B gs gn w0 (w.setCell ⟨gn, j, none⟩ u) ⟨v, m, s.ps⟩ := by
  obtain ⟨A, c, h1, h2⟩ := h.g
  have ne : gs ≠ gn := blk_ne h1 h.n (by decide)
  exact ⟨⟨A, c, blk_far h1 ne u, Kd.R_far (p := ⟨gn, j, none⟩) h2 (fun _ hk => hk) u⟩, blk_put h.n j u e, h.geS, h.ltS, h.sz, fun k hk hn => (Below.heap_setCell w ⟨gn, j, none⟩ u k (by have := h.sz; show k ≠ gn; omega)).trans (h.lt k hk hn), h.bl.setCell (p := ⟨gn, j, none⟩) (by have := h.geS; have := h.ltS; have := h.sz; show B ≤ gn; omega) u⟩
theorem RSt.told (h : RSt B gs gn w0 w s) {A : Option Addr} {c : Nat} {A1 : Option Addr} {c1 : Nat} {x : S89} (hg0 : w.heap[gs]? = some (.cells #[.int .i64 1, .int .u8 0, .slice A s.ps.length c, .slice none 0 0, .int .u8 0, .slice none 0 0, .bool false] 37 (0, 0)))
    (h2 : Kd.R k89 89 w w0.heap.size (fun k => k ≠ gn) (.slice A s.ps.length c) s.ps) (hg : w.grownBy w1 (Value.slice A s.ps.length c).ownBlock) (hr : Kd.R k89 89 w1 w0.heap.size (fun k => k ≠ gn) (.slice A1 (s.ps.length + 1) c1) (s.ps ++ [x])) (hb : Below w0.heap.size w w1) :
    RSt B gs gn w0 (w1.setCell ⟨gs, 2, none⟩ (.slice A1 (s.ps.length + 1) c1)) ⟨s.v, s.miss, s.ps ++ [x]⟩ := by
  have ne : gn ≠ gs := blk_ne h.n hg0 (by decide)
  have n1 : some gs ≠ (Value.slice A s.ps.length c).ownBlock := Kd.R_ne h2 hg0 (by decide)
  have n2 : some gn ≠ (Value.slice A s.ps.length c).ownBlock := fun e => h2.1 gn e.symm rfl
  have g1 := blk_grown hg0 hg n1
  refine ⟨⟨A1, c1, ?_, ?_⟩, blk_far (blk_grown h.n hg n2) ne _, h.geS, h.ltS, h.sz, fun k hk hn => ?_, (h.bl.trans (hb.mono (by have := h.geS; have := h.ltS; omega))).setCell (p := ⟨gs, 2, none⟩) h.geS _⟩
  · have e : (s.ps ++ [x]).length = s.ps.length + 1 := by simp
    rw [e]
    exact blk_put g1 2 _ rfl
  · have e : (s.ps ++ [x]).length = s.ps.length + 1 := by simp
    rw [e]
    exact Kd.R_set hr g1 (by intro q hq; have : q = 89 := by simpa [k89, Kd.iso, Kd.pair, Kd.bool, Kd.int, Kd.scalar] using hq
                             omega) 2 _
  · refine (Below.heap_setCell w1 ⟨gs, 2, none⟩ _ k hn).trans ((hb.block k hk).trans (h.lt k hk hn))
end
theorem blkf_ne {w : World} {g g' : Nat} {t t' : TypeId} {cs cs' : Array Value} {f f' : Nat × Nat} (h : w.heap[g]? = some (.cells cs t f)) (h' : w.heap[g']? = some (.cells cs' t' f')) (hne : t ≠ t') : g ≠ g' := by
  rintro rfl
  rw [h] at h'
  injection h' with h'
  injection h' with _ h2
  exact hne h2
theorem info89 : (Tryz.prog.info? 89).map (fun i => (i.zero, i.size, i.bytes)) = some (some (.agg #[.int .i64 0, .bool false, .bool false]), 3, 16) := by kernel_rfl
set_option maxRecDepth 1000000 in
set_option maxHeartbeats 4000000 in
theorem readParameters_calls {B ga gs off : Nat} {fr : Nat × Nat} (w : World) (c : Nat) (C : Array Value) (body : List Nat) (s : Rst) (hb : rrun ⟨0, true, []⟩ body = some s) (hb0 : body ≠ []) (hbl : body.length ≤ 1000)
    (ha : w.heap[ga]? = some (.cells C 5 fr)) (hC : ∀ i (h : i < (body ++ [109]).length), C[off + i]? = some (.int .u8 ((body ++ [109])[i] : Nat)))
    (hg : w.heap[gs]? = some (.cells #[.int .i64 1, .int .u8 0, .slice none 0 0, .slice none 0 0, .int .u8 0, .slice none 0 0, .bool false] 37 (0, 0))) (hB : B ≤ gs) :
    Calls Tryz.prog 36 #[.slice (some ⟨ga, off, none⟩) (body.length + 1) c, .pointer (some ⟨gs, 0, none⟩)] w (fun e w' => e = .returned (.int .i64 ((body.length + 1 : Nat) : Int)) ∧
      (∃ A c, w'.heap[gs]? = some (.cells #[.int .i64 1, .int .u8 0, .slice A (s.ps.length + 1) c, .slice none 0 0, .int .u8 109, .slice none 0 0, .bool false] 37 (0, 0)) ∧ Kd.R k89 89 w' B (fun _ => True) (.slice A (s.ps.length + 1) c) (s.ps ++ [⟨s.v, s.miss, false⟩])) ∧
      (∀ k, k < w.heap.size → k ≠ gs → w'.heap[k]? = w.heap[k]?) ∧ Below B w w') := by
  have HA := Aside0.mk ha
  have HC := Aside0.mk hC
  have HG := Aside0.mk hg
  have HB := Aside0.mk hB
  have HR := Aside0.mk hb
  clear ha hC hg hB hb
  have hl0 : 0 < body.length := List.length_pos_iff.2 hb0
  obtain ⟨b0, r0, e0⟩ := List.exists_cons_of_ne_nil hb0
  have x0 : (48 : Int) ≤ b0 ∧ (b0 : Int) ≤ 59 := by have := rrun_bytes body HR.out b0 (by rw [e0]; simp); omega
  have ca0 : w.cell? ⟨ga, off, none⟩ = some (.int .u8 (b0 : Int)) := by
    have h := HC.out 0 (by simp)
    have e : (body ++ [109])[0]'(by simp) = b0 := by simp [e0]
    rw [e] at h
    exact (cell_of_row _ ga off C 5 fr HA.out).trans h
  have d0 : decide ((0 : Int) < ((body.length + 1 : Nat) : Int)) = true := decide_eq_true (by omega)
  have d0' : (0 : Int) < (body.length : Int) + 1 := by omega
  clear e0 r0
  have wf : spec_within.f b0 60 63 = some false := by
    unfold spec_within.f
    rw [if_neg (by omega)]
  go_enter Tryz.func36, Tryz.ntmps36
  go_wp2_with (go_at_call 38; refine (spec_within.calls _ _ _ _ _ wf).mono ?_; rintro e w1 ⟨rfl, hd1⟩; have D1 := Aside0.mk hd1.below; clear hd1)
  go_loopg [5, 8] body.length (fun kq v5 v8 w' => ∃ (i : Nat) (sm : Bool) (st : Rst), v5 = .int .i64 i ∧ v8 = .bool sm ∧ kq + i = body.length ∧ Aside0 (rrun st (body.drop i) = some s ∧ RSt B gs w1.heap.size w w' st ∧ st.ps.length ≤ i ∧ (sm = decide (0 < i))))
  case atStart => exact ⟨0, false, ⟨0, true, []⟩, rfl, rfl, by omega, ⟨HR.out, ⟨⟨none, 0, blk_alloc (blk_below HG.out D1.out) _, Kd.R_nil _ _ _ _ _⟩, heap_alloc_new _ _, HB.out, blk_lt HG.out, D1.out.size, fun k hk hn => (Below.heap_alloc _ _ k (by have := D1.out.size; omega)).trans (D1.out.block k hk), (D1.out.mono (by have := blk_lt HG.out; have := HB.out; omega)).alloc (by have := blk_lt HG.out; have := HB.out; have := D1.out.size; omega) _⟩, Nat.le_refl _, rfl⟩⟩
  case round =>
    obtain ⟨i, sm, st, rfl, rfl, hk, HI⟩ := hrel
    obtain ⟨hr, HS, hps, hsm⟩ := HI.out
    have hlt : i < (body ++ [109]).length := by simp; omega
    have nga : ga ≠ gs := blkf_ne HA.out HG.out (by decide)
    have hga := (HS.lt ga (blk_lt HA.out) nga).trans HA.out
    obtain ⟨b, hb⟩ : ∃ b, b = (body ++ [109])[i] := ⟨_, rfl⟩
    have ca : wr.cell? ⟨ga, off + i, none⟩ = some (.int .u8 (b : Int)) := by
      rw [hb]
      exact (cell_of_row _ ga (off + i) C 5 fr hga).trans (HC.out i hlt)
    have HS' := Aside0.mk HS
    clear hr HS hps hsm hga ca0 wf x0 d0
    have hlt1 : (i : Int) < (body.length : Int) + 1 := by omega
    have e1 : decide ((i : Int) < ((body.length + 1 : Nat) : Int)) = true := decide_eq_true (by omega)
    by_cases hi : i < body.length
    · have hbi : b = body[i] := by rw [hb]; exact List.getElem_append_left hi
      have hd : body.drop i = b :: body.drop (i + 1) := by rw [hbi]; exact List.drop_eq_getElem_cons hi
      obtain ⟨st', hs1, hs2⟩ : ∃ s', rstep st b = some s' ∧ rrun s' (body.drop (i + 1)) = some s := by
        have h := HI.out.1
        rw [hd] at h
        simp only [rrun, Option.bind_eq_some_iff] at h
        exact h
      have hrange := rrun_bytes body HR.out b (by rw [hbi]; exact List.getElem_mem hi)
      have wf : spec_within.f b 48 59 = some true := by
        unfold spec_within.f
        rw [if_pos (by omega), decide_eq_true (by omega)]
      have S2 := Aside0.mk hs2
      have HL := Aside0.mk hlt
      clear hb hbi hd hs2 hlt
      by_cases h59 : b = 59
      · subst h59
        unfold rstep at hs1
        rw [if_pos rfl] at hs1
        split at hs1
        · rename_i hle
          obtain rfl := Option.some.inj hs1
          clear hs1
          go_wp2_with (go_at_call 38; refine (spec_within.calls _ _ _ _ _ wf).mono ?_; rintro e w2 ⟨rfl, hd2⟩; have H2 := Aside0.mk (HS'.out.below hd2.below); have ca2 := (hd2.below.cell (World.block_lt_of_cell? wr _ ca)).trans ca; have q0 := (blk_cell H2.out.n 0).trans rfl; have q1 := (blk_cell H2.out.n 1).trans rfl; have q2 := (blk_cell H2.out.n 2).trans rfl; have f0 := blk_frozen H2.out.n 0; have f1 := blk_frozen H2.out.n 1; have f2 := blk_frozen H2.out.n 2; clear hd2 ca)
          clear q0 q1 q2 f0 f1 f2 ca2
          refine cutW (S := fun W => RSt B gs w1.heap.size w W st) (H2.out.putN 2 (.bool false) rfl) ?_
          intro w3 H3
          obtain ⟨A, cc, g1, r1⟩ := H3.g
          have HH := Aside0.mk H3
          have G1 := Aside0.mk g1
          have R1 := Aside0.mk r1
          have cs := (blk_cell g1 2).trans rfl
          have q0 := (blk_cell H3.n 0).trans rfl
          have q1 := (blk_cell H3.n 1).trans rfl
          have q2 := (blk_cell H3.n 2).trans rfl
          have fs := blk_frozen g1 2
          have ls := blk_lt g1
          have ln := blk_lt H3.n
          have N1 := Aside0.mk H3.n
          have neN : w1.heap.size ≠ gs := blk_ne H3.n g1 (by decide)
          have neN' := neN.symm
          have nS : some gs ≠ (Value.slice A st.ps.length cc).ownBlock := Kd.R_ne r1 g1 (by decide)
          have nN : some w1.heap.size ≠ (Value.slice A st.ps.length cc).ownBlock := fun e => r1.1 _ e.symm rfl
          have BS := Aside0.mk (show w.heap.size ≤ w3.drew.heap.size from H3.bl.size)
          clear H3 g1 r1
          refine start_ (n := 11) (S := fun w' => w'.cell? ⟨gs, 2, none⟩ = some (.slice A st.ps.length cc) ∧ w'.cell? ⟨w1.heap.size, 0, none⟩ = some (.int .i64 st.v) ∧ w'.cell? ⟨w1.heap.size, 1, none⟩ = some (.bool st.miss) ∧ w'.cell? ⟨w1.heap.size, 2, none⟩ = some (.bool false)) (ds := [10]) #[false, false, false, false, false, false, false, false, false, false, false] (by kernel_rfl) rfl rfl ⟨cs, q0, q1, q2⟩ (fun hHeld => ?_)
          refine pure_ (i := 0) (N := some 66) (v := ?_) (a' := ?_) #[true, false, false, false, false, false, false, false, false, false, false] rfl rfl (by kernel_rfl) (fun _ _ _ h => h) (Or.inl ⟨by rfl, ?_⟩) ?_ ?_
          rotate_left
          · intro w'
            go_simp
            with_reducible rfl
          rotate_left
          · simp only [Act.put, List.setIfInBounds_toArray, List.set_cons_zero, List.set_cons_succ, i64_w, i32_w]
            rfl
          refine pure_ (i := 1) (N := some 67) (v := ?_) (a' := ?_) #[true, true, false, false, false, false, false, false, false, false, false] rfl rfl (by kernel_rfl) (fun _ _ _ h => h) (Or.inl ⟨by rfl, ?_⟩) ?_ ?_
          rotate_left
          · intro w'
            go_simp
            with_reducible rfl
          rotate_left
          · simp only [Act.put, List.setIfInBounds_toArray, List.set_cons_zero, List.set_cons_succ, i64_w, i32_w]
            rfl
          refine pure_ (i := 2) (N := some 68) (v := ?_) (a' := ?_) #[true, true, true, false, false, false, false, false, false, false, false] rfl rfl (by kernel_rfl) (fun _ _ _ h => h) (Or.inl ⟨by rfl, ?_⟩) ?_ ?_
          rotate_left
          · intro w'
            go_simp
            with_reducible rfl
          rotate_left
          · simp only [Act.put, List.setIfInBounds_toArray, List.set_cons_zero, List.set_cons_succ, i64_w, i32_w]
            rfl
          refine pure_ (i := 3) (N := some 69) (v := ?_) (a' := ?_) #[true, true, true, true, false, false, false, false, false, false, false] rfl rfl (by kernel_rfl) (fun _ _ _ h => h) (Or.inl ⟨by rfl, ?_⟩) ?_ ?_
          rotate_left
          · intro w'
            go_simp
            with_reducible rfl
          rotate_left
          · simp only [Act.put, List.setIfInBounds_toArray, List.set_cons_zero, List.set_cons_succ, i64_w, i32_w]
            rfl
          refine take_ (i := 4) (N := some 70) (v := ?_) (a' := ?_) #[true, true, true, true, true, false, false, false, false, false, false] rfl rfl (by kernel_rfl) (fun _ _ _ h => h) (Or.inl ⟨by rfl, ?_⟩) hHeld ?_ ?_
          rotate_left
          · rintro w' ⟨s0, s1, s2, s3⟩
            go_simp
            with_reducible rfl
          rotate_left
          · simp only [Act.put, List.setIfInBounds_toArray, List.set_cons_zero, List.set_cons_succ, i64_w, i32_w]
            rfl
          refine take_ (i := 5) (N := some 71) (v := ?_) (a' := ?_) #[true, true, true, true, true, true, false, false, false, false, false] rfl rfl (by kernel_rfl) (fun _ _ _ h => h) (Or.inl ⟨by rfl, ?_⟩) hHeld ?_ ?_
          rotate_left
          · rintro w' ⟨s0, s1, s2, s3⟩
            go_simp
            with_reducible rfl
          rotate_left
          · simp only [Act.put, List.setIfInBounds_toArray, List.set_cons_zero, List.set_cons_succ, i64_w, i32_w]
            rfl
          refine one_ (i := 6) (N := some 72) #[true, true, true, true, true, true, true, false, false, false, false] rfl rfl (by kernel_rfl) (by decide) (fun K hK => ?_)
          refine value_ (w1 := ?_) (v := ?_) (by rfl) rfl ?_ ?_
          rotate_left 2
          · go_simp
            constructor
            · rfl
            · rfl
          refine hK.out _ _ ⟨(World.cell?_alloc_some _ _ _ (by rw [show _ = some _ from cs]; rfl)).trans cs, (World.cell?_alloc_some _ _ _ (by rw [show _ = some _ from q0]; rfl)).trans q0, (World.cell?_alloc_some _ _ _ (by rw [show _ = some _ from q1]; rfl)).trans q1, (World.cell?_alloc_some _ _ _ (by rw [show _ = some _ from q2]; rfl)).trans q2⟩ (fun hHeld => ?_)
          clear hK K
          refine norm_ (a' := ?_) ?_ ?_
          rotate_left
          · show Act.put _ (some 72) _ = _
            simp only [Act.put, List.setIfInBounds_toArray, List.set_cons_zero, List.set_cons_succ, i64_w, i32_w]
            rfl
          refine one_ (i := 7) (N := some 73) #[true, true, true, true, true, true, true, true, false, false, false] rfl rfl (by kernel_rfl) (by decide) (fun K hK => ?_)
          refine append_step k89 (w0 := w3.drew) (W := w3.drew) w.heap.size (by rfl) (.tmp 70) (.tmp 72) 34 89 (.agg #[.int .i64 0, .bool false, .bool false]) 16 (by rfl) Tryz.underlying34 info89 (by rfl) (by decide) (by omega) (.slice A st.ps.length cc) st.ps ⟨st.v, st.miss, false⟩ [.int .i64 st.v, .bool st.miss, .bool false] (fun k => k ≠ w1.heap.size) (fun _ => False) (by rfl) (by rfl) (by rfl) (k89_mkM _ _ _ _) (fun _ hk => hk.elim) (fun k hk => by have h9 : w3.heap.size ≤ k := hk; omega) (Kd.R_drew R1.out) (Below.refl _ _) BS.out (by omega) ?_
          intro v1 w4 ho1 hb1 hg1 hat1
          obtain ⟨A1, c1, hv1⟩ := Kd.R_slice ho1
          simp only [List.length_append, List.length_cons, List.length_nil, Nat.zero_add] at hv1
          subst hv1
          have N4 := Aside0.mk (blk_grown (w := w3.drew) N1.out hg1 nN)
          have z0 := (blk_cell N4.out 0).trans rfl
          have z1 := (blk_cell N4.out 1).trans rfl
          have z2 := (blk_cell N4.out 2).trans rfl
          have y0 := blk_frozen N4.out 0
          have y1 := blk_frozen N4.out 1
          have y2 := blk_frozen N4.out 2
          have fs1 := (World.frozen?_of_block (a := ⟨gs, 2, none⟩) (hg1.block gs ls nS)).trans fs
          refine hK.out _ _ ⟨hg1.cell cs nS, hg1.cell q0 nN, hg1.cell q1 nN, hg1.cell q2 nN⟩ (fun hHeld => ?_)
          clear hK K
          refine norm_ (a' := ?_) ?_ ?_
          rotate_left
          · show Act.put _ (some 73) _ = _
            simp only [Act.put, List.setIfInBounds_toArray, List.set_cons_zero, List.set_cons_succ, i64_w, i32_w]
            rfl
          refine pure_ (i := 8) (N := some 74) (v := ?_) (a' := ?_) #[true, true, true, true, true, true, true, true, true, false, false] rfl rfl (by kernel_rfl) (fun _ _ _ h => h) (Or.inl ⟨by rfl, ?_⟩) ?_ ?_
          rotate_left
          · intro w'
            go_simp
            with_reducible rfl
          rotate_left
          · simp only [Act.put, List.setIfInBounds_toArray, List.set_cons_zero, List.set_cons_succ, i64_w, i32_w]
            rfl
          refine pure_ (i := 9) (N := some 75) (v := ?_) (a' := ?_) #[true, true, true, true, true, true, true, true, true, true, false] rfl rfl (by kernel_rfl) (fun _ _ _ h => h) (Or.inl ⟨by rfl, ?_⟩) ?_ ?_
          rotate_left
          · intro w'
            go_simp
            with_reducible rfl
          rotate_left
          · simp only [Act.put, List.setIfInBounds_toArray, List.set_cons_zero, List.set_cons_succ, i64_w, i32_w]
            rfl
          refine last_ (i := 10) (N := none) #[true, true, true, true, true, true, true, true, true, true, true] rfl rfl (by kernel_rfl) (by decide) (fun K hK => ?_)
          have cs1 := hg1.cell cs nS
          refine skip_ (w1 := ?_) (by rfl) rfl ?_ ?_
          rotate_left
          · go_simp
            rfl
          refine hK.out _ _ ?_
          clear hK K
          refine done_ (by kernel_rfl) ?_
          go_wp2_with fail
          go_roundg (body.length - (i + 1))
          case measure => omega
          case rel => exact ⟨i + 1, true, ⟨0, true, st.ps ++ [⟨st.v, st.miss, false⟩]⟩, by simp, rfl, by omega, ⟨S2.out, (((HH.out.drew.told G1.out (Kd.R_drew R1.out) hg1 ho1 hb1).putN 0 (.int .i64 0) rfl).putN 1 (.bool true) rfl).putN 2 (.bool false) rfl, by have := HI.out.2.2.1; simp; omega, by simp⟩⟩
        · cases hs1
      · unfold rstep at hs1
        rw [if_neg h59] at hs1
        split at hs1
        · rename_i hdg
          split at hs1
          · rename_i hv
            obtain rfl := Option.some.inj hs1
            clear hs1
            have hv0 := hv.1
            have hv1 := hv.2
            have hb48 : 48 ≤ (b : Int) := by omega
            have hb57 : (b : Int) ≤ 57 := by omega
            have t59 : ((b : Int) == 59) = false := by simp; omega
            have t58 : ((b : Int) == 58) = false := by simp; omega
            have tgt : decide (st.v > 100000) = false := decide_eq_false (by omega)
            obtain ⟨x2, e2⟩ : ∃ x : Int, x = st.v * 10 := ⟨_, rfl⟩
            obtain ⟨x3, e3⟩ : ∃ x : Int, x = st.v * 10 + ((b : Int) - 48) := ⟨_, rfl⟩
            have m1 : wrap64 (st.v * 10) = x2 := by rw [← i64_w, IntKind.wrap_i64]; omega
            have m2 : IntKind.u8.wrap ((b : Int) - 48) = (b : Int) - 48 := by rw [IntKind.wrap_u8]; omega
            have m3 : wrap64 ((b : Int) - 48) = (b : Int) - 48 := by rw [← i64_w, IntKind.wrap_i64]; omega
            have m4 : wrap64 (x2 + ((b : Int) - 48)) = x3 := by rw [← i64_w, IntKind.wrap_i64]; omega
            have E3 := Aside0.mk e3
            rw [← e3] at S2
            clear e2 e3 hv hdg h59
            go_wp2_with (go_at_call 38; refine (spec_within.calls _ _ _ _ _ wf).mono ?_; rintro e w2 ⟨rfl, hd2⟩; have H2 := Aside0.mk (HS'.out.below hd2.below); have ca2 := (hd2.below.cell (World.block_lt_of_cell? _ _ ca)).trans ca; have q0 := (blk_cell H2.out.n 0).trans rfl; have q1 := (blk_cell H2.out.n 1).trans rfl; have q2 := (blk_cell H2.out.n 2).trans rfl; have f0 := blk_frozen H2.out.n 0; have f1 := blk_frozen H2.out.n 1; have f2 := blk_frozen H2.out.n 2; clear hd2)
            go_roundg (body.length - (i + 1))
            case measure => omega
            case rel => exact ⟨i + 1, true, ⟨x3, false, st.ps⟩, by simp, rfl, by omega, ⟨S2.out, by rw [← E3.out]; exact (H2.out.putN 0 (.int .i64 x3) rfl).putN 1 (.bool false) rfl, by have := HI.out.2.2.1; show st.ps.length ≤ i + 1; omega, by simp⟩⟩
          · cases hs1
        · cases hs1
    · obtain rfl : i = body.length := by omega
      have hbe : b = 109 := by rw [hb]; simp
      subst hbe
      obtain rfl : sm = true := by have := HI.out.2.2.2; rw [this]; simpa using hl0
      have hst : st = s := by
        have h := HI.out.1
        rw [List.drop_length] at h
        simpa [rrun] using h
      subst hst
      have wf : spec_within.f 109 48 59 = some false := by decide
      have wf2 : spec_within.f 109 32 47 = some false := by decide
      have wf3 : spec_within.f 109 64 126 = some true := by decide
      have g0 : decide ((body.length : Int) > 0) = true := decide_eq_true (by omega)
      have eq1 : ((body.length : Int) == (body.length : Int) + 1) = false := by simp; omega
      have hle : st.ps.length ≤ 1000 := by have := HI.out.2.2.1; omega
      clear hb hlt
      go_wp2_with (go_at_call 38; refine (spec_within.calls _ _ _ _ _ wf).mono ?_; rintro e w2 ⟨rfl, hd2⟩; have H2 := Aside0.mk (HS'.out.below hd2.below); have ca2 := (hd2.below.cell (World.block_lt_of_cell? _ _ ca)).trans ca; clear hd2)
      refine cutW (S := fun W => RSt B gs w1.heap.size w W st) H2.out ?_
      intro w3 H3
      obtain ⟨A, cc, g1, r1⟩ := H3.g
      have HH := Aside0.mk H3
      have G1 := Aside0.mk g1
      have R1 := Aside0.mk r1
      have cs := (blk_cell g1 2).trans rfl
      have q0 := (blk_cell H3.n 0).trans rfl
      have q1 := (blk_cell H3.n 1).trans rfl
      have q2 := (blk_cell H3.n 2).trans rfl
      have fs := blk_frozen g1 2
      have ls := blk_lt g1
      have ln := blk_lt H3.n
      have N1 := Aside0.mk H3.n
      have neN : w1.heap.size ≠ gs := blk_ne H3.n g1 (by decide)
      have neN' := neN.symm
      have nS : some gs ≠ (Value.slice A st.ps.length cc).ownBlock := Kd.R_ne r1 g1 (by decide)
      have nN : some w1.heap.size ≠ (Value.slice A st.ps.length cc).ownBlock := fun e => r1.1 _ e.symm rfl
      have BS := Aside0.mk (show w.heap.size ≤ w3.drew.heap.size from H3.bl.size)
      clear H3 g1 r1
      refine start_ (n := 11) (S := fun w' => w'.cell? ⟨gs, 2, none⟩ = some (.slice A st.ps.length cc) ∧ w'.cell? ⟨w1.heap.size, 0, none⟩ = some (.int .i64 st.v) ∧ w'.cell? ⟨w1.heap.size, 1, none⟩ = some (.bool st.miss) ∧ w'.cell? ⟨w1.heap.size, 2, none⟩ = some (.bool false)) (ds := [10]) #[false, false, false, false, false, false, false, false, false, false, false] (by kernel_rfl) rfl rfl ⟨cs, q0, q1, q2⟩ (fun hHeld => ?_)
      refine pure_ (i := 0) (N := some 85) (v := ?_) (a' := ?_) #[true, false, false, false, false, false, false, false, false, false, false] rfl rfl (by kernel_rfl) (fun _ _ _ h => h) (Or.inl ⟨by rfl, ?_⟩) ?_ ?_
      rotate_left
      · intro w'
        go_simp
        with_reducible rfl
      rotate_left
      · simp only [Act.put, List.setIfInBounds_toArray, List.set_cons_zero, List.set_cons_succ, i64_w, i32_w]
        rfl
      refine pure_ (i := 1) (N := some 86) (v := ?_) (a' := ?_) #[true, true, false, false, false, false, false, false, false, false, false] rfl rfl (by kernel_rfl) (fun _ _ _ h => h) (Or.inl ⟨by rfl, ?_⟩) ?_ ?_
      rotate_left
      · intro w'
        go_simp
        with_reducible rfl
      rotate_left
      · simp only [Act.put, List.setIfInBounds_toArray, List.set_cons_zero, List.set_cons_succ, i64_w, i32_w]
        rfl
      refine pure_ (i := 2) (N := some 87) (v := ?_) (a' := ?_) #[true, true, true, false, false, false, false, false, false, false, false] rfl rfl (by kernel_rfl) (fun _ _ _ h => h) (Or.inl ⟨by rfl, ?_⟩) ?_ ?_
      rotate_left
      · intro w'
        go_simp
        with_reducible rfl
      rotate_left
      · simp only [Act.put, List.setIfInBounds_toArray, List.set_cons_zero, List.set_cons_succ, i64_w, i32_w]
        rfl
      refine pure_ (i := 3) (N := some 88) (v := ?_) (a' := ?_) #[true, true, true, true, false, false, false, false, false, false, false] rfl rfl (by kernel_rfl) (fun _ _ _ h => h) (Or.inl ⟨by rfl, ?_⟩) ?_ ?_
      rotate_left
      · intro w'
        go_simp
        with_reducible rfl
      rotate_left
      · simp only [Act.put, List.setIfInBounds_toArray, List.set_cons_zero, List.set_cons_succ, i64_w, i32_w]
        rfl
      refine take_ (i := 4) (N := some 89) (v := ?_) (a' := ?_) #[true, true, true, true, true, false, false, false, false, false, false] rfl rfl (by kernel_rfl) (fun _ _ _ h => h) (Or.inl ⟨by rfl, ?_⟩) hHeld ?_ ?_
      rotate_left
      · rintro w' ⟨s0, s1, s2, s3⟩
        go_simp
        with_reducible rfl
      rotate_left
      · simp only [Act.put, List.setIfInBounds_toArray, List.set_cons_zero, List.set_cons_succ, i64_w, i32_w]
        rfl
      refine take_ (i := 5) (N := some 90) (v := ?_) (a' := ?_) #[true, true, true, true, true, true, false, false, false, false, false] rfl rfl (by kernel_rfl) (fun _ _ _ h => h) (Or.inl ⟨by rfl, ?_⟩) hHeld ?_ ?_
      rotate_left
      · rintro w' ⟨s0, s1, s2, s3⟩
        go_simp
        with_reducible rfl
      rotate_left
      · simp only [Act.put, List.setIfInBounds_toArray, List.set_cons_zero, List.set_cons_succ, i64_w, i32_w]
        rfl
      refine one_ (i := 6) (N := some 91) #[true, true, true, true, true, true, true, false, false, false, false] rfl rfl (by kernel_rfl) (by decide) (fun K hK => ?_)
      refine value_ (w1 := ?_) (v := ?_) (by rfl) rfl ?_ ?_
      rotate_left 2
      · go_simp
        constructor
        · rfl
        · rfl
      refine hK.out _ _ ⟨(World.cell?_alloc_some _ _ _ (by rw [show _ = some _ from cs]; rfl)).trans cs, (World.cell?_alloc_some _ _ _ (by rw [show _ = some _ from q0]; rfl)).trans q0, (World.cell?_alloc_some _ _ _ (by rw [show _ = some _ from q1]; rfl)).trans q1, (World.cell?_alloc_some _ _ _ (by rw [show _ = some _ from q2]; rfl)).trans q2⟩ (fun hHeld => ?_)
      clear hK K
      refine norm_ (a' := ?_) ?_ ?_
      rotate_left
      · show Act.put _ (some 91) _ = _
        simp only [Act.put, List.setIfInBounds_toArray, List.set_cons_zero, List.set_cons_succ, i64_w, i32_w]
        rfl
      refine one_ (i := 7) (N := some 92) #[true, true, true, true, true, true, true, true, false, false, false] rfl rfl (by kernel_rfl) (by decide) (fun K hK => ?_)
      refine append_step k89 (w0 := w3.drew) (W := w3.drew) w.heap.size (by rfl) (.tmp 89) (.tmp 91) 34 89 (.agg #[.int .i64 0, .bool false, .bool false]) 16 (by rfl) Tryz.underlying34 info89 (by rfl) (by decide) (by omega) (.slice A st.ps.length cc) st.ps ⟨st.v, st.miss, false⟩ [.int .i64 st.v, .bool st.miss, .bool false] (fun k => k ≠ w1.heap.size) (fun _ => False) (by rfl) (by rfl) (by rfl) (k89_mkM _ _ _ _) (fun _ hk => hk.elim) (fun k hk => by have h9 : w3.heap.size ≤ k := hk; omega) (Kd.R_drew R1.out) (Below.refl _ _) BS.out (by omega) ?_
      intro v1 w4 ho1 hb1 hg1 hat1
      obtain ⟨A1, c1, hv1⟩ := Kd.R_slice ho1
      simp only [List.length_append, List.length_cons, List.length_nil, Nat.zero_add] at hv1
      subst hv1
      have N4 := Aside0.mk (blk_grown (w := w3.drew) N1.out hg1 nN)
      have z0 := (blk_cell N4.out 0).trans rfl
      have z1 := (blk_cell N4.out 1).trans rfl
      have z2 := (blk_cell N4.out 2).trans rfl
      have y0 := blk_frozen N4.out 0
      have y1 := blk_frozen N4.out 1
      have y2 := blk_frozen N4.out 2
      have fs1 := (World.frozen?_of_block (a := ⟨gs, 2, none⟩) (hg1.block gs ls nS)).trans fs
      refine hK.out _ _ ⟨hg1.cell cs nS, hg1.cell q0 nN, hg1.cell q1 nN, hg1.cell q2 nN⟩ (fun hHeld => ?_)
      clear hK K
      refine norm_ (a' := ?_) ?_ ?_
      rotate_left
      · show Act.put _ (some 92) _ = _
        simp only [Act.put, List.setIfInBounds_toArray, List.set_cons_zero, List.set_cons_succ, i64_w, i32_w]
        rfl
      refine pure_ (i := 8) (N := some 93) (v := ?_) (a' := ?_) #[true, true, true, true, true, true, true, true, true, false, false] rfl rfl (by kernel_rfl) (fun _ _ _ h => h) (Or.inl ⟨by rfl, ?_⟩) ?_ ?_
      rotate_left
      · intro w'
        go_simp
        with_reducible rfl
      rotate_left
      · simp only [Act.put, List.setIfInBounds_toArray, List.set_cons_zero, List.set_cons_succ, i64_w, i32_w]
        rfl
      refine pure_ (i := 9) (N := some 94) (v := ?_) (a' := ?_) #[true, true, true, true, true, true, true, true, true, true, false] rfl rfl (by kernel_rfl) (fun _ _ _ h => h) (Or.inl ⟨by rfl, ?_⟩) ?_ ?_
      rotate_left
      · intro w'
        go_simp
        with_reducible rfl
      rotate_left
      · simp only [Act.put, List.setIfInBounds_toArray, List.set_cons_zero, List.set_cons_succ, i64_w, i32_w]
        rfl
      refine last_ (i := 10) (N := none) #[true, true, true, true, true, true, true, true, true, true, true] rfl rfl (by kernel_rfl) (by decide) (fun K hK => ?_)
      have cs1 := hg1.cell cs nS
      refine skip_ (w1 := ?_) (by rfl) rfl ?_ ?_
      rotate_left
      · go_simp
        rfl
      refine hK.out _ _ ?_
      clear hK K
      refine done_ (by kernel_rfl) ?_
      go_wp2_with fail
      go_loopg [5] 0 (fun kq v5 w' => v5 = .int .i64 body.length ∧ Aside0 (RSt B gs w1.heap.size w w' ⟨st.v, st.miss, st.ps ++ [⟨st.v, st.miss, false⟩]⟩))
      case atStart => exact ⟨rfl, ⟨HH.out.drew.told G1.out (Kd.R_drew R1.out) hg1 ho1 hb1⟩⟩
      case round =>
        obtain ⟨rfl, H5⟩ := hrel
        clear ca ca2 HI HS' H2 HH G1 R1 cs q0 q1 q2 fs ls ln nS nN BS N1 neN neN' N4 z0 z1 z2 y0 y1 y2 fs1 cs1 ho1 hb1 hg1 hat1
        have ca : wr.cell? ⟨ga, off + body.length, none⟩ = some (.int .u8 109) := by
          have h := HC.out body.length (by simp)
          have e : (body ++ [109])[body.length]'(by simp) = 109 := by simp
          rw [e] at h
          exact (cell_of_row _ ga (off + body.length) C 5 fr ((H5.out.lt ga (blk_lt HA.out) nga).trans HA.out)).trans h
        go_wp2_with (first
          | (go_at_call 38; with_reducible refine (spec_within.calls _ _ _ _ _ wf2).mono ?_; rintro e w6 ⟨rfl, hd2⟩; have H6 := Aside0.mk (H5.out.below hd2.below); have ca6 := (hd2.below.cell (World.block_lt_of_cell? _ _ ca)).trans ca; clear hd2)
          | (go_at_call 38; with_reducible refine (spec_within.calls _ _ _ _ _ wf3).mono ?_; rintro e w7 ⟨rfl, hd2⟩; have H7 := Aside0.mk (H6.out.below hd2.below); have ca7 := (hd2.below.cell (World.block_lt_of_cell? _ _ ca6)).trans ca6; clear hd2; obtain ⟨A7, c7, g7, r7⟩ := H7.out.g; have G7 := Aside0.mk g7; have R7 := Aside0.mk r7; have s4 := (blk_cell g7 4).trans rfl; have f4 := blk_frozen g7 4; clear g7 r7))
        go_ret
        have el : (st.ps ++ [(⟨st.v, st.miss, false⟩ : S89)]).length = st.ps.length + 1 := by simp
        have g8 := G7.out
        have r8 := R7.out
        rw [el] at g8 r8
        refine ⟨by simp, ⟨A7, c7, blk_put g8 4 _ rfl, Kd.R_mono (Kd.R_lower (Kd.R_set r8 g8 (by intro q hq; have : q = 89 := by simpa [k89, Kd.iso, Kd.pair, Kd.bool, Kd.int, Kd.scalar] using hq
                                                                                                omega) 4 _) (by have := HB.out; have := blk_lt HG.out; omega)) (fun _ _ => trivial)⟩, fun k hk hn => (Below.heap_setCell w7 ⟨gs, 4, none⟩ _ k hn).trans (H7.out.lt k hk hn), H7.out.bl.setCell (p := ⟨gs, 4, none⟩) HB.out _⟩
end Go.Proofs.YtjdpkhnpgdangaaGreatDoor.PQ
