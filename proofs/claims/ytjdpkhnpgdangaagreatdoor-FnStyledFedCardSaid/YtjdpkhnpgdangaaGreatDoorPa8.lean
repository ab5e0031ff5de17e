/- Feed. -/
import Derived.Test.YtjdpkhnpgdangaaGreatDoorPa7
namespace Go.Proofs.YtjdpkhnpgdangaaGreatDoor.PQ
open Go.RowKit Go.Proofs.YtjdpkhnpgdangaaGreatDoorW.PrintWords Go.Proofs.YtjdpkhnpgdangaaGreatDoorW.PrintLast Go.Proofs.YtjdpkhnpgdangaaGreatDoorW.PrintMore
set_option linter.unusedVariables false
set_option linter.unusedSimpArgs false
def m0 : Mst := ⟨List.replicate 32 0, 0, 0, 0, []⟩
theorem mstep_len {s s' : Mst} {b : Nat} (h : mstep s b = some s') : s'.evs.length ≤ s.evs.length + 1 := by
  unfold mstep at h
  repeat' split at h
  all_goals first
    | (cases h; done)
    | (cases h; simp)
theorem PSt.withRow {B gp gq : Nat} {gd : GX} {gb go : Nat} {w : World} {qs : List Int} {n cmd st : Int} {evs : List S77} (h : PSt B gp gq gd gb go w qs n cmd st evs) (X : Nat → Array Value → Prop) (hX : ∀ k cs, X k cs → w.heap[k]? = some (.cells cs 5 (0, 0))) :
    PSt B gp gq ⟨gd.d, X⟩ gb go w qs n cmd st evs := ⟨h.p, h.q, h.ql, h.b, h.o, hX, h.geP, h.geQ, h.geB, h.geO⟩
theorem R_kept {w w' : World} {B : Nat} {v : Value} {l : List Int} (h : Kd.R (Kd.int .u8) 5 w B (fun _ => True) v l) (hk : ∀ k cs, (v.ownBlock = some k ∧ w.heap[k]? = some (.cells cs 5 (0, 0))) → w'.heap[k]? = some (.cells cs 5 (0, 0))) : Kd.R (Kd.int .u8) 5 w' B (fun _ => True) v l := by
  have ho := Kd.own_of_R h
  refine Kd.R_of_own (own_move ho fun k e => ?_) (fun _ _ => trivial)
  obtain ⟨cs, hc⟩ := own_typed ho k e
  rw [hc]
  exact hk k cs ⟨e, hc⟩
def ints8 (l : List Nat) : List Int := l.map fun b : Nat => (b : Int)
theorem ints8_len (l : List Nat) : (ints8 l).length = l.length := List.length_map _
set_option maxRecDepth 100000 in
set_option maxHeartbeats 4000000 in
theorem Feed_calls (w : World) (A : Option Addr) (c : Nat) (l : List Nat) (s : Mst) (hC : Kd.C (Kd.int .u8) w A (ints8 l).length (ints8 l)) (hl : l.length ≤ 10000) (hrun : mrun m0 l = some s) :
    Calls Tryz.prog 12 #[.int .i64 32, .int .i64 4096, .slice A (ints8 l).length c] w (fun e w' => ∃ v, e = .returned v ∧ Kd.R k77 77 w' w.heap.size (fun _ => True) v s.evs ∧ Below w.heap.size w w') := by
  have HC := Aside0.mk hC
  have HR := Aside0.mk hrun
  clear hC hrun
  go_enter Tryz.func12, Tryz.ntmps12
  go_wp2_with (first
    | (go_at_call 32; refine (newParser_calls w).mono ?_; rintro e w1 ⟨gp, gq, gd, rfl, h1, hq1, gep, geq, b1⟩
       have H1 := Aside0.mk h1; have Q1 := Aside0.mk hq1; have B1 := Aside0.mk b1; have G1 := Aside0.mk gep; have G2 := Aside0.mk geq
       clear h1 hq1 b1 gep geq)
    | (go_at_call 33; refine (listen_calls (B := w.heap.size) (gd := gd) _ (blk_alloc H1.out _) (blk_alloc Q1.out _) (blk_new w1 _) G1.out G2.out B1.out.size).mono ?_; rintro e w2 ⟨rfl, gb, h2, b2⟩
       have H2 := Aside0.mk h2; have B2 := Aside0.mk (Below.trans (Below.alloc B1.out B1.out.size _) b2)
       clear h2 b2)
    | (go_at_call 34; refine (own_calls w2 A c (ints8 l) (Kd.C_below HC.out B2.out) (by rw [ints8_len]; omega)).mono ?_; rintro e w3 ⟨v, rfl, hr3, b3⟩
       have H3 := Aside0.mk ((H2.out.below b3).withRow (fun k cs => v.ownBlock = some k ∧ w3.heap[k]? = some (.cells cs 5 (0, 0))) (fun k cs h => h.2))
       have R3 := Aside0.mk hr3; have B3 := Aside0.mk (Below.trans B2.out (b3.mono B2.out.size))
       obtain ⟨A2, c2, hv⟩ := Kd.R_slice hr3
       subst hv
       clear hr3 b3))
  go_loopg [29] l.length (fun kq v29 w' => ∃ (i : Nat) (si : Mst), v29 = .int .i64 i ∧ kq + i = l.length ∧ Aside0 (mrun si (l.drop i) = some s ∧ si.evs.length ≤ i ∧ si.At w.heap.size gp gq ⟨gd, fun k cs => (Value.slice A2 (ints8 l).length c2).ownBlock = some k ∧ w3.heap[k]? = some (.cells cs 5 (0, 0))⟩ gb w1.heap.size w' ∧ Below w.heap.size w w'))
  case atStart => exact ⟨0, m0, rfl, by omega, ⟨HR.out, by simp [m0], H3.out, B3.out⟩⟩
  case round =>
    obtain ⟨i, si, rfl, hk, HI⟩ := hrel
    have HL := Aside0.mk (ints8_len l)
    have R4 := Aside0.mk (Kd.R_reads (R_kept R3.out HI.out.2.2.1.x))
    by_cases hi : i < l.length
    · have d1 : decide ((i : Int) < ((ints8 l).length : Int)) = true := decide_eq_true (by rw [ints8_len]; omega)
      obtain ⟨A3, c3, ev, lc, hC3⟩ := R4.out
      cases ev
      obtain ⟨ad, e1, hx⟩ := Kd.at_int hC3 (i : Int) (by omega) (by rw [ints8_len]; omega)
      subst e1
      obtain ⟨b, hb⟩ : ∃ b, b = l[i] := ⟨_, rfl⟩
      have hrd : rd (ints8 l) (i : Int) = (b : Int) := by rw [hb]; simp [rd, ints8, List.getElem?_eq_getElem hi]
      rw [hrd, Int.toNat_natCast] at hx
      have hd : l.drop i = b :: l.drop (i + 1) := by rw [hb]; exact List.drop_eq_getElem_cons hi
      obtain ⟨s', hs1, hs2⟩ : ∃ s', mstep si b = some s' ∧ mrun s' (l.drop (i + 1)) = some s := by
        have h := HI.out.1
        rw [hd] at h
        simp only [mrun, Option.bind_eq_some_iff] at h
        exact h
      have S1 := Aside0.mk hs1
      have S2 := Aside0.mk hs2
      have hi2 : (i : Int) < ((ints8 l).length : Int) := by rw [ints8_len]; omega
      have hwi : wrap64 ((i : Int) + 1) = ((i + 1 : Nat) : Int) := by rw [← i64_w, IntKind.wrap_i64]; omega
      clear hb hrd hd hs1 hs2 lc hC3
      go_wp2_with (go_at_call 35; refine (mstep_calls _ HI.out.2.2.1 S1.out (by have := HI.out.2.1; omega)).mono ?_; rintro e w5 ⟨a5, rfl, h5, b5⟩; have H5 := Aside0.mk h5; have B5 := Aside0.mk (Below.trans HI.out.2.2.2 b5); clear h5 b5)
      go_roundg (l.length - (i + 1))
      case measure => omega
      case rel => exact ⟨i + 1, s', by simp, by omega, ⟨S2.out, by have := mstep_len S1.out; have := HI.out.2.1; omega, H5.out, B5.out⟩⟩
    · obtain rfl : i = l.length := by omega
      have d1 : decide (l.length < (ints8 l).length) = false := decide_eq_false (by rw [ints8_len]; omega)
      have es : si = s := by
        have h := HI.out.1
        rw [List.drop_length] at h
        simpa [mrun] using h
      subst es
      obtain ⟨v, ho, hr⟩ := HI.out.2.2.1.o
      obtain ⟨A4, c4, hv4⟩ := Kd.R_slice hr
      subst hv4
      have co : wr.cell? ⟨w1.heap.size, 0, none⟩ = some (.slice A4 si.evs.length c4) := (blk_cell ho 0).trans rfl
      have RV := Aside0.mk hr
      clear ho hr
      go_wp2
      go_ret
      exact ⟨_, rfl, RV.out, HI.out.2.2.2⟩
end Go.Proofs.YtjdpkhnpgdangaaGreatDoor.PQ
