/- ReadSequence at the bytes of a style. -/
import Derived.Test.YtjdpkhnpgdangaaGreatDoorPc0
import Derived.Laws.ResultCell
namespace Go.Proofs.YtjdpkhnpgdangaaGreatDoor.PQ
open Go.RowKit Go.Proofs.YtjdpkhnpgdangaaGreatDoorW.PrintWords Go.Proofs.YtjdpkhnpgdangaaGreatDoorW.PrintLast Go.Proofs.YtjdpkhnpgdangaaGreatDoorW.PrintMore
set_option linter.unusedVariables false
set_option linter.unusedSimpArgs false
/-- A control sequence with final byte 'm', its parameters' row. -/
def svals (A : Option Addr) (n c : Nat) : Array Value := #[.int .i64 1, .int .u8 0, .slice A n c, .slice none 0 0, .int .u8 109, .slice none 0 0, .bool false]
theorem results_cell_row_tmp {P : Program} {fn : Func} {p u : Tmp} {ty : TypeId} (h : fn.results = #[.cell p ty, .tmp u]) (tmps : Array Value) (w : World) (g : Nat) (t : TypeId) (cs : Array Value) (fr : Nat × Nat) (d : TypeDesc)
    (hp : tmps.getD p undef = .pointer (some ⟨g, 0, none⟩)) (hg : w.heap[g]? = some (.cells cs t fr))
    (hu : P.underlying ty = some d) (hd : (match d with | .struct _ | .array _ _ => true | _ => false) = true) (hi : (P.info? ty).map (·.size) = some cs.size) :
    (results fn tmps).run P w = .ok (.tuple #[.agg cs, tmps.getD u undef]) w := by
  rw [results_cell_tmp h, hp]
  simp [asAddr, run_loadVar_row w g t ty cs fr d hg hu hd hi]
def sbytes (body : List Nat) : List Nat := 27 :: 91 :: (body ++ [109])
set_option maxRecDepth 1000000 in
set_option maxHeartbeats 4000000 in
theorem ReadSequence_calls {ga : Nat} {fr : Nat × Nat} (w : World) (c : Nat) (C : Array Value) (body : List Nat) (s : Rst) (hb : rrun ⟨0, true, []⟩ body = some s) (hb0 : body ≠ []) (hbl : body.length ≤ 1000) (hc : body.length + 3 ≤ c)
    (ha : w.heap[ga]? = some (.cells C 5 fr)) (hC : ∀ i (h : i < (sbytes body).length), C[i]? = some (.int .u8 ((sbytes body)[i] : Nat))) :
    Calls Tryz.prog 13 #[.slice (some ⟨ga, 0, none⟩) (body.length + 3) c] w (fun e w' => ∃ A c', e = .returned (.tuple #[.agg (svals A (s.ps.length + 1) c'), .bool true]) ∧ Kd.R k89 89 w' w.heap.size (fun _ => True) (.slice A (s.ps.length + 1) c') (s.ps ++ [⟨s.v, s.miss, false⟩]) ∧ Below w.heap.size w w') := by
  have HA := Aside0.mk ha
  have HC := Aside0.mk hC
  have HR := Aside0.mk hb
  have H0 := Aside0.mk hb0
  have c0 : w.cell? ⟨ga, 0, none⟩ = some (.int .u8 27) := (cell_of_row _ ga 0 C 5 fr ha).trans (hC 0 (by simp [sbytes]))
  have c1 : w.cell? ⟨ga, 1, none⟩ = some (.int .u8 91) := (cell_of_row _ ga 1 C 5 fr ha).trans (hC 1 (by simp [sbytes]))
  have lt := blk_lt ha
  have d0 : decide ((body.length : Int) + 3 < 2) = false := decide_eq_false (by omega)
  have d1 : (2 : Int) ≤ (body.length : Int) + 3 := by omega
  have nc := World.new_ne w _ c0
  clear ha hC hb hb0
  go_enter Tryz.func13, Tryz.ntmps13
  have hCB : ∀ i (h : i < (body ++ [109]).length), C[2 + i]? = some (.int .u8 ((body ++ [109])[i] : Nat)) := by
    intro i h
    have h1 := HC.out (2 + i) (by simp [sbytes] at h ⊢; omega)
    have h2 : (sbytes body)[2 + i]? = (body ++ [109])[i]? := by
      rw [Nat.add_comm]
      rfl
    rw [List.getElem?_eq_getElem (by simp [sbytes] at h ⊢; omega), List.getElem?_eq_getElem h] at h2
    rw [h1, Option.some.inj h2]
  go_wp2_with (go_at_call 36; refine (readParameters_calls (B := w.heap.size) _ (c - 2) C body s HR.out H0.out hbl (blk_alloc (blk_alloc HA.out _) _) hCB (by simpa using heap_alloc_new (w.alloc _) (.cells #[.int .i64 1, .int .u8 0, .slice none 0 0, .slice none 0 0, .int .u8 0, .slice none 0 0, .bool false] 37)) (Nat.le_succ _)).mono ?_; rintro e w2 ⟨rfl, ⟨A, c', g2, r2⟩, k2, b2⟩; have GS := Aside0.mk g2; have R2 := Aside0.mk r2; have GR := Aside0.mk ((k2 w.heap.size (by simp; omega) (by omega)).trans (blk_alloc (blk_new w _) _)); have B2 := Aside0.mk b2; clear g2 r2 k2 b2; have r0 := (blk_cell GR.out 0).trans rfl; have e0 := blk_frozen GR.out 0; have s0 := (blk_cell GS.out 0).trans rfl; have r1 := (blk_cell GR.out 1).trans rfl; have e1 := blk_frozen GR.out 1; have s1 := (blk_cell GS.out 1).trans rfl; have r2 := (blk_cell GR.out 2).trans rfl; have e2 := blk_frozen GR.out 2; have s2 := (blk_cell GS.out 2).trans rfl; have r3 := (blk_cell GR.out 3).trans rfl; have e3 := blk_frozen GR.out 3; have s3 := (blk_cell GS.out 3).trans rfl; have r4 := (blk_cell GR.out 4).trans rfl; have e4 := blk_frozen GR.out 4; have s4 := (blk_cell GS.out 4).trans rfl; have r5 := (blk_cell GR.out 5).trans rfl; have e5 := blk_frozen GR.out 5; have s5 := (blk_cell GS.out 5).trans rfl; have r6 := (blk_cell GR.out 6).trans rfl; have e6 := blk_frozen GR.out 6; have s6 := (blk_cell GS.out 6).trans rfl)
  have k0 := blk_put GR.out 0 (.int .i64 1) (cs' := #[.int .i64 1, .int .u8 0, .slice none 0 0, .slice none 0 0, .int .u8 0, .slice none 0 0, .bool false]) rfl
  have k1 := blk_put k0 1 (.int .u8 0) (cs' := #[.int .i64 1, .int .u8 0, .slice none 0 0, .slice none 0 0, .int .u8 0, .slice none 0 0, .bool false]) rfl
  have k2 := blk_put k1 2 (.slice A (s.ps.length + 1) c') (cs' := #[.int .i64 1, .int .u8 0, .slice A (s.ps.length + 1) c', .slice none 0 0, .int .u8 0, .slice none 0 0, .bool false]) rfl
  have k3 := blk_put k2 3 (.slice none 0 0) (cs' := #[.int .i64 1, .int .u8 0, .slice A (s.ps.length + 1) c', .slice none 0 0, .int .u8 0, .slice none 0 0, .bool false]) rfl
  have k4 := blk_put k3 4 (.int .u8 109) (cs' := #[.int .i64 1, .int .u8 0, .slice A (s.ps.length + 1) c', .slice none 0 0, .int .u8 109, .slice none 0 0, .bool false]) rfl
  have k5 := blk_put k4 5 (.slice none 0 0) (cs' := #[.int .i64 1, .int .u8 0, .slice A (s.ps.length + 1) c', .slice none 0 0, .int .u8 109, .slice none 0 0, .bool false]) rfl
  have k6 := blk_put k5 6 (.bool false) (cs' := #[.int .i64 1, .int .u8 0, .slice A (s.ps.length + 1) c', .slice none 0 0, .int .u8 109, .slice none 0 0, .bool false]) rfl
  refine bodyPost_ret (results_cell_row_tmp rfl _ _ w.heap.size 37 (svals A (s.ps.length + 1) c') (0, 0) _ (by rfl) k6 Tryz.underlying37 (by rfl) (by kernel_rfl)) rfl ?_
  have nq : ∀ q, q ∈ 89 :: k89.E → q ≠ 37 := by
    intro q hq
    have : q = 89 := by simpa [k89, Kd.iso, Kd.pair, Kd.bool, Kd.int, Kd.scalar] using hq
    omega
  refine ⟨A, c', rfl, ?_, ?_⟩
  · exact Kd.R_set (Kd.R_set (Kd.R_set (Kd.R_set (Kd.R_set (Kd.R_set (Kd.R_set R2.out GR.out nq 0 _) k0 nq 1 _) k1 nq 2 _) k2 nq 3 _) k3 nq 4 _) k4 nq 5 _) k5 nq 6 _
  · have b : Below w.heap.size w w2 := (below_alloc (below_alloc (Below.refl _ _) _) _).trans B2.out
    exact ((((((b.setCell (p := ⟨w.heap.size, 0, none⟩) (Nat.le_refl _) _).setCell (p := ⟨w.heap.size, 1, none⟩) (Nat.le_refl _) _).setCell (p := ⟨w.heap.size, 2, none⟩) (Nat.le_refl _) _).setCell (p := ⟨w.heap.size, 3, none⟩) (Nat.le_refl _) _).setCell (p := ⟨w.heap.size, 4, none⟩) (Nat.le_refl _) _).setCell (p := ⟨w.heap.size, 5, none⟩) (Nat.le_refl _) _).setCell (p := ⟨w.heap.size, 6, none⟩) (Nat.le_refl _) _
end Go.Proofs.YtjdpkhnpgdangaaGreatDoor.PQ
