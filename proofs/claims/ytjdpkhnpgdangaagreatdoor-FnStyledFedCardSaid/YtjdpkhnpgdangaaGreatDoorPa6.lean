/- Advance, and how Feed makes its parser. -/
import Derived.Test.YtjdpkhnpgdangaaGreatDoorPa5
namespace Go.Proofs.YtjdpkhnpgdangaaGreatDoor.PQ
open Go.RowKit Go.Proofs.YtjdpkhnpgdangaaGreatDoorW.PrintWords Go.Proofs.YtjdpkhnpgdangaaGreatDoorW.PrintLast Go.Proofs.YtjdpkhnpgdangaaGreatDoorW.PrintMore
set_option linter.unusedVariables false
set_option linter.unusedSimpArgs false
set_option maxRecDepth 100000 in
set_option maxHeartbeats 2000000 in
theorem Advance_calls {B gp gq : Nat} {gd : GX} {gb go : Nat} {qs : List Int} {n cmd st : Int} {evs : List S77} {qs' : List Int} {n' cmd' st' : Int} {evs' : List S77} (w : World) (b : Int) (h : PSt B gp gq gd gb go w qs n cmd st evs) (hs : (st == 14) = false)
    (hc : Calls Tryz.prog 81 #[.pointer (some ⟨gp, 0, none⟩), .int .u8 b] w (APost B gp gq gd gb go w qs' n' cmd' st' evs')) :
    Calls Tryz.prog 35 #[.pointer (some ⟨gp, 0, none⟩), .int .u8 b] w (APost B gp gq gd gb go w qs' n' cmd' st' evs') := by
  have c14 := h.c14
  clear h
  have HC := Aside0.mk hc
  clear hc
  go_enter Tryz.func35, Tryz.ntmps35
  go_wp2_with (go_at_call 81; refine HC.out.mono ?_; rintro e w1 ⟨a, rfl, h1, hb1⟩)
  go_ret
  exact ⟨_, rfl, h1, hb1⟩

theorem info3' : (Tryz.prog.info? 3).map (fun i => (i.zero, i.size, i.bytes)) = some (some (.int .i64 0), 1, 8) := by kernel_rfl
theorem info5' : (Tryz.prog.info? 5).map (fun i => (i.zero, i.size, i.bytes)) = some (some (.int .u8 0), 1, 1) := by kernel_rfl
set_option maxRecDepth 100000 in
set_option maxHeartbeats 2000000 in
theorem SetParamsSize_calls (w : World) (gp : Nat) (cs : Array Value) (v : Value) (m : Nat) (h : w.heap[gp]? = some (.cells cs 134 (0, 0))) (hv : cs[9]? = some v) (hm : m ≤ 100000) :
    Calls Tryz.prog 67 #[.pointer (some ⟨gp, 0, none⟩), .int .i64 m] w (fun e w' => e = .returned (.tuple #[]) ∧ w' = (w.setCell ⟨gp, 9, none⟩ (.slice (some ⟨w.heap.size, 0, none⟩) m m)).alloc (.cells (madeCells #[.int .i64 0] m) 3)) := by
  have c9 : w.cell? ⟨gp, 9, none⟩ = some v := (blk_cell h 9).trans hv
  have f9 : w.frozen? ⟨gp, 9, none⟩ = false := blk_frozen h 9
  have lt := blk_lt h
  have n1 := World.new_ne w _ c9
  clear h hv
  go_enter Tryz.func67, Tryz.ntmps67
  go_wp2_with (refine madeL_ (some 6) rfl rfl rfl Tryz.underlying70 info3' m (by go_simp) (by go_simp) (by omega) (by omega) ?_)
  go_end0
  exact ⟨rfl, rfl⟩
set_option maxRecDepth 100000 in
set_option maxHeartbeats 2000000 in
theorem SetDataSize_calls (w : World) (gp : Nat) (cs : Array Value) (v : Value) (m : Nat) (h : w.heap[gp]? = some (.cells cs 134 (0, 0))) (hv : cs[10]? = some v) (h0 : 0 < m) (hm : m ≤ 100000) :
    Calls Tryz.prog 68 #[.pointer (some ⟨gp, 0, none⟩), .int .i64 m] w (fun e w' => e = .returned (.tuple #[]) ∧ w' = (w.setCell ⟨gp, 10, none⟩ (.slice (some ⟨w.heap.size, 0, none⟩) m m)).alloc (.cells (madeCells #[.int .u8 0] m) 5)) := by
  have c9 : w.cell? ⟨gp, 10, none⟩ = some v := (blk_cell h 10).trans hv
  have f9 : w.frozen? ⟨gp, 10, none⟩ = false := blk_frozen h 10
  have lt := blk_lt h
  have n1 := World.new_ne w _ c9
  have d0 : decide ((m : Int) ≤ 0) = false := decide_eq_false (by omega)
  clear h hv
  go_enter Tryz.func68, Tryz.ntmps68
  go_wp2_with (refine madeL_ (some 11) rfl rfl rfl Tryz.underlying35 info5' m (by go_simp) (by go_simp) (by omega) (by omega) ?_)
  go_end0
  exact ⟨rfl, rfl⟩
/-- The cells of a parser without handlers. -/
def cellsN (A D : Value) : Array Value :=
  #[.nilFunc, .nilFunc, .nilFunc, .nilFunc, .nilFunc, .nilFunc, .nilFunc, .nilFunc, .nilFunc, A, D, .int .i64 0, .int .i64 0, .int .i64 0, .int .u8 0]
set_option maxRecDepth 100000 in
set_option maxHeartbeats 2000000 in
theorem NewParser_calls (w : World) :
    Calls Tryz.prog 66 #[] w (fun e w' => ∃ A D, e = .returned (.pointer (some ⟨w.heap.size, 0, none⟩)) ∧ w'.heap[w.heap.size]? = some (.cells (cellsN A D) 134 (0, 0)) ∧ Below w.heap.size w w') := by
  go_enter Tryz.func66, Tryz.ntmps66
  go_wp2_with (first
    | (go_at_call 67; refine (SetParamsSize_calls _ _ _ _ 32 (blk_new w _) rfl (by decide)).mono ?_; rintro e w2 ⟨rfl, hw2⟩
       have H2 := Aside0.mk (show w2.heap[w.heap.size]? = some (.cells (cellsN (.slice (some ⟨w.heap.size + 1, 0, none⟩) 32 32) (.slice none 0 0)) 134 (0, 0)) by rw [hw2]; refine blk_alloc (blk_put (blk_new w _) 9 _ ?_) _; simp [cellsN])
       have B2 := Aside0.mk (show Below w.heap.size w w2 by rw [hw2]; exact below_alloc ((below_alloc (Below.refl _ _) _).setCell (p := ⟨w.heap.size, 9, none⟩) (Nat.le_refl _) _) _)
       clear hw2)
    | (go_at_call 68; refine (SetDataSize_calls w2 _ _ _ 65536 H2.out rfl (by decide) (by decide)).mono ?_; rintro e w3 ⟨rfl, hw3⟩
       have H3 := Aside0.mk (show w3.heap[w.heap.size]? = some (.cells (cellsN (.slice (some ⟨w.heap.size + 1, 0, none⟩) 32 32) (.slice (some ⟨w2.heap.size, 0, none⟩) 65536 65536)) 134 (0, 0)) by rw [hw3]; exact blk_alloc (blk_put H2.out 10 _ rfl) _)
       have B3 := Aside0.mk (show Below w.heap.size w w3 by rw [hw3]; exact below_alloc (B2.out.setCell (p := ⟨w.heap.size, 10, none⟩) (Nat.le_refl _) _) _)
       clear hw3))
  go_ret
  exact ⟨_, _, rfl, H3.out, B3.out⟩

set_option maxRecDepth 100000 in
set_option maxHeartbeats 2000000 in
theorem newParser_calls (w : World) :
    Calls Tryz.prog 32 #[.int .i64 32, .int .i64 4096] w (fun e w' => ∃ gp gq gd, e = .returned (.pointer (some ⟨gp, 0, none⟩)) ∧ w'.heap[gp]? = some (.cells (cellsN (.slice (some ⟨gq, 0, none⟩) 32 32) (.slice (some ⟨gd, 0, none⟩) 4096 4096)) 134 (0, 0)) ∧
      w'.heap[gq]? = some (.cells (nums .i64 (List.replicate 32 0)).toArray 3 (0, 0)) ∧ w.heap.size ≤ gp ∧ w.heap.size ≤ gq ∧ Below w.heap.size w w') := by
  go_enter Tryz.func32, Tryz.ntmps32
  go_wp2_with (first
    | (go_at_call 66; refine (NewParser_calls w).mono ?_; rintro e w1 ⟨A, D, rfl, h1, b1⟩
       have H1 := Aside0.mk h1; have B1 := Aside0.mk b1
       clear h1 b1)
    | (go_at_call 67; refine (SetParamsSize_calls w1 _ _ _ 32 H1.out rfl (by decide)).mono ?_; rintro e w2 ⟨rfl, hw2⟩
       have H2 := Aside0.mk (show w2.heap[w.heap.size]? = some (.cells (cellsN (.slice (some ⟨w1.heap.size, 0, none⟩) 32 32) D) 134 (0, 0)) by rw [hw2]; exact blk_alloc (blk_put H1.out 9 _ rfl) _)
       have Q2 := Aside0.mk (show w2.heap[w1.heap.size]? = some (.cells (nums .i64 (List.replicate 32 0)).toArray 3 (0, 0)) by rw [hw2, show madeCells #[Value.int IntKind.i64 0] 32 = (nums .i64 (List.replicate 32 0)).toArray from made_nums .i64 32]; simpa using heap_alloc_new (w1.setCell ⟨w.heap.size, 9, none⟩ (.slice (some ⟨w1.heap.size, 0, none⟩) 32 32)) (.cells (nums .i64 (List.replicate 32 0)).toArray 3))
       have B2 := Aside0.mk (show Below w.heap.size w w2 by rw [hw2]; exact below_alloc (B1.out.setCell (p := ⟨w.heap.size, 9, none⟩) (Nat.le_refl _) _) _)
       clear hw2)
    | (go_at_call 68; refine (SetDataSize_calls w2 _ _ _ 4096 H2.out rfl (by decide) (by decide)).mono ?_; rintro e w3 ⟨rfl, hw3⟩
       have H3 := Aside0.mk (show w3.heap[w.heap.size]? = some (.cells (cellsN (.slice (some ⟨w1.heap.size, 0, none⟩) 32 32) (.slice (some ⟨w2.heap.size, 0, none⟩) 4096 4096)) 134 (0, 0)) by rw [hw3]; exact blk_alloc (blk_put H2.out 10 _ rfl) _)
       have Q3 := Aside0.mk (show w3.heap[w1.heap.size]? = some (.cells (nums .i64 (List.replicate 32 0)).toArray 3 (0, 0)) by rw [hw3]; exact blk_alloc (blk_far Q2.out (p := ⟨w.heap.size, 10, none⟩) (by have := blk_lt H1.out; show w1.heap.size ≠ w.heap.size; omega) _) _)
       have B3 := Aside0.mk (show Below w.heap.size w w3 by rw [hw3]; exact below_alloc (B2.out.setCell (p := ⟨w.heap.size, 10, none⟩) (Nat.le_refl _) _) _)
       clear hw3))
  go_ret
  exact ⟨_, _, _, rfl, H3.out, Q3.out, Nat.le_refl _, B1.out.size, B3.out⟩
theorem sc_size (W : World) (p : Addr) (u : Value) : (W.setCell p u).heap.size = W.heap.size := by simp [World.setCell]
/-- The nine handlers. -/
def hcells (gb : Nat) : Array Value :=
  #[.func (.func 70) #[] #[.pointer (some ⟨gb, 0, none⟩)], .func (.func 71) #[] #[.pointer (some ⟨gb, 0, none⟩)], .func (.func 72) #[] #[.pointer (some ⟨gb, 0, none⟩)],
    .func (.func 74) #[] #[.pointer (some ⟨gb, 0, none⟩)], .func (.func 75) #[] #[.pointer (some ⟨gb, 0, none⟩)], .func (.func 76) #[] #[.pointer (some ⟨gb, 0, none⟩)],
    .func (.func 77) #[] #[.pointer (some ⟨gb, 0, none⟩)], .func (.func 78) #[] #[.pointer (some ⟨gb, 0, none⟩)], .func (.func 79) #[] #[.pointer (some ⟨gb, 0, none⟩)]]
set_option maxRecDepth 100000 in
set_option maxHeartbeats 2000000 in
theorem SetHandler_calls {B gp gb gq gd : Nat} (w : World) (h : w.heap[gp]? = some (.cells (cellsN (.slice (some ⟨gq, 0, none⟩) 32 32) (.slice (some ⟨gd, 0, none⟩) 4096 4096)) 134 (0, 0))) (hB : B ≤ gp) :
    Calls Tryz.prog 69 #[.pointer (some ⟨gp, 0, none⟩), .agg (hcells gb)] w (fun e w' => e = .returned (.tuple #[]) ∧ w'.heap[gp]? = some (.cells (pcells gb gq gd 0 0 0) 134 (0, 0)) ∧ Below B w w' ∧ ∀ k, k < w.heap.size → k ≠ gp → w'.heap[k]? = w.heap[k]?) := by
  have lt := blk_lt h
  have c0 : w.cell? ⟨gp, 0, none⟩ = some .nilFunc := (blk_cell h 0).trans rfl
  have f0 := blk_frozen h 0
  have c1 : w.cell? ⟨gp, 1, none⟩ = some .nilFunc := (blk_cell h 1).trans rfl
  have f1 := blk_frozen h 1
  have c2 : w.cell? ⟨gp, 2, none⟩ = some .nilFunc := (blk_cell h 2).trans rfl
  have f2 := blk_frozen h 2
  have c3 : w.cell? ⟨gp, 3, none⟩ = some .nilFunc := (blk_cell h 3).trans rfl
  have f3 := blk_frozen h 3
  have c4 : w.cell? ⟨gp, 4, none⟩ = some .nilFunc := (blk_cell h 4).trans rfl
  have f4 := blk_frozen h 4
  have c5 : w.cell? ⟨gp, 5, none⟩ = some .nilFunc := (blk_cell h 5).trans rfl
  have f5 := blk_frozen h 5
  have c6 : w.cell? ⟨gp, 6, none⟩ = some .nilFunc := (blk_cell h 6).trans rfl
  have f6 := blk_frozen h 6
  have c7 : w.cell? ⟨gp, 7, none⟩ = some .nilFunc := (blk_cell h 7).trans rfl
  have f7 := blk_frozen h 7
  have c8 : w.cell? ⟨gp, 8, none⟩ = some .nilFunc := (blk_cell h 8).trans rfl
  have f8 := blk_frozen h 8
  have n1 := World.new_ne w _ c0
  have H := Aside0.mk h
  have HB := Aside0.mk hB
  clear h hB
  unfold hcells
  go_enter Tryz.func69, Tryz.ntmps69
  go_wp2_with fail
  go_end0
  have k0 := blk_put H.out 0 (.func (.func 70) #[] #[.pointer (some ⟨gb, 0, none⟩)]) (cs' := #[.func (.func 70) #[] #[.pointer (some ⟨gb, 0, none⟩)], .nilFunc, .nilFunc, .nilFunc, .nilFunc, .nilFunc, .nilFunc, .nilFunc, .nilFunc, .slice (some ⟨gq, 0, none⟩) 32 32, .slice (some ⟨gd, 0, none⟩) 4096 4096, .int .i64 0, .int .i64 0, .int .i64 0, .int .u8 0]) rfl
  have k1 := blk_put k0 1 (.func (.func 71) #[] #[.pointer (some ⟨gb, 0, none⟩)]) (cs' := #[.func (.func 70) #[] #[.pointer (some ⟨gb, 0, none⟩)], .func (.func 71) #[] #[.pointer (some ⟨gb, 0, none⟩)], .nilFunc, .nilFunc, .nilFunc, .nilFunc, .nilFunc, .nilFunc, .nilFunc, .slice (some ⟨gq, 0, none⟩) 32 32, .slice (some ⟨gd, 0, none⟩) 4096 4096, .int .i64 0, .int .i64 0, .int .i64 0, .int .u8 0]) rfl
  have k2 := blk_put k1 2 (.func (.func 72) #[] #[.pointer (some ⟨gb, 0, none⟩)]) (cs' := #[.func (.func 70) #[] #[.pointer (some ⟨gb, 0, none⟩)], .func (.func 71) #[] #[.pointer (some ⟨gb, 0, none⟩)], .func (.func 72) #[] #[.pointer (some ⟨gb, 0, none⟩)], .nilFunc, .nilFunc, .nilFunc, .nilFunc, .nilFunc, .nilFunc, .slice (some ⟨gq, 0, none⟩) 32 32, .slice (some ⟨gd, 0, none⟩) 4096 4096, .int .i64 0, .int .i64 0, .int .i64 0, .int .u8 0]) rfl
  have k3 := blk_put k2 3 (.func (.func 74) #[] #[.pointer (some ⟨gb, 0, none⟩)]) (cs' := #[.func (.func 70) #[] #[.pointer (some ⟨gb, 0, none⟩)], .func (.func 71) #[] #[.pointer (some ⟨gb, 0, none⟩)], .func (.func 72) #[] #[.pointer (some ⟨gb, 0, none⟩)], .func (.func 74) #[] #[.pointer (some ⟨gb, 0, none⟩)], .nilFunc, .nilFunc, .nilFunc, .nilFunc, .nilFunc, .slice (some ⟨gq, 0, none⟩) 32 32, .slice (some ⟨gd, 0, none⟩) 4096 4096, .int .i64 0, .int .i64 0, .int .i64 0, .int .u8 0]) rfl
  have k4 := blk_put k3 4 (.func (.func 75) #[] #[.pointer (some ⟨gb, 0, none⟩)]) (cs' := #[.func (.func 70) #[] #[.pointer (some ⟨gb, 0, none⟩)], .func (.func 71) #[] #[.pointer (some ⟨gb, 0, none⟩)], .func (.func 72) #[] #[.pointer (some ⟨gb, 0, none⟩)], .func (.func 74) #[] #[.pointer (some ⟨gb, 0, none⟩)], .func (.func 75) #[] #[.pointer (some ⟨gb, 0, none⟩)], .nilFunc, .nilFunc, .nilFunc, .nilFunc, .slice (some ⟨gq, 0, none⟩) 32 32, .slice (some ⟨gd, 0, none⟩) 4096 4096, .int .i64 0, .int .i64 0, .int .i64 0, .int .u8 0]) rfl
  have k5 := blk_put k4 5 (.func (.func 76) #[] #[.pointer (some ⟨gb, 0, none⟩)]) (cs' := #[.func (.func 70) #[] #[.pointer (some ⟨gb, 0, none⟩)], .func (.func 71) #[] #[.pointer (some ⟨gb, 0, none⟩)], .func (.func 72) #[] #[.pointer (some ⟨gb, 0, none⟩)], .func (.func 74) #[] #[.pointer (some ⟨gb, 0, none⟩)], .func (.func 75) #[] #[.pointer (some ⟨gb, 0, none⟩)], .func (.func 76) #[] #[.pointer (some ⟨gb, 0, none⟩)], .nilFunc, .nilFunc, .nilFunc, .slice (some ⟨gq, 0, none⟩) 32 32, .slice (some ⟨gd, 0, none⟩) 4096 4096, .int .i64 0, .int .i64 0, .int .i64 0, .int .u8 0]) rfl
  have k6 := blk_put k5 6 (.func (.func 77) #[] #[.pointer (some ⟨gb, 0, none⟩)]) (cs' := #[.func (.func 70) #[] #[.pointer (some ⟨gb, 0, none⟩)], .func (.func 71) #[] #[.pointer (some ⟨gb, 0, none⟩)], .func (.func 72) #[] #[.pointer (some ⟨gb, 0, none⟩)], .func (.func 74) #[] #[.pointer (some ⟨gb, 0, none⟩)], .func (.func 75) #[] #[.pointer (some ⟨gb, 0, none⟩)], .func (.func 76) #[] #[.pointer (some ⟨gb, 0, none⟩)], .func (.func 77) #[] #[.pointer (some ⟨gb, 0, none⟩)], .nilFunc, .nilFunc, .slice (some ⟨gq, 0, none⟩) 32 32, .slice (some ⟨gd, 0, none⟩) 4096 4096, .int .i64 0, .int .i64 0, .int .i64 0, .int .u8 0]) rfl
  have k7 := blk_put k6 7 (.func (.func 78) #[] #[.pointer (some ⟨gb, 0, none⟩)]) (cs' := #[.func (.func 70) #[] #[.pointer (some ⟨gb, 0, none⟩)], .func (.func 71) #[] #[.pointer (some ⟨gb, 0, none⟩)], .func (.func 72) #[] #[.pointer (some ⟨gb, 0, none⟩)], .func (.func 74) #[] #[.pointer (some ⟨gb, 0, none⟩)], .func (.func 75) #[] #[.pointer (some ⟨gb, 0, none⟩)], .func (.func 76) #[] #[.pointer (some ⟨gb, 0, none⟩)], .func (.func 77) #[] #[.pointer (some ⟨gb, 0, none⟩)], .func (.func 78) #[] #[.pointer (some ⟨gb, 0, none⟩)], .nilFunc, .slice (some ⟨gq, 0, none⟩) 32 32, .slice (some ⟨gd, 0, none⟩) 4096 4096, .int .i64 0, .int .i64 0, .int .i64 0, .int .u8 0]) rfl
  have k8 := blk_put k7 8 (.func (.func 79) #[] #[.pointer (some ⟨gb, 0, none⟩)]) (cs' := #[.func (.func 70) #[] #[.pointer (some ⟨gb, 0, none⟩)], .func (.func 71) #[] #[.pointer (some ⟨gb, 0, none⟩)], .func (.func 72) #[] #[.pointer (some ⟨gb, 0, none⟩)], .func (.func 74) #[] #[.pointer (some ⟨gb, 0, none⟩)], .func (.func 75) #[] #[.pointer (some ⟨gb, 0, none⟩)], .func (.func 76) #[] #[.pointer (some ⟨gb, 0, none⟩)], .func (.func 77) #[] #[.pointer (some ⟨gb, 0, none⟩)], .func (.func 78) #[] #[.pointer (some ⟨gb, 0, none⟩)], .func (.func 79) #[] #[.pointer (some ⟨gb, 0, none⟩)], .slice (some ⟨gq, 0, none⟩) 32 32, .slice (some ⟨gd, 0, none⟩) 4096 4096, .int .i64 0, .int .i64 0, .int .i64 0, .int .u8 0]) rfl
  refine ⟨rfl, ?_, ?_, ?_⟩
  · exact blk_alloc k8 _
  · exact Below.alloc (Below.setCell (Below.setCell (Below.setCell (Below.setCell (Below.setCell (Below.setCell (Below.setCell (Below.setCell (Below.setCell (Below.refl _ _) (p := ⟨gp, 0, none⟩) HB.out _) (p := ⟨gp, 1, none⟩) HB.out _) (p := ⟨gp, 2, none⟩) HB.out _) (p := ⟨gp, 3, none⟩) HB.out _) (p := ⟨gp, 4, none⟩) HB.out _) (p := ⟨gp, 5, none⟩) HB.out _) (p := ⟨gp, 6, none⟩) HB.out _) (p := ⟨gp, 7, none⟩) HB.out _) (p := ⟨gp, 8, none⟩) HB.out _) (by have := HB.out; simp only [sc_size]; omega) _
  · intro k hk hne
    refine (Below.heap_alloc _ _ k (by simpa using hk)).trans ?_
    repeat rw [Below.heap_setCell _ _ _ k (show k ≠ gp from hne)]

set_option maxRecDepth 100000 in
set_option maxHeartbeats 2000000 in
theorem listen_calls {B gp gq gd go : Nat} (w : World) (h : w.heap[gp]? = some (.cells (cellsN (.slice (some ⟨gq, 0, none⟩) 32 32) (.slice (some ⟨gd, 0, none⟩) 4096 4096)) 134 (0, 0))) (hq : w.heap[gq]? = some (.cells (nums .i64 (List.replicate 32 0)).toArray 3 (0, 0))) (ho : w.heap[go]? = some (.cells #[.slice none 0 0] 44 (0, 0)))
    (hB : B ≤ gp) (hBq : B ≤ gq) (hBo : B ≤ go) :
    Calls Tryz.prog 33 #[.pointer (some ⟨gp, 0, none⟩), .pointer (some ⟨go, 0, none⟩)] w (fun e w' => e = .returned (.tuple #[]) ∧ ∃ gb, PSt B gp gq ⟨gd, fun _ _ => False⟩ gb go w' (List.replicate 32 0) 0 0 0 [] ∧ Below B w w') := by
  have lt := blk_lt h
  have H := Aside0.mk h
  have HQ := Aside0.mk hq
  have HO := Aside0.mk ho
  have HB := Aside0.mk hB
  have hmf : ∀ (fn : Fn) (first cap : Array Value) (w : World), (Instr.makeFunc fn first cap).run Tryz.prog w = .ok (.func fn first cap) w := fun _ _ _ _ => rfl
  clear h hq ho hB
  go_enter Tryz.func33, Tryz.ntmps33
  go_wp2_with (go_at_call 69; refine (SetHandler_calls (B := B) (gq := gq) (gd := gd) (gp := gp) (gb := w.heap.size) _ (blk_alloc H.out _) HB.out).mono ?_; rintro e w1 ⟨rfl, h1, b1, k1⟩; have H1 := Aside0.mk h1; have B1 := Aside0.mk b1; have K1 := Aside0.mk k1; clear h1 b1 k1)
  go_end0
  have lw : B ≤ w.heap.size := by have := HB.out; omega
  have lq := blk_lt HQ.out
  have lo := blk_lt HO.out
  have nq : gq ≠ gp := blk_ne HQ.out H.out (by decide)
  have no : go ≠ gp := blk_ne HO.out H.out (by decide)
  refine ⟨rfl, w.heap.size, ⟨H1.out, ?_, rfl, ?_, ⟨.slice none 0 0, ?_, Kd.R_nil _ _ _ _ _⟩, fun _ _ h => h.elim, HB.out, hBq, lw, hBo⟩, (Below.alloc (Below.refl _ _) lw _).trans B1.out⟩
  · exact (K1.out gq (by simp; omega) nq).trans (blk_alloc HQ.out _)
  · exact (K1.out w.heap.size (by simp) (by omega)).trans (heap_alloc_new _ _)
  · exact (K1.out go (by simp; omega) no).trans (blk_alloc HO.out _)
end Go.Proofs.YtjdpkhnpgdangaaGreatDoor.PQ
