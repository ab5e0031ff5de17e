/- The parser's state in memory (its block, its parameters' block, the handlers' box, the list of events), and what a store does to it; clear and the table's Transition. No condition but those stated. -/
import Derived.Test.YtjdpkhnpgdangaaGreatDoorPQx0
import Derived.Laws.EntriesVeiled
import Derived.WalkLawsBesides
namespace Go.Proofs.YtjdpkhnpgdangaaGreatDoor.PQ
open Go.RowKit Go.Proofs.YtjdpkhnpgdangaaGreatDoorW.PrintWords Go.Proofs.YtjdpkhnpgdangaaGreatDoorW.PrintLast Go.Proofs.YtjdpkhnpgdangaaGreatDoorW.PrintMore
set_option linter.unusedVariables false

/-- The cells of a parser with its nine handlers. -/
def pcells (gb gq gd : Nat) (n cmd st : Int) : Array Value :=
  #[.func (.func 70) #[] #[.pointer (some ⟨gb, 0, none⟩)], .func (.func 71) #[] #[.pointer (some ⟨gb, 0, none⟩)], .func (.func 72) #[] #[.pointer (some ⟨gb, 0, none⟩)],
    .func (.func 74) #[] #[.pointer (some ⟨gb, 0, none⟩)], .func (.func 75) #[] #[.pointer (some ⟨gb, 0, none⟩)], .func (.func 76) #[] #[.pointer (some ⟨gb, 0, none⟩)],
    .func (.func 77) #[] #[.pointer (some ⟨gb, 0, none⟩)], .func (.func 78) #[] #[.pointer (some ⟨gb, 0, none⟩)], .func (.func 79) #[] #[.pointer (some ⟨gb, 0, none⟩)],
    .slice (some ⟨gq, 0, none⟩) 32 32, .slice (some ⟨gd, 0, none⟩) 4096 4096, .int .i64 0, .int .i64 n, .int .i64 cmd, .int .u8 st]

/-- The data's block, and rows of bytes (type 5) that no step changes. -/
structure GX where
  d : Nat
  X : Nat → Array Value → Prop

/-- The parser at block gp: parameters qs (block gq) of which n are counted, command cmd, state st; what was told so far: evs. All of it lies from block B on. -/
structure PSt (B gp gq : Nat) (gd : GX) (gb go : Nat) (w : World) (qs : List Int) (n cmd st : Int) (evs : List S77) : Prop where
  p : w.heap[gp]? = some (.cells (pcells gb gq gd.d n cmd st) 134 (0, 0))
  q : w.heap[gq]? = some (.cells (nums .i64 qs).toArray 3 (0, 0))
  ql : qs.length = 32
  b : w.heap[gb]? = some (.cells #[.pointer (some ⟨go, 0, none⟩)] 81 (0, 0))
  o : ∃ v, w.heap[go]? = some (.cells #[v] 44 (0, 0)) ∧ Kd.R k77 77 w B (fun _ => True) v evs
  x : ∀ k cs, gd.X k cs → w.heap[k]? = some (.cells cs 5 (0, 0))
  geP : B ≤ gp
  geQ : B ≤ gq
  geB : B ≤ gb
  geO : B ≤ go

section
variable {B gp gq : Nat} {gd : GX} {gb go : Nat} {w w1 : World} {qs : List Int} {n cmd st : Int} {evs : List S77}
theorem PSt.neQ (h : PSt B gp gq gd gb go w qs n cmd st evs) : gp ≠ gq := blk_ne h.p h.q (by decide)
theorem PSt.neB (h : PSt B gp gq gd gb go w qs n cmd st evs) : gp ≠ gb := blk_ne h.p h.b (by decide)
theorem PSt.neQB (h : PSt B gp gq gd gb go w qs n cmd st evs) : gq ≠ gb := blk_ne h.q h.b (by decide)
theorem PSt.neO (h : PSt B gp gq gd gb go w qs n cmd st evs) : gp ≠ go := by obtain ⟨v, ho, _⟩ := h.o; exact blk_ne h.p ho (by decide)
theorem PSt.neQO (h : PSt B gp gq gd gb go w qs n cmd st evs) : gq ≠ go := by obtain ⟨v, ho, _⟩ := h.o; exact blk_ne h.q ho (by decide)
theorem PSt.neBO (h : PSt B gp gq gd gb go w qs n cmd st evs) : gb ≠ go := by obtain ⟨v, ho, _⟩ := h.o; exact blk_ne h.b ho (by decide)
theorem types77 (t : Nat) (h1 : t ≠ 77) (h2 : t ≠ 2) (h3 : t ≠ 5) : ∀ q, q ∈ 77 :: k77.E → q ≠ t := by
  intro q hq
  have : q = 77 ∨ q = 2 ∨ q = 5 := by simpa [k77, Kd.iso, Kd.pair, Kd.slice, Kd.int, Kd.scalar] using hq
  omega

/-- A store into the parser's own block. -/
theorem PSt.putP (h : PSt B gp gq gd gb go w qs n cmd st evs) (j : Nat) (u : Value) {n' cmd' st' : Int} (e : (pcells gb gq gd.d n cmd st).setIfInBounds j u = pcells gb gq gd.d n' cmd' st') :
    PSt B gp gq gd gb go (w.setCell ⟨gp, j, none⟩ u) qs n' cmd' st' evs := by
  obtain ⟨v, ho, hr⟩ := h.o
  exact ⟨blk_put h.p j u e, blk_far h.q (Ne.symm h.neQ) u, h.ql, blk_far h.b (Ne.symm h.neB) u, ⟨v, blk_far ho (Ne.symm h.neO) u, Kd.R_set hr h.p (types77 134 (by decide) (by decide) (by decide)) j u⟩, fun k cs hk => blk_far (h.x k cs hk) (blk_ne (h.x k cs hk) h.p (by decide)) u, h.geP, h.geQ, h.geB, h.geO⟩
theorem PSt.setN (h : PSt B gp gq gd gb go w qs n cmd st evs) (x : Int) : PSt B gp gq gd gb go (w.setCell ⟨gp, 12, none⟩ (.int .i64 x)) qs x cmd st evs := h.putP 12 _ rfl
theorem PSt.setC (h : PSt B gp gq gd gb go w qs n cmd st evs) (x : Int) : PSt B gp gq gd gb go (w.setCell ⟨gp, 13, none⟩ (.int .i64 x)) qs n x st evs := h.putP 13 _ rfl
theorem PSt.setS (h : PSt B gp gq gd gb go w qs n cmd st evs) (x : Int) : PSt B gp gq gd gb go (w.setCell ⟨gp, 14, none⟩ (.int .u8 x)) qs n cmd x evs := h.putP 14 _ rfl
theorem nums_set (k : IntKind) (qs : List Int) (i : Nat) (x : Int) : (nums k qs).toArray.setIfInBounds i (.int k x) = (nums k (qs.set i x)).toArray := by
  simp [nums, List.map_set]
/-- A store into a parameter. -/
theorem PSt.setQ (h : PSt B gp gq gd gb go w qs n cmd st evs) (i : Nat) (x : Int) : PSt B gp gq gd gb go (w.setCell ⟨gq, i, none⟩ (.int .i64 x)) (qs.set i x) n cmd st evs := by
  obtain ⟨v, ho, hr⟩ := h.o
  exact ⟨blk_far h.p h.neQ _, blk_put h.q i _ (nums_set .i64 qs i x), by rw [List.length_set]; exact h.ql, blk_far h.b (Ne.symm h.neQB) _, ⟨v, blk_far ho (Ne.symm h.neQO) _, Kd.R_set hr h.q (types77 3 (by decide) (by decide) (by decide)) i _⟩, fun k cs hk => blk_far (h.x k cs hk) (blk_ne (h.x k cs hk) h.q (by decide)) _, h.geP, h.geQ, h.geB, h.geO⟩
/-- Draws, new blocks: what lies there stays. -/
theorem PSt.below (h : PSt B gp gq gd gb go w qs n cmd st evs) (hb : Below w.heap.size w w1) : PSt B gp gq gd gb go w1 qs n cmd st evs := by
  obtain ⟨v, ho, hr⟩ := h.o
  exact ⟨blk_below h.p hb, blk_below h.q hb, h.ql, blk_below h.b hb, ⟨v, blk_below ho hb, Kd.R_below hr hb⟩, fun k cs hk => blk_below (h.x k cs hk) hb, h.geP, h.geQ, h.geB, h.geO⟩
theorem PSt.drewN (h : PSt B gp gq gd gb go w qs n cmd st evs) (m : Nat) : PSt B gp gq gd gb go (w.drewN m) qs n cmd st evs := h.below (pw_below_drewN (Below.refl _ _) m)
theorem PSt.drew (h : PSt B gp gq gd gb go w qs n cmd st evs) : PSt B gp gq gd gb go w.drew qs n cmd st evs := h.below (below_drew (Below.refl _ _))
theorem PSt.alloc (h : PSt B gp gq gd gb go w qs n cmd st evs) (x : Obj) : PSt B gp gq gd gb go (w.alloc x) qs n cmd st evs := h.below (below_alloc (Below.refl _ _) x)
theorem PSt.size (h : PSt B gp gq gd gb go w qs n cmd st evs) : B ≤ w.heap.size := by have := blk_lt h.p; have := h.geP; omega

/-- What the walks read. -/
theorem PSt.c0 (h : PSt B gp gq gd gb go w qs n cmd st evs) : w.cell? ⟨gp, 0, none⟩ = some (.func (.func 70) #[] #[.pointer (some ⟨gb, 0, none⟩)]) := (blk_cell h.p 0).trans rfl
theorem PSt.c2 (h : PSt B gp gq gd gb go w qs n cmd st evs) : w.cell? ⟨gp, 2, none⟩ = some (.func (.func 72) #[] #[.pointer (some ⟨gb, 0, none⟩)]) := (blk_cell h.p 2).trans rfl
theorem PSt.c9 (h : PSt B gp gq gd gb go w qs n cmd st evs) : w.cell? ⟨gp, 9, none⟩ = some (.slice (some ⟨gq, 0, none⟩) 32 32) := (blk_cell h.p 9).trans rfl
theorem PSt.c10 (h : PSt B gp gq gd gb go w qs n cmd st evs) : w.cell? ⟨gp, 10, none⟩ = some (.slice (some ⟨gd.d, 0, none⟩) 4096 4096) := (blk_cell h.p 10).trans rfl
theorem PSt.c11 (h : PSt B gp gq gd gb go w qs n cmd st evs) : w.cell? ⟨gp, 11, none⟩ = some (.int .i64 0) := (blk_cell h.p 11).trans rfl
theorem PSt.c12 (h : PSt B gp gq gd gb go w qs n cmd st evs) : w.cell? ⟨gp, 12, none⟩ = some (.int .i64 n) := (blk_cell h.p 12).trans rfl
theorem PSt.c13 (h : PSt B gp gq gd gb go w qs n cmd st evs) : w.cell? ⟨gp, 13, none⟩ = some (.int .i64 cmd) := (blk_cell h.p 13).trans rfl
theorem PSt.c14 (h : PSt B gp gq gd gb go w qs n cmd st evs) : w.cell? ⟨gp, 14, none⟩ = some (.int .u8 st) := (blk_cell h.p 14).trans rfl
theorem PSt.cq (h : PSt B gp gq gd gb go w qs n cmd st evs) (i : Nat) (hi : i < 32) : w.cell? ⟨gq, i, none⟩ = some (.int .i64 (qs.getD i 0)) := by
  rw [blk_cell h.q i]
  have hl : i < qs.length := by rw [h.ql]; exact hi
  simp [nums, List.getD_eq_getElem?_getD, List.getElem?_eq_getElem hl]
theorem PSt.fp (h : PSt B gp gq gd gb go w qs n cmd st evs) (j : Nat) : w.frozen? ⟨gp, j, none⟩ = false := blk_frozen h.p j
theorem PSt.fq (h : PSt B gp gq gd gb go w qs n cmd st evs) (j : Nat) : w.frozen? ⟨gq, j, none⟩ = false := blk_frozen h.q j
end

/-- How a call that does something to the parser ends. -/
def PPost (B gp gq : Nat) (gd : GX) (gb go : Nat) (w : World) (qs : List Int) (n cmd st : Int) (evs : List S77) (e : Ending) (w' : World) : Prop :=
  e = .returned (.tuple #[]) ∧ PSt B gp gq gd gb go w' qs n cmd st evs ∧ Below B w w'

set_option maxRecDepth 100000 in
theorem clear_calls {B gp gq : Nat} {gd : GX} {gb go : Nat} {qs : List Int} {n cmd st : Int} {evs : List S77} (w : World) (h : PSt B gp gq gd gb go w qs n cmd st evs) :
    Calls Tryz.prog 105 #[.pointer (some ⟨gp, 0, none⟩)] w (PPost B gp gq gd gb go w (qs.set 0 2147483647) 0 0 st evs) := by
  have H := Aside0.mk h
  have c9 := h.c9; have c12 := h.c12; have c13 := h.c13; have q0 := h.cq 0 (by omega)
  have f12 := h.fp 12; have f13 := h.fp 13; have fq := h.fq 0
  have ne := h.neQ
  have ne' := Ne.symm ne
  clear h
  go_enter Tryz.func105, Tryz.ntmps105
  go_wp2
  go_end0
  exact ⟨rfl, ((H.out.setQ 0 2147483647).setN 0).setC 0, (((Below.refl _ _).setCell (p := ⟨gq, 0, none⟩) H.out.geQ _).setCell (p := ⟨gp, 12, none⟩) H.out.geP _).setCell (p := ⟨gp, 13, none⟩) H.out.geP _⟩
end Go.Proofs.YtjdpkhnpgdangaaGreatDoor.PQ
