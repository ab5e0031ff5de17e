/- The table's Transition, the table, and Params. -/
import Derived.Test.YtjdpkhnpgdangaaGreatDoorPa1
namespace Go.Proofs.YtjdpkhnpgdangaaGreatDoor.PQ
open Go.RowKit Go.Proofs.YtjdpkhnpgdangaaGreatDoorW.PrintWords Go.Proofs.YtjdpkhnpgdangaaGreatDoorW.PrintLast Go.Proofs.YtjdpkhnpgdangaaGreatDoorW.PrintMore
set_option linter.unusedVariables false
set_option linter.unusedSimpArgs false

set_option maxRecDepth 100000 in
set_option maxHeartbeats 2000000 in
theorem Table_calls (w : World) : Calls Tryz.prog 95 #[] w (fun e w' => e = .returned (.agg #[]) ∧ Below w.heap.size w w') := by
  go_enter Tryz.func95, Tryz.ntmps95
  go_wp2
  refine bodyPost_ret (results_cell_row rfl _ _ w.heap.size 153 #[] (0, 0) _ (by rfl) (heap_alloc_new _ _) Tryz.underlying153 (by rfl) (by kernel_rfl)) rfl ?_
  exact ⟨rfl, below_alloc (Below.refl _ _) _⟩

/-- The steps of the table that a styled text takes. -/
def tdom (s b : Nat) : Bool := (s == 0 && (b == 27 || (32 ≤ b && b < 127))) || (s == 8 && b == 91) || ((s == 1 || s == 3) && (b == 109 || b == 59 || (48 ≤ b && b ≤ 57)))
def tz (s b : Nat) : Nat := if s = 0 then (if b = 27 then 24 else 144) else if s = 8 then 17 else if b = 109 then 64 else 131
def tchk (T : ByteArray) : Bool := (List.range 9).all fun s => (List.range 127).all fun b => !tdom s b || (T[s * 256 + b]?.map UInt8.toNat == some (tz s b))
theorem tchk_at {T : ByteArray} (h : tchk T = true) {s b : Nat} (hd : tdom s b = true) : ∃ x, T[s * 256 + b]? = some x ∧ (x.toNat : Int) = tz s b := by
  have hs : s < 9 ∧ b < 127 := by
    simp only [tdom, Bool.or_eq_true, Bool.and_eq_true, beq_iff_eq, decide_eq_true_eq] at hd
    omega
  have h1 := List.all_eq_true.1 h s (List.mem_range.2 hs.1)
  have h2 := List.all_eq_true.1 h1 b (List.mem_range.2 hs.2)
  rw [hd] at h2
  simp only [Bool.not_true, Bool.false_or, beq_iff_eq, Option.map_eq_some_iff] at h2
  obtain ⟨x, hx, e⟩ := h2
  exact ⟨x, hx, by rw [e]⟩

section
variable {P : Program} {ops : Array Oper} {Q : Exit → Act → World → Prop}
theorem indexL_ {rest : List Oper} {oi : Oper} {a : Act} {w : World} (N : Option Tmp) (hd : oi.dst = N) (hg : oi.guard = none) {t : TypeId} {x : Operand} (T : ByteArray) (hop : oi.op = .index t (.const (.string T)) x) (ht : P.underlying t = some .string) (hc : tchk T = true) (s b : Nat) (hsb : tdom s b = true) (z : Nat) (hz : tz s b = z) (hx : a.eval x = .int .i64 ((s * 256 + b : Nat) : Int))
    (h : wpList P ops Q rest (a.put N (.int .u8 (z : Int))) w) : wpList P ops Q (oi :: rest) a w := by
  refine wpList_plain hg fun K hK => ?_
  obtain ⟨b, hb, hz'⟩ := tchk_at hc hsb
  rw [hz] at hz'
  rw [← hz'] at h
  clear hz hz' hsb hc
  generalize s * 256 + _ = i at hx hb
  have hrun : (execOp a.eval oi).run P w = .ok (.value (.int .u8 b.toNat)) w := by
    unfold execOp
    have hc : a.eval (.const (.string T)) = .string T := rfl
    simp [hop, hx, hc, Instr.index, asIntOf, run_underlying ht]
    split
    · rename_i b' hb'
      rw [hb] at hb'
      cases hb'
      simp
    · rename_i hb'
      rw [hb] at hb'
      cases hb'
  unfold Oper.wp
  rw [hrun]
  subst hd
  exact hK _ _ h
end

theorem tor : ∀ s : Nat, s < 9 → ∀ b : Nat, b < 127 → bits .or .i64 ((s : Int) * 256) (b : Int) = ((s * 256 + b : Nat) : Int) := by decide +kernel
theorem tand : ∀ z : Nat, z < 256 → bits .and .u8 (z : Int) 15 = ((z % 16 : Nat) : Int) := by decide +kernel
theorem tz_lt (s b : Nat) : tz s b < 256 := by unfold tz; split <;> split <;> (try split) <;> omega
set_option maxRecDepth 100000 in
set_option maxHeartbeats 2000000 in
theorem Transition_calls (s b : Nat) (w : World) (hd : tdom s b = true) : Calls Tryz.prog 96 #[.agg #[], .int .u8 s, .int .u8 b] w (fun e w' => e = .returned (.tuple #[.int .u8 ((tz s b % 16 : Nat) : Int), .int .u8 ((tz s b / 16 : Nat) : Int)]) ∧ Below w.heap.size w w') := by
  have hb : s < 9 ∧ b < 127 := by
    simp only [tdom, Bool.or_eq_true, Bool.and_eq_true, beq_iff_eq, decide_eq_true_eq] at hd
    omega
  have h1 := tor s hb.1 b hb.2
  have h2 := tand (tz s b) (tz_lt s b)
  have h3 := tz_lt s b
  generalize hz : tz s b = z at h2 h3
  have h4 : IntKind.i64.wrap (s : Int) = s := by rw [IntKind.wrap_i64]; omega
  have h5 : IntKind.i64.wrap (b : Int) = b := by rw [IntKind.wrap_i64]; omega
  have h6 : IntKind.i64.wrap ((s : Int) * 256) = (s : Int) * 256 := by rw [IntKind.wrap_i64]; omega
  have H := Aside0.mk hd
  have HZ := Aside0.mk hz
  clear hd hz
  go_enter Tryz.func96, Tryz.ntmps96
  go_wp2_with (refine indexL_ (some 17) (by rfl) rfl _ rfl Tryz.underlying9 (by kernel_rfl) s b H.out z HZ.out (by go_simp) ?_)
  go_ret2
  exact ⟨by simp, below_alloc (Below.refl _ _) _⟩


section
variable {P : Program} {ops : Array Oper} {Q : Exit → Act → World → Prop}
theorem madeL_ {rest : List Oper} {oi : Oper} {a : Act} {w : World} (N : Option Tmp) (hd : oi.dst = N) (hg : oi.guard = none) {t e : TypeId} {x y : Operand} (hop : oi.op = .makeSlice t x y) (ht : P.underlying t = some (.slice e)) {z : Value} {bytes : Nat} (hinfo : (P.info? e).map (fun i => (i.zero, i.size, i.bytes)) = some (some z, 1, bytes))
    (m : Nat) (hx : a.eval x = .int .i64 m) (hy : a.eval y = .int .i64 m) (hl : m * bytes ≤ 281474976710656) (h64 : m ≤ 9223372036854775807) (h : wpList P ops Q rest (a.put N (.slice (some ⟨w.heap.size, 0, none⟩) m m)) (w.alloc (.cells (madeCells z.cells m) e))) : wpList P ops Q (oi :: rest) a w := by
  refine wpList_plain hg fun K hK => ?_
  obtain ⟨i0, hi, h1, h2, h3⟩ := info_parts hinfo
  have hr := run_make (P := P) w t e i0 z ht hi h1 .i64 .i64 (m : Int) (m : Int) (by omega) (by omega)
    (by
      have h4 : ((i0.bytes * m : Nat) : Int) ≤ 281474976710656 := by rw [h3, Nat.mul_comm]; omega
      rwa [Int.natCast_mul] at h4) (by omega)
  simp only [Int.toNat_natCast, h2, Nat.mul_one] at hr
  have hrun : (execOp a.eval oi).run P w = .ok (.value (.slice (some ⟨w.heap.size, 0, none⟩) m m)) (w.alloc (.cells (madeCells z.cells m) e)) := by
    unfold execOp
    simp [hop, hx, hy, hr]
  unfold Oper.wp
  rw [hrun]
  subst hd
  exact hK _ _ h
end
theorem made_nums (k : IntKind) (m : Nat) : madeCells (Value.int k 0).cells m = (nums k (List.replicate m 0)).toArray := by
  apply Array.toList_inj.1
  have := toList_madeCells_one (.int k 0) m
  simpa [nums, Value.cells] using this
theorem info148 : (Tryz.prog.info? 148).map (fun i => (i.zero, i.size, i.bytes)) = some (some (.int .i64 0), 1, 8) := by kernel_rfl
theorem C_nums {w : World} {g t : Nat} {xs : List Int} (hg : w.heap[g]? = some (.cells (nums .i64 xs).toArray t (0, 0))) (hl : xs.length ≤ 9223372036854775807) : Kd.C (Kd.int .i64) w (some ⟨g, 0, none⟩) xs.length xs := by
  refine ⟨rfl, hl, fun _ => ⟨_, rfl, fun j p hj => ⟨[.int .i64 p], rfl, rfl, fun i u hu => ?_⟩⟩⟩
  have hi : i = 0 := by
    cases i with
    | zero => rfl
    | succ i => simp at hu
  subst hi
  have hu' : Value.int .i64 p = u := by simpa using hu
  subst hu'
  have := blk_cell hg j
  simp only [nums, List.getElem?_toArray, List.getElem?_map, hj, Option.map_some] at this
  have e : (⟨g, 0, none⟩ : Addr).add (j * (Kd.int .i64).sz + 0) = ⟨g, j, none⟩ := by
    rw [show j * (Kd.int .i64).sz + 0 = j from Nat.mul_one j]
    simp only [Addr.add]
    split
    · next h => simp [h]
    · simp
  rw [e]
  exact this
/-- What the loop of Params has copied. -/
theorem copy_step (qs : List Int) (m i : Nat) (hi : i < m) (hm : m ≤ qs.length) : (qs.take i ++ List.replicate (m - i) 0).set i (qs.getD i 0) = qs.take (i + 1) ++ List.replicate (m - (i + 1)) 0 := by
  have hl : i < qs.length := by omega
  have h1 : (qs.take i).length = i := by simp; omega
  obtain ⟨j, hj⟩ : ∃ j, m - i = j + 1 := ⟨m - i - 1, by omega⟩
  rw [List.set_append_right _ _ (by omega), h1, Nat.sub_self, hj, List.replicate_succ, List.set_cons_zero, List.take_add_one]
  have : m - (i + 1) = j := by omega
  rw [this]
  simp only [List.getD_eq_getElem?_getD, List.getElem?_eq_getElem hl, Option.getD_some, Option.toList_some, List.append_assoc, List.singleton_append]
set_option maxRecDepth 100000 in
set_option maxHeartbeats 2000000 in
theorem Params_calls {B gp gq : Nat} {gd : GX} {gb go : Nat} {qs : List Int} {m : Nat} {cmd st : Int} {evs : List S77} (w : World) (h : PSt B gp gq gd gb go w qs m cmd st evs) (hm : m ≤ 32) :
    Calls Tryz.prog 107 #[.pointer (some ⟨gp, 0, none⟩)] w (fun e w' => ∃ A c, e = .returned (.slice A m c) ∧ m ≤ c ∧ Kd.C (Kd.int .i64) w' A m (qs.take m) ∧ Below w.heap.size w w') := by
  have H := Aside0.mk h
  have c9 := h.c9; have c12 := h.c12
  have ql := h.ql
  clear h
  go_enter Tryz.func107, Tryz.ntmps107
  go_wp2_with (refine madeL_ (some 9) rfl rfl rfl Tryz.underlying124 info148 m (by go_simp) (by go_simp) (by omega) (by omega) ?_)
  go_loopg [12] m (fun kq v12 w' => ∃ i : Nat, v12 = .int .i64 i ∧ kq + i = m ∧ Aside0 (w'.heap[w.heap.size]? = some (.cells (nums .i64 (qs.take i ++ List.replicate (m - i) 0)).toArray 148 (0, 0)) ∧ Below w.heap.size w w'))
  case atStart => exact ⟨0, rfl, by omega, ⟨by rw [show madeCells #[Value.int IntKind.i64 0] m = (nums .i64 (List.replicate m 0)).toArray from made_nums .i64 m]; simpa using heap_alloc_new _ _, below_alloc (Below.refl _ _) _⟩⟩
  case round =>
    obtain ⟨i, rfl, hk, HI⟩ := hrel
    have hb := HI.out.2
    have hg := HI.out.1
    have hc9 := (hb.cell (blk_lt H.out.p)).trans c9
    have fr : wr.frozen? ⟨w.heap.size, i, none⟩ = false := blk_frozen hg i
    by_cases hi : i < m
    · have d1 : decide ((i : Int) < (m : Int)) = true := decide_eq_true (by omega)
      have cq := (hb.cell (blk_lt H.out.q)).trans (H.out.cq i (by omega))
      have hi32 : i < 32 := by omega
      obtain ⟨x, hx⟩ : ∃ x, qs.getD i 0 = x := ⟨_, rfl⟩
      rw [hx] at cq
      have hw1 : IntKind.i64.wrap ((i : Int) + 1) = ((i + 1 : Nat) : Int) := by rw [IntKind.wrap_i64]; omega
      have cg : wr.cell? ⟨w.heap.size, i, none⟩ = some (.int .i64 0) := by
        rw [blk_cell hg i]
        obtain ⟨j, hj⟩ : ∃ j, m - i = j + 1 := ⟨m - i - 1, by omega⟩
        have h1 : (qs.take i).length = i := by simp; omega
        rw [hj]
        have h2 : (qs.take i ++ List.replicate (j + 1) 0)[i]? = some 0 := by
          rw [List.getElem?_append_right (by omega), h1, Nat.sub_self, List.replicate_succ]
          rfl
        simp only [nums, List.getElem?_toArray, List.getElem?_map, h2, Option.map_some]
      go_wp2
      go_roundg (m - (i + 1))
      case measure => omega
      case rel => exact ⟨i + 1, by simp, by omega, ⟨by rw [← copy_step qs m i hi (by omega), hx]; exact blk_put hg i _ (nums_set .i64 _ i _), hb.setCell (p := ⟨w.heap.size, i, none⟩) (Nat.le_refl _) _⟩⟩
    · obtain rfl : i = m := by omega
      have d1 : decide ((i : Int) < (i : Int)) = false := decide_eq_false (by omega)
      go_wp2
      go_ret
      refine ⟨_, _, rfl, Nat.le_refl _, ?_, hb⟩
      rw [Nat.sub_self, List.replicate_zero, List.append_nil] at hg
      have h1 : (qs.take i).length = i := by simp; omega
      have := C_nums hg (by rw [h1]; omega)
      rwa [h1] at this
end Go.Proofs.YtjdpkhnpgdangaaGreatDoor.PQ
