/- NewStyle of attributes from 0 to 60000 (at least one of them) makes a list of their decimal numerals. Condition: strconv's table of powers of ten reads as the program lays it. -/
import Derived.Test.YtjdpkhnpgdangaaGreatDoorPQx0
import Derived.Test.YtjdpkhnpgdangaaGreatDoorPQx2
import Derived.Test.YtjdpkhnpgdangaaGreatDoorShelf
import Derived.Lib.AppendIntMem
namespace Go.Proofs.YtjdpkhnpgdangaaGreatDoor.PQ
open Go.RowKit Go.Proofs.YtjdpkhnpgdangaaGreatDoorW.PrintWords Go.Proofs.YtjdpkhnpgdangaaGreatDoorW.PrintLast Go.Proofs.YtjdpkhnpgdangaaGreatDoorW.PrintMore
set_option linter.unusedVariables false
set_option linter.unusedSimpArgs false

/-- A number's decimal numeral. -/
def itoaBA (n : Int) : ByteArray := ⟨(Lib.itoa n).toArray⟩
/-- strconv's table of powers of ten reads as the program's text lays it. -/
structure HasTab (w : World) : Prop where mk :: (out : Lib.TabIs Tryz.prog w "internal/strconv.uint64pow10" .u64 Lib.pow10Tab)
theorem HasTab.below {w w' : World} (h : HasTab w) (hb : Below w.heap.size w w') : HasTab w' := ⟨(Lib.tabBelow_of_tabIs h.out) w' hb⟩

theorem ite_tells {c : Prop} [Decidable c] {a b : Option (ByteArray × Bool)} {P : ByteArray → Bool → Prop}
    (h1 : c → ∃ r1 r2, a = some (r1, r2) ∧ P r1 r2) (h2 : ∃ r1 r2, b = some (r1, r2) ∧ P r1 r2) : ∃ r1 r2, (if c then a else b) = some (r1, r2) ∧ P r1 r2 := by
  by_cases h : c
  · rw [if_pos h]; exact h1 h
  · rw [if_neg h]; exact h2

/-- The table of attributes: what it tells is the numeral. -/
theorem attr_tells (a : Int) : ∃ r1 r2, xansi_attrStrings.f a = some (r1, r2) ∧ (r2 = true → r1 = itoaBA a) := by
  unfold xansi_attrStrings.f
  repeat' (refine ite_tells (P := fun r1 r2 => r2 = true → r1 = itoaBA a) ?_ ?_)
  all_goals first
    | exact ⟨_, false, rfl, fun h => by cases h⟩
    | (rintro rfl; exact ⟨_, _, rfl, fun _ => by decide +kernel⟩)

def xansi_NewStyle.f (k : Nat) (l : List Int) : Option (List ByteArray) :=
  if (∀ x ∈ l, 0 ≤ x ∧ x ≤ 60000) ∧ 0 < l.length ∧ l.length ≤ 2147483647 then some (l.map itoaBA) else none
theorem xansi_NewStyle.mono : ∀ a0 k, LeO (xansi_NewStyle.f k a0) (xansi_NewStyle.f (k + 1) a0) := fun _ _ => LeO.refl _

theorem take_rd (l : List Int) (i : Int) (h0 : 0 ≤ i) (h1 : i < (l.length : Int)) : (l.map itoaBA).take (i + 1).toNat = (l.map itoaBA).take i.toNat ++ [itoaBA (rd l i)] := by
  have e : (i + 1).toNat = i.toNat + 1 := by omega
  have hl : i.toNat < l.length := by omega
  rw [e, List.take_add_one, List.getElem?_map, List.getElem?_eq_getElem hl]
  simp [rd, List.getD_eq_getElem?_getD, List.getElem?_eq_getElem hl]
theorem rd_mem (l : List Int) (i : Int) (h0 : 0 ≤ i) (h1 : i < (l.length : Int)) : rd l i ∈ l := by
  have hl : i.toNat < l.length := by omega
  unfold rd
  rw [List.getD_eq_getElem?_getD, List.getElem?_eq_getElem hl]
  exact List.getElem_mem hl

set_option maxHeartbeats 4000000 in
set_option maxRecDepth 100000 in
theorem xansi_NewStyle.calls (k : Nat) (A0 : Option Addr) (c0 : Nat) (l0 : List Int) (r : List ByteArray) (w : World) (hT : HasTab w) (hr0 : Kd.C (Kd.int .i64) w A0 l0.length l0) (hc0 : l0.length ≤ c0) (h : xansi_NewStyle.f k l0 = some r) :
    Calls Tryz.prog 25 #[.slice A0 l0.length c0] w fun e w' => ∃ v0_ : Value, e = .returned (v0_) ∧ Kd.R Kd.string 9 w' w.heap.size (fun _ => True) v0_ r ∧ Below w.heap.size w w' := by
  unfold xansi_NewStyle.f at h
  by_cases hg : (∀ x ∈ l0, 0 ≤ x ∧ x ≤ 60000) ∧ 0 < l0.length ∧ l0.length ≤ 2147483647
  · rw [if_pos hg] at h
    obtain rfl := Option.some.inj h
    obtain ⟨hx, hpos, hlen⟩ := hg
    have HX := Aside0.mk hx
    have HR0 := Aside0.mk hr0
    have HT := Aside0.mk hT
    clear hx hr0 hT hc0 h
    have hne : ((l0.length : Int) == 0) = false := by rw [beq_eq_false_iff_ne]; omega
    obtain ⟨i0, hi, hz0, hz1, hz2⟩ := info_parts info9
    have HI := Aside0.mk hi
    have HZ := Aside0.mk (And.intro hz0 (And.intro hz1 hz2))
    clear hi hz0 hz1 hz2
    have HB := Aside0.mk (Below.refl w.heap.size w)
    go_enter Tryz.func25, Tryz.ntmps25
    go_wp2_with (first | (at_make; refine wpList_make_own _ rfl _ _ 68 rfl w.heap.size 9 i0 (.string ⟨#[]⟩) 1 Tryz.underlying68 HI.out HZ.out.1 HZ.out.2.1 _ _ _ l0.length rfl rfl rfl ?bytes ?maxLen ?base ?_))
    case bytes => rw [HZ.out.2.2]; omega
    case maxLen => unfold maxLen; omega
    case base => exact Nat.le_refl _
    intro w1 hown hg1
    have HO := Aside0.mk (show Kd.R Kd.string 9 w1 w.heap.size (fun _ => True) (.slice (some ⟨w.heap.size, 0, none⟩) 0 l0.length) [] from ⟨fun _ _ => trivial, _, hown, Reps.none _ _⟩)
    replace HB := Aside0.mk (HB.out.grown hg1 (Nat.le_refl _) (by simp))
    clear hown hg1
    go_wp2
    go_loopw [3, 17] (fun v3 v17 w' => ∃ (i : Int), v17 = .int .i64 i ∧ Aside0 (0 ≤ i ∧ i ≤ (l0.length : Int)) ∧ Aside0 (Kd.R Kd.string 9 w' w.heap.size (fun _ => True) v3 ((l0.map itoaBA).take i.toNat)) ∧ Aside0 (Below w.heap.size w w')) (fun _ v17 _ => l0.length - (intOf v17).toNat)
    case atStart => exact ⟨0, rfl, ⟨by omega⟩, HO, HB⟩
    case round =>
      clear HB HO
      obtain ⟨i, rfl, HI0, HO_3, HB⟩ := hrel
      have h0 := HI0.out.1
      have hle := HI0.out.2
      by_cases hlt : i < (l0.length : Int)
      · have hlb : decide (i < (l0.length : Int)) = true := decide_eq_true hlt
        obtain ⟨ad, e0, hx0⟩ := Kd.at_int HR0.out i h0 hlt
        cases e0
        replace hx0 := (HB.out.cell (World.block_lt_of_cell? w _ hx0)).trans hx0
        obtain ⟨r1, r2, ha, hb⟩ := attr_tells (rd l0 i)
        have A1 := Aside0.mk ha
        have A2 := Aside0.mk hb
        clear ha hb
        have hrng := HX.out _ (rd_mem l0 i h0 hlt)
        have TK := Aside0.mk (take_rd l0 i h0 hlt)
        have hwr : wrap64 (i + 1) = i + 1 := by unfold wrap64; omega
        have HW := Aside0.mk hwr
        clear hwr
        cases r2
        · go_wp2_with (first | ((with_reducible refine gate_callee (f := 47) rfl ?_); refine goesL_ (some 23) rfl rfl Tryz.func47 (by kernel_rfl) rfl #[.int .i64 (rd l0 i)] rfl (by (try simp only [List.map_toArray, List.map_cons, List.map_nil]); first | done | rfl) ?_; (with_reducible refine (xansi_attrStrings.calls (rd l0 i) r1 false _ A1.out).mono ?_); rintro e w' ⟨rfl, ⟨nd, rfl⟩⟩; refine ⟨_, rfl, ?_⟩) | ((with_reducible refine gate_callee (f := 48) rfl ?_); refine goesL_ (some 35) rfl rfl Tryz.func48 (by kernel_rfl) rfl #[.int .i64 (rd l0 i)] rfl (by (try simp only [List.map_toArray, List.map_cons, List.map_nil]); first | done | rfl) ?_; (with_reducible refine (Tryz.strconv_Itoa (rd l0 i) (by omega) (by omega) _ ?tab).mono ?_); (case tab => exact (HasTab.below HT.out (by repeat (first | (with_reducible first | exact HB.out | apply below_alloc | apply pw_below_drewN | apply below_drew1) | exact HB.out))).out); rintro e w2 ⟨rfl, kq, os, hgrow⟩; refine ⟨_, rfl, ?_⟩; have hb2 := Aside0.mk (show Below _ _ w2 by rw [hgrow]; exact Lib.below_grow _ _ (Nat.le_refl _) kq os); clear hgrow; have n0_ := Aside0.mk (below_step (by repeat (first | (with_reducible first | exact HB.out | apply below_alloc | apply pw_below_drewN | apply below_drew1) | exact HB.out)) hb2.out); have n1_ := Aside0.mk (Kd.R_below (by (with_reducible repeat (first | apply Kd.R_alloc | apply Kd.R_drewN | apply Kd.R_drew)); exact HO_3.out) hb2.out); clear HB HO_3 hb2; have HB := n0_; have HO_3 := n1_; clear n0_ n1_) | ((with_reducible refine gate_builtin (b := .append) (xs := #[.tmp 33, .tmp 36]) rfl ?_); at_builtin; refine Kd.R_append Kd.string (w0 := w) w.heap.size rfl (.tmp 33) (.tmp 36) 68 9 (.string ⟨#[]⟩) 16 rfl Tryz.underlying68 info9 rfl (by decide) (by omega) u3 ((l0.map itoaBA).take i.toNat) (itoaBA (rd l0 i)) [.string (itoaBA (rd l0 i))] (fun _ => True) (fun _ => False) rfl rfl ?aP (fun _ hk => hk.elim) ?aF ?aO ?aB ?aS ?aL ?_; (case aP => exact rfl); (case aB => exact (by repeat (first | (with_reducible first | exact HB.out | apply below_alloc | apply pw_below_drewN | apply below_drew1) | exact HB.out))); (case aF => exact (fun _ _ => trivial)); (case aO => exact (by (with_reducible repeat (first | apply Kd.R_alloc | apply Kd.R_drewN | apply Kd.R_drew)); exact HO_3.out)); (case aS => exact (below_size (by repeat (first | (with_reducible first | exact HB.out | apply below_alloc | apply pw_below_drewN | apply below_drew1) | exact HB.out)))); (case aL => rw [List.length_take, List.length_map]; omega); intro v135 w6 ho hb hg hat; have n0_ := Aside0.mk hb; have n1_ := Aside0.mk ho; clear HB; clear HO_3; have HB := n0_; have HO := n1_; clear n0_ n1_; clear ho hb hg hat))
          go_roundw
          case measure => have := HW.out; simp only [intOf]; first | omega | (simp; omega)
          case rel => exact ⟨i + 1, by first | rfl | (rw [HW.out]; rfl) | (simp [HW.out]; done), ⟨by omega⟩, ⟨by rw [TK.out]; exact HO.out⟩, ⟨by repeat (first | (with_reducible first | exact HB.out | apply below_alloc | apply pw_below_drewN | apply below_drew1) | exact HB.out)⟩⟩
        · have hr1 := A2.out rfl
          subst hr1
          go_wp2_with (first | ((with_reducible refine gate_callee (f := 47) rfl ?_); refine goesL_ (some 23) rfl rfl Tryz.func47 (by kernel_rfl) rfl #[.int .i64 (rd l0 i)] rfl (by (try simp only [List.map_toArray, List.map_cons, List.map_nil]); first | done | rfl) ?_; (with_reducible refine (xansi_attrStrings.calls (rd l0 i) _ true _ A1.out).mono ?_); rintro e w' ⟨rfl, ⟨nd, rfl⟩⟩; refine ⟨_, rfl, ?_⟩) | ((with_reducible refine gate_builtin (b := .append) (xs := #[.tmp 27, .tmp 29]) rfl ?_); at_builtin; refine Kd.R_append Kd.string (w0 := w) w.heap.size rfl (.tmp 27) (.tmp 29) 68 9 (.string ⟨#[]⟩) 16 rfl Tryz.underlying68 info9 rfl (by decide) (by omega) u3 ((l0.map itoaBA).take i.toNat) (itoaBA (rd l0 i)) [.string (itoaBA (rd l0 i))] (fun _ => True) (fun _ => False) rfl rfl ?aP (fun _ hk => hk.elim) ?aF ?aO ?aB ?aS ?aL ?_; (case aP => exact rfl); (case aB => exact (by repeat (first | (with_reducible first | exact HB.out | apply below_alloc | apply pw_below_drewN | apply below_drew1) | exact HB.out))); (case aF => exact (fun _ _ => trivial)); (case aO => exact (by (with_reducible repeat (first | apply Kd.R_alloc | apply Kd.R_drewN | apply Kd.R_drew)); exact HO_3.out)); (case aS => exact (below_size (by repeat (first | (with_reducible first | exact HB.out | apply below_alloc | apply pw_below_drewN | apply below_drew1) | exact HB.out)))); (case aL => rw [List.length_take, List.length_map]; omega); intro v135 w6 ho hb hg hat; have n0_ := Aside0.mk hb; have n1_ := Aside0.mk ho; clear HB; clear HO_3; have HB := n0_; have HO := n1_; clear n0_ n1_; clear ho hb hg hat))
          go_roundw
          case measure => have := HW.out; simp only [intOf]; first | omega | (simp; omega)
          case rel => exact ⟨i + 1, by first | rfl | (rw [HW.out]; rfl) | (simp [HW.out]; done), ⟨by omega⟩, ⟨by rw [TK.out]; exact HO.out⟩, ⟨by repeat (first | (with_reducible first | exact HB.out | apply below_alloc | apply pw_below_drewN | apply below_drew1) | exact HB.out)⟩⟩
      · have hlb : decide (i < (l0.length : Int)) = false := decide_eq_false hlt
        have hi : i.toNat = (l0.map itoaBA).length := by rw [List.length_map]; omega
        have HI1 := Aside0.mk hi
        clear hi
        go_wp2
        go_ret
        exact ⟨_, rfl, by have := HO_3.out; rw [HI1.out, List.take_length] at this; exact this, HB.out⟩
  · rw [if_neg hg] at h
    cases h
end Go.Proofs.YtjdpkhnpgdangaaGreatDoor.PQ
