/- IsSequence and Sequences at the bytes of a style. -/
import Derived.Test.YtjdpkhnpgdangaaGreatDoorPc1
import Derived.Test.YtjdpkhnpgdangaaGreatDoorPQy1
namespace Go.Proofs.YtjdpkhnpgdangaaGreatDoor.PQ
open Go.RowKit Go.Proofs.YtjdpkhnpgdangaaGreatDoorW.PrintWords Go.Proofs.YtjdpkhnpgdangaaGreatDoorW.PrintLast Go.Proofs.YtjdpkhnpgdangaaGreatDoorW.PrintMore
set_option linter.unusedVariables false
set_option linter.unusedSimpArgs false
theorem isSeq_end (k : Nat) (ps : List S89) : spec_IsSequence.l1 (k + 2) 0 0 1 0 ps [] 109 [] false = some true := by
  simp [spec_IsSequence.l1, spec_IsSequence.l2, spec_within.f]
theorem isSeq_l0 (ps : List S89) (hp : ∀ p ∈ ps, 0 ≤ p.f0 ∧ p.f0 ≤ 65535 ∧ p.f1 = false ∧ p.f2 = false) (hl : ps.length ≤ 20) : ∀ (d k i : Nat), i + d = ps.length → d + 3 ≤ k → spec_IsSequence.l0 k ps (ps.length : Int) (i : Int) 1 0 ps [] 109 [] false = some true
  | 0, k, i, hi, hk => by
    obtain ⟨m, rfl⟩ : ∃ m, k = m + 3 := ⟨k - 3, by omega⟩
    simp only [spec_IsSequence.l0]
    rw [if_neg (by omega)]
    exact isSeq_end m ps
  | d + 1, k, i, hi, hk => by
    obtain ⟨m, rfl⟩ : ∃ m, k = m + 1 := ⟨k - 1, by omega⟩
    have hlt : i < ps.length := by omega
    have e : rd_T89 ps (i : Int) = ps[i] := by simp [rd_T89, List.getElem?_eq_getElem hlt]
    obtain ⟨h0, h1, h2, h3⟩ := hp _ (List.getElem_mem hlt)
    have hw : wrap64 ((i : Int) + 1) = ((i + 1 : Nat) : Int) := by unfold wrap64; omega
    simp only [spec_IsSequence.l0]
    rw [e, if_pos (by omega), if_pos (by omega), if_pos (by omega), if_neg (by omega), if_neg (by omega), if_neg (by rw [h2]; decide), if_neg (by rw [h3]; decide), hw]
    exact isSeq_l0 ps hp hl d m (i + 1) (by omega) (by omega)
theorem IsSeq_calls (w : World) (A : Option Addr) (c : Nat) (ps : List S89) (hC : Kd.C k89 w A ps.length ps) (hc : ps.length ≤ c) (hl : ps.length ≤ 20) (hp : ∀ p ∈ ps, 0 ≤ p.f0 ∧ p.f0 ≤ 65535 ∧ p.f1 = false ∧ p.f2 = false) :
    Calls Tryz.prog 14 #[.agg (svals A ps.length c)] w (fun e w' => e = .returned (.bool true) ∧ Below w.heap.size w w') := by
  refine spec_IsSequence.calls (ps.length + 5) 1 0 A c ps none 0 [] 109 none 0 [] false true w hC hc (Kd.C_nil _ _) (Nat.le_refl _) (Kd.C_nil _ _) (Nat.le_refl _) ?_
  unfold spec_IsSequence.f
  rw [if_neg (by decide), if_neg (by decide), if_neg (by omega), if_neg (by decide), if_neg (by decide)]
  exact isSeq_l0 ps hp hl ps.length _ 0 (by omega) (by omega)
theorem sbytes_size {s : ByteArray} {body : List Nat} (hs : s.data.toList.map UInt8.toNat = sbytes body) : s.size = body.length + 3 := by
  have h := congrArg List.length hs
  rw [List.length_map, data_length] at h
  simpa [sbytes] using h
theorem sbytes_at {s : ByteArray} {body : List Nat} (hs : s.data.toList.map UInt8.toNat = sbytes body) (i : Nat) (hi : i < s.size) : (sbytes body)[i]? = some (s[i]'hi).toNat := by
  rw [← hs, List.getElem?_map, List.getElem?_eq_getElem (by rw [data_length]; exact hi)]
  rfl
theorem sbytes_27 {s : ByteArray} {body : List Nat} {st0 st : Rst} (hb : rrun st0 body = some st) (hs : s.data.toList.map UInt8.toNat = sbytes body) (i : Nat) (hi : i < s.size) (h1 : 1 ≤ i) : (s[i]'hi).toNat ≠ 27 := by
  have e := sbytes_at hs i hi
  intro h27
  rw [h27] at e
  obtain ⟨j, rfl⟩ : ∃ j, i = j + 1 := ⟨i - 1, by omega⟩
  have hm : 27 ∈ 91 :: (body ++ [109]) := by
    have e' : (91 :: (body ++ [109]))[j]? = some 27 := by simpa [sbytes] using e
    exact List.mem_of_getElem? e'
  simp only [List.mem_cons, List.mem_append, List.not_mem_nil, or_false] at hm
  rcases hm with h | h | h
  · omega
  · have := rrun_bytes body hb _ h; omega
  · omega
/-- One sequence in a row of sequences: its cells at block g, its parameters. -/
def SeqAt (w : World) (ps : List S89) (w' : World) (g : Nat) (A : Option Addr) (c' : Nat) : Prop :=
  (∀ j v, (svals A ps.length c')[j]? = some v → w'.cell? ⟨g, j, none⟩ = some v) ∧ ps.length ≤ c' ∧ Kd.C k89 w' A ps.length ps ∧ Below w.heap.size w w'
def SeqPost (w : World) (ps : List S89) (e : Ending) (w' : World) : Prop := ∃ g c A c', e = .returned (.tuple #[.slice (some ⟨g, 0, none⟩) 1 c, .bool true]) ∧ SeqAt w ps w' g A c'
theorem info37 : (Tryz.prog.info? 37).map (fun i => (i.zero, i.size, i.bytes)) = some (some (.agg #[.int .i64 0, .int .u8 0, .slice none 0 0, .slice none 0 0, .int .u8 0, .slice none 0 0, .bool false]), 7, 104) := by kernel_rfl
theorem seq_made {w w3 w4 : World} {v : Value} {ps : List S89} {A : Option Addr} {c' : Nat} (hown : w4.ownsRow w.heap.size 37 7 v 1 (svals A ps.length c').toList) (hg : w3.grownBy w4 (Value.slice none 0 0).ownBlock) (hR : Kd.R k89 89 w3 w.heap.size (fun _ => True) (.slice A ps.length c') ps) (hc : ps.length ≤ c') (hb : Below w.heap.size w w4) :
    ∃ g cap, v = .slice (some ⟨g, 0, none⟩) 1 cap ∧ SeqAt w ps w4 g A c' := by
  rcases hown.2 with ⟨_, hn⟩ | ⟨g, cap, cur, rfl, hg', hh, hnc, hcm, hcs, htake⟩
  · omega
  · refine ⟨g, cap, rfl, fun j v hj => ?_, hc, ?_, hb⟩
    · have hj7 : j < 7 := by
        have := (Array.getElem?_eq_some_iff.1 hj).1
        simpa [svals] using this
      rw [blk_cell hh j, ← Array.getElem?_toList]
      rw [← Array.getElem?_toList, ← htake, List.getElem?_take, if_pos (by omega)] at hj
      exact hj
    · have h4 := Kd.R_grown hR hg (fun k _ => by simp [Value.ownBlock])
      obtain ⟨_, _, hsl, _, hC⟩ := Kd.R_reads h4
      cases hsl
      exact hC
theorem bytes_block (w : World) (s : ByteArray) (l : List Nat) (hs : s.data.toList.map UInt8.toNat = l) : ∃ C fr, (Lib.bytesWorld w 5 s).heap[w.heap.size]? = some (.cells C 5 fr) ∧ ∀ i (h : i < l.length), C[i]? = some (.int .u8 (l[i] : Nat)) := by
  refine ⟨_, _, Lib.bytesWorld_at_new w 5 s, fun i h => ?_⟩
  have hl : s.data.size = l.length := by rw [← hs]; simp
  have hl2 : s.size = s.data.size := rfl
  have e : (Lib.bytesCells w 5 s)[i]? = some (.int .u8 ((s.data[i]'(by omega)).toNat : Nat)) := by
    unfold Lib.bytesCells
    rw [Array.getElem?_append_left (by simp; omega)]
    simp [hl, h]
  rw [e]
  have e2 : l[i] = (s.data[i]'(by omega)).toNat := by
    simp only [← hs, List.getElem_map, Array.getElem_toList]
  rw [e2]
set_option maxRecDepth 1000000 in
set_option maxHeartbeats 4000000 in
theorem Sequences_calls (w : World) (s : ByteArray) (body : List Nat) (st : Rst) (hb : rrun ⟨0, true, []⟩ body = some st) (hb0 : body ≠ []) (hbl : body.length ≤ 1000) (hs : s.data.toList.map UInt8.toNat = sbytes body)
    (hl : st.ps.length + 1 ≤ 20) (hp : ∀ p ∈ st.ps ++ [⟨st.v, st.miss, false⟩], 0 ≤ p.f0 ∧ p.f0 ≤ 65535 ∧ p.f1 = false ∧ p.f2 = false) :
    Calls Tryz.prog 6 #[.string s] w (SeqPost w (st.ps ++ [⟨st.v, st.miss, false⟩])) := by
  have hz := sbytes_size hs
  have HR := Aside0.mk hb
  have H0 := Aside0.mk hb0
  have HS := Aside0.mk hs
  have HP := Aside0.mk hp
  have HZ := Aside0.mk hz
  have hpos : 3 ≤ s.size := by omega
  have hle : s.size ≤ 1003 := by omega
  obtain ⟨ps, eps⟩ : ∃ ps, ps = st.ps ++ [⟨st.v, st.miss, false⟩] := ⟨_, rfl⟩
  have HLn := Aside0.mk (show st.ps.length + 1 = ps.length by rw [eps]; simp)
  rw [← eps] at hp ⊢
  replace HP := Aside0.mk hp
  have EPS := Aside0.mk eps
  have hl2 : ps.length ≤ 20 := by have := HLn.out; omega
  clear hb hb0 hs hp hz eps hl
  go_enter Tryz.func6, Tryz.ntmps6
  go_wp2_with fail
  go_loopg [4, 5] 1 (fun kq v4 v5 w' => (kq = 1 ∧ v4 = .slice none 0 0 ∧ v5 = .int .i64 0 ∧ w' = w) ∨ (kq = 0 ∧ v5 = .int .i64 s.size ∧ ∃ g c A c', v4 = .slice (some ⟨g, 0, none⟩) 1 c ∧ Aside0 (SeqAt w ps w' g A c')))
  case atStart => exact Or.inl ⟨rfl, rfl, rfl, rfl⟩
  case round =>
    rcases hrel with ⟨rfl, rfl, rfl, rfl⟩ | ⟨rfl, rfl, g, c, A, c', rfl, HF⟩
    · have d1 : decide ((0 : Int) < (s.size : Int)) = true := decide_eq_true (by omega)
      have d1' : decide (0 < s.size) = true := decide_eq_true (by omega)
      go_wp2_with fail
      go_loopg [6] s.size (fun kq v6 w' => ∃ i : Nat, v6 = .int .i64 i ∧ 1 ≤ i ∧ kq + i = s.size + 1 ∧ i ≤ s.size ∧ w' = wr)
      case atStart => exact ⟨1, rfl, by omega, by omega, by omega, rfl⟩
      case round =>
        obtain ⟨i, rfl, h1, hk, hi0, rfl⟩ := hrel
        by_cases hi : i < s.size
        · have hb27 : (s[i]'hi).toNat ≠ 27 := sbytes_27 HR.out HS.out i hi h1
          have d2 : decide ((i : Int) < (s.size : Int)) = true := decide_eq_true (by omega)
          have d3 : (((s[i]'hi).toNat : Int) != 27) = true := by simp; omega
          have hw : wrap64 ((i : Int) + 1) = ((i + 1 : Nat) : Int) := by unfold wrap64; omega
          clear hb27
          go_wp2_with fail
          go_roundg (s.size - i)
          case measure => omega
          case rel => exact ⟨i + 1, by simp, by omega, by omega, by omega, rfl⟩
        · obtain rfl : i = s.size := by omega
          have d2 : decide ((s.size : Int) < (s.size : Int)) = false := decide_eq_false (by omega)
          obtain ⟨W1, e1⟩ : ∃ W, W = Lib.bytesWorld wr 5 s := ⟨_, rfl⟩
          obtain ⟨cap, e2⟩ : ∃ c, c = grownCap wr s.size 0 5 := ⟨_, rfl⟩
          have hcv := print_bytes (P := Tryz.prog) 9 35 5 Tryz.underlying9 Tryz.underlying35 Tryz.underlying5 s wr
          rw [← e1, ← e2] at hcv
          have HB1 := Aside0.mk (show Below wr.heap.size wr W1 by rw [e1]; exact bytes_below (Below.refl _ _) (Nat.le_refl _) 5 s)
          have HK1 := Aside0.mk (show ∃ C fr, W1.heap[wr.heap.size]? = some (.cells C 5 fr) ∧ ∀ i (h : i < (sbytes body).length), C[i]? = some (.int .u8 ((sbytes body)[i] : Nat)) by rw [e1]; exact bytes_block wr s _ HS.out)
          have hcap : body.length + 3 ≤ cap := by have h := grownCap_ge wr s.size 0 5; have := HZ.out; rw [← e2] at h; omega
          have HCP := Aside0.mk hcap
          rw [HZ.out] at hcv
          obtain ⟨Cb, fr, hblk, hcb⟩ := HK1.out
          have HBK := Aside0.mk hblk
          have HCB := Aside0.mk hcb
          clear e1 e2 HK1 hcap hblk hcb
          go_wp2_with (first
            | (go_at_call 13; refine (ReadSequence_calls (ga := wr.heap.size) W1 cap Cb body st HR.out H0.out hbl HCP.out HBK.out HCB.out).mono ?_; rintro e w2 ⟨A, c', rfl, hR, hb2⟩; rw [HLn.out, ← EPS.out] at hR; obtain ⟨_, _, hsl, hcc, hC2⟩ := Kd.R_reads hR; cases hsl; have R2 := Aside0.mk hR; have C2 := Aside0.mk hC2; have CC := Aside0.mk hcc; have B2 := Aside0.mk (HB1.out.trans (hb2.mono HB1.out.size)); clear hR hb2 hcv hC2 hcc; unfold svals; rw [HLn.out])
            | (go_at_call 14; refine (IsSeq_calls _ A c' ps (Kd.C_below C2.out (below_alloc (Below.refl _ _) _)) CC.out hl2 HP.out).mono ?_; rintro e w3 ⟨rfl, hb3⟩; have BK := Aside0.mk (blk_below (blk_new w2 _) hb3); have R3 := Aside0.mk (Kd.R_below (Kd.R_below R2.out (below_alloc (Below.refl _ _) _)) hb3); have B3 := Aside0.mk ((B2.out.alloc B2.out.size _).trans (hb3.mono (by have := B2.out.size; simp; omega))); clear hb3; have r0 := (blk_cell BK.out 0).trans rfl; have r1 := (blk_cell BK.out 1).trans rfl; have r2 := (blk_cell BK.out 2).trans rfl; have r3 := (blk_cell BK.out 3).trans rfl; have r4 := (blk_cell BK.out 4).trans rfl; have r5 := (blk_cell BK.out 5).trans rfl; have r6 := (blk_cell BK.out 6).trans rfl)
            | (at_builtin; refine print_append_cells (w0 := wr) wr.heap.size rfl (.tmp 43) (.tmp 45) 28 37 (.agg #[.int .i64 0, .int .u8 0, .slice none 0 0, .slice none 0 0, .int .u8 0, .slice none 0 0, .bool false]) 7 104 rfl Tryz.underlying28 info37 rfl (by decide) (by decide) (.slice none 0 0) 0 [] [.int .i64 1, .int .u8 0, .slice A ps.length c', .slice none 0 0, .int .u8 109, .slice none 0 0, .bool false] rfl rfl rfl (by intro u hu; simp only [List.mem_cons, List.not_mem_nil, or_false] at hu; rcases hu with rfl | rfl | rfl | rfl | rfl | rfl | rfl <;> rfl) (own_nil _ _ _ _) B3.out B3.out.size (by decide) ?_; intro v1 w4 hown hb4 hg4 hat4; obtain ⟨g, cp, hv1, hsq⟩ := seq_made hown hg4 (Kd.R_lower R3.out HB1.out.size) CC.out hb4; subst hv1; have HSQ := Aside0.mk hsq; clear hown hb4 hg4 hat4 hsq))
          go_roundg 0
          case measure => omega
          case rel => exact Or.inr ⟨rfl, rfl, g, cp, A, c', rfl, HSQ⟩
    · have d1 : decide ((s.size : Int) < (s.size : Int)) = false := decide_eq_false (by omega)
      go_wp2_with fail
      go_ret2
      exact ⟨g, c, A, c', rfl, HF.out⟩
end Go.Proofs.YtjdpkhnpgdangaaGreatDoor.PQ
