/- The law: whatever the input, it answers true; what was there in memory stays. Condition: strconv's table of powers of ten reads as the program lays it. -/
import Derived.Test.YtjdpkhnpgdangaaGreatDoorPe0
namespace Go.Proofs.YtjdpkhnpgdangaaGreatDoor.PQ
open Go.RowKit Go.Proofs.YtjdpkhnpgdangaaGreatDoorW.PrintWords Go.Proofs.YtjdpkhnpgdangaaGreatDoorW.PrintLast Go.Proofs.YtjdpkhnpgdangaaGreatDoorW.PrintMore
set_option linter.unusedVariables false
set_option linter.unusedSimpArgs false
def LawPost (w : World) (e : Ending) (w' : World) : Prop := e = .returned (.bool true) ∧ Below w.heap.size w w'
set_option maxRecDepth 1000000 in
set_option maxHeartbeats 4000000 in
theorem law_long (w : World) (A : Option Addr) (c n : Nat) (t : ByteArray) (h : 2147483647 < n) : Calls Tryz.prog 3 #[.slice A n c, .string t] w (LawPost w) := by
  have d1 : decide ((n : Int) > 2147483647) = true := decide_eq_true (by omega)
  clear h
  go_enter Tryz.func3, Tryz.ntmps3
  go_wp2_with fail
  go_ret
  exact ⟨rfl, Below.refl _ _⟩
set_option maxRecDepth 1000000 in
set_option maxHeartbeats 4000000 in
theorem law_text (w : World) (A : Option Addr) (c n : Nat) (t : ByteArray) (h : n ≤ 2147483647) (h2 : 2147483647 < t.size) : Calls Tryz.prog 3 #[.slice A n c, .string t] w (LawPost w) := by
  have d1 : decide ((n : Int) > 2147483647) = false := decide_eq_false (by omega)
  have d2 : decide ((t.size : Int) > 2147483647) = true := decide_eq_true (by omega)
  clear h h2
  go_enter Tryz.func3, Tryz.ntmps3
  go_wp2_with fail
  go_ret
  exact ⟨rfl, Below.refl _ _⟩
set_option maxRecDepth 1000000 in
set_option maxHeartbeats 4000000 in
theorem law_none (w : World) (A : Option Addr) (c : Nat) (t : ByteArray) (hT : HasTab w) (h2 : t.size ≤ 2147483647) : Calls Tryz.prog 3 #[.slice A 0 c, .string t] w (LawPost w) := by
  have d2 : decide ((t.size : Int) > 2147483647) = false := decide_eq_false (by omega)
  have HT := Aside0.mk hT
  clear h2 hT
  go_enter Tryz.func3, Tryz.ntmps3
  go_wp2_with (go_at_call 5; refine (laws_styleAwake.calls 20 true _ (HT.out.below (below_alloc (Below.refl _ _) _)) styleAwake_f).mono ?_; rintro e w2 ⟨rfl, hb⟩)
  go_ret
  exact ⟨rfl, (below_alloc (Below.refl _ _) _).trans (hb.mono (by simp))⟩
set_option maxRecDepth 1000000 in
set_option maxHeartbeats 4000000 in
theorem law_other (w : World) (A : Option Addr) (c : Nat) (l : List Int) (t : ByteArray) (hT : HasTab w) (hC : Kd.C (Kd.int .i64) w A l.length l) (hc : l.length ≤ c) (h : l.length ≤ 2147483647) (h0 : 0 < l.length) (h2 : t.size ≤ 2147483647) (k : Nat) (hk : spec_IsMadeCall.f k 6 0 0 0 l [] t = some false) :
    Calls Tryz.prog 3 #[.slice A l.length c, .string t] w (LawPost w) := by
  have d1 : decide ((l.length : Int) > 2147483647) = false := decide_eq_false (by omega)
  have d2 : decide ((t.size : Int) > 2147483647) = false := decide_eq_false (by omega)
  have d3 : ((l.length : Int) == 0) = false := by rw [beq_eq_false_iff_ne]; omega
  have HT := Aside0.mk hT
  have HC := Aside0.mk hC
  have HL := Aside0.mk hc
  have HK := Aside0.mk hk
  clear h h2 hT hC hc hk h0
  go_enter Tryz.func3, Tryz.ntmps3
  go_wp2_with (first
    | (go_at_call 4; refine (spec_IsMadeCall.calls k 6 0 0 0 A c l none 0 [] t false _ (Kd.C_below HC.out (below_alloc (Below.refl _ _) _)) HL.out (Kd.C_nil _ _) (Nat.le_refl _) HK.out).mono ?_; rintro e w2 ⟨rfl, hb⟩; have B2 := Aside0.mk (Below.trans (below_alloc (Below.refl w.heap.size w) _) (hb.mono (by simp))); clear hb)
    | (go_at_call 5; refine (laws_styleAwake.calls 20 true _ (HT.out.below B2.out) styleAwake_f).mono ?_; rintro e w3 ⟨rfl, hb⟩))
  go_ret
  exact ⟨rfl, B2.out.trans (hb.mono B2.out.size)⟩
/-- What the letters are told as. -/
def letters (l : List Nat) : List S39 := l.map fun c : Nat => ⟨0, (c : Int), 0, 0, [], []⟩
theorem u8_wrap (x : UInt8) : wrap64 (x.toNat : Int) = (x.toNat : Int) := by
  have h : x.toNat < 256 := x.toNat_lt
  unfold wrap64
  omega
theorem letters_len (l : List Nat) : (letters l).length = l.length := List.length_map _
theorem letters_take (l : List Nat) (i : Nat) (h : i < l.length) : letters (l.take (i + 1)) = letters (l.take i) ++ [⟨0, ((l[i] : Nat) : Int), 0, 0, [], []⟩] := by
  unfold letters
  rw [List.take_add_one, List.getElem?_eq_getElem h, List.map_append]
  rfl
theorem bytes_C (W : World) (s : ByteArray) (h : s.size ≤ 100000) : Kd.C (Kd.int .u8) (Lib.bytesWorld W 5 s) (some ⟨W.heap.size, 0, none⟩) (ints8 (bts s)).length (ints8 (bts s)) := by
  have e : ints8 (bts s) = bytesOf s := by
    unfold ints8 bts bytesOf
    rw [List.map_map]
    rfl
  have hl : (ints8 (bts s)).length = s.size := by rw [ints8_len, bts_length]
  rw [hl, e]
  exact Kd.C_of_reads (d := (0 : Int)) (h1 := fun _ => rfl) (bytes_reads W 5 s (by omega))
set_option maxRecDepth 1000000 in
set_option maxHeartbeats 1000000 in
theorem law_main (w : World) (A : Option Addr) (c : Nat) (l : List Int) (t : ByteArray) (hT : HasTab w) (hC : Kd.C (Kd.int .i64) w A l.length l) (hc : l.length ≤ c) (h0 : 0 < l.length) (hl : l.length ≤ 12) (ht : t.size ≤ 100)
    (k : Nat) (hk : spec_IsMadeCall.f k 6 0 0 0 l [] t = some true)
    (k7 : Nat) (s : ByteArray) (h7 : spec_MadeBy.f k7 6 0 0 0 l [] t = some s)
    (body : List Nat) (st : Rst) (hb : rrun ⟨0, true, []⟩ body = some st) (hb0 : body ≠ []) (hbl : body.length ≤ 1000) (hs : s.data.toList.map UInt8.toNat = sbytes body)
    (hps : st.ps.length + 1 ≤ 20) (ps : List S89) (eps : st.ps ++ [⟨st.v, st.miss, false⟩] = ps) (hp : ∀ p ∈ st.ps ++ [⟨st.v, st.miss, false⟩], 0 ≤ p.f0 ∧ p.f0 ≤ 65535 ∧ p.f1 = false ∧ p.f2 = false)
    (ev ev0 : S39) (h8 : spec_EventsOf.f 100 1 0 ps [] 109 [] false = some [ev]) (h80 : spec_EventsOf.f 100 1 0 [] [] 109 [] false = some [ev0])
    (k9 : Nat) (s1 s2 : ByteArray) (h9 : impl_StyleRun.f k9 l [] t = some (s1, s2)) (hz2 : s2.size ≤ 10000)
    (m : Mst) (hm : mrun m0 (bts s2) = some m) (hml : m.evs.length ≤ 100000) (hmw : m.evs.map as39 = ev :: letters (bts t) ++ [ev0])
    (hx : ∀ e ∈ m.evs.map as39, e.f4.length ≤ 100 ∧ e.f5 = []) :
    Calls Tryz.prog 3 #[.slice A l.length c, .string t] w (LawPost w) := by
  have d1 : decide ((l.length : Int) > 2147483647) = false := decide_eq_false (by omega)
  have d2 : decide ((t.size : Int) > 2147483647) = false := decide_eq_false (by omega)
  have d3 : ((l.length : Int) == 0) = false := by rw [beq_eq_false_iff_ne]; omega
  have HT := Aside0.mk hT
  have HC := Aside0.mk hC
  have HL := Aside0.mk hc
  have HK := Aside0.mk hk
  have H7 := Aside0.mk h7
  have HB := Aside0.mk hb
  have HB0 := Aside0.mk hb0
  have HS := Aside0.mk hs
  have HP := Aside0.mk hp
  have H8 := Aside0.mk h8
  have H80 := Aside0.mk h80
  have H9 := Aside0.mk h9
  have HM := Aside0.mk hm
  have HMW := Aside0.mk hmw
  have HX := Aside0.mk hx
  have EPS := Aside0.mk eps
  have HZ2 := Aside0.mk (show (bts s2).length ≤ 10000 by rw [bts_length]; exact hz2)
  clear eps hT hC hc hk h7 hb hb0 hs hp h8 h80 h9 hm hmw hx h0
  go_enter Tryz.func3, Tryz.ntmps3
  go_wp2_with (first
    | (go_at_call 4; refine (spec_IsMadeCall.calls k 6 0 0 0 A c l none 0 [] t true _ (Kd.C_below HC.out (below_alloc (Below.refl _ _) _)) HL.out (Kd.C_nil _ _) (Nat.le_refl _) HK.out).mono ?_; rintro e w2 ⟨rfl, hb⟩; have B2 := Aside0.mk (Below.trans (below_alloc (Below.refl w.heap.size w) _) (hb.mono (by simp))); have BK := Aside0.mk (blk_below (blk_new w _) hb); clear hb; have r0 := (blk_cell BK.out 0).trans rfl; have r1 := (blk_cell BK.out 1).trans rfl; have r2 := (blk_cell BK.out 2).trans rfl; have r3 := (blk_cell BK.out 3).trans rfl; have r4 := (blk_cell BK.out 4).trans rfl; have r5 := (blk_cell BK.out 5).trans rfl; have r6 := (blk_cell BK.out 6).trans rfl)
    | (go_at_call 7; refine (spec_MadeBy.calls k7 6 0 0 0 A c l none 0 [] t s _ (Kd.C_below HC.out B2.out) HL.out (Kd.C_nil _ _) (Nat.le_refl _) H7.out).mono ?_; rintro e w3 ⟨rfl, hb⟩; have B3 := Aside0.mk (B2.out.trans (hb.mono B2.out.size)); clear hb BK r0 r1 r2 r3 r4 r5 r6)
    | (go_at_call 6; refine (Sequences_calls w3 s body st HB.out HB0.out hbl HS.out hps HP.out).mono ?_; rintro e w4 ⟨g, c4, A4, cp4, rfl, hq⟩; rw [EPS.out] at hq; have Q4 := Aside0.mk hq; have B4 := Aside0.mk (B3.out.trans (hq.2.2.2.mono B3.out.size)); have q0 := hq.1 0 _ rfl; have q1 := hq.1 1 _ rfl; have q2 := hq.1 2 _ rfl; have q3 := hq.1 3 _ rfl; have q4 := hq.1 4 _ rfl; have q5 := hq.1 5 _ rfl; have q6 := hq.1 6 _ rfl; clear hq)
    | (go_at_call 8; refine (spec_EventsOf.calls 100 1 0 A4 cp4 ps none 0 [] 109 none 0 [] false [ev] w4 Q4.out.2.2.1 Q4.out.2.1 (Kd.C_nil _ _) (Nat.le_refl _) (Kd.C_nil _ _) (Nat.le_refl _) H8.out).mono ?_; rintro e w5 ⟨v5, rfl, hN, hb⟩; have N5 := Aside0.mk (Kd.N_mono (ok' := fun k_ => w.heap.size ≤ k_) (Kd.N_lower hN B4.out.size) (fun k_ hk_ => Nat.le_trans B4.out.size hk_)); have B5 := Aside0.mk (B4.out.trans (hb.mono B4.out.size)); clear hN hb q0 q1 q2 q3 q4 q5 q6 Q4))
  go_loopg [8, 9] t.size (fun kq v8 v9 w' => ∃ i : Nat, v9 = .int .i64 i ∧ kq + i = t.size ∧ Aside0 (Kd.N k39 39 w' w.heap.size (fun k_ => w.heap.size ≤ k_) v8 (ev :: letters ((bts t).take i))) ∧ Aside0 (Below w.heap.size w w'))
  case atStart => exact ⟨0, rfl, by omega, ⟨by rw [List.take_zero]; exact N5.out⟩, B5⟩
  case round =>
    clear N5 B5 B4 B3 B2
    obtain ⟨i, rfl, hk, N8, B8⟩ := hrel
    by_cases hi : i < t.size
    · have d4 : decide ((i : Int) < (t.size : Int)) = true := decide_eq_true (by omega)
      have hw : wrap64 ((i : Int) + 1) = ((i + 1 : Nat) : Int) := by unfold wrap64; omega
      have hlen : (ev :: letters ((bts t).take i)).length ≤ 101 := by rw [List.length_cons, letters_len, List.length_take]; omega
      have hsz : ((ev :: letters ((bts t).take i)).length + 1) * 80 ≤ 140737488355328 := by omega
      have HSZ := Aside0.mk hsz
      clear hlen hsz
      obtain ⟨b, hb⟩ : ∃ b : Nat, b = (t[i]'hi).toNat := ⟨_, rfl⟩
      have LT := Aside0.mk (show letters ((bts t).take (i + 1)) = letters ((bts t).take i) ++ [⟨0, (b : Int), 0, 0, [], []⟩] by
        have hib : i < (bts t).length := by rw [bts_length]; exact hi
        have e : (bts t)[i] = b := by
          rw [hb]
          simp only [bts, List.getElem_map]
          rfl
        rw [letters_take _ i hib, e])
      have hcv : wrap64 ((t[i]'hi).toNat : Int) = (b : Int) := by
        rw [hb]
        exact u8_wrap _
      clear hb
      go_wp2_with (at_builtin; refine Kd.N_append k39 (w0 := w) w.heap.size rfl (.tmp 56) (.tmp 62) 32 39 (.agg #[(.int .i64 0), (.int .i64 0), (.int .u8 0), (.int .i64 0), (.slice none 0 0), (.slice none 0 0)]) 80 rfl Tryz.underlying32 info39 rfl (by decide) (by decide) u8 (ev :: letters ((bts t).take i)) ⟨0, (b : Int), 0, 0, [], []⟩ [.int .i64 0, .int .i64 b, .int .u8 0, .int .i64 0, .slice none 0 0, .slice none 0 0] (fun k_ => w.heap.size ≤ k_) (fun k_ => w.heap.size ≤ k_ ∧ some k_ ≠ u8.ownBlock) rfl rfl (k39_mkF _ _ (⟨0, (b : Int), 0, 0, [], []⟩ : S39) (Nat.le_refl _) (Kd.F_nil _ _ _) (Nat.le_refl _) (Kd.F_nil _ _ _)) (fun _ hk_ => hk_) (fun k_ hk_ => Nat.le_trans B8.out.size hk_) N8.out B8.out B8.out.size HSZ.out ?_; intro v1 w6 ho hb6 hg6 hat6; have N9 := Aside0.mk ho; have B9 := Aside0.mk hb6; clear ho hb6 hg6 hat6)
      clear hcv
      go_roundg (t.size - (i + 1))
      case measure => omega
      case rel => exact ⟨i + 1, by simp, by omega, ⟨by rw [LT.out]; exact N9.out⟩, B9⟩
    · obtain rfl : i = t.size := by omega
      have d4 : decide ((t.size : Int) < (t.size : Int)) = false := decide_eq_false (by omega)
      have LT8 := Aside0.mk (Kd.N_lt N8.out)
      obtain ⟨LL, eLL⟩ : ∃ LL, LL = m.evs.map as39 := ⟨_, rfl⟩
      have LW := Aside0.mk (show (ev :: letters ((bts t).take t.size)) ++ [ev0] = LL by
        rw [List.take_of_length_le (by rw [bts_length]; exact Nat.le_refl _), eLL, HMW.out])
      have HS10 := Aside0.mk (show spec_SameEvents.f (LL.length + 300) LL LL = some true by
        rw [eLL]
        exact sameEvents_f _ (by rw [List.length_map]; exact hml) HX.out)
      have HA11 := Aside0.mk (show laws_asEvents.f (m.evs.length + 1) m.evs = some LL by rw [eLL]; exact asEvents_f m.evs hml)
      have hlen : (ev :: letters ((bts t).take t.size)).length ≤ 101 := by rw [List.length_cons, letters_len, List.length_take]; omega
      clear eLL
      go_wp2_with (first
        | (go_at_call 8; refine (spec_EventsOf.calls 100 1 0 none 0 [] none 0 [] 109 none 0 [] false [ev0] wr (Kd.C_nil _ _) (Nat.le_refl _) (Kd.C_nil _ _) (Nat.le_refl _) (Kd.C_nil _ _) (Nat.le_refl _) H80.out).mono ?_; rintro e w7 ⟨v7, rfl, hN, hb⟩; obtain ⟨A7, c7, rfl⟩ := Kd.N_slice hN; have N8b := Aside0.mk (Kd.N_below N8.out hb); have F7 := Aside0.mk (Kd.N_F hN); have B7 := Aside0.mk (B8.out.trans (hb.mono B8.out.size)); clear hN hb)
        | (at_builtin; refine Kd.N_append_rows k39 (w0 := w) w.heap.size rfl (.tmp 64) (.tmp 66) 32 39 (.agg #[(.int .i64 0), (.int .i64 0), (.int .u8 0), (.int .i64 0), (.slice none 0 0), (.slice none 0 0)]) 80 rfl Tryz.underlying32 info39 rfl (by decide) (by omega) u8 (ev :: letters ((bts t).take t.size)) [ev0] A7 1 c7 (fun k_ => w.heap.size ≤ k_) (fun k_ => wr.heap.size ≤ k_) rfl rfl N8b.out F7.out (fun k_ hk_ => ⟨Nat.le_trans B8.out.size hk_, fun e_ => by have := LT8.out k_ e_.symm; omega⟩) (fun k_ hk_ => Nat.le_trans B7.out.size hk_) B7.out B7.out.size (by omega) ?_; intro v1 w8 ho hb8 hg8 hat8; rw [LW.out] at ho; obtain ⟨A8, c8, rfl, hle8, hC8⟩ := Kd.N_reads ho; have C8 := Aside0.mk hC8; have L8 := Aside0.mk hle8; have BB8 := Aside0.mk hb8; clear ho hb8 hg8 hat8 hle8 hC8 N8 N8b F7 LT8)
        | (go_at_call 9; refine (impl_StyleRun.calls k9 A c l none 0 [] t s1 s2 w8 (HT.out.below BB8.out) (Kd.C_below HC.out BB8.out) HL.out (Kd.C_nil _ _) (Nat.le_refl _) H9.out).mono ?_; rintro e w9 ⟨rfl, hb⟩; have C9 := Aside0.mk (Kd.C_below C8.out hb); have B9 := Aside0.mk (BB8.out.trans (hb.mono BB8.out.size)); clear hb C8)
        | (go_at_call 5; refine (laws_styleAwake.calls 20 true w9 (HT.out.below B9.out) styleAwake_f).mono ?_; rintro e w10 ⟨rfl, hb⟩; have C10 := Aside0.mk (Kd.C_below C9.out hb); have B10 := Aside0.mk (B9.out.trans (hb.mono B9.out.size)); clear hb C9
           obtain ⟨W1, e1⟩ : ∃ W, W = Lib.bytesWorld w10 5 s2 := ⟨_, rfl⟩
           obtain ⟨cap, e2⟩ : ∃ c, c = grownCap w10 s2.size 0 5 := ⟨_, rfl⟩
           have hcv := print_bytes (P := Tryz.prog) 9 35 5 Tryz.underlying9 Tryz.underlying35 Tryz.underlying5 s2 w10
           rw [← e1, ← e2, show s2.size = (ints8 (bts s2)).length by rw [ints8_len, bts_length]] at hcv
           have HBW := Aside0.mk (show Below w10.heap.size w10 W1 by rw [e1]; exact bytes_below (Below.refl _ _) (Nat.le_refl _) 5 s2)
           have HC1 := Aside0.mk (show Kd.C (Kd.int .u8) W1 (some ⟨w10.heap.size, 0, none⟩) (ints8 (bts s2)).length (ints8 (bts s2)) by rw [e1]; exact bytes_C w10 s2 (by omega))
           have C11 := Aside0.mk (Kd.C_below C10.out HBW.out)
           have B11 := Aside0.mk (B10.out.trans (HBW.out.mono B10.out.size))
           clear e1 e2 C10)
        | (go_at_call 12; refine (Feed_calls W1 _ cap (bts s2) m HC1.out HZ2.out HM.out).mono ?_; rintro e w12 ⟨v12, rfl, hR, hb⟩; obtain ⟨A12, c12, rfl⟩ := Kd.R_slice hR; have V12 := Aside0.mk (Kd.N_V (base' := w12.heap.size) (Kd.R_N hR)); have C12 := Aside0.mk (Kd.C_below C11.out hb); have B12 := Aside0.mk (B11.out.trans (hb.mono B11.out.size)); clear hR hb hcv HC1 C11)
        | (go_at_call 11; refine (laws_asEvents.calls (m.evs.length + 1) (fun _ => True) A12 c12 m.evs LL w12 V12.out HA11.out).mono ?_; rintro e w13 ⟨v13, rfl, hN, hb⟩; obtain ⟨A13, c13, rfl, hle13, hC13⟩ := Kd.N_reads hN; have L13 := Aside0.mk hle13; have CC13 := Aside0.mk hC13; have C13 := Aside0.mk (Kd.C_below C12.out hb); have B13 := Aside0.mk (B12.out.trans (hb.mono B12.out.size)); clear hN hb hle13 hC13 C12)
        | (go_at_call 10; refine (spec_SameEvents.calls (LL.length + 300) A13 c13 LL A8 c8 LL true w13 CC13.out L13.out C13.out L8.out HS10.out).mono ?_; rintro e w14 ⟨rfl, hb⟩; have B14 := Aside0.mk (B13.out.trans (hb.mono B13.out.size)); clear hb))
      go_ret
      exact ⟨rfl, B14.out⟩
theorem ints8_of (l : List Int) (h : ∀ x ∈ l, 0 ≤ x ∧ x ≤ 60000) : ∃ ns : List Nat, l = ints8 ns ∧ ∀ n ∈ ns, n ≤ 60000 := by
  refine ⟨l.map Int.toNat, ?_, ?_⟩
  · induction l with
    | nil => rfl
    | cons x l ih =>
      have h1 := (h x (by simp)).1
      have h2 := ih (fun y hy => h y (List.mem_cons_of_mem _ hy))
      show x :: l = ((x.toNat : Nat) : Int) :: ints8 (l.map Int.toNat)
      rw [← h2, Int.toNat_of_nonneg h1]
  · intro n hn
    obtain ⟨x, hx, rfl⟩ := List.mem_map.1 hn
    have := h x hx
    omega
theorem joinD_ne (a : Nat) (ns : List Nat) : joinD (a :: ns) ≠ [] := by
  rw [joinD_eq]
  have : dig a ≠ [] := by
    by_cases h : a < 10
    · rw [dig_small h]; simp
    · rw [dig_big h]; simp
  intro h
  exact this (List.append_eq_nil_iff.1 h).1
theorem tails_len : ∀ (l : List Nat), (∀ x ∈ l, x ≤ 60000) → (tails (l.map dig)).length ≤ 6 * l.length
  | [], _ => by simp [tails]
  | a :: l, h => by
    have h1 := dig_len a (h a (by simp))
    have h2 := tails_len l (fun x hx => h x (List.mem_cons_of_mem _ hx))
    simp only [tails, List.map_cons, List.flatMap_cons, List.length_append, List.length_cons] at h2 ⊢
    omega
theorem joinD_len (a : Nat) (ns : List Nat) (h : ∀ x ∈ a :: ns, x ≤ 60000) (hl : ns.length < 12) : (joinD (a :: ns)).length ≤ 100 := by
  rw [joinD_eq, List.length_append]
  have h1 := dig_len a (h a (by simp))
  have h2 := tails_len ns (fun x hx => h x (List.mem_cons_of_mem _ hx))
  omega
/-- The law's contract. -/
theorem law_calls (w : World) (A : Option Addr) (c : Nat) (l : List Int) (t : ByteArray) (hT : HasTab w) (hC : Kd.C (Kd.int .i64) w A l.length l) (hc : l.length ≤ c) :
    Calls Tryz.prog 3 #[.slice A l.length c, .string t] w (LawPost w) := by
  by_cases h1 : 2147483647 < l.length
  · exact law_long w A c _ t h1
  by_cases h2 : 2147483647 < t.size
  · exact law_text w A c _ t (by omega) h2
  by_cases h0 : l.length = 0
  · rw [h0]
    exact law_none w A c t hT (by omega)
  obtain ⟨k, r, hk, hr⟩ := isMade_f l t (by omega) (by omega)
  cases r with
  | false => exact law_other w A c l t hT hC hc (by omega) (by omega) (by omega) k hk
  | true =>
    obtain ⟨p1, p2, p3, p4⟩ := hr rfl
    obtain ⟨ns0, e1, hx⟩ := ints8_of l p1
    have hln : ns0.length = l.length := by rw [e1, ints8_len]
    obtain ⟨a, ns, rfl⟩ := List.exists_cons_of_length_pos (l := ns0) (by omega)
    have hnl : ns.length < 12 := by simp at hln; omega
    obtain ⟨s, h7, hs⟩ := madeBy_f a ns hnl hx t 70000 (by omega)
    obtain ⟨s1, s2, h9, hs2⟩ := styleRun_f a ns hnl hx t (by omega) 1000 (by omega)
    obtain ⟨st, hb, hps⟩ := rrun_join ns a hx true [] (by simp; omega)
    obtain ⟨m, hm, he⟩ := mrun_styled a ns (bts t) hx hnl p4
    have hjl := joinD_len a ns hx hnl
    have hpl : st.ps.length + 1 = ns.length + 1 := by have := congrArg List.length hps; simpa using this
    rw [List.nil_append] at hps
    have e2 : bts s2 = (27 :: 91 :: joinD (a :: ns) ++ [109]) ++ bts t ++ [27, 91, 109] := by rw [hs2]; rfl
    have hz2 : s2.size ≤ 10000 := by
      rw [← bts_length, e2]
      simp only [List.length_append, List.length_cons, List.length_nil, bts_length]
      omega
    have hel : m.evs.length ≤ 100000 := by
      rw [he]
      simp only [List.length_append, List.length_cons, List.length_nil, List.length_map, bts_length]
      omega
    have hw : m.evs.map as39 = (⟨2, 0, 0, 109, ints8 (a :: ns), []⟩ : S39) :: letters (bts t) ++ [⟨2, 0, 0, 109, ints8 [], []⟩] := by
      rw [he]
      simp only [List.map_append, List.map_cons, List.map_nil, List.map_map]
      rfl
    rw [← e1] at h7 h9
    refine law_main w A c l t hT hC hc (by omega) p2 p3 k hk 70000 s h7 (joinD (a :: ns)) st hb (joinD_ne a ns) (by omega) hs (by omega) ((a :: ns).map par) hps ?_ ⟨2, 0, 0, 109, ints8 (a :: ns), []⟩ ⟨2, 0, 0, 109, ints8 [], []⟩
      (events_f (a :: ns) (by simp; omega) hx 100 (by omega)) (events_f [] (by simp) (by simp) 100 (by omega)) 1000 s1 s2 h9 hz2 m (by rw [e2]; exact hm) hel hw ?_
    · intro p hp
      rw [hps] at hp
      obtain ⟨n, hn, rfl⟩ := List.mem_map.1 hp
      have := hx n hn
      refine ⟨?_, ?_, rfl, rfl⟩ <;> simp only [par] <;> omega
    · intro e hm'
      rw [hw] at hm'
      simp only [List.mem_cons, List.mem_append, List.not_mem_nil, or_false, letters, List.mem_map] at hm'
      rcases hm' with (rfl | ⟨x, _, rfl⟩) | rfl
      · exact ⟨by rw [ints8_len]; simp; omega, rfl⟩
      · exact ⟨by simp, rfl⟩
      · exact ⟨by simp [ints8], rfl⟩
end Go.Proofs.YtjdpkhnpgdangaaGreatDoor.PQ
