/- What the law's functions tell, as plain functions: numerals, joined texts, events. No program's memory stands in it. -/
import Derived.Test.YtjdpkhnpgdangaaGreatDoorPb0
import Derived.Test.YtjdpkhnpgdangaaGreatDoorPa8
import Derived.Test.YtjdpkhnpgdangaaGreatDoorPQx1
import Derived.Test.YtjdpkhnpgdangaaGreatDoorPQx3
import Derived.Test.YtjdpkhnpgdangaaGreatDoorPQx4
import Derived.Test.YtjdpkhnpgdangaaGreatDoorPQx5
import Derived.Test.YtjdpkhnpgdangaaGreatDoorPQy2
import Derived.Test.YtjdpkhnpgdangaaGreatDoorPQy3
import Derived.Test.YtjdpkhnpgdangaaGreatDoorPd0
namespace Go.Proofs.YtjdpkhnpgdangaaGreatDoor.PQ
open Go.RowKit Go.Proofs.YtjdpkhnpgdangaaGreatDoorW.PrintWords Go.Proofs.YtjdpkhnpgdangaaGreatDoorW.PrintLast Go.Proofs.YtjdpkhnpgdangaaGreatDoorW.PrintMore
set_option linter.unusedVariables false
set_option linter.unusedSimpArgs false
/-- A text's bytes, as numbers. -/
def bts (s : ByteArray) : List Nat := s.data.toList.map UInt8.toNat
theorem bts_append (a b : ByteArray) : bts (a ++ b) = bts a ++ bts b := by
  unfold bts
  rw [show (a ++ b).data = a.data ++ b.data from ByteArray.data_append]
  simp
theorem bts_length (a : ByteArray) : (bts a).length = a.size := by
  unfold bts
  rw [List.length_map]
  exact data_length a
theorem decDigits_bts (n : Nat) (h : n ≤ 60000) : (Lib.decDigits n).map UInt8.toNat = dig n := by
  induction n using Nat.strongRecOn with
  | _ n ih =>
    by_cases h1 : n < 10
    · rw [dig_small h1, Lib.decDigits_one h1]
      have : (UInt8.ofNat (48 + n)).toNat = 48 + n := by simp; omega
      simp [this]
      omega
    · rw [dig_big h1, Lib.decDigits, dif_neg h1, List.map_append, ih (n / 10) (by omega) (by omega)]
      congr 1
      simp
      omega
theorem dig_len (n : Nat) (h : n ≤ 60000) : (dig n).length ≤ 5 := by
  rw [← decDigits_bts n h, List.length_map, Lib.decDigits_length]
  have e1 : ∀ m, m < 10 → Lib.nDigits m = 1 := fun m hm => Lib.nDigits_small hm
  have e2 : ∀ m, m < 100 → Lib.nDigits m ≤ 2 := fun m hm => by
    by_cases h : m < 10
    · rw [e1 m h]; omega
    · rw [Lib.nDigits_big h, e1 _ (by omega)]; omega
  have e3 : ∀ m, m < 1000 → Lib.nDigits m ≤ 3 := fun m hm => by
    by_cases h : m < 10
    · rw [e1 m h]; omega
    · rw [Lib.nDigits_big h]; have := e2 (m / 10) (by omega); omega
  have e4 : ∀ m, m < 10000 → Lib.nDigits m ≤ 4 := fun m hm => by
    by_cases h : m < 10
    · rw [e1 m h]; omega
    · rw [Lib.nDigits_big h]; have := e3 (m / 10) (by omega); omega
  by_cases h' : n < 10
  · rw [e1 n h']; omega
  · rw [Lib.nDigits_big h']; have := e4 (n / 10) (by omega); omega
theorem itoa_bts (n : Nat) (h : n ≤ 60000) : bts (itoaBA (n : Int)) = dig n := by
  unfold bts itoaBA
  rw [Lib.itoa_nonneg]
  simpa using decDigits_bts n h
theorem digits_f (n : Nat) (hn : n ≤ 60000) : ∀ k, n < k → ∃ b, spec_Digits.f k (n : Int) = some b ∧ bts b = dig n := by
  induction n using Nat.strongRecOn with
  | _ n ih =>
    intro k hk
    obtain ⟨k, rfl⟩ : ∃ m, k = m + 1 := ⟨k - 1, by omega⟩
    by_cases h1 : n < 10
    · refine ⟨strOfNums [(wrap64 (48 + (n : Int))) % 256], ?_, ?_⟩
      · simp only [spec_Digits.f]
        rw [if_neg (by omega), if_pos (by omega)]
      · rw [dig_small h1]
        have e : (wrap64 (48 + (n : Int))) % 256 = ((48 + n : Nat) : Int) := by unfold wrap64; omega
        rw [e]
        simp [bts, strOfNums]
        omega
    · obtain ⟨b1, h2, h3⟩ := ih (n / 10) (by omega) (by omega) k (by omega)
      obtain ⟨b2, h4, h5⟩ := ih (n % 10) (by omega) (by omega) k (by omega)
      have e1 : wrap64 (Int.tdiv (n : Int) 10) = ((n / 10 : Nat) : Int) := by
        rw [Int.tdiv_eq_ediv_of_nonneg (by omega)]
        unfold wrap64
        omega
      have e2 : Int.tmod (n : Int) 10 = ((n % 10 : Nat) : Int) := by
        rw [Int.tmod_eq_emod_of_nonneg (by omega)]
        omega
      have l1 := dig_len (n / 10) (by omega)
      have l2 := dig_len (n % 10) (by omega)
      rw [← h3, bts_length] at l1
      rw [← h5, bts_length] at l2
      refine ⟨b1 ++ b2, ?_, ?_⟩
      · simp only [spec_Digits.f]
        rw [if_neg (by omega), if_neg (by omega), e1, h2]
        simp only [Option.bind_some]
        rw [e2, h4]
        simp only [Option.bind_some]
        rw [if_pos (by omega)]
      · rw [bts_append, h3, h5, dig_big h1, dig_small (show n % 10 < 10 by omega)]
/-! ### Texts with a semicolon between -/
def tails (l : List (List Nat)) : List Nat := l.flatMap fun x => 59 :: x
theorem joinD_eq : ∀ (l : List Nat) (a : Nat), joinD (a :: l) = dig a ++ tails (l.map dig)
  | [], a => by simp [joinD, tails]
  | b :: l, a => by
    show dig a ++ 59 :: joinD (b :: l) = _
    rw [joinD_eq l b]
    simp [tails]
theorem rdOf_at (l : List ByteArray) (i : Nat) (h : i < l.length) : rdOf ByteArray.empty l (i : Int) = l[i] := by
  simp [rdOf, List.getD_eq_getElem?_getD, List.getElem?_eq_getElem h]
theorem wrap_up {i : Nat} (h : i ≤ 1000000) : wrap64 ((i : Int) + 1) = ((i + 1 : Nat) : Int) := by unfold wrap64; omega
def semi : ByteArray := ⟨#[59]⟩
theorem semi_bts : bts semi = [59] := rfl
theorem xansi_zzJoin_tail (l : List ByteArray) (hl : l.length ≤ 1000) (hx : ∀ x ∈ l, x.size ≤ 5) : ∀ (d k i : Nat) (acc : ByteArray), 0 < i → i + d = l.length → d < k → acc.size ≤ 100 * i →
    ∃ r, xansi_zzJoin.l0 k semi acc l (l.length : Int) (i : Int) = some r ∧ bts r = bts acc ++ tails ((l.drop i).map bts) ∧ r.size ≤ 100 * l.length
  | 0, k, i, acc, h0, hi, hk, ha => by
    obtain ⟨k, rfl⟩ : ∃ m, k = m + 1 := ⟨k - 1, by omega⟩
    refine ⟨acc, ?_, ?_, by rw [show l.length = i by omega]; exact ha⟩
    · simp only [xansi_zzJoin.l0]
      rw [if_neg (by omega)]
    · rw [List.drop_eq_nil_of_le (by omega)]
      simp [tails]
  | d + 1, k, i, acc, h0, hi, hk, ha => by
    obtain ⟨k, rfl⟩ : ∃ m, k = m + 1 := ⟨k - 1, by omega⟩
    have hlt : i < l.length := by omega
    have hs := hx _ (List.getElem_mem hlt)
    have hsz : semi.size = 1 := rfl
    have h1 : (acc ++ semi).size = acc.size + 1 := by rw [ByteArray.size_append, hsz]
    have h2 : ((acc ++ semi) ++ l[i]).size = acc.size + 1 + l[i].size := by rw [ByteArray.size_append, h1]
    obtain ⟨r, e1, e2, e3⟩ := xansi_zzJoin_tail l hl hx d k (i + 1) ((acc ++ semi) ++ l[i]) (by omega) (by omega) (by omega) (by omega)
    refine ⟨r, ?_, ?_, e3⟩
    · simp only [xansi_zzJoin.l0]
      rw [if_pos (by omega), if_pos (by omega), if_pos (by omega), if_pos (by omega), rdOf_at l i hlt, if_pos (by omega), if_pos (by omega), wrap_up (by omega)]
      exact e1
    · have e4 : (l.drop i).map bts = bts l[i] :: (l.drop (i + 1)).map bts := by rw [List.drop_eq_getElem_cons hlt]; rfl
      rw [e2, bts_append, bts_append, semi_bts, e4]
      simp only [tails, List.flatMap_cons, List.append_assoc, List.cons_append, List.nil_append]
theorem xansi_zzJoin_all (l : List ByteArray) (hl : l.length ≤ 1000) (hp : 0 < l.length) (hx : ∀ x ∈ l, x.size ≤ 5) (k : Nat) (hk : l.length < k) :
    ∃ r, xansi_zzJoin.f k l semi = some r ∧ bts r = (l.headD ⟨#[]⟩ |> bts) ++ tails ((l.drop 1).map bts) ∧ r.size ≤ 100000 := by
  obtain ⟨k, rfl⟩ : ∃ m, k = m + 1 := ⟨k - 1, by omega⟩
  have hs := hx _ (List.getElem_mem hp)
  have hz : (⟨#[]⟩ : ByteArray).size = 0 := rfl
  have h1 : ((⟨#[]⟩ : ByteArray) ++ l[0]).size = l[0].size := by rw [ByteArray.size_append, hz, Nat.zero_add]
  obtain ⟨r, e1, e2, e3⟩ := xansi_zzJoin_tail l hl hx (l.length - 1) k 1 ((⟨#[]⟩ : ByteArray) ++ l[0]) (by omega) (by omega) (by omega) (by omega)
  refine ⟨r, ?_, ?_, by omega⟩
  · unfold xansi_zzJoin.f
    simp only [xansi_zzJoin.l0]
    have e0 : rdOf ByteArray.empty l 0 = l[0] := rdOf_at l 0 hp
    have hw : wrap64 (0 + 1) = ((1 : Nat) : Int) := by unfold wrap64; omega
    rw [if_pos (by omega), if_pos (by omega), if_pos (by omega), if_neg (by omega), e0, if_pos (by omega), hw]
    exact e1
  · rw [e2, bts_append]
    obtain ⟨a, t, rfl⟩ := List.exists_cons_of_length_pos hp
    simp [bts]
theorem spec_madeJoined_tail (l : List ByteArray) (hl : l.length ≤ 1000) (hx : ∀ x ∈ l, x.size ≤ 5) : ∀ (d k i : Nat) (acc : ByteArray), 0 < i → i + d = l.length → d < k → acc.size ≤ 100 * i →
    ∃ r, spec_madeJoined.l0 k semi acc l (l.length : Int) (i : Int) = some r ∧ bts r = bts acc ++ tails ((l.drop i).map bts) ∧ r.size ≤ 100 * l.length
  | 0, k, i, acc, h0, hi, hk, ha => by
    obtain ⟨k, rfl⟩ : ∃ m, k = m + 1 := ⟨k - 1, by omega⟩
    refine ⟨acc, ?_, ?_, by rw [show l.length = i by omega]; exact ha⟩
    · simp only [spec_madeJoined.l0]
      rw [if_neg (by omega)]
    · rw [List.drop_eq_nil_of_le (by omega)]
      simp [tails]
  | d + 1, k, i, acc, h0, hi, hk, ha => by
    obtain ⟨k, rfl⟩ : ∃ m, k = m + 1 := ⟨k - 1, by omega⟩
    have hlt : i < l.length := by omega
    have hs := hx _ (List.getElem_mem hlt)
    have hsz : semi.size = 1 := rfl
    have h1 : (acc ++ semi).size = acc.size + 1 := by rw [ByteArray.size_append, hsz]
    have h2 : ((acc ++ semi) ++ l[i]).size = acc.size + 1 + l[i].size := by rw [ByteArray.size_append, h1]
    obtain ⟨r, e1, e2, e3⟩ := spec_madeJoined_tail l hl hx d k (i + 1) ((acc ++ semi) ++ l[i]) (by omega) (by omega) (by omega) (by omega)
    refine ⟨r, ?_, ?_, e3⟩
    · simp only [spec_madeJoined.l0]
      rw [if_pos (by omega), if_pos (by omega), if_pos (by omega), if_pos (by omega), rdOf_at l i hlt, if_pos (by omega), if_pos (by omega), wrap_up (by omega)]
      exact e1
    · have e4 : (l.drop i).map bts = bts l[i] :: (l.drop (i + 1)).map bts := by rw [List.drop_eq_getElem_cons hlt]; rfl
      rw [e2, bts_append, bts_append, semi_bts, e4]
      simp only [tails, List.flatMap_cons, List.append_assoc, List.cons_append, List.nil_append]
theorem spec_madeJoined_all (l : List ByteArray) (hl : l.length ≤ 1000) (hp : 0 < l.length) (hx : ∀ x ∈ l, x.size ≤ 5) (k : Nat) (hk : l.length < k) :
    ∃ r, spec_madeJoined.f k l semi = some r ∧ bts r = (l.headD ⟨#[]⟩ |> bts) ++ tails ((l.drop 1).map bts) ∧ r.size ≤ 100000 := by
  obtain ⟨k, rfl⟩ : ∃ m, k = m + 1 := ⟨k - 1, by omega⟩
  have hs := hx _ (List.getElem_mem hp)
  have hz : (⟨#[]⟩ : ByteArray).size = 0 := rfl
  have h1 : ((⟨#[]⟩ : ByteArray) ++ l[0]).size = l[0].size := by rw [ByteArray.size_append, hz, Nat.zero_add]
  obtain ⟨r, e1, e2, e3⟩ := spec_madeJoined_tail l hl hx (l.length - 1) k 1 ((⟨#[]⟩ : ByteArray) ++ l[0]) (by omega) (by omega) (by omega) (by omega)
  refine ⟨r, ?_, ?_, by omega⟩
  · unfold spec_madeJoined.f
    simp only [spec_madeJoined.l0]
    have e0 : rdOf ByteArray.empty l 0 = l[0] := rdOf_at l 0 hp
    have hw : wrap64 (0 + 1) = ((1 : Nat) : Int) := by unfold wrap64; omega
    rw [if_pos (by omega), if_pos (by omega), if_pos (by omega), if_neg (by omega), e0, if_pos (by omega), hw]
    exact e1
  · rw [e2, bts_append]
    obtain ⟨a, t, rfl⟩ := List.exists_cons_of_length_pos hp
    simp [bts]
/-! ### The style's text -/
theorem rd_at (l : List Int) (i : Nat) (h : i < l.length) : rd l (i : Int) = l[i] := by
  simp [rd, List.getD_eq_getElem?_getD, List.getElem?_eq_getElem h]
theorem parts_l0 (ns : List Nat) (hn : ns.length ≤ 12) (hx : ∀ x ∈ ns, x ≤ 60000) : ∀ (d k i : Nat) (acc : List ByteArray), i + d = ns.length → d + 60002 < k → acc.map bts = (ns.take i).map dig →
    ∃ r, spec_StyleParts.l0 k [] acc (ints8 ns) ((ints8 ns).length : Int) (i : Int) = some r ∧ r.map bts = ns.map dig
  | 0, k, i, acc, hi, hk, ha => by
    obtain ⟨k, rfl⟩ : ∃ m, k = m + 2 := ⟨k - 2, by omega⟩
    refine ⟨acc, ?_, by rw [ha, List.take_of_length_le (by omega)]⟩
    simp only [spec_StyleParts.l0]
    rw [if_neg (by rw [ints8_len]; omega)]
    simp only [spec_StyleParts.l1]
    rw [if_neg (by simp)]
  | d + 1, k, i, acc, hi, hk, ha => by
    obtain ⟨k, rfl⟩ : ∃ m, k = m + 1 := ⟨k - 1, by omega⟩
    have hlt : i < ns.length := by omega
    have hxi := hx _ (List.getElem_mem hlt)
    have e0 : rd (ints8 ns) (i : Int) = ((ns[i] : Nat) : Int) := by
      rw [rd_at _ i (by rw [ints8_len]; exact hlt)]
      simp [ints8]
    have e1 : mx ((ns[i] : Nat) : Int) 0 = ((ns[i] : Nat) : Int) := by unfold mx; rw [if_neg (by omega)]
    obtain ⟨b, hb, hb2⟩ := digits_f ns[i] hxi k (by omega)
    have hal : acc.length = i := by have := congrArg List.length ha; simp at this; omega
    obtain ⟨r, h1, h2⟩ := parts_l0 ns hn hx d k (i + 1) (acc ++ [b]) (by omega) (by omega) (by rw [List.map_append, ha, show ns.take (i + 1) = ns.take i ++ [ns[i]] by rw [List.take_add_one, List.getElem?_eq_getElem hlt]; rfl, List.map_append]; simp only [List.map_cons, List.map_nil, hb2])
    refine ⟨r, ?_, h2⟩
    simp only [spec_StyleParts.l0]
    rw [if_pos (by rw [ints8_len]; omega), if_pos (by omega), if_pos (by rw [ints8_len]; omega), e0, e1, hb]
    simp only [Option.bind_some]
    rw [if_pos (by omega), wrap_up (by omega)]
    exact h1
theorem sizes_of {l : List ByteArray} {ns : List Nat} (h : l.map bts = ns.map dig) (hx : ∀ x ∈ ns, x ≤ 60000) : ∀ x ∈ l, x.size ≤ 5 := by
  intro x hm
  have h1 : bts x ∈ ns.map dig := by rw [← h]; exact List.mem_map_of_mem hm
  obtain ⟨n, hn, e⟩ := List.mem_map.1 h1
  have := dig_len n (hx n hn)
  rw [e, bts_length] at this
  exact this
theorem heads_of {l : List ByteArray} {a : Nat} {ns : List Nat} (h : l.map bts = (a :: ns).map dig) : ((l.headD ⟨#[]⟩ |> bts) ++ tails ((l.drop 1).map bts)) = joinD (a :: ns) := by
  cases l with
  | nil => simp at h
  | cons b l =>
    simp only [List.map_cons, List.cons.injEq] at h
    rw [joinD_eq]
    simp [h.1, h.2]
theorem madeBy_f (a : Nat) (ns : List Nat) (hn : ns.length < 12) (hx : ∀ x ∈ a :: ns, x ≤ 60000) (t : ByteArray) (k : Nat) (hk : 70000 ≤ k) :
    ∃ s, spec_MadeBy.f k 6 0 0 0 (ints8 (a :: ns)) [] t = some s ∧ bts s = sbytes (joinD (a :: ns)) := by
  obtain ⟨r, h1, h2⟩ := parts_l0 (a :: ns) (by simp; omega) hx (a :: ns).length k 0 [] (by omega) (by simp; omega) rfl
  have hl : r.length = ns.length + 1 := by have := congrArg List.length h2; simpa using this
  obtain ⟨j, h3, h4, h5⟩ := spec_madeJoined_all r (by omega) (by omega) (sizes_of h2 hx) k (by omega)
  refine ⟨(⟨#[27, 91]⟩ ++ j) ++ ⟨#[109]⟩, ?_, ?_⟩
  · unfold spec_MadeBy.f
    rw [if_neg (by decide), if_neg (by decide), if_neg (by decide), if_neg (by decide), if_neg (by decide), if_neg (by decide)]
    unfold spec_StyleParts.f
    have h1' : spec_StyleParts.l0 k [] [] (ints8 (a :: ns)) ((ints8 (a :: ns)).length : Int) 0 = some r := h1
    rw [h1']
    simp only [Option.bind_some]
    unfold spec_StyleText.f
    have h3' : spec_madeJoined.f k r ⟨#[59]⟩ = some j := h3
    rw [h3']
    simp only [Option.bind_some]
    have e2 : (⟨#[27, 91]⟩ : ByteArray).size = 2 := rfl
    rw [if_pos (by omega), if_pos (by rw [ByteArray.size_append, e2]; omega)]
    rfl
  · rw [bts_append, bts_append, h4, heads_of h2]
    rfl
theorem cnt_l0 (l : List Int) (hl : l.length ≤ 1000) : ∀ (d k i : Nat), i + d = l.length → d < k → impl_count.l0 k (l.take i) l (l.length : Int) (i : Int) = some l
  | 0, k, i, hi, hk => by
    obtain ⟨k, rfl⟩ : ∃ m, k = m + 1 := ⟨k - 1, by omega⟩
    simp only [impl_count.l0]
    rw [if_neg (by omega), List.take_of_length_le (by omega)]
  | d + 1, k, i, hi, hk => by
    obtain ⟨k, rfl⟩ : ∃ m, k = m + 1 := ⟨k - 1, by omega⟩
    have hlt : i < l.length := by omega
    have ht : l.take (i + 1) = l.take i ++ [l[i]] := by rw [List.take_add_one, List.getElem?_eq_getElem hlt]; rfl
    simp only [impl_count.l0]
    rw [if_pos (by omega), if_pos (by omega), if_pos (by omega), if_pos (by rw [List.length_take]; omega), rd_at l i hlt, ← ht, wrap_up (by omega)]
    exact cnt_l0 l hl d k (i + 1) (by omega) (by omega)
theorem styleRun_f (a : Nat) (ns : List Nat) (hn : ns.length < 12) (hx : ∀ x ∈ a :: ns, x ≤ 60000) (t : ByteArray) (ht : t.size ≤ 1000) (k : Nat) (hk : 1000 ≤ k) :
    ∃ s1 s2, impl_StyleRun.f k (ints8 (a :: ns)) [] t = some (s1, s2) ∧ bts s2 = sbytes (joinD (a :: ns)) ++ bts t ++ [27, 91, 109] := by
  have hL : (ints8 (a :: ns)).length = ns.length + 1 := by rw [ints8_len]; rfl
  have hc : impl_count.f k (ints8 (a :: ns)) = some (ints8 (a :: ns)) := cnt_l0 _ (by omega) (ints8 (a :: ns)).length k 0 (by omega) (by omega)
  obtain ⟨r, er⟩ : ∃ r, r = (ints8 (a :: ns)).map itoaBA := ⟨_, rfl⟩
  have hN : xansi_NewStyle.f k (ints8 (a :: ns)) = some r := by
    have h0 : ∀ x ∈ ints8 (a :: ns), 0 ≤ x ∧ x ≤ 60000 := by
      intro x hm
      obtain ⟨n, hn, rfl⟩ := List.mem_map.1 hm
      have := hx n hn
      omega
    unfold xansi_NewStyle.f
    rw [if_pos ⟨h0, by omega, by omega⟩, er]
  have h2 : r.map bts = (a :: ns).map dig := by
    rw [er]
    unfold ints8
    rw [List.map_map, List.map_map]
    refine List.map_congr_left fun n hn => ?_
    exact itoa_bts n (hx n hn)
  have hl : r.length = ns.length + 1 := by have := congrArg List.length h2; simpa using this
  obtain ⟨m, rfl⟩ : ∃ m, k = m + 1 := ⟨k - 1, by omega⟩
  obtain ⟨j, h3, h4, h5⟩ := xansi_zzJoin_all r (by omega) (by omega) (sizes_of h2 hx) m (by omega)
  have h3' : xansi_zzJoin.f m r ⟨#[59]⟩ = some j := h3
  have e2 : (⟨#[27, 91]⟩ : ByteArray).size = 2 := rfl
  have e1 : (⟨#[109]⟩ : ByteArray).size = 1 := rfl
  have hS : xansi_Style_String.f m r = some ((⟨#[27, 91]⟩ ++ j) ++ ⟨#[109]⟩) := by
    unfold xansi_Style_String.f
    rw [if_neg (by omega), h3']
    simp only [Option.bind_some]
    rw [if_pos (by omega), if_pos (by rw [ByteArray.size_append, e2]; omega)]
  have hz : ((⟨#[27, 91]⟩ ++ j) ++ ⟨#[109]⟩ : ByteArray).size = 2 + j.size + 1 := by rw [ByteArray.size_append, ByteArray.size_append, e2, e1]
  have hT : xansi_Style_Styled.f m r t = some ((((⟨#[27, 91]⟩ ++ j) ++ ⟨#[109]⟩) ++ t) ++ ⟨#[27, 91, 109]⟩) := by
    unfold xansi_Style_Styled.f
    rw [if_neg (by omega), hS]
    simp only [Option.bind_some]
    rw [if_pos (by omega), if_pos (by rw [ByteArray.size_append]; omega)]
  refine ⟨(⟨#[27, 91]⟩ ++ j) ++ ⟨#[109]⟩, (((⟨#[27, 91]⟩ ++ j) ++ ⟨#[109]⟩) ++ t) ++ ⟨#[27, 91, 109]⟩, ?_, ?_⟩
  · unfold impl_StyleRun.f
    rw [hc]
    simp only [Option.bind_some]
    rw [hN]
    simp only [Option.bind_some, impl_StyleRun.l0]
    rw [if_neg (by simp), hS]
    simp only [Option.bind_some]
    rw [hT]
    rfl
  · rw [bts_append, bts_append, bts_append, bts_append, h4, heads_of h2]
    rfl
set_option maxRecDepth 100000 in
theorem styleAwake_f : laws_styleAwake.f 20 = some true := by decide +kernel
/-! ### What is spoken of -/
/-- The law's own bounds: attributes from 0 to 60000, at most 12 of them, printable letters, at most 100 of them. -/
def Spoken (l : List Int) (t : ByteArray) : Prop := (∀ x ∈ l, 0 ≤ x ∧ x ≤ 60000) ∧ l.length ≤ 12 ∧ t.size ≤ 100 ∧ ∀ c ∈ bts t, 32 ≤ c ∧ c < 127
theorem bt_bts (t : ByteArray) (i : Nat) (h : i < t.size) : ∃ c, (bts t)[i]? = some c ∧ bt t (i : Int) = (c : Int) := by
  refine ⟨(t[i]'h).toNat, ?_, ?_⟩
  · unfold bts
    rw [List.getElem?_map, List.getElem?_eq_getElem (by rw [data_length]; exact h)]
    rfl
  · unfold bt
    rw [dif_pos (by simpa using h)]
    simp
theorem made_l2 (l : List Int) (t : ByteArray) (ht : t.size ≤ 2147483647) : ∀ (d k i : Nat), i + d = t.size → d + 2 ≤ k →
    ∃ r, spec_IsMadeCall.l2 k (i : Int) 6 0 0 0 l [] t = some r ∧ (r = true → l.length ≤ 12 ∧ t.size ≤ 100 ∧ ∀ j c, i ≤ j → (bts t)[j]? = some c → 32 ≤ c ∧ c < 127)
  | 0, k, i, hi, hk => by
    obtain ⟨k, rfl⟩ : ∃ m, k = m + 2 := ⟨k - 2, by omega⟩
    have h6 : ∀ b, b = true → spec_IsMadeCall.j3 (k + 1) b 6 0 0 0 l [] t = some false := by
      rintro b rfl
      simp only [spec_IsMadeCall.j3]
      rw [if_pos trivial]
    have h7 : spec_IsMadeCall.j3 (k + 1) (decide ((0 : Int) < 0)) 6 0 0 0 l [] t = some true := by
      simp only [spec_IsMadeCall.j3]
      rw [if_neg (by decide), if_neg (by decide), if_neg (by decide), if_neg (by decide), if_neg (by decide), if_neg (by decide), if_neg (by decide)]
      rfl
    simp only [spec_IsMadeCall.l2]
    rw [if_neg (by omega)]
    by_cases h1 : (l.length : Int) > 12
    · rw [if_pos h1]
      exact ⟨false, h6 _ rfl, fun h => by cases h⟩
    · rw [if_neg h1, if_neg (by simp)]
      by_cases h2 : (t.size : Int) > 100
      · rw [if_pos h2]
        exact ⟨false, h6 _ rfl, fun h => by cases h⟩
      · rw [if_neg h2]
        refine ⟨true, h7, fun _ => ⟨by omega, by omega, fun j c hj hc => ?_⟩⟩
        have := (List.getElem?_eq_some_iff.1 hc).1
        rw [bts_length] at this
        omega
  | d + 1, k, i, hi, hk => by
    obtain ⟨k, rfl⟩ : ∃ m, k = m + 1 := ⟨k - 1, by omega⟩
    have hlt : i < t.size := by omega
    obtain ⟨c, hc, hb⟩ := bt_bts t i hlt
    have hw : wrap64 ((i : Int) + 1) = ((i + 1 : Nat) : Int) := by unfold wrap64; omega
    simp only [spec_IsMadeCall.l2]
    rw [if_pos (by omega), if_pos (by omega), hb]
    by_cases h1 : (c : Int) < 32
    · rw [if_pos h1]
      exact ⟨false, rfl, fun h => by cases h⟩
    · rw [if_neg h1]
      by_cases h2 : (c : Int) > 126
      · rw [if_pos h2]
        exact ⟨false, rfl, fun h => by cases h⟩
      · rw [if_neg h2, hw]
        obtain ⟨r, e1, e2⟩ := made_l2 l t ht d k (i + 1) (by omega) (by omega)
        refine ⟨r, e1, fun hr => ?_⟩
        obtain ⟨e3, e4, e5⟩ := e2 hr
        refine ⟨e3, e4, fun j c' hj hc' => ?_⟩
        by_cases hij : j = i
        · subst hij
          rw [hc] at hc'
          have := Option.some.inj hc'
          omega
        · exact e5 j c' (by omega) hc'
theorem made_l0 (l ys : List Int) (t : ByteArray) (ht : t.size ≤ 2147483647) (hy : ys.length ≤ 3000000000) : ∀ (d k i : Nat), i + d = ys.length → d + t.size + 5 ≤ k →
    ∃ r, spec_IsMadeCall.l0 k ys (ys.length : Int) (i : Int) 6 0 0 0 l [] t = some r ∧ (r = true → (∀ j x, i ≤ j → ys[j]? = some x → 0 ≤ x ∧ x ≤ 60000) ∧ l.length ≤ 12 ∧ t.size ≤ 100 ∧ ∀ j c, 0 ≤ j → (bts t)[j]? = some c → 32 ≤ c ∧ c < 127)
  | 0, k, i, hi, hk => by
    obtain ⟨k, rfl⟩ : ∃ m, k = m + 2 := ⟨k - 2, by omega⟩
    obtain ⟨r, e1, e2⟩ := made_l2 l t ht t.size k 0 (by omega) (by omega)
    refine ⟨r, ?_, fun hr => ⟨fun j x hj hx => ?_, e2 hr⟩⟩
    · simp only [spec_IsMadeCall.l0]
      rw [if_neg (by omega)]
      simp only [spec_IsMadeCall.l1]
      rw [if_neg (by simp)]
      exact e1
    · have := (List.getElem?_eq_some_iff.1 hx).1
      omega
  | d + 1, k, i, hi, hk => by
    obtain ⟨k, rfl⟩ : ∃ m, k = m + 1 := ⟨k - 1, by omega⟩
    have hlt : i < ys.length := by omega
    have hw : wrap64 ((i : Int) + 1) = ((i + 1 : Nat) : Int) := by unfold wrap64; omega
    simp only [spec_IsMadeCall.l0]
    rw [if_pos (by omega), if_pos (by omega), if_pos (by omega), rd_at ys i hlt]
    by_cases h1 : ys[i] < 0
    · rw [if_pos h1]
      exact ⟨false, rfl, fun h => by cases h⟩
    · rw [if_neg h1]
      by_cases h2 : ys[i] > 60000
      · rw [if_pos h2]
        exact ⟨false, rfl, fun h => by cases h⟩
      · rw [if_neg h2, hw]
        obtain ⟨r, e1, e2⟩ := made_l0 l ys t ht hy d k (i + 1) (by omega) (by omega)
        refine ⟨r, e1, fun hr => ?_⟩
        obtain ⟨e3, e4⟩ := e2 hr
        refine ⟨fun j x hj hx => ?_, e4⟩
        by_cases hij : j = i
        · subst hij
          rw [List.getElem?_eq_getElem hlt] at hx
          have := Option.some.inj hx
          omega
        · exact e3 j x (by omega) hx
/-- IsMadeCall tells something, and true only of what is spoken of. -/
theorem isMade_f (l : List Int) (t : ByteArray) (hl : l.length ≤ 2147483647) (ht : t.size ≤ 2147483647) : ∃ k r, spec_IsMadeCall.f k 6 0 0 0 l [] t = some r ∧ (r = true → Spoken l t) := by
  obtain ⟨r, e1, e2⟩ := made_l0 l ([0, 0] ++ l) t ht (by simp; omega) ([0, 0] ++ l).length (([0, 0] ++ l).length + t.size + 5) 0 (by omega) (by omega)
  refine ⟨([0, 0] ++ l).length + t.size + 5, r, ?_, fun hr => ?_⟩
  · unfold spec_IsMadeCall.f
    simp only [Option.bind_some]
    have h2 : ([0, 0] : List Int).length = 2 := rfl
    rw [if_pos (by omega)]
    exact e1
  · obtain ⟨h1, h2, h3, h4⟩ := e2 hr
    refine ⟨fun x hx => ?_, h2, h3, fun c hc => ?_⟩
    · obtain ⟨j, hj, rfl⟩ := List.mem_iff_getElem.1 hx
      exact h1 (j + 2) _ (by omega) (by simp [List.getElem?_eq_getElem hj])
    · obtain ⟨j, hj, rfl⟩ := List.mem_iff_getElem.1 hc
      exact h4 j _ (by omega) (List.getElem?_eq_getElem hj)
/-! ### Events -/
theorem rd89_at (l : List S89) (i : Nat) (h : i < l.length) : rd_T89 l (i : Int) = l[i] := by simp [rd_T89, List.getElem?_eq_getElem h]
theorem packed_l0 (ns : List Nat) (hn : ns.length ≤ 12) (hx : ∀ x ∈ ns, x ≤ 60000) : ∀ (d k i : Nat), i + d = ns.length → d < k →
    spec_PackedOf.l0 k ((ints8 ns).take i) (ns.map par) ((ns.map par).length : Int) (i : Int) = some (ints8 ns)
  | 0, k, i, hi, hk => by
    obtain ⟨k, rfl⟩ : ∃ m, k = m + 1 := ⟨k - 1, by omega⟩
    have ht : (ints8 ns).take i = ints8 ns := List.take_of_length_le (by rw [ints8_len]; omega)
    simp only [spec_PackedOf.l0]
    rw [if_neg (by rw [List.length_map]; omega), ht]
    by_cases h1 : ns.length = 1
    · have h2 : (rd (ints8 ns) 0) ≠ 2147483647 := by
        have h3 : 0 < (ints8 ns).length := by rw [ints8_len]; omega
        have e : rd (ints8 ns) ((0 : Nat) : Int) = (ints8 ns)[0] := rd_at _ 0 h3
        have hm := List.getElem_mem h3
        obtain ⟨n, hn, e2⟩ := List.mem_map.1 hm
        have := hx n hn
        rw [show (0 : Int) = ((0 : Nat) : Int) from rfl, e, ← e2]
        omega
      rw [if_pos (by rw [ints8_len]; omega), if_pos (by rw [ints8_len]; omega), if_neg h2]
    · rw [if_neg (by rw [ints8_len]; omega)]
  | d + 1, k, i, hi, hk => by
    obtain ⟨k, rfl⟩ : ∃ m, k = m + 1 := ⟨k - 1, by omega⟩
    have hlt : i < ns.length := by omega
    have hlm : i < (ns.map par).length := by rw [List.length_map]; exact hlt
    have hl8 : i < (ints8 ns).length := by rw [ints8_len]; exact hlt
    have e : rd_T89 (ns.map par) (i : Int) = par ns[i] := by rw [rd89_at _ i hlm]; simp
    have ht : (ints8 ns).take (i + 1) = (ints8 ns).take i ++ [((ns[i] : Nat) : Int)] := by
      rw [List.take_add_one, List.getElem?_eq_getElem hl8]
      simp [ints8]
    simp only [spec_PackedOf.l0]
    rw [if_pos (by omega), if_pos (by omega), if_pos (by omega), e]
    rw [if_neg (fun h => by cases h), if_neg (fun h => by cases h), if_pos (show ((ints8 ns).take i).length < 17592186044416 by rw [List.length_take, ints8_len]; omega), wrap_up (by omega)]
    have h := packed_l0 ns hn hx d k (i + 1) (by omega) (by omega)
    rw [ht] at h
    exact h
theorem command_f (l2 : List S89) : spec_CommandOf.f 1 0 l2 [] 109 [] false = some 109 := by
  unfold spec_CommandOf.f
  rw [if_neg (by simp)]
  decide +kernel
theorem events_f (ns : List Nat) (hn : ns.length ≤ 12) (hx : ∀ x ∈ ns, x ≤ 60000) (k : Nat) (hk : 100 ≤ k) : spec_EventsOf.f k 1 0 (ns.map par) [] 109 [] false = some [⟨2, 0, 0, 109, ints8 ns, []⟩] := by
  have hp : spec_PackedOf.f k 1 0 (ns.map par) [] 109 [] false = some (ints8 ns) := packed_l0 ns hn hx ns.length k 0 (by omega) (by omega)
  unfold spec_EventsOf.f
  rw [if_neg (by decide), if_pos rfl, command_f]
  simp only [Option.bind_some]
  rw [hp]
  rfl
def as39 (e : S77) : S39 := ⟨e.f0, e.f1, e.f2, e.f3, e.f4, e.f5⟩
theorem rd77_at (l : List S77) (i : Nat) (h : i < l.length) : rd_T77 l (i : Int) = l[i] := by simp [rd_T77, List.getElem?_eq_getElem h]
theorem rd39_at (l : List S39) (i : Nat) (h : i < l.length) : rd_T39 l (i : Int) = l[i] := by simp [rd_T39, List.getElem?_eq_getElem h]
theorem asEvents_l0 (l : List S77) (hl : l.length ≤ 100000) : ∀ (d k i : Nat), i + d = l.length → d < k → laws_asEvents.l0 k ((l.take i).map as39) l (l.length : Int) (i : Int) = some (l.map as39)
  | 0, k, i, hi, hk => by
    obtain ⟨k, rfl⟩ : ∃ m, k = m + 1 := ⟨k - 1, by omega⟩
    simp only [laws_asEvents.l0]
    rw [if_neg (by omega), List.take_of_length_le (by omega)]
  | d + 1, k, i, hi, hk => by
    obtain ⟨k, rfl⟩ : ∃ m, k = m + 1 := ⟨k - 1, by omega⟩
    have hlt : i < l.length := by omega
    have ht : (l.take (i + 1)).map as39 = (l.take i).map as39 ++ [as39 l[i]] := by rw [List.take_add_one, List.getElem?_eq_getElem hlt, List.map_append]; rfl
    simp only [laws_asEvents.l0]
    rw [if_pos (by omega), if_pos (by omega), if_pos (by omega), if_pos (by rw [List.length_map, List.length_take]; omega), rd77_at l i hlt, wrap_up (by omega)]
    have h := asEvents_l0 l hl d k (i + 1) (by omega) (by omega)
    rw [ht] at h
    exact h
theorem asEvents_f (l : List S77) (hl : l.length ≤ 100000) : laws_asEvents.f (l.length + 1) l = some (l.map as39) := asEvents_l0 l hl l.length _ 0 (by omega) (by omega)
theorem sameInts_l0 (l : List Int) (hl : l.length ≤ 100000) : ∀ (d k i : Nat), i + d = l.length → d < k → spec_SameInts.l0 k l l (l.length : Int) (i : Int) = some true
  | 0, k, i, hi, hk => by
    obtain ⟨k, rfl⟩ : ∃ m, k = m + 1 := ⟨k - 1, by omega⟩
    simp only [spec_SameInts.l0]
    rw [if_neg (by omega)]
  | d + 1, k, i, hi, hk => by
    obtain ⟨k, rfl⟩ : ∃ m, k = m + 1 := ⟨k - 1, by omega⟩
    simp only [spec_SameInts.l0]
    rw [if_pos (by omega), if_pos (by omega), if_pos (by omega), if_pos (by omega), if_pos trivial, wrap_up (by omega)]
    exact sameInts_l0 l hl d k (i + 1) (by omega) (by omega)
theorem sameBytes_nil (k : Nat) (hk : 1 ≤ k) : spec_SameBytes.f k [] [] = some true := by
  obtain ⟨k, rfl⟩ : ∃ m, k = m + 1 := ⟨k - 1, by omega⟩
  unfold spec_SameBytes.f
  rw [if_pos rfl]
  simp only [spec_SameBytes.l0]
  rw [if_neg (by simp)]
theorem sameEvents_l0 (l : List S39) (hl : l.length ≤ 100000) (hx : ∀ e ∈ l, e.f4.length ≤ 100 ∧ e.f5 = []) : ∀ (d k i : Nat), i + d = l.length → d + 200 < k → spec_SameEvents.l0 k l l (l.length : Int) (i : Int) = some true
  | 0, k, i, hi, hk => by
    obtain ⟨k, rfl⟩ : ∃ m, k = m + 1 := ⟨k - 1, by omega⟩
    simp only [spec_SameEvents.l0]
    rw [if_neg (by omega)]
  | d + 1, k, i, hi, hk => by
    obtain ⟨k, rfl⟩ : ∃ m, k = m + 1 := ⟨k - 1, by omega⟩
    have hlt : i < l.length := by omega
    obtain ⟨h4, h5⟩ := hx _ (List.getElem_mem hlt)
    have e4 : spec_SameInts.f k l[i].f4 l[i].f4 = some true := by
      unfold spec_SameInts.f
      rw [if_pos rfl]
      exact sameInts_l0 _ (by omega) l[i].f4.length k 0 (by omega) (by omega)
    have e5 : spec_SameBytes.f k l[i].f5 l[i].f5 = some true := by rw [h5]; exact sameBytes_nil k (by omega)
    simp only [spec_SameEvents.l0]
    rw [if_pos (by omega), if_pos (by omega), if_pos (by omega), if_pos (by omega), if_pos trivial, if_pos trivial, if_pos trivial, if_pos trivial, rd39_at l i hlt, e4]
    simp only [Option.bind_some]
    rw [if_pos trivial, e5]
    simp only [Option.bind_some]
    rw [if_pos trivial, wrap_up (by omega)]
    exact sameEvents_l0 l hl hx d k (i + 1) (by omega) (by omega)
theorem sameEvents_f (l : List S39) (hl : l.length ≤ 100000) (hx : ∀ e ∈ l, e.f4.length ≤ 100 ∧ e.f5 = []) : spec_SameEvents.f (l.length + 300) l l = some true := by
  unfold spec_SameEvents.f
  rw [if_pos rfl]
  exact sameEvents_l0 l hl hx l.length _ 0 (by omega) (by omega)
end Go.Proofs.YtjdpkhnpgdangaaGreatDoor.PQ
