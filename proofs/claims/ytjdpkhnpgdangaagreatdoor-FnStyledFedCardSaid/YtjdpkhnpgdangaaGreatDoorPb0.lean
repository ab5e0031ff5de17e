/- The plain law of the bytes of a styled text: what the machine tells of them. -/
import Derived.Test.YtjdpkhnpgdangaaGreatDoorPa7
namespace Go.Proofs.YtjdpkhnpgdangaaGreatDoor.PQ
open Go.RowKit Go.Proofs.YtjdpkhnpgdangaaGreatDoorW.PrintWords Go.Proofs.YtjdpkhnpgdangaaGreatDoorW.PrintLast Go.Proofs.YtjdpkhnpgdangaaGreatDoorW.PrintMore
set_option linter.unusedVariables false
set_option linter.unusedSimpArgs false
/-- The decimal digits of a number, as bytes. -/
def dig (n : Nat) : List Nat := if n < 10 then [48 + n] else dig (n / 10) ++ [48 + n % 10]
termination_by n
decreasing_by omega
theorem dig_small {n : Nat} (h : n < 10) : dig n = [48 + n] := by rw [dig, if_pos h]
theorem dig_big {n : Nat} (h : ¬ n < 10) : dig n = dig (n / 10) ++ [48 + n % 10] := by rw [dig, if_neg h]
/-- Numbers with a semicolon between. -/
def joinD : List Nat → List Nat
  | [] => []
  | [a] => dig a
  | a :: b :: l => dig a ++ 59 :: joinD (b :: l)
theorem getD_set_self {l : List Int} {n : Nat} (h : n < l.length) (x : Int) : (l.set n x).getD n 0 = x := by
  rw [List.getD_eq_getElem?_getD, List.getElem?_set_self h]; rfl
theorem mrun_one (s : Mst) (b : Nat) (l : List Nat) : mrun s (b :: l) = (mstep s b).bind fun s' => mrun s' l := rfl
theorem mrun_dig (a : Nat) (ha : a ≤ 60000) (qs : List Int) (n : Nat) (cmd : Int) (st : Nat) (evs : List S77) (hs : st = 1 ∨ st = 3) (hl : qs.length = 32) (hn : n < 32) (hq : qs.getD n 0 = 2147483647) :
    mrun ⟨qs, n, cmd, st, evs⟩ (dig a) = some ⟨qs.set n a, n, cmd, 3, evs⟩ := by
  induction a using Nat.strongRecOn with
  | _ a ih =>
    by_cases h : a < 10
    · rw [dig_small h]
      have e : ((48 + a : Nat) : Int) - 48 = (a : Int) := by omega
      rcases hs with rfl | rfl
      · simp only [mrun, mstep]
        rw [if_neg (by decide), if_neg (by decide), if_pos trivial, if_pos (by omega), if_pos ⟨hn, hq⟩, e]; rfl
      · simp only [mrun, mstep]
        rw [if_neg (by decide), if_neg (by decide), if_neg (by decide), if_pos trivial, if_pos (by omega), if_pos hn, if_pos hq, e]; rfl
    · rw [dig_big h, mrun_append, ih (a / 10) (by omega) (by omega)]
      have e : ((a / 10 : Nat) : Int) * 10 + (((48 + a % 10 : Nat) : Int) - 48) = (a : Int) := by omega
      have e2 : (qs.set n ((a / 10 : Nat) : Int)).getD n 0 = ((a / 10 : Nat) : Int) := getD_set_self (by omega) _
      simp only [Option.bind_some, mrun, mstep]
      rw [if_neg (by decide), if_neg (by decide), if_neg (by decide), if_pos trivial, if_pos (by omega), if_pos hn, e2, if_neg (by omega), if_pos (by omega), e, List.set_set]
      rfl
theorem mrun_join : ∀ (l : List Nat) (a : Nat), (∀ x ∈ a :: l, x ≤ 60000) → ∀ (qs : List Int) (n : Nat) (cmd : Int) (st : Nat) (evs : List S77), (st = 1 ∨ st = 3) → qs.length = 32 → n + l.length < 31 → qs.getD n 0 = 2147483647 →
    ∃ qs', mrun ⟨qs, n, cmd, st, evs⟩ (joinD (a :: l)) = some ⟨qs', n + l.length, cmd, 3, evs⟩ ∧ qs'.length = 32 ∧ qs'.take (n + l.length + 1) = qs.take n ++ (a :: l).map (fun x : Nat => (x : Int))
  | [], a, hx, qs, n, cmd, st, evs, hs, hl, hn, hq => by
    refine ⟨qs.set n a, mrun_dig a (hx a (by simp)) qs n cmd st evs hs hl (by omega) hq, by rw [List.length_set]; exact hl, ?_⟩
    rw [show n + ([] : List Nat).length + 1 = n + 1 from rfl, List.take_add_one, List.getElem?_set_self (by omega), List.take_set_of_le (Nat.le_refl _)]
    rfl
  | b :: l, a, hx, qs, n, cmd, st, evs, hs, hl, hn, hq => by
    have hn' : n + (l.length + 1) < 31 := hn
    have h1 := mrun_dig a (hx a (by simp)) qs n cmd st evs hs hl (by omega) hq
    obtain ⟨qs', h2, h3, h4⟩ := mrun_join l b (fun x h => hx x (List.mem_cons_of_mem _ h)) ((qs.set n a).set (n + 1) 2147483647) (n + 1) cmd 3 evs (Or.inr rfl) (by simp [hl]) (by omega) (getD_set_self (by simp; omega) _)
    refine ⟨qs', ?_, h3, ?_⟩
    · show mrun _ (dig a ++ 59 :: joinD (b :: l)) = _
      rw [mrun_append, h1]
      simp only [Option.bind_some, mrun_one]
      have e : mstep ⟨qs.set n a, n, cmd, 3, evs⟩ 59 = some ⟨(qs.set n a).set (n + 1) 2147483647, n + 1, cmd, 3, evs⟩ := by
        simp only [mstep]
        rw [if_neg (by decide), if_neg (by decide), if_neg (by decide), if_pos trivial, if_neg (by decide), if_pos trivial, if_pos (by omega)]
      rw [e]
      simp only [Option.bind_some]
      rw [h2]
      congr 2
      show n + 1 + l.length = n + (l.length + 1)
      omega
    · rw [show n + (b :: l).length + 1 = n + 1 + l.length + 1 by simp; omega, h4, List.take_set_of_le (Nat.le_refl _), List.take_add_one, List.getElem?_set_self (by omega), List.take_set_of_le (Nat.le_refl _)]
      simp
theorem mrun_text : ∀ (t : List Nat), (∀ c ∈ t, 32 ≤ c ∧ c < 127) → ∀ (qs : List Int) (n : Nat) (cmd : Int) (evs : List S77), ∃ cmd', mrun ⟨qs, n, cmd, 0, evs⟩ t = some ⟨qs, n, cmd', 0, evs ++ t.map (fun c : Nat => ⟨0, (c : Int), 0, 0, [], []⟩)⟩
  | [], _, qs, n, cmd, evs => ⟨cmd, by simp [mrun]⟩
  | c :: t, h, qs, n, cmd, evs => by
    obtain ⟨cmd', h'⟩ := mrun_text t (fun x hx => h x (List.mem_cons_of_mem _ hx)) qs n c (evs ++ [⟨0, (c : Int), 0, 0, [], []⟩])
    have hc := h c (by simp)
    refine ⟨cmd', ?_⟩
    have e : mstep ⟨qs, n, cmd, 0, evs⟩ c = some ⟨qs, n, c, 0, evs ++ [⟨0, (c : Int), 0, 0, [], []⟩]⟩ := by
      simp only [mstep]
      rw [if_pos trivial, if_neg (by omega), if_pos hc]
    rw [mrun_one, e]
    simp only [Option.bind_some]
    rw [h']
    simp
/-- The events of a styled text's bytes. -/
theorem mrun_styled (a : Nat) (l t : List Nat) (hx : ∀ x ∈ a :: l, x ≤ 60000) (hl : l.length < 12) (ht : ∀ c ∈ t, 32 ≤ c ∧ c < 127) :
    ∃ s, mrun ⟨List.replicate 32 0, 0, 0, 0, []⟩ ((27 :: 91 :: joinD (a :: l) ++ [109]) ++ t ++ [27, 91, 109]) = some s ∧
      s.evs = [⟨2, 0, 0, 109, (a :: l).map (fun x : Nat => (x : Int)), []⟩] ++ t.map (fun c : Nat => ⟨0, (c : Int), 0, 0, [], []⟩) ++ [⟨2, 0, 0, 109, [], []⟩] := by
  have hr : ∀ (qs : List Int) (n : Nat) (cmd : Int) (evs : List S77), qs.length = 32 → mrun ⟨qs, n, cmd, 0, evs⟩ [27, 91] = some ⟨qs.set 0 2147483647, 0, 0, 1, evs⟩ := by
    intro qs n cmd evs hq
    have e1 : mstep ⟨qs, n, cmd, 0, evs⟩ 27 = some ⟨qs.set 0 2147483647, 0, 0, 8, evs⟩ := by
      simp only [mstep]
      rw [if_pos trivial, if_pos trivial]
    have e2 : mstep ⟨qs.set 0 2147483647, 0, 0, 8, evs⟩ 91 = some ⟨qs.set 0 2147483647, 0, 0, 1, evs⟩ := by
      simp only [mstep]
      rw [if_neg (by decide), if_pos trivial, if_pos trivial, List.set_set]
    rw [mrun_one, e1]
    simp only [Option.bind_some]
    rw [mrun_one, e2]
    rfl
  obtain ⟨qs', h1, h2, h3⟩ := mrun_join l a hx ((List.replicate 32 0).set 0 2147483647) 0 0 1 [] (Or.inl rfl) (by simp) (by omega) (getD_set_self (by simp) _)
  simp only [Nat.zero_add, List.take_zero, List.nil_append] at h1 h3
  have h4 : mstep ⟨qs', l.length, 0, 3, []⟩ 109 = some ⟨qs', l.length + 1, 109, 0, [⟨2, 0, 0, 109, (a :: l).map (fun x : Nat => (x : Int)), []⟩]⟩ := by
    simp only [mstep]
    rw [if_neg (by decide), if_neg (by decide), if_neg (by decide), if_pos trivial, if_neg (by decide), if_neg (by decide), if_pos trivial, if_pos trivial]
    by_cases h0 : 0 < l.length
    · rw [if_pos ⟨h0, by omega⟩, h3]
      rfl
    · have e : l = [] := List.eq_nil_of_length_eq_zero (by omega)
      subst e
      have h3' : qs'.take 1 = [(a : Int)] := h3
      have h5 : qs'.getD 0 0 = (a : Int) := by
        cases qs' with
        | nil => simp at h2
        | cons x q =>
          have : x = (a : Int) := by simpa using h3'
          rw [this]
          rfl
      have h6 := hx a (by simp)
      rw [if_neg (by simp), if_pos ⟨rfl, by rw [h5]; omega⟩, h3']
      rfl
  obtain ⟨cmd', h7⟩ := mrun_text t ht qs' (l.length + 1) 109 [⟨2, 0, 0, 109, (a :: l).map (fun x : Nat => (x : Int)), []⟩]
  have h8 : ∀ evs : List S77, mstep ⟨qs'.set 0 2147483647, 0, 0, 1, evs⟩ 109 = some ⟨qs'.set 0 2147483647, 0, 109, 0, evs ++ [⟨2, 0, 0, 109, [], []⟩]⟩ := by
    intro evs
    simp only [mstep]
    rw [if_neg (by decide), if_neg (by decide), if_pos trivial, if_neg (by decide), if_pos trivial, if_pos ⟨trivial, trivial, getD_set_self (by omega) _⟩]
  refine ⟨⟨qs'.set 0 2147483647, 0, 109, 0, [⟨2, 0, 0, 109, (a :: l).map (fun x : Nat => (x : Int)), []⟩] ++ t.map (fun c : Nat => ⟨0, (c : Int), 0, 0, [], []⟩) ++ [⟨2, 0, 0, 109, [], []⟩]⟩, ?_, rfl⟩
  show mrun _ ((([27, 91] ++ joinD (a :: l)) ++ [109]) ++ t ++ ([27, 91] ++ [109])) = _
  rw [mrun_append, mrun_append, mrun_append, mrun_append, hr _ _ _ _ (by simp)]
  simp only [Option.bind_some]
  rw [h1]
  simp only [Option.bind_some, mrun_one, h4]
  simp only [mrun, Option.bind_some]
  rw [h7]
  simp only [Option.bind_some]
  rw [mrun_append, hr _ _ _ _ h2]
  simp only [Option.bind_some, mrun_one, h8]
  simp only [mrun, Option.bind_some]
end Go.Proofs.YtjdpkhnpgdangaaGreatDoor.PQ
