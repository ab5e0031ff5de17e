/- own, Feed. -/
import Derived.Test.YtjdpkhnpgdangaaGreatDoorPa6
namespace Go.Proofs.YtjdpkhnpgdangaaGreatDoor.PQ
open Go.RowKit Go.Proofs.YtjdpkhnpgdangaaGreatDoorW.PrintWords Go.Proofs.YtjdpkhnpgdangaaGreatDoorW.PrintLast Go.Proofs.YtjdpkhnpgdangaaGreatDoorW.PrintMore
set_option linter.unusedVariables false
set_option linter.unusedSimpArgs false
set_option maxRecDepth 100000 in
set_option maxHeartbeats 2000000 in
theorem own_calls (w : World) (A : Option Addr) (c : Nat) (l : List Int) (hC : Kd.C (Kd.int .u8) w A l.length l) (hl : l.length ≤ 1000000) :
    Calls Tryz.prog 34 #[.slice A l.length c] w (fun e w' => ∃ v, e = .returned v ∧ Kd.R (Kd.int .u8) 5 w' w.heap.size (fun _ => True) v l ∧ Below w.heap.size w w') := by
  have HC := Aside0.mk hC
  clear hC
  go_enter Tryz.func34, Tryz.ntmps34
  go_wp2_with ((with_reducible refine gate_builtin (b := .append) (xs := #[.const (.slice none 0 0), .tmp 3]) rfl ?_); at_builtin; refine Kd.R_append_rows (Kd.int .u8) (w0 := w) w.heap.size rfl (.const (.slice none 0 0)) (.tmp 3) 35 5 (.int .u8 0) 1 rfl Tryz.underlying35 info5' rfl (by decide) (by decide) (.slice none 0 0) [] l A l.length c (fun _ => True) (fun _ => False) rfl rfl (Kd.R_nil _ _ _ _ _) HC.out (fun _ _ h => h) (fun _ h => h.elim) (fun _ _ => trivial) (Below.refl _ _) (Nat.le_refl _) (by simp; omega) ?_; intro v1 w1 hr1 hb1 hg1 hat1)
  go_ret
  exact ⟨_, rfl, hr1, hb1⟩

/-! ### One byte, as a plain function -/
structure Mst where
  qs : List Int
  n : Nat
  cmd : Int
  st : Nat
  evs : List S77
def miss : Int := 2147483647
def mstep (s : Mst) (b : Nat) : Option Mst :=
  if s.st = 0 then
    (if b = 27 then some ⟨s.qs.set 0 2147483647, 0, 0, 8, s.evs⟩
     else if 32 ≤ b ∧ b < 127 then some ⟨s.qs, s.n, b, 0, s.evs ++ [⟨0, b, 0, 0, [], []⟩]⟩ else none)
  else if s.st = 8 then (if b = 91 then some ⟨s.qs.set 0 2147483647, 0, 0, 1, s.evs⟩ else none)
  else if s.st = 1 then
    (if 48 ≤ b ∧ b ≤ 57 then (if s.n < 32 ∧ s.qs.getD s.n 0 = 2147483647 then some ⟨s.qs.set s.n ((b : Int) - 48), s.n, s.cmd, 3, s.evs⟩ else none)
     else if b = 109 then (if s.n = 0 ∧ s.cmd = 0 ∧ s.qs.getD 0 0 = 2147483647 then some ⟨s.qs, 0, 109, 0, s.evs ++ [⟨2, 0, 0, 109, [], []⟩]⟩ else none) else none)
  else if s.st = 3 then
    (if 48 ≤ b ∧ b ≤ 57 then
      (if s.n < 32 then
        (if s.qs.getD s.n 0 = 2147483647 then some ⟨s.qs.set s.n ((b : Int) - 48), s.n, s.cmd, 3, s.evs⟩
         else if 0 ≤ s.qs.getD s.n 0 ∧ s.qs.getD s.n 0 ≤ 100000 then some ⟨s.qs.set s.n (s.qs.getD s.n 0 * 10 + ((b : Int) - 48)), s.n, s.cmd, 3, s.evs⟩ else none) else none)
     else if b = 59 then (if s.n + 1 < 32 then some ⟨s.qs.set (s.n + 1) 2147483647, s.n + 1, s.cmd, 3, s.evs⟩ else none)
     else if b = 109 then
      (if s.cmd = 0 then
        (if 0 < s.n ∧ s.n < 31 then some ⟨s.qs, s.n + 1, 109, 0, s.evs ++ [⟨2, 0, 0, 109, s.qs.take (s.n + 1), []⟩]⟩
         else if s.n = 0 ∧ s.qs.getD 0 0 ≠ 2147483647 then some ⟨s.qs, 1, 109, 0, s.evs ++ [⟨2, 0, 0, 109, s.qs.take 1, []⟩]⟩ else none) else none) else none)
  else none
def mrun : Mst → List Nat → Option Mst
  | s, [] => some s
  | s, b :: l => (mstep s b).bind fun s' => mrun s' l
theorem mrun_append (s : Mst) : ∀ (l l' : List Nat), mrun s (l ++ l') = (mrun s l).bind fun s' => mrun s' l'
  | [], l' => rfl
  | b :: l, l' => by
    simp only [List.cons_append, mrun]
    cases mstep s b with
    | none => rfl
    | some s' => exact mrun_append s' l l'
def Mst.At (B gp gq : Nat) (gd : GX) (gb go : Nat) (w : World) (s : Mst) : Prop := PSt B gp gq gd gb go w s.qs s.n s.cmd s.st s.evs
def MPost (B gp gq : Nat) (gd : GX) (gb go : Nat) (w : World) (s : Mst) (e : Ending) (w' : World) : Prop := ∃ a, e = .returned (.int .u8 a) ∧ s.At B gp gq gd gb go w' ∧ Below B w w'
theorem mstep_st {s s' : Mst} {b : Nat} (h : mstep s b = some s') : s'.st = 0 ∨ s'.st = 8 ∨ s'.st = 1 ∨ s'.st = 3 := by
  unfold mstep at h
  repeat' split at h
  all_goals first
    | (cases h; done)
    | (cases h; simp)
theorem mstep_calls {B gp gq : Nat} {gd : GX} {gb go : Nat} (w : World) {s s' : Mst} {b : Nat} (h : s.At B gp gq gd gb go w) (hs : mstep s b = some s') (hl : s.evs.length ≤ 100000) :
    Calls Tryz.prog 35 #[.pointer (some ⟨gp, 0, none⟩), .int .u8 b] w (MPost B gp gq gd gb go w s') := by
  obtain ⟨qs, n, cmd, st, evs⟩ := s
  have h' : PSt B gp gq gd gb go w qs n cmd st evs := h
  unfold mstep at hs
  dsimp only at hs hl
  split at hs
  · rename_i e
    subst e
    split at hs
    · rename_i e
      subst e
      cases hs
      exact Advance_calls w _ h' rfl (adv_esc w h' hl)
    · split at hs
      · rename_i e
        cases hs
        exact Advance_calls w _ h' rfl (adv_print w b e.1 e.2 h' hl)
      · cases hs
  · split at hs
    · rename_i e
      subst e
      split at hs
      · rename_i e
        subst e
        cases hs
        exact Advance_calls w _ h' rfl (adv_bra w h' hl)
      · cases hs
    · split at hs
      · rename_i e
        subst e
        split at hs
        · rename_i e
          split at hs
          · rename_i e2
            cases hs
            exact Advance_calls w _ h' rfl (adv_first1 w b e.1 e.2 n e2.1 e2.2 h' hl)
          · cases hs
        · split at hs
          · rename_i e
            subst e
            split at hs
            · rename_i e2
              obtain ⟨rfl, rfl, e3⟩ := e2
              cases hs
              exact Advance_calls w _ h' rfl (adv_m0 w e3 h' hl)
            · cases hs
          · cases hs
      · split at hs
        · rename_i e
          subst e
          split at hs
          · rename_i e
            split at hs
            · rename_i hn
              split at hs
              · rename_i e2
                cases hs
                exact Advance_calls w _ h' rfl (adv_first3 w b e.1 e.2 n hn e2 h' hl)
              · split at hs
                · rename_i e2
                  cases hs
                  exact Advance_calls w _ h' rfl (adv_digit w b e.1 e.2 n hn _ rfl e2.1 e2.2 h' hl)
                · cases hs
            · cases hs
          · split at hs
            · rename_i e
              subst e
              split at hs
              · rename_i hn
                cases hs
                exact Advance_calls w _ h' rfl (adv_semi w n hn h' hl)
              · cases hs
            · split at hs
              · rename_i e
                subst e
                split at hs
                · rename_i e2
                  subst e2
                  split at hs
                  · rename_i e2
                    cases hs
                    exact Advance_calls w _ h' rfl (adv_m w n e2.1 e2.2 h' hl)
                  · split at hs
                    · rename_i e2
                      obtain ⟨rfl, e3⟩ := e2
                      cases hs
                      exact Advance_calls w _ h' rfl (adv_m1 w e3 h' hl)
                    · cases hs
                · cases hs
              · cases hs
        · cases hs
end Go.Proofs.YtjdpkhnpgdangaaGreatDoor.PQ
