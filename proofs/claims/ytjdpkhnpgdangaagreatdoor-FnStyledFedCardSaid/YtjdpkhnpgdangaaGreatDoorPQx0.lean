/- Contracts of functions that the law FnStyledFed reaches (read and made memory as stated), for this claim alone; no condition but those stated. -/
import Derived.Test.YtjdpkhnpgdangaaGreatDoorProg
import Derived.Below
import Derived.Deep.Draws
import Derived.Deep.AppendLies
import Derived.Maps.AppendAt
import Derived.OwnWalk
import Derived.Laws.BytesArg
import Derived.Laws.MakeOwn
import Derived.Laws.OwnMore
import Derived.Deep.OwnRows
import Derived.Tactics
import Derived.Lib.ConvBytes
import Derived.Laws.Slices
import Derived.WalkKit
import Derived.KernelRfl
import Derived.RowKit3
import Derived.Deep.LoopGhost
import Derived.Deep.QuietTactic
import Derived.BigQuiet
import Derived.WideLaws
import Derived.Deep.DeepCutAuto
import Derived.Deep.CutBlock
import Derived.Deep.RegionHeld3
import Derived.Laws.Rows
import Derived.Lib.AppendStr
import Derived.ArgAppend
import Derived.Laws.IdiomCopy
import Derived.OrdersHeld
import Derived.Laws.BitsLemmas
import Derived.RowKit
import Derived.Test.YtjdpkhnpgdangaaGreatDoorWWords
import Derived.Test.YtjdpkhnpgdangaaGreatDoorWLast
import Derived.Test.YtjdpkhnpgdangaaGreatDoorWTab
import Derived.Test.YtjdpkhnpgdangaaGreatDoorWFour
import Derived.Test.YtjdpkhnpgdangaaGreatDoorWQPut
import Derived.Test.YtjdpkhnpgdangaaGreatDoorWApart
import Derived.Test.YtjdpkhnpgdangaaGreatDoorWArr
import Derived.Test.YtjdpkhnpgdangaaGreatDoorWZeros
import Derived.Test.YtjdpkhnpgdangaaGreatDoorWFoot
import Derived.Test.YtjdpkhnpgdangaaGreatDoorWKept
import Derived.Test.YtjdpkhnpgdangaaGreatDoorWShare
import Derived.Test.YtjdpkhnpgdangaaGreatDoorWN
import Derived.Test.YtjdpkhnpgdangaaGreatDoorWFootNe
import Derived.Test.YtjdpkhnpgdangaaGreatDoorWAt
import Derived.Test.YtjdpkhnpgdangaaGreatDoorWEqStruct
import Derived.Test.YtjdpkhnpgdangaaGreatDoorWRepsOne
import Derived.Test.YtjdpkhnpgdangaaGreatDoorWInv
import Derived.Test.YtjdpkhnpgdangaaGreatDoorWInvWords
import Derived.Test.YtjdpkhnpgdangaaGreatDoorWGuard
import Derived.Test.YtjdpkhnpgdangaaGreatDoorWNEv
import Derived.Test.YtjdpkhnpgdangaaGreatDoorWMore
namespace Go.Proofs.YtjdpkhnpgdangaaGreatDoor.PQ
open Go.RowKit Go.Proofs.YtjdpkhnpgdangaaGreatDoorW.PrintWords Go.Proofs.YtjdpkhnpgdangaaGreatDoorW.PrintLast Go.Proofs.YtjdpkhnpgdangaaGreatDoorW.PrintMore
attribute [local go_sem] max2_int min2_int max_two min_two max_three min_three max_four min_four   -- for this text's walks alone
set_option linter.unusedVariables false
set_option linter.unusedSimpArgs false



def errW : Option Int → Value
  | none => .nilIface
  | some c => .iface 0 (.int .i64 c)
theorem errW_none : errW none = .nilIface := rfl
theorem errW_some (c : Int) : errW (some c) = .iface 0 (.int .i64 c) := rfl

theorem info2 : (Tryz.prog.info? 2).map (fun i => (i.zero, i.size, i.bytes)) = some (some (.int .i64 0), 1, 8) := by kernel_rfl
theorem info3 : (Tryz.prog.info? 3).map (fun i => (i.zero, i.size, i.bytes)) = some (some (.int .i64 0), 1, 8) := by kernel_rfl
theorem info5 : (Tryz.prog.info? 5).map (fun i => (i.zero, i.size, i.bytes)) = some (some (.int .u8 0), 1, 1) := by kernel_rfl
theorem info9 : (Tryz.prog.info? 9).map (fun i => (i.zero, i.size, i.bytes)) = some (some (.string ⟨#[]⟩), 1, 16) := by kernel_rfl
theorem info39 : (Tryz.prog.info? 39).map (fun i => (i.zero, i.size, i.bytes)) = some (some (.agg #[(.int .i64 0), (.int .i64 0), (.int .u8 0), (.int .i64 0), (.slice none 0 0), (.slice none 0 0)]), 6, 80) := by kernel_rfl
theorem info52 : (Tryz.prog.info? 52).map (fun i => (i.zero, i.size, i.bytes)) = some (some (.agg #[(.int .i64 0), (.bool false), (.int .u8 0), (.int .i64 0), (.int .i64 0), (.int .u8 0), (.int .u8 0), (.int .u8 0), (.int .u8 0)]), 9, 40) := by kernel_rfl
-- the values' own types
/-! #### struct type 48 -/
structure S48 where
  f0 : Bool
  f1 : Int
def z48 : S48 := ⟨false, (0 : Int)⟩
def k48 : Kd S48 := Kd.iso (Kd.pair Kd.bool (Kd.int .i64)) (fun x : S48 => (x.f0, x.f1))
theorem k48_open {w : World} {x : S48} {cs : List Value} (h : k48.K w x cs) : cs = [.bool x.f0, .int .i64 x.f1] := by
  obtain ⟨_, _, rfl, rfl, rfl⟩ := h
  exact rfl
theorem k48_openM {w : World} {base : Nat} {ok : Nat → Prop} {x : S48} {cs : List Value} (h : k48.M w base ok x cs) : cs = [.bool x.f0, .int .i64 x.f1] := by
  obtain ⟨_, _, rfl, rfl, rfl⟩ := h
  exact rfl
theorem k48_mk (w : World) (x : S48)  : k48.K w x [.bool x.f0, .int .i64 x.f1] := ⟨[.bool x.f0], [.int .i64 x.f1], rfl, rfl, rfl⟩
theorem k48_mkM (w : World) (base : Nat) (ok : Nat → Prop) (x : S48)  : k48.M w base ok x [.bool x.f0, .int .i64 x.f1] := ⟨[.bool x.f0], [.int .i64 x.f1], rfl, rfl, rfl⟩
theorem k48_mkF (W : World) (ok : Nat → Prop) (x : S48) : Kd.FK k48 W ok x [.bool x.f0, .int .i64 x.f1] := fun W2 _ => k48_mk W2 x
def rd_T48 (xs : List S48) (i : Int) : S48 := xs.getD i.toNat z48
theorem at_T48 {w : World} {A : Option Addr} {n : Nat} {xs : List S48} (h : Kd.C k48 w A n xs) (i : Int) (h0 : 0 ≤ i) (h1 : i < n) : ∃ ad , A = some ad ∧ w.cell? (ad.add (i.toNat * 2)) = some (.bool (rd_T48 xs i).f0) ∧ w.cell? ⟨(ad.add (i.toNat * 2)).block, (ad.add (i.toNat * 2)).off + 1, none⟩ = some (.int .i64 (rd_T48 xs i).f1) := by
  obtain ⟨ad, c, e, _, hK, hc0⟩ := Kd.C_get h z48 i h0 h1
  have hc : ∀ j u, c[j]? = some u → w.cell? (ad.add (i.toNat * 2 + j)) = some u := hc0
  obtain rfl := k48_open hK
  exact ⟨ad, e, hc 0 _ rfl, by rw [← add_field _ _ 1 (by omega)]; exact hc 1 _ rfl⟩

/-! #### struct type 50 -/
structure S50 where
  f0 : Int
  f1 : Int
  f2 : Int
  f3 : Int
  f4 : Int
  f5 : Int
def z50 : S50 := ⟨(0 : Int), (0 : Int), (0 : Int), (0 : Int), (0 : Int), (0 : Int)⟩
def k50 : Kd S50 := Kd.iso (Kd.pair (Kd.int .i64) (Kd.pair (Kd.int .i64) (Kd.pair (Kd.int .u8) (Kd.pair (Kd.int .u8) (Kd.pair (Kd.int .u8) (Kd.int .u8)))))) (fun x : S50 => (x.f0, x.f1, x.f2, x.f3, x.f4, x.f5))
theorem k50_open {w : World} {x : S50} {cs : List Value} (h : k50.K w x cs) : cs = [.int .i64 x.f0, .int .i64 x.f1, .int .u8 x.f2, .int .u8 x.f3, .int .u8 x.f4, .int .u8 x.f5] := by
  obtain ⟨_, _, rfl, rfl, ⟨_, _, rfl, rfl, ⟨_, _, rfl, rfl, ⟨_, _, rfl, rfl, ⟨_, _, rfl, rfl, rfl⟩⟩⟩⟩⟩ := h
  exact rfl
theorem k50_openM {w : World} {base : Nat} {ok : Nat → Prop} {x : S50} {cs : List Value} (h : k50.M w base ok x cs) : cs = [.int .i64 x.f0, .int .i64 x.f1, .int .u8 x.f2, .int .u8 x.f3, .int .u8 x.f4, .int .u8 x.f5] := by
  obtain ⟨_, _, rfl, rfl, ⟨_, _, rfl, rfl, ⟨_, _, rfl, rfl, ⟨_, _, rfl, rfl, ⟨_, _, rfl, rfl, rfl⟩⟩⟩⟩⟩ := h
  exact rfl
theorem k50_mk (w : World) (x : S50)  : k50.K w x [.int .i64 x.f0, .int .i64 x.f1, .int .u8 x.f2, .int .u8 x.f3, .int .u8 x.f4, .int .u8 x.f5] := ⟨[.int .i64 x.f0], [.int .i64 x.f1, .int .u8 x.f2, .int .u8 x.f3, .int .u8 x.f4, .int .u8 x.f5], rfl, rfl, ⟨[.int .i64 x.f1], [.int .u8 x.f2, .int .u8 x.f3, .int .u8 x.f4, .int .u8 x.f5], rfl, rfl, ⟨[.int .u8 x.f2], [.int .u8 x.f3, .int .u8 x.f4, .int .u8 x.f5], rfl, rfl, ⟨[.int .u8 x.f3], [.int .u8 x.f4, .int .u8 x.f5], rfl, rfl, ⟨[.int .u8 x.f4], [.int .u8 x.f5], rfl, rfl, rfl⟩⟩⟩⟩⟩
theorem k50_mkM (w : World) (base : Nat) (ok : Nat → Prop) (x : S50)  : k50.M w base ok x [.int .i64 x.f0, .int .i64 x.f1, .int .u8 x.f2, .int .u8 x.f3, .int .u8 x.f4, .int .u8 x.f5] := ⟨[.int .i64 x.f0], [.int .i64 x.f1, .int .u8 x.f2, .int .u8 x.f3, .int .u8 x.f4, .int .u8 x.f5], rfl, rfl, ⟨[.int .i64 x.f1], [.int .u8 x.f2, .int .u8 x.f3, .int .u8 x.f4, .int .u8 x.f5], rfl, rfl, ⟨[.int .u8 x.f2], [.int .u8 x.f3, .int .u8 x.f4, .int .u8 x.f5], rfl, rfl, ⟨[.int .u8 x.f3], [.int .u8 x.f4, .int .u8 x.f5], rfl, rfl, ⟨[.int .u8 x.f4], [.int .u8 x.f5], rfl, rfl, rfl⟩⟩⟩⟩⟩
theorem k50_mkF (W : World) (ok : Nat → Prop) (x : S50) : Kd.FK k50 W ok x [.int .i64 x.f0, .int .i64 x.f1, .int .u8 x.f2, .int .u8 x.f3, .int .u8 x.f4, .int .u8 x.f5] := fun W2 _ => k50_mk W2 x
def rd_T50 (xs : List S50) (i : Int) : S50 := xs.getD i.toNat z50
theorem at_T50 {w : World} {A : Option Addr} {n : Nat} {xs : List S50} (h : Kd.C k50 w A n xs) (i : Int) (h0 : 0 ≤ i) (h1 : i < n) : ∃ ad , A = some ad ∧ w.cell? (ad.add (i.toNat * 6)) = some (.int .i64 (rd_T50 xs i).f0) ∧ w.cell? ⟨(ad.add (i.toNat * 6)).block, (ad.add (i.toNat * 6)).off + 1, none⟩ = some (.int .i64 (rd_T50 xs i).f1) ∧ w.cell? ⟨(ad.add (i.toNat * 6)).block, (ad.add (i.toNat * 6)).off + 2, none⟩ = some (.int .u8 (rd_T50 xs i).f2) ∧ w.cell? ⟨(ad.add (i.toNat * 6)).block, (ad.add (i.toNat * 6)).off + 3, none⟩ = some (.int .u8 (rd_T50 xs i).f3) ∧ w.cell? ⟨(ad.add (i.toNat * 6)).block, (ad.add (i.toNat * 6)).off + 4, none⟩ = some (.int .u8 (rd_T50 xs i).f4) ∧ w.cell? ⟨(ad.add (i.toNat * 6)).block, (ad.add (i.toNat * 6)).off + 5, none⟩ = some (.int .u8 (rd_T50 xs i).f5) := by
  obtain ⟨ad, c, e, _, hK, hc0⟩ := Kd.C_get h z50 i h0 h1
  have hc : ∀ j u, c[j]? = some u → w.cell? (ad.add (i.toNat * 6 + j)) = some u := hc0
  obtain rfl := k50_open hK
  exact ⟨ad, e, hc 0 _ rfl, by rw [← add_field _ _ 1 (by omega)]; exact hc 1 _ rfl, by rw [← add_field _ _ 2 (by omega)]; exact hc 2 _ rfl, by rw [← add_field _ _ 3 (by omega)]; exact hc 3 _ rfl, by rw [← add_field _ _ 4 (by omega)]; exact hc 4 _ rfl, by rw [← add_field _ _ 5 (by omega)]; exact hc 5 _ rfl⟩

/-! #### struct type 52 -/
structure S52 where
  f0 : Int
  f1 : Bool
  f2 : Int
  f3 : S50
def z52 : S52 := ⟨(0 : Int), false, (0 : Int), z50⟩
def k52 : Kd S52 := Kd.iso (Kd.pair (Kd.int .i64) (Kd.pair Kd.bool (Kd.pair (Kd.int .u8) k50))) (fun x : S52 => (x.f0, x.f1, x.f2, x.f3))
theorem k52_open {w : World} {x : S52} {cs : List Value} (h : k52.K w x cs) : cs = [.int .i64 x.f0, .bool x.f1, .int .u8 x.f2, .int .i64 x.f3.f0, .int .i64 x.f3.f1, .int .u8 x.f3.f2, .int .u8 x.f3.f3, .int .u8 x.f3.f4, .int .u8 x.f3.f5] := by
  obtain ⟨_, _, rfl, rfl, ⟨_, _, rfl, rfl, ⟨_, _, rfl, rfl, s3⟩⟩⟩ := h
  obtain rfl := k50_open s3
  exact rfl
theorem k52_openM {w : World} {base : Nat} {ok : Nat → Prop} {x : S52} {cs : List Value} (h : k52.M w base ok x cs) : cs = [.int .i64 x.f0, .bool x.f1, .int .u8 x.f2, .int .i64 x.f3.f0, .int .i64 x.f3.f1, .int .u8 x.f3.f2, .int .u8 x.f3.f3, .int .u8 x.f3.f4, .int .u8 x.f3.f5] := by
  obtain ⟨_, _, rfl, rfl, ⟨_, _, rfl, rfl, ⟨_, _, rfl, rfl, s3⟩⟩⟩ := h
  obtain rfl := k50_openM s3
  exact rfl
theorem k52_mk (w : World) (x : S52)  : k52.K w x [.int .i64 x.f0, .bool x.f1, .int .u8 x.f2, .int .i64 x.f3.f0, .int .i64 x.f3.f1, .int .u8 x.f3.f2, .int .u8 x.f3.f3, .int .u8 x.f3.f4, .int .u8 x.f3.f5] := ⟨[.int .i64 x.f0], [.bool x.f1, .int .u8 x.f2, .int .i64 x.f3.f0, .int .i64 x.f3.f1, .int .u8 x.f3.f2, .int .u8 x.f3.f3, .int .u8 x.f3.f4, .int .u8 x.f3.f5], rfl, rfl, ⟨[.bool x.f1], [.int .u8 x.f2, .int .i64 x.f3.f0, .int .i64 x.f3.f1, .int .u8 x.f3.f2, .int .u8 x.f3.f3, .int .u8 x.f3.f4, .int .u8 x.f3.f5], rfl, rfl, ⟨[.int .u8 x.f2], [.int .i64 x.f3.f0, .int .i64 x.f3.f1, .int .u8 x.f3.f2, .int .u8 x.f3.f3, .int .u8 x.f3.f4, .int .u8 x.f3.f5], rfl, rfl, (k50_mk w x.f3 )⟩⟩⟩
theorem k52_mkM (w : World) (base : Nat) (ok : Nat → Prop) (x : S52)  : k52.M w base ok x [.int .i64 x.f0, .bool x.f1, .int .u8 x.f2, .int .i64 x.f3.f0, .int .i64 x.f3.f1, .int .u8 x.f3.f2, .int .u8 x.f3.f3, .int .u8 x.f3.f4, .int .u8 x.f3.f5] := ⟨[.int .i64 x.f0], [.bool x.f1, .int .u8 x.f2, .int .i64 x.f3.f0, .int .i64 x.f3.f1, .int .u8 x.f3.f2, .int .u8 x.f3.f3, .int .u8 x.f3.f4, .int .u8 x.f3.f5], rfl, rfl, ⟨[.bool x.f1], [.int .u8 x.f2, .int .i64 x.f3.f0, .int .i64 x.f3.f1, .int .u8 x.f3.f2, .int .u8 x.f3.f3, .int .u8 x.f3.f4, .int .u8 x.f3.f5], rfl, rfl, ⟨[.int .u8 x.f2], [.int .i64 x.f3.f0, .int .i64 x.f3.f1, .int .u8 x.f3.f2, .int .u8 x.f3.f3, .int .u8 x.f3.f4, .int .u8 x.f3.f5], rfl, rfl, (k50_mkM w base ok x.f3 )⟩⟩⟩
theorem k52_mkF (W : World) (ok : Nat → Prop) (x : S52) : Kd.FK k52 W ok x [.int .i64 x.f0, .bool x.f1, .int .u8 x.f2, .int .i64 x.f3.f0, .int .i64 x.f3.f1, .int .u8 x.f3.f2, .int .u8 x.f3.f3, .int .u8 x.f3.f4, .int .u8 x.f3.f5] := fun W2 _ => k52_mk W2 x
def rd_T52 (xs : List S52) (i : Int) : S52 := xs.getD i.toNat z52
theorem at_T52 {w : World} {A : Option Addr} {n : Nat} {xs : List S52} (h : Kd.C k52 w A n xs) (i : Int) (h0 : 0 ≤ i) (h1 : i < n) : ∃ ad , A = some ad ∧ w.cell? (ad.add (i.toNat * 9)) = some (.int .i64 (rd_T52 xs i).f0) ∧ w.cell? ⟨(ad.add (i.toNat * 9)).block, (ad.add (i.toNat * 9)).off + 1, none⟩ = some (.bool (rd_T52 xs i).f1) ∧ w.cell? ⟨(ad.add (i.toNat * 9)).block, (ad.add (i.toNat * 9)).off + 2, none⟩ = some (.int .u8 (rd_T52 xs i).f2) ∧ w.cell? ⟨(ad.add (i.toNat * 9)).block, (ad.add (i.toNat * 9)).off + 3, none⟩ = some (.int .i64 (rd_T52 xs i).f3.f0) ∧ w.cell? ⟨(ad.add (i.toNat * 9)).block, (ad.add (i.toNat * 9)).off + 4, none⟩ = some (.int .i64 (rd_T52 xs i).f3.f1) ∧ w.cell? ⟨(ad.add (i.toNat * 9)).block, (ad.add (i.toNat * 9)).off + 5, none⟩ = some (.int .u8 (rd_T52 xs i).f3.f2) ∧ w.cell? ⟨(ad.add (i.toNat * 9)).block, (ad.add (i.toNat * 9)).off + 6, none⟩ = some (.int .u8 (rd_T52 xs i).f3.f3) ∧ w.cell? ⟨(ad.add (i.toNat * 9)).block, (ad.add (i.toNat * 9)).off + 7, none⟩ = some (.int .u8 (rd_T52 xs i).f3.f4) ∧ w.cell? ⟨(ad.add (i.toNat * 9)).block, (ad.add (i.toNat * 9)).off + 8, none⟩ = some (.int .u8 (rd_T52 xs i).f3.f5) := by
  obtain ⟨ad, c, e, _, hK, hc0⟩ := Kd.C_get h z52 i h0 h1
  have hc : ∀ j u, c[j]? = some u → w.cell? (ad.add (i.toNat * 9 + j)) = some u := hc0
  obtain rfl := k52_open hK
  exact ⟨ad, e, hc 0 _ rfl, by rw [← add_field _ _ 1 (by omega)]; exact hc 1 _ rfl, by rw [← add_field _ _ 2 (by omega)]; exact hc 2 _ rfl, by rw [← add_field _ _ 3 (by omega)]; exact hc 3 _ rfl, by rw [← add_field _ _ 4 (by omega)]; exact hc 4 _ rfl, by rw [← add_field _ _ 5 (by omega)]; exact hc 5 _ rfl, by rw [← add_field _ _ 6 (by omega)]; exact hc 6 _ rfl, by rw [← add_field _ _ 7 (by omega)]; exact hc 7 _ rfl, by rw [← add_field _ _ 8 (by omega)]; exact hc 8 _ rfl⟩

/-! #### struct type 102 -/
structure S102 where
  f0 : Int
  f1 : Int
  f2 : Int
  f3 : Int
  f4 : Int
  f5 : Int
def z102 : S102 := ⟨(0 : Int), (0 : Int), (0 : Int), (0 : Int), (0 : Int), (0 : Int)⟩
def k102 : Kd S102 := Kd.iso (Kd.pair (Kd.int .i64) (Kd.pair (Kd.int .i64) (Kd.pair (Kd.int .u8) (Kd.pair (Kd.int .u8) (Kd.pair (Kd.int .u8) (Kd.int .u8)))))) (fun x : S102 => (x.f0, x.f1, x.f2, x.f3, x.f4, x.f5))
theorem k102_open {w : World} {x : S102} {cs : List Value} (h : k102.K w x cs) : cs = [.int .i64 x.f0, .int .i64 x.f1, .int .u8 x.f2, .int .u8 x.f3, .int .u8 x.f4, .int .u8 x.f5] := by
  obtain ⟨_, _, rfl, rfl, ⟨_, _, rfl, rfl, ⟨_, _, rfl, rfl, ⟨_, _, rfl, rfl, ⟨_, _, rfl, rfl, rfl⟩⟩⟩⟩⟩ := h
  exact rfl
theorem k102_openM {w : World} {base : Nat} {ok : Nat → Prop} {x : S102} {cs : List Value} (h : k102.M w base ok x cs) : cs = [.int .i64 x.f0, .int .i64 x.f1, .int .u8 x.f2, .int .u8 x.f3, .int .u8 x.f4, .int .u8 x.f5] := by
  obtain ⟨_, _, rfl, rfl, ⟨_, _, rfl, rfl, ⟨_, _, rfl, rfl, ⟨_, _, rfl, rfl, ⟨_, _, rfl, rfl, rfl⟩⟩⟩⟩⟩ := h
  exact rfl
theorem k102_mk (w : World) (x : S102)  : k102.K w x [.int .i64 x.f0, .int .i64 x.f1, .int .u8 x.f2, .int .u8 x.f3, .int .u8 x.f4, .int .u8 x.f5] := ⟨[.int .i64 x.f0], [.int .i64 x.f1, .int .u8 x.f2, .int .u8 x.f3, .int .u8 x.f4, .int .u8 x.f5], rfl, rfl, ⟨[.int .i64 x.f1], [.int .u8 x.f2, .int .u8 x.f3, .int .u8 x.f4, .int .u8 x.f5], rfl, rfl, ⟨[.int .u8 x.f2], [.int .u8 x.f3, .int .u8 x.f4, .int .u8 x.f5], rfl, rfl, ⟨[.int .u8 x.f3], [.int .u8 x.f4, .int .u8 x.f5], rfl, rfl, ⟨[.int .u8 x.f4], [.int .u8 x.f5], rfl, rfl, rfl⟩⟩⟩⟩⟩
theorem k102_mkM (w : World) (base : Nat) (ok : Nat → Prop) (x : S102)  : k102.M w base ok x [.int .i64 x.f0, .int .i64 x.f1, .int .u8 x.f2, .int .u8 x.f3, .int .u8 x.f4, .int .u8 x.f5] := ⟨[.int .i64 x.f0], [.int .i64 x.f1, .int .u8 x.f2, .int .u8 x.f3, .int .u8 x.f4, .int .u8 x.f5], rfl, rfl, ⟨[.int .i64 x.f1], [.int .u8 x.f2, .int .u8 x.f3, .int .u8 x.f4, .int .u8 x.f5], rfl, rfl, ⟨[.int .u8 x.f2], [.int .u8 x.f3, .int .u8 x.f4, .int .u8 x.f5], rfl, rfl, ⟨[.int .u8 x.f3], [.int .u8 x.f4, .int .u8 x.f5], rfl, rfl, ⟨[.int .u8 x.f4], [.int .u8 x.f5], rfl, rfl, rfl⟩⟩⟩⟩⟩
theorem k102_mkF (W : World) (ok : Nat → Prop) (x : S102) : Kd.FK k102 W ok x [.int .i64 x.f0, .int .i64 x.f1, .int .u8 x.f2, .int .u8 x.f3, .int .u8 x.f4, .int .u8 x.f5] := fun W2 _ => k102_mk W2 x
def rd_T102 (xs : List S102) (i : Int) : S102 := xs.getD i.toNat z102
theorem at_T102 {w : World} {A : Option Addr} {n : Nat} {xs : List S102} (h : Kd.C k102 w A n xs) (i : Int) (h0 : 0 ≤ i) (h1 : i < n) : ∃ ad , A = some ad ∧ w.cell? (ad.add (i.toNat * 6)) = some (.int .i64 (rd_T102 xs i).f0) ∧ w.cell? ⟨(ad.add (i.toNat * 6)).block, (ad.add (i.toNat * 6)).off + 1, none⟩ = some (.int .i64 (rd_T102 xs i).f1) ∧ w.cell? ⟨(ad.add (i.toNat * 6)).block, (ad.add (i.toNat * 6)).off + 2, none⟩ = some (.int .u8 (rd_T102 xs i).f2) ∧ w.cell? ⟨(ad.add (i.toNat * 6)).block, (ad.add (i.toNat * 6)).off + 3, none⟩ = some (.int .u8 (rd_T102 xs i).f3) ∧ w.cell? ⟨(ad.add (i.toNat * 6)).block, (ad.add (i.toNat * 6)).off + 4, none⟩ = some (.int .u8 (rd_T102 xs i).f4) ∧ w.cell? ⟨(ad.add (i.toNat * 6)).block, (ad.add (i.toNat * 6)).off + 5, none⟩ = some (.int .u8 (rd_T102 xs i).f5) := by
  obtain ⟨ad, c, e, _, hK, hc0⟩ := Kd.C_get h z102 i h0 h1
  have hc : ∀ j u, c[j]? = some u → w.cell? (ad.add (i.toNat * 6 + j)) = some u := hc0
  obtain rfl := k102_open hK
  exact ⟨ad, e, hc 0 _ rfl, by rw [← add_field _ _ 1 (by omega)]; exact hc 1 _ rfl, by rw [← add_field _ _ 2 (by omega)]; exact hc 2 _ rfl, by rw [← add_field _ _ 3 (by omega)]; exact hc 3 _ rfl, by rw [← add_field _ _ 4 (by omega)]; exact hc 4 _ rfl, by rw [← add_field _ _ 5 (by omega)]; exact hc 5 _ rfl⟩

/-! #### struct type 104 -/
structure S104 where
  f0 : Int
  f1 : Bool
  f2 : Int
  f3 : S102
def z104 : S104 := ⟨(0 : Int), false, (0 : Int), z102⟩
def k104 : Kd S104 := Kd.iso (Kd.pair (Kd.int .i64) (Kd.pair Kd.bool (Kd.pair (Kd.int .u8) k102))) (fun x : S104 => (x.f0, x.f1, x.f2, x.f3))
theorem k104_open {w : World} {x : S104} {cs : List Value} (h : k104.K w x cs) : cs = [.int .i64 x.f0, .bool x.f1, .int .u8 x.f2, .int .i64 x.f3.f0, .int .i64 x.f3.f1, .int .u8 x.f3.f2, .int .u8 x.f3.f3, .int .u8 x.f3.f4, .int .u8 x.f3.f5] := by
  obtain ⟨_, _, rfl, rfl, ⟨_, _, rfl, rfl, ⟨_, _, rfl, rfl, s3⟩⟩⟩ := h
  obtain rfl := k102_open s3
  exact rfl
theorem k104_openM {w : World} {base : Nat} {ok : Nat → Prop} {x : S104} {cs : List Value} (h : k104.M w base ok x cs) : cs = [.int .i64 x.f0, .bool x.f1, .int .u8 x.f2, .int .i64 x.f3.f0, .int .i64 x.f3.f1, .int .u8 x.f3.f2, .int .u8 x.f3.f3, .int .u8 x.f3.f4, .int .u8 x.f3.f5] := by
  obtain ⟨_, _, rfl, rfl, ⟨_, _, rfl, rfl, ⟨_, _, rfl, rfl, s3⟩⟩⟩ := h
  obtain rfl := k102_openM s3
  exact rfl
theorem k104_mk (w : World) (x : S104)  : k104.K w x [.int .i64 x.f0, .bool x.f1, .int .u8 x.f2, .int .i64 x.f3.f0, .int .i64 x.f3.f1, .int .u8 x.f3.f2, .int .u8 x.f3.f3, .int .u8 x.f3.f4, .int .u8 x.f3.f5] := ⟨[.int .i64 x.f0], [.bool x.f1, .int .u8 x.f2, .int .i64 x.f3.f0, .int .i64 x.f3.f1, .int .u8 x.f3.f2, .int .u8 x.f3.f3, .int .u8 x.f3.f4, .int .u8 x.f3.f5], rfl, rfl, ⟨[.bool x.f1], [.int .u8 x.f2, .int .i64 x.f3.f0, .int .i64 x.f3.f1, .int .u8 x.f3.f2, .int .u8 x.f3.f3, .int .u8 x.f3.f4, .int .u8 x.f3.f5], rfl, rfl, ⟨[.int .u8 x.f2], [.int .i64 x.f3.f0, .int .i64 x.f3.f1, .int .u8 x.f3.f2, .int .u8 x.f3.f3, .int .u8 x.f3.f4, .int .u8 x.f3.f5], rfl, rfl, (k102_mk w x.f3 )⟩⟩⟩
theorem k104_mkM (w : World) (base : Nat) (ok : Nat → Prop) (x : S104)  : k104.M w base ok x [.int .i64 x.f0, .bool x.f1, .int .u8 x.f2, .int .i64 x.f3.f0, .int .i64 x.f3.f1, .int .u8 x.f3.f2, .int .u8 x.f3.f3, .int .u8 x.f3.f4, .int .u8 x.f3.f5] := ⟨[.int .i64 x.f0], [.bool x.f1, .int .u8 x.f2, .int .i64 x.f3.f0, .int .i64 x.f3.f1, .int .u8 x.f3.f2, .int .u8 x.f3.f3, .int .u8 x.f3.f4, .int .u8 x.f3.f5], rfl, rfl, ⟨[.bool x.f1], [.int .u8 x.f2, .int .i64 x.f3.f0, .int .i64 x.f3.f1, .int .u8 x.f3.f2, .int .u8 x.f3.f3, .int .u8 x.f3.f4, .int .u8 x.f3.f5], rfl, rfl, ⟨[.int .u8 x.f2], [.int .i64 x.f3.f0, .int .i64 x.f3.f1, .int .u8 x.f3.f2, .int .u8 x.f3.f3, .int .u8 x.f3.f4, .int .u8 x.f3.f5], rfl, rfl, (k102_mkM w base ok x.f3 )⟩⟩⟩
theorem k104_mkF (W : World) (ok : Nat → Prop) (x : S104) : Kd.FK k104 W ok x [.int .i64 x.f0, .bool x.f1, .int .u8 x.f2, .int .i64 x.f3.f0, .int .i64 x.f3.f1, .int .u8 x.f3.f2, .int .u8 x.f3.f3, .int .u8 x.f3.f4, .int .u8 x.f3.f5] := fun W2 _ => k104_mk W2 x
def rd_T104 (xs : List S104) (i : Int) : S104 := xs.getD i.toNat z104
theorem at_T104 {w : World} {A : Option Addr} {n : Nat} {xs : List S104} (h : Kd.C k104 w A n xs) (i : Int) (h0 : 0 ≤ i) (h1 : i < n) : ∃ ad , A = some ad ∧ w.cell? (ad.add (i.toNat * 9)) = some (.int .i64 (rd_T104 xs i).f0) ∧ w.cell? ⟨(ad.add (i.toNat * 9)).block, (ad.add (i.toNat * 9)).off + 1, none⟩ = some (.bool (rd_T104 xs i).f1) ∧ w.cell? ⟨(ad.add (i.toNat * 9)).block, (ad.add (i.toNat * 9)).off + 2, none⟩ = some (.int .u8 (rd_T104 xs i).f2) ∧ w.cell? ⟨(ad.add (i.toNat * 9)).block, (ad.add (i.toNat * 9)).off + 3, none⟩ = some (.int .i64 (rd_T104 xs i).f3.f0) ∧ w.cell? ⟨(ad.add (i.toNat * 9)).block, (ad.add (i.toNat * 9)).off + 4, none⟩ = some (.int .i64 (rd_T104 xs i).f3.f1) ∧ w.cell? ⟨(ad.add (i.toNat * 9)).block, (ad.add (i.toNat * 9)).off + 5, none⟩ = some (.int .u8 (rd_T104 xs i).f3.f2) ∧ w.cell? ⟨(ad.add (i.toNat * 9)).block, (ad.add (i.toNat * 9)).off + 6, none⟩ = some (.int .u8 (rd_T104 xs i).f3.f3) ∧ w.cell? ⟨(ad.add (i.toNat * 9)).block, (ad.add (i.toNat * 9)).off + 7, none⟩ = some (.int .u8 (rd_T104 xs i).f3.f4) ∧ w.cell? ⟨(ad.add (i.toNat * 9)).block, (ad.add (i.toNat * 9)).off + 8, none⟩ = some (.int .u8 (rd_T104 xs i).f3.f5) := by
  obtain ⟨ad, c, e, _, hK, hc0⟩ := Kd.C_get h z104 i h0 h1
  have hc : ∀ j u, c[j]? = some u → w.cell? (ad.add (i.toNat * 9 + j)) = some u := hc0
  obtain rfl := k104_open hK
  exact ⟨ad, e, hc 0 _ rfl, by rw [← add_field _ _ 1 (by omega)]; exact hc 1 _ rfl, by rw [← add_field _ _ 2 (by omega)]; exact hc 2 _ rfl, by rw [← add_field _ _ 3 (by omega)]; exact hc 3 _ rfl, by rw [← add_field _ _ 4 (by omega)]; exact hc 4 _ rfl, by rw [← add_field _ _ 5 (by omega)]; exact hc 5 _ rfl, by rw [← add_field _ _ 6 (by omega)]; exact hc 6 _ rfl, by rw [← add_field _ _ 7 (by omega)]; exact hc 7 _ rfl, by rw [← add_field _ _ 8 (by omega)]; exact hc 8 _ rfl⟩

/-! #### struct type 89 -/
structure S89 where
  f0 : Int
  f1 : Bool
  f2 : Bool
def z89 : S89 := ⟨(0 : Int), false, false⟩
def k89 : Kd S89 := Kd.iso (Kd.pair (Kd.int .i64) (Kd.pair Kd.bool Kd.bool)) (fun x : S89 => (x.f0, x.f1, x.f2))
theorem k89_open {w : World} {x : S89} {cs : List Value} (h : k89.K w x cs) : cs = [.int .i64 x.f0, .bool x.f1, .bool x.f2] := by
  obtain ⟨_, _, rfl, rfl, ⟨_, _, rfl, rfl, rfl⟩⟩ := h
  exact rfl
theorem k89_openM {w : World} {base : Nat} {ok : Nat → Prop} {x : S89} {cs : List Value} (h : k89.M w base ok x cs) : cs = [.int .i64 x.f0, .bool x.f1, .bool x.f2] := by
  obtain ⟨_, _, rfl, rfl, ⟨_, _, rfl, rfl, rfl⟩⟩ := h
  exact rfl
theorem k89_mk (w : World) (x : S89)  : k89.K w x [.int .i64 x.f0, .bool x.f1, .bool x.f2] := ⟨[.int .i64 x.f0], [.bool x.f1, .bool x.f2], rfl, rfl, ⟨[.bool x.f1], [.bool x.f2], rfl, rfl, rfl⟩⟩
theorem k89_mkM (w : World) (base : Nat) (ok : Nat → Prop) (x : S89)  : k89.M w base ok x [.int .i64 x.f0, .bool x.f1, .bool x.f2] := ⟨[.int .i64 x.f0], [.bool x.f1, .bool x.f2], rfl, rfl, ⟨[.bool x.f1], [.bool x.f2], rfl, rfl, rfl⟩⟩
theorem k89_mkF (W : World) (ok : Nat → Prop) (x : S89) : Kd.FK k89 W ok x [.int .i64 x.f0, .bool x.f1, .bool x.f2] := fun W2 _ => k89_mk W2 x
def rd_T89 (xs : List S89) (i : Int) : S89 := xs.getD i.toNat z89
theorem at_T89 {w : World} {A : Option Addr} {n : Nat} {xs : List S89} (h : Kd.C k89 w A n xs) (i : Int) (h0 : 0 ≤ i) (h1 : i < n) : ∃ ad , A = some ad ∧ w.cell? (ad.add (i.toNat * 3)) = some (.int .i64 (rd_T89 xs i).f0) ∧ w.cell? ⟨(ad.add (i.toNat * 3)).block, (ad.add (i.toNat * 3)).off + 1, none⟩ = some (.bool (rd_T89 xs i).f1) ∧ w.cell? ⟨(ad.add (i.toNat * 3)).block, (ad.add (i.toNat * 3)).off + 2, none⟩ = some (.bool (rd_T89 xs i).f2) := by
  obtain ⟨ad, c, e, _, hK, hc0⟩ := Kd.C_get h z89 i h0 h1
  have hc : ∀ j u, c[j]? = some u → w.cell? (ad.add (i.toNat * 3 + j)) = some u := hc0
  obtain rfl := k89_open hK
  exact ⟨ad, e, hc 0 _ rfl, by rw [← add_field _ _ 1 (by omega)]; exact hc 1 _ rfl, by rw [← add_field _ _ 2 (by omega)]; exact hc 2 _ rfl⟩

def rd_L10 (xs : List (List Int)) (i : Int) : (List Int) := xs.getD i.toNat ([] : List Int)
theorem at_L10 {w : World} {A : Option Addr} {n : Nat} {xs : List (List Int)} (h : Kd.C (Kd.slice 2 (Kd.int .i64)) w A n xs) (i : Int) (h0 : 0 ≤ i) (h1 : i < n) : ∃ ad A0 c0, A = some ad ∧ w.cell? (ad.add i.toNat) = some (.slice A0 (rd_L10 xs i).length c0) ∧ (rd_L10 xs i).length ≤ c0 ∧ (Kd.int .i64).C w A0 (rd_L10 xs i).length (rd_L10 xs i) := by
  obtain ⟨ad, c, e, _, hK, hc0⟩ := Kd.C_get h ([] : List Int) i h0 h1
  have hc : ∀ j u, c[j]? = some u → w.cell? (ad.add (i.toNat * 1 + j)) = some u := hc0
  obtain ⟨A0, c0, rfl, l0, g0⟩ := hK
  exact ⟨ad, A0, c0, e, by have hq := hc 0 _ rfl; rwa [Nat.mul_one, Nat.add_zero] at hq, l0, g0⟩

def rd_L11 (xs : List (List Int)) (i : Int) : (List Int) := xs.getD i.toNat ([] : List Int)
theorem at_L11 {w : World} {A : Option Addr} {n : Nat} {xs : List (List Int)} (h : Kd.C (Kd.slice 5 (Kd.int .u8)) w A n xs) (i : Int) (h0 : 0 ≤ i) (h1 : i < n) : ∃ ad A0 c0, A = some ad ∧ w.cell? (ad.add i.toNat) = some (.slice A0 (rd_L11 xs i).length c0) ∧ (rd_L11 xs i).length ≤ c0 ∧ (Kd.int .u8).C w A0 (rd_L11 xs i).length (rd_L11 xs i) := by
  obtain ⟨ad, c, e, _, hK, hc0⟩ := Kd.C_get h ([] : List Int) i h0 h1
  have hc : ∀ j u, c[j]? = some u → w.cell? (ad.add (i.toNat * 1 + j)) = some u := hc0
  obtain ⟨A0, c0, rfl, l0, g0⟩ := hK
  exact ⟨ad, A0, c0, e, by have hq := hc 0 _ rfl; rwa [Nat.mul_one, Nat.add_zero] at hq, l0, g0⟩

/-! #### struct type 77 -/
structure S77 where
  f0 : Int
  f1 : Int
  f2 : Int
  f3 : Int
  f4 : (List Int)
  f5 : (List Int)
def z77 : S77 := ⟨(0 : Int), (0 : Int), (0 : Int), (0 : Int), ([] : List Int), ([] : List Int)⟩
def k77 : Kd S77 := Kd.iso (Kd.pair (Kd.int .i64) (Kd.pair (Kd.int .i64) (Kd.pair (Kd.int .u8) (Kd.pair (Kd.int .i64) (Kd.pair (Kd.slice 2 (Kd.int .i64)) (Kd.slice 5 (Kd.int .u8))))))) (fun x : S77 => (x.f0, x.f1, x.f2, x.f3, x.f4, x.f5))
theorem k77_open {w : World} {x : S77} {cs : List Value} (h : k77.K w x cs) : ∃ A4 c4 A5 c5, cs = [.int .i64 x.f0, .int .i64 x.f1, .int .u8 x.f2, .int .i64 x.f3, .slice A4 x.f4.length c4, .slice A5 x.f5.length c5] ∧ x.f4.length ≤ c4 ∧ (Kd.int .i64).C w A4 x.f4.length x.f4 ∧ x.f5.length ≤ c5 ∧ (Kd.int .u8).C w A5 x.f5.length x.f5 := by
  obtain ⟨_, _, rfl, rfl, ⟨_, _, rfl, rfl, ⟨_, _, rfl, rfl, ⟨_, _, rfl, rfl, ⟨_, _, rfl, ⟨A4, c4, rfl, l4, g4⟩, ⟨A5, c5, rfl, l5, g5⟩⟩⟩⟩⟩⟩ := h
  exact ⟨A4, c4, A5, c5, rfl, l4, g4, l5, g5⟩
theorem k77_openM {w : World} {base : Nat} {ok : Nat → Prop} {x : S77} {cs : List Value} (h : k77.M w base ok x cs) : ∃ v4 v5, cs = [.int .i64 x.f0, .int .i64 x.f1, .int .u8 x.f2, .int .i64 x.f3, v4, v5] ∧ (Kd.int .i64).R 2 w base ok v4 x.f4 ∧ (Kd.int .u8).R 5 w base ok v5 x.f5 := by
  obtain ⟨_, _, rfl, rfl, ⟨_, _, rfl, rfl, ⟨_, _, rfl, rfl, ⟨_, _, rfl, rfl, ⟨_, _, rfl, ⟨v4, rfl, g4⟩, ⟨v5, rfl, g5⟩⟩⟩⟩⟩⟩ := h
  exact ⟨v4, v5, rfl, g4, g5⟩
theorem k77_mk (w : World) (x : S77) {A4 : Option Addr} {c4 : Nat} (l4 : x.f4.length ≤ c4) (g4 : (Kd.int .i64).C w A4 x.f4.length x.f4) {A5 : Option Addr} {c5 : Nat} (l5 : x.f5.length ≤ c5) (g5 : (Kd.int .u8).C w A5 x.f5.length x.f5) : k77.K w x [.int .i64 x.f0, .int .i64 x.f1, .int .u8 x.f2, .int .i64 x.f3, .slice A4 x.f4.length c4, .slice A5 x.f5.length c5] := ⟨[.int .i64 x.f0], [.int .i64 x.f1, .int .u8 x.f2, .int .i64 x.f3, .slice A4 x.f4.length c4, .slice A5 x.f5.length c5], rfl, rfl, ⟨[.int .i64 x.f1], [.int .u8 x.f2, .int .i64 x.f3, .slice A4 x.f4.length c4, .slice A5 x.f5.length c5], rfl, rfl, ⟨[.int .u8 x.f2], [.int .i64 x.f3, .slice A4 x.f4.length c4, .slice A5 x.f5.length c5], rfl, rfl, ⟨[.int .i64 x.f3], [.slice A4 x.f4.length c4, .slice A5 x.f5.length c5], rfl, rfl, ⟨[.slice A4 x.f4.length c4], [.slice A5 x.f5.length c5], rfl, ⟨A4, c4, rfl, l4, g4⟩, ⟨A5, c5, rfl, l5, g5⟩⟩⟩⟩⟩⟩
theorem k77_mkM (w : World) (base : Nat) (ok : Nat → Prop) (x : S77) {v4 : Value} (g4 : (Kd.int .i64).R 2 w base ok v4 x.f4) {v5 : Value} (g5 : (Kd.int .u8).R 5 w base ok v5 x.f5) : k77.M w base ok x [.int .i64 x.f0, .int .i64 x.f1, .int .u8 x.f2, .int .i64 x.f3, v4, v5] := ⟨[.int .i64 x.f0], [.int .i64 x.f1, .int .u8 x.f2, .int .i64 x.f3, v4, v5], rfl, rfl, ⟨[.int .i64 x.f1], [.int .u8 x.f2, .int .i64 x.f3, v4, v5], rfl, rfl, ⟨[.int .u8 x.f2], [.int .i64 x.f3, v4, v5], rfl, rfl, ⟨[.int .i64 x.f3], [v4, v5], rfl, rfl, ⟨[v4], [v5], rfl, ⟨v4, rfl, g4⟩, ⟨v5, rfl, g5⟩⟩⟩⟩⟩⟩
theorem k77_openF {W : World} {ok : Nat → Prop} {x : S77} {cs : List Value} (h : Kd.FK k77 W ok x cs) : ∃ A4 c4 A5 c5, cs = [.int .i64 x.f0, .int .i64 x.f1, .int .u8 x.f2, .int .i64 x.f3, .slice A4 x.f4.length c4, .slice A5 x.f5.length c5] ∧ x.f4.length ≤ c4 ∧ Kd.F (Kd.int .i64) W ok A4 x.f4.length x.f4 ∧ x.f5.length ≤ c5 ∧ Kd.F (Kd.int .u8) W ok A5 x.f5.length x.f5 := by
  obtain ⟨A4, c4, A5, c5, rfl, l4, _, l5, _⟩ := k77_open (Kd.FK_now h)
  exact ⟨A4, c4, A5, c5, rfl, l4, (fun W' hW => by obtain ⟨A4_, c4_, A5_, c5_, he, l4_, g4_, l5_, g5_⟩ := k77_open (h W' hW); injection (Option.some.inj (show some (Value.slice A4 x.f4.length c4) = some (Value.slice A4_ x.f4.length c4_) from congrArg (fun l => l[4]?) he)) with ha_ _ _; rw [ha_]; exact g4_), l5, (fun W' hW => by obtain ⟨A4_, c4_, A5_, c5_, he, l4_, g4_, l5_, g5_⟩ := k77_open (h W' hW); injection (Option.some.inj (show some (Value.slice A5 x.f5.length c5) = some (Value.slice A5_ x.f5.length c5_) from congrArg (fun l => l[5]?) he)) with ha_ _ _; rw [ha_]; exact g5_)⟩
theorem k77_mkF (W : World) (ok : Nat → Prop) (x : S77) {A4 : Option Addr} {c4 : Nat} (l4 : x.f4.length ≤ c4) (g4 : Kd.F (Kd.int .i64) W ok A4 x.f4.length x.f4) {A5 : Option Addr} {c5 : Nat} (l5 : x.f5.length ≤ c5) (g5 : Kd.F (Kd.int .u8) W ok A5 x.f5.length x.f5) : Kd.FK k77 W ok x [.int .i64 x.f0, .int .i64 x.f1, .int .u8 x.f2, .int .i64 x.f3, .slice A4 x.f4.length c4, .slice A5 x.f5.length c5] := fun W2 hW => k77_mk W2 x l4 (g4 W2 hW) l5 (g5 W2 hW)
def rd_T77 (xs : List S77) (i : Int) : S77 := xs.getD i.toNat z77
theorem at_T77 {w : World} {A : Option Addr} {n : Nat} {xs : List S77} (h : Kd.C k77 w A n xs) (i : Int) (h0 : 0 ≤ i) (h1 : i < n) : ∃ ad A4 c4 A5 c5, A = some ad ∧ w.cell? (ad.add (i.toNat * 6)) = some (.int .i64 (rd_T77 xs i).f0) ∧ w.cell? ⟨(ad.add (i.toNat * 6)).block, (ad.add (i.toNat * 6)).off + 1, none⟩ = some (.int .i64 (rd_T77 xs i).f1) ∧ w.cell? ⟨(ad.add (i.toNat * 6)).block, (ad.add (i.toNat * 6)).off + 2, none⟩ = some (.int .u8 (rd_T77 xs i).f2) ∧ w.cell? ⟨(ad.add (i.toNat * 6)).block, (ad.add (i.toNat * 6)).off + 3, none⟩ = some (.int .i64 (rd_T77 xs i).f3) ∧ w.cell? ⟨(ad.add (i.toNat * 6)).block, (ad.add (i.toNat * 6)).off + 4, none⟩ = some (.slice A4 (rd_T77 xs i).f4.length c4) ∧ w.cell? ⟨(ad.add (i.toNat * 6)).block, (ad.add (i.toNat * 6)).off + 5, none⟩ = some (.slice A5 (rd_T77 xs i).f5.length c5) ∧ (rd_T77 xs i).f4.length ≤ c4 ∧ (Kd.int .i64).C w A4 (rd_T77 xs i).f4.length (rd_T77 xs i).f4 ∧ (rd_T77 xs i).f5.length ≤ c5 ∧ (Kd.int .u8).C w A5 (rd_T77 xs i).f5.length (rd_T77 xs i).f5 := by
  obtain ⟨ad, c, e, _, hK, hc0⟩ := Kd.C_get h z77 i h0 h1
  have hc : ∀ j u, c[j]? = some u → w.cell? (ad.add (i.toNat * 6 + j)) = some u := hc0
  obtain ⟨A4, c4, A5, c5, rfl, l4, g4, l5, g5⟩ := k77_open hK
  exact ⟨ad, A4, c4, A5, c5, e, hc 0 _ rfl, by rw [← add_field _ _ 1 (by omega)]; exact hc 1 _ rfl, by rw [← add_field _ _ 2 (by omega)]; exact hc 2 _ rfl, by rw [← add_field _ _ 3 (by omega)]; exact hc 3 _ rfl, by rw [← add_field _ _ 4 (by omega)]; exact hc 4 _ rfl, by rw [← add_field _ _ 5 (by omega)]; exact hc 5 _ rfl, l4, g4, l5, g5⟩

/-! #### struct type 39 -/
structure S39 where
  f0 : Int
  f1 : Int
  f2 : Int
  f3 : Int
  f4 : (List Int)
  f5 : (List Int)
def z39 : S39 := ⟨(0 : Int), (0 : Int), (0 : Int), (0 : Int), ([] : List Int), ([] : List Int)⟩
def k39 : Kd S39 := Kd.iso (Kd.pair (Kd.int .i64) (Kd.pair (Kd.int .i64) (Kd.pair (Kd.int .u8) (Kd.pair (Kd.int .i64) (Kd.pair (Kd.slice 2 (Kd.int .i64)) (Kd.slice 5 (Kd.int .u8))))))) (fun x : S39 => (x.f0, x.f1, x.f2, x.f3, x.f4, x.f5))
theorem k39_open {w : World} {x : S39} {cs : List Value} (h : k39.K w x cs) : ∃ A4 c4 A5 c5, cs = [.int .i64 x.f0, .int .i64 x.f1, .int .u8 x.f2, .int .i64 x.f3, .slice A4 x.f4.length c4, .slice A5 x.f5.length c5] ∧ x.f4.length ≤ c4 ∧ (Kd.int .i64).C w A4 x.f4.length x.f4 ∧ x.f5.length ≤ c5 ∧ (Kd.int .u8).C w A5 x.f5.length x.f5 := by
  obtain ⟨_, _, rfl, rfl, ⟨_, _, rfl, rfl, ⟨_, _, rfl, rfl, ⟨_, _, rfl, rfl, ⟨_, _, rfl, ⟨A4, c4, rfl, l4, g4⟩, ⟨A5, c5, rfl, l5, g5⟩⟩⟩⟩⟩⟩ := h
  exact ⟨A4, c4, A5, c5, rfl, l4, g4, l5, g5⟩
theorem k39_openM {w : World} {base : Nat} {ok : Nat → Prop} {x : S39} {cs : List Value} (h : k39.M w base ok x cs) : ∃ v4 v5, cs = [.int .i64 x.f0, .int .i64 x.f1, .int .u8 x.f2, .int .i64 x.f3, v4, v5] ∧ (Kd.int .i64).R 2 w base ok v4 x.f4 ∧ (Kd.int .u8).R 5 w base ok v5 x.f5 := by
  obtain ⟨_, _, rfl, rfl, ⟨_, _, rfl, rfl, ⟨_, _, rfl, rfl, ⟨_, _, rfl, rfl, ⟨_, _, rfl, ⟨v4, rfl, g4⟩, ⟨v5, rfl, g5⟩⟩⟩⟩⟩⟩ := h
  exact ⟨v4, v5, rfl, g4, g5⟩
theorem k39_mk (w : World) (x : S39) {A4 : Option Addr} {c4 : Nat} (l4 : x.f4.length ≤ c4) (g4 : (Kd.int .i64).C w A4 x.f4.length x.f4) {A5 : Option Addr} {c5 : Nat} (l5 : x.f5.length ≤ c5) (g5 : (Kd.int .u8).C w A5 x.f5.length x.f5) : k39.K w x [.int .i64 x.f0, .int .i64 x.f1, .int .u8 x.f2, .int .i64 x.f3, .slice A4 x.f4.length c4, .slice A5 x.f5.length c5] := ⟨[.int .i64 x.f0], [.int .i64 x.f1, .int .u8 x.f2, .int .i64 x.f3, .slice A4 x.f4.length c4, .slice A5 x.f5.length c5], rfl, rfl, ⟨[.int .i64 x.f1], [.int .u8 x.f2, .int .i64 x.f3, .slice A4 x.f4.length c4, .slice A5 x.f5.length c5], rfl, rfl, ⟨[.int .u8 x.f2], [.int .i64 x.f3, .slice A4 x.f4.length c4, .slice A5 x.f5.length c5], rfl, rfl, ⟨[.int .i64 x.f3], [.slice A4 x.f4.length c4, .slice A5 x.f5.length c5], rfl, rfl, ⟨[.slice A4 x.f4.length c4], [.slice A5 x.f5.length c5], rfl, ⟨A4, c4, rfl, l4, g4⟩, ⟨A5, c5, rfl, l5, g5⟩⟩⟩⟩⟩⟩
theorem k39_mkM (w : World) (base : Nat) (ok : Nat → Prop) (x : S39) {v4 : Value} (g4 : (Kd.int .i64).R 2 w base ok v4 x.f4) {v5 : Value} (g5 : (Kd.int .u8).R 5 w base ok v5 x.f5) : k39.M w base ok x [.int .i64 x.f0, .int .i64 x.f1, .int .u8 x.f2, .int .i64 x.f3, v4, v5] := ⟨[.int .i64 x.f0], [.int .i64 x.f1, .int .u8 x.f2, .int .i64 x.f3, v4, v5], rfl, rfl, ⟨[.int .i64 x.f1], [.int .u8 x.f2, .int .i64 x.f3, v4, v5], rfl, rfl, ⟨[.int .u8 x.f2], [.int .i64 x.f3, v4, v5], rfl, rfl, ⟨[.int .i64 x.f3], [v4, v5], rfl, rfl, ⟨[v4], [v5], rfl, ⟨v4, rfl, g4⟩, ⟨v5, rfl, g5⟩⟩⟩⟩⟩⟩
theorem k39_openF {W : World} {ok : Nat → Prop} {x : S39} {cs : List Value} (h : Kd.FK k39 W ok x cs) : ∃ A4 c4 A5 c5, cs = [.int .i64 x.f0, .int .i64 x.f1, .int .u8 x.f2, .int .i64 x.f3, .slice A4 x.f4.length c4, .slice A5 x.f5.length c5] ∧ x.f4.length ≤ c4 ∧ Kd.F (Kd.int .i64) W ok A4 x.f4.length x.f4 ∧ x.f5.length ≤ c5 ∧ Kd.F (Kd.int .u8) W ok A5 x.f5.length x.f5 := by
  obtain ⟨A4, c4, A5, c5, rfl, l4, _, l5, _⟩ := k39_open (Kd.FK_now h)
  exact ⟨A4, c4, A5, c5, rfl, l4, (fun W' hW => by obtain ⟨A4_, c4_, A5_, c5_, he, l4_, g4_, l5_, g5_⟩ := k39_open (h W' hW); injection (Option.some.inj (show some (Value.slice A4 x.f4.length c4) = some (Value.slice A4_ x.f4.length c4_) from congrArg (fun l => l[4]?) he)) with ha_ _ _; rw [ha_]; exact g4_), l5, (fun W' hW => by obtain ⟨A4_, c4_, A5_, c5_, he, l4_, g4_, l5_, g5_⟩ := k39_open (h W' hW); injection (Option.some.inj (show some (Value.slice A5 x.f5.length c5) = some (Value.slice A5_ x.f5.length c5_) from congrArg (fun l => l[5]?) he)) with ha_ _ _; rw [ha_]; exact g5_)⟩
theorem k39_mkF (W : World) (ok : Nat → Prop) (x : S39) {A4 : Option Addr} {c4 : Nat} (l4 : x.f4.length ≤ c4) (g4 : Kd.F (Kd.int .i64) W ok A4 x.f4.length x.f4) {A5 : Option Addr} {c5 : Nat} (l5 : x.f5.length ≤ c5) (g5 : Kd.F (Kd.int .u8) W ok A5 x.f5.length x.f5) : Kd.FK k39 W ok x [.int .i64 x.f0, .int .i64 x.f1, .int .u8 x.f2, .int .i64 x.f3, .slice A4 x.f4.length c4, .slice A5 x.f5.length c5] := fun W2 hW => k39_mk W2 x l4 (g4 W2 hW) l5 (g5 W2 hW)
def rd_T39 (xs : List S39) (i : Int) : S39 := xs.getD i.toNat z39
theorem at_T39 {w : World} {A : Option Addr} {n : Nat} {xs : List S39} (h : Kd.C k39 w A n xs) (i : Int) (h0 : 0 ≤ i) (h1 : i < n) : ∃ ad A4 c4 A5 c5, A = some ad ∧ w.cell? (ad.add (i.toNat * 6)) = some (.int .i64 (rd_T39 xs i).f0) ∧ w.cell? ⟨(ad.add (i.toNat * 6)).block, (ad.add (i.toNat * 6)).off + 1, none⟩ = some (.int .i64 (rd_T39 xs i).f1) ∧ w.cell? ⟨(ad.add (i.toNat * 6)).block, (ad.add (i.toNat * 6)).off + 2, none⟩ = some (.int .u8 (rd_T39 xs i).f2) ∧ w.cell? ⟨(ad.add (i.toNat * 6)).block, (ad.add (i.toNat * 6)).off + 3, none⟩ = some (.int .i64 (rd_T39 xs i).f3) ∧ w.cell? ⟨(ad.add (i.toNat * 6)).block, (ad.add (i.toNat * 6)).off + 4, none⟩ = some (.slice A4 (rd_T39 xs i).f4.length c4) ∧ w.cell? ⟨(ad.add (i.toNat * 6)).block, (ad.add (i.toNat * 6)).off + 5, none⟩ = some (.slice A5 (rd_T39 xs i).f5.length c5) ∧ (rd_T39 xs i).f4.length ≤ c4 ∧ (Kd.int .i64).C w A4 (rd_T39 xs i).f4.length (rd_T39 xs i).f4 ∧ (rd_T39 xs i).f5.length ≤ c5 ∧ (Kd.int .u8).C w A5 (rd_T39 xs i).f5.length (rd_T39 xs i).f5 := by
  obtain ⟨ad, c, e, _, hK, hc0⟩ := Kd.C_get h z39 i h0 h1
  have hc : ∀ j u, c[j]? = some u → w.cell? (ad.add (i.toNat * 6 + j)) = some u := hc0
  obtain ⟨A4, c4, A5, c5, rfl, l4, g4, l5, g5⟩ := k39_open hK
  exact ⟨ad, A4, c4, A5, c5, e, hc 0 _ rfl, by rw [← add_field _ _ 1 (by omega)]; exact hc 1 _ rfl, by rw [← add_field _ _ 2 (by omega)]; exact hc 2 _ rfl, by rw [← add_field _ _ 3 (by omega)]; exact hc 3 _ rfl, by rw [← add_field _ _ 4 (by omega)]; exact hc 4 _ rfl, by rw [← add_field _ _ 5 (by omega)]; exact hc 5 _ rfl, l4, g4, l5, g5⟩

end Go.Proofs.YtjdpkhnpgdangaaGreatDoor.PQ
