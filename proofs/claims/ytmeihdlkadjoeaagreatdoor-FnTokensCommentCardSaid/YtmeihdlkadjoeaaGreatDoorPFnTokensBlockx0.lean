-- PRINTED BY print.sh 35421559b90ae4d0a3588c463048766b98c2df88dd9212a6774a882060cdf62d: not written by this session
import Derived.Test.YtmeihdlkadjoeaaGreatDoorProg
import Derived.Below
import Derived.Deep.Draws
import Derived.Deep.AppendLies
import Derived.Maps.AppendAt
import Derived.OwnWalk
import Derived.Laws.BytesArg
import Derived.Laws.MakeOwn
import Derived.Laws.OwnMore
import Derived.Deep.OwnRows
import Derived.Tactics
import Derived.Lib.ConvBytes
import Derived.Laws.Slices
import Derived.WalkKit
import Derived.KernelRfl
import Derived.RowKit3
import Derived.Deep.LoopGhost
import Derived.Deep.QuietTactic
import Derived.BigQuiet
import Derived.WideLaws
import Derived.Deep.DeepCutAuto
import Derived.Deep.CutBlock
import Derived.Deep.RegionHeld3
import Derived.Laws.Rows
import Derived.Lib.AppendStr
import Derived.ArgAppend
import Derived.Laws.IdiomCopy
import Derived.OrdersHeld
import Derived.Laws.BitsLemmas
import Derived.RowKit
import Derived.Test.YtmeihdlkadjoeaaGreatDoorWWords
import Derived.Test.YtmeihdlkadjoeaaGreatDoorWLast
import Derived.Test.YtmeihdlkadjoeaaGreatDoorWTab
import Derived.Test.YtmeihdlkadjoeaaGreatDoorWFour
import Derived.Test.YtmeihdlkadjoeaaGreatDoorWQPut
import Derived.Test.YtmeihdlkadjoeaaGreatDoorWApart
import Derived.Test.YtmeihdlkadjoeaaGreatDoorWArr
import Derived.Test.YtmeihdlkadjoeaaGreatDoorWZeros
import Derived.Test.YtmeihdlkadjoeaaGreatDoorWFoot
import Derived.Test.YtmeihdlkadjoeaaGreatDoorWKept
import Derived.Test.YtmeihdlkadjoeaaGreatDoorWShare
import Derived.Test.YtmeihdlkadjoeaaGreatDoorWN
import Derived.Test.YtmeihdlkadjoeaaGreatDoorWFootNe
import Derived.Test.YtmeihdlkadjoeaaGreatDoorWAt
import Derived.Test.YtmeihdlkadjoeaaGreatDoorWEqStruct
import Derived.Test.YtmeihdlkadjoeaaGreatDoorWRepsOne
import Derived.Test.YtmeihdlkadjoeaaGreatDoorWInv
import Derived.Test.YtmeihdlkadjoeaaGreatDoorWInvWords
import Derived.Test.YtmeihdlkadjoeaaGreatDoorWGuard
import Derived.Test.YtmeihdlkadjoeaaGreatDoorWNEv
import Derived.Test.YtmeihdlkadjoeaaGreatDoorWMore
namespace Go.Proofs.YtmeihdlkadjoeaaGreatDoor.PFnTokensBlock
open Go.RowKit Go.Proofs.YtmeihdlkadjoeaaGreatDoorW.PrintWords Go.Proofs.YtmeihdlkadjoeaaGreatDoorW.PrintLast Go.Proofs.YtmeihdlkadjoeaaGreatDoorW.PrintMore
attribute [local go_sem] max2_int min2_int max_two min_two max_three min_three max_four min_four   -- for this text's walks alone
set_option linter.unusedVariables false
set_option linter.unusedSimpArgs false



def errW : Option Int → Value
  | none => .nilIface
  | some c => .iface 0 (.int .i64 c)
theorem errW_none : errW none = .nilIface := rfl
theorem errW_some (c : Int) : errW (some c) = .iface 0 (.int .i64 c) := rfl

theorem info5 : (Tryz.prog.info? 5).map (fun i => (i.zero, i.size, i.bytes)) = some (some (.int .u8 0), 1, 1) := by kernel_rfl
theorem info35 : (Tryz.prog.info? 35).map (fun i => (i.zero, i.size, i.bytes)) = some (some (.agg #[(.int .i64 0), (.string ⟨#[]⟩)]), 2, 24) := by kernel_rfl
-- the values' own types
/-! #### struct type 35 -/
structure S35 where
  f0 : Int
  f1 : ByteArray
def z35 : S35 := ⟨(0 : Int), (⟨#[]⟩ : ByteArray)⟩
def k35 : Kd S35 := Kd.iso (Kd.pair (Kd.int .i64) Kd.string) (fun x : S35 => (x.f0, x.f1))
theorem k35_open {w : World} {x : S35} {cs : List Value} (h : k35.K w x cs) : cs = [.int .i64 x.f0, .string x.f1] := by
  obtain ⟨_, _, rfl, rfl, rfl⟩ := h
  exact rfl
theorem k35_openM {w : World} {base : Nat} {ok : Nat → Prop} {x : S35} {cs : List Value} (h : k35.M w base ok x cs) : cs = [.int .i64 x.f0, .string x.f1] := by
  obtain ⟨_, _, rfl, rfl, rfl⟩ := h
  exact rfl
theorem k35_mk (w : World) (x : S35)  : k35.K w x [.int .i64 x.f0, .string x.f1] := ⟨[.int .i64 x.f0], [.string x.f1], rfl, rfl, rfl⟩
theorem k35_mkM (w : World) (base : Nat) (ok : Nat → Prop) (x : S35)  : k35.M w base ok x [.int .i64 x.f0, .string x.f1] := ⟨[.int .i64 x.f0], [.string x.f1], rfl, rfl, rfl⟩
def rd_T35 (xs : List S35) (i : Int) : S35 := xs.getD i.toNat z35
theorem at_T35 {w : World} {A : Option Addr} {n : Nat} {xs : List S35} (h : Kd.C k35 w A n xs) (i : Int) (h0 : 0 ≤ i) (h1 : i < n) : ∃ ad , A = some ad ∧ w.cell? (ad.add (i.toNat * 2)) = some (.int .i64 (rd_T35 xs i).f0) ∧ w.cell? ⟨(ad.add (i.toNat * 2)).block, (ad.add (i.toNat * 2)).off + 1, none⟩ = some (.string (rd_T35 xs i).f1) := by
  obtain ⟨ad, c, e, _, hK, hc0⟩ := Kd.C_get h z35 i h0 h1
  have hc : ∀ j u, c[j]? = some u → w.cell? (ad.add (i.toNat * 2 + j)) = some u := hc0
  obtain rfl := k35_open hK
  exact ⟨ad, e, hc 0 _ rfl, by rw [← add_field _ _ 1 (by omega)]; exact hc 1 _ rfl⟩

/-! #### struct type 124 -/
structure S124 where
  f0 : Int
  f1 : Int
  f2 : Int
def z124 : S124 := ⟨(0 : Int), (0 : Int), (0 : Int)⟩
def k124 : Kd S124 := Kd.iso (Kd.pair (Kd.int .u16) (Kd.pair (Kd.int .u16) (Kd.int .u16))) (fun x : S124 => (x.f0, x.f1, x.f2))
theorem k124_open {w : World} {x : S124} {cs : List Value} (h : k124.K w x cs) : cs = [.int .u16 x.f0, .int .u16 x.f1, .int .u16 x.f2] := by
  obtain ⟨_, _, rfl, rfl, ⟨_, _, rfl, rfl, rfl⟩⟩ := h
  exact rfl
theorem k124_openM {w : World} {base : Nat} {ok : Nat → Prop} {x : S124} {cs : List Value} (h : k124.M w base ok x cs) : cs = [.int .u16 x.f0, .int .u16 x.f1, .int .u16 x.f2] := by
  obtain ⟨_, _, rfl, rfl, ⟨_, _, rfl, rfl, rfl⟩⟩ := h
  exact rfl
theorem k124_mk (w : World) (x : S124)  : k124.K w x [.int .u16 x.f0, .int .u16 x.f1, .int .u16 x.f2] := ⟨[.int .u16 x.f0], [.int .u16 x.f1, .int .u16 x.f2], rfl, rfl, ⟨[.int .u16 x.f1], [.int .u16 x.f2], rfl, rfl, rfl⟩⟩
theorem k124_mkM (w : World) (base : Nat) (ok : Nat → Prop) (x : S124)  : k124.M w base ok x [.int .u16 x.f0, .int .u16 x.f1, .int .u16 x.f2] := ⟨[.int .u16 x.f0], [.int .u16 x.f1, .int .u16 x.f2], rfl, rfl, ⟨[.int .u16 x.f1], [.int .u16 x.f2], rfl, rfl, rfl⟩⟩
def rd_T124 (xs : List S124) (i : Int) : S124 := xs.getD i.toNat z124
theorem at_T124 {w : World} {A : Option Addr} {n : Nat} {xs : List S124} (h : Kd.C k124 w A n xs) (i : Int) (h0 : 0 ≤ i) (h1 : i < n) : ∃ ad , A = some ad ∧ w.cell? (ad.add (i.toNat * 3)) = some (.int .u16 (rd_T124 xs i).f0) ∧ w.cell? ⟨(ad.add (i.toNat * 3)).block, (ad.add (i.toNat * 3)).off + 1, none⟩ = some (.int .u16 (rd_T124 xs i).f1) ∧ w.cell? ⟨(ad.add (i.toNat * 3)).block, (ad.add (i.toNat * 3)).off + 2, none⟩ = some (.int .u16 (rd_T124 xs i).f2) := by
  obtain ⟨ad, c, e, _, hK, hc0⟩ := Kd.C_get h z124 i h0 h1
  have hc : ∀ j u, c[j]? = some u → w.cell? (ad.add (i.toNat * 3 + j)) = some u := hc0
  obtain rfl := k124_open hK
  exact ⟨ad, e, hc 0 _ rfl, by rw [← add_field _ _ 1 (by omega)]; exact hc 1 _ rfl, by rw [← add_field _ _ 2 (by omega)]; exact hc 2 _ rfl⟩

/-! #### struct type 127 -/
structure S127 where
  f0 : Int
  f1 : Int
  f2 : Int
def z127 : S127 := ⟨(0 : Int), (0 : Int), (0 : Int)⟩
def k127 : Kd S127 := Kd.iso (Kd.pair (Kd.int .u32) (Kd.pair (Kd.int .u32) (Kd.int .u32))) (fun x : S127 => (x.f0, x.f1, x.f2))
theorem k127_open {w : World} {x : S127} {cs : List Value} (h : k127.K w x cs) : cs = [.int .u32 x.f0, .int .u32 x.f1, .int .u32 x.f2] := by
  obtain ⟨_, _, rfl, rfl, ⟨_, _, rfl, rfl, rfl⟩⟩ := h
  exact rfl
theorem k127_openM {w : World} {base : Nat} {ok : Nat → Prop} {x : S127} {cs : List Value} (h : k127.M w base ok x cs) : cs = [.int .u32 x.f0, .int .u32 x.f1, .int .u32 x.f2] := by
  obtain ⟨_, _, rfl, rfl, ⟨_, _, rfl, rfl, rfl⟩⟩ := h
  exact rfl
theorem k127_mk (w : World) (x : S127)  : k127.K w x [.int .u32 x.f0, .int .u32 x.f1, .int .u32 x.f2] := ⟨[.int .u32 x.f0], [.int .u32 x.f1, .int .u32 x.f2], rfl, rfl, ⟨[.int .u32 x.f1], [.int .u32 x.f2], rfl, rfl, rfl⟩⟩
theorem k127_mkM (w : World) (base : Nat) (ok : Nat → Prop) (x : S127)  : k127.M w base ok x [.int .u32 x.f0, .int .u32 x.f1, .int .u32 x.f2] := ⟨[.int .u32 x.f0], [.int .u32 x.f1, .int .u32 x.f2], rfl, rfl, ⟨[.int .u32 x.f1], [.int .u32 x.f2], rfl, rfl, rfl⟩⟩
def rd_T127 (xs : List S127) (i : Int) : S127 := xs.getD i.toNat z127
theorem at_T127 {w : World} {A : Option Addr} {n : Nat} {xs : List S127} (h : Kd.C k127 w A n xs) (i : Int) (h0 : 0 ≤ i) (h1 : i < n) : ∃ ad , A = some ad ∧ w.cell? (ad.add (i.toNat * 3)) = some (.int .u32 (rd_T127 xs i).f0) ∧ w.cell? ⟨(ad.add (i.toNat * 3)).block, (ad.add (i.toNat * 3)).off + 1, none⟩ = some (.int .u32 (rd_T127 xs i).f1) ∧ w.cell? ⟨(ad.add (i.toNat * 3)).block, (ad.add (i.toNat * 3)).off + 2, none⟩ = some (.int .u32 (rd_T127 xs i).f2) := by
  obtain ⟨ad, c, e, _, hK, hc0⟩ := Kd.C_get h z127 i h0 h1
  have hc : ∀ j u, c[j]? = some u → w.cell? (ad.add (i.toNat * 3 + j)) = some u := hc0
  obtain rfl := k127_open hK
  exact ⟨ad, e, hc 0 _ rfl, by rw [← add_field _ _ 1 (by omega)]; exact hc 1 _ rfl, by rw [← add_field _ _ 2 (by omega)]; exact hc 2 _ rfl⟩

end Go.Proofs.YtmeihdlkadjoeaaGreatDoor.PFnTokensBlock
