-- PRINTED BY print.sh 35421559b90ae4d0a3588c463048766b98c2df88dd9212a6774a882060cdf62d: not written by this session
import Derived.Test.YtmeihdlkadjoeaaDoorProg
import Derived.Below
import Derived.Deep.Draws
import Derived.Deep.AppendLies
import Derived.Maps.AppendAt
import Derived.OwnWalk
import Derived.Laws.BytesArg
import Derived.Laws.MakeOwn
import Derived.Laws.OwnMore
import Derived.Deep.OwnRows
import Derived.Tactics
import Derived.Lib.ConvBytes
import Derived.Laws.Slices
import Derived.WalkKit
import Derived.KernelRfl
import Derived.RowKit3
import Derived.Deep.LoopGhost
import Derived.Deep.QuietTactic
import Derived.BigQuiet
import Derived.WideLaws
import Derived.Deep.DeepCutAuto
import Derived.Deep.CutBlock
import Derived.Deep.RegionHeld3
import Derived.Laws.Rows
import Derived.Lib.AppendStr
import Derived.ArgAppend
import Derived.Laws.IdiomCopy
import Derived.OrdersHeld
import Derived.Laws.BitsLemmas
import Derived.RowKit
import Derived.Test.YtmeihdlkadjoeaaDoorWWords
import Derived.Test.YtmeihdlkadjoeaaDoorWLast
import Derived.Test.YtmeihdlkadjoeaaDoorWTab
import Derived.Test.YtmeihdlkadjoeaaDoorWFour
import Derived.Test.YtmeihdlkadjoeaaDoorWQPut
import Derived.Test.YtmeihdlkadjoeaaDoorWApart
import Derived.Test.YtmeihdlkadjoeaaDoorWArr
import Derived.Test.YtmeihdlkadjoeaaDoorWZeros
import Derived.Test.YtmeihdlkadjoeaaDoorWFoot
import Derived.Test.YtmeihdlkadjoeaaDoorWKept
import Derived.Test.YtmeihdlkadjoeaaDoorWShare
import Derived.Test.YtmeihdlkadjoeaaDoorWN
import Derived.Test.YtmeihdlkadjoeaaDoorWFootNe
import Derived.Test.YtmeihdlkadjoeaaDoorWAt
import Derived.Test.YtmeihdlkadjoeaaDoorWEqStruct
import Derived.Test.YtmeihdlkadjoeaaDoorWRepsOne
import Derived.Test.YtmeihdlkadjoeaaDoorWInv
import Derived.Test.YtmeihdlkadjoeaaDoorWInvWords
import Derived.Test.YtmeihdlkadjoeaaDoorWGuard
import Derived.Test.YtmeihdlkadjoeaaDoorWNEv
import Derived.Test.YtmeihdlkadjoeaaDoorWMore
namespace Go.Proofs.YtmeihdlkadjoeaaDoor.PFnTokensOne
open Go.RowKit Go.Proofs.YtmeihdlkadjoeaaDoorW.PrintWords Go.Proofs.YtmeihdlkadjoeaaDoorW.PrintLast Go.Proofs.YtmeihdlkadjoeaaDoorW.PrintMore
attribute [local go_sem] max2_int min2_int max_two min_two max_three min_three max_four min_four   -- for this text's walks alone
set_option linter.unusedVariables false
set_option linter.unusedSimpArgs false



def errW : Option Int → Value
  | none => .nilIface
  | some c => .iface 0 (.int .i64 c)
theorem errW_none : errW none = .nilIface := rfl
theorem errW_some (c : Int) : errW (some c) = .iface 0 (.int .i64 c) := rfl

theorem info5 : (Tryd.prog.info? 5).map (fun i => (i.zero, i.size, i.bytes)) = some (some (.int .u8 0), 1, 1) := by kernel_rfl
-- the values' own types
/-! #### struct type 126 -/
structure S126 where
  f0 : Int
  f1 : Int
  f2 : Int
def z126 : S126 := ⟨(0 : Int), (0 : Int), (0 : Int)⟩
def k126 : Kd S126 := Kd.iso (Kd.pair (Kd.int .u16) (Kd.pair (Kd.int .u16) (Kd.int .u16))) (fun x : S126 => (x.f0, x.f1, x.f2))
theorem k126_open {w : World} {x : S126} {cs : List Value} (h : k126.K w x cs) : cs = [.int .u16 x.f0, .int .u16 x.f1, .int .u16 x.f2] := by
  obtain ⟨_, _, rfl, rfl, ⟨_, _, rfl, rfl, rfl⟩⟩ := h
  exact rfl
theorem k126_openM {w : World} {base : Nat} {ok : Nat → Prop} {x : S126} {cs : List Value} (h : k126.M w base ok x cs) : cs = [.int .u16 x.f0, .int .u16 x.f1, .int .u16 x.f2] := by
  obtain ⟨_, _, rfl, rfl, ⟨_, _, rfl, rfl, rfl⟩⟩ := h
  exact rfl
theorem k126_mk (w : World) (x : S126)  : k126.K w x [.int .u16 x.f0, .int .u16 x.f1, .int .u16 x.f2] := ⟨[.int .u16 x.f0], [.int .u16 x.f1, .int .u16 x.f2], rfl, rfl, ⟨[.int .u16 x.f1], [.int .u16 x.f2], rfl, rfl, rfl⟩⟩
theorem k126_mkM (w : World) (base : Nat) (ok : Nat → Prop) (x : S126)  : k126.M w base ok x [.int .u16 x.f0, .int .u16 x.f1, .int .u16 x.f2] := ⟨[.int .u16 x.f0], [.int .u16 x.f1, .int .u16 x.f2], rfl, rfl, ⟨[.int .u16 x.f1], [.int .u16 x.f2], rfl, rfl, rfl⟩⟩
def rd_T126 (xs : List S126) (i : Int) : S126 := xs.getD i.toNat z126
theorem at_T126 {w : World} {A : Option Addr} {n : Nat} {xs : List S126} (h : Kd.C k126 w A n xs) (i : Int) (h0 : 0 ≤ i) (h1 : i < n) : ∃ ad , A = some ad ∧ w.cell? (ad.add (i.toNat * 3)) = some (.int .u16 (rd_T126 xs i).f0) ∧ w.cell? ⟨(ad.add (i.toNat * 3)).block, (ad.add (i.toNat * 3)).off + 1, none⟩ = some (.int .u16 (rd_T126 xs i).f1) ∧ w.cell? ⟨(ad.add (i.toNat * 3)).block, (ad.add (i.toNat * 3)).off + 2, none⟩ = some (.int .u16 (rd_T126 xs i).f2) := by
  obtain ⟨ad, c, e, _, hK, hc0⟩ := Kd.C_get h z126 i h0 h1
  have hc : ∀ j u, c[j]? = some u → w.cell? (ad.add (i.toNat * 3 + j)) = some u := hc0
  obtain rfl := k126_open hK
  exact ⟨ad, e, hc 0 _ rfl, by rw [← add_field _ _ 1 (by omega)]; exact hc 1 _ rfl, by rw [← add_field _ _ 2 (by omega)]; exact hc 2 _ rfl⟩

/-! #### struct type 129 -/
structure S129 where
  f0 : Int
  f1 : Int
  f2 : Int
def z129 : S129 := ⟨(0 : Int), (0 : Int), (0 : Int)⟩
def k129 : Kd S129 := Kd.iso (Kd.pair (Kd.int .u32) (Kd.pair (Kd.int .u32) (Kd.int .u32))) (fun x : S129 => (x.f0, x.f1, x.f2))
theorem k129_open {w : World} {x : S129} {cs : List Value} (h : k129.K w x cs) : cs = [.int .u32 x.f0, .int .u32 x.f1, .int .u32 x.f2] := by
  obtain ⟨_, _, rfl, rfl, ⟨_, _, rfl, rfl, rfl⟩⟩ := h
  exact rfl
theorem k129_openM {w : World} {base : Nat} {ok : Nat → Prop} {x : S129} {cs : List Value} (h : k129.M w base ok x cs) : cs = [.int .u32 x.f0, .int .u32 x.f1, .int .u32 x.f2] := by
  obtain ⟨_, _, rfl, rfl, ⟨_, _, rfl, rfl, rfl⟩⟩ := h
  exact rfl
theorem k129_mk (w : World) (x : S129)  : k129.K w x [.int .u32 x.f0, .int .u32 x.f1, .int .u32 x.f2] := ⟨[.int .u32 x.f0], [.int .u32 x.f1, .int .u32 x.f2], rfl, rfl, ⟨[.int .u32 x.f1], [.int .u32 x.f2], rfl, rfl, rfl⟩⟩
theorem k129_mkM (w : World) (base : Nat) (ok : Nat → Prop) (x : S129)  : k129.M w base ok x [.int .u32 x.f0, .int .u32 x.f1, .int .u32 x.f2] := ⟨[.int .u32 x.f0], [.int .u32 x.f1, .int .u32 x.f2], rfl, rfl, ⟨[.int .u32 x.f1], [.int .u32 x.f2], rfl, rfl, rfl⟩⟩
def rd_T129 (xs : List S129) (i : Int) : S129 := xs.getD i.toNat z129
theorem at_T129 {w : World} {A : Option Addr} {n : Nat} {xs : List S129} (h : Kd.C k129 w A n xs) (i : Int) (h0 : 0 ≤ i) (h1 : i < n) : ∃ ad , A = some ad ∧ w.cell? (ad.add (i.toNat * 3)) = some (.int .u32 (rd_T129 xs i).f0) ∧ w.cell? ⟨(ad.add (i.toNat * 3)).block, (ad.add (i.toNat * 3)).off + 1, none⟩ = some (.int .u32 (rd_T129 xs i).f1) ∧ w.cell? ⟨(ad.add (i.toNat * 3)).block, (ad.add (i.toNat * 3)).off + 2, none⟩ = some (.int .u32 (rd_T129 xs i).f2) := by
  obtain ⟨ad, c, e, _, hK, hc0⟩ := Kd.C_get h z129 i h0 h1
  have hc : ∀ j u, c[j]? = some u → w.cell? (ad.add (i.toNat * 3 + j)) = some u := hc0
  obtain rfl := k129_open hK
  exact ⟨ad, e, hc 0 _ rfl, by rw [← add_field _ _ 1 (by omega)]; exact hc 1 _ rfl, by rw [← add_field _ _ 2 (by omega)]; exact hc 2 _ rfl⟩

end Go.Proofs.YtmeihdlkadjoeaaDoor.PFnTokensOne
