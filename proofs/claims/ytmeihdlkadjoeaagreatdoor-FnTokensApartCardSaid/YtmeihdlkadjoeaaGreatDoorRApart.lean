/- FOR EVERY LIST OF WORDS THE LAW FnTokensApart RETURNS TRUE: words that may stand without gaps are told one by one; the argument reads afterwards as it read before. Conditions: the listed package-level variables start as the program's text lays them (the card ties them). -/
import Derived.Test.YtmeihdlkadjoeaaGreatDoorRows
import Derived.Test.YtmeihdlkadjoeaaGreatDoorCards
import Derived.Test.YtmeihdlkadjoeaaGreatDoorTie
import Derived.Test.YtmeihdlkadjoeaaGreatDoorLApart
import Derived.Test.YtmeihdlkadjoeaaGreatDoorGlob
import Derived.Test.YtmeihdlkadjoeaaGreatDoorArgs
import Derived.ProofKit
import Derived.OpenShut
import Derived.ShutString
import Derived.SizedLaws
import Derived.ChangeOld
import Derived.Carry
import Derived.Deep.DeepHandedRow
namespace Go.Proofs.YtmeihdlkadjoeaaGreatDoor.fnTokensApart
open Go.ChangeShapes Go.WideShapes Go.ChangeAt Go.RowKit
open Go.ChangeMaps (open_string shut_string)
set_option linter.unusedVariables false
set_option maxRecDepth 100000

theorem reads (os : Os) {H : Type} (enc : TypeId × Value → H) : ∃ places, DataW.whole enc Tryz.prog ((World.laidAll Tryz.prog os laidL).forCall (fun _ _ => 0) ⟨#[], #[.slice none 0 0], []⟩).memory Tryz.f4.params.toList Rows.fnTokensApartSpec.vars false #[Value.slice none 0 0].toList 8 = some ([.nil], [], places) :=
  ⟨[], by kernel_rfl⟩

theorem lifted (os : Os) (started : os.Started) (H : Type) (enc : TypeId × Value → H) (F : Stop.Interp) :
    ReturnsInHanded {} Tryz.checked os 4 .any ((OpenSpec.ofChange Rows.fnTokensApartSpec).preRow enc Tryz.prog Tryz.f4 Rows.fnTokensApartRow.domain false Rows.fnTokensApartRow.laid) (((OpenSpec.ofChange Rows.fnTokensApartSpec).at F).post enc Tryz.prog Tryz.f4 false true false false) := by
  obtain ⟨places, hx⟩ := reads os enc
  have hok : Input.okWideB Tryz.prog ((World.laidAll Tryz.prog os laidL).forCall (fun _ _ => 0) ⟨#[], #[.slice none 0 0], []⟩) 4 ⟨#[], #[.slice none 0 0], []⟩ = true := by kernel_rfl
  refine returnsInHanded_of_row (C := Tryz.checked) (s := OpenSpec.ofChange Rows.fnTokensApartSpec) own' started (by kernel_rfl) Tryz.func4
    ⟨World.laidAll Tryz.prog os laidL, fun _ _ => 0, ⟨#[], #[.slice none 0 0], []⟩, World.laidAll_os _ _ _, shaped_world os _, (Input.okWide_of_okWideB (base := 0) hok).1, (Input.okWide_of_okWideB hok).2,
      OpenSpec.preRow_of_cond 8 hx (by kernel_rfl) (fun k hk => by cases hk) (by kernel_rfl) (laid_world os _), (fun h => Bool.noConfusion h), (fun h => Bool.noConfusion h), (fun h => Bool.noConfusion h), (fun d h => by cases h), (fun d h => by cases h), (fun h => Bool.noConfusion h)⟩ ?_
  intro W base args ds gs before hval0 hW _ _ hsz0 hL hshape _
  have hsz : (DataW.weightsEach Tryz.prog (Tryz.f4.params.toList ++ Rows.fnTokensApartSpec.plain.varTypes Tryz.prog) (ds ++ gs)).all (· ≤ reachBytes) = true := hsz0
  have hval : ∀ (j : Nat) t v, Tryz.f4.params[j]? = some t → args[j]? = some v → Value.okWide Tryz.prog W .any base t v := hval0
  have hW' := hW
  obtain ⟨p, q, hA0, hV, rfl, hfz, hnd⟩ := hW
  have hA : DataW.TrodAll enc Tryz.prog W 0 (fun _ => true) true Tryz.f4.params.toList args.toList ds p := hA0
  rw [Tryz.params4] at hA hval
  obtain ⟨v0, vs0, d0, ds0, p0, q0, hargs, rfl, rfl, h0, r0⟩ := trodAll_cons hA
  obtain ⟨rfl, rfl, rfl⟩ := trodAll_nil r0
  obtain rfl : args = #[v0] := by cases args; simp_all
  obtain ⟨rfl, rfl⟩ := trodVars_none hV
  obtain ⟨⟨A0, n0, c0, ls0, rfl, e0, s0⟩, k0⟩ := open_words (hval 0 22 v0 rfl rfl) h0
  have HG := globI_of_laid hL (ten_of_shaped hshape)
  refine (law_apart ls0 A0 c0 n0 e0 W s0 HG).mono fun e W' ⟨he, bel⟩ => ?_
  subst he
  exact ⟨_, rfl, _, _, _, [], _, [], hW', trodAll_mk1 (shut_bool Tryz.underlying4 _), (trodAll_mk1 (k0 _ bel)), rfl, bel.frame _, fun h => by cases h⟩

theorem said : Rows.FnTokensApartSaid :=
  OpenClaim.holds_of_cond 4 Tryz.f4 rfl rfl rfl rfl rfl rfl rfl ⟨rfl, rfl, rfl, rfl, rfl⟩ rfl rfl rfl rfl rfl (by kernel_rfl) Tryz.func4 (by kernel_rfl)
    (of_decide_eq_true (by kernel_rfl)) (by unfold Func.isWrapper; first | (rw [if_pos (by decide +kernel)]; kernel_rfl) | (rw [if_neg (by decide +kernel)]; exact ⟨rfl, rfl⟩))
    (fun os started H enc _ F => by rw [OpenClaim.pre_eq_preRow]; exact lifted os started H enc F)

theorem plain (f : FuncId) (fn : Func) (hf : Tryz.pinned.checked.prog.funcNamed "loop.example/pub-g01461/laws.FnTokensApart" = some f) (hfn : Tryz.pinned.checked.prog.funcs[f]? = some fn) :
    true = Tryz.pinned.checked.prog.looks [] ∧ ∀ (j : Nat) t, fn.params[j]? = some t → Tryz.pinned.checked.prog.wantsStandIn t = false := by
  obtain rfl : f = 4 := Option.some.inj ((show Tryz.prog.funcNamed "loop.example/pub-g01461/laws.FnTokensApart" = some 4 by kernel_rfl).symm.trans hf) |>.symm
  obtain rfl : fn = Tryz.f4 := (Option.some.inj (Tryz.func4.symm.trans hfn)).symm
  refine ⟨by kernel_rfl, fun j t ht => ?_⟩
  rw [Tryz.params4] at ht
  have hm : t ∈ [22] := by simpa using Array.mem_of_getElem? ht
  have hall : ([22].all fun u => !Tryz.prog.wantsStandIn u) = true := by kernel_rfl
  exact (show Tryz.prog.wantsStandIn t = false by simpa using List.all_eq_true.1 hall t hm)
end Go.Proofs.YtmeihdlkadjoeaaGreatDoor.fnTokensApart
namespace Go.Proofs.YtmeihdlkadjoeaaGreatDoor
theorem fnTokensApart_card : Rows.FnTokensApartCardSaid :=
  Claim7.holds_tied_plain_at .later [] _ _ _ _ fnTokensApart.said (fun _ h => by cases h) (by kernel_rfl) (fun _ h => by cases h) fnTokensApart_row_tie rfl ⟨rfl, rfl⟩ (by kernel_rfl) rfl fnTokensApart.plain (by kernel_rfl)
end Go.Proofs.YtmeihdlkadjoeaaGreatDoor
