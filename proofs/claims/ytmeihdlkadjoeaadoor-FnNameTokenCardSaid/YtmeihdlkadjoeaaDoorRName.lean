/- FOR EVERY TEXT THE LAW FnNameToken RETURNS TRUE: a name's characters may stand where they do, and the name is told as a single name; the text reads afterwards as it read before. Conditions: the listed package-level variables start as the program's text lays them (the card ties them). -/
import Derived.Test.YtmeihdlkadjoeaaDoorRows
import Derived.Test.YtmeihdlkadjoeaaDoorCards
import Derived.Test.YtmeihdlkadjoeaaDoorTie
import Derived.Test.YtmeihdlkadjoeaaDoorLName
import Derived.Test.YtmeihdlkadjoeaaDoorGlob
import Derived.Test.YtmeihdlkadjoeaaDoorArgs
import Derived.ProofKit
import Derived.OpenShut
import Derived.ShutString
import Derived.SizedLaws
import Derived.ChangeOld
import Derived.Carry
import Derived.Deep.DeepHandedRow
namespace Go.Proofs.YtmeihdlkadjoeaaDoor.fnNameToken
open Go.ChangeShapes Go.WideShapes Go.ChangeAt Go.RowKit
open Go.ChangeMaps (open_string shut_string)
set_option linter.unusedVariables false
set_option maxRecDepth 100000

theorem reads (os : Os) {H : Type} (enc : TypeId × Value → H) : ∃ places, DataW.whole enc Tryd.prog ((World.laidAll Tryd.prog os laidL).forCall (fun _ _ => 0) ⟨#[], #[.string ⟨#[]⟩], []⟩).memory Tryd.f5.params.toList Rows.fnNameTokenSpec.vars false #[Value.string ⟨#[]⟩].toList 8 = some ([.lit (.string [])], [], places) :=
  ⟨[], by kernel_rfl⟩

theorem lifted (os : Os) (started : os.Started) (H : Type) (enc : TypeId × Value → H) (F : Stop.Interp) :
    ReturnsInHanded {} Tryd.checked os 5 .any ((OpenSpec.ofChange Rows.fnNameTokenSpec).preRow enc Tryd.prog Tryd.f5 Rows.fnNameTokenRow.domain false Rows.fnNameTokenRow.laid) (((OpenSpec.ofChange Rows.fnNameTokenSpec).at F).post enc Tryd.prog Tryd.f5 false true false false) := by
  obtain ⟨places, hx⟩ := reads os enc
  have hok : Input.okWideB Tryd.prog ((World.laidAll Tryd.prog os laidL).forCall (fun _ _ => 0) ⟨#[], #[.string ⟨#[]⟩], []⟩) 5 ⟨#[], #[.string ⟨#[]⟩], []⟩ = true := by kernel_rfl
  refine returnsInHanded_of_row (C := Tryd.checked) (s := OpenSpec.ofChange Rows.fnNameTokenSpec) own' started (by kernel_rfl) Tryd.func5
    ⟨World.laidAll Tryd.prog os laidL, fun _ _ => 0, ⟨#[], #[.string ⟨#[]⟩], []⟩, World.laidAll_os _ _ _, shaped_world os _, (Input.okWide_of_okWideB (base := 0) hok).1, (Input.okWide_of_okWideB hok).2,
      OpenSpec.preRow_of_cond 8 hx (by kernel_rfl) (fun k hk => by cases hk) (by kernel_rfl) (laid_world os _), (fun h => Bool.noConfusion h), (fun h => Bool.noConfusion h), (fun h => Bool.noConfusion h), (fun d h => by cases h), (fun d h => by cases h), (fun h => Bool.noConfusion h)⟩ ?_
  intro W base args ds gs before hval0 hW _ _ hsz0 hL hshape _
  have hsz : (DataW.weightsEach Tryd.prog (Tryd.f5.params.toList ++ Rows.fnNameTokenSpec.plain.varTypes Tryd.prog) (ds ++ gs)).all (· ≤ reachBytes) = true := hsz0
  have hval : ∀ (j : Nat) t v, Tryd.f5.params[j]? = some t → args[j]? = some v → Value.okWide Tryd.prog W .any base t v := hval0
  have hW' := hW
  obtain ⟨p, q, hA0, hV, rfl, hfz, hnd⟩ := hW
  have hA : DataW.TrodAll enc Tryd.prog W 0 (fun _ => true) true Tryd.f5.params.toList args.toList ds p := hA0
  rw [Tryd.params5] at hA hval
  obtain ⟨v0, vs0, d0, ds0, p0, q0, hargs, rfl, rfl, h0, r0⟩ := trodAll_cons hA
  obtain ⟨rfl, rfl, rfl⟩ := trodAll_nil r0
  obtain rfl : args = #[v0] := by cases args; simp_all
  obtain ⟨rfl, rfl⟩ := trodVars_none hV
  obtain ⟨a0, rfl, rfl, rfl, y0⟩ := open_string Tryd.underlying9 (hval 0 9 v0 rfl rfl) h0
  have w0 : a0.size ≤ 140737488351232 := by
    have z := sized_string hsz (j := 0) (t := 9) rfl rfl
    rw [Array.length_toList] at z
    exact z
  simp only [List.append_nil] at hW'
  obtain ⟨l0, rfl⟩ := str_all a0
  have HG := globI_of_laid hL (ten_of_shaped hshape)
  refine (law_name l0 W w0 HG).mono fun e W' ⟨he, bel⟩ => ?_
  subst he
  exact ⟨_, rfl, _, _, _, [], [], [], hW', trodAll_mk1 (shut_bool Tryd.underlying4 _), (trodAll_mk1 (shut_string Tryd.underlying9 y0)), rfl, bel.frame _, fun h => by cases h⟩

theorem said : Rows.FnNameTokenSaid :=
  OpenClaim.holds_of_cond 5 Tryd.f5 rfl rfl rfl rfl rfl rfl rfl ⟨rfl, rfl, rfl, rfl, rfl⟩ rfl rfl rfl rfl rfl (by kernel_rfl) Tryd.func5 (by kernel_rfl)
    (of_decide_eq_true (by kernel_rfl)) (by unfold Func.isWrapper; first | (rw [if_pos (by decide +kernel)]; kernel_rfl) | (rw [if_neg (by decide +kernel)]; exact ⟨rfl, rfl⟩))
    (fun os started H enc _ F => by rw [OpenClaim.pre_eq_preRow]; exact lifted os started H enc F)

theorem plain (f : FuncId) (fn : Func) (hf : Tryd.pinned.checked.prog.funcNamed "loop.example/pub-g01461/laws.FnNameToken" = some f) (hfn : Tryd.pinned.checked.prog.funcs[f]? = some fn) :
    true = Tryd.pinned.checked.prog.looks [] ∧ ∀ (j : Nat) t, fn.params[j]? = some t → Tryd.pinned.checked.prog.wantsStandIn t = false := by
  obtain rfl : f = 5 := Option.some.inj ((show Tryd.prog.funcNamed "loop.example/pub-g01461/laws.FnNameToken" = some 5 by kernel_rfl).symm.trans hf) |>.symm
  obtain rfl : fn = Tryd.f5 := (Option.some.inj (Tryd.func5.symm.trans hfn)).symm
  refine ⟨by kernel_rfl, fun j t ht => ?_⟩
  rw [Tryd.params5] at ht
  have hm : t ∈ [9] := by simpa using Array.mem_of_getElem? ht
  have hall : ([9].all fun u => !Tryd.prog.wantsStandIn u) = true := by kernel_rfl
  exact (show Tryd.prog.wantsStandIn t = false by simpa using List.all_eq_true.1 hall t hm)
end Go.Proofs.YtmeihdlkadjoeaaDoor.fnNameToken
namespace Go.Proofs.YtmeihdlkadjoeaaDoor
theorem fnNameToken_card : Rows.FnNameTokenCardSaid :=
  Claim7.holds_tied_plain_at .later [] _ _ _ _ fnNameToken.said (fun _ h => by cases h) (by kernel_rfl) (fun _ h => by cases h) fnNameToken_row_tie rfl ⟨rfl, rfl⟩ (by kernel_rfl) rfl fnNameToken.plain (by kernel_rfl)
end Go.Proofs.YtmeihdlkadjoeaaDoor
