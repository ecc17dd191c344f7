/- FOR EVERY LIST OF WORDS AND ANY TWO LISTS OF GAPS THE LAW FnTokensGap RETURNS TRUE: which gaps are taken does not matter; the arguments read afterwards as they read before. Conditions: the listed package-level variables start as the program's text lays them (the card ties them). -/
import Derived.Test.YtmeihdlkadjoeaaGreatDoorRows
import Derived.Test.YtmeihdlkadjoeaaGreatDoorCards
import Derived.Test.YtmeihdlkadjoeaaGreatDoorTie
import Derived.Test.YtmeihdlkadjoeaaGreatDoorLGap
import Derived.Test.YtmeihdlkadjoeaaGreatDoorGlob
import Derived.Test.YtmeihdlkadjoeaaGreatDoorArgs
import Derived.ProofKit
import Derived.OpenShut
import Derived.ShutString
import Derived.SizedLaws
import Derived.ChangeOld
import Derived.Carry
import Derived.Deep.DeepHandedRow
namespace Go.Proofs.YtmeihdlkadjoeaaGreatDoor.fnTokensGap
open Go.ChangeShapes Go.WideShapes Go.ChangeAt Go.RowKit
open Go.ChangeMaps (open_string shut_string)
set_option linter.unusedVariables false
set_option maxRecDepth 100000

theorem reads (os : Os) {H : Type} (enc : TypeId × Value → H) : ∃ places, DataW.whole enc Tryz.prog ((World.laidAll Tryz.prog os laidL).forCall (fun _ _ => 0) ⟨#[], #[.slice none 0 0, .slice none 0 0, .slice none 0 0], []⟩).memory Tryz.f7.params.toList Rows.fnTokensGapSpec.vars false #[Value.slice none 0 0, .slice none 0 0, .slice none 0 0].toList 8 = some ([.nil, .nil, .nil], [], places) :=
  ⟨[], by kernel_rfl⟩

theorem lifted (os : Os) (started : os.Started) (H : Type) (enc : TypeId × Value → H) (F : Stop.Interp) :
    ReturnsInHanded {} Tryz.checked os 7 .any ((OpenSpec.ofChange Rows.fnTokensGapSpec).preRow enc Tryz.prog Tryz.f7 Rows.fnTokensGapRow.domain false Rows.fnTokensGapRow.laid) (((OpenSpec.ofChange Rows.fnTokensGapSpec).at F).post enc Tryz.prog Tryz.f7 false true false false) := by
  obtain ⟨places, hx⟩ := reads os enc
  have hok : Input.okWideB Tryz.prog ((World.laidAll Tryz.prog os laidL).forCall (fun _ _ => 0) ⟨#[], #[.slice none 0 0, .slice none 0 0, .slice none 0 0], []⟩) 7 ⟨#[], #[.slice none 0 0, .slice none 0 0, .slice none 0 0], []⟩ = true := by kernel_rfl
  refine returnsInHanded_of_row (C := Tryz.checked) (s := OpenSpec.ofChange Rows.fnTokensGapSpec) own' started (by kernel_rfl) Tryz.func7
    ⟨World.laidAll Tryz.prog os laidL, fun _ _ => 0, ⟨#[], #[.slice none 0 0, .slice none 0 0, .slice none 0 0], []⟩, World.laidAll_os _ _ _, shaped_world os _, (Input.okWide_of_okWideB (base := 0) hok).1, (Input.okWide_of_okWideB hok).2,
      OpenSpec.preRow_of_cond 8 hx (by kernel_rfl) (fun k hk => by cases hk) (by kernel_rfl) (laid_world os _), (fun h => Bool.noConfusion h), (fun h => Bool.noConfusion h), (fun h => Bool.noConfusion h), (fun d h => by cases h), (fun d h => by cases h), (fun h => Bool.noConfusion h)⟩ ?_
  intro W base args ds gs before hval0 hW _ _ hsz0 hL hshape _
  have hsz : (DataW.weightsEach Tryz.prog (Tryz.f7.params.toList ++ Rows.fnTokensGapSpec.plain.varTypes Tryz.prog) (ds ++ gs)).all (· ≤ reachBytes) = true := hsz0
  have hval : ∀ (j : Nat) t v, Tryz.f7.params[j]? = some t → args[j]? = some v → Value.okWide Tryz.prog W .any base t v := hval0
  have hW' := hW
  obtain ⟨p, q, hA0, hV, rfl, hfz, hnd⟩ := hW
  have hA : DataW.TrodAll enc Tryz.prog W 0 (fun _ => true) true Tryz.f7.params.toList args.toList ds p := hA0
  rw [Tryz.params7] at hA hval
  obtain ⟨v0, vs0, d0, ds0, p0, q0, hargs, rfl, rfl, h0, r0⟩ := trodAll_cons hA
  obtain ⟨v1, vs1, d1, ds1, p1, q1, rfl, rfl, rfl, h1, r1⟩ := trodAll_cons r0
  obtain ⟨v2, vs2, d2, ds2, p2, q2, rfl, rfl, rfl, h2, r2⟩ := trodAll_cons r1
  obtain ⟨rfl, rfl, rfl⟩ := trodAll_nil r2
  obtain rfl : args = #[v0, v1, v2] := by cases args; simp_all
  obtain ⟨rfl, rfl⟩ := trodVars_none hV
  obtain ⟨⟨A0, n0, c0, ls0, rfl, e0, s0⟩, k0⟩ := open_words (hval 0 22 v0 rfl rfl) h0
  obtain ⟨⟨A1, n1, c1, ls1, rfl, e1, s1⟩, k1⟩ := open_words (hval 1 22 v1 rfl rfl) h1
  obtain ⟨⟨A2, n2, c2, ls2, rfl, e2, s2⟩, k2⟩ := open_words (hval 2 22 v2 rfl rfl) h2
  have HG := globI_of_laid hL (ten_of_shaped hshape)
  refine (law_gap ls0 ls1 ls2 A0 A1 A2 c0 c1 c2 n0 n1 n2 e0 e1 e2 W s0 s1 s2 HG).mono fun e W' ⟨he, bel⟩ => ?_
  subst he
  exact ⟨_, rfl, _, _, _, [], _, [], hW', trodAll_mk1 (shut_bool Tryz.underlying4 _), (trodAll_cons_mk (k0 _ bel) (trodAll_cons_mk (k1 _ bel) (trodAll_mk1 (k2 _ bel)))), rfl, bel.frame _, fun h => by cases h⟩

theorem said : Rows.FnTokensGapSaid :=
  OpenClaim.holds_of_cond 7 Tryz.f7 rfl rfl rfl rfl rfl rfl rfl ⟨rfl, rfl, rfl, rfl, rfl⟩ rfl rfl rfl rfl rfl (by kernel_rfl) Tryz.func7 (by kernel_rfl)
    (of_decide_eq_true (by kernel_rfl)) (by unfold Func.isWrapper; first | (rw [if_pos (by decide +kernel)]; kernel_rfl) | (rw [if_neg (by decide +kernel)]; exact ⟨rfl, rfl⟩))
    (fun os started H enc _ F => by rw [OpenClaim.pre_eq_preRow]; exact lifted os started H enc F)

theorem plain (f : FuncId) (fn : Func) (hf : Tryz.pinned.checked.prog.funcNamed "loop.example/pub-g01461/laws.FnTokensGap" = some f) (hfn : Tryz.pinned.checked.prog.funcs[f]? = some fn) :
    true = Tryz.pinned.checked.prog.looks [] ∧ ∀ (j : Nat) t, fn.params[j]? = some t → Tryz.pinned.checked.prog.wantsStandIn t = false := by
  obtain rfl : f = 7 := Option.some.inj ((show Tryz.prog.funcNamed "loop.example/pub-g01461/laws.FnTokensGap" = some 7 by kernel_rfl).symm.trans hf) |>.symm
  obtain rfl : fn = Tryz.f7 := (Option.some.inj (Tryz.func7.symm.trans hfn)).symm
  refine ⟨by kernel_rfl, fun j t ht => ?_⟩
  rw [Tryz.params7] at ht
  have hm : t ∈ [22, 22, 22] := by simpa using Array.mem_of_getElem? ht
  have hall : ([22, 22, 22].all fun u => !Tryz.prog.wantsStandIn u) = true := by kernel_rfl
  exact (show Tryz.prog.wantsStandIn t = false by simpa using List.all_eq_true.1 hall t hm)
end Go.Proofs.YtmeihdlkadjoeaaGreatDoor.fnTokensGap
namespace Go.Proofs.YtmeihdlkadjoeaaGreatDoor
theorem fnTokensGap_card : Rows.FnTokensGapCardSaid :=
  Claim7.holds_tied_plain_at .later [] _ _ _ _ fnTokensGap.said (fun _ h => by cases h) (by kernel_rfl) (fun _ h => by cases h) fnTokensGap_row_tie rfl ⟨rfl, rfl⟩ (by kernel_rfl) rfl fnTokensGap.plain (by kernel_rfl)
end Go.Proofs.YtmeihdlkadjoeaaGreatDoor
