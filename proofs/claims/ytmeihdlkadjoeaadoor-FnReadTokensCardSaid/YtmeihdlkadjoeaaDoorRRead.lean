/- FOR EVERY LIST OF WORDS, EVERY LIST OF GAPS AND EVERY SIZE THE LAW FnReadTokens RETURNS TRUE: a reader tells the tokens of a text, in whatever pieces it comes, and the lines of all but ends of lines; the arguments read afterwards as they read before. Conditions: the listed package-level variables start as the program's text lays them (the card ties them). -/
import Derived.Test.YtmeihdlkadjoeaaDoorRows
import Derived.Test.YtmeihdlkadjoeaaDoorCards
import Derived.Test.YtmeihdlkadjoeaaDoorTie
import Derived.Test.YtmeihdlkadjoeaaDoorLRead
import Derived.Test.YtmeihdlkadjoeaaDoorGlob
import Derived.Test.YtmeihdlkadjoeaaDoorArgs
import Derived.ProofKit
import Derived.OpenShut
import Derived.ShutString
import Derived.SizedLaws
import Derived.ChangeOld
import Derived.Carry
import Derived.Deep.DeepHandedRow
namespace Go.Proofs.YtmeihdlkadjoeaaDoor.fnReadTokens
open Go.ChangeShapes Go.WideShapes Go.ChangeAt Go.RowKit
open Go.ChangeMaps (open_string shut_string)
set_option linter.unusedVariables false
set_option maxRecDepth 100000

theorem reads (os : Os) {H : Type} (enc : TypeId × Value → H) : ∃ places, DataW.whole enc Tryd.prog ((World.laidAll Tryd.prog os laidL).forCall (fun _ _ => 0) ⟨#[], #[.slice none 0 0, .slice none 0 0, .int .i64 0], []⟩).memory Tryd.f3.params.toList Rows.fnReadTokensSpec.vars false #[Value.slice none 0 0, .slice none 0 0, .int .i64 0].toList 8 = some ([.nil, .nil, .lit (.int .i64 0)], [], places) :=
  ⟨[], by kernel_rfl⟩

theorem lifted (os : Os) (started : os.Started) (H : Type) (enc : TypeId × Value → H) (F : Stop.Interp) :
    ReturnsInHanded {} Tryd.checked os 3 .any ((OpenSpec.ofChange Rows.fnReadTokensSpec).preRow enc Tryd.prog Tryd.f3 Rows.fnReadTokensRow.domain false Rows.fnReadTokensRow.laid) (((OpenSpec.ofChange Rows.fnReadTokensSpec).at F).post enc Tryd.prog Tryd.f3 false true false false) := by
  obtain ⟨places, hx⟩ := reads os enc
  have hok : Input.okWideB Tryd.prog ((World.laidAll Tryd.prog os laidL).forCall (fun _ _ => 0) ⟨#[], #[.slice none 0 0, .slice none 0 0, .int .i64 0], []⟩) 3 ⟨#[], #[.slice none 0 0, .slice none 0 0, .int .i64 0], []⟩ = true := by kernel_rfl
  refine returnsInHanded_of_row (C := Tryd.checked) (s := OpenSpec.ofChange Rows.fnReadTokensSpec) own' started (by kernel_rfl) Tryd.func3
    ⟨World.laidAll Tryd.prog os laidL, fun _ _ => 0, ⟨#[], #[.slice none 0 0, .slice none 0 0, .int .i64 0], []⟩, World.laidAll_os _ _ _, shaped_world os _, (Input.okWide_of_okWideB (base := 0) hok).1, (Input.okWide_of_okWideB hok).2,
      OpenSpec.preRow_of_cond 8 hx (by kernel_rfl) (fun k hk => by cases hk) (by kernel_rfl) (laid_world os _), (fun h => Bool.noConfusion h), (fun h => Bool.noConfusion h), (fun h => Bool.noConfusion h), (fun d h => by cases h), (fun d h => by cases h), (fun h => Bool.noConfusion h)⟩ ?_
  intro W base args ds gs before hval0 hW _ _ hsz0 hL hshape _
  have hsz : (DataW.weightsEach Tryd.prog (Tryd.f3.params.toList ++ Rows.fnReadTokensSpec.plain.varTypes Tryd.prog) (ds ++ gs)).all (· ≤ reachBytes) = true := hsz0
  have hval : ∀ (j : Nat) t v, Tryd.f3.params[j]? = some t → args[j]? = some v → Value.okWide Tryd.prog W .any base t v := hval0
  have hW' := hW
  obtain ⟨p, q, hA0, hV, rfl, hfz, hnd⟩ := hW
  have hA : DataW.TrodAll enc Tryd.prog W 0 (fun _ => true) true Tryd.f3.params.toList args.toList ds p := hA0
  rw [Tryd.params3] at hA hval
  obtain ⟨v0, vs0, d0, ds0, p0, q0, hargs, rfl, rfl, h0, r0⟩ := trodAll_cons hA
  obtain ⟨v1, vs1, d1, ds1, p1, q1, rfl, rfl, rfl, h1, r1⟩ := trodAll_cons r0
  obtain ⟨v2, vs2, d2, ds2, p2, q2, rfl, rfl, rfl, h2, r2⟩ := trodAll_cons r1
  obtain ⟨rfl, rfl, rfl⟩ := trodAll_nil r2
  obtain rfl : args = #[v0, v1, v2] := by cases args; simp_all
  obtain ⟨rfl, rfl⟩ := trodVars_none hV
  obtain ⟨⟨A0, n0, c0, ls0, rfl, e0, s0⟩, k0⟩ := open_words (hval 0 22 v0 rfl rfl) h0
  obtain ⟨⟨A1, n1, c1, ls1, rfl, e1, s1⟩, k1⟩ := open_words (hval 1 22 v1 rfl rfl) h1
  obtain ⟨a2, rfl, rfl, rfl, w2⟩ := open_int Tryd.underlying3 (hval 2 3 v2 rfl rfl) h2
  have HG := globI_of_laid hL (ten_of_shaped hshape)
  refine (law_read ls0 ls1 A0 A1 c0 c1 n0 n1 e0 e1 a2 W s0 s1 HG).mono fun e W' ⟨he, bel⟩ => ?_
  subst he
  exact ⟨_, rfl, _, _, _, [], _, [], hW', trodAll_mk1 (shut_bool Tryd.underlying4 _), (trodAll_cons_mk (k0 _ bel) (trodAll_cons_mk (k1 _ bel) (trodAll_mk1 (shut_int Tryd.underlying3 w2)))), rfl, bel.frame _, fun h => by cases h⟩

theorem said : Rows.FnReadTokensSaid :=
  OpenClaim.holds_of_cond 3 Tryd.f3 rfl rfl rfl rfl rfl rfl rfl ⟨rfl, rfl, rfl, rfl, rfl⟩ rfl rfl rfl rfl rfl (by kernel_rfl) Tryd.func3 (by kernel_rfl)
    (of_decide_eq_true (by kernel_rfl)) (by unfold Func.isWrapper; first | (rw [if_pos (by decide +kernel)]; kernel_rfl) | (rw [if_neg (by decide +kernel)]; exact ⟨rfl, rfl⟩))
    (fun os started H enc _ F => by rw [OpenClaim.pre_eq_preRow]; exact lifted os started H enc F)

theorem plain (f : FuncId) (fn : Func) (hf : Tryd.pinned.checked.prog.funcNamed "loop.example/pub-g01461/laws.FnReadTokens" = some f) (hfn : Tryd.pinned.checked.prog.funcs[f]? = some fn) :
    true = Tryd.pinned.checked.prog.looks [] ∧ ∀ (j : Nat) t, fn.params[j]? = some t → Tryd.pinned.checked.prog.wantsStandIn t = false := by
  obtain rfl : f = 3 := Option.some.inj ((show Tryd.prog.funcNamed "loop.example/pub-g01461/laws.FnReadTokens" = some 3 by kernel_rfl).symm.trans hf) |>.symm
  obtain rfl : fn = Tryd.f3 := (Option.some.inj (Tryd.func3.symm.trans hfn)).symm
  refine ⟨by kernel_rfl, fun j t ht => ?_⟩
  rw [Tryd.params3] at ht
  have hm : t ∈ [22, 22, 3] := by simpa using Array.mem_of_getElem? ht
  have hall : ([22, 22, 3].all fun u => !Tryd.prog.wantsStandIn u) = true := by kernel_rfl
  exact (show Tryd.prog.wantsStandIn t = false by simpa using List.all_eq_true.1 hall t hm)
end Go.Proofs.YtmeihdlkadjoeaaDoor.fnReadTokens
namespace Go.Proofs.YtmeihdlkadjoeaaDoor
theorem fnReadTokens_card : Rows.FnReadTokensCardSaid :=
  Claim7.holds_tied_plain_at .later [] _ _ _ _ fnReadTokens.said (fun _ h => by cases h) (by kernel_rfl) (fun _ h => by cases h) fnReadTokens_row_tie rfl ⟨rfl, rfl⟩ (by kernel_rfl) rfl fnReadTokens.plain (by kernel_rfl)
end Go.Proofs.YtmeihdlkadjoeaaDoor
