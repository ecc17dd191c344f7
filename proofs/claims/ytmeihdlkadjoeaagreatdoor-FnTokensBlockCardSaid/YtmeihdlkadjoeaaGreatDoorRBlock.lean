/- FOR ALL WORDS, GAPS, TEXTS AND NUMBERS OF LINES THE LAW FnTokensBlock RETURNS TRUE: a comment over some lines is a gap, and no end of a line; the arguments read afterwards as they read before. Conditions: the listed package-level variables start as the program's text lays them (the card ties them). -/
import Derived.Test.YtmeihdlkadjoeaaGreatDoorRows
import Derived.Test.YtmeihdlkadjoeaaGreatDoorCards
import Derived.Test.YtmeihdlkadjoeaaGreatDoorTie
import Derived.Test.YtmeihdlkadjoeaaGreatDoorLBlock
import Derived.Test.YtmeihdlkadjoeaaGreatDoorGlob
import Derived.Test.YtmeihdlkadjoeaaGreatDoorArgs
import Derived.ProofKit
import Derived.OpenShut
import Derived.ShutString
import Derived.SizedLaws
import Derived.ChangeOld
import Derived.Carry
import Derived.Deep.DeepHandedRow
namespace Go.Proofs.YtmeihdlkadjoeaaGreatDoor.fnTokensBlock
open Go.ChangeShapes Go.WideShapes Go.ChangeAt Go.RowKit
open Go.ChangeMaps (open_string shut_string)
set_option linter.unusedVariables false
set_option maxRecDepth 100000

theorem reads (os : Os) {H : Type} (enc : TypeId × Value → H) : ∃ places, DataW.whole enc Tryz.prog ((World.laidAll Tryz.prog os laidL).forCall (fun _ _ => 0) ⟨#[], #[.slice none 0 0, .slice none 0 0, .string ⟨#[]⟩, .int .i64 0, .slice none 0 0, .slice none 0 0], []⟩).memory Tryz.f5.params.toList Rows.fnTokensBlockSpec.vars false #[Value.slice none 0 0, .slice none 0 0, .string ⟨#[]⟩, .int .i64 0, .slice none 0 0, .slice none 0 0].toList 8 = some ([.nil, .nil, .lit (.string []), .lit (.int .i64 0), .nil, .nil], [], places) :=
  ⟨[], by kernel_rfl⟩

theorem lifted (os : Os) (started : os.Started) (H : Type) (enc : TypeId × Value → H) (F : Stop.Interp) :
    ReturnsInHanded {} Tryz.checked os 5 .any ((OpenSpec.ofChange Rows.fnTokensBlockSpec).preRow enc Tryz.prog Tryz.f5 Rows.fnTokensBlockRow.domain false Rows.fnTokensBlockRow.laid) (((OpenSpec.ofChange Rows.fnTokensBlockSpec).at F).post enc Tryz.prog Tryz.f5 false true false false) := by
  obtain ⟨places, hx⟩ := reads os enc
  have hok : Input.okWideB Tryz.prog ((World.laidAll Tryz.prog os laidL).forCall (fun _ _ => 0) ⟨#[], #[.slice none 0 0, .slice none 0 0, .string ⟨#[]⟩, .int .i64 0, .slice none 0 0, .slice none 0 0], []⟩) 5 ⟨#[], #[.slice none 0 0, .slice none 0 0, .string ⟨#[]⟩, .int .i64 0, .slice none 0 0, .slice none 0 0], []⟩ = true := by kernel_rfl
  refine returnsInHanded_of_row (C := Tryz.checked) (s := OpenSpec.ofChange Rows.fnTokensBlockSpec) own' started (by kernel_rfl) Tryz.func5
    ⟨World.laidAll Tryz.prog os laidL, fun _ _ => 0, ⟨#[], #[.slice none 0 0, .slice none 0 0, .string ⟨#[]⟩, .int .i64 0, .slice none 0 0, .slice none 0 0], []⟩, World.laidAll_os _ _ _, shaped_world os _, (Input.okWide_of_okWideB (base := 0) hok).1, (Input.okWide_of_okWideB hok).2,
      OpenSpec.preRow_of_cond 8 hx (by kernel_rfl) (fun k hk => by cases hk) (by kernel_rfl) (laid_world os _), (fun h => Bool.noConfusion h), (fun h => Bool.noConfusion h), (fun h => Bool.noConfusion h), (fun d h => by cases h), (fun d h => by cases h), (fun h => Bool.noConfusion h)⟩ ?_
  intro W base args ds gs before hval0 hW _ _ hsz0 hL hshape _
  have hsz : (DataW.weightsEach Tryz.prog (Tryz.f5.params.toList ++ Rows.fnTokensBlockSpec.plain.varTypes Tryz.prog) (ds ++ gs)).all (· ≤ reachBytes) = true := hsz0
  have hval : ∀ (j : Nat) t v, Tryz.f5.params[j]? = some t → args[j]? = some v → Value.okWide Tryz.prog W .any base t v := hval0
  have hW' := hW
  obtain ⟨p, q, hA0, hV, rfl, hfz, hnd⟩ := hW
  have hA : DataW.TrodAll enc Tryz.prog W 0 (fun _ => true) true Tryz.f5.params.toList args.toList ds p := hA0
  rw [Tryz.params5] at hA hval
  obtain ⟨v0, vs0, d0, ds0, p0, q0, hargs, rfl, rfl, h0, r0⟩ := trodAll_cons hA
  obtain ⟨v1, vs1, d1, ds1, p1, q1, rfl, rfl, rfl, h1, r1⟩ := trodAll_cons r0
  obtain ⟨v2, vs2, d2, ds2, p2, q2, rfl, rfl, rfl, h2, r2⟩ := trodAll_cons r1
  obtain ⟨v3, vs3, d3, ds3, p3, q3, rfl, rfl, rfl, h3, r3⟩ := trodAll_cons r2
  obtain ⟨v4, vs4, d4, ds4, p4, q4, rfl, rfl, rfl, h4, r4⟩ := trodAll_cons r3
  obtain ⟨v5, vs5, d5, ds5, p5, q5, rfl, rfl, rfl, h5, r5⟩ := trodAll_cons r4
  obtain ⟨rfl, rfl, rfl⟩ := trodAll_nil r5
  obtain rfl : args = #[v0, v1, v2, v3, v4, v5] := by cases args; simp_all
  obtain ⟨rfl, rfl⟩ := trodVars_none hV
  obtain ⟨⟨A0, n0, c0, ls0, rfl, e0, s0⟩, k0⟩ := open_words (hval 0 22 v0 rfl rfl) h0
  obtain ⟨⟨A1, n1, c1, ls1, rfl, e1, s1⟩, k1⟩ := open_words (hval 1 22 v1 rfl rfl) h1
  obtain ⟨a2, rfl, rfl, rfl, y2⟩ := open_string Tryz.underlying9 (hval 2 9 v2 rfl rfl) h2
  have w2 : a2.size ≤ 140737488351232 := by
    have z := sized_string hsz (j := 2) (t := 9) rfl rfl
    rw [Array.length_toList] at z
    exact z
  obtain ⟨a3, rfl, rfl, rfl, w3⟩ := open_int Tryz.underlying3 (hval 3 3 v3 rfl rfl) h3
  obtain ⟨⟨A4, n4, c4, ls4, rfl, e4, s4⟩, k4⟩ := open_words (hval 4 22 v4 rfl rfl) h4
  obtain ⟨⟨A5, n5, c5, ls5, rfl, e5, s5⟩, k5⟩ := open_words (hval 5 22 v5 rfl rfl) h5
  obtain ⟨l2, rfl⟩ := str_all a2
  have HG := globI_of_laid hL (ten_of_shaped hshape)
  refine (law_block ls0 ls1 ls4 ls5 A0 A1 A4 A5 c0 c1 c4 c5 n0 n1 n4 n5 e0 e1 e4 e5 l2 a3 W w2 w3 s0 s1 s4 s5 HG).mono fun e W' ⟨he, bel⟩ => ?_
  subst he
  exact ⟨_, rfl, _, _, _, [], _, [], hW', trodAll_mk1 (shut_bool Tryz.underlying4 _), (trodAll_cons_mk (k0 _ bel) (trodAll_cons_mk (k1 _ bel) (trodAll_cons_mk (shut_string Tryz.underlying9 y2) (trodAll_cons_mk (shut_int Tryz.underlying3 w3) (trodAll_cons_mk (k4 _ bel) (trodAll_mk1 (k5 _ bel))))))), rfl, bel.frame _, fun h => by cases h⟩

theorem said : Rows.FnTokensBlockSaid :=
  OpenClaim.holds_of_cond 5 Tryz.f5 rfl rfl rfl rfl rfl rfl rfl ⟨rfl, rfl, rfl, rfl, rfl⟩ rfl rfl rfl rfl rfl (by kernel_rfl) Tryz.func5 (by kernel_rfl)
    (of_decide_eq_true (by kernel_rfl)) (by unfold Func.isWrapper; first | (rw [if_pos (by decide +kernel)]; kernel_rfl) | (rw [if_neg (by decide +kernel)]; exact ⟨rfl, rfl⟩))
    (fun os started H enc _ F => by rw [OpenClaim.pre_eq_preRow]; exact lifted os started H enc F)

theorem plain (f : FuncId) (fn : Func) (hf : Tryz.pinned.checked.prog.funcNamed "loop.example/pub-g01461/laws.FnTokensBlock" = some f) (hfn : Tryz.pinned.checked.prog.funcs[f]? = some fn) :
    true = Tryz.pinned.checked.prog.looks [] ∧ ∀ (j : Nat) t, fn.params[j]? = some t → Tryz.pinned.checked.prog.wantsStandIn t = false := by
  obtain rfl : f = 5 := Option.some.inj ((show Tryz.prog.funcNamed "loop.example/pub-g01461/laws.FnTokensBlock" = some 5 by kernel_rfl).symm.trans hf) |>.symm
  obtain rfl : fn = Tryz.f5 := (Option.some.inj (Tryz.func5.symm.trans hfn)).symm
  refine ⟨by kernel_rfl, fun j t ht => ?_⟩
  rw [Tryz.params5] at ht
  have hm : t ∈ [22, 22, 9, 3, 22, 22] := by simpa using Array.mem_of_getElem? ht
  have hall : ([22, 22, 9, 3, 22, 22].all fun u => !Tryz.prog.wantsStandIn u) = true := by kernel_rfl
  exact (show Tryz.prog.wantsStandIn t = false by simpa using List.all_eq_true.1 hall t hm)
end Go.Proofs.YtmeihdlkadjoeaaGreatDoor.fnTokensBlock
namespace Go.Proofs.YtmeihdlkadjoeaaGreatDoor
theorem fnTokensBlock_card : Rows.FnTokensBlockCardSaid :=
  Claim7.holds_tied_plain_at .later [] _ _ _ _ fnTokensBlock.said (fun _ h => by cases h) (by kernel_rfl) (fun _ h => by cases h) fnTokensBlock_row_tie rfl ⟨rfl, rfl⟩ (by kernel_rfl) rfl fnTokensBlock.plain (by kernel_rfl)
end Go.Proofs.YtmeihdlkadjoeaaGreatDoor
