/- The walk of the law FnNameToken. -/
import Derived.Test.YtmeihdlkadjoeaaDoorMF
import Derived.Deep.RegionWith
import Derived.Laws.RangeAny
import Derived.Lib.OthersKept
import Derived.Deep.LoopGhost
namespace Go.Proofs.YtmeihdlkadjoeaaDoor
open Go.RowKit Go.Proofs.YtmeihdlkadjoeaaDoorW.PrintWords
set_option linter.unusedVariables false
set_option linter.unusedSimpArgs false

theorem str_get (l : List UInt8) (i : Nat) (h : i < l.length) : (str l).get! i = l[i] := by
  have e := Go.get_at (str l) i (by rw [str_size]; exact h)
  rw [Nat.add_zero] at e
  rw [e]
  rfl
/-- A character where its bytes stand. -/
theorem decode_enc (a : List UInt8) (c : Nat) (b : List UInt8) (hc : okR c) : Utf8.decode (str (a ++ (encR c ++ b))) a.length = (c, (encR c).length) := by
  rcases hc with h | rfl | rfl
  · rw [encR_asc h]
    have hlt : a.length < (str (a ++ ([UInt8.ofNat c] ++ b))).size := by rw [str_size]; simp
    have e : (str (a ++ ([UInt8.ofNat c] ++ b)))[a.length]'hlt = UInt8.ofNat c := by
      show (a ++ ([UInt8.ofNat c] ++ b))[a.length]'(by simp) = _
      simp
    rw [Go.decode_ascii _ _ hlt (by rw [e, toNat_asc h]; exact h), e, toNat_asc h]
    rfl
  · rw [encR_dot]
    have g0 : (str (a ++ ([194, 183] ++ b))).get! (a.length + 0) = 194 := by rw [str_get _ _ (by simp)]; simp
    have g1 : (str (a ++ ([194, 183] ++ b))).get! (a.length + 1) = 183 := by
      rw [str_get _ _ (by simp), List.getElem_append_right (by omega)]; simp
    have hs : a.length + 1 < (str (a ++ ([194, 183] ++ b))).size := by rw [str_size]; simp
    have d0 : (194 : UInt8).toNat = 194 := rfl
    have d1 : (183 : UInt8).toNat = 183 := rfl
    generalize str (a ++ ([194, 183] ++ b)) = S at g0 g1 hs ⊢
    unfold Utf8.decode
    simp only [g0, g1, hs, d0, d1]
    rfl
  · rw [encR_slash]
    have g0 : (str (a ++ ([226, 136, 149] ++ b))).get! (a.length + 0) = 226 := by rw [str_get _ _ (by simp)]; simp
    have g1 : (str (a ++ ([226, 136, 149] ++ b))).get! (a.length + 1) = 136 := by
      rw [str_get _ _ (by simp), List.getElem_append_right (by omega)]; simp
    have g2 : (str (a ++ ([226, 136, 149] ++ b))).get! (a.length + 2) = 149 := by
      rw [str_get _ _ (by simp), List.getElem_append_right (by omega)]; simp
    have hs : a.length + 1 < (str (a ++ ([226, 136, 149] ++ b))).size := by rw [str_size]; simp
    have hs2 : a.length + 2 < (str (a ++ ([226, 136, 149] ++ b))).size := by rw [str_size]; simp
    have d0 : (226 : UInt8).toNat = 226 := rfl
    have d1 : (136 : UInt8).toNat = 136 := rfl
    have d2 : (149 : UInt8).toNat = 149 := rfl
    generalize str (a ++ ([226, 136, 149] ++ b)) = S at g0 g1 g2 hs hs2 ⊢
    unfold Utf8.decode
    simp only [g0, g1, g2, hs, hs2, d0, d1, d2]
    rfl

theorem isName_call (l : List UInt8) (hl : l.length ≤ 4000000000) (w : World) : ∃ b, Calls Tryd.prog 14 #[.string (str l)] w (fun e w' => e = .returned (.bool b) ∧ Below w.heap.size w w') ∧
    (b = true → ∃ r, enc r = l ∧ WordR r (-2) ∧ ∀ x ∈ r, okR x) := by
  obtain ⟨b, hb, hp⟩ := isName_ev l hl
  obtain ⟨k, hk⟩ := hb.rounds
  exact ⟨b, (PFnReadTokens.spec_IsName.calls k (str l) b w hk).mono fun e w' ⟨he, hd⟩ => ⟨he, hd.below⟩, hp⟩

theorem zzIdent0 {B : Nat} (c i : Nat) (w : World) (hc : okR c) (hi : i ≤ 2000000) (hw : GlobI B w) :
    Calls Tryd.prog 27 #[.int .i32 c, .int .i64 i] w fun e w' => e = .returned (.bool (identR c i)) ∧ Below w.heap.size w w' := by
  have HI := Lib.hid (ident_ok c i w hc hi hw)
  clear hw
  go_enter Tryd.func27, Tryd.ntmps27
  go_wp2_with (go_at_call 33; refine HI.out.mono ?_)
  first | rintro e w' rfl hb | rintro e w' ⟨rfl, hb⟩
  go_wp2_with fail
  go_ret
  exact ⟨rfl, hb⟩
theorem zzIdent {B : Nat} (c i : Nat) (w : World) (hc : okR c) (hi : i ≤ 2000000) (hw : GlobI B w) :
    Calls Tryd.prog 15 #[.int .i32 c, .int .i64 i] w fun e w' => e = .returned (.bool (identR c i)) ∧ Below w.heap.size w w' := by
  have HI := Lib.hid (zzIdent0 c i w hc hi hw)
  clear hw
  go_enter Tryd.func15, Tryd.ntmps15
  go_wp2_with (go_at_call 27; refine HI.out.mono ?_)
  first | rintro e w' rfl hb | rintro e w' ⟨rfl, hb⟩
  go_wp2_with fail
  go_ret
  exact ⟨rfl, hb⟩

set_option maxHeartbeats 4000000 in
set_option maxRecDepth 10000 in
theorem law_name (l : List UInt8) (w : World) (hl : l.length ≤ 140737488351232) (hG : GlobI w.heap.size w) :
    Calls Tryd.prog 5 #[.string (str l)] w fun e w' => e = .returned (.bool true) ∧ Below w.heap.size w w' := by
  have HG := Lib.hid hG
  clear hG
  by_cases h31 : l.length ≤ 2147483647
  · obtain ⟨b, hb, hp⟩ := isName_call l (by omega) w
    have HB := Lib.hid hb
    have HP := Lib.hid hp
    have c1 : ¬ ((str l).size : Int) > 2147483647 := by rw [str_size]; omega
    have c2 : ¬ (str l).size > 2147483647 := by rw [str_size]; omega
    clear hb hp
    go_enter Tryd.func5, Tryd.ntmps5
    go_wp2_with (go_at_call 14; refine HB.out.mono ?_)
    first | rintro e w1 rfl hb1 | rintro e w1 ⟨rfl, hb1⟩
    have B1 := Lib.hid hb1
    clear hb1
    cases b with
    | false =>
      go_wp2_with fail
      go_ret
      exact ⟨rfl, B1.out⟩
    | true =>
      obtain ⟨r, rfl, hwr, hok⟩ := HP.out rfl
      by_cases h60 : (enc r).length ≤ 60
      · have c3 : ¬ ((str (enc r)).size : Int) > 60 := by rw [str_size]; omega
        have c4 : ¬ (str (enc r)).size > 60 := by rw [str_size]; omega
        have hid : ∀ (a : List Nat) (c : Nat) (b : List Nat), r = a ++ c :: b → identR c a.length = true := by
          intro a c b he
          cases hwr with
          | name c0 rs h hs =>
            cases a with
            | nil =>
              obtain ⟨rfl, rfl⟩ := List.cons.inj he
              simp [identR, h]
            | cons x a =>
              have hm : c ∈ rs := by
                rw [(List.cons.inj he).2]
                simp
              have h1 := hs c hm
              simp only [idR, identR, Bool.or_eq_true, Bool.and_eq_true, decide_eq_true_eq] at h1 ⊢
              rcases h1 with h1 | h1
              · exact .inl h1
              · exact .inr ⟨by simp, h1.2⟩
          | pair c d k h => have := pairR_kinds h; omega
        obtain ⟨m, hT⟩ : ∃ m, Toks r [(-2, r, m)] := ⟨_, by
          have := Toks.word hwr (Follow.nil (-2)) Toks.end
          rw [List.append_nil] at this
          exact this⟩
        have hrl : r.length ≤ 60 := Nat.le_trans (len_enc r) h60
        have HTK : Hid (∀ W, Below w.heap.size w W → Calls Tryd.prog 13 #[.string (str (enc r))] W (OutI W.heap.size W 1 [.int .i64 (-2), .string (str (enc (toldR r)))])) :=
          Lib.hid (fun W hb => impl_tokenize hT hok (by omega) ((HG.out.below hb).lift hb.size))
        have HID := Lib.hid hid
        have HOK := Lib.hid hok
        have HE := Lib.hid h60
        clear hT hid hok hwr HB HP c1 c2
        have hb0 : Below w.heap.size w (w1.iter (str (enc r)) 0) := B1.out.alloc B1.out.size _
        have HB0 := Lib.hid hb0
        clear hb0
        go_wp2_with fail
        go_loopg [3] (r.length + 1) (fun gk p wr => ∃ a b : List Nat, Hid (r = a ++ b) ∧ p = .int .i64 a.length ∧ wr.heap[w1.heap.size]? = some (.stringIter (str (enc r)) (enc a).length) ∧ Below w.heap.size w wr ∧ b.length < gk)
        case atStart => exact ⟨[], r, Lib.hid rfl, rfl, World.iter_heap w1 _ 0, HB0.out, by omega⟩
        case round =>
          obtain ⟨a, b, hr, rfl, hit, hbw, hm⟩ := hrel
          cases b with
          | cons c b =>
            have hac : okR c := HOK.out c (by rw [hr.out]; simp)
            have henc : enc r = enc a ++ (encR c ++ enc b) := by rw [hr.out, enc_append, enc_cons]
            have hlt : (enc a).length < (str (enc r)).size := by
              rw [str_size, henc]
              have := encR_pos c
              simp; omega
            have hdec : Utf8.decode (str (enc r)) (enc a).length = (c, (encR c).length) := by
              rw [henc]
              exact decode_enc _ _ _ hac
            have hnx : ∀ ty, (Instr.next (.pointer (some ⟨w1.heap.size, 0, none⟩)) true ty).run Tryd.prog wr = _ := fun ty => Lib.run_next_any_at wr w1.heap.size (str (enc r)) (enc a).length ty hit hlt
            rw [hdec] at hnx
            have hit2 := Lib.iterAt_heap wr w1.heap.size (str (enc r)) (enc a).length ((enc a).length + (encR c).length) hit
            have hbw2 := Lib.below_iterAt hbw (k := w1.heap.size) B1.out.size (str (enc r)) ((enc a).length + (encR c).length)
            obtain ⟨W, hWd⟩ : ∃ W, wr.iterAt w1.heap.size (str (enc r)) ((enc a).length + (encR c).length) = W := ⟨_, rfl⟩
            rw [hWd] at hnx hit2 hbw2
            have hal : a.length + 1 ≤ 60 := by
              have := congrArg List.length hr.out
              rw [List.length_append, List.length_cons] at this
              omega
            have hz := zzIdent c a.length W hac (by omega) (HG.out.below hbw2)
            rw [HID.out a c b hr.out] at hz
            have HZ := Lib.hid hz
            have HIT := Lib.hid hit2
            have HBW := Lib.hid hbw2
            have q1 : IntKind.i64.wrap ((a.length : Int) + 1) = (a.length : Int) + 1 := IntWalk.i64_in _ (by omega)
            clear hz hit hbw hit2 hbw2 hdec hlt hWd henc
            go_wp2_with (go_at_call 15; refine HZ.out.mono ?_)
            first | rintro e w5 rfl hb5 | rintro e w5 ⟨rfl, hb5⟩
            have HB5 := Lib.hid hb5
            clear hb5
            go_wp2_with fail
            go_roundg (b.length + 1)
            case measure => simp at hm; omega
            case rel =>
              refine ⟨a ++ [c], b, Lib.hid (by rw [hr.out]; simp), by simp, ?_, HBW.out.trans (HB5.out.mono HBW.out.size), by omega⟩
              have hlt : w1.heap.size < W.heap.size := (Array.getElem?_eq_some_iff.1 HIT.out).1
              rw [HB5.out.block _ hlt, HIT.out, enc_append, List.length_append, enc_cons, enc_nil, List.append_nil]
          | nil =>
            have har : a = r := by have := hr.out; simpa using this.symm
            subst har
            have hlt : ¬ (enc a).length < (str (enc a)).size := by rw [str_size]; omega
            have hnx : ∀ ty, (Instr.next (.pointer (some ⟨w1.heap.size, 0, none⟩)) true ty).run Tryd.prog wr = _ := fun ty => Lib.run_next_end_at wr w1.heap.size (str (enc a)) (enc a).length ty hit hlt
            have HT2 := Lib.hid (HTK.out wr hbw)
            have HBW := Lib.hid hbw
            clear hbw hit hlt
            go_wp2_with (go_at_call 13; refine HT2.out.mono ?_)
            rintro e w2 ⟨v, rfl, hown, hb2⟩
            obtain ⟨A, c, rfl, hA⟩ := own_slice hown
            obtain ⟨g, rfl⟩ := hA (by simp)
            have a0 : w2.cell? ⟨g, 0, none⟩ = some (.int .i64 (-2)) := hown.cells (g := g) rfl 0 _ rfl
            have HB2 := Lib.hid (HBW.out.trans (hb2.mono HBW.out.size))
            clear hown hb2 hA
            go_wp2_with fail
            go_ret
            exact ⟨rfl, HB2.out⟩
      · have c3 : ((str (enc r)).size : Int) > 60 := by rw [str_size]; omega
        have c4 : (str (enc r)).size > 60 := by rw [str_size]; omega
        go_wp2_with fail
        go_ret
        exact ⟨rfl, B1.out⟩
  · have c1 : ((str l).size : Int) > 2147483647 := by rw [str_size]; omega
    have c2 : (str l).size > 2147483647 := by rw [str_size]; omega
    go_enter Tryd.func5, Tryd.ntmps5
    go_wp2_with fail
    go_ret
    exact ⟨rfl, Below.refl _ _⟩
end Go.Proofs.YtmeihdlkadjoeaaDoor
