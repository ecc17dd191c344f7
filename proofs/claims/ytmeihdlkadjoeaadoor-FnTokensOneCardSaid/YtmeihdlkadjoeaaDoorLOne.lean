/- The walk of the law FnTokensOne. -/
import Derived.Test.YtmeihdlkadjoeaaDoorMF
namespace Go.Proofs.YtmeihdlkadjoeaaDoor
open Go.RowKit Go.Proofs.YtmeihdlkadjoeaaDoorW.PrintWords
set_option linter.unusedVariables false
set_option linter.unusedSimpArgs false

/-- One text in a new row. -/
theorem one_str (w : World) (s : ByteArray) (t : TypeId) : Kd.C Kd.string (w.alloc (.cells #[.string s] t)) (some ⟨w.heap.size, 0, none⟩) [s].length [s] := by
  refine ⟨rfl, by simp, fun _ => ⟨_, rfl, fun j p hp => ⟨[.string p], rfl, rfl, fun i u hu => ?_⟩⟩⟩
  cases j with
  | zero =>
    obtain rfl : s = p := by simpa using hp
    cases i with
    | zero =>
      obtain rfl : Value.string s = u := by simpa using hu
      exact Lib.cell_of_heap (heap_new w _) 0
    | succ i => simp at hu
  | succ j => simp at hp

theorem wordsOk_one (l : List UInt8) (hl : l.length ≤ 2147483647) (w : World) (t : TypeId) : ∃ b, Calls Tryd.prog 7 #[.slice (some ⟨w.heap.size, 0, none⟩) 1 1] (w.alloc (.cells #[.string (str l)] t)) (fun e w' => e = .returned (.bool b) ∧ Below (w.alloc (.cells #[.string (str l)] t)).heap.size (w.alloc (.cells #[.string (str l)] t)) w') ∧
    (b = true → ∃ x, l = enc x.1 ∧ WordT x) := by
  obtain ⟨b, hb, hp⟩ := wordsOk_ev [l] (by simp) (by simpa using hl)
  obtain ⟨k, hk⟩ := hb.rounds
  refine ⟨b, (PFnReadTokens.laws_wordsOk.calls k (some ⟨w.heap.size, 0, none⟩) 1 [str l] b _ (one_str w (str l) t) (by simp) hk).mono fun e w' ⟨he, hd⟩ => ⟨he, hd.below⟩, fun h => ?_⟩
  obtain ⟨_, ws, h1, h2⟩ := hp h
  cases ws with
  | nil => simp [encs'] at h1
  | cons x ws => exact ⟨x, (List.cons.inj h1).1, h2 x (by simp)⟩

set_option maxHeartbeats 1000000 in
set_option maxRecDepth 10000 in
theorem law_one (l : List UInt8) (w : World) (hl : l.length ≤ 140737488351232) (hG : GlobI w.heap.size w) :
    Calls Tryd.prog 4 #[.string (str l)] w fun e w' => e = .returned (.bool true) ∧ Below w.heap.size w w' := by
  have HG := Lib.hid hG
  clear hG
  by_cases h31 : l.length ≤ 2147483647
  · obtain ⟨b, hb, hp⟩ := wordsOk_one l h31 w 9
    have HB := Lib.hid hb
    have HP := Lib.hid hp
    have c1 : ¬ ((str l).size : Int) > 2147483647 := by rw [str_size]; omega
    have c2 : ¬ (str l).size > 2147483647 := by rw [str_size]; omega
    clear hb hp
    go_enter Tryd.func4, Tryd.ntmps4
    go_wp2_with (go_at_call 7; refine HB.out.mono ?_)
    first | rintro e w1 rfl hb1 | rintro e w1 ⟨rfl, hb1⟩
    have bel1 : Below w.heap.size w w1 := ((Below.refl _ _).alloc (Nat.le_refl _) _).trans (hb1.mono (by simp))
    have B1 := Lib.hid bel1
    clear hb1 bel1
    cases b with
    | false =>
      go_wp2_with fail
      go_ret
      exact ⟨rfl, B1.out⟩
    | true =>
      obtain ⟨⟨r, k⟩, rfl, hx⟩ := HP.out rfl
      obtain ⟨m, hT⟩ : ∃ m, Toks r [(k, r, m)] := ⟨_, by
        have := Toks.word hx.word (Follow.nil k) Toks.end
        rw [List.append_nil] at this
        exact this⟩
      have hG1 : GlobI w1.heap.size w1 := (HG.out.below B1.out).lift B1.out.size
      have HTK : Hid (Calls Tryd.prog 13 #[.string (str (enc r))] w1 (OutI w1.heap.size w1 1 [.int .i64 k, .string (str (enc (toldR r)))])) := Lib.hid (impl_tokenize hT hx.ok (by have := hx.len; simp at this; omega) hG1)
      have HTO := Lib.hid fun W => tokenOf_ok (r, k) hx W
      clear hT hG1 hx HB HP HG
      go_wp2_with (go_at_call 13; refine HTK.out.mono ?_)
      rintro e w2 ⟨v, rfl, hown, hb2⟩
      obtain ⟨A, c, rfl, hA⟩ := own_slice hown
      obtain ⟨g, rfl⟩ := hA (by simp)
      have a0 : w2.cell? ⟨g, 0, none⟩ = some (.int .i64 k) := hown.cells (g := g) rfl 0 _ rfl
      have a1 : w2.cell? ⟨g, 1, none⟩ = some (.string (str (enc (toldR r)))) := hown.cells (g := g) rfl 1 _ rfl
      have hg : g < w2.heap.size := (hown.lt g rfl).2
      have B2 := Lib.hid (B1.out.trans (hb2.mono B1.out.size))
      clear hown hb2 hA
      go_wp2_with fail
      have HG0 := Lib.hid hg
      have A0 := Lib.hid a0
      have A1 := Lib.hid a1
      clear hg
      go_region_held3 (fun w' => w'.cell? ⟨g, 0, none⟩ = some (.int .i64 k) ∧ w'.cell? ⟨g, 1, none⟩ = some (.string (str (enc (toldR r)))))
        (go_keep)
        (first
          | (go_at_call 12; refine (HTO.out _).mono ?_; rintro e w5 ⟨rfl, hb5⟩; have s0 := (hb5.cell (p := ⟨g, 0, none⟩) HG0.out).trans A0.out; have s1 := (hb5.cell (p := ⟨g, 1, none⟩) HG0.out).trans A1.out; have HB5 := Lib.hid hb5; clear hb5))
      go_wp2_with fail
      go_ret
      exact ⟨rfl, B2.out.trans (Below.mono ⟨HB5.out.os, HB5.out.tape, HB5.out.output, HB5.out.size, HB5.out.block⟩ B2.out.size)⟩
  · have c1 : ((str l).size : Int) > 2147483647 := by rw [str_size]; omega
    have c2 : (str l).size > 2147483647 := by rw [str_size]; omega
    go_enter Tryd.func4, Tryd.ntmps4
    go_wp2_with fail
    go_ret
    exact ⟨rfl, Below.refl _ _⟩
end Go.Proofs.YtmeihdlkadjoeaaDoor
