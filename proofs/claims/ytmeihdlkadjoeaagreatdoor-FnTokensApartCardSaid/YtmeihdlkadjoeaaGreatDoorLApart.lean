/- The walk of the law FnTokensApart. -/
import Derived.Test.YtmeihdlkadjoeaaGreatDoorApt
namespace Go.Proofs.YtmeihdlkadjoeaaGreatDoor
open Go.RowKit Go.Proofs.YtmeihdlkadjoeaaGreatDoorW.PrintWords
set_option linter.unusedVariables false
set_option linter.unusedSimpArgs false

theorem chain_of (ws : List (List Nat × Int)) (h : ∀ q (h : q + 1 < ws.length), ApartR (ws[q]'(by omega)) (ws[q + 1]).1) : chainR ws := by
  induction ws with
  | nil => trivial
  | cons a l ih =>
    cases l with
    | nil => trivial
    | cons b l => exact ⟨h 0 (by simp), ih (fun q hq => h (q + 1) (by simp at hq ⊢; omega))⟩

set_option maxHeartbeats 4000000 in
set_option maxRecDepth 10000 in
theorem law_apart (ls0 : List (List UInt8)) (A0 : Option Addr) (c0 n0 : Nat) (e0 : ls0.length = n0) (w : World) (s0 : SlS w A0 c0 ls0) (hG : GlobI w.heap.size w) :
    Calls Tryz.prog 4 #[.slice A0 n0 c0] w fun e w' => e = .returned (.bool true) ∧ Below w.heap.size w w' := by
  have H0 := Lib.hid s0
  have Q0 := Lib.hid e0
  have HG := Lib.hid hG
  have X0 := Lib.hid (Below.refl w.heap.size w)
  clear hG s0 e0
  go_enter Tryz.func4, Tryz.ntmps4
  obtain ⟨b0, hb, hp⟩ := fits_call ls0
  rw [Q0.out] at hb
  have HC := Lib.hid (hb A0 c0 w (H0.out.below X0.out))
  have HP0 := Lib.hid hp
  clear hb hp
  go_wp2_with (go_at_call 8; refine HC.out.mono ?_)
  first | rintro e w1 rfl hx | rintro e w1 ⟨rfl, hx⟩
  have X1 := Lib.hid (X0.out.trans (hx.mono X0.out.size))
  have Y1 := Lib.hid hx
  clear hx HC
  cases b0 with
  | false =>
    go_wp2_with fail
    go_ret
    exact ⟨rfl, X1.out⟩
  | true =>
  have HF0 := Lib.hid (HP0.out (by trivial))
  clear HP0
  obtain ⟨b1, hb, hp⟩ := words_call ls0 HF0.out.1 HF0.out.2
  rw [Q0.out] at hb
  have HC := Lib.hid (hb A0 c0 w1 (H0.out.below X1.out))
  have HP := Lib.hid hp
  clear hb hp
  go_wp2_with (go_at_call 9; refine HC.out.mono ?_)
  first | rintro e w2 rfl hx | rintro e w2 ⟨rfl, hx⟩
  have X2 := Lib.hid (X1.out.trans (hx.mono X1.out.size))
  have Y2 := Lib.hid hx
  clear hx HC
  cases b1 with
  | false =>
    go_wp2_with fail
    go_ret
    exact ⟨rfl, X2.out⟩
  | true =>
  obtain ⟨hn, ws0, rfl, hws⟩ := HP.out (by trivial)
  have HN0 := Lib.hid (show ws0.length = n0 by rw [← encs_len]; exact Q0.out)
  have HS0 := Lib.hid (show n0 ≤ 60 by rw [← Q0.out]; exact hn)
  have HW0 := Lib.hid hws
  clear hn hws HP
  have HB := Lib.hid X2.out
  clear HF0
  go_wp2_with fail
  go_loopg [3] (n0 + 1) (fun gk i wr => ∃ j m : Nat, j = m + 1 ∧ i = .int .i64 j ∧ Hid (∀ q (h : q + 1 < ws0.length), q < m → ApartR (ws0[q]'(by omega)) (ws0[q + 1]).1) ∧ Below w.heap.size w wr ∧ n0 - m < gk)
  case atStart => exact ⟨1, 0, rfl, rfl, Lib.hid (fun q h h0 => absurd h0 (by omega)), HB.out, by omega⟩
  case round =>
    obtain ⟨j, m, hjm, rfl, hch, hbw, hm⟩ := hrel
    have X3 := Lib.hid hbw
    by_cases hlt : j < n0
    · have hl : ws0.length = n0 := HN0.out
      have hsl := H0.out.below hbw
      obtain ⟨ad, rfl, hc1⟩ := hsl.cell (i := m) (by rw [encs_len]; omega)
      obtain ⟨ad2, he2, hc2⟩ := hsl.cell (i := j) (by rw [encs_len]; omega)
      cases he2
      have ex : (encs' ws0)[m]'(by rw [encs_len]; omega) = enc (ws0[m]'(by omega)).1 := by simp [encs']
      have ey : (encs' ws0)[j]'(by rw [encs_len]; omega) = enc (ws0[j]'(by omega)).1 := by simp [encs']
      rw [ex] at hc1
      rw [ey] at hc2
      obtain ⟨b, hb, hp⟩ := apart_ok (ws0[m]'(by omega)) (ws0[j]'(by omega)) (HW0.out _ (List.getElem_mem _)) (HW0.out _ (List.getElem_mem _))
      have HAP := Lib.hid hb
      have HPP : Hid (b = true → ∀ (h1 : m < ws0.length) (h2 : m + 1 < ws0.length), ApartR ws0[m] ws0[m + 1].1) := Lib.hid (by subst hjm; exact fun h _ _ => hp h)
      obtain ⟨xa, hxa⟩ : ∃ x, str (enc (ws0[m]'(by omega)).1) = x := ⟨_, rfl⟩
      obtain ⟨ya, hya⟩ : ∃ x, str (enc (ws0[j]'(by omega)).1) = x := ⟨_, rfl⟩
      rw [hxa] at hc1 HAP
      rw [hya] at hc2 HAP
      have hs60 := HS0.out
      have w1 : IntKind.i64.wrap ((j : Int) - 1) = (m : Int) := (IntWalk.i64_in _ (by omega)).trans (by omega)
      have w2 : IntKind.i64.wrap ((j : Int) + 1) = (j : Int) + 1 := IntWalk.i64_in _ (by omega)
      have t1 : ((j : Int) < (n0 : Int)) = True := eq_true (by omega)
      have t2 : ((m : Int) < (n0 : Int)) = True := eq_true (by omega)
      have t3 : ((0 : Int) ≤ (m : Int)) = True := eq_true (by omega)
      have t4 : ((0 : Int) ≤ (j : Int)) = True := eq_true (by omega)
      have HJM := Lib.hid hjm
      clear hb hp hsl ex ey hxa hya hbw hjm hs60 hl
      go_wp2_with fail
      go_quiet (first | (go_at_call 15; with_reducible exact Calls.quiet_of (HAP.out _)))
      cases b with
      | false =>
        go_wp2_with fail
        go_ret
        exact ⟨rfl, X3.out.trans ((Drawn0.below ⟨_, rfl⟩).mono X3.out.size)⟩
      | true =>
        go_wp2_with fail
        go_roundg (n0 - m)
        case measure => omega
        case rel =>
          refine ⟨j + 1, m + 1, by have := HJM.out; omega, rfl, Lib.hid (fun q h h0 => ?_), X3.out.trans ((Drawn0.below ⟨_, rfl⟩).mono X3.out.size), by have := HJM.out; omega⟩
          rcases Nat.lt_or_ge q m with h1 | h1
          · exact hch.out q h h1
          · obtain rfl : q = m := by omega
            exact HPP.out (by trivial) _ _
    have t1 : ((j : Int) < (n0 : Int)) = False := eq_false (by omega)
    have HJM := Lib.hid hjm
    have HCH : Hid (chainR ws0) := Lib.hid (chain_of ws0 (fun q h => hch.out q h (by have := HN0.out; omega)))
    have hj : Calls Tryz.prog 13 #[.slice A0 n0 c0, .slice none 0 0] wr fun e w' => e = .returned (.string (str (enc (chars ws0 [])))) ∧ Below wr.heap.size wr w' := by
      have := joined_call (encs' ws0) [] (by rw [Q0.out]; have := HS0.out; omega) (fun x hx => by
        obtain ⟨y, hy, rfl⟩ := List.mem_map.1 hx
        have := (HW0.out y hy).len
        omega) (by simp) A0 c0 none 0 wr (H0.out.below hbw) ⟨⟨rfl, by simp [strs], fun h => by simp [strs] at h⟩, Nat.le_refl _⟩
      have e := joinB_chars ws0 []
      rw [List.map_nil] at e
      rw [e, Q0.out] at this
      exact this
    have HJ := Lib.hid hj
    clear hj hbw hjm HB hch
    go_wp2_with (go_at_call 13; refine HJ.out.mono ?_)
    first | rintro e w4 rfl hx | rintro e w4 ⟨rfl, hx⟩
    have X4 := Lib.hid (X3.out.trans (hx.mono X3.out.size))
    have Y4 := Lib.hid hx
    clear hx HJ
    have ht : Calls Tryz.prog 12 #[.string (str (enc (chars ws0 [])))] w4 (OutI w4.heap.size w4 n0 ((ws0.map tokW).flatMap cellsI)) := by
      have hcl := chars_len (gs := []) HW0.out (by simp)
      have hs := HS0.out
      have hn := HN0.out
      have := impl_tokenize (toks_apart ws0 (fun x h => (HW0.out x h).word) HCH.out) (chars_ok HW0.out (by simp)) (by show (enc (chars ws0 [])).length ≤ _; omega) ((HG.out.below X4.out).lift X4.out.size)
      rw [List.length_map, hn] at this
      exact this
    have HT := Lib.hid ht
    clear ht
    go_wp2_with (go_at_call 12; refine HT.out.mono ?_)
    rintro e w5 ⟨vt, rfl, hown, hx⟩
    obtain ⟨Bt, Ct, rfl, hA⟩ := own_slice hown
    have HOt := Lib.hid hown
    have X5 := Lib.hid (X4.out.trans (hx.mono X4.out.size))
    have Y5 := Lib.hid hx
    clear hx hown hA HT
    have ht := tokensOf_ok ws0 HW0.out (by rw [HN0.out]; exact HS0.out) A0 c0 w5 (H0.out.below X5.out)
    rw [HN0.out] at ht
    have HT := Lib.hid ht
    clear ht
    go_wp2_with (go_at_call 14; refine HT.out.mono ?_)
    rintro e w6 ⟨vu, rfl, hown, hx⟩
    obtain ⟨Bu, Cu, rfl, hA⟩ := own_slice hown
    have HOu := Lib.hid hown
    have X6 := Lib.hid (X5.out.trans (hx.mono X5.out.size))
    have Y6 := Lib.hid hx
    clear hx hown hA HT
    have hs := same_ok (ts := (ws0.map tokW).map bare) (n := n0) (by rw [List.length_map, List.length_map]; exact HN0.out) (by have := HS0.out; omega) (flat_bare _ ▸ own_below' HOt.out Y6.out) (flat_bare _ ▸ HOu.out)
    have HT := Lib.hid hs
    clear hs
    go_wp2_with (go_at_call 11; refine HT.out.mono ?_)
    first | rintro e w7 rfl hx | rintro e w7 ⟨rfl, hx⟩
    have X7 := Lib.hid (X6.out.trans (hx.mono X6.out.size))
    clear hx HT
    go_wp2_with fail
    go_ret
    exact ⟨rfl, X7.out⟩
end Go.Proofs.YtmeihdlkadjoeaaGreatDoor
