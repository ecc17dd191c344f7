/- The walk of the law FnTokensGap. -/
import Derived.Test.YtmeihdlkadjoeaaGreatDoorSam
namespace Go.Proofs.YtmeihdlkadjoeaaGreatDoor
open Go.RowKit Go.Proofs.YtmeihdlkadjoeaaGreatDoorW.PrintWords
set_option linter.unusedVariables false
set_option linter.unusedSimpArgs false

set_option maxHeartbeats 4000000 in
set_option maxRecDepth 10000 in
theorem law_gap (ls0 ls1 ls2 : List (List UInt8)) (A0 A1 A2 : Option Addr) (c0 c1 c2 n0 n1 n2 : Nat) (e0 : ls0.length = n0) (e1 : ls1.length = n1) (e2 : ls2.length = n2) (w : World) (s0 : SlS w A0 c0 ls0) (s1 : SlS w A1 c1 ls1) (s2 : SlS w A2 c2 ls2) (hG : GlobI w.heap.size w) :
    Calls Tryz.prog 7 #[.slice A0 n0 c0, .slice A1 n1 c1, .slice A2 n2 c2] w fun e w' => e = .returned (.bool true) ∧ Below w.heap.size w w' := by
  have H0 := Lib.hid s0
  have Q0 := Lib.hid e0
  have H1 := Lib.hid s1
  have Q1 := Lib.hid e1
  have H2 := Lib.hid s2
  have Q2 := Lib.hid e2
  have HG := Lib.hid hG
  have X0 := Lib.hid (Below.refl w.heap.size w)
  clear hG s0 e0 s1 e1 s2 e2
  go_enter Tryz.func7, Tryz.ntmps7
  obtain ⟨b0, hb, hp⟩ := fits_call ls0
  rw [Q0.out] at hb
  have HC := Lib.hid (hb A0 c0 w (H0.out.below X0.out))
  have HP0 := Lib.hid hp
  clear hb hp
  go_wp2_with (go_at_call 8; refine HC.out.mono ?_)
  first | rintro e w1 rfl hx | rintro e w1 ⟨rfl, hx⟩
  have X1 := Lib.hid (X0.out.trans (hx.mono X0.out.size))
  have Y1 := Lib.hid hx
  clear hx HC
  cases b0 with
  | false =>
    go_wp2_with fail
    go_ret
    exact ⟨rfl, X1.out⟩
  | true =>
  have HF0 := Lib.hid (HP0.out (by trivial))
  clear HP0
  obtain ⟨b1, hb, hp⟩ := fits_call ls1
  rw [Q1.out] at hb
  have HC := Lib.hid (hb A1 c1 w1 (H1.out.below X1.out))
  have HP1 := Lib.hid hp
  clear hb hp
  go_wp2_with (go_at_call 8; refine HC.out.mono ?_)
  first | rintro e w2 rfl hx | rintro e w2 ⟨rfl, hx⟩
  have X2 := Lib.hid (X1.out.trans (hx.mono X1.out.size))
  have Y2 := Lib.hid hx
  clear hx HC
  cases b1 with
  | false =>
    go_wp2_with fail
    go_ret
    exact ⟨rfl, X2.out⟩
  | true =>
  have HF1 := Lib.hid (HP1.out (by trivial))
  clear HP1
  obtain ⟨b2, hb, hp⟩ := fits_call ls2
  rw [Q2.out] at hb
  have HC := Lib.hid (hb A2 c2 w2 (H2.out.below X2.out))
  have HP2 := Lib.hid hp
  clear hb hp
  go_wp2_with (go_at_call 8; refine HC.out.mono ?_)
  first | rintro e w3 rfl hx | rintro e w3 ⟨rfl, hx⟩
  have X3 := Lib.hid (X2.out.trans (hx.mono X2.out.size))
  have Y3 := Lib.hid hx
  clear hx HC
  cases b2 with
  | false =>
    go_wp2_with fail
    go_ret
    exact ⟨rfl, X3.out⟩
  | true =>
  have HF2 := Lib.hid (HP2.out (by trivial))
  clear HP2
  obtain ⟨b3, hb, hp⟩ := words_call ls0 HF0.out.1 HF0.out.2
  rw [Q0.out] at hb
  have HC := Lib.hid (hb A0 c0 w3 (H0.out.below X3.out))
  have HP := Lib.hid hp
  clear hb hp
  go_wp2_with (go_at_call 9; refine HC.out.mono ?_)
  first | rintro e w4 rfl hx | rintro e w4 ⟨rfl, hx⟩
  have X4 := Lib.hid (X3.out.trans (hx.mono X3.out.size))
  have Y4 := Lib.hid hx
  clear hx HC
  cases b3 with
  | false =>
    go_wp2_with fail
    go_ret
    exact ⟨rfl, X4.out⟩
  | true =>
  obtain ⟨hn, ws0, rfl, hws⟩ := HP.out (by trivial)
  have HN0 := Lib.hid (show ws0.length = n0 by rw [← encs_len]; exact Q0.out)
  have HS0 := Lib.hid (show n0 ≤ 60 by rw [← Q0.out]; exact hn)
  have HW0 := Lib.hid hws
  clear hn hws HP
  obtain ⟨b4, hb, hp⟩ := gaps_call ls1 HF1.out.1 HF1.out.2 n0
  rw [Q1.out] at hb
  have HC := Lib.hid (hb A1 c1 w4 (H1.out.below X4.out))
  have HP := Lib.hid hp
  clear hb hp
  go_wp2_with (go_at_call 10; refine HC.out.mono ?_)
  first | rintro e w5 rfl hx | rintro e w5 ⟨rfl, hx⟩
  have X5 := Lib.hid (X4.out.trans (hx.mono X4.out.size))
  have Y5 := Lib.hid hx
  clear hx HC
  cases b4 with
  | false =>
    go_wp2_with fail
    go_ret
    exact ⟨rfl, X5.out⟩
  | true =>
  obtain ⟨hg1, gs1, rfl, hgs⟩ := HP.out (by trivial)
  have HL1 := Lib.hid (show gs1.length = ws0.length by rw [List.length_map] at hg1; rw [hg1, HN0.out])
  have HGS1 := Lib.hid hgs
  clear hg1 hgs HP
  obtain ⟨b5, hb, hp⟩ := gaps_call ls2 HF2.out.1 HF2.out.2 n0
  rw [Q2.out] at hb
  have HC := Lib.hid (hb A2 c2 w5 (H2.out.below X5.out))
  have HP := Lib.hid hp
  clear hb hp
  go_wp2_with (go_at_call 10; refine HC.out.mono ?_)
  first | rintro e w6 rfl hx | rintro e w6 ⟨rfl, hx⟩
  have X6 := Lib.hid (X5.out.trans (hx.mono X5.out.size))
  have Y6 := Lib.hid hx
  clear hx HC
  cases b5 with
  | false =>
    go_wp2_with fail
    go_ret
    exact ⟨rfl, X6.out⟩
  | true =>
  obtain ⟨hg1, gs2, rfl, hgs⟩ := HP.out (by trivial)
  have HL2 := Lib.hid (show gs2.length = ws0.length by rw [List.length_map] at hg1; rw [hg1, HN0.out])
  have HGS2 := Lib.hid hgs
  clear hg1 hgs HP
  have hj : Calls Tryz.prog 13 #[.slice A0 n0 c0, .slice A1 n1 c1] w6 fun e w' => e = .returned (.string (str (enc (chars ws0 gs1)))) ∧ Below w6.heap.size w6 w' := by
    have := joined_call (encs' ws0) (gs1.map enc) (by rw [Q0.out]; have := HS0.out; omega) (fun x hx => by
      obtain ⟨y, hy, rfl⟩ := List.mem_map.1 hx
      have := (HW0.out y hy).len
      omega) (fun x hx => by
      obtain ⟨y, hy, rfl⟩ := List.mem_map.1 hx
      have := (HGS1.out y hy).len
      omega) A0 c0 A1 c1 w6 (H0.out.below X6.out) (H1.out.below X6.out)
    rw [joinB_chars, Q0.out, Q1.out] at this
    exact this
  have HJ := Lib.hid hj
  clear hj
  go_wp2_with (go_at_call 13; refine HJ.out.mono ?_)
  first | rintro e w7 rfl hx | rintro e w7 ⟨rfl, hx⟩
  have X7 := Lib.hid (X6.out.trans (hx.mono X6.out.size))
  have Y7 := Lib.hid hx
  clear hx HJ
  have ht : Calls Tryz.prog 12 #[.string (str (enc (chars ws0 gs1)))] w7 (OutI w7.heap.size w7 n0 ((ws0.map tokW).flatMap cellsI)) := by
    have hcl := chars_len (gs := gs1) HW0.out HGS1.out
    have hs := HS0.out
    have hn := HN0.out
    have := impl_tokenize (chars_toks HW0.out HGS1.out HL1.out) (chars_ok HW0.out HGS1.out) (by omega) ((HG.out.below X7.out).lift X7.out.size)
    rw [List.length_map, hn] at this
    exact this
  have HT := Lib.hid ht
  clear ht
  go_wp2_with (go_at_call 12; refine HT.out.mono ?_)
  rintro e w8 ⟨vt, rfl, hown, hx⟩
  obtain ⟨Bt, Ct, rfl, hA⟩ := own_slice hown
  have HOt := Lib.hid hown
  have X8 := Lib.hid (X7.out.trans (hx.mono X7.out.size))
  have Y8 := Lib.hid hx
  clear hx hown hA HT
  have hj : Calls Tryz.prog 13 #[.slice A0 n0 c0, .slice A2 n2 c2] w8 fun e w' => e = .returned (.string (str (enc (chars ws0 gs2)))) ∧ Below w8.heap.size w8 w' := by
    have := joined_call (encs' ws0) (gs2.map enc) (by rw [Q0.out]; have := HS0.out; omega) (fun x hx => by
      obtain ⟨y, hy, rfl⟩ := List.mem_map.1 hx
      have := (HW0.out y hy).len
      omega) (fun x hx => by
      obtain ⟨y, hy, rfl⟩ := List.mem_map.1 hx
      have := (HGS2.out y hy).len
      omega) A0 c0 A2 c2 w8 (H0.out.below X8.out) (H2.out.below X8.out)
    rw [joinB_chars, Q0.out, Q2.out] at this
    exact this
  have HJ := Lib.hid hj
  clear hj
  go_wp2_with (go_at_call 13; refine HJ.out.mono ?_)
  first | rintro e w9 rfl hx | rintro e w9 ⟨rfl, hx⟩
  have X9 := Lib.hid (X8.out.trans (hx.mono X8.out.size))
  have Y9 := Lib.hid hx
  clear hx HJ
  have ht : Calls Tryz.prog 12 #[.string (str (enc (chars ws0 gs2)))] w9 (OutI w9.heap.size w9 n0 ((ws0.map tokW).flatMap cellsI)) := by
    have hcl := chars_len (gs := gs2) HW0.out HGS2.out
    have hs := HS0.out
    have hn := HN0.out
    have := impl_tokenize (chars_toks HW0.out HGS2.out HL2.out) (chars_ok HW0.out HGS2.out) (by omega) ((HG.out.below X9.out).lift X9.out.size)
    rw [List.length_map, hn] at this
    exact this
  have HT := Lib.hid ht
  clear ht
  go_wp2_with (go_at_call 12; refine HT.out.mono ?_)
  rintro e w10 ⟨vu, rfl, hown, hx⟩
  obtain ⟨Bu, Cu, rfl, hA⟩ := own_slice hown
  have HOu := Lib.hid hown
  have X10 := Lib.hid (X9.out.trans (hx.mono X9.out.size))
  have Y10 := Lib.hid hx
  clear hx hown hA HT
  have hs := same_ok (ts := (ws0.map tokW).map bare) (n := n0) (by rw [List.length_map, List.length_map]; exact HN0.out) (by have := HS0.out; omega) (flat_bare _ ▸ own_below' (own_below' HOt.out Y9.out) Y10.out) (flat_bare _ ▸ HOu.out)
  have HT := Lib.hid hs
  clear hs
  go_wp2_with (go_at_call 11; refine HT.out.mono ?_)
  first | rintro e w11 rfl hx | rintro e w11 ⟨rfl, hx⟩
  have X11 := Lib.hid (X10.out.trans (hx.mono X10.out.size))
  clear hx HT
  go_wp2_with fail
  go_ret
  exact ⟨rfl, X11.out⟩
end Go.Proofs.YtmeihdlkadjoeaaGreatDoor
