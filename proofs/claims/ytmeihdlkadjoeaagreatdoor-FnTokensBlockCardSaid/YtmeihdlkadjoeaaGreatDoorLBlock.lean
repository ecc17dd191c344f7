/- The walk of the law FnTokensBlock. -/
import Derived.Test.YtmeihdlkadjoeaaGreatDoorCmt
import Derived.Test.YtmeihdlkadjoeaaGreatDoorApd
namespace Go.Proofs.YtmeihdlkadjoeaaGreatDoor
open Go.RowKit Go.Proofs.YtmeihdlkadjoeaaGreatDoorW.PrintWords
set_option linter.unusedVariables false
set_option linter.unusedSimpArgs false

/-- A row that was there ahead of another one is none of its block. -/
theorem own_apart {w w2 : World} {B e e2 size size2 n n2 : Nat} {v u : Value} {xs ys : List Value} (h : w.ownsRow B e size v n xs) (h2 : w2.ownsRow w.heap.size e2 size2 u n2 ys) : v.ownBlock = none ∨ v.ownBlock ≠ u.ownBlock := by
  cases hv : v.ownBlock with
  | none => exact .inl rfl
  | some k =>
    refine .inr (fun hu => ?_)
    have := (h.lt k hv).2
    have := (h2.lt k hu.symm).1
    omega

set_option maxHeartbeats 4000000 in
set_option maxRecDepth 10000 in
theorem law_block (ls0 ls1 ls4 ls5 : List (List UInt8)) (A0 A1 A4 A5 : Option Addr) (c0 c1 c4 c5 n0 n1 n4 n5 : Nat) (e0 : ls0.length = n0) (e1 : ls1.length = n1) (e4 : ls4.length = n4) (e5 : ls5.length = n5) (l2 : List UInt8) (a3 : Int) (w : World) (z2 : l2.length ≤ 140737488351232) (z3 : (Lit.int .i64 a3).wf = true) (s0 : SlS w A0 c0 ls0) (s1 : SlS w A1 c1 ls1) (s4 : SlS w A4 c4 ls4) (s5 : SlS w A5 c5 ls5) (hG : GlobI w.heap.size w) :
    Calls Tryz.prog 5 #[.slice A0 n0 c0, .slice A1 n1 c1, .string (str l2), .int .i64 a3, .slice A4 n4 c4, .slice A5 n5 c5] w fun e w' => e = .returned (.bool true) ∧ Below w.heap.size w w' := by
  have H0 := Lib.hid s0
  have Q0 := Lib.hid e0
  have H1 := Lib.hid s1
  have Q1 := Lib.hid e1
  have H4 := Lib.hid s4
  have Q4 := Lib.hid e4
  have H5 := Lib.hid s5
  have Q5 := Lib.hid e5
  have HG := Lib.hid hG
  have X0 := Lib.hid (Below.refl w.heap.size w)
  clear hG s0 e0 s1 e1 s4 e4 s5 e5
  go_enter Tryz.func5, Tryz.ntmps5
  obtain ⟨b0, hb, hp⟩ := fits_call ls0
  rw [Q0.out] at hb
  have HC := Lib.hid (hb A0 c0 w (H0.out.below X0.out))
  have HP0 := Lib.hid hp
  clear hb hp
  go_wp2_with (go_at_call 8; refine HC.out.mono ?_)
  first | rintro e w1 rfl hx | rintro e w1 ⟨rfl, hx⟩
  have X1 := Lib.hid (X0.out.trans (hx.mono X0.out.size))
  have Y1 := Lib.hid hx
  clear hx HC
  cases b0 with
  | false =>
    go_wp2_with fail
    go_ret
    exact ⟨rfl, X1.out⟩
  | true =>
  have HF0 := Lib.hid (HP0.out (by trivial))
  clear HP0
  obtain ⟨b1, hb, hp⟩ := fits_call ls1
  rw [Q1.out] at hb
  have HC := Lib.hid (hb A1 c1 w1 (H1.out.below X1.out))
  have HP1 := Lib.hid hp
  clear hb hp
  go_wp2_with (go_at_call 8; refine HC.out.mono ?_)
  first | rintro e w2 rfl hx | rintro e w2 ⟨rfl, hx⟩
  have X2 := Lib.hid (X1.out.trans (hx.mono X1.out.size))
  have Y2 := Lib.hid hx
  clear hx HC
  cases b1 with
  | false =>
    go_wp2_with fail
    go_ret
    exact ⟨rfl, X2.out⟩
  | true =>
  have HF1 := Lib.hid (HP1.out (by trivial))
  clear HP1
  by_cases h31 : ¬ l2.length ≤ 2147483647
  · have y1 : ((str l2).size : Int) > 2147483647 := by rw [str_size]; omega
    have y2 : (str l2).size > 2147483647 := by rw [str_size]; omega
    clear h31
    go_wp2_with fail
    go_ret
    exact ⟨rfl, X2.out⟩
  have h31' : l2.length ≤ 2147483647 := by omega
  have y1 : ¬ ((str l2).size : Int) > 2147483647 := by rw [str_size]; omega
  have y2 : ¬ (str l2).size > 2147483647 := by rw [str_size]; omega
  have HLS := Lib.hid h31'
  clear h31 h31'
  obtain ⟨b2, hb, hp⟩ := fits_call ls4
  rw [Q4.out] at hb
  have HC := Lib.hid (hb A4 c4 w2 (H4.out.below X2.out))
  have HP4 := Lib.hid hp
  clear hb hp
  go_wp2_with (go_at_call 8; refine HC.out.mono ?_)
  first | rintro e w3 rfl hx | rintro e w3 ⟨rfl, hx⟩
  have X3 := Lib.hid (X2.out.trans (hx.mono X2.out.size))
  have Y3 := Lib.hid hx
  clear hx HC
  cases b2 with
  | false =>
    go_wp2_with fail
    go_ret
    exact ⟨rfl, X3.out⟩
  | true =>
  have HF4 := Lib.hid (HP4.out (by trivial))
  clear HP4
  obtain ⟨b3, hb, hp⟩ := fits_call ls5
  rw [Q5.out] at hb
  have HC := Lib.hid (hb A5 c5 w3 (H5.out.below X3.out))
  have HP5 := Lib.hid hp
  clear hb hp
  go_wp2_with (go_at_call 8; refine HC.out.mono ?_)
  first | rintro e w4 rfl hx | rintro e w4 ⟨rfl, hx⟩
  have X4 := Lib.hid (X3.out.trans (hx.mono X3.out.size))
  have Y4 := Lib.hid hx
  clear hx HC
  cases b3 with
  | false =>
    go_wp2_with fail
    go_ret
    exact ⟨rfl, X4.out⟩
  | true =>
  have HF5 := Lib.hid (HP5.out (by trivial))
  clear HP5
  obtain ⟨b4, hb, hp⟩ := words_call ls0 HF0.out.1 HF0.out.2
  rw [Q0.out] at hb
  have HC := Lib.hid (hb A0 c0 w4 (H0.out.below X4.out))
  have HP := Lib.hid hp
  clear hb hp
  go_wp2_with (go_at_call 9; refine HC.out.mono ?_)
  first | rintro e w5 rfl hx | rintro e w5 ⟨rfl, hx⟩
  have X5 := Lib.hid (X4.out.trans (hx.mono X4.out.size))
  have Y5 := Lib.hid hx
  clear hx HC
  cases b4 with
  | false =>
    go_wp2_with fail
    go_ret
    exact ⟨rfl, X5.out⟩
  | true =>
  obtain ⟨hn, ws0, rfl, hws⟩ := HP.out (by trivial)
  have HN0 := Lib.hid (show ws0.length = n0 by rw [← encs_len]; exact Q0.out)
  have HS0 := Lib.hid (show n0 ≤ 60 by rw [← Q0.out]; exact hn)
  have HW0 := Lib.hid hws
  clear hn hws HP
  obtain ⟨b5, hb, hp⟩ := gaps_call ls1 HF1.out.1 HF1.out.2 n0
  rw [Q1.out] at hb
  have HC := Lib.hid (hb A1 c1 w5 (H1.out.below X5.out))
  have HP := Lib.hid hp
  clear hb hp
  go_wp2_with (go_at_call 10; refine HC.out.mono ?_)
  first | rintro e w6 rfl hx | rintro e w6 ⟨rfl, hx⟩
  have X6 := Lib.hid (X5.out.trans (hx.mono X5.out.size))
  have Y6 := Lib.hid hx
  clear hx HC
  cases b5 with
  | false =>
    go_wp2_with fail
    go_ret
    exact ⟨rfl, X6.out⟩
  | true =>
  obtain ⟨hg1, gs1, rfl, hgs⟩ := HP.out (by trivial)
  have HL1 := Lib.hid (show gs1.length = ws0.length by rw [List.length_map] at hg1; rw [hg1, HN0.out])
  have HGS1 := Lib.hid hgs
  clear hg1 hgs HP
  obtain ⟨b6, hb, hp⟩ := words_call ls4 HF4.out.1 HF4.out.2
  rw [Q4.out] at hb
  have HC := Lib.hid (hb A4 c4 w6 (H4.out.below X6.out))
  have HP := Lib.hid hp
  clear hb hp
  go_wp2_with (go_at_call 9; refine HC.out.mono ?_)
  first | rintro e w7 rfl hx | rintro e w7 ⟨rfl, hx⟩
  have X7 := Lib.hid (X6.out.trans (hx.mono X6.out.size))
  have Y7 := Lib.hid hx
  clear hx HC
  cases b6 with
  | false =>
    go_wp2_with fail
    go_ret
    exact ⟨rfl, X7.out⟩
  | true =>
  obtain ⟨hn, ws4, rfl, hws⟩ := HP.out (by trivial)
  have HN4 := Lib.hid (show ws4.length = n4 by rw [← encs_len]; exact Q4.out)
  have HS4 := Lib.hid (show n4 ≤ 60 by rw [← Q4.out]; exact hn)
  have HW4 := Lib.hid hws
  clear hn hws HP
  obtain ⟨b7, hb, hp⟩ := gaps_call ls5 HF5.out.1 HF5.out.2 n4
  rw [Q5.out] at hb
  have HC := Lib.hid (hb A5 c5 w7 (H5.out.below X7.out))
  have HP := Lib.hid hp
  clear hb hp
  go_wp2_with (go_at_call 10; refine HC.out.mono ?_)
  first | rintro e w8 rfl hx | rintro e w8 ⟨rfl, hx⟩
  have X8 := Lib.hid (X7.out.trans (hx.mono X7.out.size))
  have Y8 := Lib.hid hx
  clear hx HC
  cases b7 with
  | false =>
    go_wp2_with fail
    go_ret
    exact ⟨rfl, X8.out⟩
  | true =>
  obtain ⟨hg1, gs5, rfl, hgs⟩ := HP.out (by trivial)
  have HL5 := Lib.hid (show gs5.length = ws4.length by rw [List.length_map] at hg1; rw [hg1, HN4.out])
  have HGS5 := Lib.hid hgs
  clear hg1 hgs HP
  obtain ⟨b8, hb, hp⟩ := comment_call l2 (by have := HLS.out; omega)
  have HC := Lib.hid (hb w8)
  have HP := Lib.hid hp
  clear hb hp
  go_wp2_with (go_at_call 16; refine HC.out.mono ?_)
  first | rintro e w9 rfl hx | rintro e w9 ⟨rfl, hx⟩
  have X9 := Lib.hid (X8.out.trans (hx.mono X8.out.size))
  have Y9 := Lib.hid hx
  clear hx HC
  cases b8 with
  | false =>
    go_wp2_with fail
    go_ret
    exact ⟨rfl, X9.out⟩
  | true =>
  obtain ⟨cs, rfl, hcs⟩ := HP.out (by trivial)
  have HCS := Lib.hid hcs
  clear hcs HP HLS y1 y2
  by_cases d1 : a3 < 1
  · have d1b : decide (a3 < 1) = true := decide_eq_true d1
    go_wp2_with fail
    go_ret
    exact ⟨rfl, X9.out⟩
  have d1b : decide (a3 < 1) = false := decide_eq_false d1
  by_cases d2 : 9 < a3
  · have d2b : decide (9 < a3) = true := decide_eq_true d2
    have d2c : decide (a3 > 9) = true := decide_eq_true d2
    go_wp2_with fail
    go_ret
    exact ⟨rfl, X9.out⟩
  have d2b : decide (9 < a3) = false := decide_eq_false d2
  have d2c : decide (a3 > 9) = false := decide_eq_false d2
  have HD := Lib.hid (And.intro d1 d2)
  have hj : Calls Tryz.prog 13 #[.slice A0 n0 c0, .slice A1 n1 c1] w9 fun e w' => e = .returned (.string (str (enc (chars ws0 gs1)))) ∧ Below w9.heap.size w9 w' := by
    have := joined_call (encs' ws0) (gs1.map enc) (by rw [Q0.out]; have := HS0.out; omega) (fun x hx => by
      obtain ⟨y, hy, rfl⟩ := List.mem_map.1 hx
      have := (HW0.out y hy).len
      omega) (fun x hx => by
      obtain ⟨y, hy, rfl⟩ := List.mem_map.1 hx
      have := (HGS1.out y hy).len
      omega) A0 c0 A1 c1 w9 (H0.out.below X9.out) (H1.out.below X9.out)
    rw [joinB_chars, Q0.out, Q1.out] at this
    exact this
  have HJ := Lib.hid hj
  clear hj
  go_wp2_with (go_at_call 13; refine HJ.out.mono ?_)
  first | rintro e w10 rfl hx | rintro e w10 ⟨rfl, hx⟩
  have X10 := Lib.hid (X9.out.trans (hx.mono X9.out.size))
  have Y10 := Lib.hid hx
  clear hx HJ
  clear d1 d2 d1b d2b d2c
  obtain ⟨L, rfl⟩ : ∃ L : Nat, a3 = L := ⟨a3.toNat, by have := HD.out; omega⟩
  have HL9 := Lib.hid (show L ≤ 9 by have := HD.out; omega)
  clear HD
  have hb : (enc (chars ws0 gs1)).length ≤ 7200 := by have h := chars_len (gs := gs1) HW0.out HGS1.out; have := HN0.out; have := HS0.out; omega
  have HTB := Lib.hid hb
  obtain ⟨X, hX⟩ : ∃ X, chars ws0 gs1 = X := ⟨_, rfl⟩
  rw [hX] at HTB
  simp only [hX]
  have HX := Lib.hid hX
  clear hb hX
  have v1 : (9223372036854775807 < (str (enc X)).size + 2) = False := eq_false (by rw [str_size]; have := HTB.out; omega)
  go_wp2_with fail
  clear v1
  go_loopg [13, 77] 10 (fun gk sv i wr => ∃ j : Nat, j ≤ L ∧ i = .int .i64 j ∧ sv = .string (str (enc (X ++ 47 :: 42 :: linesC cs j))) ∧ w10 = wr ∧ 9 - j < gk)
  case atStart => exact ⟨0, Nat.zero_le _, rfl, by first | exact congrArg Value.string (open_step X cs) | rfl, rfl, by omega⟩
  case round =>
    obtain ⟨j, hj, rfl, rfl, rfl, hm⟩ := hrel
    have HSB : Hid ((enc (X ++ 47 :: 42 :: linesC cs j)).length ≤ 8000) := Lib.hid (by
      have h1 := linesC_len HCS.out.len j
      have h2 := HTB.out
      have h3 := HL9.out
      have e47 := encR_le 47
      have e42 := encR_le 42
      simp only [enc_append, enc_cons, List.length_append]
      omega)
    by_cases hlt : j < L
    · have t1 : ((j : Int) < (L : Int)) = True := eq_true (by omega)
      have hl9 := HL9.out
      have w1 : IntKind.i64.wrap ((j : Int) + 1) = (j : Int) + 1 := IntWalk.i64_in _ (by omega)
      have HST := Lib.hid (lines_step X cs j)
      have v1 : (9223372036854775807 < (str (enc cs)).size + 1) = False := eq_false (by rw [str_size]; have := HCS.out.len; omega)
      have v2 : (9223372036854775807 < (str (enc (X ++ 47 :: 42 :: linesC cs j))).size + ((str (enc cs)).size + 1)) = False := eq_false (by rw [str_size, str_size]; have := HCS.out.len; have := HSB.out; omega)
      go_wp2_with fail
      go_roundg (9 - j)
      case measure => omega
      case rel => exact ⟨j + 1, hlt, rfl, congrArg Value.string HST.out, rfl, by omega⟩
    have t1 : ((j : Int) < (L : Int)) = False := eq_false (by omega)
    obtain rfl : j = L := by omega
    clear hlt hj hm
    have hj : Calls Tryz.prog 13 #[.slice A4 n4 c4, .slice A5 n5 c5] w10 fun e w' => e = .returned (.string (str (enc (chars ws4 gs5)))) ∧ Below w10.heap.size w10 w' := by
      have := joined_call (encs' ws4) (gs5.map enc) (by rw [Q4.out]; have := HS4.out; omega) (fun x hx => by
        obtain ⟨y, hy, rfl⟩ := List.mem_map.1 hx
        have := (HW4.out y hy).len
        omega) (fun x hx => by
        obtain ⟨y, hy, rfl⟩ := List.mem_map.1 hx
        have := (HGS5.out y hy).len
        omega) A4 c4 A5 c5 w10 (H4.out.below X10.out) (H5.out.below X10.out)
      rw [joinB_chars, Q4.out, Q5.out] at this
      exact this
    have HJ := Lib.hid hj
    clear hj
    go_wp2_with (go_at_call 13; refine HJ.out.mono ?_)
    first | rintro e w11 rfl hx | rintro e w11 ⟨rfl, hx⟩
    have X11 := Lib.hid (X10.out.trans (hx.mono X10.out.size))
    have Y11 := Lib.hid hx
    clear hx HJ
    have hb : (enc (chars ws4 gs5)).length ≤ 7200 := by have h := chars_len (gs := gs5) HW4.out HGS5.out; have := HN4.out; have := HS4.out; omega
    have HTB2 := Lib.hid hb
    clear hb
    have HE := Lib.hid (close_step (X ++ 47 :: 42 :: linesC cs j) (chars ws4 gs5))
    have v1 : (9223372036854775807 < 2 + (str (enc (chars ws4 gs5))).size) = False := eq_false (by rw [str_size]; have := HTB2.out; omega)
    have v2 : (9223372036854775807 < (str (enc (X ++ 47 :: 42 :: linesC cs j))).size + (2 + (str (enc (chars ws4 gs5))).size)) = False := eq_false (by rw [str_size, str_size]; have := HTB2.out; have := HSB.out; omega)
    have hT := toks_block HW0.out HGS1.out HL1.out HW4.out HGS5.out HL5.out HCS.out.star j
    obtain ⟨ts, hT1, hT2⟩ := hT
    have HT1 := Lib.hid hT1
    have HT2 := Lib.hid hT2
    have HTL : Hid (ts.length = n0 + n4) := Lib.hid (by
      have := congrArg List.length hT2
      rw [List.length_map, List.length_map, List.length_append, List.length_map, List.length_map, HN0.out, HN4.out] at this
      exact this)
    clear hT1 hT2
    have ht : Calls Tryz.prog 12 #[.string (str (enc ((X ++ 47 :: 42 :: linesC cs j) ++ 42 :: 47 :: chars ws4 gs5)))] w11 (OutI w11.heap.size w11 (n0 + n4) ((ts).flatMap cellsI)) := by
      have h1 := HT1.out
      rw [HX.out, show X ++ (47 :: 42 :: (linesC cs j ++ 42 :: 47 :: chars ws4 gs5)) = (X ++ 47 :: 42 :: linesC cs j) ++ 42 :: 47 :: chars ws4 gs5 by simp] at h1
      have := impl_tokenize h1 (fun x hx => by
        simp only [List.mem_append, List.mem_cons] at hx
        rcases hx with (h | h | h | h) | h | h | h
        · rw [← HX.out] at h
          exact chars_ok HW0.out HGS1.out x h
        · exact .inl (by omega)
        · exact .inl (by omega)
        · rcases linesC_mem h with h | h
          · exact .inl (HCS.out.asc x h)
          · exact .inl (by omega)
        · exact .inl (by omega)
        · exact .inl (by omega)
        · exact chars_ok HW4.out HGS5.out x h) (by
        have h2 := HSB.out
        have h3 := HTB2.out
        have e47 := encR_le 47
        have e42 := encR_le 42
        rw [enc_append, List.length_append]
        simp only [enc_cons, List.length_append]
        omega) ((HG.out.below X11.out).lift X11.out.size)
      rw [HTL.out] at this
      exact this
    rw [← HE.out] at ht
    have HT := Lib.hid ht
    clear ht
    go_wp2_with (go_at_call 12; refine HT.out.mono ?_)
    rintro e w12 ⟨vt, rfl, hown, hx⟩
    obtain ⟨Bt, Ct, rfl, hA⟩ := own_slice hown
    have HOt := Lib.hid hown
    have X12 := Lib.hid (X11.out.trans (hx.mono X11.out.size))
    have Y12 := Lib.hid hx
    clear hx hown hA HT
    have ht := tokensOf_ok ws0 HW0.out (by rw [HN0.out]; exact HS0.out) A0 c0 w12 (H0.out.below X12.out)
    rw [HN0.out] at ht
    have HT := Lib.hid ht
    clear ht
    go_wp2_with (go_at_call 14; refine HT.out.mono ?_)
    rintro e w13 ⟨vu, rfl, hown, hx⟩
    obtain ⟨Bu, Cu, rfl, hA⟩ := own_slice hown
    have HOu := Lib.hid hown
    have X13 := Lib.hid (X12.out.trans (hx.mono X12.out.size))
    have Y13 := Lib.hid hx
    clear hx hown hA HT
    have ht := tokensOf_ok ws4 HW4.out (by rw [HN4.out]; exact HS4.out) A4 c4 w13 (H4.out.below X13.out)
    rw [HN4.out] at ht
    have HT := Lib.hid ht
    clear ht
    go_wp2_with (go_at_call 14; refine HT.out.mono ?_)
    rintro e w14 ⟨vv, rfl, hown, hx⟩
    obtain ⟨Bv, Cv, rfl, hA⟩ := own_slice hown
    have HOv := Lib.hid hown
    have X14 := Lib.hid (X13.out.trans (hx.mono X13.out.size))
    have Y14 := Lib.hid hx
    clear hx hown hA HT
    have O3 := Lib.hid (own_below' HOu.out Y14.out)
    have HS2 := Lib.hid (show n0 ≤ 1000 by have := HS0.out; omega)
    have HS3' := Lib.hid (show n4 ≤ 1000 by have := HS4.out; omega)
    have BB := Lib.hid (Nat.le_trans Y13.out.size Y14.out.size)
    go_wp2_with (at_builtin; refine append_two (by rfl) (.tmp 93) (.tmp 95) (by rfl) (by rfl) O3.out (by rfl) HOv.out (one_flat _) HS2.out HS3'.out BB.out ?_; intro vq w15 hoq hgq)
    obtain ⟨Bq, Cq, rfl, hA⟩ := own_slice hoq
    have X15 := Lib.hid (X14.out.grown hgq (Nat.le_trans X14.out.size (Nat.le_refl _)) (fun k hk => Nat.le_trans X12.out.size (O3.out.lt k hk).1))
    have HOq := Lib.hid hoq
    clear hA
    have OT := Lib.hid ((own_below' (own_below' HOt.out Y13.out) Y14.out).kept hgq (own_apart HOt.out O3.out))
    clear hoq hgq
    have hs := same_ok (ts := (ws0.map tokW ++ ws4.map tokW).map bare) (n := n0 + n4) (by simp only [List.length_map, List.length_append]; have := HN0.out; have := HN4.out; omega) (by have := HS0.out; have := HS4.out; omega) (by rw [← HT2.out, ← flat_bare]; exact OT.out) (by rw [← flat_bare, List.flatMap_append]; exact HOq.out)
    have HT := Lib.hid hs
    clear hs
    go_wp2_with (go_at_call 11; refine HT.out.mono ?_)
    first | rintro e w16 rfl hx | rintro e w16 ⟨rfl, hx⟩
    have X16 := Lib.hid (X15.out.trans (hx.mono X15.out.size))
    clear hx HT
    go_wp2_with fail
    go_ret
    exact ⟨rfl, X16.out⟩
end Go.Proofs.YtmeihdlkadjoeaaGreatDoor
