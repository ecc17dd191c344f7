/- The walk of the law FnTokensComment. -/
import Derived.Test.YtmeihdlkadjoeaaGreatDoorCmt
import Derived.Test.YtmeihdlkadjoeaaGreatDoorApd
namespace Go.Proofs.YtmeihdlkadjoeaaGreatDoor
open Go.RowKit Go.Proofs.YtmeihdlkadjoeaaGreatDoorW.PrintWords
set_option linter.unusedVariables false
set_option linter.unusedSimpArgs false

theorem noG_of {cs : List Nat} (h : cs.head? ≠ some 103) : noG (47 :: 47 :: cs) = true := by
  cases cs with
  | nil => rfl
  | cons x l =>
    have hx : x ≠ 103 := fun e => h (by rw [e]; rfl)
    unfold noG
    split
    · rename_i he
      simp at he
      exact absurd he.1 hx
    · rfl
theorem due_comment (a b : List (List Nat × Int)) : (a.map tokW ++ (((10 : Int), [10], 1) :: b.map tokW)).flatMap cellsI = (a.map tokW).flatMap cellsI ++ [.int .i64 10, .string ⟨#[10]⟩] ++ (b.map tokW).flatMap cellsI := by
  have e : cellsI ((10 : Int), [10], 1) = [.int .i64 10, .string ⟨#[10]⟩] := rfl
  rw [List.flatMap_append, List.flatMap_cons, e, List.append_assoc]
theorem own_base_le {w : World} {base : Nat} {e : TypeId} {size n : Nat} {v : Value} {xs : List Value} (h : w.ownsRow base e size v n xs) (hn : 0 < n) : base ≤ w.heap.size := by
  rcases h.2 with ⟨_, h0⟩ | ⟨g, cap, cur, rfl, hb, hg, _⟩
  · omega
  · have := (h.lt g rfl).2
    omega

set_option maxHeartbeats 4000000 in
set_option maxRecDepth 10000 in
theorem law_comment (ls0 ls1 ls3 ls4 : List (List UInt8)) (A0 A1 A3 A4 : Option Addr) (c0 c1 c3 c4 n0 n1 n3 n4 : Nat) (e0 : ls0.length = n0) (e1 : ls1.length = n1) (e3 : ls3.length = n3) (e4 : ls4.length = n4) (l2 : List UInt8) (w : World) (z2 : l2.length ≤ 140737488351232) (s0 : SlS w A0 c0 ls0) (s1 : SlS w A1 c1 ls1) (s3 : SlS w A3 c3 ls3) (s4 : SlS w A4 c4 ls4) (hG : GlobI w.heap.size w) :
    Calls Tryz.prog 6 #[.slice A0 n0 c0, .slice A1 n1 c1, .string (str l2), .slice A3 n3 c3, .slice A4 n4 c4] w fun e w' => e = .returned (.bool true) ∧ Below w.heap.size w w' := by
  have H0 := Lib.hid s0
  have Q0 := Lib.hid e0
  have H1 := Lib.hid s1
  have Q1 := Lib.hid e1
  have H3 := Lib.hid s3
  have Q3 := Lib.hid e3
  have H4 := Lib.hid s4
  have Q4 := Lib.hid e4
  have HG := Lib.hid hG
  have X0 := Lib.hid (Below.refl w.heap.size w)
  clear hG s0 e0 s1 e1 s3 e3 s4 e4
  go_enter Tryz.func6, Tryz.ntmps6
  obtain ⟨b0, hb, hp⟩ := fits_call ls0
  rw [Q0.out] at hb
  have HC := Lib.hid (hb A0 c0 w (H0.out.below X0.out))
  have HP0 := Lib.hid hp
  clear hb hp
  go_wp2_with (go_at_call 8; refine HC.out.mono ?_)
  first | rintro e w1 rfl hx | rintro e w1 ⟨rfl, hx⟩
  have X1 := Lib.hid (X0.out.trans (hx.mono X0.out.size))
  have Y1 := Lib.hid hx
  clear hx HC
  cases b0 with
  | false =>
    go_wp2_with fail
    go_ret
    exact ⟨rfl, X1.out⟩
  | true =>
  have HF0 := Lib.hid (HP0.out (by trivial))
  clear HP0
  obtain ⟨b1, hb, hp⟩ := fits_call ls1
  rw [Q1.out] at hb
  have HC := Lib.hid (hb A1 c1 w1 (H1.out.below X1.out))
  have HP1 := Lib.hid hp
  clear hb hp
  go_wp2_with (go_at_call 8; refine HC.out.mono ?_)
  first | rintro e w2 rfl hx | rintro e w2 ⟨rfl, hx⟩
  have X2 := Lib.hid (X1.out.trans (hx.mono X1.out.size))
  have Y2 := Lib.hid hx
  clear hx HC
  cases b1 with
  | false =>
    go_wp2_with fail
    go_ret
    exact ⟨rfl, X2.out⟩
  | true =>
  have HF1 := Lib.hid (HP1.out (by trivial))
  clear HP1
  by_cases h31 : ¬ l2.length ≤ 2147483647
  · have y1 : ((str l2).size : Int) > 2147483647 := by rw [str_size]; omega
    have y2 : (str l2).size > 2147483647 := by rw [str_size]; omega
    clear h31
    go_wp2_with fail
    go_ret
    exact ⟨rfl, X2.out⟩
  have h31' : l2.length ≤ 2147483647 := by omega
  have y1 : ¬ ((str l2).size : Int) > 2147483647 := by rw [str_size]; omega
  have y2 : ¬ (str l2).size > 2147483647 := by rw [str_size]; omega
  have HLS := Lib.hid h31'
  clear h31 h31'
  obtain ⟨b2, hb, hp⟩ := fits_call ls3
  rw [Q3.out] at hb
  have HC := Lib.hid (hb A3 c3 w2 (H3.out.below X2.out))
  have HP3 := Lib.hid hp
  clear hb hp
  go_wp2_with (go_at_call 8; refine HC.out.mono ?_)
  first | rintro e w3 rfl hx | rintro e w3 ⟨rfl, hx⟩
  have X3 := Lib.hid (X2.out.trans (hx.mono X2.out.size))
  have Y3 := Lib.hid hx
  clear hx HC
  cases b2 with
  | false =>
    go_wp2_with fail
    go_ret
    exact ⟨rfl, X3.out⟩
  | true =>
  have HF3 := Lib.hid (HP3.out (by trivial))
  clear HP3
  obtain ⟨b3, hb, hp⟩ := fits_call ls4
  rw [Q4.out] at hb
  have HC := Lib.hid (hb A4 c4 w3 (H4.out.below X3.out))
  have HP4 := Lib.hid hp
  clear hb hp
  go_wp2_with (go_at_call 8; refine HC.out.mono ?_)
  first | rintro e w4 rfl hx | rintro e w4 ⟨rfl, hx⟩
  have X4 := Lib.hid (X3.out.trans (hx.mono X3.out.size))
  have Y4 := Lib.hid hx
  clear hx HC
  cases b3 with
  | false =>
    go_wp2_with fail
    go_ret
    exact ⟨rfl, X4.out⟩
  | true =>
  have HF4 := Lib.hid (HP4.out (by trivial))
  clear HP4
  obtain ⟨b4, hb, hp⟩ := words_call ls0 HF0.out.1 HF0.out.2
  rw [Q0.out] at hb
  have HC := Lib.hid (hb A0 c0 w4 (H0.out.below X4.out))
  have HP := Lib.hid hp
  clear hb hp
  go_wp2_with (go_at_call 9; refine HC.out.mono ?_)
  first | rintro e w5 rfl hx | rintro e w5 ⟨rfl, hx⟩
  have X5 := Lib.hid (X4.out.trans (hx.mono X4.out.size))
  have Y5 := Lib.hid hx
  clear hx HC
  cases b4 with
  | false =>
    go_wp2_with fail
    go_ret
    exact ⟨rfl, X5.out⟩
  | true =>
  obtain ⟨hn, ws0, rfl, hws⟩ := HP.out (by trivial)
  have HN0 := Lib.hid (show ws0.length = n0 by rw [← encs_len]; exact Q0.out)
  have HS0 := Lib.hid (show n0 ≤ 60 by rw [← Q0.out]; exact hn)
  have HW0 := Lib.hid hws
  clear hn hws HP
  obtain ⟨b5, hb, hp⟩ := gaps_call ls1 HF1.out.1 HF1.out.2 n0
  rw [Q1.out] at hb
  have HC := Lib.hid (hb A1 c1 w5 (H1.out.below X5.out))
  have HP := Lib.hid hp
  clear hb hp
  go_wp2_with (go_at_call 10; refine HC.out.mono ?_)
  first | rintro e w6 rfl hx | rintro e w6 ⟨rfl, hx⟩
  have X6 := Lib.hid (X5.out.trans (hx.mono X5.out.size))
  have Y6 := Lib.hid hx
  clear hx HC
  cases b5 with
  | false =>
    go_wp2_with fail
    go_ret
    exact ⟨rfl, X6.out⟩
  | true =>
  obtain ⟨hg1, gs1, rfl, hgs⟩ := HP.out (by trivial)
  have HL1 := Lib.hid (show gs1.length = ws0.length by rw [List.length_map] at hg1; rw [hg1, HN0.out])
  have HGS1 := Lib.hid hgs
  clear hg1 hgs HP
  obtain ⟨b6, hb, hp⟩ := words_call ls3 HF3.out.1 HF3.out.2
  rw [Q3.out] at hb
  have HC := Lib.hid (hb A3 c3 w6 (H3.out.below X6.out))
  have HP := Lib.hid hp
  clear hb hp
  go_wp2_with (go_at_call 9; refine HC.out.mono ?_)
  first | rintro e w7 rfl hx | rintro e w7 ⟨rfl, hx⟩
  have X7 := Lib.hid (X6.out.trans (hx.mono X6.out.size))
  have Y7 := Lib.hid hx
  clear hx HC
  cases b6 with
  | false =>
    go_wp2_with fail
    go_ret
    exact ⟨rfl, X7.out⟩
  | true =>
  obtain ⟨hn, ws3, rfl, hws⟩ := HP.out (by trivial)
  have HN3 := Lib.hid (show ws3.length = n3 by rw [← encs_len]; exact Q3.out)
  have HS3 := Lib.hid (show n3 ≤ 60 by rw [← Q3.out]; exact hn)
  have HW3 := Lib.hid hws
  clear hn hws HP
  obtain ⟨b7, hb, hp⟩ := gaps_call ls4 HF4.out.1 HF4.out.2 n3
  rw [Q4.out] at hb
  have HC := Lib.hid (hb A4 c4 w7 (H4.out.below X7.out))
  have HP := Lib.hid hp
  clear hb hp
  go_wp2_with (go_at_call 10; refine HC.out.mono ?_)
  first | rintro e w8 rfl hx | rintro e w8 ⟨rfl, hx⟩
  have X8 := Lib.hid (X7.out.trans (hx.mono X7.out.size))
  have Y8 := Lib.hid hx
  clear hx HC
  cases b7 with
  | false =>
    go_wp2_with fail
    go_ret
    exact ⟨rfl, X8.out⟩
  | true =>
  obtain ⟨hg1, gs4, rfl, hgs⟩ := HP.out (by trivial)
  have HL4 := Lib.hid (show gs4.length = ws3.length by rw [List.length_map] at hg1; rw [hg1, HN3.out])
  have HGS4 := Lib.hid hgs
  clear hg1 hgs HP
  obtain ⟨b8, hb, hp⟩ := comment_call l2 (by have := HLS.out; omega)
  have HC := Lib.hid (hb w8)
  have HP := Lib.hid hp
  clear hb hp
  go_wp2_with (go_at_call 16; refine HC.out.mono ?_)
  first | rintro e w9 rfl hx | rintro e w9 ⟨rfl, hx⟩
  have X9 := Lib.hid (X8.out.trans (hx.mono X8.out.size))
  have Y9 := Lib.hid hx
  clear hx HC
  cases b8 with
  | false =>
    go_wp2_with fail
    go_ret
    exact ⟨rfl, X9.out⟩
  | true =>
  obtain ⟨cs, rfl, hcs⟩ := HP.out (by trivial)
  have HCS := Lib.hid hcs
  clear hcs HP HLS y1 y2
  have hj : Calls Tryz.prog 13 #[.slice A0 n0 c0, .slice A1 n1 c1] w9 fun e w' => e = .returned (.string (str (enc (chars ws0 gs1)))) ∧ Below w9.heap.size w9 w' := by
    have := joined_call (encs' ws0) (gs1.map enc) (by rw [Q0.out]; have := HS0.out; omega) (fun x hx => by
      obtain ⟨y, hy, rfl⟩ := List.mem_map.1 hx
      have := (HW0.out y hy).len
      omega) (fun x hx => by
      obtain ⟨y, hy, rfl⟩ := List.mem_map.1 hx
      have := (HGS1.out y hy).len
      omega) A0 c0 A1 c1 w9 (H0.out.below X9.out) (H1.out.below X9.out)
    rw [joinB_chars, Q0.out, Q1.out] at this
    exact this
  have HJ := Lib.hid hj
  clear hj
  go_wp2_with (go_at_call 13; refine HJ.out.mono ?_)
  first | rintro e w10 rfl hx | rintro e w10 ⟨rfl, hx⟩
  have X10 := Lib.hid (X9.out.trans (hx.mono X9.out.size))
  have Y10 := Lib.hid hx
  clear hx HJ
  have hT0 : (str (enc (chars ws0 gs1))).size ≤ 7200 := by have h := chars_len (gs := gs1) HW0.out HGS1.out; have := HN0.out; have := HS0.out; rw [str_size]; omega
  have hC : (str (enc cs)).size ≤ 60 := by rw [str_size]; exact HCS.out.len
  have hT1 : (str (enc (chars ws3 gs4))).size ≤ 7200 := by have h := chars_len (gs := gs4) HW3.out HGS4.out; have := HN3.out; have := HS3.out; rw [str_size]; omega
  obtain ⟨T0, hT⟩ : ∃ T, str (enc (chars ws0 gs1)) = T := ⟨_, rfl⟩
  obtain ⟨C, hCC⟩ : ∃ T, str (enc cs) = T := ⟨_, rfl⟩
  rw [hT] at hT0
  rw [hCC] at hC
  have v1 : (9223372036854775807 < T0.size + 2) = False := eq_false (by omega)
  have v2 : (9223372036854775807 < T0.size + 2 + C.size) = False := eq_false (by omega)
  have v3 : (9223372036854775807 < T0.size + 2 + C.size + 1) = False := eq_false (by omega)
  simp only [hT, hCC]
  have hj : Calls Tryz.prog 13 #[.slice A3 n3 c3, .slice A4 n4 c4] w10 fun e w' => e = .returned (.string (str (enc (chars ws3 gs4)))) ∧ Below w10.heap.size w10 w' := by
    have := joined_call (encs' ws3) (gs4.map enc) (by rw [Q3.out]; have := HS3.out; omega) (fun x hx => by
      obtain ⟨y, hy, rfl⟩ := List.mem_map.1 hx
      have := (HW3.out y hy).len
      omega) (fun x hx => by
      obtain ⟨y, hy, rfl⟩ := List.mem_map.1 hx
      have := (HGS4.out y hy).len
      omega) A3 c3 A4 c4 w10 (H3.out.below X10.out) (H4.out.below X10.out)
    rw [joinB_chars, Q3.out, Q4.out] at this
    exact this
  have HJ := Lib.hid hj
  clear hj
  go_wp2_with (go_at_call 13; refine HJ.out.mono ?_)
  first | rintro e w11 rfl hx | rintro e w11 ⟨rfl, hx⟩
  have X11 := Lib.hid (X10.out.trans (hx.mono X10.out.size))
  have Y11 := Lib.hid hx
  clear hx HJ
  obtain ⟨T1, hTT⟩ : ∃ T, str (enc (chars ws3 gs4)) = T := ⟨_, rfl⟩
  rw [hTT] at hT1
  simp only [hTT]
  have v4 : (9223372036854775807 < T0.size + 2 + C.size + 1 + T1.size) = False := eq_false (by omega)
  have HE := Lib.hid (line_step (chars ws0 gs1) cs (chars ws3 gs4))
  rw [hT, hCC, hTT] at HE
  clear hT hCC hTT hT0 hC hT1
  have ht := tokensOf_ok ws0 HW0.out (by rw [HN0.out]; exact HS0.out) A0 c0 w11 (H0.out.below X11.out)
  rw [HN0.out] at ht
  have HT := Lib.hid ht
  clear ht
  go_wp2_with (go_at_call 14; refine HT.out.mono ?_)
  rintro e w12 ⟨vu, rfl, hown, hx⟩
  obtain ⟨Bu, Cu, rfl, hA⟩ := own_slice hown
  have HOu := Lib.hid hown
  have X12 := Lib.hid (X11.out.trans (hx.mono X11.out.size))
  have Y12 := Lib.hid hx
  clear hx hown hA HT
  have HC := Lib.hid (nl_call w12)
  go_wp2_with (go_at_call 17; refine HC.out.mono ?_)
  first | rintro e w13 rfl hx | rintro e w13 ⟨rfl, hx⟩
  have X13 := Lib.hid (X12.out.trans (hx.mono X12.out.size))
  have Y13 := Lib.hid hx
  clear hx HC
  have o1 := own_below' HOu.out Y13.out
  have hal : Below w13.heap.size w13 (w13.alloc (.cells #[.int .i64 10, .string ⟨#[10]⟩] 35)) := (Below.refl _ _).alloc (Nat.le_refl _) _
  have o2 : (w13.alloc (.cells #[.int .i64 10, .string ⟨#[10]⟩] 35)).ownsRow w13.heap.size 35 2 (.slice (some ⟨w13.heap.size, 0, none⟩) 1 1) 1 [.int .i64 10, .string ⟨#[10]⟩] := ⟨rfl, .inr ⟨w13.heap.size, 1, _, rfl, Nat.le_refl _, heap_alloc_new w13 _, Nat.le_refl _, by decide, rfl, rfl⟩⟩
  have O1 := Lib.hid (own_below' o1 hal)
  have O2 := Lib.hid o2
  have HAL := Lib.hid hal
  have HS := Lib.hid (show n0 ≤ 1000 by have := HS0.out; omega)
  clear o1 o2 hal
  go_wp2_with (at_builtin; refine append_two (by rfl) (.tmp 75) (.tmp 77) (by rfl) (by rfl) O1.out (by rfl) O2.out (by intro u hu; simp at hu; rcases hu with rfl | rfl <;> rfl) HS.out (by omega) (Nat.le_trans (Y12.out.trans (Y13.out.mono Y12.out.size)).size HAL.out.size) ?_; intro vp w14 hop hgp)
  obtain ⟨Bp, Cp, rfl, hA⟩ := own_slice hop
  have X14 := Lib.hid ((X13.out.trans (HAL.out.mono X13.out.size)).grown hgp (Nat.le_trans X13.out.size HAL.out.size) (fun k hk => Nat.le_trans X11.out.size (O1.out.lt k hk).1))
  have HOp := Lib.hid hop
  clear hA
  clear hop hgp O2
  have ht := tokensOf_ok ws3 HW3.out (by rw [HN3.out]; exact HS3.out) A3 c3 w14 (H3.out.below X14.out)
  rw [HN3.out] at ht
  have HT := Lib.hid ht
  clear ht
  go_wp2_with (go_at_call 14; refine HT.out.mono ?_)
  rintro e w15 ⟨vv, rfl, hown, hx⟩
  obtain ⟨Bv, Cv, rfl, hA⟩ := own_slice hown
  have HOv := Lib.hid hown
  have X15 := Lib.hid (X14.out.trans (hx.mono X14.out.size))
  have Y15 := Lib.hid hx
  clear hx hown hA HT
  have O3 := Lib.hid (own_below' HOp.out Y15.out)
  have HS2 := Lib.hid (show n0 + 1 ≤ 1000 by have := HS0.out; omega)
  have HS3' := Lib.hid (show n3 ≤ 1000 by have := HS3.out; omega)
  have BB := Lib.hid (show w11.heap.size ≤ w15.heap.size from Nat.le_trans (own_base_le HOp.out (by omega)) Y15.out.size)
  go_wp2_with (at_builtin; refine append_two (by rfl) (.tmp 78) (.tmp 80) (by rfl) (by rfl) O3.out (by rfl) HOv.out (one_flat _) HS2.out HS3'.out BB.out ?_; intro vq w16 hoq hgq)
  obtain ⟨Bq, Cq, rfl, hA⟩ := own_slice hoq
  have X16 := Lib.hid (X15.out.grown hgq (Nat.le_trans X15.out.size (Nat.le_refl _)) (fun k hk => Nat.le_trans X11.out.size (O3.out.lt k hk).1))
  have HOq := Lib.hid hoq
  clear hA
  clear hoq hgq
  have ht : Calls Tryz.prog 12 #[.string (str (enc (chars ws0 gs1 ++ 47 :: 47 :: (cs ++ 10 :: chars ws3 gs4))))] w16 (OutI w16.heap.size w16 (n0 + 1 + n3) ((ws0.map tokW ++ (((10 : Int), [10], 1) :: ws3.map tokW)).flatMap cellsI)) := by
    have h0 := chars_len (gs := gs1) HW0.out HGS1.out
    have h3 := chars_len (gs := gs4) HW3.out HGS4.out
    have hs0 := HS0.out
    have hs3 := HS3.out
    have hn0 := HN0.out
    have hn3 := HN3.out
    have hl := HCS.out.len
    have e47 := encR_le 47
    have e10 := encR_le 10
    have := impl_tokenize (toks_comment HW0.out HGS1.out HL1.out HW3.out HGS4.out HL4.out (fun c h => by simp [nNl, HCS.out.nl c h]) (noG_of HCS.out.g)) (fun x hx => by
      simp only [List.mem_append, List.mem_cons] at hx
      rcases hx with h | h | h | h | h | h
      · exact chars_ok HW0.out HGS1.out x h
      · exact .inl (by omega)
      · exact .inl (by omega)
      · exact .inl (HCS.out.asc x h)
      · exact .inl (by omega)
      · exact chars_ok HW3.out HGS4.out x h) (by
      simp only [enc_append, enc_cons, List.length_append]
      omega) ((HG.out.below X16.out).lift X16.out.size)
    rw [List.length_append, List.length_cons, List.length_map, List.length_map, hn0, hn3, show n0 + (n3 + 1) = n0 + 1 + n3 by omega] at this
    exact this
  rw [← HE.out] at ht
  have HT := Lib.hid ht
  clear ht
  go_wp2_with (go_at_call 12; refine HT.out.mono ?_)
  rintro e w17 ⟨vt, rfl, hown, hx⟩
  obtain ⟨Bt, Ct, rfl, hA⟩ := own_slice hown
  have HOt := Lib.hid hown
  have X17 := Lib.hid (X16.out.trans (hx.mono X16.out.size))
  have Y17 := Lib.hid hx
  clear hx hown hA HT
  have hs := same_ok (ts := (ws0.map tokW ++ (((10 : Int), [10], 1) :: ws3.map tokW)).map bare) (n := n0 + 1 + n3) (by simp only [List.length_map, List.length_append, List.length_cons]; have := HN0.out; have := HN3.out; omega) (by have := HS0.out; have := HS3.out; omega) (flat_bare _ ▸ HOt.out) (by rw [← flat_bare, due_comment]; exact own_below' HOq.out Y17.out)
  have HT := Lib.hid hs
  clear hs
  go_wp2_with (go_at_call 11; refine HT.out.mono ?_)
  first | rintro e w18 rfl hx | rintro e w18 ⟨rfl, hx⟩
  have X18 := Lib.hid (X17.out.trans (hx.mono X17.out.size))
  clear hx HT
  go_wp2_with fail
  go_ret
  exact ⟨rfl, X18.out⟩
end Go.Proofs.YtmeihdlkadjoeaaGreatDoor
