/- The walk of the law FnReadTokens. -/
import Derived.Test.YtmeihdlkadjoeaaDoorMF
import Derived.Test.YtmeihdlkadjoeaaDoorRtk
import Derived.Test.YtmeihdlkadjoeaaDoorBytp
import Derived.Deep.RegionWith
namespace Go.Proofs.YtmeihdlkadjoeaaDoor
open Go.RowKit Go.Proofs.YtmeihdlkadjoeaaDoorW.PrintWords
set_option linter.unusedVariables false
set_option linter.unusedSimpArgs false

theorem plain_call (ws : List (List Nat × Int)) (hw : ∀ w ∈ ws, WordT w) (hl : ws.length ≤ 60) : ∃ b, (∀ (A : Option Addr) (c : Nat) (w : World), SlS w A c (encs' ws) → Calls Tryd.prog 9 #[.slice A (encs' ws).length c] w fun e w' => e = .returned (.bool b) ∧ Below w.heap.size w w') ∧
    (b = true → ∀ w ∈ ws, ∀ x ∈ w.1, x < 128) := by
  obtain ⟨b, hb, hp⟩ := plainWords_ev ws hw hl
  obtain ⟨k, hk⟩ := hb.rounds
  refine ⟨b, fun A c w h => ?_, hp⟩
  have := PFnReadTokens.laws_plainWords.calls k A c (strs (encs' ws)) b w h.1 (by rw [strs_length]; exact h.2) hk
  rw [strs_length] at this
  exact this.mono fun e w' ⟨he, hd⟩ => ⟨he, hd.below⟩

theorem told_plain {r : List Nat} (h : ∀ x ∈ r, x < 128) : toldR r = r := by
  unfold toldR
  rw [List.map_map]
  conv => rhs; rw [← List.map_id r]
  apply List.map_congr_left
  intro x hx
  have := h x hx
  have h1 : x ≠ 183 := by omega
  have h2 : x ≠ 8725 := by omega
  simp [swapR, h1, h2]

/-- A word that is the end of a line. -/
theorem word_nl {r : List Nat} {k : Int} (h : WordR r k) : (enc r = [10] ↔ k = 10) := by
  constructor
  · intro he
    have hlen := congrArg List.length he
    have hle := len_enc r
    rw [hlen] at hle
    have hne := h.ne_nil
    cases h with
    | name c rs h hs =>
      have : rs = [] := by cases rs <;> simp at hle ⊢
      subst this
      rw [enc_cons, enc_nil, List.append_nil] at he
      exfalso
      simp only [letR, Bool.or_eq_true, decide_eq_true_eq] at h
      unfold encR at he
      split at he
      · rename_i hc
        have := congrArg UInt8.toNat (List.cons.inj he).1
        rw [toNat_asc hc] at this
        have : (10 : UInt8).toNat = 10 := rfl
        omega
      · split at he <;> simp at he
    | num c rs h h0 hs =>
      have : rs = [] := by cases rs <;> simp at hle ⊢
      subst this
      rw [enc_cons, enc_nil, List.append_nil, encR_asc (digR_lt h)] at he
      have := congrArg UInt8.toNat (List.cons.inj he).1
      rw [toNat_asc (digR_lt h)] at this
      simp only [digR, decide_eq_true_eq] at h
      have : (10 : UInt8).toNat = 10 := rfl
      omega
    | zero => exact absurd he (by decide)
    | hex rs h hs => simp at hle
    | str cs hs => simp at hle
    | mark c h =>
      have hc : c < 128 := by
        simp only [markR, Bool.and_eq_true, decide_eq_true_eq] at h
        omega
      rw [enc_cons, enc_nil, List.append_nil, encR_asc hc] at he
      have := congrArg UInt8.toNat (List.cons.inj he).1
      rw [toNat_asc hc] at this
      have : (10 : UInt8).toNat = 10 := rfl
      omega
    | pair c d k h => simp at hle
  · rintro rfl
    generalize hk : (10 : Int) = k at h
    cases h with
    | mark c h =>
      obtain rfl : c = 10 := by omega
      rfl
    | pair c d k h => have := pairR_kinds h; omega
    | _ => cases hk

/-- The line ahead of the j-th word. -/
def lineAt (ws : List (List Nat × Int)) (j : Nat) : Int := linesR 1 ((ws.take j).map tokW)
theorem lineAt_succ {ws : List (List Nat × Int)} {j : Nat} (h : j < ws.length) : lineAt ws (j + 1) = lineAt ws j + (if ws[j].2 = 10 then 1 else 0 : Nat) := by
  unfold lineAt
  rw [List.take_succ_eq_append_getElem h, List.map_append, linesR_append]
  rfl
theorem lineAt_bd (ws : List (List Nat × Int)) (j : Nat) (hj : j ≤ ws.length) : 1 ≤ lineAt ws j ∧ lineAt ws j ≤ 1 + j := by
  induction j with
  | zero => simp [lineAt, linesR]
  | succ j ih =>
    have := ih (by omega)
    rw [lineAt_succ (by omega)]
    split <;> omega
theorem cellsR_at {ts : List (Int × List Nat × Nat)} : ∀ {li : Int} {j : Nat} {x : Int × List Nat × Nat}, ts[j]? = some x → (cellsR li ts)[j * 3]? = some (.int .i64 x.1) ∧ (cellsR li ts)[j * 3 + 1]? = some (.string (str (enc x.2.1))) ∧ (cellsR li ts)[j * 3 + 2]? = some (.int .i64 (linesR li (ts.take (j + 1)))) := by
  induction ts with
  | nil => intro li j x h; simp at h
  | cons y ts ih =>
    intro li j x h
    cases j with
    | zero =>
      obtain rfl : y = x := by simpa using h
      exact ⟨rfl, rfl, rfl⟩
    | succ j =>
      have h2 := ih (li := li + y.2.2) (j := j) (by simpa using h)
      have e : cellsR li (y :: ts) = [.int .i64 y.1, .string (str (enc y.2.1)), .int .i64 (li + y.2.2)] ++ cellsR (li + y.2.2) ts := rfl
      have e3 : linesR li ((y :: ts).take (j + 1 + 1)) = linesR (li + y.2.2) (ts.take (j + 1)) := rfl
      rw [e, e3]
      refine ⟨?_, ?_, ?_⟩
      · rw [List.getElem?_append_right (by simp; omega), show (j + 1) * 3 - [Value.int .i64 y.1, .string (str (enc y.2.1)), .int .i64 (li + y.2.2)].length = j * 3 by simp; omega]
        exact h2.1
      · rw [List.getElem?_append_right (by simp; omega), show (j + 1) * 3 + 1 - [Value.int .i64 y.1, .string (str (enc y.2.1)), .int .i64 (li + y.2.2)].length = j * 3 + 1 by simp; omega]
        exact h2.2.1
      · rw [List.getElem?_append_right (by simp; omega), show (j + 1) * 3 + 2 - [Value.int .i64 y.1, .string (str (enc y.2.1)), .int .i64 (li + y.2.2)].length = j * 3 + 2 by simp; omega]
        exact h2.2.2

set_option maxHeartbeats 4000000 in
set_option maxRecDepth 10000 in
theorem law_read (ls0 ls1 : List (List UInt8)) (A0 A1 : Option Addr) (c0 c1 n0 n1 : Nat) (q0 : ls0.length = n0) (q1 : ls1.length = n1) (sz : Int) (w : World) (h0 : SlS w A0 c0 ls0) (h1 : SlS w A1 c1 ls1) (hG : GlobI w.heap.size w) :
    Calls Tryd.prog 3 #[.slice A0 n0 c0, .slice A1 n1 c1, .int .i64 sz] w fun e w' => e = .returned (.bool true) ∧ Below w.heap.size w w' := by
  obtain ⟨b0, hb0, hp0⟩ := fits_call ls0
  obtain ⟨b1, hb1, hp1⟩ := fits_call ls1
  rw [q0] at hb0
  rw [q1] at hb1
  have HB0 := Lib.hid (hb0 A0 c0 w h0)
  have HB1 := Lib.hid (hb1 A1 c1)
  have Q0 := Lib.hid q0
  have Q1 := Lib.hid q1
  have HG := Lib.hid hG
  have H0 := Lib.hid h0
  have H1 := Lib.hid h1
  have HP0 := Lib.hid hp0
  have HP1 := Lib.hid hp1
  clear hb0 hb1 hG h0 h1 hp0 hp1 q0 q1
  go_enter Tryd.func3, Tryd.ntmps3
  go_wp2_with (go_at_call 6; refine HB0.out.mono ?_)
  first | rintro e w1 rfl hx1 | rintro e w1 ⟨rfl, hx1⟩
  have X1 := Lib.hid hx1
  clear hx1
  cases b0 with
  | false =>
    go_wp2_with fail
    go_ret
    exact ⟨rfl, X1.out⟩
  | true =>
  have HC1 := Lib.hid (HB1.out _ (H1.out.below X1.out))
  go_wp2_with (go_at_call 6; refine HC1.out.mono ?_)
  first | rintro e w2 rfl hx2 | rintro e w2 ⟨rfl, hx2⟩
  have X2 := Lib.hid (X1.out.trans (hx2.mono X1.out.size))
  clear hx2
  cases b1 with
  | false =>
    go_wp2_with fail
    go_ret
    exact ⟨rfl, X2.out⟩
  | true =>
  obtain ⟨b2, hb2, hp2⟩ := words_call ls0 (HP0.out (by trivial)).1 (HP0.out (by trivial)).2
  rw [Q0.out] at hb2
  have HC2 := Lib.hid (hb2 A0 c0 w2 (H0.out.below X2.out))
  have HP2 := Lib.hid hp2
  clear hb2 hp2
  go_wp2_with (go_at_call 7; refine HC2.out.mono ?_)
  first | rintro e w3 rfl hx3 | rintro e w3 ⟨rfl, hx3⟩
  have X3 := Lib.hid (X2.out.trans (hx3.mono X2.out.size))
  clear hx3
  cases b2 with
  | false =>
    go_wp2_with fail
    go_ret
    exact ⟨rfl, X3.out⟩
  | true =>
  obtain ⟨hn, ws, rfl, hws⟩ := HP2.out (by trivial)
  have hnw : ws.length = n0 := by rw [← encs_len]; exact Q0.out
  have hn2 : n0 ≤ 60 := by rw [← Q0.out]; exact hn
  obtain ⟨b3, hb3, hp3⟩ := gaps_call ls1 (HP1.out (by trivial)).1 (HP1.out (by trivial)).2 n0
  rw [Q1.out] at hb3
  have HNW := Lib.hid hnw
  have HC3 := Lib.hid (hb3 A1 c1 w3 (H1.out.below X3.out))
  have HP3 := Lib.hid hp3
  have HW := Lib.hid hws
  clear hb3 hp3 hws hnw hn
  go_wp2_with (go_at_call 8; refine HC3.out.mono ?_)
  first | rintro e w4 rfl hx4 | rintro e w4 ⟨rfl, hx4⟩
  have X4 := Lib.hid (X3.out.trans (hx4.mono X3.out.size))
  clear hx4
  cases b3 with
  | false =>
    go_wp2_with fail
    go_ret
    exact ⟨rfl, X4.out⟩
  | true =>
  obtain ⟨hg1, gs, rfl, hgs⟩ := HP3.out (by trivial)
  have HGL := Lib.hid (show gs.length = ws.length by rw [List.length_map] at hg1; rw [hg1, HNW.out])
  obtain ⟨b4, hb4, hp4⟩ := plain_call ws HW.out (by rw [HNW.out]; exact hn2)
  rw [Q0.out] at hb4
  have HC4 := Lib.hid (hb4 A0 c0 w4 (H0.out.below X4.out))
  have HP4 := Lib.hid hp4
  have HGS := Lib.hid hgs
  clear hb4 hp4 hgs hg1
  go_wp2_with (go_at_call 9; refine HC4.out.mono ?_)
  first | rintro e w5 rfl hx5 | rintro e w5 ⟨rfl, hx5⟩
  have X5 := Lib.hid (X4.out.trans (hx5.mono X4.out.size))
  clear hx5
  cases b4 with
  | false =>
    go_wp2_with fail
    go_ret
    exact ⟨rfl, X5.out⟩
  | true =>
  by_cases d1 : sz < 1
  · have d1b : decide (sz < 1) = true := decide_eq_true d1
    go_wp2_with fail
    go_ret
    exact ⟨rfl, X5.out⟩
  have d1b : decide (sz < 1) = false := decide_eq_false d1
  by_cases d2 : 100 < sz
  · have d2b : decide (100 < sz) = true := decide_eq_true d2
    have d2c : decide (sz > 100) = true := decide_eq_true d2
    go_wp2_with fail
    go_ret
    exact ⟨rfl, X5.out⟩
  have d2b : decide (100 < sz) = false := decide_eq_false d2
  have d2c : decide (sz > 100) = false := decide_eq_false d2
  have hj : Calls Tryd.prog 11 #[.slice A0 n0 c0, .slice A1 n1 c1] w5 fun e w' => e = .returned (.string (str (enc (chars ws gs)))) ∧ Below w5.heap.size w5 w' := by
    have := joined_call (encs' ws) (gs.map enc) (by rw [Q0.out]; omega) (fun x hx => by
      obtain ⟨y, hy, rfl⟩ := List.mem_map.1 hx
      have := (HW.out y hy).len
      omega) (fun x hx => by
      obtain ⟨y, hy, rfl⟩ := List.mem_map.1 hx
      have := (HGS.out y hy).len
      omega) A0 c0 A1 c1 w5 (H0.out.below X5.out) (H1.out.below X5.out)
    rw [joinB_chars, Q0.out, Q1.out] at this
    exact this
  have HJ := Lib.hid hj
  clear hj
  have HD := Lib.hid (And.intro d1 d2)
  go_wp2_with (go_at_call 11; refine HJ.out.mono ?_)
  first | rintro e w6 rfl hx6 | rintro e w6 ⟨rfl, hx6⟩
  have X6 := Lib.hid (X5.out.trans (hx6.mono X5.out.size))
  clear hx6 d1 d2 d1b d2b d2c
  obtain ⟨m, rfl⟩ : ∃ m : Nat, sz = m := ⟨sz.toNat, by have := HD.out; omega⟩
  have hread : Calls Tryd.prog 10 #[.string (str (enc (chars ws gs))), .int .i64 m] w6 (OutR w6.heap.size w6 n0 (cellsR 1 (ws.map tokW))) := by
    have hcl := chars_len (gs := gs) HW.out HGS.out
    rw [HNW.out] at hcl
    have := impl_read m (by have := HD.out; omega) (by have := HD.out; omega) (chars_toks HW.out HGS.out HGL.out) (chars_ok HW.out HGS.out) (by omega) ((HG.out.below X6.out).lift X6.out.size)
    rw [List.length_map, HNW.out] at this
    exact this
  have HR := Lib.hid hread
  clear hread
  go_wp2_with (go_at_call 10; refine HR.out.mono ?_)
  rintro e w7 ⟨v, rfl, hown, hx7⟩
  obtain ⟨A, c, rfl, hA⟩ := own_slice hown
  have X7 := Lib.hid (X6.out.trans (hx7.mono X6.out.size))
  have HA := Lib.hid hA
  have HOW := Lib.hid hown
  clear hx7 hA hown HB0 HB1 HC1 HC2 HC3 HC4 HP0 HP1 HP2 HP3 HJ HR HG X1 X2 X3 X4 X5 X6
  go_wp2_with fail
  go_loopg [8, 54] (n0 + 1) (fun gk li i wr => ∃ j : Nat, j ≤ n0 ∧ i = .int .i64 j ∧ li = .int .i64 (lineAt ws j) ∧ Below w7.heap.size w7 wr ∧ n0 - j < gk)
  case atStart => exact ⟨0, Nat.zero_le _, rfl, rfl, Below.refl _ _, by omega⟩
  case round =>
    obtain ⟨j, hj, rfl, rfl, hbw, hm⟩ := hrel
    have HBW := Lib.hid hbw
    by_cases hlt : j < n0
    · have hjw : j < ws.length := by rw [HNW.out]; exact hlt
      obtain ⟨g, rfl⟩ := HA.out (by omega)
      obtain ⟨ad, rfl, hce⟩ := ((H0.out.below X7.out).below hbw).cell (by rw [encs_len]; exact hjw)
      obtain ⟨⟨r, k⟩, hxe⟩ : ∃ x, ws[j] = x := ⟨_, rfl⟩
      have hmem : (r, k) ∈ ws := hxe ▸ List.getElem_mem hjw
      have hW := HW.out (r, k) hmem
      have hpl : toldR r = r := told_plain (HP4.out (by trivial) (r, k) hmem)
      have hat : (ws.map tokW)[j]? = some (tokW (r, k)) := by rw [List.getElem?_map, List.getElem?_eq_getElem hjw, hxe]; rfl
      have hline : linesR 1 ((ws.map tokW).take (j + 1)) = lineAt ws (j + 1) := by unfold lineAt; rw [List.map_take]
      have hls := lineAt_succ hjw
      rw [hxe] at hls
      have hbd := lineAt_bd ws j (Nat.le_of_lt hjw)
      obtain ⟨q0, q1, q2⟩ := cellsR_at (li := 1) hat
      rw [hline] at q2
      have e0 : wr.cell? ⟨g, j * 3, none⟩ = some (.int .i64 k) := by
        have := (own_below' HOW.out hbw).cells (g := g) rfl (j * 3) _ q0
        rw [Lib.addr_add, Nat.zero_add] at this
        exact this
      have e1 : wr.cell? ⟨g, j * 3 + 1, none⟩ = some (.string (str (enc r))) := by
        have := (own_below' HOW.out hbw).cells (g := g) rfl (j * 3 + 1) _ q1
        rw [Lib.addr_add, Nat.zero_add] at this
        exact this
      have e2 : wr.cell? ⟨g, j * 3 + 2, none⟩ = some (.int .i64 (lineAt ws (j + 1))) := by
        have := (own_below' HOW.out hbw).cells (g := g) rfl (j * 3 + 2) _ q2
        rw [Lib.addr_add, Nat.zero_add] at this
        exact this
      have ece : (encs' ws)[j]'(by rw [encs_len]; exact hjw) = enc r := by simp [encs', hxe]
      rw [ece] at hce
      have hTO := tokenOf_ok (r, k) hW
      simp only [hpl] at hTO
      have hgl2 : g < wr.heap.size := ((own_below' HOW.out hbw).lt g rfl).2
      have HTO := Lib.hid hTO
      have HGN := Lib.hid hgl2
      have hnl := word_nl hW.word
      have s0 : ((j : Int) < (n0 : Int)) = True := eq_true (by omega)
      have s1 : ((0 : Int) ≤ (j : Int)) = True := eq_true (by omega)
      have E0 := Lib.hid e0
      have E1 := Lib.hid e1
      have E2 := Lib.hid e2
      have HLS := Lib.hid hls
      clear hTO hgl2 hW hpl hat hline q0 q1 q2 hbw hls hmem hxe ece
      by_cases hk : k = 10
      · have t0 : ((str (enc r)).toList == [10]) = true := by rw [hnl.2 hk, str_toList]; rfl
        have t1 : ((str (enc r)).toList != [10]) = false := by rw [bne, t0]; rfl
        have hls2 : lineAt ws (j + 1) = lineAt ws j + 1 := by have := HLS.out; rw [if_pos hk] at this; exact this
        have HK2 := Lib.hid hls2
        have w1 : IntKind.i64.wrap (lineAt ws j + 1) = lineAt ws j + 1 := IntWalk.i64_in _ (by omega)
        clear hls2 hk hnl
        go_wp2_with fail
        refine wp_region_held_drew (S := fun w' => w'.cell? ⟨g, j * 3, none⟩ = some (.int .i64 k) ∧ w'.cell? ⟨g, j * 3 + 1, none⟩ = some (.string (str (enc r)))) (by kernel_rfl) ⟨e0, e1⟩ (fun hHeld => ?_)
        refine wpAnyH_take (i := 0) (oi := ?oi0) (v := ?_) ?ho0 (by kernel_rfl) (by kernel_rfl) (by kernel_rfl) ?hq0 ?hy0 (by assumption) ?rest0
        case ho0 => simp only [List.getElem?_toArray, List.getElem?_cons_zero, List.getElem?_cons_succ]; rfl
        case hq0 => exact fun _ _ _ h => h
        case hy0 => refine Or.inl ⟨by rfl, ?_⟩; intro w hSw; (try dsimp only at hSw); go_simp; all_goals (with_reducible rfl)
        try simp only [Act.put, List.setIfInBounds_toArray, List.set_cons_zero, List.set_cons_succ]
        refine wpAnyH_take (i := 1) (oi := ?oi1) (v := ?_) ?ho1 (by kernel_rfl) (by kernel_rfl) (by kernel_rfl) ?hq1 ?hy1 (by assumption) ?rest1
        case ho1 => simp only [List.getElem?_toArray, List.getElem?_cons_zero, List.getElem?_cons_succ]; rfl
        case hq1 => exact fun _ _ _ h => h
        case hy1 => refine Or.inl ⟨by rfl, ?_⟩; intro w hSw; (try dsimp only at hSw); go_simp; all_goals (with_reducible rfl)
        try simp only [Act.put, List.setIfInBounds_toArray, List.set_cons_zero, List.set_cons_succ]
        refine wpAnyH_take (i := 2) (oi := ?oi2) (v := ?_) ?ho2 (by kernel_rfl) (by kernel_rfl) (by kernel_rfl) ?hq2 ?hy2 (by assumption) ?rest2
        case ho2 => simp only [List.getElem?_toArray, List.getElem?_cons_zero, List.getElem?_cons_succ]; rfl
        case hq2 => exact fun _ _ _ h => h
        case hy2 => refine Or.inl ⟨by rfl, ?_⟩; intro w hSw; (try dsimp only at hSw); go_simp; all_goals (with_reducible rfl)
        try simp only [Act.put, List.setIfInBounds_toArray, List.set_cons_zero, List.set_cons_succ]
        refine wpAnyH_take (i := 3) (oi := ?oi3) (v := ?_) ?ho3 (by kernel_rfl) (by kernel_rfl) (by kernel_rfl) ?hq3 ?hy3 (by assumption) ?rest3
        case ho3 => simp only [List.getElem?_toArray, List.getElem?_cons_zero, List.getElem?_cons_succ]; rfl
        case hq3 => exact fun _ _ _ h => h
        case hy3 => refine Or.inl ⟨by rfl, ?_⟩; intro w hSw; (try dsimp only at hSw); go_simp; all_goals (with_reducible rfl)
        try simp only [Act.put, List.setIfInBounds_toArray, List.set_cons_zero, List.set_cons_succ]
        refine wpAnyH_take (i := 4) (oi := ?oi4) (v := ?_) ?ho4 (by kernel_rfl) (by kernel_rfl) (by kernel_rfl) ?hq4 ?hy4 (by assumption) ?rest4
        case ho4 => simp only [List.getElem?_toArray, List.getElem?_cons_zero, List.getElem?_cons_succ]; rfl
        case hq4 => exact fun _ _ _ h => h
        case hy4 => refine Or.inl ⟨by rfl, ?_⟩; intro w hSw; (try dsimp only at hSw); go_simp; all_goals (with_reducible rfl)
        try simp only [Act.put, List.setIfInBounds_toArray, List.set_cons_zero, List.set_cons_succ]
        refine wpAnyH_take (i := 5) (oi := ?oi5) (v := ?_) ?ho5 (by kernel_rfl) (by kernel_rfl) (by kernel_rfl) ?hq5 ?hy5 (by assumption) ?rest5
        case ho5 => simp only [List.getElem?_toArray, List.getElem?_cons_zero, List.getElem?_cons_succ]; rfl
        case hq5 => exact fun _ _ _ h => h
        case hy5 => refine Or.inl ⟨by rfl, ?_⟩; intro w hSw; (try dsimp only at hSw); go_simp; all_goals (with_reducible rfl)
        try simp only [Act.put, List.setIfInBounds_toArray, List.set_cons_zero, List.set_cons_succ]
        refine wpAnyH_take (i := 6) (oi := ?oi6) (v := ?_) ?ho6 (by kernel_rfl) (by kernel_rfl) (by kernel_rfl) ?hq6 ?hy6 (by assumption) ?rest6
        case ho6 => simp only [List.getElem?_toArray, List.getElem?_cons_zero, List.getElem?_cons_succ]; rfl
        case hq6 => exact fun _ _ _ h => h
        case hy6 => refine Or.inl ⟨by rfl, ?_⟩; intro w hSw; (try dsimp only at hSw); go_simp; all_goals (with_reducible rfl)
        try simp only [Act.put, List.setIfInBounds_toArray, List.set_cons_zero, List.set_cons_succ]
        refine wpAnyH_take (i := 7) (oi := ?oi7) (v := ?_) ?ho7 (by kernel_rfl) (by kernel_rfl) (by kernel_rfl) ?hq7 ?hy7 (by assumption) ?rest7
        case ho7 => simp only [List.getElem?_toArray, List.getElem?_cons_zero, List.getElem?_cons_succ]; rfl
        case hq7 => exact fun _ _ _ h => h
        case hy7 => refine Or.inl ⟨by rfl, ?_⟩; intro w hSw; (try dsimp only at hSw); go_simp; all_goals (with_reducible rfl)
        try simp only [Act.put, List.setIfInBounds_toArray, List.set_cons_zero, List.set_cons_succ]
        refine wpAnyH_take (i := 8) (oi := ?oi8) (v := ?_) ?ho8 (by kernel_rfl) (by kernel_rfl) (by kernel_rfl) ?hq8 ?hy8 (by assumption) ?rest8
        case ho8 => simp only [List.getElem?_toArray, List.getElem?_cons_zero, List.getElem?_cons_succ]; rfl
        case hq8 => exact fun _ _ _ h => h
        case hy8 => refine Or.inl ⟨by rfl, ?_⟩; intro w hSw; (try dsimp only at hSw); go_simp; all_goals (with_reducible rfl)
        try simp only [Act.put, List.setIfInBounds_toArray, List.set_cons_zero, List.set_cons_succ]
        refine wpAnyH_take (i := 9) (oi := ?oi9) (v := ?_) ?ho9 (by kernel_rfl) (by kernel_rfl) (by kernel_rfl) ?hq9 ?hy9 (by assumption) ?rest9
        case ho9 => simp only [List.getElem?_toArray, List.getElem?_cons_zero, List.getElem?_cons_succ]; rfl
        case hq9 => exact fun _ _ _ h => h
        case hy9 => refine Or.inl ⟨by rfl, ?_⟩; intro w hSw; (try dsimp only at hSw); go_simp; all_goals (with_reducible rfl)
        try simp only [Act.put, List.setIfInBounds_toArray, List.set_cons_zero, List.set_cons_succ]
        refine wpAnyH_take (i := 10) (oi := ?oi10) (v := ?_) ?ho10 (by kernel_rfl) (by kernel_rfl) (by kernel_rfl) ?hq10 ?hy10 (by assumption) ?rest10
        case ho10 => simp only [List.getElem?_toArray, List.getElem?_cons_zero, List.getElem?_cons_succ]; rfl
        case hq10 => exact fun _ _ _ h => h
        case hy10 => refine Or.inl ⟨by rfl, ?_⟩; intro w hSw; (try dsimp only at hSw); go_simp; all_goals (with_reducible rfl)
        try simp only [Act.put, List.setIfInBounds_toArray, List.set_cons_zero, List.set_cons_succ]
        refine wpAnyH_take (i := 11) (oi := ?oi11) (v := ?_) ?ho11 (by kernel_rfl) (by kernel_rfl) (by kernel_rfl) ?hq11 ?hy11 (by assumption) ?rest11
        case ho11 => simp only [List.getElem?_toArray, List.getElem?_cons_zero, List.getElem?_cons_succ]; rfl
        case hq11 => exact fun _ _ _ h => h
        case hy11 => refine Or.inl ⟨by rfl, ?_⟩; intro w hSw; (try dsimp only at hSw); go_simp; all_goals (with_reducible rfl)
        try simp only [Act.put, List.setIfInBounds_toArray, List.set_cons_zero, List.set_cons_succ]
        refine wpAnyH_ready (rs := [12]) (by kernel_rfl) (by simp) ?_
        refine AllReadyH.cons (o := ?oc) ?hc ?hk AllReadyH.nil
        case hc => simp only [List.getElem?_toArray, List.getElem?_cons_zero, List.getElem?_cons_succ]; rfl
        intro K hK
        go_simp
        go_at_call 12
        refine (HTO.out _).mono ?_
        rintro e w9 ⟨rfl, hb9⟩
        have u0 := (hb9.cell (p := ⟨g, j * 3, none⟩) HGN.out).trans E0.out
        have u1 := (hb9.cell (p := ⟨g, j * 3 + 1, none⟩) HGN.out).trans E1.out
        have HB9 := Lib.hid hb9
        clear hb9
        (first | go_wp2_with fail | skip)
        refine hK.out _ _ ⟨u0, u1⟩ (fun hHeld => ?_)
        clear hK K
        try simp only [Act.put, List.setIfInBounds_toArray, List.set_cons_zero, List.set_cons_succ]
        refine wpAnyH_take (i := 13) (oi := ?oi13) (v := ?_) ?ho13 (by kernel_rfl) (by kernel_rfl) (by kernel_rfl) ?hq13 ?hy13 (by assumption) ?rest13
        case ho13 => simp only [List.getElem?_toArray, List.getElem?_cons_zero, List.getElem?_cons_succ]; rfl
        case hq13 => exact fun _ _ _ h => h
        case hy13 => refine Or.inl ⟨by rfl, ?_⟩; intro w hSw; (try dsimp only at hSw); go_simp; all_goals (with_reducible rfl)
        try simp only [Act.put, List.setIfInBounds_toArray, List.set_cons_zero, List.set_cons_succ]
        refine wpAnyH_take (i := 14) (oi := ?oi14) (v := ?_) ?ho14 (by kernel_rfl) (by kernel_rfl) (by kernel_rfl) ?hq14 ?hy14 (by assumption) ?rest14
        case ho14 => simp only [List.getElem?_toArray, List.getElem?_cons_zero, List.getElem?_cons_succ]; rfl
        case hq14 => exact fun _ _ _ h => h
        case hy14 => refine Or.inl ⟨by rfl, ?_⟩; intro w hSw; (try dsimp only at hSw); go_simp; all_goals (with_reducible rfl)
        try simp only [Act.put, List.setIfInBounds_toArray, List.set_cons_zero, List.set_cons_succ]
        refine wpAnyH_take (i := 15) (oi := ?oi15) (v := ?_) ?ho15 (by kernel_rfl) (by kernel_rfl) (by kernel_rfl) ?hq15 ?hy15 (by assumption) ?rest15
        case ho15 => simp only [List.getElem?_toArray, List.getElem?_cons_zero, List.getElem?_cons_succ]; rfl
        case hq15 => exact fun _ _ _ h => h
        case hy15 => refine Or.inl ⟨by rfl, ?_⟩; intro w hSw; (try dsimp only at hSw); go_simp; all_goals (with_reducible rfl)
        try simp only [Act.put, List.setIfInBounds_toArray, List.set_cons_zero, List.set_cons_succ]
        refine wpAnyH_take (i := 16) (oi := ?oi16) (v := ?_) ?ho16 (by kernel_rfl) (by kernel_rfl) (by kernel_rfl) ?hq16 ?hy16 (by assumption) ?rest16
        case ho16 => simp only [List.getElem?_toArray, List.getElem?_cons_zero, List.getElem?_cons_succ]; rfl
        case hq16 => exact fun _ _ _ h => h
        case hy16 => refine Or.inl ⟨by rfl, ?_⟩; intro w hSw; (try dsimp only at hSw); go_simp; all_goals (with_reducible rfl)
        try simp only [Act.put, List.setIfInBounds_toArray, List.set_cons_zero, List.set_cons_succ]
        refine wpAnyH_take (i := 17) (oi := ?oi17) (v := ?_) ?ho17 (by kernel_rfl) (by kernel_rfl) (by kernel_rfl) ?hq17 ?hy17 (by assumption) ?rest17
        case ho17 => simp only [List.getElem?_toArray, List.getElem?_cons_zero, List.getElem?_cons_succ]; rfl
        case hq17 => exact fun _ _ _ h => h
        case hy17 => refine Or.inl ⟨by rfl, ?_⟩; intro w hSw; (try dsimp only at hSw); go_simp; all_goals (with_reducible rfl)
        try simp only [Act.put, List.setIfInBounds_toArray, List.set_cons_zero, List.set_cons_succ]
        refine wpAnyH_take (i := 18) (oi := ?oi18) (v := undef) ?ho18 (by kernel_rfl) (by kernel_rfl) (by kernel_rfl) ?hq18 ?hy18 (by assumption) ?rest18
        case ho18 => simp only [List.getElem?_toArray, List.getElem?_cons_zero, List.getElem?_cons_succ]; rfl
        case hq18 => exact fun _ _ _ h => h
        case hy18 => exact Or.inr ⟨by rfl, rfl⟩
        try simp only [Act.put, List.setIfInBounds_toArray, List.set_cons_zero, List.set_cons_succ]
        refine wpAnyH_take (i := 19) (oi := ?oi19) (v := undef) ?ho19 (by kernel_rfl) (by kernel_rfl) (by kernel_rfl) ?hq19 ?hy19 (by assumption) ?rest19
        case ho19 => simp only [List.getElem?_toArray, List.getElem?_cons_zero, List.getElem?_cons_succ]; rfl
        case hq19 => exact fun _ _ _ h => h
        case hy19 => exact Or.inr ⟨by rfl, rfl⟩
        try simp only [Act.put, List.setIfInBounds_toArray, List.set_cons_zero, List.set_cons_succ]
        refine wpAnyH_take (i := 20) (oi := ?oi20) (v := undef) ?ho20 (by kernel_rfl) (by kernel_rfl) (by kernel_rfl) ?hq20 ?hy20 (by assumption) ?rest20
        case ho20 => simp only [List.getElem?_toArray, List.getElem?_cons_zero, List.getElem?_cons_succ]; rfl
        case hq20 => exact fun _ _ _ h => h
        case hy20 => exact Or.inr ⟨by rfl, rfl⟩
        try simp only [Act.put, List.setIfInBounds_toArray, List.set_cons_zero, List.set_cons_succ]
        refine wpAnyH_take (i := 21) (oi := ?oi21) (v := undef) ?ho21 (by kernel_rfl) (by kernel_rfl) (by kernel_rfl) ?hq21 ?hy21 (by assumption) ?rest21
        case ho21 => simp only [List.getElem?_toArray, List.getElem?_cons_zero, List.getElem?_cons_succ]; rfl
        case hq21 => exact fun _ _ _ h => h
        case hy21 => exact Or.inr ⟨by rfl, rfl⟩
        try simp only [Act.put, List.setIfInBounds_toArray, List.set_cons_zero, List.set_cons_succ]
        refine wpAnyH_take (i := 22) (oi := ?oi22) (v := undef) ?ho22 (by kernel_rfl) (by kernel_rfl) (by kernel_rfl) ?hq22 ?hy22 (by assumption) ?rest22
        case ho22 => simp only [List.getElem?_toArray, List.getElem?_cons_zero, List.getElem?_cons_succ]; rfl
        case hq22 => exact fun _ _ _ h => h
        case hy22 => exact Or.inr ⟨by rfl, rfl⟩
        try simp only [Act.put, List.setIfInBounds_toArray, List.set_cons_zero, List.set_cons_succ]
        refine wpAnyH_take (i := 23) (oi := ?oi23) (v := undef) ?ho23 (by kernel_rfl) (by kernel_rfl) (by kernel_rfl) ?hq23 ?hy23 (by assumption) ?rest23
        case ho23 => simp only [List.getElem?_toArray, List.getElem?_cons_zero, List.getElem?_cons_succ]; rfl
        case hq23 => exact fun _ _ _ h => h
        case hy23 => exact Or.inr ⟨by rfl, rfl⟩
        try simp only [Act.put, List.setIfInBounds_toArray, List.set_cons_zero, List.set_cons_succ]
        refine wpAnyH_take (i := 24) (oi := ?oi24) (v := undef) ?ho24 (by kernel_rfl) (by kernel_rfl) (by kernel_rfl) ?hq24 ?hy24 (by assumption) ?rest24
        case ho24 => simp only [List.getElem?_toArray, List.getElem?_cons_zero, List.getElem?_cons_succ]; rfl
        case hq24 => exact fun _ _ _ h => h
        case hy24 => exact Or.inr ⟨by rfl, rfl⟩
        try simp only [Act.put, List.setIfInBounds_toArray, List.set_cons_zero, List.set_cons_succ]
        refine wpAnyH_take (i := 25) (oi := ?oi25) (v := ?_) ?ho25 (by kernel_rfl) (by kernel_rfl) (by kernel_rfl) ?hq25 ?hy25 (by assumption) ?rest25
        case ho25 => simp only [List.getElem?_toArray, List.getElem?_cons_zero, List.getElem?_cons_succ]; rfl
        case hq25 => exact fun _ _ _ h => h
        case hy25 => refine Or.inl ⟨by rfl, ?_⟩; intro w hSw; (try dsimp only at hSw); go_simp; all_goals (with_reducible rfl)
        try simp only [Act.put, List.setIfInBounds_toArray, List.set_cons_zero, List.set_cons_succ]
        refine wpAnyH_take (i := 26) (oi := ?oi26) (v := ?_) ?ho26 (by kernel_rfl) (by kernel_rfl) (by kernel_rfl) ?hq26 ?hy26 (by assumption) ?rest26
        case ho26 => simp only [List.getElem?_toArray, List.getElem?_cons_zero, List.getElem?_cons_succ]; rfl
        case hq26 => exact fun _ _ _ h => h
        case hy26 => refine Or.inl ⟨by rfl, ?_⟩; intro w hSw; (try dsimp only at hSw); go_simp; all_goals (with_reducible rfl)
        try simp only [Act.put, List.setIfInBounds_toArray, List.set_cons_zero, List.set_cons_succ]
        refine wpAnyH_done (by kernel_rfl) ?_ _
        go_wp2_with fail
        go_roundg (n0 - j)
        case measure => omega
        case rel =>
          exact ⟨j + 1, hlt, rfl, by rw [HK2.out], HBW.out.trans (Below.mono ⟨HB9.out.os, HB9.out.tape, HB9.out.output, HB9.out.size, HB9.out.block⟩ HBW.out.size), by omega⟩
      · have t0 : ((str (enc r)).toList == [10]) = false := by
          apply beq_eq_false_iff_ne.2
          intro h
          exact hk (hnl.1 (by simpa [str] using h))
        have t1 : ((str (enc r)).toList != [10]) = true := by rw [bne, t0]; rfl
        have hls2 : lineAt ws (j + 1) = lineAt ws j := by have := HLS.out; rw [if_neg hk] at this; simpa using this
        rw [hls2] at e2 E2
        have HK2 := Lib.hid hls2
        clear hls2 hk hnl
        go_wp2_with fail
        go_region_held3 (fun w' => w'.cell? ⟨g, j * 3, none⟩ = some (.int .i64 k) ∧ w'.cell? ⟨g, j * 3 + 1, none⟩ = some (.string (str (enc r))) ∧ w'.cell? ⟨g, j * 3 + 2, none⟩ = some (.int .i64 (lineAt ws j)))
          (go_keep)
          (first
            | (go_at_call 12; refine (HTO.out _).mono ?_; rintro e w9 ⟨rfl, hb9⟩; have u0 := (hb9.cell (p := ⟨g, j * 3, none⟩) HGN.out).trans E0.out; have u1 := (hb9.cell (p := ⟨g, j * 3 + 1, none⟩) HGN.out).trans E1.out; have u2 := (hb9.cell (p := ⟨g, j * 3 + 2, none⟩) HGN.out).trans E2.out; have HB9 := Lib.hid hb9; clear hb9))
        go_wp2_with fail
        go_roundg (n0 - j)
        case measure => omega
        case rel =>
          exact ⟨j + 1, hlt, rfl, by rw [HK2.out], HBW.out.trans (Below.mono ⟨HB9.out.os, HB9.out.tape, HB9.out.output, HB9.out.size, HB9.out.block⟩ HBW.out.size), by omega⟩
    · have s0 : ((j : Int) < (n0 : Int)) = False := eq_false (by omega)
      go_wp2_with fail
      go_ret
      exact ⟨rfl, X7.out.trans (HBW.out.mono X7.out.size)⟩
end Go.Proofs.YtmeihdlkadjoeaaDoor
