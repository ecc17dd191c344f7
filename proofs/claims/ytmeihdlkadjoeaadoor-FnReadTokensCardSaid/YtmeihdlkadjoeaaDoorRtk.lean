/- impl.ReadTokens. -/
import Derived.Test.YtmeihdlkadjoeaaDoorMF
namespace Go.Proofs.YtmeihdlkadjoeaaDoor
open Go.RowKit Go.Proofs.YtmeihdlkadjoeaaDoorW.PrintWords
set_option linter.unusedVariables false
set_option linter.unusedSimpArgs false

theorem tz_line {B S R T : Nat} {w : World} {s : Sc} {line k : Int} (hz : Tz B S R T w s line k) :
    Calls Tryd.prog 22 #[.pointer (some ⟨T, 0, none⟩)] w fun e w' => e = .returned (.int .i64 line) ∧ w = w' := by
  have c3 := hz.facts.2.2.1
  clear hz
  go_enter Tryd.func22, Tryd.ntmps22
  go_wp2_with fail
  go_ret
  exact ⟨rfl, rfl⟩

theorem info_ptok : (Tryd.prog.info? 29).map (fun i => (i.zero, i.size, i.bytes)) = some (some (.agg #[.int .i64 0, .string ⟨#[]⟩, .int .i64 0]), 3, 32) := by kernel_rfl

/-- The tokens with the lines on which they end. -/
def cellsR : Int → List (Int × List Nat × Nat) → List Value
  | _, [] => []
  | li, x :: ts => .int .i64 x.1 :: .string (str (enc x.2.1)) :: .int .i64 (li + x.2.2) :: cellsR (li + x.2.2) ts
def linesR : Int → List (Int × List Nat × Nat) → Int
  | li, [] => li
  | li, x :: ts => linesR (li + x.2.2) ts
theorem cellsR_append (li : Int) (a b : List (Int × List Nat × Nat)) : cellsR li (a ++ b) = cellsR li a ++ cellsR (linesR li a) b := by
  induction a generalizing li with
  | nil => rfl
  | cons x a ih => simp [cellsR, linesR, ih]
theorem linesR_append (li : Int) (a b : List (Int × List Nat × Nat)) : linesR li (a ++ b) = linesR (linesR li a) b := by
  induction a generalizing li with
  | nil => rfl
  | cons x a ih => simp [linesR, ih]

theorem cell_three_new (w : World) (a b c : Value) (t : TypeId) : ∀ j u, [a, b, c][j]? = some u → (w.alloc (.cells #[a, b, c] t)).cell? ((⟨w.heap.size, 0, none⟩ : Addr).add j) = some u := by
  intro j u hj
  rw [Lib.addr_add, Nat.zero_add, Lib.cell_of_heap (heap_new w _) j]
  simpa using hj

def OutR (B : Nat) (w : World) (n : Nat) (cs : List Value) (e : Ending) (w' : World) : Prop := ∃ v, e = .returned v ∧ w'.ownsRow B 29 3 v n cs ∧ Below w.heap.size w w'

set_option maxHeartbeats 1000000 in
set_option maxRecDepth 10000 in
theorem impl_read {w : World} {l : List Nat} {ts : List (Int × List Nat × Nat)} (sz : Nat) (hs1 : 1 ≤ sz) (hs2 : sz ≤ 100) (hT : Toks l ts) (hok : ∀ c ∈ l, okR c) (hl : (enc l).length ≤ 1000000) (hG : GlobI w.heap.size w) :
    Calls Tryd.prog 10 #[.string (str (enc l)), .int .i64 sz] w (OutR w.heap.size w ts.length (cellsR 1 ts)) := by
  have hlen := len_enc l
  have htl := hT.len
  have hrg := hT.range
  have HT := Lib.hid hT
  have HO := Lib.hid hok
  have HG := Lib.hid hG
  clear hT hok hG
  obtain ⟨i0, hi0, hz0, hz1, hz2⟩ := info_parts info_ptok
  go_enter Tryd.func10, Tryd.ntmps10
  have hR : RdAt (w.alloc (.cells #[.string (str (enc l)), .int .i64 sz] 43)) w.heap.size (.iface 41 (.pointer (some ⟨w.heap.size, 0, none⟩))) (enc l) :=
    .pieces (str (enc l)) sz (heap_new _ _) hs1 hs2 hl
  have hNT := Lib.hid fun nm => newTokenizer (B := w.heap.size) nm hR (Nat.le_refl _) (HG.out.below ((Below.refl _ _).alloc (Nat.le_refl _) _)) HO.out hl (by simp)
  clear hR
  go_wp2_with (go_at_call 19; refine (hNT.out _).mono ?_)
  rintro e w2 ⟨S, T, s, rfl, hz, hi, hb⟩
  have hB2 : w.heap.size ≤ w2.heap.size := Nat.le_trans (by simp) hb.size
  have hbw : Below w.heap.size w w2 := ((Below.refl _ _).alloc (Nat.le_refl _) _).trans (hb.mono (by simp))
  have HZ := Lib.hid hz
  have HI := Lib.hid hi
  have HB := Lib.hid hbw
  clear hz hi hb hbw hNT
  have hsz : (str (enc l)).size = (enc l).length := rfl
  have hl1 : ((enc l).length : Int) + 1 < 9223372036854775808 := by omega
  go_wp2_with fail
  go_loopg [6, 18] (l.length + 1) (fun gk v i wr => ∃ (l' : List Nat) (ts0 ts' : List (Int × List Nat × Nat)) (s' : Sc) (line tok : Int), Tz w.heap.size S w.heap.size T wr s' line tok ∧ Idle w.heap.size S w.heap.size wr s' l' ∧ Toks l' ts' ∧ Hid (ts = ts0 ++ ts') ∧ Hid (line = linesR 1 ts0) ∧ i = .int .i64 ts0.length ∧
    wr.ownsRow w.heap.size 29 3 v ts0.length (cellsR 1 ts0) ∧ Below w.heap.size w wr ∧ w.heap.size ≤ wr.heap.size ∧ 0 ≤ line ∧ line + l'.length ≤ 4000000 ∧ ts0.length + l'.length ≤ l.length ∧ l' <:+ l ∧ l'.length < gk)
  case atStart =>
    have ha : Below w2.heap.size w2 (w2.alloc (.cells #[] 29)) := (Below.refl _ _).alloc (Nat.le_refl _) _
    exact ⟨l, [], ts, s, 1, 0, HZ.out.below ha hB2, HI.out.below ha, HT.out, Lib.hid rfl, Lib.hid rfl, rfl, World.ownsRow_made w2 #[] 0 hB2 (by decide) rfl, HB.out.trans (ha.mono hB2), Nat.le_trans hB2 ha.size, by omega, by omega, by simp, List.suffix_refl _, Nat.lt_succ_self _⟩
  case round =>
    clear HZ HI HB HT HG
    obtain ⟨l', ts0, ts', s', line, tok, hz, hi, ht, hts, hln, rfl, hown, hbw, hBr, hp0, hpl, hcnt, hsuf, hk⟩ := hrel
    have hok' := suffix_ok hsuf HO.out
    have hl' := Nat.le_trans (suffix_enc hsuf) hl
    have c1 : (ts0.length : Int) < (enc l).length + 1 := by omega
    cases ht with
    | @nil _ n h =>
      have HN := Lib.hid (tz_next h hz hi hok' hl' hp0 hpl)
      have HTY := Lib.hid (hi.types hz)
      have HOW := Lib.hid hown
      have HBW := Lib.hid hbw
      clear hz hi hok' hl' hown hbw h
      go_wp2_with (go_at_call 20; refine HN.out.mono ?_)
      first | rintro e w3 rfl s3 z3 sd3 f3 | rintro e w3 ⟨rfl, s3, z3, sd3, f3⟩
      have F3 := Lib.hid f3
      clear z3 sd3 f3
      go_wp2_with fail
      go_ret
      have e1 := hts.out
      rw [List.append_nil] at e1
      subst e1
      exact ⟨_, rfl, own_frT HOW.out F3.out HTY.out rfl, HBW.out.trans F3.out.1⟩
    | @cons _ k t n rest ts1 h hk1 hs =>
      have hsx := h.suffix
      have htx := h.text
      have htk : ∀ x ∈ t, okR x := fun x hx => hok' x (htx.1 x hx)
      have htl : (enc t).length ≤ 1000000 := Nat.le_trans htx.2.1 hl'
      have hkr := h.range
      have q1 : IntKind.i64.wrap k = k := IntWalk.i64_in _ (by omega)
      have HN := Lib.hid (tz_next h hz hi hok' hl' hp0 hpl)
      have HTY := Lib.hid (hi.types hz)
      have HOW := Lib.hid hown
      have HBW := Lib.hid hbw
      have g1 : (k == -1) = false := by simpa using hk1
      have HTL := Lib.hid (h.len hk1)
      have HS := Lib.hid hs
      have HSX := Lib.hid hsx
      have HTX := Lib.hid htx
      have HSU := Lib.hid hsuf
      clear hz hi hok' hl' hown hbw h hk1 hs hsx htx htk htl hsuf hkr
      go_wp2_with (go_at_call 20; refine HN.out.mono ?_)
      first | rintro e w3 rfl s3 z3 sd3 f3 | rintro e w3 ⟨rfl, s3, z3, sd3, f3⟩
      have HTXT := Lib.hid (tz_text z3 sd3)
      have T3 := Lib.hid (sd3.idle.types z3)
      have F3 := Lib.hid f3
      clear z3 sd3 f3 HN
      go_wp2_with (go_at_call 21; refine HTXT.out.mono ?_)
      first | rintro e w4 rfl s4 z4 sd4 f4 | rintro e w4 ⟨rfl, s4, z4, sd4, f4⟩
      have HLN := Lib.hid (tz_line z4)
      have Z4 := Lib.hid z4
      have I4 := Lib.hid sd4.idle
      have F4 := Lib.hid f4
      clear z4 sd4 f4 HTXT
      go_wp2_with (go_at_call 22; refine HLN.out.mono ?_)
      first | rintro e w5 rfl rfl | rintro e w5 ⟨rfl, rfl⟩
      have hB3 : w.heap.size ≤ w3.heap.size := Nat.le_trans hBr F3.out.1.size
      have hB4 : w.heap.size ≤ w4.heap.size := Nat.le_trans hB3 F4.out.1.size
      have O5 := Lib.hid (own_frT (own_frT HOW.out F3.out HTY.out rfl) F4.out T3.out rfl)
      have hbd : ts0.length + 1 ≤ 2000000 := by omega
      go_wp2_with (at_builtin; refine wpList_append_own_wide _ rfl (.tmp 25) (.tmp 33) 25 rfl w.heap.size 29 i0 (.agg #[.int .i64 0, .string ⟨#[]⟩, .int .i64 0]) 3 32 Tryd.underlying25 hi0 hz0 hz1 hz2 rfl (by decide) _ _ _ rfl (O5.out.alloc _) ⟨w4.heap.size, 0, none⟩ 1 1 [.int .i64 k, .string (str (enc t)), .int .i64 (line + n)] rfl rfl (cell_three_new _ _ _ _ _) (by intro u hu; simp at hu; rcases hu with rfl | rfl | rfl <;> rfl) (by unfold maxLen; omega) (by omega) (by simp; omega) ?_; intro v6 w6 hown6 hgrow6 hnil6)
      have OW6 := Lib.hid hown6
      have GR6 := Lib.hid hgrow6
      clear hown6 hgrow6 hnil6
      go_wp2_with fail
      go_roundg (rest.length + 1)
      case measure =>
        have h1 := HSX.out.1.length_le
        have h2 := HTX.out.2.2
        have h3 : 1 ≤ t.length := HTL.out
        omega
      case rel =>
        have kE : KeptE 29 w.heap.size w4 w6 := ((KeptE.below ((Below.refl _ _).alloc (Nat.le_refl _) _) hB4).trans (KeptE.grown (O5.out.alloc _) GR6.out (by simp; omega)))
        have h1 := HSX.out.2
        have h2 := HTX.out.2.2
        have h3 : 1 ≤ t.length := HTL.out
        have hB6 : w.heap.size ≤ w6.heap.size := Nat.le_trans hB4 kE.1.size
        refine ⟨rest, ts0 ++ [(k, t, n)], ts1, s4, line + n, k, Z4.out.keptE kE rfl, I4.out.keptE kE rfl, HS.out, Lib.hid (by rw [hts.out]; simp), Lib.hid (by rw [linesR_append, ← hln.out]; rfl), by simp, ?_, (HBW.out.trans F3.out.1).trans (F4.out.1.trans kE.1), hB6, by omega, by omega, by simp; omega, HSX.out.1.trans HSU.out, Nat.lt_succ_self _⟩
        have := OW6.out
        rw [cellsR_append, ← hln.out]
        simpa [cellsR] using this
end Go.Proofs.YtmeihdlkadjoeaaDoor
