/- SameTokens, tokensOf: at tokens that lie in memory. -/
import Derived.Test.YtmeihdlkadjoeaaGreatDoorPlt
import Derived.Test.YtmeihdlkadjoeaaGreatDoorPFnTokensBlockx9
import Derived.Deep.RegionWith
namespace Go.Proofs.YtmeihdlkadjoeaaGreatDoor
open Go.RowKit Go.Proofs.YtmeihdlkadjoeaaGreatDoorW.PrintWords
set_option linter.unusedVariables false
set_option linter.unusedSimpArgs false

theorem flatP_at {ts : List (Int × List Nat)} {j : Nat} {x : Int × List Nat} (h : ts[j]? = some x) : (ts.flatMap cellsP)[j * 2]? = some (.int .i64 x.1) ∧ (ts.flatMap cellsP)[j * 2 + 1]? = some (.string (str (enc (toldR x.2)))) := by
  induction ts generalizing j with
  | nil => simp at h
  | cons y ts ih =>
    cases j with
    | zero =>
      obtain rfl : y = x := by simpa using h
      exact ⟨rfl, rfl⟩
    | succ j =>
      have h2 := ih (j := j) (by simpa using h)
      have e : (y :: ts).flatMap cellsP = cellsP y ++ ts.flatMap cellsP := by simp
      have l2 : (cellsP y).length = 2 := rfl
      rw [e]
      refine ⟨?_, ?_⟩
      · rw [List.getElem?_append_right (by omega), l2, show (j + 1) * 2 - 2 = j * 2 by omega]
        exact h2.1
      · rw [List.getElem?_append_right (by omega), l2, show (j + 1) * 2 + 1 - 2 = j * 2 + 1 by omega]
        exact h2.2

set_option maxHeartbeats 1000000 in
set_option maxRecDepth 10000 in
/-- Two rows that hold the same tokens. -/
theorem same_ok {w : World} {B1 B2 : Nat} {A1 A2 : Option Addr} {c1 c2 n : Nat} {ts : List (Int × List Nat)} (hn : ts.length = n) (hn2 : n ≤ 1000000) (h1 : w.ownsRow B1 35 2 (.slice A1 n c1) n (ts.flatMap cellsP)) (h2 : w.ownsRow B2 35 2 (.slice A2 n c2) n (ts.flatMap cellsP)) :
    Calls Tryz.prog 11 #[.slice A1 n c1, .slice A2 n c2] w fun e w' => e = .returned (.bool true) ∧ Below w.heap.size w w' := by
  have HN := Lib.hid hn
  have H1 := Lib.hid h1
  have H2 := Lib.hid h2
  clear hn h1 h2
  have G1 : Hid (0 < n → ∃ g, A1 = some ⟨g, 0, none⟩) := Lib.hid (fun h => by
    obtain ⟨A, c, e, hA⟩ := own_slice H1.out
    cases e
    exact hA h)
  have G2 : Hid (0 < n → ∃ g, A2 = some ⟨g, 0, none⟩) := Lib.hid (fun h => by
    obtain ⟨A, c, e, hA⟩ := own_slice H2.out
    cases e
    exact hA h)
  go_enter Tryz.func11, Tryz.ntmps11
  go_wp2_with fail
  go_loopg [14] (n + 1) (fun gk i wr => ∃ j : Nat, j ≤ n ∧ i = .int .i64 j ∧ Below w.heap.size w wr ∧ n - j < gk)
  case atStart => exact ⟨0, Nat.zero_le _, rfl, Below.refl _ _, by omega⟩
  case round =>
    obtain ⟨j, hj, rfl, hbw, hm⟩ := hrel
    have HBW := Lib.hid hbw
    by_cases hlt : j < n
    · obtain ⟨g1, rfl⟩ := G1.out (by omega)
      obtain ⟨g2, rfl⟩ := G2.out (by omega)
      have hx : ts[j]? = some (ts[j]'(by have := HN.out; omega)) := List.getElem?_eq_getElem _
      obtain ⟨⟨k, t⟩, hxe⟩ : ∃ x, (ts[j]'(by have := HN.out; omega)) = x := ⟨_, rfl⟩
      rw [hxe] at hx
      obtain ⟨q1, q2⟩ := flatP_at hx
      have o1 := own_below' H1.out hbw
      have o2 := own_below' H2.out hbw
      have e1 : wr.cell? ⟨g1, j * 2, none⟩ = some (.int .i64 k) := by
        have := o1.cells (g := g1) rfl (j * 2) _ q1
        rw [Lib.addr_add, Nat.zero_add] at this
        exact this
      have e2 : wr.cell? ⟨g1, j * 2 + 1, none⟩ = some (.string (str (enc (toldR t)))) := by
        have := o1.cells (g := g1) rfl (j * 2 + 1) _ q2
        rw [Lib.addr_add, Nat.zero_add] at this
        exact this
      have d1 : wr.cell? ⟨g2, j * 2, none⟩ = some (.int .i64 k) := by
        have := o2.cells (g := g2) rfl (j * 2) _ q1
        rw [Lib.addr_add, Nat.zero_add] at this
        exact this
      have d2 : wr.cell? ⟨g2, j * 2 + 1, none⟩ = some (.string (str (enc (toldR t)))) := by
        have := o2.cells (g := g2) rfl (j * 2 + 1) _ q2
        rw [Lib.addr_add, Nat.zero_add] at this
        exact this
      have hg2 : g2 < wr.heap.size := (o2.lt g2 rfl).2
      have cl : (j : Int) < (n : Int) := by omega
      have w1 : IntKind.i64.wrap ((j : Int) + 1) = (j : Int) + 1 := IntWalk.i64_in _ (by omega)
      clear o1 o2 q1 q2 hx hxe hbw
      go_wp2_with fail
      have a0 : (wr.alloc (.cells #[.int .i64 k, .string (str (enc (toldR t)))] 35)).cell? ⟨wr.heap.size, 0, none⟩ = some (.int .i64 k) := Lib.cell_of_heap (heap_new _ _) 0
      have a1 : (wr.alloc (.cells #[.int .i64 k, .string (str (enc (toldR t)))] 35)).cell? ⟨wr.heap.size, 1, none⟩ = some (.string (str (enc (toldR t)))) := Lib.cell_of_heap (heap_new _ _) 1
      have hal : Below wr.heap.size wr (wr.alloc (.cells #[.int .i64 k, .string (str (enc (toldR t)))] 35)) := (Below.refl _ _).alloc (Nat.le_refl _) _
      have f1 := (hal.cell (p := ⟨g2, j * 2, none⟩) hg2).trans d1
      have f2 := (hal.cell (p := ⟨g2, j * 2 + 1, none⟩) hg2).trans d2
      have HB2 := Lib.hid (HBW.out.trans (hal.mono HBW.out.size))
      clear d1 d2 e1 e2 hal
      generalize wr.alloc (.cells #[.int .i64 k, .string (str (enc (toldR t)))] 35) = W at a0 a1 f1 f2 HB2 ⊢
      go_region
      go_wp2_with fail
      go_roundg (n - j)
      case measure => omega
      case rel => exact ⟨j + 1, hlt, rfl, by first | exact HB2.out | exact HB2.out.drew | exact HB2.out.drewN _, by omega⟩
    · have cl : ¬ (j : Int) < (n : Int) := by omega
      go_wp2_with fail
      go_ret
      exact ⟨rfl, HBW.out⟩

/-- The reference's tokens of some words. -/
theorem tokensOf_ev (ws : List (List Nat × Int)) (hw : ∀ w ∈ ws, WordT w) (hl : ws.length ≤ 60) : Ev (fun k => PFnTokensBlock.laws_tokensOf.f k (strs (encs' ws))) (ws.map fun x => (⟨x.2, str (enc (toldR x.1))⟩ : PFnTokensBlock.S35)) := by
  have hlen : (encs' ws).length = ws.length := encs_len ws
  have loop : ∀ d i, i ≤ ws.length → ws.length - i ≤ d → ∀ acc : List PFnTokensBlock.S35, acc.length ≤ i → Ev (fun k => PFnTokensBlock.laws_tokensOf.l0 k acc (strs (encs' ws)) (ws.length : Int) (i : Int)) (acc ++ (ws.drop i).map fun x => (⟨x.2, str (enc (toldR x.1))⟩ : PFnTokensBlock.S35)) := by
    intro d
    induction d with
    | zero =>
      intro i hi hd acc ha
      refine Ev.step (f := fun _ => some acc) (fun k => ?_) ?_
      · simp only [PFnTokensBlock.laws_tokensOf.l0]
        rw [if_neg (by omega)]
      · rw [List.drop_eq_nil_of_le (by omega), List.map_nil, List.append_nil]
        exact Ev.now _
    | succ d ih =>
      intro i hi hd acc ha
      by_cases hlt : i < ws.length
      · have hdr : ws.drop i = ws[i] :: ws.drop (i + 1) := List.drop_eq_getElem_cons hlt
        have hwi := hw ws[i] (List.getElem_mem _)
        have hrd : rdOf ByteArray.empty (strs (encs' ws)) (i : Int) = str (enc ws[i].1) := by
          rw [rdOf_strs _ _ (by rw [hlen]; exact hlt)]
          simp [encs']
        have hk : Ev (fun k => PFnTokensBlock.spec_TokenOf.f k (str (enc ws[i].1))) (ws[i].2, str (enc (toldR ws[i].1))) := by
          have ht := told_ev ws[i].1 hwi.ok (by have := hwi.len; omega)
          refine Ev.congr (f := fun k => (PFnTokensBlock.spec_KindOf.f k (str (enc ws[i].1))).bind fun t167 => ((PFnTokensBlock.spec_Told.f k (str (enc ws[i].1))).bind fun t168 => (some (t167, t168)))) (fun k => rfl) ?_
          exact Ev.bind hwi.kind (Ev.bind ht (Ev.now _))
        have h1 := ih (i + 1) hlt (by omega) (acc ++ [(⟨ws[i].2, str (enc (toldR ws[i].1))⟩ : PFnTokensBlock.S35)]) (by simp; omega)
        rw [List.append_assoc] at h1
        rw [hdr, List.map_cons]
        refine Ev.step (f := fun k => (PFnTokensBlock.spec_TokenOf.f k (str (enc ws[i].1))).bind fun bt193 => (if acc.length < 5864062014805 then (PFnTokensBlock.laws_tokensOf.l0 k (acc ++ [(⟨bt193.1, bt193.2⟩ : PFnTokensBlock.S35)]) (strs (encs' ws)) (ws.length : Int) ((i + 1 : Nat) : Int)) else none)) (fun k => ?_) (Ev.bind hk (Ev.congr (fun k => by rw [if_pos (by omega)]) h1))
        simp only [PFnTokensBlock.laws_tokensOf.l0]
        rw [if_pos (by omega), if_pos (by omega), if_pos (by rw [strs_length, hlen]; omega), hrd, w64 (by omega) (by omega)]
        rfl
      · exact ih i hi (by omega) acc ha
  have := loop ws.length 0 (by omega) (by omega) [] (by simp)
  rw [List.nil_append, List.drop_zero] at this
  exact Ev.congr (fun k => by unfold PFnTokensBlock.laws_tokensOf.f; rw [strs_length, hlen]; rfl) this

theorem tokensOf_ok (ws : List (List Nat × Int)) (hw : ∀ w ∈ ws, WordT w) (hl : ws.length ≤ 60) (A : Option Addr) (c : Nat) (w : World) (h : SlS w A c (encs' ws)) :
    Calls Tryz.prog 14 #[.slice A ws.length c] w (OutI w.heap.size w ws.length ((ws.map tokW).flatMap cellsI)) := by
  obtain ⟨k, hk⟩ := (tokensOf_ev ws hw hl).rounds
  have h2 := PFnTokensBlock.laws_tokensOf.calls k A c (strs (encs' ws)) _ w h.1 (by rw [strs_length]; exact h.2) hk
  rw [strs_length, encs_len] at h2
  refine h2.mono fun e w' ⟨v, he, hR, hb⟩ => ?_
  obtain ⟨_, inner, ho, hr⟩ := hR
  have hi : inner = (ws.map tokW).flatMap cellsI := by
    have gen : ∀ (xs : List (List Nat × Int)) (inner : List Value), Reps (PFnTokensBlock.k35.M w' w.heap.size (fun k => True ∧ some k ≠ v.ownBlock)) 2 (xs.map fun x => (⟨x.2, str (enc (toldR x.1))⟩ : PFnTokensBlock.S35)) inner → inner = (xs.map tokW).flatMap cellsI := by
      intro xs
      induction xs with
      | nil => intro inner h; have := h.1; simpa using this
      | cons x xs ih =>
        intro inner h
        have h0 := h.2 0 _ rfl
        have e0 := PFnTokensBlock.k35_openM h0
        have hlen := h.1
        have h3 := ih (inner.drop 2) ⟨by rw [List.length_drop, hlen]; simp; omega, fun j p hp => by
          have := h.2 (j + 1) p (by simpa using hp)
          rw [List.drop_drop, show 2 + j * 2 = (j + 1) * 2 by omega]
          exact this⟩
        have e1 : inner = inner.take 2 ++ inner.drop 2 := (List.take_append_drop 2 inner).symm
        rw [e1, h3]
        have e2 : inner.take 2 = cellsI (tokW x) := by simpa [cellsI, tokW] using e0
        rw [e2]
        simp
    exact gen ws inner hr
  subst hi
  rw [List.length_map] at ho
  exact ⟨v, he, ho, hb⟩
end Go.Proofs.YtmeihdlkadjoeaaGreatDoor
