/- THE STATEMENTS' OWN WORDS (5): plain names. -/
import Derived.Test.YtmeihdlkadjoeaaDoorME
import Derived.Test.YtmeihdlkadjoeaaDoorPlw
namespace Go.Proofs.YtmeihdlkadjoeaaDoor
open Go.RowKit Go.Proofs.YtmeihdlkadjoeaaDoorW.PrintWords
set_option linter.unusedVariables false
set_option linter.unusedSimpArgs false

theorem plain_l0 (l : List UInt8) (hl : l.length ≤ 4000000000) (d : Nat) : ∀ i, i ≤ l.length → l.length - i ≤ d → ∃ b, Ev (fun k => PFnReadTokens.spec_IsPlainName.l0 k (str l) (l.length : Int) (i : Int)) b ∧ (b = true → ∀ c ∈ l.drop i, c.toNat < 128) := by
  induction d with
  | zero =>
    intro i hi hd
    obtain ⟨b, hb, _⟩ := isName_ev l hl
    refine ⟨b, Ev.step (f := fun k => (PFnReadTokens.spec_IsName.f k (str l)).bind fun t => some t) (fun k => ?_) (Ev.bind hb (Ev.now b)), fun _ => by rw [List.drop_eq_nil_of_le (by omega)]; simp⟩
    simp only [PFnReadTokens.spec_IsPlainName.l0]
    rw [if_neg (by omega)]
  | succ d ih =>
    intro i hi hd
    by_cases hlt : i < l.length
    · have hdr : l.drop i = l[i] :: l.drop (i + 1) := List.drop_eq_getElem_cons hlt
      have hb := bt_str l i hlt
      by_cases h : l[i].toNat < 128
      · obtain ⟨b, hb2, hp⟩ := ih (i + 1) hlt (by omega)
        refine ⟨b, Ev.step (f := fun k => PFnReadTokens.spec_IsPlainName.l0 k (str l) (l.length : Int) ((i + 1 : Nat) : Int)) (fun k => ?_) hb2, fun h2 c hc => ?_⟩
        · simp only [PFnReadTokens.spec_IsPlainName.l0]
          rw [if_pos (by omega), if_pos (by omega), if_pos (by rw [str_size]; omega), hb, if_neg (by omega), w64 (by omega) (by omega)]
          rfl
        · rw [hdr] at hc
          rcases List.mem_cons.1 hc with rfl | hc
          · exact h
          · exact hp h2 c hc
      · refine ⟨false, Ev.step (f := fun _ => some false) (fun k => ?_) (Ev.now _), fun h => by cases h⟩
        simp only [PFnReadTokens.spec_IsPlainName.l0]
        rw [if_pos (by omega), if_pos (by omega), if_pos (by rw [str_size]; omega), hb, if_pos (by omega)]
    · exact ih i hi (by omega)
theorem plain_ev (l : List UInt8) (hl : l.length ≤ 4000000000) : ∃ b, Ev (fun k => PFnReadTokens.spec_IsPlainName.f k (str l)) b ∧ (b = true → ∀ c ∈ l, c.toNat < 128) := by
  obtain ⟨b, hb, hp⟩ := plain_l0 l hl l.length 0 (by omega) (by omega)
  exact ⟨b, Ev.congr (fun k => rfl) hb, fun h => hp h⟩

theorem enc_asc {r : List Nat} (h : ∀ c ∈ enc r, c.toNat < 128) (hok : ∀ x ∈ r, okR x) : ∀ x ∈ r, x < 128 := by
  intro x hx
  rcases hok x hx with h1 | rfl | rfl
  · exact h1
  · obtain ⟨a, b, rfl⟩ := List.append_of_mem hx
    have := h 194 (by rw [enc_append, enc_cons, encR_dot]; simp)
    exact absurd this (by decide)
  · obtain ⟨a, b, rfl⟩ := List.append_of_mem hx
    have := h 226 (by rw [enc_append, enc_cons, encR_slash]; simp)
    exact absurd this (by decide)

theorem plainWords_ev (ws : List (List Nat × Int)) (hw : ∀ w ∈ ws, WordT w) (hl : ws.length ≤ 60) : ∃ b, Ev (fun k => PFnReadTokens.laws_plainWords.f k (strs (encs' ws))) b ∧ (b = true → ∀ w ∈ ws, ∀ x ∈ w.1, x < 128) := by
  have hlen : (encs' ws).length = ws.length := by simp [encs']
  have loop : ∀ d i, i ≤ ws.length → ws.length - i ≤ d → ∃ b, Ev (fun k => PFnReadTokens.laws_plainWords.l0 k (strs (encs' ws)) (ws.length : Int) (i : Int)) b ∧ (b = true → ∀ w ∈ ws.drop i, ∀ x ∈ w.1, x < 128) := by
    intro d
    induction d with
    | zero =>
      intro i hi hd
      refine ⟨true, Ev.step (f := fun _ => some true) (fun k => ?_) (Ev.now _), fun _ => by rw [List.drop_eq_nil_of_le (by omega)]; simp⟩
      simp only [PFnReadTokens.laws_plainWords.l0]
      rw [if_neg (by omega)]
    | succ d ih =>
      intro i hi hd
      by_cases hlt : i < ws.length
      · have hdr : ws.drop i = ws[i] :: ws.drop (i + 1) := List.drop_eq_getElem_cons hlt
        have hwi := hw ws[i] (List.getElem_mem _)
        have hrd : rdOf ByteArray.empty (strs (encs' ws)) (i : Int) = str (enc ws[i].1) := by
          rw [rdOf_strs _ _ (by rw [hlen]; exact hlt)]
          simp [encs']
        have stp : ∀ b, Ev (fun k => if ws[i].2 = (-2) then ((PFnReadTokens.spec_IsPlainName.f k (str (enc ws[i].1))).bind fun t120 => (if t120 = true then (PFnReadTokens.laws_plainWords.l0 k (strs (encs' ws)) (ws.length : Int) ((i + 1 : Nat) : Int)) else (some false))) else (PFnReadTokens.laws_plainWords.l0 k (strs (encs' ws)) (ws.length : Int) ((i + 1 : Nat) : Int))) b →
            Ev (fun k => PFnReadTokens.laws_plainWords.l0 k (strs (encs' ws)) (ws.length : Int) (i : Int)) b := by
          intro b h
          refine Ev.step (f := fun k => (PFnReadTokens.spec_KindOf.f k (str (enc ws[i].1))).bind fun t119 => (if t119 = (-2) then ((PFnReadTokens.spec_IsPlainName.f k (str (enc ws[i].1))).bind fun t120 => (if t120 = true then (PFnReadTokens.laws_plainWords.l0 k (strs (encs' ws)) (ws.length : Int) ((i + 1 : Nat) : Int)) else (some false))) else (PFnReadTokens.laws_plainWords.l0 k (strs (encs' ws)) (ws.length : Int) ((i + 1 : Nat) : Int)))) (fun k => ?_) (Ev.bind hwi.kind h)
          simp only [PFnReadTokens.laws_plainWords.l0]
          rw [if_pos (by omega), if_pos (by omega), if_pos (by rw [strs_length, hlen]; omega), hrd, w64 (by omega) (by omega)]
          rfl
        obtain ⟨b, hb, hp⟩ := ih (i + 1) hlt (by omega)
        by_cases hk : ws[i].2 = -2
        · obtain ⟨bp, hbp, hpp⟩ := plain_ev (enc ws[i].1) (by have := hwi.len; omega)
          by_cases h1 : bp = true
          · refine ⟨b, stp _ (Ev.congr (fun k => by rw [if_pos hk]) (Ev.bind hbp (Ev.congr (fun k => by rw [if_pos h1]) hb))), fun h w hm => ?_⟩
            rw [hdr] at hm
            rcases List.mem_cons.1 hm with rfl | hm
            · exact enc_asc (hpp h1) hwi.ok
            · exact hp h w hm
          · exact ⟨false, stp _ (Ev.congr (fun k => by rw [if_pos hk]) (Ev.bind hbp (Ev.congr (fun k => by rw [if_neg h1]) (Ev.now false)))), fun h => by cases h⟩
        · refine ⟨b, stp _ (Ev.congr (fun k => by rw [if_neg hk]) hb), fun h w hm => ?_⟩
          rw [hdr] at hm
          rcases List.mem_cons.1 hm with rfl | hm
          · rcases hwi.asc with h2 | h2
            · exact absurd h2 hk
            · exact h2
          · exact hp h w hm
      · exact ih i hi (by omega)
  obtain ⟨b, hb, hp⟩ := loop ws.length 0 (by omega) (by omega)
  refine ⟨b, Ev.congr (fun k => by unfold PFnReadTokens.laws_plainWords.f; rw [strs_length, hlen]; rfl) hb, fun h => hp h⟩
end Go.Proofs.YtmeihdlkadjoeaaDoor
