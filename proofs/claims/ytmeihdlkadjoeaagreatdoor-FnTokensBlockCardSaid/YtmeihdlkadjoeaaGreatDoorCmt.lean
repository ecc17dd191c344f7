/- A comment's text: commentOk. -/
import Derived.Test.YtmeihdlkadjoeaaGreatDoorSam
import Derived.Test.YtmeihdlkadjoeaaGreatDoorPFnTokensBlockx9
namespace Go.Proofs.YtmeihdlkadjoeaaGreatDoor
open Go.RowKit Go.Proofs.YtmeihdlkadjoeaaGreatDoorW.PrintWords
set_option linter.unusedVariables false
set_option linter.unusedSimpArgs false

/-- A letter, a digit, a blank. -/
def comB (c : Nat) : Bool := letA c || digR c || c == 32
theorem com_l0 (l : List UInt8) (hl : l.length ≤ 4000000000) (d : Nat) : ∀ i, i ≤ l.length → l.length - i ≤ d → ∃ b, Ev (fun k => PFnTokensBlock.laws_commentOk.l0 k (str l) (l.length : Int) (i : Int)) b ∧
    (b = true → (∀ c ∈ l.drop i, comB c.toNat = true) ∧ 1 ≤ l.length ∧ l.length ≤ 60 ∧ l.head? ≠ some 103) := by
  induction d with
  | zero =>
    intro i hi hd
    have stp : ∀ b, Ev (fun k => if (l.length : Int) ≥ 1 then (if (l.length : Int) ≤ 60 then (if 0 < (l.length : Int) then ((PFnTokensBlock.spec_IsLetter.f (bt (str l) 0)).bind fun t198 => (if t198 = true then (some ((bt (str l) 0) != 103)) else (some false))) else (none)) else (some false)) else (some false)) b →
        Ev (fun k => PFnTokensBlock.laws_commentOk.l0 k (str l) (l.length : Int) (i : Int)) b := fun b h => Ev.step (fun k => by
      simp only [PFnTokensBlock.laws_commentOk.l0]
      rw [if_neg (by omega), str_size]) h
    by_cases h1 : 1 ≤ l.length
    · by_cases h2 : l.length ≤ 60
      · cases l with
        | nil => simp at h1
        | cons c t =>
          cases hL : letA c.toNat with
          | false =>
            refine ⟨false, stp _ (Ev.congr (fun k => ?_) (Ev.now false)), fun h => by cases h⟩
            rw [if_pos (by omega), if_pos (by omega), if_pos (by omega), bt_str0, isLetter_f, hL]
            rfl
          | true =>
            refine ⟨((c.toNat : Int) != 103), stp _ (Ev.congr (fun k => ?_) (Ev.now _)), fun h => ⟨?_, h1, h2, ?_⟩⟩
            · rw [if_pos (by omega), if_pos (by omega), if_pos (by omega), bt_str0, isLetter_f, hL]
              rfl
            · rw [List.drop_eq_nil_of_le (by omega)]
              simp
            · intro he
              have : c = 103 := by simpa using he
              subst this
              exact absurd h (by decide)
      · refine ⟨false, stp _ (Ev.congr (fun k => ?_) (Ev.now false)), fun h => by cases h⟩
        rw [if_pos (by omega), if_neg (by omega)]
    · refine ⟨false, stp _ (Ev.congr (fun k => ?_) (Ev.now false)), fun h => by cases h⟩
      rw [if_neg (by omega)]
  | succ d ih =>
    intro i hi hd
    by_cases hlt : i < l.length
    · have hdr : l.drop i = l[i] :: l.drop (i + 1) := List.drop_eq_getElem_cons hlt
      have hb := bt_str l i hlt
      obtain ⟨b, hb2, hp⟩ := ih (i + 1) hlt (by omega)
      have stp : ∀ b, Ev (fun k => ((PFnTokensBlock.spec_IsLetter.f (l[i].toNat : Int)).bind fun t199 => (if t199 = true then (PFnTokensBlock.laws_commentOk.l0 k (str l) (l.length : Int) ((i + 1 : Nat) : Int)) else ((PFnTokensBlock.spec_IsDigit.f (l[i].toNat : Int)).bind fun t200 => (if t200 = true then (PFnTokensBlock.laws_commentOk.l0 k (str l) (l.length : Int) ((i + 1 : Nat) : Int)) else (if (l[i].toNat : Int) = 32 then (PFnTokensBlock.laws_commentOk.l0 k (str l) (l.length : Int) ((i + 1 : Nat) : Int)) else (some false))))))) b →
          Ev (fun k => PFnTokensBlock.laws_commentOk.l0 k (str l) (l.length : Int) (i : Int)) b := fun b h => Ev.step (fun k => by
        simp only [PFnTokensBlock.laws_commentOk.l0]
        rw [if_pos (by omega), if_pos (by omega), if_pos (by rw [str_size]; omega), hb, w64 (by omega) (by omega)]
        rfl) h
      have fin : comB l[i].toNat = true → (b = true → (∀ c ∈ l.drop i, comB c.toNat = true) ∧ 1 ≤ l.length ∧ l.length ≤ 60 ∧ l.head? ≠ some 103) := fun hc h => by
        obtain ⟨p1, p2⟩ := hp h
        refine ⟨fun c hm => ?_, p2⟩
        rw [hdr] at hm
        rcases List.mem_cons.1 hm with rfl | hm
        · exact hc
        · exact p1 c hm
      cases hL : letA l[i].toNat with
      | true =>
        refine ⟨b, stp _ (Ev.congr (fun k => ?_) hb2), fin (by simp [comB, hL])⟩
        rw [isLetter_f, hL]
        rfl
      | false =>
        cases hD : digR l[i].toNat with
        | true =>
          refine ⟨b, stp _ (Ev.congr (fun k => ?_) hb2), fin (by simp [comB, hD])⟩
          rw [isLetter_f, hL, isDigit_f, hD]
          rfl
        | false =>
          by_cases h32 : l[i].toNat = 32
          · refine ⟨b, stp _ (Ev.congr (fun k => ?_) hb2), fin (by simp [comB, h32])⟩
            rw [isLetter_f, hL, isDigit_f, hD]
            simp only [Option.bind_some, Bool.false_eq_true, if_false]
            rw [if_pos (by omega)]
          · refine ⟨false, stp _ (Ev.congr (fun k => ?_) (Ev.now false)), fun h => by cases h⟩
            rw [isLetter_f, hL, isDigit_f, hD]
            simp only [Option.bind_some, Bool.false_eq_true, if_false]
            rw [if_neg (by omega)]
    · exact ih i hi (by omega)

/-- A comment's characters. -/
structure ComR (cs : List Nat) : Prop where
  asc : ∀ c ∈ cs, c < 128
  nl : ∀ c ∈ cs, c ≠ 10
  star : ∀ c ∈ cs, c ≠ 42
  g : cs.head? ≠ some 103
  len : (enc cs).length ≤ 60

theorem comment_call (l : List UInt8) (hl : l.length ≤ 4000000000) : ∃ b, (∀ w, Calls Tryz.prog 16 #[.string (str l)] w fun e w' => e = .returned (.bool b) ∧ Below w.heap.size w w') ∧
    (b = true → ∃ cs, enc cs = l ∧ ComR cs) := by
  obtain ⟨b, hb, hp⟩ := com_l0 l hl l.length 0 (by omega) (by omega)
  have hb2 : Ev (fun k => PFnTokensBlock.laws_commentOk.f k (str l)) b := Ev.congr (fun k => by unfold PFnTokensBlock.laws_commentOk.f; rw [str_size]; rfl) hb
  obtain ⟨k, hk⟩ := hb2.rounds
  refine ⟨b, fun w => (PFnTokensBlock.laws_commentOk.calls k (str l) b w hk).mono fun e w' ⟨he, hd⟩ => ⟨he, hd.below⟩, fun h => ?_⟩
  obtain ⟨p1, p2, p3, p4⟩ := hp h
  have hB : ∀ c ∈ l, comB c.toNat = true := fun c hc => p1 c hc
  have hA : ∀ c ∈ l, c.toNat < 128 := fun c hc => by
    have := hB c hc
    simp only [comB, letA, digR, Bool.or_eq_true, decide_eq_true_eq, beq_iff_eq] at this
    omega
  have hr : ∀ x ∈ runes l, comB x = true := fun x hx => by
    obtain ⟨c, hc, rfl⟩ := List.mem_map.1 hx
    exact hB c hc
  refine ⟨runes l, enc_runes l hA, ⟨fun c hc => ?_, fun c hc he => ?_, fun c hc he => ?_, ?_, by rw [enc_runes l hA]; exact p3⟩⟩
  · have := hr c hc
    simp only [comB, letA, digR, Bool.or_eq_true, decide_eq_true_eq, beq_iff_eq] at this
    omega
  · have := hr c hc
    subst he
    exact absurd this (by decide)
  · have := hr c hc
    subst he
    exact absurd this (by decide)
  · cases l with
    | nil => simp [runes]
    | cons c t =>
      intro h103
      apply p4
      have : c.toNat = 103 := by simpa [runes] using h103
      have : c = 103 := toNat_inj (by rw [this]; rfl)
      rw [this]
      rfl
end Go.Proofs.YtmeihdlkadjoeaaGreatDoor
