/- next, whole: told by the characters that are still to be read. -/
import Derived.Test.YtmeihdlkadjoeaaGreatDoorNslow
namespace Go.Proofs.YtmeihdlkadjoeaaGreatDoor
open Go.RowKit
set_option linter.unusedVariables false
set_option linter.unusedSimpArgs false

theorem next_inp {B S R : Nat} {w : World} {s : Sc} {rest : List Nat} {txt : Option (List UInt8)} (h : Inp B S R w s rest txt) (hU : Glob B w) :
    Calls Tryz.prog 50 #[.pointer (some ⟨S, 0, none⟩)] w (NextEnd B S R w s rest txt) := by
  by_cases hb : (s.buf s.pos).toNat < 128
  · have hp := h.posLe
    have hlt : s.pos < s.fin := by
      rcases Nat.lt_or_ge s.pos s.fin with h1 | h1
      · exact h1
      · have e : s.pos = s.fin := by omega
        rw [e, h.sent] at hb
        exact absurd hb (by decide)
    cases rest with
    | nil =>
      obtain ⟨rb, _, h2⟩ := h.rd
      have h3 := congrArg List.length h2
      simp only [List.length_append, seg_length, enc_nil, List.length_nil] at h3
      omega
    | cons c rs =>
      have hc : c < 128 := by
        obtain ⟨rb, _, h2⟩ := h.rd
        have h3 := seg_at h2 0 (by omega)
        rw [enc_cons, Nat.add_zero] at h3
        rcases h.ok c (by simp) with hc | rfl | rfl
        · exact hc
        · rw [encR_dot] at h3
          have h4 : (194 : UInt8) = s.buf s.pos := Option.some.inj h3
          rw [← h4] at hb
          exact absurd hb (by decide)
        · rw [encR_slash] at h3
          have h4 : (226 : UInt8) = s.buf s.pos := Option.some.inj h3
          rw [← h4] at hb
          exact absurd hb (by decide)
      exact next_fast h hc hlt
  · have h1 := (s.buf s.pos).toNat_lt
    exact next_slow h hU ((s.buf s.pos).toNat : Int) (by omega) (by omega) rfl

/-- next, at a scanner that holds its last character. -/
theorem next_lx {B S R : Nat} {w : World} {s : Sc} {rest : List Nat} {prev : List UInt8} {txt : Option (List UInt8)} (h : Lx B S R w s rest prev txt) (hU : Glob B w) :
    Calls Tryz.prog 50 #[.pointer (some ⟨S, 0, none⟩)] w fun e w' =>
      e = .returned (.int .i32 (headR rest)) ∧ ∃ s', Lx B S R w' s' rest.tail (headB rest) (txt.map (· ++ prev)) ∧ Same s s' ∧ Fr B S R w w' ∧ Glob B w' :=
  (next_inp h.inp hU).mono fun e w' ⟨he, s', h1, h2, h3⟩ => ⟨he, s', h1, h2, h3, hU.below h3.1⟩
end Go.Proofs.YtmeihdlkadjoeaaGreatDoor
