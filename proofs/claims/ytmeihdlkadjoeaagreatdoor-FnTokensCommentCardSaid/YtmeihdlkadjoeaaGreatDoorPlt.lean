/- Comments between words, on lists of characters. -/
import Derived.Test.YtmeihdlkadjoeaaGreatDoorMF
namespace Go.Proofs.YtmeihdlkadjoeaaGreatDoor
open Go.RowKit
set_option linter.unusedVariables false
set_option linter.unusedSimpArgs false

/-- Words, two slashes and a text to the end of the line, words. -/
theorem toks_comment {a b : List (List Nat × Int)} {ga gb : List (List Nat)} {cs : List Nat} (ha : ∀ w ∈ a, WordT w) (hga : ∀ g ∈ ga, GapT g) (hla : ga.length = a.length)
    (hb : ∀ w ∈ b, WordT w) (hgb : ∀ g ∈ gb, GapT g) (hlb : gb.length = b.length) (hc : ∀ c ∈ cs, nNl c = true) (hg : noG (47 :: 47 :: cs) = true) :
    Toks (chars a ga ++ (47 :: 47 :: (cs ++ 10 :: chars b gb))) (a.map tokW ++ (((10 : Int), [10], 1) :: b.map tokW)) := by
  have h1 := chars_toks hb hgb hlb
  have h2 : Toks ([10] ++ chars b gb) (((10 : Int), [10], if (10 : Int) = 10 then 1 else 0) :: b.map tokW) := Toks.word (.mark 10 (by decide)) (fun d hd => ⟨(fun h => absurd h (by decide)), (fun h => absurd h (by decide)), by simp [pairR]⟩) h1
  exact toks_join a ga hla (fun w h => (ha w h).word) (fun g h => (hga g h).gapW) _ _ (Toks.line hc hg h2)

theorem noEnd_star {cs : List Nat} (h : ∀ c ∈ cs, c ≠ 42) : noEnd (cs ++ [42]) = true := by
  induction cs with
  | nil => rfl
  | cons x cs ih =>
    have h1 := ih (fun c hc => h c (by simp [hc]))
    have hx := h x (by simp)
    cases cs with
    | nil => simp [noEnd, hx]
    | cons y cs =>
      have e : x :: y :: cs ++ [42] = x :: y :: (cs ++ [42]) := rfl
      rw [e]
      have e2 : noEnd (x :: y :: (cs ++ [42])) = (!(x == 42 && y == 47) && noEnd (y :: (cs ++ [42]))) := rfl
      rw [e2]
      have : (x == 42) = false := by simp [hx]
      rw [this]
      simpa using h1

/-- Some lines of a text. -/
def linesC (cs : List Nat) : Nat → List Nat
  | 0 => []
  | n + 1 => linesC cs n ++ (cs ++ [10])
theorem linesC_mem {cs : List Nat} {n x : Nat} (h : x ∈ linesC cs n) : x ∈ cs ∨ x = 10 := by
  induction n with
  | zero => simp [linesC] at h
  | succ n ih =>
    simp only [linesC, List.mem_append, List.mem_singleton] at h
    rcases h with h | h | h
    · exact ih h
    · exact .inl h
    · exact .inr h

/-- Words, a comment over some lines, words. -/
theorem toks_block {a b : List (List Nat × Int)} {ga gb : List (List Nat)} {cs : List Nat} (ha : ∀ w ∈ a, WordT w) (hga : ∀ g ∈ ga, GapT g) (hla : ga.length = a.length)
    (hb : ∀ w ∈ b, WordT w) (hgb : ∀ g ∈ gb, GapT g) (hlb : gb.length = b.length) (hc : ∀ c ∈ cs, c ≠ 42) (n : Nat) :
    ∃ ts, Toks (chars a ga ++ (47 :: 42 :: (linesC cs n ++ 42 :: 47 :: chars b gb))) ts ∧ ts.map bare = (a.map tokW ++ b.map tokW).map bare := by
  have h1 := chars_toks hb hgb hlb
  have hG : GapR (47 :: 42 :: (linesC cs n ++ 42 :: 47 :: [])) (nls (linesC cs n) + 0) := .com (noEnd_star (fun x hx => by
    rcases linesC_mem hx with h | h
    · exact hc x h
    · omega)) .nil
  obtain ⟨ts, h2, h3⟩ := Toks.gapN hG h1
  have e : 47 :: 42 :: (linesC cs n ++ 42 :: 47 :: []) ++ chars b gb = 47 :: 42 :: (linesC cs n ++ 42 :: 47 :: chars b gb) := by simp
  rw [e] at h2
  exact ⟨_, toks_join a ga hla (fun w h => (ha w h).word) (fun g h => (hga g h).gapW) _ _ h2, by rw [List.map_append, List.map_append, h3]⟩

/-- A token's cells, without its lines. -/
def cellsP (x : Int × List Nat) : List Value := [.int .i64 x.1, .string (str (enc (toldR x.2)))]
theorem flat_bare (ts : List (Int × List Nat × Nat)) : ts.flatMap cellsI = (ts.map bare).flatMap cellsP := by
  rw [List.flatMap_map]
  rfl
/-- Tokens as impl tells them. -/
def toldP (x : Int × List Nat) : Int × ByteArray := (x.1, str (enc (toldR x.2)))
end Go.Proofs.YtmeihdlkadjoeaaGreatDoor
