/- Slices of texts among a row's arguments. -/
import Derived.Test.YtmeihdlkadjoeaaGreatDoorGlob
import Derived.Test.YtmeihdlkadjoeaaGreatDoorMF
import Derived.WalkKit
import Derived.ProofKit
import Derived.Carry
import Derived.SliceStrings
namespace Go.Proofs.YtmeihdlkadjoeaaGreatDoor
open Go.RowKit Go.ChangeShapes Go.WideShapes
open Go.Proofs.YtmeihdlkadjoeaaGreatDoorW.PrintWords (Kd)
set_option linter.unusedVariables false
set_option linter.unusedSimpArgs false
set_option maxRecDepth 100000

theorem laidOut : laidOutB Tryz.prog = true := by kernel_rfl
/-- An argument that is a slice of texts: its texts; it reads behind the call as ahead. -/
theorem open_words {H : Type} {enc : TypeId × Value → H} {W : World} {base : Nat} {v : Value} {d : DataW H} {p : List MemPlace} (hv : Value.okWide Tryz.prog W .any base 22 v)
    (h : DataW.Trod enc Tryz.prog W 0 (fun _ => true) true 22 v d p) :
    (∃ A n c ls, v = .slice A n c ∧ ls.length = n ∧ SlS W A c ls) ∧ ∀ W', Below W.heap.size W W' → DataW.Trod enc Tryz.prog W' 0 (fun b => decide (b < W.heap.size)) true 22 v d p := by
  refine ⟨?_, fun W' bel => Below.trod laidOut (by kernel_rfl) (of_decide_eq_true (by kernel_rfl)) h bel (by obtain ⟨m, hm⟩ := h; exact DataW.trod_lt m _ _ _ hm)⟩
  obtain ⟨a0, len, cap, rfl⟩ := okWide_slice Tryz.underlying22 hv
  obtain ⟨fuel, hf⟩ := h
  rcases open_strings Tryz.underlying22 Tryz.underlying9 (by kernel_rfl) hf with ⟨hcs, _⟩ | ⟨x, l, c, ss, hcs, _, hl, hm, hz, _, hcell, _⟩
  · simp [Value.cells] at hcs
    obtain ⟨rfl, rfl, rfl⟩ := hcs
    exact ⟨none, 0, 0, [], rfl, rfl, ⟨rfl, by simp [strs], fun h => by simp [strs] at h⟩, Nat.le_refl _⟩
  · simp [Value.cells] at hcs
    obtain ⟨rfl, rfl, rfl⟩ := hcs
    have hz' : ss.length = cap := by simpa using hz
    obtain ⟨ls, hls⟩ := strs_all (ss.take len)
    have hlen : ls.length = len := by
      have := congrArg List.length hls
      rw [strs_length, List.length_take] at this
      omega
    refine ⟨some x, len, cap, ls, rfl, hlen, ⟨rfl, ?_, fun h => ⟨x, rfl, fun j p hp => ⟨[.string p], rfl, rfl, fun i u hu => ?_⟩⟩⟩, by omega⟩
    · rw [strs_length, hlen]
      have : maxLen ≤ 9223372036854775807 := by decide
      omega
    · cases i with
      | zero =>
        obtain rfl : Value.string p = u := by simpa using hu
        rw [← hls] at hp
        have hj : j < len := by
          have := (List.getElem?_eq_some_iff.1 hp).1
          rw [List.length_take] at this
          omega
        have h1 := hcell j (by omega)
        rw [List.getElem?_take_of_lt hj] at hp
        have e : ss.getD j ByteArray.empty = p := by rw [List.getD_eq_getElem?_getD, hp]; rfl
        rw [e] at h1
        simpa [Kd.string, Kd.scalar] using h1
      | succ i => simp at hu
end Go.Proofs.YtmeihdlkadjoeaaGreatDoor
