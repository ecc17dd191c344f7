/- Which words may stand without a gap: spec.Apart. -/
import Derived.Test.YtmeihdlkadjoeaaGreatDoorSam
import Derived.Test.YtmeihdlkadjoeaaGreatDoorPFnTokensBlockx4
namespace Go.Proofs.YtmeihdlkadjoeaaGreatDoor
open Go.RowKit Go.Proofs.YtmeihdlkadjoeaaGreatDoorW.PrintWords
set_option linter.unusedVariables false
set_option linter.unusedSimpArgs false

/-- What Apart tells, of what the two texts' kinds are. -/
def apartB (k1 k2 : Int) (bm bn da nb : Bool) : Bool := if k1 = -1000 ∨ k1 = -1001 ∨ k1 = -1002 ∨ k1 = -1003 then false else if bm && bn then k2 == 0 else (bm && da && nb) || bn

set_option maxHeartbeats 1000000 in
set_option maxRecDepth 10000 in
theorem apart_walk (a0 a1 : ByteArray) (k1 k2 : Int) (bm bn da nb : Bool) (ha : 1 ≤ a0.size) (hb : 1 ≤ a1.size) (ha2 : a0.size ≤ 1000) (hb2 : a1.size ≤ 1000) (ea : (a0.toList == ([] : List UInt8)) = false) (eb : (a1.toList == ([] : List UInt8)) = false)
    (hda : (a0.toList == [45]) = !da) (hnb : (a1.toList == [10]) = !nb)
    (hK1 : ∀ W, Calls Tryz.prog 18 #[.string (a0.extract ((a0.size : Int) - 1).toNat a0.size ++ a1.extract 0 1)] W fun e w' => e = .returned (.int .i64 k1) ∧ ∃ m, w' = W.drewN m)
    (hK2 : ∀ W, Calls Tryz.prog 18 #[.string (a0 ++ a1)] W fun e w' => e = .returned (.int .i64 k2) ∧ ∃ m, w' = W.drewN m)
    (hM1 : ∀ W, Calls Tryz.prog 22 #[.string a0] W fun e w' => e = .returned (.bool bm) ∧ ∃ m, w' = W.drewN m)
    (hM2 : ∀ W, Calls Tryz.prog 22 #[.string a1] W fun e w' => e = .returned (.bool bn) ∧ ∃ m, w' = W.drewN m) (w : World) :
    Calls Tryz.prog 15 #[.string a0, .string a1] w fun e w' => e = .returned (.bool (apartB k1 k2 bm bn da nb)) ∧ Drawn0 w w' := by
  obtain ⟨j, hj⟩ : ∃ j, (a0.size : Int) - 1 = j := ⟨_, rfl⟩
  have z0 : IntKind.i64.wrap ((a0.size : Int) - 1) = j := (IntWalk.i64_in _ (by omega)).trans hj
  rw [hj] at hK1
  have z1 : (0 ≤ j) = True := eq_true (by omega)
  have z2 : (j ≤ (a0.size : Int)) = True := eq_true (by omega)
  have z3 : (1 ≤ (a1.size : Int)) = True := eq_true (by omega)
  have z4 : ((a0.extract j.toNat a0.size).size + (a1.extract 0 1).size ≤ 9223372036854775807) = True := eq_true (by simp [ByteArray.size_extract]; omega)
  have z5 : (9223372036854775807 < (a0.extract j.toNat a0.size).size + (a1.extract 0 1).size) = False := eq_false (by simp [ByteArray.size_extract]; omega)
  have z6 : (a0.size + a1.size ≤ 9223372036854775807) = True := eq_true (by omega)
  have z7 : (9223372036854775807 < a0.size + a1.size) = False := eq_false (by omega)
  have z8 : (9223372036854775807 < a0.size - j.toNat + min 1 a1.size) = False := eq_false (by omega)
  have y1 : decide (0 ≤ j) = true := decide_eq_true (by omega)
  have y2 : decide (j ≤ (a0.size : Int)) = true := decide_eq_true (by omega)
  have y4 : decide ((a0.extract j.toNat a0.size).size + (a1.extract 0 1).size ≤ 9223372036854775807) = true := by rw [decide_eq_true_eq, z4]; trivial
  have y3 : decide (1 ≤ (a1.size : Int)) = true := decide_eq_true (by omega)
  have HK1 := Lib.hid hK1
  have HK2 := Lib.hid hK2
  have HM1 := Lib.hid hM1
  have HM2 := Lib.hid hM2
  clear hK1 hK2 hM1 hM2 ha hb ha2 hb2 hj
  by_cases q : k1 = -1000 ∨ k1 = -1001 ∨ k1 = -1002 ∨ k1 = -1003
  · have e : apartB k1 k2 bm bn da nb = false := by unfold apartB; rw [if_pos q]
    rw [e]
    clear e
    rcases q with rfl | rfl | rfl | rfl
    · go_enter Tryz.func15, Tryz.ntmps15
      go_wp2
      go_quiet (first | (go_at_call 18; (first | with_reducible exact Calls.quiet_of (HK1.out _) | with_reducible exact Calls.quiet_of (HK2.out _))) | (go_at_call 22; (first | with_reducible exact Calls.quiet_of (HM1.out _) | with_reducible exact Calls.quiet_of (HM2.out _))))
      go_wp2_with (first | (go_at_call 18; (first | with_reducible refine (HK1.out _).mono ?_ | with_reducible refine (HK2.out _).mono ?_); rintro e w' ⟨rfl, nd, rfl⟩) | (go_at_call 22; (first | with_reducible refine (HM1.out _).mono ?_ | with_reducible refine (HM2.out _).mono ?_); rintro e w' ⟨rfl, nd, rfl⟩))
      repeat (go_quiet (first | (go_at_call 18; (first | with_reducible exact Calls.quiet_of (HK1.out _) | with_reducible exact Calls.quiet_of (HK2.out _))) | (go_at_call 22; (first | with_reducible exact Calls.quiet_of (HM1.out _) | with_reducible exact Calls.quiet_of (HM2.out _)))); go_wp2_with (first | (go_at_call 18; (first | with_reducible refine (HK1.out _).mono ?_ | with_reducible refine (HK2.out _).mono ?_); rintro e w' ⟨rfl, nd, rfl⟩) | (go_at_call 22; (first | with_reducible refine (HM1.out _).mono ?_ | with_reducible refine (HM2.out _).mono ?_); rintro e w' ⟨rfl, nd, rfl⟩)))
      go_ret
      exact ⟨rfl, by repeat (first | exact Drawn0.refl _ | apply Drawn0.step)⟩
    · go_enter Tryz.func15, Tryz.ntmps15
      go_wp2
      go_quiet (first | (go_at_call 18; (first | with_reducible exact Calls.quiet_of (HK1.out _) | with_reducible exact Calls.quiet_of (HK2.out _))) | (go_at_call 22; (first | with_reducible exact Calls.quiet_of (HM1.out _) | with_reducible exact Calls.quiet_of (HM2.out _))))
      go_wp2_with (first | (go_at_call 18; (first | with_reducible refine (HK1.out _).mono ?_ | with_reducible refine (HK2.out _).mono ?_); rintro e w' ⟨rfl, nd, rfl⟩) | (go_at_call 22; (first | with_reducible refine (HM1.out _).mono ?_ | with_reducible refine (HM2.out _).mono ?_); rintro e w' ⟨rfl, nd, rfl⟩))
      repeat (go_quiet (first | (go_at_call 18; (first | with_reducible exact Calls.quiet_of (HK1.out _) | with_reducible exact Calls.quiet_of (HK2.out _))) | (go_at_call 22; (first | with_reducible exact Calls.quiet_of (HM1.out _) | with_reducible exact Calls.quiet_of (HM2.out _)))); go_wp2_with (first | (go_at_call 18; (first | with_reducible refine (HK1.out _).mono ?_ | with_reducible refine (HK2.out _).mono ?_); rintro e w' ⟨rfl, nd, rfl⟩) | (go_at_call 22; (first | with_reducible refine (HM1.out _).mono ?_ | with_reducible refine (HM2.out _).mono ?_); rintro e w' ⟨rfl, nd, rfl⟩)))
      go_ret
      exact ⟨rfl, by repeat (first | exact Drawn0.refl _ | apply Drawn0.step)⟩
    · go_enter Tryz.func15, Tryz.ntmps15
      go_wp2
      go_quiet (first | (go_at_call 18; (first | with_reducible exact Calls.quiet_of (HK1.out _) | with_reducible exact Calls.quiet_of (HK2.out _))) | (go_at_call 22; (first | with_reducible exact Calls.quiet_of (HM1.out _) | with_reducible exact Calls.quiet_of (HM2.out _))))
      go_wp2_with (first | (go_at_call 18; (first | with_reducible refine (HK1.out _).mono ?_ | with_reducible refine (HK2.out _).mono ?_); rintro e w' ⟨rfl, nd, rfl⟩) | (go_at_call 22; (first | with_reducible refine (HM1.out _).mono ?_ | with_reducible refine (HM2.out _).mono ?_); rintro e w' ⟨rfl, nd, rfl⟩))
      repeat (go_quiet (first | (go_at_call 18; (first | with_reducible exact Calls.quiet_of (HK1.out _) | with_reducible exact Calls.quiet_of (HK2.out _))) | (go_at_call 22; (first | with_reducible exact Calls.quiet_of (HM1.out _) | with_reducible exact Calls.quiet_of (HM2.out _)))); go_wp2_with (first | (go_at_call 18; (first | with_reducible refine (HK1.out _).mono ?_ | with_reducible refine (HK2.out _).mono ?_); rintro e w' ⟨rfl, nd, rfl⟩) | (go_at_call 22; (first | with_reducible refine (HM1.out _).mono ?_ | with_reducible refine (HM2.out _).mono ?_); rintro e w' ⟨rfl, nd, rfl⟩)))
      go_ret
      exact ⟨rfl, by repeat (first | exact Drawn0.refl _ | apply Drawn0.step)⟩
    · go_enter Tryz.func15, Tryz.ntmps15
      go_wp2
      go_quiet (first | (go_at_call 18; (first | with_reducible exact Calls.quiet_of (HK1.out _) | with_reducible exact Calls.quiet_of (HK2.out _))) | (go_at_call 22; (first | with_reducible exact Calls.quiet_of (HM1.out _) | with_reducible exact Calls.quiet_of (HM2.out _))))
      go_wp2_with (first | (go_at_call 18; (first | with_reducible refine (HK1.out _).mono ?_ | with_reducible refine (HK2.out _).mono ?_); rintro e w' ⟨rfl, nd, rfl⟩) | (go_at_call 22; (first | with_reducible refine (HM1.out _).mono ?_ | with_reducible refine (HM2.out _).mono ?_); rintro e w' ⟨rfl, nd, rfl⟩))
      repeat (go_quiet (first | (go_at_call 18; (first | with_reducible exact Calls.quiet_of (HK1.out _) | with_reducible exact Calls.quiet_of (HK2.out _))) | (go_at_call 22; (first | with_reducible exact Calls.quiet_of (HM1.out _) | with_reducible exact Calls.quiet_of (HM2.out _)))); go_wp2_with (first | (go_at_call 18; (first | with_reducible refine (HK1.out _).mono ?_ | with_reducible refine (HK2.out _).mono ?_); rintro e w' ⟨rfl, nd, rfl⟩) | (go_at_call 22; (first | with_reducible refine (HM1.out _).mono ?_ | with_reducible refine (HM2.out _).mono ?_); rintro e w' ⟨rfl, nd, rfl⟩)))
      go_ret
      exact ⟨rfl, by repeat (first | exact Drawn0.refl _ | apply Drawn0.step)⟩
  · have e : apartB k1 k2 bm bn da nb = if bm && bn then k2 == 0 else (bm && da && nb) || bn := by unfold apartB; rw [if_neg q]
    rw [e]
    clear e
    have b1 : (k1 == -1000) = false := by simp; omega
    have b2 : (k1 == -1001) = false := by simp; omega
    have b3 : (k1 == -1002) = false := by simp; omega
    have b4 : (k1 == -1003) = false := by simp; omega
    clear q
    cases bm with
    | false =>
      cases bn with
      | false =>
        go_enter Tryz.func15, Tryz.ntmps15
        go_wp2
        go_quiet (first | (go_at_call 18; (first | with_reducible exact Calls.quiet_of (HK1.out _) | with_reducible exact Calls.quiet_of (HK2.out _))) | (go_at_call 22; (first | with_reducible exact Calls.quiet_of (HM1.out _) | with_reducible exact Calls.quiet_of (HM2.out _))))
        go_wp2_with (first | (go_at_call 18; (first | with_reducible refine (HK1.out _).mono ?_ | with_reducible refine (HK2.out _).mono ?_); rintro e w' ⟨rfl, nd, rfl⟩) | (go_at_call 22; (first | with_reducible refine (HM1.out _).mono ?_ | with_reducible refine (HM2.out _).mono ?_); rintro e w' ⟨rfl, nd, rfl⟩))
        repeat (go_quiet (first | (go_at_call 18; (first | with_reducible exact Calls.quiet_of (HK1.out _) | with_reducible exact Calls.quiet_of (HK2.out _))) | (go_at_call 22; (first | with_reducible exact Calls.quiet_of (HM1.out _) | with_reducible exact Calls.quiet_of (HM2.out _)))); go_wp2_with (first | (go_at_call 18; (first | with_reducible refine (HK1.out _).mono ?_ | with_reducible refine (HK2.out _).mono ?_); rintro e w' ⟨rfl, nd, rfl⟩) | (go_at_call 22; (first | with_reducible refine (HM1.out _).mono ?_ | with_reducible refine (HM2.out _).mono ?_); rintro e w' ⟨rfl, nd, rfl⟩)))
        go_ret
        exact ⟨rfl, by repeat (first | exact Drawn0.refl _ | apply Drawn0.step)⟩
      | true =>
        go_enter Tryz.func15, Tryz.ntmps15
        go_wp2
        go_quiet (first | (go_at_call 18; (first | with_reducible exact Calls.quiet_of (HK1.out _) | with_reducible exact Calls.quiet_of (HK2.out _))) | (go_at_call 22; (first | with_reducible exact Calls.quiet_of (HM1.out _) | with_reducible exact Calls.quiet_of (HM2.out _))))
        go_wp2_with (first | (go_at_call 18; (first | with_reducible refine (HK1.out _).mono ?_ | with_reducible refine (HK2.out _).mono ?_); rintro e w' ⟨rfl, nd, rfl⟩) | (go_at_call 22; (first | with_reducible refine (HM1.out _).mono ?_ | with_reducible refine (HM2.out _).mono ?_); rintro e w' ⟨rfl, nd, rfl⟩))
        repeat (go_quiet (first | (go_at_call 18; (first | with_reducible exact Calls.quiet_of (HK1.out _) | with_reducible exact Calls.quiet_of (HK2.out _))) | (go_at_call 22; (first | with_reducible exact Calls.quiet_of (HM1.out _) | with_reducible exact Calls.quiet_of (HM2.out _)))); go_wp2_with (first | (go_at_call 18; (first | with_reducible refine (HK1.out _).mono ?_ | with_reducible refine (HK2.out _).mono ?_); rintro e w' ⟨rfl, nd, rfl⟩) | (go_at_call 22; (first | with_reducible refine (HM1.out _).mono ?_ | with_reducible refine (HM2.out _).mono ?_); rintro e w' ⟨rfl, nd, rfl⟩)))
        go_ret
        exact ⟨rfl, by repeat (first | exact Drawn0.refl _ | apply Drawn0.step)⟩
    | true =>
      cases bn with
      | true =>
        go_enter Tryz.func15, Tryz.ntmps15
        go_wp2
        go_quiet (first | (go_at_call 18; (first | with_reducible exact Calls.quiet_of (HK1.out _) | with_reducible exact Calls.quiet_of (HK2.out _))) | (go_at_call 22; (first | with_reducible exact Calls.quiet_of (HM1.out _) | with_reducible exact Calls.quiet_of (HM2.out _))))
        go_wp2_with (first | (go_at_call 18; (first | with_reducible refine (HK1.out _).mono ?_ | with_reducible refine (HK2.out _).mono ?_); rintro e w' ⟨rfl, nd, rfl⟩) | (go_at_call 22; (first | with_reducible refine (HM1.out _).mono ?_ | with_reducible refine (HM2.out _).mono ?_); rintro e w' ⟨rfl, nd, rfl⟩))
        repeat (go_quiet (first | (go_at_call 18; (first | with_reducible exact Calls.quiet_of (HK1.out _) | with_reducible exact Calls.quiet_of (HK2.out _))) | (go_at_call 22; (first | with_reducible exact Calls.quiet_of (HM1.out _) | with_reducible exact Calls.quiet_of (HM2.out _)))); go_wp2_with (first | (go_at_call 18; (first | with_reducible refine (HK1.out _).mono ?_ | with_reducible refine (HK2.out _).mono ?_); rintro e w' ⟨rfl, nd, rfl⟩) | (go_at_call 22; (first | with_reducible refine (HM1.out _).mono ?_ | with_reducible refine (HM2.out _).mono ?_); rintro e w' ⟨rfl, nd, rfl⟩)))
        go_ret
        exact ⟨rfl, by repeat (first | exact Drawn0.refl _ | apply Drawn0.step)⟩
      | false =>
        cases da with
        | false =>
          have f1 : (a0.toList == [45]) = true := hda
          have f2 : (a0.toList != [45]) = false := by rw [bne, f1]; rfl
          clear hda
          go_enter Tryz.func15, Tryz.ntmps15
          go_wp2
          go_quiet (first | (go_at_call 18; (first | with_reducible exact Calls.quiet_of (HK1.out _) | with_reducible exact Calls.quiet_of (HK2.out _))) | (go_at_call 22; (first | with_reducible exact Calls.quiet_of (HM1.out _) | with_reducible exact Calls.quiet_of (HM2.out _))))
          go_wp2_with (first | (go_at_call 18; (first | with_reducible refine (HK1.out _).mono ?_ | with_reducible refine (HK2.out _).mono ?_); rintro e w' ⟨rfl, nd, rfl⟩) | (go_at_call 22; (first | with_reducible refine (HM1.out _).mono ?_ | with_reducible refine (HM2.out _).mono ?_); rintro e w' ⟨rfl, nd, rfl⟩))
          repeat (go_quiet (first | (go_at_call 18; (first | with_reducible exact Calls.quiet_of (HK1.out _) | with_reducible exact Calls.quiet_of (HK2.out _))) | (go_at_call 22; (first | with_reducible exact Calls.quiet_of (HM1.out _) | with_reducible exact Calls.quiet_of (HM2.out _)))); go_wp2_with (first | (go_at_call 18; (first | with_reducible refine (HK1.out _).mono ?_ | with_reducible refine (HK2.out _).mono ?_); rintro e w' ⟨rfl, nd, rfl⟩) | (go_at_call 22; (first | with_reducible refine (HM1.out _).mono ?_ | with_reducible refine (HM2.out _).mono ?_); rintro e w' ⟨rfl, nd, rfl⟩)))
          go_ret
          exact ⟨rfl, by repeat (first | exact Drawn0.refl _ | apply Drawn0.step)⟩
        | true =>
          have f1 : (a0.toList == [45]) = false := hda
          have f2 : (a0.toList != [45]) = true := by rw [bne, f1]; rfl
          clear hda
          cases nb with
          | false =>
            have f3 : (a1.toList == [10]) = true := hnb
            have f4 : (a1.toList != [10]) = false := by rw [bne, f3]; rfl
            clear hnb
            go_enter Tryz.func15, Tryz.ntmps15
            go_wp2
            go_quiet (first | (go_at_call 18; (first | with_reducible exact Calls.quiet_of (HK1.out _) | with_reducible exact Calls.quiet_of (HK2.out _))) | (go_at_call 22; (first | with_reducible exact Calls.quiet_of (HM1.out _) | with_reducible exact Calls.quiet_of (HM2.out _))))
            go_wp2_with (first | (go_at_call 18; (first | with_reducible refine (HK1.out _).mono ?_ | with_reducible refine (HK2.out _).mono ?_); rintro e w' ⟨rfl, nd, rfl⟩) | (go_at_call 22; (first | with_reducible refine (HM1.out _).mono ?_ | with_reducible refine (HM2.out _).mono ?_); rintro e w' ⟨rfl, nd, rfl⟩))
            repeat (go_quiet (first | (go_at_call 18; (first | with_reducible exact Calls.quiet_of (HK1.out _) | with_reducible exact Calls.quiet_of (HK2.out _))) | (go_at_call 22; (first | with_reducible exact Calls.quiet_of (HM1.out _) | with_reducible exact Calls.quiet_of (HM2.out _)))); go_wp2_with (first | (go_at_call 18; (first | with_reducible refine (HK1.out _).mono ?_ | with_reducible refine (HK2.out _).mono ?_); rintro e w' ⟨rfl, nd, rfl⟩) | (go_at_call 22; (first | with_reducible refine (HM1.out _).mono ?_ | with_reducible refine (HM2.out _).mono ?_); rintro e w' ⟨rfl, nd, rfl⟩)))
            go_ret
            exact ⟨rfl, by repeat (first | exact Drawn0.refl _ | apply Drawn0.step)⟩
          | true =>
            have f3 : (a1.toList == [10]) = false := hnb
            have f4 : (a1.toList != [10]) = true := by rw [bne, f3]; rfl
            clear hnb
            go_enter Tryz.func15, Tryz.ntmps15
            go_wp2
            go_quiet (first | (go_at_call 18; (first | with_reducible exact Calls.quiet_of (HK1.out _) | with_reducible exact Calls.quiet_of (HK2.out _))) | (go_at_call 22; (first | with_reducible exact Calls.quiet_of (HM1.out _) | with_reducible exact Calls.quiet_of (HM2.out _))))
            go_wp2_with (first | (go_at_call 18; (first | with_reducible refine (HK1.out _).mono ?_ | with_reducible refine (HK2.out _).mono ?_); rintro e w' ⟨rfl, nd, rfl⟩) | (go_at_call 22; (first | with_reducible refine (HM1.out _).mono ?_ | with_reducible refine (HM2.out _).mono ?_); rintro e w' ⟨rfl, nd, rfl⟩))
            repeat (go_quiet (first | (go_at_call 18; (first | with_reducible exact Calls.quiet_of (HK1.out _) | with_reducible exact Calls.quiet_of (HK2.out _))) | (go_at_call 22; (first | with_reducible exact Calls.quiet_of (HM1.out _) | with_reducible exact Calls.quiet_of (HM2.out _)))); go_wp2_with (first | (go_at_call 18; (first | with_reducible refine (HK1.out _).mono ?_ | with_reducible refine (HK2.out _).mono ?_); rintro e w' ⟨rfl, nd, rfl⟩) | (go_at_call 22; (first | with_reducible refine (HM1.out _).mono ?_ | with_reducible refine (HM2.out _).mono ?_); rintro e w' ⟨rfl, nd, rfl⟩)))
            go_ret
            exact ⟨rfl, by repeat (first | exact Drawn0.refl _ | apply Drawn0.step)⟩
theorem Ev.unique {α : Type} {g : Nat → Option α} {a b : α} (h1 : Ev g a) (h2 : Ev g b) : a = b := by
  obtain ⟨K1, h1⟩ := h1
  obtain ⟨K2, h2⟩ := h2
  have e1 := h1 (max K1 K2) (Nat.le_max_left _ _)
  have e2 := h2 (max K1 K2) (Nat.le_max_right _ _)
  rw [e1] at e2
  exact Option.some.inj e2

theorem one_enc {r : List Nat} {c : UInt8} (h : enc r = [c]) : r = [c.toNat] ∧ c.toNat < 128 := by
  have hle := len_enc r
  rw [h] at hle
  cases r with
  | nil => cases h
  | cons x rs =>
    have : rs = [] := by cases rs <;> simp at hle ⊢
    subst this
    rw [enc_cons, enc_nil, List.append_nil] at h
    unfold encR at h
    split at h
    · rename_i hx
      have h1 := congrArg UInt8.toNat (List.cons.inj h).1
      rw [toNat_asc hx] at h1
      exact ⟨by rw [h1], by omega⟩
    · split at h <;> simp at h

/-- A name, a number begins with a character of names. -/
theorem word_head {r : List Nat} {k : Int} (h : WordR r k) (hk : k = -2 ∨ k = -3) : ∃ c rs, r = c :: rs ∧ idR c = true := by
  cases h with
  | name c rs h hs => exact ⟨c, rs, rfl, id_let h⟩
  | num c rs h h0 hs => exact ⟨c, rs, rfl, id_dig h⟩
  | zero => exact ⟨48, [], rfl, by decide⟩
  | hex rs h hs => exact ⟨48, _, rfl, by decide⟩
  | str cs hs => omega
  | mark c h => omega
  | pair c d k h => have := pairR_kinds h; omega
theorem mark_sep {c : Nat} (h : markR c = true) : idR c = false ∧ sepR c = true := by
  simp only [markR, Bool.and_eq_true, Bool.not_eq_true', decide_eq_true_eq, bne_iff_ne, ne_eq] at h
  obtain ⟨⟨⟨⟨⟨⟨⟨h1, h2⟩, h3⟩, h4⟩, h5⟩, h6⟩, h7⟩, h8⟩ := h
  exact ⟨h2, by simp [sepR, h1, h2, h6]⟩
theorem no_mark {r : List Nat} {k : Int} (h : WordR r k) (hk : k = -2 ∨ k = -3) : ¬ ∃ c ∈ marksL, enc r = [c] := by
  rintro ⟨c, hc, he⟩
  obtain ⟨e1, _⟩ := one_enc he
  obtain ⟨x, rs, e2, hx⟩ := word_head h hk
  rw [e2] at e1
  have := (List.cons.inj e1).1
  subst this
  rw [(mark_sep (marks_ok c hc)).1] at hx
  cases hx
theorem word_one {r : List Nat} {k : Int} (h : WordR r k) (hk : 0 ≤ k) : ∃ c, r = [c] ∧ k = (c : Nat) ∧ markR c = true := by
  cases h with
  | mark c h => exact ⟨c, rfl, rfl, h⟩
  | pair c d k h => have := pairR_kinds h; omega
  | _ => omega

theorem kind_pair {c d : Nat} {v : Int} (h : pairR (c : Nat) d = some v) : Ev (fun n => PFnTokensBlock.spec_KindOf.f n (str [UInt8.ofNat c, UInt8.ofNat d])) v := by
  rcases pairR_kinds h with h1 | h1 <;> rcases h1 with h1 | h1 <;> obtain ⟨h2, rfl, rfl⟩ := h1
  · obtain rfl : c = 45 := by omega
    exact Ev.congr (fun n => by unfold PFnTokensBlock.spec_KindOf.f; rw [str_toList, if_neg (by decide), if_neg (by decide), if_pos (by decide)]) (Ev.now _)
  · obtain rfl : c = 64 := by omega
    exact Ev.congr (fun n => by unfold PFnTokensBlock.spec_KindOf.f; rw [str_toList, if_neg (by decide), if_neg (by decide), if_neg (by decide), if_pos (by decide)]) (Ev.now _)
  · obtain rfl : c = 60 := by omega
    exact Ev.congr (fun n => by unfold PFnTokensBlock.spec_KindOf.f; rw [str_toList, if_pos (by decide)]) (Ev.now _)
  · obtain rfl : c = 62 := by omega
    exact Ev.congr (fun n => by unfold PFnTokensBlock.spec_KindOf.f; rw [str_toList, if_neg (by decide), if_pos (by decide)]) (Ev.now _)

theorem word_len {x : List Nat × Int} (h : WordT x) : 1 ≤ (enc x.1).length := by
  have := len_enc x.1
  have h1 := h.word.ne_nil
  have : x.1.length ≠ 0 := fun h0 => h1 (List.eq_nil_of_length_eq_zero h0)
  omega

theorem apart_ok (x y : List Nat × Int) (hx : WordT x) (hy : WordT y) : ∃ b, (∀ w, Calls Tryz.prog 15 #[.string (str (enc x.1)), .string (str (enc y.1))] w fun e w' => e = .returned (.bool b) ∧ ∃ m, w' = w.drewN m) ∧ (b = true → ApartR x y.1) := by
  have lx := word_len hx
  have ly := word_len hy
  have lx2 := hx.len
  have ly2 := hy.len
  obtain ⟨bm, hbm, hpm⟩ := isMark_ev (enc x.1)
  obtain ⟨bn, hbn, hpn⟩ := isMark_ev (enc y.1)
  obtain ⟨k2, hk2, _⟩ := kindOf_ev (enc x.1 ++ enc y.1) (by rw [List.length_append]; omega)
  obtain ⟨m, hm⟩ : ∃ m, (enc x.1).drop ((enc x.1).length - 1) ++ (enc y.1).take 1 = m := ⟨_, rfl⟩
  obtain ⟨k1, hk1, _⟩ := kindOf_ev m (by rw [← hm, List.length_append, List.length_drop, List.length_take]; omega)
  have em : (str (enc x.1)).extract (((str (enc x.1)).size : Int) - 1).toNat (str (enc x.1)).size ++ (str (enc y.1)).extract 0 1 = str m := by
    rw [str_extract, str_extract, str_append, ← hm, str_size, List.drop_zero, show ((((enc x.1).length : Nat) : Int) - 1).toNat = (enc x.1).length - 1 by omega, List.take_of_length_le (by rw [List.length_drop]; omega)]
  obtain ⟨q1, hq1⟩ := hk1.rounds
  obtain ⟨q2, hq2⟩ := hk2.rounds
  obtain ⟨q3, hq3⟩ := hbm.rounds
  obtain ⟨q4, hq4⟩ := hbn.rounds
  refine ⟨apartB k1 k2 bm bn (!((str (enc x.1)).toList == [45])) (!((str (enc y.1)).toList == [10])), fun w => ?_, fun h d hd => ?_⟩
  · refine (apart_walk (str (enc x.1)) (str (enc y.1)) k1 k2 bm bn _ _ (by rw [str_size]; exact lx) (by rw [str_size]; exact ly) (by rw [str_size]; omega) (by rw [str_size]; omega) ?_ ?_ (Bool.not_not _).symm (Bool.not_not _).symm (fun W => ?_) (fun W => ?_) (fun W => ?_) (fun W => ?_) w).mono fun e w' ⟨he, m, hm⟩ => ⟨he, m, hm⟩
    · rw [str_toList]
      cases he : enc x.1 with
      | nil => rw [he] at lx; simp at lx
      | cons a l => rfl
    · rw [str_toList]
      cases he : enc y.1 with
      | nil => rw [he] at ly; simp at ly
      | cons a l => rfl
    · rw [em]
      exact (PFnTokensBlock.spec_KindOf.calls q1 (str m) k1 W hq1).mono fun e w' ⟨he, m, hm⟩ => ⟨he, m, hm⟩
    · rw [str_append]
      exact (PFnTokensBlock.spec_KindOf.calls q2 _ k2 W hq2).mono fun e w' ⟨he, m, hm⟩ => ⟨he, m, hm⟩
    · exact (PFnTokensBlock.spec_IsMark.calls q3 _ bm W hq3).mono fun e w' ⟨he, m, hm⟩ => ⟨he, m, hm⟩
    · exact (PFnTokensBlock.spec_IsMark.calls q4 _ bn W hq4).mono fun e w' ⟨he, m, hm⟩ => ⟨he, m, hm⟩
  · unfold apartB at h
    split at h
    · cases h
    rename_i hno
    have hbn1 : bm = false → bn = true := fun e => by rw [e] at h; simpa using h
    have hmk : x.2 = -2 ∨ x.2 = -3 → markR d = true := fun hk => by
      have hf : bm = false := by
        cases hb : bm with
        | false => rfl
        | true => exact absurd (hpm.1 hb) (no_mark hx.word hk)
      obtain ⟨c, hc, he⟩ := hpn.1 (hbn1 hf)
      obtain ⟨e1, _⟩ := one_enc he
      rw [e1] at hd
      have : c.toNat = d := by simpa using hd
      rw [← this]
      exact marks_ok c hc
    refine ⟨fun hk => (mark_sep (hmk (.inl hk))).1, fun hk => (mark_sep (hmk (.inr hk))).2, ?_⟩
    cases e : pairR x.2 d with
    | none => rfl
    | some v =>
      exfalso
      have hkk := pairR_kinds e
      obtain ⟨c, hc, hkc, hmc⟩ := word_one hx.word (by omega)
      obtain ⟨ys, hys⟩ : ∃ ys, y.1 = d :: ys := by
        cases hy1 : y.1 with
        | nil => rw [hy1] at hd; simp at hd
        | cons a l =>
          rw [hy1] at hd
          have : a = d := by simpa using hd
          exact ⟨l, by rw [this]⟩
      have hc128 : c < 128 := by omega
      have hd128 : d < 128 := by omega
      have hm2 : m = [UInt8.ofNat c, UInt8.ofNat d] := by
        rw [← hm, hc, hys, enc_cons, enc_cons, enc_nil, encR_asc hc128, encR_asc hd128]
        rfl
      rw [hkc] at e
      have hv := kind_pair e
      rw [← hm2] at hv
      have hu := Ev.unique hk1 hv
      omega
end Go.Proofs.YtmeihdlkadjoeaaGreatDoor
