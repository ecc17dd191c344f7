-- PRINTED BY print.sh 35421559b90ae4d0a3588c463048766b98c2df88dd9212a6774a882060cdf62d: not written by this session
import Derived.Test.YtmeihdlkadjoeaaGreatDoorPFnTokensBlockx0
namespace Go.Proofs.YtmeihdlkadjoeaaGreatDoor.PFnTokensBlock
open Go.RowKit Go.Proofs.YtmeihdlkadjoeaaGreatDoorW.PrintWords Go.Proofs.YtmeihdlkadjoeaaGreatDoorW.PrintLast Go.Proofs.YtmeihdlkadjoeaaGreatDoorW.PrintMore
attribute [local go_sem] max2_int min2_int max_two min_two max_three min_three max_four min_four   -- for this text's walks alone
set_option linter.unusedVariables false
set_option linter.unusedSimpArgs false

/-! ### spec_commentLength: function 29 -/
mutual
def spec_commentLength.j0 : Nat → ByteArray → Bool → Option (Int)
  | 0, _, _ => none
  | k + 1, x0, x11 => if x11 = true then (some 0) else (spec_commentLength.l0 k x0 2)
def spec_commentLength.l0 : Nat → ByteArray → Int → Option (Int)
  | 0, _, _ => none
  | k + 1, x0, x3 => if (wrap64 (x3 + 2)) ≤ (x0.size : Int) then (if 0 ≤ x3 then (if x3 < (x0.size : Int) then (if (bt x0 x3) = 10 then (spec_commentLength.j2 k x0 x3 true) else (if (bt x0 x3) = 13 then (spec_commentLength.j2 k x0 x3 true) else (spec_commentLength.j2 k x0 x3 (decide ((bt x0 x3) ≥ 127))))) else (none)) else (none)) else (some 0)
def spec_commentLength.j2 : Nat → ByteArray → Int → Bool → Option (Int)
  | 0, _, _, _ => none
  | k + 1, x0, x3, x34 => if x34 = true then (some 0) else (if 0 ≤ x3 then (if x3 ≤ (wrap64 (x3 + 2)) then (if (wrap64 (x3 + 2)) ≤ (x0.size : Int) then (if (x0.extract (x3 : Int).toNat ((wrap64 (x3 + 2)) : Int).toNat).toList = ([42, 47] : List UInt8) then (some (wrap64 (x3 + 2))) else (spec_commentLength.l0 k x0 (wrap64 (x3 + 1)))) else (none)) else (none)) else (none))
end
def spec_commentLength.f (k : Nat) (a0 : ByteArray) : Option (Int) := if (a0.size : Int) < 4 then (spec_commentLength.j0 k a0 true) else (if 0 ≤ 2 then (if 2 ≤ (a0.size : Int) then (spec_commentLength.j0 k a0 ((a0.extract 0 2).toList != ([47, 42] : List UInt8))) else (none)) else (none))
theorem spec_commentLength.mono_l : ∀ k, (∀ y0 y1, LeO (spec_commentLength.j0 k y0 y1) (spec_commentLength.j0 (k + 1) y0 y1)) ∧ (∀ y0 y1, LeO (spec_commentLength.l0 k y0 y1) (spec_commentLength.l0 (k + 1) y0 y1)) ∧ (∀ y0 y1 y2, LeO (spec_commentLength.j2 k y0 y1 y2) (spec_commentLength.j2 (k + 1) y0 y1 y2))
  | 0 => ⟨fun _ _ r h => by simp [spec_commentLength.j0] at h, fun _ _ r h => by simp [spec_commentLength.l0] at h, fun _ _ _ r h => by simp [spec_commentLength.j2] at h⟩
  | k + 1 => by
    obtain ⟨ih0, ih1, ih2⟩ := spec_commentLength.mono_l k
    refine ⟨?_, ?_, ?_⟩
    · intro y0 y1
      unfold spec_commentLength.j0
      repeat' first
      | (with_reducible exact ih0 _ _)
      | (with_reducible exact ih1 _ _)
      | (with_reducible exact ih2 _ _ _)
      | (with_reducible exact LeO.refl _)
      | (with_reducible exact LeO.none _)
      | (with_reducible refine LeO.ite ?_ ?_)
      | (with_reducible refine LeO.bind ?_ (fun _ => ?_))
      | exact ih0 _ _
      | exact ih1 _ _
      | exact ih2 _ _ _
      | exact LeO.none _
      | refine LeO.ite ?_ ?_
      | refine LeO.bind ?_ (fun _ => ?_)
    · intro y0 y1
      unfold spec_commentLength.l0
      repeat' first
      | (with_reducible exact ih0 _ _)
      | (with_reducible exact ih1 _ _)
      | (with_reducible exact ih2 _ _ _)
      | (with_reducible exact LeO.refl _)
      | (with_reducible exact LeO.none _)
      | (with_reducible refine LeO.ite ?_ ?_)
      | (with_reducible refine LeO.bind ?_ (fun _ => ?_))
      | exact ih0 _ _
      | exact ih1 _ _
      | exact ih2 _ _ _
      | exact LeO.none _
      | refine LeO.ite ?_ ?_
      | refine LeO.bind ?_ (fun _ => ?_)
    · intro y0 y1 y2
      unfold spec_commentLength.j2
      repeat' first
      | (with_reducible exact ih0 _ _)
      | (with_reducible exact ih1 _ _)
      | (with_reducible exact ih2 _ _ _)
      | (with_reducible exact LeO.refl _)
      | (with_reducible exact LeO.none _)
      | (with_reducible refine LeO.ite ?_ ?_)
      | (with_reducible refine LeO.bind ?_ (fun _ => ?_))
      | exact ih0 _ _
      | exact ih1 _ _
      | exact ih2 _ _ _
      | exact LeO.none _
      | refine LeO.ite ?_ ?_
      | refine LeO.bind ?_ (fun _ => ?_)
theorem spec_commentLength.mono : ∀ a0 k, LeO (spec_commentLength.f k a0) (spec_commentLength.f (k + 1) a0) := by
  intro a0 k
  obtain ⟨ih0, ih1, ih2⟩ := spec_commentLength.mono_l k
  unfold spec_commentLength.f
  repeat' first
      | (with_reducible exact ih0 _ _)
      | (with_reducible exact ih1 _ _)
      | (with_reducible exact ih2 _ _ _)
      | (with_reducible exact LeO.refl _)
      | (with_reducible exact LeO.none _)
      | (with_reducible refine LeO.ite ?_ ?_)
      | (with_reducible refine LeO.bind ?_ (fun _ => ?_))
      | exact ih0 _ _
      | exact ih1 _ _
      | exact ih2 _ _ _
      | exact LeO.none _
      | refine LeO.ite ?_ ?_
      | refine LeO.bind ?_ (fun _ => ?_)
set_option maxHeartbeats 8000000 in
set_option maxRecDepth 100000 in
theorem spec_commentLength.calls (k : Nat) (a0 : ByteArray) (r : Int) (w : World) (h : spec_commentLength.f k a0 = some r) :
    Calls Tryz.prog 29 #[.string a0] w fun e w' => e = .returned (.int .i64 r) ∧ Drawn0 w w' := by
  have H : (if (a0.size : Int) < 4 then (spec_commentLength.j0 k a0 true) else (if 0 ≤ 2 then (if 2 ≤ (a0.size : Int) then (spec_commentLength.j0 k a0 ((a0.extract 0 2).toList != ([47, 42] : List UInt8))) else (none)) else (none))) = some r := h
  clear h
  have HC2 := Aside0.mk H
  clear H
  go_enter Tryz.func29, Tryz.ntmps29
  go_upto_region 1 with (fail)
  go_cut [11] (fun v11 wc => ∃ (kq : Nat) (x11_1 : Bool), v11 = .bool x11_1 ∧ Aside0 (spec_commentLength.j0 kq a0 x11_1 = some r) ∧ Aside0 (kq ≤ k) ∧ Drawn0 w wc)
  case first =>
    have H := HC2.out
    clear HC2
    by_cases c3 : (a0.size : Int) < 4
    · rw [if_pos c3] at H
      have c3b0 : decide ((a0.size : Int) < 4) = true := decide_eq_true c3
      have c3b1 : decide (a0.size < 4) = true := decide_eq_true (by omega)
      clear c3
      (first | rw [c3b0] | (simp only [i64_w, i32_w]; rw [c3b0]) | skip)
      have H' := Aside0.mk H
      clear H
      go_wp2
      go_meet
      case rel => exact ⟨_, (true), (by first | rfl | (simp; done) | (simp [*]; done)), H', ⟨by first | omega | exact Nat.le_refl _⟩, by repeat (first | exact Drawn0.refl _ | apply Drawn0.step)⟩
    · rw [if_neg c3] at H
      have c3b0 : decide ((a0.size : Int) < 4) = false := decide_eq_false c3
      have c3b1 : decide (a0.size < 4) = false := decide_eq_false (by omega)
      clear c3
      (first | rw [c3b0] | (simp only [i64_w, i32_w]; rw [c3b0]) | skip)
      by_cases c4 : 0 ≤ 2
      · rw [if_pos c4] at H
        have c4b0 := eq_true c4
        have c4b1 : decide (0 ≤ 2) = true := decide_eq_true c4
        clear c4
        by_cases c5 : 2 ≤ (a0.size : Int)
        · rw [if_pos c5] at H
          have c5b0 := eq_true c5
          have c5b1 : decide (2 ≤ (a0.size : Int)) = true := decide_eq_true c5
          clear c5
          have H' := Aside0.mk H
          clear H
          go_wp2
          go_meet
          case rel => exact ⟨_, (((a0.extract 0 2).toList != ([47, 42] : List UInt8))), (by first | rfl | (simp; done) | (simp [*]; done)), H', ⟨by first | omega | exact Nat.le_refl _⟩, by repeat (first | exact Drawn0.refl _ | apply Drawn0.step)⟩
        · rw [if_neg c5] at H
          exact absurd H (by simp)
      · rw [if_neg c4] at H
        exact absurd H (by simp)
  case rest =>
    clear HC2
    try clear c2
    try clear p2
    try clear c3
    try clear c3b0
    try clear c3b1
    try clear c4
    try clear c4b0
    try clear c4b1
    try clear c5
    try clear c5b0
    try clear c5b1
    obtain ⟨kq, x11_1, rfl, HA, HJ1, ⟨mc1, rfl⟩⟩ := hcut
    cases kq with
    | zero => exact absurd HA.out (by simp [spec_commentLength.j0])
    | succ kj1 =>
      have H := HA.out
      clear HA
      simp only [spec_commentLength.j0] at H
      by_cases c6 : x11_1 = true
      · subst c6
        have H1 : (some 0) = some r := by rw [if_pos rfl] at H; exact H
        clear H
        have H := H1
        clear H1
        obtain rfl := Option.some.inj H
        go_wp2
        go_ret
        exact ⟨by first | rfl | (simp; done) | (simp [*]; done), by repeat (first | exact Drawn0.refl _ | apply Drawn0.step)⟩
      · replace c6 := Bool.eq_false_iff.mpr c6
        subst c6
        have H1 : (spec_commentLength.l0 kj1 a0 2) = some r := by rw [if_neg (show ¬ (false = true) by decide)] at H; exact H
        clear H
        have H := H1
        clear H1
        have H' := Aside0.mk H
        clear H
        go_wp2
        go_loopg [3] kj1 (fun kq v3 w' => ∃ (x3_2 : Int), v3 = .int .i64 x3_2 ∧ Aside0 (spec_commentLength.l0 kq a0 x3_2 = some r) ∧ Aside0 (kq ≤ kj1) ∧ Drawn0 w w')
        case atStart => exact ⟨(2), (by first | rfl | (simp; done) | (simp [*]; done)), H', ⟨Nat.le_refl _⟩, by repeat (first | exact Drawn0.refl _ | apply Drawn0.step)⟩
        case round =>
          clear H'
          try clear c1
          try clear c2
          try clear p2
          try clear c3
          try clear c3b0
          try clear c3b1
          try clear c4
          try clear c4b0
          try clear c4b1
          try clear c5
          try clear c5b0
          try clear c5b1
          try clear c6
          try clear p2
          obtain ⟨x3_2, rfl, HA, HK2, ⟨m2, rfl⟩⟩ := hrel
          cases gk with
          | zero => exact absurd HA.out (by simp [spec_commentLength.l0])
          | succ k2 =>
            have H := HA.out
            clear HA
            simp only [spec_commentLength.l0] at H
            by_cases c7 : (wrap64 (x3_2 + 2)) ≤ (a0.size : Int)
            · rw [if_pos c7] at H
              have c7b0 : decide ((wrap64 (x3_2 + 2)) ≤ (a0.size : Int)) = true := decide_eq_true c7
              clear c7
              have HC8 := Aside0.mk H
              clear H
              go_upto_region 6 with (fail)
              go_cut [34] (fun v34 wc => ∃ (kq : Nat) (x34_7 : Bool), v34 = .bool x34_7 ∧ Aside0 (spec_commentLength.j2 kq a0 x3_2 x34_7 = some r) ∧ Aside0 (kq ≤ k2) ∧ Drawn0 w wc)
              case first =>
                have H := HC8.out
                clear HC8
                by_cases c9 : 0 ≤ x3_2
                · rw [if_pos c9] at H
                  have c9b0 : decide (0 ≤ x3_2) = true := decide_eq_true c9
                  clear c9
                  (first | rw [c9b0] | (simp only [i64_w, i32_w]; rw [c9b0]) | skip)
                  by_cases c10 : x3_2 < (a0.size : Int)
                  · rw [if_pos c10] at H
                    have c10b0 : decide (x3_2 < (a0.size : Int)) = true := decide_eq_true c10
                    clear c10
                    by_cases c12 : (bt a0 x3_2) = 10
                    · rw [if_pos c12] at H
                      have c12b0 : ((bt a0 x3_2) == 10) = true := beq_iff_eq.mpr c12
                      have c12b1 : ((bt a0 x3_2) != 10) = false := bne_eq_false_iff_eq.mpr c12
                      clear c12
                      have H' := Aside0.mk H
                      clear H
                      have p11 : 0 ≤ (x3_2 : Int) := of_decide_eq_true (by first | (with_reducible assumption) | assumption)
                      have q11 : x3_2 < (a0.size : Int) := of_decide_eq_true (by first | (with_reducible assumption) | assumption)
                      have hx11 := bt_at a0 x3_2
                      replace p11 := eq_true p11
                      replace q11 := eq_true q11
                      go_wp2
                      go_meet
                      case rel => exact ⟨_, (true), (by first | rfl | (simp; done) | (simp [*]; done)), H', ⟨by have := HJ1.out; have := HK2.out; first | omega | exact Nat.le_refl _⟩, by repeat (first | exact Drawn0.refl _ | apply Drawn0.step)⟩
                    · rw [if_neg c12] at H
                      have c12b0 : ((bt a0 x3_2) == 10) = false := beq_eq_false_iff_ne.mpr c12
                      have c12b1 : ((bt a0 x3_2) != 10) = true := bne_iff_ne.mpr c12
                      by_cases c14 : (bt a0 x3_2) = 13
                      · rw [if_pos c14] at H
                        have c14b0 : ((bt a0 x3_2) == 13) = true := beq_iff_eq.mpr c14
                        have c14b1 : ((bt a0 x3_2) != 13) = false := bne_eq_false_iff_eq.mpr c14
                        clear c14
                        have H' := Aside0.mk H
                        clear H
                        have p11 : 0 ≤ (x3_2 : Int) := of_decide_eq_true (by first | (with_reducible assumption) | assumption)
                        have q11 : x3_2 < (a0.size : Int) := of_decide_eq_true (by first | (with_reducible assumption) | assumption)
                        have hx11 := bt_at a0 x3_2
                        replace p11 := eq_true p11
                        replace q11 := eq_true q11
                        have p13 : 0 ≤ (x3_2 : Int) := of_decide_eq_true (by first | (with_reducible assumption) | assumption)
                        have q13 : x3_2 < (a0.size : Int) := of_decide_eq_true (by first | (with_reducible assumption) | assumption)
                        have hx13 := bt_at a0 x3_2
                        replace p13 := eq_true p13
                        replace q13 := eq_true q13
                        go_wp2
                        go_meet
                        case rel => exact ⟨_, (true), (by first | rfl | (simp; done) | (simp [*]; done)), H', ⟨by have := HJ1.out; have := HK2.out; first | omega | exact Nat.le_refl _⟩, by repeat (first | exact Drawn0.refl _ | apply Drawn0.step)⟩
                      · rw [if_neg c14] at H
                        have c14b0 : ((bt a0 x3_2) == 13) = false := beq_eq_false_iff_ne.mpr c14
                        have c14b1 : ((bt a0 x3_2) != 13) = true := bne_iff_ne.mpr c14
                        have H' := Aside0.mk H
                        clear H
                        have p11 : 0 ≤ (x3_2 : Int) := of_decide_eq_true (by first | (with_reducible assumption) | assumption)
                        have q11 : x3_2 < (a0.size : Int) := of_decide_eq_true (by first | (with_reducible assumption) | assumption)
                        have hx11 := bt_at a0 x3_2
                        replace p11 := eq_true p11
                        replace q11 := eq_true q11
                        have p13 : 0 ≤ (x3_2 : Int) := of_decide_eq_true (by first | (with_reducible assumption) | assumption)
                        have q13 : x3_2 < (a0.size : Int) := of_decide_eq_true (by first | (with_reducible assumption) | assumption)
                        have hx13 := bt_at a0 x3_2
                        replace p13 := eq_true p13
                        replace q13 := eq_true q13
                        have p15 : 0 ≤ (x3_2 : Int) := of_decide_eq_true (by first | (with_reducible assumption) | assumption)
                        have q15 : x3_2 < (a0.size : Int) := of_decide_eq_true (by first | (with_reducible assumption) | assumption)
                        have hx15 := bt_at a0 x3_2
                        replace p15 := eq_true p15
                        replace q15 := eq_true q15
                        go_wp2
                        go_meet
                        case rel => exact ⟨_, (decide ((bt a0 x3_2) ≥ 127)), (by first | rfl | (simp; done) | (simp [*]; done)), H', ⟨by have := HJ1.out; have := HK2.out; first | omega | exact Nat.le_refl _⟩, by repeat (first | exact Drawn0.refl _ | apply Drawn0.step)⟩
                  · rw [if_neg c10] at H
                    exact absurd H (by simp)
                · rw [if_neg c9] at H
                  exact absurd H (by simp)
              case rest =>
                clear HC8
                try clear c1
                try clear p1
                try clear q1
                try clear hx1
                try clear c2
                try clear p2
                try clear c3
                try clear c3b0
                try clear c3b1
                try clear c4
                try clear c4b0
                try clear c4b1
                try clear c5
                try clear c5b0
                try clear c5b1
                try clear c6
                try clear p6
                try clear c7
                try clear c7b0
                try clear c9
                try clear c9b0
                try clear c10
                try clear c10b0
                try clear p11
                try clear q11
                try clear hx11
                try clear c12
                try clear c12b0
                try clear c12b1
                try clear p13
                try clear q13
                try clear hx13
                try clear c14
                try clear c14b0
                try clear c14b1
                try clear p15
                try clear q15
                try clear hx15
                try clear p11
                try clear p13
                try clear p15
                try clear p2
                try clear q11
                try clear q13
                try clear q15
                obtain ⟨kq, x34_7, rfl, HA, HJ7, ⟨mc7, rfl⟩⟩ := hcut
                cases kq with
                | zero => exact absurd HA.out (by simp [spec_commentLength.j2])
                | succ kj7 =>
                  have H := HA.out
                  clear HA
                  simp only [spec_commentLength.j2] at H
                  by_cases c16 : x34_7 = true
                  · subst c16
                    have H1 : (some 0) = some r := by rw [if_pos rfl] at H; exact H
                    clear H
                    have H := H1
                    clear H1
                    obtain rfl := Option.some.inj H
                    go_wp2
                    go_ret
                    exact ⟨by first | rfl | (simp; done) | (simp [*]; done), by repeat (first | exact Drawn0.refl _ | apply Drawn0.step)⟩
                  · replace c16 := Bool.eq_false_iff.mpr c16
                    subst c16
                    have H1 : (if 0 ≤ x3_2 then (if x3_2 ≤ (wrap64 (x3_2 + 2)) then (if (wrap64 (x3_2 + 2)) ≤ (a0.size : Int) then (if (a0.extract (x3_2 : Int).toNat ((wrap64 (x3_2 + 2)) : Int).toNat).toList = ([42, 47] : List UInt8) then (some (wrap64 (x3_2 + 2))) else (spec_commentLength.l0 kj7 a0 (wrap64 (x3_2 + 1)))) else (none)) else (none)) else (none)) = some r := by rw [if_neg (show ¬ (false = true) by decide)] at H; exact H
                    clear H
                    have H := H1
                    clear H1
                    by_cases c17 : 0 ≤ x3_2
                    · rw [if_pos c17] at H
                      have c17b0 := eq_true c17
                      have c17b1 : decide (0 ≤ x3_2) = true := decide_eq_true c17
                      clear c17
                      by_cases c18 : x3_2 ≤ (wrap64 (x3_2 + 2))
                      · rw [if_pos c18] at H
                        have c18b0 := eq_true c18
                        have c18b1 : decide (x3_2 ≤ (wrap64 (x3_2 + 2))) = true := decide_eq_true c18
                        by_cases c19 : (wrap64 (x3_2 + 2)) ≤ (a0.size : Int)
                        · rw [if_pos c19] at H
                          have c19b0 := eq_true c19
                          have c19b1 : decide ((wrap64 (x3_2 + 2)) ≤ (a0.size : Int)) = true := decide_eq_true c19
                          by_cases c20 : (a0.extract (x3_2 : Int).toNat ((wrap64 (x3_2 + 2)) : Int).toNat).toList = ([42, 47] : List UInt8)
                          · rw [if_pos c20] at H
                            have c20b0 : ((a0.extract (x3_2 : Int).toNat ((wrap64 (x3_2 + 2)) : Int).toNat).toList == ([42, 47] : List UInt8)) = true := beq_iff_eq.mpr c20
                            have c20b1 : ((a0.extract (x3_2 : Int).toNat ((wrap64 (x3_2 + 2)) : Int).toNat).toList != ([42, 47] : List UInt8)) = false := bne_eq_false_iff_eq.mpr c20
                            clear c20
                            obtain rfl := Option.some.inj H
                            go_wp2
                            go_ret
                            exact ⟨by first | rfl | (simp; done) | (simp [*]; done), by repeat (first | exact Drawn0.refl _ | apply Drawn0.step)⟩
                          · rw [if_neg c20] at H
                            have c20b0 : ((a0.extract (x3_2 : Int).toNat ((wrap64 (x3_2 + 2)) : Int).toNat).toList == ([42, 47] : List UInt8)) = false := beq_eq_false_iff_ne.mpr c20
                            have c20b1 : ((a0.extract (x3_2 : Int).toNat ((wrap64 (x3_2 + 2)) : Int).toNat).toList != ([42, 47] : List UInt8)) = true := bne_iff_ne.mpr c20
                            have H' := Aside0.mk H
                            clear H
                            go_wp2
                            go_roundg kj7
                            case measure => have := HJ1.out; have := HK2.out; have := HJ7.out; omega
                            case rel => exact ⟨(wrap64 (x3_2 + 1)), (by first | rfl | (simp; done) | (simp [*]; done)), H', ⟨by have := HJ1.out; have := HK2.out; have := HJ7.out; omega⟩, by repeat (first | exact Drawn0.refl _ | apply Drawn0.step)⟩
                        · rw [if_neg c19] at H
                          exact absurd H (by simp)
                      · rw [if_neg c18] at H
                        exact absurd H (by simp)
                    · rw [if_neg c17] at H
                      exact absurd H (by simp)
            · rw [if_neg c7] at H
              have c7b0 : decide ((wrap64 (x3_2 + 2)) ≤ (a0.size : Int)) = false := decide_eq_false c7
              clear c7
              obtain rfl := Option.some.inj H
              go_wp2
              go_ret
              exact ⟨by first | rfl | (simp; done) | (simp [*]; done), by repeat (first | exact Drawn0.refl _ | apply Drawn0.step)⟩

/-! ### spec_IsGap: function 19 -/
mutual
def spec_IsGap.l0 : Nat → ByteArray → Int → Option (Bool)
  | 0, _, _ => none
  | k + 1, x0, x3 => if x3 < (x0.size : Int) then (if 0 ≤ x3 then (if (bt x0 x3) = 32 then (spec_IsGap.j1 k x0 x3 true) else (spec_IsGap.j1 k x0 x3 ((bt x0 x3) == 9))) else (none)) else (some true)
def spec_IsGap.j1 : Nat → ByteArray → Int → Bool → Option (Bool)
  | 0, _, _, _ => none
  | k + 1, x0, x3, x20 => if x20 = true then (spec_IsGap.l0 k x0 (wrap64 (x3 + 1))) else (if 0 ≤ x3 then (if x3 ≤ (x0.size : Int) then ((spec_commentLength.f k (x0.extract (x3 : Int).toNat x0.size)).bind fun t114 => (if t114 = 0 then (some false) else (spec_IsGap.l0 k x0 (wrap64 (x3 + t114))))) else (none)) else (none))
end
def spec_IsGap.f (k : Nat) (a0 : ByteArray) : Option (Bool) := if a0.toList = ([] : List UInt8) then (some false) else (spec_IsGap.l0 k a0 0)
theorem spec_IsGap.mono_l : ∀ k, (∀ y0 y1, LeO (spec_IsGap.l0 k y0 y1) (spec_IsGap.l0 (k + 1) y0 y1)) ∧ (∀ y0 y1 y2, LeO (spec_IsGap.j1 k y0 y1 y2) (spec_IsGap.j1 (k + 1) y0 y1 y2))
  | 0 => ⟨fun _ _ r h => by simp [spec_IsGap.l0] at h, fun _ _ _ r h => by simp [spec_IsGap.j1] at h⟩
  | k + 1 => by
    obtain ⟨ih0, ih1⟩ := spec_IsGap.mono_l k
    refine ⟨?_, ?_⟩
    · intro y0 y1
      unfold spec_IsGap.l0
      repeat' first
      | (with_reducible exact ih0 _ _)
      | (with_reducible exact ih1 _ _ _)
      | (with_reducible exact spec_commentLength.mono _ _)
      | (with_reducible exact LeO.refl _)
      | (with_reducible exact LeO.none _)
      | (with_reducible refine LeO.ite ?_ ?_)
      | (with_reducible refine LeO.bind ?_ (fun _ => ?_))
      | exact ih0 _ _
      | exact ih1 _ _ _
      | exact spec_commentLength.mono _ _
      | exact LeO.none _
      | refine LeO.ite ?_ ?_
      | refine LeO.bind ?_ (fun _ => ?_)
    · intro y0 y1 y2
      unfold spec_IsGap.j1
      repeat' first
      | (with_reducible exact ih0 _ _)
      | (with_reducible exact ih1 _ _ _)
      | (with_reducible exact spec_commentLength.mono _ _)
      | (with_reducible exact LeO.refl _)
      | (with_reducible exact LeO.none _)
      | (with_reducible refine LeO.ite ?_ ?_)
      | (with_reducible refine LeO.bind ?_ (fun _ => ?_))
      | exact ih0 _ _
      | exact ih1 _ _ _
      | exact spec_commentLength.mono _ _
      | exact LeO.none _
      | refine LeO.ite ?_ ?_
      | refine LeO.bind ?_ (fun _ => ?_)
theorem spec_IsGap.mono : ∀ a0 k, LeO (spec_IsGap.f k a0) (spec_IsGap.f (k + 1) a0) := by
  intro a0 k
  obtain ⟨ih0, ih1⟩ := spec_IsGap.mono_l k
  unfold spec_IsGap.f
  repeat' first
      | (with_reducible exact ih0 _ _)
      | (with_reducible exact ih1 _ _ _)
      | (with_reducible exact spec_commentLength.mono _ _)
      | (with_reducible exact LeO.refl _)
      | (with_reducible exact LeO.none _)
      | (with_reducible refine LeO.ite ?_ ?_)
      | (with_reducible refine LeO.bind ?_ (fun _ => ?_))
      | exact ih0 _ _
      | exact ih1 _ _ _
      | exact spec_commentLength.mono _ _
      | exact LeO.none _
      | refine LeO.ite ?_ ?_
      | refine LeO.bind ?_ (fun _ => ?_)
set_option maxHeartbeats 8000000 in
set_option maxRecDepth 100000 in
theorem spec_IsGap.calls (k : Nat) (a0 : ByteArray) (r : Bool) (w : World) (h : spec_IsGap.f k a0 = some r) :
    Calls Tryz.prog 19 #[.string a0] w fun e w' => e = .returned (.bool r) ∧ Drawn0 w w' := by
  have H : (if a0.toList = ([] : List UInt8) then (some false) else (spec_IsGap.l0 k a0 0)) = some r := h
  clear h
  by_cases c2 : a0.toList = ([] : List UInt8)
  · rw [if_pos c2] at H
    have c2b0 : (a0.toList == ([] : List UInt8)) = true := beq_iff_eq.mpr c2
    have c2b1 : (a0.toList != ([] : List UInt8)) = false := bne_eq_false_iff_eq.mpr c2
    clear c2
    obtain rfl := Option.some.inj H
    go_enter Tryz.func19, Tryz.ntmps19
    go_wp2
    go_ret
    exact ⟨by first | rfl | (simp; done) | (simp [*]; done), by repeat (first | exact Drawn0.refl _ | apply Drawn0.step)⟩
  · rw [if_neg c2] at H
    have c2b0 : (a0.toList == ([] : List UInt8)) = false := beq_eq_false_iff_ne.mpr c2
    have c2b1 : (a0.toList != ([] : List UInt8)) = true := bne_iff_ne.mpr c2
    have H' := Aside0.mk H
    clear H
    go_enter Tryz.func19, Tryz.ntmps19
    go_wp2
    go_loopg [3] k (fun kq v3 w' => ∃ (x3_1 : Int), v3 = .int .i64 x3_1 ∧ Aside0 (spec_IsGap.l0 kq a0 x3_1 = some r) ∧ Aside0 (kq ≤ k) ∧ Drawn0 w w')
    case atStart => exact ⟨(0), (by first | rfl | (simp; done) | (simp [*]; done)), H', ⟨Nat.le_refl _⟩, by repeat (first | exact Drawn0.refl _ | apply Drawn0.step)⟩
    case round =>
      clear H'
      try clear c1
      try clear c2
      try clear c2b0
      try clear c2b1
      try clear p2
      obtain ⟨x3_1, rfl, HA, HK1, ⟨m1, rfl⟩⟩ := hrel
      cases gk with
      | zero => exact absurd HA.out (by simp [spec_IsGap.l0])
      | succ k1 =>
        have H := HA.out
        clear HA
        simp only [spec_IsGap.l0] at H
        by_cases c3 : x3_1 < (a0.size : Int)
        · rw [if_pos c3] at H
          have c3b0 : decide (x3_1 < (a0.size : Int)) = true := decide_eq_true c3
          clear c3
          have HC4 := Aside0.mk H
          clear H
          go_upto_region 5 with (fail)
          go_cut [20] (fun v20 wc => ∃ (kq : Nat) (x20_3 : Bool), v20 = .bool x20_3 ∧ Aside0 (spec_IsGap.j1 kq a0 x3_1 x20_3 = some r) ∧ Aside0 (kq ≤ k1) ∧ Drawn0 w wc)
          case first =>
            have H := HC4.out
            clear HC4
            by_cases c5 : 0 ≤ x3_1
            · rw [if_pos c5] at H
              have c5b0 : decide (0 ≤ x3_1) = true := decide_eq_true c5
              clear c5
              (first | rw [c5b0] | (simp only [i64_w, i32_w]; rw [c5b0]) | skip)
              by_cases c7 : (bt a0 x3_1) = 32
              · rw [if_pos c7] at H
                have c7b0 : ((bt a0 x3_1) == 32) = true := beq_iff_eq.mpr c7
                have c7b1 : ((bt a0 x3_1) != 32) = false := bne_eq_false_iff_eq.mpr c7
                clear c7
                have H' := Aside0.mk H
                clear H
                have p6 : 0 ≤ (x3_1 : Int) := of_decide_eq_true (by first | (with_reducible assumption) | assumption)
                have q6 : x3_1 < (a0.size : Int) := of_decide_eq_true (by first | (with_reducible assumption) | assumption)
                have hx6 := bt_at a0 x3_1
                replace p6 := eq_true p6
                replace q6 := eq_true q6
                go_wp2
                go_meet
                case rel => exact ⟨_, (true), (by first | rfl | (simp; done) | (simp [*]; done)), H', ⟨by have := HK1.out; first | omega | exact Nat.le_refl _⟩, by repeat (first | exact Drawn0.refl _ | apply Drawn0.step)⟩
              · rw [if_neg c7] at H
                have c7b0 : ((bt a0 x3_1) == 32) = false := beq_eq_false_iff_ne.mpr c7
                have c7b1 : ((bt a0 x3_1) != 32) = true := bne_iff_ne.mpr c7
                have H' := Aside0.mk H
                clear H
                have p6 : 0 ≤ (x3_1 : Int) := of_decide_eq_true (by first | (with_reducible assumption) | assumption)
                have q6 : x3_1 < (a0.size : Int) := of_decide_eq_true (by first | (with_reducible assumption) | assumption)
                have hx6 := bt_at a0 x3_1
                replace p6 := eq_true p6
                replace q6 := eq_true q6
                have p8 : 0 ≤ (x3_1 : Int) := of_decide_eq_true (by first | (with_reducible assumption) | assumption)
                have q8 : x3_1 < (a0.size : Int) := of_decide_eq_true (by first | (with_reducible assumption) | assumption)
                have hx8 := bt_at a0 x3_1
                replace p8 := eq_true p8
                replace q8 := eq_true q8
                go_wp2
                go_meet
                case rel => exact ⟨_, (((bt a0 x3_1) == 9)), (by first | rfl | (simp; done) | (simp [*]; done)), H', ⟨by have := HK1.out; first | omega | exact Nat.le_refl _⟩, by repeat (first | exact Drawn0.refl _ | apply Drawn0.step)⟩
            · rw [if_neg c5] at H
              exact absurd H (by simp)
          case rest =>
            clear HC4
            try clear c1
            try clear c2
            try clear c2b0
            try clear c2b1
            try clear p2
            try clear c3
            try clear c3b0
            try clear c5
            try clear c5b0
            try clear p6
            try clear q6
            try clear hx6
            try clear c7
            try clear c7b0
            try clear c7b1
            try clear p8
            try clear q8
            try clear hx8
            try clear p2
            try clear p6
            try clear p8
            try clear q6
            try clear q8
            obtain ⟨kq, x20_3, rfl, HA, HJ3, ⟨mc3, rfl⟩⟩ := hcut
            cases kq with
            | zero => exact absurd HA.out (by simp [spec_IsGap.j1])
            | succ kj3 =>
              have H := HA.out
              clear HA
              simp only [spec_IsGap.j1] at H
              by_cases c9 : x20_3 = true
              · subst c9
                have H1 : (spec_IsGap.l0 kj3 a0 (wrap64 (x3_1 + 1))) = some r := by rw [if_pos rfl] at H; exact H
                clear H
                have H := H1
                clear H1
                have H' := Aside0.mk H
                clear H
                go_wp2
                go_roundg kj3
                case measure => have := HK1.out; have := HJ3.out; omega
                case rel => exact ⟨(wrap64 (x3_1 + 1)), (by first | rfl | (simp; done) | (simp [*]; done)), H', ⟨by have := HK1.out; have := HJ3.out; omega⟩, by repeat (first | exact Drawn0.refl _ | apply Drawn0.step)⟩
              · replace c9 := Bool.eq_false_iff.mpr c9
                subst c9
                have H1 : (if 0 ≤ x3_1 then (if x3_1 ≤ (a0.size : Int) then ((spec_commentLength.f kj3 (a0.extract (x3_1 : Int).toNat a0.size)).bind fun t114 => (if t114 = 0 then (some false) else (spec_IsGap.l0 kj3 a0 (wrap64 (x3_1 + t114))))) else (none)) else (none)) = some r := by rw [if_neg (show ¬ (false = true) by decide)] at H; exact H
                clear H
                have H := H1
                clear H1
                by_cases c10 : 0 ≤ x3_1
                · rw [if_pos c10] at H
                  have c10b0 := eq_true c10
                  have c10b1 : decide (0 ≤ x3_1) = true := decide_eq_true c10
                  clear c10
                  by_cases c11 : x3_1 ≤ (a0.size : Int)
                  · rw [if_pos c11] at H
                    have c11b0 := eq_true c11
                    have c11b1 : decide (x3_1 ≤ (a0.size : Int)) = true := decide_eq_true c11
                    clear c11
                    replace H := Option.bind_eq_some_iff.mp H
                    obtain ⟨t114, A120, H⟩ := H
                    replace H : (if t114 = 0 then (some false) else (spec_IsGap.l0 kj3 a0 (wrap64 (x3_1 + t114)))) = some r := H
                    have A12 := Aside0.mk A120
                    clear A120
                    by_cases c13 : t114 = 0
                    · rw [if_pos c13] at H
                      have c13b0 : (t114 == 0) = true := beq_iff_eq.mpr c13
                      have c13b1 : (t114 != 0) = false := bne_eq_false_iff_eq.mpr c13
                      clear c13
                      obtain rfl := Option.some.inj H
                      go_wp2_with (first | ((with_reducible refine gate_callee (f := 29) rfl ?_); refine goesL_ (some 26) rfl rfl Tryz.func29 (by kernel_rfl) rfl #[.string (a0.extract (x3_1 : Int).toNat a0.size)] rfl (by (try simp only [List.map_toArray, List.map_cons, List.map_nil]); first | done | rfl | (simp only [List.length_drop, List.length_take]; rfl)) ?_; (with_reducible refine (spec_commentLength.calls kj3 (a0.extract (x3_1 : Int).toNat a0.size) t114 _ A12.out).mono ?_); rintro e w' ⟨rfl, ⟨nd, rfl⟩⟩; refine ⟨_, rfl, ?_⟩))
                      go_ret
                      exact ⟨by first | rfl | (simp; done) | (simp [*]; done), by repeat (first | exact Drawn0.refl _ | apply Drawn0.step)⟩
                    · rw [if_neg c13] at H
                      have c13b0 : (t114 == 0) = false := beq_eq_false_iff_ne.mpr c13
                      have c13b1 : (t114 != 0) = true := bne_iff_ne.mpr c13
                      have H' := Aside0.mk H
                      clear H
                      go_wp2_with (first | ((with_reducible refine gate_callee (f := 29) rfl ?_); refine goesL_ (some 26) rfl rfl Tryz.func29 (by kernel_rfl) rfl #[.string (a0.extract (x3_1 : Int).toNat a0.size)] rfl (by (try simp only [List.map_toArray, List.map_cons, List.map_nil]); first | done | rfl | (simp only [List.length_drop, List.length_take]; rfl)) ?_; (with_reducible refine (spec_commentLength.calls kj3 (a0.extract (x3_1 : Int).toNat a0.size) t114 _ A12.out).mono ?_); rintro e w' ⟨rfl, ⟨nd, rfl⟩⟩; refine ⟨_, rfl, ?_⟩))
                      go_roundg kj3
                      case measure => have := HK1.out; have := HJ3.out; omega
                      case rel => exact ⟨(wrap64 (x3_1 + t114)), (by first | rfl | (simp; done) | (simp [*]; done)), H', ⟨by have := HK1.out; have := HJ3.out; omega⟩, by repeat (first | exact Drawn0.refl _ | apply Drawn0.step)⟩
                  · rw [if_neg c11] at H
                    exact absurd H (by simp)
                · rw [if_neg c10] at H
                  exact absurd H (by simp)
        · rw [if_neg c3] at H
          have c3b0 : decide (x3_1 < (a0.size : Int)) = false := decide_eq_false c3
          clear c3
          obtain rfl := Option.some.inj H
          go_wp2
          go_ret
          exact ⟨by first | rfl | (simp; done) | (simp [*]; done), by repeat (first | exact Drawn0.refl _ | apply Drawn0.step)⟩

/-! ### laws_gapsOk: function 10 -/
def laws_gapsOk.l0 : Nat → List ByteArray → Int → List ByteArray → Int → Int → Option (Bool)
  | 0, _, _, _, _, _ => none
  | k + 1, x0, x1, x7, x8, x9 => if x9 < x8 then (if 0 ≤ x9 then (if x9 < (x7.length : Int) then ((spec_IsGap.f k (rdOf ByteArray.empty x7 x9)).bind fun t116 => (if t116 = true then (if ((rdOf ByteArray.empty x7 x9).size : Int) > 60 then (some false) else (laws_gapsOk.l0 k x0 x1 x7 x8 (wrap64 (x9 + 1)))) else (some false))) else (none)) else (none)) else (some ((x0.length : Int) == x1))
def laws_gapsOk.f (k : Nat) (l0 : List ByteArray) (a1 : Int) : Option (Bool) := laws_gapsOk.l0 k l0 a1 l0 (l0.length : Int) 0
theorem laws_gapsOk.mono_l : ∀ k, (∀ y0 y1 y2 y3 y4, LeO (laws_gapsOk.l0 k y0 y1 y2 y3 y4) (laws_gapsOk.l0 (k + 1) y0 y1 y2 y3 y4))
  | 0 => fun _ _ _ _ _ r h => by simp [laws_gapsOk.l0] at h
  | k + 1 => by
    have ih0 := laws_gapsOk.mono_l k
    · intro y0 y1 y2 y3 y4
      unfold laws_gapsOk.l0
      repeat' first
      | (with_reducible exact ih0 _ _ _ _ _)
      | (with_reducible exact spec_IsGap.mono _ _)
      | (with_reducible exact LeO.refl _)
      | (with_reducible exact LeO.none _)
      | (with_reducible refine LeO.ite ?_ ?_)
      | (with_reducible refine LeO.bind ?_ (fun _ => ?_))
      | exact ih0 _ _ _ _ _
      | exact spec_IsGap.mono _ _
      | exact LeO.none _
      | refine LeO.ite ?_ ?_
      | refine LeO.bind ?_ (fun _ => ?_)
theorem laws_gapsOk.mono : ∀ a0 a1 k, LeO (laws_gapsOk.f k a0 a1) (laws_gapsOk.f (k + 1) a0 a1) := by
  intro a0 a1 k
  have ih0 := laws_gapsOk.mono_l k
  unfold laws_gapsOk.f
  repeat' first
      | (with_reducible exact ih0 _ _ _ _ _)
      | (with_reducible exact spec_IsGap.mono _ _)
      | (with_reducible exact LeO.refl _)
      | (with_reducible exact LeO.none _)
      | (with_reducible refine LeO.ite ?_ ?_)
      | (with_reducible refine LeO.bind ?_ (fun _ => ?_))
      | exact ih0 _ _ _ _ _
      | exact spec_IsGap.mono _ _
      | exact LeO.none _
      | refine LeO.ite ?_ ?_
      | refine LeO.bind ?_ (fun _ => ?_)
set_option maxHeartbeats 8000000 in
set_option maxRecDepth 100000 in
theorem laws_gapsOk.calls (k : Nat) (A0 : Option Addr) (c0 : Nat) (l0 : List ByteArray) (a1 : Int) (r : Bool) (w : World) (hr0 : Kd.C Kd.string w A0 l0.length l0) (hc0 : l0.length ≤ c0) (h : laws_gapsOk.f k l0 a1 = some r) :
    Calls Tryz.prog 10 #[.slice A0 l0.length c0, .int .i64 a1] w fun e w' => e = .returned (.bool r) ∧ Drawn0 w w' := by
  have HR0 := Aside0.mk hr0
  have HC0 := Aside0.mk hc0
  clear hr0 hc0
  have H : (laws_gapsOk.l0 k l0 a1 l0 (l0.length : Int) 0) = some r := h
  clear h
  have H' := Aside0.mk H
  clear H
  go_enter Tryz.func10, Tryz.ntmps10
  go_wp2
  go_loopg [9] k (fun kq v9 w' => ∃ (x9_1 : Int), v9 = .int .i64 x9_1 ∧ Aside0 (laws_gapsOk.l0 kq l0 a1 l0 (l0.length : Int) x9_1 = some r) ∧ Aside0 (kq ≤ k) ∧ Drawn0 w w')
  case atStart => exact ⟨(0), (by first | rfl | (simp; done) | (simp [*]; done)), H', ⟨Nat.le_refl _⟩, by repeat (first | exact Drawn0.refl _ | apply Drawn0.step)⟩
  case round =>
    clear H'
    try clear c1
    try clear p2
    obtain ⟨x9_1, rfl, HA, HK1, ⟨m1, rfl⟩⟩ := hrel
    cases gk with
    | zero => exact absurd HA.out (by simp [laws_gapsOk.l0])
    | succ k1 =>
      have H := HA.out
      clear HA
      simp only [laws_gapsOk.l0] at H
      by_cases c3 : x9_1 < (l0.length : Int)
      · rw [if_pos c3] at H
        have c3b0 : decide (x9_1 < (l0.length : Int)) = true := decide_eq_true c3
        clear c3
        by_cases c4 : 0 ≤ x9_1
        · rw [if_pos c4] at H
          have c4b0 : decide (0 ≤ x9_1) = true := decide_eq_true c4
          clear c4
          by_cases c5 : x9_1 < (l0.length : Int)
          · rw [if_pos c5] at H
            have c5b0 : decide (x9_1 < (l0.length : Int)) = true := decide_eq_true c5
            clear c5
            replace H := Option.bind_eq_some_iff.mp H
            obtain ⟨t116, A60, H⟩ := H
            replace H : (if t116 = true then (if ((rdOf ByteArray.empty l0 x9_1).size : Int) > 60 then (some false) else (laws_gapsOk.l0 k1 l0 a1 l0 (l0.length : Int) (wrap64 (x9_1 + 1)))) else (some false)) = some r := H
            have A6 := Aside0.mk A60
            clear A60
            by_cases c7 : t116 = true
            · subst c7
              have H1 : (if ((rdOf ByteArray.empty l0 x9_1).size : Int) > 60 then (some false) else (laws_gapsOk.l0 k1 l0 a1 l0 (l0.length : Int) (wrap64 (x9_1 + 1)))) = some r := by rw [if_pos rfl] at H; exact H
              clear H
              have H := H1
              clear H1
              by_cases c8 : ((rdOf ByteArray.empty l0 x9_1).size : Int) > 60
              · rw [if_pos c8] at H
                have c8b0 : decide (60 < ((rdOf ByteArray.empty l0 x9_1).size : Int)) = true := decide_eq_true c8
                have c8b1 : decide (60 < (rdOf ByteArray.empty l0 x9_1).size) = true := decide_eq_true (by omega)
                clear c8
                obtain rfl := Option.some.inj H
                have p115 : 0 ≤ (x9_1 : Int) := of_decide_eq_true (by first | (with_reducible assumption) | assumption)
                have q115 : x9_1 < (l0.length : Int) := of_decide_eq_true (by first | (with_reducible assumption) | assumption)
                obtain ⟨ad115, e115, hx115_0⟩ := Kd.at_string HR0.out x9_1 p115 q115
                cases e115
                replace p115 := eq_true p115
                replace q115 := eq_true q115
                go_wp2_with (first | ((with_reducible refine gate_callee (f := 19) rfl ?_); refine goesL_ (some 14) rfl rfl Tryz.func19 (by kernel_rfl) rfl #[.string (rdOf ByteArray.empty l0 x9_1)] rfl (by (try simp only [List.map_toArray, List.map_cons, List.map_nil]); first | done | rfl | (simp only [List.length_drop, List.length_take]; rfl)) ?_; (with_reducible refine (spec_IsGap.calls k1 (rdOf ByteArray.empty l0 x9_1) true _ A6.out).mono ?_); rintro e w' ⟨rfl, ⟨nd, rfl⟩⟩; refine ⟨_, rfl, ?_⟩))
                go_ret
                exact ⟨by first | rfl | (simp; done) | (simp [*]; done), by repeat (first | exact Drawn0.refl _ | apply Drawn0.step)⟩
              · rw [if_neg c8] at H
                have c8b0 : decide (60 < ((rdOf ByteArray.empty l0 x9_1).size : Int)) = false := decide_eq_false c8
                have c8b1 : decide (60 < (rdOf ByteArray.empty l0 x9_1).size) = false := decide_eq_false (by omega)
                clear c8
                have H' := Aside0.mk H
                clear H
                have p115 : 0 ≤ (x9_1 : Int) := of_decide_eq_true (by first | (with_reducible assumption) | assumption)
                have q115 : x9_1 < (l0.length : Int) := of_decide_eq_true (by first | (with_reducible assumption) | assumption)
                obtain ⟨ad115, e115, hx115_0⟩ := Kd.at_string HR0.out x9_1 p115 q115
                cases e115
                replace p115 := eq_true p115
                replace q115 := eq_true q115
                go_wp2_with (first | ((with_reducible refine gate_callee (f := 19) rfl ?_); refine goesL_ (some 14) rfl rfl Tryz.func19 (by kernel_rfl) rfl #[.string (rdOf ByteArray.empty l0 x9_1)] rfl (by (try simp only [List.map_toArray, List.map_cons, List.map_nil]); first | done | rfl | (simp only [List.length_drop, List.length_take]; rfl)) ?_; (with_reducible refine (spec_IsGap.calls k1 (rdOf ByteArray.empty l0 x9_1) true _ A6.out).mono ?_); rintro e w' ⟨rfl, ⟨nd, rfl⟩⟩; refine ⟨_, rfl, ?_⟩))
                go_roundg k1
                case measure => have := HK1.out; omega
                case rel => exact ⟨(wrap64 (x9_1 + 1)), (by first | rfl | (simp; done) | (simp [*]; done)), H', ⟨by have := HK1.out; omega⟩, by repeat (first | exact Drawn0.refl _ | apply Drawn0.step)⟩
            · replace c7 := Bool.eq_false_iff.mpr c7
              subst c7
              have H1 : (some false) = some r := by rw [if_neg (show ¬ (false = true) by decide)] at H; exact H
              clear H
              have H := H1
              clear H1
              obtain rfl := Option.some.inj H
              have p115 : 0 ≤ (x9_1 : Int) := of_decide_eq_true (by first | (with_reducible assumption) | assumption)
              have q115 : x9_1 < (l0.length : Int) := of_decide_eq_true (by first | (with_reducible assumption) | assumption)
              obtain ⟨ad115, e115, hx115_0⟩ := Kd.at_string HR0.out x9_1 p115 q115
              cases e115
              replace p115 := eq_true p115
              replace q115 := eq_true q115
              go_wp2_with (first | ((with_reducible refine gate_callee (f := 19) rfl ?_); refine goesL_ (some 14) rfl rfl Tryz.func19 (by kernel_rfl) rfl #[.string (rdOf ByteArray.empty l0 x9_1)] rfl (by (try simp only [List.map_toArray, List.map_cons, List.map_nil]); first | done | rfl | (simp only [List.length_drop, List.length_take]; rfl)) ?_; (with_reducible refine (spec_IsGap.calls k1 (rdOf ByteArray.empty l0 x9_1) false _ A6.out).mono ?_); rintro e w' ⟨rfl, ⟨nd, rfl⟩⟩; refine ⟨_, rfl, ?_⟩))
              go_ret
              exact ⟨by first | rfl | (simp; done) | (simp [*]; done), by repeat (first | exact Drawn0.refl _ | apply Drawn0.step)⟩
          · rw [if_neg c5] at H
            exact absurd H (by simp)
        · rw [if_neg c4] at H
          exact absurd H (by simp)
      · rw [if_neg c3] at H
        have c3b0 : decide (x9_1 < (l0.length : Int)) = false := decide_eq_false c3
        clear c3
        obtain rfl := Option.some.inj H
        go_wp2
        go_ret
        exact ⟨by first | rfl | (simp; done) | (simp [*]; done), by repeat (first | exact Drawn0.refl _ | apply Drawn0.step)⟩

end Go.Proofs.YtmeihdlkadjoeaaGreatDoor.PFnTokensBlock
