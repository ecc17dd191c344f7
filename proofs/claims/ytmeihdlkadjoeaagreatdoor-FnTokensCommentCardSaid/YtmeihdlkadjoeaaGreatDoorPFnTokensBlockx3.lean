-- PRINTED BY print.sh 35421559b90ae4d0a3588c463048766b98c2df88dd9212a6774a882060cdf62d: not written by this session
import Derived.Test.YtmeihdlkadjoeaaGreatDoorPFnTokensBlockx0
import Derived.Test.YtmeihdlkadjoeaaGreatDoorPFnTokensBlockx2
namespace Go.Proofs.YtmeihdlkadjoeaaGreatDoor.PFnTokensBlock
open Go.RowKit Go.Proofs.YtmeihdlkadjoeaaGreatDoorW.PrintWords Go.Proofs.YtmeihdlkadjoeaaGreatDoorW.PrintLast Go.Proofs.YtmeihdlkadjoeaaGreatDoorW.PrintMore
attribute [local go_sem] max2_int min2_int max_two min_two max_three min_three max_four min_four   -- for this text's walks alone
set_option linter.unusedVariables false
set_option linter.unusedSimpArgs false

/-! ### spec_isHex: function 36 -/
def spec_isHex.f (a0 : Int) : Option (Bool) := (spec_IsDigit.f a0).bind fun t105 => (if t105 = true then (some true) else (if a0 ≥ 97 then (if a0 ≤ 102 then (some true) else (if a0 ≥ 65 then (some (decide (a0 ≤ 70))) else (some false))) else (if a0 ≥ 65 then (some (decide (a0 ≤ 70))) else (some false))))
set_option maxHeartbeats 8000000 in
set_option maxRecDepth 100000 in
theorem spec_isHex.calls (a0 : Int) (r : Bool) (w : World) (h : spec_isHex.f a0 = some r) :
    Calls Tryz.prog 36 #[.int .u8 a0] w fun e w' => e = .returned (.bool r) ∧ Drawn0 w w' := by
  have H : ((spec_IsDigit.f a0).bind fun t105 => (if t105 = true then (some true) else (if a0 ≥ 97 then (if a0 ≤ 102 then (some true) else (if a0 ≥ 65 then (some (decide (a0 ≤ 70))) else (some false))) else (if a0 ≥ 65 then (some (decide (a0 ≤ 70))) else (some false))))) = some r := h
  clear h
  replace H := Option.bind_eq_some_iff.mp H
  obtain ⟨t105, A20, H⟩ := H
  replace H : (if t105 = true then (some true) else (if a0 ≥ 97 then (if a0 ≤ 102 then (some true) else (if a0 ≥ 65 then (some (decide (a0 ≤ 70))) else (some false))) else (if a0 ≥ 65 then (some (decide (a0 ≤ 70))) else (some false)))) = some r := H
  have A2 := Aside0.mk A20
  clear A20
  by_cases c3 : t105 = true
  · subst c3
    have H1 : (some true) = some r := by rw [if_pos rfl] at H; exact H
    clear H
    have H := H1
    clear H1
    obtain rfl := Option.some.inj H
    go_enter Tryz.func36, Tryz.ntmps36
    go_wp2_with (first | ((with_reducible refine gate_callee (f := 24) rfl ?_); refine goesL_ (some 4) rfl rfl Tryz.func24 (by kernel_rfl) rfl #[.int .u8 a0] rfl (by (try simp only [List.map_toArray, List.map_cons, List.map_nil]); first | done | rfl | (simp only [List.length_drop, List.length_take]; rfl)) ?_; (with_reducible refine (spec_IsDigit.calls a0 true _ A2.out).mono ?_); rintro e w' ⟨rfl, ⟨nd, rfl⟩⟩; refine ⟨_, rfl, ?_⟩))
    go_ret
    exact ⟨by first | rfl | (simp; done) | (simp [*]; done), by repeat (first | exact Drawn0.refl _ | apply Drawn0.step)⟩
  · replace c3 := Bool.eq_false_iff.mpr c3
    subst c3
    have H1 : (if a0 ≥ 97 then (if a0 ≤ 102 then (some true) else (if a0 ≥ 65 then (some (decide (a0 ≤ 70))) else (some false))) else (if a0 ≥ 65 then (some (decide (a0 ≤ 70))) else (some false))) = some r := by rw [if_neg (show ¬ (false = true) by decide)] at H; exact H
    clear H
    have H := H1
    clear H1
    by_cases c4 : a0 ≥ 97
    · rw [if_pos c4] at H
      have c4b0 : decide (97 ≤ a0) = true := decide_eq_true c4
      clear c4
      by_cases c5 : a0 ≤ 102
      · rw [if_pos c5] at H
        have c5b0 : decide (a0 ≤ 102) = true := decide_eq_true c5
        clear c5
        obtain rfl := Option.some.inj H
        go_enter Tryz.func36, Tryz.ntmps36
        go_wp2_with (first | ((with_reducible refine gate_callee (f := 24) rfl ?_); refine goesL_ (some 4) rfl rfl Tryz.func24 (by kernel_rfl) rfl #[.int .u8 a0] rfl (by (try simp only [List.map_toArray, List.map_cons, List.map_nil]); first | done | rfl | (simp only [List.length_drop, List.length_take]; rfl)) ?_; (with_reducible refine (spec_IsDigit.calls a0 false _ A2.out).mono ?_); rintro e w' ⟨rfl, ⟨nd, rfl⟩⟩; refine ⟨_, rfl, ?_⟩))
        go_ret
        exact ⟨by first | rfl | (simp; done) | (simp [*]; done), by repeat (first | exact Drawn0.refl _ | apply Drawn0.step)⟩
      · rw [if_neg c5] at H
        have c5b0 : decide (a0 ≤ 102) = false := decide_eq_false c5
        clear c5
        by_cases c6 : a0 ≥ 65
        · rw [if_pos c6] at H
          have c6b0 : decide (65 ≤ a0) = true := decide_eq_true c6
          clear c6
          obtain rfl := Option.some.inj H
          go_enter Tryz.func36, Tryz.ntmps36
          go_wp2_with (first | ((with_reducible refine gate_callee (f := 24) rfl ?_); refine goesL_ (some 4) rfl rfl Tryz.func24 (by kernel_rfl) rfl #[.int .u8 a0] rfl (by (try simp only [List.map_toArray, List.map_cons, List.map_nil]); first | done | rfl | (simp only [List.length_drop, List.length_take]; rfl)) ?_; (with_reducible refine (spec_IsDigit.calls a0 false _ A2.out).mono ?_); rintro e w' ⟨rfl, ⟨nd, rfl⟩⟩; refine ⟨_, rfl, ?_⟩))
          go_ret
          exact ⟨by first | rfl | (simp; done) | (simp [*]; done), by repeat (first | exact Drawn0.refl _ | apply Drawn0.step)⟩
        · rw [if_neg c6] at H
          have c6b0 : decide (65 ≤ a0) = false := decide_eq_false c6
          clear c6
          obtain rfl := Option.some.inj H
          go_enter Tryz.func36, Tryz.ntmps36
          go_wp2_with (first | ((with_reducible refine gate_callee (f := 24) rfl ?_); refine goesL_ (some 4) rfl rfl Tryz.func24 (by kernel_rfl) rfl #[.int .u8 a0] rfl (by (try simp only [List.map_toArray, List.map_cons, List.map_nil]); first | done | rfl | (simp only [List.length_drop, List.length_take]; rfl)) ?_; (with_reducible refine (spec_IsDigit.calls a0 false _ A2.out).mono ?_); rintro e w' ⟨rfl, ⟨nd, rfl⟩⟩; refine ⟨_, rfl, ?_⟩))
          go_ret
          exact ⟨by first | rfl | (simp; done) | (simp [*]; done), by repeat (first | exact Drawn0.refl _ | apply Drawn0.step)⟩
    · rw [if_neg c4] at H
      have c4b0 : decide (97 ≤ a0) = false := decide_eq_false c4
      clear c4
      by_cases c7 : a0 ≥ 65
      · rw [if_pos c7] at H
        have c7b0 : decide (65 ≤ a0) = true := decide_eq_true c7
        clear c7
        obtain rfl := Option.some.inj H
        go_enter Tryz.func36, Tryz.ntmps36
        go_wp2_with (first | ((with_reducible refine gate_callee (f := 24) rfl ?_); refine goesL_ (some 4) rfl rfl Tryz.func24 (by kernel_rfl) rfl #[.int .u8 a0] rfl (by (try simp only [List.map_toArray, List.map_cons, List.map_nil]); first | done | rfl | (simp only [List.length_drop, List.length_take]; rfl)) ?_; (with_reducible refine (spec_IsDigit.calls a0 false _ A2.out).mono ?_); rintro e w' ⟨rfl, ⟨nd, rfl⟩⟩; refine ⟨_, rfl, ?_⟩))
        go_ret
        exact ⟨by first | rfl | (simp; done) | (simp [*]; done), by repeat (first | exact Drawn0.refl _ | apply Drawn0.step)⟩
      · rw [if_neg c7] at H
        have c7b0 : decide (65 ≤ a0) = false := decide_eq_false c7
        clear c7
        obtain rfl := Option.some.inj H
        go_enter Tryz.func36, Tryz.ntmps36
        go_wp2_with (first | ((with_reducible refine gate_callee (f := 24) rfl ?_); refine goesL_ (some 4) rfl rfl Tryz.func24 (by kernel_rfl) rfl #[.int .u8 a0] rfl (by (try simp only [List.map_toArray, List.map_cons, List.map_nil]); first | done | rfl | (simp only [List.length_drop, List.length_take]; rfl)) ?_; (with_reducible refine (spec_IsDigit.calls a0 false _ A2.out).mono ?_); rintro e w' ⟨rfl, ⟨nd, rfl⟩⟩; refine ⟨_, rfl, ?_⟩))
        go_ret
        exact ⟨by first | rfl | (simp; done) | (simp [*]; done), by repeat (first | exact Drawn0.refl _ | apply Drawn0.step)⟩

/-! ### spec_IsNumber: function 27 -/
mutual
def spec_IsNumber.j0 : Nat → ByteArray → Bool → Option (Bool)
  | 0, _, _ => none
  | k + 1, x0, x14 => if x14 = true then (spec_IsNumber.l0 k x0 2) else (spec_IsNumber.l1 k x0 (x0.size : Int) 0)
def spec_IsNumber.l0 : Nat → ByteArray → Int → Option (Bool)
  | 0, _, _ => none
  | k + 1, x0, x3 => if x3 < (x0.size : Int) then (if 0 ≤ x3 then ((spec_isHex.f (bt x0 x3)).bind fun t106 => (if t106 = true then (spec_IsNumber.l0 k x0 (wrap64 (x3 + 1))) else (some false))) else (none)) else (some true)
def spec_IsNumber.l1 : Nat → ByteArray → Int → Int → Option (Bool)
  | 0, _, _, _ => none
  | k + 1, x0, x27, x28 => if x28 < x27 then (if 0 ≤ x28 then (if x28 < (x0.size : Int) then ((spec_IsDigit.f (bt x0 x28)).bind fun t107 => (if t107 = true then (if x28 = 0 then (if 0 < (x0.size : Int) then (if (bt x0 0) = 48 then (if (x0.size : Int) > 1 then (some false) else (spec_IsNumber.l1 k x0 x27 (wrap64 (x28 + 1)))) else (spec_IsNumber.l1 k x0 x27 (wrap64 (x28 + 1)))) else (none)) else (spec_IsNumber.l1 k x0 x27 (wrap64 (x28 + 1)))) else (some false))) else (none)) else (none)) else (some true)
end
def spec_IsNumber.f (k : Nat) (a0 : ByteArray) : Option (Bool) := if a0.toList = ([] : List UInt8) then (some false) else (if (a0.size : Int) > 2 then (if 0 ≤ 2 then (if 2 ≤ (a0.size : Int) then (spec_IsNumber.j0 k a0 ((a0.extract 0 2).toList == ([48, 120] : List UInt8))) else (none)) else (none)) else (spec_IsNumber.j0 k a0 false))
theorem spec_IsNumber.mono_l : ∀ k, (∀ y0 y1, LeO (spec_IsNumber.j0 k y0 y1) (spec_IsNumber.j0 (k + 1) y0 y1)) ∧ (∀ y0 y1, LeO (spec_IsNumber.l0 k y0 y1) (spec_IsNumber.l0 (k + 1) y0 y1)) ∧ (∀ y0 y1 y2, LeO (spec_IsNumber.l1 k y0 y1 y2) (spec_IsNumber.l1 (k + 1) y0 y1 y2))
  | 0 => ⟨fun _ _ r h => by simp [spec_IsNumber.j0] at h, fun _ _ r h => by simp [spec_IsNumber.l0] at h, fun _ _ _ r h => by simp [spec_IsNumber.l1] at h⟩
  | k + 1 => by
    obtain ⟨ih0, ih1, ih2⟩ := spec_IsNumber.mono_l k
    refine ⟨?_, ?_, ?_⟩
    · intro y0 y1
      unfold spec_IsNumber.j0
      repeat' first
      | (with_reducible exact ih0 _ _)
      | (with_reducible exact ih1 _ _)
      | (with_reducible exact ih2 _ _ _)
      | (with_reducible exact LeO.refl _)
      | (with_reducible exact LeO.none _)
      | (with_reducible refine LeO.ite ?_ ?_)
      | (with_reducible refine LeO.bind ?_ (fun _ => ?_))
      | exact ih0 _ _
      | exact ih1 _ _
      | exact ih2 _ _ _
      | exact LeO.none _
      | refine LeO.ite ?_ ?_
      | refine LeO.bind ?_ (fun _ => ?_)
    · intro y0 y1
      unfold spec_IsNumber.l0
      repeat' first
      | (with_reducible exact ih0 _ _)
      | (with_reducible exact ih1 _ _)
      | (with_reducible exact ih2 _ _ _)
      | (with_reducible exact LeO.refl _)
      | (with_reducible exact LeO.none _)
      | (with_reducible refine LeO.ite ?_ ?_)
      | (with_reducible refine LeO.bind ?_ (fun _ => ?_))
      | exact ih0 _ _
      | exact ih1 _ _
      | exact ih2 _ _ _
      | exact LeO.none _
      | refine LeO.ite ?_ ?_
      | refine LeO.bind ?_ (fun _ => ?_)
    · intro y0 y1 y2
      unfold spec_IsNumber.l1
      repeat' first
      | (with_reducible exact ih0 _ _)
      | (with_reducible exact ih1 _ _)
      | (with_reducible exact ih2 _ _ _)
      | (with_reducible exact LeO.refl _)
      | (with_reducible exact LeO.none _)
      | (with_reducible refine LeO.ite ?_ ?_)
      | (with_reducible refine LeO.bind ?_ (fun _ => ?_))
      | exact ih0 _ _
      | exact ih1 _ _
      | exact ih2 _ _ _
      | exact LeO.none _
      | refine LeO.ite ?_ ?_
      | refine LeO.bind ?_ (fun _ => ?_)
theorem spec_IsNumber.mono : ∀ a0 k, LeO (spec_IsNumber.f k a0) (spec_IsNumber.f (k + 1) a0) := by
  intro a0 k
  obtain ⟨ih0, ih1, ih2⟩ := spec_IsNumber.mono_l k
  unfold spec_IsNumber.f
  repeat' first
      | (with_reducible exact ih0 _ _)
      | (with_reducible exact ih1 _ _)
      | (with_reducible exact ih2 _ _ _)
      | (with_reducible exact LeO.refl _)
      | (with_reducible exact LeO.none _)
      | (with_reducible refine LeO.ite ?_ ?_)
      | (with_reducible refine LeO.bind ?_ (fun _ => ?_))
      | exact ih0 _ _
      | exact ih1 _ _
      | exact ih2 _ _ _
      | exact LeO.none _
      | refine LeO.ite ?_ ?_
      | refine LeO.bind ?_ (fun _ => ?_)
set_option maxHeartbeats 8000000 in
set_option maxRecDepth 100000 in
theorem spec_IsNumber.calls (k : Nat) (a0 : ByteArray) (r : Bool) (w : World) (h : spec_IsNumber.f k a0 = some r) :
    Calls Tryz.prog 27 #[.string a0] w fun e w' => e = .returned (.bool r) ∧ Drawn0 w w' := by
  have H : (if a0.toList = ([] : List UInt8) then (some false) else (if (a0.size : Int) > 2 then (if 0 ≤ 2 then (if 2 ≤ (a0.size : Int) then (spec_IsNumber.j0 k a0 ((a0.extract 0 2).toList == ([48, 120] : List UInt8))) else (none)) else (none)) else (spec_IsNumber.j0 k a0 false))) = some r := h
  clear h
  by_cases c2 : a0.toList = ([] : List UInt8)
  · rw [if_pos c2] at H
    have c2b0 : (a0.toList == ([] : List UInt8)) = true := beq_iff_eq.mpr c2
    have c2b1 : (a0.toList != ([] : List UInt8)) = false := bne_eq_false_iff_eq.mpr c2
    clear c2
    obtain rfl := Option.some.inj H
    go_enter Tryz.func27, Tryz.ntmps27
    go_wp2
    go_ret
    exact ⟨by first | rfl | (simp; done) | (simp [*]; done), by repeat (first | exact Drawn0.refl _ | apply Drawn0.step)⟩
  · rw [if_neg c2] at H
    have c2b0 : (a0.toList == ([] : List UInt8)) = false := beq_eq_false_iff_ne.mpr c2
    have c2b1 : (a0.toList != ([] : List UInt8)) = true := bne_iff_ne.mpr c2
    have HC3 := Aside0.mk H
    clear H
    go_enter Tryz.func27, Tryz.ntmps27
    go_upto_region 3 with (fail)
    go_cut [14] (fun v14 wc => ∃ (kq : Nat) (x14_2 : Bool), v14 = .bool x14_2 ∧ Aside0 (spec_IsNumber.j0 kq a0 x14_2 = some r) ∧ Aside0 (kq ≤ k) ∧ Drawn0 w wc)
    case first =>
      have H := HC3.out
      clear HC3
      by_cases c4 : (a0.size : Int) > 2
      · rw [if_pos c4] at H
        have c4b0 : decide (2 < (a0.size : Int)) = true := decide_eq_true c4
        have c4b1 : decide (2 < a0.size) = true := decide_eq_true (by omega)
        clear c4
        (first | rw [c4b0] | (simp only [i64_w, i32_w]; rw [c4b0]) | skip)
        by_cases c5 : 0 ≤ 2
        · rw [if_pos c5] at H
          have c5b0 := eq_true c5
          have c5b1 : decide (0 ≤ 2) = true := decide_eq_true c5
          clear c5
          by_cases c6 : 2 ≤ (a0.size : Int)
          · rw [if_pos c6] at H
            have c6b0 := eq_true c6
            have c6b1 : decide (2 ≤ (a0.size : Int)) = true := decide_eq_true c6
            clear c6
            have H' := Aside0.mk H
            clear H
            go_wp2
            go_meet
            case rel => exact ⟨_, (((a0.extract 0 2).toList == ([48, 120] : List UInt8))), (by first | rfl | (simp; done) | (simp [*]; done)), H', ⟨by first | omega | exact Nat.le_refl _⟩, by repeat (first | exact Drawn0.refl _ | apply Drawn0.step)⟩
          · rw [if_neg c6] at H
            exact absurd H (by simp)
        · rw [if_neg c5] at H
          exact absurd H (by simp)
      · rw [if_neg c4] at H
        have c4b0 : decide (2 < (a0.size : Int)) = false := decide_eq_false c4
        have c4b1 : decide (2 < a0.size) = false := decide_eq_false (by omega)
        clear c4
        (first | rw [c4b0] | (simp only [i64_w, i32_w]; rw [c4b0]) | skip)
        have H' := Aside0.mk H
        clear H
        go_wp2
        go_meet
        case rel => exact ⟨_, (false), (by first | rfl | (simp; done) | (simp [*]; done)), H', ⟨by first | omega | exact Nat.le_refl _⟩, by repeat (first | exact Drawn0.refl _ | apply Drawn0.step)⟩
    case rest =>
      clear HC3
      try clear c2
      try clear c2b0
      try clear c2b1
      try clear p2
      try clear c4
      try clear c4b0
      try clear c4b1
      try clear c5
      try clear c5b0
      try clear c5b1
      try clear c6
      try clear c6b0
      try clear c6b1
      obtain ⟨kq, x14_2, rfl, HA, HJ2, ⟨mc2, rfl⟩⟩ := hcut
      cases kq with
      | zero => exact absurd HA.out (by simp [spec_IsNumber.j0])
      | succ kj2 =>
        have H := HA.out
        clear HA
        simp only [spec_IsNumber.j0] at H
        by_cases c7 : x14_2 = true
        · subst c7
          have H1 : (spec_IsNumber.l0 kj2 a0 2) = some r := by rw [if_pos rfl] at H; exact H
          clear H
          have H := H1
          clear H1
          have H' := Aside0.mk H
          clear H
          go_wp2
          go_loopg [3] kj2 (fun kq v3 w' => ∃ (x3_2 : Int), v3 = .int .i64 x3_2 ∧ Aside0 (spec_IsNumber.l0 kq a0 x3_2 = some r) ∧ Aside0 (kq ≤ kj2) ∧ Drawn0 w w')
          case atStart => exact ⟨(2), (by first | rfl | (simp; done) | (simp [*]; done)), H', ⟨Nat.le_refl _⟩, by repeat (first | exact Drawn0.refl _ | apply Drawn0.step)⟩
          case round =>
            clear H'
            try clear c2
            try clear c2b0
            try clear c2b1
            try clear p2
            try clear c4
            try clear c4b0
            try clear c4b1
            try clear c5
            try clear c5b0
            try clear c5b1
            try clear c6
            try clear c6b0
            try clear c6b1
            try clear c7
            try clear p2
            obtain ⟨x3_2, rfl, HA, HK2, ⟨m2, rfl⟩⟩ := hrel
            cases gk with
            | zero => exact absurd HA.out (by simp [spec_IsNumber.l0])
            | succ k2 =>
              have H := HA.out
              clear HA
              simp only [spec_IsNumber.l0] at H
              by_cases c8 : x3_2 < (a0.size : Int)
              · rw [if_pos c8] at H
                have c8b0 : decide (x3_2 < (a0.size : Int)) = true := decide_eq_true c8
                clear c8
                by_cases c9 : 0 ≤ x3_2
                · rw [if_pos c9] at H
                  have c9b0 : decide (0 ≤ x3_2) = true := decide_eq_true c9
                  clear c9
                  replace H := Option.bind_eq_some_iff.mp H
                  obtain ⟨t106, A110, H⟩ := H
                  replace H : (if t106 = true then (spec_IsNumber.l0 k2 a0 (wrap64 (x3_2 + 1))) else (some false)) = some r := H
                  have A11 := Aside0.mk A110
                  clear A110
                  by_cases c12 : t106 = true
                  · subst c12
                    have H1 : (spec_IsNumber.l0 k2 a0 (wrap64 (x3_2 + 1))) = some r := by rw [if_pos rfl] at H; exact H
                    clear H
                    have H := H1
                    clear H1
                    have H' := Aside0.mk H
                    clear H
                    have p10 : 0 ≤ (x3_2 : Int) := of_decide_eq_true (by first | (with_reducible assumption) | assumption)
                    have q10 : x3_2 < (a0.size : Int) := of_decide_eq_true (by first | (with_reducible assumption) | assumption)
                    have hx10 := bt_at a0 x3_2
                    replace p10 := eq_true p10
                    replace q10 := eq_true q10
                    go_wp2_with (first | ((with_reducible refine gate_callee (f := 36) rfl ?_); refine goesL_ (some 24) rfl rfl Tryz.func36 (by kernel_rfl) rfl #[.int .u8 (bt a0 x3_2)] rfl (by (try simp only [List.map_toArray, List.map_cons, List.map_nil]); first | done | rfl | (simp only [List.length_drop, List.length_take]; rfl)) ?_; (with_reducible refine (spec_isHex.calls (bt a0 x3_2) true _ A11.out).mono ?_); rintro e w' ⟨rfl, ⟨nd, rfl⟩⟩; refine ⟨_, rfl, ?_⟩))
                    go_roundg k2
                    case measure => have := HJ2.out; have := HK2.out; omega
                    case rel => exact ⟨(wrap64 (x3_2 + 1)), (by first | rfl | (simp; done) | (simp [*]; done)), H', ⟨by have := HJ2.out; have := HK2.out; omega⟩, by repeat (first | exact Drawn0.refl _ | apply Drawn0.step)⟩
                  · replace c12 := Bool.eq_false_iff.mpr c12
                    subst c12
                    have H1 : (some false) = some r := by rw [if_neg (show ¬ (false = true) by decide)] at H; exact H
                    clear H
                    have H := H1
                    clear H1
                    obtain rfl := Option.some.inj H
                    have p10 : 0 ≤ (x3_2 : Int) := of_decide_eq_true (by first | (with_reducible assumption) | assumption)
                    have q10 : x3_2 < (a0.size : Int) := of_decide_eq_true (by first | (with_reducible assumption) | assumption)
                    have hx10 := bt_at a0 x3_2
                    replace p10 := eq_true p10
                    replace q10 := eq_true q10
                    go_wp2_with (first | ((with_reducible refine gate_callee (f := 36) rfl ?_); refine goesL_ (some 24) rfl rfl Tryz.func36 (by kernel_rfl) rfl #[.int .u8 (bt a0 x3_2)] rfl (by (try simp only [List.map_toArray, List.map_cons, List.map_nil]); first | done | rfl | (simp only [List.length_drop, List.length_take]; rfl)) ?_; (with_reducible refine (spec_isHex.calls (bt a0 x3_2) false _ A11.out).mono ?_); rintro e w' ⟨rfl, ⟨nd, rfl⟩⟩; refine ⟨_, rfl, ?_⟩))
                    go_ret
                    exact ⟨by first | rfl | (simp; done) | (simp [*]; done), by repeat (first | exact Drawn0.refl _ | apply Drawn0.step)⟩
                · rw [if_neg c9] at H
                  exact absurd H (by simp)
              · rw [if_neg c8] at H
                have c8b0 : decide (x3_2 < (a0.size : Int)) = false := decide_eq_false c8
                clear c8
                obtain rfl := Option.some.inj H
                go_wp2
                go_ret
                exact ⟨by first | rfl | (simp; done) | (simp [*]; done), by repeat (first | exact Drawn0.refl _ | apply Drawn0.step)⟩
        · replace c7 := Bool.eq_false_iff.mpr c7
          subst c7
          have H1 : (spec_IsNumber.l1 kj2 a0 (a0.size : Int) 0) = some r := by rw [if_neg (show ¬ (false = true) by decide)] at H; exact H
          clear H
          have H := H1
          clear H1
          have H' := Aside0.mk H
          clear H
          go_wp2
          go_loopg [28] kj2 (fun kq v28 w' => ∃ (x28_2 : Int), v28 = .int .i64 x28_2 ∧ Aside0 (spec_IsNumber.l1 kq a0 (a0.size : Int) x28_2 = some r) ∧ Aside0 (kq ≤ kj2) ∧ Drawn0 w w')
          case atStart => exact ⟨(0), (by first | rfl | (simp; done) | (simp [*]; done)), H', ⟨Nat.le_refl _⟩, by repeat (first | exact Drawn0.refl _ | apply Drawn0.step)⟩
          case round =>
            clear H'
            try clear c1
            try clear p1
            try clear q1
            try clear hx1
            try clear c2
            try clear c2b0
            try clear c2b1
            try clear p2
            try clear c3
            try clear c4
            try clear c4b0
            try clear c4b1
            try clear c5
            try clear c5b0
            try clear c5b1
            try clear c6
            try clear c6b0
            try clear c6b1
            try clear p6
            try clear c7
            try clear c8
            try clear c8b0
            try clear c9
            try clear c9b0
            try clear p10
            try clear q10
            try clear hx10
            try clear c12
            try clear p10
            try clear p2
            try clear q10
            obtain ⟨x28_2, rfl, HA, HK2, ⟨m2, rfl⟩⟩ := hrel
            cases gk with
            | zero => exact absurd HA.out (by simp [spec_IsNumber.l1])
            | succ k2 =>
              have H := HA.out
              clear HA
              simp only [spec_IsNumber.l1] at H
              by_cases c13 : x28_2 < (a0.size : Int)
              · rw [if_pos c13] at H
                have c13b0 : decide (x28_2 < (a0.size : Int)) = true := decide_eq_true c13
                clear c13
                by_cases c14 : 0 ≤ x28_2
                · rw [if_pos c14] at H
                  have c14b0 : decide (0 ≤ x28_2) = true := decide_eq_true c14
                  clear c14
                  by_cases c15 : x28_2 < (a0.size : Int)
                  · rw [if_pos c15] at H
                    have c15b0 : decide (x28_2 < (a0.size : Int)) = true := decide_eq_true c15
                    clear c15
                    replace H := Option.bind_eq_some_iff.mp H
                    obtain ⟨t107, A170, H⟩ := H
                    replace H : (if t107 = true then (if x28_2 = 0 then (if 0 < (a0.size : Int) then (if (bt a0 0) = 48 then (if (a0.size : Int) > 1 then (some false) else (spec_IsNumber.l1 k2 a0 (a0.size : Int) (wrap64 (x28_2 + 1)))) else (spec_IsNumber.l1 k2 a0 (a0.size : Int) (wrap64 (x28_2 + 1)))) else (none)) else (spec_IsNumber.l1 k2 a0 (a0.size : Int) (wrap64 (x28_2 + 1)))) else (some false)) = some r := H
                    have A17 := Aside0.mk A170
                    clear A170
                    by_cases c18 : t107 = true
                    · subst c18
                      have H1 : (if x28_2 = 0 then (if 0 < (a0.size : Int) then (if (bt a0 0) = 48 then (if (a0.size : Int) > 1 then (some false) else (spec_IsNumber.l1 k2 a0 (a0.size : Int) (wrap64 (x28_2 + 1)))) else (spec_IsNumber.l1 k2 a0 (a0.size : Int) (wrap64 (x28_2 + 1)))) else (none)) else (spec_IsNumber.l1 k2 a0 (a0.size : Int) (wrap64 (x28_2 + 1)))) = some r := by rw [if_pos rfl] at H; exact H
                      clear H
                      have H := H1
                      clear H1
                      by_cases c19 : x28_2 = 0
                      · rw [if_pos c19] at H
                        have c19b0 : (x28_2 == 0) = true := beq_iff_eq.mpr c19
                        have c19b1 : (x28_2 != 0) = false := bne_eq_false_iff_eq.mpr c19
                        clear c19
                        by_cases c20 : 0 < (a0.size : Int)
                        · rw [if_pos c20] at H
                          have c20b0 : decide (0 < (a0.size : Int)) = true := decide_eq_true c20
                          have c20b1 : decide (0 < a0.size) = true := decide_eq_true (by omega)
                          clear c20
                          by_cases c22 : (bt a0 0) = 48
                          · rw [if_pos c22] at H
                            have c22b0 : ((bt a0 0) == 48) = true := beq_iff_eq.mpr c22
                            have c22b1 : ((bt a0 0) != 48) = false := bne_eq_false_iff_eq.mpr c22
                            clear c22
                            by_cases c23 : (a0.size : Int) > 1
                            · rw [if_pos c23] at H
                              have c23b0 : decide (1 < (a0.size : Int)) = true := decide_eq_true c23
                              have c23b1 : decide (1 < a0.size) = true := decide_eq_true (by omega)
                              clear c23
                              obtain rfl := Option.some.inj H
                              have p16 : 0 ≤ (x28_2 : Int) := of_decide_eq_true (by first | (with_reducible assumption) | assumption)
                              have q16 : x28_2 < (a0.size : Int) := of_decide_eq_true (by first | (with_reducible assumption) | assumption)
                              have hx16 := bt_at a0 x28_2
                              replace p16 := eq_true p16
                              replace q16 := eq_true q16
                              go_wp2_with (first | ((with_reducible refine gate_callee (f := 24) rfl ?_); refine goesL_ (some 34) rfl rfl Tryz.func24 (by kernel_rfl) rfl #[.int .u8 (bt a0 x28_2)] rfl (by (try simp only [List.map_toArray, List.map_cons, List.map_nil]); first | done | rfl | (simp only [List.length_drop, List.length_take]; rfl)) ?_; (with_reducible refine (spec_IsDigit.calls (bt a0 x28_2) true _ A17.out).mono ?_); rintro e w' ⟨rfl, ⟨nd, rfl⟩⟩; refine ⟨_, rfl, ?_⟩; have p21 : 0 ≤ (0 : Int) := (by omega); have q21 : 0 < a0.size := (by have : (0 : Int) < (a0.size : Int) := of_decide_eq_true (by first | (with_reducible assumption) | assumption); omega); have hx21 : ∀ h : 0 < a0.size, ((a0[0]'h).toNat : Int) = bt a0 0 := bt_at a0 0; clear p21; have qi21 : (0 < (a0.size : Int)) = True := eq_true (of_decide_eq_true (by first | (with_reducible assumption) | assumption)); replace q21 := eq_true q21))
                              go_ret
                              exact ⟨by first | rfl | (simp; done) | (simp [*]; done), by repeat (first | exact Drawn0.refl _ | apply Drawn0.step)⟩
                            · rw [if_neg c23] at H
                              have c23b0 : decide (1 < (a0.size : Int)) = false := decide_eq_false c23
                              have c23b1 : decide (1 < a0.size) = false := decide_eq_false (by omega)
                              clear c23
                              have H' := Aside0.mk H
                              clear H
                              have p16 : 0 ≤ (x28_2 : Int) := of_decide_eq_true (by first | (with_reducible assumption) | assumption)
                              have q16 : x28_2 < (a0.size : Int) := of_decide_eq_true (by first | (with_reducible assumption) | assumption)
                              have hx16 := bt_at a0 x28_2
                              replace p16 := eq_true p16
                              replace q16 := eq_true q16
                              go_wp2_with (first | ((with_reducible refine gate_callee (f := 24) rfl ?_); refine goesL_ (some 34) rfl rfl Tryz.func24 (by kernel_rfl) rfl #[.int .u8 (bt a0 x28_2)] rfl (by (try simp only [List.map_toArray, List.map_cons, List.map_nil]); first | done | rfl | (simp only [List.length_drop, List.length_take]; rfl)) ?_; (with_reducible refine (spec_IsDigit.calls (bt a0 x28_2) true _ A17.out).mono ?_); rintro e w' ⟨rfl, ⟨nd, rfl⟩⟩; refine ⟨_, rfl, ?_⟩; have p21 : 0 ≤ (0 : Int) := (by omega); have q21 : 0 < a0.size := (by have : (0 : Int) < (a0.size : Int) := of_decide_eq_true (by first | (with_reducible assumption) | assumption); omega); have hx21 : ∀ h : 0 < a0.size, ((a0[0]'h).toNat : Int) = bt a0 0 := bt_at a0 0; clear p21; have qi21 : (0 < (a0.size : Int)) = True := eq_true (of_decide_eq_true (by first | (with_reducible assumption) | assumption)); replace q21 := eq_true q21))
                              go_roundg k2
                              case measure => have := HJ2.out; have := HK2.out; omega
                              case rel => exact ⟨(wrap64 (x28_2 + 1)), (by first | rfl | (simp; done) | (simp [*]; done)), H', ⟨by have := HJ2.out; have := HK2.out; omega⟩, by repeat (first | exact Drawn0.refl _ | apply Drawn0.step)⟩
                          · rw [if_neg c22] at H
                            have c22b0 : ((bt a0 0) == 48) = false := beq_eq_false_iff_ne.mpr c22
                            have c22b1 : ((bt a0 0) != 48) = true := bne_iff_ne.mpr c22
                            have H' := Aside0.mk H
                            clear H
                            have p16 : 0 ≤ (x28_2 : Int) := of_decide_eq_true (by first | (with_reducible assumption) | assumption)
                            have q16 : x28_2 < (a0.size : Int) := of_decide_eq_true (by first | (with_reducible assumption) | assumption)
                            have hx16 := bt_at a0 x28_2
                            replace p16 := eq_true p16
                            replace q16 := eq_true q16
                            go_wp2_with (first | ((with_reducible refine gate_callee (f := 24) rfl ?_); refine goesL_ (some 34) rfl rfl Tryz.func24 (by kernel_rfl) rfl #[.int .u8 (bt a0 x28_2)] rfl (by (try simp only [List.map_toArray, List.map_cons, List.map_nil]); first | done | rfl | (simp only [List.length_drop, List.length_take]; rfl)) ?_; (with_reducible refine (spec_IsDigit.calls (bt a0 x28_2) true _ A17.out).mono ?_); rintro e w' ⟨rfl, ⟨nd, rfl⟩⟩; refine ⟨_, rfl, ?_⟩; have p21 : 0 ≤ (0 : Int) := (by omega); have q21 : 0 < a0.size := (by have : (0 : Int) < (a0.size : Int) := of_decide_eq_true (by first | (with_reducible assumption) | assumption); omega); have hx21 : ∀ h : 0 < a0.size, ((a0[0]'h).toNat : Int) = bt a0 0 := bt_at a0 0; clear p21; have qi21 : (0 < (a0.size : Int)) = True := eq_true (of_decide_eq_true (by first | (with_reducible assumption) | assumption)); replace q21 := eq_true q21))
                            go_roundg k2
                            case measure => have := HJ2.out; have := HK2.out; omega
                            case rel => exact ⟨(wrap64 (x28_2 + 1)), (by first | rfl | (simp; done) | (simp [*]; done)), H', ⟨by have := HJ2.out; have := HK2.out; omega⟩, by repeat (first | exact Drawn0.refl _ | apply Drawn0.step)⟩
                        · rw [if_neg c20] at H
                          exact absurd H (by simp)
                      · rw [if_neg c19] at H
                        have c19b0 : (x28_2 == 0) = false := beq_eq_false_iff_ne.mpr c19
                        have c19b1 : (x28_2 != 0) = true := bne_iff_ne.mpr c19
                        have H' := Aside0.mk H
                        clear H
                        have p16 : 0 ≤ (x28_2 : Int) := of_decide_eq_true (by first | (with_reducible assumption) | assumption)
                        have q16 : x28_2 < (a0.size : Int) := of_decide_eq_true (by first | (with_reducible assumption) | assumption)
                        have hx16 := bt_at a0 x28_2
                        replace p16 := eq_true p16
                        replace q16 := eq_true q16
                        go_wp2_with (first | ((with_reducible refine gate_callee (f := 24) rfl ?_); refine goesL_ (some 34) rfl rfl Tryz.func24 (by kernel_rfl) rfl #[.int .u8 (bt a0 x28_2)] rfl (by (try simp only [List.map_toArray, List.map_cons, List.map_nil]); first | done | rfl | (simp only [List.length_drop, List.length_take]; rfl)) ?_; (with_reducible refine (spec_IsDigit.calls (bt a0 x28_2) true _ A17.out).mono ?_); rintro e w' ⟨rfl, ⟨nd, rfl⟩⟩; refine ⟨_, rfl, ?_⟩))
                        go_roundg k2
                        case measure => have := HJ2.out; have := HK2.out; omega
                        case rel => exact ⟨(wrap64 (x28_2 + 1)), (by first | rfl | (simp; done) | (simp [*]; done)), H', ⟨by have := HJ2.out; have := HK2.out; omega⟩, by repeat (first | exact Drawn0.refl _ | apply Drawn0.step)⟩
                    · replace c18 := Bool.eq_false_iff.mpr c18
                      subst c18
                      have H1 : (some false) = some r := by rw [if_neg (show ¬ (false = true) by decide)] at H; exact H
                      clear H
                      have H := H1
                      clear H1
                      obtain rfl := Option.some.inj H
                      have p16 : 0 ≤ (x28_2 : Int) := of_decide_eq_true (by first | (with_reducible assumption) | assumption)
                      have q16 : x28_2 < (a0.size : Int) := of_decide_eq_true (by first | (with_reducible assumption) | assumption)
                      have hx16 := bt_at a0 x28_2
                      replace p16 := eq_true p16
                      replace q16 := eq_true q16
                      go_wp2_with (first | ((with_reducible refine gate_callee (f := 24) rfl ?_); refine goesL_ (some 34) rfl rfl Tryz.func24 (by kernel_rfl) rfl #[.int .u8 (bt a0 x28_2)] rfl (by (try simp only [List.map_toArray, List.map_cons, List.map_nil]); first | done | rfl | (simp only [List.length_drop, List.length_take]; rfl)) ?_; (with_reducible refine (spec_IsDigit.calls (bt a0 x28_2) false _ A17.out).mono ?_); rintro e w' ⟨rfl, ⟨nd, rfl⟩⟩; refine ⟨_, rfl, ?_⟩))
                      go_ret
                      exact ⟨by first | rfl | (simp; done) | (simp [*]; done), by repeat (first | exact Drawn0.refl _ | apply Drawn0.step)⟩
                  · rw [if_neg c15] at H
                    exact absurd H (by simp)
                · rw [if_neg c14] at H
                  exact absurd H (by simp)
              · rw [if_neg c13] at H
                have c13b0 : decide (x28_2 < (a0.size : Int)) = false := decide_eq_false c13
                clear c13
                obtain rfl := Option.some.inj H
                go_wp2
                go_ret
                exact ⟨by first | rfl | (simp; done) | (simp [*]; done), by repeat (first | exact Drawn0.refl _ | apply Drawn0.step)⟩

end Go.Proofs.YtmeihdlkadjoeaaGreatDoor.PFnTokensBlock
