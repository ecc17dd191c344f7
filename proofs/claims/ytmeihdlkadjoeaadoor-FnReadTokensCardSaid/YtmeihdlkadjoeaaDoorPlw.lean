/- IsPlainName and plainWords: their answers, by the print's own text (of which another part falls). -/
import Derived.Test.YtmeihdlkadjoeaaDoorPFnReadTokensx3
namespace Go.Proofs.YtmeihdlkadjoeaaDoor.PFnReadTokens
open Go.RowKit Go.Proofs.YtmeihdlkadjoeaaDoorW.PrintWords Go.Proofs.YtmeihdlkadjoeaaDoorW.PrintLast Go.Proofs.YtmeihdlkadjoeaaDoorW.PrintMore
attribute [local go_sem] max2_int min2_int max_two min_two max_three min_three max_four min_four
set_option linter.unusedVariables false
set_option linter.unusedSimpArgs false

/-! ### spec_IsPlainName: function 18 -/
def spec_IsPlainName.l0 : Nat → ByteArray → Int → Int → Option (Bool)
  | 0, _, _, _ => none
  | k + 1, x0, x5, x6 => if x6 < x5 then (if 0 ≤ x6 then (if x6 < (x0.size : Int) then (if (bt x0 x6) ≥ 128 then (some false) else (spec_IsPlainName.l0 k x0 x5 (wrap64 (x6 + 1)))) else (none)) else (none)) else ((spec_IsName.f k x0).bind fun t117 => (some t117))
def spec_IsPlainName.f (k : Nat) (a0 : ByteArray) : Option (Bool) := spec_IsPlainName.l0 k a0 (a0.size : Int) 0
theorem spec_IsPlainName.mono_l : ∀ k, (∀ y0 y1 y2, LeO (spec_IsPlainName.l0 k y0 y1 y2) (spec_IsPlainName.l0 (k + 1) y0 y1 y2))
  | 0 => fun _ _ _ r h => by simp [spec_IsPlainName.l0] at h
  | k + 1 => by
    have ih0 := spec_IsPlainName.mono_l k
    · intro y0 y1 y2
      unfold spec_IsPlainName.l0
      repeat' first
      | (with_reducible exact ih0 _ _ _)
      | (with_reducible exact spec_IsName.mono _ _)
      | (with_reducible exact LeO.refl _)
      | (with_reducible exact LeO.none _)
      | (with_reducible refine LeO.ite ?_ ?_)
      | (with_reducible refine LeO.bind ?_ (fun _ => ?_))
      | exact ih0 _ _ _
      | exact spec_IsName.mono _ _
      | exact LeO.none _
      | refine LeO.ite ?_ ?_
      | refine LeO.bind ?_ (fun _ => ?_)
theorem spec_IsPlainName.mono : ∀ a0 k, LeO (spec_IsPlainName.f k a0) (spec_IsPlainName.f (k + 1) a0) := by
  intro a0 k
  have ih0 := spec_IsPlainName.mono_l k
  unfold spec_IsPlainName.f
  repeat' first
      | (with_reducible exact ih0 _ _ _)
      | (with_reducible exact spec_IsName.mono _ _)
      | (with_reducible exact LeO.refl _)
      | (with_reducible exact LeO.none _)
      | (with_reducible refine LeO.ite ?_ ?_)
      | (with_reducible refine LeO.bind ?_ (fun _ => ?_))
      | exact ih0 _ _ _
      | exact spec_IsName.mono _ _
      | exact LeO.none _
      | refine LeO.ite ?_ ?_
      | refine LeO.bind ?_ (fun _ => ?_)
set_option maxHeartbeats 8000000 in
set_option maxRecDepth 100000 in
theorem spec_IsPlainName.calls (k : Nat) (a0 : ByteArray) (r : Bool) (w : World) (h : spec_IsPlainName.f k a0 = some r) :
    Calls Tryd.prog 18 #[.string a0] w fun e w' => e = .returned (.bool r) ∧ Drawn0 w w' := by
  have H : (spec_IsPlainName.l0 k a0 (a0.size : Int) 0) = some r := h
  clear h
  have H' := Aside0.mk H
  clear H
  go_enter Tryd.func18, Tryd.ntmps18
  go_wp2
  go_loopg [6] k (fun kq v6 w' => ∃ (x6_1 : Int), v6 = .int .i64 x6_1 ∧ Aside0 (spec_IsPlainName.l0 kq a0 (a0.size : Int) x6_1 = some r) ∧ Aside0 (kq ≤ k) ∧ Drawn0 w w')
  case atStart => exact ⟨(0), (by first | rfl | (simp; done) | (simp [*]; done)), H', ⟨Nat.le_refl _⟩, by repeat (first | exact Drawn0.refl _ | apply Drawn0.step)⟩
  case round =>
    clear H'
    try clear c1
    obtain ⟨x6_1, rfl, HA, HK1, ⟨m1, rfl⟩⟩ := hrel
    cases gk with
    | zero => exact absurd HA.out (by simp [spec_IsPlainName.l0])
    | succ k1 =>
      have H := HA.out
      clear HA
      simp only [spec_IsPlainName.l0] at H
      by_cases c2 : x6_1 < (a0.size : Int)
      · rw [if_pos c2] at H
        have c2b0 : decide (x6_1 < (a0.size : Int)) = true := decide_eq_true c2
        clear c2
        by_cases c3 : 0 ≤ x6_1
        · rw [if_pos c3] at H
          have c3b0 : decide (0 ≤ x6_1) = true := decide_eq_true c3
          clear c3
          by_cases c4 : x6_1 < (a0.size : Int)
          · rw [if_pos c4] at H
            have c4b0 : decide (x6_1 < (a0.size : Int)) = true := decide_eq_true c4
            clear c4
            by_cases c6 : (bt a0 x6_1) ≥ 128
            · rw [if_pos c6] at H
              have c6b0 : decide (128 ≤ (bt a0 x6_1)) = true := decide_eq_true c6
              clear c6
              obtain rfl := Option.some.inj H
              have p5 : 0 ≤ (x6_1 : Int) := of_decide_eq_true (by first | (with_reducible assumption) | assumption)
              have q5 : x6_1 < (a0.size : Int) := of_decide_eq_true (by first | (with_reducible assumption) | assumption)
              have hx5 := bt_at a0 x6_1
              replace p5 := eq_true p5
              replace q5 := eq_true q5
              go_wp2
              go_ret
              exact ⟨by first | rfl | (simp; done) | (simp [*]; done), by repeat (first | exact Drawn0.refl _ | apply Drawn0.step)⟩
            · rw [if_neg c6] at H
              have c6b0 : decide (128 ≤ (bt a0 x6_1)) = false := decide_eq_false c6
              clear c6
              have H' := Aside0.mk H
              clear H
              have p5 : 0 ≤ (x6_1 : Int) := of_decide_eq_true (by first | (with_reducible assumption) | assumption)
              have q5 : x6_1 < (a0.size : Int) := of_decide_eq_true (by first | (with_reducible assumption) | assumption)
              have hx5 := bt_at a0 x6_1
              replace p5 := eq_true p5
              replace q5 := eq_true q5
              go_wp2
              go_roundg k1
              case measure => have := HK1.out; omega
              case rel => exact ⟨(wrap64 (x6_1 + 1)), (by first | rfl | (simp; done) | (simp [*]; done)), H', ⟨by have := HK1.out; omega⟩, by repeat (first | exact Drawn0.refl _ | apply Drawn0.step)⟩
          · rw [if_neg c4] at H
            exact absurd H (by simp)
        · rw [if_neg c3] at H
          exact absurd H (by simp)
      · rw [if_neg c2] at H
        have c2b0 : decide (x6_1 < (a0.size : Int)) = false := decide_eq_false c2
        clear c2
        replace H := Option.bind_eq_some_iff.mp H
        obtain ⟨t117, A70, H⟩ := H
        replace H : (some t117) = some r := H
        have A7 := Aside0.mk A70
        clear A70
        obtain rfl := Option.some.inj H
        go_wp2_with (first | ((with_reducible refine gate_callee (f := 14) rfl ?_); refine goesL_ (some 15) rfl rfl Tryd.func14 (by kernel_rfl) rfl #[.string a0] rfl (by (try simp only [List.map_toArray, List.map_cons, List.map_nil]); first | done | rfl | (simp only [List.length_drop, List.length_take]; rfl)) ?_; (with_reducible refine (spec_IsName.calls k1 a0 t117 _ A7.out).mono ?_); rintro e w' ⟨rfl, ⟨nd, rfl⟩⟩; refine ⟨_, rfl, ?_⟩))
        go_ret
        exact ⟨by first | rfl | (simp; done) | (simp [*]; done), by repeat (first | exact Drawn0.refl _ | apply Drawn0.step)⟩

/-! ### laws_plainWords: function 9 -/
def laws_plainWords.l0 : Nat → List ByteArray → Int → Int → Option (Bool)
  | 0, _, _, _ => none
  | k + 1, x5, x6, x7 => if x7 < x6 then (if 0 ≤ x7 then (if x7 < (x5.length : Int) then ((spec_KindOf.f k (rdOf ByteArray.empty x5 x7)).bind fun t119 => (if t119 = (-2) then ((spec_IsPlainName.f k (rdOf ByteArray.empty x5 x7)).bind fun t120 => (if t120 = true then (laws_plainWords.l0 k x5 x6 (wrap64 (x7 + 1))) else (some false))) else (laws_plainWords.l0 k x5 x6 (wrap64 (x7 + 1))))) else (none)) else (none)) else (some true)
def laws_plainWords.f (k : Nat) (l0 : List ByteArray) : Option (Bool) := laws_plainWords.l0 k l0 (l0.length : Int) 0
theorem laws_plainWords.mono_l : ∀ k, (∀ y0 y1 y2, LeO (laws_plainWords.l0 k y0 y1 y2) (laws_plainWords.l0 (k + 1) y0 y1 y2))
  | 0 => fun _ _ _ r h => by simp [laws_plainWords.l0] at h
  | k + 1 => by
    have ih0 := laws_plainWords.mono_l k
    · intro y0 y1 y2
      unfold laws_plainWords.l0
      repeat' first
      | (with_reducible exact ih0 _ _ _)
      | (with_reducible exact spec_IsPlainName.mono _ _)
      | (with_reducible exact spec_KindOf.mono _ _)
      | (with_reducible exact LeO.refl _)
      | (with_reducible exact LeO.none _)
      | (with_reducible refine LeO.ite ?_ ?_)
      | (with_reducible refine LeO.bind ?_ (fun _ => ?_))
      | exact ih0 _ _ _
      | exact spec_IsPlainName.mono _ _
      | exact spec_KindOf.mono _ _
      | exact LeO.none _
      | refine LeO.ite ?_ ?_
      | refine LeO.bind ?_ (fun _ => ?_)
theorem laws_plainWords.mono : ∀ a0 k, LeO (laws_plainWords.f k a0) (laws_plainWords.f (k + 1) a0) := by
  intro a0 k
  have ih0 := laws_plainWords.mono_l k
  unfold laws_plainWords.f
  repeat' first
      | (with_reducible exact ih0 _ _ _)
      | (with_reducible exact spec_IsPlainName.mono _ _)
      | (with_reducible exact spec_KindOf.mono _ _)
      | (with_reducible exact LeO.refl _)
      | (with_reducible exact LeO.none _)
      | (with_reducible refine LeO.ite ?_ ?_)
      | (with_reducible refine LeO.bind ?_ (fun _ => ?_))
      | exact ih0 _ _ _
      | exact spec_IsPlainName.mono _ _
      | exact spec_KindOf.mono _ _
      | exact LeO.none _
      | refine LeO.ite ?_ ?_
      | refine LeO.bind ?_ (fun _ => ?_)
set_option maxHeartbeats 8000000 in
set_option maxRecDepth 100000 in
theorem laws_plainWords.calls (k : Nat) (A0 : Option Addr) (c0 : Nat) (l0 : List ByteArray) (r : Bool) (w : World) (hr0 : Kd.C Kd.string w A0 l0.length l0) (hc0 : l0.length ≤ c0) (h : laws_plainWords.f k l0 = some r) :
    Calls Tryd.prog 9 #[.slice A0 l0.length c0] w fun e w' => e = .returned (.bool r) ∧ Drawn0 w w' := by
  have HR0 := Aside0.mk hr0
  have HC0 := Aside0.mk hc0
  clear hr0 hc0
  have H : (laws_plainWords.l0 k l0 (l0.length : Int) 0) = some r := h
  clear h
  have H' := Aside0.mk H
  clear H
  go_enter Tryd.func9, Tryd.ntmps9
  go_wp2
  go_loopg [7] k (fun kq v7 w' => ∃ (x7_1 : Int), v7 = .int .i64 x7_1 ∧ Aside0 (laws_plainWords.l0 kq l0 (l0.length : Int) x7_1 = some r) ∧ Aside0 (kq ≤ k) ∧ Drawn0 w w')
  case atStart => exact ⟨(0), (by first | rfl | (simp; done) | (simp [*]; done)), H', ⟨Nat.le_refl _⟩, by repeat (first | exact Drawn0.refl _ | apply Drawn0.step)⟩
  case round =>
    clear H'
    obtain ⟨x7_1, rfl, HA, HK1, ⟨m1, rfl⟩⟩ := hrel
    cases gk with
    | zero => exact absurd HA.out (by simp [laws_plainWords.l0])
    | succ k1 =>
      have H := HA.out
      clear HA
      simp only [laws_plainWords.l0] at H
      by_cases c2 : x7_1 < (l0.length : Int)
      · rw [if_pos c2] at H
        have c2b0 : decide (x7_1 < (l0.length : Int)) = true := decide_eq_true c2
        clear c2
        by_cases c3 : 0 ≤ x7_1
        · rw [if_pos c3] at H
          have c3b0 : decide (0 ≤ x7_1) = true := decide_eq_true c3
          clear c3
          by_cases c4 : x7_1 < (l0.length : Int)
          · rw [if_pos c4] at H
            have c4b0 : decide (x7_1 < (l0.length : Int)) = true := decide_eq_true c4
            clear c4
            replace H := Option.bind_eq_some_iff.mp H
            obtain ⟨t119, A50, H⟩ := H
            replace H : (if t119 = (-2) then ((spec_IsPlainName.f k1 (rdOf ByteArray.empty l0 x7_1)).bind fun t120 => (if t120 = true then (laws_plainWords.l0 k1 l0 (l0.length : Int) (wrap64 (x7_1 + 1))) else (some false))) else (laws_plainWords.l0 k1 l0 (l0.length : Int) (wrap64 (x7_1 + 1)))) = some r := H
            have A5 := Aside0.mk A50
            clear A50
            by_cases c6 : t119 = (-2)
            · rw [if_pos c6] at H
              have c6b0 : (t119 == (-2)) = true := beq_iff_eq.mpr c6
              have c6b1 : (t119 != (-2)) = false := bne_eq_false_iff_eq.mpr c6
              clear c6
              replace H := Option.bind_eq_some_iff.mp H
              obtain ⟨t120, A70, H⟩ := H
              replace H : (if t120 = true then (laws_plainWords.l0 k1 l0 (l0.length : Int) (wrap64 (x7_1 + 1))) else (some false)) = some r := H
              have A7 := Aside0.mk A70
              clear A70
              by_cases c8 : t120 = true
              · subst c8
                have H1 : (laws_plainWords.l0 k1 l0 (l0.length : Int) (wrap64 (x7_1 + 1))) = some r := by rw [if_pos rfl] at H; exact H
                clear H
                have H := H1
                clear H1
                have H' := Aside0.mk H
                clear H
                have p118 : 0 ≤ (x7_1 : Int) := of_decide_eq_true (by first | (with_reducible assumption) | assumption)
                have q118 : x7_1 < (l0.length : Int) := of_decide_eq_true (by first | (with_reducible assumption) | assumption)
                obtain ⟨ad118, e118, hx118_0⟩ := Kd.at_string HR0.out x7_1 p118 q118
                cases e118
                replace p118 := eq_true p118
                replace q118 := eq_true q118
                go_wp2_with (first | ((with_reducible refine gate_callee (f := 16) rfl ?_); refine goesL_ (some 12) rfl rfl Tryd.func16 (by kernel_rfl) rfl #[.string (rdOf ByteArray.empty l0 x7_1)] rfl (by (try simp only [List.map_toArray, List.map_cons, List.map_nil]); first | done | rfl | (simp only [List.length_drop, List.length_take]; rfl)) ?_; (with_reducible refine (spec_KindOf.calls k1 (rdOf ByteArray.empty l0 x7_1) t119 _ A5.out).mono ?_); rintro e w' ⟨rfl, ⟨nd, rfl⟩⟩; refine ⟨_, rfl, ?_⟩) | (go_at_call 18; (with_reducible refine (spec_IsPlainName.calls k1 (rdOf ByteArray.empty l0 x7_1) true _ A7.out).mono ?_); rintro e w' ⟨rfl, ⟨nd, rfl⟩⟩))
                go_roundg k1
                case measure => have := HK1.out; omega
                case rel => exact ⟨(wrap64 (x7_1 + 1)), (by first | rfl | (simp; done) | (simp [*]; done)), H', ⟨by have := HK1.out; omega⟩, by repeat (first | exact Drawn0.refl _ | apply Drawn0.step)⟩
              · replace c8 := Bool.eq_false_iff.mpr c8
                subst c8
                have H1 : (some false) = some r := by rw [if_neg (show ¬ (false = true) by decide)] at H; exact H
                clear H
                have H := H1
                clear H1
                obtain rfl := Option.some.inj H
                have p118 : 0 ≤ (x7_1 : Int) := of_decide_eq_true (by first | (with_reducible assumption) | assumption)
                have q118 : x7_1 < (l0.length : Int) := of_decide_eq_true (by first | (with_reducible assumption) | assumption)
                obtain ⟨ad118, e118, hx118_0⟩ := Kd.at_string HR0.out x7_1 p118 q118
                cases e118
                replace p118 := eq_true p118
                replace q118 := eq_true q118
                go_wp2_with (first | ((with_reducible refine gate_callee (f := 16) rfl ?_); refine goesL_ (some 12) rfl rfl Tryd.func16 (by kernel_rfl) rfl #[.string (rdOf ByteArray.empty l0 x7_1)] rfl (by (try simp only [List.map_toArray, List.map_cons, List.map_nil]); first | done | rfl | (simp only [List.length_drop, List.length_take]; rfl)) ?_; (with_reducible refine (spec_KindOf.calls k1 (rdOf ByteArray.empty l0 x7_1) t119 _ A5.out).mono ?_); rintro e w' ⟨rfl, ⟨nd, rfl⟩⟩; refine ⟨_, rfl, ?_⟩) | (go_at_call 18; (with_reducible refine (spec_IsPlainName.calls k1 (rdOf ByteArray.empty l0 x7_1) false _ A7.out).mono ?_); rintro e w' ⟨rfl, ⟨nd, rfl⟩⟩))
                go_ret
                exact ⟨by first | rfl | (simp; done) | (simp [*]; done), by repeat (first | exact Drawn0.refl _ | apply Drawn0.step)⟩
            · rw [if_neg c6] at H
              have c6b0 : (t119 == (-2)) = false := beq_eq_false_iff_ne.mpr c6
              have c6b1 : (t119 != (-2)) = true := bne_iff_ne.mpr c6
              have H' := Aside0.mk H
              clear H
              have p118 : 0 ≤ (x7_1 : Int) := of_decide_eq_true (by first | (with_reducible assumption) | assumption)
              have q118 : x7_1 < (l0.length : Int) := of_decide_eq_true (by first | (with_reducible assumption) | assumption)
              obtain ⟨ad118, e118, hx118_0⟩ := Kd.at_string HR0.out x7_1 p118 q118
              cases e118
              replace p118 := eq_true p118
              replace q118 := eq_true q118
              go_wp2_with (first | ((with_reducible refine gate_callee (f := 16) rfl ?_); refine goesL_ (some 12) rfl rfl Tryd.func16 (by kernel_rfl) rfl #[.string (rdOf ByteArray.empty l0 x7_1)] rfl (by (try simp only [List.map_toArray, List.map_cons, List.map_nil]); first | done | rfl | (simp only [List.length_drop, List.length_take]; rfl)) ?_; (with_reducible refine (spec_KindOf.calls k1 (rdOf ByteArray.empty l0 x7_1) t119 _ A5.out).mono ?_); rintro e w' ⟨rfl, ⟨nd, rfl⟩⟩; refine ⟨_, rfl, ?_⟩))
              go_roundg k1
              case measure => have := HK1.out; omega
              case rel => exact ⟨(wrap64 (x7_1 + 1)), (by first | rfl | (simp; done) | (simp [*]; done)), H', ⟨by have := HK1.out; omega⟩, by repeat (first | exact Drawn0.refl _ | apply Drawn0.step)⟩
          · rw [if_neg c4] at H
            exact absurd H (by simp)
        · rw [if_neg c3] at H
          exact absurd H (by simp)
      · rw [if_neg c2] at H
        have c2b0 : decide (x7_1 < (l0.length : Int)) = false := decide_eq_false c2
        clear c2
        obtain rfl := Option.some.inj H
        go_wp2
        go_ret
        exact ⟨by first | rfl | (simp; done) | (simp [*]; done), by repeat (first | exact Drawn0.refl _ | apply Drawn0.step)⟩

-- NOT PRINTED: function 32 (textscanner_Scanner_Init)

-- NOT PRINTED: function 81 (unicode_is16)

-- NOT PRINTED: function 82 (unicode_is32)

-- NOT PRINTED: function 64 (unicode_isExcludingLatin)

-- NOT PRINTED: function 46 (unicode_IsLetter)

-- NOT PRINTED: function 47 (unicode_IsDigit)

-- NOT PRINTED: function 33 (asmlex_isIdentRune)
end Go.Proofs.YtmeihdlkadjoeaaDoor.PFnReadTokens
