-- PRINTED BY print.sh 35421559b90ae4d0a3588c463048766b98c2df88dd9212a6774a882060cdf62d: not written by this session
import Derived.Test.YtmeihdlkadjoeaaGreatDoorPFnTokensBlockx0
import Derived.Test.YtmeihdlkadjoeaaGreatDoorPFnTokensBlockx4
namespace Go.Proofs.YtmeihdlkadjoeaaGreatDoor.PFnTokensBlock
open Go.RowKit Go.Proofs.YtmeihdlkadjoeaaGreatDoorW.PrintWords Go.Proofs.YtmeihdlkadjoeaaGreatDoorW.PrintLast Go.Proofs.YtmeihdlkadjoeaaGreatDoorW.PrintMore
attribute [local go_sem] max2_int min2_int max_two min_two max_three min_three max_four min_four   -- for this text's walks alone
set_option linter.unusedVariables false
set_option linter.unusedSimpArgs false

/-! ### stringslite_HasPrefix: function 88 -/
def stringslite_HasPrefix.f (a0 : ByteArray) (a1 : ByteArray) : Option (Bool) := if (a0.size : Int) ≥ (a1.size : Int) then (if 0 ≤ (a1.size : Int) then (if (a1.size : Int) ≤ (a0.size : Int) then (some ((a0.extract 0 ((a1.size : Int) : Int).toNat).toList == a1.toList)) else (none)) else (none)) else (some false)
set_option maxHeartbeats 8000000 in
set_option maxRecDepth 100000 in
theorem stringslite_HasPrefix.calls (a0 : ByteArray) (a1 : ByteArray) (r : Bool) (w : World) (h : stringslite_HasPrefix.f a0 a1 = some r) :
    Calls Tryz.prog 88 #[.string a0, .string a1] w fun e w' => e = .returned (.bool r) ∧ Drawn0 w w' := by
  have H : (if (a0.size : Int) ≥ (a1.size : Int) then (if 0 ≤ (a1.size : Int) then (if (a1.size : Int) ≤ (a0.size : Int) then (some ((a0.extract 0 ((a1.size : Int) : Int).toNat).toList == a1.toList)) else (none)) else (none)) else (some false)) = some r := h
  clear h
  by_cases c3 : (a0.size : Int) ≥ (a1.size : Int)
  · rw [if_pos c3] at H
    have c3b0 : decide ((a1.size : Int) ≤ (a0.size : Int)) = true := decide_eq_true c3
    have c3b1 : decide (a1.size ≤ a0.size) = true := decide_eq_true (Int.ofNat_le.mp c3)
    clear c3
    by_cases c4 : 0 ≤ (a1.size : Int)
    · rw [if_pos c4] at H
      have c4b0 := eq_true c4
      have c4b1 : decide (0 ≤ (a1.size : Int)) = true := decide_eq_true c4
      clear c4
      by_cases c5 : (a1.size : Int) ≤ (a0.size : Int)
      · rw [if_pos c5] at H
        have c5b0 := eq_true c5
        have c5b1 : decide ((a1.size : Int) ≤ (a0.size : Int)) = true := decide_eq_true c5
        clear c5
        obtain rfl := Option.some.inj H
        go_enter Tryz.func88, Tryz.ntmps88
        go_wp2
        go_ret
        exact ⟨by first | rfl | (simp; done) | (simp [*]; done), by repeat (first | exact Drawn0.refl _ | apply Drawn0.step)⟩
      · rw [if_neg c5] at H
        exact absurd H (by simp)
    · rw [if_neg c4] at H
      exact absurd H (by simp)
  · rw [if_neg c3] at H
    have c3b0 : decide ((a1.size : Int) ≤ (a0.size : Int)) = false := decide_eq_false c3
    have c3b1 : decide (a1.size ≤ a0.size) = false := decide_eq_false (fun h => c3 (Int.ofNat_le.mpr h))
    clear c3
    obtain rfl := Option.some.inj H
    go_enter Tryz.func88, Tryz.ntmps88
    go_wp2
    go_ret
    exact ⟨by first | rfl | (simp; done) | (simp [*]; done), by repeat (first | exact Drawn0.refl _ | apply Drawn0.step)⟩

/-! ### strings_HasPrefix: function 79 -/
def strings_HasPrefix.f (a0 : ByteArray) (a1 : ByteArray) : Option (Bool) := (stringslite_HasPrefix.f a0 a1).bind fun t144 => (some t144)
set_option maxHeartbeats 8000000 in
set_option maxRecDepth 100000 in
theorem strings_HasPrefix.calls (a0 : ByteArray) (a1 : ByteArray) (r : Bool) (w : World) (h : strings_HasPrefix.f a0 a1 = some r) :
    Calls Tryz.prog 79 #[.string a0, .string a1] w fun e w' => e = .returned (.bool r) ∧ Drawn0 w w' := by
  have H : ((stringslite_HasPrefix.f a0 a1).bind fun t144 => (some t144)) = some r := h
  clear h
  replace H := Option.bind_eq_some_iff.mp H
  obtain ⟨t144, A30, H⟩ := H
  replace H : (some t144) = some r := H
  have A3 := Aside0.mk A30
  clear A30
  obtain rfl := Option.some.inj H
  go_enter Tryz.func79, Tryz.ntmps79
  go_wp2_with (first | ((with_reducible refine gate_callee (f := 88) rfl ?_); refine goesL_ (some 7) rfl rfl Tryz.func88 (by kernel_rfl) rfl #[.string a0, .string a1] rfl (by (try simp only [List.map_toArray, List.map_cons, List.map_nil]); first | done | rfl | (simp only [List.length_drop, List.length_take]; rfl)) ?_; (with_reducible refine (stringslite_HasPrefix.calls a0 a1 t144 _ A3.out).mono ?_); rintro e w' ⟨rfl, ⟨nd, rfl⟩⟩; refine ⟨_, rfl, ?_⟩))
  go_ret
  exact ⟨by first | rfl | (simp; done) | (simp [*]; done), by repeat (first | exact Drawn0.refl _ | apply Drawn0.step)⟩

-- NOT PRINTED: function 99 (utf8_decodeRuneInStringSlow)

-- NOT PRINTED: function 96 (utf8_DecodeRuneInString)

/-! ### utf8_RuneStart: function 100 -/
def utf8_RuneStart.f (a0 : Int) : Option (Bool) := some ((Go.bits .and .u8 a0 192) != 128)
set_option maxHeartbeats 8000000 in
set_option maxRecDepth 100000 in
theorem utf8_RuneStart.calls (a0 : Int) (r : Bool) (w : World) (h : utf8_RuneStart.f a0 = some r) :
    Calls Tryz.prog 100 #[.int .u8 a0] w fun e w' => e = .returned (.bool r) ∧ Drawn0 w w' := by
  have H : (some ((Go.bits .and .u8 a0 192) != 128)) = some r := h
  clear h
  obtain rfl := Option.some.inj H
  go_enter Tryz.func100, Tryz.ntmps100
  go_wp2
  go_ret
  exact ⟨by first | rfl | (simp; done) | (simp [*]; done), by repeat (first | exact Drawn0.refl _ | apply Drawn0.step)⟩

-- NOT PRINTED: function 98 (utf8_DecodeLastRuneInString)

-- NOT PRINTED: function 95 (strings_lastIndexFunc)

-- NOT PRINTED: function 91 (strings_TrimRightFunc)

-- NOT PRINTED: function 97 (strings_indexFunc)

-- NOT PRINTED: function 94 (strings_TrimLeftFunc)

-- NOT PRINTED: function 89 (strings_TrimFunc)

-- NOT PRINTED: function 90 (unicode_IsSpace)

-- NOT PRINTED: function 80 (strings_TrimSpace)

-- NOT PRINTED: function 63 (constraint_splitGoBuild)

-- NOT PRINTED: function 43 (constraint_IsGoBuild)

-- NOT PRINTED: function 45 (textscanner_Scanner_Next)

-- NOT PRINTED: function 32 (asmlex_Tokenizer_Next)

/-! ### asmlex_zzIndex: function 64 -/
def asmlex_zzIndex.l0 : Nat → ByteArray → ByteArray → Int → Option (Int)
  | 0, _, _, _ => none
  | k + 1, x0, x1, x5 => if (wrap64 (x5 + (x1.size : Int))) ≤ (x0.size : Int) then (if 0 ≤ x5 then (if x5 ≤ (wrap64 (x5 + (x1.size : Int))) then (if (x0.extract (x5 : Int).toNat ((wrap64 (x5 + (x1.size : Int))) : Int).toNat).toList = x1.toList then (some x5) else (asmlex_zzIndex.l0 k x0 x1 (wrap64 (x5 + 1)))) else (none)) else (none)) else (some (-1))
def asmlex_zzIndex.f (k : Nat) (a0 : ByteArray) (a1 : ByteArray) : Option (Int) := asmlex_zzIndex.l0 k a0 a1 0
theorem asmlex_zzIndex.mono_l : ∀ k, (∀ y0 y1 y2, LeO (asmlex_zzIndex.l0 k y0 y1 y2) (asmlex_zzIndex.l0 (k + 1) y0 y1 y2))
  | 0 => fun _ _ _ r h => by simp [asmlex_zzIndex.l0] at h
  | k + 1 => by
    have ih0 := asmlex_zzIndex.mono_l k
    · intro y0 y1 y2
      unfold asmlex_zzIndex.l0
      repeat' first
      | (with_reducible exact ih0 _ _ _)
      | (with_reducible exact LeO.refl _)
      | (with_reducible exact LeO.none _)
      | (with_reducible refine LeO.ite ?_ ?_)
      | (with_reducible refine LeO.bind ?_ (fun _ => ?_))
      | exact ih0 _ _ _
      | exact LeO.none _
      | refine LeO.ite ?_ ?_
      | refine LeO.bind ?_ (fun _ => ?_)
theorem asmlex_zzIndex.mono : ∀ a0 a1 k, LeO (asmlex_zzIndex.f k a0 a1) (asmlex_zzIndex.f (k + 1) a0 a1) := by
  intro a0 a1 k
  have ih0 := asmlex_zzIndex.mono_l k
  unfold asmlex_zzIndex.f
  repeat' first
      | (with_reducible exact ih0 _ _ _)
      | (with_reducible exact LeO.refl _)
      | (with_reducible exact LeO.none _)
      | (with_reducible refine LeO.ite ?_ ?_)
      | (with_reducible refine LeO.bind ?_ (fun _ => ?_))
      | exact ih0 _ _ _
      | exact LeO.none _
      | refine LeO.ite ?_ ?_
      | refine LeO.bind ?_ (fun _ => ?_)
set_option maxHeartbeats 8000000 in
set_option maxRecDepth 100000 in
theorem asmlex_zzIndex.calls (k : Nat) (a0 : ByteArray) (a1 : ByteArray) (r : Int) (w : World) (h : asmlex_zzIndex.f k a0 a1 = some r) :
    Calls Tryz.prog 64 #[.string a0, .string a1] w fun e w' => e = .returned (.int .i64 r) ∧ Drawn0 w w' := by
  have H : (asmlex_zzIndex.l0 k a0 a1 0) = some r := h
  clear h
  have H' := Aside0.mk H
  clear H
  go_enter Tryz.func64, Tryz.ntmps64
  go_wp2
  go_loopg [5] k (fun kq v5 w' => ∃ (x5_1 : Int), v5 = .int .i64 x5_1 ∧ Aside0 (asmlex_zzIndex.l0 kq a0 a1 x5_1 = some r) ∧ Aside0 (kq ≤ k) ∧ Drawn0 w w')
  case atStart => exact ⟨(0), (by first | rfl | (simp; done) | (simp [*]; done)), H', ⟨Nat.le_refl _⟩, by repeat (first | exact Drawn0.refl _ | apply Drawn0.step)⟩
  case round =>
    clear H'
    try clear p2
    obtain ⟨x5_1, rfl, HA, HK1, ⟨m1, rfl⟩⟩ := hrel
    cases gk with
    | zero => exact absurd HA.out (by simp [asmlex_zzIndex.l0])
    | succ k1 =>
      have H := HA.out
      clear HA
      simp only [asmlex_zzIndex.l0] at H
      by_cases c3 : (wrap64 (x5_1 + (a1.size : Int))) ≤ (a0.size : Int)
      · rw [if_pos c3] at H
        have c3b0 : decide ((wrap64 (x5_1 + (a1.size : Int))) ≤ (a0.size : Int)) = true := decide_eq_true c3
        clear c3
        by_cases c4 : 0 ≤ x5_1
        · rw [if_pos c4] at H
          have c4b0 := eq_true c4
          have c4b1 : decide (0 ≤ x5_1) = true := decide_eq_true c4
          clear c4
          by_cases c5 : x5_1 ≤ (wrap64 (x5_1 + (a1.size : Int)))
          · rw [if_pos c5] at H
            have c5b0 := eq_true c5
            have c5b1 : decide (x5_1 ≤ (wrap64 (x5_1 + (a1.size : Int)))) = true := decide_eq_true c5
            have c6b0 := eq_true (of_decide_eq_true (by first | (with_reducible assumption) | assumption) : (wrap64 (x5_1 + (a1.size : Int))) ≤ (a0.size : Int))
            by_cases c7 : (a0.extract (x5_1 : Int).toNat ((wrap64 (x5_1 + (a1.size : Int))) : Int).toNat).toList = a1.toList
            · rw [if_pos c7] at H
              have c7b0 : ((a0.extract (x5_1 : Int).toNat ((wrap64 (x5_1 + (a1.size : Int))) : Int).toNat).toList == a1.toList) = true := beq_iff_eq.mpr c7
              have c7b1 : ((a0.extract (x5_1 : Int).toNat ((wrap64 (x5_1 + (a1.size : Int))) : Int).toNat).toList != a1.toList) = false := bne_eq_false_iff_eq.mpr c7
              clear c7
              obtain rfl := Option.some.inj H
              go_wp2
              go_ret
              exact ⟨by first | rfl | (simp; done) | (simp [*]; done), by repeat (first | exact Drawn0.refl _ | apply Drawn0.step)⟩
            · rw [if_neg c7] at H
              have c7b0 : ((a0.extract (x5_1 : Int).toNat ((wrap64 (x5_1 + (a1.size : Int))) : Int).toNat).toList == a1.toList) = false := beq_eq_false_iff_ne.mpr c7
              have c7b1 : ((a0.extract (x5_1 : Int).toNat ((wrap64 (x5_1 + (a1.size : Int))) : Int).toNat).toList != a1.toList) = true := bne_iff_ne.mpr c7
              have H' := Aside0.mk H
              clear H
              go_wp2
              go_roundg k1
              case measure => have := HK1.out; omega
              case rel => exact ⟨(wrap64 (x5_1 + 1)), (by first | rfl | (simp; done) | (simp [*]; done)), H', ⟨by have := HK1.out; omega⟩, by repeat (first | exact Drawn0.refl _ | apply Drawn0.step)⟩
          · rw [if_neg c5] at H
            exact absurd H (by simp)
        · rw [if_neg c4] at H
          exact absurd H (by simp)
      · rw [if_neg c3] at H
        have c3b0 : decide ((wrap64 (x5_1 + (a1.size : Int))) ≤ (a0.size : Int)) = false := decide_eq_false c3
        clear c3
        obtain rfl := Option.some.inj H
        go_wp2
        go_ret
        exact ⟨by first | rfl | (simp; done) | (simp [*]; done), by repeat (first | exact Drawn0.refl _ | apply Drawn0.step)⟩

/-! ### asmlex_zzReplaceAll: function 46 -/
def asmlex_zzReplaceAll.l0 : Nat → ByteArray → ByteArray → ByteArray → List Int → Option (ByteArray)
  | 0, _, _, _, _ => none
  | k + 1, x0, x1, x2, x7 => (asmlex_zzIndex.f k x0 x1).bind fun t148 => (if t148 < 0 then (if x7.length + x0.size < 140737488355328 then (some (strOfNums (x7 ++ bytesOf x0))) else (none)) else (if 0 ≤ t148 then (if t148 ≤ (x0.size : Int) then (if x7.length + (x0.extract 0 (t148 : Int).toNat).size < 140737488355328 then ((some (x7 ++ bytesOf (x0.extract 0 (t148 : Int).toNat) : List Int)).bind fun y152 => (if y152.length + x2.size < 140737488355328 then (if 0 ≤ (wrap64 (t148 + (x1.size : Int))) then (if (wrap64 (t148 + (x1.size : Int))) ≤ (x0.size : Int) then (asmlex_zzReplaceAll.l0 k (x0.extract ((wrap64 (t148 + (x1.size : Int))) : Int).toNat x0.size) x1 x2 (y152 ++ bytesOf x2)) else (none)) else (none)) else (none))) else (none)) else (none)) else (none)))
def asmlex_zzReplaceAll.f (k : Nat) (a0 : ByteArray) (a1 : ByteArray) (a2 : ByteArray) : Option (ByteArray) := asmlex_zzReplaceAll.l0 k a0 a1 a2 ([] : List Int)
theorem asmlex_zzReplaceAll.mono_l : ∀ k, (∀ y0 y1 y2 y3, LeO (asmlex_zzReplaceAll.l0 k y0 y1 y2 y3) (asmlex_zzReplaceAll.l0 (k + 1) y0 y1 y2 y3))
  | 0 => fun _ _ _ _ r h => by simp [asmlex_zzReplaceAll.l0] at h
  | k + 1 => by
    have ih0 := asmlex_zzReplaceAll.mono_l k
    · intro y0 y1 y2 y3
      unfold asmlex_zzReplaceAll.l0
      repeat' first
      | (with_reducible exact ih0 _ _ _ _)
      | (with_reducible exact asmlex_zzIndex.mono _ _ _)
      | (with_reducible exact LeO.refl _)
      | (with_reducible exact LeO.none _)
      | (with_reducible refine LeO.ite ?_ ?_)
      | (with_reducible refine LeO.bind ?_ (fun _ => ?_))
      | exact ih0 _ _ _ _
      | exact asmlex_zzIndex.mono _ _ _
      | exact LeO.none _
      | refine LeO.ite ?_ ?_
      | refine LeO.bind ?_ (fun _ => ?_)
theorem asmlex_zzReplaceAll.mono : ∀ a0 a1 a2 k, LeO (asmlex_zzReplaceAll.f k a0 a1 a2) (asmlex_zzReplaceAll.f (k + 1) a0 a1 a2) := by
  intro a0 a1 a2 k
  have ih0 := asmlex_zzReplaceAll.mono_l k
  unfold asmlex_zzReplaceAll.f
  repeat' first
      | (with_reducible exact ih0 _ _ _ _)
      | (with_reducible exact asmlex_zzIndex.mono _ _ _)
      | (with_reducible exact LeO.refl _)
      | (with_reducible exact LeO.none _)
      | (with_reducible refine LeO.ite ?_ ?_)
      | (with_reducible refine LeO.bind ?_ (fun _ => ?_))
      | exact ih0 _ _ _ _
      | exact asmlex_zzIndex.mono _ _ _
      | exact LeO.none _
      | refine LeO.ite ?_ ?_
      | refine LeO.bind ?_ (fun _ => ?_)
set_option maxHeartbeats 8000000 in
set_option maxRecDepth 100000 in
theorem asmlex_zzReplaceAll.calls (k : Nat) (a0 : ByteArray) (a1 : ByteArray) (a2 : ByteArray) (r : ByteArray) (w : World) (h : asmlex_zzReplaceAll.f k a0 a1 a2 = some r) :
    Calls Tryz.prog 46 #[.string a0, .string a1, .string a2] w fun e w' => e = .returned (.string r) ∧ Below w.heap.size w w' := by
  have HB := Aside0.mk (Below.refl w.heap.size w)
  have H : (asmlex_zzReplaceAll.l0 k a0 a1 a2 ([] : List Int)) = some r := h
  clear h
  have H' := Aside0.mk H
  clear H
  go_enter Tryz.func46, Tryz.ntmps46
  go_wp2
  go_loopg [0, 7] k (fun kq v0 v7 w' => ∃ (x0_1 : ByteArray) (x7_1 : List Int), v0 = .string x0_1 ∧ Aside0 (asmlex_zzReplaceAll.l0 kq x0_1 a1 a2 x7_1 = some r) ∧ Aside0 (kq ≤ k) ∧ Aside0 (Kd.R (Kd.int .u8) 5 w' w.heap.size (fun _ => True) v7 x7_1) ∧ Aside0 (Below w.heap.size w w'))
  case atStart => exact ⟨(a0), (([] : List Int)), (by first | rfl | (simp; done) | (simp [*]; done)), H', ⟨Nat.le_refl _⟩, ⟨by first | exact Kd.R_nil _ _ _ _ _ | exact Kd.N_nil _ _ _ _ _ | exact Kd.V_nil _ _ _ _ _ | exact Kd.Q_nil _ _ _ _ _ | exact Kd.S_nil _ _ _ _ _⟩, ⟨by repeat (first | (with_reducible first | exact HB.out | apply below_alloc | apply pw_below_drewN | apply below_drew1) | exact HB.out)⟩⟩
  case round =>
    clear H'
    try clear p2
    obtain ⟨x0_1, x7_1, rfl, HA, HK1, HO_7, HB⟩ := hrel
    cases gk with
    | zero => exact absurd HA.out (by simp [asmlex_zzReplaceAll.l0])
    | succ k1 =>
      have H := HA.out
      clear HA
      simp only [asmlex_zzReplaceAll.l0] at H
      replace H := Option.bind_eq_some_iff.mp H
      obtain ⟨t148, A40, H⟩ := H
      replace H : (if t148 < 0 then (if x7_1.length + x0_1.size < 140737488355328 then (some (strOfNums (x7_1 ++ bytesOf x0_1))) else (none)) else (if 0 ≤ t148 then (if t148 ≤ (x0_1.size : Int) then (if x7_1.length + (x0_1.extract 0 (t148 : Int).toNat).size < 140737488355328 then ((some (x7_1 ++ bytesOf (x0_1.extract 0 (t148 : Int).toNat) : List Int)).bind fun y152 => (if y152.length + a2.size < 140737488355328 then (if 0 ≤ (wrap64 (t148 + (a1.size : Int))) then (if (wrap64 (t148 + (a1.size : Int))) ≤ (x0_1.size : Int) then (asmlex_zzReplaceAll.l0 k1 (x0_1.extract ((wrap64 (t148 + (a1.size : Int))) : Int).toNat x0_1.size) a1 a2 (y152 ++ bytesOf a2)) else (none)) else (none)) else (none))) else (none)) else (none)) else (none))) = some r := H
      have A4 := Aside0.mk A40
      clear A40
      by_cases c5 : t148 < 0
      · rw [if_pos c5] at H
        have c5b0 : decide (t148 < 0) = true := decide_eq_true c5
        clear c5
        by_cases c6 : x7_1.length + x0_1.size < 140737488355328
        · rw [if_pos c6] at H
          have LMc6 := Aside0.mk c6
          clear c6
          obtain ⟨y149, hy149⟩ : ∃ y_ : List Int, y_ = (x7_1 ++ bytesOf x0_1) := ⟨_, rfl⟩
          replace H : (some (strOfNums y149)) = some r := by first | (rw [hy149]; with_reducible exact H) | (have H2_ := (Option.bind_some _ _).symm.trans H; rw [hy149]; with_reducible exact H2_) | (have H2_ := (Option.bind_some _ _).symm.trans H; with_reducible exact H2_) | with_reducible exact H | (rw [hy149]; exact H) | exact H
          have Ny149 := Aside0.mk hy149
          clear hy149
          obtain rfl := Option.some.inj H
          go_wp2_with (first | ((with_reducible refine gate_callee (f := 64) rfl ?_); refine goesL_ (some 11) rfl rfl Tryz.func64 (by kernel_rfl) rfl #[.string x0_1, .string a1] rfl (by (try simp only [List.map_toArray, List.map_cons, List.map_nil]); first | done | rfl | (simp only [List.length_drop, List.length_take]; rfl)) ?_; (with_reducible refine (asmlex_zzIndex.calls k1 x0_1 a1 t148 _ A4.out).mono ?_); rintro e w' ⟨rfl, ⟨nd, rfl⟩⟩; refine ⟨_, rfl, ?_⟩) | (at_builtin; refine print_append_str (w0 := w) w.heap.size rfl (.tmp 14) _ 55 9 5 rfl Tryz.underlying55 Tryz.underlying9 info5 u7 x7_1 x0_1 rfl rfl ?aO ?aB ?aS ?aL ?_; (case aB => exact (by repeat (first | (with_reducible first | exact HB.out | apply below_alloc | apply pw_below_drewN | apply below_drew1) | exact HB.out))); (case aO => exact (Kd.own_of_R (by (with_reducible repeat (first | apply Kd.R_alloc | apply Kd.R_drewN | apply Kd.R_drew)); exact HO_7.out))); (case aS => exact (below_size (by repeat (first | (with_reducible first | exact HB.out | apply below_alloc | apply pw_below_drewN | apply below_drew1) | exact HB.out)))); (case aL => have := LMc6.out; omega); intro v150 w7 ho0 hb hg; have ho := Kd.R_of_own (h1 := fun _ => rfl) (ok := fun _ => True) ho0 (fun _ _ => trivial); clear ho0; have hat := True.intro; rw [← Ny149.out] at ho; change Kd.R (Kd.int .u8) 5 w7 w.heap.size (fun _ => True) v150 y149 at ho; have n0_ := Aside0.mk (hb); have n1_ := Aside0.mk (ho); clear HB; clear HO_7; have HB := n0_; have HO151 := n1_; clear n0_ n1_; clear ho hb hg hat; have hcv8 := own_string (P := Tryz.prog) Tryz.underlying55 Tryz.underlying5 Tryz.underlying9 (Kd.own_of_R HO151.out)))
          go_ret
          exact ⟨by first | rfl | (simp [errW_none, errW_some] <;> rfl) | (simp [*, errW_none, errW_some] <;> rfl), by repeat (first | (with_reducible first | exact HB.out | apply below_alloc | apply pw_below_drewN | apply below_drew1) | exact HB.out)⟩
        · rw [if_neg c6] at H
          exact absurd H (by simp)
      · rw [if_neg c5] at H
        have c5b0 : decide (t148 < 0) = false := decide_eq_false c5
        clear c5
        by_cases c9 : 0 ≤ t148
        · rw [if_pos c9] at H
          have c9b0 := eq_true c9
          have c9b1 : decide (0 ≤ t148) = true := decide_eq_true c9
          clear c9
          by_cases c10 : t148 ≤ (x0_1.size : Int)
          · rw [if_pos c10] at H
            have c10b0 := eq_true c10
            have c10b1 : decide (t148 ≤ (x0_1.size : Int)) = true := decide_eq_true c10
            clear c10
            by_cases c11 : x7_1.length + (x0_1.extract 0 (t148 : Int).toNat).size < 140737488355328
            · rw [if_pos c11] at H
              have LMc11 := Aside0.mk c11
              clear c11
              obtain ⟨y152, hy152⟩ : ∃ y_ : List Int, y_ = (x7_1 ++ bytesOf (x0_1.extract 0 (t148 : Int).toNat)) := ⟨_, rfl⟩
              replace H : (if y152.length + a2.size < 140737488355328 then (if 0 ≤ (wrap64 (t148 + (a1.size : Int))) then (if (wrap64 (t148 + (a1.size : Int))) ≤ (x0_1.size : Int) then (asmlex_zzReplaceAll.l0 k1 (x0_1.extract ((wrap64 (t148 + (a1.size : Int))) : Int).toNat x0_1.size) a1 a2 (y152 ++ bytesOf a2)) else (none)) else (none)) else (none)) = some r := by first | (rw [hy152]; with_reducible exact H) | (have H2_ := (Option.bind_some _ _).symm.trans H; rw [hy152]; with_reducible exact H2_) | (have H2_ := (Option.bind_some _ _).symm.trans H; with_reducible exact H2_) | with_reducible exact H | (rw [hy152]; exact H) | exact H
              have Ny152 := Aside0.mk hy152
              clear hy152
              by_cases c12 : y152.length + a2.size < 140737488355328
              · rw [if_pos c12] at H
                have LMc12 := Aside0.mk c12
                clear c12
                obtain ⟨y155, hy155⟩ : ∃ y_ : List Int, y_ = (y152 ++ bytesOf a2) := ⟨_, rfl⟩
                replace H : (if 0 ≤ (wrap64 (t148 + (a1.size : Int))) then (if (wrap64 (t148 + (a1.size : Int))) ≤ (x0_1.size : Int) then (asmlex_zzReplaceAll.l0 k1 (x0_1.extract ((wrap64 (t148 + (a1.size : Int))) : Int).toNat x0_1.size) a1 a2 y155) else (none)) else (none)) = some r := by first | (rw [hy155]; with_reducible exact H) | (have H2_ := (Option.bind_some _ _).symm.trans H; rw [hy155]; with_reducible exact H2_) | (have H2_ := (Option.bind_some _ _).symm.trans H; with_reducible exact H2_) | with_reducible exact H | (rw [hy155]; exact H) | exact H
                have Ny155 := Aside0.mk hy155
                clear hy155
                obtain ⟨ji13, hji13⟩ : ∃ j_ : Int, (wrap64 (t148 + (a1.size : Int))) = j_ := ⟨_, rfl⟩
                replace H : (if 0 ≤ (ji13) then (if (ji13) ≤ (x0_1.size : Int) then (asmlex_zzReplaceAll.l0 k1 (x0_1.extract ((ji13) : Int).toNat x0_1.size) a1 a2 y155) else (none)) else (none)) = some r := by first | (rw [hji13] at H; exact H) | (simp only [hji13] at H ⊢; exact H)
                (try rw [hji13] at A4)
                have hji13w : (IntKind.i64.wrap (t148 + (a1.size : Int))) = ji13 := (i64_w _).trans hji13
                by_cases c14 : 0 ≤ (ji13)
                · rw [if_pos c14] at H
                  have c14b0 := eq_true c14
                  have c14b1 : decide (0 ≤ (ji13)) = true := decide_eq_true c14
                  clear c14
                  by_cases c15 : (ji13) ≤ (x0_1.size : Int)
                  · rw [if_pos c15] at H
                    have c15b0 := eq_true c15
                    have c15b1 : decide ((ji13) ≤ (x0_1.size : Int)) = true := decide_eq_true c15
                    clear c15
                    have H' := Aside0.mk H
                    clear H
                    go_wp2_with (first | ((with_reducible refine gate_callee (f := 64) rfl ?_); refine goesL_ (some 11) rfl rfl Tryz.func64 (by kernel_rfl) rfl #[.string x0_1, .string a1] rfl (by (try simp only [List.map_toArray, List.map_cons, List.map_nil]); first | done | rfl | (simp only [List.length_drop, List.length_take]; rfl)) ?_; (with_reducible refine (asmlex_zzIndex.calls k1 x0_1 a1 t148 _ A4.out).mono ?_); rintro e w' ⟨rfl, ⟨nd, rfl⟩⟩; refine ⟨_, rfl, ?_⟩) | (at_builtin; refine print_append_str (w0 := w) w.heap.size rfl (.tmp 18) _ 55 9 5 rfl Tryz.underlying55 Tryz.underlying9 info5 u7 x7_1 (x0_1.extract 0 (t148 : Int).toNat) rfl rfl ?aO ?aB ?aS ?aL ?_; (case aB => exact (by repeat (first | (with_reducible first | exact HB.out | apply below_alloc | apply pw_below_drewN | apply below_drew1) | exact HB.out))); (case aO => exact (Kd.own_of_R (by (with_reducible repeat (first | apply Kd.R_alloc | apply Kd.R_drewN | apply Kd.R_drew)); exact HO_7.out))); (case aS => exact (below_size (by repeat (first | (with_reducible first | exact HB.out | apply below_alloc | apply pw_below_drewN | apply below_drew1) | exact HB.out)))); (case aL => have := LMc11.out; omega); intro v153 w16 ho0 hb hg; have ho := Kd.R_of_own (h1 := fun _ => rfl) (ok := fun _ => True) ho0 (fun _ _ => trivial); clear ho0; have hat := True.intro; rw [← Ny152.out] at ho; change Kd.R (Kd.int .u8) 5 w16 w.heap.size (fun _ => True) v153 y152 at ho; have n0_ := Aside0.mk (hb); have n1_ := Aside0.mk (ho); clear HB; clear HO_7; have HB := n0_; have HO154 := n1_; clear n0_ n1_; clear ho hb hg hat) | (at_builtin; refine print_append_str (w0 := w) w.heap.size rfl (.tmp 22) _ 55 9 5 rfl Tryz.underlying55 Tryz.underlying9 info5 v153 y152 a2 rfl rfl ?aO ?aB ?aS ?aL ?_; (case aB => exact (by repeat (first | (with_reducible first | exact HB.out | apply below_alloc | apply pw_below_drewN | apply below_drew1) | exact HB.out))); (case aO => exact (Kd.own_of_R (by (with_reducible repeat (first | apply Kd.R_alloc | apply Kd.R_drewN | apply Kd.R_drew)); exact HO154.out))); (case aS => exact (below_size (by repeat (first | (with_reducible first | exact HB.out | apply below_alloc | apply pw_below_drewN | apply below_drew1) | exact HB.out)))); (case aL => have := LMc12.out; omega); intro v156 w17 ho0 hb hg; have ho := Kd.R_of_own (h1 := fun _ => rfl) (ok := fun _ => True) ho0 (fun _ _ => trivial); clear ho0; have hat := True.intro; rw [← Ny155.out] at ho; change Kd.R (Kd.int .u8) 5 w17 w.heap.size (fun _ => True) v156 y155 at ho; have n0_ := Aside0.mk (hb); have n1_ := Aside0.mk (ho); clear HB; clear HO154; have HB := n0_; have HO157 := n1_; clear n0_ n1_; clear ho hb hg hat))
                    go_roundg k1
                    case measure => have := HK1.out; omega
                    case rel => exact ⟨(x0_1.extract ((ji13) : Int).toNat x0_1.size), (y155), (by first | rfl | (simp; done) | (simp only [← hji13] <;> (first | rfl | simp)) | (simp [*]; done)), H', ⟨by have := HK1.out; omega⟩, ⟨by (with_reducible repeat (first | apply Kd.R_alloc | apply Kd.R_drewN | apply Kd.R_drew)); exact HO157.out⟩, ⟨by repeat (first | (with_reducible first | exact HB.out | apply below_alloc | apply pw_below_drewN | apply below_drew1) | exact HB.out)⟩⟩
                  · rw [if_neg c15] at H
                    exact absurd H (by simp)
                · rw [if_neg c14] at H
                  exact absurd H (by simp)
              · rw [if_neg c12] at H
                exact absurd H (by simp)
            · rw [if_neg c11] at H
              exact absurd H (by simp)
          · rw [if_neg c10] at H
            exact absurd H (by simp)
        · rw [if_neg c9] at H
          exact absurd H (by simp)

/-! ### asmlex_Make: function 33 -/
def asmlex_Make.f (k : Nat) (a0 : Int) (a1 : ByteArray) : Option (Int × ByteArray) := (asmlex_zzReplaceAll.f k a1 (⟨#[194, 183]⟩ : ByteArray) (⟨#[46]⟩ : ByteArray)).bind fun t159 => ((asmlex_zzReplaceAll.f k t159 (⟨#[226, 136, 149]⟩ : ByteArray) (⟨#[47]⟩ : ByteArray)).bind fun t160 => (some (a0, t160)))
theorem asmlex_Make.mono : ∀ a0 a1 k, LeO (asmlex_Make.f k a0 a1) (asmlex_Make.f (k + 1) a0 a1) := by
  intro a0 a1 k
  unfold asmlex_Make.f
  repeat' first
      | (with_reducible exact asmlex_zzReplaceAll.mono _ _ _ _)
      | (with_reducible exact LeO.refl _)
      | (with_reducible exact LeO.none _)
      | (with_reducible refine LeO.ite ?_ ?_)
      | (with_reducible refine LeO.bind ?_ (fun _ => ?_))
      | exact asmlex_zzReplaceAll.mono _ _ _ _
      | exact LeO.none _
      | refine LeO.ite ?_ ?_
      | refine LeO.bind ?_ (fun _ => ?_)
set_option maxHeartbeats 8000000 in
set_option maxRecDepth 100000 in
theorem asmlex_Make.calls (k : Nat) (a0 : Int) (a1 : ByteArray) (r1 : Int) (r2 : ByteArray) (w : World) (h : asmlex_Make.f k a0 a1 = some (r1, r2)) :
    Calls Tryz.prog 33 #[.int .i32 a0, .string a1] w fun e w' => e = .returned (.agg #[.int .i32 r1, .string r2]) ∧ Below w.heap.size w w' := by
  have hu44 := Tryz.underlying44
  have HB := Aside0.mk (Below.refl w.heap.size w)
  have H : ((asmlex_zzReplaceAll.f k a1 (⟨#[194, 183]⟩ : ByteArray) (⟨#[46]⟩ : ByteArray)).bind fun t159 => ((asmlex_zzReplaceAll.f k t159 (⟨#[226, 136, 149]⟩ : ByteArray) (⟨#[47]⟩ : ByteArray)).bind fun t160 => (some (a0, t160)))) = some (r1, r2) := h
  clear h
  replace H := Option.bind_eq_some_iff.mp H
  obtain ⟨t159, A30, H⟩ := H
  replace H : ((asmlex_zzReplaceAll.f k t159 (⟨#[226, 136, 149]⟩ : ByteArray) (⟨#[47]⟩ : ByteArray)).bind fun t160 => (some (a0, t160))) = some (r1, r2) := H
  have A3 := Aside0.mk A30
  clear A30
  replace H := Option.bind_eq_some_iff.mp H
  obtain ⟨t160, A40, H⟩ := H
  replace H : (some (a0, t160)) = some (r1, r2) := H
  have A4 := Aside0.mk A40
  clear A40
  simp only [Option.some.injEq, Prod.mk.injEq] at H
  obtain ⟨rfl, rfl⟩ := H
  go_enter Tryz.func33, Tryz.ntmps33
  go_wp2_with (first | ((with_reducible refine gate_dst (N := 4) rfl ?_); refine box_event ?hg (N := 4) ?hd (cs := #[.int .i32 0, .string (⟨#[]⟩ : ByteArray)]) (t := 44) ?hr ?_; (case hd => rfl); (case hg => rfl); (case hr => first | (go_simp; done) | (go_simp; rfl)); intro gb158 hg w5 hbox hb; have n0_ := Aside0.mk (below_step (by repeat (first | (with_reducible first | exact HB.out | apply below_alloc | apply pw_below_drewN | apply below_drew1) | exact HB.out)) hb); have n1_ := Aside0.mk (hbox); have n2_ := Aside0.mk ((by rw [hg]; exact (below_size (by repeat (first | (with_reducible first | exact HB.out | apply below_alloc | apply pw_below_drewN | apply below_drew1) | exact HB.out))) : w.heap.size ≤ gb158)); have n3_ := Aside0.mk ((by rw [hg]; exact (below_size (by repeat (first | (with_reducible first | exact HB.out | apply below_alloc | apply pw_below_drewN | apply below_drew1) | exact HB.out))) : w.heap.size ≤ gb158)); clear HB; have HB := n0_; have BK158 := n1_; have GW158 := n2_; have GE158 := n3_; clear n0_ n1_ n2_ n3_; clear hb hbox hg) | ((with_reducible refine gate_callee (f := 46) rfl ?_); refine goesL_ (some 6) rfl rfl Tryz.func46 (by kernel_rfl) rfl #[.string a1, .string (⟨#[194, 183]⟩ : ByteArray), .string (⟨#[46]⟩ : ByteArray)] rfl (by (try simp only [List.map_toArray, List.map_cons, List.map_nil]); first | done | rfl | (simp only [List.length_drop, List.length_take]; rfl)) ?_; (with_reducible refine (asmlex_zzReplaceAll.calls k a1 (⟨#[194, 183]⟩ : ByteArray) (⟨#[46]⟩ : ByteArray) t159 _ A3.out).mono ?_); rintro e w6 ⟨rfl, hb⟩; refine ⟨_, rfl, ?_⟩; have n0_ := Aside0.mk (blk_below (g := gb158) (o := .cells #[.int .i32 0, .string (⟨#[]⟩ : ByteArray)] 44 (0, 0)) (by (with_reducible repeat (first | refine blk_drewN ?_ _ | refine blk_drew ?_ | refine blk_alloc ?_ _)); exact BK158.out) hb); have n1_ := Aside0.mk (below_step (by repeat (first | (with_reducible first | exact HB.out | apply below_alloc | apply pw_below_drewN | apply below_drew1 | refine below_set ?_ GE158.out) | exact HB.out)) hb); clear BK158; clear HB; have BK158 := n0_; have HB := n1_; clear n0_ n1_; (try clear hb); (try clear hb2); (try clear hk); (try clear hi)) | ((with_reducible refine gate_callee (f := 46) rfl ?_); refine goesL_ (some 8) rfl rfl Tryz.func46 (by kernel_rfl) rfl #[.string t159, .string (⟨#[226, 136, 149]⟩ : ByteArray), .string (⟨#[47]⟩ : ByteArray)] rfl (by (try simp only [List.map_toArray, List.map_cons, List.map_nil]); first | done | rfl | (simp only [List.length_drop, List.length_take]; rfl)) ?_; (with_reducible refine (asmlex_zzReplaceAll.calls k t159 (⟨#[226, 136, 149]⟩ : ByteArray) (⟨#[47]⟩ : ByteArray) t160 _ A4.out).mono ?_); rintro e w7 ⟨rfl, hb⟩; refine ⟨_, rfl, ?_⟩; have n0_ := Aside0.mk (blk_below (g := gb158) (o := .cells #[.int .i32 0, .string (⟨#[]⟩ : ByteArray)] 44 (0, 0)) (by (with_reducible repeat (first | refine blk_drewN ?_ _ | refine blk_drew ?_ | refine blk_alloc ?_ _)); exact BK158.out) hb); have n1_ := Aside0.mk (below_step (by repeat (first | (with_reducible first | exact HB.out | apply below_alloc | apply pw_below_drewN | apply below_drew1 | refine below_set ?_ GE158.out) | exact HB.out)) hb); clear BK158; clear HB; have BK158 := n0_; have HB := n1_; clear n0_ n1_; (try clear hb); (try clear hb2); (try clear hk); (try clear hi); have hcz8_0 : w7.cell? ⟨gb158, 0, none⟩ = some (.int .i32 0) := (blk_cell BK158.out 0).trans rfl; have hcz8_1 : w7.cell? ⟨gb158, 1, none⟩ = some (.string (⟨#[]⟩ : ByteArray)) := (blk_cell BK158.out 1).trans rfl; have hfz8_0 := blk_frozen BK158.out 0; have hfz8_1 := blk_frozen BK158.out 1))
  refine bodyPost_ret (results_cell_row rfl _ _ gb158 44 #[.int .i32 a0, .string t160] (0, 0) _ rfl (by (with_reducible repeat (first | refine blk_drewN ?_ _ | refine blk_drew ?_ | refine blk_alloc ?_ _)); refine blk_put (cs := #[.int .i32 a0, .string (⟨#[]⟩ : ByteArray)]) ?_ 1 _ rfl; (with_reducible repeat (first | refine blk_drewN ?_ _ | refine blk_drew ?_ | refine blk_alloc ?_ _)); refine blk_put (cs := #[.int .i32 0, .string (⟨#[]⟩ : ByteArray)]) ?_ 0 _ rfl; (with_reducible repeat (first | refine blk_drewN ?_ _ | refine blk_drew ?_ | refine blk_alloc ?_ _)); exact BK158.out) Tryz.underlying44 rfl (by kernel_rfl)) rfl ?_
  exact ⟨by first | rfl | (simp [errW_none, errW_some] <;> rfl) | (simp [*, errW_none, errW_some] <;> rfl), by repeat (first | (with_reducible first | exact HB.out | apply below_alloc | apply pw_below_drewN | apply below_drew1 | refine below_set ?_ GE158.out) | exact HB.out)⟩

-- NOT PRINTED: function 34 (asmlex_Tokenizer_Text)

-- NOT PRINTED: function 20 (asmlex_Tokenize)

/-! ### asmlex_Token_ZZText: function 21 -/
def asmlex_Token_ZZText.f (a0_0 : Int) (a0_1 : ByteArray) : Option (ByteArray) := some a0_1
set_option maxHeartbeats 8000000 in
set_option maxRecDepth 100000 in
theorem asmlex_Token_ZZText.calls (a0_0 : Int) (a0_1 : ByteArray) (r : ByteArray) (w : World) (h : asmlex_Token_ZZText.f a0_0 a0_1 = some r) :
    Calls Tryz.prog 21 #[.agg #[.int .i32 a0_0, .string a0_1]] w fun e w' => e = .returned (.string r) ∧ Below w.heap.size w w' := by
  have hu44 := Tryz.underlying44
  have HB := Aside0.mk (Below.refl w.heap.size w)
  have H : (some a0_1) = some r := h
  clear h
  obtain rfl := Option.some.inj H
  go_enter Tryz.func21, Tryz.ntmps21
  go_wp2_with (first | ((with_reducible refine gate_dst (N := 1) rfl ?_); refine box_event ?hg (N := 1) ?hd (cs := #[.int .i32 a0_0, .string a0_1]) (t := 44) ?hr ?_; (case hd => rfl); (case hg => rfl); (case hr => first | (go_simp; done) | (go_simp; rfl)); intro gb165 hg w2 hbox hb; have n0_ := Aside0.mk (below_step (by repeat (first | (with_reducible first | exact HB.out | apply below_alloc | apply pw_below_drewN | apply below_drew1) | exact HB.out)) hb); have n1_ := Aside0.mk (hbox); have n2_ := Aside0.mk ((by rw [hg]; exact (below_size (by repeat (first | (with_reducible first | exact HB.out | apply below_alloc | apply pw_below_drewN | apply below_drew1) | exact HB.out))) : w.heap.size ≤ gb165)); have n3_ := Aside0.mk ((by rw [hg]; exact (below_size (by repeat (first | (with_reducible first | exact HB.out | apply below_alloc | apply pw_below_drewN | apply below_drew1) | exact HB.out))) : w.heap.size ≤ gb165)); clear HB; have HB := n0_; have BK165 := n1_; have GW165 := n2_; have GE165 := n3_; clear n0_ n1_ n2_ n3_; clear hb hbox hg; have hcz3_0 : w2.cell? ⟨gb165, 0, none⟩ = some (.int .i32 a0_0) := (blk_cell BK165.out 0).trans rfl; have hcz3_1 : w2.cell? ⟨gb165, 1, none⟩ = some (.string a0_1) := (blk_cell BK165.out 1).trans rfl; have hfz3_0 := blk_frozen BK165.out 0; have hfz3_1 := blk_frozen BK165.out 1))
  go_ret
  exact ⟨by first | rfl | (simp [errW_none, errW_some] <;> rfl) | (simp [*, errW_none, errW_some] <;> rfl), by repeat (first | (with_reducible first | exact HB.out | apply below_alloc | apply pw_below_drewN | apply below_drew1 | refine below_set ?_ GE165.out) | exact HB.out)⟩

-- NOT PRINTED: function 12 (impl_Tokenize)

/-! ### spec_Joined: function 13 -/
def spec_Joined.l0 : Nat → List ByteArray → ByteArray → List ByteArray → Int → Int → Option (ByteArray)
  | 0, _, _, _, _, _ => none
  | k + 1, x1, x5, x8, x9, x10 => if x10 < x9 then (if 0 ≤ x10 then (if x10 < (x8.length : Int) then (if x5.size + (rdOf ByteArray.empty x8 x10).size ≤ 9223372036854775807 then (if x10 < (x1.length : Int) then (if (x5 ++ (rdOf ByteArray.empty x8 x10)).size + (rdOf ByteArray.empty x1 x10).size ≤ 9223372036854775807 then (spec_Joined.l0 k x1 ((x5 ++ (rdOf ByteArray.empty x8 x10)) ++ (rdOf ByteArray.empty x1 x10)) x8 x9 (wrap64 (x10 + 1))) else (none)) else (spec_Joined.l0 k x1 (x5 ++ (rdOf ByteArray.empty x8 x10)) x8 x9 (wrap64 (x10 + 1)))) else (none)) else (none)) else (none)) else (some x5)
def spec_Joined.f (k : Nat) (l0 : List ByteArray) (l1 : List ByteArray) : Option (ByteArray) := spec_Joined.l0 k l1 (⟨#[]⟩ : ByteArray) l0 (l0.length : Int) 0
theorem spec_Joined.mono_l : ∀ k, (∀ y0 y1 y2 y3 y4, LeO (spec_Joined.l0 k y0 y1 y2 y3 y4) (spec_Joined.l0 (k + 1) y0 y1 y2 y3 y4))
  | 0 => fun _ _ _ _ _ r h => by simp [spec_Joined.l0] at h
  | k + 1 => by
    have ih0 := spec_Joined.mono_l k
    · intro y0 y1 y2 y3 y4
      unfold spec_Joined.l0
      repeat' first
      | (with_reducible exact ih0 _ _ _ _ _)
      | (with_reducible exact LeO.refl _)
      | (with_reducible exact LeO.none _)
      | (with_reducible refine LeO.ite ?_ ?_)
      | (with_reducible refine LeO.bind ?_ (fun _ => ?_))
      | exact ih0 _ _ _ _ _
      | exact LeO.none _
      | refine LeO.ite ?_ ?_
      | refine LeO.bind ?_ (fun _ => ?_)
theorem spec_Joined.mono : ∀ a0 a1 k, LeO (spec_Joined.f k a0 a1) (spec_Joined.f (k + 1) a0 a1) := by
  intro a0 a1 k
  have ih0 := spec_Joined.mono_l k
  unfold spec_Joined.f
  repeat' first
      | (with_reducible exact ih0 _ _ _ _ _)
      | (with_reducible exact LeO.refl _)
      | (with_reducible exact LeO.none _)
      | (with_reducible refine LeO.ite ?_ ?_)
      | (with_reducible refine LeO.bind ?_ (fun _ => ?_))
      | exact ih0 _ _ _ _ _
      | exact LeO.none _
      | refine LeO.ite ?_ ?_
      | refine LeO.bind ?_ (fun _ => ?_)
set_option maxHeartbeats 8000000 in
set_option maxRecDepth 100000 in
theorem spec_Joined.calls (k : Nat) (A0 : Option Addr) (c0 : Nat) (l0 : List ByteArray) (A1 : Option Addr) (c1 : Nat) (l1 : List ByteArray) (r : ByteArray) (w : World) (hr0 : Kd.C Kd.string w A0 l0.length l0) (hc0 : l0.length ≤ c0) (hr1 : Kd.C Kd.string w A1 l1.length l1) (hc1 : l1.length ≤ c1) (h : spec_Joined.f k l0 l1 = some r) :
    Calls Tryz.prog 13 #[.slice A0 l0.length c0, .slice A1 l1.length c1] w fun e w' => e = .returned (.string r) ∧ Drawn0 w w' := by
  have HR0 := Aside0.mk hr0
  have HC0 := Aside0.mk hc0
  clear hr0 hc0
  have HR1 := Aside0.mk hr1
  have HC1 := Aside0.mk hc1
  clear hr1 hc1
  have H : (spec_Joined.l0 k l1 (⟨#[]⟩ : ByteArray) l0 (l0.length : Int) 0) = some r := h
  clear h
  have H' := Aside0.mk H
  clear H
  go_enter Tryz.func13, Tryz.ntmps13
  go_wp2
  go_loopg [5, 10] k (fun kq v5 v10 w' => ∃ (x5_1 : ByteArray) (x10_1 : Int), v5 = .string x5_1 ∧ v10 = .int .i64 x10_1 ∧ Aside0 (spec_Joined.l0 kq l1 x5_1 l0 (l0.length : Int) x10_1 = some r) ∧ Aside0 (kq ≤ k) ∧ Drawn0 w w')
  case atStart => exact ⟨((⟨#[]⟩ : ByteArray)), (0), (by first | rfl | (simp; done) | (simp [*]; done)), (by first | rfl | (simp; done) | (simp [*]; done)), H', ⟨Nat.le_refl _⟩, by repeat (first | exact Drawn0.refl _ | apply Drawn0.step)⟩
  case round =>
    clear H'
    try clear c1
    try clear p2
    obtain ⟨x5_1, x10_1, rfl, rfl, HA, HK1, ⟨m1, rfl⟩⟩ := hrel
    cases gk with
    | zero => exact absurd HA.out (by simp [spec_Joined.l0])
    | succ k1 =>
      have H := HA.out
      clear HA
      simp only [spec_Joined.l0] at H
      by_cases c3 : x10_1 < (l0.length : Int)
      · rw [if_pos c3] at H
        have c3b0 : decide (x10_1 < (l0.length : Int)) = true := decide_eq_true c3
        clear c3
        by_cases c4 : 0 ≤ x10_1
        · rw [if_pos c4] at H
          have c4b0 : decide (0 ≤ x10_1) = true := decide_eq_true c4
          clear c4
          by_cases c5 : x10_1 < (l0.length : Int)
          · rw [if_pos c5] at H
            have c5b0 : decide (x10_1 < (l0.length : Int)) = true := decide_eq_true c5
            clear c5
            by_cases c6 : x5_1.size + (rdOf ByteArray.empty l0 x10_1).size ≤ 9223372036854775807
            · rw [if_pos c6] at H
              have c6b0 := eq_true c6
              have c6b1 : decide (x5_1.size + (rdOf ByteArray.empty l0 x10_1).size ≤ 9223372036854775807) = true := decide_eq_true c6
              try have c6b2 : (9223372036854775807 < x5_1.size + (rdOf ByteArray.empty l0 x10_1).size) = False := eq_false (Nat.not_lt.2 c6)
              by_cases c7 : x10_1 < (l1.length : Int)
              · rw [if_pos c7] at H
                have c7b0 : decide (x10_1 < (l1.length : Int)) = true := decide_eq_true c7
                clear c7
                by_cases c8 : (x5_1 ++ (rdOf ByteArray.empty l0 x10_1)).size + (rdOf ByteArray.empty l1 x10_1).size ≤ 9223372036854775807
                · rw [if_pos c8] at H
                  have c8b0 := eq_true c8
                  have c8b1 : decide ((x5_1 ++ (rdOf ByteArray.empty l0 x10_1)).size + (rdOf ByteArray.empty l1 x10_1).size ≤ 9223372036854775807) = true := decide_eq_true c8
                  try have c8b2 : (9223372036854775807 < (x5_1 ++ (rdOf ByteArray.empty l0 x10_1)).size + (rdOf ByteArray.empty l1 x10_1).size) = False := eq_false (Nat.not_lt.2 c8)
                  have H' := Aside0.mk H
                  clear H
                  have p169 : 0 ≤ (x10_1 : Int) := of_decide_eq_true (by first | (with_reducible assumption) | assumption)
                  have q169 : x10_1 < (l0.length : Int) := of_decide_eq_true (by first | (with_reducible assumption) | assumption)
                  obtain ⟨ad169, e169, hx169_0⟩ := Kd.at_string HR0.out x10_1 p169 q169
                  cases e169
                  replace p169 := eq_true p169
                  replace q169 := eq_true q169
                  have p170 : 0 ≤ (x10_1 : Int) := of_decide_eq_true (by first | (with_reducible assumption) | assumption)
                  have q170 : x10_1 < (l1.length : Int) := of_decide_eq_true (by first | (with_reducible assumption) | assumption)
                  obtain ⟨ad170, e170, hx170_0⟩ := Kd.at_string HR1.out x10_1 p170 q170
                  cases e170
                  replace p170 := eq_true p170
                  replace q170 := eq_true q170
                  go_wp2
                  go_roundg k1
                  case measure => have := HK1.out; omega
                  case rel => exact ⟨((x5_1 ++ (rdOf ByteArray.empty l0 x10_1)) ++ (rdOf ByteArray.empty l1 x10_1)), (wrap64 (x10_1 + 1)), (by first | rfl | (simp; done) | (simp [*]; done)), (by first | rfl | (simp; done) | (simp [*]; done)), H', ⟨by have := HK1.out; omega⟩, by repeat (first | exact Drawn0.refl _ | apply Drawn0.step)⟩
                · rw [if_neg c8] at H
                  exact absurd H (by simp)
              · rw [if_neg c7] at H
                have c7b0 : decide (x10_1 < (l1.length : Int)) = false := decide_eq_false c7
                clear c7
                have H' := Aside0.mk H
                clear H
                have p169 : 0 ≤ (x10_1 : Int) := of_decide_eq_true (by first | (with_reducible assumption) | assumption)
                have q169 : x10_1 < (l0.length : Int) := of_decide_eq_true (by first | (with_reducible assumption) | assumption)
                obtain ⟨ad169, e169, hx169_0⟩ := Kd.at_string HR0.out x10_1 p169 q169
                cases e169
                replace p169 := eq_true p169
                replace q169 := eq_true q169
                go_wp2
                go_roundg k1
                case measure => have := HK1.out; omega
                case rel => exact ⟨(x5_1 ++ (rdOf ByteArray.empty l0 x10_1)), (wrap64 (x10_1 + 1)), (by first | rfl | (simp; done) | (simp [*]; done)), (by first | rfl | (simp; done) | (simp [*]; done)), H', ⟨by have := HK1.out; omega⟩, by repeat (first | exact Drawn0.refl _ | apply Drawn0.step)⟩
            · rw [if_neg c6] at H
              exact absurd H (by simp)
          · rw [if_neg c5] at H
            exact absurd H (by simp)
        · rw [if_neg c4] at H
          exact absurd H (by simp)
      · rw [if_neg c3] at H
        have c3b0 : decide (x10_1 < (l0.length : Int)) = false := decide_eq_false c3
        clear c3
        obtain rfl := Option.some.inj H
        go_wp2
        go_ret
        exact ⟨by first | rfl | (simp; done) | (simp [*]; done), by repeat (first | exact Drawn0.refl _ | apply Drawn0.step)⟩

/-! ### spec_Told: function 25 -/
mutual
def spec_Told.l0 : Nat → ByteArray → List Int → Int → Option (ByteArray)
  | 0, _, _, _ => none
  | k + 1, x0, x3, x4 => if x4 < (x0.size : Int) then (if (wrap64 ((x0.size : Int) - x4)) ≥ 2 then (if 0 ≤ x4 then (if x4 ≤ (wrap64 (x4 + 2)) then (if (wrap64 (x4 + 2)) ≤ (x0.size : Int) then (spec_Told.j1 k x0 x3 x4 ((x0.extract (x4 : Int).toNat ((wrap64 (x4 + 2)) : Int).toNat).toList == ([194, 183] : List UInt8))) else (none)) else (none)) else (none)) else (spec_Told.j1 k x0 x3 x4 false)) else (some (strOfNums x3))
def spec_Told.j1 : Nat → ByteArray → List Int → Int → Bool → Option (ByteArray)
  | 0, _, _, _, _ => none
  | k + 1, x0, x3, x4, x18 => if x18 = true then (if x3.length < 140737488355328 then (spec_Told.l0 k x0 (x3 ++ [46]) (wrap64 (x4 + 2))) else (none)) else (if (wrap64 ((x0.size : Int) - x4)) ≥ 3 then (if 0 ≤ x4 then (if x4 ≤ (wrap64 (x4 + 3)) then (if (wrap64 (x4 + 3)) ≤ (x0.size : Int) then (if (x0.extract (x4 : Int).toNat ((wrap64 (x4 + 3)) : Int).toNat).toList = ([226, 136, 149] : List UInt8) then (if x3.length < 140737488355328 then (spec_Told.l0 k x0 (x3 ++ [47]) (wrap64 (x4 + 3))) else (none)) else (if x4 < (x0.size : Int) then (if x3.length < 140737488355328 then (spec_Told.l0 k x0 (x3 ++ [bt x0 x4]) (wrap64 (x4 + 1))) else (none)) else (none))) else (none)) else (none)) else (none)) else (if 0 ≤ x4 then (if x4 < (x0.size : Int) then (if x3.length < 140737488355328 then (spec_Told.l0 k x0 (x3 ++ [bt x0 x4]) (wrap64 (x4 + 1))) else (none)) else (none)) else (none)))
end
def spec_Told.f (k : Nat) (a0 : ByteArray) : Option (ByteArray) := spec_Told.l0 k a0 (([] : List Int)) 0
theorem spec_Told.mono_l : ∀ k, (∀ y0 y1 y2, LeO (spec_Told.l0 k y0 y1 y2) (spec_Told.l0 (k + 1) y0 y1 y2)) ∧ (∀ y0 y1 y2 y3, LeO (spec_Told.j1 k y0 y1 y2 y3) (spec_Told.j1 (k + 1) y0 y1 y2 y3))
  | 0 => ⟨fun _ _ _ r h => by simp [spec_Told.l0] at h, fun _ _ _ _ r h => by simp [spec_Told.j1] at h⟩
  | k + 1 => by
    obtain ⟨ih0, ih1⟩ := spec_Told.mono_l k
    refine ⟨?_, ?_⟩
    · intro y0 y1 y2
      unfold spec_Told.l0
      repeat' first
      | (with_reducible exact ih0 _ _ _)
      | (with_reducible exact ih1 _ _ _ _)
      | (with_reducible exact LeO.refl _)
      | (with_reducible exact LeO.none _)
      | (with_reducible refine LeO.ite ?_ ?_)
      | (with_reducible refine LeO.bind ?_ (fun _ => ?_))
      | exact ih0 _ _ _
      | exact ih1 _ _ _ _
      | exact LeO.none _
      | refine LeO.ite ?_ ?_
      | refine LeO.bind ?_ (fun _ => ?_)
    · intro y0 y1 y2 y3
      unfold spec_Told.j1
      repeat' first
      | (with_reducible exact ih0 _ _ _)
      | (with_reducible exact ih1 _ _ _ _)
      | (with_reducible exact LeO.refl _)
      | (with_reducible exact LeO.none _)
      | (with_reducible refine LeO.ite ?_ ?_)
      | (with_reducible refine LeO.bind ?_ (fun _ => ?_))
      | exact ih0 _ _ _
      | exact ih1 _ _ _ _
      | exact LeO.none _
      | refine LeO.ite ?_ ?_
      | refine LeO.bind ?_ (fun _ => ?_)
theorem spec_Told.mono : ∀ a0 k, LeO (spec_Told.f k a0) (spec_Told.f (k + 1) a0) := by
  intro a0 k
  obtain ⟨ih0, ih1⟩ := spec_Told.mono_l k
  unfold spec_Told.f
  repeat' first
      | (with_reducible exact ih0 _ _ _)
      | (with_reducible exact ih1 _ _ _ _)
      | (with_reducible exact LeO.refl _)
      | (with_reducible exact LeO.none _)
      | (with_reducible refine LeO.ite ?_ ?_)
      | (with_reducible refine LeO.bind ?_ (fun _ => ?_))
      | exact ih0 _ _ _
      | exact ih1 _ _ _ _
      | exact LeO.none _
      | refine LeO.ite ?_ ?_
      | refine LeO.bind ?_ (fun _ => ?_)
set_option maxHeartbeats 8000000 in
set_option maxRecDepth 100000 in
theorem spec_Told.calls (k : Nat) (a0 : ByteArray) (r : ByteArray) (w : World) (h : spec_Told.f k a0 = some r) :
    Calls Tryz.prog 25 #[.string a0] w fun e w' => e = .returned (.string r) ∧ Below w.heap.size w w' := by
  have HB := Aside0.mk (Below.refl w.heap.size w)
  have H : (spec_Told.l0 k a0 (([] : List Int)) 0) = some r := h
  clear h
  obtain ⟨y171, hy171⟩ : ∃ y_ : List Int, y_ = (([] : List Int)) := ⟨_, rfl⟩
  replace H : (spec_Told.l0 k a0 y171 0) = some r := by first | (rw [hy171]; with_reducible exact H) | (have H2_ := (Option.bind_some _ _).symm.trans H; rw [hy171]; with_reducible exact H2_) | (have H2_ := (Option.bind_some _ _).symm.trans H; with_reducible exact H2_) | with_reducible exact H | (rw [hy171]; exact H) | exact H
  have Ny171 := Aside0.mk hy171
  clear hy171
  have H' := Aside0.mk H
  clear H
  go_enter Tryz.func25, Tryz.ntmps25
  go_wp2_with (first | ((with_reducible refine gate_dst (N := 5) rfl ?_); refine Kd.R_lit (Kd.int .u8) _ 5 ?hg (N := 5) ?hd (xs := ([] : List Int)) (inner := []) (ok := fun _ => True) (okp := fun _ => True) ?hr ?hp (fun _ hk => hk) trivial (Below.refl _ _) (Nat.le_refl _) (by simp) ?_; (case hd => rfl); (case hg => rfl); (case hr => first | (go_simp; done) | (go_simp; rfl)); (case hp => exact (Reps.none _ _)); intro v172 w2 ho3 hb hg_ hnew_; clear hg_ hnew_; (first | rw [← Ny171.out] at ho3 | (simp only [Int.reduceToNat] at ho3; rw [← Ny171.out] at ho3)); have n0_ := Aside0.mk (Kd.R_lower ho3 (below_size (by repeat (first | (with_reducible first | exact HB.out | apply below_alloc | apply pw_below_drewN | apply below_drew1) | exact HB.out)))); have n1_ := Aside0.mk (below_step (by repeat (first | (with_reducible first | exact HB.out | apply below_alloc | apply pw_below_drewN | apply below_drew1) | exact HB.out)) hb); clear HB; have HO173 := n0_; have HB := n1_; clear n0_ n1_; clear hb ho3))
  go_loopg [3, 4] k (fun kq v3 v4 w' => ∃ (x3_1 : List Int) (x4_1 : Int), v4 = .int .i64 x4_1 ∧ Aside0 (spec_Told.l0 kq a0 x3_1 x4_1 = some r) ∧ Aside0 (kq ≤ k) ∧ Aside0 (Kd.R (Kd.int .u8) 5 w' w.heap.size (fun _ => True) v3 x3_1) ∧ Aside0 (Below w.heap.size w w'))
  case atStart => exact ⟨(y171), (0), (by first | rfl | (simp; done) | (simp [*]; done)), H', ⟨Nat.le_refl _⟩, ⟨by (with_reducible repeat (first | apply Kd.R_alloc | apply Kd.R_drewN | apply Kd.R_drew)); exact HO173.out⟩, ⟨by repeat (first | (with_reducible first | exact HB.out | apply below_alloc | apply pw_below_drewN | apply below_drew1) | exact HB.out)⟩⟩
  case round =>
    clear H'
    try clear c2
    try clear p2
    obtain ⟨x3_1, x4_1, rfl, HA, HK1, HO_3, HB⟩ := hrel
    cases gk with
    | zero => exact absurd HA.out (by simp [spec_Told.l0])
    | succ k1 =>
      have H := HA.out
      clear HA
      simp only [spec_Told.l0] at H
      by_cases c4 : x4_1 < (a0.size : Int)
      · rw [if_pos c4] at H
        have c4b0 : decide (x4_1 < (a0.size : Int)) = true := decide_eq_true c4
        clear c4
        have HC5 := Aside0.mk H
        clear H
        go_upto_region 6 with (fail)
        go_cut [18] (fun v18 wc => ∃ (kq : Nat) (x18_4 : Bool), v18 = .bool x18_4 ∧ Aside0 (spec_Told.j1 kq a0 x3_1 x4_1 x18_4 = some r) ∧ Aside0 (kq ≤ k1) ∧ Aside0 (Kd.R (Kd.int .u8) 5 wc w.heap.size (fun _ => True) u3 x3_1) ∧ Aside0 (Below w.heap.size w wc))
        case first =>
          have H := HC5.out
          clear HC5
          by_cases c6 : (wrap64 ((a0.size : Int) - x4_1)) ≥ 2
          · rw [if_pos c6] at H
            have c6b0 : decide (2 ≤ (wrap64 ((a0.size : Int) - x4_1))) = true := decide_eq_true c6
            clear c6
            (first | rw [c6b0] | (simp only [i64_w, i32_w]; rw [c6b0]) | skip)
            by_cases c7 : 0 ≤ x4_1
            · rw [if_pos c7] at H
              have c7b0 := eq_true c7
              have c7b1 : decide (0 ≤ x4_1) = true := decide_eq_true c7
              clear c7
              by_cases c8 : x4_1 ≤ (wrap64 (x4_1 + 2))
              · rw [if_pos c8] at H
                have c8b0 := eq_true c8
                have c8b1 : decide (x4_1 ≤ (wrap64 (x4_1 + 2))) = true := decide_eq_true c8
                by_cases c9 : (wrap64 (x4_1 + 2)) ≤ (a0.size : Int)
                · rw [if_pos c9] at H
                  have c9b0 := eq_true c9
                  have c9b1 : decide ((wrap64 (x4_1 + 2)) ≤ (a0.size : Int)) = true := decide_eq_true c9
                  have H' := Aside0.mk H
                  clear H
                  go_wp2
                  go_meet
                  case rel => exact ⟨_, (((a0.extract (x4_1 : Int).toNat ((wrap64 (x4_1 + 2)) : Int).toNat).toList == ([194, 183] : List UInt8))), (by first | rfl | (simp; done) | (simp [*]; done)), H', ⟨by have := HK1.out; first | omega | exact Nat.le_refl _⟩, ⟨by (with_reducible repeat (first | apply Kd.R_alloc | apply Kd.R_drewN | apply Kd.R_drew)); exact HO_3.out⟩, ⟨by repeat (first | (with_reducible first | exact HB.out | apply below_alloc | apply pw_below_drewN | apply below_drew1) | exact HB.out)⟩⟩
                · rw [if_neg c9] at H
                  exact absurd H (by simp)
              · rw [if_neg c8] at H
                exact absurd H (by simp)
            · rw [if_neg c7] at H
              exact absurd H (by simp)
          · rw [if_neg c6] at H
            have c6b0 : decide (2 ≤ (wrap64 ((a0.size : Int) - x4_1))) = false := decide_eq_false c6
            clear c6
            (first | rw [c6b0] | (simp only [i64_w, i32_w]; rw [c6b0]) | skip)
            have H' := Aside0.mk H
            clear H
            go_wp2
            go_meet
            case rel => exact ⟨_, (false), (by first | rfl | (simp; done) | (simp [*]; done)), H', ⟨by have := HK1.out; first | omega | exact Nat.le_refl _⟩, ⟨by (with_reducible repeat (first | apply Kd.R_alloc | apply Kd.R_drewN | apply Kd.R_drew)); exact HO_3.out⟩, ⟨by repeat (first | (with_reducible first | exact HB.out | apply below_alloc | apply pw_below_drewN | apply below_drew1) | exact HB.out)⟩⟩
        case rest =>
          clear HC5
          try clear c2
          try clear p2
          try clear c4
          try clear c4b0
          try clear c6
          try clear c6b0
          try clear p6
          try clear c7
          try clear c7b0
          try clear c7b1
          try clear c8
          try clear c8b0
          try clear c8b1
          try clear c9
          try clear c9b0
          try clear c9b1
          try clear p2
          obtain ⟨kq, x18_4, rfl, HA, HJ4, HO_3, HB⟩ := hcut
          cases kq with
          | zero => exact absurd HA.out (by simp [spec_Told.j1])
          | succ kj4 =>
            have H := HA.out
            clear HA
            simp only [spec_Told.j1] at H
            by_cases c10 : x18_4 = true
            · subst c10
              have H1 : (if x3_1.length < 140737488355328 then (spec_Told.l0 kj4 a0 (x3_1 ++ [46]) (wrap64 (x4_1 + 2))) else (none)) = some r := by rw [if_pos rfl] at H; exact H
              clear H
              have H := H1
              clear H1
              by_cases c11 : x3_1.length < 140737488355328
              · rw [if_pos c11] at H
                have LMc11 := Aside0.mk c11
                clear c11
                obtain ⟨y174, hy174⟩ : ∃ y_ : List Int, y_ = (x3_1 ++ [46]) := ⟨_, rfl⟩
                replace H : (spec_Told.l0 kj4 a0 y174 (wrap64 (x4_1 + 2))) = some r := by first | (rw [hy174]; with_reducible exact H) | (have H2_ := (Option.bind_some _ _).symm.trans H; rw [hy174]; with_reducible exact H2_) | (have H2_ := (Option.bind_some _ _).symm.trans H; with_reducible exact H2_) | with_reducible exact H | (rw [hy174]; exact H) | exact H
                have Ny174 := Aside0.mk hy174
                clear hy174
                have H' := Aside0.mk H
                clear H
                go_wp2_with (first | ((with_reducible refine gate_builtin (b := .append) (xs := #[.tmp 32, .tmp 33]) rfl ?_); at_builtin; refine Kd.R_append (Kd.int .u8) (w0 := w) w.heap.size rfl (.tmp 32) (.tmp 33) 55 5 (.int .u8 0) 1 rfl Tryz.underlying55 info5 rfl (by decide) (by omega) u3 x3_1 46 [.int .u8 46] (fun _ => True) (fun _ => False) rfl rfl ?aP (fun _ hk => hk.elim) ?aF ?aO ?aB ?aS ?aL ?_; (case aP => exact rfl); (case aB => exact (by repeat (first | (with_reducible first | exact HB.out | apply below_alloc | apply pw_below_drewN | apply below_drew1) | exact HB.out))); (case aF => exact (fun _ _ => trivial)); (case aO => exact (by (with_reducible repeat (first | apply Kd.R_alloc | apply Kd.R_drewN | apply Kd.R_drew)); exact HO_3.out)); (case aS => exact (below_size (by repeat (first | (with_reducible first | exact HB.out | apply below_alloc | apply pw_below_drewN | apply below_drew1) | exact HB.out)))); (case aL => have := LMc11.out; omega); intro v175 w12 ho hb hg hat; rw [← Ny174.out] at ho; have n0_ := Aside0.mk (hb); have n1_ := Aside0.mk (ho); clear HB; clear HO_3; have HB := n0_; have HO176 := n1_; clear n0_ n1_; clear ho hb hg hat))
                go_roundg kj4
                case measure => have := HK1.out; have := HJ4.out; omega
                case rel => exact ⟨(y174), (wrap64 (x4_1 + 2)), (by first | rfl | (simp; done) | (simp [*]; done)), H', ⟨by have := HK1.out; have := HJ4.out; omega⟩, ⟨by (with_reducible repeat (first | apply Kd.R_alloc | apply Kd.R_drewN | apply Kd.R_drew)); exact HO176.out⟩, ⟨by repeat (first | (with_reducible first | exact HB.out | apply below_alloc | apply pw_below_drewN | apply below_drew1) | exact HB.out)⟩⟩
              · rw [if_neg c11] at H
                exact absurd H (by simp)
            · replace c10 := Bool.eq_false_iff.mpr c10
              subst c10
              have H1 : (if (wrap64 ((a0.size : Int) - x4_1)) ≥ 3 then (if 0 ≤ x4_1 then (if x4_1 ≤ (wrap64 (x4_1 + 3)) then (if (wrap64 (x4_1 + 3)) ≤ (a0.size : Int) then (if (a0.extract (x4_1 : Int).toNat ((wrap64 (x4_1 + 3)) : Int).toNat).toList = ([226, 136, 149] : List UInt8) then (if x3_1.length < 140737488355328 then (spec_Told.l0 kj4 a0 (x3_1 ++ [47]) (wrap64 (x4_1 + 3))) else (none)) else (if x4_1 < (a0.size : Int) then (if x3_1.length < 140737488355328 then (spec_Told.l0 kj4 a0 (x3_1 ++ [bt a0 x4_1]) (wrap64 (x4_1 + 1))) else (none)) else (none))) else (none)) else (none)) else (none)) else (if 0 ≤ x4_1 then (if x4_1 < (a0.size : Int) then (if x3_1.length < 140737488355328 then (spec_Told.l0 kj4 a0 (x3_1 ++ [bt a0 x4_1]) (wrap64 (x4_1 + 1))) else (none)) else (none)) else (none))) = some r := by rw [if_neg (show ¬ (false = true) by decide)] at H; exact H
              clear H
              have H := H1
              clear H1
              by_cases c13 : (wrap64 ((a0.size : Int) - x4_1)) ≥ 3
              · rw [if_pos c13] at H
                have c13b0 : decide (3 ≤ (wrap64 ((a0.size : Int) - x4_1))) = true := decide_eq_true c13
                clear c13
                by_cases c14 : 0 ≤ x4_1
                · rw [if_pos c14] at H
                  have c14b0 := eq_true c14
                  have c14b1 : decide (0 ≤ x4_1) = true := decide_eq_true c14
                  clear c14
                  by_cases c15 : x4_1 ≤ (wrap64 (x4_1 + 3))
                  · rw [if_pos c15] at H
                    have c15b0 := eq_true c15
                    have c15b1 : decide (x4_1 ≤ (wrap64 (x4_1 + 3))) = true := decide_eq_true c15
                    by_cases c16 : (wrap64 (x4_1 + 3)) ≤ (a0.size : Int)
                    · rw [if_pos c16] at H
                      have c16b0 := eq_true c16
                      have c16b1 : decide ((wrap64 (x4_1 + 3)) ≤ (a0.size : Int)) = true := decide_eq_true c16
                      by_cases c17 : (a0.extract (x4_1 : Int).toNat ((wrap64 (x4_1 + 3)) : Int).toNat).toList = ([226, 136, 149] : List UInt8)
                      · rw [if_pos c17] at H
                        have c17b0 : ((a0.extract (x4_1 : Int).toNat ((wrap64 (x4_1 + 3)) : Int).toNat).toList == ([226, 136, 149] : List UInt8)) = true := beq_iff_eq.mpr c17
                        have c17b1 : ((a0.extract (x4_1 : Int).toNat ((wrap64 (x4_1 + 3)) : Int).toNat).toList != ([226, 136, 149] : List UInt8)) = false := bne_eq_false_iff_eq.mpr c17
                        clear c17
                        by_cases c18 : x3_1.length < 140737488355328
                        · rw [if_pos c18] at H
                          have LMc18 := Aside0.mk c18
                          clear c18
                          obtain ⟨y177, hy177⟩ : ∃ y_ : List Int, y_ = (x3_1 ++ [47]) := ⟨_, rfl⟩
                          replace H : (spec_Told.l0 kj4 a0 y177 (wrap64 (x4_1 + 3))) = some r := by first | (rw [hy177]; with_reducible exact H) | (have H2_ := (Option.bind_some _ _).symm.trans H; rw [hy177]; with_reducible exact H2_) | (have H2_ := (Option.bind_some _ _).symm.trans H; with_reducible exact H2_) | with_reducible exact H | (rw [hy177]; exact H) | exact H
                          have Ny177 := Aside0.mk hy177
                          clear hy177
                          have H' := Aside0.mk H
                          clear H
                          go_wp2_with (first | ((with_reducible refine gate_builtin (b := .append) (xs := #[.tmp 51, .tmp 52]) rfl ?_); at_builtin; refine Kd.R_append (Kd.int .u8) (w0 := w) w.heap.size rfl (.tmp 51) (.tmp 52) 55 5 (.int .u8 0) 1 rfl Tryz.underlying55 info5 rfl (by decide) (by omega) u3 x3_1 47 [.int .u8 47] (fun _ => True) (fun _ => False) rfl rfl ?aP (fun _ hk => hk.elim) ?aF ?aO ?aB ?aS ?aL ?_; (case aP => exact rfl); (case aB => exact (by repeat (first | (with_reducible first | exact HB.out | apply below_alloc | apply pw_below_drewN | apply below_drew1) | exact HB.out))); (case aF => exact (fun _ _ => trivial)); (case aO => exact (by (with_reducible repeat (first | apply Kd.R_alloc | apply Kd.R_drewN | apply Kd.R_drew)); exact HO_3.out)); (case aS => exact (below_size (by repeat (first | (with_reducible first | exact HB.out | apply below_alloc | apply pw_below_drewN | apply below_drew1) | exact HB.out)))); (case aL => have := LMc18.out; omega); intro v178 w19 ho hb hg hat; rw [← Ny177.out] at ho; have n0_ := Aside0.mk (hb); have n1_ := Aside0.mk (ho); clear HB; clear HO_3; have HB := n0_; have HO179 := n1_; clear n0_ n1_; clear ho hb hg hat))
                          go_roundg kj4
                          case measure => have := HK1.out; have := HJ4.out; omega
                          case rel => exact ⟨(y177), (wrap64 (x4_1 + 3)), (by first | rfl | (simp; done) | (simp [*]; done)), H', ⟨by have := HK1.out; have := HJ4.out; omega⟩, ⟨by (with_reducible repeat (first | apply Kd.R_alloc | apply Kd.R_drewN | apply Kd.R_drew)); exact HO179.out⟩, ⟨by repeat (first | (with_reducible first | exact HB.out | apply below_alloc | apply pw_below_drewN | apply below_drew1) | exact HB.out)⟩⟩
                        · rw [if_neg c18] at H
                          exact absurd H (by simp)
                      · rw [if_neg c17] at H
                        have c17b0 : ((a0.extract (x4_1 : Int).toNat ((wrap64 (x4_1 + 3)) : Int).toNat).toList == ([226, 136, 149] : List UInt8)) = false := beq_eq_false_iff_ne.mpr c17
                        have c17b1 : ((a0.extract (x4_1 : Int).toNat ((wrap64 (x4_1 + 3)) : Int).toNat).toList != ([226, 136, 149] : List UInt8)) = true := bne_iff_ne.mpr c17
                        by_cases c20 : x4_1 < (a0.size : Int)
                        · rw [if_pos c20] at H
                          have c20b0 : decide (x4_1 < (a0.size : Int)) = true := decide_eq_true c20
                          clear c20
                          by_cases c22 : x3_1.length < 140737488355328
                          · rw [if_pos c22] at H
                            have LMc22 := Aside0.mk c22
                            clear c22
                            obtain ⟨y180, hy180⟩ : ∃ y_ : List Int, y_ = (x3_1 ++ [bt a0 x4_1]) := ⟨_, rfl⟩
                            replace H : (spec_Told.l0 kj4 a0 y180 (wrap64 (x4_1 + 1))) = some r := by first | (rw [hy180]; with_reducible exact H) | (have H2_ := (Option.bind_some _ _).symm.trans H; rw [hy180]; with_reducible exact H2_) | (have H2_ := (Option.bind_some _ _).symm.trans H; with_reducible exact H2_) | with_reducible exact H | (rw [hy180]; exact H) | exact H
                            have Ny180 := Aside0.mk hy180
                            clear hy180
                            have H' := Aside0.mk H
                            clear H
                            have p21 : 0 ≤ (x4_1 : Int) := of_decide_eq_true (by first | (with_reducible assumption) | assumption)
                            have q21 : x4_1 < (a0.size : Int) := of_decide_eq_true (by first | (with_reducible assumption) | assumption)
                            have hx21 := bt_at a0 x4_1
                            replace p21 := eq_true p21
                            replace q21 := eq_true q21
                            go_wp2_with (first | ((with_reducible refine gate_builtin (b := .append) (xs := #[.tmp 10, .tmp 14]) rfl ?_); at_builtin; refine Kd.R_append (Kd.int .u8) (w0 := w) w.heap.size rfl (.tmp 10) (.tmp 14) 55 5 (.int .u8 0) 1 rfl Tryz.underlying55 info5 rfl (by decide) (by omega) u3 x3_1 (bt a0 x4_1) [.int .u8 (bt a0 x4_1)] (fun _ => True) (fun _ => False) rfl rfl ?aP (fun _ hk => hk.elim) ?aF ?aO ?aB ?aS ?aL ?_; (case aP => exact rfl); (case aB => exact (by repeat (first | (with_reducible first | exact HB.out | apply below_alloc | apply pw_below_drewN | apply below_drew1) | exact HB.out))); (case aF => exact (fun _ _ => trivial)); (case aO => exact (by (with_reducible repeat (first | apply Kd.R_alloc | apply Kd.R_drewN | apply Kd.R_drew)); exact HO_3.out)); (case aS => exact (below_size (by repeat (first | (with_reducible first | exact HB.out | apply below_alloc | apply pw_below_drewN | apply below_drew1) | exact HB.out)))); (case aL => have := LMc22.out; omega); intro v181 w23 ho hb hg hat; rw [← Ny180.out] at ho; have n0_ := Aside0.mk (hb); have n1_ := Aside0.mk (ho); clear HB; clear HO_3; have HB := n0_; have HO182 := n1_; clear n0_ n1_; clear ho hb hg hat))
                            go_roundg kj4
                            case measure => have := HK1.out; have := HJ4.out; omega
                            case rel => exact ⟨(y180), (wrap64 (x4_1 + 1)), (by first | rfl | (simp; done) | (simp [*]; done)), H', ⟨by have := HK1.out; have := HJ4.out; omega⟩, ⟨by (with_reducible repeat (first | apply Kd.R_alloc | apply Kd.R_drewN | apply Kd.R_drew)); exact HO182.out⟩, ⟨by repeat (first | (with_reducible first | exact HB.out | apply below_alloc | apply pw_below_drewN | apply below_drew1) | exact HB.out)⟩⟩
                          · rw [if_neg c22] at H
                            exact absurd H (by simp)
                        · rw [if_neg c20] at H
                          exact absurd H (by simp)
                    · rw [if_neg c16] at H
                      exact absurd H (by simp)
                  · rw [if_neg c15] at H
                    exact absurd H (by simp)
                · rw [if_neg c14] at H
                  exact absurd H (by simp)
              · rw [if_neg c13] at H
                have c13b0 : decide (3 ≤ (wrap64 ((a0.size : Int) - x4_1))) = false := decide_eq_false c13
                clear c13
                by_cases c24 : 0 ≤ x4_1
                · rw [if_pos c24] at H
                  have c24b0 : decide (0 ≤ x4_1) = true := decide_eq_true c24
                  clear c24
                  by_cases c25 : x4_1 < (a0.size : Int)
                  · rw [if_pos c25] at H
                    have c25b0 : decide (x4_1 < (a0.size : Int)) = true := decide_eq_true c25
                    clear c25
                    by_cases c27 : x3_1.length < 140737488355328
                    · rw [if_pos c27] at H
                      have LMc27 := Aside0.mk c27
                      clear c27
                      obtain ⟨y183, hy183⟩ : ∃ y_ : List Int, y_ = (x3_1 ++ [bt a0 x4_1]) := ⟨_, rfl⟩
                      replace H : (spec_Told.l0 kj4 a0 y183 (wrap64 (x4_1 + 1))) = some r := by first | (rw [hy183]; with_reducible exact H) | (have H2_ := (Option.bind_some _ _).symm.trans H; rw [hy183]; with_reducible exact H2_) | (have H2_ := (Option.bind_some _ _).symm.trans H; with_reducible exact H2_) | with_reducible exact H | (rw [hy183]; exact H) | exact H
                      have Ny183 := Aside0.mk hy183
                      clear hy183
                      have H' := Aside0.mk H
                      clear H
                      have p26 : 0 ≤ (x4_1 : Int) := of_decide_eq_true (by first | (with_reducible assumption) | assumption)
                      have q26 : x4_1 < (a0.size : Int) := of_decide_eq_true (by first | (with_reducible assumption) | assumption)
                      have hx26 := bt_at a0 x4_1
                      replace p26 := eq_true p26
                      replace q26 := eq_true q26
                      go_wp2_with (first | ((with_reducible refine gate_builtin (b := .append) (xs := #[.tmp 10, .tmp 14]) rfl ?_); at_builtin; refine Kd.R_append (Kd.int .u8) (w0 := w) w.heap.size rfl (.tmp 10) (.tmp 14) 55 5 (.int .u8 0) 1 rfl Tryz.underlying55 info5 rfl (by decide) (by omega) u3 x3_1 (bt a0 x4_1) [.int .u8 (bt a0 x4_1)] (fun _ => True) (fun _ => False) rfl rfl ?aP (fun _ hk => hk.elim) ?aF ?aO ?aB ?aS ?aL ?_; (case aP => exact rfl); (case aB => exact (by repeat (first | (with_reducible first | exact HB.out | apply below_alloc | apply pw_below_drewN | apply below_drew1) | exact HB.out))); (case aF => exact (fun _ _ => trivial)); (case aO => exact (by (with_reducible repeat (first | apply Kd.R_alloc | apply Kd.R_drewN | apply Kd.R_drew)); exact HO_3.out)); (case aS => exact (below_size (by repeat (first | (with_reducible first | exact HB.out | apply below_alloc | apply pw_below_drewN | apply below_drew1) | exact HB.out)))); (case aL => have := LMc27.out; omega); intro v184 w28 ho hb hg hat; rw [← Ny183.out] at ho; have n0_ := Aside0.mk (hb); have n1_ := Aside0.mk (ho); clear HB; clear HO_3; have HB := n0_; have HO185 := n1_; clear n0_ n1_; clear ho hb hg hat))
                      go_roundg kj4
                      case measure => have := HK1.out; have := HJ4.out; omega
                      case rel => exact ⟨(y183), (wrap64 (x4_1 + 1)), (by first | rfl | (simp; done) | (simp [*]; done)), H', ⟨by have := HK1.out; have := HJ4.out; omega⟩, ⟨by (with_reducible repeat (first | apply Kd.R_alloc | apply Kd.R_drewN | apply Kd.R_drew)); exact HO185.out⟩, ⟨by repeat (first | (with_reducible first | exact HB.out | apply below_alloc | apply pw_below_drewN | apply below_drew1) | exact HB.out)⟩⟩
                    · rw [if_neg c27] at H
                      exact absurd H (by simp)
                  · rw [if_neg c25] at H
                    exact absurd H (by simp)
                · rw [if_neg c24] at H
                  exact absurd H (by simp)
      · rw [if_neg c4] at H
        have c4b0 : decide (x4_1 < (a0.size : Int)) = false := decide_eq_false c4
        clear c4
        obtain rfl := Option.some.inj H
        have hcv29 := own_string (P := Tryz.prog) Tryz.underlying55 Tryz.underlying5 Tryz.underlying9 (Kd.own_of_R HO_3.out)
        go_wp2
        go_ret
        exact ⟨by first | rfl | (simp [errW_none, errW_some] <;> rfl) | (simp [*, errW_none, errW_some] <;> rfl), by repeat (first | (with_reducible first | exact HB.out | apply below_alloc | apply pw_below_drewN | apply below_drew1) | exact HB.out)⟩

/-! ### spec_TokenOf: function 17 -/
def spec_TokenOf.f (k : Nat) (a0 : ByteArray) : Option (Int × ByteArray) := (spec_KindOf.f k a0).bind fun t187 => ((spec_Told.f k a0).bind fun t188 => (some (t187, t188)))
theorem spec_TokenOf.mono : ∀ a0 k, LeO (spec_TokenOf.f k a0) (spec_TokenOf.f (k + 1) a0) := by
  intro a0 k
  unfold spec_TokenOf.f
  repeat' first
      | (with_reducible exact spec_KindOf.mono _ _)
      | (with_reducible exact spec_Told.mono _ _)
      | (with_reducible exact LeO.refl _)
      | (with_reducible exact LeO.none _)
      | (with_reducible refine LeO.ite ?_ ?_)
      | (with_reducible refine LeO.bind ?_ (fun _ => ?_))
      | exact spec_KindOf.mono _ _
      | exact spec_Told.mono _ _
      | exact LeO.none _
      | refine LeO.ite ?_ ?_
      | refine LeO.bind ?_ (fun _ => ?_)
set_option maxHeartbeats 8000000 in
set_option maxRecDepth 100000 in
theorem spec_TokenOf.calls (k : Nat) (a0 : ByteArray) (r1 : Int) (r2 : ByteArray) (w : World) (h : spec_TokenOf.f k a0 = some (r1, r2)) :
    Calls Tryz.prog 17 #[.string a0] w fun e w' => e = .returned (.agg #[.int .i64 r1, .string r2]) ∧ Below w.heap.size w w' := by
  have hu35 := Tryz.underlying35
  have HB := Aside0.mk (Below.refl w.heap.size w)
  have H : ((spec_KindOf.f k a0).bind fun t187 => ((spec_Told.f k a0).bind fun t188 => (some (t187, t188)))) = some (r1, r2) := h
  clear h
  replace H := Option.bind_eq_some_iff.mp H
  obtain ⟨t187, A20, H⟩ := H
  replace H : ((spec_Told.f k a0).bind fun t188 => (some (t187, t188))) = some (r1, r2) := H
  have A2 := Aside0.mk A20
  clear A20
  replace H := Option.bind_eq_some_iff.mp H
  obtain ⟨t188, A30, H⟩ := H
  replace H : (some (t187, t188)) = some (r1, r2) := H
  have A3 := Aside0.mk A30
  clear A30
  simp only [Option.some.injEq, Prod.mk.injEq] at H
  obtain ⟨rfl, rfl⟩ := H
  go_enter Tryz.func17, Tryz.ntmps17
  go_wp2_with (first | ((with_reducible refine gate_dst (N := 2) rfl ?_); refine box_event ?hg (N := 2) ?hd (cs := #[.int .i64 0, .string (⟨#[]⟩ : ByteArray)]) (t := 35) ?hr ?_; (case hd => rfl); (case hg => rfl); (case hr => first | (go_simp; done) | (go_simp; rfl)); intro gb186 hg w4 hbox hb; have n0_ := Aside0.mk (below_step (by repeat (first | (with_reducible first | exact HB.out | apply below_alloc | apply pw_below_drewN | apply below_drew1) | exact HB.out)) hb); have n1_ := Aside0.mk (hbox); have n2_ := Aside0.mk ((by rw [hg]; exact (below_size (by repeat (first | (with_reducible first | exact HB.out | apply below_alloc | apply pw_below_drewN | apply below_drew1) | exact HB.out))) : w.heap.size ≤ gb186)); have n3_ := Aside0.mk ((by rw [hg]; exact (below_size (by repeat (first | (with_reducible first | exact HB.out | apply below_alloc | apply pw_below_drewN | apply below_drew1) | exact HB.out))) : w.heap.size ≤ gb186)); clear HB; have HB := n0_; have BK186 := n1_; have GW186 := n2_; have GE186 := n3_; clear n0_ n1_ n2_ n3_; clear hb hbox hg) | ((with_reducible refine gate_callee (f := 18) rfl ?_); refine goesL_ (some 4) rfl rfl Tryz.func18 (by kernel_rfl) rfl #[.string a0] rfl (by (try simp only [List.map_toArray, List.map_cons, List.map_nil]); first | done | rfl | (simp only [List.length_drop, List.length_take]; rfl)) ?_; (with_reducible refine (spec_KindOf.calls k a0 t187 _ A2.out).mono ?_); rintro e w' ⟨rfl, ⟨nd, rfl⟩⟩; refine ⟨_, rfl, ?_⟩; (try (rw [drewN_self w4]; generalize hq_ : World.drewN w4 _ = w4; have n0_ : Aside0 (w4.heap[gb186]? = some (.cells #[.int .i64 0, .string (⟨#[]⟩ : ByteArray)] 35 (0, 0))) := ⟨by rw [← hq_]; exact (by (with_reducible repeat (first | refine blk_drewN ?_ _ | refine blk_drew ?_ | refine blk_alloc ?_ _)); exact BK186.out)⟩; have n1_ : Aside0 (Below w.heap.size w w4) := ⟨by rw [← hq_]; exact (by repeat (first | (with_reducible first | exact HB.out | apply below_alloc | apply pw_below_drewN | apply below_drew1 | refine below_set ?_ GE186.out) | exact HB.out))⟩; clear BK186 HB hq_; have BK186 := n0_; have HB := n1_; clear n0_ n1_))) | ((with_reducible refine gate_callee (f := 25) rfl ?_); refine goesL_ (some 6) rfl rfl Tryz.func25 (by kernel_rfl) rfl #[.string a0] rfl (by (try simp only [List.map_toArray, List.map_cons, List.map_nil]); first | done | rfl | (simp only [List.length_drop, List.length_take]; rfl)) ?_; (with_reducible refine (spec_Told.calls k a0 t188 _ A3.out).mono ?_); rintro e w5 ⟨rfl, hb⟩; refine ⟨_, rfl, ?_⟩; have n0_ := Aside0.mk (blk_below (g := gb186) (o := .cells #[.int .i64 0, .string (⟨#[]⟩ : ByteArray)] 35 (0, 0)) (by (with_reducible repeat (first | refine blk_drewN ?_ _ | refine blk_drew ?_ | refine blk_alloc ?_ _)); exact BK186.out) hb); have n1_ := Aside0.mk (below_step (by repeat (first | (with_reducible first | exact HB.out | apply below_alloc | apply pw_below_drewN | apply below_drew1 | refine below_set ?_ GE186.out) | exact HB.out)) hb); clear BK186; clear HB; have BK186 := n0_; have HB := n1_; clear n0_ n1_; (try clear hb); (try clear hb2); (try clear hk); (try clear hi); have hcz6_0 : w5.cell? ⟨gb186, 0, none⟩ = some (.int .i64 0) := (blk_cell BK186.out 0).trans rfl; have hcz6_1 : w5.cell? ⟨gb186, 1, none⟩ = some (.string (⟨#[]⟩ : ByteArray)) := (blk_cell BK186.out 1).trans rfl; have hfz6_0 := blk_frozen BK186.out 0; have hfz6_1 := blk_frozen BK186.out 1))
  refine bodyPost_ret (results_cell_row rfl _ _ gb186 35 #[.int .i64 t187, .string t188] (0, 0) _ rfl (by (with_reducible repeat (first | refine blk_drewN ?_ _ | refine blk_drew ?_ | refine blk_alloc ?_ _)); refine blk_put (cs := #[.int .i64 t187, .string (⟨#[]⟩ : ByteArray)]) ?_ 1 _ rfl; (with_reducible repeat (first | refine blk_drewN ?_ _ | refine blk_drew ?_ | refine blk_alloc ?_ _)); refine blk_put (cs := #[.int .i64 0, .string (⟨#[]⟩ : ByteArray)]) ?_ 0 _ rfl; (with_reducible repeat (first | refine blk_drewN ?_ _ | refine blk_drew ?_ | refine blk_alloc ?_ _)); exact BK186.out) Tryz.underlying35 rfl (by kernel_rfl)) rfl ?_
  exact ⟨by first | rfl | (simp [errW_none, errW_some] <;> rfl) | (simp [*, errW_none, errW_some] <;> rfl), by repeat (first | (with_reducible first | exact HB.out | apply below_alloc | apply pw_below_drewN | apply below_drew1 | refine below_set ?_ GE186.out) | exact HB.out)⟩

end Go.Proofs.YtmeihdlkadjoeaaGreatDoor.PFnTokensBlock
