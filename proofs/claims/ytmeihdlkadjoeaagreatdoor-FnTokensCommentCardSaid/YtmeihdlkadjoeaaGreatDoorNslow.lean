/- next, where the buffer does not hold a character of ASCII at its reading place: the loop that reads more, and what stands behind it. (Lines printed by wip/gen_next.py.) -/
import Derived.Test.YtmeihdlkadjoeaaGreatDoorMB
namespace Go.Proofs.YtmeihdlkadjoeaaGreatDoor
open Go.RowKit
set_option linter.unusedVariables false
set_option linter.unusedSimpArgs false

set_option maxHeartbeats 16000000 in
set_option maxRecDepth 100000 in
theorem next_slow {B S R : Nat} {w : World} {s : Sc} {rest : List Nat} {txt : Option (List UInt8)} (h : Inp B S R w s rest txt) (hU : Glob B w) (ch0 : Int) (hc1 : 128 ≤ ch0) (hc2 : ch0 ≤ 255) (hc : Hid (ch0 = (s.buf s.pos).toNat)) :
    Calls Tryz.prog 50 #[.pointer (some ⟨S, 0, none⟩)] w (NextEnd B S R w s rest txt) := by
  obtain ⟨c0, c1026, c1027, c1028, c1029, c1030, c1031, c1032, c1036, c1037, c1038, c1039, c1040, c1041, c1042, c1043, c1045, c1046, c1047, fz⟩ := h.sc.facts
  have hp := h.posLe
  have hf := h.finLe
  have cb := h.sc.byte s.pos (by omega)
  rw [← hc.out] at cb
  go_enter Tryz.func50, Tryz.ntmps50
  go_wp2_with fail
  go_quiet (fail)
  go_wp2_with fail
  clear c0 c1026 c1027 c1028 c1029 c1030 c1031 c1032 c1036 c1037 c1038 c1039 c1040 c1041 c1042 c1043 c1045 c1046 c1047 fz cb hp hf
  go_loopg [5, 6, 7] ((enc rest).length - (s.fin - s.pos)) (fun k _ _ _ wr => NextRel B S R w s rest txt k wr)
  case atStart => exact ⟨s, h.drewN _, Same.refl _, (Fr.refl _ _ _ _).drewN _, rfl⟩
  case round =>
    obtain ⟨s', h', hsame, hfr, rfl⟩ := hrel
    clear h hc
    obtain ⟨c0, c1026, c1027, c1028, c1029, c1030, c1031, c1032, c1036, c1037, c1038, c1039, c1040, c1041, c1042, c1043, c1045, c1046, c1047, fz⟩ := h'.sc.facts
    have hp := h'.posLe
    have hf := h'.finLe
    by_cases hfull : full rest (s'.fin - s'.pos) = true
    · obtain ⟨c, rs, rfl⟩ : ∃ c rs, rest = c :: rs := by
        cases rest with
        | nil => cases hfull
        | cons c rs => exact ⟨c, rs, rfl⟩
      have hfl1 : (encR c).length ≤ s'.fin - s'.pos := by simpa [full] using hfull
      by_cases h4 : s'.fin < s'.pos + 4
      · have q4 : IntKind.i64.wrap ((s'.pos : Int) + 4) = (s'.pos : Int) + 4 := IntWalk.i64_in _ (by omega)
        have hf5 : s'.fin ≤ 1025 := by omega
        have hf6 : (s'.fin : Int) ≤ 1025 := by omega
        have g4 : decide ((s'.fin : Int) < (s'.pos : Int) + 4) = true := decide_eq_true (by omega)
        have hfl := fullRune_inp (h'.drewN 1) (w := wr.drewN 1) (hU.below ((hfr.drewN 1).1)).u8 (s'.fin - s'.pos) (1025 - s'.pos) rfl
        rw [hfull] at hfl
        have HFL := Lib.hid hfl
        clear hfl hfull
        go_wp2_with fail
        refine wp_region_tail 23 (by kernel_rfl) (by kernel_rfl) ?_
        simp only [List.take_succ_cons, List.take_zero, List.drop_succ_cons, List.drop_zero]
        repeat still_step
        refine wpStill_nil ?_
        go_wp2_with fail
        refine (HFL.out).mono ?_
        rintro e w1 ⟨rfl, hb1⟩
        have h1 := (h'.drewN 1).below hb1
        have hfr1 : Fr B S R w w1 := (hfr.drewN 1).below hb1 h'.hw
        clear HFL hb1 q4 g4 hf5 hf6
        clear c0 c1026 c1027 c1028 c1029 c1030 c1031 c1032 c1036 c1037 c1038 c1039 c1040 c1041 c1042 c1043 c1045 c1046 c1047 fz
        obtain ⟨c0, c1026, c1027, c1028, c1029, c1030, c1031, c1032, c1036, c1037, c1038, c1039, c1040, c1041, c1042, c1043, c1045, c1046, c1047, fz⟩ := h1.sc.facts
        clear h'
        rcases h1.ok c (by simp) with hc | rfl | rfl
        · have cb := h1.first 0 (UInt8.ofNat c) (by have := encR_pos c; omega) (by rw [encR_asc hc]; rfl)
          rw [toNat_asc hc, Nat.add_zero] at cb
          have hl : (encR c).length = 1 := by rw [encR_asc hc]; rfl
          rw [hl] at hfl1
          have HL := Lib.hid hl
          have HI := Lib.hid h1
          have hsc := Lib.hid h1.sc
          have herr := Lib.hid h1.err
          have hci : (c : Int) < 128 := by omega
          have hp5 : s'.pos < 1025 := by omega
          clear hl h1 c0 c1027 c1028 c1036 c1037 c1038 c1039 c1040 c1041 c1042 c1043 c1045 c1046 c1047
          by_cases e0 : c = 0
          · subst e0
            go_wp2_with fail
            go_quiet (fail)
            go_wp2_with fail
            refine (error_any (s := { s' with pos := s'.pos + 1, lastLen := 1, col := wrap64 (s'.col + 1) }) ((((hsc.out.drewN _).setPos (s'.pos + 1) (v := (s'.pos : Int) + 1) (by omega)).setLastLen 1 (v := 1) (by omega)).setCol _) herr.out _).mono ?_
            rintro e w' ⟨rfl, v1, v2, n2, rfl⟩
            go_wp2_with fail
            go_ret
            refine next_close (w := w1) (col := wrap64 (s'.col + 1)) (line := s'.line) (lastLine := s'.lastLine) (tokEnd := v1) (errs := v2) HI.out hsame hfr1 (by rw [HL.out]; omega) rfl ?_ ?_
            · rw [HL.out]
              exact ((((((hsc.out.drewN _).setPos (s'.pos + 1) (by omega)).setLastLen 1 (by omega)).setCol _).setTokEnd v1).setErrs v2).drewN _
            · exact (((((((Only.refl S w1).drewN _).set _ _).set _ _).set _ _).set _ _).set _ _).drewN _
          · have c00 : ((c : Int) == 0) = false := by simp; omega
            by_cases e1 : c = 10
            · subst e1
              go_wp2_with fail
              go_quiet (fail)
              go_wp2_with fail
              go_ret
              refine next_close (w := w1) (col := 0) (line := wrap64 (s'.line + 1)) (lastLine := wrap64 (s'.col + 1)) (tokEnd := s'.tokEnd) (errs := s'.errs) HI.out hsame hfr1 (by rw [HL.out]; omega) rfl ?_ ?_
              · rw [HL.out]
                exact ((((((hsc.out.drewN _).setPos (s'.pos + 1) (by omega)).setLastLen 1 (by omega)).setCol _).setLine _).setLastLine _).setCol _
              · exact ((((((((Only.refl S w1).drewN _).set _ _).set _ _).set _ _).set _ _).set _ _).set _ _)
            · have c10 : ((c : Int) == 10) = false := by simp; omega
              go_wp2_with fail
              go_quiet (fail)
              go_wp2_with fail
              go_ret
              refine next_close (w := w1) (col := wrap64 (s'.col + 1)) (line := s'.line) (lastLine := s'.lastLine) (tokEnd := s'.tokEnd) (errs := s'.errs) HI.out hsame hfr1 (by rw [HL.out]; omega) rfl ?_ ?_
              · rw [HL.out]
                exact (((hsc.out.drewN _).setPos (s'.pos + 1) (by omega)).setLastLen 1 (by omega)).setCol _
              · exact (((((Only.refl S w1).drewN _).set _ _).set _ _).set _ _)
        · have hl : (encR 183).length = 2 := rfl
          rw [hl] at hfl1
          have d0 := h1.first 0 194 (by omega) rfl
          have d1 := h1.first 1 183 (by omega) rfl
          rw [Nat.add_zero] at d0
          have e0 : ((194 : UInt8).toNat : Int) = 194 := rfl
          rw [e0] at d0
          have e1 : ((183 : UInt8).toNat : Int) = 183 := rfl
          rw [e1] at d1
          clear e0 e1
          have hG1 := Lib.hid (hU.below hfr1.1).u8
          have hS1 := h1.sc.lt
          have HI := Lib.hid h1
          clear h1
          have hp5 : s'.fin ≤ 1025 := by omega
          have hp6 : (s'.fin : Int) ≤ 1025 := by omega
          have hp7 : (s'.pos : Int) ≤ s'.fin := by omega
          have hp8 : ¬ 1025 = s'.pos := by omega
          have HD := Lib.hid (fun (k : Nat) => decode_dot S (1 + s'.pos) (s'.fin - s'.pos) (1025 - s'.pos) (w1.drewN k) hS1 ⟨hG1.out.asc, hG1.out.c2, hG1.out.e2, hG1.out.lo, hG1.out.hi⟩ (by omega) (by omega) d0 d1)
          go_wp2_with fail
          go_quiet (fail)
          go_wp2_with fail
          go_region_with (go_at_call 69; refine (HD.out _).mono ?_; rintro e w2 ⟨rfl, hb2⟩)
          all_goals
            have hb3 : Below w1.heap.size w1 w2 := below_of_drewN hb2
            have h2 := HI.out.below hb3
            have hfr2 := hfr1.below hb3 HI.out.hw
            clear d0 d1 c0 c1026 c1027 c1028 c1029 c1030 c1031 c1032 c1036 c1037 c1038 c1039 c1040 c1041 c1042 c1043 c1045 c1046 c1047 fz hb2
            obtain ⟨c0, c1026, c1027, c1028, c1029, c1030, c1031, c1032, c1036, c1037, c1038, c1039, c1040, c1041, c1042, c1043, c1045, c1046, c1047, fz⟩ := h2.sc.facts
            have HI2 := Lib.hid h2
            have hsc := Lib.hid h2.sc
            clear h2 c0 c1027 c1028 c1029 c1031 c1036 c1037 c1038 c1039 c1040 c1041 c1042 c1043 c1045 c1046 c1047
            go_wp2_with fail
            go_ret
            refine next_close (w := w2) (col := wrap64 (s'.col + 1)) (line := s'.line) (lastLine := s'.lastLine) (tokEnd := s'.tokEnd) (errs := s'.errs) HI2.out hsame hfr2 (by rw [hl]; omega) rfl ?_ ?_
            · exact ((hsc.out.setPos (s'.pos + 2) (by omega)).setLastLen 2 (by omega)).setCol _
            · exact (((Only.refl S w2).set _ _).set _ _).set _ _
        · have hl : (encR 8725).length = 3 := rfl
          rw [hl] at hfl1
          have d0 := h1.first 0 226 (by omega) rfl
          have d1 := h1.first 1 136 (by omega) rfl
          have d2 := h1.first 2 149 (by omega) rfl
          rw [Nat.add_zero] at d0
          have e0 : ((226 : UInt8).toNat : Int) = 226 := rfl
          rw [e0] at d0
          have e1 : ((136 : UInt8).toNat : Int) = 136 := rfl
          rw [e1] at d1
          have e2 : ((149 : UInt8).toNat : Int) = 149 := rfl
          rw [e2] at d2
          clear e0 e1 e2
          have hG1 := Lib.hid (hU.below hfr1.1).u8
          have hS1 := h1.sc.lt
          have HI := Lib.hid h1
          clear h1
          have hp5 : s'.fin ≤ 1025 := by omega
          have hp6 : (s'.fin : Int) ≤ 1025 := by omega
          have hp7 : (s'.pos : Int) ≤ s'.fin := by omega
          have hp8 : ¬ 1025 = s'.pos := by omega
          have HD := Lib.hid (fun (k : Nat) => decode_slash S (1 + s'.pos) (s'.fin - s'.pos) (1025 - s'.pos) (w1.drewN k) hS1 ⟨hG1.out.asc, hG1.out.c2, hG1.out.e2, hG1.out.lo, hG1.out.hi⟩ (by omega) (by omega) d0 d1 d2)
          go_wp2_with fail
          go_quiet (fail)
          go_wp2_with fail
          go_region_with (go_at_call 69; refine (HD.out _).mono ?_; rintro e w2 ⟨rfl, hb2⟩)
          all_goals
            have hb3 : Below w1.heap.size w1 w2 := below_of_drewN hb2
            have h2 := HI.out.below hb3
            have hfr2 := hfr1.below hb3 HI.out.hw
            clear d0 d1 d2 c0 c1026 c1027 c1028 c1029 c1030 c1031 c1032 c1036 c1037 c1038 c1039 c1040 c1041 c1042 c1043 c1045 c1046 c1047 fz hb2
            obtain ⟨c0, c1026, c1027, c1028, c1029, c1030, c1031, c1032, c1036, c1037, c1038, c1039, c1040, c1041, c1042, c1043, c1045, c1046, c1047, fz⟩ := h2.sc.facts
            have HI2 := Lib.hid h2
            have hsc := Lib.hid h2.sc
            clear h2 c0 c1027 c1028 c1029 c1031 c1036 c1037 c1038 c1039 c1040 c1041 c1042 c1043 c1045 c1046 c1047
            go_wp2_with fail
            go_ret
            refine next_close (w := w2) (col := wrap64 (s'.col + 1)) (line := s'.line) (lastLine := s'.lastLine) (tokEnd := s'.tokEnd) (errs := s'.errs) HI2.out hsame hfr2 (by rw [hl]; omega) rfl ?_ ?_
            · exact ((hsc.out.setPos (s'.pos + 3) (by omega)).setLastLen 3 (by omega)).setCol _
            · exact (((Only.refl S w2).set _ _).set _ _).set _ _
      · have q4 : IntKind.i64.wrap ((s'.pos : Int) + 4) = (s'.pos : Int) + 4 := IntWalk.i64_in _ (by omega)
        have g4 : decide ((s'.fin : Int) < (s'.pos : Int) + 4) = false := decide_eq_false (by omega)
        clear hfull
        go_wp2_with fail
        go_quiet (fail)
        obtain ⟨w1, hw1⟩ : ∃ w1, w1 = wr.drewN nq := ⟨_, rfl⟩
        rw [← hw1]
        have h1 : Inp B S R w1 s' (c :: rs) txt := by rw [hw1]; exact h'.drewN _
        have hfr1 : Fr B S R w w1 := by rw [hw1]; exact hfr.drewN _
        clear hw1 q4 g4
        clear c0 c1026 c1027 c1028 c1029 c1030 c1031 c1032 c1036 c1037 c1038 c1039 c1040 c1041 c1042 c1043 c1045 c1046 c1047 fz
        obtain ⟨c0, c1026, c1027, c1028, c1029, c1030, c1031, c1032, c1036, c1037, c1038, c1039, c1040, c1041, c1042, c1043, c1045, c1046, c1047, fz⟩ := h1.sc.facts
        clear h'
        rcases h1.ok c (by simp) with hc | rfl | rfl
        · have cb := h1.first 0 (UInt8.ofNat c) (by have := encR_pos c; omega) (by rw [encR_asc hc]; rfl)
          rw [toNat_asc hc, Nat.add_zero] at cb
          have hl : (encR c).length = 1 := by rw [encR_asc hc]; rfl
          rw [hl] at hfl1
          have HL := Lib.hid hl
          have HI := Lib.hid h1
          have hsc := Lib.hid h1.sc
          have herr := Lib.hid h1.err
          have hci : (c : Int) < 128 := by omega
          have hp5 : s'.pos < 1025 := by omega
          clear hl h1 c0 c1027 c1028 c1036 c1037 c1038 c1039 c1040 c1041 c1042 c1043 c1045 c1046 c1047
          by_cases e0 : c = 0
          · subst e0
            go_wp2_with fail
            go_quiet (fail)
            go_wp2_with fail
            refine (error_any (s := { s' with pos := s'.pos + 1, lastLen := 1, col := wrap64 (s'.col + 1) }) ((((hsc.out.drewN _).setPos (s'.pos + 1) (v := (s'.pos : Int) + 1) (by omega)).setLastLen 1 (v := 1) (by omega)).setCol _) herr.out _).mono ?_
            rintro e w' ⟨rfl, v1, v2, n2, rfl⟩
            go_wp2_with fail
            go_ret
            refine next_close (w := w1) (col := wrap64 (s'.col + 1)) (line := s'.line) (lastLine := s'.lastLine) (tokEnd := v1) (errs := v2) HI.out hsame hfr1 (by rw [HL.out]; omega) rfl ?_ ?_
            · rw [HL.out]
              exact ((((((hsc.out.drewN _).setPos (s'.pos + 1) (by omega)).setLastLen 1 (by omega)).setCol _).setTokEnd v1).setErrs v2).drewN _
            · exact (((((((Only.refl S w1).drewN _).set _ _).set _ _).set _ _).set _ _).set _ _).drewN _
          · have c00 : ((c : Int) == 0) = false := by simp; omega
            by_cases e1 : c = 10
            · subst e1
              go_wp2_with fail
              go_quiet (fail)
              go_wp2_with fail
              go_ret
              refine next_close (w := w1) (col := 0) (line := wrap64 (s'.line + 1)) (lastLine := wrap64 (s'.col + 1)) (tokEnd := s'.tokEnd) (errs := s'.errs) HI.out hsame hfr1 (by rw [HL.out]; omega) rfl ?_ ?_
              · rw [HL.out]
                exact ((((((hsc.out.drewN _).setPos (s'.pos + 1) (by omega)).setLastLen 1 (by omega)).setCol _).setLine _).setLastLine _).setCol _
              · exact ((((((((Only.refl S w1).drewN _).set _ _).set _ _).set _ _).set _ _).set _ _).set _ _)
            · have c10 : ((c : Int) == 10) = false := by simp; omega
              go_wp2_with fail
              go_quiet (fail)
              go_wp2_with fail
              go_ret
              refine next_close (w := w1) (col := wrap64 (s'.col + 1)) (line := s'.line) (lastLine := s'.lastLine) (tokEnd := s'.tokEnd) (errs := s'.errs) HI.out hsame hfr1 (by rw [HL.out]; omega) rfl ?_ ?_
              · rw [HL.out]
                exact (((hsc.out.drewN _).setPos (s'.pos + 1) (by omega)).setLastLen 1 (by omega)).setCol _
              · exact (((((Only.refl S w1).drewN _).set _ _).set _ _).set _ _)
        · have hl : (encR 183).length = 2 := rfl
          rw [hl] at hfl1
          have d0 := h1.first 0 194 (by omega) rfl
          have d1 := h1.first 1 183 (by omega) rfl
          rw [Nat.add_zero] at d0
          have e0 : ((194 : UInt8).toNat : Int) = 194 := rfl
          rw [e0] at d0
          have e1 : ((183 : UInt8).toNat : Int) = 183 := rfl
          rw [e1] at d1
          clear e0 e1
          have hG1 := Lib.hid (hU.below hfr1.1).u8
          have hS1 := h1.sc.lt
          have HI := Lib.hid h1
          clear h1
          have hp5 : s'.fin ≤ 1025 := by omega
          have hp6 : (s'.fin : Int) ≤ 1025 := by omega
          have hp7 : (s'.pos : Int) ≤ s'.fin := by omega
          have hp8 : ¬ 1025 = s'.pos := by omega
          have HD := Lib.hid (fun (k : Nat) => decode_dot S (1 + s'.pos) (s'.fin - s'.pos) (1025 - s'.pos) (w1.drewN k) hS1 ⟨hG1.out.asc, hG1.out.c2, hG1.out.e2, hG1.out.lo, hG1.out.hi⟩ (by omega) (by omega) d0 d1)
          go_wp2_with fail
          go_quiet (fail)
          go_wp2_with fail
          go_region_with (go_at_call 69; refine (HD.out _).mono ?_; rintro e w2 ⟨rfl, hb2⟩)
          all_goals
            have hb3 : Below w1.heap.size w1 w2 := below_of_drewN hb2
            have h2 := HI.out.below hb3
            have hfr2 := hfr1.below hb3 HI.out.hw
            clear d0 d1 c0 c1026 c1027 c1028 c1029 c1030 c1031 c1032 c1036 c1037 c1038 c1039 c1040 c1041 c1042 c1043 c1045 c1046 c1047 fz hb2
            obtain ⟨c0, c1026, c1027, c1028, c1029, c1030, c1031, c1032, c1036, c1037, c1038, c1039, c1040, c1041, c1042, c1043, c1045, c1046, c1047, fz⟩ := h2.sc.facts
            have HI2 := Lib.hid h2
            have hsc := Lib.hid h2.sc
            clear h2 c0 c1027 c1028 c1029 c1031 c1036 c1037 c1038 c1039 c1040 c1041 c1042 c1043 c1045 c1046 c1047
            go_wp2_with fail
            go_ret
            refine next_close (w := w2) (col := wrap64 (s'.col + 1)) (line := s'.line) (lastLine := s'.lastLine) (tokEnd := s'.tokEnd) (errs := s'.errs) HI2.out hsame hfr2 (by rw [hl]; omega) rfl ?_ ?_
            · exact ((hsc.out.setPos (s'.pos + 2) (by omega)).setLastLen 2 (by omega)).setCol _
            · exact (((Only.refl S w2).set _ _).set _ _).set _ _
        · have hl : (encR 8725).length = 3 := rfl
          rw [hl] at hfl1
          have d0 := h1.first 0 226 (by omega) rfl
          have d1 := h1.first 1 136 (by omega) rfl
          have d2 := h1.first 2 149 (by omega) rfl
          rw [Nat.add_zero] at d0
          have e0 : ((226 : UInt8).toNat : Int) = 226 := rfl
          rw [e0] at d0
          have e1 : ((136 : UInt8).toNat : Int) = 136 := rfl
          rw [e1] at d1
          have e2 : ((149 : UInt8).toNat : Int) = 149 := rfl
          rw [e2] at d2
          clear e0 e1 e2
          have hG1 := Lib.hid (hU.below hfr1.1).u8
          have hS1 := h1.sc.lt
          have HI := Lib.hid h1
          clear h1
          have hp5 : s'.fin ≤ 1025 := by omega
          have hp6 : (s'.fin : Int) ≤ 1025 := by omega
          have hp7 : (s'.pos : Int) ≤ s'.fin := by omega
          have hp8 : ¬ 1025 = s'.pos := by omega
          have HD := Lib.hid (fun (k : Nat) => decode_slash S (1 + s'.pos) (s'.fin - s'.pos) (1025 - s'.pos) (w1.drewN k) hS1 ⟨hG1.out.asc, hG1.out.c2, hG1.out.e2, hG1.out.lo, hG1.out.hi⟩ (by omega) (by omega) d0 d1 d2)
          go_wp2_with fail
          go_quiet (fail)
          go_wp2_with fail
          go_region_with (go_at_call 69; refine (HD.out _).mono ?_; rintro e w2 ⟨rfl, hb2⟩)
          all_goals
            have hb3 : Below w1.heap.size w1 w2 := below_of_drewN hb2
            have h2 := HI.out.below hb3
            have hfr2 := hfr1.below hb3 HI.out.hw
            clear d0 d1 d2 c0 c1026 c1027 c1028 c1029 c1030 c1031 c1032 c1036 c1037 c1038 c1039 c1040 c1041 c1042 c1043 c1045 c1046 c1047 fz hb2
            obtain ⟨c0, c1026, c1027, c1028, c1029, c1030, c1031, c1032, c1036, c1037, c1038, c1039, c1040, c1041, c1042, c1043, c1045, c1046, c1047, fz⟩ := h2.sc.facts
            have HI2 := Lib.hid h2
            have hsc := Lib.hid h2.sc
            clear h2 c0 c1027 c1028 c1029 c1031 c1036 c1037 c1038 c1039 c1040 c1041 c1042 c1043 c1045 c1046 c1047
            go_wp2_with fail
            go_ret
            refine next_close (w := w2) (col := wrap64 (s'.col + 1)) (line := s'.line) (lastLine := s'.lastLine) (tokEnd := s'.tokEnd) (errs := s'.errs) HI2.out hsame hfr2 (by rw [hl]; omega) rfl ?_ ?_
            · exact ((hsc.out.setPos (s'.pos + 3) (by omega)).setLastLen 3 (by omega)).setCol _
            · exact (((Only.refl S w2).set _ _).set _ _).set _ _
    · have hfull' : full rest (s'.fin - s'.pos) = false := by simpa using hfull
      have h4 : s'.fin < s'.pos + 4 := by
        obtain ⟨rb, _, h2⟩ := h'.rd
        have := (notfull h2 hfull').1
        omega
      have q4 : IntKind.i64.wrap ((s'.pos : Int) + 4) = (s'.pos : Int) + 4 := IntWalk.i64_in _ (by omega)
      have hf5 : s'.fin ≤ 1025 := by omega
      have hf6 : (s'.fin : Int) ≤ 1025 := by omega
      have g4 : decide ((s'.fin : Int) < (s'.pos : Int) + 4) = true := decide_eq_true (by omega)
      have hfl := fullRune_inp (h'.drewN 1) (w := wr.drewN 1) (hU.below ((hfr.drewN 1).1)).u8 (s'.fin - s'.pos) (1025 - s'.pos) rfl
      rw [hfull'] at hfl
      have HF := Lib.hid hfull'
      have HFL := Lib.hid hfl
      clear hfl hfull hfull'
      go_wp2_with fail
      refine wp_region_tail 23 (by kernel_rfl) (by kernel_rfl) ?_
      simp only [List.take_succ_cons, List.take_zero, List.drop_succ_cons, List.drop_zero]
      repeat still_step
      refine wpStill_nil ?_
      go_wp2_with fail
      refine (HFL.out).mono ?_
      rintro e w1 ⟨rfl, hb1⟩
      have h1 := (h'.drewN 1).below hb1
      have hfr1 : Fr B S R w w1 := (hfr.drewN 1).below hb1 h'.hw
      clear HFL hb1 q4 g4 c0 c1026 c1027 c1028 c1029 c1030 c1031 c1032 c1036 c1037 c1038 c1039 c1040 c1041 c1042 c1043 c1045 c1046 c1047 fz
      obtain ⟨c0, c1026, c1027, c1028, c1029, c1030, c1031, c1032, c1036, c1037, c1038, c1039, c1040, c1041, c1042, c1043, c1045, c1046, c1047, fz⟩ := h1.sc.facts
      have H1 := Lib.hid h1
      cases txt with
      | none =>
        have hoff := h1.off rfl
        obtain ⟨rb, n, hmid⟩ := h1.mid_none HF.out
        clear h1 h'
        go_wp2_with fail
        obtain ⟨s1, hs1⟩ : ∃ s1, s1 = s' := ⟨_, rfl⟩
        rw [← hs1] at hmid HF
        have HS1 := Lib.hid hs1
        clear hs1 c0 c1026 c1027 c1028 c1029 c1030 c1031 c1032 c1036 c1037 c1038 c1039 c1040 c1041 c1042 c1043 c1045 c1046 c1047 fz
        obtain ⟨c0, c1026, c1027, c1028, c1029, c1030, c1031, c1032, c1036, c1037, c1038, c1039, c1040, c1041, c1042, c1043, c1045, c1046, c1047, fz⟩ := hmid.sc.facts
        have hG1 := hU.below hfr1.1
        obtain ⟨ea, hea⟩ := hG1.eof
        have hlow := hG1.low
        obtain ⟨L, hL⟩ : ∃ L, L = seg s1.buf s1.pos n := ⟨_, rfl⟩
        have hLl : L.length = n := by rw [hL, seg_length]
        have hbl : (Lib.byteCells L).length = L.length := by simp [Lib.byteCells]
        obtain ⟨cs, hcs, hcr⟩ := id hmid.sc
        have hsz := sc_size (w := w1) (S := S) hcr
        have hn := hmid.hn
        have hn2 := hmid.n2
        have hfin := hmid.finLe
        have hRS := hmid.hRS
        have hBS := hmid.hB
        have hBR := hmid.hR
        have hcp := run_copy_row (P := Tryz.prog) w1.drew 55 55 3 5 S 1 1025 1025 ⟨S, 1 + s1.pos, none⟩ n (1025 - s1.pos) cs 71 (Lib.byteCells L) Tryz.underlying55 info_u8 hcs
          (by rw [hbl, hLl]; exact (Nat.min_eq_left (by omega)).symm) (by
            intro j v hj
            have hj2 : j < L.length := by have := (List.getElem?_eq_some_iff.1 hj).1; rw [hbl] at this; exact this
            rw [Lib.addr_add, Nat.add_assoc]
            refine (hmid.sc.byte (s1.pos + j) (by omega)).trans ?_
            have h3 := seg_get s1.buf s1.pos n j (by omega)
            rw [← hL] at h3
            simp only [Lib.byteCells, List.getElem?_map, h3, Option.map_some] at hj
            exact hj) (by rw [hbl]; omega) (Lib.byteCells_one L)
        rw [hbl, hLl] at hcp
        obtain ⟨w2, hw2⟩ : ∃ w2, w2 = w1.drew.setRow S (cs.toList.take 1 ++ Lib.byteCells L ++ cs.toList.drop (1 + n)).toArray := ⟨_, rfl⟩
        rw [← hw2] at hcp
        have sc2 : ScAt w2 S { s1 with buf := putBytes s1.buf 0 L } := by
          have := hmid.sc.drew.setRow 0 L (by omega) cs hcs
          rw [hLl] at this
          rw [hw2]; exact this
        have ho2 : Only S w1 w2 := by rw [hw2]; exact ((Only.refl S w1).drewN 1).setRow _
        have hfr2 : Fr B S R w w2 := hfr1.trans (ho2.fr hBS R)
        have hrd2 : RdAt w2 R s1.src rb := hmid.rd.block (ho2.heap R hRS)
        have hev2 : w2.cell? ⟨3, 0, none⟩ = some (.iface 139 (.pointer (some ea))) := (World.cell?_of_block (w := w1) (a := ⟨3, 0, none⟩) (ho2.heap _ (by show 3 ≠ S; omega))).trans hea
        obtain ⟨T, f, hsrc, hok⟩ := rd_ok hmid.rd
        have hnn : n = s1.fin - s1.pos := by omega
        rw [hnn] at hcp
        have q5 : IntKind.i64.wrap ((s1.fin : Int) - (s1.pos : Int)) = (n : Int) := by rw [IntWalk.i64_in _ (by omega)]; omega
        have q6 : (s1.fin : Int) - (s1.pos : Int) = (n : Int) := by omega
        have q7 : (n : Int) ≤ 1024 := by omega
        have q8 : n ≤ 1024 := by omega
        have q9 : n ≤ 1025 := by omega
        have q10 : ¬ 1025 = n := by omega
        have q11 : (s1.fin : Int) ≤ 1025 := by omega
        have q12 : s1.fin ≤ 1025 := by omega
        have q13 : (s1.pos : Int) ≤ s1.fin := by omega
        have q14 : s1.pos ≤ s1.fin := by omega
        have q15 : ¬ 1025 = s1.pos := by omega
        have q16 : s1.pos ≤ 1025 := by omega
        have HW2 := Lib.hid hw2
        have HN := Lib.hid hn
        have HNN := Lib.hid hnn
        have HL := Lib.hid hL
        have HLL := Lib.hid hLl
        have HM := Lib.hid hmid
        have HR2 := Lib.hid hrd2
        have HSRC := Lib.hid hsrc
        have hmeth := hok.meth
        have hent := hok.enters
        clear hcs hcr hw2 hn hnn hL hLl hbl hsz hmid hrd2 hea
        refine wp_region_tail 16 (by kernel_rfl) (by kernel_rfl) ?_
        simp only [List.take_succ_cons, List.take_zero, List.drop_succ_cons, List.drop_zero]
        repeat still_step
        refine wpStill_nil ?_
        go_wp2_with fail
        clear c0 c1026 c1027 c1028 c1029 c1030 c1031 c1032 c1036 c1037 c1038 c1039 c1040 c1041 c1042 c1043 c1045 c1046 c1047 fz hcp q11 q12 q13 q14 q15 q16
        obtain ⟨c0, c1026, c1027, c1028, c1029, c1030, c1031, c1032, c1036, c1037, c1038, c1039, c1040, c1041, c1042, c1043, c1045, c1046, c1047, fz⟩ := sc2.facts
        rw [HSRC.out] at c0
        refine wp_region_tail 11 (by kernel_rfl) (by kernel_rfl) ?_
        simp only [List.take_succ_cons, List.take_zero, List.drop_succ_cons, List.drop_zero]
        repeat still_step
        refine wpStill_nil ?_
        go_wp2_with fail
        go_quiet (fail)
        go_wp2_with fail
        by_cases hrb0 : rb = []
        · have hn0 : n = 0 := ((HM.out.full HF.out) hrb0).2
          have hre : rest = [] := ((HM.out.full HF.out) hrb0).1
          have hz : ((n : Int) == 0) = true := by rw [hn0]; rfl
          have HZ := Lib.hid hn0
          have HRE := Lib.hid hre
          have HRB := Lib.hid hrb0
          clear hn0 hre hrb0
          have HFIN := Lib.hid (fun (v : Int) (k : Nat) => hok.fin S (1 + n) (1024 - n) (1025 - n) ((w2.setCell ⟨S, 1028, none⟩ (.int .i64 v)).drewN k) (.iface 139 (.pointer (some ea)))
            ((by have h9 := HR2.out; rw [HRB.out, HSRC.out] at h9; exact h9 : RdAt w2 R (.iface T (.pointer (some ⟨R, 0, none⟩))) []).block (Below.heap_setCell w2 ⟨S, 1028, none⟩ (.int .i64 v) R hRS) |>.drewN k)
            ((World.cell?_of_block (w := w2) (w' := w2.setCell ⟨S, 1028, none⟩ (.int .i64 v)) (a := ⟨3, 0, none⟩) (Below.heap_setCell w2 ⟨S, 1028, none⟩ (.int .i64 v) 3 (by show 3 ≠ S; omega))).trans hev2) ⟨_, _, rfl⟩)
          go_region_with (refine (HFIN.out _ _).mono ?_; rintro e W3 ⟨rfl, n3, rfl⟩)
          all_goals
            have hev3 : w2.cell? ⟨3, 0, none⟩ = some (.iface 139 (.pointer (some ea))) := hev2
            have hneq := neq_eof ea
            have hS3 : ¬ S = 3 := by omega
            have hS4 : ¬ 3 = S := by omega
            have z1 : n ≤ 1024 := by have := HZ.out; omega
            have z2 : (n : Int) < 1025 := by omega
            have z1b : n < 1025 := by omega
            have z3 := sc2.byte n (by omega)
            have z4 : ¬ 1 + n = 1026 := by omega
            have z5 : ¬ 1 + n = 1027 := by omega
            clear hok hmeth hent hev2 c1028 c1029 c1031 c1036 c1037 c1038 c1039 c1040 c1041 c1042 c1043 c1045 c1046 c1047
            go_wp2_with fail
            refine wp_region_tail 8 (by kernel_rfl) (by kernel_rfl) ?_
            simp only [List.take_succ_cons, List.take_zero, List.drop_succ_cons, List.drop_zero]
            repeat still_step
            refine wpStill_nil ?_
            have hM := HM.out
            rw [HRB.out] at hM
            have hsame1 : Same s s1 := by rw [HS1.out]; exact ⟨hsame.1, hsame.2.1, hsame.2.2.1, hsame.2.2.2.1, hsame.2.2.2.2⟩
            have HM2 := Lib.hid hM
            have HSA := Lib.hid hsame1
            clear hM hsame1
            by_cases hll0 : s1.lastLen = 0
            · have hll1 : ¬ (0 : Int) < (s1.lastLen : Int) := by omega
              have hll2 : ¬ 0 < s1.lastLen := by omega
              clear hll0
              go_wp2_with fail
              go_ret
              exact eof_a HM2.out HRE.out HZ.out HSA.out hfr1 sc2 ho2
            · have hll1 : (0 : Int) < (s1.lastLen : Int) := by omega
              have hll2 : 0 < s1.lastLen := by omega
              clear hll0
              go_wp2_with fail
              go_ret
              exact eof_b HM2.out HRE.out HZ.out HSA.out hfr1 sc2 ho2
        · have HMORE := Lib.hid (fun (v : Int) (k : Nat) => hok.more B S n (1024 - n) (1025 - n) { s1 with buf := putBytes s1.buf 0 L, off := v } rb ((w2.setCell ⟨S, 1028, none⟩ (.int .i64 v)).drewN k)
            ((by have h9 := HR2.out; rw [HSRC.out] at h9; exact h9 : RdAt w2 R (.iface T (.pointer (some ⟨R, 0, none⟩))) rb).block (Below.heap_setCell w2 ⟨S, 1028, none⟩ (.int .i64 v) R hRS) |>.drewN k)
            hrb0 ((sc2.setOff v).drewN k) hRS hBS hBR (by omega) (by omega))
          go_region_with (refine (HMORE.out _ _).mono ?_; rintro e W3 ⟨l, rb', hrb, hl1, hl2, rfl, hrd3, hsc3, hfr3, hk3⟩)
          all_goals
            clear c0 c1026 c1027 c1028 c1029 c1030 c1031 c1032 c1036 c1037 c1038 c1039 c1040 c1041 c1042 c1043 c1045 c1046 c1047 fz hok hmeth hent hev2
            obtain ⟨c0, c1026, c1027, c1028, c1029, c1030, c1031, c1032, c1036, c1037, c1038, c1039, c1040, c1041, c1042, c1043, c1045, c1046, c1047, fz⟩ := hsc3.facts
            obtain ⟨m, hm⟩ : ∃ m, m = n + l.length := ⟨_, rfl⟩
            have zs : (n : Int) + (l.length : Int) = (m : Int) := by omega
            have z1 : m ≤ 1024 := by omega
            have z2 : (m : Int) < 1025 := by omega
            have z3 := hsc3.byte m (by omega)
            have z4 : ¬ 1 + m = 1026 := by omega
            have z5 : ¬ 1 + m = 1027 := by omega
            have HMM := Lib.hid hm
            have HH := Lib.hid (And.intro hrb (And.intro hrd3 (And.intro hsc3 (And.intro hfr3 hk3))))
            clear hm hrb hrd3 hsc3 hfr3 hk3 c1028 c1029 c1031 c1036 c1037 c1038 c1039 c1040 c1041 c1042 c1043 c1045 c1046 c1047
            go_wp2_with fail
            refine wp_region_tail 8 (by kernel_rfl) (by kernel_rfl) ?_
            simp only [List.take_succ_cons, List.take_zero, List.drop_succ_cons, List.drop_zero]
            repeat still_step
            refine wpStill_nil ?_
            go_wp2_with fail
            obtain ⟨hrb, hrd3, hsc3, hfr3, hk3⟩ := HH.out
            have hM := HM.out
            have hm := HMM.out
            have hnn := HNN.out
            have hfp : n = s'.fin - s'.pos := by rw [hnn, HS1.out]
            have hsame1 : Same s s1 := by rw [HS1.out]; exact ⟨hsame.1, hsame.2.1, hsame.2.2.1, hsame.2.2.2.1, hsame.2.2.2.2⟩
            have hlt := more_count hM hm hl1 hrb hfp
            rw [← HSRC.out] at hrd3
            have hend := more_end (W3 := W3) hM HL.out hm z1 hrb hsame1 hfr1 ho2 hrd3 hsc3 hfr3 hk3
            go_roundg ((enc rest).length - m)
            case measure => exact hlt
            case rel => exact hend
      | some t =>
        obtain ⟨bs, htb, hcol⟩ := h1.tb
        obtain ⟨p, hp1, hp2, hp3, hp4⟩ := hcol t rfl
        rw [hp1] at c1036
        have r1 : (p : Int) ≤ s'.pos := by omega
        have r2 : s'.pos ≤ 1025 := by omega
        have r3 : (s'.pos : Int) ≤ 1025 := by omega
        have r4 : ¬ 1025 = p := by omega
        have HC := Lib.hid (And.intro hp1 hp3)
        have HTB := Lib.hid htb
        have hlen : (seg s'.buf p (s'.pos - p)).length = s'.pos - p := seg_length _ _ _
        have hbsl : bs.length + (s'.pos - p) ≤ 140737488355328 := by
          have := congrArg List.length hp3
          rw [List.length_append, hlen] at this
          omega
        have HLEN := Lib.hid hlen
        clear hp1 hp3 hcol htb h1 h' hlen
        go_wp2_with fail
        refine wp_region_tail 15 (by kernel_rfl) (by kernel_rfl) ?_
        simp only [List.take_succ_cons, List.take_zero, List.drop_succ_cons, List.drop_zero]
        repeat still_step
        refine wpStill_nil ?_
        go_wp2_with fail
        refine (buf_write_n B S (s'.pos - p) s' bs (seg s'.buf p (s'.pos - p)) p (1025 - p) _ HLEN.out H1.out.hB (H1.out.sc.drewN 1) (HTB.out.carry (fun _ _ _ h9 => h9) rfl rfl) H1.out.hw (by omega) rfl hbsl).mono ?_
        rintro e W1 ⟨rfl, v, lr, hscW, htbW, hbelW, hothW⟩
        obtain ⟨rb, n, hmid⟩ := (H1.out.drewN 1).mid_some HF.out HC.out.2 hp4 hscW htbW hbelW hothW
        have hfrW : Fr B S R w W1 := (hfr1.drewN 1).others hbelW hothW
        clear c0 c1026 c1027 c1028 c1029 c1030 c1031 c1032 c1036 c1037 c1038 c1039 c1040 c1041 c1042 c1043 c1045 c1046 c1047 fz r1 r2 r3 r4
        obtain ⟨c0, c1026, c1027, c1028, c1029, c1030, c1031, c1032, c1036, c1037, c1038, c1039, c1040, c1041, c1042, c1043, c1045, c1046, c1047, fz⟩ := hscW.facts
        go_wp2_with fail
        have hfrM := hfrW.set H1.out.hB 1036 (.int .i64 0)
        obtain ⟨w3, hw3⟩ : ∃ w3, w3 = W1.setCell ⟨S, 1036, none⟩ (.int .i64 0) := ⟨_, rfl⟩
        rw [← hw3] at hmid hfrM ⊢
        obtain ⟨s1, hs1⟩ : ∃ s1, s1 = { s' with tb := v, tbOff := 0, tbLast := lr, tokPos := 0 } := ⟨_, rfl⟩
        rw [← hs1] at hmid
        have HF1 : Hid (full rest (s1.fin - s1.pos) = false) := by rw [hs1]; exact HF.out
        have HS1 := Lib.hid hs1
        clear hs1 hw3 hscW htbW hbelW hothW hfrW c0 c1026 c1027 c1028 c1029 c1030 c1031 c1032 c1036 c1037 c1038 c1039 c1040 c1041 c1042 c1043 c1045 c1046 c1047 fz
        obtain ⟨c0, c1026, c1027, c1028, c1029, c1030, c1031, c1032, c1036, c1037, c1038, c1039, c1040, c1041, c1042, c1043, c1045, c1046, c1047, fz⟩ := hmid.sc.facts
        have hG1 := hU.below hfrM.1
        obtain ⟨ea, hea⟩ := hG1.eof
        have hlow := hG1.low
        obtain ⟨L, hL⟩ : ∃ L, L = seg s1.buf s1.pos n := ⟨_, rfl⟩
        have hLl : L.length = n := by rw [hL, seg_length]
        have hbl : (Lib.byteCells L).length = L.length := by simp [Lib.byteCells]
        obtain ⟨cs, hcs, hcr⟩ := id hmid.sc
        have hsz := sc_size (w := w3) (S := S) hcr
        have hn := hmid.hn
        have hn2 := hmid.n2
        have hfin := hmid.finLe
        have hRS := hmid.hRS
        have hBS := hmid.hB
        have hBR := hmid.hR
        have hcp := run_copy_row (P := Tryz.prog) w3.drew 55 55 3 5 S 1 1025 1025 ⟨S, 1 + s1.pos, none⟩ n (1025 - s1.pos) cs 71 (Lib.byteCells L) Tryz.underlying55 info_u8 hcs
          (by rw [hbl, hLl]; exact (Nat.min_eq_left (by omega)).symm) (by
            intro j v hj
            have hj2 : j < L.length := by have := (List.getElem?_eq_some_iff.1 hj).1; rw [hbl] at this; exact this
            rw [Lib.addr_add, Nat.add_assoc]
            refine (hmid.sc.byte (s1.pos + j) (by omega)).trans ?_
            have h3 := seg_get s1.buf s1.pos n j (by omega)
            rw [← hL] at h3
            simp only [Lib.byteCells, List.getElem?_map, h3, Option.map_some] at hj
            exact hj) (by rw [hbl]; omega) (Lib.byteCells_one L)
        rw [hbl, hLl] at hcp
        obtain ⟨w2, hw2⟩ : ∃ w2, w2 = w3.drew.setRow S (cs.toList.take 1 ++ Lib.byteCells L ++ cs.toList.drop (1 + n)).toArray := ⟨_, rfl⟩
        rw [← hw2] at hcp
        have sc2 : ScAt w2 S { s1 with buf := putBytes s1.buf 0 L } := by
          have := hmid.sc.drew.setRow 0 L (by omega) cs hcs
          rw [hLl] at this
          rw [hw2]; exact this
        have ho2 : Only S w3 w2 := by rw [hw2]; exact ((Only.refl S w3).drewN 1).setRow _
        have hfr2 : Fr B S R w w2 := hfrM.trans (ho2.fr hBS R)
        have hrd2 : RdAt w2 R s1.src rb := hmid.rd.block (ho2.heap R hRS)
        have hev2 : w2.cell? ⟨3, 0, none⟩ = some (.iface 139 (.pointer (some ea))) := (World.cell?_of_block (w := w3) (a := ⟨3, 0, none⟩) (ho2.heap _ (by show 3 ≠ S; omega))).trans hea
        obtain ⟨T, f, hsrc, hok⟩ := rd_ok hmid.rd
        have hnn : n = s1.fin - s1.pos := by omega
        rw [hnn] at hcp
        have q5 : IntKind.i64.wrap ((s1.fin : Int) - (s1.pos : Int)) = (n : Int) := by rw [IntWalk.i64_in _ (by omega)]; omega
        have q6 : (s1.fin : Int) - (s1.pos : Int) = (n : Int) := by omega
        have q7 : (n : Int) ≤ 1024 := by omega
        have q8 : n ≤ 1024 := by omega
        have q9 : n ≤ 1025 := by omega
        have q10 : ¬ 1025 = n := by omega
        have q11 : (s1.fin : Int) ≤ 1025 := by omega
        have q12 : s1.fin ≤ 1025 := by omega
        have q13 : (s1.pos : Int) ≤ s1.fin := by omega
        have q14 : s1.pos ≤ s1.fin := by omega
        have q15 : ¬ 1025 = s1.pos := by omega
        have q16 : s1.pos ≤ 1025 := by omega
        have HW2 := Lib.hid hw2
        have HN := Lib.hid hn
        have HNN := Lib.hid hnn
        have HL := Lib.hid hL
        have HLL := Lib.hid hLl
        have HM := Lib.hid hmid
        have HR2 := Lib.hid hrd2
        have HSRC := Lib.hid hsrc
        have hmeth := hok.meth
        have hent := hok.enters
        clear hcs hcr hw2 hn hnn hL hLl hbl hsz hmid hrd2 hea
        refine wp_region_tail 16 (by kernel_rfl) (by kernel_rfl) ?_
        simp only [List.take_succ_cons, List.take_zero, List.drop_succ_cons, List.drop_zero]
        repeat still_step
        refine wpStill_nil ?_
        go_wp2_with fail
        clear c0 c1026 c1027 c1028 c1029 c1030 c1031 c1032 c1036 c1037 c1038 c1039 c1040 c1041 c1042 c1043 c1045 c1046 c1047 fz hcp q11 q12 q13 q14 q15 q16
        obtain ⟨c0, c1026, c1027, c1028, c1029, c1030, c1031, c1032, c1036, c1037, c1038, c1039, c1040, c1041, c1042, c1043, c1045, c1046, c1047, fz⟩ := sc2.facts
        rw [HSRC.out] at c0
        refine wp_region_tail 11 (by kernel_rfl) (by kernel_rfl) ?_
        simp only [List.take_succ_cons, List.take_zero, List.drop_succ_cons, List.drop_zero]
        repeat still_step
        refine wpStill_nil ?_
        go_wp2_with fail
        go_quiet (fail)
        go_wp2_with fail
        by_cases hrb0 : rb = []
        · have hn0 : n = 0 := ((HM.out.full HF1.out) hrb0).2
          have hre : rest = [] := ((HM.out.full HF1.out) hrb0).1
          have hz : ((n : Int) == 0) = true := by rw [hn0]; rfl
          have HZ := Lib.hid hn0
          have HRE := Lib.hid hre
          have HRB := Lib.hid hrb0
          clear hn0 hre hrb0
          have HFIN := Lib.hid (fun (v : Int) (k : Nat) => hok.fin S (1 + n) (1024 - n) (1025 - n) ((w2.setCell ⟨S, 1028, none⟩ (.int .i64 v)).drewN k) (.iface 139 (.pointer (some ea)))
            ((by have h9 := HR2.out; rw [HRB.out, HSRC.out] at h9; exact h9 : RdAt w2 R (.iface T (.pointer (some ⟨R, 0, none⟩))) []).block (Below.heap_setCell w2 ⟨S, 1028, none⟩ (.int .i64 v) R hRS) |>.drewN k)
            ((World.cell?_of_block (w := w2) (w' := w2.setCell ⟨S, 1028, none⟩ (.int .i64 v)) (a := ⟨3, 0, none⟩) (Below.heap_setCell w2 ⟨S, 1028, none⟩ (.int .i64 v) 3 (by show 3 ≠ S; omega))).trans hev2) ⟨_, _, rfl⟩)
          go_region_with (refine (HFIN.out _ _).mono ?_; rintro e W3 ⟨rfl, n3, rfl⟩)
          all_goals
            have hev3 : w2.cell? ⟨3, 0, none⟩ = some (.iface 139 (.pointer (some ea))) := hev2
            have hneq := neq_eof ea
            have hS3 : ¬ S = 3 := by omega
            have hS4 : ¬ 3 = S := by omega
            have z1 : n ≤ 1024 := by have := HZ.out; omega
            have z2 : (n : Int) < 1025 := by omega
            have z1b : n < 1025 := by omega
            have z3 := sc2.byte n (by omega)
            have z4 : ¬ 1 + n = 1026 := by omega
            have z5 : ¬ 1 + n = 1027 := by omega
            clear hok hmeth hent hev2 c1028 c1029 c1031 c1036 c1037 c1038 c1039 c1040 c1041 c1042 c1043 c1045 c1046 c1047
            go_wp2_with fail
            refine wp_region_tail 8 (by kernel_rfl) (by kernel_rfl) ?_
            simp only [List.take_succ_cons, List.take_zero, List.drop_succ_cons, List.drop_zero]
            repeat still_step
            refine wpStill_nil ?_
            have hM := HM.out
            rw [HRB.out] at hM
            have hsame1 : Same s s1 := by rw [HS1.out]; exact ⟨hsame.1, hsame.2.1, hsame.2.2.1, hsame.2.2.2.1, hsame.2.2.2.2⟩
            have HM2 := Lib.hid hM
            have HSA := Lib.hid hsame1
            clear hM hsame1
            by_cases hll0 : s1.lastLen = 0
            · have hll1 : ¬ (0 : Int) < (s1.lastLen : Int) := by omega
              have hll2 : ¬ 0 < s1.lastLen := by omega
              clear hll0
              go_wp2_with fail
              go_ret
              exact eof_a HM2.out HRE.out HZ.out HSA.out hfrM sc2 ho2
            · have hll1 : (0 : Int) < (s1.lastLen : Int) := by omega
              have hll2 : 0 < s1.lastLen := by omega
              clear hll0
              go_wp2_with fail
              go_ret
              exact eof_b HM2.out HRE.out HZ.out HSA.out hfrM sc2 ho2
        · have HMORE := Lib.hid (fun (v : Int) (k : Nat) => hok.more B S n (1024 - n) (1025 - n) { s1 with buf := putBytes s1.buf 0 L, off := v } rb ((w2.setCell ⟨S, 1028, none⟩ (.int .i64 v)).drewN k)
            ((by have h9 := HR2.out; rw [HSRC.out] at h9; exact h9 : RdAt w2 R (.iface T (.pointer (some ⟨R, 0, none⟩))) rb).block (Below.heap_setCell w2 ⟨S, 1028, none⟩ (.int .i64 v) R hRS) |>.drewN k)
            hrb0 ((sc2.setOff v).drewN k) hRS hBS hBR (by omega) (by omega))
          go_region_with (refine (HMORE.out _ _).mono ?_; rintro e W3 ⟨l, rb', hrb, hl1, hl2, rfl, hrd3, hsc3, hfr3, hk3⟩)
          all_goals
            clear c0 c1026 c1027 c1028 c1029 c1030 c1031 c1032 c1036 c1037 c1038 c1039 c1040 c1041 c1042 c1043 c1045 c1046 c1047 fz hok hmeth hent hev2
            obtain ⟨c0, c1026, c1027, c1028, c1029, c1030, c1031, c1032, c1036, c1037, c1038, c1039, c1040, c1041, c1042, c1043, c1045, c1046, c1047, fz⟩ := hsc3.facts
            obtain ⟨m, hm⟩ : ∃ m, m = n + l.length := ⟨_, rfl⟩
            have zs : (n : Int) + (l.length : Int) = (m : Int) := by omega
            have z1 : m ≤ 1024 := by omega
            have z2 : (m : Int) < 1025 := by omega
            have z3 := hsc3.byte m (by omega)
            have z4 : ¬ 1 + m = 1026 := by omega
            have z5 : ¬ 1 + m = 1027 := by omega
            have HMM := Lib.hid hm
            have HH := Lib.hid (And.intro hrb (And.intro hrd3 (And.intro hsc3 (And.intro hfr3 hk3))))
            clear hm hrb hrd3 hsc3 hfr3 hk3 c1028 c1029 c1031 c1036 c1037 c1038 c1039 c1040 c1041 c1042 c1043 c1045 c1046 c1047
            go_wp2_with fail
            refine wp_region_tail 8 (by kernel_rfl) (by kernel_rfl) ?_
            simp only [List.take_succ_cons, List.take_zero, List.drop_succ_cons, List.drop_zero]
            repeat still_step
            refine wpStill_nil ?_
            go_wp2_with fail
            obtain ⟨hrb, hrd3, hsc3, hfr3, hk3⟩ := HH.out
            have hM := HM.out
            have hm := HMM.out
            have hnn := HNN.out
            have hfp : n = s'.fin - s'.pos := by rw [hnn, HS1.out]
            have hsame1 : Same s s1 := by rw [HS1.out]; exact ⟨hsame.1, hsame.2.1, hsame.2.2.1, hsame.2.2.2.1, hsame.2.2.2.2⟩
            have hlt := more_count hM hm hl1 hrb hfp
            rw [← HSRC.out] at hrd3
            have hend := more_end (W3 := W3) hM HL.out hm z1 hrb hsame1 hfrM ho2 hrd3 hsc3 hfr3 hk3
            go_roundg ((enc rest).length - m)
            case measure => exact hlt
            case rel => exact hend

end Go.Proofs.YtmeihdlkadjoeaaGreatDoor
