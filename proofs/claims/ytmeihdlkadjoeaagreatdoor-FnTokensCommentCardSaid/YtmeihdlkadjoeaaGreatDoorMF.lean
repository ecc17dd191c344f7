/- A new tokenizer: gosrc's base, Init, NewTokenizer. zzCount at a text and the end of a line; IsGoBuild at a comment. Plain facts on the scanner's tokens; the tokenizer's block beside the scanner's. The tokenizer's block: what its stores leave. (*Tokenizer).Next, Text, Line. (*Tokenizer).Text, Line. A slice of tokens that grows beside the scanner. lex.Tokenize. impl.Tokenize. The laws' own calls: zzFits5, wordsOk, gapsOk, Joined, TokenOf, at lists of texts that lie in memory. -/
import Derived.Test.YtmeihdlkadjoeaaGreatDoorMD
import Derived.Test.YtmeihdlkadjoeaaGreatDoorME
import Derived.Shelf.Strings.Prefix
import Derived.Test.YtmeihdlkadjoeaaGreatDoorShelf
import Derived.Deep.LoopGhost
import Derived.StillTailTactics
import Derived.IntWalk
import Derived.Deep.DeepAppendWide
import Derived.OwnWalk
import Derived.Deep.RegionHeld3
import Derived.Deep.AppendLies
namespace Go.Proofs.YtmeihdlkadjoeaaGreatDoor
open Go.RowKit
set_option linter.unusedVariables false
set_option linter.unusedSimpArgs false

theorem makeLico_one (w : World) : Calls Tryz.prog 66 #[.int .u64 1, .int .u64 1] w fun e w' => e = .returned (.int .u32 4112) ∧ w = w' := by
  have hb : Go.bits .or .u64 4096 16 = 4112 := by decide +kernel
  go_enter Tryz.func66, Tryz.ntmps66
  go_wp2_with (go_in)
  go_ret
  exact ⟨rfl, rfl⟩

theorem makePos_one (w : World) (p : Option Addr) : Calls Tryz.prog 49 #[.pointer p, .int .u64 1, .int .u64 1] w fun e w' => e = .returned (.agg #[.pointer p, .int .u32 4112]) ∧ Below w.heap.size w w' := by
  go_enter Tryz.func49, Tryz.ntmps49
  go_wp2_with (go_at_call 66; refine (makeLico_one _).mono ?_; rintro e w' ⟨rfl, rfl⟩)
  exact bodyPost_ret (v := .agg #[.pointer p, .int .u32 4112]) (by simp [results, Tryz.results49, go_sem]) rfl ⟨rfl, (Below.refl _ _).alloc (Nat.le_refl _) _⟩

theorem newFileBase (w : World) (n : ByteArray) : Calls Tryz.prog 39 #[.string n, .string n] w fun e w' => (∃ p, e = .returned (.pointer p)) ∧ Below w.heap.size w w' := by
  go_enter Tryz.func39, Tryz.ntmps39
  go_wp2_with (go_at_call 49; refine (makePos_one _ _).mono ?_)
  rintro e w' ⟨rfl, hb⟩
  have c0 : w'.cell? ⟨w.heap.size, 0, none⟩ = some (.pointer none) := (hb.cell (p := ⟨w.heap.size, 0, none⟩) (by simp)).trans (Lib.cell_of_heap (heap_new w _) 0)
  have c1 : w'.cell? ⟨w.heap.size, 1, none⟩ = some (.int .u32 0) := (hb.cell (p := ⟨w.heap.size, 1, none⟩) (by simp)).trans (Lib.cell_of_heap (heap_new w _) 1)
  have f0 : w'.frozen? ⟨w.heap.size, 0, none⟩ = false := (hb.frozen (p := ⟨w.heap.size, 0, none⟩) (by simp)).trans (Lib.frozen_of_heap (heap_new w _) 0)
  have f1 : w'.frozen? ⟨w.heap.size, 1, none⟩ = false := (hb.frozen (p := ⟨w.heap.size, 1, none⟩) (by simp)).trans (Lib.frozen_of_heap (heap_new w _) 1)
  have HB := Lib.hid hb
  clear hb
  go_wp2_with fail
  go_ret
  have hb := HB.out
  exact ⟨⟨_, rfl⟩, ((((Below.refl _ _).alloc (Nat.le_refl _) _).trans (hb.mono (by simp))).setCell (Nat.le_refl _) _).setCell (Nat.le_refl _) _⟩
/-- The tokenizer in block T; its scanner in block S holds s. -/
structure Tz (B S R T : Nat) (w : World) (s : Sc) (line tok : Int) : Prop where
  hB : B ≤ T
  neS : T ≠ S
  neR : T ≠ R
  blk : ∃ base, w.heap[T]? = some (.cells #[.int .i32 tok, .pointer (some ⟨S, 0, none⟩), .pointer base, .int .i64 line] 77 (0, 0))
  ps : s.ident = identV ∧ s.ws = 4294976000 ∧ s.mode = 380
  glob : GlobI B w

theorem newTokenizer {B R : Nat} {w : World} {v : Value} {l : List Nat} (name : ByteArray) (hR : RdAt w R v (enc l)) (hBR : B ≤ R) (hG : GlobI B w) (hok : ∀ c ∈ l, okR c) (hl : (enc l).length ≤ 1000000) (hB : B ≤ w.heap.size) :
    Calls Tryz.prog 30 #[.string name, v] w fun e w' => ∃ S T s, e = .returned (.pointer (some ⟨T, 0, none⟩)) ∧ Tz B S R T w' s 1 0 ∧ Idle B S R w' s l ∧ Below w.heap.size w w' := by
  obtain ⟨T, f, rfl, _⟩ := rd_ok hR
  have hs := alloc_sc w
  have hI := Lib.hid (init_ok hs T ⟨R, 0, none⟩)
  have HR := Lib.hid hR
  have HG := Lib.hid hG
  have HO := Lib.hid hok
  clear hR hG hok
  go_enter Tryz.func30, Tryz.ntmps30
  go_wp2_with (go_at_call 37; refine hI.out.mono ?_)
  rintro e w2 ⟨rfl, h2, o2⟩
  obtain ⟨c0, c1026, c1027, c1028, c1029, c1030, c1031, c1032, c1036, c1037, c1038, c1039, c1040, c1041, c1042, c1043, c1045, c1046, c1047, fz⟩ := h2.facts
  have c1044 : w2.cell? ⟨w.heap.size, 1044, none⟩ = some (.string ⟨#[]⟩) := h2.cell 1044
  have H2 := Lib.hid h2
  have O2 := Lib.hid o2
  clear h2 o2 hs hI c0 c1026 c1027 c1028 c1029 c1030 c1031 c1032 c1036 c1037 c1038 c1039 c1040 c1045 c1046 c1047
  go_wp2_with (go_at_call 39; refine (newFileBase _ _).mono ?_)
  rintro e w3 ⟨⟨p, rfl⟩, hb3⟩
  have HB3 := Lib.hid hb3
  clear hb3 c1041 c1042 c1043 c1044 fz
  go_wp2_with fail
  go_ret
  have h4 := (((H2.out.setWs 4294976000).setMode 380).setName name).setIdent identV
  have o4 := ((((O2.out.set 1042 (.int .u64 4294976000)).set 1041 (.int .u64 380)).set 1044 (.string name)).set 1043 identV)
  have hb3 := HB3.out
  change Below (World.setCell _ _ identV).heap.size (World.setCell _ _ identV) w3 at hb3
  generalize ((((w2.setCell ⟨w.heap.size, 1042, none⟩ (.int .u64 4294976000)).setCell ⟨w.heap.size, 1041, none⟩ (.int .u64 380)).setCell ⟨w.heap.size, 1044, none⟩ (.string name)).setCell ⟨w.heap.size, 1043, none⟩ identV) = W4 at h4 o4 hb3
  generalize hs : ({ (Sc.zero.init (.iface T (.pointer (some ⟨R, 0, none⟩)))) with ws := 4294976000, mode := 380, name := name, ident := identV } : Sc) = s at h4
  have hRlt := HR.out.lt
  have hsz : W4.heap.size = w.heap.size + 1 := by rw [o4.size]; simp
  have hsz3 := hb3.size
  have bel : Below w.heap.size w w3 := (((Below.refl _ _).alloc (Nat.le_refl _) _).trans (o4.fr (Nat.le_refl _) 0).1).trans (hb3.mono (by omega))
  have bel2 := bel.alloc (Nat.le_of_lt (show w.heap.size < w3.heap.size by omega)) (.cells #[.int .i32 0, .pointer (some ⟨w.heap.size, 0, none⟩), .pointer p, .int .i64 1] 77 (0, 0))
  refine ⟨w.heap.size, w3.heap.size, s, rfl, ⟨by omega, by omega, by omega, ⟨p, heap_new _ _⟩, by subst hs; exact ⟨rfl, rfl, rfl⟩, HG.out.below (bel2.mono hB)⟩, .inl ⟨by subst hs; rfl, ?_⟩, bel2⟩
  have hsc := (h4.below hb3).alloc (.cells #[.int .i32 0, .pointer (some ⟨w.heap.size, 0, none⟩), .pointer p, .int .i64 1] 77 (0, 0))
  refine ⟨hsc, hB, hBR, by omega, by simp; omega, ⟨enc l, ?_, ?_⟩, ?_, ?_, ?_, HO.out, ?_, hl, ⟨[], ⟨?_, ?_, ?_⟩, fun t ht => by cases ht⟩, fun _ => ?_⟩
  · have := HR.out.block (bel2.block R hRlt)
    subst hs
    exact this
  · subst hs; rfl
  · subst hs; exact Nat.zero_le _
  · subst hs; exact Nat.zero_le _
  · subst hs; rfl
  · subst hs; rfl
  · subst hs; rfl
  · subst hs; exact World.ownsRow_nil _ _ _ _
  · subst hs; simp [Sc.zero, Sc.init, Value.ownBlock]
  · subst hs; exact (by decide : (-1 : Int) < 0)
end Go.Proofs.YtmeihdlkadjoeaaGreatDoor

namespace Go.Proofs.YtmeihdlkadjoeaaGreatDoor
open Go.RowKit
set_option linter.unusedVariables false
set_option linter.unusedSimpArgs false

/-- How many ends of lines. -/
def cntNl (s : ByteArray) : Nat := s.data.toList.count 10
theorem cntNl_str (l : List UInt8) : cntNl (str l) = l.count 10 := rfl
theorem extract_one (s : ByteArray) (j : Nat) (h : j < s.size) : ∃ b : UInt8, (s.extract j (j + 1)).toList = [b] ∧ s.data.toList.take (j + 1) = s.data.toList.take j ++ [b] := by
  obtain ⟨l, rfl⟩ := str_all s
  have hl : j < l.length := h
  refine ⟨l[j], ?_, ?_⟩
  · rw [str_extract, str_toList, List.drop_eq_getElem_cons hl, Nat.add_sub_cancel_left]
    rfl
  · exact List.take_succ_eq_append_getElem hl
set_option maxRecDepth 10000 in
theorem zzCount_any (s : ByteArray) (hl : s.size ≤ 1000000) (w : World) :
    Calls Tryz.prog 42 #[.string s, .string ⟨#[10]⟩] w fun e w' => e = .returned (.int .i64 (cntNl s)) ∧ w = w' := by
  go_enter Tryz.func42, Tryz.ntmps42
  go_wp2_with fail
  go_loopg [5, 6] (s.size + 1) (fun gk n i wr => w = wr ∧ ∃ j m : Nat, j ≤ s.size ∧ i = .int .i64 j ∧ n = .int .i64 m ∧ Hid (m = (s.data.toList.take j).count 10) ∧ m ≤ j ∧ s.size - j < gk)
  case atStart => exact ⟨rfl, 0, 0, Nat.zero_le _, rfl, rfl, Lib.hid (by simp), Nat.zero_le _, by omega⟩
  case round =>
    obtain ⟨rfl, j, m, hj, rfl, rfl, hm, hmj, hk⟩ := hrel
    by_cases hlt : j < s.size
    · have c1 : (j : Int) + 1 ≤ (s.size : Int) := by omega
      have c2 : j + 1 ≤ s.size := by omega
      have d1 := eq_true (show (0 : Int) ≤ (j : Int) by omega)
      have d2 := eq_true (show (j : Int) ≤ (j : Int) + 1 by omega)
      have d3 := eq_true c1
      obtain ⟨b, hb1, hb2⟩ := extract_one s j hlt
      have HB := Lib.hid hb2
      clear hb2
      by_cases hb : b = 10
      · have e1 : ((s.extract j (j + 1)).toList == [10]) = true := by rw [hb1, hb]; rfl
        have HE := Lib.hid hb
        clear hb1 hb
        go_wp2_with fail
        go_roundg (s.size - j)
        case measure => omega
        case rel =>
          refine ⟨rfl, j + 1, m + 1, c2, rfl, rfl, Lib.hid ?_, by omega, by omega⟩
          rw [HB.out, HE.out, List.count_append, ← hm.out]
          rfl
      · have e1 : ((s.extract j (j + 1)).toList == [10]) = false := by rw [hb1]; simpa using hb
        have HE := Lib.hid hb
        clear hb1 hb
        go_wp2_with fail
        go_roundg (s.size - j)
        case measure => omega
        case rel =>
          refine ⟨rfl, j + 1, m, c2, rfl, rfl, Lib.hid ?_, by omega, by omega⟩
          rw [HB.out, List.count_append, ← hm.out]
          have := HE.out
          simp [List.count_cons, this]
    · have c1 : ¬ (j : Int) + 1 ≤ (s.size : Int) := by omega
      have c2 : ¬ j + 1 ≤ s.size := by omega
      go_wp2_with fail
      go_ret
      have e : m = cntNl s := by
        rw [hm.out, List.take_of_length_le]
        · rfl
        · have : s.data.toList.length = s.size := by rw [Array.length_toList]; rfl
          omega
      exact ⟨by rw [e]; rfl, rfl⟩
def SomeB (e : Ending) : Prop := ∃ b, e = .returned (.bool b)
set_option maxRecDepth 10000 in
theorem contains_any (s : ByteArray) (c : Int) (hl : s.size ≤ 1000000) (w : World) :
    Calls Tryz.prog 78 #[.string s, .int .u8 c] w fun e w' => SomeB e ∧ w = w' := by
  go_enter Tryz.func78, Tryz.ntmps78
  go_wp2_with fail
  go_loopg [5] (s.size + 1) (fun gk i wr => w = wr ∧ ∃ j : Nat, j ≤ s.size ∧ i = .int .i64 j ∧ s.size - j < gk)
  case atStart => exact ⟨rfl, 0, Nat.zero_le _, rfl, by omega⟩
  case round =>
    obtain ⟨rfl, j, hj, rfl, hk⟩ := hrel
    by_cases hlt : j < s.size
    · have c1 : (j : Int) < (s.size : Int) := by omega
      by_cases hb : ((s[j].toNat : Int) == c) = true
      · go_wp2_with fail
        go_ret
        exact ⟨⟨_, rfl⟩, rfl⟩
      · have hb2 : ((s[j].toNat : Int) == c) = false := by simpa using hb
        clear hb
        go_wp2_with fail
        go_roundg (s.size - j)
        case measure => omega
        case rel => exact ⟨rfl, j + 1, hlt, rfl, by omega⟩
    · have c1 : ¬ (j : Int) < (s.size : Int) := by omega
      go_wp2_with fail
      go_ret
      exact ⟨⟨_, rfl⟩, rfl⟩

/-- "//go:build" -/
def goPre : List UInt8 := [47, 47, 103, 111, 58, 98, 117, 105, 108, 100]
set_option maxRecDepth 10000 in
theorem split_any (s : ByteArray) (hl : s.size ≤ 1000000) (h0 : 0 < s.size) (hlast : s[s.size - 1] ≠ 10) (hp : Lib.hasPrefix s.data.toList goPre = false) (w : World) :
    Calls Tryz.prog 63 #[.string s] w fun e w' => e = .returned (.tuple #[.string ⟨#[]⟩, .bool false]) ∧ w = w' := by
  have d0 : decide ((s.size : Int) > 0) = true := decide_eq_true (by omega)
  have d1 : decide (s.size > 0) = true := decide_eq_true (by omega)
  have e0 : 1 ≤ (s.size : Int) ∧ (s.size : Int) - 1 < (s.size : Int) := by omega
  have e1 : ((s[s.size - 1].toNat : Int) == 10) = false := by
    apply beq_eq_false_iff_ne.2
    intro h
    apply hlast
    apply UInt8.toNat_inj.1
    show _ = 10
    omega
  have hH := Tryz.strings_HasPrefix s ⟨#[47, 47, 103, 111, 58, 98, 117, 105, 108, 100]⟩ w
  rw [show (⟨#[47, 47, 103, 111, 58, 98, 117, 105, 108, 100]⟩ : ByteArray).data.toList = goPre from rfl, hp] at hH
  have HH := Lib.hid hH
  clear hH hp hlast
  go_enter Tryz.func63, Tryz.ntmps63
  go_wp2_with fail
  refine (contains_any s 10 hl w).mono ?_
  rintro e w1 ⟨⟨b, rfl⟩, rfl⟩
  cases b with
  | true =>
    go_wp2_with fail
    go_ret2
    exact ⟨rfl, rfl⟩
  | false =>
    go_wp2_with (go_at_call 79; refine HH.out.mono ?_)
    rintro e w2 ⟨rfl, rfl⟩
    go_wp2_with fail
    go_ret2
    exact ⟨rfl, rfl⟩

theorem isGoBuild_any (s : ByteArray) (hl : s.size ≤ 1000000) (h0 : 0 < s.size) (hlast : s[s.size - 1] ≠ 10) (hp : Lib.hasPrefix s.data.toList goPre = false) (w : World) :
    Calls Tryz.prog 43 #[.string s] w fun e w' => e = .returned (.bool false) ∧ w = w' := by
  have hS := Lib.hid (split_any s hl h0 hlast hp w)
  clear hlast hp
  go_enter Tryz.func43, Tryz.ntmps43
  go_wp2_with (go_at_call 63; refine hS.out.mono ?_)
  rintro e w2 ⟨rfl, rfl⟩
  go_wp2_with fail
  go_ret
  exact ⟨rfl, rfl⟩
end Go.Proofs.YtmeihdlkadjoeaaGreatDoor

namespace Go.Proofs.YtmeihdlkadjoeaaGreatDoor
open Go.RowKit
set_option linter.unusedVariables false
set_option linter.unusedSimpArgs false

theorem tokn_app {l : List Nat} {k : Int} {t r : List Nat} (h : Tokn l k t r) : t ++ r = l := by
  cases h with
  | eof => rfl
  | name c rs h => simp [List.takeWhile_append_dropWhile]
  | num c rs h h0 hs => simp [List.takeWhile_append_dropWhile]
  | zero _ hs => rfl
  | hex rs h hs => simp [List.takeWhile_append_dropWhile]
  | str cs rest h => simp
  | line rs => simp [List.takeWhile_append_dropWhile]
  | block cs rest h => simp
  | mark c _ h => rfl
theorem drop_suffix (p : Nat → Bool) (l : List Nat) : l.dropWhile p <:+ l := List.dropWhile_suffix p
theorem tokn_suffix {l : List Nat} {k : Int} {t r : List Nat} (h : Tokn (l.dropWhile wsR) k t r) : r <:+ l ∧ t.length + r.length ≤ l.length := by
  have e := tokn_app h
  have s := drop_suffix wsR l
  rw [← e] at s
  refine ⟨(List.suffix_append t r).trans s, ?_⟩
  have := s.length_le
  rw [List.length_append] at this
  exact this
theorem nls_le (t : List Nat) : nls t ≤ t.length := List.count_le_length
theorem Step.suffix {l : List Nat} {k : Int} {t : List Nat} {n : Nat} {r : List Nat} (h : Step l k t n r) : r <:+ l ∧ n + r.length ≤ l.length := by
  induction h with
  | @skip l c rest k t n rest' h hg hs ih =>
    obtain ⟨h1, h2⟩ := tokn_suffix h
    have := nls_le c
    exact ⟨ih.1.trans h1, by omega⟩
  | @one l k c rest h hk hp =>
    obtain ⟨h1, h2⟩ := tokn_suffix h
    refine ⟨h1, ?_⟩
    split
    · rename_i e
      subst e
      have : 1 ≤ c.length := by
        generalize l.dropWhile wsR = q at h
        cases h
        simp
      omega
    · omega
  | @two l c d rest k h hp =>
    obtain ⟨h1, h2⟩ := tokn_suffix h
    refine ⟨(List.suffix_cons d rest).trans h1, ?_⟩
    simp at h2 ⊢
    omega
theorem suffix_ok {l r : List Nat} (h : r <:+ l) (hok : ∀ c ∈ l, okR c) : ∀ c ∈ r, okR c := fun c hc => hok c (h.mem hc)
theorem suffix_enc {l r : List Nat} (h : r <:+ l) : (enc r).length ≤ (enc l).length := by
  obtain ⟨a, rfl⟩ := h
  rw [enc_append, List.length_append]
  omega

theorem takeWhile_mem {p : Nat → Bool} {l : List Nat} {x : Nat} (h : x ∈ l.takeWhile p) : p x = true := by
  induction l with
  | nil => simp at h
  | cons a l ih =>
    by_cases hp : p a = true
    · rw [List.takeWhile_cons_of_pos hp] at h
      rcases List.mem_cons.1 h with rfl | h
      · exact hp
      · exact ih h
    · rw [List.takeWhile_cons_of_neg hp] at h
      simp at h

/-- The last byte of a comment is no end of a line. -/
theorem enc_last {t : List Nat} (hok : ∀ c ∈ t, okR c) (h : ∀ c ∈ t.getLast?, c ≠ 10) : ∀ b ∈ (enc t).getLast?, b ≠ 10 := by
  rcases List.eq_nil_or_concat t with rfl | ⟨u, c, rfl⟩
  · simp [enc]
  · have hc : c ≠ 10 := h c (by simp)
    have hk := hok c (by simp)
    intro b hb
    have e : enc (u ++ [c]) = enc u ++ encR c := by rw [enc_append, enc_cons, enc_nil, List.append_nil]
    rw [List.concat_eq_append, e] at hb
    have hb2 : b ∈ (encR c).getLast? := by
      have := encR_pos c
      cases hq : encR c with
      | nil => rw [hq] at this; simp at this
      | cons x y =>
        rw [hq, List.getLast?_append] at hb
        simpa using hb
    rcases hk with hk | rfl | rfl
    · rw [encR_asc hk] at hb2
      obtain rfl : UInt8.ofNat c = b := by simpa using hb2
      intro e2
      have := congrArg UInt8.toNat e2
      rw [toNat_asc hk] at this
      exact hc this
    · obtain rfl : (183 : UInt8) = b := by simpa [encR_dot] using hb2
      decide
    · obtain rfl : (149 : UInt8) = b := by simpa [encR_slash] using hb2
      decide

theorem comment_last {l : List Nat} {t r : List Nat} (h : Tokn l (-8) t r) : t ≠ [] ∧ ∀ c ∈ t.getLast?, c ≠ 10 := by
  generalize hk : (-8 : Int) = k at h
  cases h with
  | line rs =>
    refine ⟨by simp, fun c hc => ?_⟩
    have hm : c ∈ 47 :: 47 :: rs.takeWhile nNl := List.mem_of_getLast? hc
    rcases List.mem_cons.1 hm with rfl | hm
    · decide
    · rcases List.mem_cons.1 hm with rfl | hm
      · decide
      · have := takeWhile_mem hm
        simpa [nNl] using this
  | block cs rest h =>
    refine ⟨by simp, fun c hc => ?_⟩
    have e : 47 :: 42 :: (cs ++ [42, 47]) = (47 :: 42 :: (cs ++ [42])) ++ [47] := by simp
    rw [e, List.getLast?_append] at hc
    obtain rfl : 47 = c := by simpa using hc
    decide
  | mark c _ h => omega
  | _ => cases hk
theorem comment_pre {l : List Nat} {t r : List Nat} (h : Tokn l (-8) t r) (hok : ∀ c ∈ t, okR c) (hg : noG t = true) : Lib.hasPrefix (enc t) goPre = false := by
  generalize hk : (-8 : Int) = k at h
  cases h with
  | line rs =>
    rw [enc_cons, enc_cons]
    cases hq : rs.takeWhile nNl with
    | nil => rfl
    | cons c u =>
      rw [hq] at hg hok
      have hc : c ≠ 103 := by
        rintro rfl
        exact absurd hg (by simp [noG])
      rw [enc_cons]
      rcases hok c (by simp) with h1 | rfl | rfl
      · have e : UInt8.ofNat c ≠ 103 := fun e => by
          have := congrArg UInt8.toNat e
          rw [toNat_asc h1] at this
          exact hc this
        rw [encR_asc h1]
        simp [Lib.hasPrefix, goPre, encR, List.isPrefixOf, e, Ne.symm e]
      · rfl
      · rfl
  | block cs rest h =>
    rw [enc_cons, enc_cons]
    rfl
  | mark c _ h => omega
  | _ => cases hk
theorem count_enc {t : List Nat} (hok : ∀ c ∈ t, okR c) : (enc t).count 10 = nls t := by
  induction t with
  | nil => rfl
  | cons c t ih =>
    rw [enc_cons, List.count_append, ih (fun x hx => hok x (by simp [hx])), nls, nls, List.count_cons]
    rcases hok c (by simp) with h | rfl | rfl
    · rw [encR_asc h, List.count_singleton, Nat.add_comm]
      congr 1
      by_cases e : c = 10
      · subst e; rfl
      · have e2 : UInt8.ofNat c ≠ 10 := fun h2 => by
          have := congrArg UInt8.toNat h2
          rw [toNat_asc h] at this
          exact e this
        simp [e, e2]
    · rw [encR_dot, show ([194, 183] : List UInt8).count 10 = 0 from rfl, Nat.zero_add]; rfl
    · rw [encR_slash, show ([226, 136, 149] : List UInt8).count 10 = 0 from rfl, Nat.zero_add]; rfl
/-- IsGoBuild at a comment that the scanner has read. -/
theorem goBuild_comment {l t r : List Nat} (h : Tokn l (-8) t r) (hok : ∀ c ∈ t, okR c) (hg : noG t = true) (hl : (enc t).length ≤ 1000000) (w : World) :
    Calls Tryz.prog 43 #[.string ⟨(enc t).toArray⟩] w fun e w' => e = .returned (.bool false) ∧ w = w' := by
  obtain ⟨h1, h2⟩ := comment_last h
  have hpos : 0 < (enc t).length := by
    cases t with
    | nil => exact absurd rfl h1
    | cons c t => rw [enc_cons, List.length_append]; have := encR_pos c; omega
  refine isGoBuild_any (str (enc t)) hl hpos ?_ (comment_pre h hok hg) w
  have h3 := enc_last hok h2
  have e : (enc t).getLast? = some ((enc t)[(enc t).length - 1]'(by omega)) := by
    rw [List.getLast?_eq_getElem?, List.getElem?_eq_getElem (by omega)]
  exact h3 _ e
end Go.Proofs.YtmeihdlkadjoeaaGreatDoor

namespace Go.Proofs.YtmeihdlkadjoeaaGreatDoor
open Go.RowKit
set_option linter.unusedVariables false
set_option linter.unusedSimpArgs false

/-- Below block B nothing has turned; nor has any other block that is neither S nor R nor T nor a row of bytes. -/
def FrT (B S R T : Nat) (w w' : World) : Prop := Below B w w' ∧ ∀ k o, w.heap[k]? = some o → k ≠ S → k ≠ R → k ≠ T → (∀ c fz, o ≠ .cells c 5 fz) → w'.heap[k]? = some o

section
variable {B S R T : Nat} {a w w' : World} {s s' : Sc} {line tok : Int} {l : List Nat} {rest : List Nat} {prev t : List UInt8} {txt : Option (List UInt8)}
theorem FrT.refl (B S R T : Nat) (w : World) : FrT B S R T w w := ⟨Below.refl _ _, fun _ _ h _ _ _ _ => h⟩
theorem FrT.trans {c : World} (h : FrT B S R T a w) (k : FrT B S R T w c) : FrT B S R T a c := ⟨h.1.trans k.1, fun i o hi h1 h2 h3 ho => k.2 i o (h.2 i o hi h1 h2 h3 ho) h1 h2 h3 ho⟩
theorem Fr.toT (h : Fr B S R w w') (T : Nat) : FrT B S R T w w' := ⟨h.1, fun k o hk h1 h2 _ ho => h.2 k o hk h1 h2 ho⟩
theorem FrT.drewN (h : FrT B S R T a w) (n : Nat) : FrT B S R T a (w.drewN n) := ⟨⟨h.1.os, h.1.tape, h.1.output, h.1.size, h.1.block⟩, h.2⟩
theorem FrT.drew (h : FrT B S R T a w) : FrT B S R T a w.drew := ⟨h.1.drew, h.2⟩

/-- Worlds that part in one block alone. -/
theorem Inp.other (h : Inp B S R w s rest txt) (ho : Only T w w') (hS : S ≠ T) (hR : R ≠ T) (hT : ∃ c fz, w.heap[T]? = some (.cells c 77 fz)) : Inp B S R w' s rest txt := by
  obtain ⟨rb, h1, h2⟩ := h.rd
  obtain ⟨bs, h3, h4⟩ := h.tb
  have hc : ∀ g cur, g ≠ S → w.heap[g]? = some (.cells cur 5 (0, 0)) → w'.heap[g]? = some (.cells cur 5 (0, 0)) := by
    intro g cur _ hg
    refine (ho.heap g ?_).trans hg
    rintro rfl
    obtain ⟨c, fz, hc⟩ := hT
    rw [hc] at hg
    simp at hg
  exact { h with sc := h.sc.of_heap (ho.heap S hS), hw := (by rw [ho.size]; exact h.hw), rd := ⟨rb, h1.block (ho.heap R hR), h2⟩, tb := ⟨bs, h3.carry hc rfl rfl, h4⟩ }
theorem Lx.other (h : Lx B S R w s rest prev txt) (ho : Only T w w') (hS : S ≠ T) (hR : R ≠ T) (hT : ∃ c fz, w.heap[T]? = some (.cells c 77 fz)) : Lx B S R w' s rest prev txt :=
  ⟨h.inp.other ho hS hR hT, h.len, h.le, h.sg, h.tk⟩
theorem Tok.other (h : Tok B S R w s l t) (ho : Only T w w') (hS : S ≠ T) (hR : R ≠ T) (hT : ∃ c fz, w.heap[T]? = some (.cells c 77 fz)) : Tok B S R w' s l t :=
  ⟨h.lx.other ho hS hR hT, h.ch, h.tokEnd⟩
theorem Idle.other (h : Idle B S R w s l) (ho : Only T w w') (hS : S ≠ T) (hR : R ≠ T) (hT : ∃ c fz, w.heap[T]? = some (.cells c 77 fz)) : Idle B S R w' s l := by
  rcases h with ⟨h1, h2⟩ | ⟨h1, tx, h2⟩
  · exact .inl ⟨h1, h2.other ho hS hR hT⟩
  · exact .inr ⟨h1, tx, h2.other ho hS hR hT⟩
theorem Tok.idle (h : Tok B S R w s l t) : Idle B S R w s l := .inr ⟨h.ch, _, h.lx⟩
theorem Inp.belowW (h : Inp B S R w s rest txt) (hb : Below w.heap.size w w') : Inp B S R w' s rest txt := h.below hb
theorem Lx.below (h : Lx B S R w s rest prev txt) (hb : Below w.heap.size w w') : Lx B S R w' s rest prev txt := ⟨h.inp.below hb, h.len, h.le, h.sg, h.tk⟩
theorem Tok.below (h : Tok B S R w s l t) (hb : Below w.heap.size w w') : Tok B S R w' s l t := ⟨h.lx.below hb, h.ch, h.tokEnd⟩
theorem Idle.below (h : Idle B S R w s l) (hb : Below w.heap.size w w') : Idle B S R w' s l := by
  rcases h with ⟨h1, h2⟩ | ⟨h1, tx, h2⟩
  · exact .inl ⟨h1, h2.below hb⟩
  · exact .inr ⟨h1, tx, h2.below hb⟩

theorem Tz.lt (h : Tz B S R T w s line tok) : T < w.heap.size := by obtain ⟨b, hb⟩ := h.blk; exact Lib.lt_of_heap hb
theorem Tz.isT (h : Tz B S R T w s line tok) : ∃ c fz, w.heap[T]? = some (.cells c 77 fz) := by obtain ⟨b, hb⟩ := h.blk; exact ⟨_, _, hb⟩
/-- The facts that a walk wants. -/
theorem Tz.facts (h : Tz B S R T w s line tok) : w.cell? ⟨T, 0, none⟩ = some (.int .i32 tok) ∧ w.cell? ⟨T, 1, none⟩ = some (.pointer (some ⟨S, 0, none⟩)) ∧ w.cell? ⟨T, 3, none⟩ = some (.int .i64 line) ∧ (∀ o, w.frozen? ⟨T, o, none⟩ = false) := by
  obtain ⟨b, hb⟩ := h.blk
  exact ⟨Lib.cell_of_heap hb 0, Lib.cell_of_heap hb 1, Lib.cell_of_heap hb 3, Lib.frozen_of_heap hb⟩
theorem Tz.fr (h : Tz B S R T w s line tok) (hF : Fr B S R w w') (hs : SameB s s') : Tz B S R T w' s' line tok := by
  obtain ⟨b, hb⟩ := h.blk
  refine ⟨h.hB, h.neS, h.neR, ⟨b, hF.keep hb h.neS h.neR (fun c fz e => by simp at e)⟩, ?_, h.glob.below hF.1⟩
  exact ⟨hs.2.2.2.trans h.ps.1, hs.2.2.1.trans h.ps.2.1, hs.2.1.trans h.ps.2.2⟩
theorem Tz.below (h : Tz B S R T w s line tok) (hb : Below w.heap.size w w') (hB : B ≤ w.heap.size) : Tz B S R T w' s line tok := by
  obtain ⟨b, hk⟩ := h.blk
  exact ⟨h.hB, h.neS, h.neR, ⟨b, (hb.block T h.lt).trans hk⟩, h.ps, h.glob.below (hb.mono hB)⟩
theorem Tz.set0 (h : Tz B S R T w s line tok) (k : Int) : Tz B S R T (w.setCell ⟨T, 0, none⟩ (.int .i32 k)) s line k ∧ Only T w (w.setCell ⟨T, 0, none⟩ (.int .i32 k)) ∧ FrT B S R T w (w.setCell ⟨T, 0, none⟩ (.int .i32 k)) := by
  obtain ⟨b, hb⟩ := h.blk
  have o := (Only.refl T w).set 0 (.int .i32 k)
  have f := o.fr h.hB R
  exact ⟨⟨h.hB, h.neS, h.neR, ⟨b, Lib.heap_setCell_same (i := 0) hb _⟩, h.ps, h.glob.below f.1⟩, o, f.1, fun i x hi _ h2 h3 hx => f.2 i x hi h3 h2 hx⟩
theorem Tz.set3 (h : Tz B S R T w s line tok) (n : Int) : Tz B S R T (w.setCell ⟨T, 3, none⟩ (.int .i64 n)) s n tok ∧ Only T w (w.setCell ⟨T, 3, none⟩ (.int .i64 n)) ∧ FrT B S R T w (w.setCell ⟨T, 3, none⟩ (.int .i64 n)) := by
  obtain ⟨b, hb⟩ := h.blk
  have o := (Only.refl T w).set 3 (.int .i64 n)
  have f := o.fr h.hB R
  exact ⟨⟨h.hB, h.neS, h.neR, ⟨b, Lib.heap_setCell_same (i := 3) hb _⟩, h.ps, h.glob.below f.1⟩, o, f.1, fun i x hi _ h2 h3 hx => f.2 i x hi h3 h2 hx⟩
theorem Tz.drewN (h : Tz B S R T w s line tok) (n : Nat) : Tz B S R T (w.drewN n) s line tok := ⟨h.hB, h.neS, h.neR, h.blk, h.ps, h.glob.below (below_drewN' _ _)⟩
end

/-- What Next leaves: the text of the token can be asked for. -/
def Said (B S R : Nat) (w : World) (s : Sc) (l : List Nat) (k : Int) (t : List Nat) : Prop :=
  (∃ c d : Nat, t = [c, d] ∧ pairR c d = some k ∧ Idle B S R w s l) ∨ (k ≠ -1000 ∧ k ≠ -1001 ∧ k ≠ -1002 ∧ k ≠ -1003 ∧ Tok B S R w s l (enc t))
theorem Said.idle {B S R : Nat} {w : World} {s : Sc} {l : List Nat} {k : Int} {t : List Nat} (h : Said B S R w s l k t) : Idle B S R w s l := by
  rcases h with ⟨c, d, _, _, h⟩ | ⟨_, _, _, _, h⟩
  · exact h
  · exact h.idle
theorem Said.drewN {B S R : Nat} {w : World} {s : Sc} {l : List Nat} {k : Int} {t : List Nat} (h : Said B S R w s l k t) (n : Nat) : Said B S R (w.drewN n) s l k t := by
  rcases h with ⟨c, d, h1, h2, h⟩ | ⟨h1, h2, h3, h4, h⟩
  · exact .inl ⟨c, d, h1, h2, h.below (below_drewN' _ _)⟩
  · exact .inr ⟨h1, h2, h3, h4, h.drewN n⟩
end Go.Proofs.YtmeihdlkadjoeaaGreatDoor

namespace Go.Proofs.YtmeihdlkadjoeaaGreatDoor
open Go.RowKit
set_option linter.unusedVariables false
set_option linter.unusedSimpArgs false

def NextT (B S R T : Nat) (w : World) (rest : List Nat) (k : Int) (t : List Nat) (line : Int) (e : Ending) (w' : World) : Prop :=
  e = .returned (.int .i32 k) ∧ ∃ s', Tz B S R T w' s' line k ∧ Said B S R w' s' rest k t ∧ FrT B S R T w w'

theorem Tz.drew {B S R T : Nat} {w : World} {s : Sc} {line tok : Int} (h : Tz B S R T w s line tok) : Tz B S R T w.drew s line tok := ⟨h.hB, h.neS, h.neR, h.blk, h.ps, h.glob.below ((Below.refl _ _).drew)⟩
theorem tokn_kind {l : List Nat} {k : Int} {t r : List Nat} (h : Tokn l k t r) : k ≠ -1000 ∧ k ≠ -1001 ∧ k ≠ -1002 ∧ k ≠ -1003 := by
  cases h with
  | mark c _ h => omega
  | _ => decide
theorem tokn_nl {l : List Nat} {k : Int} {t r : List Nat} (h : Tokn l k t r) : k = 10 → 1 ≤ t.length := by
  cases h <;> simp
theorem peek_ne {K : Int} {P : Nat} {rest : List Nat} (hp : ∀ d ∈ rest.head?, pairR K d = none) (hK : pairR K P ≠ none) {p : Int} (e : p = P) : (headR rest == p) = false := by
  subst e
  cases rest with
  | nil => simp [headR]
  | cons d r =>
    apply beq_eq_false_iff_ne.2
    intro h
    have h1 : (d : Int) = (P : Int) := h
    obtain rfl : d = P := by omega
    exact hK (hp d rfl)

set_option maxHeartbeats 4000000 in
set_option maxRecDepth 10000 in
theorem tz_next {B S R T : Nat} {w : World} {s : Sc} {line tok : Int} {l : List Nat} {k : Int} {t : List Nat} {n : Nat} {rest : List Nat} (hst : Step l k t n rest) (hz : Tz B S R T w s line tok) (hi : Idle B S R w s l)
    (hok : ∀ c ∈ l, okR c) (hl : (enc l).length ≤ 1000000) (hli : 0 ≤ line) (hli2 : line + l.length ≤ 4000000) :
    Calls Tryz.prog 32 #[.pointer (some ⟨T, 0, none⟩)] w (NextT B S R T w rest k t (line + n)) := by
  have c1 := hz.facts.2.1
  have fz := hz.facts.2.2.2
  have HZ := Lib.hid hz
  have HI := Lib.hid hi
  have HS := Lib.hid hst
  have HO := Lib.hid hok
  clear hz hi hst hok
  go_enter Tryz.func32, Tryz.ntmps32
  go_wp2_with fail
  go_loopg [4] (l.length + 1) (fun gk tx wr => ∃ (l' : List Nat) (s' : Sc) (line' tok' : Int) (n' : Nat), Tz B S R T wr s' line' tok' ∧ Idle B S R wr s' l' ∧ Step l' k t n' rest ∧ 0 ≤ line' ∧ line' + n' = line + n ∧ line' + l'.length ≤ 4000000 ∧ FrT B S R T w wr ∧ l' <:+ l ∧ l'.length < gk)
  case atStart => exact ⟨l, s, line, tok, n, HZ.out, HI.out, HS.out, hli, rfl, hli2, FrT.refl _ _ _ _ _, List.suffix_refl _, Nat.lt_succ_self _⟩
  case round =>
    clear HZ HI HS c1 fz
    obtain ⟨l', s', line', tok', n', hz, hi, hst, hp0, hpe, hpl, hF, hsuf, hk⟩ := hrel
    have hok := suffix_ok hsuf HO.out
    have hl' := Nat.le_trans (suffix_enc hsuf) hl
    have HF := Lib.hid hF
    have HSU := Lib.hid hsuf
    have HPE := Lib.hid hpe
    clear hF hsuf hpe
    cases hst with
    | @skip _ c r1 _ _ n1 _ hT hg hs =>
      have HSC := Lib.hid (scan_ok hT hl' hi hz.glob hok hz.ps.1 hz.ps.2.1 hz.ps.2.2)
      have f0 := hz.facts.1
      have fz := hz.facts.2.2.2
      have HZ := Lib.hid hz
      have HT := Lib.hid hT
      have HG := Lib.hid hg
      have HST := Lib.hid hs
      have HOK := Lib.hid hok
      clear hz hi hT hg hs hok
      go_wp2_with (go_at_call 40; refine HSC.out.mono ?_)
      rintro e w2 ⟨rfl, s2, k1, k2, k3, k4⟩
      have z2 := HZ.out.fr k3 k2
      obtain ⟨z3, o3, fr3⟩ := z2.set0 (-8)
      have k3' := k1.other o3 z2.neS.symm z2.neR.symm z2.isT
      have f2 := z2.facts.1
      have fz2 := z2.facts.2.2.2
      have HTT := Lib.hid (tokenText k3')
      have Z3 := Lib.hid z3
      have FR := Lib.hid ((HF.out.trans (k3.toT T)).trans fr3)
      clear k1 k2 k3 k4 z2 z3 o3 fr3 k3' f0 fz
      go_wp2_with (go_at_call 41; refine HTT.out.mono ?_)
      rintro e w3 ⟨rfl, s3, k1, k2, k3⟩
      have z3 := Z3.out.fr k3 k2
      have f3 := z3.facts.2.2.1
      have fz3 := z3.facts.2.2.2
      have FR2 := Lib.hid (FR.out.trans (k3.toT T))
      have Z4 := Lib.hid z3
      have K1 := Lib.hid k1
      clear z3 k1 k2 k3 f2 fz2 FR Z3
      have hcok : ∀ x ∈ c, okR x := by
        intro x hx
        refine HOK.out x ?_
        have e := tokn_app HT.out
        have := drop_suffix wsR l'
        rw [← e] at this
        exact this.mem (by simp [hx])
      have hcl : (enc c).length ≤ 1000000 := by
        have e := tokn_app HT.out
        have h1 := suffix_enc (drop_suffix wsR l')
        rw [← e, enc_append, List.length_append] at h1
        omega
      have hsuf1 := Lib.hid (tokn_suffix HT.out)
      have hcnt : ∀ W, Calls Tryz.prog 42 #[.string ⟨(enc c).toArray⟩, .string ⟨#[10]⟩] W fun e w'' => e = .returned (.int .i64 (nls c)) ∧ w'' = W := by
        intro W
        refine (zzCount_any (str (enc c)) hcl W).mono ?_
        rintro e w'' ⟨he, rfl⟩
        rw [cntNl_str, count_enc hcok] at he
        exact ⟨he, rfl⟩
      have HC := Lib.hid hcnt
      have HB := Lib.hid fun W => goBuild_comment HT.out hcok HG.out hcl W
      have hq : IntKind.i64.wrap (line' + (nls c : Int)) = line' + (nls c : Int) := by
        have h1 := nls_le c
        have h2 := hsuf1.out.2
        exact IntWalk.i64_in _ (by omega)
      clear hcok hcl hcnt
      go_wp2_with fail
      refine wp_region_tail 9 (by kernel_rfl) (by kernel_rfl) ?_
      simp only [List.take_succ_cons, List.take_zero, List.drop_succ_cons, List.drop_zero]
      still_step
      still_step
      still_step
      still_step
      still_step
      still_call (HC.out _)
      still_step
      still_step
      still_step
      refine wpStill_nil ?_
      go_wp2_with (go_at_call 43; refine (HB.out _).mono ?_)
      rintro e w4 ⟨rfl, rfl⟩
      go_wp2_with fail
      go_roundg (r1.length + 1)
      case measure =>
        have h1 := hsuf1.out.2
        have h2 := List.length_pos_iff.2 (comment_last HT.out).1
        omega
      case rel =>
        obtain ⟨z5, o5, f5⟩ := Z4.out.set3 (line' + nls c)
        have h2 := nls_le c
        have h3 := hsuf1.out.2
        refine ⟨r1, s3, line' + nls c, -8, n1, z5.drew, ((K1.out.other o5 Z4.out.neS.symm Z4.out.neR.symm Z4.out.isT).idle).below ((Below.refl _ _).drew), HST.out, by omega, ?_, by omega, (FR2.out.trans f5).drew, hsuf1.out.1.trans HSU.out, Nat.lt_succ_self _⟩
        rw [← HPE.out, Int.natCast_add]
        omega
    | one hT hk8 hp =>
      have hkd := tokn_kind hT
      have HSC := Lib.hid (scan_ok hT hl' hi hz.glob hok hz.ps.1 hz.ps.2.1 hz.ps.2.2)
      have f0 := hz.facts.1
      have fz := hz.facts.2.2.2
      have g8 : (k != -8) = true := by simpa using hk8
      have hlen := (tokn_suffix hT).2
      have h1t := tokn_nl hT
      have HZ := Lib.hid hz
      have HKD := Lib.hid hkd
      have HP := Lib.hid hp
      clear hz hi hT hp hok hkd hk8
      go_wp2_with (go_at_call 40; refine HSC.out.mono ?_)
      rintro e w2 ⟨rfl, s2, k1, k2, k3, k4⟩
      have z2 := HZ.out.fr k3 k2
      obtain ⟨z3, o3, fr3⟩ := z2.set0 k
      have k3' := k1.other o3 z2.neS.symm z2.neR.symm z2.isT
      have f2 := z2.facts.1
      have f23 := z2.facts.2.2.1
      have fz2 := z2.facts.2.2.2
      have Z3 := Lib.hid z3
      have K3 := Lib.hid k3'
      have FR := Lib.hid ((HF.out.trans (k3.toT T)).trans fr3)
      clear k1 k2 k3 k4 z2 z3 o3 fr3 k3' f0 fz HZ
      have fin : ∀ (li : Int), line' + ((if k = 10 then 1 else 0 : Nat) : Int) = li → ∀ W, Tz B S R T W s2 li k → Tok B S R W s2 rest (enc t) → FrT B S R T w W → NextT B S R T w rest k t (line + n) (.returned (.int .i32 k)) W := by
        intro li hli W a b c
        have e : li = line + n := by rw [← hli]; exact HPE.out
        rw [← e]
        exact ⟨rfl, s2, a, .inr ⟨HKD.out.1, HKD.out.2.1, HKD.out.2.2.1, HKD.out.2.2.2, b⟩, c⟩
      have FIN := Lib.hid fin
      clear fin
      by_cases h10 : k = 10
      · subst h10
        have hq : IntKind.i64.wrap (line' + 1) = line' + 1 := IntWalk.i64_in _ (by omega)
        clear HP
        go_wp2_with fail
        go_ret
        obtain ⟨z4, o4, fr4⟩ := Z3.out.set3 (line' + 1)
        exact FIN.out (line' + 1) rfl _ z4 (K3.out.other o4 Z3.out.neS.symm Z3.out.neR.symm Z3.out.isT) (FR.out.trans fr4)
      have g10 : (k == 10) = false := by simpa using h10
      by_cases h45 : k = 45
      · subst h45
        have hpk : (headR rest == 62) = false := peek_ne HP.out (P := 62) (by decide) rfl
        have HPK := Lib.hid (peek_read K3.out.lx K3.out.ch)
        clear HP
        go_wp2_with (go_at_call 44; refine HPK.out.mono ?_)
        first | rintro e w5 rfl rfl | rintro e w5 ⟨rfl, rfl⟩
        go_wp2_with fail
        go_ret
        exact FIN.out line' (Int.add_zero _) _ Z3.out K3.out FR.out
      have g45 : (k == 45) = false := by simpa using h45
      by_cases h64 : k = 64
      · subst h64
        have hpk : (headR rest == 62) = false := peek_ne HP.out (P := 62) (by decide) rfl
        have HPK := Lib.hid (peek_read K3.out.lx K3.out.ch)
        clear HP
        go_wp2_with (go_at_call 44; refine HPK.out.mono ?_)
        first | rintro e w5 rfl rfl | rintro e w5 ⟨rfl, rfl⟩
        go_wp2_with fail
        go_ret
        exact FIN.out line' (Int.add_zero _) _ Z3.out K3.out FR.out
      have g64 : (k == 64) = false := by simpa using h64
      by_cases h60 : k = 60
      · subst h60
        have hpk : (headR rest == 60) = false := peek_ne HP.out (P := 60) (by decide) rfl
        have HPK := Lib.hid (peek_read K3.out.lx K3.out.ch)
        clear HP
        go_wp2_with (go_at_call 44; refine HPK.out.mono ?_)
        first | rintro e w5 rfl rfl | rintro e w5 ⟨rfl, rfl⟩
        go_wp2_with fail
        go_ret
        exact FIN.out line' (Int.add_zero _) _ Z3.out K3.out FR.out
      have g60 : (k == 60) = false := by simpa using h60
      by_cases h62 : k = 62
      · subst h62
        have hpk : (headR rest == 62) = false := peek_ne HP.out (P := 62) (by decide) rfl
        have HPK := Lib.hid (peek_read K3.out.lx K3.out.ch)
        clear HP
        go_wp2_with (go_at_call 44; refine HPK.out.mono ?_)
        first | rintro e w5 rfl rfl | rintro e w5 ⟨rfl, rfl⟩
        go_wp2_with fail
        go_ret
        exact FIN.out line' (Int.add_zero _) _ Z3.out K3.out FR.out
      have g62 : (k == 62) = false := by simpa using h62
      clear HP
      go_wp2_with fail
      go_ret
      exact FIN.out line' (by rw [if_neg h10]; exact Int.add_zero _) _ Z3.out K3.out FR.out
    | @two _ c d _ _ hT hp =>
      have HSC := Lib.hid (scan_ok hT hl' hi hz.glob hok hz.ps.1 hz.ps.2.1 hz.ps.2.2)
      have f0 := hz.facts.1
      have fz := hz.facts.2.2.2
      have HZ := Lib.hid hz
      have hpk := pairR_kinds hp
      have HP := Lib.hid hp
      clear hz hi hT hok hp
      rcases hpk with (hpk | hpk) | (hpk | hpk)
      · obtain rfl : c = 45 := by omega
        obtain rfl : d = 62 := by omega
        obtain rfl : k = -1002 := by omega
        clear hpk
        go_wp2_with (go_at_call 40; refine HSC.out.mono ?_)
        first | rintro e w2 rfl s2 k1 k2 k3 k4 | rintro e w2 ⟨rfl, s2, k1, k2, k3, k4⟩
        have z2 := HZ.out.fr k3 k2
        obtain ⟨z3, o3, fr3⟩ := z2.set0 45
        have k3' := k1.other o3 z2.neS.symm z2.neR.symm z2.isT
        have f2 := z2.facts.1
        have fz2 := z2.facts.2.2.2
        have HPK := Lib.hid (peek_read k3'.lx k3'.ch)
        have HNX := Lib.hid (next_read (c := 62) (rs := rest) k3'.lx z3.glob k3'.ch)
        have hr : (headR (62 :: rest) == 62) = true := rfl
        have Z3 := Lib.hid z3
        have FR := Lib.hid ((HF.out.trans (k3.toT T)).trans fr3)
        clear k1 k2 k3 k4 z2 z3 o3 fr3 k3' f0 fz HZ
        go_wp2_with (go_at_call 44; refine HPK.out.mono ?_)
        first | rintro e w5 rfl rfl | rintro e w5 ⟨rfl, rfl⟩
        go_wp2_with (go_at_call 45; refine HNX.out.mono ?_)
        first | rintro e w5 rfl s5 m1 m2 m3 m4 | rintro e w5 ⟨rfl, s5, m1, m2, m3, m4⟩
        have z5 := Z3.out.fr m4 m3
        obtain ⟨z6, o6, fr6⟩ := z5.set0 (-1002)
        have f5 := z5.facts.1
        have fz5 := z5.facts.2.2.2
        have hid5 : Idle B S R (w5.setCell ⟨T, 0, none⟩ (.int .i32 (-1002))) s5 rest := .inr ⟨m1, none, m2.other o6 z5.neS.symm z5.neR.symm z5.isT⟩
        have Z6 := Lib.hid z6
        have HI5 := Lib.hid hid5
        have FR2 := Lib.hid ((FR.out.trans (m4.toT T)).trans fr6)
        clear m1 m2 m3 m4 z5 z6 o6 fr6 hid5 f2 fz2
        go_wp2_with fail
        go_ret
        have ez : line' = line + n := (Int.add_zero line').symm.trans HPE.out
        exact ⟨rfl, s5, ez ▸ Z6.out, .inl ⟨45, 62, rfl, HP.out, HI5.out⟩, FR2.out⟩
      · obtain rfl : c = 64 := by omega
        obtain rfl : d = 62 := by omega
        obtain rfl : k = -1003 := by omega
        clear hpk
        go_wp2_with (go_at_call 40; refine HSC.out.mono ?_)
        first | rintro e w2 rfl s2 k1 k2 k3 k4 | rintro e w2 ⟨rfl, s2, k1, k2, k3, k4⟩
        have z2 := HZ.out.fr k3 k2
        obtain ⟨z3, o3, fr3⟩ := z2.set0 64
        have k3' := k1.other o3 z2.neS.symm z2.neR.symm z2.isT
        have f2 := z2.facts.1
        have fz2 := z2.facts.2.2.2
        have HPK := Lib.hid (peek_read k3'.lx k3'.ch)
        have HNX := Lib.hid (next_read (c := 62) (rs := rest) k3'.lx z3.glob k3'.ch)
        have hr : (headR (62 :: rest) == 62) = true := rfl
        have Z3 := Lib.hid z3
        have FR := Lib.hid ((HF.out.trans (k3.toT T)).trans fr3)
        clear k1 k2 k3 k4 z2 z3 o3 fr3 k3' f0 fz HZ
        go_wp2_with (go_at_call 44; refine HPK.out.mono ?_)
        first | rintro e w5 rfl rfl | rintro e w5 ⟨rfl, rfl⟩
        go_wp2_with (go_at_call 45; refine HNX.out.mono ?_)
        first | rintro e w5 rfl s5 m1 m2 m3 m4 | rintro e w5 ⟨rfl, s5, m1, m2, m3, m4⟩
        have z5 := Z3.out.fr m4 m3
        obtain ⟨z6, o6, fr6⟩ := z5.set0 (-1003)
        have f5 := z5.facts.1
        have fz5 := z5.facts.2.2.2
        have hid5 : Idle B S R (w5.setCell ⟨T, 0, none⟩ (.int .i32 (-1003))) s5 rest := .inr ⟨m1, none, m2.other o6 z5.neS.symm z5.neR.symm z5.isT⟩
        have Z6 := Lib.hid z6
        have HI5 := Lib.hid hid5
        have FR2 := Lib.hid ((FR.out.trans (m4.toT T)).trans fr6)
        clear m1 m2 m3 m4 z5 z6 o6 fr6 hid5 f2 fz2
        go_wp2_with fail
        go_ret
        have ez : line' = line + n := (Int.add_zero line').symm.trans HPE.out
        exact ⟨rfl, s5, ez ▸ Z6.out, .inl ⟨64, 62, rfl, HP.out, HI5.out⟩, FR2.out⟩
      · obtain rfl : c = 60 := by omega
        obtain rfl : d = 60 := by omega
        obtain rfl : k = -1000 := by omega
        clear hpk
        go_wp2_with (go_at_call 40; refine HSC.out.mono ?_)
        first | rintro e w2 rfl s2 k1 k2 k3 k4 | rintro e w2 ⟨rfl, s2, k1, k2, k3, k4⟩
        have z2 := HZ.out.fr k3 k2
        obtain ⟨z3, o3, fr3⟩ := z2.set0 60
        have k3' := k1.other o3 z2.neS.symm z2.neR.symm z2.isT
        have f2 := z2.facts.1
        have fz2 := z2.facts.2.2.2
        have HPK := Lib.hid (peek_read k3'.lx k3'.ch)
        have HNX := Lib.hid (next_read (c := 60) (rs := rest) k3'.lx z3.glob k3'.ch)
        have hr : (headR (60 :: rest) == 60) = true := rfl
        have Z3 := Lib.hid z3
        have FR := Lib.hid ((HF.out.trans (k3.toT T)).trans fr3)
        clear k1 k2 k3 k4 z2 z3 o3 fr3 k3' f0 fz HZ
        go_wp2_with (go_at_call 44; refine HPK.out.mono ?_)
        first | rintro e w5 rfl rfl | rintro e w5 ⟨rfl, rfl⟩
        go_wp2_with (go_at_call 45; refine HNX.out.mono ?_)
        first | rintro e w5 rfl s5 m1 m2 m3 m4 | rintro e w5 ⟨rfl, s5, m1, m2, m3, m4⟩
        have z5 := Z3.out.fr m4 m3
        obtain ⟨z6, o6, fr6⟩ := z5.set0 (-1000)
        have f5 := z5.facts.1
        have fz5 := z5.facts.2.2.2
        have hid5 : Idle B S R (w5.setCell ⟨T, 0, none⟩ (.int .i32 (-1000))) s5 rest := .inr ⟨m1, none, m2.other o6 z5.neS.symm z5.neR.symm z5.isT⟩
        have Z6 := Lib.hid z6
        have HI5 := Lib.hid hid5
        have FR2 := Lib.hid ((FR.out.trans (m4.toT T)).trans fr6)
        clear m1 m2 m3 m4 z5 z6 o6 fr6 hid5 f2 fz2
        go_wp2_with fail
        go_ret
        have ez : line' = line + n := (Int.add_zero line').symm.trans HPE.out
        exact ⟨rfl, s5, ez ▸ Z6.out, .inl ⟨60, 60, rfl, HP.out, HI5.out⟩, FR2.out⟩
      · obtain rfl : c = 62 := by omega
        obtain rfl : d = 62 := by omega
        obtain rfl : k = -1001 := by omega
        clear hpk
        go_wp2_with (go_at_call 40; refine HSC.out.mono ?_)
        first | rintro e w2 rfl s2 k1 k2 k3 k4 | rintro e w2 ⟨rfl, s2, k1, k2, k3, k4⟩
        have z2 := HZ.out.fr k3 k2
        obtain ⟨z3, o3, fr3⟩ := z2.set0 62
        have k3' := k1.other o3 z2.neS.symm z2.neR.symm z2.isT
        have f2 := z2.facts.1
        have fz2 := z2.facts.2.2.2
        have HPK := Lib.hid (peek_read k3'.lx k3'.ch)
        have HNX := Lib.hid (next_read (c := 62) (rs := rest) k3'.lx z3.glob k3'.ch)
        have hr : (headR (62 :: rest) == 62) = true := rfl
        have Z3 := Lib.hid z3
        have FR := Lib.hid ((HF.out.trans (k3.toT T)).trans fr3)
        clear k1 k2 k3 k4 z2 z3 o3 fr3 k3' f0 fz HZ
        go_wp2_with (go_at_call 44; refine HPK.out.mono ?_)
        first | rintro e w5 rfl rfl | rintro e w5 ⟨rfl, rfl⟩
        go_wp2_with (go_at_call 45; refine HNX.out.mono ?_)
        first | rintro e w5 rfl s5 m1 m2 m3 m4 | rintro e w5 ⟨rfl, s5, m1, m2, m3, m4⟩
        have z5 := Z3.out.fr m4 m3
        obtain ⟨z6, o6, fr6⟩ := z5.set0 (-1001)
        have f5 := z5.facts.1
        have fz5 := z5.facts.2.2.2
        have hid5 : Idle B S R (w5.setCell ⟨T, 0, none⟩ (.int .i32 (-1001))) s5 rest := .inr ⟨m1, none, m2.other o6 z5.neS.symm z5.neR.symm z5.isT⟩
        have Z6 := Lib.hid z6
        have HI5 := Lib.hid hid5
        have FR2 := Lib.hid ((FR.out.trans (m4.toT T)).trans fr6)
        clear m1 m2 m3 m4 z5 z6 o6 fr6 hid5 f2 fz2
        go_wp2_with fail
        go_ret
        have ez : line' = line + n := (Int.add_zero line').symm.trans HPE.out
        exact ⟨rfl, s5, ez ▸ Z6.out, .inl ⟨62, 62, rfl, HP.out, HI5.out⟩, FR2.out⟩

end Go.Proofs.YtmeihdlkadjoeaaGreatDoor

namespace Go.Proofs.YtmeihdlkadjoeaaGreatDoor
open Go.RowKit
set_option linter.unusedVariables false
set_option linter.unusedSimpArgs false

def TextT (B S R T : Nat) (w : World) (l : List Nat) (k : Int) (t : List Nat) (line : Int) (e : Ending) (w' : World) : Prop :=
  e = .returned (.string (str (enc t))) ∧ ∃ s', Tz B S R T w' s' line k ∧ Said B S R w' s' l k t ∧ FrT B S R T w w'

set_option maxRecDepth 10000 in
theorem tz_text {B S R T : Nat} {w : World} {s : Sc} {line k : Int} {l t : List Nat} (hz : Tz B S R T w s line k) (hs : Said B S R w s l k t) :
    Calls Tryz.prog 34 #[.pointer (some ⟨T, 0, none⟩)] w (TextT B S R T w l k t line) := by
  have c0 := hz.facts.1
  have c1 := hz.facts.2.1
  have HZ := Lib.hid hz
  have HS := Lib.hid hs
  rcases hs with ⟨c, d, rfl, hp, hi⟩ | ⟨n0, n1, n2, n3, ht⟩
  · have hk := pairR_kinds hp
    have pc : ∀ (b : Nat) (e : Nat), c = b → d = e → b < 128 → e < 128 → str (enc [c, d]) = ⟨#[UInt8.ofNat b, UInt8.ofNat e]⟩ := by
      intro b e h1 h2 h3 h4
      rw [h1, h2, enc_cons, enc_cons, enc_nil, encR_asc h3, encR_asc h4]
      rfl
    have HPC := Lib.hid pc
    clear hz hp hi pc
    rcases hk with (⟨a1, a2, rfl⟩ | ⟨a1, a2, rfl⟩) | (⟨a1, a2, rfl⟩ | ⟨a1, a2, rfl⟩)
    all_goals
      have A1 := Lib.hid a1
      have A2 := Lib.hid a2
      clear a1 a2
      go_enter Tryz.func34, Tryz.ntmps34
      go_wp2_with fail
      go_ret
    · exact ⟨by rw [HPC.out 45 62 (by have := A1.out; omega) A2.out (by decide) (by decide)]; rfl, s, HZ.out, HS.out, FrT.refl _ _ _ _ _⟩
    · exact ⟨by rw [HPC.out 64 62 (by have := A1.out; omega) A2.out (by decide) (by decide)]; rfl, s, HZ.out, HS.out, FrT.refl _ _ _ _ _⟩
    · exact ⟨by rw [HPC.out 60 60 (by have := A1.out; omega) A2.out (by decide) (by decide)]; rfl, s, HZ.out, HS.out, FrT.refl _ _ _ _ _⟩
    · exact ⟨by rw [HPC.out 62 62 (by have := A1.out; omega) A2.out (by decide) (by decide)]; rfl, s, HZ.out, HS.out, FrT.refl _ _ _ _ _⟩
  · have g0 : (k == -1000) = false := by simpa using n0
    have g1 : (k == -1001) = false := by simpa using n1
    have g2 : (k == -1002) = false := by simpa using n2
    have g3 : (k == -1003) = false := by simpa using n3
    have HN := Lib.hid (And.intro n0 (And.intro n1 (And.intro n2 n3)))
    have HT := Lib.hid (tokenText ht)
    clear hz ht n0 n1 n2 n3
    go_enter Tryz.func34, Tryz.ntmps34
    go_wp2_with (go_at_call 41; refine HT.out.mono ?_)
    first | rintro e w2 rfl s2 k1 k2 k3 | rintro e w2 ⟨rfl, s2, k1, k2, k3⟩
    have K1 := Lib.hid k1
    have K2 := Lib.hid k2
    have K3 := Lib.hid k3
    clear k1 k2 k3
    go_wp2_with fail
    go_ret
    exact ⟨rfl, s2, HZ.out.fr K3.out K2.out, .inr ⟨HN.out.1, HN.out.2.1, HN.out.2.2.1, HN.out.2.2.2, K1.out⟩, K3.out.toT T⟩
end Go.Proofs.YtmeihdlkadjoeaaGreatDoor

namespace Go.Proofs.YtmeihdlkadjoeaaGreatDoor
open Go.RowKit
set_option linter.unusedVariables false
set_option linter.unusedSimpArgs false

/-- The types of the scanner's own blocks. -/
def badE : List TypeId := [5, 71, 79, 77
  ]
/-- Only blocks of type e have turned. -/
def KeptE (e : TypeId) (B : Nat) (w w' : World) : Prop := Below B w w' ∧ ∀ (k : Nat) (o : Obj), w.heap[k]? = some o → (∀ c fz, o ≠ .cells c e fz) → w'.heap[k]? = some o

section
variable {e : TypeId} {B S R T : Nat} {a w w' : World} {s : Sc} {line tok : Int} {l : List Nat} {k : Int} {t : List Nat} {prev : List UInt8} {txt : Option (List UInt8)} {size n : Nat} {v : Value} {xs : List Value}
theorem KeptE.trans {c : World} (h : KeptE e B a w) (k : KeptE e B w c) : KeptE e B a c := ⟨h.1.trans k.1, fun i o hi ho => k.2 i o (h.2 i o hi ho) ho⟩
theorem KeptE.below (hb : Below w.heap.size w w') (hB : B ≤ w.heap.size) : KeptE e B w w' := ⟨hb.mono hB, fun i o hi _ => (hb.block i (Lib.lt_of_heap hi)).trans hi⟩
theorem KeptE.grown (hown : w.ownsRow B e size v n xs) (hg : w.grownBy w' v.ownBlock) (hB : B ≤ w.heap.size) : KeptE e B w w' := by
  refine ⟨⟨hg.os, hg.tape, hg.output, hg.size, fun i hi => hg.block i (Nat.lt_of_lt_of_le hi hB) fun h => ?_⟩, fun i o hi ho => ?_⟩
  · have := (hown.lt i h.symm).1
    omega
  · rw [hg.block i (Lib.lt_of_heap hi)]
    · exact hi
    · intro h
      rcases hown.2 with ⟨rfl, _⟩ | ⟨g, cap, cur, rfl, _, hgg, _⟩
      · cases h
      · obtain rfl : i = g := by simpa [Value.ownBlock] using h
        rw [hgg] at hi
        exact ho _ _ (Option.some.inj hi).symm

theorem ne_obj {f : TypeId} (h : f ≠ e) (cs : Array Value) (fz : Nat × Nat) : ∀ c fz', (.cells cs f fz : Obj) ≠ .cells c e fz' := by
  intro c fz' hh
  simp at hh
  exact h hh.2.1
theorem bad_ne {f : TypeId} (he : badE.contains e = false) (hf : badE.contains f = true) : f ≠ e := by
  rintro rfl
  rw [he] at hf
  cases hf

theorem RdAt.keptE {rv : Value} {bs : List UInt8} (h : RdAt w R rv bs) (hk : KeptE e B w w') (he : badE.contains e = false) : RdAt w' R rv bs := by
  cases h with
  | str t i pr hb hi ht => exact .str t i pr (hk.2 _ _ hb (ne_obj (bad_ne he rfl) _ _)) hi ht
theorem ScAt.keptE (h : ScAt w S s) (hk : KeptE e B w w') (he : badE.contains e = false) : ScAt w' S s := by
  obtain ⟨cs, hb, r⟩ := h
  exact ⟨cs, hk.2 _ _ hb (ne_obj (bad_ne he rfl) _ _), r⟩
theorem Inp.keptE {rest : List Nat} (h : Inp B S R w s rest txt) (hk : KeptE e B w w') (he : badE.contains e = false) : Inp B S R w' s rest txt := by
  obtain ⟨rb, h1, h2⟩ := h.rd
  obtain ⟨bs, h3, h4⟩ := h.tb
  exact { h with sc := h.sc.keptE hk he, hw := Nat.le_trans h.hw hk.1.size, rd := ⟨rb, h1.keptE hk he, h2⟩, tb := ⟨bs, h3.carry (fun g cur _ hg => hk.2 _ _ hg (ne_obj (bad_ne he rfl) _ _)) rfl rfl, h4⟩ }
theorem Lx.keptE {rest : List Nat} (h : Lx B S R w s rest prev txt) (hk : KeptE e B w w') (he : badE.contains e = false) : Lx B S R w' s rest prev txt :=
  ⟨h.inp.keptE hk he, h.len, h.le, h.sg, h.tk⟩
theorem Idle.keptE (h : Idle B S R w s l) (hk : KeptE e B w w') (he : badE.contains e = false) : Idle B S R w' s l := by
  rcases h with ⟨h1, h2⟩ | ⟨h1, tx, h2⟩
  · exact .inl ⟨h1, h2.keptE hk he⟩
  · exact .inr ⟨h1, tx, h2.keptE hk he⟩
theorem Tz.keptE (h : Tz B S R T w s line tok) (hk : KeptE e B w w') (he : badE.contains e = false) : Tz B S R T w' s line tok := by
  obtain ⟨b, hb⟩ := h.blk
  exact ⟨h.hB, h.neS, h.neR, ⟨b, hk.2 _ _ hb (ne_obj (bad_ne he rfl) _ _)⟩, h.ps, h.glob.below hk.1⟩

/-- The types of the three blocks. -/
structure Types (S R T : Nat) (w : World) : Prop where
  s : ∃ c fz, w.heap[S]? = some (.cells c 71 fz)
  r : ∃ c f fz, w.heap[R]? = some (.cells c f fz) ∧ badE.contains f = true
  t : ∃ c fz, w.heap[T]? = some (.cells c 77 fz)
theorem RdAt.ty {rv : Value} {bs : List UInt8} (h : RdAt w R rv bs) : ∃ c f fz, w.heap[R]? = some (.cells c f fz) ∧ badE.contains f = true := by
  cases h with
  | str t i pr hb hi ht => exact ⟨_, _, _, hb, rfl⟩
theorem Inp.types {rest : List Nat} (h : Inp B S R w s rest txt) (hz : Tz B S R T w s line tok) : Types S R T w := by
  obtain ⟨cs, hb, _⟩ := h.sc
  obtain ⟨rb, h1, _⟩ := h.rd
  exact ⟨⟨cs, _, hb⟩, h1.ty, hz.isT⟩
theorem Idle.types (h : Idle B S R w s l) (hz : Tz B S R T w s line tok) : Types S R T w := by
  rcases h with ⟨_, h2⟩ | ⟨_, tx, h2⟩
  · exact h2.types hz
  · exact h2.inp.types hz
/-- A row of another type over the tokenizer's steps. -/
theorem own_frT (h : w.ownsRow B e size v n xs) (hF : FrT B S R T w w') (ht : Types S R T w) (he : badE.contains e = false) : w'.ownsRow B e size v n xs := by
  refine ⟨h.1, ?_⟩
  rcases h.2 with hn | ⟨g, cap, cur, rfl, hb, hg, rest⟩
  · exact .inl hn
  · refine .inr ⟨g, cap, cur, rfl, hb, hF.2 g _ hg ?_ ?_ ?_ (ne_obj (fun h => by subst h; revert he; decide) _ _), rest⟩
    · rintro rfl
      obtain ⟨c, fz, hs⟩ := ht.s
      rw [hg] at hs
      simp at hs
      obtain ⟨_, rfl, _⟩ := hs
      revert he; decide
    · rintro rfl
      obtain ⟨c, f, fz, hs, hf⟩ := ht.r
      rw [hg] at hs
      simp at hs
      obtain ⟨_, rfl, _⟩ := hs
      rw [he] at hf
      cases hf
    · rintro rfl
      obtain ⟨c, fz, hs⟩ := ht.t
      rw [hg] at hs
      simp at hs
      obtain ⟨_, rfl, _⟩ := hs
      revert he; decide
theorem own_below' (h : w.ownsRow B e size v n xs) (hb : Below w.heap.size w w') : w'.ownsRow B e size v n xs := by
  refine ⟨h.1, ?_⟩
  rcases h.2 with hn | ⟨g, cap, cur, rfl, hB, hg, rest⟩
  · exact .inl hn
  · exact .inr ⟨g, cap, cur, rfl, hB, (hb.block g (Lib.lt_of_heap hg)).trans hg, rest⟩
end
end Go.Proofs.YtmeihdlkadjoeaaGreatDoor

namespace Go.Proofs.YtmeihdlkadjoeaaGreatDoor
open Go.RowKit Go.Proofs.YtmeihdlkadjoeaaGreatDoorW.PrintWords
set_option linter.unusedVariables false
set_option linter.unusedSimpArgs false

theorem newReader (w : World) (t : ByteArray) : Calls Tryz.prog 31 #[.string t] w fun e w' => e = .returned (.pointer (some ⟨w.heap.size, 0, none⟩)) ∧ w' = w.alloc (.cells #[.string t, .int .i64 0, .int .i64 (-1)] 79) := by
  go_enter Tryz.func31, Tryz.ntmps31
  go_wp2_with fail
  go_ret
  exact ⟨rfl, rfl⟩

theorem info_ltok : (Tryz.prog.info? 44).map (fun i => (i.zero, i.size, i.bytes)) = some (some (.agg #[.int .i32 0, .string ⟨#[]⟩]), 2, 24) := by kernel_rfl

/-- A token's two cells. -/
def cellsT (x : Int × List Nat × Nat) : List Value := [.int .i32 x.1, .string (str (enc (toldR x.2.1)))]

theorem make_ok (k : Int) (t : List Nat) (hok : ∀ x ∈ t, okR x) (hl : (enc t).length ≤ 1000000) (w : World) :
    Calls Tryz.prog 33 #[.int .i32 k, .string (str (enc t))] w fun e w' => e = .returned (.agg #[.int .i32 k, .string (str (enc (toldR t)))]) ∧ Below w.heap.size w w' := by
  obtain ⟨n, hn⟩ := (make_ev k t hok hl).rounds
  exact PFnTokensBlock.asmlex_Make.calls n k (str (enc t)) k (str (enc (toldR t))) w hn

theorem Step.text {l : List Nat} {k : Int} {t : List Nat} {n : Nat} {r : List Nat} (h : Step l k t n r) : (∀ x ∈ t, x ∈ l) ∧ (enc t).length ≤ (enc l).length ∧ t.length + r.length ≤ l.length := by
  induction h with
  | @skip l c rest k t n rest' h hg hs ih =>
    obtain ⟨h1, h2⟩ := tokn_suffix h
    exact ⟨fun x hx => h1.mem (ih.1 x hx), Nat.le_trans ih.2.1 (suffix_enc h1), by omega⟩
  | @one l k c rest h hk hp =>
    have e := tokn_app h
    have s := drop_suffix wsR l
    rw [← e] at s
    refine ⟨fun x hx => s.mem (by simp [hx]), ?_, (tokn_suffix h).2⟩
    have := suffix_enc s
    rw [enc_append, List.length_append] at this
    omega
  | @two l c d rest k h hp =>
    have e := tokn_app h
    have s := drop_suffix wsR l
    rw [← e] at s
    refine ⟨fun x hx => s.mem (by simp at hx; rcases hx with rfl | rfl <;> simp), ?_, ?_⟩
    · have := suffix_enc s
      rw [show [c] ++ d :: rest = [c, d] ++ rest from rfl, enc_append, List.length_append] at this
      omega
    · have := s.length_le
      simp at this ⊢
      omega

theorem Step.len {l : List Nat} {k : Int} {t : List Nat} {n : Nat} {r : List Nat} (h : Step l k t n r) (hk : k ≠ -1) : 1 ≤ t.length := by
  induction h with
  | skip h hg hs ih => exact ih hk
  | @one l k c rest h hk8 hp =>
    generalize l.dropWhile wsR = q at h
    cases h with
    | eof => exact absurd rfl hk
    | _ => simp
  | two h hp => simp
def OutT (B : Nat) (w : World) (n : Nat) (cs : List Value) (e : Ending) (w' : World) : Prop := ∃ v, e = .returned v ∧ w'.ownsRow B 44 2 v n cs ∧ Below w.heap.size w w'

set_option maxHeartbeats 1000000 in
set_option maxRecDepth 10000 in
theorem lex_tokenize {w : World} {l : List Nat} {ts : List (Int × List Nat × Nat)} (hT : Toks l ts) (hok : ∀ c ∈ l, okR c) (hl : (enc l).length ≤ 1000000) (hG : GlobI w.heap.size w) :
    Calls Tryz.prog 20 #[.string (str (enc l))] w (OutT w.heap.size w ts.length (ts.flatMap cellsT)) := by
  have hlen := len_enc l
  have HT := Lib.hid hT
  have HO := Lib.hid hok
  have HG := Lib.hid hG
  clear hT hok hG
  go_enter Tryz.func20, Tryz.ntmps20
  go_wp2_with (go_at_call 31; refine (newReader _ _).mono ?_)
  rintro e w1 ⟨rfl, rfl⟩
  have hR : RdAt (w.alloc (.cells #[.string (str (enc l)), .int .i64 0, .int .i64 (-1)] 79)) w.heap.size (.iface 51 (.pointer (some ⟨w.heap.size, 0, none⟩))) (enc l) :=
    .str (str (enc l)) 0 (-1) (heap_new _ _) (Nat.zero_le _) hl
  have hNT := Lib.hid fun nm => newTokenizer (B := w.heap.size) nm hR (Nat.le_refl _) (HG.out.below ((Below.refl _ _).alloc (Nat.le_refl _) _)) HO.out hl (by simp)
  clear hR
  go_wp2_with (go_at_call 30; refine (hNT.out _).mono ?_)
  rintro e w2 ⟨S, T, s, rfl, hz, hi, hb⟩
  have hB2 : w.heap.size ≤ w2.heap.size := Nat.le_trans (by simp) hb.size
  have hbw : Below w.heap.size w w2 := ((Below.refl _ _).alloc (Nat.le_refl _) _).trans (hb.mono (by simp))
  have HZ := Lib.hid hz
  have HI := Lib.hid hi
  have HB := Lib.hid hbw
  clear hz hi hb hbw hNT
  obtain ⟨i0, hi0, hz0, hz1, hz2⟩ := info_parts info_ltok
  go_wp2_with fail
  go_loopg [4] (l.length + 1) (fun gk v wr => ∃ (l' : List Nat) (ts0 ts' : List (Int × List Nat × Nat)) (s' : Sc) (line tok : Int), Tz w.heap.size S w.heap.size T wr s' line tok ∧ Idle w.heap.size S w.heap.size wr s' l' ∧ Toks l' ts' ∧ Hid (ts = ts0 ++ ts') ∧
    wr.ownsRow w.heap.size 44 2 v ts0.length (ts0.flatMap cellsT) ∧ Below w.heap.size w wr ∧ w.heap.size ≤ wr.heap.size ∧ 0 ≤ line ∧ line + l'.length ≤ 4000000 ∧ ts0.length + l'.length ≤ l.length ∧ l' <:+ l ∧ l'.length < gk)
  case atStart => exact ⟨l, [], ts, s, 1, 0, HZ.out, HI.out, HT.out, Lib.hid rfl, World.ownsRow_nil _ _ _ _, HB.out, hB2, by omega, by omega, by simp, List.suffix_refl _, Nat.lt_succ_self _⟩
  case round =>
    clear HZ HI HB HT HG
    obtain ⟨l', ts0, ts', s', line, tok, hz, hi, ht, hts, hown, hbw, hBr, hp0, hpl, hcnt, hsuf, hk⟩ := hrel
    have hok' := suffix_ok hsuf HO.out
    have hl' := Nat.le_trans (suffix_enc hsuf) hl
    cases ht with
    | @nil _ n h =>
      have HN := Lib.hid (tz_next h hz hi hok' hl' hp0 hpl)
      have HTY := Lib.hid (hi.types hz)
      have HOW := Lib.hid hown
      have HBW := Lib.hid hbw
      clear hz hi hok' hl' hown hbw h
      go_wp2_with (go_at_call 32; refine HN.out.mono ?_)
      first | rintro e w3 rfl s3 z3 sd3 f3 | rintro e w3 ⟨rfl, s3, z3, sd3, f3⟩
      have F3 := Lib.hid f3
      clear z3 sd3 f3
      go_wp2_with fail
      go_ret
      have e1 := hts.out
      rw [List.append_nil] at e1
      subst e1
      exact ⟨_, rfl, own_frT HOW.out F3.out HTY.out rfl, HBW.out.trans F3.out.1⟩
    | @cons _ k t n rest ts1 h hk1 hs =>
      have hsx := h.suffix
      have htx := h.text
      have htk : ∀ x ∈ t, okR x := fun x hx => hok' x (htx.1 x hx)
      have htl : (enc t).length ≤ 1000000 := Nat.le_trans htx.2.1 hl'
      have HN := Lib.hid (tz_next h hz hi hok' hl' hp0 hpl)
      have HTY := Lib.hid (hi.types hz)
      have HOW := Lib.hid hown
      have HBW := Lib.hid hbw
      have HMK := Lib.hid fun W => make_ok k t htk htl W
      have g1 : (k == -1) = false := by simpa using hk1
      have HTL := Lib.hid (h.len hk1)
      have HS := Lib.hid hs
      have HSX := Lib.hid hsx
      have HTX := Lib.hid htx
      have HSU := Lib.hid hsuf
      clear hz hi hok' hl' hown hbw h hk1 hs hsx htx htk htl hsuf
      go_wp2_with (go_at_call 32; refine HN.out.mono ?_)
      first | rintro e w3 rfl s3 z3 sd3 f3 | rintro e w3 ⟨rfl, s3, z3, sd3, f3⟩
      have HTXT := Lib.hid (tz_text z3 sd3)
      have T3 := Lib.hid (sd3.idle.types z3)
      have F3 := Lib.hid f3
      clear z3 sd3 f3 HN
      go_wp2_with (go_at_call 34; refine HTXT.out.mono ?_)
      first | rintro e w4 rfl s4 z4 sd4 f4 | rintro e w4 ⟨rfl, s4, z4, sd4, f4⟩
      have Z4 := Lib.hid z4
      have I4 := Lib.hid sd4.idle
      have F4 := Lib.hid f4
      clear z4 sd4 f4 HTXT
      go_wp2_with (go_at_call 33; refine (HMK.out _).mono ?_)
      rintro e w5 ⟨rfl, hb5⟩
      have hB3 : w.heap.size ≤ w3.heap.size := Nat.le_trans hBr F3.out.1.size
      have hB4 : w.heap.size ≤ w4.heap.size := Nat.le_trans hB3 F4.out.1.size
      have hB5 : w.heap.size ≤ w5.heap.size := Nat.le_trans hB4 hb5.size
      have O5 := Lib.hid (own_below' (own_frT (own_frT HOW.out F3.out HTY.out rfl) F4.out T3.out rfl) hb5)
      have HB5 := Lib.hid hb5
      have hbd : ts0.length + 1 ≤ 2000000 := by omega
      clear hb5
      go_wp2_with (at_builtin; refine wpList_append_own_wide _ rfl (.tmp 14) (.tmp 19) 40 rfl w.heap.size 44 i0 (.agg #[.int .i32 0, .string ⟨#[]⟩]) 2 24 Tryz.underlying40 hi0 hz0 hz1 hz2 rfl (by decide) _ _ _ rfl (O5.out.alloc _) ⟨w5.heap.size, 0, none⟩ 1 1 (cellsT (k, t, n)) rfl rfl (cell_two_new _ _ _ _) (by intro u hu; simp [cellsT] at hu; rcases hu with rfl | rfl <;> rfl) (by unfold maxLen; omega) (by omega) (by simp; omega) ?_; intro v6 w6 hown6 hgrow6 hnil6)
      have OW6 := Lib.hid hown6
      have GR6 := Lib.hid hgrow6
      clear hown6 hgrow6 hnil6
      go_roundg (rest.length + 1)
      case measure =>
        have h1 := HSX.out.1.length_le
        have h2 := HTX.out.2.2
        have h3 : 1 ≤ t.length := HTL.out
        omega
      case rel =>
        have kE : KeptE 44 w.heap.size w4 w6 := (KeptE.below HB5.out hB4).trans ((KeptE.below ((Below.refl _ _).alloc (Nat.le_refl _) _) hB5).trans (KeptE.grown (O5.out.alloc _) GR6.out (by simp; omega)))
        have h1 := HSX.out.2
        have h2 := HTX.out.2.2
        have h3 : 1 ≤ t.length := HTL.out
        have hB6 : w.heap.size ≤ w6.heap.size := Nat.le_trans hB4 kE.1.size
        refine ⟨rest, ts0 ++ [(k, t, n)], ts1, s4, line + n, k, Z4.out.keptE kE rfl, I4.out.keptE kE rfl, HS.out, Lib.hid (by rw [hts.out]; simp), ?_, (HBW.out.trans F3.out.1).trans (F4.out.1.trans kE.1), hB6, by omega, by omega, by simp; omega, HSX.out.1.trans HSU.out, Nat.lt_succ_self _⟩
        have := OW6.out
        simpa using this
end Go.Proofs.YtmeihdlkadjoeaaGreatDoor

namespace Go.Proofs.YtmeihdlkadjoeaaGreatDoor
open Go.RowKit Go.Proofs.YtmeihdlkadjoeaaGreatDoorW.PrintWords
set_option linter.unusedVariables false
set_option linter.unusedSimpArgs false

theorem GlobI.lift {B : Nat} {w : World} (h : GlobI B w) (hB : B ≤ w.heap.size) : GlobI w.heap.size w :=
  ⟨⟨Nat.le_trans h.glob.low hB, h.glob.u8, h.glob.eof⟩, w, rfl, Below.refl _ _, h.props, h.letter⟩
theorem own_keptE {e f : TypeId} {B B' size n : Nat} {w w' : World} {v : Value} {xs : List Value} (h : w.ownsRow B' f size v n xs) (hk : KeptE e B w w') (hf : f ≠ e) : w'.ownsRow B' f size v n xs := by
  refine ⟨h.1, ?_⟩
  rcases h.2 with hn | ⟨g, cap, cur, rfl, hB, hg, rest⟩
  · exact .inl hn
  · exact .inr ⟨g, cap, cur, rfl, hB, hk.2 _ _ hg (ne_obj hf _ _), rest⟩

theorem tokn_range {l : List Nat} {k : Int} {t r : List Nat} (h : Tokn l k t r) : -1003 ≤ k ∧ k ≤ 127 := by
  cases h with
  | mark c _ h =>
    simp only [markR, Bool.and_eq_true, decide_eq_true_eq] at h
    omega
  | _ => decide
theorem Step.range {l : List Nat} {k : Int} {t : List Nat} {n : Nat} {r : List Nat} (h : Step l k t n r) : -1003 ≤ k ∧ k ≤ 127 := by
  induction h with
  | skip h hg hs ih => exact ih
  | one h hk hp => exact tokn_range h
  | two h hp => have := pairR_kinds hp; omega
theorem Toks.range {l : List Nat} {ts : List (Int × List Nat × Nat)} (h : Toks l ts) : ∀ x ∈ ts, -1003 ≤ x.1 ∧ x.1 ≤ 127 := by
  induction h with
  | nil h => simp
  | cons h hk hs ih =>
    intro x hx
    rcases List.mem_cons.1 hx with rfl | hx
    · exact h.range
    · exact ih x hx
theorem Toks.len {l : List Nat} {ts : List (Int × List Nat × Nat)} (h : Toks l ts) : ts.length ≤ l.length := by
  induction h with
  | nil h => exact Nat.zero_le _
  | @cons l k t n rest ts h hk hs ih =>
    have h1 := h.len hk
    have h2 := h.text.2.2
    simp; omega

theorem info_itok : (Tryz.prog.info? 35).map (fun i => (i.zero, i.size, i.bytes)) = some (some (.agg #[.int .i64 0, .string ⟨#[]⟩]), 2, 24) := by kernel_rfl
/-- A token's two cells, as impl tells it. -/
def cellsI (x : Int × List Nat × Nat) : List Value := [.int .i64 x.1, .string (str (enc (toldR x.2.1)))]
def OutI (B : Nat) (w : World) (n : Nat) (cs : List Value) (e : Ending) (w' : World) : Prop := ∃ v, e = .returned v ∧ w'.ownsRow B 35 2 v n cs ∧ Below w.heap.size w w'

theorem own_slice {w : World} {B : Nat} {e : TypeId} {size n : Nat} {v : Value} {xs : List Value} (h : w.ownsRow B e size v n xs) : ∃ A c, v = .slice A n c ∧ (0 < n → ∃ g, A = some ⟨g, 0, none⟩) := by
  rcases h.2 with ⟨rfl, h0⟩ | ⟨g, cap, cur, rfl, _⟩
  · exact ⟨none, 0, by rw [h0], fun h => absurd h (by omega)⟩
  · exact ⟨_, _, rfl, fun _ => ⟨g, rfl⟩⟩
theorem flat_at {ts : List (Int × List Nat × Nat)} {j : Nat} {x : Int × List Nat × Nat} (h : ts[j]? = some x) : (ts.flatMap cellsT)[j * 2]? = some (.int .i32 x.1) ∧ (ts.flatMap cellsT)[j * 2 + 1]? = some (.string (str (enc (toldR x.2.1)))) := by
  induction ts generalizing j with
  | nil => simp at h
  | cons y ts ih =>
    cases j with
    | zero =>
      obtain rfl : y = x := by simpa using h
      exact ⟨rfl, rfl⟩
    | succ j =>
      have h2 := ih (j := j) (by simpa using h)
      have e : (y :: ts).flatMap cellsT = cellsT y ++ ts.flatMap cellsT := by simp
      have l2 : (cellsT y).length = 2 := rfl
      rw [e]
      refine ⟨?_, ?_⟩
      · rw [List.getElem?_append_right (by omega), l2, show (j + 1) * 2 - 2 = j * 2 by omega]
        exact h2.1
      · rw [List.getElem?_append_right (by omega), l2, show (j + 1) * 2 + 1 - 2 = j * 2 + 1 by omega]
        exact h2.2
theorem zzText (w : World) (k : Int) (s : ByteArray) : Calls Tryz.prog 21 #[.agg #[.int .i32 k, .string s]] w fun e w' => e = .returned (.string s) ∧ Below w.heap.size w w' :=
  PFnTokensBlock.asmlex_Token_ZZText.calls k s s w rfl

set_option maxHeartbeats 1000000 in
set_option maxRecDepth 10000 in
theorem impl_tokenize {w : World} {l : List Nat} {ts : List (Int × List Nat × Nat)} (hT : Toks l ts) (hok : ∀ c ∈ l, okR c) (hl : (enc l).length ≤ 1000000) (hG : GlobI w.heap.size w) :
    Calls Tryz.prog 12 #[.string (str (enc l))] w (OutI w.heap.size w ts.length (ts.flatMap cellsI)) := by
  have hrg := hT.range
  have hlen : ts.length ≤ 1000000 := Nat.le_trans hT.len (Nat.le_trans (len_enc l) hl)
  have HLX := Lib.hid fun (W : World) (h : Below w.heap.size w W) => lex_tokenize hT hok hl ((hG.below h).lift h.size)
  clear hT hok hG
  obtain ⟨i0, hi0, hz0, hz1, hz2⟩ := info_parts info_itok
  go_enter Tryz.func12, Tryz.ntmps12
  go_wp2_with (go_at_call 20; refine (HLX.out _ ((Below.refl _ _).alloc (Nat.le_refl _) _)).mono ?_)
  rintro e w2 ⟨v, rfl, hown, hb⟩
  obtain ⟨A, c, rfl, hcell⟩ := own_slice hown
  have hB2 : w.heap.size ≤ w2.heap.size := by
    have := hb.size
    simp at this
    omega
  have HOW := Lib.hid hown
  have HC := Lib.hid hcell
  have HBW := Lib.hid (((Below.refl _ _).alloc (Nat.le_refl w.heap.size) _).trans (hb.mono (by simp)))
  have HB := Lib.hid hb
  clear hown hcell hb
  go_wp2_with fail
  go_loopg [3, 10] (ts.length + 1) (fun gk vo i wr => ∃ j : Nat, j ≤ ts.length ∧ i = .int .i64 j ∧ wr.ownsRow w.heap.size 35 2 vo j ((ts.take j).flatMap cellsI) ∧ KeptE 35 w.heap.size w2 wr ∧ w.heap.size ≤ wr.heap.size ∧ ts.length - j < gk)
  case atStart => exact ⟨0, Nat.zero_le _, rfl, own_below' (World.ownsRow_made w #[] 0 (Nat.le_refl _) (by decide) rfl) HB.out, ⟨Below.refl _ _, fun _ _ h _ => h⟩, hB2, by omega⟩
  case round =>
    obtain ⟨j, hj, rfl, hown, hk, hBr, hm⟩ := hrel
    have HOUT := Lib.hid hown
    have HK := Lib.hid hk
    clear hown hk
    by_cases hlt : j < ts.length
    · obtain ⟨g, rfl⟩ := HC.out (by omega)
      have c1 : (j : Int) < (ts.length : Int) := by omega
      have hrow := own_keptE HOW.out HK.out (by decide)
      have hx : ts[j]? = some ts[j] := List.getElem?_eq_getElem hlt
      obtain ⟨⟨k, t, n⟩, hxe⟩ : ∃ x, ts[j] = x := ⟨_, rfl⟩
      rw [hxe] at hx
      have e1 : wr.cell? ⟨g, j * 2, none⟩ = some (.int .i32 k) := by
        have := hrow.cells (g := g) rfl (j * 2) (.int .i32 k) (flat_at hx).1
        rw [Lib.addr_add, Nat.zero_add] at this
        exact this
      have e2 : wr.cell? ⟨g, j * 2 + 1, none⟩ = some (.string (str (enc (toldR t)))) := by
        have := hrow.cells (g := g) rfl (j * 2 + 1) (.string (str (enc (toldR t)))) (flat_at hx).2
        rw [Lib.addr_add, Nat.zero_add] at this
        exact this
      have hkr := hrg (k, t, n) (List.mem_of_getElem? hx)
      have q1 : IntKind.i64.wrap k = k := IntWalk.i64_in _ (by simp at hkr; omega)
      have HX := Lib.hid hx
      clear hrow hx hxe hkr
      go_wp2_with fail
      have a0 : (wr.alloc (.cells #[.int .i32 k, .string (str (enc (toldR t)))] 44)).cell? ⟨wr.heap.size, 0, none⟩ = some (.int .i32 k) := Lib.cell_of_heap (heap_new _ _) 0
      have a1 : (wr.alloc (.cells #[.int .i32 k, .string (str (enc (toldR t)))] 44)).cell? ⟨wr.heap.size, 1, none⟩ = some (.string (str (enc (toldR t)))) := Lib.cell_of_heap (heap_new _ _) 1
      have hown0 := HOUT.out.alloc (.cells #[.int .i32 k, .string (str (enc (toldR t)))] 44)
      have hsz : (wr.alloc (.cells #[.int .i32 k, .string (str (enc (toldR t)))] 44)).heap.size = wr.heap.size + 1 := by simp
      have HSZ := Lib.hid hsz
      have HO0 := Lib.hid hown0
      clear hown0 hsz e1 e2
      generalize hW0 : wr.alloc (.cells #[.int .i32 k, .string (str (enc (toldR t)))] 44) = W0 at a0 a1 HO0 HSZ ⊢
      have HW0 := Lib.hid hW0
      clear hW0
      have HNE : Hid (some wr.heap.size ≠ u3.ownBlock) := Lib.hid (fun h => by have := (HOUT.out.lt _ h.symm).2; omega)
      have A0 := Lib.hid a0
      have A1 := Lib.hid a1
      go_region_held3 (fun w' => w'.cell? ⟨wr.heap.size, 0, none⟩ = some (.int .i32 k) ∧ w'.cell? ⟨wr.heap.size, 1, none⟩ = some (.string (str (enc (toldR t)))))
        (go_keep)
        (first
          | (go_at_call 21; refine (zzText _ _ _).mono ?_; rintro e w5 ⟨rfl, hb5⟩; have s0 := (hb5.cell (p := ⟨wr.heap.size, 0, none⟩) (by have := HSZ.out; simp; omega)).trans A0.out; have s1 := (hb5.cell (p := ⟨wr.heap.size, 1, none⟩) (by have := HSZ.out; simp; omega)).trans A1.out; have HB5 := Lib.hid hb5; have O5 := Lib.hid (own_below' (show W0.drew.ownsRow _ _ _ _ _ _ from HO0.out) hb5); have z5 : w.heap.size ≤ w5.heap.size := Nat.le_trans (by have := HSZ.out; simp; omega) hb5.size; have Z5 : Hid (wr.heap.size < w5.heap.size) := Lib.hid (Nat.lt_of_lt_of_le (by have := HSZ.out; simp; omega) hb5.size); clear hb5)
          | (refine step_append_lies _ (by rfl) _ _ _ (by rfl) w.heap.size 35 i0 _ 2 24 Tryz.underlying26 hi0 hz0 hz1 hz2 rfl (by omega) u3 j ((ts.take j).flatMap cellsI) (by rfl) (O5.out.alloc _) ⟨w5.heap.size, 0, none⟩ 1 1 (cellsI (k, t, n)) (by rfl) (by rfl) (World.news_of_block (cs := #[.int .i64 k, .string (str (enc (toldR t)))]) (t := 35) (fr := (0, 0)) (heap_alloc_new w5 _)) (by simp [cellsI, Value.oneCell']) (by omega) (by unfold maxLen; omega) (by omega) (by simp; omega) (w5.heap.size + 1) (by simp) ?_; intro gg cap w6 hown6 hgrow6 hat6 hlt6; have r0 := hgrow6.cell ((((Below.refl w5.heap.size w5).alloc (Nat.le_refl _) _).cell (p := ⟨wr.heap.size, 0, none⟩) Z5.out).trans s0) HNE.out; have r1 := hgrow6.cell ((((Below.refl w5.heap.size w5).alloc (Nat.le_refl _) _).cell (p := ⟨wr.heap.size, 1, none⟩) Z5.out).trans s1) HNE.out; have OW6 := Lib.hid hown6; have GR6 := Lib.hid hgrow6; clear hown6 hgrow6 hat6 hlt6))
      go_wp2_with fail
      go_roundg (ts.length - j)
      case measure => omega
      case rel =>
        have k1 : KeptE 35 w.heap.size wr w5 := (KeptE.below ((Below.refl wr.heap.size wr).alloc (Nat.le_refl _) (.cells #[.int .i32 k, .string (str (enc (toldR t)))] 44)) hBr).trans (HW0.out ▸ (KeptE.below (B := w.heap.size) (w := W0) ⟨HB5.out.os, HB5.out.tape, HB5.out.output, HB5.out.size, HB5.out.block⟩ (by have := HSZ.out; omega)))
        have kE := k1.trans ((KeptE.below ((Below.refl _ _).alloc (Nat.le_refl _) _) z5).trans (KeptE.grown (O5.out.alloc _) GR6.out (by simp; omega)))
        refine ⟨j + 1, hlt, rfl, ?_, HK.out.trans kE, Nat.le_trans hBr kE.1.size, by omega⟩
        have e : (ts.take (j + 1)).flatMap cellsI = (ts.take j).flatMap cellsI ++ cellsI (k, t, n) := by
          have h1 : ts[j] = (k, t, n) := by
            have := HX.out
            rw [List.getElem?_eq_getElem hlt] at this
            exact Option.some.inj this
          rw [List.take_succ_eq_append_getElem hlt, h1]
          simp
        rw [e]
        exact OW6.out
    · have c1 : ¬ (j : Int) < (ts.length : Int) := by omega
      go_wp2_with fail
      go_ret
      obtain rfl : j = ts.length := by omega
      have := HOUT.out
      rw [List.take_length] at this
      exact ⟨_, rfl, this, HBW.out.trans HK.out.1⟩
end Go.Proofs.YtmeihdlkadjoeaaGreatDoor

namespace Go.Proofs.YtmeihdlkadjoeaaGreatDoor
open Go.RowKit Go.Proofs.YtmeihdlkadjoeaaGreatDoorW.PrintWords
set_option linter.unusedVariables false
set_option linter.unusedSimpArgs false

/-- A slice of these texts. -/
def SlS (w : World) (A : Option Addr) (c : Nat) (ls : List (List UInt8)) : Prop := Kd.C Kd.string w A (strs ls).length (strs ls) ∧ ls.length ≤ c
theorem SlS.below {w w' : World} {A : Option Addr} {c : Nat} {ls : List (List UInt8)} (h : SlS w A c ls) (hb : Below w.heap.size w w') : SlS w' A c ls := ⟨Kd.C_below h.1 hb, h.2⟩
theorem SlS.cell {w : World} {A : Option Addr} {c : Nat} {ls : List (List UInt8)} (h : SlS w A c ls) {i : Nat} (hi : i < ls.length) : ∃ ad, A = some ad ∧ w.cell? (ad.add i) = some (.string (str ls[i])) := by
  obtain ⟨ad, e, hc⟩ := Kd.at_string h.1 (i : Int) (by omega) (by rw [strs_length]; omega)
  rw [rdOf_strs ls i hi, Int.toNat_natCast] at hc
  exact ⟨ad, e, hc⟩

theorem fits_call (ls : List (List UInt8)) : ∃ b, (∀ (A : Option Addr) (c : Nat) (w : World), SlS w A c ls → Calls Tryz.prog 8 #[.slice A ls.length c] w fun e w' => e = .returned (.bool b) ∧ Below w.heap.size w w') ∧
    (b = true → ls.length ≤ 2147483647 ∧ ∀ x ∈ ls, x.length ≤ 2147483647) := by
  obtain ⟨b, hb, hp⟩ := fits_ev ls
  obtain ⟨k, hk⟩ := hb.rounds
  refine ⟨b, fun A c w h => ?_, hp⟩
  have := PFnTokensBlock.laws_zzFits5.calls k A c (strs ls) b w h.1 (by rw [strs_length]; exact h.2) hk
  rw [strs_length] at this
  exact this.mono fun e w' ⟨he, hd⟩ => ⟨he, hd.below⟩
theorem words_call (ls : List (List UInt8)) (hl : ls.length ≤ 2147483647) (hx : ∀ x ∈ ls, x.length ≤ 2147483647) : ∃ b, (∀ (A : Option Addr) (c : Nat) (w : World), SlS w A c ls → Calls Tryz.prog 9 #[.slice A ls.length c] w fun e w' => e = .returned (.bool b) ∧ Below w.heap.size w w') ∧
    (b = true → ls.length ≤ 60 ∧ ∃ ws, ls = encs' ws ∧ ∀ w ∈ ws, WordT w) := by
  obtain ⟨b, hb, hp⟩ := wordsOk_ev ls hl hx
  obtain ⟨k, hk⟩ := hb.rounds
  refine ⟨b, fun A c w h => ?_, hp⟩
  have := PFnTokensBlock.laws_wordsOk.calls k A c (strs ls) b w h.1 (by rw [strs_length]; exact h.2) hk
  rw [strs_length] at this
  exact this.mono fun e w' ⟨he, hd⟩ => ⟨he, hd.below⟩
theorem gaps_call (ls : List (List UInt8)) (hl : ls.length ≤ 2147483647) (hx : ∀ x ∈ ls, x.length ≤ 2147483647) (n : Nat) : ∃ b, (∀ (A : Option Addr) (c : Nat) (w : World), SlS w A c ls → Calls Tryz.prog 10 #[.slice A ls.length c, .int .i64 n] w fun e w' => e = .returned (.bool b) ∧ Below w.heap.size w w') ∧
    (b = true → ls.length = n ∧ ∃ gs : List (List Nat), ls = gs.map enc ∧ ∀ g ∈ gs, GapT g) := by
  obtain ⟨b, hb, hp⟩ := gapsOk_ev ls hl hx n
  obtain ⟨k, hk⟩ := hb.rounds
  refine ⟨b, fun A c w h => ?_, hp⟩
  have := PFnTokensBlock.laws_gapsOk.calls k A c (strs ls) (n : Int) b w h.1 (by rw [strs_length]; exact h.2) hk
  rw [strs_length] at this
  exact this.mono fun e w' ⟨he, hd⟩ => ⟨he, hd.below⟩
theorem joined_call (ls gs : List (List UInt8)) (hl : ls.length ≤ 1000) (hx : ∀ x ∈ ls, x.length ≤ 1000) (hy : ∀ x ∈ gs, x.length ≤ 1000) (A : Option Addr) (c : Nat) (B : Option Addr) (d : Nat) (w : World) (h : SlS w A c ls) (h2 : SlS w B d gs) :
    Calls Tryz.prog 13 #[.slice A ls.length c, .slice B gs.length d] w fun e w' => e = .returned (.string (str (joinB ls gs))) ∧ Below w.heap.size w w' := by
  obtain ⟨k, hk⟩ := (joined_ev ls gs hl hx hy).rounds
  have := PFnTokensBlock.spec_Joined.calls k A c (strs ls) B d (strs gs) (str (joinB ls gs)) w h.1 (by rw [strs_length]; exact h.2) h2.1 (by rw [strs_length]; exact h2.2) hk
  rw [strs_length, strs_length] at this
  exact this.mono fun e w' ⟨he, hd⟩ => ⟨he, hd.below⟩
theorem tokenOf_ok (x : List Nat × Int) (h : WordT x) (w : World) : Calls Tryz.prog 17 #[.string (str (enc x.1))] w fun e w' =>
    e = .returned (.agg #[.int .i64 x.2, .string (str (enc (toldR x.1)))]) ∧ Below w.heap.size w w' := by
  have ht := told_ev x.1 h.ok (by have := h.len; omega)
  have hk : Ev (fun k => PFnTokensBlock.spec_TokenOf.f k (str (enc x.1))) (x.2, str (enc (toldR x.1))) := by
    refine Ev.congr (f := fun k => (PFnTokensBlock.spec_KindOf.f k (str (enc x.1))).bind fun t167 => ((PFnTokensBlock.spec_Told.f k (str (enc x.1))).bind fun t168 => (some (t167, t168)))) (fun k => rfl) ?_
    exact Ev.bind h.kind (Ev.bind ht (Ev.now _))
  obtain ⟨k, hk⟩ := hk.rounds
  exact PFnTokensBlock.spec_TokenOf.calls k (str (enc x.1)) x.2 (str (enc (toldR x.1))) w hk

/-- The characters of words with gaps. -/
def chars (ws : List (List Nat × Int)) (gs : List (List Nat)) : List Nat := joinR (ws.map (·.1)) gs
theorem joinB_chars (ws : List (List Nat × Int)) (gs : List (List Nat)) : joinB (encs' ws) (gs.map enc) = enc (chars ws gs) := by
  unfold encs' chars
  rw [← joinB_enc, List.map_map]
  rfl
theorem chars_mem {ws : List (List Nat × Int)} : ∀ {gs : List (List Nat)} {x : Nat}, x ∈ chars ws gs → (∃ w ∈ ws, x ∈ w.1) ∨ ∃ g ∈ gs, x ∈ g := by
  induction ws with
  | nil => intro gs x h; simp [chars, joinR] at h
  | cons w ws ih =>
    intro gs x h
    cases gs with
    | nil =>
      have h' : x ∈ w.1 ++ chars ws [] := h
      rcases List.mem_append.1 h' with h1 | h1
      · exact .inl ⟨w, by simp, h1⟩
      · rcases ih h1 with ⟨y, hy, hxy⟩ | ⟨g, hg, _⟩
        · exact .inl ⟨y, by simp [hy], hxy⟩
        · simp at hg
    | cons g gs =>
      have h' : x ∈ w.1 ++ (g ++ chars ws gs) := h
      rcases List.mem_append.1 h' with h1 | h1
      · exact .inl ⟨w, by simp, h1⟩
      · rcases List.mem_append.1 h1 with h1 | h1
        · exact .inr ⟨g, by simp, h1⟩
        · rcases ih h1 with ⟨y, hy, hxy⟩ | ⟨y, hy, hxy⟩
          · exact .inl ⟨y, by simp [hy], hxy⟩
          · exact .inr ⟨y, by simp [hy], hxy⟩
theorem chars_ok {ws : List (List Nat × Int)} {gs : List (List Nat)} (hw : ∀ w ∈ ws, WordT w) (hg : ∀ g ∈ gs, GapT g) : ∀ x ∈ chars ws gs, okR x := by
  intro x hx
  rcases chars_mem hx with ⟨w, h1, h2⟩ | ⟨g, h1, h2⟩
  · exact (hw w h1).ok x h2
  · exact .inl ((hg g h1).asc x h2)
theorem chars_len {ws : List (List Nat × Int)} : ∀ {gs : List (List Nat)}, (∀ w ∈ ws, WordT w) → (∀ g ∈ gs, GapT g) → (enc (chars ws gs)).length ≤ 120 * ws.length := by
  induction ws with
  | nil => intro gs _ _; simp [chars, joinR, enc_nil]
  | cons w ws ih =>
    intro gs hw hg
    have h1 := (hw w (by simp)).len
    cases gs with
    | nil =>
      have e : chars (w :: ws) [] = w.1 ++ chars ws [] := rfl
      have := ih (gs := []) (fun x hx => hw x (by simp [hx])) (by simp)
      rw [e, enc_append, List.length_append, List.length_cons]
      omega
    | cons g gs =>
      have e : chars (w :: ws) (g :: gs) = w.1 ++ (g ++ chars ws gs) := rfl
      have h2 := (hg g (by simp)).len
      have := ih (gs := gs) (fun x hx => hw x (by simp [hx])) (fun x hx => hg x (by simp [hx]))
      rw [e, enc_append, enc_append, List.length_append, List.length_append, List.length_cons]
      omega
/-- The tokens of words with gaps. -/
theorem chars_toks {ws : List (List Nat × Int)} {gs : List (List Nat)} (hw : ∀ w ∈ ws, WordT w) (hg : ∀ g ∈ gs, GapT g) (hl : gs.length = ws.length) : Toks (chars ws gs) (ws.map tokW) := by
  have := toks_join ws gs hl (fun w h => (hw w h).word) (fun g h => (hg g h).gapW) [] [] Toks.end
  simpa [chars] using this
theorem encs_len (ws : List (List Nat × Int)) : (encs' ws).length = ws.length := by simp [encs']
end Go.Proofs.YtmeihdlkadjoeaaGreatDoor
