/- THE STATEMENTS' OWN WORDS (1): names, numbers, strings, marks; the kind of a text, told on lists of bytes. THE STATEMENTS' OWN WORDS (2): marks, numbers, strings; the kind of a text; lists of words. THE STATEMENTS' OWN WORDS (3): what is told of a text: Make, Told; texts joined. THE STATEMENTS' OWN WORDS (4): lists of words; gaps; texts joined. -/
import Derived.Test.YtmeihdlkadjoeaaGreatDoorMD
import Derived.Test.YtmeihdlkadjoeaaGreatDoorPFnTokensBlockx4
import Derived.Test.YtmeihdlkadjoeaaGreatDoorPFnTokensBlockx2
import Derived.Test.YtmeihdlkadjoeaaGreatDoorPFnTokensBlockx8
import Derived.Test.YtmeihdlkadjoeaaGreatDoorPFnTokensBlockx5
namespace Go.Proofs.YtmeihdlkadjoeaaGreatDoor
open Go.RowKit Go.Proofs.YtmeihdlkadjoeaaGreatDoorW.PrintWords
set_option linter.unusedVariables false
set_option linter.unusedSimpArgs false

/-- A text of these bytes. -/
def str (l : List UInt8) : ByteArray := ⟨l.toArray⟩
theorem str_all (s : ByteArray) : ∃ l, s = str l := ⟨s.data.toList, by cases s; simp [str]⟩
theorem str_size (l : List UInt8) : (str l).size = l.length := rfl
theorem str_toList (l : List UInt8) : (str l).toList = l := ByteArray.toList_mk l
theorem str_extract (l : List UInt8) (a b : Nat) : (str l).extract a b = str ((l.drop a).take (b - a)) := ByteArray.extract_mk l a b
theorem str_append (a b : List UInt8) : str a ++ str b = str (a ++ b) := ByteArray.mk_append_mk a b
theorem str_inj {a b : List UInt8} (h : str a = str b) : a = b := by rw [← str_toList a, h, str_toList]
theorem bt_str (l : List UInt8) (i : Nat) (h : i < l.length) : bt (str l) (i : Int) = ((l[i]).toNat : Int) := by
  unfold bt
  rw [dif_pos (show (i : Int).toNat < (str l).size from h)]
  rfl
theorem bt_str0 (c : UInt8) (l : List UInt8) : bt (str (c :: l)) 0 = (c.toNat : Int) := bt_str (c :: l) 0 (by simp)
theorem w64 {x : Int} (h0 : 0 ≤ x) (h1 : x ≤ 9000000000000000000) : wrap64 x = x := by unfold wrap64; omega
theorem toNat_inj {a b : UInt8} (h : a.toNat = b.toNat) : a = b := UInt8.toNat_inj.1 h
theorem ofNat_toNat (c : UInt8) : UInt8.ofNat c.toNat = c := by simp

/-- Letters of ASCII. -/
def letA (c : Nat) : Bool := decide (97 ≤ c ∧ c ≤ 122) || decide (65 ≤ c ∧ c ≤ 90) || decide (c = 95)
theorem let_of_letA {c : Nat} (h : letA c = true) : letR c = true := by
  simp only [letA, Bool.or_eq_true, decide_eq_true_eq] at h
  simp only [letR, Bool.or_eq_true, decide_eq_true_eq]
  omega
theorem letA_lt {c : Nat} (h : letA c = true) : c < 128 := by
  simp only [letA, Bool.or_eq_true, decide_eq_true_eq] at h
  omega
theorem digR_lt {c : Nat} (h : digR c = true) : c < 128 := by
  simp only [digR, decide_eq_true_eq] at h
  omega

theorem isLetter_f (c : Nat) : PFnTokensBlock.spec_IsLetter.f (c : Int) = some (letA c) := by
  unfold PFnTokensBlock.spec_IsLetter.f letA
  simp only [ge_iff_le]
  repeat' split
  all_goals (congr 1; rw [Bool.eq_iff_iff]; simp; omega)
theorem isDigit_f (c : Nat) : PFnTokensBlock.spec_IsDigit.f (c : Int) = some (digR c) := by
  unfold PFnTokensBlock.spec_IsDigit.f digR
  by_cases h1 : 48 ≤ c
  · rw [if_pos (by omega)]
    congr 1
    by_cases h2 : c ≤ 57
    · rw [decide_eq_true (by omega), decide_eq_true (by omega)]
    · rw [decide_eq_false (by omega), decide_eq_false (by omega)]
  · rw [if_neg (by omega), decide_eq_false (by omega)]
theorem isHex_f (c : Nat) : PFnTokensBlock.spec_isHex.f (c : Int) = some (hexR c) := by
  unfold PFnTokensBlock.spec_isHex.f
  rw [isDigit_f]
  simp only [Option.bind_some]
  by_cases hd : digR c = true
  · rw [if_pos hd]
    simp only [digR, decide_eq_true_eq] at hd
    simp only [hexR]
    rw [decide_eq_true hd]; rfl
  · rw [if_neg hd]
    have hd2 : ¬ (48 ≤ c ∧ c ≤ 57) := by simpa [digR] using hd
    unfold hexR
    rw [decide_eq_false hd2]
    simp only [ge_iff_le]
    repeat' split
    all_goals (congr 1; rw [Bool.eq_iff_iff]; simp; omega)

/-- What 'skipped' tells. -/
theorem skipped_ev (c0 : UInt8) (t : List UInt8) (first : Bool) (hl : t.length ≤ 4000000000) : ∃ n : Nat, Ev (fun k => PFnTokensBlock.spec_skipped.f k (str (c0 :: t)) first) (n : Int) ∧
    (n ≠ 0 → ∃ (c : Nat) (u : List UInt8), idR c = true ∧ (first = true → letR c = true) ∧ okR c ∧ c0 :: t = encR c ++ u ∧ n = (encR c).length) := by
  have hsz : (((str (c0 :: t)).size : Nat) : Int) = (t.length : Int) + 1 := by rw [str_size]; simp
  have hne : ¬ (str (c0 :: t)).toList = ([] : List UInt8) := by rw [str_toList]; simp
  have hpos : (0 : Int) < ((str (c0 :: t)).size : Int) := by omega
  have hb := bt_str0 c0 t
  -- the one arm: a character of ASCII
  have one : ∀ k, PFnTokensBlock.spec_skipped.j0 (k + 1) (str (c0 :: t)) true = some 1 := fun k => by simp only [PFnTokensBlock.spec_skipped.j0]; rw [if_pos trivial]
  have asc : ∀ (h : c0.toNat < 128), c0 :: t = encR c0.toNat ++ t ∧ 1 = (encR c0.toNat).length := fun h => by rw [encR_asc h, ofNat_toNat]; exact ⟨rfl, rfl⟩
  -- the two characters beyond ASCII, or none
  have more : ∃ n : Nat, Ev (fun k => PFnTokensBlock.spec_skipped.j0 k (str (c0 :: t)) false) (n : Int) ∧ (n ≠ 0 → ∃ (c : Nat) (u : List UInt8), idR c = true ∧ (first = true → letR c = true) ∧ okR c ∧ c0 :: t = encR c ++ u ∧ n = (encR c).length) := by
    have three : ∃ n : Nat, Ev (fun k => PFnTokensBlock.spec_skipped.j1 k (str (c0 :: t)) false) (n : Int) ∧ (n ≠ 0 → ∃ (c : Nat) (u : List UInt8), idR c = true ∧ (first = true → letR c = true) ∧ okR c ∧ c0 :: t = encR c ++ u ∧ n = (encR c).length) := by
      by_cases h3 : ((str (c0 :: t)).size : Int) ≥ 3
      · by_cases he : ((str (c0 :: t)).extract 0 3).toList = ([226, 136, 149] : List UInt8)
        · refine ⟨3, Ev.step (f := fun _ => some 3) (fun k => ?_) (Ev.now _), fun _ => ⟨8725, t.drop 2, by decide, fun _ => by decide, .inr (.inr rfl), ?_, rfl⟩⟩
          · simp only [PFnTokensBlock.spec_skipped.j1]
            rw [if_neg (by decide), if_pos h3, if_pos (by decide), if_pos h3, if_pos he]
          · rw [str_extract, str_toList] at he
            have h4 : (c0 :: t).take 3 = [226, 136, 149] := he
            rw [encR_slash, ← h4]
            exact (List.take_append_drop 3 (c0 :: t)).symm
        · refine ⟨0, Ev.step (f := fun _ => some 0) (fun k => ?_) (Ev.now _), fun h => absurd rfl h⟩
          simp only [PFnTokensBlock.spec_skipped.j1]
          rw [if_neg (by decide), if_pos h3, if_pos (by decide), if_pos h3, if_neg he]
      · refine ⟨0, Ev.step (f := fun _ => some 0) (fun k => ?_) (Ev.now _), fun h => absurd rfl h⟩
        simp only [PFnTokensBlock.spec_skipped.j1]
        rw [if_neg (by decide), if_neg h3]
    by_cases h2 : ((str (c0 :: t)).size : Int) ≥ 2
    · by_cases he : ((str (c0 :: t)).extract 0 2).toList = ([194, 183] : List UInt8)
      · refine ⟨2, Ev.step (f := fun k => PFnTokensBlock.spec_skipped.j1 k (str (c0 :: t)) true) (fun k => ?_) (Ev.step (f := fun _ => some 2) (fun k => ?_) (Ev.now _)), fun _ => ⟨183, t.drop 1, by decide, fun _ => by decide, .inr (.inl rfl), ?_, rfl⟩⟩
        · simp only [PFnTokensBlock.spec_skipped.j0]
          rw [if_neg (by decide), if_pos h2, if_pos (by decide), if_pos h2, he]
          rfl
        · simp only [PFnTokensBlock.spec_skipped.j1]
          rw [if_pos trivial]
        · rw [str_extract, str_toList] at he
          have h4 : (c0 :: t).take 2 = [194, 183] := he
          rw [encR_dot, ← h4]
          exact (List.take_append_drop 2 (c0 :: t)).symm
      · obtain ⟨n, hn, hp⟩ := three
        refine ⟨n, Ev.step (f := fun k => PFnTokensBlock.spec_skipped.j1 k (str (c0 :: t)) false) (fun k => ?_) hn, hp⟩
        simp only [PFnTokensBlock.spec_skipped.j0]
        have hf : (((str (c0 :: t)).extract 0 2).toList == ([194, 183] : List UInt8)) = false := by simpa using he
        rw [if_neg (by decide), if_pos h2, if_pos (by decide), if_pos h2, hf]
    · obtain ⟨n, hn, hp⟩ := three
      refine ⟨n, Ev.step (f := fun k => PFnTokensBlock.spec_skipped.j1 k (str (c0 :: t)) false) (fun k => ?_) hn, hp⟩
      simp only [PFnTokensBlock.spec_skipped.j0]
      rw [if_neg (by decide), if_neg h2]
  by_cases hL : letA c0.toNat = true
  · refine ⟨1, Ev.congr (f := fun k => PFnTokensBlock.spec_skipped.j0 k (str (c0 :: t)) true) (fun k => ?_) (Ev.step (f := fun _ => some 1) one (Ev.now _)), fun _ => ⟨c0.toNat, t, id_let (let_of_letA hL), fun _ => let_of_letA hL, .inl (letA_lt hL), (asc (letA_lt hL)).1, (asc (letA_lt hL)).2⟩⟩
    unfold PFnTokensBlock.spec_skipped.f
    rw [if_neg hne, if_pos hpos, hb, isLetter_f]
    simp only [Option.bind_some]
    rw [if_pos hL]
  · by_cases hf : first = true
    · obtain ⟨n, hn, hp⟩ := more
      refine ⟨n, Ev.congr (fun k => ?_) hn, hp⟩
      unfold PFnTokensBlock.spec_skipped.f
      rw [if_neg hne, if_pos hpos, hb, isLetter_f]
      simp only [Option.bind_some]
      rw [if_neg hL, if_pos hf]
    · by_cases hd : digR c0.toNat = true
      · refine ⟨1, Ev.congr (f := fun k => PFnTokensBlock.spec_skipped.j0 k (str (c0 :: t)) true) (fun k => ?_) (Ev.step (f := fun _ => some 1) one (Ev.now _)), fun _ => ⟨c0.toNat, t, id_dig hd, fun h => absurd h hf, .inl (digR_lt hd), (asc (digR_lt hd)).1, (asc (digR_lt hd)).2⟩⟩
        unfold PFnTokensBlock.spec_skipped.f
        rw [if_neg hne, if_pos hpos, hb, isLetter_f]
        simp only [Option.bind_some]
        rw [if_neg hL, if_neg hf, isDigit_f]
        simp only [Option.bind_some]
        rw [hd]
      · obtain ⟨n, hn, hp⟩ := more
        refine ⟨n, Ev.congr (fun k => ?_) hn, hp⟩
        unfold PFnTokensBlock.spec_skipped.f
        rw [if_neg hne, if_pos hpos, hb, isLetter_f]
        simp only [Option.bind_some]
        rw [if_neg hL, if_neg hf, isDigit_f]
        simp only [Option.bind_some]
        rw [show digR c0.toNat = false by simpa using hd]

theorem isName_l0 (l : List UInt8) (hl : l.length ≤ 4000000000) (d : Nat) : ∀ i, i ≤ l.length → l.length - i ≤ d → ∃ b, Ev (fun k => PFnTokensBlock.spec_IsName.l0 k (str l) (i : Int)) b ∧
    (b = true → ∃ r, enc r = l.drop i ∧ (∀ x ∈ r, idR x = true ∧ okR x) ∧ (i = 0 → ∀ x ∈ r.head?, letR x = true)) := by
  induction d with
  | zero =>
    intro i hi hd
    refine ⟨true, Ev.step (f := fun _ => some true) (fun k => ?_) (Ev.now _), fun _ => ⟨[], ?_, by simp, by simp⟩⟩
    · simp only [PFnTokensBlock.spec_IsName.l0]
      rw [if_neg (by rw [str_size]; omega)]
    · rw [List.drop_eq_nil_of_le (by omega)]; rfl
  | succ d ih =>
    intro i hi hd
    by_cases hlt : i < l.length
    · have hdr : l.drop i = l[i] :: l.drop (i + 1) := List.drop_eq_getElem_cons hlt
      have hex : (str l).extract ((i : Nat) : Int).toNat (str l).size = str (l[i] :: l.drop (i + 1)) := by
        rw [str_extract, ← hdr, str_size, Int.toNat_natCast, List.take_of_length_le (by simp)]
      obtain ⟨n, hn, hp⟩ := skipped_ev l[i] (l.drop (i + 1)) ((i : Int) == 0) (by simp; omega)
      by_cases h0 : n = 0
      · subst h0
        refine ⟨false, Ev.step (f := fun k => (PFnTokensBlock.spec_skipped.f k (str (l[i] :: l.drop (i + 1))) ((i : Int) == 0)).bind fun t => if t = 0 then some false else PFnTokensBlock.spec_IsName.l0 k (str l) (wrap64 ((i : Int) + t))) (fun k => ?_) (Ev.bind hn ?_), fun h => by cases h⟩
        · simp only [PFnTokensBlock.spec_IsName.l0]
          rw [if_pos (by rw [str_size]; omega), if_pos (by omega), if_pos (by rw [str_size]; omega), hex]
        · exact Ev.congr (fun k => if_pos (show ((0 : Nat) : Int) = 0 from rfl)) (Ev.now false)
      · obtain ⟨c, u, hid, hlet, hok, he, hlen⟩ := hp h0
        have hle : i + n ≤ l.length := by
          have := congrArg List.length he
          rw [← hdr, List.length_drop, List.length_append] at this
          omega
        have hnn := encR_pos c
        have hnn2 := encR_le c
        obtain ⟨b, hb, hbp⟩ := ih (i + n) hle (by omega)
        refine ⟨b, Ev.step (f := fun k => (PFnTokensBlock.spec_skipped.f k (str (l[i] :: l.drop (i + 1))) ((i : Int) == 0)).bind fun t => if t = 0 then some false else PFnTokensBlock.spec_IsName.l0 k (str l) (wrap64 ((i : Int) + t))) (fun k => ?_) (Ev.bind hn ?_), fun h => ?_⟩
        · simp only [PFnTokensBlock.spec_IsName.l0]
          rw [if_pos (by rw [str_size]; omega), if_pos (by omega), if_pos (by rw [str_size]; omega), hex]
        · refine Ev.congr (fun k => ?_) hb
          rw [if_neg (by omega), w64 (by omega) (by omega)]
          rfl
        · obtain ⟨r, h1, h2, h3⟩ := hbp h
          refine ⟨c :: r, ?_, ?_, ?_⟩
          · rw [enc_cons, h1, hdr, he, hlen, ← List.drop_drop, hdr, he, List.drop_left]
          · intro x hx
            rcases List.mem_cons.1 hx with rfl | hx
            · exact ⟨hid, hok⟩
            · exact h2 x hx
          · intro hi0 x hx
            obtain rfl : c = x := by simpa using hx
            exact hlet (by rw [hi0]; rfl)
    · exact ih i hi (by omega)

/-- A text that is a name. -/
theorem isName_ev (l : List UInt8) (hl : l.length ≤ 4000000000) : ∃ b, Ev (fun k => PFnTokensBlock.spec_IsName.f k (str l)) b ∧ (b = true → ∃ r, enc r = l ∧ WordR r (-2) ∧ ∀ x ∈ r, okR x) := by
  by_cases h0 : l = []
  · subst h0
    exact ⟨false, Ev.congr (fun k => by unfold PFnTokensBlock.spec_IsName.f; rw [if_pos (str_toList [])]) (Ev.now false), fun h => by cases h⟩
  · obtain ⟨b, hb, hp⟩ := isName_l0 l hl l.length 0 (by omega) (by omega)
    refine ⟨b, Ev.congr (fun k => by unfold PFnTokensBlock.spec_IsName.f; rw [if_neg (by rw [str_toList]; exact h0)]; rfl) hb, fun h => ?_⟩
    obtain ⟨r, h1, h2, h3⟩ := hp h
    rw [List.drop_zero] at h1
    cases r with
    | nil => exact absurd h1.symm h0
    | cons c rs => exact ⟨c :: rs, h1, .name c rs (h3 rfl c rfl) (fun x hx => (h2 x (by simp [hx])).1), fun x hx => (h2 x hx).2⟩
end Go.Proofs.YtmeihdlkadjoeaaGreatDoor

namespace Go.Proofs.YtmeihdlkadjoeaaGreatDoor
open Go.RowKit Go.Proofs.YtmeihdlkadjoeaaGreatDoorW.PrintWords
set_option linter.unusedVariables false
set_option linter.unusedSimpArgs false

/-- The characters of a text of ASCII. -/
def runes (l : List UInt8) : List Nat := l.map UInt8.toNat
theorem enc_runes (l : List UInt8) (h : ∀ c ∈ l, c.toNat < 128) : enc (runes l) = l := by
  induction l with
  | nil => rfl
  | cons c l ih =>
    show enc (c.toNat :: runes l) = c :: l
    rw [enc_cons, encR_asc (h c (by simp)), ofNat_toNat, ih (fun x hx => h x (by simp [hx]))]
    rfl

def marksL : List UInt8 := [43, 45, 42, 37, 38, 124, 94, 126, 40, 41, 91, 93, 123, 125, 44, 59, 58, 36, 33, 61, 60, 62, 64, 63]
theorem marks_ok : ∀ c ∈ marksL, markR c.toNat = true := by decide
theorem isMark_l0 (l : List UInt8) (d : Nat) : ∀ i, i ≤ 24 → 24 - i ≤ d → ∃ b, Ev (fun k => PFnTokensBlock.spec_IsMark.l0 k (str l) (i : Int)) b ∧ (b = true ↔ ∃ j, i ≤ j ∧ j < 24 ∧ l = [marksL.getD j 0]) := by
  induction d with
  | zero =>
    intro i hi hd
    refine ⟨false, Ev.step (f := fun _ => some false) (fun k => ?_) (Ev.now _), ⟨fun h => Bool.noConfusion h, fun ⟨j, h1, h2, _⟩ => absurd h2 (by omega)⟩⟩
    simp only [PFnTokensBlock.spec_IsMark.l0]
    rw [if_neg (by omega)]
  | succ d ih =>
    intro i hi hd
    by_cases hlt : i < 24
    · have hw : wrap64 ((i : Int) + 1) = (i : Int) + 1 := w64 (by omega) (by omega)
      have hex : ((⟨#[43, 45, 42, 37, 38, 124, 94, 126, 40, 41, 91, 93, 123, 125, 44, 59, 58, 36, 33, 61, 60, 62, 64, 63]⟩ : ByteArray).extract ((i : Nat) : Int).toNat ((i : Int) + 1).toNat).toList = [marksL.getD i 0] := by
        have e : (⟨#[43, 45, 42, 37, 38, 124, 94, 126, 40, 41, 91, 93, 123, 125, 44, 59, 58, 36, 33, 61, 60, 62, 64, 63]⟩ : ByteArray) = str marksL := rfl
        have hm : marksL.length = 24 := rfl
        have e1 : ((i : Int) + 1).toNat = i + 1 := by omega
        have eD : marksL.getD i 0 = marksL[i]'(by omega) := by simp [List.getD_eq_getElem?_getD, List.getElem?_eq_getElem (show i < marksL.length by omega)]
        rw [e, str_extract, str_toList, Int.toNat_natCast, e1, eD, List.drop_eq_getElem_cons (by omega : i < marksL.length), show i + 1 - i = 1 by omega]
        rfl
      by_cases he : l = [marksL.getD i 0]
      · refine ⟨true, Ev.step (f := fun _ => some true) (fun k => ?_) (Ev.now _), ⟨fun _ => ⟨i, Nat.le_refl _, hlt, he⟩, fun _ => rfl⟩⟩
        simp only [PFnTokensBlock.spec_IsMark.l0]
        rw [if_pos (by omega), if_pos (by omega), hw, if_pos (by omega), if_pos (by omega), hex, str_toList, if_pos he]
      · obtain ⟨b, hb, hp⟩ := ih (i + 1) (by omega) (by omega)
        refine ⟨b, Ev.step (f := fun k => PFnTokensBlock.spec_IsMark.l0 k (str l) ((i + 1 : Nat) : Int)) (fun k => ?_) hb, ⟨fun h => ?_, fun ⟨j, h1, h2, h3⟩ => hp.2 ⟨j, ?_, h2, h3⟩⟩⟩
        · simp only [PFnTokensBlock.spec_IsMark.l0]
          rw [if_pos (by omega), if_pos (by omega), hw, if_pos (by omega), if_pos (by omega), hex, str_toList, if_neg he]
          rfl
        · obtain ⟨j, h1, h2, h3⟩ := hp.1 h
          exact ⟨j, by omega, h2, h3⟩
        · rcases Nat.lt_or_ge i j with h4 | h4
          · exact h4
          · obtain rfl : i = j := by omega
            exact absurd h3 he
    · exact ih i hi (by omega)
theorem isMark_ev (l : List UInt8) : ∃ b, Ev (fun k => PFnTokensBlock.spec_IsMark.f k (str l)) b ∧ (b = true ↔ ∃ c ∈ marksL, l = [c]) := by
  obtain ⟨b, hb, hp⟩ := isMark_l0 l 24 0 (by omega) (by omega)
  refine ⟨b, Ev.congr (fun k => rfl) hb, ⟨fun h => ?_, fun ⟨c, hc, he⟩ => ?_⟩⟩
  · obtain ⟨j, _, h2, h3⟩ := hp.1 h
    exact ⟨_, by
      rw [List.getD_eq_getElem?_getD, List.getElem?_eq_getElem (show j < marksL.length from h2)]
      exact List.getElem_mem _, h3⟩
  · obtain ⟨j, hj, e⟩ := List.getElem_of_mem hc
    refine hp.2 ⟨j, Nat.zero_le _, hj, ?_⟩
    rw [he, List.getD_eq_getElem?_getD, List.getElem?_eq_getElem hj, ← e]
    rfl

theorem isNumber_l0 (l : List UInt8) (hl : l.length ≤ 4000000000) (d : Nat) : ∀ i, i ≤ l.length → l.length - i ≤ d → ∃ b, Ev (fun k => PFnTokensBlock.spec_IsNumber.l0 k (str l) (i : Int)) b ∧ (b = true → ∀ c ∈ l.drop i, hexR c.toNat = true) := by
  induction d with
  | zero =>
    intro i hi hd
    refine ⟨true, Ev.step (f := fun _ => some true) (fun k => ?_) (Ev.now _), fun _ => by rw [List.drop_eq_nil_of_le (by omega)]; simp⟩
    simp only [PFnTokensBlock.spec_IsNumber.l0]
    rw [if_neg (by rw [str_size]; omega)]
  | succ d ih =>
    intro i hi hd
    by_cases hlt : i < l.length
    · have hdr : l.drop i = l[i] :: l.drop (i + 1) := List.drop_eq_getElem_cons hlt
      have hb := bt_str l i hlt
      by_cases hh : hexR l[i].toNat = true
      · obtain ⟨b, hb2, hp⟩ := ih (i + 1) hlt (by omega)
        refine ⟨b, Ev.step (f := fun k => PFnTokensBlock.spec_IsNumber.l0 k (str l) ((i + 1 : Nat) : Int)) (fun k => ?_) hb2, fun h c hc => ?_⟩
        · simp only [PFnTokensBlock.spec_IsNumber.l0]
          rw [if_pos (by rw [str_size]; omega), if_pos (by omega), hb, isHex_f]
          simp only [Option.bind_some]
          rw [if_pos hh, w64 (by omega) (by omega)]
          rfl
        · rw [hdr] at hc
          rcases List.mem_cons.1 hc with rfl | hc
          · exact hh
          · exact hp h c hc
      · refine ⟨false, Ev.step (f := fun _ => some false) (fun k => ?_) (Ev.now _), fun h => by cases h⟩
        simp only [PFnTokensBlock.spec_IsNumber.l0]
        rw [if_pos (by rw [str_size]; omega), if_pos (by omega), hb, isHex_f]
        simp only [Option.bind_some]
        rw [if_neg hh]
    · exact ih i hi (by omega)

theorem isNumber_l1 (l : List UInt8) (hl : l.length ≤ 4000000000) (d : Nat) : ∀ i, i ≤ l.length → l.length - i ≤ d → ∃ b, Ev (fun k => PFnTokensBlock.spec_IsNumber.l1 k (str l) (l.length : Int) (i : Int)) b ∧
    (b = true → (∀ c ∈ l.drop i, digR c.toNat = true) ∧ (i = 0 → ∀ c ∈ l.head?, c = 48 → l.length = 1)) := by
  induction d with
  | zero =>
    intro i hi hd
    refine ⟨true, Ev.step (f := fun _ => some true) (fun k => ?_) (Ev.now _), fun _ => ⟨by rw [List.drop_eq_nil_of_le (by omega)]; simp, fun h0 c hc => ?_⟩⟩
    · simp only [PFnTokensBlock.spec_IsNumber.l1]
      rw [if_neg (by omega)]
    · have : l = [] := List.eq_nil_of_length_eq_zero (by omega)
      subst this
      cases hc
  | succ d ih =>
    intro i hi hd
    by_cases hlt : i < l.length
    · have hdr : l.drop i = l[i] :: l.drop (i + 1) := List.drop_eq_getElem_cons hlt
      have hb := bt_str l i hlt
      by_cases hh : digR l[i].toNat = true
      · by_cases hz : i = 0 ∧ l[i].toNat = 48 ∧ 1 < l.length
        · obtain ⟨hz0, hz1, hz2⟩ := hz
          subst hz0
          refine ⟨false, Ev.step (f := fun _ => some false) (fun k => ?_) (Ev.now _), fun h => by cases h⟩
          simp only [PFnTokensBlock.spec_IsNumber.l1]
          rw [if_pos (by omega), if_pos (by omega), if_pos (by rw [str_size]; omega), hb, isDigit_f]
          simp only [Option.bind_some]
          rw [if_pos hh, if_pos (show ((0 : Nat) : Int) = 0 from rfl), if_pos (by rw [str_size]; omega)]
          have hb0 : bt (str l) 0 = 48 := by
            have := hb
            rw [hz1] at this
            exact this
          rw [if_pos hb0, if_pos (by rw [str_size]; omega)]
        · obtain ⟨b, hb2, hp⟩ := ih (i + 1) hlt (by omega)
          refine ⟨b, Ev.step (f := fun k => PFnTokensBlock.spec_IsNumber.l1 k (str l) (l.length : Int) ((i + 1 : Nat) : Int)) (fun k => ?_) hb2, fun h => ⟨fun c hc => ?_, fun h0 c hc h48 => ?_⟩⟩
          · simp only [PFnTokensBlock.spec_IsNumber.l1]
            rw [if_pos (by omega), if_pos (by omega), if_pos (by rw [str_size]; omega), hb, isDigit_f]
            simp only [Option.bind_some]
            rw [if_pos hh, w64 (by omega) (by omega)]
            by_cases h0 : i = 0
            · subst h0
              rw [if_pos (show ((0 : Nat) : Int) = 0 from rfl), if_pos (by rw [str_size]; omega)]
              by_cases h48 : bt (str l) 0 = 48
              · have hb3 : ((l[0]).toNat : Int) = 48 := hb.symm.trans h48
                rw [if_pos h48, if_neg (by rw [str_size]; omega)]
                rfl
              · rw [if_neg h48]
                rfl
            · rw [if_neg (by omega)]
              rfl
          · rw [hdr] at hc
            rcases List.mem_cons.1 hc with rfl | hc
            · exact hh
            · exact (hp h).1 c hc
          · subst h0
            have e : l.head? = some l[0] := by rw [List.head?_eq_getElem?, List.getElem?_eq_getElem hlt]
            rw [e] at hc
            obtain rfl : l[0] = c := Option.some.inj hc
            rcases Nat.lt_or_ge 1 l.length with h1 | h1
            · exact absurd ⟨rfl, by rw [h48]; rfl, h1⟩ hz
            · omega
      · refine ⟨false, Ev.step (f := fun _ => some false) (fun k => ?_) (Ev.now _), fun h => by cases h⟩
        simp only [PFnTokensBlock.spec_IsNumber.l1]
        rw [if_pos (by omega), if_pos (by omega), if_pos (by rw [str_size]; omega), hb, isDigit_f]
        simp only [Option.bind_some]
        rw [if_neg hh]
    · exact ih i hi (by omega)

theorem hexR_lt {c : Nat} (h : hexR c = true) : c < 128 := by
  simp only [hexR, Bool.or_eq_true, decide_eq_true_eq] at h
  omega
theorem isNumber_ev (l : List UInt8) (hl : l.length ≤ 4000000000) : ∃ b, Ev (fun k => PFnTokensBlock.spec_IsNumber.f k (str l)) b ∧ (b = true → enc (runes l) = l ∧ WordR (runes l) (-3) ∧ ∀ x ∈ runes l, okR x) := by
  by_cases h0 : l = []
  · subst h0
    exact ⟨false, Ev.congr (fun k => by unfold PFnTokensBlock.spec_IsNumber.f; rw [if_pos (str_toList [])]) (Ev.now false), fun h => by cases h⟩
  have hne : ¬ (str l).toList = ([] : List UInt8) := by rw [str_toList]; exact h0
  have dec : ∃ b, Ev (fun k => PFnTokensBlock.spec_IsNumber.l1 k (str l) ((str l).size : Int) 0) b ∧ (b = true → enc (runes l) = l ∧ WordR (runes l) (-3) ∧ ∀ x ∈ runes l, okR x) := by
    obtain ⟨b, hb, hp⟩ := isNumber_l1 l hl l.length 0 (by omega) (by omega)
    refine ⟨b, hb, fun h => ?_⟩
    obtain ⟨h1, h2⟩ := hp h
    rw [List.drop_zero] at h1
    have hlt : ∀ c ∈ l, c.toNat < 128 := fun c hc => digR_lt (h1 c hc)
    refine ⟨enc_runes l hlt, ?_, fun x hx => ?_⟩
    · cases l with
      | nil => exact absurd rfl h0
      | cons c l =>
        have hc := h1 c (by simp)
        by_cases h48 : c.toNat = 48
        · have := h2 rfl c rfl (toNat_inj h48)
          have hl0 : l = [] := List.eq_nil_of_length_eq_zero (by simpa using this)
          subst hl0
          show WordR [c.toNat] (-3)
          rw [h48]
          exact .zero
        · exact .num c.toNat (runes l) hc h48 (fun x hx => by
            obtain ⟨y, hy, rfl⟩ := List.mem_map.1 hx
            exact h1 y (by simp [hy]))
    · obtain ⟨y, hy, rfl⟩ := List.mem_map.1 hx
      exact .inl (hlt y hy)
  by_cases h2 : ((str l).size : Int) > 2
  · by_cases he : ((str l).extract 0 2).toList = ([48, 120] : List UInt8)
    · obtain ⟨b, hb, hp⟩ := isNumber_l0 l hl l.length 2 (by rw [str_size] at h2; omega) (by omega)
      refine ⟨b, Ev.congr (f := fun k => PFnTokensBlock.spec_IsNumber.j0 k (str l) true) (fun k => ?_) (Ev.step (f := fun k => PFnTokensBlock.spec_IsNumber.l0 k (str l) ((2 : Nat) : Int)) (fun k => ?_) hb), fun h => ?_⟩
      · unfold PFnTokensBlock.spec_IsNumber.f
        rw [if_neg hne, if_pos h2, if_pos (by decide), if_pos (by omega), he]
        rfl
      · simp only [PFnTokensBlock.spec_IsNumber.j0]
        rw [if_pos trivial]
        rfl
      · have h1 := hp h
        rw [str_extract, str_toList] at he
        have h4 : l.take 2 = [48, 120] := he
        have h5 : l = 48 :: 120 :: l.drop 2 := by
          have := List.take_append_drop 2 l
          rw [h4] at this
          exact this.symm
        have hlt : ∀ c ∈ l, c.toNat < 128 := by
          intro c hc
          rw [h5] at hc
          rcases List.mem_cons.1 hc with rfl | hc
          · decide
          · rcases List.mem_cons.1 hc with rfl | hc
            · decide
            · exact hexR_lt (h1 c hc)
        refine ⟨enc_runes l hlt, ?_, fun x hx => ?_⟩
        · have h6 : runes l = 48 :: 120 :: runes (l.drop 2) := by
            rw [h5]; rfl
          rw [h6]
          refine .hex _ (fun e => ?_) (fun x hx => ?_)
          · have h7 := congrArg List.length e
            rw [str_size] at h2
            simp [runes] at h7
            omega
          · obtain ⟨y, hy, rfl⟩ := List.mem_map.1 hx
            exact h1 y hy
        · obtain ⟨y, hy, rfl⟩ := List.mem_map.1 hx
          exact .inl (hlt y hy)
    · obtain ⟨b, hb, hp⟩ := dec
      refine ⟨b, Ev.congr (f := fun k => PFnTokensBlock.spec_IsNumber.j0 k (str l) false) (fun k => ?_) (Ev.step (f := fun k => PFnTokensBlock.spec_IsNumber.l1 k (str l) ((str l).size : Int) 0) (fun k => ?_) hb), hp⟩
      · unfold PFnTokensBlock.spec_IsNumber.f
        have hf : (((str l).extract 0 2).toList == ([48, 120] : List UInt8)) = false := by simpa using he
        rw [if_neg hne, if_pos h2, if_pos (by decide), if_pos (by omega), hf]
      · simp only [PFnTokensBlock.spec_IsNumber.j0]
        rw [if_neg (by decide)]
  · obtain ⟨b, hb, hp⟩ := dec
    refine ⟨b, Ev.congr (f := fun k => PFnTokensBlock.spec_IsNumber.j0 k (str l) false) (fun k => ?_) (Ev.step (f := fun k => PFnTokensBlock.spec_IsNumber.l1 k (str l) ((str l).size : Int) 0) (fun k => ?_) hb), hp⟩
    · unfold PFnTokensBlock.spec_IsNumber.f
      rw [if_neg hne, if_neg h2]
    · simp only [PFnTokensBlock.spec_IsNumber.j0]
      rw [if_neg (by decide)]

/-- A byte within a string. -/
def strB (c : UInt8) : Bool := decide (32 ≤ c.toNat) && decide (c.toNat < 127) && decide (c.toNat ≠ 34) && decide (c.toNat ≠ 92)
theorem isQuoted_l0 (l : List UInt8) (hl : l.length ≤ 4000000000) (d : Nat) : ∀ i, i + 1 ≤ l.length → l.length - 1 - i ≤ d → ∃ b, Ev (fun k => PFnTokensBlock.spec_IsQuoted.l0 k (str l) (l.length : Int) (i : Int)) b ∧ (b = true → ∀ j (hj : j + 1 < l.length), i ≤ j → strB l[j] = true) := by
  induction d with
  | zero =>
    intro i hi hd
    refine ⟨true, Ev.step (f := fun _ => some true) (fun k => ?_) (Ev.now _), fun _ j hj hij => absurd hj (by omega)⟩
    simp only [PFnTokensBlock.spec_IsQuoted.l0]
    rw [w64 (by omega) (by omega), if_neg (by omega)]
  | succ d ih =>
    intro i hi hd
    by_cases hlt : i + 1 < l.length
    · have hb := bt_str l i (by omega)
      by_cases hh : strB l[i] = true
      · obtain ⟨b, hb2, hp⟩ := ih (i + 1) (by omega) (by omega)
        have hh' := hh
        simp only [strB, Bool.and_eq_true, decide_eq_true_eq] at hh'
        refine ⟨b, Ev.step (f := fun k => PFnTokensBlock.spec_IsQuoted.l0 k (str l) (l.length : Int) ((i + 1 : Nat) : Int)) (fun k => ?_) hb2, fun h j hj hij => ?_⟩
        · simp only [PFnTokensBlock.spec_IsQuoted.l0]
          rw [w64 (by omega) (by omega), if_pos (by omega), if_pos (by omega), if_pos (by rw [str_size]; omega), hb, if_neg (by omega), if_neg (by omega), if_neg (by omega), if_neg (by omega), w64 (by omega) (by omega)]
          rfl
        · rcases Nat.lt_or_ge i j with h1 | h1
          · exact hp h j hj h1
          · obtain rfl : i = j := by omega
            exact hh
      · refine ⟨false, Ev.step (f := fun _ => some false) (fun k => ?_) (Ev.now _), fun h => by cases h⟩
        have hh' : ¬ (((32 ≤ l[i].toNat ∧ l[i].toNat < 127) ∧ l[i].toNat ≠ 34) ∧ l[i].toNat ≠ 92) := by simpa [strB] using hh
        simp only [PFnTokensBlock.spec_IsQuoted.l0]
        rw [w64 (by omega) (by omega), if_pos (by omega), if_pos (by omega), if_pos (by rw [str_size]; omega), hb]
        by_cases a1 : ((l[i].toNat : Nat) : Int) < 32
        · rw [if_pos a1]
        · rw [if_neg a1]
          by_cases a2 : ((l[i].toNat : Nat) : Int) ≥ 127
          · rw [if_pos a2]
          · rw [if_neg a2]
            by_cases a3 : ((l[i].toNat : Nat) : Int) = 34
            · rw [if_pos a3]
            · rw [if_neg a3, if_pos (by omega)]
    · exact ih i hi (by omega)

theorem isQuoted_ev (l : List UInt8) (hl : l.length ≤ 4000000000) : ∃ b, Ev (fun k => PFnTokensBlock.spec_IsQuoted.f k (str l)) b ∧ (b = true → enc (runes l) = l ∧ WordR (runes l) (-6) ∧ ∀ x ∈ runes l, x < 128) := by
  have bad : ∀ (n : Int), Ev (fun k => PFnTokensBlock.spec_IsQuoted.j0 k (str l) n true) false := fun n => Ev.step (f := fun _ => some false) (fun k => by simp only [PFnTokensBlock.spec_IsQuoted.j0]; rw [if_pos trivial]) (Ev.now _)
  by_cases h2 : ((str l).size : Int) < 2
  · exact ⟨false, Ev.congr (fun k => by unfold PFnTokensBlock.spec_IsQuoted.f; rw [if_pos h2]) (bad _), fun h => by cases h⟩
  rw [str_size] at h2
  have hlen : 2 ≤ l.length := by omega
  have hb0 := bt_str l 0 (by omega)
  have hbn := bt_str l (l.length - 1) (by omega)
  have hw : wrap64 ((l.length : Int) - 1) = ((l.length - 1 : Nat) : Int) := by rw [w64 (by omega) (by omega)]; omega
  by_cases h34 : (l[0]'(by omega)).toNat = 34
  · by_cases hn : (l[l.length - 1]'(by omega)).toNat = 34
    · obtain ⟨b, hb, hp⟩ := isQuoted_l0 l hl l.length 1 (by omega) (by omega)
      refine ⟨b, Ev.congr (f := fun k => PFnTokensBlock.spec_IsQuoted.j0 k (str l) (l.length : Int) false) (fun k => ?_) (Ev.step (f := fun k => PFnTokensBlock.spec_IsQuoted.l0 k (str l) (l.length : Int) ((1 : Nat) : Int)) (fun k => ?_) hb), fun h => ?_⟩
      · unfold PFnTokensBlock.spec_IsQuoted.f
        rw [str_size, if_neg h2, if_pos (by omega), if_pos (by rw [show (0 : Int) = ((0 : Nat) : Int) from rfl, hb0]; omega), hw, if_pos (by omega), if_pos (by omega), hbn, hn]
        rfl
      · simp only [PFnTokensBlock.spec_IsQuoted.j0]
        rw [if_neg (by decide)]
        rfl
      · have h1 := hp h
        have hmid : ∀ c ∈ (l.drop 1).take (l.length - 2), strB c = true := by
          intro c hc
          obtain ⟨j, hj, rfl⟩ := List.getElem_of_mem hc
          have hj2 : j < l.length - 2 := by simp at hj; omega
          rw [List.getElem_take, List.getElem_drop]
          exact h1 (1 + j) (by omega) (by omega)
        have hl2 : l = 34 :: ((l.drop 1).take (l.length - 2) ++ [34]) := by
          apply List.ext_getElem
          · simp; omega
          · intro j hj1 hj2
            rcases Nat.eq_zero_or_pos j with rfl | hj0
            · exact toNat_inj h34
            · obtain ⟨j, rfl⟩ : ∃ m, j = m + 1 := ⟨j - 1, by omega⟩
              rw [List.getElem_cons_succ]
              by_cases hjn : j < l.length - 2
              · rw [List.getElem_append_left (by simp; omega), List.getElem_take, List.getElem_drop]
                congr 1
                omega
              · obtain rfl : j = l.length - 2 := by omega
                rw [List.getElem_append_right (by simp; omega)]
                have e34 : (l[l.length - 1]'(by omega)) = 34 := toNat_inj hn
                have e1 : l.length - 2 + 1 = l.length - 1 := by omega
                simp only [e1, e34]
                simp
        have hlt : ∀ c ∈ l, c.toNat < 128 := by
          intro c hc
          rw [hl2] at hc
          rcases List.mem_cons.1 hc with rfl | hc
          · decide
          · rcases List.mem_append.1 hc with hc | hc
            · have := hmid c hc
              simp only [strB, Bool.and_eq_true, decide_eq_true_eq] at this
              omega
            · obtain rfl : c = 34 := by simpa using hc
              decide
        refine ⟨enc_runes l hlt, ?_, fun x hx => ?_⟩
        · have h6 : runes l = 34 :: (runes ((l.drop 1).take (l.length - 2)) ++ [34]) := by
            conv => lhs; rw [hl2]
            simp [runes]
          rw [h6]
          refine .str _ (fun x hx => ?_)
          obtain ⟨y, hy, rfl⟩ := List.mem_map.1 hx
          have := hmid y hy
          simp only [strB, Bool.and_eq_true, decide_eq_true_eq] at this
          simp only [strR, Bool.and_eq_true, bne_iff_ne, ne_eq]
          omega
        · obtain ⟨y, hy, rfl⟩ := List.mem_map.1 hx
          exact hlt y hy
    · refine ⟨false, Ev.congr (fun k => ?_) (bad (l.length : Int)), fun h => by cases h⟩
      unfold PFnTokensBlock.spec_IsQuoted.f
      rw [str_size, if_neg h2, if_pos (by omega), if_pos (by rw [show (0 : Int) = ((0 : Nat) : Int) from rfl, hb0]; omega), hw, if_pos (by omega), if_pos (by omega), hbn]
      have hne : ((((l[l.length - 1]'(by omega)).toNat : Nat) : Int) != 34) = true := by simp; omega
      rw [hne]
  · refine ⟨false, Ev.congr (fun k => ?_) (bad (l.length : Int)), fun h => by cases h⟩
    unfold PFnTokensBlock.spec_IsQuoted.f
    rw [str_size, if_neg h2, if_pos (by omega), if_neg (by rw [show (0 : Int) = ((0 : Nat) : Int) from rfl, hb0]; omega)]

/-- A word of the statements': its characters and its kind. -/
structure WordB (l : List UInt8) (r : List Nat) (k : Int) : Prop where
  enc : enc r = l
  word : WordR r k
  ok : ∀ x ∈ r, okR x
  asc : k = -2 ∨ ∀ x ∈ r, x < 128

theorem kindOf_ev (l : List UInt8) (hl : l.length ≤ 4000000000) : ∃ k, Ev (fun n => PFnTokensBlock.spec_KindOf.f n (str l)) k ∧ (k ≠ 0 → ∃ r, WordB l r k) := by
  have pr : ∀ (c d : UInt8) (k : Int), c.toNat < 128 → d.toNat < 128 → pairR (c.toNat : Int) d.toNat = some k → WordB [c, d] [c.toNat, d.toNat] k := fun c d k hc hd h =>
    ⟨enc_runes [c, d] (by simp [hc, hd]), .pair _ _ _ h, by simp [okR, hc, hd], .inr (by simp [hc, hd])⟩
  by_cases e1 : l = [60, 60]
  · subst e1
    exact ⟨-1000, Ev.congr (fun n => by unfold PFnTokensBlock.spec_KindOf.f; rw [str_toList, if_pos rfl]) (Ev.now _), fun _ => ⟨_, pr 60 60 _ (by decide) (by decide) (by decide)⟩⟩
  by_cases e2 : l = [62, 62]
  · subst e2
    exact ⟨-1001, Ev.congr (fun n => by unfold PFnTokensBlock.spec_KindOf.f; rw [str_toList, if_neg (by decide), if_pos rfl]) (Ev.now _), fun _ => ⟨_, pr 62 62 _ (by decide) (by decide) (by decide)⟩⟩
  by_cases e3 : l = [45, 62]
  · subst e3
    exact ⟨-1002, Ev.congr (fun n => by unfold PFnTokensBlock.spec_KindOf.f; rw [str_toList, if_neg (by decide), if_neg (by decide), if_pos rfl]) (Ev.now _), fun _ => ⟨_, pr 45 62 _ (by decide) (by decide) (by decide)⟩⟩
  by_cases e4 : l = [64, 62]
  · subst e4
    exact ⟨-1003, Ev.congr (fun n => by unfold PFnTokensBlock.spec_KindOf.f; rw [str_toList, if_neg (by decide), if_neg (by decide), if_neg (by decide), if_pos rfl]) (Ev.now _), fun _ => ⟨_, pr 64 62 _ (by decide) (by decide) (by decide)⟩⟩
  have one : ∀ c : UInt8, l = [c] → markR c.toNat = true → Ev (fun n => PFnTokensBlock.spec_KindOf.j0 n (str l) true) (c.toNat : Int) ∧ WordB l [c.toNat] c.toNat := by
    intro c he hm
    subst he
    have hlt : c.toNat < 128 := by
      simp only [markR, Bool.and_eq_true, decide_eq_true_eq] at hm
      omega
    refine ⟨Ev.step (f := fun _ => some (c.toNat : Int)) (fun n => ?_) (Ev.now _), enc_runes [c] (by simp [hlt]), .mark _ hm, by simp [okR, hlt], .inr (by simp [hlt])⟩
    simp only [PFnTokensBlock.spec_KindOf.j0]
    rw [if_pos trivial, if_pos (by rw [str_size]; simp), bt_str0, w64 (by omega) (by omega)]
  by_cases e5 : l = [10]
  · obtain ⟨h1, h2⟩ := one 10 e5 (by decide)
    exact ⟨_, Ev.congr (fun n => by unfold PFnTokensBlock.spec_KindOf.f; rw [str_toList, if_neg e1, if_neg e2, if_neg e3, if_neg e4, if_pos e5]) h1, fun _ => ⟨_, h2⟩⟩
  obtain ⟨bm, hbm, hpm⟩ := isMark_ev l
  by_cases hm : bm = true
  · obtain ⟨c, hc, he⟩ := hpm.1 hm
    obtain ⟨h1, h2⟩ := one c he (marks_ok c hc)
    refine ⟨_, Ev.congr (f := fun n => (PFnTokensBlock.spec_IsMark.f n (str l)).bind fun t => PFnTokensBlock.spec_KindOf.j0 n (str l) t) (fun n => ?_) (Ev.bind hbm ?_), fun _ => ⟨_, h2⟩⟩
    · unfold PFnTokensBlock.spec_KindOf.f; rw [str_toList, if_neg e1, if_neg e2, if_neg e3, if_neg e4, if_neg e5]
    · rw [hm]; exact h1
  have hmf : bm = false := by simpa using hm
  obtain ⟨bn, hbn, hpn⟩ := isName_ev l hl
  obtain ⟨bd, hbd, hpd⟩ := isNumber_ev l hl
  obtain ⟨bq, hbq, hpq⟩ := isQuoted_ev l hl
  have rest : ∃ k, Ev (fun n => PFnTokensBlock.spec_KindOf.j0 n (str l) false) k ∧ (k ≠ 0 → ∃ r, WordB l r k) := by
    have fin : ∀ k, Ev (fun n => (PFnTokensBlock.spec_IsName.f n (str l)).bind fun t109 => (if t109 = true then (some (-2)) else ((PFnTokensBlock.spec_IsNumber.f n (str l)).bind fun t110 => (if t110 = true then (some (-3)) else ((PFnTokensBlock.spec_IsQuoted.f n (str l)).bind fun t111 => (if t111 = true then (some (-6)) else (some 0))))))) k →
        Ev (fun n => PFnTokensBlock.spec_KindOf.j0 n (str l) false) k := fun k h => Ev.step (fun n => by simp only [PFnTokensBlock.spec_KindOf.j0]; rw [if_neg (by decide)]) h
    by_cases hn : bn = true
    · obtain ⟨r, h1, h2, h3⟩ := hpn hn
      exact ⟨-2, fin _ (Ev.bind hbn (Ev.congr (fun n => by rw [if_pos hn]) (Ev.now (-2)))), fun _ => ⟨r, h1, h2, h3, .inl rfl⟩⟩
    · by_cases hd : bd = true
      · obtain ⟨h1, h2, h3⟩ := hpd hd
        refine ⟨-3, fin _ (Ev.bind hbn (Ev.congr (fun n => by rw [if_neg hn]) (Ev.bind hbd (Ev.congr (fun n => by rw [if_pos hd]) (Ev.now (-3)))))), fun _ => ⟨_, h1, h2, h3, .inr (fun x hx => ?_)⟩⟩
        have e : enc (runes l) = l := h1
        obtain ⟨y, hy, rfl⟩ := List.mem_map.1 hx
        rcases h3 _ hx with h | h | h
        · exact h
        · exfalso
          have hlt := h2
          generalize runes l = q at hlt hx
          rw [h] at hx
          cases hlt with
          | num c rs a b c' =>
            rcases List.mem_cons.1 hx with h9 | h9
            · rw [← h9] at a; revert a; decide
            · have := c' _ h9; revert this; decide
          | zero => simp at hx
          | hex rs a b =>
            rcases List.mem_cons.1 hx with h9 | h9
            · simp at h9
            · rcases List.mem_cons.1 h9 with h9 | h9
              · simp at h9
              · have := b _ h9; revert this; decide
          | pair c d _ h => have := pairR_kinds h; omega
        · have := y.toNat_lt; omega
      · by_cases hq : bq = true
        · obtain ⟨h1, h2, h3⟩ := hpq hq
          exact ⟨-6, fin _ (Ev.bind hbn (Ev.congr (fun n => by rw [if_neg hn]) (Ev.bind hbd (Ev.congr (fun n => by rw [if_neg hd]) (Ev.bind hbq (Ev.congr (fun n => by rw [if_pos hq]) (Ev.now (-6)))))))), fun _ => ⟨_, h1, h2, fun x hx => .inl (h3 x hx), .inr h3⟩⟩
        · exact ⟨0, fin _ (Ev.bind hbn (Ev.congr (fun n => by rw [if_neg hn]) (Ev.bind hbd (Ev.congr (fun n => by rw [if_neg hd]) (Ev.bind hbq (Ev.congr (fun n => by rw [if_neg hq]) (Ev.now 0))))))), fun h => absurd rfl h⟩
  obtain ⟨k, hk, hp⟩ := rest
  refine ⟨k, Ev.congr (f := fun n => (PFnTokensBlock.spec_IsMark.f n (str l)).bind fun t => PFnTokensBlock.spec_KindOf.j0 n (str l) t) (fun n => ?_) (Ev.bind hbm ?_), hp⟩
  · unfold PFnTokensBlock.spec_KindOf.f; rw [str_toList, if_neg e1, if_neg e2, if_neg e3, if_neg e4, if_neg e5]
  · rw [hmf]; exact hk
end Go.Proofs.YtmeihdlkadjoeaaGreatDoor

namespace Go.Proofs.YtmeihdlkadjoeaaGreatDoor
open Go.RowKit Go.Proofs.YtmeihdlkadjoeaaGreatDoorW.PrintWords
set_option linter.unusedVariables false
set_option linter.unusedSimpArgs false

/-- Bytes as numbers. -/
def nm (l : List UInt8) : List Int := l.map fun b => (b.toNat : Int)
theorem nm_append (a b : List UInt8) : nm (a ++ b) = nm a ++ nm b := by simp [nm]
theorem nm_length (l : List UInt8) : (nm l).length = l.length := by simp [nm]
theorem nm_bytesOf (l : List UInt8) : bytesOf (str l) = nm l := rfl
theorem strOfNums_nm (l : List UInt8) : strOfNums (nm l) = str l := by
  unfold strOfNums nm str
  rw [List.map_map]
  congr 2
  conv => rhs; rw [← List.map_id l]
  apply List.map_congr_left
  intro b _
  simp

/-- One character for another. -/
def swapR (p q c : Nat) : Nat := if c = p then q else c
/-- A token's text as it is told. -/
def toldR (r : List Nat) : List Nat := (r.map (swapR 183 46)).map (swapR 8725 47)

theorem zzIndex_l0 (l pat : List UInt8) (hl : l.length ≤ 4000000000) (hp : 1 ≤ pat.length) (hp2 : pat.length ≤ 100) (d : Nat) : ∀ i, i ≤ l.length → l.length - i ≤ d → ∃ b, Ev (fun k => PFnTokensBlock.asmlex_zzIndex.l0 k (str l) (str pat) (i : Int)) b ∧
    ((b = -1 ∧ ∀ j, i ≤ j → ¬ pat <+: l.drop j) ∨ ∃ j : Nat, b = (j : Int) ∧ i ≤ j ∧ pat <+: l.drop j ∧ ∀ m, i ≤ m → m < j → ¬ pat <+: l.drop m) := by
  have none' : ∀ i j : Nat, l.length < i + pat.length → i ≤ j → ¬ pat <+: l.drop j := by
    intro i j h1 h2 h3
    have := h3.length_le
    rw [List.length_drop] at this
    omega
  induction d with
  | zero =>
    intro i hi hd
    refine ⟨-1, Ev.step (f := fun _ => some (-1)) (fun k => ?_) (Ev.now _), .inl ⟨rfl, fun j hj => none' i j (by omega) hj⟩⟩
    simp only [PFnTokensBlock.asmlex_zzIndex.l0]
    rw [str_size, str_size, w64 (by omega) (by omega), if_neg (by omega)]
  | succ d ih =>
    intro i hi hd
    by_cases hlt : i + pat.length ≤ l.length
    · have hex : ((str l).extract ((i : Nat) : Int).toNat ((i : Int) + (pat.length : Int)).toNat).toList = (l.drop i).take pat.length := by
        have e1 : ((i : Int) + (pat.length : Int)).toNat = i + pat.length := by omega
        rw [str_extract, str_toList, Int.toNat_natCast, e1, Nat.add_sub_cancel_left]
      have hpre : (l.drop i).take pat.length = pat ↔ pat <+: l.drop i := by
        rw [List.prefix_iff_eq_take]
        exact eq_comm
      by_cases he : pat <+: l.drop i
      · refine ⟨(i : Int), Ev.step (f := fun _ => some (i : Int)) (fun k => ?_) (Ev.now _), .inr ⟨i, rfl, Nat.le_refl _, he, fun m h1 h2 => absurd h2 (by omega)⟩⟩
        simp only [PFnTokensBlock.asmlex_zzIndex.l0]
        rw [str_size, str_size, w64 (by omega) (by omega), if_pos (by omega), if_pos (by omega), if_pos (by omega), hex, str_toList, if_pos (hpre.2 he)]
      · obtain ⟨b, hb, hq⟩ := ih (i + 1) (by omega) (by omega)
        refine ⟨b, Ev.step (f := fun k => PFnTokensBlock.asmlex_zzIndex.l0 k (str l) (str pat) ((i + 1 : Nat) : Int)) (fun k => ?_) hb, ?_⟩
        · simp only [PFnTokensBlock.asmlex_zzIndex.l0]
          rw [str_size, str_size, w64 (by omega) (by omega), if_pos (by omega), if_pos (by omega), if_pos (by omega), hex, str_toList, if_neg (fun h => he (hpre.1 h)), w64 (by omega) (by omega)]
          rfl
        · rcases hq with ⟨h1, h2⟩ | ⟨j, h1, h2, h3, h4⟩
          · refine .inl ⟨h1, fun j hj => ?_⟩
            rcases Nat.lt_or_ge i j with h5 | h5
            · exact h2 j h5
            · obtain rfl : i = j := by omega
              exact he
          · refine .inr ⟨j, h1, by omega, h3, fun m h5 h6 => ?_⟩
            rcases Nat.lt_or_ge i m with h7 | h7
            · exact h4 m h7 h6
            · obtain rfl : i = m := by omega
              exact he
    · refine ⟨-1, Ev.step (f := fun _ => some (-1)) (fun k => ?_) (Ev.now _), .inl ⟨rfl, fun j hj => none' i j (by omega) hj⟩⟩
      simp only [PFnTokensBlock.asmlex_zzIndex.l0]
      rw [str_size, str_size, w64 (by omega) (by omega), if_neg (by omega)]

/-- Where a character's bytes stand in a text, the character stands. -/
theorem enc_find {p : Nat} (hp : p = 183 ∨ p = 8725) : ∀ (r : List Nat), (∀ x ∈ r, okR x) → ∀ m, encR p <+: (enc r).drop m → ∃ r0 r1, r = r0 ++ p :: r1 ∧ m = (enc r0).length
  | [], _, m, h => by
    exfalso
    rw [enc_nil, List.drop_nil] at h
    have h1 := h.length_le
    have h2 := encR_pos p
    rw [List.length_nil] at h1
    omega
  | c :: r, hok, m, h => by
    have hc := hok c (by simp)
    have ih := enc_find hp r (fun x hx => hok x (by simp [hx]))
    by_cases hm : (encR c).length ≤ m
    · rw [enc_cons, List.drop_append, List.drop_eq_nil_of_le hm, List.nil_append] at h
      obtain ⟨r0, r1, e1, e2⟩ := ih _ h
      refine ⟨c :: r0, r1, by rw [e1]; rfl, ?_⟩
      rw [enc_cons, List.length_append]
      omega
    · have h0 : ((enc (c :: r)).drop m).head? = (encR p).head? := by
        obtain ⟨u, hu⟩ := h
        rw [← hu]
        have := encR_pos p
        cases hq : encR p with
        | nil => rw [hq] at this; simp at this
        | cons x y => rfl
      rw [enc_cons] at h0
      rcases hc with hc | rfl | rfl
      · rw [encR_asc hc] at h0 hm
        have e0 : m = 0 := by simp at hm; omega
        subst e0
        exfalso
        have h1 : some (UInt8.ofNat c) = (encR p).head? := h0
        rcases hp with rfl | rfl
        · have h2 : UInt8.ofNat c = 194 := Option.some.inj h1
          have := congrArg UInt8.toNat h2
          rw [toNat_asc hc] at this
          have : (194 : UInt8).toNat = 194 := rfl
          omega
        · have h2 : UInt8.ofNat c = 226 := Option.some.inj h1
          have := congrArg UInt8.toNat h2
          rw [toNat_asc hc] at this
          have : (226 : UInt8).toNat = 226 := rfl
          omega
      · have hm2 : m < 2 := by simpa [encR_dot] using hm
        have hcases : m = 0 ∨ m = 1 := by omega
        rcases hcases with rfl | rfl
        · rcases hp with rfl | rfl
          · exact ⟨[], r, rfl, rfl⟩
          · exact absurd (show some (194 : UInt8) = some 226 from h0) (by decide)
        · rcases hp with rfl | rfl
          · exact absurd (show some (183 : UInt8) = some 194 from h0) (by decide)
          · exact absurd (show some (183 : UInt8) = some 226 from h0) (by decide)
      · have hm2 : m < 3 := by simpa [encR_slash] using hm
        have hcases : m = 0 ∨ m = 1 ∨ m = 2 := by omega
        rcases hcases with rfl | rfl | rfl
        · rcases hp with rfl | rfl
          · exact absurd (show some (226 : UInt8) = some 194 from h0) (by decide)
          · exact ⟨[], r, rfl, rfl⟩
        · rcases hp with rfl | rfl
          · exact absurd (show some (136 : UInt8) = some 194 from h0) (by decide)
          · exact absurd (show some (136 : UInt8) = some 226 from h0) (by decide)
        · rcases hp with rfl | rfl
          · exact absurd (show some (149 : UInt8) = some 194 from h0) (by decide)
          · exact absurd (show some (149 : UInt8) = some 226 from h0) (by decide)

theorem enc_at (p : Nat) (r0 r1 : List Nat) : encR p <+: (enc (r0 ++ p :: r1)).drop (enc r0).length := by
  rw [enc_append, List.drop_left, enc_cons]
  exact List.prefix_append _ _

/-- All the places of one character. -/
theorem replace_l0 {p q : Nat} (hp : p = 183 ∨ p = 8725) (hq : q < 128) (d : Nat) : ∀ (r : List Nat), r.length ≤ d → (∀ x ∈ r, okR x) → ∀ acc : List UInt8, acc.length + (enc r).length ≤ 1000000 →
    Ev (fun k => PFnTokensBlock.asmlex_zzReplaceAll.l0 k (str (enc r)) (str (encR p)) (str (encR q)) (nm acc)) (str (acc ++ enc (r.map (swapR p q)))) := by
  have hple := encR_le p
  have hppos := encR_pos p
  induction d with
  | zero =>
    intro r hr hok acc hacc
    obtain rfl : r = [] := List.eq_nil_of_length_eq_zero (by omega)
    obtain ⟨b, hb, hq2⟩ := zzIndex_l0 [] (encR p) (by simp) hppos (by omega) 0 0 (by simp) (by simp)
    have hbe : b = -1 := by
      rcases hq2 with ⟨h, _⟩ | ⟨j, _, _, h, _⟩
      · exact h
      · have := h.length_le
        rw [List.drop_nil, List.length_nil] at this
        omega
    subst hbe
    refine Ev.step (f := fun k => (PFnTokensBlock.asmlex_zzIndex.f k (str (enc [])) (str (encR p))).bind fun t159 => _) (fun k => by simp only [PFnTokensBlock.asmlex_zzReplaceAll.l0]; rfl) (Ev.bind (a := -1) hb ?_)
    refine Ev.congr (f := fun _ => some (str (acc ++ enc ([].map (swapR p q))))) (fun k => ?_) (Ev.now _)
    rw [if_pos (by decide), if_pos (by rw [nm_length, str_size, enc_nil] at *; simp at *; omega), nm_bytesOf, ← nm_append, strOfNums_nm]
    rfl
  | succ d ih =>
    intro r hr hok acc hacc
    obtain ⟨b, hb, hq2⟩ := zzIndex_l0 (enc r) (encR p) (by omega) hppos (by omega) (enc r).length 0 (by omega) (by omega)
    refine Ev.step (f := fun k => (PFnTokensBlock.asmlex_zzIndex.f k (str (enc r)) (str (encR p))).bind fun t159 => _) (fun k => by simp only [PFnTokensBlock.asmlex_zzReplaceAll.l0]; rfl) (Ev.bind (a := b) hb ?_)
    rcases hq2 with ⟨rfl, h2⟩ | ⟨j, rfl, _, h3, h4⟩
    · refine Ev.congr (f := fun _ => some (str (acc ++ enc (r.map (swapR p q))))) (fun k => ?_) (Ev.now _)
      have hn : p ∉ r := by
        intro hm
        obtain ⟨a, b, rfl⟩ := List.append_of_mem hm
        exact h2 _ (Nat.zero_le _) (enc_at p a b)
      have e : r.map (swapR p q) = r := by
        conv => rhs; rw [← List.map_id r]
        apply List.map_congr_left
        intro x hx
        have : x ≠ p := fun e => hn (e ▸ hx)
        simp [swapR, this]
      rw [if_pos (by decide), if_pos (by rw [nm_length, str_size]; omega), nm_bytesOf, ← nm_append, strOfNums_nm, e]
    · obtain ⟨r0, r1, rfl, rfl⟩ := enc_find hp r hok j h3
      have hn : p ∉ r0 := by
        intro hm
        obtain ⟨a, b, rfl⟩ := List.append_of_mem hm
        refine h4 (enc a).length (Nat.zero_le _) ?_ ?_
        · rw [enc_append, List.length_append, enc_cons, List.length_append]; omega
        · have := enc_at p a (b ++ p :: r1)
          simpa using this
      have e : r0.map (swapR p q) = r0 := by
        conv => rhs; rw [← List.map_id r0]
        apply List.map_congr_left
        intro x hx
        have : x ≠ p := fun e => hn (e ▸ hx)
        simp [swapR, this]
      have hlen : (enc (r0 ++ p :: r1)).length = (enc r0).length + ((encR p).length + (enc r1).length) := by rw [enc_append, enc_cons, List.length_append, List.length_append]
      have hq1 : (encR q).length = 1 := by rw [encR_asc hq]; rfl
      have h6 := ih r1 (by simp at hr; omega) (fun x hx => hok x (by simp [hx])) (acc ++ (enc r0 ++ encR q)) (by rw [List.length_append, List.length_append]; omega)
      have e2 : acc ++ enc ((r0 ++ p :: r1).map (swapR p q)) = acc ++ (enc r0 ++ encR q) ++ enc (r1.map (swapR p q)) := by
        rw [List.map_append, List.map_cons, e, enc_append, enc_cons]
        simp [swapR]
      rw [e2]
      refine Ev.congr (fun k => ?_) h6
      have x1 : (str (enc (r0 ++ p :: r1))).extract 0 ((enc r0).length : Int).toNat = str (enc r0) := by
        rw [str_extract, Int.toNat_natCast, List.drop_zero, Nat.sub_zero, enc_append, List.take_left]
      have x2 : (str (enc (r0 ++ p :: r1))).extract (((enc r0).length : Int) + ((encR p).length : Int)).toNat (str (enc (r0 ++ p :: r1))).size = str (enc r1) := by
        have e3 : (((enc r0).length : Int) + ((encR p).length : Int)).toNat = (enc r0).length + (encR p).length := by omega
        rw [str_extract, e3, str_size, List.take_of_length_le (by simp), ← List.drop_drop, enc_append, List.drop_left, enc_cons, List.drop_left]
      rw [if_neg (by omega), if_pos (by omega), if_pos (by rw [str_size]; omega), x1, if_pos (by rw [nm_length, str_size]; omega)]
      simp only [Option.bind_some]
      rw [nm_bytesOf, ← nm_append, if_pos (by rw [nm_length, str_size, List.length_append]; omega), str_size (encR p), w64 (by omega) (by omega), if_pos (by omega), if_pos (by rw [str_size]; omega), x2, nm_bytesOf, ← nm_append, List.append_assoc]

theorem swap_ok {p q : Nat} (hq : q < 128) {r : List Nat} (h : ∀ x ∈ r, okR x) : ∀ x ∈ r.map (swapR p q), okR x := by
  intro x hx
  obtain ⟨y, hy, rfl⟩ := List.mem_map.1 hx
  unfold swapR
  split
  · exact .inl hq
  · exact h y hy
theorem swap_len {p q : Nat} (hq : q < 128) (r : List Nat) : (enc (r.map (swapR p q))).length ≤ (enc r).length := by
  induction r with
  | nil => exact Nat.le_refl _
  | cons c r ih =>
    rw [List.map_cons, enc_cons, enc_cons, List.length_append, List.length_append]
    have : (encR (swapR p q c)).length ≤ (encR c).length := by
      unfold swapR
      split
      · rw [encR_asc hq]; exact encR_pos c
      · exact Nat.le_refl _
    omega

theorem make_ev (k : Int) (r : List Nat) (hok : ∀ x ∈ r, okR x) (hl : (enc r).length ≤ 1000000) : Ev (fun n => PFnTokensBlock.asmlex_Make.f n k (str (enc r))) (k, str (enc (toldR r))) := by
  have h1 := replace_l0 (p := 183) (q := 46) (.inl rfl) (by decide) r.length r (Nat.le_refl _) hok [] (by simpa using hl)
  have h2 := replace_l0 (p := 8725) (q := 47) (.inr rfl) (by decide) _ (r.map (swapR 183 46)) (Nat.le_refl _) (swap_ok (by decide) hok) [] (by have := swap_len (p := 183) (q := 46) (by decide) r; simp; omega)
  refine Ev.congr (f := fun n => (PFnTokensBlock.asmlex_zzReplaceAll.f n (str (enc r)) (str (encR 183)) (str (encR 46))).bind fun t170 => ((PFnTokensBlock.asmlex_zzReplaceAll.f n t170 (str (encR 8725)) (str (encR 47))).bind fun t171 => (some (k, t171)))) (fun n => rfl) (Ev.bind (a := str (enc (r.map (swapR 183 46)))) h1 (Ev.bind (a := str (enc (toldR r))) h2 (Ev.now _)))

/-- The reference's own Told. -/
theorem told_l0 (r : List Nat) : (∀ x ∈ r, okR x) → ∀ pre acc : List UInt8, pre.length + (enc r).length ≤ 1000000 → acc.length ≤ pre.length →
    Ev (fun k => PFnTokensBlock.spec_Told.l0 k (str (pre ++ enc r)) (nm acc) (pre.length : Int)) (str (acc ++ enc (toldR r))) := by
  induction r with
  | nil =>
    intro _ pre acc hl hle
    refine Ev.step (f := fun _ => some (str (acc ++ enc (toldR [])))) (fun k => ?_) (Ev.now _)
    simp only [PFnTokensBlock.spec_Told.l0]
    rw [if_neg (by rw [str_size, enc_nil]; simp), strOfNums_nm]
    congr 2
    exact (List.append_nil acc).symm
  | cons c r ih =>
    intro hok pre acc hl hle
    have hc := hok c (by simp)
    have hpos := encR_pos c
    have hlec := encR_le c
    have hlen : (pre ++ enc (c :: r)).length = pre.length + ((encR c).length + (enc r).length) := by rw [enc_cons, List.length_append, List.length_append]
    have hlr : (enc (c :: r)).length = (encR c).length + (enc r).length := by rw [enc_cons, List.length_append]
    have hsz : (((str (pre ++ enc (c :: r))).size : Nat) : Int) = (pre.length : Int) + (((encR c).length : Int) + ((enc r).length : Int)) := by rw [str_size, hlen]; simp
    -- what stands at the place: n bytes
    have x : ∀ n : Nat, ((str (pre ++ enc (c :: r))).extract ((pre.length : Nat) : Int).toNat ((pre.length : Int) + (n : Int)).toNat).toList = (enc (c :: r)).take n := by
      intro n
      have e1 : ((pre.length : Int) + (n : Int)).toNat = pre.length + n := by omega
      rw [str_extract, str_toList, Int.toNat_natCast, e1, List.drop_left, Nat.add_sub_cancel_left]
    have nxt : ∀ b : UInt8, swapR 8725 47 (swapR 183 46 c) = b.toNat → b.toNat < 128 → Ev (fun k => PFnTokensBlock.spec_Told.l0 k (str (pre ++ enc (c :: r))) (nm acc ++ [(b.toNat : Int)]) ((pre.length + (encR c).length : Nat) : Int)) (str (acc ++ enc (toldR (c :: r)))) := by
      intro b hb hlt
      have h1 := ih (fun x hx => hok x (by simp [hx])) (pre ++ encR c) (acc ++ [b]) (by simp only [List.length_append, List.length_cons, List.length_nil]; omega) (by simp only [List.length_append, List.length_cons, List.length_nil]; omega)
      have e1 : pre ++ encR c ++ enc r = pre ++ enc (c :: r) := by rw [enc_cons, List.append_assoc]
      have e2 : acc ++ [b] ++ enc (toldR r) = acc ++ enc (toldR (c :: r)) := by
        have : toldR (c :: r) = b.toNat :: toldR r := by
          show swapR 8725 47 (swapR 183 46 c) :: toldR r = _
          rw [hb]
        rw [this, enc_cons, encR_asc hlt, ofNat_toNat]
        simp
      rw [e1, e2, List.length_append, nm_append] at h1
      exact h1
    rcases hc with hc | rfl | rfl
    · -- a character of ASCII
      have n183 : c ≠ 183 := by omega
      have n8725 : c ≠ 8725 := by omega
      have h1 := nxt (UInt8.ofNat c) (by rw [toNat_asc hc]; simp [swapR, n183, n8725]) (by rw [toNat_asc hc]; exact hc)
      rw [encR_asc hc, toNat_asc hc] at h1
      rw [encR_asc hc] at hsz hlen hlr
      simp only [List.length_cons, List.length_nil] at hsz hlen hlr
      have hbt : bt (str (pre ++ enc (c :: r))) (pre.length : Int) = (c : Int) := by
        rw [bt_str _ _ (by omega)]
        have : (pre ++ enc (c :: r))[pre.length]'(by omega) = UInt8.ofNat c := by
          rw [List.getElem_append_right (Nat.le_refl _)]
          simp only [enc_cons, encR_asc hc, Nat.sub_self]
          rfl
        rw [this, toNat_asc hc]
      have last : ∀ k, PFnTokensBlock.spec_Told.j1 (k + 1) (str (pre ++ enc (c :: r))) (nm acc) (pre.length : Int) false = PFnTokensBlock.spec_Told.l0 k (str (pre ++ enc (c :: r))) (nm acc ++ [(c : Int)]) ((pre.length + 1 : Nat) : Int) := by
        intro k
        simp only [PFnTokensBlock.spec_Told.j1]
        rw [if_neg (by decide), w64 (by omega) (by omega), hsz]
        have fin : (if (pre.length : Int) < (pre.length : Int) + (1 + ((enc r).length : Int)) then (if (nm acc).length < 140737488355328 then (PFnTokensBlock.spec_Told.l0 k (str (pre ++ enc (c :: r))) (nm acc ++ [bt (str (pre ++ enc (c :: r))) (pre.length : Int)]) (wrap64 ((pre.length : Int) + 1))) else (none)) else (none)) = PFnTokensBlock.spec_Told.l0 k (str (pre ++ enc (c :: r))) (nm acc ++ [(c : Int)]) ((pre.length + 1 : Nat) : Int) := by
          rw [if_pos (by omega), if_pos (by rw [nm_length]; omega), hbt, w64 (by omega) (by omega)]
          rfl
        by_cases h3 : ((enc r).length : Int) ≥ 2
        · rw [if_pos (by omega), if_pos (by omega), w64 (by omega) (by omega), if_pos (by omega), if_pos (by omega)]
          have := x 3
          rw [show ((3 : Nat) : Int) = 3 from rfl] at this
          rw [this, if_neg]
          · exact fin
          · rw [enc_cons, encR_asc hc]
            intro e
            have e2 : UInt8.ofNat c = 226 := by
              have := congrArg List.head? e
              exact Option.some.inj this
            have := congrArg UInt8.toNat e2
            rw [toNat_asc hc] at this
            have : (226 : UInt8).toNat = 226 := rfl
            omega
        · rw [if_neg (by omega), if_pos (by omega)]
          exact fin
      refine Ev.step (f := fun k => PFnTokensBlock.spec_Told.j1 k (str (pre ++ enc (c :: r))) (nm acc) (pre.length : Int) false) (fun k => ?_) (Ev.step last h1)
      simp only [PFnTokensBlock.spec_Told.l0]
      rw [if_pos (by omega), w64 (by omega) (by omega), hsz]
      by_cases h2 : ((enc r).length : Int) ≥ 1
      · rw [if_pos (by omega), if_pos (by omega), w64 (by omega) (by omega), if_pos (by omega), if_pos (by omega)]
        have := x 2
        rw [show ((2 : Nat) : Int) = 2 from rfl] at this
        rw [this]
        have hf : ((enc (c :: r)).take 2 == ([194, 183] : List UInt8)) = false := by
          rw [enc_cons, encR_asc hc]
          apply beq_eq_false_iff_ne.2
          intro e
          have e2 : UInt8.ofNat c = 194 := by
            have := congrArg List.head? e
            exact Option.some.inj this
          have := congrArg UInt8.toNat e2
          rw [toNat_asc hc] at this
          have : (194 : UInt8).toNat = 194 := rfl
          omega
        rw [hf]
      · rw [if_neg (by omega)]
    · -- the point
      have h1 := nxt 46 (by decide) (by decide)
      rw [encR_dot] at hsz hlen hlr h1
      simp only [List.length_cons, List.length_nil] at hsz hlen hlr h1
      refine Ev.step (f := fun k => PFnTokensBlock.spec_Told.j1 k (str (pre ++ enc (183 :: r))) (nm acc) (pre.length : Int) true) (fun k => ?_) (Ev.step (fun k => ?_) h1)
      · simp only [PFnTokensBlock.spec_Told.l0]
        rw [if_pos (by omega), w64 (by omega) (by omega), hsz, if_pos (by omega), if_pos (by omega), w64 (by omega) (by omega), if_pos (by omega), if_pos (by omega)]
        have := x 2
        rw [show ((2 : Nat) : Int) = 2 from rfl] at this
        rw [this, enc_cons, encR_dot]
        rfl
      · simp only [PFnTokensBlock.spec_Told.j1]
        rw [if_pos trivial, if_pos (by rw [nm_length]; omega), w64 (by omega) (by omega)]
        rfl
    · -- the slash
      have h1 := nxt 47 (by decide) (by decide)
      rw [encR_slash] at hsz hlen hlr h1
      simp only [List.length_cons, List.length_nil] at hsz hlen hlr h1
      refine Ev.step (f := fun k => PFnTokensBlock.spec_Told.j1 k (str (pre ++ enc (8725 :: r))) (nm acc) (pre.length : Int) false) (fun k => ?_) (Ev.step (fun k => ?_) h1)
      · simp only [PFnTokensBlock.spec_Told.l0]
        rw [if_pos (by omega), w64 (by omega) (by omega), hsz, if_pos (by omega), if_pos (by omega), w64 (by omega) (by omega), if_pos (by omega), if_pos (by omega)]
        have := x 2
        rw [show ((2 : Nat) : Int) = 2 from rfl] at this
        rw [this, enc_cons, encR_slash]
        rfl
      · simp only [PFnTokensBlock.spec_Told.j1]
        rw [if_neg (by decide), w64 (by omega) (by omega), hsz, if_pos (by omega), if_pos (by omega), w64 (by omega) (by omega), if_pos (by omega), if_pos (by omega)]
        have := x 3
        rw [show ((3 : Nat) : Int) = 3 from rfl] at this
        rw [this, enc_cons, encR_slash, if_pos (show List.take 3 ([226, 136, 149] ++ enc r) = [226, 136, 149] from rfl), if_pos (by rw [nm_length]; omega)]
        rfl
theorem told_ev (r : List Nat) (hok : ∀ x ∈ r, okR x) (hl : (enc r).length ≤ 100000) : Ev (fun k => PFnTokensBlock.spec_Told.f k (str (enc r))) (str (enc (toldR r))) := by
  exact told_l0 r hok [] [] (by simp; omega) (by simp)
end Go.Proofs.YtmeihdlkadjoeaaGreatDoor

namespace Go.Proofs.YtmeihdlkadjoeaaGreatDoor
open Go.RowKit Go.Proofs.YtmeihdlkadjoeaaGreatDoorW.PrintWords
set_option linter.unusedVariables false
set_option linter.unusedSimpArgs false

/-- Texts of these bytes. -/
def strs (ls : List (List UInt8)) : List ByteArray := ls.map str
theorem strs_all (l : List ByteArray) : ∃ ls, l = strs ls := by
  induction l with
  | nil => exact ⟨[], rfl⟩
  | cons s l ih =>
    obtain ⟨ls, rfl⟩ := ih
    obtain ⟨x, rfl⟩ := str_all s
    exact ⟨x :: ls, rfl⟩
theorem strs_length (ls : List (List UInt8)) : (strs ls).length = ls.length := by simp [strs]
theorem rdOf_strs (ls : List (List UInt8)) (i : Nat) (h : i < ls.length) : rdOf ByteArray.empty (strs ls) (i : Int) = str ls[i] := by
  unfold rdOf strs
  rw [Int.toNat_natCast, List.getD_eq_getElem?_getD, List.getElem?_eq_getElem (by simpa using h)]
  simp

/-- No text longer than 2^31 - 1. -/
theorem fits_ev (ls : List (List UInt8)) : ∃ b, Ev (fun k => PFnTokensBlock.laws_zzFits5.f k (strs ls)) b ∧ (b = true → ls.length ≤ 2147483647 ∧ ∀ x ∈ ls, x.length ≤ 2147483647) := by
  by_cases h : ls.length ≤ 2147483647
  · have loop : ∀ d i, i ≤ ls.length → ls.length - i ≤ d → ∃ b, Ev (fun k => PFnTokensBlock.laws_zzFits5.l0 k (strs ls) (ls.length : Int) (i : Int)) b ∧ (b = true → ∀ x ∈ ls.drop i, x.length ≤ 2147483647) := by
      intro d
      induction d with
      | zero =>
        intro i hi hd
        refine ⟨true, Ev.step (f := fun _ => some true) (fun k => ?_) (Ev.now _), fun _ => by rw [List.drop_eq_nil_of_le (by omega)]; simp⟩
        simp only [PFnTokensBlock.laws_zzFits5.l0]
        rw [if_neg (by omega)]
      | succ d ih =>
        intro i hi hd
        by_cases hlt : i < ls.length
        · have hdr : ls.drop i = ls[i] :: ls.drop (i + 1) := List.drop_eq_getElem_cons hlt
          by_cases hx : ls[i].length ≤ 2147483647
          · obtain ⟨b, hb, hp⟩ := ih (i + 1) hlt (by omega)
            refine ⟨b, Ev.step (f := fun k => PFnTokensBlock.laws_zzFits5.l0 k (strs ls) (ls.length : Int) ((i + 1 : Nat) : Int)) (fun k => ?_) hb, fun hb2 x hm => ?_⟩
            · simp only [PFnTokensBlock.laws_zzFits5.l0]
              rw [if_pos (by omega), if_pos (by omega), if_pos (by rw [strs_length]; omega), rdOf_strs ls i hlt, if_neg (by rw [str_size]; omega), w64 (by omega) (by omega)]
              rfl
            · rw [hdr] at hm
              rcases List.mem_cons.1 hm with rfl | hm
              · exact hx
              · exact hp hb2 x hm
          · refine ⟨false, Ev.step (f := fun _ => some false) (fun k => ?_) (Ev.now _), fun h => by cases h⟩
            simp only [PFnTokensBlock.laws_zzFits5.l0]
            rw [if_pos (by omega), if_pos (by omega), if_pos (by rw [strs_length]; omega), rdOf_strs ls i hlt, if_pos (by rw [str_size]; omega)]
        · exact ih i hi (by omega)
    obtain ⟨b, hb, hp⟩ := loop ls.length 0 (by omega) (by omega)
    refine ⟨b, Ev.congr (fun k => by unfold PFnTokensBlock.laws_zzFits5.f; rw [strs_length, if_neg (by omega)]; rfl) hb, fun hb2 => ⟨h, fun x hx => hp hb2 x hx⟩⟩
  · exact ⟨false, Ev.congr (fun k => by unfold PFnTokensBlock.laws_zzFits5.f; rw [strs_length, if_pos (by omega)]) (Ev.now false), fun h => by cases h⟩

/-- A word: its characters, its kind; that the reference tells it so. -/
structure WordT (x : List Nat × Int) : Prop where
  word : WordR x.1 x.2
  ok : ∀ c ∈ x.1, okR c
  asc : x.2 = -2 ∨ ∀ c ∈ x.1, c < 128
  len : (enc x.1).length ≤ 60
  kind : Ev (fun n => PFnTokensBlock.spec_KindOf.f n (str (enc x.1))) x.2
def encs' (ws : List (List Nat × Int)) : List (List UInt8) := ws.map fun x => enc x.1

theorem wordsOk_ev (ls : List (List UInt8)) (hl : ls.length ≤ 2147483647) (hx : ∀ x ∈ ls, x.length ≤ 2147483647) : ∃ b, Ev (fun k => PFnTokensBlock.laws_wordsOk.f k (strs ls)) b ∧
    (b = true → ls.length ≤ 60 ∧ ∃ ws, ls = encs' ws ∧ ∀ w ∈ ws, WordT w) := by
  have loop : ∀ d i, i ≤ ls.length → ls.length - i ≤ d → ∃ b, Ev (fun k => PFnTokensBlock.laws_wordsOk.l0 k (strs ls) (strs ls) (ls.length : Int) (i : Int)) b ∧ (b = true → ls.length ≤ 60 ∧ ∃ ws, ls.drop i = encs' ws ∧ ∀ w ∈ ws, WordT w) := by
    intro d
    induction d with
    | zero =>
      intro i hi hd
      refine ⟨_, Ev.step (f := fun _ => some (decide (((strs ls).length : Int) ≤ 60))) (fun k => ?_) (Ev.now _), fun h => ⟨?_, [], by rw [List.drop_eq_nil_of_le (by omega)]; rfl, by simp⟩⟩
      · simp only [PFnTokensBlock.laws_wordsOk.l0]
        rw [if_neg (by omega)]
      · have := of_decide_eq_true h
        rw [strs_length] at this
        omega
    | succ d ih =>
      intro i hi hd
      by_cases hlt : i < ls.length
      · have hdr : ls.drop i = ls[i] :: ls.drop (i + 1) := List.drop_eq_getElem_cons hlt
        have hxi := hx ls[i] (List.getElem_mem _)
        obtain ⟨kd, hkd, hkw⟩ := kindOf_ev ls[i] (by omega)
        have stp : ∀ b, Ev (fun k => if kd = 0 then (some false) else (if ((str ls[i]).size : Int) > 60 then (some false) else (PFnTokensBlock.laws_wordsOk.l0 k (strs ls) (strs ls) (ls.length : Int) ((i + 1 : Nat) : Int)))) b → Ev (fun k => PFnTokensBlock.laws_wordsOk.l0 k (strs ls) (strs ls) (ls.length : Int) (i : Int)) b := by
          intro b h
          refine Ev.step (f := fun k => (PFnTokensBlock.spec_KindOf.f k (str ls[i])).bind fun t113 => (if t113 = 0 then (some false) else (if ((str ls[i]).size : Int) > 60 then (some false) else (PFnTokensBlock.laws_wordsOk.l0 k (strs ls) (strs ls) (ls.length : Int) ((i + 1 : Nat) : Int))))) (fun k => ?_) (Ev.bind hkd h)
          simp only [PFnTokensBlock.laws_wordsOk.l0]
          rw [if_pos (by omega), if_pos (by omega), if_pos (by rw [strs_length]; omega), rdOf_strs ls i hlt, w64 (by omega) (by omega)]
          rfl
        by_cases h0 : kd = 0
        · exact ⟨false, stp _ (Ev.congr (fun k => by rw [if_pos h0]) (Ev.now false)), fun h => by cases h⟩
        · by_cases h60 : ((str ls[i]).size : Int) > 60
          · exact ⟨false, stp _ (Ev.congr (fun k => by rw [if_neg h0, if_pos h60]) (Ev.now false)), fun h => by cases h⟩
          · obtain ⟨b, hb, hp⟩ := ih (i + 1) hlt (by omega)
            refine ⟨b, stp _ (Ev.congr (fun k => by rw [if_neg h0, if_neg h60]) hb), fun hb2 => ?_⟩
            obtain ⟨h1, ws, h2, h3⟩ := hp hb2
            obtain ⟨r, hr⟩ := hkw h0
            refine ⟨h1, (r, kd) :: ws, by rw [hdr, h2]; show _ = enc r :: _; rw [hr.enc]; rfl, fun w hw => ?_⟩
            rcases List.mem_cons.1 hw with rfl | hw
            · exact ⟨hr.word, hr.ok, hr.asc, by show (enc r).length ≤ 60; rw [hr.enc]; rw [str_size] at h60; omega, by show Ev (fun n => PFnTokensBlock.spec_KindOf.f n (str (enc r))) kd; rw [hr.enc]; exact hkd⟩
            · exact h3 w hw
      · exact ih i hi (by omega)
  obtain ⟨b, hb, hp⟩ := loop ls.length 0 (by omega) (by omega)
  refine ⟨b, Ev.congr (fun k => by unfold PFnTokensBlock.laws_wordsOk.f; rw [strs_length]; rfl) hb, fun h => ?_⟩
  obtain ⟨h1, ws, h2, h3⟩ := hp h
  exact ⟨h1, ws, h2, h3⟩

/-- A comment on one line. -/
theorem comment_l0 (l : List UInt8) (hl : l.length ≤ 4000000000) (d : Nat) : ∀ i, i ≤ l.length → l.length - i ≤ d → ∃ n : Nat, Ev (fun k => PFnTokensBlock.spec_commentLength.l0 k (str l) (i : Int)) (n : Int) ∧
    (n ≠ 0 → ∃ cs v, l.drop i = cs ++ 42 :: 47 :: v ∧ n = i + cs.length + 2 ∧ noEnd (runes cs ++ [42]) = true ∧ ∀ c ∈ cs, c.toNat ≠ 10 ∧ c.toNat < 127) := by
  induction d with
  | zero =>
    intro i hi hd
    refine ⟨0, Ev.step (f := fun _ => some 0) (fun k => ?_) (Ev.now _), fun h => absurd rfl h⟩
    simp only [PFnTokensBlock.spec_commentLength.l0]
    rw [w64 (by omega) (by omega), if_neg (by rw [str_size]; omega)]
  | succ d ih =>
    intro i hi hd
    by_cases hlt : i + 2 ≤ l.length
    · have hdr : l.drop i = l[i] :: l.drop (i + 1) := List.drop_eq_getElem_cons (by omega)
      have hb := bt_str l i (by omega)
      have bad : Ev (fun k => PFnTokensBlock.spec_commentLength.j2 k (str l) (i : Int) true) (0 : Int) := Ev.step (f := fun _ => some 0) (fun k => by simp only [PFnTokensBlock.spec_commentLength.j2]; rw [if_pos trivial]) (Ev.now _)
      have via : ∀ (b : Bool) r, (b = true ↔ (l[i].toNat = 10 ∨ l[i].toNat = 13 ∨ 127 ≤ l[i].toNat)) → Ev (fun k => PFnTokensBlock.spec_commentLength.j2 k (str l) (i : Int) b) r → Ev (fun k => PFnTokensBlock.spec_commentLength.l0 k (str l) (i : Int)) r := by
        intro b r hbb h
        refine Ev.step (fun k => ?_) h
        simp only [PFnTokensBlock.spec_commentLength.l0]
        rw [w64 (by omega) (by omega), if_pos (by rw [str_size]; omega), if_pos (by omega), if_pos (by rw [str_size]; omega), hb]
        by_cases h1 : l[i].toNat = 10
        · rw [if_pos (by omega), hbb.2 (.inl h1)]
        · rw [if_neg (by omega)]
          by_cases h2 : l[i].toNat = 13
          · rw [if_pos (by omega), hbb.2 (.inr (.inl h2))]
          · rw [if_neg (by omega)]
            congr 1
            cases b with
            | true =>
              have := hbb.1 rfl
              exact decide_eq_true (by omega)
            | false =>
              refine decide_eq_false fun h3 => ?_
              have : false = true := hbb.2 (.inr (.inr (by omega)))
              cases this
      by_cases hbad : l[i].toNat = 10 ∨ l[i].toNat = 13 ∨ 127 ≤ l[i].toNat
      · exact ⟨0, via true _ ⟨fun _ => hbad, fun _ => rfl⟩ bad, fun h => absurd rfl h⟩
      · have hex : ((str l).extract ((i : Nat) : Int).toNat ((i : Int) + 2).toNat).toList = (l.drop i).take 2 := by
          have e1 : ((i : Int) + 2).toNat = i + 2 := by omega
          rw [str_extract, str_toList, Int.toNat_natCast, e1, Nat.add_sub_cancel_left]
        by_cases he : (l.drop i).take 2 = [42, 47]
        · refine ⟨i + 2, via false _ ⟨fun h => Bool.noConfusion h, fun h => absurd h hbad⟩ (Ev.step (f := fun _ => some ((i + 2 : Nat) : Int)) (fun k => ?_) (Ev.now _)), fun _ => ⟨[], (l.drop i).drop 2, ?_, by simp, rfl, by simp⟩⟩
          · simp only [PFnTokensBlock.spec_commentLength.j2]
            rw [if_neg (by decide), if_pos (by omega), w64 (by omega) (by omega), if_pos (by omega), if_pos (by rw [str_size]; omega), hex, if_pos he]
            rfl
          · have := List.take_append_drop 2 (l.drop i)
            rw [he] at this
            exact this.symm
        · obtain ⟨n, hn, hp⟩ := ih (i + 1) (by omega) (by omega)
          refine ⟨n, via false _ ⟨fun h => Bool.noConfusion h, fun h => absurd h hbad⟩ (Ev.step (f := fun k => PFnTokensBlock.spec_commentLength.l0 k (str l) ((i + 1 : Nat) : Int)) (fun k => ?_) hn), fun h => ?_⟩
          · simp only [PFnTokensBlock.spec_commentLength.j2]
            rw [if_neg (by decide), if_pos (by omega), w64 (by omega) (by omega), if_pos (by omega), if_pos (by rw [str_size]; omega), hex, if_neg he, w64 (by omega) (by omega)]
            rfl
          · obtain ⟨cs, v, h1, h2, h3, h4⟩ := hp h
            refine ⟨l[i] :: cs, v, by rw [hdr, h1]; rfl, by rw [List.length_cons]; omega, ?_, fun c hc => ?_⟩
            · have h9 : ¬ ((l[i]).toNat = 42 ∧ ∃ q, runes cs ++ [42] = 47 :: q) := by
                rintro ⟨ha, q, hq⟩
                apply he
                rw [hdr, h1, toNat_inj (show l[i].toNat = (42 : UInt8).toNat from ha)]
                cases cs with
                | nil => simp [runes] at hq
                | cons x cs =>
                  have : x.toNat = 47 := by
                    have := congrArg List.head? hq
                    exact Option.some.inj this
                  rw [toNat_inj (show x.toNat = (47 : UInt8).toNat from this)]
                  rfl
              show noEnd (l[i].toNat :: (runes cs ++ [42])) = true
              cases hq : runes cs ++ [42] with
              | nil => rfl
              | cons x q =>
                rw [hq] at h3
                show (!((l[i].toNat) == 42 && x == 47) && noEnd (x :: q)) = true
                rw [h3, Bool.and_true, Bool.not_eq_true']
                apply Bool.eq_false_iff.2
                intro h10
                simp only [Bool.and_eq_true, beq_iff_eq] at h10
                exact h9 ⟨h10.1, q, by rw [hq, h10.2]⟩
            · rcases List.mem_cons.1 hc with rfl | hc
              · omega
              · exact h4 c hc
    · refine ⟨0, Ev.step (f := fun _ => some 0) (fun k => ?_) (Ev.now _), fun h => absurd rfl h⟩
      simp only [PFnTokensBlock.spec_commentLength.l0]
      rw [w64 (by omega) (by omega), if_neg (by rw [str_size]; omega)]

theorem comment_ev (l : List UInt8) (hl : l.length ≤ 4000000000) : ∃ n : Nat, Ev (fun k => PFnTokensBlock.spec_commentLength.f k (str l)) (n : Int) ∧
    (n ≠ 0 → ∃ cs v, l = 47 :: 42 :: (cs ++ 42 :: 47 :: v) ∧ n = cs.length + 4 ∧ noEnd (runes cs ++ [42]) = true ∧ ∀ c ∈ cs, c.toNat ≠ 10 ∧ c.toNat < 127) := by
  have bad : Ev (fun k => PFnTokensBlock.spec_commentLength.j0 k (str l) true) (0 : Int) := Ev.step (f := fun _ => some 0) (fun k => by simp only [PFnTokensBlock.spec_commentLength.j0]; rw [if_pos trivial]) (Ev.now _)
  by_cases h4 : ((str l).size : Int) < 4
  · exact ⟨0, Ev.congr (fun k => by unfold PFnTokensBlock.spec_commentLength.f; rw [if_pos h4]) bad, fun h => absurd rfl h⟩
  have h4' := h4
  rw [str_size] at h4'
  have hex : ((str l).extract 0 2).toList = l.take 2 := by
    rw [str_extract, str_toList]; rfl
  by_cases he : l.take 2 = [47, 42]
  · obtain ⟨n, hn, hp⟩ := comment_l0 l hl l.length 2 (by omega) (by omega)
    refine ⟨n, Ev.congr (f := fun k => PFnTokensBlock.spec_commentLength.j0 k (str l) false) (fun k => ?_) (Ev.step (f := fun k => PFnTokensBlock.spec_commentLength.l0 k (str l) ((2 : Nat) : Int)) (fun k => ?_) hn), fun h => ?_⟩
    · unfold PFnTokensBlock.spec_commentLength.f
      rw [if_neg h4, if_pos (by decide), if_pos (by rw [str_size]; omega), hex, he]
      rfl
    · simp only [PFnTokensBlock.spec_commentLength.j0]
      rw [if_neg (by decide)]
      rfl
    · obtain ⟨cs, v, h1, h2, h3, h5⟩ := hp h
      refine ⟨cs, v, ?_, by omega, h3, h5⟩
      have := List.take_append_drop 2 l
      rw [he, h1] at this
      exact this.symm
  · refine ⟨0, Ev.congr (fun k => ?_) bad, fun h => absurd rfl h⟩
    unfold PFnTokensBlock.spec_commentLength.f
    have hf : (((str l).extract 0 2).toList != ([47, 42] : List UInt8)) = true := by rw [hex]; simpa using he
    rw [if_neg h4, if_pos (by decide), if_pos (by rw [str_size]; omega), hf]

theorem nls_none {cs : List UInt8} (h : ∀ c ∈ cs, c.toNat ≠ 10 ∧ c.toNat < 127) : nls (runes cs) = 0 := by
  apply count_none
  intro c hc
  obtain ⟨y, hy, rfl⟩ := List.mem_map.1 hc
  have := (h y hy).1
  simpa [nNl] using this

/-- What a gap's bytes are. -/
structure GapB (l : List UInt8) (r : List Nat) : Prop where
  enc : enc r = l
  gap : GapR r 0
  head : ∀ c ∈ r.head?, gapHead c = true
  asc : ∀ c ∈ r, c < 128

theorem isGap_l0 (l : List UInt8) (hl : l.length ≤ 4000000000) (d : Nat) : ∀ i, i ≤ l.length → l.length - i ≤ d → ∃ b, Ev (fun k => PFnTokensBlock.spec_IsGap.l0 k (str l) (i : Int)) b ∧ (b = true → ∃ r, GapB (l.drop i) r) := by
  induction d with
  | zero =>
    intro i hi hd
    refine ⟨true, Ev.step (f := fun _ => some true) (fun k => ?_) (Ev.now _), fun _ => ⟨[], by rw [List.drop_eq_nil_of_le (by omega)]; rfl, .nil, by simp, by simp⟩⟩
    simp only [PFnTokensBlock.spec_IsGap.l0]
    rw [if_neg (by rw [str_size]; omega)]
  | succ d ih =>
    intro i hi hd
    by_cases hlt : i < l.length
    · have hdr : l.drop i = l[i] :: l.drop (i + 1) := List.drop_eq_getElem_cons hlt
      have hb := bt_str l i hlt
      have via : ∀ (b : Bool) r, (b = true ↔ (l[i].toNat = 32 ∨ l[i].toNat = 9)) → Ev (fun k => PFnTokensBlock.spec_IsGap.j1 k (str l) (i : Int) b) r → Ev (fun k => PFnTokensBlock.spec_IsGap.l0 k (str l) (i : Int)) r := by
        intro b r hbb h
        refine Ev.step (fun k => ?_) h
        simp only [PFnTokensBlock.spec_IsGap.l0]
        rw [if_pos (by rw [str_size]; omega), if_pos (by omega), hb]
        by_cases h1 : l[i].toNat = 32
        · rw [if_pos (by omega), hbb.2 (.inl h1)]
        · rw [if_neg (by omega)]
          congr 1
          cases b with
          | true =>
            have := hbb.1 rfl
            simp; omega
          | false =>
            apply beq_eq_false_iff_ne.2
            intro h3
            have : false = true := hbb.2 (.inr (by omega))
            cases this
      by_cases hw : l[i].toNat = 32 ∨ l[i].toNat = 9
      · obtain ⟨b, hb2, hp⟩ := ih (i + 1) hlt (by omega)
        refine ⟨b, via true _ ⟨fun _ => hw, fun _ => rfl⟩ (Ev.step (f := fun k => PFnTokensBlock.spec_IsGap.l0 k (str l) ((i + 1 : Nat) : Int)) (fun k => ?_) hb2), fun h => ?_⟩
        · simp only [PFnTokensBlock.spec_IsGap.j1]
          rw [if_pos trivial, w64 (by omega) (by omega)]
          rfl
        · obtain ⟨r, hr⟩ := hp h
          have h128 : l[i].toNat < 128 := by omega
          refine ⟨l[i].toNat :: r, ?_, .ws ?_ hr.gap, ?_, ?_⟩
          · rw [enc_cons, encR_asc h128, ofNat_toNat, hr.enc, hdr]; rfl
          · simp only [wsR, Bool.or_eq_true, beq_iff_eq]; omega
          · intro c hc
            obtain rfl : l[i].toNat = c := by simpa using hc
            simp only [gapHead, Bool.or_eq_true, beq_iff_eq]; omega
          · intro c hc
            rcases List.mem_cons.1 hc with rfl | hc
            · exact h128
            · exact hr.asc c hc
      · have hex : (str l).extract ((i : Nat) : Int).toNat (str l).size = str (l.drop i) := by
          rw [str_extract, str_size, Int.toNat_natCast, List.take_of_length_le (by simp)]
        obtain ⟨n, hn, hp⟩ := comment_ev (l.drop i) (by rw [List.length_drop]; omega)
        have stp : ∀ b, Ev (fun k => if (n : Int) = 0 then some false else PFnTokensBlock.spec_IsGap.l0 k (str l) (wrap64 ((i : Int) + n))) b → Ev (fun k => PFnTokensBlock.spec_IsGap.l0 k (str l) (i : Int)) b := fun b h =>
          via false _ ⟨fun h => Bool.noConfusion h, fun h => absurd h hw⟩ (Ev.step (f := fun k => (PFnTokensBlock.spec_commentLength.f k (str (l.drop i))).bind fun t114 => if t114 = 0 then some false else PFnTokensBlock.spec_IsGap.l0 k (str l) (wrap64 ((i : Int) + t114))) (fun k => by
            simp only [PFnTokensBlock.spec_IsGap.j1]
            rw [if_neg (by decide), if_pos (by omega), if_pos (by rw [str_size]; omega), hex]) (Ev.bind hn h))
        by_cases h0 : n = 0
        · exact ⟨false, stp _ (Ev.congr (fun k => if_pos (by omega)) (Ev.now false)), fun h => by cases h⟩
        · obtain ⟨cs, v, h1, h2, h3, h4⟩ := hp h0
          have hle : i + n ≤ l.length := by
            have := congrArg List.length h1
            simp only [List.length_drop, List.length_cons, List.length_append] at this
            omega
          obtain ⟨b, hb2, hq⟩ := ih (i + n) hle (by omega)
          refine ⟨b, stp _ (Ev.congr (fun k => by rw [if_neg (by omega), w64 (by omega) (by omega)]; rfl) hb2), fun h => ?_⟩
          obtain ⟨r, hr⟩ := hq h
          have hv : l.drop (i + n) = v := by
            rw [← List.drop_drop, h1, h2]
            have : 47 :: 42 :: (cs ++ 42 :: 47 :: v) = (47 :: 42 :: (cs ++ [42, 47])) ++ v := by simp
            rw [this, List.drop_left' (by simp)]
          have hasc : ∀ c ∈ cs, c.toNat < 128 := fun c hc => by have := (h4 c hc).2; omega
          refine ⟨47 :: 42 :: (runes cs ++ 42 :: 47 :: r), ?_, by rw [← nls_none h4]; exact .com h3 hr.gap, ?_, ?_⟩
          · rw [h1, enc_cons, enc_cons, enc_append, enc_cons, enc_cons, enc_runes cs hasc, hr.enc, hv]; rfl
          · intro c hc
            obtain rfl : 47 = c := by simpa using hc
            rfl
          · intro c hc
            rcases List.mem_cons.1 hc with rfl | hc
            · decide
            · rcases List.mem_cons.1 hc with rfl | hc
              · decide
              · rcases List.mem_append.1 hc with hc | hc
                · obtain ⟨y, hy, rfl⟩ := List.mem_map.1 hc
                  exact hasc y hy
                · rcases List.mem_cons.1 hc with rfl | hc
                  · decide
                  · rcases List.mem_cons.1 hc with rfl | hc
                    · decide
                    · exact hr.asc c hc
    · exact ih i hi (by omega)

/-- A gap: its characters. -/
structure GapT (r : List Nat) : Prop where
  gapW : GapW r
  asc : ∀ c ∈ r, c < 128
  len : (enc r).length ≤ 60
theorem isGap_ev (l : List UInt8) (hl : l.length ≤ 4000000000) : ∃ b, Ev (fun k => PFnTokensBlock.spec_IsGap.f k (str l)) b ∧ (b = true → ∃ r, enc r = l ∧ GapW r ∧ ∀ c ∈ r, c < 128) := by
  by_cases h0 : l = []
  · subst h0
    exact ⟨false, Ev.congr (fun k => by unfold PFnTokensBlock.spec_IsGap.f; rw [if_pos (str_toList [])]) (Ev.now false), fun h => by cases h⟩
  · obtain ⟨b, hb, hp⟩ := isGap_l0 l hl l.length 0 (by omega) (by omega)
    refine ⟨b, Ev.congr (fun k => by unfold PFnTokensBlock.spec_IsGap.f; rw [if_neg (by rw [str_toList]; exact h0)]; rfl) hb, fun h => ?_⟩
    obtain ⟨r, hr⟩ := hp h
    refine ⟨r, hr.enc, ⟨hr.gap, fun e => h0 ?_, hr.head⟩, hr.asc⟩
    have := hr.enc
    rw [e] at this
    exact this.symm

theorem gapsOk_ev (ls : List (List UInt8)) (hl : ls.length ≤ 2147483647) (hx : ∀ x ∈ ls, x.length ≤ 2147483647) (n : Nat) : ∃ b, Ev (fun k => PFnTokensBlock.laws_gapsOk.f k (strs ls) (n : Int)) b ∧
    (b = true → ls.length = n ∧ ∃ gs : List (List Nat), ls = gs.map enc ∧ ∀ g ∈ gs, GapT g) := by
  have loop : ∀ d i, i ≤ ls.length → ls.length - i ≤ d → ∃ b, Ev (fun k => PFnTokensBlock.laws_gapsOk.l0 k (strs ls) (n : Int) (strs ls) (ls.length : Int) (i : Int)) b ∧ (b = true → ls.length = n ∧ ∃ gs : List (List Nat), ls.drop i = gs.map enc ∧ ∀ g ∈ gs, GapT g) := by
    intro d
    induction d with
    | zero =>
      intro i hi hd
      refine ⟨_, Ev.step (f := fun _ => some (((strs ls).length : Int) == (n : Int))) (fun k => ?_) (Ev.now _), fun h => ⟨?_, [], by rw [List.drop_eq_nil_of_le (by omega)]; rfl, by simp⟩⟩
      · simp only [PFnTokensBlock.laws_gapsOk.l0]
        rw [if_neg (by omega)]
      · have := beq_iff_eq.1 h
        rw [strs_length] at this
        omega
    | succ d ih =>
      intro i hi hd
      by_cases hlt : i < ls.length
      · have hdr : ls.drop i = ls[i] :: ls.drop (i + 1) := List.drop_eq_getElem_cons hlt
        have hxi := hx ls[i] (List.getElem_mem _)
        obtain ⟨bg, hbg, hgw⟩ := isGap_ev ls[i] (by omega)
        have stp : ∀ b, Ev (fun k => if bg = true then (if ((str ls[i]).size : Int) > 60 then (some false) else (PFnTokensBlock.laws_gapsOk.l0 k (strs ls) (n : Int) (strs ls) (ls.length : Int) ((i + 1 : Nat) : Int))) else (some false)) b → Ev (fun k => PFnTokensBlock.laws_gapsOk.l0 k (strs ls) (n : Int) (strs ls) (ls.length : Int) (i : Int)) b := by
          intro b h
          refine Ev.step (f := fun k => (PFnTokensBlock.spec_IsGap.f k (str ls[i])).bind fun t116 => if t116 = true then (if ((str ls[i]).size : Int) > 60 then (some false) else (PFnTokensBlock.laws_gapsOk.l0 k (strs ls) (n : Int) (strs ls) (ls.length : Int) ((i + 1 : Nat) : Int))) else (some false)) (fun k => ?_) (Ev.bind hbg h)
          simp only [PFnTokensBlock.laws_gapsOk.l0]
          rw [if_pos (by omega), if_pos (by omega), if_pos (by rw [strs_length]; omega), rdOf_strs ls i hlt, w64 (by omega) (by omega)]
          rfl
        by_cases h0 : bg = true
        · by_cases h60 : ((str ls[i]).size : Int) > 60
          · exact ⟨false, stp _ (Ev.congr (fun k => by rw [if_pos h0, if_pos h60]) (Ev.now false)), fun h => by cases h⟩
          · obtain ⟨b, hb, hp⟩ := ih (i + 1) hlt (by omega)
            refine ⟨b, stp _ (Ev.congr (fun k => by rw [if_pos h0, if_neg h60]) hb), fun hb2 => ?_⟩
            obtain ⟨h1, gs, h2, h3⟩ := hp hb2
            obtain ⟨r, hr, hr2, hr3⟩ := hgw h0
            refine ⟨h1, r :: gs, by rw [hdr, h2, List.map_cons, hr], fun g hg => ?_⟩
            rcases List.mem_cons.1 hg with rfl | hg
            · exact ⟨hr2, hr3, by rw [hr]; rw [str_size] at h60; omega⟩
            · exact h3 g hg
        · exact ⟨false, stp _ (Ev.congr (fun k => by rw [if_neg h0]) (Ev.now false)), fun h => by cases h⟩
      · exact ih i hi (by omega)
  obtain ⟨b, hb, hp⟩ := loop ls.length 0 (by omega) (by omega)
  refine ⟨b, Ev.congr (fun k => by unfold PFnTokensBlock.laws_gapsOk.f; rw [strs_length]; rfl) hb, fun h => ?_⟩
  obtain ⟨h1, gs, h2, h3⟩ := hp h
  exact ⟨h1, gs, h2, h3⟩

/-- The bytes of words with their gaps. -/
def joinB : List (List UInt8) → List (List UInt8) → List UInt8
  | [], _ => []
  | w :: ws, [] => w ++ joinB ws []
  | w :: ws, g :: gs => w ++ (g ++ joinB ws gs)
theorem joinB_enc : ∀ (ws gs : List (List Nat)), joinB (ws.map enc) (gs.map enc) = enc (joinR ws gs)
  | [], _ => by simp [joinB, joinR, enc_nil]
  | w :: ws, [] => by
    have := joinB_enc ws []
    simp only [List.map_nil] at this
    simp [joinB, joinR, enc_append, this]
  | w :: ws, g :: gs => by
    have := joinB_enc ws gs
    simp [joinB, joinR, enc_append, this]

theorem joined_ev (ls gs : List (List UInt8)) (hl : ls.length ≤ 1000) (hx : ∀ x ∈ ls, x.length ≤ 1000) (hy : ∀ x ∈ gs, x.length ≤ 1000) : Ev (fun k => PFnTokensBlock.spec_Joined.f k (strs ls) (strs gs)) (str (joinB ls gs)) := by
  have loop : ∀ d i, i ≤ ls.length → ls.length - i ≤ d → ∀ acc : List UInt8, acc.length ≤ 2000 * i → Ev (fun k => PFnTokensBlock.spec_Joined.l0 k (strs gs) (str acc) (strs ls) (ls.length : Int) (i : Int)) (str (acc ++ joinB (ls.drop i) (gs.drop i))) := by
    intro d
    induction d with
    | zero =>
      intro i hi hd acc hacc
      refine Ev.step (f := fun _ => some (str (acc ++ joinB (ls.drop i) (gs.drop i)))) (fun k => ?_) (Ev.now _)
      simp only [PFnTokensBlock.spec_Joined.l0]
      rw [if_neg (by omega), List.drop_eq_nil_of_le (by omega)]
      simp [joinB]
    | succ d ih =>
      intro i hi hd acc hacc
      by_cases hlt : i < ls.length
      · have hdr : ls.drop i = ls[i] :: ls.drop (i + 1) := List.drop_eq_getElem_cons hlt
        have hxi := hx ls[i] (List.getElem_mem _)
        by_cases hg : i < gs.length
        · have hgr : gs.drop i = gs[i] :: gs.drop (i + 1) := List.drop_eq_getElem_cons hg
          have hyi := hy gs[i] (List.getElem_mem _)
          have h1 := ih (i + 1) hlt (by omega) (acc ++ ls[i] ++ gs[i]) (by rw [List.length_append, List.length_append]; omega)
          have e : acc ++ ls[i] ++ gs[i] ++ joinB (ls.drop (i + 1)) (gs.drop (i + 1)) = acc ++ joinB (ls.drop i) (gs.drop i) := by
            rw [hdr, hgr]
            simp [joinB]
          rw [e] at h1
          refine Ev.step (fun k => ?_) h1
          simp only [PFnTokensBlock.spec_Joined.l0]
          rw [if_pos (by omega), if_pos (by omega), if_pos (by rw [strs_length]; omega), rdOf_strs ls i hlt, if_pos (by rw [str_size, str_size]; omega), if_pos (by rw [strs_length]; omega), rdOf_strs gs i hg, str_append,
            if_pos (by rw [str_size, str_size, List.length_append]; omega), str_append, w64 (by omega) (by omega)]
          rfl
        · have h1 := ih (i + 1) hlt (by omega) (acc ++ ls[i]) (by rw [List.length_append]; omega)
          have e : acc ++ ls[i] ++ joinB (ls.drop (i + 1)) (gs.drop (i + 1)) = acc ++ joinB (ls.drop i) (gs.drop i) := by
            rw [hdr, List.drop_eq_nil_of_le (show gs.length ≤ i by omega), List.drop_eq_nil_of_le (show gs.length ≤ i + 1 by omega)]
            simp [joinB]
          rw [e] at h1
          refine Ev.step (fun k => ?_) h1
          simp only [PFnTokensBlock.spec_Joined.l0]
          rw [if_pos (by omega), if_pos (by omega), if_pos (by rw [strs_length]; omega), rdOf_strs ls i hlt, if_pos (by rw [str_size, str_size]; omega), if_neg (by rw [strs_length]; omega), str_append, w64 (by omega) (by omega)]
          rfl
      · exact ih i hi (by omega) acc hacc
  have := loop ls.length 0 (by omega) (by omega) [] (by simp)
  exact Ev.congr (fun k => by unfold PFnTokensBlock.spec_Joined.f; rw [strs_length]; rfl) this
end Go.Proofs.YtmeihdlkadjoeaaGreatDoor
