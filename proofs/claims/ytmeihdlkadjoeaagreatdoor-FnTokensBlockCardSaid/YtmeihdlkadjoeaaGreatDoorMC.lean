/- Which characters stand in a name: asmlex.isIdentRune, (*Scanner).isIdentRune. The scanner at a place of its text: the head of l is the character that it has read last. scanComment, scanString. isDecimal, lower, isHex, digits. scanNumber. Peek, Next; what turns the scanner's other fields. TokenText. -/
import Derived.Test.YtmeihdlkadjoeaaGreatDoorMB
import Derived.Shelf.Unicode.PredsPay
import Derived.WalkKit
import Derived.Test.YtmeihdlkadjoeaaGreatDoorNany
import Derived.Deep.LoopGhost
import Derived.Lib.BufferRead
namespace Go.Proofs.YtmeihdlkadjoeaaGreatDoor
open Go.RowKit
set_option linter.unusedVariables false
set_option linter.unusedSimpArgs false

/-- .. and of package unicode's tables, which are as they were when the call began (w0). -/
structure GlobI (B : Nat) (w : World) : Prop where
  glob : Glob B w
  ini : ∃ w0 : World, w0.heap.size = B ∧ Below B w0 w ∧ Lib.TabIs Tryz.prog w0 "unicode.properties" .u8 Lib.propertiesTab ∧ Lib.RVar 1 Lib.letterT w0
theorem GlobI.below {B : Nat} {w w' : World} (h : GlobI B w) (hb : Below B w w') : GlobI B w' := by
  obtain ⟨w0, h0, h1, h2, h3⟩ := h.ini
  exact ⟨h.glob.below hb, w0, h0, h1.trans hb, h2, h3⟩
theorem GlobI.props {B : Nat} {w : World} (h : GlobI B w) : Lib.TabIs Tryz.prog w "unicode.properties" .u8 Lib.propertiesTab := by
  obtain ⟨w0, rfl, h1, h2, h3⟩ := h.ini
  exact TabIs_below (g := 0) (by kernel_rfl) h2 h1
theorem GlobI.letter {B : Nat} {w : World} (h : GlobI B w) : Lib.RVar 1 Lib.letterT w := by
  obtain ⟨w0, rfl, h1, h2, h3⟩ := h.ini
  exact RVar_below h3 h1

/-- A character that may begin a name; a digit. -/
def letR (c : Nat) : Bool := decide (97 ≤ c ∧ c ≤ 122) || decide (65 ≤ c ∧ c ≤ 90) || decide (c = 95) || decide (c = 183) || decide (c = 8725)
def digR (c : Nat) : Bool := decide (48 ≤ c ∧ c ≤ 57)
/-- .. that may stand at place i of a name. -/
def identR (c i : Nat) : Bool := letR c || decide (0 < i) && digR c

set_option maxRecDepth 100000 in
theorem letter_asc : ∀ c : Nat, c < 128 → c ≠ 95 → Lib.isLetterL (c : Int) = letR c := by decide +kernel

theorem ident_asc (c i : Nat) (w : World) (hc : c < 128) (hi : i ≤ 2000000) (hw : Lib.TabIs Tryz.prog w "unicode.properties" .u8 Lib.propertiesTab) :
    Calls Tryz.prog 38 #[.int .i32 c, .int .i64 i] w fun e w' => e = .returned (.bool (identR c i)) ∧ Below w.heap.size w w' := by
  have hL := Tryz.unicode_IsLetter c w (by omega) hw
  by_cases h95 : c = 95
  · subst h95
    have e : Lib.isLetterL ((95 : Nat) : Int) = false := by decide
    rw [e] at hL
    have hi2 : identR 95 i = true := by unfold identR letR; simp
    rw [hi2]
    have hH := Lib.hid hL
    clear hL hw
    go_enter Tryz.func38, Tryz.ntmps38
    go_wp2_with (go_at_call 47; refine hH.out.mono ?_)
    rintro e w' ⟨rfl, rfl⟩
    go_wp2_with fail
    go_ret
    exact ⟨rfl, Below.refl _ _⟩
  · rw [letter_asc c hc h95] at hL
    by_cases hl : letR c = true
    · rw [hl] at hL
      have hi2 : identR c i = true := by unfold identR; rw [hl]; rfl
      rw [hi2]
      have hH := Lib.hid hL
      clear hL hw
      go_enter Tryz.func38, Tryz.ntmps38
      go_wp2_with (go_at_call 47; refine hH.out.mono ?_)
      rintro e w' ⟨rfl, rfl⟩
      go_wp2_with fail
      go_ret
      exact ⟨rfl, Below.refl _ _⟩
    · have hl2 : letR c = false := by simpa using hl
      rw [hl2] at hL
      have hi2 : identR c i = (decide (0 < i) && digR c) := by unfold identR; rw [hl2]; rfl
      have e95 : ((c : Int) == 95) = false := by simp; omega
      have e183 : ((c : Int) == 183) = false := by simp; omega
      have e8725 : ((c : Int) == 8725) = false := by simp; omega
      have hD := fun W : World => Tryz.unicode_IsDigit (c : Int) W (by omega)
      have eD : Lib.isDigitL (c : Int) = digR c := by unfold Lib.isDigitL digR; congr 1; simp; omega
      rw [hi2]
      simp only [eD] at hD
      have hDD := Lib.hid hD
      have hH := Lib.hid hL
      clear hL hw hD hl eD
      by_cases h0 : 0 < i
      · have h1 : (0 : Int) < (i : Int) := by omega
        go_enter Tryz.func38, Tryz.ntmps38
        go_wp2_with (first | (go_at_call 47; refine hH.out.mono ?_) | (go_at_call 48; refine (hDD.out _).mono ?_))
        rintro e w' ⟨rfl, rfl⟩
        go_wp2_with (first | (go_at_call 47; refine hH.out.mono ?_) | (go_at_call 48; refine (hDD.out _).mono ?_))
        rintro e w' ⟨rfl, rfl⟩
        go_wp2_with fail
        go_ret
        exact ⟨by simp [h0], Below.refl _ _⟩
      · have h1 : ¬ (0 : Int) < (i : Int) := by omega
        go_enter Tryz.func38, Tryz.ntmps38
        go_wp2_with (first | (go_at_call 47; refine hH.out.mono ?_) | (go_at_call 48; refine (hDD.out _).mono ?_))
        go_ret
        exact ⟨by simp [h0], Below.refl _ _⟩

/-- The two characters beyond ASCII stand at every place. -/
theorem ident_more (c i : Nat) (w : World) (hc : c = 183 ∨ c = 8725) (hi : i ≤ 2000000) (hw : Lib.TabIs Tryz.prog w "unicode.properties" .u8 Lib.propertiesTab) (hV : Lib.RVar 1 Lib.letterT w) :
    Calls Tryz.prog 38 #[.int .i32 c, .int .i64 i] w fun e w' => e = .returned (.bool (identR c i)) ∧ Below w.heap.size w w' := by
  have hL := Tryz.unicode_IsLetter_any Lib.letterT c w (by omega) (by omega) hw hV Lib.letterT_ok
  have hi2 : identR c i = true := by
    unfold identR letR
    rcases hc with rfl | rfl <;> simp
  rw [hi2]
  generalize (if Lib.latin1 (c : Int) then Lib.isLetterL (c : Int) else Lib.exclGo Lib.letterT (c : Int)) = b at hL
  have hH := Lib.hid hL
  clear hL hw hV hi2
  cases b with
  | true =>
    go_enter Tryz.func38, Tryz.ntmps38
    go_wp2_with (go_at_call 47; refine hH.out.mono ?_)
    rintro e w' ⟨rfl, hb⟩
    go_wp2_with fail
    go_ret
    exact ⟨rfl, hb⟩
  | false =>
    rcases hc with rfl | rfl
    · go_enter Tryz.func38, Tryz.ntmps38
      go_wp2_with (go_at_call 47; refine hH.out.mono ?_)
      rintro e w' ⟨rfl, hb⟩
      go_wp2_with fail
      go_ret
      exact ⟨rfl, hb⟩
    · go_enter Tryz.func38, Tryz.ntmps38
      go_wp2_with (go_at_call 47; refine hH.out.mono ?_)
      rintro e w' ⟨rfl, hb⟩
      go_wp2_with fail
      go_ret
      exact ⟨rfl, hb⟩

theorem ident_ok {B : Nat} (c i : Nat) (w : World) (hc : okR c) (hi : i ≤ 2000000) (hw : GlobI B w) :
    Calls Tryz.prog 38 #[.int .i32 c, .int .i64 i] w fun e w' => e = .returned (.bool (identR c i)) ∧ Below w.heap.size w w' := by
  rcases hc with hc | hc
  · exact ident_asc c i w hc hi hw.props
  · exact ident_more c i w hc hi hw.props hw.letter

end Go.Proofs.YtmeihdlkadjoeaaGreatDoor

namespace Go.Proofs.YtmeihdlkadjoeaaGreatDoor
open Go.RowKit
set_option linter.unusedVariables false
set_option linter.unusedSimpArgs false

/-- What the scanner's function value is. -/
def identV : Value := .func (.func 38) #[] #[]

/-- From world w0 and the fields s0 on the scanner has come to l, the text gathered ahead of l is txt. -/
def At (B S R : Nat) (w0 : World) (s0 : Sc) (w : World) (l : List Nat) (txt : Option (List UInt8)) : Prop :=
  ∃ s, Lx B S R w s l.tail (headB l) txt ∧ Same s0 s ∧ Fr B S R w0 w ∧ GlobI B w

theorem At.below {B S R : Nat} {w0 w w' : World} {s0 : Sc} {l : List Nat} {txt : Option (List UInt8)} (h : At B S R w0 s0 w l txt) (hb : Below w.heap.size w w') : At B S R w0 s0 w' l txt := by
  obtain ⟨s, h1, h2, h3, h4⟩ := h
  exact ⟨s, ⟨h1.inp.below hb, h1.len, h1.le, h1.sg, h1.tk⟩, h2, h3.below hb h1.inp.hw, h4.below (hb.mono h1.inp.hw)⟩
theorem At.drewN {B S R : Nat} {w0 w : World} {s0 : Sc} {l : List Nat} {txt : Option (List UInt8)} (h : At B S R w0 s0 w l txt) (n : Nat) : At B S R w0 s0 (w.drewN n) l txt := h.below ⟨rfl, rfl, rfl, Nat.le_refl _, fun _ _ => rfl⟩

theorem At.next {B S R : Nat} {w0 w : World} {s0 : Sc} {l : List Nat} {txt : Option (List UInt8)} (h : At B S R w0 s0 w l txt) :
    Calls Tryz.prog 50 #[.pointer (some ⟨S, 0, none⟩)] w fun e w' =>
      e = .returned (.int .i32 (headR l.tail)) ∧ At B S R w0 s0 w' l.tail (txt.map (· ++ headB l)) := by
  obtain ⟨s, h1, h2, h3, h4⟩ := h
  refine (next_lx h1 h4.glob).mono ?_
  rintro e w' ⟨he, s', k1, k2, k3, k4⟩
  exact ⟨he, s', k1, h2.trans k2, h3.trans k3, h4.below k3.1⟩

theorem below_drewN' {B : Nat} (w : World) (k : Nat) : Below B w (w.drewN k) := ⟨rfl, rfl, rfl, Nat.le_refl _, fun _ _ => rfl⟩
theorem headB_enc (l : List Nat) : headB l = enc (l.take 1) := by cases l <;> simp [headB, enc]
theorem headR_ge (l : List Nat) : -1 ≤ headR l := by cases l <;> simp [headR] <;> omega
theorem headR_le {l : List Nat} (h : ∀ c ∈ l, okR c) : headR l ≤ 8725 := by
  cases l with
  | nil => simp [headR]
  | cons c l =>
    have := h c (by simp)
    unfold okR at this
    simp [headR]; omega

/-- .. within a name -/
def idR (c : Nat) : Bool := identR c 1
/-- What may stand at a place i of a name: the scanner's own question. -/
def headI (l : List Nat) (i : Nat) : Bool := match l with
  | [] => false
  | c :: _ => identR c i

theorem neq_func (w : World) : (binOp .neq 67 identV .nilFunc).run Tryz.prog w = .ok (.bool true) w := by kernel_rfl

set_option maxRecDepth 10000 in
theorem At.isIdent {B S R : Nat} {w0 w : World} {s0 : Sc} {l : List Nat} {txt : Option (List UInt8)} (h : At B S R w0 s0 w l txt) (hid : s0.ident = identV) (hok : ∀ c ∈ l, okR c) (i : Nat) (hi : i ≤ 2000000) :
    Calls Tryz.prog 52 #[.pointer (some ⟨S, 0, none⟩), .int .i32 (headR l), .int .i64 i] w fun e w' =>
      e = .returned (.bool (headI l i)) ∧ At B S R w0 s0 w' l txt := by
  have c1043 : ∃ s, w.cell? ⟨S, 1043, none⟩ = some identV ∧ GlobI B w ∧ ScAt w S s := by
    obtain ⟨s, h1, h2, h3, h4⟩ := h
    refine ⟨s, ?_, h4, h1.inp.sc⟩
    have e : s.ident = identV := h2.2.2.2.1.trans hid
    rw [← e]; exact h1.inp.sc.cell 1043
  obtain ⟨s, c1043, hG, _⟩ := c1043
  have hnf := neq_func
  have H := Lib.hid h
  cases l with
  | nil =>
    clear h hG hok hid
    unfold identV at c1043 hnf
    go_enter Tryz.func52, Tryz.ntmps52
    go_wp2_with fail
    go_ret
    exact ⟨rfl, H.out⟩
  | cons c rs =>
    have hI := Lib.hid (ident_ok c i w (hok c (by simp)) hi hG)
    have hneg : (headR (c :: rs) != -1) = true := by simp [headR]
    clear h hG hok hid
    unfold identV at c1043 hnf
    go_enter Tryz.func52, Tryz.ntmps52
    go_wp2_with (go_at_call 38; refine hI.out.mono ?_)
    rintro e w' ⟨rfl, hb⟩
    go_wp2_with fail
    go_ret
    exact ⟨rfl, H.out.below hb⟩

set_option maxRecDepth 10000 in
theorem At.scanIdentifier {B S R : Nat} {w0 w : World} {s0 : Sc} {l : List Nat} {txt : Option (List UInt8)} (h : At B S R w0 s0 w l txt) (hid : s0.ident = identV) (hok : ∀ c ∈ l, okR c) (hl : l.length ≤ 1000000) :
    Calls Tryz.prog 53 #[.pointer (some ⟨S, 0, none⟩)] w fun e w' =>
      e = .returned (.int .i32 (headR (l.tail.dropWhile idR))) ∧ At B S R w0 s0 w' (l.tail.dropWhile idR) (txt.map (· ++ (headB l ++ enc (l.tail.takeWhile idR)))) := by
  have H := Lib.hid h
  have HO := Lib.hid hok
  clear h hok
  go_enter Tryz.func53, Tryz.ntmps53
  go_wp2_with (go_at_call 50; refine H.out.next.mono ?_)
  rintro e w1 ⟨rfl, h1⟩
  have H1 := Lib.hid h1
  clear h1
  go_wp2_with fail
  go_loopg [3, 4] (l.length + 1) (fun k ch i wr => ∃ (l' : List Nat) (n : Nat) (t' : Option (List UInt8)), At B S R w0 s0 wr l' t' ∧ ch = .int .i32 (headR l') ∧ i = .int .i64 (n : Int) ∧ 1 ≤ n ∧ n + l'.length ≤ l.length + 1 ∧ (∀ c ∈ l', okR c) ∧
    l'.dropWhile idR = l.tail.dropWhile idR ∧ t'.map (· ++ enc (l'.takeWhile idR)) = txt.map (· ++ (headB l ++ enc (l.tail.takeWhile idR))) ∧ l'.length < k)
  case atStart =>
    refine ⟨l.tail, 1, _, H1.out, rfl, rfl, Nat.le_refl _, by simp; omega, fun c hc => HO.out c (List.mem_of_mem_tail hc), rfl, ?_, by simp; omega⟩
    cases txt <;> simp
  case round =>
    clear H H1
    obtain ⟨l', n, t', h', rfl, rfl, hn1, hn, hok', hdr, htk, hk⟩ := hrel
    have hq := Lib.hid (h'.isIdent hid hok' n (by omega))
    have HD := Lib.hid hdr
    have HT := Lib.hid htk
    have HK := Lib.hid hok'
    clear h' hok' hdr htk
    have eI : headI l' n = headI l' 1 := by
      cases l' with
      | nil => rfl
      | cons c rs => have : 0 < n := by omega
                     simp [headI, identR, this]
    rw [eI] at hq
    clear eI
    by_cases hi : headI l' 1 = true
    · rw [hi] at hq
      obtain ⟨c, rs, rfl⟩ : ∃ c rs, l' = c :: rs := by
        cases l' with
        | nil => cases hi
        | cons c rs => exact ⟨c, rs, rfl⟩
      have hI := Lib.hid hi
      clear hi
      have q1 : IntKind.i64.wrap ((n : Int) + 1) = (n : Int) + 1 := IntWalk.i64_in _ (by omega)
      go_wp2_with (go_at_call 52; refine hq.out.mono ?_)
      first | rintro e w2 rfl h2 | rintro e w2 ⟨rfl, h2⟩
      have H2 := Lib.hid h2
      clear h2
      go_wp2_with (go_at_call 50; refine H2.out.next.mono ?_)
      first | rintro e w3 rfl h3 | rintro e w3 ⟨rfl, h3⟩
      have H3 := Lib.hid h3
      clear h3
      go_wp2_with fail
      go_roundg (rs.length + 1)
      case measure => simp at hk; omega
      case rel =>
        have hic : idR c = true := hI.out
        refine ⟨rs, n + 1, _, H3.out, rfl, rfl, by omega, by simp at hn; omega, fun x hx => HK.out x (by simp [hx]), ?_, ?_, Nat.lt_succ_self _⟩
        · rw [← HD.out, List.dropWhile_cons_of_pos hic]
        · rw [← HT.out, List.takeWhile_cons_of_pos hic]
          cases t' <;> simp [headB, enc_cons]
    · have hi2 : headI l' 1 = false := by simpa using hi
      rw [hi2] at hq
      have hI := Lib.hid hi2
      clear hi hi2
      go_wp2_with (go_at_call 52; refine hq.out.mono ?_)
      first | rintro e w2 rfl h2 | rintro e w2 ⟨rfl, h2⟩
      have H2 := Lib.hid h2
      clear h2
      go_wp2_with fail
      go_ret
      have e1 : l'.dropWhile idR = l' := by
        cases l' with
        | nil => rfl
        | cons c rs => exact List.dropWhile_cons_of_neg (by simpa [headI, idR] using hI.out)
      have e2 : l'.takeWhile idR = [] := by
        cases l' with
        | nil => rfl
        | cons c rs => exact List.takeWhile_cons_of_neg (by simpa [headI, idR] using hI.out)
      have hT := HT.out
      rw [e2] at hT
      refine ⟨by rw [← HD.out, e1]; rfl, ?_⟩
      rw [← HD.out, e1, ← hT]
      have : t'.map (· ++ enc []) = t' := by cases t' <;> simp [enc]
      rw [this]
      exact H2.out

end Go.Proofs.YtmeihdlkadjoeaaGreatDoor

namespace Go.Proofs.YtmeihdlkadjoeaaGreatDoor
open Go.RowKit
set_option linter.unusedVariables false
set_option linter.unusedSimpArgs false

/-- Not the end of a line. -/
def nNl (c : Nat) : Bool := c != 10

set_option maxRecDepth 10000 in
theorem At.lineComment {B S R : Nat} {w0 w : World} {s0 : Sc} {l : List Nat} {txt : Option (List UInt8)} (h : At B S R w0 s0 w l txt) :
    Calls Tryz.prog 58 #[.pointer (some ⟨S, 0, none⟩), .int .i32 47] w fun e w' =>
      e = .returned (.int .i32 (headR (l.tail.dropWhile nNl))) ∧ At B S R w0 s0 w' (l.tail.dropWhile nNl) (txt.map (· ++ (headB l ++ enc (l.tail.takeWhile nNl)))) := by
  have H := Lib.hid h
  clear h
  go_enter Tryz.func58, Tryz.ntmps58
  go_wp2_with (go_at_call 50; refine H.out.next.mono ?_)
  rintro e w1 ⟨rfl, h1⟩
  have H1 := Lib.hid h1
  clear h1
  go_wp2_with fail
  go_loopg [1] (l.length + 1) (fun k ch wr => ∃ (l' : List Nat) (t' : Option (List UInt8)), At B S R w0 s0 wr l' t' ∧ ch = .int .i32 (headR l') ∧
    l'.dropWhile nNl = l.tail.dropWhile nNl ∧ t'.map (· ++ enc (l'.takeWhile nNl)) = txt.map (· ++ (headB l ++ enc (l.tail.takeWhile nNl))) ∧ l'.length < k)
  case atStart =>
    refine ⟨l.tail, _, H1.out, rfl, rfl, ?_, by simp; omega⟩
    cases txt <;> simp
  case round =>
    clear H H1
    obtain ⟨l', t', h', rfl, hdr, htk, hk⟩ := hrel
    have H' := Lib.hid h'
    have HD := Lib.hid hdr
    have HT := Lib.hid htk
    clear h' hdr htk
    have fin : l'.dropWhile nNl = l' → l'.takeWhile nNl = [] → ∀ wr', At B S R w0 s0 wr' l' t' → headR l' = headR (l.tail.dropWhile nNl) ∧ At B S R w0 s0 wr' (l.tail.dropWhile nNl) (txt.map (· ++ (headB l ++ enc (l.tail.takeWhile nNl)))) := by
      intro e1 e2 wr' hA
      rw [← HD.out, ← HT.out, e1, e2]
      have : t'.map (· ++ enc []) = t' := by cases t' <;> simp [enc]
      rw [this]
      exact ⟨rfl, hA⟩
    have FIN := Lib.hid fin
    clear fin
    cases l' with
    | nil =>
      have hr : headR [] = -1 := rfl
      go_wp2_with fail
      go_ret
      obtain ⟨e1, e2⟩ := FIN.out rfl rfl _ H'.out
      exact ⟨by rw [← e1]; rfl, e2⟩
    | cons c rs =>
      by_cases h10 : c = 10
      · subst h10
        have hr : headR (10 :: rs) = 10 := rfl
        go_wp2_with fail
        go_ret
        obtain ⟨e1, e2⟩ := FIN.out rfl rfl _ H'.out
        exact ⟨by rw [← e1]; rfl, e2⟩
      · have hr : headR (c :: rs) = (c : Int) := rfl
        have g1 : ((c : Int) != 10) = true := by simp; omega
        have g2 : (0 : Int) ≤ (c : Int) := by omega
        go_wp2_with (go_at_call 50; refine H'.out.next.mono ?_)
        first | rintro e w3 rfl h3 | rintro e w3 ⟨rfl, h3⟩
        have H3 := Lib.hid h3
        clear h3
        go_wp2_with fail
        go_roundg (rs.length + 1)
        case measure => simpa using hk
        case rel =>
          have hn : nNl c = true := by simp [nNl]; omega
          refine ⟨rs, _, H3.out, rfl, ?_, ?_, Nat.lt_succ_self _⟩
          · rw [← HD.out, List.dropWhile_cons_of_pos hn]
          · rw [← HT.out, List.takeWhile_cons_of_pos hn]
            cases t' <;> simp [headB, enc_cons]

/-- No '*' with a '/' behind it. -/
def noEnd : List Nat → Bool
  | a :: b :: l => !(a == 42 && b == 47) && noEnd (b :: l)
  | _ => true
theorem noEnd_tail {a : Nat} {l : List Nat} (h : noEnd (a :: l) = true) : noEnd l = true := by
  cases l with
  | nil => rfl
  | cons b l => simp [noEnd] at h; exact h.2
theorem noEnd_head {a b : Nat} {l : List Nat} (h : noEnd (a :: b :: l) = true) (ha : a = 42) : b ≠ 47 := by
  simp [noEnd] at h
  rcases h.1 with h1 | h1
  · exact absurd ha h1
  · exact h1

set_option maxRecDepth 10000 in
theorem At.blockComment {B S R : Nat} {w0 w : World} {s0 : Sc} {c0 : Nat} {cs rest : List Nat} {txt : Option (List UInt8)} (h : At B S R w0 s0 w (c0 :: (cs ++ 42 :: 47 :: rest)) txt) (hne : noEnd (cs ++ [42]) = true) :
    Calls Tryz.prog 58 #[.pointer (some ⟨S, 0, none⟩), .int .i32 42] w fun e w' =>
      e = .returned (.int .i32 (headR rest)) ∧ At B S R w0 s0 w' rest (txt.map (· ++ enc (c0 :: (cs ++ [42, 47])))) := by
  have H := Lib.hid h
  have HN := Lib.hid hne
  clear h hne
  go_enter Tryz.func58, Tryz.ntmps58
  go_wp2_with (go_at_call 50; refine H.out.next.mono ?_)
  rintro e w1 ⟨rfl, h1⟩
  have H1 := Lib.hid h1
  clear h1
  go_wp2_with fail
  go_loopg [1, 5] (cs.length + 1) (fun k ch _ wr => ∃ (ds : List Nat) (t' : Option (List UInt8)), At B S R w0 s0 wr (ds ++ 42 :: 47 :: rest) t' ∧ ch = .int .i32 (headR (ds ++ 42 :: 47 :: rest)) ∧
    noEnd (ds ++ [42]) = true ∧ t'.map (· ++ enc (ds ++ [42, 47])) = txt.map (· ++ enc (c0 :: (cs ++ [42, 47]))) ∧ ds.length < k)
  case atStart =>
    refine ⟨cs, _, H1.out, rfl, HN.out, ?_, Nat.lt_succ_self _⟩
    cases txt <;> simp [headB, enc_cons]
  case round =>
    clear H H1 HN
    obtain ⟨ds, t', h', rfl, hno, htk, hk⟩ := hrel
    have H' := Lib.hid h'
    have HN := Lib.hid hno
    have HT := Lib.hid htk
    clear h' hno htk
    cases ds with
    | nil =>
      have hr : headR ([] ++ 42 :: 47 :: rest) = 42 := rfl
      have hr2 : headR ([] ++ 42 :: 47 :: rest).tail = 47 := rfl
      go_wp2_with (go_at_call 50; refine H'.out.next.mono ?_)
      first | rintro e w3 rfl h3 | rintro e w3 ⟨rfl, h3⟩
      have H3 := Lib.hid h3
      clear h3
      go_wp2_with (go_at_call 50; refine H3.out.next.mono ?_)
      first | rintro e w4 rfl h4 | rintro e w4 ⟨rfl, h4⟩
      have H4 := Lib.hid h4
      clear h4
      go_wp2_with fail
      go_ret
      refine ⟨rfl, ?_⟩
      have e4 := H4.out
      rw [← HT.out]
      have : (t'.map (· ++ headB ([] ++ 42 :: 47 :: rest))).map (· ++ headB ([] ++ 42 :: 47 :: rest).tail) = t'.map (· ++ enc ([] ++ [42, 47])) := by
        cases t' <;> simp [headB, enc_cons, enc_nil]
      rw [this] at e4
      exact e4
    | cons d ds =>
      have hr : headR (d :: ds ++ 42 :: 47 :: rest) = (d : Int) := rfl
      have hr' : headR (d :: (ds ++ 42 :: 47 :: rest)) = (d : Int) := rfl
      have g0 : ¬ (d : Int) < 0 := by omega
      have step : ∀ wr', At B S R w0 s0 wr' (d :: ds ++ 42 :: 47 :: rest).tail (t'.map (· ++ headB (d :: ds ++ 42 :: 47 :: rest))) → 
          (∃ (ds' : List Nat) (t'' : Option (List UInt8)), At B S R w0 s0 wr' (ds' ++ 42 :: 47 :: rest) t'' ∧ Value.int .i32 (headR (ds ++ 42 :: 47 :: rest)) = .int .i32 (headR (ds' ++ 42 :: 47 :: rest)) ∧
    noEnd (ds' ++ [42]) = true ∧ t''.map (· ++ enc (ds' ++ [42, 47])) = txt.map (· ++ enc (c0 :: (cs ++ [42, 47]))) ∧ ds'.length < ds.length + 1) := fun wr' hA => by
        refine ⟨ds, _, hA, rfl, noEnd_tail HN.out, ?_, Nat.lt_succ_self _⟩
        rw [← HT.out]
        cases t' <;> simp [headB, enc_cons]
      have h47' : d = 42 → headR (ds ++ 42 :: 47 :: rest) ≠ 47 := by
        intro hd
        cases ds with
        | nil => simp [headR]
        | cons b ds =>
          have := noEnd_head HN.out hd
          simp [headR]; omega
      generalize hr2 : headR (ds ++ 42 :: 47 :: rest) = x at step h47'
      have ST := Lib.hid step
      clear step
      by_cases hd : d = 42
      · subst hd
        have h47 : ¬ x = 47 := h47' rfl
        have g47 : (x == 47) = false := by simpa using h47
        clear h47'
        have g42 : (((42 : Nat) : Int) == 42) = true := rfl
        go_wp2_with (go_at_call 50; refine H'.out.next.mono ?_)
        first | rintro e w3 rfl h3 | rintro e w3 ⟨rfl, h3⟩
        have H3 := Lib.hid h3
        clear h3
        go_wp2_with fail
        go_roundg (ds.length + 1)
        case measure => simpa using hk
        case rel => exact ST.out _ H3.out
      · have g42 : ((d : Int) == 42) = false := by simp; omega
        clear h47'
        go_wp2_with (go_at_call 50; refine H'.out.next.mono ?_)
        first | rintro e w3 rfl h3 | rintro e w3 ⟨rfl, h3⟩
        have H3 := Lib.hid h3
        clear h3
        go_wp2_with fail
        go_roundg (ds.length + 1)
        case measure => simpa using hk
        case rel => exact ST.out _ H3.out

/-- A character within a string: no quotation mark, no backslash, no end of a line. -/
def strR (c : Nat) : Bool := c != 34 && c != 92 && c != 10

set_option maxRecDepth 10000 in
theorem At.scanString {B S R : Nat} {w0 w : World} {s0 : Sc} {c0 : Nat} {cs rest : List Nat} {txt : Option (List UInt8)} (h : At B S R w0 s0 w (c0 :: (cs ++ 34 :: rest)) txt) (hcs : ∀ c ∈ cs, strR c = true) (hl : cs.length ≤ 1000000) :
    Calls Tryz.prog 56 #[.pointer (some ⟨S, 0, none⟩), .int .i32 34] w fun e w' =>
      (∃ n : Int, e = .returned (.int .i64 n)) ∧ At B S R w0 s0 w' (34 :: rest) (txt.map (· ++ enc (c0 :: cs))) := by
  have H := Lib.hid h
  have HN := Lib.hid hcs
  clear h hcs
  go_enter Tryz.func56, Tryz.ntmps56
  go_wp2_with (go_at_call 50; refine H.out.next.mono ?_)
  rintro e w1 ⟨rfl, h1⟩
  have H1 := Lib.hid h1
  clear h1
  go_wp2_with fail
  go_loopg [5, 4] (cs.length + 1) (fun k ch n wr => ∃ (ds : List Nat) (t' : Option (List UInt8)) (m : Int), At B S R w0 s0 wr (ds ++ 34 :: rest) t' ∧ ch = .int .i32 (headR (ds ++ 34 :: rest)) ∧ n = .int .i64 m ∧
    (∀ c ∈ ds, strR c = true) ∧ t'.map (· ++ enc ds) = txt.map (· ++ enc (c0 :: cs)) ∧ ds.length < k)
  case atStart =>
    refine ⟨cs, _, 0, H1.out, rfl, rfl, HN.out, ?_, Nat.lt_succ_self _⟩
    cases txt <;> simp [headB, enc_cons]
  case round =>
    clear H H1 HN
    obtain ⟨ds, t', m, h', rfl, rfl, hno, htk, hk⟩ := hrel
    have H' := Lib.hid h'
    have HN := Lib.hid hno
    have HT := Lib.hid htk
    clear h' hno htk
    cases ds with
    | nil =>
      have hr : headR ([] ++ 34 :: rest) = 34 := rfl
      have hr' : headR (34 :: rest) = 34 := rfl
      go_wp2_with fail
      go_ret
      refine ⟨⟨_, rfl⟩, ?_⟩
      have e4 := H'.out
      rw [← HT.out]
      have : t'.map (· ++ enc []) = t' := by cases t' <;> simp [enc_nil]
      rw [this]
      exact e4
    | cons d ds =>
      have hd : strR d = true := HN.out d (by simp)
      simp only [strR, Bool.and_eq_true, bne_iff_ne, ne_eq] at hd
      obtain ⟨⟨hd1, hd2⟩, hd3⟩ := hd
      have hr : headR (d :: ds ++ 34 :: rest) = (d : Int) := rfl
      have hr' : headR (d :: (ds ++ 34 :: rest)) = (d : Int) := rfl
      have g0 : ¬ (d : Int) < 0 := by omega
      have g1 : ((d : Int) != 34) = true := by simp; omega
      have g2 : ((d : Int) == 10) = false := by simp; omega
      have g3 : ((d : Int) == 92) = false := by simp; omega
      clear hd1 hd2 hd3
      go_wp2_with (go_at_call 50; refine H'.out.next.mono ?_)
      first | rintro e w3 rfl h3 | rintro e w3 ⟨rfl, h3⟩
      have H3 := Lib.hid h3
      clear h3
      go_wp2_with fail
      go_roundg (ds.length + 1)
      case measure => simpa using hk
      case rel =>
        refine ⟨ds, _, _, H3.out, rfl, rfl, fun c hc => HN.out c (by simp [hc]), ?_, Nat.lt_succ_self _⟩
        rw [← HT.out]
        cases t' <;> simp [headB, enc_cons]

end Go.Proofs.YtmeihdlkadjoeaaGreatDoor

namespace Go.Proofs.YtmeihdlkadjoeaaGreatDoor
open Go.RowKit
set_option linter.unusedVariables false
set_option linter.unusedSimpArgs false

def headDig (l : List Nat) : Bool := match l with
  | [] => false
  | c :: _ => digR c
/-- digits' second result: was there a digit? -/
def digV (b : Bool) : Int := if b then 1 else 0
def hexR (c : Nat) : Bool := decide (48 ≤ c ∧ c ≤ 57) || decide (97 ≤ c ∧ c ≤ 102) || decide (65 ≤ c ∧ c ≤ 70)
def headHex (l : List Nat) : Bool := match l with
  | [] => false
  | c :: _ => hexR c
/-- The head, if any, is a character of ASCII. -/
def headAsc (l : List Nat) : Prop := ∀ c ∈ l.head?, c < 128

theorem isDec_ok (l : List Nat) (w : World) : Calls Tryz.prog 54 #[.int .i32 (headR l)] w fun e w' => e = .returned (.bool (headDig l)) ∧ w' = w := by
  have e : headDig l = (decide (48 ≤ headR l) && decide (headR l ≤ 57)) := by
    cases l with
    | nil => rfl
    | cons c rs =>
      show digR c = (decide ((48 : Int) ≤ (c : Int)) && decide ((c : Int) ≤ 57))
      rw [Bool.eq_iff_iff]
      simp only [digR, Bool.and_eq_true, decide_eq_true_eq]
      omega
  rw [e]
  generalize headR l = x
  by_cases h1 : 48 ≤ x
  · have g1 : decide (48 ≤ x) = true := decide_eq_true h1
    go_enter Tryz.func54, Tryz.ntmps54
    go_wp2_with fail
    go_ret
    exact ⟨by simp [h1], rfl⟩
  · have g1 : decide (48 ≤ x) = false := decide_eq_false h1
    go_enter Tryz.func54, Tryz.ntmps54
    go_wp2_with fail
    go_ret
    exact ⟨by simp [h1], rfl⟩

theorem lower_ok (x : Int) (w : World) : Calls Tryz.prog 70 #[.int .i32 x] w fun e w' => e = .returned (.int .i32 (Go.bits .or .i32 32 x)) ∧ w' = w := by
  go_enter Tryz.func70, Tryz.ntmps70
  go_wp2_with fail
  go_ret
  exact ⟨rfl, rfl⟩

set_option maxRecDepth 100000 in
theorem hex_asc : ∀ c : Nat, c < 128 → (decide (48 ≤ c) && decide (c ≤ 57)) = false → hexR c = (decide (97 ≤ Go.bits .or .i32 32 (c : Int)) && decide (Go.bits .or .i32 32 (c : Int) ≤ 102)) := by decide +kernel

theorem hex_head (l : List Nat) (ha : headAsc l) : (decide (48 ≤ headR l) && decide (headR l ≤ 57)) = false → headHex l = (decide (97 ≤ Go.bits .or .i32 32 (headR l)) && decide (Go.bits .or .i32 32 (headR l) ≤ 102)) := by
  cases l with
  | nil => intro _; decide +kernel
  | cons c rs =>
    intro h
    refine hex_asc c (ha c (by simp)) ?_
    replace h : (decide ((48 : Int) ≤ (c : Int)) && decide ((c : Int) ≤ 57)) = false := h
    rw [← h, Bool.eq_iff_iff]
    simp only [Bool.and_eq_true, decide_eq_true_eq]
    omega

theorem isHex_ok (l : List Nat) (ha : headAsc l) (w : World) : Calls Tryz.prog 85 #[.int .i32 (headR l)] w fun e w' => e = .returned (.bool (headHex l)) ∧ w' = w := by
  have e := hex_head l ha
  have hd : (decide (48 ≤ headR l) && decide (headR l ≤ 57)) = true → headHex l = true := by
    cases l with
    | nil => decide
    | cons c rs =>
      intro h
      replace h : (decide ((48 : Int) ≤ (c : Int)) && decide ((c : Int) ≤ 57)) = true := h
      simp only [Bool.and_eq_true, decide_eq_true_eq] at h
      show hexR c = true
      simp only [hexR, Bool.or_eq_true, decide_eq_true_eq]
      omega
  have hL := Lib.hid fun W => lower_ok (headR l) W
  generalize headR l = x at *
  generalize headHex l = b at *
  generalize Go.bits .or .i32 32 x = v at *
  clear ha
  by_cases h1 : 48 ≤ x
  · have g1 : decide (48 ≤ x) = true := decide_eq_true h1
    by_cases h2 : x ≤ 57
    · have g2 : decide (x ≤ 57) = true := decide_eq_true h2
      rw [hd (by simp [g1, g2])]
      clear e hd
      go_enter Tryz.func85, Tryz.ntmps85
      go_wp2_with fail
      go_ret
      exact ⟨rfl, rfl⟩
    · have g2 : decide (x ≤ 57) = false := decide_eq_false h2
      rw [e (by simp [g1, g2])]
      clear e hd
      by_cases h3 : 97 ≤ v
      · have g3 : decide (97 ≤ v) = true := decide_eq_true h3
        go_enter Tryz.func85, Tryz.ntmps85
        go_wp2_with (go_at_call 70; refine (hL.out _).mono ?_)
        first | rintro e w3 rfl rfl | rintro e w3 ⟨rfl, rfl⟩
        go_wp2_with (go_at_call 70; refine (hL.out _).mono ?_)
        try ((first | rintro e w3 rfl rfl | rintro e w3 ⟨rfl, rfl⟩); go_wp2_with fail)
        go_ret
        exact ⟨by first | (rw [g3]; rfl) | (simp [h3]; done), rfl⟩
      · have g3 : decide (97 ≤ v) = false := decide_eq_false h3
        go_enter Tryz.func85, Tryz.ntmps85
        go_wp2_with (go_at_call 70; refine (hL.out _).mono ?_)
        try ((first | rintro e w3 rfl rfl | rintro e w3 ⟨rfl, rfl⟩); go_wp2_with fail)
        go_ret
        exact ⟨by first | (rw [g3]; rfl) | (simp [h3]; done), rfl⟩
  · have g1 : decide (48 ≤ x) = false := decide_eq_false h1
    rw [e (by simp [g1])]
    clear e hd
    by_cases h3 : 97 ≤ v
    · have g3 : decide (97 ≤ v) = true := decide_eq_true h3
      go_enter Tryz.func85, Tryz.ntmps85
      go_wp2_with (go_at_call 70; refine (hL.out _).mono ?_)
      first | rintro e w3 rfl rfl | rintro e w3 ⟨rfl, rfl⟩
      go_wp2_with (go_at_call 70; refine (hL.out _).mono ?_)
      try ((first | rintro e w3 rfl rfl | rintro e w3 ⟨rfl, rfl⟩); go_wp2_with fail)
      go_ret
      exact ⟨by first | (rw [g3]; rfl) | (simp [h3]; done), rfl⟩
    · have g3 : decide (97 ≤ v) = false := decide_eq_false h3
      go_enter Tryz.func85, Tryz.ntmps85
      go_wp2_with (go_at_call 70; refine (hL.out _).mono ?_)
      try ((first | rintro e w3 rfl rfl | rintro e w3 ⟨rfl, rfl⟩); go_wp2_with fail)
      go_ret
      exact ⟨by first | (rw [g3]; rfl) | (simp [h3]; done), rfl⟩

set_option maxRecDepth 10000 in
theorem At.digits10 {B S R : Nat} {w0 w : World} {s0 : Sc} {l : List Nat} {txt : Option (List UInt8)} (h : At B S R w0 s0 w l txt) (hst : ∀ c ∈ (l.dropWhile digR).head?, c ≠ 95) (p : Option Addr) :
    Calls Tryz.prog 71 #[.pointer (some ⟨S, 0, none⟩), .int .i32 (headR l), .int .i64 10, .pointer p] w fun e w' =>
      e = .returned (.tuple #[.int .i32 (headR (l.dropWhile digR)), .int .i64 (digV (headDig l))]) ∧ At B S R w0 s0 w' (l.dropWhile digR) (txt.map (· ++ enc (l.takeWhile digR))) := by
  have H := Lib.hid h
  have HS := Lib.hid hst
  clear h hst
  go_enter Tryz.func71, Tryz.ntmps71
  go_wp2_with fail
  go_loopg [8, 9] (l.length + 1) (fun k ch ds wr => ∃ (l' : List Nat) (t' : Option (List UInt8)), At B S R w0 s0 wr l' t' ∧ ch = .int .i32 (headR l') ∧
    l'.dropWhile digR = l.dropWhile digR ∧ t'.map (· ++ enc (l'.takeWhile digR)) = txt.map (· ++ enc (l.takeWhile digR)) ∧ l'.length < k ∧ (∃ d : Int, ds = .int .i64 d ∧ Go.bits .or .i64 d 1 = 1 ∧ (d = 0 ∧ l' = l ∨ d = 1 ∧ headDig l = true)))
  case atStart =>
    exact ⟨l, txt, H.out, rfl, rfl, rfl, Nat.lt_succ_self _, 0, rfl, by decide +kernel, .inl ⟨rfl, rfl⟩⟩
  case round =>
    clear H
    obtain ⟨l', t', h', rfl, hdr, htk, hk, d, rfl, hor, hds⟩ := hrel
    have H' := Lib.hid h'
    have HD := Lib.hid hdr
    have HT := Lib.hid htk
    have HDS := Lib.hid hds
    have hq := isDec_ok l' wr
    clear h' hdr htk hds
    by_cases hc : headDig l' = true
    · obtain ⟨c, rs, rfl⟩ : ∃ c rs, l' = c :: rs := by
        cases l' with
        | nil => cases hc
        | cons c rs => exact ⟨c, rs, rfl⟩
      rw [hc] at hq
      have HC := Lib.hid hc
      have hq := Lib.hid hq
      have hr : headR (c :: rs) = (c : Int) := rfl
      have hcd : 48 ≤ c ∧ c ≤ 57 := by simpa [headDig, digR] using hc
      have g1 : ((c : Int) == 95) = false := by simp; omega
      have g2 : ¬ (58 : Int) ≤ (c : Int) := by omega
      have g3 : decide ((58 : Int) ≤ (c : Int)) = false := decide_eq_false g2
      clear hc hcd
      go_wp2_with (go_at_call 54; refine hq.out.mono ?_)
      try (first | rintro e w3 rfl rfl | rintro e w3 ⟨rfl, rfl⟩)
      go_wp2_with (go_at_call 50; refine H'.out.next.mono ?_)
      first | rintro e w4 rfl h4 | rintro e w4 ⟨rfl, h4⟩
      have H4 := Lib.hid h4
      clear h4
      go_wp2_with fail
      go_roundg (rs.length + 1)
      case measure => simpa using hk
      case rel =>
        have hn : digR c = true := HC.out
        refine ⟨rs, _, H4.out, rfl, ?_, ?_, Nat.lt_succ_self _, 1, by simp, by decide +kernel, .inr ⟨rfl, ?_⟩⟩
        · rw [← HD.out, List.dropWhile_cons_of_pos hn]
        · rw [← HT.out, List.takeWhile_cons_of_pos hn]
          cases t' <;> simp [headB, enc_cons]
        · rcases HDS.out with ⟨_, h5⟩ | ⟨_, h5⟩
          · rw [← h5]; exact HC.out
          · exact h5
    · have hc2 : headDig l' = false := by simpa using hc
      rw [hc2] at hq
      have HC := Lib.hid hc2
      have hq := Lib.hid hq
      have e1 : l'.dropWhile digR = l' := by
        cases l' with
        | nil => rfl
        | cons c rs => exact List.dropWhile_cons_of_neg (by simpa [headDig] using hc2)
      have e2 : l'.takeWhile digR = [] := by
        cases l' with
        | nil => rfl
        | cons c rs => exact List.takeWhile_cons_of_neg (by simpa [headDig] using hc2)
      have g1 : (headR l' == 95) = false := by
        have h5 := HS.out
        rw [← HD.out, e1] at h5
        cases l' with
        | nil => rfl
        | cons c rs =>
          have := h5 c (by simp)
          simp [headR]; omega
      have E1 := Lib.hid e1
      have E2 := Lib.hid e2
      clear hc hc2 e1 e2
      go_wp2_with (go_at_call 54; refine hq.out.mono ?_)
      try (first | rintro e w3 rfl rfl | rintro e w3 ⟨rfl, rfl⟩)
      try go_wp2_with fail
      go_ret2
      have hT := HT.out
      rw [E2.out] at hT
      have e6 : t'.map (· ++ enc []) = t' := by cases t' <;> simp [enc]
      rw [e6] at hT
      refine ⟨?_, by rw [← HD.out, E1.out, ← hT]; exact H'.out⟩
      rw [← HD.out, E1.out]
      have hdd : digV (headDig l) = d := by
        rcases HDS.out with ⟨h5, h6⟩ | ⟨h5, h6⟩
        · rw [← h6, HC.out, h5]; rfl
        · rw [h6, h5]; rfl
      rw [hdd]
      rfl

set_option maxRecDepth 10000 in
theorem At.digits16 {B S R : Nat} {w0 w : World} {s0 : Sc} {l : List Nat} {txt : Option (List UInt8)} (h : At B S R w0 s0 w l txt) (hst : ∀ c ∈ (l.dropWhile hexR).head?, c ≠ 95 ∧ c < 128) (p : Option Addr) :
    Calls Tryz.prog 71 #[.pointer (some ⟨S, 0, none⟩), .int .i32 (headR l), .int .i64 16, .pointer p] w fun e w' =>
      e = .returned (.tuple #[.int .i32 (headR (l.dropWhile hexR)), .int .i64 (digV (headHex l))]) ∧ At B S R w0 s0 w' (l.dropWhile hexR) (txt.map (· ++ enc (l.takeWhile hexR))) := by
  have H := Lib.hid h
  have HS := Lib.hid hst
  clear h hst
  go_enter Tryz.func71, Tryz.ntmps71
  go_wp2_with fail
  go_loopg [8, 9] (l.length + 1) (fun k ch ds wr => ∃ (l' : List Nat) (t' : Option (List UInt8)), At B S R w0 s0 wr l' t' ∧ ch = .int .i32 (headR l') ∧
    l'.dropWhile hexR = l.dropWhile hexR ∧ t'.map (· ++ enc (l'.takeWhile hexR)) = txt.map (· ++ enc (l.takeWhile hexR)) ∧ l'.length < k ∧ (∃ d : Int, ds = .int .i64 d ∧ Go.bits .or .i64 d 1 = 1 ∧ (d = 0 ∧ l' = l ∨ d = 1 ∧ headHex l = true)))
  case atStart =>
    exact ⟨l, txt, H.out, rfl, rfl, rfl, Nat.lt_succ_self _, 0, rfl, by decide +kernel, .inl ⟨rfl, rfl⟩⟩
  case round =>
    clear H
    obtain ⟨l', t', h', rfl, hdr, htk, hk, d, rfl, hor, hds⟩ := hrel
    have H' := Lib.hid h'
    have HD := Lib.hid hdr
    have HT := Lib.hid htk
    have HDS := Lib.hid hds
    have hasc : headAsc l' := by
      intro c hc
      cases l' with
      | nil => cases hc
      | cons c' rs =>
        obtain rfl : c' = c := by simpa using hc
        by_cases hh : hexR c' = true
        · simp only [hexR, Bool.or_eq_true, decide_eq_true_eq] at hh
          omega
        · have h5 := HS.out
          rw [← HD.out, List.dropWhile_cons_of_neg hh] at h5
          exact (h5 c' (by simp)).2
    have hq := isHex_ok l' hasc wr
    clear hasc
    clear h' hdr htk hds
    by_cases hc : headHex l' = true
    · obtain ⟨c, rs, rfl⟩ : ∃ c rs, l' = c :: rs := by
        cases l' with
        | nil => cases hc
        | cons c rs => exact ⟨c, rs, rfl⟩
      rw [hc] at hq
      have HC := Lib.hid hc
      have hq := Lib.hid hq
      have hr : headR (c :: rs) = (c : Int) := rfl
      have hcd : c ≠ 95 := by
        rintro rfl
        have hx : hexR 95 = true := hc
        revert hx
        decide
      have g1 : ((c : Int) == 95) = false := by simp; omega
      clear hc hcd
      go_wp2_with (go_at_call 85; refine hq.out.mono ?_)
      try (first | rintro e w3 rfl rfl | rintro e w3 ⟨rfl, rfl⟩)
      go_wp2_with (go_at_call 50; refine H'.out.next.mono ?_)
      first | rintro e w4 rfl h4 | rintro e w4 ⟨rfl, h4⟩
      have H4 := Lib.hid h4
      clear h4
      go_wp2_with fail
      go_roundg (rs.length + 1)
      case measure => simpa using hk
      case rel =>
        have hn : hexR c = true := HC.out
        refine ⟨rs, _, H4.out, rfl, ?_, ?_, Nat.lt_succ_self _, 1, by simp, by decide +kernel, .inr ⟨rfl, ?_⟩⟩
        · rw [← HD.out, List.dropWhile_cons_of_pos hn]
        · rw [← HT.out, List.takeWhile_cons_of_pos hn]
          cases t' <;> simp [headB, enc_cons]
        · rcases HDS.out with ⟨_, h5⟩ | ⟨_, h5⟩
          · rw [← h5]; exact HC.out
          · exact h5
    · have hc2 : headHex l' = false := by simpa using hc
      rw [hc2] at hq
      have HC := Lib.hid hc2
      have hq := Lib.hid hq
      have e1 : l'.dropWhile hexR = l' := by
        cases l' with
        | nil => rfl
        | cons c rs => exact List.dropWhile_cons_of_neg (by simpa [headHex] using hc2)
      have e2 : l'.takeWhile hexR = [] := by
        cases l' with
        | nil => rfl
        | cons c rs => exact List.takeWhile_cons_of_neg (by simpa [headHex] using hc2)
      have g1 : (headR l' == 95) = false := by
        have h5 := HS.out
        rw [← HD.out, e1] at h5
        cases l' with
        | nil => rfl
        | cons c rs =>
          have := (h5 c (by simp)).1
          simp [headR]; omega
      have E1 := Lib.hid e1
      have E2 := Lib.hid e2
      clear hc hc2 e1 e2
      go_wp2_with (go_at_call 85; refine hq.out.mono ?_)
      try (first | rintro e w3 rfl rfl | rintro e w3 ⟨rfl, rfl⟩)
      try go_wp2_with fail
      go_ret2
      have hT := HT.out
      rw [E2.out] at hT
      have e6 : t'.map (· ++ enc []) = t' := by cases t' <;> simp [enc]
      rw [e6] at hT
      refine ⟨?_, by rw [← HD.out, E1.out, ← hT]; exact H'.out⟩
      rw [← HD.out, E1.out]
      have hdd : digV (headHex l) = d := by
        rcases HDS.out with ⟨h5, h6⟩ | ⟨h5, h6⟩
        · rw [← h6, HC.out, h5]; rfl
        · rw [h6, h5]; rfl
      rw [hdd]
      rfl

/-- Nothing to read. -/
theorem At.digits8 {B S R : Nat} {w0 w : World} {s0 : Sc} {l : List Nat} {txt : Option (List UInt8)} (h : At B S R w0 s0 w l txt) (hst : headDig l = false) (h95 : ∀ c ∈ l.head?, c ≠ 95) (p : Option Addr) :
    Calls Tryz.prog 71 #[.pointer (some ⟨S, 0, none⟩), .int .i32 (headR l), .int .i64 8, .pointer p] w fun e w' =>
      e = .returned (.tuple #[.int .i32 (headR l), .int .i64 0]) ∧ At B S R w0 s0 w' l txt := by
  have H := Lib.hid h
  have hq := isDec_ok l w
  rw [hst] at hq
  have hq := Lib.hid hq
  have g1 : (headR l == 95) = false := by
    cases l with
    | nil => rfl
    | cons c rs =>
      have := h95 c (by simp)
      simp [headR]; omega
  clear h hst h95
  go_enter Tryz.func71, Tryz.ntmps71
  go_wp2_with fail
  go_loopg [8, 9] 1 (fun k ch ds wr => wr = w ∧ ch = .int .i32 (headR l) ∧ ds = .int .i64 0 ∧ 1 ≤ k)
  case atStart => exact ⟨rfl, rfl, rfl, Nat.le_refl _⟩
  case round =>
    obtain ⟨rfl, rfl, rfl, hk⟩ := hrel
    go_wp2_with (go_at_call 54; refine hq.out.mono ?_)
    try (first | rintro e w3 rfl rfl | rintro e w3 ⟨rfl, rfl⟩)
    try go_wp2_with fail
    go_ret2
    exact ⟨rfl, H.out⟩

end Go.Proofs.YtmeihdlkadjoeaaGreatDoor

namespace Go.Proofs.YtmeihdlkadjoeaaGreatDoor
open Go.RowKit
set_option linter.unusedVariables false
set_option linter.unusedSimpArgs false

theorem heap_new (w : World) (o : Obj) : (w.alloc o).heap[w.heap.size]? = some o := by
  show (w.heap.push o)[w.heap.size]? = some o
  simp
/-- The cell of a local int32 that holds 0. -/
def zeroCell : Obj := .cells #[.int .i32 0] 21 (0, 0)
/-- The scanner at a place, and such a cell, in block X. -/
def AtX (B S R : Nat) (w0 : World) (s0 : Sc) (X : Nat) (w : World) (l : List Nat) (txt : Option (List UInt8)) : Prop :=
  At B S R w0 s0 w l txt ∧ w.heap[X]? = some zeroCell ∧ X ≠ S ∧ X ≠ R

theorem AtX.lift {B S R X : Nat} {w0 w : World} {s0 : Sc} {l l' : List Nat} {t t' : Option (List UInt8)} {P : Program} {f : FuncId} {args : Array Value} {p : Ending → Prop} (h : AtX B S R w0 s0 X w l t)
    (hc : ∀ s, At B S R w s w l t → s.ident = s0.ident → Calls P f args w fun e w' => p e ∧ At B S R w s w' l' t') : Calls P f args w fun e w' => p e ∧ AtX B S R w0 s0 X w' l' t' := by
  obtain ⟨⟨s, h1, h2, h3, h4⟩, hx, hS, hR⟩ := h
  refine (hc s ⟨s, h1, Same.refl s, Fr.refl _ _ _ _, h4⟩ h2.2.2.2.1).mono ?_
  rintro e w' ⟨he, s', k1, k2, k3, k4⟩
  refine ⟨he, ⟨s', k1, h2.trans k2, h3.trans k3, k4⟩, ?_, hS, hR⟩
  exact k3.keep hx hS hR (fun c fz hh => by simp [zeroCell] at hh)

theorem AtX.cell {B S R X : Nat} {w0 w : World} {s0 : Sc} {l : List Nat} {t : Option (List UInt8)} (h : AtX B S R w0 s0 X w l t) : w.cell? ⟨X, 0, none⟩ = some (.int .i32 0) := by
  have := h.2.1
  simp [World.cell?, this, zeroCell]

theorem AtX.new {B S R : Nat} {w0 w : World} {s0 : Sc} {l : List Nat} {t : Option (List UInt8)} (h : At B S R w0 s0 w l t) : AtX B S R w0 s0 w.heap.size (w.alloc (.cells #[.int .i32 0] 21)) l t := by
  refine ⟨h.below ((Below.refl _ _).alloc (Nat.le_refl _) _), heap_new _ _, ?_, ?_⟩
  · obtain ⟨s, h1, _⟩ := h
    exact Nat.ne_of_gt h1.inp.sc.lt
  · obtain ⟨s, h1, _⟩ := h
    obtain ⟨rb, h2, _⟩ := h1.inp.rd
    exact Nat.ne_of_gt h2.lt

/-- What may stand behind a number or a name: a character of ASCII that is no letter, no digit, no underscore, no point. -/
def sepR (c : Nat) : Bool := decide (c < 128) && !idR c && c != 46
def Sep (l : List Nat) : Prop := ∀ c ∈ l.head?, sepR c = true

set_option maxRecDepth 100000 in
theorem sep_lower0 : ∀ c : Nat, c < 128 → sepR c = true → (Go.bits .or .i32 32 (c : Int) == 101) = false ∧ (Go.bits .or .i32 32 (c : Int) == 112) = false ∧ (Go.bits .or .i32 32 (c : Int) == 120) = false ∧ (Go.bits .or .i32 32 (c : Int) == 111) = false ∧ (Go.bits .or .i32 32 (c : Int) == 98) = false ∧
  ((c : Int) == 46) = false ∧ c ≠ 95 ∧ digR c = false ∧ hexR c = false := by decide +kernel

theorem Sep.lower {l : List Nat} (h : Sep l) : (Go.bits .or .i32 32 (headR l) == 101) = false ∧ (Go.bits .or .i32 32 (headR l) == 112) = false ∧ (Go.bits .or .i32 32 (headR l) == 120) = false ∧ (Go.bits .or .i32 32 (headR l) == 111) = false ∧ (Go.bits .or .i32 32 (headR l) == 98) = false ∧
  (headR l == 46) = false ∧ (∀ c ∈ l.head?, c ≠ 95 ∧ c < 128) ∧ headDig l = false ∧ headHex l = false := by
  cases l with
  | nil => exact ⟨by decide +kernel, by decide +kernel, by decide +kernel, by decide +kernel, by decide +kernel, by decide, by simp, rfl, rfl⟩
  | cons c rs =>
    have h1 := h c (by simp)
    have h2 : c < 128 := by
      simp only [sepR, Bool.and_eq_true, decide_eq_true_eq] at h1
      exact h1.1.1
    obtain ⟨a1, a2, a3, a4, a5, a6, a7, a8, a9⟩ := sep_lower0 c h2 h1
    refine ⟨a1, a2, a3, a4, a5, a6, ?_, a8, a9⟩
    intro d hd
    obtain rfl : c = d := by simpa using hd
    exact ⟨a7, h2⟩

set_option maxRecDepth 10000 in
theorem At.number {B S R : Nat} {w0 w : World} {s0 : Sc} {c : Nat} {rs : List Nat} {txt : Option (List UInt8)} (h : At B S R w0 s0 w (c :: rs) txt) (hd : digR c = true) (h0 : c ≠ 48) (hsep : Sep (rs.dropWhile digR)) :
    Calls Tryz.prog 55 #[.pointer (some ⟨S, 0, none⟩), .int .i32 c, .bool false] w fun e w' =>
      e = .returned (.tuple #[.int .i32 (-3), .int .i32 (headR (rs.dropWhile digR))]) ∧ At B S R w0 s0 w' (rs.dropWhile digR) (txt.map (· ++ enc (c :: rs.takeWhile digR))) := by
  obtain ⟨a1, a2, a3, a4, a5, a6, a7, a8, a9⟩ := hsep.lower
  have H := Lib.hid fun (p : Option Addr) => (AtX.new h).lift (fun s k _ => k.digits10 (by rw [List.dropWhile_cons_of_pos hd]; exact fun c hc => (a7 c hc).1) p)
  have hD : headDig (c :: rs) = true := hd
  rw [List.dropWhile_cons_of_pos hd, List.takeWhile_cons_of_pos hd, hD] at H
  have h48 : ((c : Int) == 48) = false := by simp; omega
  have hd1 : digV true = 1 := rfl
  rw [hd1] at H
  have HL := Lib.hid fun W => lower_ok (headR (rs.dropWhile digR)) W
  have o1 : Go.bits .or .i64 0 1 = 1 := by decide +kernel
  have n1 : Go.bits .and .i64 1 1 = 1 := by decide +kernel
  have n2 : Go.bits .and .i64 1 2 = 0 := by decide +kernel
  clear h hsep hD hd a7
  go_enter Tryz.func55, Tryz.ntmps55
  go_wp2_with (go_at_call 71; refine (H.out _).mono ?_)
  first | rintro e w3 rfl h3 | rintro e w3 ⟨rfl, h3⟩
  have H3 := Lib.hid h3
  have cX := h3.cell
  clear h3
  go_wp2_with (go_at_call 70; refine (HL.out _).mono ?_)
  try (first | rintro e w4 rfl rfl | rintro e w4 ⟨rfl, rfl⟩)
  try go_wp2_with fail
  go_ret2
  exact ⟨rfl, H3.out.1⟩

set_option maxRecDepth 10000 in
/-- The number 0. -/
theorem At.zero {B S R : Nat} {w0 w : World} {s0 : Sc} {rs : List Nat} {txt : Option (List UInt8)} (h : At B S R w0 s0 w (48 :: rs) txt) (hsep : Sep rs) :
    Calls Tryz.prog 55 #[.pointer (some ⟨S, 0, none⟩), .int .i32 48, .bool false] w fun e w' =>
      e = .returned (.tuple #[.int .i32 (-3), .int .i32 (headR rs)]) ∧ At B S R w0 s0 w' rs (txt.map (· ++ enc [48])) := by
  obtain ⟨a1, a2, a3, a4, a5, a6, a7, a8, a9⟩ := hsep.lower
  have A7 := Lib.hid a7
  have H := Lib.hid ((AtX.new h).lift (fun s k _ => k.next))
  have HL := Lib.hid fun W => lower_ok (headR rs) W
  have o1 : Go.bits .or .i64 1 0 = 1 := by decide +kernel
  have n1 : Go.bits .and .i64 1 1 = 1 := by decide +kernel
  have n2 : Go.bits .and .i64 1 2 = 0 := by decide +kernel
  have e1 : txt.map (· ++ headB (48 :: rs)) = txt.map (· ++ enc [48]) := by cases txt <;> simp [headB, enc_cons, enc_nil]
  rw [e1, show (48 :: rs).tail = rs from rfl] at H
  clear h hsep a7 e1
  go_enter Tryz.func55, Tryz.ntmps55
  go_wp2_with (go_at_call 50; refine H.out.mono ?_)
  first | rintro e w3 rfl h3 | rintro e w3 ⟨rfl, h3⟩
  have H3 := Lib.hid fun (p : Option Addr) => h3.lift (fun s k _ => k.digits8 a8 (fun c hc => (A7.out c hc).1) p)
  clear h3
  go_wp2_with (go_at_call 70; refine (HL.out _).mono ?_)
  try (first | rintro e w4 rfl rfl | rintro e w4 ⟨rfl, rfl⟩)
  go_wp2_with (go_at_call 71; refine (H3.out _).mono ?_)
  first | rintro e w5 rfl h5 | rintro e w5 ⟨rfl, h5⟩
  have H5 := Lib.hid h5
  have cX := h5.cell
  clear h5
  go_wp2_with (go_at_call 70; refine (HL.out _).mono ?_)
  try (first | rintro e w4 rfl rfl | rintro e w4 ⟨rfl, rfl⟩)
  try go_wp2_with fail
  go_ret2
  exact ⟨rfl, H5.out.1⟩

set_option maxRecDepth 10000 in
/-- A hexadecimal number. -/
theorem At.hex {B S R : Nat} {w0 w : World} {s0 : Sc} {rs : List Nat} {txt : Option (List UInt8)} (h : At B S R w0 s0 w (48 :: 120 :: rs) txt) (hd : headHex rs = true) (hsep : Sep (rs.dropWhile hexR)) :
    Calls Tryz.prog 55 #[.pointer (some ⟨S, 0, none⟩), .int .i32 48, .bool false] w fun e w' =>
      e = .returned (.tuple #[.int .i32 (-3), .int .i32 (headR (rs.dropWhile hexR))]) ∧ At B S R w0 s0 w' (rs.dropWhile hexR) (txt.map (· ++ enc (48 :: 120 :: rs.takeWhile hexR))) := by
  obtain ⟨a1, a2, a3, a4, a5, a6, a7, a8, a9⟩ := hsep.lower
  have A7 := Lib.hid a7
  have H := Lib.hid ((AtX.new h).lift (fun s k _ => k.next))
  have HL0 := Lib.hid fun W => lower_ok 120 W
  have HL := Lib.hid fun W => lower_ok (headR (rs.dropWhile hexR)) W
  have HD := Lib.hid hd
  have lx : Go.bits .or .i32 32 120 = 120 := by decide +kernel
  have o1 : Go.bits .or .i64 0 1 = 1 := by decide +kernel
  have n1 : Go.bits .and .i64 1 1 = 1 := by decide +kernel
  have n2 : Go.bits .and .i64 1 2 = 0 := by decide +kernel
  rw [show (48 :: 120 :: rs).tail = 120 :: rs from rfl, show headR (120 :: rs) = 120 from rfl] at H
  rw [lx] at HL0
  clear h hsep a7 hd lx
  go_enter Tryz.func55, Tryz.ntmps55
  go_wp2_with (go_at_call 50; refine H.out.mono ?_)
  first | rintro e w3 rfl h3 | rintro e w3 ⟨rfl, h3⟩
  have H3 := Lib.hid (h3.lift (fun s k _ => k.next))
  clear h3
  go_wp2_with (go_at_call 70; refine (HL0.out _).mono ?_)
  try (first | rintro e w4 rfl rfl | rintro e w4 ⟨rfl, rfl⟩)
  go_wp2_with (go_at_call 50; refine H3.out.mono ?_)
  first | rintro e w5 rfl h5 | rintro e w5 ⟨rfl, h5⟩
  rw [show (120 :: rs).tail = rs from rfl] at h5
  have h6 := fun (p : Option Addr) => h5.lift (fun s k _ => k.digits16 A7.out p)
  rw [HD.out, show digV true = 1 from rfl] at h6
  have H6 := Lib.hid h6
  clear h5 h6
  go_wp2_with (go_at_call 71; refine (H6.out _).mono ?_)
  first | rintro e w7 rfl h7 | rintro e w7 ⟨rfl, h7⟩
  have H7 := Lib.hid h7
  have cX := h7.cell
  clear h7
  go_wp2_with (go_at_call 70; refine (HL.out _).mono ?_)
  try (first | rintro e w4 rfl rfl | rintro e w4 ⟨rfl, rfl⟩)
  try go_wp2_with fail
  go_ret2
  refine ⟨rfl, ?_⟩
  have hA := H7.out.1
  have e1 : ((txt.map (· ++ headB (48 :: 120 :: rs))).map (· ++ headB (120 :: rs))).map (· ++ enc (rs.takeWhile hexR)) = txt.map (· ++ enc (48 :: 120 :: rs.takeWhile hexR)) := by
    cases txt <;> simp [headB, enc_cons]
  rw [e1] at hA
  exact hA

end Go.Proofs.YtmeihdlkadjoeaaGreatDoor

namespace Go.Proofs.YtmeihdlkadjoeaaGreatDoor
open Go.RowKit
set_option linter.unusedVariables false
set_option linter.unusedSimpArgs false

/-- The fields that the input's word speaks of are the same. -/
def Core (s s' : Sc) : Prop := s'.src = s.src ∧ s'.buf = s.buf ∧ s'.pos = s.pos ∧ s'.fin = s.fin ∧ s'.lastLen = s.lastLen ∧ s'.tb = s.tb ∧ s'.tbOff = s.tbOff ∧ s'.tokPos = s.tokPos ∧ s'.err = s.err
/-- What reading a token leaves. -/
def SameB (s s' : Sc) : Prop := s'.src = s.src ∧ s'.mode = s.mode ∧ s'.ws = s.ws ∧ s'.ident = s.ident
theorem SameB.refl (s : Sc) : SameB s s := ⟨rfl, rfl, rfl, rfl⟩
theorem SameB.trans {a b c : Sc} (h : SameB a b) (k : SameB b c) : SameB a c := ⟨k.1.trans h.1, k.2.1.trans h.2.1, k.2.2.1.trans h.2.2.1, k.2.2.2.trans h.2.2.2⟩
theorem Same.b {a b : Sc} (h : Same a b) : SameB a b := ⟨h.1, h.2.1, h.2.2.1, h.2.2.2.1⟩

section
variable {B S R : Nat} {w w' : World} {s s' : Sc} {rest : List Nat} {prev : List UInt8} {txt : Option (List UInt8)}
theorem Inp.keep (h : Inp B S R w s rest txt) (hsc : ScAt w' S s') (ho : Only S w w') (e : Core s s') : Inp B S R w' s' rest txt := by
  obtain ⟨e1, e2, e3, e4, e5, e6, e7, e8, e9⟩ := e
  obtain ⟨rb, h1, h2⟩ := h.rd
  obtain ⟨bs, h3, h4⟩ := h.tb
  refine ⟨hsc, h.hB, h.hR, h.hRS, by rw [ho.size]; exact h.hw, ⟨rb, ?_, ?_⟩, by rw [e4]; exact h.finLe, by rw [e3, e4]; exact h.posLe, by rw [e2, e4]; exact h.sent, h.ok, e9.trans h.err, h.bd,
    ⟨bs, h3.carry (fun g cur hg hh => (ho.heap g hg).trans hh) e6 e7, ?_⟩, by rw [e8]; exact h.off⟩
  · rw [e1]; exact h1.block (ho.heap R h.hRS)
  · rw [e2, e3, e4]; exact h2
  · rw [e2, e3, e8]; exact h4
theorem Lx.keep (h : Lx B S R w s rest prev txt) (hsc : ScAt w' S s') (ho : Only S w w') (e : Core s s') : Lx B S R w' s' rest prev txt := by
  refine ⟨h.inp.keep hsc ho e, ?_, ?_, ?_, ?_⟩ <;> obtain ⟨e1, e2, e3, e4, e5, e6, e7, e8, e9⟩ := e
  · rw [e5]; exact h.len
  · rw [e3]; exact h.le
  · rw [e2, e3]; exact h.sg
  · rw [e3, e8]; exact h.tk
/-- No text any more. -/
theorem Lx.stop (h : Lx B S R w s rest prev txt) (v : Int) (hv : v < 0) (hsc : ScAt w' S s') (ho : Only S w w') (e : Core { s with tokPos := v } s') : Lx B S R w' s' rest prev none := by
  obtain ⟨e1, e2, e3, e4, e5, e6, e7, e8, e9⟩ := e
  obtain ⟨rb, h1, h2⟩ := h.inp.rd
  obtain ⟨bs, h3, h4⟩ := h.inp.tb
  refine ⟨⟨hsc, h.inp.hB, h.inp.hR, h.inp.hRS, by rw [ho.size]; exact h.inp.hw, ⟨rb, ?_, ?_⟩, by rw [e4]; exact h.inp.finLe, by rw [e3, e4]; exact h.inp.posLe, by rw [e2, e4]; exact h.inp.sent, h.inp.ok, e9.trans h.inp.err, h.inp.bd,
    ⟨bs, h3.carry (fun g cur hg hh => (ho.heap g hg).trans hh) e6 e7, fun t ht => by cases ht⟩, fun _ => by rw [e8]; exact hv⟩, by rw [e5]; exact h.len, by rw [e3]; exact h.le, by rw [e2, e3]; exact h.sg, fun t ht => by cases ht⟩
  · rw [e1]; exact h1.block (ho.heap R h.inp.hRS)
  · rw [e2, e3, e4]; exact h2
end

/-- The scanner between two tokens: l is still to be read. -/
def Idle (B S R : Nat) (w : World) (s : Sc) (l : List Nat) : Prop := (s.ch = -2 ∧ Inp B S R w s l none) ∨ (s.ch = headR l ∧ ∃ txt, Lx B S R w s l.tail (headB l) txt)

set_option maxRecDepth 10000 in
/-- Peek, where a character has been read. -/
theorem peek_read {B S R : Nat} {w : World} {s : Sc} {l : List Nat} {txt : Option (List UInt8)} (h : Lx B S R w s l.tail (headB l) txt) (hch : s.ch = headR l) :
    Calls Tryz.prog 44 #[.pointer (some ⟨S, 0, none⟩)] w fun e w' => e = .returned (.int .i32 (headR l)) ∧ w' = w := by
  obtain ⟨c0, c1026, c1027, c1028, c1029, c1030, c1031, c1032, c1036, c1037, c1038, c1039, c1040, c1041, c1042, c1043, c1045, c1046, c1047, fz⟩ := h.inp.sc.facts
  rw [hch] at c1038
  have h2 : (headR l == -2) = false := by
    have := headR_ge l
    simp; omega
  clear h hch c0 c1026 c1027 c1028 c1029 c1030 c1031 c1032 c1036 c1037 c1039 c1040 c1041 c1042 c1043 c1045 c1046 c1047
  go_enter Tryz.func44, Tryz.ntmps44
  go_wp2_with fail
  go_ret
  exact ⟨rfl, rfl⟩

set_option maxRecDepth 10000 in
/-- The first Peek. -/
theorem peek_first {B S R : Nat} {w : World} {s : Sc} {l : List Nat} (h : Inp B S R w s l none) (hG : GlobI B w) (hch : s.ch = -2) (hok : ∀ c ∈ l, okR c) :
    Calls Tryz.prog 44 #[.pointer (some ⟨S, 0, none⟩)] w fun e w' => e = .returned (.int .i32 (headR l)) ∧
      ∃ s', s'.ch = headR l ∧ Lx B S R w' s' l.tail (headB l) none ∧ SameB s s' ∧ Fr B S R w w' := by
  obtain ⟨c0, c1026, c1027, c1028, c1029, c1030, c1031, c1032, c1036, c1037, c1038, c1039, c1040, c1041, c1042, c1043, c1045, c1046, c1047, fz⟩ := h.sc.facts
  rw [hch] at c1038
  have H := Lib.hid (next_inp h hG.glob)
  have hf : (headR l == 65279) = false := by
    have := headR_le hok
    simp; omega
  clear h hG hch hok c0 c1026 c1027 c1028 c1029 c1030 c1031 c1032 c1036 c1037 c1039 c1040 c1041 c1042 c1043 c1045 c1046 c1047
  go_enter Tryz.func44, Tryz.ntmps44
  go_wp2_with (go_at_call 50; refine H.out.mono ?_)
  rintro e w1 ⟨rfl, s1, k1, k2, k3⟩
  obtain ⟨d0, d1026, d1027, d1028, d1029, d1030, d1031, d1032, d1036, d1037, d1038, d1039, d1040, d1041, d1042, d1043, d1045, d1046, d1047, fz1⟩ := k1.inp.sc.facts
  have K1 := Lib.hid k1
  have K2 := Lib.hid k2
  have K3 := Lib.hid k3
  clear k1 k2 k3 fz d0 d1026 d1027 d1028 d1029 d1030 d1031 d1032 d1036 d1037 d1039 d1040 d1041 d1042 d1043 d1045 d1046 d1047 c1038
  go_wp2_with fail
  go_ret
  have hB := K1.out.inp.hB
  refine ⟨rfl, { s1 with ch := headR l }, rfl, K1.out.keep (K1.out.inp.sc.setCh _) ((Only.refl S w1).set _ _) ⟨rfl, rfl, rfl, rfl, rfl, rfl, rfl, rfl, rfl⟩, K2.out.b, K3.out.trans (((Only.refl S w1).set _ _).fr hB R)⟩

theorem peek_idle {B S R : Nat} {w : World} {s : Sc} {l : List Nat} (h : Idle B S R w s l) (hG : GlobI B w) (hok : ∀ c ∈ l, okR c) :
    Calls Tryz.prog 44 #[.pointer (some ⟨S, 0, none⟩)] w fun e w' => e = .returned (.int .i32 (headR l)) ∧
      ∃ s', s'.ch = headR l ∧ (∃ txt, Lx B S R w' s' l.tail (headB l) txt) ∧ SameB s s' ∧ Fr B S R w w' := by
  rcases h with ⟨h1, h2⟩ | ⟨h1, txt, h2⟩
  · exact (peek_first h2 hG h1 hok).mono fun e w' ⟨he, s', k1, k2, k3, k4⟩ => ⟨he, s', k1, ⟨none, k2⟩, k3, k4⟩
  · refine (peek_read h2 h1).mono ?_
    rintro e w' ⟨he, rfl⟩
    exact ⟨he, s, h1, ⟨txt, h2⟩, SameB.refl s, Fr.refl _ _ _ _⟩

set_option maxRecDepth 10000 in
/-- Next: the character that has been looked at is passed over. -/
theorem next_read {B S R : Nat} {w : World} {s : Sc} {c : Nat} {rs : List Nat} {txt : Option (List UInt8)} (h : Lx B S R w s rs (encR c) txt) (hG : GlobI B w) (hch : s.ch = (c : Int)) :
    Calls Tryz.prog 45 #[.pointer (some ⟨S, 0, none⟩)] w fun e w' => e = .returned (.int .i32 c) ∧
      ∃ s', s'.ch = headR rs ∧ Lx B S R w' s' rs.tail (headB rs) none ∧ SameB s s' ∧ Fr B S R w w' := by
  have fz := h.inp.sc.fz
  have hB := h.inp.hB
  have l1 : Lx B S R ((w.setCell ⟨S, 1036, none⟩ (.int .i64 (-1))).setCell ⟨S, 1046, none⟩ (.int .i64 0)) { s with tokPos := -1, pLine := 0 } rs (encR c) none :=
    h.stop (-1) (by decide) ((h.inp.sc.setTokPos _).setPLine _) (((Only.refl S w).set _ _).set _ _) ⟨rfl, rfl, rfl, rfl, rfl, rfl, rfl, rfl, rfl⟩
  have f1 : Fr B S R w ((w.setCell ⟨S, 1036, none⟩ (.int .i64 (-1))).setCell ⟨S, 1046, none⟩ (.int .i64 0)) := (((Only.refl S w).set _ _).set _ _).fr hB R
  have e1 : ({ s with tokPos := -1, pLine := 0 } : Sc).ch = headR (c :: rs) := hch
  have P := Lib.hid (peek_read (l := c :: rs) l1 e1)
  have N := Lib.hid (next_lx l1 (hG.below f1.1).glob)
  have H := Lib.hid (And.intro f1 hB)
  have hc : ((c : Int) != -1) = true := by simp
  have hr : headR (c :: rs) = (c : Int) := rfl
  have c1036 : w.cell? ⟨S, 1036, none⟩ = some (.int .i64 s.tokPos) := h.inp.sc.cell 1036
  have c1046 : w.cell? ⟨S, 1046, none⟩ = some (.int .i64 s.pLine) := h.inp.sc.cell 1046
  clear h hG hch l1 f1 e1 hB
  go_enter Tryz.func45, Tryz.ntmps45
  go_wp2_with (go_at_call 44; refine P.out.mono ?_)
  first | rintro e w1 rfl rfl | rintro e w1 ⟨rfl, rfl⟩
  go_wp2_with (go_at_call 50; refine N.out.mono ?_)
  rintro e w1 ⟨rfl, s1, k1, k2, k3, k4⟩
  have fz1 := k1.inp.sc.fz
  have d1038 : w1.cell? ⟨S, 1038, none⟩ = some (.int .i32 s1.ch) := k1.inp.sc.cell 1038
  have K1 := Lib.hid k1
  have K2 := Lib.hid k2
  have K3 := Lib.hid k3
  clear k1 k2 k3 k4 fz c1036 c1046
  go_wp2_with fail
  go_ret
  obtain ⟨f1, hB⟩ := H.out
  exact ⟨rfl, { s1 with ch := headR rs }, rfl, K1.out.keep (K1.out.inp.sc.setCh _) ((Only.refl S w1).set _ _) ⟨rfl, rfl, rfl, rfl, rfl, rfl, rfl, rfl, rfl⟩, ⟨K2.out.1, K2.out.2.1, K2.out.2.2.1, K2.out.2.2.2.1⟩, f1.trans (K3.out.trans (((Only.refl S w1).set _ _).fr hB R))⟩

end Go.Proofs.YtmeihdlkadjoeaaGreatDoor

namespace Go.Proofs.YtmeihdlkadjoeaaGreatDoor
open Go.RowKit
set_option linter.unusedVariables false
set_option linter.unusedSimpArgs false

/-- The scanner has read a token, whose text is t; l is still to be read. -/
structure Tok (B S R : Nat) (w : World) (s : Sc) (l : List Nat) (t : List UInt8) : Prop where
  lx : Lx B S R w s l.tail (headB l) (some t)
  ch : s.ch = headR l
  tokEnd : s.tokEnd = ((s.pos - (headB l).length : Nat) : Int)

/-- The text's part in the buffer. -/
theorem Tok.parts {B S R : Nat} {w : World} {s : Sc} {l : List Nat} {t : List UInt8} (h : Tok B S R w s l t) :
    ∃ (bs : List UInt8) (p e : Nat), TbIs B S w s bs ∧ s.tokPos = (p : Int) ∧ s.tokEnd = (e : Int) ∧ p ≤ e ∧ e ≤ s.pos ∧ e = s.pos - (headB l).length ∧ t = bs ++ seg s.buf p (e - p) ∧ t.length ≤ 1000000 := by
  obtain ⟨bs, h1, h2⟩ := h.lx.inp.tb
  obtain ⟨p, e1, e2, e3, e4⟩ := h2 (t ++ headB l) rfl
  obtain ⟨p', e5, e6⟩ := h.lx.tk t rfl
  have hpp : p' = p := by
    rw [e1] at e5
    exact (Int.ofNat_inj.1 e5).symm
  subst hpp
  refine ⟨bs, p', s.pos - (headB l).length, h1, e1, h.tokEnd, by omega, by omega, rfl, ?_, ?_⟩
  · have hsg := h.lx.sg
    have hk : s.pos - p' = (s.pos - (headB l).length - p') + (headB l).length := by omega
    rw [hk, seg_append, ← List.append_assoc] at e3
    have e7 : p' + (s.pos - (headB l).length - p') = s.pos - (headB l).length := by omega
    rw [e7, hsg] at e3
    exact List.append_cancel_right e3
  · rw [List.length_append] at e4
    omega

theorem Tok.drewN {B S R : Nat} {w : World} {s : Sc} {l : List Nat} {t : List UInt8} (h : Tok B S R w s l t) (n : Nat) : Tok B S R (w.drewN n) s l t :=
  ⟨⟨h.lx.inp.drewN n, h.lx.len, h.lx.le, h.lx.sg, h.lx.tk⟩, h.ch, h.tokEnd⟩
theorem Fr.undrewN {B S R k : Nat} {w w' : World} (h : Fr B S R (w.drewN k) w') : Fr B S R w w' := ⟨⟨h.1.os, h.1.tape, h.1.output, h.1.size, h.1.block⟩, h.2⟩

/-- The rest of the text has gone into the buffer. -/
theorem Tok.written {B S R : Nat} {w W1 : World} {s : Sc} {l : List Nat} {t : List UInt8} {v : Value} {lr : Int} {e : Nat} (h : Tok B S R w s l t) (h6 : e = s.pos - (headB l).length) (hE : s.tokEnd = (e : Int)) (n : Nat)
    (hsc : ScAt W1 S { s with tb := v, tbOff := 0, tbLast := lr }) (htb : TbIs B S W1 { s with tb := v, tbOff := 0, tbLast := lr } t) (hb : Below B w W1) (hk : Lib.OthersKept 5 (some S) w W1) :
    Tok B S R ((W1.setCell ⟨S, 1036, none⟩ (.int .i64 e)).drewN n) { s with tb := v, tbOff := 0, tbLast := lr, tokPos := (e : Int) } l t ∧ Fr B S R w ((W1.setCell ⟨S, 1036, none⟩ (.int .i64 e)).drewN n) := by
  obtain ⟨rb, h1, h2⟩ := h.lx.inp.rd
  have hR := h1.keeps hk h.lx.inp.hRS
  have hle := h.lx.le
  obtain ⟨bs, _, h4⟩ := h.lx.inp.tb
  obtain ⟨p, _, _, _, h5⟩ := h4 (t ++ headB l) rfl
  have hsg := h.lx.sg
  refine ⟨⟨⟨⟨(hsc.setTokPos _).drewN n, h.lx.inp.hB, h.lx.inp.hR, h.lx.inp.hRS, ?_, ⟨rb, ?_, h2⟩, h.lx.inp.finLe, h.lx.inp.posLe, h.lx.inp.sent, h.lx.inp.ok, h.lx.inp.err, h.lx.inp.bd, ⟨t, ?_, ?_⟩, fun e => by cases e⟩, h.lx.len, h.lx.le, hsg, ?_⟩, h.ch, h.tokEnd⟩, ?_⟩
  · show B ≤ (W1.setCell ⟨S, 1036, none⟩ (.int .i64 e)).heap.size
    simpa [World.setCell] using Nat.le_trans h.lx.inp.hw hb.size
  · exact h1.block ((Below.heap_setCell _ ⟨S, 1036, none⟩ _ _ h.lx.inp.hRS).trans hR)
  · exact htb.carry (fun g cur hg hh => (Below.heap_setCell _ ⟨S, 1036, none⟩ _ _ hg).trans hh) rfl rfl
  · intro t' ht'
    obtain rfl : t ++ headB l = t' := Option.some.inj ht'
    refine ⟨e, rfl, by show e ≤ s.pos; omega, ?_, h5⟩
    show t ++ headB l = t ++ seg s.buf e (s.pos - e)
    congr 1
    rw [h6]
    have e7 : s.pos - (s.pos - (headB l).length) = (headB l).length := by omega
    rw [e7]
    exact hsg.symm
  · intro t' ht'
    exact ⟨e, rfl, by show e + (headB l).length ≤ s.pos; omega⟩
  · exact (((Fr.refl B S R w).others hb hk).set h.lx.inp.hB 1036 _).drewN n

set_option maxRecDepth 10000 in
theorem tokenText {B S R : Nat} {w : World} {s : Sc} {l : List Nat} {t : List UInt8} (h : Tok B S R w s l t) :
    Calls Tryz.prog 41 #[.pointer (some ⟨S, 0, none⟩)] w fun e w' => e = .returned (.string ⟨t.toArray⟩) ∧
      ∃ s', Tok B S R w' s' l t ∧ SameB s s' ∧ Fr B S R w w' := by
  obtain ⟨bs, p, e, h1, h2, h3, h4, h5, h6, h7, h8⟩ := h.parts
  obtain ⟨c0, c1026, c1027, c1028, c1029, c1030, c1031, c1032, c1036, c1037, c1038, c1039, c1040, c1041, c1042, c1043, c1045, c1046, c1047, fz⟩ := h.lx.inp.sc.facts
  rw [h2] at c1036
  rw [h3] at c1037
  have hB := h.lx.inp.hB
  have hf := h.lx.inp.finLe
  have hp := h.lx.inp.posLe
  have hlen := Lib.hid fun k => buf_len B S s bs (w.drewN k) hB (h.lx.inp.sc.drewN k) (h1.carry (fun g cur _ hh => hh) rfl rfl)
  by_cases hb : bs = []
  · subst hb
    have hcv : ∀ k c, (convert 55 9 (.slice (some ⟨S, 1 + p, none⟩) (e - p) c)).run Tryz.prog (w.drewN k) = .ok (.string ⟨t.toArray⟩) (w.drewN k) := by
      intro k c
      have h9 : t.length = e - p := by rw [h7]; simp [seg_length]
      rw [← h9]
      refine run_convert_bytes_back _ _ _ 5 _ _ t Tryz.underlying55 Tryz.underlying5 Tryz.underlying9 ?_
      intro j hj
      have h10 := h.lx.inp.sc.byte (p + j) (by omega)
      have h11 : s.buf (p + j) = t[j] := by
        have h12 : t[j]? = some (s.buf (p + j)) := by
          rw [h7, List.nil_append]; exact seg_get _ _ _ _ (by omega)
        rw [List.getElem?_eq_getElem hj] at h12
        exact (Option.some.inj h12).symm
      rw [h11, ← Nat.add_assoc] at h10
      rw [Lib.addr_add]; exact h10
    have H := Lib.hid h
    clear h h1 h2 h3 h6 h7 h8 c0 c1026 c1027 c1028 c1029 c1030 c1031 c1032 c1038 c1039 c1040 c1041 c1042 c1043 c1045 c1046 c1047
    have q1 : e < 1025 := by omega
    have q2 : p < 1025 := by omega
    have q3 : decide ((e : Int) < (p : Int)) = false := decide_eq_false (by omega)
    have r1 : (p : Int) ≤ e := by omega
    have r2 : e ≤ 1025 := by omega
    have r3 : (e : Int) ≤ 1025 := by omega
    have r4 : ¬ 1025 = p := by omega
    go_enter Tryz.func41, Tryz.ntmps41
    go_wp2_with fail
    go_quiet (fail)
    go_wp2_with (go_at_call 60; refine (hlen.out _).mono ?_)
    rintro e1 w1 ⟨rfl, n, rfl⟩
    go_wp2_with fail
    go_quiet (fail)
    go_wp2_with fail
    go_ret
    exact ⟨rfl, s, (H.out.drewN _).drewN _, SameB.refl s, ((Fr.refl _ _ _ _).drewN _).drewN _⟩
  · have hb2 : ((bs.length : Int) == 0) = false := by
      have : bs.length ≠ 0 := fun hh => hb (List.eq_nil_of_length_eq_zero hh)
      simp; omega
    have H := Lib.hid h
    have H1 := Lib.hid h1
    have hseg : (seg s.buf p (e - p)).length = e - p := seg_length _ _ _
    have hlim : bs.length + (e - p) ≤ 140737488355328 := by
      rw [h7, List.length_append, hseg] at h8
      omega
    have H7 := Lib.hid (And.intro h7 (And.intro h6 hseg))
    clear h h1 h2 h3 h6 h7 h8 hb hseg c0 c1026 c1027 c1028 c1029 c1030 c1031 c1032 c1038 c1039 c1040 c1041 c1042 c1043 c1045 c1046 c1047
    have q1 : e < 1025 := by omega
    have q2 : p < 1025 := by omega
    have q3 : decide ((e : Int) < (p : Int)) = false := decide_eq_false (by omega)
    have r1 : (p : Int) ≤ e := by omega
    have r2 : e ≤ 1025 := by omega
    have r3 : (e : Int) ≤ 1025 := by omega
    have r4 : ¬ 1025 = p := by omega
    go_enter Tryz.func41, Tryz.ntmps41
    go_wp2_with fail
    go_quiet (fail)
    go_wp2_with (go_at_call 60; refine (hlen.out _).mono ?_)
    rintro e1 w1 ⟨rfl, n, rfl⟩
    go_wp2_with fail
    refine wp_region_tail 15 (by kernel_rfl) (by kernel_rfl) ?_
    simp only [List.take_succ_cons, List.take_zero, List.drop_succ_cons, List.drop_zero]
    repeat still_step
    refine wpStill_nil ?_
    go_wp2_with fail
    refine (buf_write_n B S (e - p) s bs (seg s.buf p (e - p)) p (1025 - p) _ H7.out.2.2 hB (H.out.lx.inp.sc.drewN _) (H1.out.carry (fun _ _ _ h9 => h9) rfl rfl) H.out.lx.inp.hw (by omega) rfl hlim).mono ?_
    rintro e2 W1 ⟨rfl, v, lr, hscW, htbW, hbelW, hothW⟩
    clear c1036 c1037 fz
    obtain ⟨c0, c1026, c1027, c1028, c1029, c1030, c1031, c1032, c1036, c1037, c1038, c1039, c1040, c1041, c1042, c1043, c1045, c1046, c1047, fz⟩ := hscW.facts
    have hE : s.tokEnd = (e : Int) := by rw [H.out.tokEnd, H7.out.2.1]
    rw [hE] at c1037
    have HS := Lib.hid hscW
    have HT := Lib.hid htbW
    have HB := Lib.hid hbelW
    have HK := Lib.hid hothW
    have HE := Lib.hid hE
    clear hscW htbW hbelW hothW hE c0 c1026 c1027 c1028 c1029 c1030 c1031 c1032 c1038 c1039 c1040 c1041 c1042 c1043 c1045 c1046 c1047
    have hstr := Lib.hid (buf_string B S { s with tb := v, tbOff := 0, tbLast := lr, tokPos := (e : Int) } (bs ++ seg s.buf p (e - p)) (W1.setCell ⟨S, 1036, none⟩ (.int .i64 e)) hB (HS.out.setTokPos _) (HT.out.carry (fun g cur hg hh => (Below.heap_setCell _ ⟨S, 1036, none⟩ _ _ hg).trans hh) rfl rfl))
    go_wp2_with (go_at_call 62; refine hstr.out.mono ?_)
    rintro e3 w3 ⟨rfl, n3, rfl⟩
    go_wp2_with fail
    go_ret
    have e7 := H7.out.1
    have hT := HT.out
    rw [← e7] at hT
    obtain ⟨k1, k2⟩ := (H.out.drewN _).written (n := n3) H7.out.2.1 HE.out HS.out hT HB.out HK.out
    exact ⟨by rw [e7]; rfl, _, k1, ⟨rfl, rfl, rfl, rfl⟩, k2.undrewN⟩
end Go.Proofs.YtmeihdlkadjoeaaGreatDoor
