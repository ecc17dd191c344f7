/- A token at the head of a text. THE PLAIN LAW: the tokens of words with gaps between them, on lists of characters alone. Scan: what it reads. Init; a new scanner. -/
import Derived.Test.YtmeihdlkadjoeaaGreatDoorMC
import Derived.WalkMore
import Derived.Deep.CutRange
import Derived.Deep.CutBlock
import Derived.Great.Walk
import Derived.Deep.Cut
import Derived.Laws.EntriesVeiled
namespace Go.Proofs.YtmeihdlkadjoeaaGreatDoor
open Go.RowKit
set_option linter.unusedVariables false
set_option linter.unusedSimpArgs false

/-- White space. -/
def wsR (c : Nat) : Bool := c == 9 || c == 13 || c == 32
/-- A character that is a token by itself: of ASCII, no letter, no digit, no underscore; neither white space nor a quotation mark, a point, a slash. -/
def markR (c : Nat) : Bool := decide (c < 128) && !idR c && !wsR c && c != 34 && c != 39 && c != 46 && c != 47 && c != 96

/-- A token at the head of a text without white space ahead: its kind, its characters, what comes behind it. -/
inductive Tokn : List Nat → Int → List Nat → List Nat → Prop where
  | eof : Tokn [] (-1) [] []
  | name (c : Nat) (rs : List Nat) (h : letR c = true) : Tokn (c :: rs) (-2) (c :: rs.takeWhile idR) (rs.dropWhile idR)
  | num (c : Nat) (rs : List Nat) (h : digR c = true) (h0 : c ≠ 48) (hs : Sep (rs.dropWhile digR)) : Tokn (c :: rs) (-3) (c :: rs.takeWhile digR) (rs.dropWhile digR)
  | zero (rs : List Nat) (hs : Sep rs) : Tokn (48 :: rs) (-3) [48] rs
  | hex (rs : List Nat) (h : headHex rs = true) (hs : Sep (rs.dropWhile hexR)) : Tokn (48 :: 120 :: rs) (-3) (48 :: 120 :: rs.takeWhile hexR) (rs.dropWhile hexR)
  | str (cs rest : List Nat) (h : ∀ c ∈ cs, strR c = true) : Tokn (34 :: (cs ++ 34 :: rest)) (-6) (34 :: (cs ++ [34])) rest
  | line (rs : List Nat) : Tokn (47 :: 47 :: rs) (-8) (47 :: 47 :: rs.takeWhile nNl) (rs.dropWhile nNl)
  | block (cs rest : List Nat) (h : noEnd (cs ++ [42]) = true) : Tokn (47 :: 42 :: (cs ++ 42 :: 47 :: rest)) (-8) (47 :: 42 :: (cs ++ [42, 47])) rest
  | mark (c : Nat) (rs : List Nat) (h : markR c = true) : Tokn (c :: rs) c [c] rs

end Go.Proofs.YtmeihdlkadjoeaaGreatDoor

namespace Go.Proofs.YtmeihdlkadjoeaaGreatDoor
set_option linter.unusedVariables false
set_option linter.unusedSimpArgs false

/-- Two characters that are one token. -/
def pairR (k : Int) (d : Nat) : Option Int :=
  if k = 45 ∧ d = 62 then some (-1002) else if k = 64 ∧ d = 62 then some (-1003) else if k = 60 ∧ d = 60 then some (-1000) else if k = 62 ∧ d = 62 then some (-1001) else none
/-- How many ends of lines. -/
def nls (t : List Nat) : Nat := t.count 10
/-- A comment that is no line of the build's. -/
def noG : List Nat → Bool
  | 47 :: 47 :: 103 :: _ => false
  | _ => true

/-- One call of the tokenizer's Next: the token's kind, its characters, how many lines it steps on, what is left. -/
inductive Step : List Nat → Int → List Nat → Nat → List Nat → Prop where
  | skip {l c rest : List Nat} {k : Int} {t : List Nat} {n : Nat} {rest' : List Nat} (h : Tokn (l.dropWhile wsR) (-8) c rest) (hg : noG c = true) (hs : Step rest k t n rest') : Step l k t (nls c + n) rest'
  | one {l : List Nat} {k : Int} {c rest : List Nat} (h : Tokn (l.dropWhile wsR) k c rest) (hk : k ≠ -8) (hp : ∀ d ∈ rest.head?, pairR k d = none) : Step l k c (if k = 10 then 1 else 0) rest
  | two {l : List Nat} {c d : Nat} {rest : List Nat} {k : Int} (h : Tokn (l.dropWhile wsR) (c : Int) [c] (d :: rest)) (hp : pairR c d = some k) : Step l k [c, d] 0 rest

/-- All calls: the tokens with the lines that each steps on. -/
inductive Toks : List Nat → List (Int × List Nat × Nat) → Prop where
  | nil {l : List Nat} {n : Nat} (h : Step l (-1) [] n []) : Toks l []
  | cons {l : List Nat} {k : Int} {t : List Nat} {n : Nat} {rest : List Nat} {ts : List (Int × List Nat × Nat)} (h : Step l k t n rest) (hk : k ≠ -1) (hs : Toks rest ts) : Toks l ((k, t, n) :: ts)

theorem Step.of_drop {l l' : List Nat} {k : Int} {t : List Nat} {n : Nat} {r : List Nat} (h : Step l k t n r) (e : l'.dropWhile wsR = l.dropWhile wsR) : Step l' k t n r := by
  cases h with
  | skip h hg hs => exact .skip (e ▸ h) hg hs
  | one h hk hp => exact .one (e ▸ h) hk hp
  | two h hp => exact .two (e ▸ h) hp

/-- Gaps, with the ends of lines in them. -/
inductive GapR : List Nat → Nat → Prop where
  | nil : GapR [] 0
  | ws {c : Nat} {g : List Nat} {n : Nat} (h : wsR c = true) (hg : GapR g n) : GapR (c :: g) n
  | com {cs g : List Nat} {n : Nat} (h : noEnd (cs ++ [42]) = true) (hg : GapR g n) : GapR (47 :: 42 :: (cs ++ 42 :: 47 :: g)) (nls cs + n)

theorem nls_block (cs : List Nat) : nls (47 :: 42 :: (cs ++ [42, 47])) = nls cs := by
  simp [nls, List.count_cons, List.count_append]

theorem GapR.step {g : List Nat} {m : Nat} (hg : GapR g m) {l : List Nat} {k : Int} {t : List Nat} {n : Nat} {r : List Nat} (h : Step l k t n r) : Step (g ++ l) k t (m + n) r := by
  induction hg with
  | nil => simpa using h
  | @ws c g n hc hg ih =>
    refine ih.of_drop ?_
    rw [List.cons_append, List.dropWhile_cons_of_pos hc]
  | @com cs g n' hc hg ih =>
    have e : 47 :: 42 :: (cs ++ 42 :: 47 :: g) ++ l = 47 :: 42 :: (cs ++ 42 :: 47 :: (g ++ l)) := by simp
    rw [e, Nat.add_assoc, ← nls_block]
    refine .skip (rest := g ++ l) ?_ rfl ih
    rw [List.dropWhile_cons_of_neg (by decide)]
    exact .block cs (g ++ l) hc

theorem count_none {cs : List Nat} (h : ∀ c ∈ cs, nNl c = true) : nls cs = 0 := by
  rw [nls, List.count_eq_zero]
  intro hm
  have := h 10 hm
  simp [nNl] at this

theorem takeWhile_all {p : Nat → Bool} {a b : List Nat} (h : ∀ c ∈ a, p c = true) (hb : ∀ c ∈ b.head?, p c = false) : (a ++ b).takeWhile p = a := by
  induction a with
  | nil =>
    cases b with
    | nil => rfl
    | cons x b => rw [List.nil_append, List.takeWhile_cons_of_neg (by rw [hb x rfl]; decide)]
  | cons x a ih => rw [List.cons_append, List.takeWhile_cons_of_pos (h x (by simp)), ih (fun c hc => h c (by simp [hc]))]
theorem dropWhile_all {p : Nat → Bool} {a b : List Nat} (h : ∀ c ∈ a, p c = true) (hb : ∀ c ∈ b.head?, p c = false) : (a ++ b).dropWhile p = b := by
  induction a with
  | nil =>
    cases b with
    | nil => rfl
    | cons x b => rw [List.nil_append, List.dropWhile_cons_of_neg (by rw [hb x rfl]; decide)]
  | cons x a ih => rw [List.cons_append, List.dropWhile_cons_of_pos (h x (by simp)), ih (fun c hc => h c (by simp [hc]))]

/-- A comment to the end of the line. -/
theorem step_line {cs rest : List Nat} {k : Int} {t : List Nat} {n : Nat} {r : List Nat} (hc : ∀ c ∈ cs, nNl c = true) (hg : noG (47 :: 47 :: cs) = true) (h : Step (10 :: rest) k t n r) : Step (47 :: 47 :: (cs ++ 10 :: rest)) k t n r := by
  have h10 : ∀ c ∈ (10 :: rest).head?, nNl c = false := by simp [nNl]
  have hT := Tokn.line (cs ++ 10 :: rest)
  rw [takeWhile_all hc h10, dropWhile_all hc h10] at hT
  have e : nls (47 :: 47 :: cs) + n = n := by
    have := count_none hc
    simp [nls, List.count_cons] at this ⊢
    omega
  rw [← e]
  refine .skip ?_ hg h
  rw [List.dropWhile_cons_of_neg (by decide)]
  exact hT

/-- The statements' words. -/
inductive WordR : List Nat → Int → Prop where
  | name (c : Nat) (rs : List Nat) (h : letR c = true) (hs : ∀ x ∈ rs, idR x = true) : WordR (c :: rs) (-2)
  | num (c : Nat) (rs : List Nat) (h : digR c = true) (h0 : c ≠ 48) (hs : ∀ x ∈ rs, digR x = true) : WordR (c :: rs) (-3)
  | zero : WordR [48] (-3)
  | hex (rs : List Nat) (h : rs ≠ []) (hs : ∀ x ∈ rs, hexR x = true) : WordR (48 :: 120 :: rs) (-3)
  | str (cs : List Nat) (hs : ∀ x ∈ cs, strR x = true) : WordR (34 :: (cs ++ [34])) (-6)
  | mark (c : Nat) (h : markR c = true) : WordR [c] c
  | pair (c d : Nat) (k : Int) (h : pairR c d = some k) : WordR [c, d] k

/-- What may stand behind a word. -/
def Follow (k : Int) (l : List Nat) : Prop := ∀ d ∈ l.head?, (k = -2 → idR d = false) ∧ (k = -3 → sepR d = true) ∧ pairR k d = none
theorem Follow.nil (k : Int) : Follow k [] := by simp [Follow]

theorem sep_id {c : Nat} (h : sepR c = true) : idR c = false := by
  simp only [sepR, Bool.and_eq_true, Bool.not_eq_true'] at h
  exact h.1.2
theorem id_dig {c : Nat} (h : digR c = true) : idR c = true := by simp [idR, identR, h]
theorem id_let {c : Nat} (h : letR c = true) : idR c = true := by simp [idR, identR, h]
theorem id_hex {c : Nat} (h : hexR c = true) : idR c = true := by
  simp only [hexR, Bool.or_eq_true, decide_eq_true_eq] at h
  simp only [idR, identR, letR, digR, Bool.or_eq_true, Bool.and_eq_true, decide_eq_true_eq]
  omega
theorem ws_id {c : Nat} (h : idR c = true) : wsR c = false := by
  simp only [idR, identR, letR, digR, Bool.or_eq_true, Bool.and_eq_true, decide_eq_true_eq] at h
  simp [wsR]
  omega

theorem pairR_kinds {k : Int} {d : Nat} {v : Int} (h : pairR k d = some v) : ((k = 45 ∧ d = 62 ∧ v = -1002) ∨ (k = 64 ∧ d = 62 ∧ v = -1003)) ∨ ((k = 60 ∧ d = 60 ∧ v = -1000) ∨ (k = 62 ∧ d = 62 ∧ v = -1001)) := by
  unfold pairR at h
  split at h
  · exact .inl (.inl ⟨by omega, by omega, (Option.some.inj h).symm⟩)
  · split at h
    · exact .inl (.inr ⟨by omega, by omega, (Option.some.inj h).symm⟩)
    · split at h
      · exact .inr (.inl ⟨by omega, by omega, (Option.some.inj h).symm⟩)
      · split at h
        · exact .inr (.inr ⟨by omega, by omega, (Option.some.inj h).symm⟩)
        · cases h

theorem WordR.step {r : List Nat} {k : Int} (h : WordR r k) {l : List Nat} (hf : Follow k l) : Step (r ++ l) k r (if k = 10 then 1 else 0) l := by
  have hp : ∀ d ∈ l.head?, pairR k d = none := fun d hd => (hf d hd).2.2
  cases h with
  | name c rs h hs =>
    have h1 : ∀ d ∈ l.head?, idR d = false := fun d hd => (hf d hd).1 rfl
    refine .one ?_ (by decide) hp
    rw [List.cons_append, List.dropWhile_cons_of_neg (by simp [ws_id (id_let h)])]
    have := Tokn.name c (rs ++ l) h
    rw [takeWhile_all hs h1, dropWhile_all hs h1] at this
    exact this
  | num c rs h h0 hs =>
    have h1 : ∀ d ∈ l.head?, digR d = false := fun d hd => by
      have := sep_id ((hf d hd).2.1 rfl)
      cases hx : digR d with
      | false => rfl
      | true => rw [id_dig hx] at this; cases this
    refine .one ?_ (by decide) hp
    rw [List.cons_append, List.dropWhile_cons_of_neg (by simp [ws_id (id_dig h)])]
    have := Tokn.num c (rs ++ l) h h0 (by rw [dropWhile_all hs h1]; exact fun d hd => (hf d hd).2.1 rfl)
    rw [takeWhile_all hs h1, dropWhile_all hs h1] at this
    exact this
  | zero =>
    refine .one ?_ (by decide) hp
    rw [List.cons_append, List.dropWhile_cons_of_neg (by decide)]
    exact Tokn.zero l (fun d hd => (hf d hd).2.1 rfl)
  | hex rs h hs =>
    have h1 : ∀ d ∈ l.head?, hexR d = false := fun d hd => by
      have := sep_id ((hf d hd).2.1 rfl)
      cases hx : hexR d with
      | false => rfl
      | true => rw [id_hex hx] at this; cases this
    refine .one ?_ (by decide) hp
    rw [List.cons_append, List.dropWhile_cons_of_neg (by decide)]
    have := Tokn.hex (rs ++ l) (by
      cases rs with
      | nil => exact absurd rfl h
      | cons x rs => exact hs x (by simp)) (by rw [dropWhile_all hs h1]; exact fun d hd => (hf d hd).2.1 rfl)
    rw [takeWhile_all hs h1, dropWhile_all hs h1] at this
    exact this
  | str cs hs =>
    refine .one ?_ (by decide) hp
    rw [List.cons_append, List.dropWhile_cons_of_neg (by decide)]
    have e : cs ++ [34] ++ l = cs ++ 34 :: l := by simp
    rw [e]
    exact Tokn.str cs l hs
  | mark c h =>
    have hw : wsR c = false := by
      simp only [markR, Bool.and_eq_true, Bool.not_eq_true'] at h
      simp_all
    refine .one ?_ (by omega) hp
    rw [List.cons_append, List.dropWhile_cons_of_neg (by simp [hw])]
    exact Tokn.mark c l h
  | pair c d k h =>
    have e : k ≠ 10 := by
      have := pairR_kinds h
      omega
    rw [if_neg e]
    have hm : markR c = true := by
      rcases pairR_kinds h with h1 | h1 <;> rcases h1 with h1 | h1 <;> obtain ⟨h2, _, _⟩ := h1
      · have : c = 45 := by omega
        subst this; decide
      · have : c = 64 := by omega
        subst this; decide
      · have : c = 60 := by omega
        subst this; decide
      · have : c = 62 := by omega
        subst this; decide
    have hw : wsR c = false := by
      simp only [markR, Bool.and_eq_true, Bool.not_eq_true'] at hm
      simp_all
    refine .two ?_ h
    show Tokn ((c :: d :: l).dropWhile wsR) c [c] (d :: l)
    rw [List.dropWhile_cons_of_neg (by simp [hw])]
    exact Tokn.mark c (d :: l) hm

theorem WordR.kind {r : List Nat} {k : Int} (h : WordR r k) : k ≠ -1 := by
  cases h with
  | pair c d k h => have := pairR_kinds h; omega
  | mark c h => omega
  | _ => decide
theorem WordR.ne_nil {r : List Nat} {k : Int} (h : WordR r k) : r ≠ [] := by cases h <;> simp

theorem Toks.word {r : List Nat} {k : Int} (h : WordR r k) {l : List Nat} (hf : Follow k l) {ts : List (Int × List Nat × Nat)} (hs : Toks l ts) : Toks (r ++ l) ((k, r, if k = 10 then 1 else 0) :: ts) :=
  .cons (h.step hf) h.kind hs
theorem Toks.end : Toks [] [] := .nil (n := 0) (.one (k := -1) (c := []) (rest := []) .eof (by decide) (by simp))
theorem Toks.gap {g : List Nat} (hg : GapR g 0) {l : List Nat} {ts : List (Int × List Nat × Nat)} (h : Toks l ts) : Toks (g ++ l) ts := by
  cases h with
  | nil h => exact .nil (hg.step h)
  | cons h hk hs => exact .cons (by simpa using hg.step h) hk hs
/-- A token without its lines. -/
def bare (x : Int × List Nat × Nat) : Int × List Nat := (x.1, x.2.1)
theorem Toks.gapN {g : List Nat} {m : Nat} (hg : GapR g m) {l : List Nat} {ts : List (Int × List Nat × Nat)} (h : Toks l ts) : ∃ ts', Toks (g ++ l) ts' ∧ ts'.map bare = ts.map bare := by
  cases h with
  | nil h => exact ⟨_, .nil (hg.step h), rfl⟩
  | cons h hk hs => exact ⟨_, .cons (hg.step h) hk hs, rfl⟩
theorem Toks.line {cs rest : List Nat} (hc : ∀ c ∈ cs, nNl c = true) (hg : noG (47 :: 47 :: cs) = true) {ts : List (Int × List Nat × Nat)} (h : Toks (10 :: rest) ts) : Toks (47 :: 47 :: (cs ++ 10 :: rest)) ts := by
  cases h with
  | nil h => exact .nil (step_line hc hg h)
  | cons h hk hs => exact .cons (step_line hc hg h) hk hs

/-- Words with their gaps. -/
def joinR : List (List Nat) → List (List Nat) → List Nat
  | [], _ => []
  | w :: ws, [] => w ++ joinR ws []
  | w :: ws, g :: gs => w ++ (g ++ joinR ws gs)

/-- A gap's beginning. -/
def gapHead (c : Nat) : Bool := c == 9 || c == 32 || c == 47
theorem gapHead_sep {c : Nat} (h : gapHead c = true) : sepR c = true := by
  simp only [gapHead, Bool.or_eq_true, beq_iff_eq] at h
  rcases h with (rfl | rfl) | rfl <;> decide
theorem pairR_gap {k : Int} {c : Nat} (h : gapHead c = true) : pairR k c = none := by
  cases e : pairR k c with
  | none => rfl
  | some v =>
    have := pairR_kinds e
    simp only [gapHead, Bool.or_eq_true, beq_iff_eq] at h
    omega
theorem follow_gap {k : Int} {l : List Nat} (h : ∀ c ∈ l.head?, gapHead c = true) : Follow k l := fun d hd => ⟨fun _ => sep_id (gapHead_sep (h d hd)), fun _ => gapHead_sep (h d hd), pairR_gap (h d hd)⟩

/-- A gap of the statements'. -/
structure GapW (g : List Nat) : Prop where
  gap : GapR g 0
  ne : g ≠ []
  head : ∀ c ∈ g.head?, gapHead c = true
theorem GapW.follow {g : List Nat} (h : GapW g) (k : Int) (l : List Nat) : Follow k (g ++ l) := by
  apply follow_gap
  cases g with
  | nil => exact absurd rfl h.ne
  | cons x g => exact h.head

def tokW (w : List Nat × Int) : Int × List Nat × Nat := (w.2, w.1, if w.2 = 10 then 1 else 0)
/-- The tokens of words with gaps, something behind. -/
theorem toks_join (ws : List (List Nat × Int)) : ∀ (gs : List (List Nat)), gs.length = ws.length → (∀ w ∈ ws, WordR w.1 w.2) → (∀ g ∈ gs, GapW g) → ∀ (l : List Nat) (ts : List (Int × List Nat × Nat)), Toks l ts →
    Toks (joinR (ws.map (·.1)) gs ++ l) (ws.map tokW ++ ts) := by
  induction ws with
  | nil => intro gs _ _ _ l ts h; cases gs <;> exact h
  | cons w ws ih =>
    intro gs hl hw hg l ts h
    cases gs with
    | nil => simp at hl
    | cons g gs =>
      have h1 := ih gs (by simpa using hl) (fun x hx => hw x (by simp [hx])) (fun x hx => hg x (by simp [hx])) l ts h
      have hg1 := hg g (by simp)
      have h2 := Toks.gap hg1.gap h1
      have h3 := Toks.word (hw w (by simp)) (hg1.follow w.2 (joinR (ws.map (·.1)) gs ++ l)) h2
      simpa [joinR, tokW] using h3

/-- May the one word stand right behind the other? -/
def ApartR (a : List Nat × Int) (b : List Nat) : Prop := ∀ d ∈ b.head?, (a.2 = -2 → idR d = false) ∧ (a.2 = -3 → sepR d = true) ∧ pairR a.2 d = none
def chainR : List (List Nat × Int) → Prop
  | a :: b :: l => ApartR a b.1 ∧ chainR (b :: l)
  | _ => True
theorem toks_apart (ws : List (List Nat × Int)) : (∀ w ∈ ws, WordR w.1 w.2) → chainR ws → Toks (joinR (ws.map (·.1)) []) (ws.map tokW) := by
  induction ws with
  | nil => intro _ _; exact Toks.end
  | cons w ws ih =>
    intro hw hc
    have h1 := ih (fun x hx => hw x (by simp [hx])) (by cases ws with | nil => trivial | cons b l => exact hc.2)
    refine Toks.word (hw w (by simp)) ?_ h1
    cases ws with
    | nil => exact Follow.nil _
    | cons b l =>
      have hb := (hw b (by simp)).ne_nil
      intro d hd
      refine hc.1 d ?_
      obtain ⟨b1, b2⟩ := b
      cases b1 with
      | nil => exact absurd rfl hb
      | cons x b1 => exact hd

theorem WordR.ok {r : List Nat} {k : Int} (h : WordR r k) (hs : k = -6 → ∀ c ∈ r, c < 128) : ∀ c ∈ r, okR c := by
  have hid : ∀ c, idR c = true → okR c := fun c hc => by
    simp only [idR, identR, letR, digR, Bool.or_eq_true, Bool.and_eq_true, decide_eq_true_eq] at hc
    unfold okR; omega
  intro x hx
  cases h with
  | name c rs h hs' =>
    rcases List.mem_cons.1 hx with rfl | hx
    · exact hid _ (id_let h)
    · exact hid _ (hs' _ hx)
  | num c rs h h0 hs' =>
    rcases List.mem_cons.1 hx with rfl | hx
    · exact hid _ (id_dig h)
    · exact hid _ (id_dig (hs' _ hx))
  | zero => simp at hx; subst hx; exact .inl (by decide)
  | hex rs h hs' =>
    rcases List.mem_cons.1 hx with rfl | hx
    · exact .inl (by decide)
    · rcases List.mem_cons.1 hx with rfl | hx
      · exact .inl (by decide)
      · exact hid _ (id_hex (hs' _ hx))
  | str cs hs' => exact .inl (hs rfl x hx)
  | mark c h =>
    simp at hx; subst hx
    simp only [markR, Bool.and_eq_true, decide_eq_true_eq] at h
    exact .inl (by omega)
  | pair c d k h =>
    have := pairR_kinds h
    simp at hx
    exact .inl (by omega)

end Go.Proofs.YtmeihdlkadjoeaaGreatDoor

namespace Go.Proofs.YtmeihdlkadjoeaaGreatDoor
open Go.RowKit
set_option linter.unusedVariables false
set_option linter.unusedSimpArgs false

def headWs (l : List Nat) : Bool := match l with
  | [] => false
  | c :: _ => wsR c
set_option maxRecDepth 100000 in
theorem ws_asc : ∀ c : Nat, c < 128 → (Go.bits .and .u64 4294976000 (IntKind.u64.wrap (2 ^ min (IntKind.u64.wrap (c : Int)).toNat 64)) != 0) = wsR c := by decide +kernel
theorem ws_bit {l : List Nat} (hok : ∀ c ∈ l, okR c) : (Go.bits .and .u64 4294976000 (IntKind.u64.wrap (2 ^ min (IntKind.u64.wrap (headR l)).toNat 64)) != 0) = headWs l := by
  cases l with
  | nil => decide +kernel
  | cons c rs =>
    rcases hok c (by simp) with hc | rfl | rfl
    · exact ws_asc c hc
    · show (Go.bits .and .u64 4294976000 (IntKind.u64.wrap (2 ^ min (IntKind.u64.wrap ((183 : Nat) : Int)).toNat 64)) != 0) = wsR 183
      decide +kernel
    · show (Go.bits .and .u64 4294976000 (IntKind.u64.wrap (2 ^ min (IntKind.u64.wrap ((8725 : Nat) : Int)).toNat 64)) != 0) = wsR 8725
      decide +kernel

/-- The beginning of a text: the buffer is empty, the text's place is the last character's. -/
theorem Lx.start {B S R : Nat} {w w2 W : World} {s s2 s3 : Sc} {l : List Nat} (h : Lx B S R w s l.tail (headB l) none) (hl : (enc l).length ≤ 1000000) {v : Value} {lr : Int} (e2 : s2 = { s with tb := v, tbOff := 0, tbLast := lr })
    (m2 : TbIs B S w2 s2 []) (m3 : Below B w w2) (m4 : Lib.OthersKept 5 (some S) w w2) (hsc : ScAt W S s3) (ho : Only S w2 W) (hc : Core { s2 with tokPos := ((s.pos - (headB l).length : Nat) : Int) } s3) :
    Lx B S R W s3 l.tail (headB l) (some []) ∧ Fr B S R w W := by
  subst e2
  obtain ⟨e1, e2, e3, e4, e5, e6, e7, e8, e9⟩ := hc
  obtain ⟨rb, h1, h2⟩ := h.inp.rd
  have hR := h1.keeps m4 h.inp.hRS
  have hle := h.le
  refine ⟨⟨⟨hsc, h.inp.hB, h.inp.hR, h.inp.hRS, by rw [ho.size]; exact Nat.le_trans h.inp.hw m3.size, ⟨rb, ?_, ?_⟩, by rw [e4]; exact h.inp.finLe, by rw [e3, e4]; exact h.inp.posLe, by rw [e2, e4]; exact h.inp.sent, h.inp.ok, e9.trans h.inp.err, h.inp.bd,
    ⟨[], m2.carry (fun g cur hg hh => (ho.heap g hg).trans hh) e6 e7, ?_⟩, fun e => by cases e⟩, by rw [e5]; exact h.len, by rw [e3]; exact h.le, by rw [e2, e3]; exact h.sg, ?_⟩, ((Fr.refl B S R w).others m3 m4).trans (ho.fr h.inp.hB R)⟩
  · rw [e1]; exact h1.block ((ho.heap R h.inp.hRS).trans hR)
  · rw [e2, e3, e4]; exact h2
  · intro t ht
    obtain rfl : [] ++ headB l = t := Option.some.inj ht
    refine ⟨s.pos - (headB l).length, e8, by rw [e3]; exact Nat.sub_le _ _, ?_, ?_⟩
    · rw [e2, e3]
      have e10 : s.pos - (s.pos - (headB l).length) = (headB l).length := by omega
      show [] ++ headB l = [] ++ seg s.buf (s.pos - (headB l).length) (s.pos - (s.pos - (headB l).length))
      rw [e10, h.sg]
    · have : enc l = headB l ++ enc l.tail := by cases l <;> simp [headB, enc]
      rw [this, List.length_append] at hl
      simpa using hl
  · intro t ht
    exact ⟨s.pos - (headB l).length, e8, by rw [e3]; show s.pos - (headB l).length + (headB l).length ≤ s.pos; omega⟩

theorem enc_drop (p : Nat → Bool) (l : List Nat) : (enc (l.dropWhile p)).length ≤ (enc l).length := by
  have := congrArg (fun x => (enc x).length) (List.takeWhile_append_dropWhile (p := p) (l := l))
  simp only [enc_append, List.length_append] at this
  omega

theorem len_enc (l : List Nat) : l.length ≤ (enc l).length := by
  induction l with
  | nil => simp
  | cons c l ih =>
    have := encR_pos c
    rw [enc_cons, List.length_append, List.length_cons]; omega
theorem At.mode {B S R : Nat} {w0 w : World} {s0 : Sc} {l : List Nat} {txt : Option (List UInt8)} (h : At B S R w0 s0 w l txt) (e : s0.mode = 380) : w.cell? ⟨S, 1041, none⟩ = some (.int .u64 380) := by
  obtain ⟨s, h1, h2, _⟩ := h
  have e2 : s.mode = 380 := h2.2.1.trans e
  rw [← e2]; exact h1.inp.sc.cell 1041
theorem mark_id {c : Nat} {rs : List Nat} (h : markR c = true) : headI (c :: rs) 0 = false := by
  simp only [markR, idR, identR, Bool.and_eq_true, Bool.not_eq_true', Bool.or_eq_false_iff] at h
  simp [headI, identR, h.1.1.1.1.1.1.2.1]
theorem mark_dig {c : Nat} {rs : List Nat} (h : markR c = true) : headDig (c :: rs) = false := by
  simp only [markR, idR, identR, Bool.and_eq_true, Bool.not_eq_true', Bool.or_eq_false_iff] at h
  have := h.1.1.1.1.1.1.2.2
  simpa [headDig] using this
theorem mark_ne {c : Nat} (h : markR c = true) : ((c : Int) == -1) = false ∧ ((c : Int) == 34) = false ∧ ((c : Int) == 39) = false ∧ ((c : Int) == 46) = false ∧ ((c : Int) == 47) = false ∧ ((c : Int) == 96) = false := by
  simp only [markR, Bool.and_eq_true, bne_iff_ne, ne_eq] at h
  obtain ⟨⟨⟨⟨⟨_, h1⟩, h2⟩, h3⟩, h4⟩, h5⟩ := h
  refine ⟨?_, ?_, ?_, ?_, ?_, ?_⟩ <;> simp <;> omega

set_option maxHeartbeats 4000000 in
set_option maxRecDepth 10000 in
theorem scan_ok {B S R : Nat} {w : World} {s : Sc} {l : List Nat} {k : Int} {txt rest : List Nat} (ht : Tokn (l.dropWhile wsR) k txt rest) (hl : (enc l).length ≤ 1000000) (h : Idle B S R w s l) (hG : GlobI B w) (hok : ∀ c ∈ l, okR c) (hid : s.ident = identV) (hws : s.ws = 4294976000) (hmode : s.mode = 380) :
    Calls Tryz.prog 40 #[.pointer (some ⟨S, 0, none⟩)] w fun e w' =>
      e = .returned (.int .i32 k) ∧ ∃ s', Tok B S R w' s' rest (enc txt) ∧ SameB s s' ∧ Fr B S R w w' ∧ GlobI B w' := by
  have P := Lib.hid (peek_idle h hG hok)
  have HG := Lib.hid hG
  have HK := Lib.hid hok
  have HT := Lib.hid ht
  clear h hG hok ht
  go_enter Tryz.func40, Tryz.ntmps40
  go_wp2_with fail
  go_step3
  go_wp2_with (go_at_call 44; refine P.out.mono ?_)
  rintro e w1 ⟨rfl, s1, k1, ⟨txt0, k2⟩, k3, k4⟩
  have fz1 := k2.inp.sc.fz
  have d1036 : w1.cell? ⟨S, 1036, none⟩ = some (.int .i64 s1.tokPos) := k2.inp.sc.cell 1036
  have d1046 : w1.cell? ⟨S, 1046, none⟩ = some (.int .i64 s1.pLine) := k2.inp.sc.cell 1046
  have l1 : Lx B S R ((w1.setCell ⟨S, 1036, none⟩ (.int .i64 (-1))).setCell ⟨S, 1046, none⟩ (.int .i64 0)) { s1 with tokPos := -1, pLine := 0 } l.tail (headB l) none :=
    k2.stop (-1) (by decide) ((k2.inp.sc.setTokPos _).setPLine _) (((Only.refl S w1).set _ _).set _ _) ⟨rfl, rfl, rfl, rfl, rfl, rfl, rfl, rfl, rfl⟩
  have f1 : Fr B S R w ((w1.setCell ⟨S, 1036, none⟩ (.int .i64 (-1))).setCell ⟨S, 1046, none⟩ (.int .i64 0)) := k4.trans ((((Only.refl S w1).set _ _).set _ _).fr k2.inp.hB R)
  have a1 : At B S R w { s1 with tokPos := -1, pLine := 0 } ((w1.setCell ⟨S, 1036, none⟩ (.int .i64 (-1))).setCell ⟨S, 1046, none⟩ (.int .i64 0)) l none :=
    ⟨_, l1, Same.refl _, f1, HG.out.below f1.1⟩
  have A1 := Lib.hid a1
  have K3 := Lib.hid k3
  clear k1 k2 k3 k4 l1 f1 a1
  go_wp2_with fail
  go_step3
  go_wp2_with fail
  go_loopg [3] (l.length + 1) (fun gk' ch wr => ∃ (l' : List Nat), At B S R w { s1 with tokPos := -1, pLine := 0 } wr l' none ∧ ch = .int .i32 (headR l') ∧ (∀ c ∈ l', okR c) ∧ l'.dropWhile wsR = l.dropWhile wsR ∧ l'.length < gk')
  case atStart => exact ⟨l, A1.out, rfl, HK.out, rfl, Nat.lt_succ_self _⟩
  case round =>
    clear A1 fz1 d1036 d1046
    obtain ⟨l', h', rfl, hok', hdr, hk⟩ := hrel
    have c1042 : wr.cell? ⟨S, 1042, none⟩ = some (.int .u64 4294976000) := by
      obtain ⟨s2, j1, j2, _⟩ := h'
      have e : s2.ws = 4294976000 := j2.2.2.1.trans (K3.out.2.2.1.trans hws)
      have := j1.inp.sc.cell 1042
      rw [← e]; exact this
    have H' := Lib.hid h'
    have HD := Lib.hid hdr
    have HO := Lib.hid hok'
    have hwb := ws_bit hok'
    clear h' hdr hok'
    by_cases hw : headWs l' = true
    · rw [hw] at hwb
      obtain ⟨c, rs, rfl⟩ : ∃ c rs, l' = c :: rs := by
        cases l' with
        | nil => cases hw
        | cons c rs => exact ⟨c, rs, rfl⟩
      have hwc : wsR c = true := hw
      have HW := Lib.hid hwc
      clear hw hwc
      go_wp2_with (go_at_call 50; refine H'.out.next.mono ?_)
      first | rintro e w3 rfl h3 | rintro e w3 ⟨rfl, h3⟩
      have H3 := Lib.hid h3
      clear h3
      go_wp2_with fail
      go_roundg (rs.length + 1)
      case measure => simpa using hk
      case rel =>
        refine ⟨rs, H3.out, rfl, fun x hx => HO.out x (by simp [hx]), ?_, Nat.lt_succ_self _⟩
        rw [← HD.out, List.dropWhile_cons_of_pos HW.out]
    · have hw2 : headWs l' = false := by simpa using hw
      rw [hw2] at hwb
      have hld : l'.dropWhile wsR = l' := by
        cases l' with
        | nil => rfl
        | cons c rs => exact List.dropWhile_cons_of_neg (by simpa [headWs] using hw2)
      have HLD := Lib.hid hld
      clear hw hw2 hld
      obtain ⟨s2, j1, j2, j3, j4⟩ := H'.out
      obtain ⟨bs0, j5, _⟩ := j1.inp.tb
      have RS := Lib.hid (buf_reset B S s2 bs0 wr j1.inp.hB j1.inp.sc j5)
      have J := Lib.hid (And.intro j1 (And.intro j2 (And.intro j3 j4)))
      clear j1 j2 j3 j4 j5
      go_wp2_with (go_at_call 51; refine RS.out.mono ?_)
      rintro e w2 ⟨rfl, v, lr, m1, m2, m3, m4⟩
      obtain ⟨c0, c1026, c1027, c1028, c1029, c1030, c1031, c1032, c1036, c1037, c1038, c1039, c1040, c1041, c1042', c1043, c1045, c1046, c1047, fz⟩ := m1.facts
      have hlen := J.out.1.len
      have hple := J.out.1.le
      have q1 : IntKind.i64.wrap ((s2.pos : Int) - (s2.lastLen : Int)) = ((s2.pos - (headB l').length : Nat) : Int) := by
        rw [hlen]
        have hp := J.out.1.inp.posLe
        have hf := J.out.1.inp.finLe
        rw [IntWalk.i64_in _ (by omega)]
        omega
      have M1 := Lib.hid m1
      have M2 := Lib.hid m2
      have M3 := Lib.hid m3
      have M4 := Lib.hid m4
      clear m1 m2 m3 m4 hlen hple c0 c1027 c1037 c1038 c1039 c1040 c1041 c1042 c1042' c1043
      go_wp2_with fail
      refine wp_region_tail 12 (by kernel_rfl) (by kernel_rfl) ?_
      simp only [List.take_succ_cons, List.take_zero, List.drop_succ_cons, List.drop_zero]
      repeat still_step
      refine wpStill_nil ?_
      go_wp2_with fail
      refine wp_region_tail 13 (by kernel_rfl) (by kernel_rfl) ?_
      simp only [List.take_succ_cons, List.take_zero, List.drop_succ_cons, List.drop_zero]
      repeat still_step
      refine wpStill_nil ?_
      go_upto_if 58 with fail
      go_cut [3] from 54 to 91 (fun ch wx => ch = .int .i32 (headR l') ∧ At B S R w s2 wx l' (some []))
      case first =>
        have key : ∀ a b c : Int, At B S R w s2 (((((w2.setCell ⟨S, 1036, none⟩ (.int .i64 ((s2.pos - (headB l').length : Nat) : Int))).setCell ⟨S, 1045, none⟩ (.int .i64 a)).setCell ⟨S, 1046, none⟩ (.int .i64 b)).setCell ⟨S, 1047, none⟩ (.int .i64 c)).drew.drew) l' (some []) := by
          intro a b c
          have hll : (enc l').length ≤ 1000000 := by
            rw [← HLD.out, HD.out]
            exact Nat.le_trans (enc_drop _ _) hl
          obtain ⟨st1, st2⟩ := J.out.1.start hll rfl M2.out M3.out M4.out ((((((M1.out.setTokPos ((s2.pos - (headB l').length : Nat) : Int)).setPOff a).setPLine b).setPCol c).drew).drew) ((((((((Only.refl S w2).set _ _).set _ _).set _ _).set _ _).drew).drew)) ⟨rfl, rfl, rfl, rfl, rfl, rfl, rfl, rfl, rfl⟩
          exact ⟨_, st1, ⟨rfl, rfl, rfl, rfl, rfl⟩, J.out.2.2.1.trans st2, J.out.2.2.2.below st2.1⟩
        have KEY := Lib.hid key
        clear key
        by_cases hcol : 0 < s2.col
        · go_wp2_with fail
          go_meet
          case rel => exact ⟨rfl, KEY.out _ _ _⟩
        · go_wp2_with fail
          go_meet
          case rel => exact ⟨rfl, KEY.out _ _ _⟩
      case rest =>
        obtain ⟨hch, hA⟩ := hcut
        generalize headR l' = y0
        generalize ((s2.pos - (headB l').length : Nat) : Int) = y1
        generalize IntKind.i64.wrap (s2.off + y1) = y2
        subst hch
        have HA := Lib.hid hA
        clear hA M1 M2 M3 M4 RS c1026 c1028 c1029 c1030 c1031 c1032 c1036 c1045 c1046 c1047 fz q1 hwb
        go_upto_block 2 with fail
        go_cut [3, 4] from 93 to 217 (fun ch tok wx => ch = .int .i32 (headR rest) ∧ tok = .int .i32 k ∧ At B S R w s2 wx rest (some (enc txt)))
        case first =>
          have hTk := HT.out
          rw [← HD.out, HLD.out] at hTk
          have hll : l'.length ≤ 1000000 := by
            have h1 := len_enc l'
            have h2 : (enc l').length ≤ (enc l).length := by
              rw [← HLD.out, HD.out]
              exact enc_drop _ _
            omega
          have hid2 : s2.ident = identV := J.out.2.1.2.2.2.1.trans (K3.out.2.2.2.trans hid)
          have hmode2 : s2.mode = 380 := J.out.2.1.2.1.trans (K3.out.2.1.trans hmode)
          have hI0 := HA.out.isIdent hid2 HO.out 0 (by decide)
          have hI : Calls Tryz.prog 52 #[.pointer (some ⟨S, 0, none⟩), .int .i32 (headR l'), .int .i64 0] _ _ := hI0
          clear hI0
          have hok2 := HO.out
          clear HA J HT HD HLD HO P HG HK K3 hk hid hws hmode hl
          have HO := Lib.hid hok2
          have HL := Lib.hid hll
          have HID := Lib.hid hid2
          have HM := Lib.hid hmode2
          have p4 : Go.bits .and .u64 380 4 = 4 := by decide +kernel
          have p24 : Go.bits .and .u64 380 24 = 24 := by decide +kernel
          have p64 : Go.bits .and .u64 380 64 = 64 := by decide +kernel
          have p256 : Go.bits .and .u64 380 256 = 256 := by decide +kernel
          have p512 : Go.bits .and .u64 380 512 = 0 := by decide +kernel
          clear hok2 hll hid2 hmode2
          cases hTk with
          | eof =>
            have hi0 : headI ([]) 0 = false := rfl
            rw [hi0] at hI
            have HI := Lib.hid hI
            clear hI hi0
            have hd := fun W => isDec_ok ([]) W
            have hd0 : headDig ([]) = false := rfl
            rw [hd0] at hd
            have HDc := Lib.hid hd
            clear hd hd0
            have g1 : (headR ([]) == -1) = true := rfl
            go_wp2_with (go_at_call 52; refine HI.out.mono ?_)
            first | rintro e w3 rfl h3 | rintro e w3 ⟨rfl, h3⟩
            have m3 := h3.mode HM.out
            have H3 := Lib.hid h3
            clear h3
            go_wp2_with (go_at_call 54; refine (HDc.out _).mono ?_)
            try (first | rintro e w4 rfl rfl | rintro e w4 ⟨rfl, rfl⟩)
            go_wp2_with fail
            go_meet
            case rel => exact ⟨rfl, rfl, H3.out⟩
          | name c rs h =>
            have hi0 : headI (c :: rs) 0 = true := by simp [headI, identR, h]
            rw [hi0] at hI
            have HI := Lib.hid hI
            clear hI hi0
            go_wp2_with (go_at_call 52; refine HI.out.mono ?_)
            first | rintro e w3 rfl h3 | rintro e w3 ⟨rfl, h3⟩
            have m3 := h3.mode HM.out
            have h5 := h3.scanIdentifier HID.out HO.out HL.out
            rw [show (some ([] : List UInt8)).map (· ++ (headB (c :: rs) ++ enc ((c :: rs).tail.takeWhile idR))) = some (enc (c :: rs.takeWhile idR)) by simp [headB, enc_cons]] at h5
            have H5 := Lib.hid h5
            clear h3 h5
            go_wp2_with (go_at_call 53; refine H5.out.mono ?_)
            first | rintro e w5 rfl h6 | rintro e w5 ⟨rfl, h6⟩
            have H6 := Lib.hid h6
            clear h6
            go_wp2_with fail
            go_meet
            case rel => exact ⟨rfl, rfl, H6.out⟩
          | num c rs h h0 hs =>
            have hi0 : headI (c :: rs) 0 = false := by have h' := h; simp only [digR, decide_eq_true_eq] at h'; simp [headI, identR, letR]; omega
            rw [hi0] at hI
            have HI := Lib.hid hI
            clear hI hi0
            have hd := fun W => isDec_ok (c :: rs) W
            have hd0 : headDig (c :: rs) = true := h
            rw [hd0] at hd
            have HDc := Lib.hid hd
            clear hd hd0
            go_wp2_with (go_at_call 52; refine HI.out.mono ?_)
            first | rintro e w3 rfl h3 | rintro e w3 ⟨rfl, h3⟩
            have m3 := h3.mode HM.out
            have h5 := h3.number h h0 hs
            rw [show (some ([] : List UInt8)).map (· ++ enc (c :: rs.takeWhile digR)) = some (enc (c :: rs.takeWhile digR)) by simp] at h5
            have H5 := Lib.hid h5
            have H3 := Lib.hid h3
            clear h3 h5
            go_wp2_with (go_at_call 54; refine (HDc.out _).mono ?_)
            try (first | rintro e w4 rfl rfl | rintro e w4 ⟨rfl, rfl⟩)
            go_wp2_with (go_at_call 55; refine H5.out.mono ?_)
            first | rintro e w5 rfl h6 | rintro e w5 ⟨rfl, h6⟩
            have H6 := Lib.hid h6
            clear h6
            go_wp2_with fail
            go_meet
            case rel => exact ⟨rfl, rfl, H6.out⟩
          | zero _ hs =>
            have hi0 : headI (48 :: rest) 0 = false := rfl
            rw [hi0] at hI
            have HI := Lib.hid hI
            clear hI hi0
            have hd := fun W => isDec_ok (48 :: rest) W
            have hd0 : headDig (48 :: rest) = true := rfl
            rw [hd0] at hd
            have HDc := Lib.hid hd
            clear hd hd0
            go_wp2_with (go_at_call 52; refine HI.out.mono ?_)
            first | rintro e w3 rfl h3 | rintro e w3 ⟨rfl, h3⟩
            have m3 := h3.mode HM.out
            have h5 := h3.zero hs
            rw [show (some ([] : List UInt8)).map (· ++ enc ([48])) = some (enc ([48])) by simp] at h5
            have H5 := Lib.hid h5
            have H3 := Lib.hid h3
            clear h3 h5
            go_wp2_with (go_at_call 54; refine (HDc.out _).mono ?_)
            try (first | rintro e w4 rfl rfl | rintro e w4 ⟨rfl, rfl⟩)
            go_wp2_with (go_at_call 55; refine H5.out.mono ?_)
            first | rintro e w5 rfl h6 | rintro e w5 ⟨rfl, h6⟩
            have H6 := Lib.hid h6
            clear h6
            go_wp2_with fail
            go_meet
            case rel => exact ⟨rfl, rfl, H6.out⟩
          | hex rs h hs =>
            have hi0 : headI (48 :: 120 :: rs) 0 = false := rfl
            rw [hi0] at hI
            have HI := Lib.hid hI
            clear hI hi0
            have hd := fun W => isDec_ok (48 :: 120 :: rs) W
            have hd0 : headDig (48 :: 120 :: rs) = true := rfl
            rw [hd0] at hd
            have HDc := Lib.hid hd
            clear hd hd0
            go_wp2_with (go_at_call 52; refine HI.out.mono ?_)
            first | rintro e w3 rfl h3 | rintro e w3 ⟨rfl, h3⟩
            have m3 := h3.mode HM.out
            have h5 := h3.hex h hs
            rw [show (some ([] : List UInt8)).map (· ++ enc (48 :: 120 :: rs.takeWhile hexR)) = some (enc (48 :: 120 :: rs.takeWhile hexR)) by simp] at h5
            have H5 := Lib.hid h5
            have H3 := Lib.hid h3
            clear h3 h5
            go_wp2_with (go_at_call 54; refine (HDc.out _).mono ?_)
            try (first | rintro e w4 rfl rfl | rintro e w4 ⟨rfl, rfl⟩)
            go_wp2_with (go_at_call 55; refine H5.out.mono ?_)
            first | rintro e w5 rfl h6 | rintro e w5 ⟨rfl, h6⟩
            have H6 := Lib.hid h6
            clear h6
            go_wp2_with fail
            go_meet
            case rel => exact ⟨rfl, rfl, H6.out⟩
          | str cs rest h =>
            have hi0 : headI (34 :: (cs ++ 34 :: rest)) 0 = false := rfl
            rw [hi0] at hI
            have HI := Lib.hid hI
            clear hI hi0
            have hd := fun W => isDec_ok (34 :: (cs ++ 34 :: rest)) W
            have hd0 : headDig (34 :: (cs ++ 34 :: rest)) = false := rfl
            rw [hd0] at hd
            have HDc := Lib.hid hd
            clear hd hd0
            have g1 : (headR (34 :: (cs ++ 34 :: rest)) == -1) = false := rfl
            have g2 : (headR (34 :: (cs ++ 34 :: rest)) == 34) = true := rfl
            go_wp2_with (go_at_call 52; refine HI.out.mono ?_)
            first | rintro e w3 rfl h3 | rintro e w3 ⟨rfl, h3⟩
            have m3 := h3.mode HM.out
            have h5 := h3.scanString h (by have := HL.out; simp at this; omega)
            have H5 := Lib.hid h5
            have H3 := Lib.hid h3
            clear h3 h5
            go_wp2_with (go_at_call 54; refine (HDc.out _).mono ?_)
            try (first | rintro e w4 rfl rfl | rintro e w4 ⟨rfl, rfl⟩)
            go_wp2_with (go_at_call 56; refine H5.out.mono ?_)
            first | rintro e w5 ⟨n, rfl⟩ h6 | rintro e w5 ⟨⟨n, rfl⟩, h6⟩
            have H6 := Lib.hid h6
            clear h6
            go_wp2_with (go_at_call 50; refine H6.out.next.mono ?_)
            first | rintro e w6 rfl h7 | rintro e w6 ⟨rfl, h7⟩
            rw [show ((some ([] : List UInt8)).map (· ++ enc (34 :: cs))).map (· ++ headB (34 :: rest)) = some (enc (34 :: (cs ++ [34]))) by simp [headB, enc_cons, enc_append, enc_nil]] at h7
            have H7 := Lib.hid h7
            clear h7
            go_wp2_with fail
            go_meet
            case rel => exact ⟨rfl, rfl, H7.out⟩
          | line rs =>
            have hi0 : headI (47 :: 47 :: rs) 0 = false := rfl
            rw [hi0] at hI
            have HI := Lib.hid hI
            clear hI hi0
            have hd := fun W => isDec_ok (47 :: 47 :: rs) W
            have hd0 : headDig (47 :: 47 :: rs) = false := rfl
            rw [hd0] at hd
            have HDc := Lib.hid hd
            clear hd hd0
            have g1 : (headR (47 :: 47 :: rs) == -1) = false := rfl
            have g2 : (headR (47 :: 47 :: rs) == 34) = false := rfl
            have g3 : (headR (47 :: 47 :: rs) == 39) = false := rfl
            have g4 : (headR (47 :: 47 :: rs) == 46) = false := rfl
            have g5 : (headR (47 :: 47 :: rs) == 47) = true := rfl
            go_wp2_with (go_at_call 52; refine HI.out.mono ?_)
            first | rintro e w3 rfl h3 | rintro e w3 ⟨rfl, h3⟩
            have m3 := h3.mode HM.out
            have H3 := Lib.hid h3
            clear h3
            go_wp2_with (go_at_call 54; refine (HDc.out _).mono ?_)
            try (first | rintro e w4 rfl rfl | rintro e w4 ⟨rfl, rfl⟩)
            go_wp2_with (go_at_call 50; refine H3.out.next.mono ?_)
            first | rintro e w5 rfl h5 | rintro e w5 ⟨rfl, h5⟩
            have m5 := h5.mode HM.out
            have h6 := h5.lineComment
            rw [show ((some ([] : List UInt8)).map (· ++ headB (47 :: 47 :: rs))).map (· ++ (headB (47 :: 47 :: rs).tail ++ enc ((47 :: 47 :: rs).tail.tail.takeWhile nNl))) = some (enc (47 :: 47 :: rs.takeWhile nNl)) by simp [headB, enc_cons]] at h6
            have h6' : Calls Tryz.prog 58 #[.pointer (some ⟨S, 0, none⟩), .int .i32 (headR (47 :: 47 :: rs).tail)] _ _ := h6
            have H6 := Lib.hid h6'
            clear h5 h6 h6'
            have r47 : (headR (47 :: 47 :: rs).tail == 47) = true := rfl
            go_wp2_with (go_at_call 58; refine H6.out.mono ?_)
            first | rintro e w7 rfl h7 | rintro e w7 ⟨rfl, h7⟩
            have H7 := Lib.hid h7
            clear h7
            go_wp2_with fail
            go_meet
            case rel => exact ⟨rfl, rfl, H7.out⟩
          | block cs rest h =>
            have hi0 : headI (47 :: 42 :: (cs ++ 42 :: 47 :: rest)) 0 = false := rfl
            rw [hi0] at hI
            have HI := Lib.hid hI
            clear hI hi0
            have hd := fun W => isDec_ok (47 :: 42 :: (cs ++ 42 :: 47 :: rest)) W
            have hd0 : headDig (47 :: 42 :: (cs ++ 42 :: 47 :: rest)) = false := rfl
            rw [hd0] at hd
            have HDc := Lib.hid hd
            clear hd hd0
            have g1 : (headR (47 :: 42 :: (cs ++ 42 :: 47 :: rest)) == -1) = false := rfl
            have g2 : (headR (47 :: 42 :: (cs ++ 42 :: 47 :: rest)) == 34) = false := rfl
            have g3 : (headR (47 :: 42 :: (cs ++ 42 :: 47 :: rest)) == 39) = false := rfl
            have g4 : (headR (47 :: 42 :: (cs ++ 42 :: 47 :: rest)) == 46) = false := rfl
            have g5 : (headR (47 :: 42 :: (cs ++ 42 :: 47 :: rest)) == 47) = true := rfl
            go_wp2_with (go_at_call 52; refine HI.out.mono ?_)
            first | rintro e w3 rfl h3 | rintro e w3 ⟨rfl, h3⟩
            have m3 := h3.mode HM.out
            have hN : Calls Tryz.prog 50 #[.pointer (some ⟨S, 0, none⟩)] _ fun e w' => e = .returned (.int .i32 42) ∧
              At B S R w s2 w' (42 :: (cs ++ 42 :: 47 :: rest)) (some [47]) := h3.next
            have HN := Lib.hid hN
            clear h3 hN
            go_wp2_with (go_at_call 54; refine (HDc.out _).mono ?_)
            try (first | rintro e w4 rfl rfl | rintro e w4 ⟨rfl, rfl⟩)
            go_wp2_with (go_at_call 50; refine HN.out.mono ?_)
            first | rintro e w5 rfl h5 | rintro e w5 ⟨rfl, h5⟩
            have m5 := h5.mode HM.out
            have h6 := h5.blockComment (c0 := 42) h
            rw [show (some [47]).map (· ++ enc (42 :: (cs ++ [42, 47]))) = some (enc (47 :: 42 :: (cs ++ [42, 47]))) by rw [enc_cons 47]; rfl] at h6
            have H6 := Lib.hid h6
            clear h5 h6
            go_wp2_with (go_at_call 58; refine H6.out.mono ?_)
            first | rintro e w7 rfl h7 | rintro e w7 ⟨rfl, h7⟩
            have H7 := Lib.hid h7
            clear h7
            go_wp2_with fail
            go_meet
            case rel => exact ⟨rfl, rfl, H7.out⟩
          | mark c _ h =>
            have hi0 : headI (c :: rest) 0 = false := mark_id h
            rw [hi0] at hI
            have HI := Lib.hid hI
            clear hI hi0
            have hd := fun W => isDec_ok (c :: rest) W
            have hd0 : headDig (c :: rest) = false := mark_dig h
            rw [hd0] at hd
            have HDc := Lib.hid hd
            clear hd hd0
            obtain ⟨m1, m2, m4, m5, m6, m7⟩ := mark_ne h
            have g1 : (headR (c :: rest) == -1) = false := m1
            have g2 : (headR (c :: rest) == 34) = false := m2
            have g3 : (headR (c :: rest) == 39) = false := m4
            have g4 : (headR (c :: rest) == 46) = false := m5
            have g5 : (headR (c :: rest) == 47) = false := m6
            have g6 : (headR (c :: rest) == 96) = false := m7
            clear m1 m2 m4 m5 m6 m7
            go_wp2_with (go_at_call 52; refine HI.out.mono ?_)
            first | rintro e w3 rfl h3 | rintro e w3 ⟨rfl, h3⟩
            have m3 := h3.mode HM.out
            have H3 := Lib.hid h3
            clear h3
            go_wp2_with (go_at_call 54; refine (HDc.out _).mono ?_)
            try (first | rintro e w4 rfl rfl | rintro e w4 ⟨rfl, rfl⟩)
            go_wp2_with (go_at_call 50; refine H3.out.next.mono ?_)
            first | rintro e w5 rfl h5 | rintro e w5 ⟨rfl, h5⟩
            rw [show (some ([] : List UInt8)).map (· ++ headB (c :: rest)) = some (enc [c]) by simp [headB, enc_cons, enc_nil]] at h5
            have H5 := Lib.hid h5
            clear h5
            go_wp2_with fail
            go_meet
            case rel => exact ⟨rfl, rfl, H5.out⟩
        case rest =>
          obtain ⟨rfl, rfl, hB2⟩ := hcut
          obtain ⟨s3, i1, i2, i3, i4⟩ := hB2
          obtain ⟨c0, c1026, c1027, c1028, c1029, c1030, c1031, c1032, c1036, c1037, c1038, c1039, c1040, c1041, c1042, c1043, c1045, c1046, c1047, fz⟩ := i1.inp.sc.facts
          have q1 : IntKind.i64.wrap ((s3.pos : Int) - (s3.lastLen : Int)) = ((s3.pos - (headB rest).length : Nat) : Int) := by
            have hp := i1.inp.posLe
            have hf := i1.inp.finLe
            have hple := i1.le
            rw [i1.len, IntWalk.i64_in _ (by omega)]
            omega
          have I1 := Lib.hid i1
          have I2 := Lib.hid i2
          have I3 := Lib.hid i3
          have I4 := Lib.hid i4
          clear i1 i2 i3 i4 c0 c1027 c1028 c1029 c1030 c1031 c1036 c1039 c1040 c1041 c1042 c1043 c1045 c1046 c1047
          go_wp2_with fail
          refine wp_region_tail 12 (by kernel_rfl) (by kernel_rfl) ?_
          simp only [List.take_succ_cons, List.take_zero, List.drop_succ_cons, List.drop_zero]
          repeat still_step
          refine wpStill_nil ?_
          go_wp2_with fail
          try rw [Exit.noGoto_ret]
          go_ret
          refine ⟨rfl, _, ⟨I1.out.keep (s' := { s3 with tokEnd := ((s3.pos - (headB rest).length : Nat) : Int), ch := headR rest }) ?_ ?_ ⟨rfl, rfl, rfl, rfl, rfl, rfl, rfl, rfl, rfl⟩, rfl, rfl⟩, ?_, ?_, ?_⟩
          · exact ((I1.out.inp.sc.setTokEnd _).setCh _).drew
          · exact (((Only.refl S _).set _ _).set _ _).drew
          · exact ⟨I2.out.1.trans (J.out.2.1.1.trans K3.out.1), I2.out.2.1.trans (J.out.2.1.2.1.trans K3.out.2.1), I2.out.2.2.1.trans (J.out.2.1.2.2.1.trans K3.out.2.2.1), I2.out.2.2.2.1.trans (J.out.2.1.2.2.2.1.trans K3.out.2.2.2)⟩
          · exact I3.out.trans (((((Only.refl S _).set _ _).set _ _).drew).fr I1.out.inp.hB R)
          · exact I4.out.below (((((Only.refl S _).set _ _).set _ _).drew).fr I1.out.inp.hB R).1
end Go.Proofs.YtmeihdlkadjoeaaGreatDoor

namespace Go.Proofs.YtmeihdlkadjoeaaGreatDoor
open Go.RowKit
set_option linter.unusedVariables false
set_option linter.unusedSimpArgs false

section
variable {w : World} {S : Nat} {s : Sc}
theorem ScAt.setSrc (h : ScAt w S s) (v : Value) : ScAt (w.setCell ⟨S, 0, none⟩ v) S { s with src := v } :=
  h.set 0 _ _ (fun o ho => by simp only [Sc.cell, if_neg ho]) rfl (by simp [Sc.cell])
theorem ScAt.setErr (h : ScAt w S s) (v : Value) : ScAt (w.setCell ⟨S, 1039, none⟩ v) S { s with err := v } :=
  h.set 1039 _ _ (fun o ho => by simp only [Sc.cell, if_neg ho]) rfl (by simp [Sc.cell])
theorem ScAt.setMode (h : ScAt w S s) (v : Int) : ScAt (w.setCell ⟨S, 1041, none⟩ (.int .u64 v)) S { s with mode := v } :=
  h.set 1041 _ _ (fun o ho => by simp only [Sc.cell, if_neg ho]) rfl (by simp [Sc.cell])
theorem ScAt.setWs (h : ScAt w S s) (v : Int) : ScAt (w.setCell ⟨S, 1042, none⟩ (.int .u64 v)) S { s with ws := v } :=
  h.set 1042 _ _ (fun o ho => by simp only [Sc.cell, if_neg ho]) rfl (by simp [Sc.cell])
theorem ScAt.setIdent (h : ScAt w S s) (v : Value) : ScAt (w.setCell ⟨S, 1043, none⟩ v) S { s with ident := v } :=
  h.set 1043 _ _ (fun o ho => by simp only [Sc.cell, if_neg ho]) rfl (by simp [Sc.cell])
theorem ScAt.setName (h : ScAt w S s) (v : ByteArray) : ScAt (w.setCell ⟨S, 1044, none⟩ (.string v)) S { s with name := v } :=
  h.set 1044 _ _ (fun o ho => by simp only [Sc.cell, if_neg ho]) rfl (by simp [Sc.cell])
end

/-- What Init lays. -/
def Sc.init (s : Sc) (v : Value) : Sc :=
  { s with src := v, buf := fun j => if j = 0 then 128 else s.buf j, pos := 0, fin := 0, off := 0, line := 1, col := 0, lastLine := 0, lastLen := 0, tokPos := -1, ch := -2, err := .nilFunc, errs := 0, mode := 1012, ws := 4294977024, pLine := 0 }

set_option maxRecDepth 10000 in
theorem init_ok {w0 : World} {S : Nat} {s : Sc} (H0 : ScAt w0 S s) (T : TypeId) (a : Addr) :
    Calls Tryz.prog 37 #[.pointer (some ⟨S, 0, none⟩), .iface T (.pointer (some a))] w0 fun e w' => e = .returned (.pointer (some ⟨S, 0, none⟩)) ∧
      ScAt w' S (s.init (.iface T (.pointer (some a)))) ∧ Only S w0 w' := by
  have O0 := Lib.hid (Only.refl S w0)
  have h0 := Lib.hid H0
  clear H0
  go_enter Tryz.func37, Tryz.ntmps37
  have H0 := h0.out
  clear h0
  have c : ∃ v, w0.cell? ⟨S, 0, none⟩ = some v := ⟨_, H0.cell 0⟩
  obtain ⟨v0, c⟩ := c
  have fz := H0.fz 0
  have HH := Lib.hid H0
  clear H0
  go_upto_region 2 with fail
  clear c fz
  have H1 : ScAt (w0.setCell ⟨S, 0, none⟩ (Value.iface T (.pointer (some a)))) S { s with src := (Value.iface T (.pointer (some a))) } := HH.out.setSrc _
  have o1 := O0.out.set 0 (Value.iface T (.pointer (some a)))
  generalize w0.setCell ⟨S, 0, none⟩ (Value.iface T (.pointer (some a))) = w1 at H1 o1 ⊢
  have O1 := Lib.hid o1
  clear o1 HH O0
  have c : ∃ v, w1.cell? ⟨S, 1, none⟩ = some v := ⟨_, H1.byte 0 (by decide)⟩
  obtain ⟨v1, c⟩ := c
  have fz := H1.fz 1
  have HH := Lib.hid H1
  clear H1
  go_upto_region 3 with fail
  clear c fz
  have H2 : ScAt (w1.setCell ⟨S, 1, none⟩ (.int .u8 128)) S { s with src := (Value.iface T (.pointer (some a))), buf := fun j => if j = 0 then 128 else s.buf j } := HH.out.setByte 0 (by decide) 128 rfl
  have o2 := O1.out.set 1 (.int .u8 128)
  generalize w1.setCell ⟨S, 1, none⟩ (.int .u8 128) = w2 at H2 o2 ⊢
  have O2 := Lib.hid o2
  clear o2 HH O1
  have c : ∃ v, w2.cell? ⟨S, 1026, none⟩ = some v := ⟨_, H2.cell 1026⟩
  obtain ⟨v2, c⟩ := c
  have fz := H2.fz 1026
  have HH := Lib.hid H2
  clear H2
  go_upto_region 4 with fail
  clear c fz
  have H3 : ScAt (w2.setCell ⟨S, 1026, none⟩ (.int .i64 0)) S { s with src := (Value.iface T (.pointer (some a))), buf := fun j => if j = 0 then 128 else s.buf j, pos := 0 } := HH.out.setPos 0 rfl
  have o3 := O2.out.set 1026 (.int .i64 0)
  generalize w2.setCell ⟨S, 1026, none⟩ (.int .i64 0) = w3 at H3 o3 ⊢
  have O3 := Lib.hid o3
  clear o3 HH O2
  have c : ∃ v, w3.cell? ⟨S, 1027, none⟩ = some v := ⟨_, H3.cell 1027⟩
  obtain ⟨v3, c⟩ := c
  have fz := H3.fz 1027
  have HH := Lib.hid H3
  clear H3
  go_upto_region 5 with fail
  clear c fz
  have H4 : ScAt (w3.setCell ⟨S, 1027, none⟩ (.int .i64 0)) S { s with src := (Value.iface T (.pointer (some a))), buf := fun j => if j = 0 then 128 else s.buf j, pos := 0, fin := 0 } := HH.out.setFin 0 rfl
  have o4 := O3.out.set 1027 (.int .i64 0)
  generalize w3.setCell ⟨S, 1027, none⟩ (.int .i64 0) = w4 at H4 o4 ⊢
  have O4 := Lib.hid o4
  clear o4 HH O3
  have c : ∃ v, w4.cell? ⟨S, 1028, none⟩ = some v := ⟨_, H4.cell 1028⟩
  obtain ⟨v4, c⟩ := c
  have fz := H4.fz 1028
  have HH := Lib.hid H4
  clear H4
  go_upto_region 6 with fail
  clear c fz
  have H5 : ScAt (w4.setCell ⟨S, 1028, none⟩ (.int .i64 0)) S { s with src := (Value.iface T (.pointer (some a))), buf := fun j => if j = 0 then 128 else s.buf j, pos := 0, fin := 0, off := 0 } := HH.out.setOff 0
  have o5 := O4.out.set 1028 (.int .i64 0)
  generalize w4.setCell ⟨S, 1028, none⟩ (.int .i64 0) = w5 at H5 o5 ⊢
  have O5 := Lib.hid o5
  clear o5 HH O4
  have c : ∃ v, w5.cell? ⟨S, 1029, none⟩ = some v := ⟨_, H5.cell 1029⟩
  obtain ⟨v5, c⟩ := c
  have fz := H5.fz 1029
  have HH := Lib.hid H5
  clear H5
  go_upto_region 7 with fail
  clear c fz
  have H6 : ScAt (w5.setCell ⟨S, 1029, none⟩ (.int .i64 1)) S { s with src := (Value.iface T (.pointer (some a))), buf := fun j => if j = 0 then 128 else s.buf j, pos := 0, fin := 0, off := 0, line := 1 } := HH.out.setLine 1
  have o6 := O5.out.set 1029 (.int .i64 1)
  generalize w5.setCell ⟨S, 1029, none⟩ (.int .i64 1) = w6 at H6 o6 ⊢
  have O6 := Lib.hid o6
  clear o6 HH O5
  have c : ∃ v, w6.cell? ⟨S, 1030, none⟩ = some v := ⟨_, H6.cell 1030⟩
  obtain ⟨v6, c⟩ := c
  have fz := H6.fz 1030
  have HH := Lib.hid H6
  clear H6
  go_upto_region 8 with fail
  clear c fz
  have H7 : ScAt (w6.setCell ⟨S, 1030, none⟩ (.int .i64 0)) S { s with src := (Value.iface T (.pointer (some a))), buf := fun j => if j = 0 then 128 else s.buf j, pos := 0, fin := 0, off := 0, line := 1, col := 0 } := HH.out.setCol 0
  have o7 := O6.out.set 1030 (.int .i64 0)
  generalize w6.setCell ⟨S, 1030, none⟩ (.int .i64 0) = w7 at H7 o7 ⊢
  have O7 := Lib.hid o7
  clear o7 HH O6
  have c : ∃ v, w7.cell? ⟨S, 1031, none⟩ = some v := ⟨_, H7.cell 1031⟩
  obtain ⟨v7, c⟩ := c
  have fz := H7.fz 1031
  have HH := Lib.hid H7
  clear H7
  go_upto_region 9 with fail
  clear c fz
  have H8 : ScAt (w7.setCell ⟨S, 1031, none⟩ (.int .i64 0)) S { s with src := (Value.iface T (.pointer (some a))), buf := fun j => if j = 0 then 128 else s.buf j, pos := 0, fin := 0, off := 0, line := 1, col := 0, lastLine := 0 } := HH.out.setLastLine 0
  have o8 := O7.out.set 1031 (.int .i64 0)
  generalize w7.setCell ⟨S, 1031, none⟩ (.int .i64 0) = w8 at H8 o8 ⊢
  have O8 := Lib.hid o8
  clear o8 HH O7
  have c : ∃ v, w8.cell? ⟨S, 1032, none⟩ = some v := ⟨_, H8.cell 1032⟩
  obtain ⟨v8, c⟩ := c
  have fz := H8.fz 1032
  have HH := Lib.hid H8
  clear H8
  go_upto_region 10 with fail
  clear c fz
  have H9 : ScAt (w8.setCell ⟨S, 1032, none⟩ (.int .i64 0)) S { s with src := (Value.iface T (.pointer (some a))), buf := fun j => if j = 0 then 128 else s.buf j, pos := 0, fin := 0, off := 0, line := 1, col := 0, lastLine := 0, lastLen := 0 } := HH.out.setLastLen 0 rfl
  have o9 := O8.out.set 1032 (.int .i64 0)
  generalize w8.setCell ⟨S, 1032, none⟩ (.int .i64 0) = w9 at H9 o9 ⊢
  have O9 := Lib.hid o9
  clear o9 HH O8
  have c : ∃ v, w9.cell? ⟨S, 1036, none⟩ = some v := ⟨_, H9.cell 1036⟩
  obtain ⟨v9, c⟩ := c
  have fz := H9.fz 1036
  have HH := Lib.hid H9
  clear H9
  go_upto_region 11 with fail
  clear c fz
  have H10 : ScAt (w9.setCell ⟨S, 1036, none⟩ (.int .i64 (-1))) S { s with src := (Value.iface T (.pointer (some a))), buf := fun j => if j = 0 then 128 else s.buf j, pos := 0, fin := 0, off := 0, line := 1, col := 0, lastLine := 0, lastLen := 0, tokPos := -1 } := HH.out.setTokPos (-1)
  have o10 := O9.out.set 1036 (.int .i64 (-1))
  generalize w9.setCell ⟨S, 1036, none⟩ (.int .i64 (-1)) = w10 at H10 o10 ⊢
  have O10 := Lib.hid o10
  clear o10 HH O9
  have c : ∃ v, w10.cell? ⟨S, 1038, none⟩ = some v := ⟨_, H10.cell 1038⟩
  obtain ⟨v10, c⟩ := c
  have fz := H10.fz 1038
  have HH := Lib.hid H10
  clear H10
  go_upto_region 12 with fail
  clear c fz
  have H11 : ScAt (w10.setCell ⟨S, 1038, none⟩ (.int .i32 (-2))) S { s with src := (Value.iface T (.pointer (some a))), buf := fun j => if j = 0 then 128 else s.buf j, pos := 0, fin := 0, off := 0, line := 1, col := 0, lastLine := 0, lastLen := 0, tokPos := -1, ch := -2 } := HH.out.setCh (-2)
  have o11 := O10.out.set 1038 (.int .i32 (-2))
  generalize w10.setCell ⟨S, 1038, none⟩ (.int .i32 (-2)) = w11 at H11 o11 ⊢
  have O11 := Lib.hid o11
  clear o11 HH O10
  have c : ∃ v, w11.cell? ⟨S, 1039, none⟩ = some v := ⟨_, H11.cell 1039⟩
  obtain ⟨v11, c⟩ := c
  have fz := H11.fz 1039
  have HH := Lib.hid H11
  clear H11
  go_upto_region 13 with fail
  clear c fz
  have H12 : ScAt (w11.setCell ⟨S, 1039, none⟩ .nilFunc) S { s with src := (Value.iface T (.pointer (some a))), buf := fun j => if j = 0 then 128 else s.buf j, pos := 0, fin := 0, off := 0, line := 1, col := 0, lastLine := 0, lastLen := 0, tokPos := -1, ch := -2, err := .nilFunc } := HH.out.setErr .nilFunc
  have o12 := O11.out.set 1039 .nilFunc
  generalize w11.setCell ⟨S, 1039, none⟩ .nilFunc = w12 at H12 o12 ⊢
  have O12 := Lib.hid o12
  clear o12 HH O11
  have c : ∃ v, w12.cell? ⟨S, 1040, none⟩ = some v := ⟨_, H12.cell 1040⟩
  obtain ⟨v12, c⟩ := c
  have fz := H12.fz 1040
  have HH := Lib.hid H12
  clear H12
  go_upto_region 14 with fail
  clear c fz
  have H13 : ScAt (w12.setCell ⟨S, 1040, none⟩ (.int .i64 0)) S { s with src := (Value.iface T (.pointer (some a))), buf := fun j => if j = 0 then 128 else s.buf j, pos := 0, fin := 0, off := 0, line := 1, col := 0, lastLine := 0, lastLen := 0, tokPos := -1, ch := -2, err := .nilFunc, errs := 0 } := HH.out.setErrs 0
  have o13 := O12.out.set 1040 (.int .i64 0)
  generalize w12.setCell ⟨S, 1040, none⟩ (.int .i64 0) = w13 at H13 o13 ⊢
  have O13 := Lib.hid o13
  clear o13 HH O12
  have c : ∃ v, w13.cell? ⟨S, 1041, none⟩ = some v := ⟨_, H13.cell 1041⟩
  obtain ⟨v13, c⟩ := c
  have fz := H13.fz 1041
  have HH := Lib.hid H13
  clear H13
  go_upto_region 15 with fail
  clear c fz
  have H14 : ScAt (w13.setCell ⟨S, 1041, none⟩ (.int .u64 1012)) S { s with src := (Value.iface T (.pointer (some a))), buf := fun j => if j = 0 then 128 else s.buf j, pos := 0, fin := 0, off := 0, line := 1, col := 0, lastLine := 0, lastLen := 0, tokPos := -1, ch := -2, err := .nilFunc, errs := 0, mode := 1012 } := HH.out.setMode 1012
  have o14 := O13.out.set 1041 (.int .u64 1012)
  generalize w13.setCell ⟨S, 1041, none⟩ (.int .u64 1012) = w14 at H14 o14 ⊢
  have O14 := Lib.hid o14
  clear o14 HH O13
  have c : ∃ v, w14.cell? ⟨S, 1042, none⟩ = some v := ⟨_, H14.cell 1042⟩
  obtain ⟨v14, c⟩ := c
  have fz := H14.fz 1042
  have HH := Lib.hid H14
  clear H14
  go_upto_region 16 with fail
  clear c fz
  have H15 : ScAt (w14.setCell ⟨S, 1042, none⟩ (.int .u64 4294977024)) S { s with src := (Value.iface T (.pointer (some a))), buf := fun j => if j = 0 then 128 else s.buf j, pos := 0, fin := 0, off := 0, line := 1, col := 0, lastLine := 0, lastLen := 0, tokPos := -1, ch := -2, err := .nilFunc, errs := 0, mode := 1012, ws := 4294977024 } := HH.out.setWs 4294977024
  have o15 := O14.out.set 1042 (.int .u64 4294977024)
  generalize w14.setCell ⟨S, 1042, none⟩ (.int .u64 4294977024) = w15 at H15 o15 ⊢
  have O15 := Lib.hid o15
  clear o15 HH O14
  have c : ∃ v, w15.cell? ⟨S, 1046, none⟩ = some v := ⟨_, H15.cell 1046⟩
  obtain ⟨v15, c⟩ := c
  have fz := H15.fz 1046
  have HH := Lib.hid H15
  clear H15
  go_upto_region 17 with fail
  clear c fz
  have H16 : ScAt (w15.setCell ⟨S, 1046, none⟩ (.int .i64 0)) S { s with src := (Value.iface T (.pointer (some a))), buf := fun j => if j = 0 then 128 else s.buf j, pos := 0, fin := 0, off := 0, line := 1, col := 0, lastLine := 0, lastLen := 0, tokPos := -1, ch := -2, err := .nilFunc, errs := 0, mode := 1012, ws := 4294977024, pLine := 0 } := HH.out.setPLine 0
  have o16 := O15.out.set 1046 (.int .i64 0)
  generalize w15.setCell ⟨S, 1046, none⟩ (.int .i64 0) = w16 at H16 o16 ⊢
  have O16 := Lib.hid o16
  clear o16 HH O15
  have HH := Lib.hid H16
  clear H16
  go_wp2_with fail
  go_ret
  exact ⟨rfl, HH.out, O16.out⟩

/-- An empty scanner. -/
def Sc.zero : Sc :=
  { src := .nilIface, buf := fun _ => 0, pos := 0, fin := 0, off := 0, line := 0, col := 0, lastLine := 0, lastLen := 0, tb := .slice none 0 0, tbOff := 0, tbLast := 0, tokPos := 0, tokEnd := 0, ch := 0, err := .nilFunc, errs := 0, mode := 0, ws := 0, ident := .nilFunc, name := ⟨#[]⟩, pOff := 0, pLine := 0, pCol := 0 }

set_option maxRecDepth 100000 in
theorem zeroSc_cells : Tryz.zeroCells71.toList = (List.range 1048).map (fun o => (Sc.zero.cell o).getD (.bool false)) := by kernel_rfl
theorem zeroSc_some (o : Nat) (ho : o < 1048) : ∃ v, Sc.zero.cell o = some v := by
  unfold Sc.cell
  by_cases h0 : o = 0
  · exact ⟨_, if_pos h0⟩
  rw [if_neg h0]
  by_cases h1 : o < 1026
  · exact ⟨_, if_pos h1⟩
  rw [if_neg h1]
  by_cases h2 : o = 1026
  · exact ⟨_, if_pos h2⟩
  rw [if_neg h2]
  by_cases h3 : o = 1027
  · exact ⟨_, if_pos h3⟩
  rw [if_neg h3]
  by_cases h4 : o = 1028
  · exact ⟨_, if_pos h4⟩
  rw [if_neg h4]
  by_cases h5 : o = 1029
  · exact ⟨_, if_pos h5⟩
  rw [if_neg h5]
  by_cases h6 : o = 1030
  · exact ⟨_, if_pos h6⟩
  rw [if_neg h6]
  by_cases h7 : o = 1031
  · exact ⟨_, if_pos h7⟩
  rw [if_neg h7]
  by_cases h8 : o = 1032
  · exact ⟨_, if_pos h8⟩
  rw [if_neg h8]
  by_cases h9 : o = 1033
  · exact ⟨_, if_pos h9⟩
  rw [if_neg h9]
  by_cases h10 : o = 1034
  · exact ⟨_, if_pos h10⟩
  rw [if_neg h10]
  by_cases h11 : o = 1035
  · exact ⟨_, if_pos h11⟩
  rw [if_neg h11]
  by_cases h12 : o = 1036
  · exact ⟨_, if_pos h12⟩
  rw [if_neg h12]
  by_cases h13 : o = 1037
  · exact ⟨_, if_pos h13⟩
  rw [if_neg h13]
  by_cases h14 : o = 1038
  · exact ⟨_, if_pos h14⟩
  rw [if_neg h14]
  by_cases h15 : o = 1039
  · exact ⟨_, if_pos h15⟩
  rw [if_neg h15]
  by_cases h16 : o = 1040
  · exact ⟨_, if_pos h16⟩
  rw [if_neg h16]
  by_cases h17 : o = 1041
  · exact ⟨_, if_pos h17⟩
  rw [if_neg h17]
  by_cases h18 : o = 1042
  · exact ⟨_, if_pos h18⟩
  rw [if_neg h18]
  by_cases h19 : o = 1043
  · exact ⟨_, if_pos h19⟩
  rw [if_neg h19]
  by_cases h20 : o = 1044
  · exact ⟨_, if_pos h20⟩
  rw [if_neg h20]
  by_cases h21 : o = 1045
  · exact ⟨_, if_pos h21⟩
  rw [if_neg h21]
  by_cases h22 : o = 1046
  · exact ⟨_, if_pos h22⟩
  rw [if_neg h22]
  by_cases h23 : o = 1047
  · exact ⟨_, if_pos h23⟩
  rw [if_neg h23]
  omega
theorem zeroSc_at (o : Nat) : Tryz.zeroCells71[o]? = Sc.zero.cell o := by
  have h := congrArg (fun l => l[o]?) zeroSc_cells
  simp only [Array.getElem?_toList] at h
  rw [h]
  by_cases ho : o < 1048
  · obtain ⟨v, hv⟩ := zeroSc_some o ho
    rw [List.getElem?_map, List.getElem?_range ho]
    simp [hv]
  · rw [List.getElem?_eq_none (by simpa using ho)]
    unfold Sc.cell
    repeat rw [if_neg (by omega)]
theorem alloc_sc (w : World) : ScAt (w.alloc (.cells Tryz.zeroCells71 71)) w.heap.size Sc.zero :=
  ⟨_, by show (w.heap.push _)[w.heap.size]? = _; simp, zeroSc_at⟩
end Go.Proofs.YtmeihdlkadjoeaaGreatDoor
