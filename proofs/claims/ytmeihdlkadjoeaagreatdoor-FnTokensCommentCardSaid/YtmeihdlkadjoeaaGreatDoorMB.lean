/- THE SCANNER's INPUT: what is still to be read, and the text that is being collected. (*Scanner).next WHAT next's WALKS COME TO: plain facts on the scanner's state. next's loop, its round: plain facts on the scanner's state. next, where the buffer holds a character of ASCII. -/
import Derived.Test.YtmeihdlkadjoeaaGreatDoorBuf
import Derived.Test.YtmeihdlkadjoeaaGreatDoorMA
import Derived.Deep.LoopGhost
import Derived.BigQuiet
import Derived.Deep.QuietTactic
import Derived.Deep.RegionWith
import Derived.LaidEql
import Derived.Outline
import Derived.Deep.DeepMust
namespace Go.Proofs.YtmeihdlkadjoeaaGreatDoor
open Go.RowKit
set_option linter.unusedVariables false

/-- The characters of the statements' texts. -/
def okR (c : Nat) : Prop := c < 128 ∨ c = 183 ∨ c = 8725
/-- A character's bytes. -/
def encR (c : Nat) : List UInt8 := if c < 128 then [UInt8.ofNat c] else if c = 183 then [194, 183] else [226, 136, 149]
def enc (l : List Nat) : List UInt8 := l.flatMap encR

theorem enc_nil : enc [] = [] := rfl
theorem enc_cons (c : Nat) (l : List Nat) : enc (c :: l) = encR c ++ enc l := by simp [enc]
theorem enc_append (a b : List Nat) : enc (a ++ b) = enc a ++ enc b := by simp [enc]
theorem encR_pos (c : Nat) : 1 ≤ (encR c).length := by unfold encR; split <;> (try split) <;> simp
theorem encR_le (c : Nat) : (encR c).length ≤ 3 := by unfold encR; split <;> (try split) <;> simp
theorem encR_asc {c : Nat} (h : c < 128) : encR c = [UInt8.ofNat c] := if_pos h
theorem encR_dot : encR 183 = [194, 183] := rfl
theorem encR_slash : encR 8725 = [226, 136, 149] := rfl
theorem toNat_asc {c : Nat} (h : c < 128) : (UInt8.ofNat c).toNat = c := by simp [UInt8.toNat_ofNat']; omega

/-- n bytes from place i on. -/
def seg (f : Nat → UInt8) (i n : Nat) : List UInt8 := (List.range n).map fun j => f (i + j)
theorem seg_length (f : Nat → UInt8) (i n : Nat) : (seg f i n).length = n := by simp [seg]
theorem seg_zero (f : Nat → UInt8) (i : Nat) : seg f i 0 = [] := rfl
theorem seg_get (f : Nat → UInt8) (i n j : Nat) (h : j < n) : (seg f i n)[j]? = some (f (i + j)) := by simp [seg, h]
theorem seg_append (f : Nat → UInt8) (i a b : Nat) : seg f i (a + b) = seg f i a ++ seg f (i + a) b := by
  unfold seg
  rw [List.range_add, List.map_append, List.map_map]
  congr 1
  apply List.map_congr_left
  intro j _
  simp [Nat.add_assoc]
theorem seg_congr {f g : Nat → UInt8} {i n i' : Nat} (h : ∀ j, j < n → f (i + j) = g (i' + j)) : seg f i n = seg g i' n := by
  unfold seg
  apply List.map_congr_left
  intro j hj
  exact h j (by simpa using hj)
theorem seg_eq {f : Nat → UInt8} {i : Nat} {l : List UInt8} (h : ∀ j (hj : j < l.length), f (i + j) = l[j]) : seg f i l.length = l := by
  apply List.ext_getElem?
  intro j
  by_cases hj : j < l.length
  · rw [seg_get _ _ _ _ hj, List.getElem?_eq_getElem hj, h j hj]
  · rw [List.getElem?_eq_none (by rw [seg_length]; omega), List.getElem?_eq_none (by omega)]
theorem seg_at {f : Nat → UInt8} {i n : Nat} {l m : List UInt8} (h : seg f i n ++ m = l) (j : Nat) (hj : j < n) : l[j]? = some (f (i + j)) := by
  rw [← h, List.getElem?_append_left (by rw [seg_length]; exact hj), seg_get _ _ _ _ hj]
theorem seg_put (f : Nat → UInt8) (i : Nat) (l : List UInt8) : seg (putBytes f i l) i l.length = l := by
  apply seg_eq
  intro j hj
  unfold putBytes
  rw [if_pos ⟨by omega, by omega⟩]
  simp [Nat.add_sub_cancel_left, List.getD_eq_getElem?_getD, List.getElem?_eq_getElem hj]
theorem put_out (f : Nat → UInt8) (i : Nat) (l : List UInt8) (j : Nat) (h : j < i ∨ i + l.length ≤ j) : putBytes f i l j = f j := by
  unfold putBytes
  rw [if_neg (by omega)]
theorem seg_put_out (f : Nat → UInt8) (i : Nat) (l : List UInt8) (a n : Nat) (h : a + n ≤ i ∨ i + l.length ≤ a) : seg (putBytes f i l) a n = seg f a n := by
  apply seg_congr
  intro j hj
  apply put_out
  omega

/-- What the scanner still has to read (rest), and, if it collects, the text that it has collected, the last character with it. -/
structure Inp (B S R : Nat) (w : World) (s : Sc) (rest : List Nat) (txt : Option (List UInt8)) : Prop where
  sc : ScAt w S s
  hB : B ≤ S
  hR : B ≤ R
  hRS : R ≠ S
  hw : B ≤ w.heap.size
  rd : ∃ rb, RdAt w R s.src rb ∧ seg s.buf s.pos (s.fin - s.pos) ++ rb = enc rest
  finLe : s.fin ≤ 1024
  posLe : s.pos ≤ s.fin
  sent : s.buf s.fin = 128
  ok : ∀ c ∈ rest, okR c
  err : s.err = .nilFunc
  bd : (enc rest).length ≤ 1000000
  tb : ∃ bs, TbIs B S w s bs ∧ (∀ t, txt = some t → ∃ p : Nat, s.tokPos = p ∧ p ≤ s.pos ∧ t = bs ++ seg s.buf p (s.pos - p) ∧ t.length + (enc rest).length ≤ 1000000)
  off : txt = none → s.tokPos < 0

section
variable {B S R : Nat} {w w' : World} {s : Sc} {rest : List Nat} {txt : Option (List UInt8)}
/-- Over a world in which the scanner's blocks stand. -/
theorem Inp.below (h : Inp B S R w s rest txt) (hb : Below w.heap.size w w') : Inp B S R w' s rest txt := by
  obtain ⟨rb, h1, h2⟩ := h.rd
  obtain ⟨bs, h3, h4⟩ := h.tb
  exact { h with sc := h.sc.below hb, hw := Nat.le_trans h.hw hb.size, rd := ⟨rb, h1.block (hb.block R h1.lt), h2⟩, tb := ⟨bs, h3.carry (fun g cur _ hg => (hb.block g (Lib.lt_of_heap hg)).trans hg) rfl rfl, h4⟩ }
theorem Inp.drewN (h : Inp B S R w s rest txt) (n : Nat) : Inp B S R (w.drewN n) s rest txt := h.below ⟨rfl, rfl, rfl, Nat.le_refl _, fun _ _ => rfl⟩
end

/-- What is known of the package-level variables, all of which lie below block B. -/
structure Glob (B : Nat) (w : World) : Prop where
  low : 10 ≤ B
  u8 : U8Tab w
  eof : ∃ a, w.cell? ⟨3, 0, none⟩ = some (.iface 139 (.pointer (some a)))
theorem Glob.below {B : Nat} {w w' : World} (h : Glob B w) (hb : Below B w w') : Glob B w' := by
  have hl := h.low
  have hc : ∀ k o, k < 10 → w'.cell? ⟨k, o, none⟩ = w.cell? ⟨k, o, none⟩ := fun k o hk => hb.cell (p := ⟨k, o, none⟩) (Nat.lt_of_lt_of_le hk hl)
  obtain ⟨a, ha⟩ := h.eof
  exact ⟨hl, ⟨fun i hi => (hc _ _ (by decide)).trans (h.u8.asc i hi), (hc _ _ (by decide)).trans h.u8.c2, (hc _ _ (by decide)).trans h.u8.e2, (hc _ _ (by decide)).trans h.u8.lo, (hc _ _ (by decide)).trans h.u8.hi⟩, a, (hc _ _ (by decide)).trans ha⟩

/-- The fields that reading does not turn. -/
def Same (s s' : Sc) : Prop := s'.src = s.src ∧ s'.mode = s.mode ∧ s'.ws = s.ws ∧ s'.ident = s.ident ∧ s'.ch = s.ch
theorem Same.refl (s : Sc) : Same s s := ⟨rfl, rfl, rfl, rfl, rfl⟩
theorem Same.trans {a b c : Sc} (h : Same a b) (k : Same b c) : Same a c := ⟨k.1.trans h.1, k.2.1.trans h.2.1, k.2.2.1.trans h.2.2.1, k.2.2.2.1.trans h.2.2.2.1, k.2.2.2.2.trans h.2.2.2.2⟩

/-- The scanner with its last character (prev: its bytes), the text collected ahead of it. -/
structure Lx (B S R : Nat) (w : World) (s : Sc) (rest : List Nat) (prev : List UInt8) (txt : Option (List UInt8)) : Prop where
  inp : Inp B S R w s rest (txt.map (· ++ prev))
  len : s.lastLen = prev.length
  le : prev.length ≤ s.pos
  sg : seg s.buf (s.pos - prev.length) prev.length = prev
  tk : ∀ t, txt = some t → ∃ p : Nat, s.tokPos = p ∧ p + prev.length ≤ s.pos

/-- What 'next' hands back, and the bytes that it has read. -/
def headR : List Nat → Int
  | [] => -1
  | c :: _ => c
def headB : List Nat → List UInt8
  | [] => []
  | c :: _ => encR c
def NextEnd (B S R : Nat) (w : World) (s : Sc) (rest : List Nat) (txt : Option (List UInt8)) (e : Ending) (w' : World) : Prop :=
  e = .returned (.int .i32 (headR rest)) ∧ ∃ s', Lx B S R w' s' rest.tail (headB rest) txt ∧ Same s s' ∧ Fr B S R w w'

end Go.Proofs.YtmeihdlkadjoeaaGreatDoor

namespace Go.Proofs.YtmeihdlkadjoeaaGreatDoor
open Go.RowKit
set_option linter.unusedVariables false
set_option linter.unusedSimpArgs false

/-- Does the buffer hold the next character whole? -/
def full : List Nat → Nat → Bool
  | [], _ => false
  | c :: _, n => decide ((encR c).length ≤ n)

theorem fullRune_inp {B S R : Nat} {w : World} {s : Sc} {rest : List Nat} {txt : Option (List UInt8)} (h : Inp B S R w s rest txt) (hU : U8Tab w) (n cap : Nat) (hn : n = s.fin - s.pos) :
    Calls Tryz.prog 67 #[.slice (some ⟨S, 1 + s.pos, none⟩) n cap] w fun e w' => e = .returned (.bool (full rest n)) ∧ Below w.heap.size w w' := by
  have hS := h.sc.lt
  have hf := h.finLe
  have hp := h.posLe
  obtain ⟨rb, _, hseg⟩ := h.rd
  rw [← hn] at hseg
  have cellAt : ∀ (l : List UInt8) j (b : UInt8), enc rest = l → j < n → l[j]? = some b → w.cell? ⟨S, 1 + s.pos + j, none⟩ = some (.int .u8 (b.toNat : Int)) := by
    intro l j b hl hj hb
    have h1 := seg_at (hseg.trans hl) j hj
    rw [hb] at h1
    have h2 := h.sc.byte (s.pos + j) (by omega)
    rw [← Option.some.inj h1, ← Nat.add_assoc] at h2
    exact h2
  cases rest with
  | nil =>
    have : n = 0 := by
      have h1 := congrArg List.length hseg
      simp [seg_length, enc] at h1
      exact h1.1
    subst this
    exact fullRune_nil _ _ _
  | cons c rs =>
    by_cases h0 : n = 0
    · subst h0
      have e : full (c :: rs) 0 = false := by
        have := encR_pos c
        simp only [full, decide_eq_false_iff_not]; omega
      rw [e]; exact fullRune_nil _ _ _
    · rcases h.ok c (by simp) with hc | rfl | rfl
      · have e : full (c :: rs) n = true := by
          simp only [full, decide_eq_true_eq, encR_asc hc, List.length_singleton]; omega
        rw [e]
        have h1 := cellAt _ 0 (UInt8.ofNat c) rfl (by omega) (by rw [enc_cons, encR_asc hc]; rfl)
        rw [toNat_asc hc] at h1
        exact fullRune_asc S (1 + s.pos) n cap c w hS hU (by omega) (by omega) h1 (by omega) (by omega)
      · have h1 := cellAt _ 0 194 rfl (by omega) (by rw [enc_cons, encR_dot]; rfl)
        by_cases h2 : 2 ≤ n
        · have e : full (183 :: rs) n = true := decide_eq_true (p := (encR 183).length ≤ n) h2
          rw [e]; exact fullRune_c2 S (1 + s.pos) n cap w hS hU h2 (by omega) h1
        · have e : full (183 :: rs) n = false := decide_eq_false (p := (encR 183).length ≤ n) h2
          obtain rfl : n = 1 := by omega
          rw [e]; exact fullRune_c2_one S (1 + s.pos) cap w hS hU h1
      · have h1 := cellAt _ 0 226 rfl (by omega) (by rw [enc_cons, encR_slash]; rfl)
        by_cases h2 : 3 ≤ n
        · have e : full (8725 :: rs) n = true := decide_eq_true (p := (encR 8725).length ≤ n) h2
          rw [e]; exact fullRune_e2 S (1 + s.pos) n cap w hS hU h2 (by omega) h1
        · have e : full (8725 :: rs) n = false := decide_eq_false (p := (encR 8725).length ≤ n) h2
          rw [e]
          by_cases h3 : n = 1
          · subst h3; exact fullRune_e2_one S (1 + s.pos) cap w hS hU h1
          · obtain rfl : n = 2 := by omega
            have h4 := cellAt _ 1 136 rfl (by omega) (by rw [enc_cons, encR_slash]; rfl)
            exact fullRune_e2_two S (1 + s.pos) cap w hS hU h1 h4

/-- At the head of each round of next's loop: r bytes more of the reader are to come. -/
def NextRel (B S R : Nat) (w : World) (s : Sc) (rest : List Nat) (txt : Option (List UInt8)) (k : Nat) (wr : World) : Prop :=
  ∃ s', Inp B S R wr s' rest txt ∧ Same s s' ∧ Fr B S R w wr ∧ k = (enc rest).length - (s'.fin - s'.pos)

theorem neq_nofunc (w : World) : (binOp .neq 64 .nilFunc .nilFunc).run Tryz.prog w = .ok (.bool false) w := by kernel_rfl

set_option maxRecDepth 10000 in
/-- error, without a handler -/
theorem error_any {S : Nat} {w : World} {s : Sc} (h : ScAt w S s) (herr : s.err = .nilFunc) (msg : ByteArray) :
    Calls Tryz.prog 68 #[.pointer (some ⟨S, 0, none⟩), .string msg] w fun e w' => e = .returned (.tuple #[]) ∧
      ∃ v1 v2 n, w' = ((w.setCell ⟨S, 1037, none⟩ (.int .i64 v1)).setCell ⟨S, 1040, none⟩ (.int .i64 v2)).drewN n := by
  obtain ⟨c0, c1026, c1027, c1028, c1029, c1030, c1031, c1032, c1036, c1037, c1038, c1039, c1040, c1041, c1042, c1043, c1045, c1046, c1047, fz⟩ := h.facts
  rw [herr] at c1039
  have hnf := neq_nofunc
  clear c0 c1027 c1028 c1029 c1030 c1031 c1036 c1038 c1041 c1042 c1043 c1045 c1046 c1047
  go_enter Tryz.func68, Tryz.ntmps68
  go_wp2_with fail
  refine wp_region_tail 12 (by kernel_rfl) (by kernel_rfl) ?_
  simp only [List.take_succ_cons, List.take_zero, List.drop_succ_cons, List.drop_zero]
  repeat still_step
  refine wpStill_nil ?_
  go_wp2_with fail
  go_end0
  exact ⟨rfl, _, _, 1, rfl⟩

theorem comp_err : (Tryz.prog.info? 139).map (·.comparable) = some true := by kernel_rfl
theorem size_err : (Tryz.prog.info? 156).map (·.size) = some 1 := by kernel_rfl
theorem neq_eof (a : Addr) (w : World) : (binOp .neq 97 (.iface 139 (.pointer (some a))) (.iface 139 (.pointer (some a)))).run Tryz.prog w = .ok (.bool false) w := by
  obtain ⟨i, hi, hc⟩ := Option.map_eq_some_iff.1 comp_err
  obtain ⟨j, hj, _⟩ := Option.map_eq_some_iff.1 size_err
  simp only [binOp]
  simp [Op.equal, Op.maxDepth, run_equalIn_iface_ptr_same w 9998 a Tryz.underlying97 Tryz.underlying139 hi hc hj]

end Go.Proofs.YtmeihdlkadjoeaaGreatDoor

namespace Go.Proofs.YtmeihdlkadjoeaaGreatDoor
open Go.RowKit
set_option linter.unusedVariables false
set_option linter.unusedSimpArgs false

theorem below_of_drewN {w w2 : World} {n : Nat} (h : Below (w.drewN n).heap.size (w.drewN n) w2) : Below w.heap.size w w2 :=
  ⟨h.os, h.tape, h.output, h.size, h.block⟩

/-- Nothing but block S has turned. -/
structure Only (S : Nat) (w w' : World) : Prop where
  os : w'.os = w.os
  tape : w'.tape = w.tape
  output : w'.output = w.output
  size : w'.heap.size = w.heap.size
  heap : ∀ k, k ≠ S → w'.heap[k]? = w.heap[k]?
section
variable {S B R : Nat} {a w w' : World}
theorem Only.refl (S : Nat) (w : World) : Only S w w := ⟨rfl, rfl, rfl, rfl, fun _ _ => rfl⟩
theorem Only.set (h : Only S a w) (o : Nat) (v : Value) : Only S a (w.setCell ⟨S, o, none⟩ v) :=
  ⟨h.os, h.tape, h.output, by simpa [World.setCell] using h.size, fun k hk => (Below.heap_setCell _ ⟨S, o, none⟩ _ k hk).trans (h.heap k hk)⟩
theorem Only.setRow (h : Only S a w) (arr : Array Value) : Only S a (w.setRow S arr) :=
  ⟨h.os, h.tape, h.output, by simpa using h.size, fun k hk => (setRow_other _ _ _ _ hk).trans (h.heap k hk)⟩
theorem Only.drewN (h : Only S a w) (n : Nat) : Only S a (w.drewN n) := ⟨h.os, h.tape, h.output, h.size, h.heap⟩
theorem Only.drew (h : Only S a w) : Only S a w.drew := ⟨h.os, h.tape, h.output, h.size, h.heap⟩
theorem Only.fr (h : Only S w w') (hB : B ≤ S) (R : Nat) : Fr B S R w w' :=
  ⟨⟨h.os, h.tape, h.output, Nat.le_of_eq h.size.symm, fun k hk => h.heap k (by omega)⟩, fun k o hk h1 _ _ => (h.heap k h1).trans hk⟩
end

theorem seg_split {f : Nat → UInt8} {i n : Nat} {rb l m : List UInt8} (h : seg f i n ++ rb = l ++ m) (hl : l.length ≤ n) : seg f i l.length = l ∧ seg f (i + l.length) (n - l.length) ++ rb = m := by
  obtain ⟨k, rfl⟩ : ∃ k, n = l.length + k := ⟨n - l.length, by omega⟩
  rw [seg_append, List.append_assoc] at h
  have h1 := List.append_inj h (seg_length _ _ _)
  refine ⟨h1.1, ?_⟩
  rw [Nat.add_sub_cancel_left]
  exact h1.2

/-- A character has been read. -/
theorem next_close {B S R : Nat} {w0 w w' : World} {s0 s s' : Sc} {c : Nat} {rs : List Nat} {txt : Option (List UInt8)} {col line lastLine tokEnd errs : Int} (h : Inp B S R w s (c :: rs) txt) (hsame : Same s0 s) (hfr : Fr B S R w0 w) (hfull : (encR c).length ≤ s.fin - s.pos)
    (e : s' = { s with pos := s.pos + (encR c).length, lastLen := (encR c).length, col := col, line := line, lastLine := lastLine, tokEnd := tokEnd, errs := errs }) (hsc : ScAt w' S s') (ho : Only S w w') :
    NextEnd B S R w0 s0 (c :: rs) txt (.returned (.int .i32 c)) w' := by
  obtain ⟨rb, h1, h2⟩ := h.rd
  obtain ⟨bs, h3, h4⟩ := h.tb
  have hp := h.posLe
  rw [enc_cons] at h2
  obtain ⟨h5, h6⟩ := seg_split h2 hfull
  have hbd : (enc (c :: rs)).length ≤ 1000000 := h.bd
  rw [enc_cons, List.length_append] at hbd
  refine ⟨rfl, s', ?_, by subst e; exact ⟨hsame.1, hsame.2.1, hsame.2.2.1, hsame.2.2.2.1, hsame.2.2.2.2⟩, hfr.trans (ho.fr h.hB R)⟩
  subst e
  refine ⟨?_, rfl, Nat.le_add_left _ _, ?_, ?_⟩
  · refine ⟨hsc, h.hB, h.hR, h.hRS, by rw [ho.size]; exact h.hw, ⟨rb, h1.block (ho.heap R h.hRS), ?_⟩, h.finLe, ?_, h.sent, fun d hd => h.ok d (by simp only [List.tail_cons] at hd; exact List.mem_cons_of_mem _ hd), h.err, by show (enc rs).length ≤ 1000000; omega, ⟨bs, h3.carry (fun g cur hg hh => (ho.heap g hg).trans hh) rfl rfl, ?_⟩, ?_⟩
    · show seg s.buf (s.pos + (encR c).length) (s.fin - (s.pos + (encR c).length)) ++ rb = enc rs
      rw [Nat.sub_add_eq]; exact h6
    · show s.pos + (encR c).length ≤ s.fin
      omega
    · intro t ht
      cases txt with
      | none => cases ht
      | some t0 =>
        obtain ⟨p, hp1, hp2, hp3, hp4⟩ := h4 t0 rfl
        simp only [Option.map_some, Option.some.injEq] at ht
        subst ht
        refine ⟨p, hp1, Nat.le_trans hp2 (Nat.le_add_right _ _), ?_, ?_⟩
        · show t0 ++ encR c = bs ++ seg s.buf p (s.pos + (encR c).length - p)
          have e1 : s.pos + (encR c).length - p = (s.pos - p) + (encR c).length := by omega
          have e2 : p + (s.pos - p) = s.pos := by omega
          rw [e1, seg_append, e2, h5, hp3, List.append_assoc]
        · rw [enc_cons, List.length_append] at hp4
          show (t0 ++ encR c).length + (enc rs).length ≤ 1000000
          rw [List.length_append]; omega
    · intro ht
      cases txt with
      | none => exact h.off rfl
      | some t0 => cases ht
  · show seg s.buf (s.pos + (encR c).length - (encR c).length) (encR c).length = encR c
    rw [Nat.add_sub_cancel]; exact h5
  · intro t ht
    obtain ⟨p, hp1, hp2, _⟩ := h4 t ht
    exact ⟨p, hp1, by show p + (encR c).length ≤ s.pos + (encR c).length; omega⟩

end Go.Proofs.YtmeihdlkadjoeaaGreatDoor

namespace Go.Proofs.YtmeihdlkadjoeaaGreatDoor
open Go.RowKit
set_option linter.unusedVariables false
set_option linter.unusedSimpArgs false

/-- Write, the number of bytes under a name of its own. -/
theorem buf_write_n (B S n : Nat) (s : Sc) (bs cs : List UInt8) (i c : Nat) (w : World) (hn : cs.length = n) (hB : B ≤ S) (h : ScAt w S s) (ht : TbIs B S w s bs) (hBw : B ≤ w.heap.size)
    (hi : i + n ≤ 1025) (hsrc : cs = seg s.buf i n) (hlim : bs.length + n ≤ 140737488355328) :
    Calls Tryz.prog 61 #[.pointer (some ⟨S, 1033, none⟩), .slice (some ⟨S, 1 + i, none⟩) n c] w fun e w' => e = .returned (.tuple #[.int .i64 n, .nilIface]) ∧
      ∃ v lr, ScAt w' S { s with tb := v, tbOff := 0, tbLast := lr } ∧ TbIs B S w' { s with tb := v, tbOff := 0, tbLast := lr } (bs ++ cs) ∧ Below B w w' ∧ Lib.OthersKept 5 (some S) w w' := by
  subst hn
  refine buf_write B S s bs cs i c w hB h ht hBw hi (fun j hj => ?_) hlim
  have h1 := seg_get s.buf i cs.length j hj
  rw [← hsrc, List.getElem?_eq_getElem hj] at h1
  exact (Option.some.inj h1).symm

/-- The state ahead of the moving of the unread bytes. -/
structure Mid (B S R : Nat) (w : World) (s : Sc) (rest : List Nat) (txt : Option (List UInt8)) (rb : List UInt8) (n : Nat) : Prop where
  sc : ScAt w S s
  hB : B ≤ S
  hR : B ≤ R
  hRS : R ≠ S
  hw : B ≤ w.heap.size
  rd : RdAt w R s.src rb
  sg : seg s.buf s.pos n ++ rb = enc rest
  hn : s.fin = s.pos + n
  n2 : n ≤ 2
  finLe : s.fin ≤ 1024
  ok : ∀ c ∈ rest, okR c
  err : s.err = .nilFunc
  bd : (enc rest).length ≤ 1000000
  tb : ∃ bs, TbIs B S w s bs ∧ ∀ t, txt = some t → s.tokPos = 0 ∧ t = bs ∧ t.length + (enc rest).length ≤ 1000000
  off : txt = none → s.tokPos < 0

theorem notfull {f : Nat → UInt8} {i n : Nat} {rb : List UInt8} {rest : List Nat} (h : seg f i n ++ rb = enc rest) (hf : full rest n = false) : n ≤ 2 ∧ (rb = [] → rest = [] ∧ n = 0) ∧ (rest = [] → rb = []) := by
  cases rest with
  | nil =>
    have h1 := congrArg List.length h
    simp only [List.length_append, seg_length, enc_nil, List.length_nil] at h1
    exact ⟨by omega, fun _ => ⟨rfl, by omega⟩, fun _ => List.eq_nil_of_length_eq_zero (by omega)⟩
  | cons c rs =>
    have h2 : ¬ (encR c).length ≤ n := by simpa [full] using hf
    have h3 := encR_le c
    refine ⟨by omega, fun hr => ?_, fun hr => by cases hr⟩
    subst hr
    have h1 := congrArg List.length h
    rw [enc_cons] at h1
    simp only [List.length_append, seg_length, List.length_nil] at h1
    omega

theorem Inp.mid_none {B S R : Nat} {w : World} {s : Sc} {rest : List Nat} (h : Inp B S R w s rest none) (hf : full rest (s.fin - s.pos) = false) : ∃ rb n, Mid B S R w s rest none rb n := by
  obtain ⟨rb, h1, h2⟩ := h.rd
  obtain ⟨bs, h3, _⟩ := h.tb
  have hp := h.posLe
  exact ⟨rb, _, h.sc, h.hB, h.hR, h.hRS, h.hw, h1, h2, by omega, (notfull h2 hf).1, h.finLe, h.ok, h.err, h.bd, ⟨bs, h3, fun t ht => by cases ht⟩, h.off⟩

theorem Mid.full {B S R n : Nat} {w : World} {s : Sc} {rest : List Nat} {txt : Option (List UInt8)} {rb : List UInt8} (h : Mid B S R w s rest txt rb n) (hf : full rest (s.fin - s.pos) = false) : (rb = [] → rest = [] ∧ n = 0) := by
  have h1 : s.fin - s.pos = n := by rw [h.hn]; omega
  rw [h1] at hf
  exact (notfull h.sg hf).2.1

theorem RdAt.keeps {w w' : World} {R S : Nat} {v : Value} {bs : List UInt8} (h : RdAt w R v bs) (hk : Lib.OthersKept 5 (some S) w w') (hRS : R ≠ S) : w'.heap[R]? = w.heap[R]? := by
  cases h with
  | str t i pr hb1 hi ht => rw [hb1]; exact hk R _ hb1 (fun e => hRS (Option.some.inj e)) (fun c fz e => by cases e)

/-- Behind Write and 's.tokPos = 0'. -/
theorem Inp.mid_some {B S R : Nat} {w w' : World} {s : Sc} {rest : List Nat} {t bs : List UInt8} {p : Nat} {v : Value} {lr : Int} (h : Inp B S R w s rest (some t)) (hf : Go.Proofs.YtmeihdlkadjoeaaGreatDoor.full rest (s.fin - s.pos) = false)
    (hp3 : t = bs ++ seg s.buf p (s.pos - p)) (hp4 : t.length + (enc rest).length ≤ 1000000)
    (hsc : ScAt w' S { s with tb := v, tbOff := 0, tbLast := lr }) (htb : TbIs B S w' { s with tb := v, tbOff := 0, tbLast := lr } (bs ++ seg s.buf p (s.pos - p)))
    (hb : Below B w w') (hk : Lib.OthersKept 5 (some S) w w') :
    ∃ rb n, Mid B S R (w'.setCell ⟨S, 1036, none⟩ (.int .i64 0)) { s with tb := v, tbOff := 0, tbLast := lr, tokPos := 0 } rest (some t) rb n := by
  obtain ⟨rb, h1, h2⟩ := h.rd
  have hp := h.posLe
  have hR := h1.keeps hk h.hRS
  refine ⟨rb, _, hsc.setTokPos 0, h.hB, h.hR, h.hRS, by simpa [World.setCell] using Nat.le_trans h.hw hb.size, h1.block ((Below.heap_setCell _ _ _ _ h.hRS).trans hR), h2, by show s.fin = s.pos + (s.fin - s.pos); omega, (notfull h2 hf).1, h.finLe, h.ok, h.err, h.bd, ⟨_, htb.carry (fun g cur hg hh => (Below.heap_setCell _ ⟨S, 1036, none⟩ _ _ hg).trans hh) rfl rfl, ?_⟩, fun e => by cases e⟩
  intro t' ht'
  cases ht'
  exact ⟨rfl, hp3, hp4⟩

/-- More bytes have come. -/
theorem Mid.more {B S R n : Nat} {w w' : World} {s s' : Sc} {rest : List Nat} {txt : Option (List UInt8)} {rb rb' l L : List UInt8} {off : Int} {bf : Nat → UInt8} (h : Mid B S R w s rest txt rb n) (hL : L = seg s.buf s.pos n) (hl : l.length ≤ 1024 - n) (hrb : rb = l ++ rb')
    (hbf : bf = fun j => if j = n + l.length then 128 else putBytes (putBytes s.buf 0 L) n l j)
    (e : s' = { s with buf := bf, pos := 0, fin := n + l.length, off := off }) (hsc : ScAt w' S s') (hrd : RdAt w' R s.src rb') (hk : ∀ k, k ≠ S → k ≠ R → w'.heap[k]? = w.heap[k]?) (hsz : w.heap.size ≤ w'.heap.size) :
    Inp B S R w' s' rest txt := by
  obtain ⟨bs, h1, h2⟩ := h.tb
  have hn := h.n2
  have hLl : L.length = n := by rw [hL, seg_length]
  have hseg : seg bf 0 (n + l.length) = L ++ l := by
    have e1 : seg bf 0 (n + l.length) = seg (putBytes (putBytes s.buf 0 L) n l) 0 (n + l.length) := by
      apply seg_congr
      intro j hj
      rw [hbf]
      show (if 0 + j = n + l.length then (128 : UInt8) else _) = _
      rw [if_neg (by omega)]
    rw [e1, seg_append, Nat.zero_add, seg_put, seg_put_out _ _ _ _ _ (by omega)]
    congr 1
    have := seg_put s.buf 0 L
    rw [hLl] at this
    exact this
  have htb : TbIs B S w' s' bs := h1.carry (fun g cur hg hh => (hk g hg (h.rd.ne_row hh)).trans hh) (by rw [e]) (by rw [e])
  subst e
  refine ⟨hsc, h.hB, h.hR, h.hRS, Nat.le_trans h.hw hsz, ⟨rb', hrd, ?_⟩, ?_, Nat.zero_le _, ?_, h.ok, h.err, h.bd, ⟨bs, htb, ?_⟩, h.off⟩
  · show seg bf 0 (n + l.length - 0) ++ rb' = enc rest
    rw [Nat.sub_zero, hseg, List.append_assoc, ← hrb, hL]
    exact h.sg
  · show n + l.length ≤ 1024
    omega
  · show bf (n + l.length) = 128
    rw [hbf]
    show (if n + l.length = n + l.length then (128 : UInt8) else _) = 128
    rw [if_pos rfl]
  · intro t ht
    obtain ⟨a1, a2, a3⟩ := h2 t ht
    refine ⟨0, a1, Nat.le_refl _, ?_, a3⟩
    show t = bs ++ seg bf 0 (0 - 0)
    rw [Nat.sub_zero, seg_zero, List.append_nil]; exact a2

/-- There is nothing more. -/
theorem Mid.eof {B S R n : Nat} {w0 w w' : World} {s0 s s' : Sc} {rest : List Nat} {txt : Option (List UInt8)} {off col : Int} {bf : Nat → UInt8} (h : Mid B S R w s rest txt [] n) (hre : rest = []) (hsame : Same s0 s) (hfr : Fr B S R w0 w)
    (hbf : bf 0 = 128) (e : s' = { s with buf := bf, pos := 0, fin := 0, off := off, col := col, lastLen := 0 }) (hsc : ScAt w' S s') (ho : Only S w w') :
    NextEnd B S R w0 s0 rest txt (.returned (.int .i32 (-1))) w' := by
  obtain ⟨bs, h1, h2⟩ := h.tb
  subst hre
  have htb : TbIs B S w' s' bs := h1.carry (fun g cur hg hh => (ho.heap g hg).trans hh) (by rw [e]) (by rw [e])
  refine ⟨rfl, s', ?_, by subst e; exact ⟨hsame.1, hsame.2.1, hsame.2.2.1, hsame.2.2.2.1, hsame.2.2.2.2⟩, hfr.trans (ho.fr h.hB R)⟩
  subst e
  refine ⟨?_, rfl, Nat.le_refl _, rfl, ?_⟩
  · have hm : (txt.map (· ++ headB [])) = txt := by cases txt <;> simp [headB]
    rw [hm]
    refine ⟨hsc, h.hB, h.hR, h.hRS, by rw [ho.size]; exact h.hw, ⟨[], h.rd.block (ho.heap R h.hRS), rfl⟩, Nat.zero_le _, Nat.le_refl _, hbf, h.ok, h.err, h.bd, ⟨bs, htb, ?_⟩, h.off⟩
    intro t ht
    obtain ⟨a1, a2, a3⟩ := h2 t ht
    refine ⟨0, a1, Nat.le_refl _, ?_, a3⟩
    show t = bs ++ seg bf 0 (0 - 0)
    rw [Nat.sub_zero, seg_zero, List.append_nil]; exact a2
  · intro t ht
    obtain ⟨a1, a2, a3⟩ := h2 t ht
    exact ⟨0, a1, Nat.le_refl _⟩

section
variable {B S R n m k : Nat} {w w1 w2 W3 : World} {s s' s1 : Sc} {rest : List Nat} {txt : Option (List UInt8)} {rb rb' l L : List UInt8} {b2 : Nat → UInt8} {X Y : Int}
theorem eof_a (hM : Mid B S R w1 s1 rest txt [] n) (hre : rest = []) (hz : n = 0) (hsame : Same s s1) (hfr : Fr B S R w w1) (sc2 : ScAt w2 S { s1 with buf := b2 }) (ho2 : Only S w1 w2) :
    NextEnd B S R w s rest txt (.returned (.int .i32 (-1))) ((((((w2.setCell ⟨S, 1028, none⟩ (.int .i64 X)).drewN k).setCell ⟨S, 1026, none⟩ (.int .i64 0)).setCell ⟨S, 1027, none⟩ (.int .i64 (n : Int))).setCell ⟨S, 1 + n, none⟩ (.int .u8 128)).setCell ⟨S, 1032, none⟩ (.int .i64 0)).drew := by
  have hv : (n : Int) = ((0 : Nat) : Int) := by rw [hz]
  refine hM.eof hre hsame hfr ?_ rfl (((((((sc2.setOff X).drewN k).setPos 0 (v := 0) rfl).setFin 0 hv).setByte n (by omega) 128 (v := 128) rfl).setLastLen 0 (v := 0) rfl).drew) ((((((ho2.set _ _).drewN _).set _ _).set _ _).set _ _).set _ _).drew
  show (if 0 = n then (128 : UInt8) else _) = 128
  rw [if_pos hz.symm]
theorem eof_b (hM : Mid B S R w1 s1 rest txt [] n) (hre : rest = []) (hz : n = 0) (hsame : Same s s1) (hfr : Fr B S R w w1) (sc2 : ScAt w2 S { s1 with buf := b2 }) (ho2 : Only S w1 w2) :
    NextEnd B S R w s rest txt (.returned (.int .i32 (-1))) (((((((w2.setCell ⟨S, 1028, none⟩ (.int .i64 X)).drewN k).setCell ⟨S, 1026, none⟩ (.int .i64 0)).setCell ⟨S, 1027, none⟩ (.int .i64 (n : Int))).setCell ⟨S, 1 + n, none⟩ (.int .u8 128)).setCell ⟨S, 1030, none⟩ (.int .i64 Y)).setCell ⟨S, 1032, none⟩ (.int .i64 0)).drew := by
  have hv : (n : Int) = ((0 : Nat) : Int) := by rw [hz]
  refine hM.eof hre hsame hfr ?_ rfl ((((((((sc2.setOff X).drewN k).setPos 0 (v := 0) rfl).setFin 0 hv).setByte n (by omega) 128 (v := 128) rfl).setCol Y).setLastLen 0 (v := 0) rfl).drew) (((((((ho2.set _ _).drewN _).set _ _).set _ _).set _ _).set _ _).set _ _).drew
  show (if 0 = n then (128 : UInt8) else _) = 128
  rw [if_pos hz.symm]
theorem more_end (hM : Mid B S R w1 s1 rest txt rb n) (hL : L = seg s1.buf s1.pos n) (hm : m = n + l.length) (hm1 : m ≤ 1024) (hrb : rb = l ++ rb') (hsame : Same s s1) (hfr : Fr B S R w w1) (ho2 : Only S w1 w2)
    (hrd3 : RdAt W3 R s1.src rb') (hsc3 : ScAt W3 S { s1 with buf := putBytes (putBytes s1.buf 0 L) n l, off := X }) (hfr3 : Fr B S R ((w2.setCell ⟨S, 1028, none⟩ (.int .i64 X)).drewN k) W3)
    (hk3 : ∀ j, j ≠ S → j ≠ R → W3.heap[j]? = ((w2.setCell ⟨S, 1028, none⟩ (.int .i64 X)).drewN k).heap[j]?) :
    NextRel B S R w s rest txt ((enc rest).length - m) (((W3.setCell ⟨S, 1026, none⟩ (.int .i64 0)).setCell ⟨S, 1027, none⟩ (.int .i64 (m : Int))).setCell ⟨S, 1 + m, none⟩ (.int .u8 128)).drew := by
  subst hm
  have hBS := hM.hB
  have hRS := hM.hRS
  have hsc4 := (((hsc3.setPos 0 (v := 0) rfl).setFin (n + l.length) (v := ((n + l.length : Nat) : Int)) rfl).setByte (n + l.length) (by omega) 128 (v := 128) rfl).drew
  have hfr4 := (((hfr3.set hBS 1026 (.int .i64 0)).set hBS 1027 (.int .i64 ((n + l.length : Nat) : Int))).set hBS (1 + (n + l.length)) (.int .u8 128)).drew
  have hfr5 := ((ho2.fr hBS R).set hBS 1028 (.int .i64 X)).drewN k
  have hinp := hM.more hL (by omega) hrb rfl rfl hsc4 (hrd3.block ((Below.heap_setCell _ ⟨S, 1 + (n + l.length), none⟩ _ _ hRS).trans ((Below.heap_setCell _ ⟨S, 1027, none⟩ _ _ hRS).trans (Below.heap_setCell _ ⟨S, 1026, none⟩ _ _ hRS)))) (fun j h1 h2 =>
      (Below.heap_setCell _ ⟨S, 1 + (n + l.length), none⟩ _ _ h1).trans ((Below.heap_setCell _ ⟨S, 1027, none⟩ _ _ h1).trans ((Below.heap_setCell _ ⟨S, 1026, none⟩ _ _ h1).trans ((hk3 j h1 h2).trans ((Below.heap_setCell _ ⟨S, 1028, none⟩ _ _ h1).trans (ho2.heap j h1)))))) (hfr5.trans hfr4).1.size
  exact ⟨_, hinp, ⟨hsame.1, hsame.2.1, hsame.2.2.1, hsame.2.2.2.1, hsame.2.2.2.2⟩, hfr.trans (hfr5.trans hfr4), rfl⟩
theorem more_count (hM : Mid B S R w1 s1 rest txt rb n) (hm : m = n + l.length) (hl1 : 1 ≤ l.length) (hrb : rb = l ++ rb') (hnn : n = s'.fin - s'.pos) : (enc rest).length - m < (enc rest).length - (s'.fin - s'.pos) := by
  have h9 := congrArg List.length hM.sg
  rw [hrb] at h9
  simp only [List.length_append, seg_length] at h9
  omega
end

end Go.Proofs.YtmeihdlkadjoeaaGreatDoor

namespace Go.Proofs.YtmeihdlkadjoeaaGreatDoor
open Go.RowKit
set_option linter.unusedVariables false
set_option linter.unusedSimpArgs false

/-- The first character, seen through the buffer. -/
theorem Inp.first {B S R : Nat} {w : World} {s : Sc} {c : Nat} {rs : List Nat} {txt : Option (List UInt8)} (h : Inp B S R w s (c :: rs) txt) (j : Nat) (b : UInt8) (hj : j < s.fin - s.pos) (hb : (encR c)[j]? = some b) :
    w.cell? ⟨S, 1 + s.pos + j, none⟩ = some (.int .u8 (b.toNat : Int)) := by
  obtain ⟨rb, h1, h2⟩ := h.rd
  have hf := h.finLe
  have h3 := seg_at h2 j hj
  have hlt : j < (encR c).length := (List.getElem?_eq_some_iff.1 hb).1
  rw [enc_cons, List.getElem?_append_left hlt, hb] at h3
  have h4 := h.sc.byte (s.pos + j) (by omega)
  rw [← Option.some.inj h3, ← Nat.add_assoc] at h4
  exact h4

set_option maxHeartbeats 1000000 in
set_option maxRecDepth 100000 in
theorem next_fast {B S R : Nat} {w : World} {s : Sc} {c : Nat} {rs : List Nat} {txt : Option (List UInt8)} (h : Inp B S R w s (c :: rs) txt) (hc : c < 128) (hfull : s.pos < s.fin) :
    Calls Tryz.prog 50 #[.pointer (some ⟨S, 0, none⟩)] w (NextEnd B S R w s (c :: rs) txt) := by
  obtain ⟨c0, c1026, c1027, c1028, c1029, c1030, c1031, c1032, c1036, c1037, c1038, c1039, c1040, c1041, c1042, c1043, c1045, c1046, c1047, fz⟩ := h.sc.facts
  have hf := h.finLe
  have cb := h.first 0 (UInt8.ofNat c) (by omega) (by rw [encR_asc hc]; rfl)
  rw [toNat_asc hc, Nat.add_zero] at cb
  have hl : (encR c).length = 1 := by rw [encR_asc hc]; rfl
  have HL := Lib.hid hl
  clear hl
  have HI := Lib.hid h
  have hsc := Lib.hid h.sc
  have herr := Lib.hid h.err
  have hci : (c : Int) < 128 := by omega
  have hp : s.pos < 1025 := by omega
  clear h c0 c1027 c1028 c1036 c1037 c1038 c1039 c1040 c1041 c1042 c1043 c1045 c1046 c1047
  by_cases e0 : c = 0
  · subst e0
    go_enter Tryz.func50, Tryz.ntmps50
    go_wp2_with fail
    go_quiet (fail)
    go_wp2_with fail
    refine (error_any (s := { s with pos := s.pos + 1, lastLen := 1, col := wrap64 (s.col + 1) }) ((((hsc.out.drewN _).setPos (s.pos + 1) (v := (s.pos : Int) + 1) (by omega)).setLastLen 1 (v := 1) (by omega)).setCol _) herr.out _).mono ?_
    rintro e w' ⟨rfl, v1, v2, n2, rfl⟩
    go_wp2_with fail
    go_ret
    refine next_close (w := w) (col := wrap64 (s.col + 1)) (line := s.line) (lastLine := s.lastLine) (tokEnd := v1) (errs := v2) HI.out (Same.refl s) (Fr.refl _ _ _ _) (by rw [HL.out]; omega) rfl ?_ ?_
    · rw [HL.out]
      exact ((((((hsc.out.drewN _).setPos (s.pos + 1) (by omega)).setLastLen 1 (by omega)).setCol _).setTokEnd v1).setErrs v2).drewN _
    · exact (((((((Only.refl S w).drewN _).set _ _).set _ _).set _ _).set _ _).set _ _).drewN _
  · have c00 : ((c : Int) == 0) = false := by simp; omega
    by_cases e1 : c = 10
    · subst e1
      go_enter Tryz.func50, Tryz.ntmps50
      go_wp2_with fail
      go_quiet (fail)
      go_wp2_with fail
      go_ret
      refine next_close (w := w) (col := 0) (line := wrap64 (s.line + 1)) (lastLine := wrap64 (s.col + 1)) (tokEnd := s.tokEnd) (errs := s.errs) HI.out (Same.refl s) (Fr.refl _ _ _ _) (by rw [HL.out]; omega) rfl ?_ ?_
      · rw [HL.out]
        exact ((((((hsc.out.drewN _).setPos (s.pos + 1) (by omega)).setLastLen 1 (by omega)).setCol _).setLine _).setLastLine _).setCol _
      · exact (((((((Only.refl S w).drewN _).set _ _).set _ _).set _ _).set _ _).set _ _).set _ _
    · have c10 : ((c : Int) == 10) = false := by simp; omega
      go_enter Tryz.func50, Tryz.ntmps50
      go_wp2_with fail
      go_quiet (fail)
      go_wp2_with fail
      go_ret
      refine next_close (w := w) (col := wrap64 (s.col + 1)) (line := s.line) (lastLine := s.lastLine) (tokEnd := s.tokEnd) (errs := s.errs) HI.out (Same.refl s) (Fr.refl _ _ _ _) (by rw [HL.out]; omega) rfl ?_ ?_
      · rw [HL.out]
        exact (((hsc.out.drewN _).setPos (s.pos + 1) (by omega)).setLastLen 1 (by omega)).setCol _
      · exact ((((Only.refl S w).drewN _).set _ _).set _ _).set _ _

end Go.Proofs.YtmeihdlkadjoeaaGreatDoor
