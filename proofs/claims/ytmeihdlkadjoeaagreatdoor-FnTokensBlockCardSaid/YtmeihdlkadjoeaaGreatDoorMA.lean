/- THE SCANNER'S BLOCK: what its cells hold, told by a plain structure; stores into it; the frame of the scanner's functions. FullRune and DecodeRune at the bytes that the statements' texts hold. THE READERS: what a reader still holds, and one Read into the scanner's buffer. -/
import Derived.Test.YtmeihdlkadjoeaaGreatDoorProg
import Derived.WalkKit
import Derived.Below
import Derived.Lib.BufferAt
import Derived.WalkSmall
import Derived.BigQuiet
import Derived.Deep.QuietTactic
import Derived.Outline
import Derived.Lib.BufferWrite
import Derived.Lib.Hide
import Derived.Lib.IndexBytes
import Derived.StillTailTactics
import Derived.Laws.IdiomCopy
namespace Go.Proofs.YtmeihdlkadjoeaaGreatDoor
open Go.RowKit
set_option linter.unusedVariables false

/-- What the scanner's block holds. -/
structure Sc where
  src : Value
  buf : Nat → UInt8
  pos : Nat
  fin : Nat
  off : Int
  line : Int
  col : Int
  lastLine : Int
  lastLen : Nat
  tb : Value
  tbOff : Int
  tbLast : Int
  tokPos : Int
  tokEnd : Int
  ch : Int
  err : Value
  errs : Int
  mode : Int
  ws : Int
  ident : Value
  name : ByteArray
  pOff : Int
  pLine : Int
  pCol : Int

/-- The block's cells, by their places. -/
def Sc.cell (s : Sc) (o : Nat) : Option Value :=
  if o = 0 then some s.src else if o < 1026 then some (.int .u8 ((s.buf (o - 1)).toNat : Int)) else
  if o = 1026 then some (.int .i64 s.pos) else if o = 1027 then some (.int .i64 s.fin) else
  if o = 1028 then some (.int .i64 s.off) else if o = 1029 then some (.int .i64 s.line) else
  if o = 1030 then some (.int .i64 s.col) else if o = 1031 then some (.int .i64 s.lastLine) else
  if o = 1032 then some (.int .i64 s.lastLen) else if o = 1033 then some s.tb else
  if o = 1034 then some (.int .i64 s.tbOff) else if o = 1035 then some (.int .i8 s.tbLast) else
  if o = 1036 then some (.int .i64 s.tokPos) else if o = 1037 then some (.int .i64 s.tokEnd) else
  if o = 1038 then some (.int .i32 s.ch) else if o = 1039 then some s.err else
  if o = 1040 then some (.int .i64 s.errs) else if o = 1041 then some (.int .u64 s.mode) else
  if o = 1042 then some (.int .u64 s.ws) else if o = 1043 then some s.ident else
  if o = 1044 then some (.string s.name) else if o = 1045 then some (.int .i64 s.pOff) else
  if o = 1046 then some (.int .i64 s.pLine) else if o = 1047 then some (.int .i64 s.pCol) else none

/-- Block S is a scanner that holds s. -/
def ScAt (w : World) (S : Nat) (s : Sc) : Prop := ∃ cs : Array Value, w.heap[S]? = some (.cells cs 71 (0, 0)) ∧ ∀ o, cs[o]? = s.cell o

section
variable {w : World} {S : Nat} {s : Sc}

theorem ScAt.lt (h : ScAt w S s) : S < w.heap.size := by obtain ⟨cs, hb, _⟩ := h; exact Lib.lt_of_heap hb
theorem ScAt.cell (h : ScAt w S s) (o : Nat) : w.cell? ⟨S, o, none⟩ = s.cell o := by obtain ⟨cs, hb, hr⟩ := h; rw [Lib.cell_of_heap hb]; exact hr o
theorem ScAt.fz (h : ScAt w S s) (o : Nat) : w.frozen? ⟨S, o, none⟩ = false := by obtain ⟨cs, hb, _⟩ := h; exact Lib.frozen_of_heap hb o
theorem ScAt.of_heap {w' : World} (h : ScAt w S s) (e : w'.heap[S]? = w.heap[S]?) : ScAt w' S s := by obtain ⟨cs, hb, r⟩ := h; exact ⟨cs, e.trans hb, r⟩
theorem ScAt.drewN (h : ScAt w S s) (n : Nat) : ScAt (w.drewN n) S s := h
theorem ScAt.drew (h : ScAt w S s) : ScAt w.drew S s := h
theorem ScAt.alloc (h : ScAt w S s) (o : Obj) : ScAt (w.alloc o) S s := h.of_heap (Below.heap_alloc w o S h.lt)
theorem ScAt.below {w' : World} (h : ScAt w S s) (hb : Below w.heap.size w w') : ScAt w' S s := h.of_heap (hb.block S h.lt)

/-- A byte of the buffer. -/
theorem ScAt.byte (h : ScAt w S s) (i : Nat) (hi : i < 1025) : w.cell? ⟨S, 1 + i, none⟩ = some (.int .u8 ((s.buf i).toNat : Int)) := by
  rw [h.cell]
  unfold Sc.cell
  rw [if_neg (by omega), if_pos (by omega), Nat.add_sub_cancel_left]

theorem ScAt.set (h : ScAt w S s) (k : Nat) (v : Value) (s' : Sc) (hs : ∀ o, o ≠ k → s'.cell o = s.cell o) (hk : s'.cell k = some v) (hk2 : s.cell k ≠ none) : ScAt (w.setCell ⟨S, k, none⟩ v) S s' := by
  obtain ⟨cs, hb, hr⟩ := h
  have hlt : k < cs.size := by
    rcases Nat.lt_or_ge k cs.size with h' | h'
    · exact h'
    · exact absurd ((hr k).symm.trans (Array.getElem?_eq_none h')) hk2
  refine ⟨_, Lib.heap_setCell_same (i := k) hb v, fun o => ?_⟩
  by_cases e : o = k
  · subst e; rw [hk]; simp [hlt]
  · rw [Array.getElem?_setIfInBounds_ne (fun e1 => e e1.symm), hs o e]; exact hr o

/-- The facts that a walk wants, all at once. -/
theorem ScAt.facts (h : ScAt w S s) :
    w.cell? ⟨S, 0, none⟩ = some s.src ∧ w.cell? ⟨S, 1026, none⟩ = some (.int .i64 s.pos) ∧ w.cell? ⟨S, 1027, none⟩ = some (.int .i64 s.fin) ∧
    w.cell? ⟨S, 1028, none⟩ = some (.int .i64 s.off) ∧ w.cell? ⟨S, 1029, none⟩ = some (.int .i64 s.line) ∧ w.cell? ⟨S, 1030, none⟩ = some (.int .i64 s.col) ∧
    w.cell? ⟨S, 1031, none⟩ = some (.int .i64 s.lastLine) ∧ w.cell? ⟨S, 1032, none⟩ = some (.int .i64 s.lastLen) ∧
    w.cell? ⟨S, 1036, none⟩ = some (.int .i64 s.tokPos) ∧ w.cell? ⟨S, 1037, none⟩ = some (.int .i64 s.tokEnd) ∧ w.cell? ⟨S, 1038, none⟩ = some (.int .i32 s.ch) ∧
    w.cell? ⟨S, 1039, none⟩ = some s.err ∧ w.cell? ⟨S, 1040, none⟩ = some (.int .i64 s.errs) ∧ w.cell? ⟨S, 1041, none⟩ = some (.int .u64 s.mode) ∧
    w.cell? ⟨S, 1042, none⟩ = some (.int .u64 s.ws) ∧ w.cell? ⟨S, 1043, none⟩ = some s.ident ∧ w.cell? ⟨S, 1045, none⟩ = some (.int .i64 s.pOff) ∧
    w.cell? ⟨S, 1046, none⟩ = some (.int .i64 s.pLine) ∧ w.cell? ⟨S, 1047, none⟩ = some (.int .i64 s.pCol) ∧ (∀ o, w.frozen? ⟨S, o, none⟩ = false) :=
  ⟨h.cell 0, h.cell 1026, h.cell 1027, h.cell 1028, h.cell 1029, h.cell 1030, h.cell 1031, h.cell 1032, h.cell 1036, h.cell 1037, h.cell 1038, h.cell 1039, h.cell 1040, h.cell 1041, h.cell 1042, h.cell 1043, h.cell 1045, h.cell 1046, h.cell 1047, h.fz⟩

theorem ScAt.setPos (h : ScAt w S s) (n : Nat) {v : Int} (hv : v = n) : ScAt (w.setCell ⟨S, 1026, none⟩ (.int .i64 v)) S { s with pos := n } := by
  subst hv
  exact h.set 1026 _ _ (fun o ho => by simp only [Sc.cell, if_neg ho]) rfl (by simp [Sc.cell])
theorem ScAt.setFin (h : ScAt w S s) (n : Nat) {v : Int} (hv : v = n) : ScAt (w.setCell ⟨S, 1027, none⟩ (.int .i64 v)) S { s with fin := n } := by
  subst hv
  exact h.set 1027 _ _ (fun o ho => by simp only [Sc.cell, if_neg ho]) rfl (by simp [Sc.cell])
theorem ScAt.setOff (h : ScAt w S s) (v : Int) : ScAt (w.setCell ⟨S, 1028, none⟩ (.int .i64 v)) S { s with off := v } :=
  h.set 1028 _ _ (fun o ho => by simp only [Sc.cell, if_neg ho]) rfl (by simp [Sc.cell])
theorem ScAt.setLine (h : ScAt w S s) (v : Int) : ScAt (w.setCell ⟨S, 1029, none⟩ (.int .i64 v)) S { s with line := v } :=
  h.set 1029 _ _ (fun o ho => by simp only [Sc.cell, if_neg ho]) rfl (by simp [Sc.cell])
theorem ScAt.setCol (h : ScAt w S s) (v : Int) : ScAt (w.setCell ⟨S, 1030, none⟩ (.int .i64 v)) S { s with col := v } :=
  h.set 1030 _ _ (fun o ho => by simp only [Sc.cell, if_neg ho]) rfl (by simp [Sc.cell])
theorem ScAt.setLastLine (h : ScAt w S s) (v : Int) : ScAt (w.setCell ⟨S, 1031, none⟩ (.int .i64 v)) S { s with lastLine := v } :=
  h.set 1031 _ _ (fun o ho => by simp only [Sc.cell, if_neg ho]) rfl (by simp [Sc.cell])
theorem ScAt.setLastLen (h : ScAt w S s) (n : Nat) {v : Int} (hv : v = n) : ScAt (w.setCell ⟨S, 1032, none⟩ (.int .i64 v)) S { s with lastLen := n } := by
  subst hv
  exact h.set 1032 _ _ (fun o ho => by simp only [Sc.cell, if_neg ho]) rfl (by simp [Sc.cell])
theorem ScAt.setTokPos (h : ScAt w S s) (v : Int) : ScAt (w.setCell ⟨S, 1036, none⟩ (.int .i64 v)) S { s with tokPos := v } :=
  h.set 1036 _ _ (fun o ho => by simp only [Sc.cell, if_neg ho]) rfl (by simp [Sc.cell])
theorem ScAt.setTokEnd (h : ScAt w S s) (v : Int) : ScAt (w.setCell ⟨S, 1037, none⟩ (.int .i64 v)) S { s with tokEnd := v } :=
  h.set 1037 _ _ (fun o ho => by simp only [Sc.cell, if_neg ho]) rfl (by simp [Sc.cell])
theorem ScAt.setCh (h : ScAt w S s) (v : Int) : ScAt (w.setCell ⟨S, 1038, none⟩ (.int .i32 v)) S { s with ch := v } :=
  h.set 1038 _ _ (fun o ho => by simp only [Sc.cell, if_neg ho]) rfl (by simp [Sc.cell])
theorem ScAt.setErrs (h : ScAt w S s) (v : Int) : ScAt (w.setCell ⟨S, 1040, none⟩ (.int .i64 v)) S { s with errs := v } :=
  h.set 1040 _ _ (fun o ho => by simp only [Sc.cell, if_neg ho]) rfl (by simp [Sc.cell])
theorem ScAt.setPOff (h : ScAt w S s) (v : Int) : ScAt (w.setCell ⟨S, 1045, none⟩ (.int .i64 v)) S { s with pOff := v } :=
  h.set 1045 _ _ (fun o ho => by simp only [Sc.cell, if_neg ho]) rfl (by simp [Sc.cell])
theorem ScAt.setPLine (h : ScAt w S s) (v : Int) : ScAt (w.setCell ⟨S, 1046, none⟩ (.int .i64 v)) S { s with pLine := v } :=
  h.set 1046 _ _ (fun o ho => by simp only [Sc.cell, if_neg ho]) rfl (by simp [Sc.cell])
theorem ScAt.setPCol (h : ScAt w S s) (v : Int) : ScAt (w.setCell ⟨S, 1047, none⟩ (.int .i64 v)) S { s with pCol := v } :=
  h.set 1047 _ _ (fun o ho => by simp only [Sc.cell, if_neg ho]) rfl (by simp [Sc.cell])
theorem ScAt.setTb (h : ScAt w S s) (v : Value) : ScAt (w.setCell ⟨S, 1033, none⟩ v) S { s with tb := v } :=
  h.set 1033 _ _ (fun o ho => by simp only [Sc.cell, if_neg ho]) rfl (by simp [Sc.cell])
theorem ScAt.setTbOff (h : ScAt w S s) (v : Int) : ScAt (w.setCell ⟨S, 1034, none⟩ (.int .i64 v)) S { s with tbOff := v } :=
  h.set 1034 _ _ (fun o ho => by simp only [Sc.cell, if_neg ho]) rfl (by simp [Sc.cell])
theorem ScAt.setTbLast (h : ScAt w S s) (v : Int) : ScAt (w.setCell ⟨S, 1035, none⟩ (.int .i8 v)) S { s with tbLast := v } :=
  h.set 1035 _ _ (fun o ho => by simp only [Sc.cell, if_neg ho]) rfl (by simp [Sc.cell])
/-- One byte of the buffer is written. -/
theorem ScAt.setByte (h : ScAt w S s) (i : Nat) (hi : i < 1025) (b : UInt8) {v : Int} (hv : v = (b.toNat : Int)) :
    ScAt (w.setCell ⟨S, 1 + i, none⟩ (.int .u8 v)) S { s with buf := fun j => if j = i then b else s.buf j } := by
  subst hv
  refine h.set (1 + i) _ _ (fun o ho => ?_) ?_ ?_
  · by_cases h0 : o = 0
    · simp only [Sc.cell, if_pos h0]
    · by_cases h1 : o < 1026
      · simp only [Sc.cell, if_neg h0, if_pos h1]
        rw [if_neg (by omega)]
      · simp only [Sc.cell, if_neg h0, if_neg h1]
  · unfold Sc.cell
    rw [if_neg (by omega), if_pos (by omega), Nat.add_sub_cancel_left]
    simp
  · unfold Sc.cell
    rw [if_neg (by omega), if_pos (by omega)]
    simp

/-- Bytes laid into the buffer from place i on, as 'copy' lays them. -/
def putBytes (f : Nat → UInt8) (i : Nat) (l : List UInt8) : Nat → UInt8 := fun j => if i ≤ j ∧ j < i + l.length then l.getD (j - i) 0 else f j

theorem ScAt.setRow (h : ScAt w S s) (i : Nat) (l : List UInt8) (hi : i + l.length ≤ 1025) (cs : Array Value) (hcs : w.heap[S]? = some (.cells cs 71 (0, 0))) :
    ScAt (w.setRow S (cs.toList.take (1 + i) ++ Lib.byteCells l ++ cs.toList.drop (1 + i + l.length)).toArray) S { s with buf := putBytes s.buf i l } := by
  obtain ⟨cs', hb, hr⟩ := h
  rw [hcs] at hb
  obtain rfl : cs = cs' := by injection hb with hb; injection hb
  have hsz : 1048 ≤ cs.size := by
    rcases Nat.lt_or_ge 1047 cs.size with h' | h'
    · exact h'
    · have := hr 1047
      rw [Array.getElem?_eq_none h'] at this
      simp [Sc.cell] at this
  refine ⟨_, setRow_heap w S cs _ _ (0, 0) hcs, fun o => ?_⟩
  have hl : (cs.toList.take (1 + i)).length = 1 + i := by rw [List.length_take, Array.length_toList]; omega
  have hbl : (Lib.byteCells l).length = l.length := by simp [Lib.byteCells]
  rw [List.getElem?_toArray]
  by_cases h1 : o < 1 + i
  · rw [List.getElem?_append_left (by rw [List.length_append, hl]; omega), List.getElem?_append_left (by omega), List.getElem?_take, if_pos h1]
    have := hr o
    rw [← Array.getElem?_toList] at this
    rw [this]
    unfold Sc.cell
    by_cases h0 : o = 0
    · rw [if_pos h0, if_pos h0]
    · have h26 : o < 1026 := by omega
      have hn : ¬ (i ≤ o - 1 ∧ o - 1 < i + l.length) := by omega
      rw [if_neg h0, if_pos h26, if_neg h0, if_pos h26]
      simp only [putBytes, if_neg hn]
  · by_cases h2 : o < 1 + i + l.length
    · rw [List.getElem?_append_left (by rw [List.length_append, hl, hbl]; omega), List.getElem?_append_right (by omega), hl]
      have h0 : o ≠ 0 := by omega
      have h26 : o < 1026 := by omega
      have hy : i ≤ o - 1 ∧ o - 1 < i + l.length := by omega
      unfold Sc.cell
      rw [if_neg h0, if_pos h26]
      simp only [putBytes, if_pos hy]
      have e1 : o - (1 + i) = o - 1 - i := by omega
      rw [e1]
      have hlt : o - 1 - i < l.length := by omega
      simp [Lib.byteCells, List.getElem?_eq_getElem hlt]
    · rw [List.getElem?_append_right (by rw [List.length_append, hl, hbl]; omega), List.length_append, hl, hbl, List.getElem?_drop]
      have e1 : 1 + i + l.length + (o - (1 + i + l.length)) = o := by omega
      rw [e1, Array.getElem?_toList, hr o]
      unfold Sc.cell
      have h0 : o ≠ 0 := by omega
      rw [if_neg h0, if_neg h0]
      by_cases h26 : o < 1026
      · rw [if_pos h26, if_pos h26]
        have hn : ¬ (i ≤ o - 1 ∧ o - 1 < i + l.length) := by omega
        simp only [putBytes, if_neg hn]
      · rw [if_neg h26, if_neg h26]
end

/-- THE FRAME: below block B nothing has turned; nor has any other block that is neither S nor R nor a row of bytes. -/
def Fr (B S R : Nat) (w w' : World) : Prop := Below B w w' ∧ ∀ k o, w.heap[k]? = some o → k ≠ S → k ≠ R → (∀ c fz, o ≠ .cells c 5 fz) → w'.heap[k]? = some o

section
variable {B S R : Nat} {a w w' : World}
theorem Fr.refl (B S R : Nat) (w : World) : Fr B S R w w := ⟨Below.refl _ _, fun _ _ h _ _ _ => h⟩
theorem Fr.trans {c : World} (h : Fr B S R a w) (k : Fr B S R w c) : Fr B S R a c := ⟨h.1.trans k.1, fun i o hi h1 h2 ho => k.2 i o (h.2 i o hi h1 h2 ho) h1 h2 ho⟩
theorem Fr.drewN (h : Fr B S R a w) (n : Nat) : Fr B S R a (w.drewN n) := ⟨below_drewN h.1 n, h.2⟩
theorem Fr.drew (h : Fr B S R a w) : Fr B S R a w.drew := ⟨h.1.drew, h.2⟩
theorem Fr.alloc (h : Fr B S R a w) (hB : B ≤ w.heap.size) (o : Obj) : Fr B S R a (w.alloc o) := by
  refine ⟨h.1.alloc hB o, fun k x hk h1 h2 hx => ?_⟩
  have h3 := h.2 k x hk h1 h2 hx
  rw [Below.heap_alloc _ _ _ (Lib.lt_of_heap h3)]
  exact h3
theorem Fr.set (h : Fr B S R a w) (hB : B ≤ S) (o : Nat) (v : Value) : Fr B S R a (w.setCell ⟨S, o, none⟩ v) := by
  refine ⟨h.1.setCell (p := ⟨S, o, none⟩) hB v, fun k x hk h1 h2 hx => ?_⟩
  rw [Below.heap_setCell _ _ _ _ h1]
  exact h.2 k x hk h1 h2 hx
theorem Fr.setR (h : Fr B S R a w) (hB : B ≤ R) (o : Nat) (v : Value) : Fr B S R a (w.setCell ⟨R, o, none⟩ v) := by
  refine ⟨h.1.setCell (p := ⟨R, o, none⟩) hB v, fun k x hk h1 h2 hx => ?_⟩
  rw [Below.heap_setCell _ _ _ _ h2]
  exact h.2 k x hk h1 h2 hx
theorem Fr.below (h : Fr B S R a w) (hb : Below w.heap.size w w') (hB : B ≤ w.heap.size) : Fr B S R a w' := by
  refine ⟨h.1.trans (hb.mono hB), fun k x hk h1 h2 hx => ?_⟩
  have h3 := h.2 k x hk h1 h2 hx
  rw [hb.block k (Lib.lt_of_heap h3)]
  exact h3
theorem Fr.setRow (h : Fr B S R a w) (hB : B ≤ S) (arr : Array Value) : Fr B S R a (w.setRow S arr) := by
  refine ⟨h.1.trans ⟨rfl, rfl, rfl, by simp, fun k hk => setRow_other _ _ _ _ (by omega)⟩, fun k x hk h1 h2 hx => ?_⟩
  rw [setRow_other _ _ _ _ h1]
  exact h.2 k x hk h1 h2 hx
/-- Behind a contract of the shelf's that tells 'Below' and 'OthersKept'. -/
theorem Fr.others (h : Fr B S R a w) (hb : Below B w w') (hk : Lib.OthersKept 5 (some S) w w') : Fr B S R a w' :=
  ⟨h.1.trans hb, fun k x hx h1 h2 ho => hk k x (h.2 k x hx h1 h2 ho) (fun e => h1 (Option.some.inj e)) ho⟩
theorem Fr.keep {k : Nat} {o : Obj} (h : Fr B S R w w') (hk : w.heap[k]? = some o) (h1 : k ≠ S) (h2 : k ≠ R) (ho : ∀ c fz, o ≠ .cells c 5 fz) : w'.heap[k]? = some o := h.2 k o hk h1 h2 ho
end
end Go.Proofs.YtmeihdlkadjoeaaGreatDoor

namespace Go.Proofs.YtmeihdlkadjoeaaGreatDoor
open Go.RowKit
set_option linter.unusedVariables false

/-- The cells of package utf8's two tables that are read here. -/
structure U8Tab (w : World) : Prop where
  asc : ∀ i : Nat, i < 128 → w.cell? ⟨4, i, none⟩ = some (.int .u8 240)
  c2 : w.cell? ⟨4, 194, none⟩ = some (.int .u8 2)
  e2 : w.cell? ⟨4, 226, none⟩ = some (.int .u8 3)
  lo : w.cell? ⟨5, 0, none⟩ = some (.int .u8 128)
  hi : w.cell? ⟨5, 1, none⟩ = some (.int .u8 191)

theorem fullRune_nil (a : Option Addr) (cap : Nat) (w : World) :
    Calls Tryz.prog 67 #[.slice a 0 cap] w fun e w' => e = .returned (.bool false) ∧ Below w.heap.size w w' := by
  go_enter Tryz.func67, Tryz.ntmps67
  go_wp2_with fail
  go_ret
  exact ⟨rfl, Below.refl _ _⟩

theorem fullRune_asc (S o n cap : Nat) (c : Int) (w : World) (hS : S < w.heap.size) (hw : U8Tab w) (hn : 0 < n) (hn2 : n ≤ 2000)
   (h0 : w.cell? ⟨S, o, none⟩ = some (.int .u8 c)) (hc : 0 ≤ c) (hc2 : c < 128) :
    Calls Tryz.prog 67 #[.slice (some ⟨S, o, none⟩) n cap] w fun e w' => e = .returned (.bool true) ∧ Below w.heap.size w w' := by
  obtain ⟨i, rfl⟩ := Int.eq_ofNat_of_zero_le hc
  have hx := hw.asc i (by omega)
  clear hw
  have hz : ((n : Int) == 0) = false := by simp; omega
  go_enter Tryz.func67, Tryz.ntmps67
  go_wp2_with fail
  go_ret
  exact ⟨rfl, Below.refl _ _⟩

/-- Two bytes, the first one C2, and perhaps more. -/
theorem fullRune_c2 (S o n cap : Nat) (w : World) (hS : S < w.heap.size) (hw : U8Tab w) (hn : 2 ≤ n) (hn2 : n ≤ 2000)
   (h0 : w.cell? ⟨S, o, none⟩ = some (.int .u8 194)) :
    Calls Tryz.prog 67 #[.slice (some ⟨S, o, none⟩) n cap] w fun e w' => e = .returned (.bool true) ∧ Below w.heap.size w w' := by
  have hx := hw.c2
  clear hw
  have hz : ((n : Int) == 0) = false := by simp; omega
  go_enter Tryz.func67, Tryz.ntmps67
  go_wp2_with fail
  go_ret
  exact ⟨rfl, Below.refl _ _⟩

theorem fullRune_e2 (S o n cap : Nat) (w : World) (hS : S < w.heap.size) (hw : U8Tab w) (hn : 3 ≤ n) (hn2 : n ≤ 2000)
   (h0 : w.cell? ⟨S, o, none⟩ = some (.int .u8 226)) :
    Calls Tryz.prog 67 #[.slice (some ⟨S, o, none⟩) n cap] w fun e w' => e = .returned (.bool true) ∧ Below w.heap.size w w' := by
  have hx := hw.e2
  clear hw
  have hz : ((n : Int) == 0) = false := by simp; omega
  go_enter Tryz.func67, Tryz.ntmps67
  go_wp2_with fail
  go_ret
  exact ⟨rfl, Below.refl _ _⟩

theorem fullRune_c2_one (S o cap : Nat) (w : World) (hS : S < w.heap.size) (hw : U8Tab w)
   (h0 : w.cell? ⟨S, o, none⟩ = some (.int .u8 194)) :
    Calls Tryz.prog 67 #[.slice (some ⟨S, o, none⟩) 1 cap] w fun e w' => e = .returned (.bool false) ∧ Below w.heap.size w w' := by
  have hx := hw.c2
  have ha := hw.lo
  have hb := hw.hi
  clear hw
  go_enter Tryz.func67, Tryz.ntmps67
  go_wp2_with fail
  go_quiet (fail)
  go_wp2_with fail
  go_ret
  exact ⟨rfl, below_drewN ((Below.refl _ _).alloc (Nat.le_refl _) _) _⟩

theorem fullRune_e2_one (S o cap : Nat) (w : World) (hS : S < w.heap.size) (hw : U8Tab w)
   (h0 : w.cell? ⟨S, o, none⟩ = some (.int .u8 226)) :
    Calls Tryz.prog 67 #[.slice (some ⟨S, o, none⟩) 1 cap] w fun e w' => e = .returned (.bool false) ∧ Below w.heap.size w w' := by
  have hx := hw.e2
  have ha := hw.lo
  have hb := hw.hi
  clear hw
  go_enter Tryz.func67, Tryz.ntmps67
  go_wp2_with fail
  go_quiet (fail)
  go_wp2_with fail
  go_ret
  exact ⟨rfl, below_drewN ((Below.refl _ _).alloc (Nat.le_refl _) _) _⟩

theorem fullRune_e2_two (S o cap : Nat) (w : World) (hS : S < w.heap.size) (hw : U8Tab w)
   (h0 : w.cell? ⟨S, o, none⟩ = some (.int .u8 226)) (h1 : w.cell? ⟨S, o + 1, none⟩ = some (.int .u8 136)) :
    Calls Tryz.prog 67 #[.slice (some ⟨S, o, none⟩) 2 cap] w fun e w' => e = .returned (.bool false) ∧ Below w.heap.size w w' := by
  have hx := hw.e2
  have ha := hw.lo
  have hb := hw.hi
  clear hw
  go_enter Tryz.func67, Tryz.ntmps67
  go_wp2_with fail
  go_quiet (fail)
  go_wp2_with fail
  go_ret
  exact ⟨rfl, below_drewN ((Below.refl _ _).alloc (Nat.le_refl _) _) _⟩

/-- DecodeRune of the two characters' bytes. -/
theorem decodeSlow_dot (S o n cap : Nat) (w : World) (hS : S < w.heap.size) (hw : U8Tab w) (hn : 2 ≤ n) (hn2 : n ≤ 2000)
   (h0 : w.cell? ⟨S, o, none⟩ = some (.int .u8 194)) (h1 : w.cell? ⟨S, o + 1, none⟩ = some (.int .u8 183)) :
    Calls Tryz.prog 84 #[.slice (some ⟨S, o, none⟩) n cap] w fun e w' => e = .returned (.tuple #[.int .i32 183, .int .i64 2]) ∧ Below w.heap.size w w' := by
  have hx := hw.c2
  have ha := hw.lo
  have hb := hw.hi
  clear hw
  go_enter Tryz.func84, Tryz.ntmps84
  go_wp2_with fail
  go_ret2
  exact ⟨rfl, (Below.refl _ _).alloc (Nat.le_refl _) _⟩

theorem decodeSlow_slash (S o n cap : Nat) (w : World) (hS : S < w.heap.size) (hw : U8Tab w) (hn : 3 ≤ n) (hn2 : n ≤ 2000)
   (h0 : w.cell? ⟨S, o, none⟩ = some (.int .u8 226)) (h1 : w.cell? ⟨S, o + 1, none⟩ = some (.int .u8 136)) (h2 : w.cell? ⟨S, o + 2, none⟩ = some (.int .u8 149)) :
    Calls Tryz.prog 84 #[.slice (some ⟨S, o, none⟩) n cap] w fun e w' => e = .returned (.tuple #[.int .i32 8725, .int .i64 3]) ∧ Below w.heap.size w w' := by
  have hx := hw.e2
  have ha := hw.lo
  have hb := hw.hi
  clear hw
  go_enter Tryz.func84, Tryz.ntmps84
  go_wp2_with fail
  go_ret2
  exact ⟨rfl, (Below.refl _ _).alloc (Nat.le_refl _) _⟩

set_option maxRecDepth 10000 in
theorem decode_dot (S o n cap : Nat) (w : World) (hS : S < w.heap.size) (hw : U8Tab w) (hn : 2 ≤ n) (hn2 : n ≤ 2000)
   (h0 : w.cell? ⟨S, o, none⟩ = some (.int .u8 194)) (h1 : w.cell? ⟨S, o + 1, none⟩ = some (.int .u8 183)) :
    Calls Tryz.prog 69 #[.slice (some ⟨S, o, none⟩) n cap] w fun e w' => e = .returned (.tuple #[.int .i32 183, .int .i64 2]) ∧ Below w.heap.size w w' := by
  go_enter Tryz.func69, Tryz.ntmps69
  go_wp2_with fail
  refine wp_loop_rounds 1 ?_
  rw [rounds_succ]
  go_wp2_with fail
  refine (decodeSlow_dot S o n cap _ hS hw hn hn2 h0 h1).mono ?_
  rintro e w' ⟨rfl, hb⟩
  go_wp2_with fail
  go_ret2
  exact ⟨rfl, hb⟩

set_option maxRecDepth 10000 in
theorem decode_slash (S o n cap : Nat) (w : World) (hS : S < w.heap.size) (hw : U8Tab w) (hn : 3 ≤ n) (hn2 : n ≤ 2000)
   (h0 : w.cell? ⟨S, o, none⟩ = some (.int .u8 226)) (h1 : w.cell? ⟨S, o + 1, none⟩ = some (.int .u8 136)) (h2 : w.cell? ⟨S, o + 2, none⟩ = some (.int .u8 149)) :
    Calls Tryz.prog 69 #[.slice (some ⟨S, o, none⟩) n cap] w fun e w' => e = .returned (.tuple #[.int .i32 8725, .int .i64 3]) ∧ Below w.heap.size w w' := by
  go_enter Tryz.func69, Tryz.ntmps69
  go_wp2_with fail
  refine wp_loop_rounds 1 ?_
  rw [rounds_succ]
  go_wp2_with fail
  refine (decodeSlow_slash S o n cap _ hS hw hn hn2 h0 h1 h2).mono ?_
  rintro e w' ⟨rfl, hb⟩
  go_wp2_with fail
  go_ret2
  exact ⟨rfl, hb⟩
end Go.Proofs.YtmeihdlkadjoeaaGreatDoor

namespace Go.Proofs.YtmeihdlkadjoeaaGreatDoor
open Go.RowKit
set_option linter.unusedVariables false
set_option linter.unusedSimpArgs false

/-- 'copy(dst, s)', s a string, dst from place o on in block g: as many bytes as fit. -/
theorem run_copy_string {P : Program} (w : World) (dT sT ty elem : TypeId) (g o dLen dCap : Nat) (s : ByteArray) (cur : Array Value) (t : TypeId)
    (hu : P.underlying dT = some (.slice elem)) (hs : (P.info? elem).map (·.size) = some 1) (hg : w.heap[g]? = some (.cells cur t (0, 0))) (hfit : o + (s.data.toList.take dLen).length ≤ cur.size) :
    (Builtin.copy_ #[dT, sT] ty #[.slice (some ⟨g, o, none⟩) dLen dCap, .string s]).run P w =
      .ok (goInt (s.data.toList.take dLen).length) (w.setRow g (cur.toList.take o ++ Lib.byteCells (s.data.toList.take dLen) ++ cur.toList.drop (o + (s.data.toList.take dLen).length)).toArray) := by
  have hlen : (Lib.byteCells (s.data.toList.take dLen)).length = (s.data.toList.take dLen).length := by simp [Lib.byteCells]
  have hst := run_storeCells_at P g o t (Lib.byteCells (s.data.toList.take dLen)) 0 cur w hg (by rw [hlen]; simpa using hfit) (Lib.byteCells_one _)
  have hsz : s.data.toList.length = s.size := Array.length_toList
  have hmin : Nat.min s.size dLen = min dLen s.size := Nat.min_comm _ _
  have hl2 : (s.data.toList.take dLen).length = Nat.min s.size dLen := by
    rw [List.length_take, hsz, hmin]
  have htk : List.take (Nat.min s.size dLen) (List.map (fun b : UInt8 => Value.int IntKind.u8 (b.toNat : Int)) s.data.toList) = Lib.byteCells (s.data.toList.take dLen) := by
    rw [← List.map_take]
    unfold Lib.byteCells
    congr 1
    rcases Nat.le_total s.size dLen with h | h
    · have e : Nat.min s.size dLen = s.size := Nat.min_eq_left h
      rw [e, List.take_of_length_le (by rw [hsz]; exact Nat.le_refl _), List.take_of_length_le (by rw [hsz]; exact h)]
    · have e : Nat.min s.size dLen = dLen := Nat.min_eq_right h
      rw [e]
  rw [hlen] at hst
  simp only [Nat.add_zero] at hst
  cases hq : P.info? elem with
  | none => simp [hq] at hs
  | some i =>
    simp [Builtin.copy_, run_underlying hu, Builtin.lenOf, Builtin.firstCells, sizeOf, typeInfo, hq]
    rw [htk, hst]
    simp only [Result.andThen, Result.ok.injEq]
    rw [← hl2]
    simp

/-- A region that draws its order: reads and quiet operations first, then a tail in the text's order. -/
theorem wp_region_tail {P : Program} {id : Nat} {Q : Exit → Act → World → Prop} {a : Act} {w : World} {l : List Oper} (n : Nat) (hm : P.follows .mixedOrders = true) (hB : Region.lexTailB .any l.toArray n = true)
    (h : wpStill P l.toArray w.drew (fun a' => wpList P l.toArray Q (l.drop n) a' w.drew) (l.take n) a) : (Code.region id l.toArray true).wp P Q a w := wp_region_still_tail n hm hB h

theorem cell_setRow_other (w : World) (arr : Array Value) {R S : Nat} (h : R ≠ S) (j : Nat) : (w.setRow S arr).cell? ⟨R, j, none⟩ = w.cell? ⟨R, j, none⟩ :=
  World.cell?_of_block (w := w) (a := ⟨R, j, none⟩) (setRow_other w S R arr h)
theorem frozen_setRow_other (w : World) (arr : Array Value) {R S : Nat} (h : R ≠ S) (j : Nat) : (w.setRow S arr).frozen? ⟨R, j, none⟩ = w.frozen? ⟨R, j, none⟩ :=
  World.frozen?_of_block (w := w) (a := ⟨R, j, none⟩) (setRow_other w S R arr h)

theorem info_u8 : (Tryz.prog.info? 5).map (·.size) = some 1 := by kernel_rfl

/-- What a reader (the interface value src, its state in block R) still holds. -/
inductive RdAt (w : World) (R : Nat) : Value → List UInt8 → Prop where
  | str (t : ByteArray) (i : Nat) (pr : Int) (hb : w.heap[R]? = some (.cells #[.string t, .int .i64 i, .int .i64 pr] 79 (0, 0))) (hi : i ≤ t.size) (ht : t.size ≤ 1000000) : RdAt w R (.iface 51 (.pointer (some ⟨R, 0, none⟩))) (t.data.toList.drop i)

theorem RdAt.block {w w' : World} {R : Nat} {v : Value} {bs : List UInt8} (h : RdAt w R v bs) (e : w'.heap[R]? = w.heap[R]?) : RdAt w' R v bs := by
  cases h with
  | str t i pr hb hi ht => exact .str t i pr (e.trans hb) hi ht
theorem RdAt.drewN {w : World} {R : Nat} {v : Value} {bs : List UInt8} (h : RdAt w R v bs) (n : Nat) : RdAt (w.drewN n) R v bs := h.block rfl
theorem RdAt.ne_row {w : World} {R g : Nat} {v : Value} {bs : List UInt8} {cur : Array Value} (h : RdAt w R v bs) (hg : w.heap[g]? = some (.cells cur 5 (0, 0))) : g ≠ R := by
  rintro rfl
  cases h with
  | str t i pr hb hi ht => rw [hb] at hg; cases hg
theorem RdAt.lt {w : World} {R : Nat} {v : Value} {bs : List UInt8} (h : RdAt w R v bs) : R < w.heap.size := by
  cases h with
  | str t i pr hb hi ht => exact Lib.lt_of_heap hb

set_option maxRecDepth 10000 in
theorem strRead_end (S R o n c : Nat) (t : ByteArray) (i : Nat) (pr : Int) (ev : Value) (w : World) (hb : w.heap[R]? = some (.cells #[.string t, .int .i64 i, .int .i64 pr] 79 (0, 0))) (hi : t.size ≤ i) (ht : i ≤ 1000000)
    (he : w.cell? ⟨3, 0, none⟩ = some ev) (hev : ∃ T v, ev = .iface T v) :
    Calls Tryz.prog 120 #[.pointer (some ⟨R, 0, none⟩), .slice (some ⟨S, o, none⟩) n c] w fun e w' => e = .returned (.tuple #[.int .i64 0, ev]) ∧ ∃ n, w' = w.drewN n := by
  obtain ⟨T, v, rfl⟩ := hev
  have c0 : w.cell? ⟨R, 0, none⟩ = some (.string t) := by rw [Lib.cell_of_heap hb]; rfl
  have c1 : w.cell? ⟨R, 1, none⟩ = some (.int .i64 i) := by rw [Lib.cell_of_heap hb]; rfl
  go_enter Tryz.func120, Tryz.ntmps120
  go_wp2_with fail
  go_quiet (fail)
  go_wp2_with fail
  go_quiet (fail)
  go_wp2_with fail
  go_ret2
  exact ⟨rfl, _, World.drewN_drewN _ _ _⟩

set_option maxRecDepth 10000 in
theorem strRead_more (S R o n c : Nat) (t : ByteArray) (i : Nat) (pr : Int) (cs : Array Value) (L : List UInt8) (HL : Hid (L = (t.data.toList.drop i).take n)) (hLl : L.length ≤ 1024) (w : World) (hRS : R ≠ S) (hb : w.heap[R]? = some (.cells #[.string t, .int .i64 i, .int .i64 pr] 79 (0, 0))) (hi : i < t.size) (ht : t.size ≤ 1000000)
    (hS : w.heap[S]? = some (.cells cs 71 (0, 0))) (hn : n ≤ 1024) (hfit : o + n ≤ cs.size) :
    Calls Tryz.prog 120 #[.pointer (some ⟨R, 0, none⟩), .slice (some ⟨S, o, none⟩) n c] w fun e w' => e = .returned (.tuple #[.int .i64 L.length, .nilIface]) ∧ ∃ n2 : Nat,
      w' = (((w.setCell ⟨R, 2, none⟩ (.int .i64 (-1))).setRow S (cs.toList.take o ++ Lib.byteCells L ++ cs.toList.drop (o + L.length)).toArray).setCell ⟨R, 1, none⟩ (.int .i64 (i + L.length))).drewN n2 := by
  have c0 : w.cell? ⟨R, 0, none⟩ = some (.string t) := by rw [Lib.cell_of_heap hb]; rfl
  have c1 : w.cell? ⟨R, 1, none⟩ = some (.int .i64 i) := by rw [Lib.cell_of_heap hb]; rfl
  have c2 : w.cell? ⟨R, 2, none⟩ = some (.int .i64 pr) := by rw [Lib.cell_of_heap hb]; rfl
  have fz : ∀ j, w.frozen? ⟨R, j, none⟩ = false := Lib.frozen_of_heap hb
  go_enter Tryz.func120, Tryz.ntmps120
  go_wp2_with fail
  go_quiet (fail)
  go_wp2_with fail
  obtain ⟨w1, hw1⟩ : ∃ w1, w1 = (w.drewN nq).setCell ⟨R, 2, none⟩ (.int .i64 (-1)) := ⟨_, rfl⟩
  have d0 : w1.cell? ⟨R, 0, none⟩ = some (.string t) := by rw [hw1]; go_simp
  have d1 : w1.cell? ⟨R, 1, none⟩ = some (.int .i64 i) := by rw [hw1]; go_simp
  have fz1 : ∀ j, w1.frozen? ⟨R, j, none⟩ = false := by intro j; rw [hw1]; go_simp
  rw [← hw1]
  have HW := Lib.hid hw1
  clear hw1 c0 c1 c2 fz
  refine wp_region_tail 10 (by kernel_rfl) (by kernel_rfl) ?_
  simp only [List.take_succ_cons, List.take_zero, List.drop_succ_cons, List.drop_zero]
  have hi2 : i ≤ t.size := by omega
  repeat still_step
  refine wpStill_nil ?_
  have eX : (t.extract i t.size).data.toList = t.data.toList.drop i := Lib.extract_to_end t i
  have hS1 : w1.heap[S]? = some (.cells cs 71 (0, 0)) := by rw [HW.out, Below.heap_setCell _ _ _ _ (Ne.symm hRS)]; exact hS
  have hcp := run_copy_string (P := Tryz.prog) w1.drew 55 9 3 5 S o n c (t.extract i t.size) cs 71 Tryz.underlying55 info_u8 hS1 (by rw [List.length_take]; omega)
  rw [eX] at hcp
  rw [← HL.out] at hcp
  obtain ⟨w2, hw2⟩ : ∃ w2, w2 = w1.drew.setRow S (cs.toList.take o ++ Lib.byteCells L ++ cs.toList.drop (o + L.length)).toArray := ⟨_, rfl⟩
  rw [← hw2] at hcp
  have d1' : w2.cell? ⟨R, 1, none⟩ = some (.int .i64 i) := by
    rw [hw2]; exact (cell_setRow_other _ _ hRS 1).trans d1
  have fz2 : ∀ j, w2.frozen? ⟨R, j, none⟩ = false := by
    intro j
    rw [hw2]; exact (frozen_setRow_other _ _ hRS j).trans (fz1 j)
  have HW2 := Lib.hid hw2
  clear hb eX hw2 hS1 hS d0 d1 fz1
  go_wp2_with fail
  go_ret2
  refine ⟨rfl, nq + 1, ?_⟩
  rw [HW2.out, HW.out]
  rfl



theorem method_str (k : Nat) (a : Addr) (W : World) : (method (k + 1) 51 (.pointer (some a)) "Read").run Tryz.prog W = .ok (120, .pointer (some a)) W := by kernel_rfl

theorem enters_own {f : FuncId} {fn : Func} {c : Code} (hf : Tryz.prog.funcs[f]? = some fn) (hname : (fn.name == "runtime.NumGoroutine") = false) (hb : fn.body = some c) (args : Array Value) (w : World) : (callFunc f args).run Tryz.prog w = .ok (.enter f args) w := by
  have h1 : fn.name ≠ "runtime.NumGoroutine" := by simpa using hname
  simp [callFunc, hf, h1, hb, mark]

/-- What is known of one Read. -/
structure RdOk (T : TypeId) (f : FuncId) (R : Nat) : Prop where
  meth : ∀ (k : Nat) (a : Addr) (W : World), (method (k + 1) T (.pointer (some a)) "Read").run Tryz.prog W = .ok (f, .pointer (some a)) W
  enters : ∀ args W, (callFunc f args).run Tryz.prog W = .ok (.enter f args) W
  fin : ∀ (S o n c : Nat) (W : World) (ev : Value), RdAt W R (.iface T (.pointer (some ⟨R, 0, none⟩))) [] → W.cell? ⟨3, 0, none⟩ = some ev → (∃ T' v, ev = .iface T' v) →
    Calls Tryz.prog f #[.pointer (some ⟨R, 0, none⟩), .slice (some ⟨S, o, none⟩) n c] W fun e w' => e = .returned (.tuple #[.int .i64 0, ev]) ∧ ∃ n, w' = W.drewN n
  more : ∀ (B S i n c : Nat) (s : Sc) (rb : List UInt8) (W : World), RdAt W R (.iface T (.pointer (some ⟨R, 0, none⟩))) rb → rb ≠ [] → ScAt W S s → R ≠ S → B ≤ S → B ≤ R → 1 ≤ n → i + n ≤ 1024 →
    Calls Tryz.prog f #[.pointer (some ⟨R, 0, none⟩), .slice (some ⟨S, 1 + i, none⟩) n c] W fun e w' => ∃ l rb', rb = l ++ rb' ∧ 1 ≤ l.length ∧ l.length ≤ n ∧ e = .returned (.tuple #[.int .i64 l.length, .nilIface]) ∧
      RdAt w' R (.iface T (.pointer (some ⟨R, 0, none⟩))) rb' ∧ ScAt w' S { s with buf := putBytes s.buf i l } ∧ Fr B S R W w' ∧ ∀ k, k ≠ S → k ≠ R → w'.heap[k]? = W.heap[k]?

theorem sc_size {w : World} {S : Nat} {s : Sc} {cs : Array Value} (hcr : ∀ o, cs[o]? = s.cell o) : 1048 ≤ cs.size := by
  rcases Nat.lt_or_ge 1047 cs.size with h' | h'
  · exact h'
  · have := hcr 1047
    rw [Array.getElem?_eq_none h'] at this
    simp [Sc.cell] at this

theorem heap_set2 {w : World} {R : Nat} {a b c : Value} {T : TypeId} (h : w.heap[R]? = some (.cells #[a, b, c] T (0, 0))) (v : Value) : (w.setCell ⟨R, 2, none⟩ v).heap[R]? = some (.cells #[a, b, v] T (0, 0)) := by
  rw [Lib.heap_setCell_same (i := 2) h v]; rfl
theorem heap_set1 {w : World} {R : Nat} {a b c : Value} {T : TypeId} (h : w.heap[R]? = some (.cells #[a, b, c] T (0, 0))) (v : Value) : (w.setCell ⟨R, 1, none⟩ v).heap[R]? = some (.cells #[a, v, c] T (0, 0)) := by
  rw [Lib.heap_setCell_same (i := 1) h v]; rfl

theorem rdOk_str (R : Nat) : RdOk 51 120 R where
  meth := method_str
  enters := enters_own Tryz.func120 (by kernel_rfl) rfl
  fin := by
    intro S o n c W ev h he hev
    generalize hb : ([] : List UInt8) = bs at h
    cases h with
    | str t i pr hb' hi ht =>
      have hz : t.size ≤ i := by
        have h1 := congrArg List.length hb
        have h2 : t.data.toList.length = t.size := Array.length_toList
        rw [List.length_drop, h2, List.length_nil] at h1
        omega
      exact strRead_end S R o n c t i pr ev W hb' hz (by omega) he hev
  more := by
    intro B S i n c s rb W h hne hsc hRS hB hBR hn hin
    cases h with
    | str t j pr hb' hj ht =>
      have h2 : t.data.toList.length = t.size := Array.length_toList
      have hlt : j < t.size := by
        rcases Nat.lt_or_ge j t.size with h' | h'
        · exact h'
        · exact absurd (List.drop_eq_nil_of_le (by rw [h2]; exact h')) hne
      obtain ⟨cs, hcs, hcr⟩ := id hsc
      have hsz := sc_size (w := W) (S := S) hcr
      obtain ⟨L, hL⟩ : ∃ L, L = (t.data.toList.drop j).take n := ⟨_, rfl⟩
      have hLl : L.length = min n (t.size - j) := by rw [hL, List.length_take, List.length_drop, h2]
      refine (strRead_more S R (1 + i) n c t j pr cs L hL (by omega) W hRS hb' hlt ht hcs (by omega) (by omega)).mono ?_
      rintro e w' ⟨rfl, n2, rfl⟩
      refine ⟨L, t.data.toList.drop (j + L.length), ?_, by omega, by omega, rfl, ?_, ?_, ?_, ?_⟩
      · rw [← List.drop_drop, hL]
        conv => lhs; rw [← List.take_append_drop n (t.data.toList.drop j)]
        congr 1
        rcases Nat.le_total n (t.size - j) with h' | h'
        · rw [List.length_take, List.length_drop, h2, Nat.min_eq_left h']
        · rw [List.length_take, List.length_drop, h2, Nat.min_eq_right h', List.drop_eq_nil_of_le (by rw [List.length_drop, h2]; exact h'), List.drop_eq_nil_of_le (by rw [List.length_drop, h2]; exact Nat.le_refl _)]
      · have e1 := heap_set2 hb' (.int .i64 (-1))
        have e2 := (setRow_other (W.setCell ⟨R, 2, none⟩ (.int .i64 (-1))) S R (cs.toList.take (1 + i) ++ Lib.byteCells L ++ cs.toList.drop (1 + i + L.length)).toArray hRS).trans e1
        have e3 := heap_set1 e2 (.int .i64 (j + L.length))
        exact .str t (j + L.length) (-1) (by rw [show ((j + L.length : Nat) : Int) = (j : Int) + L.length by omega]; exact e3) (by omega) ht
      · have e0 : (W.setCell ⟨R, 2, none⟩ (.int .i64 (-1))).heap[S]? = W.heap[S]? := Below.heap_setCell _ _ _ _ (Ne.symm hRS)
        have e1 := (hsc.of_heap e0).setRow i L (by omega) cs (e0.trans hcs)
        exact e1.of_heap (Below.heap_setCell _ ⟨R, 1, none⟩ _ _ (Ne.symm hRS))
      · exact ((((Fr.refl B S R W).setR hBR 2 _).setRow hB _).setR hBR 1 _).drewN _
      · intro k h1 h3
        refine (Below.heap_setCell _ ⟨R, 1, none⟩ _ k h3).trans ((setRow_other _ _ _ _ h1).trans (Below.heap_setCell _ ⟨R, 2, none⟩ _ k h3))


theorem rd_ok {w : World} {R : Nat} {v : Value} {bs : List UInt8} (h : RdAt w R v bs) : ∃ T f, v = .iface T (.pointer (some ⟨R, 0, none⟩)) ∧ RdOk T f R := by
  cases h with
  | str t i pr hb hi ht => exact ⟨_, _, rfl, rdOk_str R⟩

end Go.Proofs.YtmeihdlkadjoeaaGreatDoor
