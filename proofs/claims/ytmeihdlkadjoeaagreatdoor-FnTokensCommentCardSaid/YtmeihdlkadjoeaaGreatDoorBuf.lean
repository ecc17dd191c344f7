/- The scanner's tokBuf, a bytes.Buffer in the scanner's own block: Write of bytes of that block, Reset, Len, String. -/
import Derived.Test.YtmeihdlkadjoeaaGreatDoorMA
import Derived.Test.YtmeihdlkadjoeaaGreatDoorShelf
import Derived.Lib.ByteType
import Derived.Lib.BufferOwn
import Derived.Lib.Walk
import Derived.Lib.BufferWrite
import Derived.Laws.IdiomCopy
import Derived.Lib.Hide
import Derived.BigCall
import Derived.BigGuard
import Derived.Outline
namespace Go.Proofs.YtmeihdlkadjoeaaGreatDoor
open Go.RowKit
set_option linter.unusedVariables false

/-- The buffer within the scanner holds bs. -/
def TbIs (B S : Nat) (w : World) (s : Sc) (bs : List UInt8) : Prop := s.tbOff = 0 ∧ w.ownsRow B 5 1 s.tb bs.length (Lib.byteCells bs) ∧ s.tb.ownBlock ≠ some S

theorem isBuffer_of {B S : Nat} {w : World} {s : Sc} {bs : List UInt8} (hB : B ≤ S) (h : ScAt w S s) (ht : TbIs B S w s bs) : LibA.IsBuffer 71 s.cell 5 B S 1033 (Lib.byteCells bs) w := by
  obtain ⟨h0, hown, hne⟩ := ht
  obtain ⟨cs, hb, hr⟩ := h
  refine ⟨hB, s.tb, s.tbLast, ⟨cs, hb, hr 1033, ?_, hr 1035, fun i _ => hr i⟩, ?_, hne⟩
  · rw [hr 1034, ← h0]; rfl
  · have : (Lib.byteCells bs).length = bs.length := by simp [Lib.byteCells]
    rw [this]; exact hown

theorem of_isBuffer {B S : Nat} {w : World} {s : Sc} {bs : List UInt8} (h : LibA.IsBuffer 71 s.cell 5 B S 1033 (Lib.byteCells bs) w) :
    ∃ v lr, ScAt w S { s with tb := v, tbOff := 0, tbLast := lr } ∧ TbIs B S w { s with tb := v, tbOff := 0, tbLast := lr } bs := by
  obtain ⟨hB, v, lr, ⟨cs, hb, h0, h1, h2, hr⟩, hown, hne⟩ := h
  refine ⟨v, lr, ⟨cs, hb, fun o => ?_⟩, rfl, ?_, hne⟩
  · by_cases e0 : o = 1033
    · subst e0; exact h0
    · by_cases e1 : o = 1034
      · subst e1; exact h1
      · by_cases e2 : o = 1035
        · subst e2; exact h2
        · rw [hr o (by omega)]
          simp only [Sc.cell, if_neg e0, if_neg e1, if_neg e2]
  · have : (Lib.byteCells bs).length = bs.length := by simp [Lib.byteCells]
    rw [this] at hown; exact hown

theorem byteCells_app (a b : List UInt8) : Lib.byteCells (a ++ b) = Lib.byteCells a ++ Lib.byteCells b := by simp [Lib.byteCells]

set_option maxHeartbeats 6400000 in
set_option maxRecDepth 100000 in
theorem buf_write0 (R : Nat → Option Value) (T : TypeId) (B S : Nat) (bs cs : List Value) (i n c : Nat) (w : World) (h : LibA.IsBuffer T R 5 B S 1033 bs w) (hBw : B ≤ w.heap.size) (h1 : ∀ v ∈ bs, v.oneCell' = true)
    (hn : cs.length = n) (hi : i + n ≤ 1026) (hsrc : ∀ j v, cs[j]? = some v → R (i + j) = some v) (h1c : ∀ v ∈ cs, v.oneCell' = true) (hlim : bs.length + n ≤ 140737488355328) :
    Calls Tryz.prog 61 #[.pointer (some ⟨S, 1033, none⟩), .slice (some ⟨S, i, none⟩) n c] w fun e w' => e = .returned (.tuple #[.int .i64 n, .nilIface]) ∧ LibA.IsBuffer T R 5 B S 1033 (bs ++ cs) w' ∧ Below B w w' ∧ Lib.OthersKept 5 (some S) w w' := by
  obtain ⟨hB, v0, lr, hbk, -, -⟩ := id h
  have c2 : w.cell? ⟨S, 1033 + 2, none⟩ = some (.int .i8 lr) := hbk.c2
  have f2 : w.frozen? ⟨S, 1033 + 2, none⟩ = false := hbk.f (1033 + 2)
  have h' := h.setLast 0
  have hbel0 : Below B w (w.setCell ⟨S, 1033 + 2, none⟩ (.int .i8 0)) := (Below.refl B w).setCell (p := ⟨S, 1033 + 2, none⟩) hB _
  have hk0 : Lib.OthersKept 5 (some S) w (w.setCell ⟨S, 1033 + 2, none⟩ (.int .i8 0)) := (Lib.OthersKept.refl _ _ w).setCell ⟨S, 1033 + 2, none⟩ rfl _
  have hBw' : B ≤ (w.setCell ⟨S, 1033 + 2, none⟩ (.int .i8 0)).heap.size := by simpa [World.setCell] using hBw
  clear hbk v0
  have hinfo := info_u8
  by_cases hs0 : n = 0
  · subst hs0
    have hc0 : cs = [] := List.eq_nil_of_length_eq_zero hn
    subst hc0
    have hce : ∀ d dLen dCap W, (Builtin.copy_ #[55, 55] 3 #[.slice d dLen dCap, .slice (some ⟨S, i, none⟩) 0 c]).run Tryz.prog W = .ok (goInt 0) W := fun d dLen dCap W => run_copy_none W 55 55 3 5 d (some ⟨S, i, none⟩) dLen dCap 0 c Tryz.underlying55 hinfo (by simp)
    go_enter Tryz.func61, Tryz.ntmps61
    go_wp2_with (go_at_call 76; refine (Tryz.Buffer_tryGrow_at T R B S 1033 0 bs _ ?_).mono ?_)
    · exact h'
    rintro e W1 (⟨rfl, xs, hxl, hI, hbel, hk, hg⟩ | ⟨rfl, rfl, hnr⟩)
    · clear h' c2 f2
      have hx0 : xs = [] := List.eq_nil_of_length_eq_zero hxl
      subst hx0
      rw [List.append_nil] at hI
      obtain ⟨-, lr2, hc⟩ := hI.cases
      rcases hc with ⟨hb0, hbk2⟩ | ⟨g, cap, cur, hbk2, -, -, hnc, hcm, -, -, -⟩
      · subst hb0
        have d0 : W1.cell? ⟨S, 1033, none⟩ = some (.slice none 0 0) := hbk2.c0
        go_wp2
        all_goals (go_ret2; first | exact ⟨rfl, hI, hbel0.trans hbel, hk0.trans hk⟩ | exact ⟨by simp, by simpa using hI, hbel0.trans hbel, hk0.trans hk⟩)
      · have d0 : W1.cell? ⟨S, 1033, none⟩ = some (.slice (some ⟨g, 0, none⟩) bs.length cap) := hbk2.c0
        unfold maxLen at hcm
        go_wp2
        all_goals (go_ret2; first | exact ⟨rfl, hI, hbel0.trans hbel, hk0.trans hk⟩ | exact ⟨by simp, by simpa using hI, hbel0.trans hbel, hk0.trans hk⟩)
    · obtain ⟨_, _, _, _, hlt⟩ := hnr
      omega
  · go_enter Tryz.func61, Tryz.ntmps61
    go_wp2_with (go_at_call 76; refine (Tryz.Buffer_tryGrow_at T R B S 1033 n bs _ ?_).mono ?_)
    · exact h'
    rintro e W1 (⟨rfl, xs, hxl, hI, hbel, hk, hg⟩ | ⟨rfl, rfl, hnr⟩)
    · -- THERE WAS ROOM
      have hbelW := hbel0.trans hbel
      have hkW := hk0.trans hk
      clear h' hbel hbel0 hBw' c2 f2
      have hsrc1 : ∀ j v, cs[j]? = some v → W1.cell? ((⟨S, i, none⟩ : Addr).add j) = some v := fun j v hj => by
        have hj2 : j < cs.length := (List.getElem?_eq_some_iff.1 hj).1
        rw [Lib.addr_add, hI.rest (i + j) (by omega)]
        exact hsrc j v hj
      obtain ⟨-, lr2, hc⟩ := hI.cases
      rcases hc with ⟨hnil, -⟩ | ⟨g, cap, cur, hbk2, hBg, hg, hnc, hcm, hcs, htk, hgb⟩
      · exact absurd (congrArg List.length hnil) (by rw [List.length_append, hxl, List.length_nil]; omega)
      · rw [List.length_append, hxl] at hbk2 hnc htk
        have d0 : W1.cell? ⟨S, 1033, none⟩ = some (.slice (some ⟨g, 0, none⟩) (bs.length + n) cap) := hbk2.c0
        have hne : ¬ cap = bs.length := by omega
        have hcp := run_copy_row (P := Tryz.prog) W1 55 55 3 5 g bs.length n (cap - bs.length) ⟨S, i, none⟩ n c cur 5 cs Tryz.underlying55 hinfo hg (by rw [hn]; exact (Nat.min_self n).symm) hsrc1 (by rw [hn]; omega) h1c
        rw [hn] at hcp
        have hcm' := hcm
        unfold maxLen at hcm'
        clear hsrc hsrc1
        go_wp2
        go_ret2
        obtain ⟨r1, r2⟩ := LibA.written_end (news := cs) (l := bs.length) hB (by rw [hn]; exact hbk2) hBg hg hcm hcs hgb (by rw [hn]; exact hnc)
        have e1 : cur.toList.take bs.length = bs := by
          have h3 := congrArg (List.take bs.length) htk
          rwa [List.take_take, Nat.min_eq_left (Nat.le_add_right _ _), List.take_left' rfl] at h3
        rw [e1, hn] at r1 r2
        refine ⟨rfl, ?_, ?_, hkW.setRow hg _⟩ <;> rw [e1, ← List.append_assoc]
        · exact r1
        · exact hbelW.trans r2
    · -- THERE WAS NONE: grow
      go_wp2_with (go_at_call 77; refine (Tryz.Buffer_grow_at T R B S 1033 n bs _ ?_ ?_ ?_ h1 hlim).mono ?_)
      · exact h'
      · exact hnr
      · exact hBw'
      rintro e W1 ⟨rfl, xs, hxl, hI, hbel, hk, hg⟩
      have hbelW := hbel0.trans hbel
      have hkW := hk0.trans hk
      clear h' hbel hbel0 hBw' c2 f2 hnr
      have hsrc1 : ∀ j v, cs[j]? = some v → W1.cell? ((⟨S, i, none⟩ : Addr).add j) = some v := fun j v hj => by
        have hj2 : j < cs.length := (List.getElem?_eq_some_iff.1 hj).1
        rw [Lib.addr_add, hI.rest (i + j) (by omega)]
        exact hsrc j v hj
      obtain ⟨-, lr2, hc⟩ := hI.cases
      rcases hc with ⟨hnil, -⟩ | ⟨g, cap, cur, hbk2, hBg, hg, hnc, hcm, hcs, htk, hgb⟩
      · exact absurd (congrArg List.length hnil) (by rw [List.length_append, hxl, List.length_nil]; omega)
      · rw [List.length_append, hxl] at hbk2 hnc htk
        have d0 : W1.cell? ⟨S, 1033, none⟩ = some (.slice (some ⟨g, 0, none⟩) (bs.length + n) cap) := hbk2.c0
        have hne : ¬ cap = bs.length := by omega
        have hcp := run_copy_row (P := Tryz.prog) W1 55 55 3 5 g bs.length n (cap - bs.length) ⟨S, i, none⟩ n c cur 5 cs Tryz.underlying55 hinfo hg (by rw [hn]; exact (Nat.min_self n).symm) hsrc1 (by rw [hn]; omega) h1c
        rw [hn] at hcp
        have hcm' := hcm
        unfold maxLen at hcm'
        clear hsrc hsrc1
        go_wp2
        go_ret2
        obtain ⟨r1, r2⟩ := LibA.written_end (news := cs) (l := bs.length) hB (by rw [hn]; exact hbk2) hBg hg hcm hcs hgb (by rw [hn]; exact hnc)
        have e1 : cur.toList.take bs.length = bs := by
          have h3 := congrArg (List.take bs.length) htk
          rwa [List.take_take, Nat.min_eq_left (Nat.le_add_right _ _), List.take_left' rfl] at h3
        rw [e1, hn] at r1 r2
        refine ⟨rfl, ?_, ?_, hkW.setRow hg _⟩ <;> rw [e1, ← List.append_assoc]
        · exact r1
        · exact hbelW.trans r2

/-- Write, told of the scanner. -/
theorem buf_write (B S : Nat) (s : Sc) (bs cs : List UInt8) (i c : Nat) (w : World) (hB : B ≤ S) (h : ScAt w S s) (ht : TbIs B S w s bs) (hBw : B ≤ w.heap.size)
    (hi : i + cs.length ≤ 1025) (hsrc : ∀ j (hj : j < cs.length), s.buf (i + j) = cs[j]) (hlim : bs.length + cs.length ≤ 140737488355328) :
    Calls Tryz.prog 61 #[.pointer (some ⟨S, 1033, none⟩), .slice (some ⟨S, 1 + i, none⟩) cs.length c] w fun e w' => e = .returned (.tuple #[.int .i64 cs.length, .nilIface]) ∧
      ∃ v lr, ScAt w' S { s with tb := v, tbOff := 0, tbLast := lr } ∧ TbIs B S w' { s with tb := v, tbOff := 0, tbLast := lr } (bs ++ cs) ∧ Below B w w' ∧ Lib.OthersKept 5 (some S) w w' := by
  have hlen : ∀ l : List UInt8, (Lib.byteCells l).length = l.length := fun l => by simp [Lib.byteCells]
  refine (buf_write0 s.cell 71 B S (Lib.byteCells bs) (Lib.byteCells cs) (1 + i) cs.length c w (isBuffer_of hB h ht) hBw (Lib.byteCells_one bs) (hlen cs) (by omega) ?_ (Lib.byteCells_one cs) (by rw [hlen]; exact hlim)).mono ?_
  · intro j v hj
    have hj2 : j < cs.length := by have := (List.getElem?_eq_some_iff.1 hj).1; rw [hlen] at this; exact this
    unfold Sc.cell
    rw [if_neg (by omega), if_pos (by omega)]
    have e1 : 1 + i + j - 1 = i + j := by omega
    rw [e1, hsrc j hj2]
    simpa [Lib.byteCells, List.getElem?_eq_getElem hj2] using hj
  · rintro e w' ⟨rfl, hI, hb, hk⟩
    rw [← byteCells_app] at hI
    obtain ⟨v, lr, h1, h2⟩ := of_isBuffer hI
    exact ⟨rfl, v, lr, h1, h2, hb, hk⟩

theorem TbIs.cases {B S : Nat} {w : World} {s : Sc} {bs : List UInt8} (h : TbIs B S w s bs) :
    (s.tb = .slice none 0 0 ∧ bs = []) ∨ ∃ g cap cur, s.tb = .slice (some ⟨g, 0, none⟩) bs.length cap ∧ B ≤ g ∧ w.heap[g]? = some (.cells cur 5 (0, 0)) ∧ bs.length ≤ cap ∧ cap ≤ maxLen ∧ cur.size = cap ∧ cur.toList.take bs.length = Lib.byteCells bs ∧ g ≠ S := by
  obtain ⟨h0, hown, hne⟩ := h
  rcases hown.2 with ⟨hv, hn⟩ | ⟨g, cap, cur, hv, hBg, hg, hnc, hcm, hcs, htk⟩
  · exact .inl ⟨hv, List.eq_nil_of_length_eq_zero hn⟩
  · exact .inr ⟨g, cap, cur, hv, hBg, hg, hnc, hcm, by simpa using hcs, by simpa using htk, fun e => hne (by rw [hv]; simp [Value.ownBlock, e])⟩

theorem TbIs.mk' {B S g cap : Nat} {w : World} {s : Sc} {bs : List UInt8} {cur : Array Value} (h0 : s.tbOff = 0) (hv : s.tb = .slice (some ⟨g, 0, none⟩) bs.length cap) (hBg : B ≤ g) (hg : w.heap[g]? = some (.cells cur 5 (0, 0)))
    (hnc : bs.length ≤ cap) (hcm : cap ≤ maxLen) (hcs : cur.size = cap) (htk : cur.toList.take bs.length = Lib.byteCells bs) (hgS : g ≠ S) : TbIs B S w s bs :=
  ⟨h0, ⟨by simp [Lib.byteCells], .inr ⟨g, cap, cur, hv, hBg, hg, hnc, hcm, by simpa using hcs, by simpa using htk⟩⟩, by rw [hv]; simpa [Value.ownBlock] using hgS⟩

/-- The buffer's word goes over to any world in which its row and the scanner's fields stand. -/
theorem TbIs.carry {B S : Nat} {w w' : World} {s s' : Sc} {bs : List UInt8} (h : TbIs B S w s bs) (hk : ∀ g cur, g ≠ S → w.heap[g]? = some (.cells cur 5 (0, 0)) → w'.heap[g]? = some (.cells cur 5 (0, 0))) (e1 : s'.tb = s.tb) (e2 : s'.tbOff = s.tbOff) : TbIs B S w' s' bs := by
  rcases h.cases with ⟨hv, rfl⟩ | ⟨g, cap, cur, hv, hBg, hg, hnc, hcm, hcs, htk, hgS⟩
  · exact ⟨e2.trans h.1, by rw [e1, hv]; exact World.ownsRow_nil _ _ _ _, by rw [e1, hv]; simp [Value.ownBlock]⟩
  · exact TbIs.mk' (e2.trans h.1) (e1.trans hv) hBg (hk g cur hgS hg) hnc hcm hcs htk hgS

/-- What Reset leaves. -/
theorem reset_close (B S : Nat) (s : Sc) (w : World) (v : Value) (hB : B ≤ S) (h : ScAt w S s) (hown : w.ownsRow B 5 1 v 0 []) (hne : v.ownBlock ≠ some S) :
    ∃ v' lr, ScAt (((w.setCell ⟨S, 1033, none⟩ v).setCell ⟨S, 1034, none⟩ (.int .i64 0)).setCell ⟨S, 1035, none⟩ (.int .i8 0)) S { s with tb := v', tbOff := 0, tbLast := lr } ∧
      TbIs B S (((w.setCell ⟨S, 1033, none⟩ v).setCell ⟨S, 1034, none⟩ (.int .i64 0)).setCell ⟨S, 1035, none⟩ (.int .i8 0)) { s with tb := v', tbOff := 0, tbLast := lr } [] ∧
      Below B w (((w.setCell ⟨S, 1033, none⟩ v).setCell ⟨S, 1034, none⟩ (.int .i64 0)).setCell ⟨S, 1035, none⟩ (.int .i8 0)) ∧
      Lib.OthersKept 5 (some S) w (((w.setCell ⟨S, 1033, none⟩ v).setCell ⟨S, 1034, none⟩ (.int .i64 0)).setCell ⟨S, 1035, none⟩ (.int .i8 0)) := by
  refine ⟨v, 0, ((h.setTb v).setTbOff 0).setTbLast 0, ?_, ((((Below.refl B w).setCell (p := ⟨S, 1033, none⟩) hB _).setCell (p := ⟨S, 1034, none⟩) hB _).setCell (p := ⟨S, 1035, none⟩) hB _),
    ((((Lib.OthersKept.refl _ _ w).setCell ⟨S, 1033, none⟩ rfl _).setCell ⟨S, 1034, none⟩ rfl _).setCell ⟨S, 1035, none⟩ rfl _)⟩
  have h0 : TbIs B S w { s with tb := v, tbOff := 0 } [] := ⟨rfl, hown, hne⟩
  refine h0.carry (fun g cur hg hh => ?_) rfl rfl
  rw [Below.heap_setCell _ _ _ _ hg, Below.heap_setCell _ _ _ _ hg, Below.heap_setCell _ _ _ _ hg]
  exact hh

set_option maxRecDepth 10000 in
theorem buf_reset (B S : Nat) (s : Sc) (bs : List UInt8) (w : World) (hB : B ≤ S) (h : ScAt w S s) (ht : TbIs B S w s bs) :
    Calls Tryz.prog 51 #[.pointer (some ⟨S, 1033, none⟩)] w fun e w' => e = .returned (.tuple #[]) ∧
      ∃ v lr, ScAt w' S { s with tb := v, tbOff := 0, tbLast := lr } ∧ TbIs B S w' { s with tb := v, tbOff := 0, tbLast := lr } [] ∧ Below B w w' ∧ Lib.OthersKept 5 (some S) w w' := by
  have c0 : w.cell? ⟨S, 1033, none⟩ = some s.tb := h.cell 1033
  have c1 : w.cell? ⟨S, 1034, none⟩ = some (.int .i64 s.tbOff) := h.cell 1034
  have c2 : w.cell? ⟨S, 1035, none⟩ = some (.int .i8 s.tbLast) := h.cell 1035
  have fz := h.fz
  rcases ht.cases with ⟨hv, rfl⟩ | ⟨g, cap, cur, hv, hBg, hg, hnc, hcm, hcs, htk, hgS⟩
  · rw [hv] at c0
    clear ht hv
    go_enter Tryz.func51, Tryz.ntmps51
    go_wp2_with fail
    go_end0
    exact ⟨rfl, reset_close B S s w _ hB h (World.ownsRow_nil _ _ _ _) (by simp [Value.ownBlock])⟩
  · rw [hv] at c0
    have hcm2 := hcm
    unfold maxLen at hcm
    clear ht hv
    go_enter Tryz.func51, Tryz.ntmps51
    go_wp2_with fail
    go_end0
    exact ⟨rfl, reset_close B S s w _ hB h ⟨rfl, .inr ⟨g, cap, cur, rfl, hBg, hg, Nat.zero_le _, hcm2, by simpa using hcs, by simp⟩⟩ (by simpa [Value.ownBlock] using hgS)⟩

theorem buf_len (B S : Nat) (s : Sc) (bs : List UInt8) (w : World) (hB : B ≤ S) (h : ScAt w S s) (ht : TbIs B S w s bs) :
    Calls Tryz.prog 60 #[.pointer (some ⟨S, 1033, none⟩)] w fun e w' => e = .returned (.int .i64 bs.length) ∧ ∃ n, w' = w.drewN n := by
  have hlen : (Lib.byteCells bs).length = bs.length := by simp [Lib.byteCells]
  have := Tryz.Buffer_Len_at 71 s.cell B S 1033 (Lib.byteCells bs) w (isBuffer_of hB h ht)
  rw [hlen] at this
  exact this

theorem buf_string (B S : Nat) (s : Sc) (bs : List UInt8) (w : World) (hB : B ≤ S) (h : ScAt w S s) (ht : TbIs B S w s bs) :
    Calls Tryz.prog 62 #[.pointer (some ⟨S, 1033, none⟩)] w fun e w' => e = .returned (.string ⟨bs.toArray⟩) ∧ ∃ n, w' = w.drewN n :=
  Tryz.Buffer_String_at 71 s.cell B S 1033 bs w (isBuffer_of hB h ht)

end Go.Proofs.YtmeihdlkadjoeaaGreatDoor
