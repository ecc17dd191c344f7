/- One row of the call's own appended to another one; a token that is the end of a line. -/
import Derived.Test.YtmeihdlkadjoeaaGreatDoorSam
import Derived.Laws.AppendOwnNone
namespace Go.Proofs.YtmeihdlkadjoeaaGreatDoor
open Go.RowKit Go.Proofs.YtmeihdlkadjoeaaGreatDoorW.PrintWords
set_option linter.unusedVariables false
set_option linter.unusedSimpArgs false

theorem one_flat (ts : List (Int × List Nat × Nat)) : ∀ u ∈ ts.flatMap cellsI, u.oneCell' = true := by
  intro u hu
  obtain ⟨x, _, hx⟩ := List.mem_flatMap.1 hu
  simp only [cellsI, List.mem_cons, List.not_mem_nil, or_false] at hx
  rcases hx with rfl | rfl <;> rfl

theorem append_two {w : World} {ops : Array Oper} {rest : List Oper} {o : Oper} {a : Act} {Q : Exit → Act → World → Prop} (hgd : o.guard = none) (s x : Operand)
    (ho : o.op = .call { callee := .builtin .append, args := #[s, x], argTypes := #[26, 26] })
    {base B2 : Nat} {A1 A2 : Option Addr} {n c1 m c2 : Nat} {xs ys : List Value} (hs : a.eval s = .slice A1 n c1) (h1 : w.ownsRow base 35 2 (.slice A1 n c1) n xs)
    (hx : a.eval x = .slice A2 m c2) (h2 : w.ownsRow B2 35 2 (.slice A2 m c2) m ys) (hone : ∀ u ∈ ys, u.oneCell' = true) (hn : n ≤ 1000) (hm : m ≤ 1000) (hbase : base ≤ w.heap.size)
    (h : ∀ v' w', w'.ownsRow base 35 2 v' (n + m) (xs ++ ys) → w.grownBy w' (Value.slice A1 n c1).ownBlock → wpList Tryz.prog ops Q rest (a.put o.dst v') w') : wpList Tryz.prog ops Q (o :: rest) a w := by
  obtain ⟨i0, hi0, hz0, hz1, hz2⟩ := info_parts info_itok
  obtain ⟨A, c, e, hA⟩ := own_slice h2
  cases e
  cases A2 with
  | none =>
    have hm0 : m = 0 := by
      cases m with
      | zero => rfl
      | succ m => obtain ⟨g, hg⟩ := hA (by omega); cases hg
    subst hm0
    have hys : ys = [] := List.eq_nil_of_length_eq_zero (by have := h2.1; simpa using this)
    subst hys
    have hc2 : c2 = 0 := by
      rcases h2.2 with ⟨e, _⟩ | ⟨g, cap, cur, e, _⟩
      · cases e; rfl
      · cases e
    subst hc2
    refine wpList_append_own_none hgd s x _ ho base _ i0 2 Tryz.underlying26 hi0 _ n xs hs h1 hx ?_
    exact h _ _ (by rw [List.append_nil]; exact h1) ⟨rfl, rfl, rfl, Nat.le_refl _, fun _ _ _ => rfl⟩
  | some ad =>
    have hcell : ∀ j u, ys[j]? = some u → w.cell? (ad.add j) = some u := by
      rcases h2.2 with ⟨e, _⟩ | ⟨g, cap, cur, e, _⟩
      · cases e
      · cases e
        exact fun j u hu => h2.cells (g := g) rfl j u hu
    exact wpList_append_own w hgd s x _ ho base _ i0 _ 2 24 Tryz.underlying26 hi0 hz0 hz1 hz2 rfl (by omega) _ n xs hs h1 ad m c2 ys hx h2.1 hcell hone (by unfold maxLen; omega) (by omega) hbase (fun v' w' p1 p2 _ => h v' w' p1 p2)

/-- The end of a line, as a word. -/
theorem nl_word : WordT ([10], 10) where
  word := .mark 10 (by decide)
  ok := by simp [okR]
  asc := .inr (by simp)
  len := by decide
  kind := by
    show Ev (fun n => PFnTokensBlock.spec_KindOf.f n (str (enc [10]))) 10
    have e : enc [10] = [10] := rfl
    rw [e]
    refine Ev.congr (f := fun n => PFnTokensBlock.spec_KindOf.j0 n (str [10]) true) (fun n => by unfold PFnTokensBlock.spec_KindOf.f; rw [str_toList, if_neg (by decide), if_neg (by decide), if_neg (by decide), if_neg (by decide), if_pos rfl]) ?_
    refine Ev.step (f := fun _ => some 10) (fun n => ?_) (Ev.now _)
    simp only [PFnTokensBlock.spec_KindOf.j0]
    rw [if_pos trivial, if_pos (by rw [str_size]; simp), bt_str0, w64 (by decide) (by decide)]
    rfl
theorem nl_call (w : World) : Calls Tryz.prog 17 #[.string ⟨#[10]⟩] w fun e w' => e = .returned (.agg #[.int .i64 10, .string ⟨#[10]⟩]) ∧ Below w.heap.size w w' :=
  tokenOf_ok ([10], 10) nl_word w

theorem linesC_len {cs : List Nat} (h : (enc cs).length ≤ 60) (n : Nat) : (enc (linesC cs n)).length ≤ 61 * n := by
  induction n with
  | zero => simp [linesC, enc_nil]
  | succ n ih =>
    have e : enc [10] = [10] := rfl
    rw [linesC, enc_append, enc_append, List.length_append, List.length_append, e, List.length_singleton]
    omega
theorem lines_step (X cs : List Nat) (j : Nat) : str (enc (X ++ 47 :: 42 :: linesC cs j)) ++ (str (enc cs) ++ (⟨#[10]⟩ : ByteArray)) = str (enc (X ++ 47 :: 42 :: linesC cs (j + 1))) := by
  show str _ ++ (str _ ++ str [10]) = _
  rw [str_append, str_append]
  congr 1
  have e : enc [10] = [10] := rfl
  simp only [linesC, enc_append, enc_cons, e, List.append_assoc]
theorem open_step (X : List Nat) (cs : List Nat) : str (enc X) ++ (⟨#[47, 42]⟩ : ByteArray) = str (enc (X ++ 47 :: 42 :: linesC cs 0)) := by
  show str _ ++ str [47, 42] = _
  rw [str_append]
  congr 1
  rw [enc_append]
  rfl
theorem close_step (X Y : List Nat) : str (enc X) ++ ((⟨#[42, 47]⟩ : ByteArray) ++ str (enc Y)) = str (enc (X ++ 42 :: 47 :: Y)) := by
  show str _ ++ (str [42, 47] ++ str _) = _
  rw [str_append, str_append]
  congr 1
  rw [enc_append, enc_cons, enc_cons]
  rfl
theorem line_step (X cs Y : List Nat) : str (enc X) ++ (⟨#[47, 47]⟩ : ByteArray) ++ str (enc cs) ++ (⟨#[10]⟩ : ByteArray) ++ str (enc Y) = str (enc (X ++ 47 :: 47 :: (cs ++ 10 :: Y))) := by
  show str _ ++ str [47, 47] ++ str _ ++ str [10] ++ str _ = _
  simp only [str_append]
  congr 1
  have e : enc (X ++ 47 :: 47 :: (cs ++ 10 :: Y)) = enc X ++ ([47, 47] ++ (enc cs ++ ([10] ++ enc Y))) := by
    rw [enc_append, enc_cons, enc_cons, enc_append, enc_cons]
    rfl
  rw [e]
  simp
end Go.Proofs.YtmeihdlkadjoeaaGreatDoor
