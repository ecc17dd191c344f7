/- WHAT THE ROWS' LISTS GIVE: the tables and the sentinel that the scanner reads. -/
import Derived.Test.YtmeihdlkadjoeaaGreatDoorRows
import Derived.Test.YtmeihdlkadjoeaaGreatDoorMF
import Derived.Test.YtmeihdlkadjoeaaGreatDoorShelf
import Derived.PinnedBridge
import Derived.Lib.LaidU8
import Derived.Lib.LaidRTab
import Derived.MakeChecks
import Derived.LaidLaws
import Derived.Lay
namespace Go.Proofs.YtmeihdlkadjoeaaGreatDoor
open Go.RowKit Go.Lib
set_option linter.unusedVariables false
set_option linter.unusedSimpArgs false
set_option maxRecDepth 100000

/-- The rows' list. -/
def laidL : List (String × DataW Unit) := [("unicode/utf8.acceptRanges", Rows.laid_unicode_utf8_acceptRanges), ("io.EOF", Rows.laid_io_EOF), ("unicode.White_Space", Rows.laid_unicode_White_Space), ("unicode.properties", Rows.laid_unicode_properties), ("bytes.ErrTooLarge", Rows.laid_bytes_ErrTooLarge), ("strings.asciiSpace", Rows.laid_strings_asciiSpace), ("unicode.Digit", Rows.laid_unicode_Digit), ("unicode.Letter", Rows.laid_unicode_Letter), ("unicode/utf8.first", Rows.laid_unicode_utf8_first)]

theorem acc_eq : (Rows.laid_unicode_utf8_acceptRanges : DataW Unit) = acceptData := by kernel_rfl
theorem props_eq : (Rows.laid_unicode_properties : DataW Unit) = tabData .u8 propertiesTab := by kernel_rfl
theorem x260 : U8Extra Tryz.prog Tryz.lays260_ren := ⟨by kernel_rfl, by kernel_rfl, by kernel_rfl, by kernel_rfl, by kernel_rfl, by kernel_rfl, by kernel_rfl⟩
theorem x261 : RExtra Tryz.prog Tryz.lays261_ren := ⟨by kernel_rfl, by kernel_rfl, by kernel_rfl, by kernel_rfl, by kernel_rfl, by kernel_rfl, by kernel_rfl, by kernel_rfl⟩

theorem u8_of_laid {W : World} (h : laidMet Tryz.prog laidL W) : U8Tab W := by
  have h3 : VarReads Tryz.prog W "unicode/utf8.first" firstData := Pinned.utf8First_eq ▸ Lib.laidMet.reads h (by unfold laidL; simp [Rows.laid_unicode_utf8_first])
  have h4 : VarReads Tryz.prog W "unicode/utf8.acceptRanges" acceptData := acc_eq ▸ Lib.laidMet.reads h (.head _)
  have hT := utf8Tabs_of_reads Tryz.lays260 x260 h3 h4
  have g3 : Tryz.lays260_ren.g 3 = 4 := rfl
  have g4 : Tryz.lays260_ren.g 4 = 5 := rfl
  rw [g3, g4] at hT
  have f1 : ∀ i, i < 128 → firstT i = 240 := by decide +kernel
  refine ⟨fun i hi => ?_, ?_, ?_, ?_, ?_⟩
  · have := hT.1 i (by omega)
    rw [f1 i hi] at this
    exact this
  · exact hT.1 194 (by decide)
  · exact hT.1 226 (by decide)
  · exact (hT.2 0 (by decide)).1
  · exact (hT.2 0 (by decide)).2

theorem letter_of_laid {W : World} (h : laidMet Tryz.prog laidL W) : RVar 1 letterT W := by
  have h1 : VarReads Tryz.prog W "unicode.Letter" (rtabData letterT) := by
    have h2 := Lib.laidMet.reads h (n := "unicode.Letter") (d := Rows.laid_unicode_Letter) (by simp [laidL])
    rw [show Rows.laid_unicode_Letter = rtabData letterT from Pinned.letter_eq] at h2
    exact h2
  exact rvar_of_reads Tryz.lays261 x261 (by kernel_rfl) (by kernel_rfl) h1

theorem props_of_laid {W : World} (h : laidMet Tryz.prog laidL W) : TabIs Tryz.prog W "unicode.properties" .u8 propertiesTab := by
  have h4 : VarReads Tryz.prog W "unicode.properties" (tabData .u8 propertiesTab) := props_eq ▸ Lib.laidMet.reads h (.tail _ (.tail _ (.tail _ (.head _))))
  obtain ⟨g, t, cs, fuel, p, hg, hty, hvar, hd⟩ := h4
  obtain rfl := Option.some.inj ((show Tryz.prog.globalNamed "unicode.properties" = some 0 by kernel_rfl).symm.trans hg)
  obtain rfl := Option.some.inj ((show (Tryz.prog.globals[0]?).map (·.type) = some 102 by kernel_rfl).symm.trans hty)
  have hcs := cells_of_tab Tryz.underlying102 Tryz.underlying5 (show Tryz.prog.cellsOf 5 = 1 by kernel_rfl) (show Tryz.prog.cellsOf 102 = 256 by kernel_rfl) hd
  unfold TabIs
  rw [hvar, ← hcs]

theorem star : "*" ++ "errors.errorString" = "*errors.errorString" := by decide
theorem rowErr (u : TypeId) (h : Tryz.prog.typeName? 3 u = some "*errors.errorString") : u = 139 :=
  typeName_ptr_named (nm := "errors.errorString") (by rw [star]; kernel_rfl) (by kernel_rfl) (by decide) u (by rw [star]; exact h)
theorem eof_of_laid {W : World} (h : laidMet Tryz.prog laidL W) : ∃ a, W.cell? ⟨3, 0, none⟩ = some (.iface 139 (.pointer (some a))) := by
  obtain ⟨ps, ⟨g0, t0, cs0, f0, p0, q0, hg0, ht0, hv0, hd0, ⟨g1, t1, cs1, f1, p1, q1, hg1, ht1, hv1, hd1, hq1, e1⟩, e0⟩, hnd, hrows⟩ := h
  obtain rfl := Option.some.inj ((show Tryz.prog.globalNamed "io.EOF" = some 3 by kernel_rfl).symm.trans hg1)
  obtain rfl := Option.some.inj ((show (Tryz.prog.globals[3]?).map (·.type) = some 97 by kernel_rfl).symm.trans ht1)
  obtain ⟨l1⟩ := cs1
  have ok1 : ∀ u v, l1 = [.iface u v] → Value.okWide Tryz.prog W .any 0 u v := fun u v e => by
    subst e
    exact (hrows 3 0 (by rw [e0, e1]; simp [MemPlace.row])).2 u v (by simpa using World.var?_cell hg1 hv1 0)
  obtain ⟨a0, s0, rfl, hc0, hs0, hz0, _⟩ := errorString_of_trod Tryz.underlying97 rowErr Tryz.underlying139 Tryz.underlying156 rfl rfl Tryz.underlying9 (by kernel_rfl) (by kernel_rfl) hd1 ok1
  exact ⟨a0, by simpa using World.var?_cell hg1 hv1 0⟩

theorem globI_of_laid {W : World} (h : laidMetH Tryz.prog laidL W) (hsz : 10 ≤ W.heap.size) : GlobI W.heap.size W := by
  rw [MakeChecks.laidMetH_plain _ _ _ (by kernel_rfl)] at h
  exact ⟨⟨hsz, u8_of_laid h, eof_of_laid h⟩, W, rfl, Below.refl _ _, props_of_laid h, letter_of_laid h⟩

/-- The variables' blocks are there. -/
theorem ten_of_shaped {W : World} (h : W.ShapedOpen Tryz.prog) : 10 ≤ W.heap.size := by
  have h9 : (((begin Tryz.prog (fun _ _ => 0) default).world.heap[9]?).bind Obj.row?).isSome = true := by kernel_rfl
  obtain ⟨⟨z, t⟩, hz⟩ := Option.isSome_iff_exists.1 h9
  obtain ⟨cs, hcs, _⟩ := h.1 9 z t (of_decide_eq_true (by kernel_rfl)) hz
  exact Lib.lt_of_heap hcs

theorem own' : ownKnob Tryz.prog.godebug = none := by kernel_rfl
/-- A world in which the list holds. -/
theorem laid_world (os : Os) (args : Array Value) : laidMetH Tryz.prog laidL ((World.laidAll Tryz.prog os laidL).forCall (fun _ _ => 0) ⟨#[], args, []⟩).memory := by
  rw [MakeChecks.laidMetH_plain _ _ _ (by kernel_rfl)]
  exact laidMet_laidAll _ (by kernel_rfl) (by kernel_rfl)
theorem shaped_world (os : Os) (args : Array Value) : ((World.laidAll Tryz.prog os laidL).forCall (fun _ _ => 0) ⟨#[], args, []⟩).Shaped Tryz.prog :=
  World.shaped_of_ZipB (by kernel_rfl) (by kernel_rfl)
end Go.Proofs.YtmeihdlkadjoeaaGreatDoor
