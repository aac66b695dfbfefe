/-
  What the two rows on names give a walk by their listed variables, and a world that meets them. Conditions: the rows' own.
-/
import Derived.Test.YtnehkpoggkfikaaDoorBase
import Derived.Test.YtnehkpoggkfikaaDoorIdP
import Derived.ChangeVars
import Derived.Lay
namespace Go.Proofs.YtnehkpoggkfikaaDoor
open Go.ChangeShapes Go.WideShapes Go.ChangeAt Go.RowKit Go.Lib
open Go.ChangeMaps (open_string shut_string)
set_option linter.unusedVariables false

/-- The variables that the rows on names list. -/
abbrev eleven : List (String × DataW Unit) := [("math/bits.deBruijn32tab", Rows.laid_math_bits_deBruijn32tab), ("math/bits.deBruijn64tab", Rows.laid_math_bits_deBruijn64tab), ("internal/strconv.uint64pow10", Rows.laid_internal_strconv_uint64pow10),
  ("unicode/utf8.acceptRanges", Rows.laid_unicode_utf8_acceptRanges), ("io.EOF", Rows.laid_io_EOF), ("io.ErrNoProgress", Rows.laid_io_ErrNoProgress), ("unicode.properties", Rows.laid_unicode_properties),
  ("loop.example/pub-g03120/pub/gosyntax._token_index", Rows.laid_loop_example_pub_g03120_pub_gosyntax_token_index), ("unicode.Digit", Rows.laid_unicode_Digit), ("unicode.Letter", Rows.laid_unicode_Letter), ("unicode/utf8.first", Rows.laid_unicode_utf8_first)]
theorem glob_of_laid11 {W : World} (h : laidMet Tryd.prog eleven W) : ∃ ea, Glob W ea := by
  obtain ⟨a0, t0, hv0, -⟩ := laid_sentinel (g := 1) h.tail.tail.tail.tail (by kernel_rfl) (by kernel_rfl) Tryd.underlying70 row150 Tryd.underlying150 Tryd.underlying166 rfl rfl Tryd.underlying9 (by kernel_rfl) (by kernel_rfl)
  refine ⟨a0, ?_, ?_⟩
  · have := World.var?_cell (g := 1) (by kernel_rfl) hv0 0
    simpa using this
  · have r := Lib.laidMet.reads h (n := "unicode/utf8.first") (d := Rows.laid_unicode_utf8_first) (.tail _ (.tail _ (.tail _ (.tail _ (.tail _ (.tail _ (.tail _ (.tail _ (.tail _ (.tail _ (.head _)))))))))))
    rw [first_eq] at r
    have r2 := Lib.laidMet.reads h (n := "unicode/utf8.acceptRanges") (d := Rows.laid_unicode_utf8_acceptRanges) (.tail _ (.tail _ (.tail _ (.head _))))
    rw [accept_eq] at r2
    exact utf8Tabs_of_readsT u8types ⟨by kernel_rfl, by kernel_rfl, by kernel_rfl, by kernel_rfl, by kernel_rfl, by kernel_rfl, by kernel_rfl⟩ r r2

theorem xI : RExtra Tryd.prog Tryd.lays261_ren := ⟨by kernel_rfl, by kernel_rfl, by kernel_rfl, by kernel_rfl, by kernel_rfl, by kernel_rfl, by kernel_rfl, by kernel_rfl⟩
theorem prop_eq : (Rows.laid_unicode_properties : DataW Unit) = tabData .u8 propertiesTab := by kernel_rfl
def tixZ : List Int := tixL.map fun (n : Nat) => (n : Int)
theorem tix_eq : (Rows.laid_loop_example_pub_g03120_pub_gosyntax_token_index : DataW Unit) = tabData .u8 tixZ := by kernel_rfl
theorem tix_at (i : Nat) (h : i < 48) : tixZ.getD i 0 = (tix i : Int) := by
  have : ∀ j : Fin 48, tixZ.getD j.val 0 = (tix j.val : Int) := by decide +kernel
  exact this ⟨i, h⟩
theorem idx_of_laid {W : World} (h : laidMet Tryd.prog eleven W) : TabIs Tryd.prog W "loop.example/pub-g03120/pub/gosyntax._token_index" .u8 tixZ := by
  have h7 := h.tail.tail.tail.tail.tail.tail.tail
  rw [tix_eq] at h7
  exact tabIs_of_head (g := 2) (t := 112) (e := 5) (n := 48) (by kernel_rfl) (by kernel_rfl) Tryd.underlying112 Tryd.underlying5 (by kernel_rfl) (by kernel_rfl) h7
theorem tabs_of_laid {W : World} (h : laidMet Tryd.prog eleven W) : Tabs W := by
  have h6 := h.tail.tail.tail.tail.tail.tail
  rw [prop_eq] at h6
  refine ⟨fun i hi => ?_, tabIs_of_head (g := 3) (t := 113) (e := 5) (n := 256) (by kernel_rfl) (by kernel_rfl) Tryd.underlying113 Tryd.underlying5 (by kernel_rfl) (by kernel_rfl) h6, ?_, ?_⟩
  · rw [← tix_at i hi]
    exact (idx_of_laid h).cell (g := 2) (by kernel_rfl) i (by show i < 48; exact hi)
  · have r := Lib.laidMet.reads h (n := "unicode.Letter") (d := Rows.laid_unicode_Letter) (.tail _ (.tail _ (.tail _ (.tail _ (.tail _ (.tail _ (.tail _ (.tail _ (.tail _ (.head _))))))))))
    exact rvar_of_reads Tryd.lays261 xI (g := 4) (by kernel_rfl) (by kernel_rfl) (T := letterT) (by rw [← Pinned.letter_eq]; exact r)
  · have r := Lib.laidMet.reads h (n := "unicode.Digit") (d := Rows.laid_unicode_Digit) (.tail _ (.tail _ (.tail _ (.tail _ (.tail _ (.tail _ (.tail _ (.tail _ (.head _)))))))))
    exact rvar_of_reads Tryd.lays261 xI (g := 0) (by kernel_rfl) (by kernel_rfl) (T := digitT) (by rw [← Pinned.digit_eq]; exact r)
/-- The reading of the variable of the program's own package. -/
abbrev tixH {H : Type} : DataW H := Rows.laid_loop_example_pub_g03120_pub_gosyntax_token_index
def tixC : Array Value := (tixZ.map fun z => Value.int .u8 z).toArray
theorem reads_tix {H : Type} (enc : TypeId × Value → H) (W : World) (sp : Nat → Bool) : DataW.trod enc Tryd.prog W 0 sp true 3 112 tixC.toList = some (tixH, []) := by kernel_rfl
theorem tix_name : Tryd.prog.globalNamed "loop.example/pub-g03120/pub/gosyntax._token_index" = some 2 := by kernel_rfl
theorem tix_type : (Tryd.prog.globals[2]?).map (·.type) = some 112 := by kernel_rfl
theorem tix_below {W W' : World} {cs : Array Value} (h : W.var? Tryd.prog "loop.example/pub-g03120/pub/gosyntax._token_index" = some cs) (hb : Below W.heap.size W W') (hz : 12 ≤ W.heap.size) : W'.var? Tryd.prog "loop.example/pub-g03120/pub/gosyntax._token_index" = some cs := by
  unfold World.var? at h ⊢
  rw [tix_name] at h ⊢
  simp only [Option.bind_some] at h ⊢
  rw [hb.block 2 (by omega)]
  exact h
noncomputable def laidWorldI (os : Os) : World := World.laidAll Tryd.prog os eleven
theorem laid_metI (os : Os) (args : Array Value) : laidMet Tryd.prog eleven ((laidWorldI os).forCall (fun _ _ => 0) ⟨#[], args, []⟩).memory :=
  laidMet_laidAll args (by kernel_rfl) (by kernel_rfl)
end Go.Proofs.YtnehkpoggkfikaaDoor
