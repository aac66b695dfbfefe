/-
  What the rows' listed variables give a walk, and a world that meets them. Conditions: the rows' own.
-/
import Derived.Test.YtnehkpoggkfikaaDoorRows
import Derived.Test.YtnehkpoggkfikaaDoorSrc
import Derived.PinnedBridge
import Derived.Lib.LaidIn
import Derived.Lib.LaidU8T
import Derived.Deep.DeepHandedRow
import Derived.Deep.DeepWitnessRowRef
import Derived.Stop.LaidErr
import Derived.ProofKit
import Derived.SizedLaws
import Derived.KernelRfl
namespace Go.Proofs.YtnehkpoggkfikaaDoor
open Go.ChangeShapes Go.WideShapes Go.ChangeAt Go.RowKit Go.Lib
open Go.ChangeMaps (open_string shut_string)
set_option linter.unusedVariables false

theorem own : ownKnob Tryd.prog.godebug = none := by kernel_rfl
theorem gs12 : decide (Tryd.prog.globals.size ≤ 12) = true := by kernel_rfl
theorem w0size : decide (12 < (begin Tryd.prog (fun _ _ => 0) default).world.heap.size) = true := by kernel_rfl
theorem shaped12 {W : World} (h : W.ShapedOpen Tryd.prog) : 12 ≤ W.heap.size := by
  obtain ⟨-, h2⟩ := h
  obtain ⟨o, o0, h3, -⟩ := h2 12 (of_decide_eq_true gs12) (of_decide_eq_true w0size)
  exact Nat.le_of_lt (Array.getElem?_eq_some_iff.1 h3).1

theorem star : "*" ++ "errors.errorString" = "*errors.errorString" := by decide
theorem row150 (u : TypeId) (h : Tryd.prog.typeName? 3 u = some "*errors.errorString") : u = 150 :=
  typeName_ptr_named (nm := "errors.errorString") (by rw [star]; kernel_rfl) (by kernel_rfl) (by decide) u (by rw [star]; exact h)

/-- The names of the types that the tables have here. -/
def u8ren : Go.Shelf.Ren := ⟨fun n => n, fun | 119 => 113 | 138 => 130 | 139 => 131 | n => n, fun | 3 => 5 | 4 => 6 | n => n⟩
theorem u8types : U8Types Tryd.prog u8ren := ⟨Tryd.underlying5, Tryd.underlying113, Tryd.underlying130, Tryd.underlying131⟩
theorem first_eq : Rows.laid_unicode_utf8_first = firstData := Pinned.utf8First_eq
theorem accept_eq : (Rows.laid_unicode_utf8_acceptRanges : DataW Unit) = acceptData := by kernel_rfl

/-- The four variables that every row lists. -/
abbrev four : List (String × DataW Unit) := [("unicode/utf8.acceptRanges", Rows.laid_unicode_utf8_acceptRanges), ("io.EOF", Rows.laid_io_EOF), ("io.ErrNoProgress", Rows.laid_io_ErrNoProgress), ("unicode/utf8.first", Rows.laid_unicode_utf8_first)]

theorem glob_of_laid {W : World} (h : laidMet Tryd.prog four W) : ∃ ea, Glob W ea := by
  obtain ⟨a0, t0, hv0, -⟩ := laid_sentinel (g := 1) h.tail (by kernel_rfl) (by kernel_rfl) Tryd.underlying70 row150 Tryd.underlying150 Tryd.underlying166 rfl rfl Tryd.underlying9 (by kernel_rfl) (by kernel_rfl)
  refine ⟨a0, ?_, ?_⟩
  · have := World.var?_cell (g := 1) (by kernel_rfl) hv0 0
    simpa using this
  · have r := Lib.laidMet.reads h (n := "unicode/utf8.first") (d := Rows.laid_unicode_utf8_first) (.tail _ (.tail _ (.tail _ (.head _))))
    rw [first_eq] at r
    have r2 := Lib.laidMet.reads h (n := "unicode/utf8.acceptRanges") (d := Rows.laid_unicode_utf8_acceptRanges) (.head _)
    rw [accept_eq] at r2
    exact utf8Tabs_of_readsT u8types ⟨by kernel_rfl, by kernel_rfl, by kernel_rfl, by kernel_rfl, by kernel_rfl, by kernel_rfl, by kernel_rfl⟩ r r2

/-- A world that meets the condition: the settled one, the four variables laid, the two errors' structs behind it. -/
noncomputable def laidWorld (os : Os) : World :=
  let N := (World.settled Tryd.prog os).heap.size
  let w0 := World.holding Tryd.prog os ⟨#[.cells #[.string ⟨#[69, 79, 70]⟩] 166,
    .cells #[.string ⟨#[109, 117, 108, 116, 105, 112, 108, 101, 32, 82, 101, 97, 100, 32, 99, 97, 108, 108, 115, 32, 114, 101, 116, 117, 114, 110, 32, 110, 111, 32, 100, 97, 116, 97, 32, 111, 114, 32, 101, 114, 114, 111, 114]⟩] 166], #[], []⟩
  let put (h : Array Obj) (g : Nat) (cs : Array Value) : Array Obj := h.modify g fun
    | .cells _ t frozen => .cells cs t frozen
    | o => o
  let h0 := put (put w0.heap 1 #[.iface 150 (.pointer (some ⟨N, 0, none⟩))]) 7 #[.iface 150 (.pointer (some ⟨N + 1, 0, none⟩))]
  let h1 := put h0 5 (Lib.firstTab.map fun z => Value.int .u8 z).toArray
  let h2 := put h1 6 ((List.range 16).flatMap fun i => [Value.int .u8 (Lib.accLo i), Value.int .u8 (Lib.accHi i)]).toArray
  { w0 with heap := h2 }
noncomputable abbrev N0 : Nat := (World.settled Tryd.prog default).heap.size
theorem laid_met (os : Os) (args : Array Value) : laidMet Tryd.prog four ((laidWorld os).forCall (fun _ _ => 0) ⟨#[], args, []⟩).memory :=
  (LaidIn.of_run (l := four) [6, 1, N0, 7, N0 + 1, 5] 8 (by kernel_rfl) (by kernel_rfl) (by kernel_rfl) (by kernel_rfl)).met
end Go.Proofs.YtnehkpoggkfikaaDoor
