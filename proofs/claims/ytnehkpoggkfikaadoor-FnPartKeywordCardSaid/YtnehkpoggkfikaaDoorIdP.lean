/-
  Names and keywords in plain Lean: the characters of names, the keywords, what is held of the tables. Conditions: each law's own.
-/
import Derived.Test.YtnehkpoggkfikaaDoorSA
import Derived.Shelf.Unicode.PredsPay
namespace Go.Proofs.YtnehkpoggkfikaaDoor
open Go.RowKit
set_option linter.unusedVariables false

/-- A letter, a character of a name; the same of ASCII alone. -/
def ltr (c : Nat) : Bool := Lib.isLetterU (c : Int) || decide (c = 95)
def idc (c : Nat) : Bool := ltr c || Lib.isDigitU (c : Int)
def aLet (c : Nat) : Bool := decide (97 ≤ low c ∧ low c ≤ 122) || decide (c = 95)
def aId (c : Nat) : Bool := aLet c || decide (48 ≤ c ∧ c ≤ 57)
theorem aId_small : ∀ c : Fin 128, aId c.val = idc c.val := by decide +kernel
theorem aId_big {c : Nat} (h : 128 ≤ c) : aId c = false := by
  have := low_ge c
  unfold aId aLet
  simp; omega
/-- What stands behind a name: nothing, or an ASCII character that is none of a name. -/
def Bhd (l : List Nat) : Prop := ∀ c t, l = c :: t → c < 128 ∧ aId c = false
/-- The keywords. -/
def kwL : List ByteArray := [⟨#[98, 114, 101, 97, 107]⟩, ⟨#[99, 97, 115, 101]⟩, ⟨#[99, 104, 97, 110]⟩, ⟨#[99, 111, 110, 115, 116]⟩, ⟨#[99, 111, 110, 116, 105, 110, 117, 101]⟩, ⟨#[100, 101, 102, 97, 117, 108, 116]⟩, ⟨#[100, 101, 102, 101, 114]⟩, ⟨#[101, 108, 115, 101]⟩,
  ⟨#[102, 97, 108, 108, 116, 104, 114, 111, 117, 103, 104]⟩, ⟨#[102, 111, 114]⟩, ⟨#[102, 117, 110, 99]⟩, ⟨#[103, 111]⟩, ⟨#[103, 111, 116, 111]⟩, ⟨#[105, 102]⟩, ⟨#[105, 109, 112, 111, 114, 116]⟩, ⟨#[105, 110, 116, 101, 114, 102, 97, 99, 101]⟩, ⟨#[109, 97, 112]⟩,
  ⟨#[112, 97, 99, 107, 97, 103, 101]⟩, ⟨#[114, 97, 110, 103, 101]⟩, ⟨#[114, 101, 116, 117, 114, 110]⟩, ⟨#[115, 101, 108, 101, 99, 116]⟩, ⟨#[115, 116, 114, 117, 99, 116]⟩, ⟨#[115, 119, 105, 116, 99, 104]⟩, ⟨#[116, 121, 112, 101]⟩, ⟨#[118, 97, 114]⟩]
def kwS (t : Nat) : ByteArray := if t = 2 then ⟨#[110, 97, 109, 101]⟩ else kwL.getD (t - 22) ⟨#[]⟩
/-- Where the names of the tokens begin. -/
def tixL : List Nat := [0, 3, 7, 14, 16, 19, 23, 24, 26, 28, 29, 30, 31, 32, 33, 34, 35, 36, 37, 38, 39, 42, 47, 51, 55, 60, 68, 75, 80, 84, 95, 98, 102, 104, 108, 110, 116, 125, 128, 135, 140, 146, 152, 158, 164, 168, 171, 171]
def tix (i : Nat) : Nat := tixL.getD i 0
theorem tix_mono : ∀ i : Fin 47, tix i.val ≤ tix (i.val + 1) ∧ tix (i.val + 1) ≤ 171 := by decide +kernel
def bAt (s : ByteArray) (i : Nat) : Int := if h : i < s.size then (s[i].toNat : Int) else 0
/-- The hash of a text of two bytes or more. -/
def hashV (x y n : Int) : Int := bits .and .u64 (IntKind.u64.wrap (bits .xor .u64 (x * 16) y + n)) 63
def hashS (s : ByteArray) : Int := hashV (bAt s 0) (bAt s 1) s.size
theorem kw_facts : ∀ i : Fin 25, 2 ≤ (kwS (i.val + 22)).size ∧ (kwS (i.val + 22)).size ≤ 20 ∧ ∀ j : Fin 25, hashS (kwS (i.val + 22)) = hashS (kwS (j.val + 22)) → i = j := by decide +kernel
theorem kw_size {t : Nat} (h1 : 22 ≤ t) (h2 : t ≤ 46) : 2 ≤ (kwS t).size ∧ (kwS t).size ≤ 20 := by
  have := kw_facts ⟨t - 22, by omega⟩
  simp only [show t - 22 + 22 = t by omega] at this
  exact ⟨this.1, this.2.1⟩
theorem kw_inj {t u : Nat} (h1 : 22 ≤ t) (h2 : t ≤ 46) (h3 : 22 ≤ u) (h4 : u ≤ 46) (h : hashS (kwS t) = hashS (kwS u)) : t = u := by
  have := (kw_facts ⟨t - 22, by omega⟩).2.2 ⟨u - 22, by omega⟩
  simp only [show t - 22 + 22 = t by omega, show u - 22 + 22 = u by omega] at this
  have e := congrArg Fin.val (this h)
  simp only at e
  omega
/-- The tables that names want. -/
structure Tabs (w : World) : Prop where
  idx : ∀ i, i < 48 → w.cell? ⟨2, i, none⟩ = some (.int .u8 (tix i : Int))
  props : Lib.TabIs Tryd.prog w "unicode.properties" .u8 Lib.propertiesTab
  letter : Lib.RVar 4 Lib.letterT w
  digit : Lib.RVar 0 Lib.digitT w
theorem Tabs.below {w w' : World} (h : Tabs w) (hz : 12 ≤ w.heap.size) (hb : Below w.heap.size w w') : Tabs w' :=
  ⟨fun i hi => (hb.cell (p := ⟨2, i, none⟩) (by show 2 < _; omega)).trans (h.idx i hi), TabIs_below (g := 3) (by kernel_rfl) h.props hb, RVar_below h.letter hb, RVar_below h.digit hb⟩
theorem isLetter_tab (c : Int) (w : World) (h : Tabs w) (h0 : -2147483648 ≤ c) (h1 : c ≤ 2147483647) : Calls Tryd.prog 72 #[.int .i32 c] w fun e w' => e = .returned (.bool (Lib.isLetterU c)) ∧ Below w.heap.size w w' :=
  Tryd.unicode_IsLetter_any Lib.letterT c w h0 h1 h.props h.letter Lib.letterT_ok
theorem isDigit_tab (c : Int) (w : World) (h : Tabs w) (h0 : -2147483648 ≤ c) (h1 : c ≤ 2147483647) : Calls Tryd.prog 52 #[.int .i32 c] w fun e w' => e = .returned (.bool (Lib.isDigitU c)) ∧ Below w.heap.size w w' :=
  Tryd.unicode_IsDigit_any Lib.digitT c w h0 h1 h.digit Lib.digitT_ok
end Go.Proofs.YtnehkpoggkfikaaDoor
