import Derived.Test.YbulkchuuGreatDoorMd
import Derived.Deep.CutBlock
namespace Go.Proofs.YbulkchuuGreatDoor
open Go.RowKit Go.Maps
set_option linter.unusedVariables false
set_option linter.unusedSimpArgs false
set_option maxRecDepth 100000

/-! ### the pieces of newComparison's body -/
def goD : List Bool → Code → Code
  | [], c => c
  | false :: l, .seq a _ => goD l a
  | true :: l, .seq _ b => goD l b
  | false :: l, .cond _ a _ => goD l a
  | true :: l, .cond _ _ b => goD l b
  | _ :: l, .block _ c => goD l c
  | _ :: l, .loop c => goD l c
  | _ :: _, c => c
def compC (f : Func) : Code := f.body.getD .skip
/-- a piece that always comes to its end may be walked under a post that knows panics to be none -/
theorem nq_mono {P : Program} {c : Code} {fn : Func} {K : Act → World → Prop} {Q : Exit → Act → World → Prop} {a : Act} {w : World} (h : Code.wp P c (Exit.then K (bodyPost P fn (fun _ _ => False))) a w) (hK : ∀ a w, K a w → Q .normal a w) : Code.wp P c Q a w :=
  wp_mono h (fun e a w he => by
    cases e with
    | normal => exact hK a w he
    | exit id => exact False.elim he
    | goto l => exact False.elim he
    | ret => obtain ⟨_, v, _, h⟩ := he; exact h.elim
    | panic ch => exact he.2.elim
    | outgrown => exact False.elim he)
def nC0 (f : Func) : Code := goD [true, true, false, true] (compC f)
def nC4 (f : Func) : Code := goD [true, true, true, true, true, true, false, true] (compC f)
def nC6 (f : Func) : Code := goD [true, true, true, true, true, true, true, true, false, true] (compC f)
def nC8 (f : Func) : Code := goD [true, true, true, true, true, true, true, true, false, true, false, false, true, true, false, false, true, true, false, true] (compC f)
def nC12 (f : Func) : Code := goD [true, true, true, true, true, true, true, true, false, true, false, false, true, true, false, false, true, true, true, true, true, true] (compC f)
def nC14 (f : Func) : Code := goD [true, true, true, true, true, true, true, true, false, true, false, false, true, true, false, false, true, true, true, true, true, true, false, false, true, true, false, false, true, true, true, true, true, true] (compC f)
end Go.Proofs.YbulkchuuGreatDoor
