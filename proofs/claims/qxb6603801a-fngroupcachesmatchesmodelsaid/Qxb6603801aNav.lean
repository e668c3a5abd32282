import Derived.Test.Qxb6603801aIn
namespace Go.Proofs.Qxb6603801a
open Go.RowKit

/-- a part of a function's code, by the way to it -/
def nav : List Nat → Code → Code
  | [], c => c
  | 0 :: p, .seq a _ => nav p a
  | 1 :: p, .seq _ b => nav p b
  | 2 :: p, .block _ c => nav p c
  | 3 :: p, .loop c => nav p c
  | 4 :: p, .cond _ a _ => nav p a
  | 5 :: p, .cond _ _ b => nav p b
  | _, c => c

/-- a part that ends normally, whatever follows -/
theorem wp_normal {P : Program} {c : Code} {K : Act → World → Prop} {Q : Exit → Act → World → Prop} {a : Act} {w : World} (h : c.wp P (Exit.then K fun _ _ _ => False) a w) (hQ : ∀ a w, K a w → Q .normal a w) : c.wp P Q a w :=
  wp_mono h fun e a w he => by
    cases e <;> first | exact hQ _ _ he | exact he.elim
end Go.Proofs.Qxb6603801a
