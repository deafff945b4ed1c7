/-
  The parts of the code of laws.frameOf, taken out of the translation.
-/
import Derived.Test.YtppfldobgemddaaDoorRows
namespace Go.Proofs.YtppfldobgemddaaDoor
set_option linter.unusedVariables false

def nthS : Nat → Code → Code
  | 0, .seq a _ => a
  | 0, c => c
  | n + 1, .seq _ b => nthS n b
  | _, c => c
def blkC : Code → Code
  | .block _ c => c
  | c => c
def loopC : Code → Code
  | .loop c => c
  | c => c
def thnC : Code → Code
  | .cond _ a _ => a
  | c => c
def elsC : Code → Code
  | .cond _ _ b => b
  | c => c
noncomputable def frBody : Code := Tryd.f12.body.getD .skip
noncomputable def frLoop0 : Code := loopC (blkC (nthS 1 (nthS 5 frBody)))
noncomputable def frLoop1 : Code := loopC (blkC (nthS 2 (blkC (nthS 2 frLoop0))))
noncomputable def frBlock : Code := nthS 2 frLoop1
noncomputable def frItem (k : Nat) : Code := nthS k (blkC frBlock)
/-- The ways of the kinds of blocks: 2, 3, 4, 5. -/
noncomputable def frKind0 : Code := nthS 1 (blkC (nthS 1 (frItem 3)))
noncomputable def frKind1 : Code := nthS 1 (elsC frKind0)
noncomputable def frKind2 : Code := nthS 1 (elsC frKind1)
noncomputable def frKind3 : Code := nthS 1 (elsC frKind2)
end Go.Proofs.YtppfldobgemddaaDoor
