/-
  The store of a float into a cell.
-/
import Derived.Test.YtppfldobgemddaaDoorMb
import Derived.Test.YtppfldobgemddaaDoorRows
import Derived.BigQuiet
import Derived.Deep.DrawnRows
import Derived.Deep.QuietTactic
import Derived.Deep.RegionWith
import Derived.Deep.WholeRow
import Derived.Handy
import Derived.Laws.Externs
namespace Go.Proofs.YtppfldobgemddaaDoor
open Go.RowKit
set_option linter.unusedVariables false

theorem run_store_f32 (P : Program) (w : World) (a : Addr) (m : Mode) (k : FloatKind) (b : Nat) : (store a (.float k b) m).run P w = stored P w a (.float k b) m := run_store P w a _ m rfl
attribute [go_sem] run_store_f32
end Go.Proofs.YtppfldobgemddaaDoor
