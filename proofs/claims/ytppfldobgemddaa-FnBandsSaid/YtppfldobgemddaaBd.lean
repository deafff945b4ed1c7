/-
  The contracts of consts.SfBandIndices, spec.LongBands, spec.ShortBands and impl.Bands.
-/
import Derived.Test.YtppfldobgemddaaCl
import Derived.Deep.WholeRow
namespace Go.Proofs.Ytppfldobgemddaa
open Go.RowKit
set_option linter.unusedVariables false

/-- Where the bands begin: long and short blocks of each rate in turn. -/
def bnd0 : List Int := [0, 4, 8, 12, 16, 20, 24, 30, 36, 44, 52, 62, 74, 90, 110, 134, 162, 196, 238, 288, 342, 418, 576]
def bnd1 : List Int := [0, 4, 8, 12, 16, 22, 30, 40, 52, 66, 84, 106, 136, 192]
def bnd2 : List Int := [0, 4, 8, 12, 16, 20, 24, 30, 36, 42, 50, 60, 72, 88, 106, 128, 156, 190, 230, 276, 330, 384, 576]
def bnd3 : List Int := [0, 4, 8, 12, 16, 22, 28, 38, 50, 64, 80, 100, 126, 192]
def bnd4 : List Int := [0, 4, 8, 12, 16, 20, 24, 30, 36, 44, 54, 66, 82, 102, 126, 156, 194, 240, 296, 364, 448, 550, 576]
def bnd5 : List Int := [0, 4, 8, 12, 16, 22, 30, 42, 58, 78, 104, 138, 180, 192]
def bnd (k : Nat) : List Int := match k with
  | 0 => bnd0 | 1 => bnd1 | 2 => bnd2 | 3 => bnd3 | 4 => bnd4 | _ => bnd5

def arr0 : Array Value := #[.int .i64 0, .int .i64 4, .int .i64 8, .int .i64 12, .int .i64 16, .int .i64 20, .int .i64 24, .int .i64 30, .int .i64 36, .int .i64 44, .int .i64 52, .int .i64 62, .int .i64 74, .int .i64 90, .int .i64 110, .int .i64 134, .int .i64 162, .int .i64 196, .int .i64 238, .int .i64 288, .int .i64 342, .int .i64 418, .int .i64 576]
def arr1 : Array Value := #[.int .i64 0, .int .i64 4, .int .i64 8, .int .i64 12, .int .i64 16, .int .i64 22, .int .i64 30, .int .i64 40, .int .i64 52, .int .i64 66, .int .i64 84, .int .i64 106, .int .i64 136, .int .i64 192]
def arr2 : Array Value := #[.int .i64 0, .int .i64 4, .int .i64 8, .int .i64 12, .int .i64 16, .int .i64 20, .int .i64 24, .int .i64 30, .int .i64 36, .int .i64 42, .int .i64 50, .int .i64 60, .int .i64 72, .int .i64 88, .int .i64 106, .int .i64 128, .int .i64 156, .int .i64 190, .int .i64 230, .int .i64 276, .int .i64 330, .int .i64 384, .int .i64 576]
def arr3 : Array Value := #[.int .i64 0, .int .i64 4, .int .i64 8, .int .i64 12, .int .i64 16, .int .i64 22, .int .i64 28, .int .i64 38, .int .i64 50, .int .i64 64, .int .i64 80, .int .i64 100, .int .i64 126, .int .i64 192]
def arr4 : Array Value := #[.int .i64 0, .int .i64 4, .int .i64 8, .int .i64 12, .int .i64 16, .int .i64 20, .int .i64 24, .int .i64 30, .int .i64 36, .int .i64 44, .int .i64 54, .int .i64 66, .int .i64 82, .int .i64 102, .int .i64 126, .int .i64 156, .int .i64 194, .int .i64 240, .int .i64 296, .int .i64 364, .int .i64 448, .int .i64 550, .int .i64 576]
def arr5 : Array Value := #[.int .i64 0, .int .i64 4, .int .i64 8, .int .i64 12, .int .i64 16, .int .i64 22, .int .i64 30, .int .i64 42, .int .i64 58, .int .i64 78, .int .i64 104, .int .i64 138, .int .i64 180, .int .i64 192]

/-- The twelve slices that stand in the table made by SfBandIndices at a world of so many blocks. -/
def sl12 (B : Nat) : Array Value := #[.slice (some ⟨B + 1, 0, none⟩) 23 23, .slice (some ⟨B + 2, 0, none⟩) 14 14, .slice (some ⟨B + 3, 0, none⟩) 23 23, .slice (some ⟨B + 4, 0, none⟩) 14 14, .slice (some ⟨B + 5, 0, none⟩) 23 23, .slice (some ⟨B + 6, 0, none⟩) 14 14, .slice (some ⟨B + 7, 0, none⟩) 23 23, .slice (some ⟨B + 8, 0, none⟩) 14 14, .slice (some ⟨B + 9, 0, none⟩) 23 23, .slice (some ⟨B + 10, 0, none⟩) 14 14, .slice (some ⟨B + 11, 0, none⟩) 23 23, .slice (some ⟨B + 12, 0, none⟩) 14 14]

def arr6 : Array Value := #[.int .i64 0, .int .i64 6, .int .i64 12, .int .i64 18, .int .i64 24, .int .i64 30, .int .i64 36, .int .i64 44, .int .i64 54, .int .i64 66, .int .i64 80, .int .i64 96, .int .i64 116, .int .i64 140, .int .i64 168, .int .i64 200, .int .i64 238, .int .i64 284, .int .i64 336, .int .i64 396, .int .i64 464, .int .i64 522, .int .i64 576]
def arr7 : Array Value := #[.int .i64 0, .int .i64 4, .int .i64 8, .int .i64 12, .int .i64 18, .int .i64 24, .int .i64 32, .int .i64 42, .int .i64 56, .int .i64 74, .int .i64 100, .int .i64 132, .int .i64 174, .int .i64 192]
def arr8 : Array Value := #[.int .i64 0, .int .i64 6, .int .i64 12, .int .i64 18, .int .i64 24, .int .i64 30, .int .i64 36, .int .i64 44, .int .i64 54, .int .i64 66, .int .i64 80, .int .i64 96, .int .i64 114, .int .i64 136, .int .i64 162, .int .i64 194, .int .i64 232, .int .i64 278, .int .i64 332, .int .i64 394, .int .i64 464, .int .i64 540, .int .i64 576]
def arr9 : Array Value := #[.int .i64 0, .int .i64 4, .int .i64 8, .int .i64 12, .int .i64 18, .int .i64 26, .int .i64 36, .int .i64 48, .int .i64 62, .int .i64 80, .int .i64 104, .int .i64 136, .int .i64 180, .int .i64 192]
def arr10 : Array Value := #[.int .i64 0, .int .i64 6, .int .i64 12, .int .i64 18, .int .i64 24, .int .i64 30, .int .i64 36, .int .i64 44, .int .i64 54, .int .i64 66, .int .i64 80, .int .i64 96, .int .i64 116, .int .i64 140, .int .i64 168, .int .i64 200, .int .i64 238, .int .i64 284, .int .i64 336, .int .i64 396, .int .i64 464, .int .i64 522, .int .i64 576]
def arr11 : Array Value := #[.int .i64 0, .int .i64 4, .int .i64 8, .int .i64 12, .int .i64 18, .int .i64 26, .int .i64 36, .int .i64 48, .int .i64 62, .int .i64 80, .int .i64 104, .int .i64 134, .int .i64 174, .int .i64 192]

/-- The world behind SfBandIndices. -/
def w12 (w : World) : World := (((((((((((((w.alloc (.cells (sl12 w.heap.size) 54)).alloc (.cells arr0 3)).alloc (.cells arr1 3)).alloc (.cells arr2 3)).alloc (.cells arr3 3)).alloc (.cells arr4 3)).alloc (.cells arr5 3)).alloc (.cells arr6 3)).alloc (.cells arr7 3)).alloc (.cells arr8 3)).alloc (.cells arr9 3)).alloc (.cells arr10 3)).alloc (.cells arr11 3))

set_option maxRecDepth 100000 in
set_option maxHeartbeats 1000000 in
theorem sfb_any (w : World) :
    Calls Try.prog 30 #[] w fun e w' => e = .returned (.agg (sl12 w.heap.size)) ∧ w' = w12 w := by
  go_enter Try.func30, Try.ntmps30
  go_wp2_with fail
  go_returns
  exact ⟨rfl, rfl⟩
end Go.Proofs.Ytppfldobgemddaa
