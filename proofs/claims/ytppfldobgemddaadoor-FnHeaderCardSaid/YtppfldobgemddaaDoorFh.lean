/-
  The contracts of the plain field methods of a frame header (printed by wip/genfh.py).
-/
import Derived.Test.YtppfldobgemddaaDoorWd
namespace Go.Proofs.YtppfldobgemddaaDoor
open Go.RowKit
set_option linter.unusedVariables false

def fID (x : Int) : Int := x / 524288 % 4
def fLayer (x : Int) : Int := x / 131072 % 4
def fProt (x : Int) : Int := x / 65536 % 2
def fBI (x : Int) : Int := x / 4096 % 16
def fSF (x : Int) : Int := x / 1024 % 4
def fPad (x : Int) : Int := x / 512 % 2
def fPriv (x : Int) : Int := x / 256 % 2
def fMode (x : Int) : Int := x / 64 % 4
def fExt (x : Int) : Int := x / 16 % 4
def fCopy (x : Int) : Int := x / 8 % 2
def fOrig (x : Int) : Int := x / 4 % 2
def fEmph (x : Int) : Int := x % 4

set_option maxHeartbeats 400000 in
theorem ID_any (x : Int) (h0 : 0 ≤ x) (h1 : x ≤ 4294967295) (w : World) :
    Calls Tryd.prog 77 #[.int .u32 x] w fun e w' => e = .returned (.int .i64 (fID x)) ∧ w = w' := by
  have b : bits .and .u32 x 1572864 = x / 524288 % 4 * 524288 := by have := u32_field 19 2 (by decide) x h0 h1; simpa using this
  have c : x / 524288 % 4 * 524288 / 524288 = x / 524288 % 4 := by omega
  go_enter Tryd.func77, Tryd.ntmps77
  go_wp2
  go_ret
  exact ⟨rfl, rfl⟩

set_option maxHeartbeats 400000 in
theorem Layer_any (x : Int) (h0 : 0 ≤ x) (h1 : x ≤ 4294967295) (w : World) :
    Calls Tryd.prog 79 #[.int .u32 x] w fun e w' => e = .returned (.int .i64 (fLayer x)) ∧ w = w' := by
  have b : bits .and .u32 x 393216 = x / 131072 % 4 * 131072 := by have := u32_field 17 2 (by decide) x h0 h1; simpa using this
  have c : x / 131072 % 4 * 131072 / 131072 = x / 131072 % 4 := by omega
  go_enter Tryd.func79, Tryd.ntmps79
  go_wp2
  go_ret
  exact ⟨rfl, rfl⟩

set_option maxHeartbeats 400000 in
theorem Prot_any (x : Int) (h0 : 0 ≤ x) (h1 : x ≤ 4294967295) (w : World) :
    Calls Tryd.prog 63 #[.int .u32 x] w fun e w' => e = .returned (.int .i64 (fProt x)) ∧ w = w' := by
  have b : bits .and .u32 x 65536 = x / 65536 % 2 * 65536 := by have := u32_field 16 1 (by decide) x h0 h1; simpa using this
  have c : x / 65536 % 2 * 65536 / 65536 = x / 65536 % 2 := by omega
  go_enter Tryd.func63, Tryd.ntmps63
  go_wp2
  go_ret
  exact ⟨rfl, rfl⟩

set_option maxHeartbeats 400000 in
theorem BI_any (x : Int) (h0 : 0 ≤ x) (h1 : x ≤ 4294967295) (w : World) :
    Calls Tryd.prog 58 #[.int .u32 x] w fun e w' => e = .returned (.int .i64 (fBI x)) ∧ w = w' := by
  have b : bits .and .u32 x 61440 = x / 4096 % 16 * 4096 := by have := u32_field 12 4 (by decide) x h0 h1; simpa using this
  have c : x / 4096 % 16 * 4096 / 4096 = x / 4096 % 16 := by omega
  go_enter Tryd.func58, Tryd.ntmps58
  go_wp2
  go_ret
  exact ⟨rfl, rfl⟩

set_option maxHeartbeats 400000 in
theorem SF_any (x : Int) (h0 : 0 ≤ x) (h1 : x ≤ 4294967295) (w : World) :
    Calls Tryd.prog 78 #[.int .u32 x] w fun e w' => e = .returned (.int .i64 (fSF x)) ∧ w = w' := by
  have b : bits .and .u32 x 3072 = x / 1024 % 4 * 1024 := by have := u32_field 10 2 (by decide) x h0 h1; simpa using this
  have c : x / 1024 % 4 * 1024 / 1024 = x / 1024 % 4 := by omega
  go_enter Tryd.func78, Tryd.ntmps78
  go_wp2
  go_ret
  exact ⟨rfl, rfl⟩

set_option maxHeartbeats 400000 in
theorem Pad_any (x : Int) (h0 : 0 ≤ x) (h1 : x ≤ 4294967295) (w : World) :
    Calls Tryd.prog 83 #[.int .u32 x] w fun e w' => e = .returned (.int .i64 (fPad x)) ∧ w = w' := by
  have b : bits .and .u32 x 512 = x / 512 % 2 * 512 := by have := u32_field 9 1 (by decide) x h0 h1; simpa using this
  have c : x / 512 % 2 * 512 / 512 = x / 512 % 2 := by omega
  go_enter Tryd.func83, Tryd.ntmps83
  go_wp2
  go_ret
  exact ⟨rfl, rfl⟩

set_option maxHeartbeats 400000 in
theorem Mode_any (x : Int) (h0 : 0 ≤ x) (h1 : x ≤ 4294967295) (w : World) :
    Calls Tryd.prog 67 #[.int .u32 x] w fun e w' => e = .returned (.int .i64 (fMode x)) ∧ w = w' := by
  have b : bits .and .u32 x 192 = x / 64 % 4 * 64 := by have := u32_field 6 2 (by decide) x h0 h1; simpa using this
  have c : x / 64 % 4 * 64 / 64 = x / 64 % 4 := by omega
  go_enter Tryd.func67, Tryd.ntmps67
  go_wp2
  go_ret
  exact ⟨rfl, rfl⟩

set_option maxHeartbeats 400000 in
theorem Emph_any (x : Int) (h0 : 0 ≤ x) (h1 : x ≤ 4294967295) (w : World) :
    Calls Tryd.prog 80 #[.int .u32 x] w fun e w' => e = .returned (.int .i64 (fEmph x)) ∧ w = w' := by
  have b : bits .and .u32 x 3 = x % 4 := u32_and3 x
  go_enter Tryd.func80, Tryd.ntmps80
  go_wp2
  go_ret
  exact ⟨rfl, rfl⟩
end Go.Proofs.YtppfldobgemddaaDoor
