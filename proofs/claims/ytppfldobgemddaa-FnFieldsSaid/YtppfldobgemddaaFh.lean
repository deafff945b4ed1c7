/-
  The contracts of the plain methods of frameheader.FrameHeader: each field of the word.
-/
import Derived.Test.YtppfldobgemddaaWd
namespace Go.Proofs.Ytppfldobgemddaa
open Go.RowKit
set_option linter.unusedVariables false

def fID (x : Int) : Int := x / 524288 % 4
def fLayer (x : Int) : Int := x / 131072 % 4
def fProt (x : Int) : Int := x / 65536 % 2
def fBI (x : Int) : Int := x / 4096 % 16
def fSF (x : Int) : Int := x / 1024 % 4
def fPad (x : Int) : Int := x / 512 % 2
def fPriv (x : Int) : Int := x / 256 % 2
def fMode (x : Int) : Int := x / 64 % 4
def fExt (x : Int) : Int := x / 16 % 4
def fCopy (x : Int) : Int := x / 8 % 2
def fOrig (x : Int) : Int := x / 4 % 2
def fEmph (x : Int) : Int := x % 4

set_option maxHeartbeats 400000 in
theorem ID_any (x : Int) (h0 : 0 ≤ x) (h1 : x ≤ 4294967295) (w : World) :
    Calls Try.prog 33 #[.int .u32 x] w fun e w' => e = .returned (.int .i64 (fID x)) ∧ w = w' := by
  have b : bits .and .u32 x 1572864 = x / 524288 % 4 * 524288 := by have := u32_field 19 2 (by decide) x h0 h1; simpa using this
  have c : x / 524288 % 4 * 524288 / 524288 = x / 524288 % 4 := by omega
  go_enter Try.func33, Try.ntmps33
  go_wp2
  go_ret
  exact ⟨rfl, rfl⟩

set_option maxHeartbeats 400000 in
theorem Layer_any (x : Int) (h0 : 0 ≤ x) (h1 : x ≤ 4294967295) (w : World) :
    Calls Try.prog 34 #[.int .u32 x] w fun e w' => e = .returned (.int .i64 (fLayer x)) ∧ w = w' := by
  have b : bits .and .u32 x 393216 = x / 131072 % 4 * 131072 := by have := u32_field 17 2 (by decide) x h0 h1; simpa using this
  have c : x / 131072 % 4 * 131072 / 131072 = x / 131072 % 4 := by omega
  go_enter Try.func34, Try.ntmps34
  go_wp2
  go_ret
  exact ⟨rfl, rfl⟩

set_option maxHeartbeats 400000 in
theorem Prot_any (x : Int) (h0 : 0 ≤ x) (h1 : x ≤ 4294967295) (w : World) :
    Calls Try.prog 35 #[.int .u32 x] w fun e w' => e = .returned (.int .i64 (fProt x)) ∧ w = w' := by
  have b : bits .and .u32 x 65536 = x / 65536 % 2 * 65536 := by have := u32_field 16 1 (by decide) x h0 h1; simpa using this
  have c : x / 65536 % 2 * 65536 / 65536 = x / 65536 % 2 := by omega
  go_enter Try.func35, Try.ntmps35
  go_wp2
  go_ret
  exact ⟨rfl, rfl⟩

set_option maxHeartbeats 400000 in
theorem BI_any (x : Int) (h0 : 0 ≤ x) (h1 : x ≤ 4294967295) (w : World) :
    Calls Try.prog 36 #[.int .u32 x] w fun e w' => e = .returned (.int .i64 (fBI x)) ∧ w = w' := by
  have b : bits .and .u32 x 61440 = x / 4096 % 16 * 4096 := by have := u32_field 12 4 (by decide) x h0 h1; simpa using this
  have c : x / 4096 % 16 * 4096 / 4096 = x / 4096 % 16 := by omega
  go_enter Try.func36, Try.ntmps36
  go_wp2
  go_ret
  exact ⟨rfl, rfl⟩

set_option maxHeartbeats 400000 in
theorem SF_any (x : Int) (h0 : 0 ≤ x) (h1 : x ≤ 4294967295) (w : World) :
    Calls Try.prog 37 #[.int .u32 x] w fun e w' => e = .returned (.int .i64 (fSF x)) ∧ w = w' := by
  have b : bits .and .u32 x 3072 = x / 1024 % 4 * 1024 := by have := u32_field 10 2 (by decide) x h0 h1; simpa using this
  have c : x / 1024 % 4 * 1024 / 1024 = x / 1024 % 4 := by omega
  go_enter Try.func37, Try.ntmps37
  go_wp2
  go_ret
  exact ⟨rfl, rfl⟩

set_option maxHeartbeats 400000 in
theorem Pad_any (x : Int) (h0 : 0 ≤ x) (h1 : x ≤ 4294967295) (w : World) :
    Calls Try.prog 38 #[.int .u32 x] w fun e w' => e = .returned (.int .i64 (fPad x)) ∧ w = w' := by
  have b : bits .and .u32 x 512 = x / 512 % 2 * 512 := by have := u32_field 9 1 (by decide) x h0 h1; simpa using this
  have c : x / 512 % 2 * 512 / 512 = x / 512 % 2 := by omega
  go_enter Try.func38, Try.ntmps38
  go_wp2
  go_ret
  exact ⟨rfl, rfl⟩

set_option maxHeartbeats 400000 in
theorem Priv_any (x : Int) (h0 : 0 ≤ x) (h1 : x ≤ 4294967295) (w : World) :
    Calls Try.prog 39 #[.int .u32 x] w fun e w' => e = .returned (.int .i64 (fPriv x)) ∧ w = w' := by
  have b : bits .and .u32 x 256 = x / 256 % 2 * 256 := by have := u32_field 8 1 (by decide) x h0 h1; simpa using this
  have c : x / 256 % 2 * 256 / 256 = x / 256 % 2 := by omega
  go_enter Try.func39, Try.ntmps39
  go_wp2
  go_ret
  exact ⟨rfl, rfl⟩

set_option maxHeartbeats 400000 in
theorem Mode_any (x : Int) (h0 : 0 ≤ x) (h1 : x ≤ 4294967295) (w : World) :
    Calls Try.prog 40 #[.int .u32 x] w fun e w' => e = .returned (.int .i64 (fMode x)) ∧ w = w' := by
  have b : bits .and .u32 x 192 = x / 64 % 4 * 64 := by have := u32_field 6 2 (by decide) x h0 h1; simpa using this
  have c : x / 64 % 4 * 64 / 64 = x / 64 % 4 := by omega
  go_enter Try.func40, Try.ntmps40
  go_wp2
  go_ret
  exact ⟨rfl, rfl⟩

set_option maxHeartbeats 400000 in
theorem Ext_any (x : Int) (h0 : 0 ≤ x) (h1 : x ≤ 4294967295) (w : World) :
    Calls Try.prog 56 #[.int .u32 x] w fun e w' => e = .returned (.int .i64 (fExt x)) ∧ w = w' := by
  have b : bits .and .u32 x 48 = x / 16 % 4 * 16 := by have := u32_field 4 2 (by decide) x h0 h1; simpa using this
  have c : x / 16 % 4 * 16 / 16 = x / 16 % 4 := by omega
  go_enter Try.func56, Try.ntmps56
  go_wp2
  go_ret
  exact ⟨rfl, rfl⟩

set_option maxHeartbeats 400000 in
theorem Copy_any (x : Int) (h0 : 0 ≤ x) (h1 : x ≤ 4294967295) (w : World) :
    Calls Try.prog 44 #[.int .u32 x] w fun e w' => e = .returned (.int .i64 (fCopy x)) ∧ w = w' := by
  have b : bits .and .u32 x 8 = x / 8 % 2 * 8 := by have := u32_field 3 1 (by decide) x h0 h1; simpa using this
  have c : x / 8 % 2 * 8 / 8 = x / 8 % 2 := by omega
  go_enter Try.func44, Try.ntmps44
  go_wp2
  go_ret
  exact ⟨rfl, rfl⟩

set_option maxHeartbeats 400000 in
theorem Orig_any (x : Int) (h0 : 0 ≤ x) (h1 : x ≤ 4294967295) (w : World) :
    Calls Try.prog 45 #[.int .u32 x] w fun e w' => e = .returned (.int .i64 (fOrig x)) ∧ w = w' := by
  have b : bits .and .u32 x 4 = x / 4 % 2 * 4 := by have := u32_field 2 1 (by decide) x h0 h1; simpa using this
  have c : x / 4 % 2 * 4 / 4 = x / 4 % 2 := by omega
  go_enter Try.func45, Try.ntmps45
  go_wp2
  go_ret
  exact ⟨rfl, rfl⟩

set_option maxHeartbeats 400000 in
theorem Emph_any (x : Int) (h0 : 0 ≤ x) (h1 : x ≤ 4294967295) (w : World) :
    Calls Try.prog 46 #[.int .u32 x] w fun e w' => e = .returned (.int .i64 (fEmph x)) ∧ w = w' := by
  have b : bits .and .u32 x 3 = x % 4 := u32_and3 x
  go_enter Try.func46, Try.ntmps46
  go_wp2
  go_ret
  exact ⟨rfl, rfl⟩

end Go.Proofs.Ytppfldobgemddaa
