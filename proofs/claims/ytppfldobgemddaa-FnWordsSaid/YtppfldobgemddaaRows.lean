/-
  No cell of these rows narrows 'for every input' (looked for: loops, veiled, ifaces, maps, wideKeys, modest, calm, conditions, laid).
  DERIVED. THE GIVEN ROWS OF THIS SEAT. 6 by the template 'for every input the law returns true; each argument reads behind the call as it read before'; 0 by the template 'total and deterministic' (their statements: YtppfldobgemddaaTotals.lean).
  GIVEN WITH THE SEED: the statements are not yours to turn. If you find one false, say at which input.
  Laid BY PROGRAM, IN A SANDBOX (cutbox-rows.mjs): the forced cells as the released guide's own fill.sh prints them over the translation dd33dc21f3478458… (all of the seat's roots in one cut). By AI agents, Wed Nov 11 2026. No macro, syntax, notation, axiom, sorry.
-/
import Derived.Test.YtppfldobgemddaaChecked
import GoSem.Claim
import GoSem.ClaimJoined
import GoSem.ClaimMapViews
import Derived.JoinedTies
import Derived.KernelRfl
namespace Go.Proofs.Ytppfldobgemddaa
/- THE CELL 'sum', in the pinned program and in every row, IS THE sha256 OF THE DUMP (.gsa) THAT YtppfldobgemddaaProg.lean LOADS. Nothing in Lean hashes anything: it is a label: what it is worth is what the hold of that sum in a sandbox is worth. -/
noncomputable def Try.pinned : Pinned := { name := "ytppfldobgemddaa", sum := "dd33dc21f34784582b7f81b0ce2099983859eb0fc491ee4e3cd4844a4b3931de", checked := Try.checked }
namespace Rows
def none {H : Type} : Left H := { results := [], args := [] }

/-- 'laws.FnRate': WHATEVER THE INPUT: true; the input reads as it did. -/
def fnRateSpec : ChangeSpec := { name := "fnRate", fn := fun _ => fun
  | [d] => { results := [.lit (.bool true)], args := [d] }
  | _ => none }
def fnRateRow : OpenClaim := { program := "ytppfldobgemddaa", sum := "dd33dc21f34784582b7f81b0ce2099983859eb0fc491ee4e3cd4844a4b3931de", func := "loop.example/pub-g03435/laws.FnRate", spec := "fnRate", apart := false }
def FnRateSaid : Prop := fnRateRow.holds Try.pinned (OpenSpec.ofChange fnRateSpec)

/-- ITS FALSE NEIGHBOUR: 'it returns false'. Refute it at one input. -/
def fnRateWrong : ChangeSpec := { name := "fnRate", fn := fun _ => fun
  | [d] => { results := [.lit (.bool false)], args := [d] }
  | _ => none }
def FnRateWrongFalsely : Prop := fnRateRow.holds Try.pinned (OpenSpec.ofChange fnRateWrong)

/-- 'laws.FnSlen': WHATEVER THE INPUT: true; the input reads as it did. -/
def fnSlenSpec : ChangeSpec := { name := "fnSlen", fn := fun _ => fun
  | [d] => { results := [.lit (.bool true)], args := [d] }
  | _ => none }
def fnSlenRow : OpenClaim := { program := "ytppfldobgemddaa", sum := "dd33dc21f34784582b7f81b0ce2099983859eb0fc491ee4e3cd4844a4b3931de", func := "loop.example/pub-g03435/laws.FnSlen", spec := "fnSlen", apart := false }
def FnSlenSaid : Prop := fnSlenRow.holds Try.pinned (OpenSpec.ofChange fnSlenSpec)

/-- ITS FALSE NEIGHBOUR: 'it returns false'. Refute it at one input. -/
def fnSlenWrong : ChangeSpec := { name := "fnSlen", fn := fun _ => fun
  | [d] => { results := [.lit (.bool false)], args := [d] }
  | _ => none }
def FnSlenWrongFalsely : Prop := fnSlenRow.holds Try.pinned (OpenSpec.ofChange fnSlenWrong)

/-- 'laws.FnWords': WHATEVER THE INPUT: true; the input reads as it did. -/
def fnWordsSpec : ChangeSpec := { name := "fnWords", fn := fun _ => fun
  | [d1, d2] => { results := [.lit (.bool true)], args := [d1, d2] }
  | _ => none }
def fnWordsRow : OpenClaim := { program := "ytppfldobgemddaa", sum := "dd33dc21f34784582b7f81b0ce2099983859eb0fc491ee4e3cd4844a4b3931de", func := "loop.example/pub-g03435/laws.FnWords", spec := "fnWords", apart := false }
def FnWordsSaid : Prop := fnWordsRow.holds Try.pinned (OpenSpec.ofChange fnWordsSpec)

/-- ITS FALSE NEIGHBOUR: 'it returns false'. Refute it at one input. -/
def fnWordsWrong : ChangeSpec := { name := "fnWords", fn := fun _ => fun
  | [d1, d2] => { results := [.lit (.bool false)], args := [d1, d2] }
  | _ => none }
def FnWordsWrongFalsely : Prop := fnWordsRow.holds Try.pinned (OpenSpec.ofChange fnWordsWrong)

/-- 'laws.FnBands': WHATEVER THE INPUT: true; the input reads as it did. -/
def fnBandsSpec : ChangeSpec := { name := "fnBands", fn := fun _ => fun
  | [d1, d2] => { results := [.lit (.bool true)], args := [d1, d2] }
  | _ => none }
def fnBandsRow : OpenClaim := { program := "ytppfldobgemddaa", sum := "dd33dc21f34784582b7f81b0ce2099983859eb0fc491ee4e3cd4844a4b3931de", func := "loop.example/pub-g03435/laws.FnBands", spec := "fnBands", apart := false }
def FnBandsSaid : Prop := fnBandsRow.holds Try.pinned (OpenSpec.ofChange fnBandsSpec)

/-- ITS FALSE NEIGHBOUR: 'it returns false'. Refute it at one input. -/
def fnBandsWrong : ChangeSpec := { name := "fnBands", fn := fun _ => fun
  | [d1, d2] => { results := [.lit (.bool false)], args := [d1, d2] }
  | _ => none }
def FnBandsWrongFalsely : Prop := fnBandsRow.holds Try.pinned (OpenSpec.ofChange fnBandsWrong)

/-- 'laws.FnFrameSize': WHATEVER THE INPUT: true; the input reads as it did. -/
def fnFrameSizeSpec : ChangeSpec := { name := "fnFrameSize", fn := fun _ => fun
  | [d] => { results := [.lit (.bool true)], args := [d] }
  | _ => none }
def fnFrameSizeRow : OpenClaim := { program := "ytppfldobgemddaa", sum := "dd33dc21f34784582b7f81b0ce2099983859eb0fc491ee4e3cd4844a4b3931de", func := "loop.example/pub-g03435/laws.FnFrameSize", spec := "fnFrameSize", apart := false }
def FnFrameSizeSaid : Prop := fnFrameSizeRow.holds Try.pinned (OpenSpec.ofChange fnFrameSizeSpec)

/-- ITS FALSE NEIGHBOUR: 'it returns false'. Refute it at one input. -/
def fnFrameSizeWrong : ChangeSpec := { name := "fnFrameSize", fn := fun _ => fun
  | [d] => { results := [.lit (.bool false)], args := [d] }
  | _ => none }
def FnFrameSizeWrongFalsely : Prop := fnFrameSizeRow.holds Try.pinned (OpenSpec.ofChange fnFrameSizeWrong)

/-- 'laws.FnFields': WHATEVER THE INPUT: true; the input reads as it did. -/
def fnFieldsSpec : ChangeSpec := { name := "fnFields", fn := fun _ => fun
  | [d] => { results := [.lit (.bool true)], args := [d] }
  | _ => none }
def fnFieldsRow : OpenClaim := { program := "ytppfldobgemddaa", sum := "dd33dc21f34784582b7f81b0ce2099983859eb0fc491ee4e3cd4844a4b3931de", func := "loop.example/pub-g03435/laws.FnFields", spec := "fnFields", apart := false }
def FnFieldsSaid : Prop := fnFieldsRow.holds Try.pinned (OpenSpec.ofChange fnFieldsSpec)

/-- ITS FALSE NEIGHBOUR: 'it returns false'. Refute it at one input. -/
def fnFieldsWrong : ChangeSpec := { name := "fnFields", fn := fun _ => fun
  | [d] => { results := [.lit (.bool false)], args := [d] }
  | _ => none }
def FnFieldsWrongFalsely : Prop := fnFieldsRow.holds Try.pinned (OpenSpec.ofChange fnFieldsWrong)

/- THE SECOND FORM. 'bulk': how many values and letters a reading holds, each counted each time it is reached (what is shared counts as often as it is met; a slice's spare places count too). A statement '..UptoSaid' is the law's where the arguments, and the package variables that the reading takes, are together of bulk at most 1048576: NARROWER than '..Said'. Prove '..Said' where nothing that the law and all that it calls make is longer than what came in: it says more and counts as full. Else prove '..UptoSaid'. A law counts once. -/
mutual
def uptoBulk {H : Type} : DataW H → Nat
  | .lit (.string bytes) => bytes.length + 1
  | .lit _ => 1
  | .nil => 1
  | .ptr d => uptoBulk d + 1
  | .slice elems spare => uptoBulkAll elems + uptoBulkAll spare + 1
  | .agg parts => uptoBulkAll parts + 1
  | .iface _ d => uptoBulk d + 1
  | .map entries => uptoBulkEntries entries + 1
  | .held _ => 1
def uptoBulkAll {H : Type} : List (DataW H) → Nat
  | [] => 0
  | d :: r => uptoBulk d + uptoBulkAll r
def uptoBulkEntries {H : Type} : List (Lit × DataW H) → Nat
  | [] => 0
  | x :: r => uptoBulkEntry x + uptoBulkEntries r
def uptoBulkEntry {H : Type} : Lit × DataW H → Nat
  | (.string bytes, d) => bytes.length + uptoBulk d + 1
  | (_, d) => uptoBulk d + 1
 end
def uptoSmall : (H : Type) → List (DataW H) → Bool := fun _ ds => decide (uptoBulkAll ds ≤ 1048576)
def OpenSpec.upto (s : _root_.Go.ChangeSpec) : _root_.Go.OpenSpec := { _root_.Go.OpenSpec.ofChange s with cond := some uptoSmall }

/-- 'laws.FnRate', WHERE WHAT IT READS IS OF BULK AT MOST 1048576: true; the input reads as it did. -/
def fnRateUptoRow : OpenClaim := { program := "ytppfldobgemddaa", sum := "dd33dc21f34784582b7f81b0ce2099983859eb0fc491ee4e3cd4844a4b3931de", func := "loop.example/pub-g03435/laws.FnRate", spec := "fnRate", apart := false, narrowed := true }
def FnRateUptoSaid : Prop := fnRateUptoRow.holds Try.pinned (OpenSpec.upto fnRateSpec)

/-- 'laws.FnSlen', WHERE WHAT IT READS IS OF BULK AT MOST 1048576: true; the input reads as it did. -/
def fnSlenUptoRow : OpenClaim := { program := "ytppfldobgemddaa", sum := "dd33dc21f34784582b7f81b0ce2099983859eb0fc491ee4e3cd4844a4b3931de", func := "loop.example/pub-g03435/laws.FnSlen", spec := "fnSlen", apart := false, narrowed := true }
def FnSlenUptoSaid : Prop := fnSlenUptoRow.holds Try.pinned (OpenSpec.upto fnSlenSpec)

/-- 'laws.FnWords', WHERE WHAT IT READS IS OF BULK AT MOST 1048576: true; the input reads as it did. -/
def fnWordsUptoRow : OpenClaim := { program := "ytppfldobgemddaa", sum := "dd33dc21f34784582b7f81b0ce2099983859eb0fc491ee4e3cd4844a4b3931de", func := "loop.example/pub-g03435/laws.FnWords", spec := "fnWords", apart := false, narrowed := true }
def FnWordsUptoSaid : Prop := fnWordsUptoRow.holds Try.pinned (OpenSpec.upto fnWordsSpec)

/-- 'laws.FnBands', WHERE WHAT IT READS IS OF BULK AT MOST 1048576: true; the input reads as it did. -/
def fnBandsUptoRow : OpenClaim := { program := "ytppfldobgemddaa", sum := "dd33dc21f34784582b7f81b0ce2099983859eb0fc491ee4e3cd4844a4b3931de", func := "loop.example/pub-g03435/laws.FnBands", spec := "fnBands", apart := false, narrowed := true }
def FnBandsUptoSaid : Prop := fnBandsUptoRow.holds Try.pinned (OpenSpec.upto fnBandsSpec)

/-- 'laws.FnFrameSize', WHERE WHAT IT READS IS OF BULK AT MOST 1048576: true; the input reads as it did. -/
def fnFrameSizeUptoRow : OpenClaim := { program := "ytppfldobgemddaa", sum := "dd33dc21f34784582b7f81b0ce2099983859eb0fc491ee4e3cd4844a4b3931de", func := "loop.example/pub-g03435/laws.FnFrameSize", spec := "fnFrameSize", apart := false, narrowed := true }
def FnFrameSizeUptoSaid : Prop := fnFrameSizeUptoRow.holds Try.pinned (OpenSpec.upto fnFrameSizeSpec)

/-- 'laws.FnFields', WHERE WHAT IT READS IS OF BULK AT MOST 1048576: true; the input reads as it did. -/
def fnFieldsUptoRow : OpenClaim := { program := "ytppfldobgemddaa", sum := "dd33dc21f34784582b7f81b0ce2099983859eb0fc491ee4e3cd4844a4b3931de", func := "loop.example/pub-g03435/laws.FnFields", spec := "fnFields", apart := false, narrowed := true }
def FnFieldsUptoSaid : Prop := fnFieldsUptoRow.holds Try.pinned (OpenSpec.upto fnFieldsSpec)

end Rows
end Go.Proofs.Ytppfldobgemddaa
