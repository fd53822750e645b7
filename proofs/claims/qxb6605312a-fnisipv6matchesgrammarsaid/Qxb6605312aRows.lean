/-
  No cell of these rows narrows 'for every input' (looked for: loops, veiled, ifaces, maps, wideKeys, modest, calm, conditions, laid).
  DERIVED. THE GIVEN ROWS OF THIS SEAT. 4 by the template 'for every input the law returns true; each argument reads behind the call as it read before'; 0 by the template 'total and deterministic' (their statements: Qxb6605312aTotals.lean).
  GIVEN WITH THE SEED: the statements are not yours to turn. If you find one false, say at which input.
  Laid BY PROGRAM, IN A SANDBOX (cutbox-rows.mjs): the forced cells as the released guide's own fill.sh prints them over the translation c2468efc2c0befde… (all of the seat's roots in one cut). By AI agents, Wed Nov 11 2026. No macro, syntax, notation, axiom, sorry.
-/
import Derived.Test.Qxb6605312aChecked
import GoSem.Claim
import GoSem.ClaimJoined
import GoSem.ClaimMapViews
import Derived.JoinedTies
import Derived.KernelRfl
namespace Go.Proofs.Qxb6605312a
/- THE CELL 'sum', in the pinned program and in every row, IS THE sha256 OF THE DUMP (.gsa) THAT Qxb6605312aProg.lean LOADS. Nothing in Lean hashes anything: it is a label: what it is worth is what the hold of that sum in a sandbox is worth. -/
noncomputable def Try.pinned : Pinned := { name := "qxb6605312a", sum := "c2468efc2c0befde716d2e08c0a09300b0d65bfad4f09fe2f330fe6193a1bffa", checked := Try.checked }
namespace Rows
def none {H : Type} : Left H := { results := [], args := [] }

/-- 'zzlaws_root_b1.FnIsIPv6MatchesGrammar': WHATEVER THE INPUT: true; the input reads as it did. -/
def fnIsIPv6MatchesGrammarSpec : ChangeSpec := { name := "fnIsIPv6MatchesGrammar", fn := fun _ => fun
  | [d] => { results := [.lit (.bool true)], args := [d] }
  | _ => none }
def fnIsIPv6MatchesGrammarRow : OpenClaim := { program := "qxb6605312a", sum := "c2468efc2c0befde716d2e08c0a09300b0d65bfad4f09fe2f330fe6193a1bffa", func := "example.com/hellowire/hellowire/zzlaws_root_b1.FnIsIPv6MatchesGrammar", spec := "fnIsIPv6MatchesGrammar", inPlace := ["internal/bytealg.IndexByte"], apart := false }
def FnIsIPv6MatchesGrammarSaid : Prop := fnIsIPv6MatchesGrammarRow.holds Try.pinned (OpenSpec.ofChange fnIsIPv6MatchesGrammarSpec)

/-- ITS FALSE NEIGHBOUR: 'it returns false'. Refute it at one input. -/
def fnIsIPv6MatchesGrammarWrong : ChangeSpec := { name := "fnIsIPv6MatchesGrammar", fn := fun _ => fun
  | [d] => { results := [.lit (.bool false)], args := [d] }
  | _ => none }
def FnIsIPv6MatchesGrammarWrongFalsely : Prop := fnIsIPv6MatchesGrammarRow.holds Try.pinned (OpenSpec.ofChange fnIsIPv6MatchesGrammarWrong)

/-- 'zzlaws_root_b1.FnIsIPv6AcceptsByGroupCount': WHATEVER THE INPUT: true; the input reads as it did. -/
def fnIsIPv6AcceptsByGroupCountSpec : ChangeSpec := { name := "fnIsIPv6AcceptsByGroupCount", fn := fun _ => fun
  | [d1, d2, d3, d4, d5, d6] => { results := [.lit (.bool true)], args := [d1, d2, d3, d4, d5, d6] }
  | _ => none }
def fnIsIPv6AcceptsByGroupCountRow : OpenClaim := { program := "qxb6605312a", sum := "c2468efc2c0befde716d2e08c0a09300b0d65bfad4f09fe2f330fe6193a1bffa", func := "example.com/hellowire/hellowire/zzlaws_root_b1.FnIsIPv6AcceptsByGroupCount", spec := "fnIsIPv6AcceptsByGroupCount", inPlace := ["internal/bytealg.IndexByte"], apart := false }
def FnIsIPv6AcceptsByGroupCountSaid : Prop := fnIsIPv6AcceptsByGroupCountRow.holds Try.pinned (OpenSpec.ofChange fnIsIPv6AcceptsByGroupCountSpec)

/-- ITS FALSE NEIGHBOUR: 'it returns false'. Refute it at one input. -/
def fnIsIPv6AcceptsByGroupCountWrong : ChangeSpec := { name := "fnIsIPv6AcceptsByGroupCount", fn := fun _ => fun
  | [d1, d2, d3, d4, d5, d6] => { results := [.lit (.bool false)], args := [d1, d2, d3, d4, d5, d6] }
  | _ => none }
def FnIsIPv6AcceptsByGroupCountWrongFalsely : Prop := fnIsIPv6AcceptsByGroupCountRow.holds Try.pinned (OpenSpec.ofChange fnIsIPv6AcceptsByGroupCountWrong)

/-- 'zzlaws_root_b1.FnFrameExtensionsFramesExactly': WHATEVER THE INPUT: true; the input reads as it did. -/
def fnFrameExtensionsFramesExactlySpec : ChangeSpec := { name := "fnFrameExtensionsFramesExactly", fn := fun _ => fun
  | [d1, d2, d3] => { results := [.lit (.bool true)], args := [d1, d2, d3] }
  | _ => none }
def fnFrameExtensionsFramesExactlyRow : OpenClaim := { program := "qxb6605312a", sum := "c2468efc2c0befde716d2e08c0a09300b0d65bfad4f09fe2f330fe6193a1bffa", func := "example.com/hellowire/hellowire/zzlaws_root_b1.FnFrameExtensionsFramesExactly", spec := "fnFrameExtensionsFramesExactly", apart := false }
def FnFrameExtensionsFramesExactlySaid : Prop := fnFrameExtensionsFramesExactlyRow.holds Try.pinned (OpenSpec.ofChange fnFrameExtensionsFramesExactlySpec)

/-- ITS FALSE NEIGHBOUR: 'it returns false'. Refute it at one input. -/
def fnFrameExtensionsFramesExactlyWrong : ChangeSpec := { name := "fnFrameExtensionsFramesExactly", fn := fun _ => fun
  | [d1, d2, d3] => { results := [.lit (.bool false)], args := [d1, d2, d3] }
  | _ => none }
def FnFrameExtensionsFramesExactlyWrongFalsely : Prop := fnFrameExtensionsFramesExactlyRow.holds Try.pinned (OpenSpec.ofChange fnFrameExtensionsFramesExactlyWrong)

/-- 'zzlaws_root_b1.FnFrameExtensionsReadsBackWritten': WHATEVER THE INPUT: true; the input reads as it did. -/
def fnFrameExtensionsReadsBackWrittenSpec : ChangeSpec := { name := "fnFrameExtensionsReadsBackWritten", fn := fun _ => fun
  | [d1, d2, d3] => { results := [.lit (.bool true)], args := [d1, d2, d3] }
  | _ => none }
def fnFrameExtensionsReadsBackWrittenRow : OpenClaim := { program := "qxb6605312a", sum := "c2468efc2c0befde716d2e08c0a09300b0d65bfad4f09fe2f330fe6193a1bffa", func := "example.com/hellowire/hellowire/zzlaws_root_b1.FnFrameExtensionsReadsBackWritten", spec := "fnFrameExtensionsReadsBackWritten", apart := false }
def FnFrameExtensionsReadsBackWrittenSaid : Prop := fnFrameExtensionsReadsBackWrittenRow.holds Try.pinned (OpenSpec.ofChange fnFrameExtensionsReadsBackWrittenSpec)

/-- ITS FALSE NEIGHBOUR: 'it returns false'. Refute it at one input. -/
def fnFrameExtensionsReadsBackWrittenWrong : ChangeSpec := { name := "fnFrameExtensionsReadsBackWritten", fn := fun _ => fun
  | [d1, d2, d3] => { results := [.lit (.bool false)], args := [d1, d2, d3] }
  | _ => none }
def FnFrameExtensionsReadsBackWrittenWrongFalsely : Prop := fnFrameExtensionsReadsBackWrittenRow.holds Try.pinned (OpenSpec.ofChange fnFrameExtensionsReadsBackWrittenWrong)

end Rows
end Go.Proofs.Qxb6605312a
