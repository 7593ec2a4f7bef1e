/-
  No cell of these rows narrows 'for every input' (looked for: loops, veiled, ifaces, maps, wideKeys, modest, calm, conditions, laid).
  DERIVED. THE GIVEN ROWS OF THIS SEAT. 12 by the template 'for every input the law returns true; each argument reads behind the call as it read before'; 0 by the template 'total and deterministic' (their statements: YtmkeakehimkacaaTotals.lean).
  GIVEN WITH THE SEED: the statements are not yours to turn. If you find one false, say at which input.
  Laid BY PROGRAM, IN A SANDBOX (cutbox-rows.mjs): the forced cells as the released guide's own fill.sh prints them over the translation 8c21fad3dd76e90f… (all of the seat's roots in one cut). By AI agents, Wed Nov 11 2026. No macro, syntax, notation, axiom, sorry.
-/
import Derived.Test.YtmkeakehimkacaaChecked
import GoSem.Claim
import GoSem.ClaimJoined
import GoSem.ClaimMapViews
import Derived.JoinedTies
import Derived.KernelRfl
namespace Go.Proofs.Ytmkeakehimkacaa
/- THE CELL 'sum', in the pinned program and in every row, IS THE sha256 OF THE DUMP (.gsa) THAT YtmkeakehimkacaaProg.lean LOADS. Nothing in Lean hashes anything: it is a label: what it is worth is what the hold of that sum in a sandbox is worth. -/
noncomputable def Try.pinned : Pinned := { name := "ytmkeakehimkacaa", sum := "8c21fad3dd76e90f7fa52a3fdc26ee34f0cad6ff6ee7f7c80cc0bc5638be8c42", checked := Try.checked }
namespace Rows
def none {H : Type} : Left H := { results := [], args := [] }

/-- 'laws.FnCenteredMod': WHATEVER THE INPUT: true; the input reads as it did. -/
def fnCenteredModSpec : ChangeSpec := { name := "fnCenteredMod", fn := fun _ => fun
  | [d] => { results := [.lit (.bool true)], args := [d] }
  | _ => none }
def fnCenteredModRow : OpenClaim := { program := "ytmkeakehimkacaa", sum := "8c21fad3dd76e90f7fa52a3fdc26ee34f0cad6ff6ee7f7c80cc0bc5638be8c42", func := "loop.example/pub-g03236/laws.FnCenteredMod", spec := "fnCenteredMod", inPlace := ["math/bits.Sub64"], apart := false }
def FnCenteredModSaid : Prop := fnCenteredModRow.holds Try.pinned (OpenSpec.ofChange fnCenteredModSpec)

/-- ITS FALSE NEIGHBOUR: 'it returns false'. Refute it at one input. -/
def fnCenteredModWrong : ChangeSpec := { name := "fnCenteredMod", fn := fun _ => fun
  | [d] => { results := [.lit (.bool false)], args := [d] }
  | _ => none }
def FnCenteredModWrongFalsely : Prop := fnCenteredModRow.holds Try.pinned (OpenSpec.ofChange fnCenteredModWrong)

/-- 'laws.FnInfinityNorm': WHATEVER THE INPUT: true; the input reads as it did. -/
def fnInfinityNormSpec : ChangeSpec := { name := "fnInfinityNorm", fn := fun _ => fun
  | [d] => { results := [.lit (.bool true)], args := [d] }
  | _ => none }
def fnInfinityNormRow : OpenClaim := { program := "ytmkeakehimkacaa", sum := "8c21fad3dd76e90f7fa52a3fdc26ee34f0cad6ff6ee7f7c80cc0bc5638be8c42", func := "loop.example/pub-g03236/laws.FnInfinityNorm", spec := "fnInfinityNorm", inPlace := ["math/bits.Sub64"], apart := false }
def FnInfinityNormSaid : Prop := fnInfinityNormRow.holds Try.pinned (OpenSpec.ofChange fnInfinityNormSpec)

/-- ITS FALSE NEIGHBOUR: 'it returns false'. Refute it at one input. -/
def fnInfinityNormWrong : ChangeSpec := { name := "fnInfinityNorm", fn := fun _ => fun
  | [d] => { results := [.lit (.bool false)], args := [d] }
  | _ => none }
def FnInfinityNormWrongFalsely : Prop := fnInfinityNormRow.holds Try.pinned (OpenSpec.ofChange fnInfinityNormWrong)

/-- 'laws.FnPower2Round': WHATEVER THE INPUT: true; the input reads as it did. -/
def fnPower2RoundSpec : ChangeSpec := { name := "fnPower2Round", fn := fun _ => fun
  | [d] => { results := [.lit (.bool true)], args := [d] }
  | _ => none }
def fnPower2RoundRow : OpenClaim := { program := "ytmkeakehimkacaa", sum := "8c21fad3dd76e90f7fa52a3fdc26ee34f0cad6ff6ee7f7c80cc0bc5638be8c42", func := "loop.example/pub-g03236/laws.FnPower2Round", spec := "fnPower2Round", inPlace := ["math/bits.Sub64"], apart := false }
def FnPower2RoundSaid : Prop := fnPower2RoundRow.holds Try.pinned (OpenSpec.ofChange fnPower2RoundSpec)

/-- ITS FALSE NEIGHBOUR: 'it returns false'. Refute it at one input. -/
def fnPower2RoundWrong : ChangeSpec := { name := "fnPower2Round", fn := fun _ => fun
  | [d] => { results := [.lit (.bool false)], args := [d] }
  | _ => none }
def FnPower2RoundWrongFalsely : Prop := fnPower2RoundRow.holds Try.pinned (OpenSpec.ofChange fnPower2RoundWrong)

/-- 'laws.FnPower2Back': WHATEVER THE INPUT: true; the input reads as it did. -/
def fnPower2BackSpec : ChangeSpec := { name := "fnPower2Back", fn := fun _ => fun
  | [d] => { results := [.lit (.bool true)], args := [d] }
  | _ => none }
def fnPower2BackRow : OpenClaim := { program := "ytmkeakehimkacaa", sum := "8c21fad3dd76e90f7fa52a3fdc26ee34f0cad6ff6ee7f7c80cc0bc5638be8c42", func := "loop.example/pub-g03236/laws.FnPower2Back", spec := "fnPower2Back", inPlace := ["math/bits.Sub64"], apart := false }
def FnPower2BackSaid : Prop := fnPower2BackRow.holds Try.pinned (OpenSpec.ofChange fnPower2BackSpec)

/-- ITS FALSE NEIGHBOUR: 'it returns false'. Refute it at one input. -/
def fnPower2BackWrong : ChangeSpec := { name := "fnPower2Back", fn := fun _ => fun
  | [d] => { results := [.lit (.bool false)], args := [d] }
  | _ => none }
def FnPower2BackWrongFalsely : Prop := fnPower2BackRow.holds Try.pinned (OpenSpec.ofChange fnPower2BackWrong)

/-- 'laws.FnDecompose32': WHATEVER THE INPUT: true; the input reads as it did. -/
def fnDecompose32Spec : ChangeSpec := { name := "fnDecompose32", fn := fun _ => fun
  | [d] => { results := [.lit (.bool true)], args := [d] }
  | _ => none }
def fnDecompose32Row : OpenClaim := { program := "ytmkeakehimkacaa", sum := "8c21fad3dd76e90f7fa52a3fdc26ee34f0cad6ff6ee7f7c80cc0bc5638be8c42", func := "loop.example/pub-g03236/laws.FnDecompose32", spec := "fnDecompose32", inPlace := ["math/bits.Sub64"], apart := false }
def FnDecompose32Said : Prop := fnDecompose32Row.holds Try.pinned (OpenSpec.ofChange fnDecompose32Spec)

/-- ITS FALSE NEIGHBOUR: 'it returns false'. Refute it at one input. -/
def fnDecompose32Wrong : ChangeSpec := { name := "fnDecompose32", fn := fun _ => fun
  | [d] => { results := [.lit (.bool false)], args := [d] }
  | _ => none }
def FnDecompose32WrongFalsely : Prop := fnDecompose32Row.holds Try.pinned (OpenSpec.ofChange fnDecompose32Wrong)

/-- 'laws.FnDecompose88': WHATEVER THE INPUT: true; the input reads as it did. -/
def fnDecompose88Spec : ChangeSpec := { name := "fnDecompose88", fn := fun _ => fun
  | [d] => { results := [.lit (.bool true)], args := [d] }
  | _ => none }
def fnDecompose88Row : OpenClaim := { program := "ytmkeakehimkacaa", sum := "8c21fad3dd76e90f7fa52a3fdc26ee34f0cad6ff6ee7f7c80cc0bc5638be8c42", func := "loop.example/pub-g03236/laws.FnDecompose88", spec := "fnDecompose88", inPlace := ["math/bits.Sub64"], apart := false }
def FnDecompose88Said : Prop := fnDecompose88Row.holds Try.pinned (OpenSpec.ofChange fnDecompose88Spec)

/-- ITS FALSE NEIGHBOUR: 'it returns false'. Refute it at one input. -/
def fnDecompose88Wrong : ChangeSpec := { name := "fnDecompose88", fn := fun _ => fun
  | [d] => { results := [.lit (.bool false)], args := [d] }
  | _ => none }
def FnDecompose88WrongFalsely : Prop := fnDecompose88Row.holds Try.pinned (OpenSpec.ofChange fnDecompose88Wrong)

/-- 'laws.FnHighBits32': WHATEVER THE INPUT: true; the input reads as it did. -/
def fnHighBits32Spec : ChangeSpec := { name := "fnHighBits32", fn := fun _ => fun
  | [d] => { results := [.lit (.bool true)], args := [d] }
  | _ => none }
def fnHighBits32Row : OpenClaim := { program := "ytmkeakehimkacaa", sum := "8c21fad3dd76e90f7fa52a3fdc26ee34f0cad6ff6ee7f7c80cc0bc5638be8c42", func := "loop.example/pub-g03236/laws.FnHighBits32", spec := "fnHighBits32", apart := false }
def FnHighBits32Said : Prop := fnHighBits32Row.holds Try.pinned (OpenSpec.ofChange fnHighBits32Spec)

/-- ITS FALSE NEIGHBOUR: 'it returns false'. Refute it at one input. -/
def fnHighBits32Wrong : ChangeSpec := { name := "fnHighBits32", fn := fun _ => fun
  | [d] => { results := [.lit (.bool false)], args := [d] }
  | _ => none }
def FnHighBits32WrongFalsely : Prop := fnHighBits32Row.holds Try.pinned (OpenSpec.ofChange fnHighBits32Wrong)

/-- 'laws.FnHighBits88': WHATEVER THE INPUT: true; the input reads as it did. -/
def fnHighBits88Spec : ChangeSpec := { name := "fnHighBits88", fn := fun _ => fun
  | [d] => { results := [.lit (.bool true)], args := [d] }
  | _ => none }
def fnHighBits88Row : OpenClaim := { program := "ytmkeakehimkacaa", sum := "8c21fad3dd76e90f7fa52a3fdc26ee34f0cad6ff6ee7f7c80cc0bc5638be8c42", func := "loop.example/pub-g03236/laws.FnHighBits88", spec := "fnHighBits88", apart := false }
def FnHighBits88Said : Prop := fnHighBits88Row.holds Try.pinned (OpenSpec.ofChange fnHighBits88Spec)

/-- ITS FALSE NEIGHBOUR: 'it returns false'. Refute it at one input. -/
def fnHighBits88Wrong : ChangeSpec := { name := "fnHighBits88", fn := fun _ => fun
  | [d] => { results := [.lit (.bool false)], args := [d] }
  | _ => none }
def FnHighBits88WrongFalsely : Prop := fnHighBits88Row.holds Try.pinned (OpenSpec.ofChange fnHighBits88Wrong)

/-- 'laws.FnUseHint32': WHATEVER THE INPUT: true; the input reads as it did. -/
def fnUseHint32Spec : ChangeSpec := { name := "fnUseHint32", fn := fun _ => fun
  | [d1, d2] => { results := [.lit (.bool true)], args := [d1, d2] }
  | _ => none }
def fnUseHint32Row : OpenClaim := { program := "ytmkeakehimkacaa", sum := "8c21fad3dd76e90f7fa52a3fdc26ee34f0cad6ff6ee7f7c80cc0bc5638be8c42", func := "loop.example/pub-g03236/laws.FnUseHint32", spec := "fnUseHint32", inPlace := ["math/bits.Sub64"], apart := false }
def FnUseHint32Said : Prop := fnUseHint32Row.holds Try.pinned (OpenSpec.ofChange fnUseHint32Spec)

/-- ITS FALSE NEIGHBOUR: 'it returns false'. Refute it at one input. -/
def fnUseHint32Wrong : ChangeSpec := { name := "fnUseHint32", fn := fun _ => fun
  | [d1, d2] => { results := [.lit (.bool false)], args := [d1, d2] }
  | _ => none }
def FnUseHint32WrongFalsely : Prop := fnUseHint32Row.holds Try.pinned (OpenSpec.ofChange fnUseHint32Wrong)

/-- 'laws.FnUseHint88': WHATEVER THE INPUT: true; the input reads as it did. -/
def fnUseHint88Spec : ChangeSpec := { name := "fnUseHint88", fn := fun _ => fun
  | [d1, d2] => { results := [.lit (.bool true)], args := [d1, d2] }
  | _ => none }
def fnUseHint88Row : OpenClaim := { program := "ytmkeakehimkacaa", sum := "8c21fad3dd76e90f7fa52a3fdc26ee34f0cad6ff6ee7f7c80cc0bc5638be8c42", func := "loop.example/pub-g03236/laws.FnUseHint88", spec := "fnUseHint88", inPlace := ["math/bits.Sub64"], apart := false }
def FnUseHint88Said : Prop := fnUseHint88Row.holds Try.pinned (OpenSpec.ofChange fnUseHint88Spec)

/-- ITS FALSE NEIGHBOUR: 'it returns false'. Refute it at one input. -/
def fnUseHint88Wrong : ChangeSpec := { name := "fnUseHint88", fn := fun _ => fun
  | [d1, d2] => { results := [.lit (.bool false)], args := [d1, d2] }
  | _ => none }
def FnUseHint88WrongFalsely : Prop := fnUseHint88Row.holds Try.pinned (OpenSpec.ofChange fnUseHint88Wrong)

/-- 'laws.FnMakeHint32': WHATEVER THE INPUT: true; the input reads as it did. -/
def fnMakeHint32Spec : ChangeSpec := { name := "fnMakeHint32", fn := fun _ => fun
  | [d1, d2, d3] => { results := [.lit (.bool true)], args := [d1, d2, d3] }
  | _ => none }
def fnMakeHint32Row : OpenClaim := { program := "ytmkeakehimkacaa", sum := "8c21fad3dd76e90f7fa52a3fdc26ee34f0cad6ff6ee7f7c80cc0bc5638be8c42", func := "loop.example/pub-g03236/laws.FnMakeHint32", spec := "fnMakeHint32", inPlace := ["math/bits.Sub64"], apart := false }
def FnMakeHint32Said : Prop := fnMakeHint32Row.holds Try.pinned (OpenSpec.ofChange fnMakeHint32Spec)

/-- ITS FALSE NEIGHBOUR: 'it returns false'. Refute it at one input. -/
def fnMakeHint32Wrong : ChangeSpec := { name := "fnMakeHint32", fn := fun _ => fun
  | [d1, d2, d3] => { results := [.lit (.bool false)], args := [d1, d2, d3] }
  | _ => none }
def FnMakeHint32WrongFalsely : Prop := fnMakeHint32Row.holds Try.pinned (OpenSpec.ofChange fnMakeHint32Wrong)

/-- 'laws.FnMakeHint88': WHATEVER THE INPUT: true; the input reads as it did. -/
def fnMakeHint88Spec : ChangeSpec := { name := "fnMakeHint88", fn := fun _ => fun
  | [d1, d2, d3] => { results := [.lit (.bool true)], args := [d1, d2, d3] }
  | _ => none }
def fnMakeHint88Row : OpenClaim := { program := "ytmkeakehimkacaa", sum := "8c21fad3dd76e90f7fa52a3fdc26ee34f0cad6ff6ee7f7c80cc0bc5638be8c42", func := "loop.example/pub-g03236/laws.FnMakeHint88", spec := "fnMakeHint88", inPlace := ["math/bits.Sub64"], apart := false }
def FnMakeHint88Said : Prop := fnMakeHint88Row.holds Try.pinned (OpenSpec.ofChange fnMakeHint88Spec)

/-- ITS FALSE NEIGHBOUR: 'it returns false'. Refute it at one input. -/
def fnMakeHint88Wrong : ChangeSpec := { name := "fnMakeHint88", fn := fun _ => fun
  | [d1, d2, d3] => { results := [.lit (.bool false)], args := [d1, d2, d3] }
  | _ => none }
def FnMakeHint88WrongFalsely : Prop := fnMakeHint88Row.holds Try.pinned (OpenSpec.ofChange fnMakeHint88Wrong)

/- THE SECOND FORM. 'bulk': how many values and letters a reading holds, each counted each time it is reached (what is shared counts as often as it is met; a slice's spare places count too). A statement '..UptoSaid' is the law's where the arguments, and the package variables that the reading takes, are together of bulk at most 1048576: NARROWER than '..Said'. Prove '..Said' where nothing that the law and all that it calls make is longer than what came in: it says more and counts as full. Else prove '..UptoSaid'. A law counts once. -/
mutual
def uptoBulk {H : Type} : DataW H → Nat
  | .lit (.string bytes) => bytes.length + 1
  | .lit _ => 1
  | .nil => 1
  | .ptr d => uptoBulk d + 1
  | .slice elems spare => uptoBulkAll elems + uptoBulkAll spare + 1
  | .agg parts => uptoBulkAll parts + 1
  | .iface _ d => uptoBulk d + 1
  | .map entries => uptoBulkEntries entries + 1
  | .held _ => 1
def uptoBulkAll {H : Type} : List (DataW H) → Nat
  | [] => 0
  | d :: r => uptoBulk d + uptoBulkAll r
def uptoBulkEntries {H : Type} : List (Lit × DataW H) → Nat
  | [] => 0
  | x :: r => uptoBulkEntry x + uptoBulkEntries r
def uptoBulkEntry {H : Type} : Lit × DataW H → Nat
  | (.string bytes, d) => bytes.length + uptoBulk d + 1
  | (_, d) => uptoBulk d + 1
 end
def uptoSmall : (H : Type) → List (DataW H) → Bool := fun _ ds => decide (uptoBulkAll ds ≤ 1048576)
def OpenSpec.upto (s : _root_.Go.ChangeSpec) : _root_.Go.OpenSpec := { _root_.Go.OpenSpec.ofChange s with cond := some uptoSmall }

/-- 'laws.FnCenteredMod', WHERE WHAT IT READS IS OF BULK AT MOST 1048576: true; the input reads as it did. -/
def fnCenteredModUptoRow : OpenClaim := { program := "ytmkeakehimkacaa", sum := "8c21fad3dd76e90f7fa52a3fdc26ee34f0cad6ff6ee7f7c80cc0bc5638be8c42", func := "loop.example/pub-g03236/laws.FnCenteredMod", spec := "fnCenteredMod", inPlace := ["math/bits.Sub64"], apart := false, narrowed := true }
def FnCenteredModUptoSaid : Prop := fnCenteredModUptoRow.holds Try.pinned (OpenSpec.upto fnCenteredModSpec)

/-- 'laws.FnInfinityNorm', WHERE WHAT IT READS IS OF BULK AT MOST 1048576: true; the input reads as it did. -/
def fnInfinityNormUptoRow : OpenClaim := { program := "ytmkeakehimkacaa", sum := "8c21fad3dd76e90f7fa52a3fdc26ee34f0cad6ff6ee7f7c80cc0bc5638be8c42", func := "loop.example/pub-g03236/laws.FnInfinityNorm", spec := "fnInfinityNorm", inPlace := ["math/bits.Sub64"], apart := false, narrowed := true }
def FnInfinityNormUptoSaid : Prop := fnInfinityNormUptoRow.holds Try.pinned (OpenSpec.upto fnInfinityNormSpec)

/-- 'laws.FnPower2Round', WHERE WHAT IT READS IS OF BULK AT MOST 1048576: true; the input reads as it did. -/
def fnPower2RoundUptoRow : OpenClaim := { program := "ytmkeakehimkacaa", sum := "8c21fad3dd76e90f7fa52a3fdc26ee34f0cad6ff6ee7f7c80cc0bc5638be8c42", func := "loop.example/pub-g03236/laws.FnPower2Round", spec := "fnPower2Round", inPlace := ["math/bits.Sub64"], apart := false, narrowed := true }
def FnPower2RoundUptoSaid : Prop := fnPower2RoundUptoRow.holds Try.pinned (OpenSpec.upto fnPower2RoundSpec)

/-- 'laws.FnPower2Back', WHERE WHAT IT READS IS OF BULK AT MOST 1048576: true; the input reads as it did. -/
def fnPower2BackUptoRow : OpenClaim := { program := "ytmkeakehimkacaa", sum := "8c21fad3dd76e90f7fa52a3fdc26ee34f0cad6ff6ee7f7c80cc0bc5638be8c42", func := "loop.example/pub-g03236/laws.FnPower2Back", spec := "fnPower2Back", inPlace := ["math/bits.Sub64"], apart := false, narrowed := true }
def FnPower2BackUptoSaid : Prop := fnPower2BackUptoRow.holds Try.pinned (OpenSpec.upto fnPower2BackSpec)

/-- 'laws.FnDecompose32', WHERE WHAT IT READS IS OF BULK AT MOST 1048576: true; the input reads as it did. -/
def fnDecompose32UptoRow : OpenClaim := { program := "ytmkeakehimkacaa", sum := "8c21fad3dd76e90f7fa52a3fdc26ee34f0cad6ff6ee7f7c80cc0bc5638be8c42", func := "loop.example/pub-g03236/laws.FnDecompose32", spec := "fnDecompose32", inPlace := ["math/bits.Sub64"], apart := false, narrowed := true }
def FnDecompose32UptoSaid : Prop := fnDecompose32UptoRow.holds Try.pinned (OpenSpec.upto fnDecompose32Spec)

/-- 'laws.FnDecompose88', WHERE WHAT IT READS IS OF BULK AT MOST 1048576: true; the input reads as it did. -/
def fnDecompose88UptoRow : OpenClaim := { program := "ytmkeakehimkacaa", sum := "8c21fad3dd76e90f7fa52a3fdc26ee34f0cad6ff6ee7f7c80cc0bc5638be8c42", func := "loop.example/pub-g03236/laws.FnDecompose88", spec := "fnDecompose88", inPlace := ["math/bits.Sub64"], apart := false, narrowed := true }
def FnDecompose88UptoSaid : Prop := fnDecompose88UptoRow.holds Try.pinned (OpenSpec.upto fnDecompose88Spec)

/-- 'laws.FnHighBits32', WHERE WHAT IT READS IS OF BULK AT MOST 1048576: true; the input reads as it did. -/
def fnHighBits32UptoRow : OpenClaim := { program := "ytmkeakehimkacaa", sum := "8c21fad3dd76e90f7fa52a3fdc26ee34f0cad6ff6ee7f7c80cc0bc5638be8c42", func := "loop.example/pub-g03236/laws.FnHighBits32", spec := "fnHighBits32", apart := false, narrowed := true }
def FnHighBits32UptoSaid : Prop := fnHighBits32UptoRow.holds Try.pinned (OpenSpec.upto fnHighBits32Spec)

/-- 'laws.FnHighBits88', WHERE WHAT IT READS IS OF BULK AT MOST 1048576: true; the input reads as it did. -/
def fnHighBits88UptoRow : OpenClaim := { program := "ytmkeakehimkacaa", sum := "8c21fad3dd76e90f7fa52a3fdc26ee34f0cad6ff6ee7f7c80cc0bc5638be8c42", func := "loop.example/pub-g03236/laws.FnHighBits88", spec := "fnHighBits88", apart := false, narrowed := true }
def FnHighBits88UptoSaid : Prop := fnHighBits88UptoRow.holds Try.pinned (OpenSpec.upto fnHighBits88Spec)

/-- 'laws.FnUseHint32', WHERE WHAT IT READS IS OF BULK AT MOST 1048576: true; the input reads as it did. -/
def fnUseHint32UptoRow : OpenClaim := { program := "ytmkeakehimkacaa", sum := "8c21fad3dd76e90f7fa52a3fdc26ee34f0cad6ff6ee7f7c80cc0bc5638be8c42", func := "loop.example/pub-g03236/laws.FnUseHint32", spec := "fnUseHint32", inPlace := ["math/bits.Sub64"], apart := false, narrowed := true }
def FnUseHint32UptoSaid : Prop := fnUseHint32UptoRow.holds Try.pinned (OpenSpec.upto fnUseHint32Spec)

/-- 'laws.FnUseHint88', WHERE WHAT IT READS IS OF BULK AT MOST 1048576: true; the input reads as it did. -/
def fnUseHint88UptoRow : OpenClaim := { program := "ytmkeakehimkacaa", sum := "8c21fad3dd76e90f7fa52a3fdc26ee34f0cad6ff6ee7f7c80cc0bc5638be8c42", func := "loop.example/pub-g03236/laws.FnUseHint88", spec := "fnUseHint88", inPlace := ["math/bits.Sub64"], apart := false, narrowed := true }
def FnUseHint88UptoSaid : Prop := fnUseHint88UptoRow.holds Try.pinned (OpenSpec.upto fnUseHint88Spec)

/-- 'laws.FnMakeHint32', WHERE WHAT IT READS IS OF BULK AT MOST 1048576: true; the input reads as it did. -/
def fnMakeHint32UptoRow : OpenClaim := { program := "ytmkeakehimkacaa", sum := "8c21fad3dd76e90f7fa52a3fdc26ee34f0cad6ff6ee7f7c80cc0bc5638be8c42", func := "loop.example/pub-g03236/laws.FnMakeHint32", spec := "fnMakeHint32", inPlace := ["math/bits.Sub64"], apart := false, narrowed := true }
def FnMakeHint32UptoSaid : Prop := fnMakeHint32UptoRow.holds Try.pinned (OpenSpec.upto fnMakeHint32Spec)

/-- 'laws.FnMakeHint88', WHERE WHAT IT READS IS OF BULK AT MOST 1048576: true; the input reads as it did. -/
def fnMakeHint88UptoRow : OpenClaim := { program := "ytmkeakehimkacaa", sum := "8c21fad3dd76e90f7fa52a3fdc26ee34f0cad6ff6ee7f7c80cc0bc5638be8c42", func := "loop.example/pub-g03236/laws.FnMakeHint88", spec := "fnMakeHint88", inPlace := ["math/bits.Sub64"], apart := false, narrowed := true }
def FnMakeHint88UptoSaid : Prop := fnMakeHint88UptoRow.holds Try.pinned (OpenSpec.upto fnMakeHint88Spec)

end Rows
end Go.Proofs.Ytmkeakehimkacaa
