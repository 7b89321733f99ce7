/-
  No cell of these rows narrows 'for every input' (looked for: loops, veiled, ifaces, maps, wideKeys, modest, calm, conditions, laid).
  DERIVED. THE GIVEN ROWS OF THIS SEAT. 2 by the template 'for every input the law returns true; each argument reads behind the call as it read before'; 0 by the template 'total and deterministic' (their statements: Qxb6630604aTotals.lean).
  GIVEN WITH THE SEED: the statements are not yours to turn. If you find one false, say at which input.
  Laid BY PROGRAM, IN A SANDBOX (cutbox-rows.mjs): the forced cells as the released guide's own fill.sh prints them over the translation 0da8fe2ae7264ab2… (all of the seat's roots in one cut). By AI agents, Wed Nov 11 2026. No macro, syntax, notation, axiom, sorry.
-/
import Derived.Test.Qxb6630604aChecked
import GoSem.Claim
import GoSem.ClaimJoined
import GoSem.ClaimMapViews
import Derived.JoinedTies
import Derived.KernelRfl
namespace Go.Proofs.Qxb6630604a
/- THE CELL 'sum', in the pinned program and in every row, IS THE sha256 OF THE DUMP (.gsa) THAT Qxb6630604aProg.lean LOADS. Nothing in Lean hashes anything: it is a label: what it is worth is what the hold of that sum in a sandbox is worth. -/
noncomputable def Try.pinned : Pinned := { name := "qxb6630604a", sum := "0da8fe2ae7264ab25a00e65f189152c48873ec3c8885a2264419a9487bb2df6e", checked := Try.checked }
namespace Rows
def none {H : Type} : Left H := { results := [], args := [] }

/-- 'zzlaws_root_b1.FnHexRuneMatchesPositionalValue': WHATEVER THE INPUT: true; the input reads as it did. -/
def fnHexRuneMatchesPositionalValueSpec : ChangeSpec := { name := "fnHexRuneMatchesPositionalValue", fn := fun _ => fun
  | [d] => { results := [.lit (.bool true)], args := [d] }
  | _ => none }
def fnHexRuneMatchesPositionalValueRow : OpenClaim := { program := "qxb6630604a", sum := "0da8fe2ae7264ab25a00e65f189152c48873ec3c8885a2264419a9487bb2df6e", func := "example.com/ready-reply/ready-reply/zzlaws_root_b1.FnHexRuneMatchesPositionalValue", spec := "fnHexRuneMatchesPositionalValue", apart := false }
def FnHexRuneMatchesPositionalValueSaid : Prop := fnHexRuneMatchesPositionalValueRow.holds Try.pinned (OpenSpec.ofChange fnHexRuneMatchesPositionalValueSpec)

/-- ITS FALSE NEIGHBOUR: 'it returns false'. Refute it at one input. -/
def fnHexRuneMatchesPositionalValueWrong : ChangeSpec := { name := "fnHexRuneMatchesPositionalValue", fn := fun _ => fun
  | [d] => { results := [.lit (.bool false)], args := [d] }
  | _ => none }
def FnHexRuneMatchesPositionalValueWrongFalsely : Prop := fnHexRuneMatchesPositionalValueRow.holds Try.pinned (OpenSpec.ofChange fnHexRuneMatchesPositionalValueWrong)

/-- 'zzlaws_root_b1.FnHexRuneSplitsAtAnyCutAndKeepsHexTail': WHATEVER THE INPUT: true; the input reads as it did. -/
def fnHexRuneSplitsAtAnyCutAndKeepsHexTailSpec : ChangeSpec := { name := "fnHexRuneSplitsAtAnyCutAndKeepsHexTail", fn := fun _ => fun
  | [d1, d2] => { results := [.lit (.bool true)], args := [d1, d2] }
  | _ => none }
def fnHexRuneSplitsAtAnyCutAndKeepsHexTailRow : OpenClaim := { program := "qxb6630604a", sum := "0da8fe2ae7264ab25a00e65f189152c48873ec3c8885a2264419a9487bb2df6e", func := "example.com/ready-reply/ready-reply/zzlaws_root_b1.FnHexRuneSplitsAtAnyCutAndKeepsHexTail", spec := "fnHexRuneSplitsAtAnyCutAndKeepsHexTail", apart := false }
def FnHexRuneSplitsAtAnyCutAndKeepsHexTailSaid : Prop := fnHexRuneSplitsAtAnyCutAndKeepsHexTailRow.holds Try.pinned (OpenSpec.ofChange fnHexRuneSplitsAtAnyCutAndKeepsHexTailSpec)

/-- ITS FALSE NEIGHBOUR: 'it returns false'. Refute it at one input. -/
def fnHexRuneSplitsAtAnyCutAndKeepsHexTailWrong : ChangeSpec := { name := "fnHexRuneSplitsAtAnyCutAndKeepsHexTail", fn := fun _ => fun
  | [d1, d2] => { results := [.lit (.bool false)], args := [d1, d2] }
  | _ => none }
def FnHexRuneSplitsAtAnyCutAndKeepsHexTailWrongFalsely : Prop := fnHexRuneSplitsAtAnyCutAndKeepsHexTailRow.holds Try.pinned (OpenSpec.ofChange fnHexRuneSplitsAtAnyCutAndKeepsHexTailWrong)

end Rows
end Go.Proofs.Qxb6630604a
