/-
  No cell of these rows narrows 'for every input' (looked for: loops, veiled, ifaces, maps, wideKeys, modest, calm, conditions, laid).
  DERIVED. THE GIVEN ROWS OF THIS SEAT. 4 by the template 'for every input the law returns true; each argument reads behind the call as it read before'; 0 by the template 'total and deterministic' (their statements: YtdllbnecbbggfaaTotals.lean).
  GIVEN WITH THE SEED: the statements are not yours to turn. If you find one false, say at which input.
  Laid BY PROGRAM, IN A SANDBOX (cutbox-rows.mjs): the forced cells as the released guide's own fill.sh prints them over the translation b696495664536326… (all of the seat's roots in one cut). By AI agents, Wed Nov 11 2026. No macro, syntax, notation, axiom, sorry.
-/
import Derived.Test.YtdllbnecbbggfaaChecked
import GoSem.Claim
import GoSem.ClaimJoined
import GoSem.ClaimMapViews
import Derived.JoinedTies
import Derived.KernelRfl
namespace Go.Proofs.Ytdllbnecbbggfaa
/- THE CELL 'sum', in the pinned program and in every row, IS THE sha256 OF THE DUMP (.gsa) THAT YtdllbnecbbggfaaProg.lean LOADS. Nothing in Lean hashes anything: it is a label: what it is worth is what the hold of that sum in a sandbox is worth. -/
noncomputable def Try.pinned : Pinned := { name := "ytdllbnecbbggfaa", sum := "b6964956645363263ff6168e5a08cca9b077efb45c92ba0b3025dd0601c8bcc4", checked := Try.checked }
namespace Rows
def none {H : Type} : Left H := { results := [], args := [] }

/-- 'laws.FnGjEscapeAny': WHATEVER THE INPUT: true; the input reads as it did. -/
def fnGjEscapeAnySpec : ChangeSpec := { name := "fnGjEscapeAny", fn := fun _ => fun
  | [d1, d2] => { results := [.lit (.bool true)], args := [d1, d2] }
  | _ => none }
def fnGjEscapeAnyRow : OpenClaim := { program := "ytdllbnecbbggfaa", sum := "b6964956645363263ff6168e5a08cca9b077efb45c92ba0b3025dd0601c8bcc4", func := "pub-tetrapla/laws.FnGjEscapeAny", spec := "fnGjEscapeAny", apart := false }
def FnGjEscapeAnySaid : Prop := fnGjEscapeAnyRow.holds Try.pinned (OpenSpec.ofChange fnGjEscapeAnySpec)

/-- ITS FALSE NEIGHBOUR: 'it returns false'. Refute it at one input. -/
def fnGjEscapeAnyWrong : ChangeSpec := { name := "fnGjEscapeAny", fn := fun _ => fun
  | [d1, d2] => { results := [.lit (.bool false)], args := [d1, d2] }
  | _ => none }
def FnGjEscapeAnyWrongFalsely : Prop := fnGjEscapeAnyRow.holds Try.pinned (OpenSpec.ofChange fnGjEscapeAnyWrong)

/-- 'laws.FnPrSpec': WHATEVER THE INPUT: true; the input reads as it did. -/
def fnPrSpecSpec : ChangeSpec := { name := "fnPrSpec", fn := fun _ => fun
  | [d] => { results := [.lit (.bool true)], args := [d] }
  | _ => none }
def fnPrSpecRow : OpenClaim := { program := "ytdllbnecbbggfaa", sum := "b6964956645363263ff6168e5a08cca9b077efb45c92ba0b3025dd0601c8bcc4", func := "pub-tetrapla/laws.FnPrSpec", spec := "fnPrSpec", recurses := true, apart := false }
def FnPrSpecSaid : Prop := fnPrSpecRow.holds Try.pinned (OpenSpec.ofChange fnPrSpecSpec)

/-- ITS FALSE NEIGHBOUR: 'it returns false'. Refute it at one input. -/
def fnPrSpecWrong : ChangeSpec := { name := "fnPrSpec", fn := fun _ => fun
  | [d] => { results := [.lit (.bool false)], args := [d] }
  | _ => none }
def FnPrSpecWrongFalsely : Prop := fnPrSpecRow.holds Try.pinned (OpenSpec.ofChange fnPrSpecWrong)

/-- 'laws.FnPrColorBare': WHATEVER THE INPUT: true; the input reads as it did. -/
def fnPrColorBareSpec : ChangeSpec := { name := "fnPrColorBare", fn := fun _ => fun
  | [d] => { results := [.lit (.bool true)], args := [d] }
  | _ => none }
def fnPrColorBareRow : OpenClaim := { program := "ytdllbnecbbggfaa", sum := "b6964956645363263ff6168e5a08cca9b077efb45c92ba0b3025dd0601c8bcc4", func := "pub-tetrapla/laws.FnPrColorBare", spec := "fnPrColorBare", unfollowed := true, recurses := true, apart := false }
def FnPrColorBareSaid : Prop := fnPrColorBareRow.holds Try.pinned (OpenSpec.ofChange fnPrColorBareSpec)

/-- ITS FALSE NEIGHBOUR: 'it returns false'. Refute it at one input. -/
def fnPrColorBareWrong : ChangeSpec := { name := "fnPrColorBare", fn := fun _ => fun
  | [d] => { results := [.lit (.bool false)], args := [d] }
  | _ => none }
def FnPrColorBareWrongFalsely : Prop := fnPrColorBareRow.holds Try.pinned (OpenSpec.ofChange fnPrColorBareWrong)

/-- 'laws.FnGjValidWord': WHATEVER THE INPUT: true; the input reads as it did. -/
def fnGjValidWordSpec : ChangeSpec := { name := "fnGjValidWord", fn := fun _ => fun
  | [d] => { results := [.lit (.bool true)], args := [d] }
  | _ => none }
def fnGjValidWordRow : OpenClaim := { program := "ytdllbnecbbggfaa", sum := "b6964956645363263ff6168e5a08cca9b077efb45c92ba0b3025dd0601c8bcc4", func := "pub-tetrapla/laws.FnGjValidWord", spec := "fnGjValidWord", recurses := true, apart := false }
def FnGjValidWordSaid : Prop := fnGjValidWordRow.holds Try.pinned (OpenSpec.ofChange fnGjValidWordSpec)

/-- ITS FALSE NEIGHBOUR: 'it returns false'. Refute it at one input. -/
def fnGjValidWordWrong : ChangeSpec := { name := "fnGjValidWord", fn := fun _ => fun
  | [d] => { results := [.lit (.bool false)], args := [d] }
  | _ => none }
def FnGjValidWordWrongFalsely : Prop := fnGjValidWordRow.holds Try.pinned (OpenSpec.ofChange fnGjValidWordWrong)

/- THE SECOND FORM. 'bulk': how many values and letters a reading holds, each counted each time it is reached (what is shared counts as often as it is met; a slice's spare places count too). A statement '..UptoSaid' is the law's where the arguments, and the package variables that the reading takes, are together of bulk at most 1048576: NARROWER than '..Said'. Prove '..Said' where nothing that the law and all that it calls make is longer than what came in: it says more and counts as full. Else prove '..UptoSaid'. A law counts once. -/
mutual
def uptoBulk {H : Type} : DataW H → Nat
  | .lit (.string bytes) => bytes.length + 1
  | .lit _ => 1
  | .nil => 1
  | .ptr d => uptoBulk d + 1
  | .slice elems spare => uptoBulkAll elems + uptoBulkAll spare + 1
  | .agg parts => uptoBulkAll parts + 1
  | .iface _ d => uptoBulk d + 1
  | .map entries => uptoBulkEntries entries + 1
  | .held _ => 1
def uptoBulkAll {H : Type} : List (DataW H) → Nat
  | [] => 0
  | d :: r => uptoBulk d + uptoBulkAll r
def uptoBulkEntries {H : Type} : List (Lit × DataW H) → Nat
  | [] => 0
  | x :: r => uptoBulkEntry x + uptoBulkEntries r
def uptoBulkEntry {H : Type} : Lit × DataW H → Nat
  | (.string bytes, d) => bytes.length + uptoBulk d + 1
  | (_, d) => uptoBulk d + 1
 end
def uptoSmall : (H : Type) → List (DataW H) → Bool := fun _ ds => decide (uptoBulkAll ds ≤ 1048576)
def OpenSpec.upto (s : _root_.Go.ChangeSpec) : _root_.Go.OpenSpec := { _root_.Go.OpenSpec.ofChange s with cond := some uptoSmall }

/-- 'laws.FnGjEscapeAny', WHERE WHAT IT READS IS OF BULK AT MOST 1048576: true; the input reads as it did. -/
def fnGjEscapeAnyUptoRow : OpenClaim := { program := "ytdllbnecbbggfaa", sum := "b6964956645363263ff6168e5a08cca9b077efb45c92ba0b3025dd0601c8bcc4", func := "pub-tetrapla/laws.FnGjEscapeAny", spec := "fnGjEscapeAny", apart := false, narrowed := true }
def FnGjEscapeAnyUptoSaid : Prop := fnGjEscapeAnyUptoRow.holds Try.pinned (OpenSpec.upto fnGjEscapeAnySpec)

/-- 'laws.FnPrSpec', WHERE WHAT IT READS IS OF BULK AT MOST 1048576: true; the input reads as it did. -/
def fnPrSpecUptoRow : OpenClaim := { program := "ytdllbnecbbggfaa", sum := "b6964956645363263ff6168e5a08cca9b077efb45c92ba0b3025dd0601c8bcc4", func := "pub-tetrapla/laws.FnPrSpec", spec := "fnPrSpec", recurses := true, apart := false, narrowed := true }
def FnPrSpecUptoSaid : Prop := fnPrSpecUptoRow.holds Try.pinned (OpenSpec.upto fnPrSpecSpec)

/-- 'laws.FnPrColorBare', WHERE WHAT IT READS IS OF BULK AT MOST 1048576: true; the input reads as it did. -/
def fnPrColorBareUptoRow : OpenClaim := { program := "ytdllbnecbbggfaa", sum := "b6964956645363263ff6168e5a08cca9b077efb45c92ba0b3025dd0601c8bcc4", func := "pub-tetrapla/laws.FnPrColorBare", spec := "fnPrColorBare", unfollowed := true, recurses := true, apart := false, narrowed := true }
def FnPrColorBareUptoSaid : Prop := fnPrColorBareUptoRow.holds Try.pinned (OpenSpec.upto fnPrColorBareSpec)

/-- 'laws.FnGjValidWord', WHERE WHAT IT READS IS OF BULK AT MOST 1048576: true; the input reads as it did. -/
def fnGjValidWordUptoRow : OpenClaim := { program := "ytdllbnecbbggfaa", sum := "b6964956645363263ff6168e5a08cca9b077efb45c92ba0b3025dd0601c8bcc4", func := "pub-tetrapla/laws.FnGjValidWord", spec := "fnGjValidWord", recurses := true, apart := false, narrowed := true }
def FnGjValidWordUptoSaid : Prop := fnGjValidWordUptoRow.holds Try.pinned (OpenSpec.upto fnGjValidWordSpec)

end Rows
end Go.Proofs.Ytdllbnecbbggfaa
