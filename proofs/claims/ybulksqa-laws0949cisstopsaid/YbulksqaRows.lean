/-
  No cell of these rows narrows 'for every input' (looked for: loops, veiled, ifaces, maps, wideKeys, modest, calm, conditions, laid).
  DERIVED. THE GIVEN ROWS OF THIS SEAT. 7 by the template 'for every input the law returns true; each argument reads behind the call as it read before'; 0 by the template 'total and deterministic' (their statements: YbulksqaTotals.lean).
  GIVEN WITH THE SEED: the statements are not yours to turn. If you find one false, say at which input.
  Laid BY PROGRAM, IN A SANDBOX (cutbox-rows.mjs): the forced cells as the released guide's own fill.sh prints them over the translation 99568942dda7a240… (all of the seat's roots in one cut). By AI agents, Wed Nov 11 2026. No macro, syntax, notation, axiom, sorry.
-/
import Derived.Test.YbulksqaChecked
import GoSem.Claim
import GoSem.ClaimJoined
import GoSem.ClaimMapViews
import Derived.JoinedTies
import Derived.KernelRfl
namespace Go.Proofs.Ybulksqa
/- THE CELL 'sum', in the pinned program and in every row, IS THE sha256 OF THE DUMP (.gsa) THAT YbulksqaProg.lean LOADS. Nothing in Lean hashes anything: it is a label: what it is worth is what the hold of that sum in a sandbox is worth. -/
noncomputable def Yba.pinned : Pinned := { name := "ybulksqa", sum := "99568942dda7a240a90b978153d7e144c7af405b4f629fde3e6a4a279528da25", checked := Yba.checked }
namespace Rows
def none {H : Type} : Left H := { results := [], args := [] }

/-- 'script.LawS0949ABindLookup': WHATEVER THE INPUT: true; the input reads as it did. -/
def lawS0949ABindLookupSpec : ChangeSpec := { name := "lawS0949ABindLookup", fn := fun _ => fun
  | [d1, d2, d3] => { results := [.lit (.bool true)], args := [d1, d2, d3] }
  | _ => none }
def lawS0949ABindLookupRow : OpenClaim := { program := "ybulksqa", sum := "99568942dda7a240a90b978153d7e144c7af405b4f629fde3e6a4a279528da25", func := "example.com/marmoset/marmoset/script.LawS0949ABindLookup", spec := "lawS0949ABindLookup", apart := false }
def LawS0949ABindLookupSaid : Prop := lawS0949ABindLookupRow.holds Yba.pinned (OpenSpec.ofChange lawS0949ABindLookupSpec)

/-- ITS FALSE NEIGHBOUR: 'it returns false'. Refute it at one input. -/
def lawS0949ABindLookupWrong : ChangeSpec := { name := "lawS0949ABindLookup", fn := fun _ => fun
  | [d1, d2, d3] => { results := [.lit (.bool false)], args := [d1, d2, d3] }
  | _ => none }
def LawS0949ABindLookupWrongFalsely : Prop := lawS0949ABindLookupRow.holds Yba.pinned (OpenSpec.ofChange lawS0949ABindLookupWrong)

/-- 'script.LawS0949AEmpty': WHATEVER THE INPUT: true; the input reads as it did. -/
def lawS0949AEmptySpec : ChangeSpec := { name := "lawS0949AEmpty", fn := fun _ => fun
  | [d] => { results := [.lit (.bool true)], args := [d] }
  | _ => none }
def lawS0949AEmptyRow : OpenClaim := { program := "ybulksqa", sum := "99568942dda7a240a90b978153d7e144c7af405b4f629fde3e6a4a279528da25", func := "example.com/marmoset/marmoset/script.LawS0949AEmpty", spec := "lawS0949AEmpty", apart := false }
def LawS0949AEmptySaid : Prop := lawS0949AEmptyRow.holds Yba.pinned (OpenSpec.ofChange lawS0949AEmptySpec)

/-- ITS FALSE NEIGHBOUR: 'it returns false'. Refute it at one input. -/
def lawS0949AEmptyWrong : ChangeSpec := { name := "lawS0949AEmpty", fn := fun _ => fun
  | [d] => { results := [.lit (.bool false)], args := [d] }
  | _ => none }
def LawS0949AEmptyWrongFalsely : Prop := lawS0949AEmptyRow.holds Yba.pinned (OpenSpec.ofChange lawS0949AEmptyWrong)

/-- 'object.LawS0949BHops': WHATEVER THE INPUT: true; the input reads as it did. -/
def lawS0949BHopsSpec : ChangeSpec := { name := "lawS0949BHops", fn := fun _ => fun
  | [d1, d2] => { results := [.lit (.bool true)], args := [d1, d2] }
  | _ => none }
def lawS0949BHopsRow : OpenClaim := { program := "ybulksqa", sum := "99568942dda7a240a90b978153d7e144c7af405b4f629fde3e6a4a279528da25", func := "example.com/marmoset/marmoset/internal/object.LawS0949BHops", spec := "lawS0949BHops", apart := false }
def LawS0949BHopsSaid : Prop := lawS0949BHopsRow.holds Yba.pinned (OpenSpec.ofChange lawS0949BHopsSpec)

/-- ITS FALSE NEIGHBOUR: 'it returns false'. Refute it at one input. -/
def lawS0949BHopsWrong : ChangeSpec := { name := "lawS0949BHops", fn := fun _ => fun
  | [d1, d2] => { results := [.lit (.bool false)], args := [d1, d2] }
  | _ => none }
def LawS0949BHopsWrongFalsely : Prop := lawS0949BHopsRow.holds Yba.pinned (OpenSpec.ofChange lawS0949BHopsWrong)

/-- 'object.LawS0949BCompose': WHATEVER THE INPUT: true; the input reads as it did. -/
def lawS0949BComposeSpec : ChangeSpec := { name := "lawS0949BCompose", fn := fun _ => fun
  | [d1, d2, d3] => { results := [.lit (.bool true)], args := [d1, d2, d3] }
  | _ => none }
def lawS0949BComposeRow : OpenClaim := { program := "ybulksqa", sum := "99568942dda7a240a90b978153d7e144c7af405b4f629fde3e6a4a279528da25", func := "example.com/marmoset/marmoset/internal/object.LawS0949BCompose", spec := "lawS0949BCompose", apart := false }
def LawS0949BComposeSaid : Prop := lawS0949BComposeRow.holds Yba.pinned (OpenSpec.ofChange lawS0949BComposeSpec)

/-- ITS FALSE NEIGHBOUR: 'it returns false'. Refute it at one input. -/
def lawS0949BComposeWrong : ChangeSpec := { name := "lawS0949BCompose", fn := fun _ => fun
  | [d1, d2, d3] => { results := [.lit (.bool false)], args := [d1, d2, d3] }
  | _ => none }
def LawS0949BComposeWrongFalsely : Prop := lawS0949BComposeRow.holds Yba.pinned (OpenSpec.ofChange lawS0949BComposeWrong)

/-- 'object.LawS0949CNilContext': WHATEVER THE INPUT: true; the input reads as it did. -/
def lawS0949CNilContextSpec : ChangeSpec := { name := "lawS0949CNilContext", fn := fun _ => fun
  | [d] => { results := [.lit (.bool true)], args := [d] }
  | _ => none }
def lawS0949CNilContextRow : OpenClaim := { program := "ybulksqa", sum := "99568942dda7a240a90b978153d7e144c7af405b4f629fde3e6a4a279528da25", func := "example.com/marmoset/marmoset/internal/object.LawS0949CNilContext", spec := "lawS0949CNilContext", inPlace := ["sync/atomic.StoreUint32", "sync/atomic.LoadUint32"], unfollowed := true, recurses := true, apart := false }
def LawS0949CNilContextSaid : Prop := lawS0949CNilContextRow.holds Yba.pinned (OpenSpec.ofChange lawS0949CNilContextSpec)

/-- ITS FALSE NEIGHBOUR: 'it returns false'. Refute it at one input. -/
def lawS0949CNilContextWrong : ChangeSpec := { name := "lawS0949CNilContext", fn := fun _ => fun
  | [d] => { results := [.lit (.bool false)], args := [d] }
  | _ => none }
def LawS0949CNilContextWrongFalsely : Prop := lawS0949CNilContextRow.holds Yba.pinned (OpenSpec.ofChange lawS0949CNilContextWrong)

/-- 'object.LawS0949CAsksContext': WHATEVER THE INPUT: true; the input reads as it did. -/
def lawS0949CAsksContextSpec : ChangeSpec := { name := "lawS0949CAsksContext", fn := fun _ => fun
  | [d1, d2, d3] => { results := [.lit (.bool true)], args := [d1, d2, d3] }
  | _ => none }
def lawS0949CAsksContextRow : OpenClaim := { program := "ybulksqa", sum := "99568942dda7a240a90b978153d7e144c7af405b4f629fde3e6a4a279528da25", func := "example.com/marmoset/marmoset/internal/object.LawS0949CAsksContext", spec := "lawS0949CAsksContext", inPlace := ["sync/atomic.StoreUint32", "sync/atomic.LoadUint32"], unfollowed := true, recurses := true, apart := false }
def LawS0949CAsksContextSaid : Prop := lawS0949CAsksContextRow.holds Yba.pinned (OpenSpec.ofChange lawS0949CAsksContextSpec)

/-- ITS FALSE NEIGHBOUR: 'it returns false'. Refute it at one input. -/
def lawS0949CAsksContextWrong : ChangeSpec := { name := "lawS0949CAsksContext", fn := fun _ => fun
  | [d1, d2, d3] => { results := [.lit (.bool false)], args := [d1, d2, d3] }
  | _ => none }
def LawS0949CAsksContextWrongFalsely : Prop := lawS0949CAsksContextRow.holds Yba.pinned (OpenSpec.ofChange lawS0949CAsksContextWrong)

/-- 'object.LawS0949CIsStop': WHATEVER THE INPUT: true; the input reads as it did. -/
def lawS0949CIsStopSpec : ChangeSpec := { name := "lawS0949CIsStop", fn := fun _ => fun
  | [d1, d2, d3] => { results := [.lit (.bool true)], args := [d1, d2, d3] }
  | _ => none }
def lawS0949CIsStopRow : OpenClaim := { program := "ybulksqa", sum := "99568942dda7a240a90b978153d7e144c7af405b4f629fde3e6a4a279528da25", func := "example.com/marmoset/marmoset/internal/object.LawS0949CIsStop", spec := "lawS0949CIsStop", inPlace := ["sync/atomic.StoreUint32"], unfollowed := true, recurses := true, apart := false }
def LawS0949CIsStopSaid : Prop := lawS0949CIsStopRow.holds Yba.pinned (OpenSpec.ofChange lawS0949CIsStopSpec)

/-- ITS FALSE NEIGHBOUR: 'it returns false'. Refute it at one input. -/
def lawS0949CIsStopWrong : ChangeSpec := { name := "lawS0949CIsStop", fn := fun _ => fun
  | [d1, d2, d3] => { results := [.lit (.bool false)], args := [d1, d2, d3] }
  | _ => none }
def LawS0949CIsStopWrongFalsely : Prop := lawS0949CIsStopRow.holds Yba.pinned (OpenSpec.ofChange lawS0949CIsStopWrong)

end Rows
end Go.Proofs.Ybulksqa
