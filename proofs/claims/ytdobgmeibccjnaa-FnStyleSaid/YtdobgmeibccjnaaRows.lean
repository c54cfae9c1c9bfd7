/-
  No cell of these rows narrows 'for every input' (looked for: loops, veiled, ifaces, maps, wideKeys, modest, calm, conditions, laid).
  DERIVED. THE GIVEN ROWS OF THIS SEAT. 5 by the template 'for every input the law returns true; each argument reads behind the call as it read before'; 0 by the template 'total and deterministic' (their statements: YtdobgmeibccjnaaTotals.lean).
  GIVEN WITH THE SEED: the statements are not yours to turn. If you find one false, say at which input.
  Laid BY PROGRAM, IN A SANDBOX (cutbox-rows.mjs): the forced cells as the released guide's own fill.sh prints them over the translation 9582d7ee85a919e2… (all of the seat's roots in one cut). By AI agents, Wed Nov 11 2026. No macro, syntax, notation, axiom, sorry.
-/
import Derived.Test.YtdobgmeibccjnaaChecked
import GoSem.Claim
import GoSem.ClaimJoined
import GoSem.ClaimMapViews
import Derived.JoinedTies
import Derived.KernelRfl
namespace Go.Proofs.Ytdobgmeibccjnaa
/- THE CELL 'sum', in the pinned program and in every row, IS THE sha256 OF THE DUMP (.gsa) THAT YtdobgmeibccjnaaProg.lean LOADS. Nothing in Lean hashes anything: it is a label: what it is worth is what the hold of that sum in a sandbox is worth. -/
noncomputable def Try.pinned : Pinned := { name := "ytdobgmeibccjnaa", sum := "9582d7ee85a919e211b7a3f03340aedabdfe77e01ac300bd6ff1d082e336511e", checked := Try.checked }
namespace Rows
def none {H : Type} : Left H := { results := [], args := [] }

/-- 'laws.FnLeap': WHATEVER THE INPUT: true; the input reads as it did. -/
def fnLeapSpec : ChangeSpec := { name := "fnLeap", fn := fun _ => fun
  | [d] => { results := [.lit (.bool true)], args := [d] }
  | _ => none }
def fnLeapRow : OpenClaim := { program := "ytdobgmeibccjnaa", sum := "9582d7ee85a919e211b7a3f03340aedabdfe77e01ac300bd6ff1d082e336511e", func := "pub-gridwork/laws.FnLeap", spec := "fnLeap", apart := false }
def FnLeapSaid : Prop := fnLeapRow.holds Try.pinned (OpenSpec.ofChange fnLeapSpec)

/-- ITS FALSE NEIGHBOUR: 'it returns false'. Refute it at one input. -/
def fnLeapWrong : ChangeSpec := { name := "fnLeap", fn := fun _ => fun
  | [d] => { results := [.lit (.bool false)], args := [d] }
  | _ => none }
def FnLeapWrongFalsely : Prop := fnLeapRow.holds Try.pinned (OpenSpec.ofChange fnLeapWrong)

/-- 'laws.FnYear': WHATEVER THE INPUT: true; the input reads as it did. -/
def fnYearSpec : ChangeSpec := { name := "fnYear", fn := fun _ => fun
  | [d] => { results := [.lit (.bool true)], args := [d] }
  | _ => none }
def fnYearRow : OpenClaim := { program := "ytdobgmeibccjnaa", sum := "9582d7ee85a919e211b7a3f03340aedabdfe77e01ac300bd6ff1d082e336511e", func := "pub-gridwork/laws.FnYear", spec := "fnYear", apart := false }
def FnYearSaid : Prop := fnYearRow.holds Try.pinned (OpenSpec.ofChange fnYearSpec)

/-- ITS FALSE NEIGHBOUR: 'it returns false'. Refute it at one input. -/
def fnYearWrong : ChangeSpec := { name := "fnYear", fn := fun _ => fun
  | [d] => { results := [.lit (.bool false)], args := [d] }
  | _ => none }
def FnYearWrongFalsely : Prop := fnYearRow.holds Try.pinned (OpenSpec.ofChange fnYearWrong)

/-- 'laws.FnJulian': WHATEVER THE INPUT: true; the input reads as it did. -/
def fnJulianSpec : ChangeSpec := { name := "fnJulian", fn := fun _ => fun
  | [d] => { results := [.lit (.bool true)], args := [d] }
  | _ => none }
def fnJulianRow : OpenClaim := { program := "ytdobgmeibccjnaa", sum := "9582d7ee85a919e211b7a3f03340aedabdfe77e01ac300bd6ff1d082e336511e", func := "pub-gridwork/laws.FnJulian", spec := "fnJulian", apart := false }
def FnJulianSaid : Prop := fnJulianRow.holds Try.pinned (OpenSpec.ofChange fnJulianSpec)

/-- ITS FALSE NEIGHBOUR: 'it returns false'. Refute it at one input. -/
def fnJulianWrong : ChangeSpec := { name := "fnJulian", fn := fun _ => fun
  | [d] => { results := [.lit (.bool false)], args := [d] }
  | _ => none }
def FnJulianWrongFalsely : Prop := fnJulianRow.holds Try.pinned (OpenSpec.ofChange fnJulianWrong)

/-- 'laws.FnHide': WHATEVER THE INPUT: true; the input reads as it did. -/
def fnHideSpec : ChangeSpec := { name := "fnHide", fn := fun _ => fun
  | [d1, d2, d3, d4] => { results := [.lit (.bool true)], args := [d1, d2, d3, d4] }
  | _ => none }
def fnHideRow : OpenClaim := { program := "ytdobgmeibccjnaa", sum := "9582d7ee85a919e211b7a3f03340aedabdfe77e01ac300bd6ff1d082e336511e", func := "pub-gridwork/laws.FnHide", spec := "fnHide", unfollowed := true, recurses := true, apart := false }
def FnHideSaid : Prop := fnHideRow.holds Try.pinned (OpenSpec.ofChange fnHideSpec)

/-- ITS FALSE NEIGHBOUR: 'it returns false'. Refute it at one input. -/
def fnHideWrong : ChangeSpec := { name := "fnHide", fn := fun _ => fun
  | [d1, d2, d3, d4] => { results := [.lit (.bool false)], args := [d1, d2, d3, d4] }
  | _ => none }
def FnHideWrongFalsely : Prop := fnHideRow.holds Try.pinned (OpenSpec.ofChange fnHideWrong)

/-- 'laws.FnStyle': WHATEVER THE INPUT: true; the input reads as it did. -/
def fnStyleSpec : ChangeSpec := { name := "fnStyle", fn := fun _ => fun
  | [d1, d2, d3, d4] => { results := [.lit (.bool true)], args := [d1, d2, d3, d4] }
  | _ => none }
def fnStyleRow : OpenClaim := { program := "ytdobgmeibccjnaa", sum := "9582d7ee85a919e211b7a3f03340aedabdfe77e01ac300bd6ff1d082e336511e", func := "pub-gridwork/laws.FnStyle", spec := "fnStyle", unfollowed := true, recurses := true, apart := false }
def FnStyleSaid : Prop := fnStyleRow.holds Try.pinned (OpenSpec.ofChange fnStyleSpec)

/-- ITS FALSE NEIGHBOUR: 'it returns false'. Refute it at one input. -/
def fnStyleWrong : ChangeSpec := { name := "fnStyle", fn := fun _ => fun
  | [d1, d2, d3, d4] => { results := [.lit (.bool false)], args := [d1, d2, d3, d4] }
  | _ => none }
def FnStyleWrongFalsely : Prop := fnStyleRow.holds Try.pinned (OpenSpec.ofChange fnStyleWrong)

/- THE SECOND FORM. 'bulk': how many values and letters a reading holds, each counted each time it is reached (what is shared counts as often as it is met; a slice's spare places count too). A statement '..UptoSaid' is the law's where the arguments, and the package variables that the reading takes, are together of bulk at most 1048576: NARROWER than '..Said'. Prove '..Said' where nothing that the law and all that it calls make is longer than what came in: it says more and counts as full. Else prove '..UptoSaid'. A law counts once. -/
mutual
def uptoBulk {H : Type} : DataW H → Nat
  | .lit (.string bytes) => bytes.length + 1
  | .lit _ => 1
  | .nil => 1
  | .ptr d => uptoBulk d + 1
  | .slice elems spare => uptoBulkAll elems + uptoBulkAll spare + 1
  | .agg parts => uptoBulkAll parts + 1
  | .iface _ d => uptoBulk d + 1
  | .map entries => uptoBulkEntries entries + 1
  | .held _ => 1
def uptoBulkAll {H : Type} : List (DataW H) → Nat
  | [] => 0
  | d :: r => uptoBulk d + uptoBulkAll r
def uptoBulkEntries {H : Type} : List (Lit × DataW H) → Nat
  | [] => 0
  | x :: r => uptoBulkEntry x + uptoBulkEntries r
def uptoBulkEntry {H : Type} : Lit × DataW H → Nat
  | (.string bytes, d) => bytes.length + uptoBulk d + 1
  | (_, d) => uptoBulk d + 1
 end
def uptoSmall : (H : Type) → List (DataW H) → Bool := fun _ ds => decide (uptoBulkAll ds ≤ 1048576)
def OpenSpec.upto (s : _root_.Go.ChangeSpec) : _root_.Go.OpenSpec := { _root_.Go.OpenSpec.ofChange s with cond := some uptoSmall }

/-- 'laws.FnLeap', WHERE WHAT IT READS IS OF BULK AT MOST 1048576: true; the input reads as it did. -/
def fnLeapUptoRow : OpenClaim := { program := "ytdobgmeibccjnaa", sum := "9582d7ee85a919e211b7a3f03340aedabdfe77e01ac300bd6ff1d082e336511e", func := "pub-gridwork/laws.FnLeap", spec := "fnLeap", apart := false, narrowed := true }
def FnLeapUptoSaid : Prop := fnLeapUptoRow.holds Try.pinned (OpenSpec.upto fnLeapSpec)

/-- 'laws.FnYear', WHERE WHAT IT READS IS OF BULK AT MOST 1048576: true; the input reads as it did. -/
def fnYearUptoRow : OpenClaim := { program := "ytdobgmeibccjnaa", sum := "9582d7ee85a919e211b7a3f03340aedabdfe77e01ac300bd6ff1d082e336511e", func := "pub-gridwork/laws.FnYear", spec := "fnYear", apart := false, narrowed := true }
def FnYearUptoSaid : Prop := fnYearUptoRow.holds Try.pinned (OpenSpec.upto fnYearSpec)

/-- 'laws.FnJulian', WHERE WHAT IT READS IS OF BULK AT MOST 1048576: true; the input reads as it did. -/
def fnJulianUptoRow : OpenClaim := { program := "ytdobgmeibccjnaa", sum := "9582d7ee85a919e211b7a3f03340aedabdfe77e01ac300bd6ff1d082e336511e", func := "pub-gridwork/laws.FnJulian", spec := "fnJulian", apart := false, narrowed := true }
def FnJulianUptoSaid : Prop := fnJulianUptoRow.holds Try.pinned (OpenSpec.upto fnJulianSpec)

/-- 'laws.FnHide', WHERE WHAT IT READS IS OF BULK AT MOST 1048576: true; the input reads as it did. -/
def fnHideUptoRow : OpenClaim := { program := "ytdobgmeibccjnaa", sum := "9582d7ee85a919e211b7a3f03340aedabdfe77e01ac300bd6ff1d082e336511e", func := "pub-gridwork/laws.FnHide", spec := "fnHide", unfollowed := true, recurses := true, apart := false, narrowed := true }
def FnHideUptoSaid : Prop := fnHideUptoRow.holds Try.pinned (OpenSpec.upto fnHideSpec)

/-- 'laws.FnStyle', WHERE WHAT IT READS IS OF BULK AT MOST 1048576: true; the input reads as it did. -/
def fnStyleUptoRow : OpenClaim := { program := "ytdobgmeibccjnaa", sum := "9582d7ee85a919e211b7a3f03340aedabdfe77e01ac300bd6ff1d082e336511e", func := "pub-gridwork/laws.FnStyle", spec := "fnStyle", unfollowed := true, recurses := true, apart := false, narrowed := true }
def FnStyleUptoSaid : Prop := fnStyleUptoRow.holds Try.pinned (OpenSpec.upto fnStyleSpec)

end Rows
end Go.Proofs.Ytdobgmeibccjnaa
