/-
  No cell of these rows narrows 'for every input' (looked for: loops, veiled, ifaces, maps, wideKeys, modest, calm, conditions, laid).
  DERIVED. THE GIVEN ROWS OF THIS SEAT. 5 by the template 'for every input the law returns true; each argument reads behind the call as it read before'; 0 by the template 'total and deterministic' (their statements: Qxb6602669aTotals.lean).
  GIVEN WITH THE SEED: the statements are not yours to turn. If you find one false, say at which input.
  Laid BY PROGRAM, IN A SANDBOX (cutbox-rows.mjs): the forced cells as the released guide's own fill.sh prints them over the translation c688c575f9ce9b56… (all of the seat's roots in one cut). By AI agents, Wed Nov 11 2026. No macro, syntax, notation, axiom, sorry.
-/
import Derived.Test.Qxb6602669aChecked
import GoSem.Claim
import GoSem.ClaimJoined
import GoSem.ClaimMapViews
import Derived.JoinedTies
import Derived.KernelRfl
namespace Go.Proofs.Qxb6602669a
/- THE CELL 'sum', in the pinned program and in every row, IS THE sha256 OF THE DUMP (.gsa) THAT Qxb6602669aProg.lean LOADS. Nothing in Lean hashes anything: it is a label: what it is worth is what the hold of that sum in a sandbox is worth. -/
noncomputable def Try.pinned : Pinned := { name := "qxb6602669a", sum := "c688c575f9ce9b56cacacec70635fb0df0f8dda96132a4cbbf9675d27bdf40c7", checked := Try.checked }
namespace Rows
def none {H : Type} : Left H := { results := [], args := [] }

/-- 'zzlaws_ceph_b1.FnDomainsFirstReachingBucket': WHATEVER THE INPUT: true; the input reads as it did. -/
def fnDomainsFirstReachingBucketSpec : ChangeSpec := { name := "fnDomainsFirstReachingBucket", fn := fun _ => fun
  | [d1, d2, d3] => { results := [.lit (.bool true)], args := [d1, d2, d3] }
  | _ => none }
def fnDomainsFirstReachingBucketRow : OpenClaim := { program := "qxb6602669a", sum := "c688c575f9ce9b56cacacec70635fb0df0f8dda96132a4cbbf9675d27bdf40c7", func := "example.com/drainwarden/drainwarden/zzlaws_ceph_b1.FnDomainsFirstReachingBucket", spec := "fnDomainsFirstReachingBucket", apart := false }
def FnDomainsFirstReachingBucketSaid : Prop := fnDomainsFirstReachingBucketRow.holds Try.pinned (OpenSpec.ofChange fnDomainsFirstReachingBucketSpec)

/-- ITS FALSE NEIGHBOUR: 'it returns false'. Refute it at one input. -/
def fnDomainsFirstReachingBucketWrong : ChangeSpec := { name := "fnDomainsFirstReachingBucket", fn := fun _ => fun
  | [d1, d2, d3] => { results := [.lit (.bool false)], args := [d1, d2, d3] }
  | _ => none }
def FnDomainsFirstReachingBucketWrongFalsely : Prop := fnDomainsFirstReachingBucketRow.holds Try.pinned (OpenSpec.ofChange fnDomainsFirstReachingBucketWrong)

/-- 'zzlaws_ceph_b1.FnSharedStartIsLongestCommonPrefix': WHATEVER THE INPUT: true; the input reads as it did. -/
def fnSharedStartIsLongestCommonPrefixSpec : ChangeSpec := { name := "fnSharedStartIsLongestCommonPrefix", fn := fun _ => fun
  | [d1, d2] => { results := [.lit (.bool true)], args := [d1, d2] }
  | _ => none }
def fnSharedStartIsLongestCommonPrefixRow : OpenClaim := { program := "qxb6602669a", sum := "c688c575f9ce9b56cacacec70635fb0df0f8dda96132a4cbbf9675d27bdf40c7", func := "example.com/drainwarden/drainwarden/zzlaws_ceph_b1.FnSharedStartIsLongestCommonPrefix", spec := "fnSharedStartIsLongestCommonPrefix", apart := false }
def FnSharedStartIsLongestCommonPrefixSaid : Prop := fnSharedStartIsLongestCommonPrefixRow.holds Try.pinned (OpenSpec.ofChange fnSharedStartIsLongestCommonPrefixSpec)

/-- ITS FALSE NEIGHBOUR: 'it returns false'. Refute it at one input. -/
def fnSharedStartIsLongestCommonPrefixWrong : ChangeSpec := { name := "fnSharedStartIsLongestCommonPrefix", fn := fun _ => fun
  | [d1, d2] => { results := [.lit (.bool false)], args := [d1, d2] }
  | _ => none }
def FnSharedStartIsLongestCommonPrefixWrongFalsely : Prop := fnSharedStartIsLongestCommonPrefixRow.holds Try.pinned (OpenSpec.ofChange fnSharedStartIsLongestCommonPrefixWrong)

/-- 'zzlaws_ceph_b1.FnSharedStartSymmetricAndSelf': WHATEVER THE INPUT: true; the input reads as it did. -/
def fnSharedStartSymmetricAndSelfSpec : ChangeSpec := { name := "fnSharedStartSymmetricAndSelf", fn := fun _ => fun
  | [d1, d2] => { results := [.lit (.bool true)], args := [d1, d2] }
  | _ => none }
def fnSharedStartSymmetricAndSelfRow : OpenClaim := { program := "qxb6602669a", sum := "c688c575f9ce9b56cacacec70635fb0df0f8dda96132a4cbbf9675d27bdf40c7", func := "example.com/drainwarden/drainwarden/zzlaws_ceph_b1.FnSharedStartSymmetricAndSelf", spec := "fnSharedStartSymmetricAndSelf", apart := false }
def FnSharedStartSymmetricAndSelfSaid : Prop := fnSharedStartSymmetricAndSelfRow.holds Try.pinned (OpenSpec.ofChange fnSharedStartSymmetricAndSelfSpec)

/-- ITS FALSE NEIGHBOUR: 'it returns false'. Refute it at one input. -/
def fnSharedStartSymmetricAndSelfWrong : ChangeSpec := { name := "fnSharedStartSymmetricAndSelf", fn := fun _ => fun
  | [d1, d2] => { results := [.lit (.bool false)], args := [d1, d2] }
  | _ => none }
def FnSharedStartSymmetricAndSelfWrongFalsely : Prop := fnSharedStartSymmetricAndSelfRow.holds Try.pinned (OpenSpec.ofChange fnSharedStartSymmetricAndSelfWrong)

/-- 'zzlaws_ceph_b1.FnSharedStartCommonPrefixAdds': WHATEVER THE INPUT: true; the input reads as it did. -/
def fnSharedStartCommonPrefixAddsSpec : ChangeSpec := { name := "fnSharedStartCommonPrefixAdds", fn := fun _ => fun
  | [d1, d2, d3] => { results := [.lit (.bool true)], args := [d1, d2, d3] }
  | _ => none }
def fnSharedStartCommonPrefixAddsRow : OpenClaim := { program := "qxb6602669a", sum := "c688c575f9ce9b56cacacec70635fb0df0f8dda96132a4cbbf9675d27bdf40c7", func := "example.com/drainwarden/drainwarden/zzlaws_ceph_b1.FnSharedStartCommonPrefixAdds", spec := "fnSharedStartCommonPrefixAdds", apart := false }
def FnSharedStartCommonPrefixAddsSaid : Prop := fnSharedStartCommonPrefixAddsRow.holds Try.pinned (OpenSpec.ofChange fnSharedStartCommonPrefixAddsSpec)

/-- ITS FALSE NEIGHBOUR: 'it returns false'. Refute it at one input. -/
def fnSharedStartCommonPrefixAddsWrong : ChangeSpec := { name := "fnSharedStartCommonPrefixAdds", fn := fun _ => fun
  | [d1, d2, d3] => { results := [.lit (.bool false)], args := [d1, d2, d3] }
  | _ => none }
def FnSharedStartCommonPrefixAddsWrongFalsely : Prop := fnSharedStartCommonPrefixAddsRow.holds Try.pinned (OpenSpec.ofChange fnSharedStartCommonPrefixAddsWrong)

/-- 'zzlaws_ceph_b1.FnNamesSortedSetOfEveryServer': WHATEVER THE INPUT: true; the input reads as it did. -/
def fnNamesSortedSetOfEveryServerSpec : ChangeSpec := { name := "fnNamesSortedSetOfEveryServer", fn := fun _ => fun
  | [d1, d2] => { results := [.lit (.bool true)], args := [d1, d2] }
  | _ => none }
def fnNamesSortedSetOfEveryServerRow : OpenClaim := { program := "qxb6602669a", sum := "c688c575f9ce9b56cacacec70635fb0df0f8dda96132a4cbbf9675d27bdf40c7", func := "example.com/drainwarden/drainwarden/zzlaws_ceph_b1.FnNamesSortedSetOfEveryServer", spec := "fnNamesSortedSetOfEveryServer", recurses := true, apart := false }
def FnNamesSortedSetOfEveryServerSaid : Prop := fnNamesSortedSetOfEveryServerRow.holds Try.pinned (OpenSpec.ofChange fnNamesSortedSetOfEveryServerSpec)

/-- ITS FALSE NEIGHBOUR: 'it returns false'. Refute it at one input. -/
def fnNamesSortedSetOfEveryServerWrong : ChangeSpec := { name := "fnNamesSortedSetOfEveryServer", fn := fun _ => fun
  | [d1, d2] => { results := [.lit (.bool false)], args := [d1, d2] }
  | _ => none }
def FnNamesSortedSetOfEveryServerWrongFalsely : Prop := fnNamesSortedSetOfEveryServerRow.holds Try.pinned (OpenSpec.ofChange fnNamesSortedSetOfEveryServerWrong)

end Rows
end Go.Proofs.Qxb6602669a
