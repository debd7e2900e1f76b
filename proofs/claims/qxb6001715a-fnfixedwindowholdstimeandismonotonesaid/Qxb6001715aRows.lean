/-
  No cell of these rows narrows 'for every input' (looked for: loops, veiled, ifaces, maps, wideKeys, modest, calm, conditions, laid).
  DERIVED. THE GIVEN ROWS OF THIS SEAT. 8 by the template 'for every input the law returns true; each argument reads behind the call as it read before'; 0 by the template 'total and deterministic' (their statements: Qxb6001715aTotals.lean).
  GIVEN WITH THE SEED: the statements are not yours to turn. If you find one false, say at which input.
  Laid BY PROGRAM, IN A SANDBOX (cutbox-rows.mjs): the forced cells as the released guide's own fill.sh prints them over the translation aaebfb53dbec3f4a… (all of the seat's roots in one cut). By AI agents, Wed Nov 11 2026. No macro, syntax, notation, axiom, sorry.
-/
import Derived.Test.Qxb6001715aChecked
import GoSem.Claim
import GoSem.ClaimJoined
import GoSem.ClaimMapViews
import Derived.JoinedTies
import Derived.KernelRfl
namespace Go.Proofs.Qxb6001715a
/- THE CELL 'sum', in the pinned program and in every row, IS THE sha256 OF THE DUMP (.gsa) THAT Qxb6001715aProg.lean LOADS. Nothing in Lean hashes anything: it is a label: what it is worth is what the hold of that sum in a sandbox is worth. -/
noncomputable def Try.pinned : Pinned := { name := "qxb6001715a", sum := "aaebfb53dbec3f4a535312ca0b3303af726df3d1c1a3809cde9b51804e29c96c", checked := Try.checked }
namespace Rows
def none {H : Type} : Left H := { results := [], args := [] }

/-- 'zzlaws_root_g1.FnFloorDivIsFloor': WHATEVER THE INPUT: true; the input reads as it did. -/
def fnFloorDivIsFloorSpec : ChangeSpec := { name := "fnFloorDivIsFloor", fn := fun _ => fun
  | [d1, d2] => { results := [.lit (.bool true)], args := [d1, d2] }
  | _ => none }
def fnFloorDivIsFloorRow : OpenClaim := { program := "qxb6001715a", sum := "aaebfb53dbec3f4a535312ca0b3303af726df3d1c1a3809cde9b51804e29c96c", func := "example.com/allow5/allow5/zzlaws_root_g1.FnFloorDivIsFloor", spec := "fnFloorDivIsFloor", apart := false }
def FnFloorDivIsFloorSaid : Prop := fnFloorDivIsFloorRow.holds Try.pinned (OpenSpec.ofChange fnFloorDivIsFloorSpec)

/-- ITS FALSE NEIGHBOUR: 'it returns false'. Refute it at one input. -/
def fnFloorDivIsFloorWrong : ChangeSpec := { name := "fnFloorDivIsFloor", fn := fun _ => fun
  | [d1, d2] => { results := [.lit (.bool false)], args := [d1, d2] }
  | _ => none }
def FnFloorDivIsFloorWrongFalsely : Prop := fnFloorDivIsFloorRow.holds Try.pinned (OpenSpec.ofChange fnFloorDivIsFloorWrong)

/-- 'zzlaws_root_g1.FnMillisecondsUpRoundsUp': WHATEVER THE INPUT: true; the input reads as it did. -/
def fnMillisecondsUpRoundsUpSpec : ChangeSpec := { name := "fnMillisecondsUpRoundsUp", fn := fun _ => fun
  | [d] => { results := [.lit (.bool true)], args := [d] }
  | _ => none }
def fnMillisecondsUpRoundsUpRow : OpenClaim := { program := "qxb6001715a", sum := "aaebfb53dbec3f4a535312ca0b3303af726df3d1c1a3809cde9b51804e29c96c", func := "example.com/allow5/allow5/zzlaws_root_g1.FnMillisecondsUpRoundsUp", spec := "fnMillisecondsUpRoundsUp", apart := false }
def FnMillisecondsUpRoundsUpSaid : Prop := fnMillisecondsUpRoundsUpRow.holds Try.pinned (OpenSpec.ofChange fnMillisecondsUpRoundsUpSpec)

/-- ITS FALSE NEIGHBOUR: 'it returns false'. Refute it at one input. -/
def fnMillisecondsUpRoundsUpWrong : ChangeSpec := { name := "fnMillisecondsUpRoundsUp", fn := fun _ => fun
  | [d] => { results := [.lit (.bool false)], args := [d] }
  | _ => none }
def FnMillisecondsUpRoundsUpWrongFalsely : Prop := fnMillisecondsUpRoundsUpRow.holds Try.pinned (OpenSpec.ofChange fnMillisecondsUpRoundsUpWrong)

/-- 'zzlaws_root_g1.FnMillisecondsUpIdempotentMonotone': WHATEVER THE INPUT: true; the input reads as it did. -/
def fnMillisecondsUpIdempotentMonotoneSpec : ChangeSpec := { name := "fnMillisecondsUpIdempotentMonotone", fn := fun _ => fun
  | [d1, d2] => { results := [.lit (.bool true)], args := [d1, d2] }
  | _ => none }
def fnMillisecondsUpIdempotentMonotoneRow : OpenClaim := { program := "qxb6001715a", sum := "aaebfb53dbec3f4a535312ca0b3303af726df3d1c1a3809cde9b51804e29c96c", func := "example.com/allow5/allow5/zzlaws_root_g1.FnMillisecondsUpIdempotentMonotone", spec := "fnMillisecondsUpIdempotentMonotone", apart := false }
def FnMillisecondsUpIdempotentMonotoneSaid : Prop := fnMillisecondsUpIdempotentMonotoneRow.holds Try.pinned (OpenSpec.ofChange fnMillisecondsUpIdempotentMonotoneSpec)

/-- ITS FALSE NEIGHBOUR: 'it returns false'. Refute it at one input. -/
def fnMillisecondsUpIdempotentMonotoneWrong : ChangeSpec := { name := "fnMillisecondsUpIdempotentMonotone", fn := fun _ => fun
  | [d1, d2] => { results := [.lit (.bool false)], args := [d1, d2] }
  | _ => none }
def FnMillisecondsUpIdempotentMonotoneWrongFalsely : Prop := fnMillisecondsUpIdempotentMonotoneRow.holds Try.pinned (OpenSpec.ofChange fnMillisecondsUpIdempotentMonotoneWrong)

/-- 'zzlaws_root_g1.FnMicrosecondsSaturatesMonotone': WHATEVER THE INPUT: true; the input reads as it did. -/
def fnMicrosecondsSaturatesMonotoneSpec : ChangeSpec := { name := "fnMicrosecondsSaturatesMonotone", fn := fun _ => fun
  | [d1, d2] => { results := [.lit (.bool true)], args := [d1, d2] }
  | _ => none }
def fnMicrosecondsSaturatesMonotoneRow : OpenClaim := { program := "qxb6001715a", sum := "aaebfb53dbec3f4a535312ca0b3303af726df3d1c1a3809cde9b51804e29c96c", func := "example.com/allow5/allow5/zzlaws_root_g1.FnMicrosecondsSaturatesMonotone", spec := "fnMicrosecondsSaturatesMonotone", apart := false }
def FnMicrosecondsSaturatesMonotoneSaid : Prop := fnMicrosecondsSaturatesMonotoneRow.holds Try.pinned (OpenSpec.ofChange fnMicrosecondsSaturatesMonotoneSpec)

/-- ITS FALSE NEIGHBOUR: 'it returns false'. Refute it at one input. -/
def fnMicrosecondsSaturatesMonotoneWrong : ChangeSpec := { name := "fnMicrosecondsSaturatesMonotone", fn := fun _ => fun
  | [d1, d2] => { results := [.lit (.bool false)], args := [d1, d2] }
  | _ => none }
def FnMicrosecondsSaturatesMonotoneWrongFalsely : Prop := fnMicrosecondsSaturatesMonotoneRow.holds Try.pinned (OpenSpec.ofChange fnMicrosecondsSaturatesMonotoneWrong)

/-- 'zzlaws_root_g1.FnIntervalLargestWholeMicrosecondShare': WHATEVER THE INPUT: true; the input reads as it did. -/
def fnIntervalLargestWholeMicrosecondShareSpec : ChangeSpec := { name := "fnIntervalLargestWholeMicrosecondShare", fn := fun _ => fun
  | [d1, d2] => { results := [.lit (.bool true)], args := [d1, d2] }
  | _ => none }
def fnIntervalLargestWholeMicrosecondShareRow : OpenClaim := { program := "qxb6001715a", sum := "aaebfb53dbec3f4a535312ca0b3303af726df3d1c1a3809cde9b51804e29c96c", func := "example.com/allow5/allow5/zzlaws_root_g1.FnIntervalLargestWholeMicrosecondShare", spec := "fnIntervalLargestWholeMicrosecondShare", apart := false }
def FnIntervalLargestWholeMicrosecondShareSaid : Prop := fnIntervalLargestWholeMicrosecondShareRow.holds Try.pinned (OpenSpec.ofChange fnIntervalLargestWholeMicrosecondShareSpec)

/-- ITS FALSE NEIGHBOUR: 'it returns false'. Refute it at one input. -/
def fnIntervalLargestWholeMicrosecondShareWrong : ChangeSpec := { name := "fnIntervalLargestWholeMicrosecondShare", fn := fun _ => fun
  | [d1, d2] => { results := [.lit (.bool false)], args := [d1, d2] }
  | _ => none }
def FnIntervalLargestWholeMicrosecondShareWrongFalsely : Prop := fnIntervalLargestWholeMicrosecondShareRow.holds Try.pinned (OpenSpec.ofChange fnIntervalLargestWholeMicrosecondShareWrong)

/-- 'zzlaws_root_g1.FnSlidingShiftsWithTime': WHATEVER THE INPUT: true; the input reads as it did. -/
def fnSlidingShiftsWithTimeSpec : ChangeSpec := { name := "fnSlidingShiftsWithTime", fn := fun _ => fun
  | [d1, d2, d3, d4, d5, d6, d7] => { results := [.lit (.bool true)], args := [d1, d2, d3, d4, d5, d6, d7] }
  | _ => none }
def fnSlidingShiftsWithTimeRow : OpenClaim := { program := "qxb6001715a", sum := "aaebfb53dbec3f4a535312ca0b3303af726df3d1c1a3809cde9b51804e29c96c", func := "example.com/allow5/allow5/zzlaws_root_g1.FnSlidingShiftsWithTime", spec := "fnSlidingShiftsWithTime", apart := false }
def FnSlidingShiftsWithTimeSaid : Prop := fnSlidingShiftsWithTimeRow.holds Try.pinned (OpenSpec.ofChange fnSlidingShiftsWithTimeSpec)

/-- ITS FALSE NEIGHBOUR: 'it returns false'. Refute it at one input. -/
def fnSlidingShiftsWithTimeWrong : ChangeSpec := { name := "fnSlidingShiftsWithTime", fn := fun _ => fun
  | [d1, d2, d3, d4, d5, d6, d7] => { results := [.lit (.bool false)], args := [d1, d2, d3, d4, d5, d6, d7] }
  | _ => none }
def FnSlidingShiftsWithTimeWrongFalsely : Prop := fnSlidingShiftsWithTimeRow.holds Try.pinned (OpenSpec.ofChange fnSlidingShiftsWithTimeWrong)

/-- 'zzlaws_root_g2.FnFixedWindowHoldsTimeAndIsMonotone': WHATEVER THE INPUT: true; the input reads as it did. -/
def fnFixedWindowHoldsTimeAndIsMonotoneSpec : ChangeSpec := { name := "fnFixedWindowHoldsTimeAndIsMonotone", fn := fun _ => fun
  | [d1, d2, d3, d4] => { results := [.lit (.bool true)], args := [d1, d2, d3, d4] }
  | _ => none }
def fnFixedWindowHoldsTimeAndIsMonotoneRow : OpenClaim := { program := "qxb6001715a", sum := "aaebfb53dbec3f4a535312ca0b3303af726df3d1c1a3809cde9b51804e29c96c", func := "example.com/allow5/allow5/zzlaws_root_g2.FnFixedWindowHoldsTimeAndIsMonotone", spec := "fnFixedWindowHoldsTimeAndIsMonotone", apart := false }
def FnFixedWindowHoldsTimeAndIsMonotoneSaid : Prop := fnFixedWindowHoldsTimeAndIsMonotoneRow.holds Try.pinned (OpenSpec.ofChange fnFixedWindowHoldsTimeAndIsMonotoneSpec)

/-- ITS FALSE NEIGHBOUR: 'it returns false'. Refute it at one input. -/
def fnFixedWindowHoldsTimeAndIsMonotoneWrong : ChangeSpec := { name := "fnFixedWindowHoldsTimeAndIsMonotone", fn := fun _ => fun
  | [d1, d2, d3, d4] => { results := [.lit (.bool false)], args := [d1, d2, d3, d4] }
  | _ => none }
def FnFixedWindowHoldsTimeAndIsMonotoneWrongFalsely : Prop := fnFixedWindowHoldsTimeAndIsMonotoneRow.holds Try.pinned (OpenSpec.ofChange fnFixedWindowHoldsTimeAndIsMonotoneWrong)

/-- 'zzlaws_root_g2.FnRollingStartIsFixedWindowOfBucketWidth': WHATEVER THE INPUT: true; the input reads as it did. -/
def fnRollingStartIsFixedWindowOfBucketWidthSpec : ChangeSpec := { name := "fnRollingStartIsFixedWindowOfBucketWidth", fn := fun _ => fun
  | [d1, d2, d3, d4, d5] => { results := [.lit (.bool true)], args := [d1, d2, d3, d4, d5] }
  | _ => none }
def fnRollingStartIsFixedWindowOfBucketWidthRow : OpenClaim := { program := "qxb6001715a", sum := "aaebfb53dbec3f4a535312ca0b3303af726df3d1c1a3809cde9b51804e29c96c", func := "example.com/allow5/allow5/zzlaws_root_g2.FnRollingStartIsFixedWindowOfBucketWidth", spec := "fnRollingStartIsFixedWindowOfBucketWidth", apart := false }
def FnRollingStartIsFixedWindowOfBucketWidthSaid : Prop := fnRollingStartIsFixedWindowOfBucketWidthRow.holds Try.pinned (OpenSpec.ofChange fnRollingStartIsFixedWindowOfBucketWidthSpec)

/-- ITS FALSE NEIGHBOUR: 'it returns false'. Refute it at one input. -/
def fnRollingStartIsFixedWindowOfBucketWidthWrong : ChangeSpec := { name := "fnRollingStartIsFixedWindowOfBucketWidth", fn := fun _ => fun
  | [d1, d2, d3, d4, d5] => { results := [.lit (.bool false)], args := [d1, d2, d3, d4, d5] }
  | _ => none }
def FnRollingStartIsFixedWindowOfBucketWidthWrongFalsely : Prop := fnRollingStartIsFixedWindowOfBucketWidthRow.holds Try.pinned (OpenSpec.ofChange fnRollingStartIsFixedWindowOfBucketWidthWrong)

end Rows
end Go.Proofs.Qxb6001715a
