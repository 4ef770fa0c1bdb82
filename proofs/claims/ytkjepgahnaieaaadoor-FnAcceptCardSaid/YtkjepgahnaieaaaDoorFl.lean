/- The weights as floats: for n from 0 to 1000 the float of n/1000 is known, two of them stand as their numbers do, and times 1000 less n they are within 0.001. A finite reckoning, by the kernel. -/
import Derived.Laws.FloatArith
namespace Go.Proofs.YtkjepgahnaieaaaDoor.PFnAccept
open Go

/-- The float of n/1000, as Go divides. -/
def qF (n : Nat) : Nat := (floatBits .quo .f64 (floatOfInt .f64 (n : Int)) 4652007308841189376).getD 0
def chkF (n : Nat) : Bool :=
  match floatBits .quo .f64 (floatOfInt .f64 (n : Int)) 4652007308841189376 with
  | none => false
  | some q => match floatBits .mul .f64 q 4652007308841189376 with
    | none => false
    | some p => match floatBits .sub .f64 p (floatOfInt .f64 (n : Int)) with
      | none => false
      | some d => !(FloatKind.f64.format.order d 4562254508917369340 == some .gt) && !(FloatKind.f64.format.order d 13785626545772145148 == some .lt)
set_option maxRecDepth 100000 in
theorem chk_all : (List.range 1001).all chkF = true := by decide +kernel
/-- A float that is no less than nothing, in units of the least place. -/
def unitsF (x : Nat) : Option Nat :=
  match FloatKind.f64.format.read x with
  | .number false m e => if FloatKind.f64.format.leastPlace ≤ e then some (m <<< (e - FloatKind.f64.format.leastPlace).toNat) else none
  | _ => none
def upF (n : Nat) : Bool :=
  match unitsF (qF n), unitsF (qF (n + 1)) with
  | some a, some b => decide (a < b)
  | _, _ => false
set_option maxRecDepth 100000 in
theorem up_all : (List.range 1000).all upF = true := by decide +kernel
theorem one_F : qF 1000 = 4607182418800017408 := by decide +kernel
theorem zero_F : qF 0 = 0 := by decide +kernel
end Go.Proofs.YtkjepgahnaieaaaDoor.PFnAccept
