
/- How many bits, how many groups of seven. -/
import Derived.Test.YtepamajphjgigaaGreatDoorB1
set_option linter.unusedVariables false
set_option linter.unusedSimpArgs false
namespace Go.Proofs.YtepamajphjgigaaGreatDoor.K
open Go
set_option maxHeartbeats 400000

def bl : Nat → Nat → Nat
  | 0, _ => 0
  | f + 1, n => if n = 0 then 0 else bl f (n / 2) + 1
/-- How many bits a number has. -/
def bitLen (n : Nat) : Nat := bl 64 n
/-- How many groups of seven bits a number of 32 bits has. -/
def groups (n : Nat) : Nat := if n < 128 then 1 else if n < 16384 then 2 else if n < 2097152 then 3 else if n < 268435456 then 4 else 5
def groupsL (k : Nat) : Nat := if k ≤ 7 then 1 else if k ≤ 14 then 2 else if k ≤ 21 then 3 else if k ≤ 28 then 4 else 5
end Go.Proofs.YtepamajphjgigaaGreatDoor.K
