/-
  A part of the proof (my own): of the texts that the claim's last text rests on: parts R1.
-/
import Derived.Test.YtigjokkakcmmdaaGreatDoorT23
set_option linter.unusedSimpArgs false
set_option linter.unusedVariables false
section
namespace Go.Tb
open Go Go.Proofs
variable {z : Nat × Nat}
set_option maxRecDepth 20000
section
variable {D : Pd} {B : Brd} {k s1 s2 q : Nat}
end
end Go.Tb
end
