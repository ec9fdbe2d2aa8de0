/-
  What the two seats' texts share, here by way of the Simulation's.
-/
import Derived.Test.Qxb6615056aFmtModel
import Derived.Test.Qxb6615056aFmtOpen
