/- The state as 'build' and 'fresh' lay it. -/
import Derived.Test.Qxb6616570aState
namespace Go.Proofs.Qxb6616570a
/-- The first p entries laid. -/
def freshS (N : Nat → Bool) (d o f : Int) (g : Bool) (p : Nat) : St := { kept := fun j => decide (j < p), dialer := d, offer := o, outc := fun _ => 0, news := fun j => decide (j < p) && N j, failures := f, failing := g }
end Go.Proofs.Qxb6616570a
