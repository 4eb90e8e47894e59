/-
  Seat b6615783a: the plain side: what an entry makes of a look.
-/
import Derived.Test.Qxb6615783aWalkA
namespace Go.Proofs.Qxb6615783a

def zcol : Col := ⟨false, 0, 0⟩
def zlk : Lk := ⟨zcol, zcol, false, false, false⟩
/-- what is under: nothing, where the entry does not inherit. -/
def und (e : Ent) (l : Lk) : Lk := if e.ni then zlk else l
def app (e : Ent) (l : Lk) : Lk := ⟨if e.fg.s then e.fg else (und e l).fg, if e.bg.s then e.bg else (und e l).bg, tog e.b (und e l).b, tog e.i (und e l).i, tog e.u (und e l).u⟩


end Go.Proofs.Qxb6615783a
