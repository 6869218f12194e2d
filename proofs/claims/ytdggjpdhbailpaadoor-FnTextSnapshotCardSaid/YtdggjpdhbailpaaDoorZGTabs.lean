/- The four tables that the law reads, as laid. Conditions: none. -/
import Derived.Test.YtdggjpdhbailpaaDoorZGTb
import Derived.Test.YtdggjpdhbailpaaDoorZSf2
import Derived.Test.YtdggjpdhbailpaaDoorZGUh1
import Derived.Test.YtdggjpdhbailpaaDoorZGEs0
namespace Go.Proofs.YtdggjpdhbailpaaDoor.Ap
open Go.RowKit Go.Proofs.YtdggjpdhbailpaaDoorW.PrintWords Go.Proofs.YtdggjpdhbailpaaDoorW.PrintLast Go.Proofs.YtdggjpdhbailpaaDoorW.PrintMore Go.Proofs.YtdggjpdhbailpaaDoor.PFnTextAscii

structure Tabs (w : World) : Prop where
  p : Sf2.Pow w
  t : Ft1.Tab w
  z : Uh.Tz w
  u : Lib.Utf8Tabs 3 4 w
theorem Tabs.on {w w' : World} (h : Tabs w) (hb : Below w.heap.size w w') : Tabs w' := ⟨h.p.on hb, h.t.on hb, h.z.on hb, Utf8Tabs_below h.u hb⟩


end Go.Proofs.YtdggjpdhbailpaaDoor.Ap
