/- The table uint64pow10 in memory. Conditions: none. -/
import Derived.Test.YtdggjpdhbailpaaDoorZShD
namespace Go.Proofs.YtdggjpdhbailpaaDoor.Ft1
open Go.RowKit
def Tab (w : World) : Prop := Lib.TabIs Tryd.prog w "internal/strconv.uint64pow10" .u64 Lib.pow10Tab
theorem Tab.on {w w' : World} (h : Tab w) (hb : Below w.heap.size w w') : Tab w' := Lib.tabBelow_of_tabIs h w' hb
end Go.Proofs.YtdggjpdhbailpaaDoor.Ft1
