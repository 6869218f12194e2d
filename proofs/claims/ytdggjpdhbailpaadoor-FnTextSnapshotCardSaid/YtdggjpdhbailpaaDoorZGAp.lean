/- The appenders of a text's scalars: each appends the same bytes in whatever world in which the tables read as laid. Conditions: none further. -/
import Derived.Test.YtdggjpdhbailpaaDoorZGAf3
import Derived.Test.YtdggjpdhbailpaaDoorZGUi6
import Derived.Test.YtdggjpdhbailpaaDoorZGEs1
import Derived.Test.YtdggjpdhbailpaaDoorZGTd2
import Derived.Test.YtdggjpdhbailpaaDoorZGTabs
namespace Go.Proofs.YtdggjpdhbailpaaDoor.Ap
set_option linter.unusedVariables false
open Go.RowKit Go.Proofs.YtdggjpdhbailpaaDoorW.PrintWords Go.Proofs.YtdggjpdhbailpaaDoorW.PrintLast Go.Proofs.YtdggjpdhbailpaaDoorW.PrintMore Go.Proofs.YtdggjpdhbailpaaDoor.Bl Go.Proofs.YtdggjpdhbailpaaDoor.Wr Go.Proofs.YtdggjpdhbailpaaDoor.Td2 Go.Proofs.YtdggjpdhbailpaaDoor.PFnTextAscii

theorem apps : Apps Tabs where
  fl := fun n sz hn hs hf => by
    obtain ⟨r, r2, r3⟩ := Af3.float_out n hn sz hs hf
    exact ⟨r, fun γ_ w0 h w1 v l P0 hB ho hP hl => (r3 γ_ P0 v l w0 w1 (by omega) hB ho hP (h.p.on hB) (h.t.on hB)).mono fun e w' ⟨v', h1, h2, h3, h4⟩ => ⟨r, v', ⟨rfl, by omega⟩, h1, h2, h3, h4⟩⟩
  it := fun i i0 i1 => by
    have hl := Ui6.ints_len i i0 i1
    exact ⟨Ui6.ints i, fun γ_ w0 h w1 v l P0 hB ho hP hl2 => (Ui6.aip i i0 i1 P0 v l w0 w1 (by omega) hB ho h.t).mono fun e w' ⟨v', h1, h2, h3, h4⟩ => ⟨_, v', ⟨rfl, by omega⟩, h1, h2, h3, h4⟩⟩
  ut := fun u u0 u1 => by
    obtain ⟨n, rfl⟩ := Int.eq_ofNat_of_zero_le u0
    have hd := Ui6.decs_ok n (by omega)
    exact ⟨_, fun γ_ w0 h w1 v l P0 hB ho hP hl => (Ui4.aup n (by omega) P0 v l w0 w1 (by omega) hB ho (h.t.on hB)).mono fun e w' ⟨v', h1, h2, h3, h4⟩ => ⟨_, v', ⟨rfl, by have := hd.2; omega⟩, h1, h2, h3, h4⟩⟩
  st := fun s hs => ⟨Es.strB s, fun γ_ w0 h w1 v l P0 hB ho hP hl => (Es1.str s hs P0 v l w0 w1 hl hB ho h.z h.u).mono fun e w' ⟨r1, v', h1, h2, h3, h4⟩ => ⟨_, v', ⟨rfl, r1⟩, h1, h2, h3, h4⟩⟩

end Go.Proofs.YtdggjpdhbailpaaDoor.Ap
