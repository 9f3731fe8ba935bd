import Derived.Test.YtaibcdkadbemgaaGreatDoorWLawB
set_option linter.all false
namespace Go.Proofs.YtaibcdkadbemgaaGreatDoor
open Go Go.RowKit
set_option maxRecDepth 100000
def AnsPost (o:Int) (m:Bool) (ix:List Nat) (ind:Bool) (w:World) (e:Ending) (w':World):Prop:=∃ x:Option Addr×Nat,e = .returned (.agg #[.int .i64 o,.bool m,.slice x.1 ix.length x.2,.bool ind])∧Hid (w'.ownsRow 0 3 1 (.slice x.1 ix.length x.2) ix.length (qbh ix)∧Below w.heap.size w w')
theorem qdq.ans {r:Rs} {w w':World} {e:Ending} (h:qdq r w e w'):AnsPost (obI r) (obM r) r.ix r.ind w e w':=h