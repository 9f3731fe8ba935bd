import Derived.Test.YtaibcdkadbemgaaGreatDoorK47
set_option linter.all false
namespace Go.Proofs.YtaibcdkadbemgaaGreatDoor
open Go Go.RowKit
set_option maxRecDepth 100000
theorem qfz.nm {W:Wd} {t:Ty} (h:qfz W t):NmOk W:=fun d hd=>⟨(h.names d hd).1,(h.names d hd).2.1⟩
theorem qs2 (W:Wd) (a:Option Addr) (c:Nat) (w:World) (t:Ty) (hA:qqd W t) (hW:WOk w W a c) (hT:Tabs w) (htb:t.bulk≤1048576) (cs:List Value) (ht:TyC w t cs) (addr:Bool) (q m:Int) (hq:q=0∨q=1) (hm:IsNm m):
  Calls Tryz.prog 9 #[.slice a W.length c,.agg cs.toArray,.bool addr,.int .i64 q,.int .i64 m] w (qdq (qch W (operand W t) addr q m) w):=by
 obtain⟨hF,P,hS,-⟩:=hA;exact qgz W a c w t hF hF.nm hW hT htb P hS cs ht addr q m hq hm