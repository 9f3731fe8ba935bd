import Derived.Test.YtdmmpflpnnjahaaGreatDoorK34
import Derived.Test.YtdmmpflpnnjahaaGreatDoorK42
set_option linter.all false
set_option maxHeartbeats 2000000
namespace Go.Proofs.YtdmmpflpnnjahaaGreatDoor
open Go Go.RowKit Go.Proofs.Tryz
set_option maxRecDepth 100000
theorem isIface_any (W:Wd) (a:Option Addr) (c:Nat) (t:Ty) (cs:List Value) (w:World) (hW:WOk w W a c) (hC:CloW W) (ht:TyC w t cs) (hcl:t.clo W.length):
  Calls prog 11 #[.slice a W.length c,.agg cs.toArray] w (qa2 (.bool ((qae W (operand W t)).of.kind==5)) w):=by
 have HO:=hid fun w' (h:Below w.heap.size w w')=>qpr W a c t cs w w' (qac.below h) hW.row ht hW.cap hW.bulk;have HU:=hid fun w' (h:Below w.heap.size w w') v (hs:qb6 w (operand W t) v)=>qb3 W a c (operand W t) v w w' (qac.below h) hW hC hs hcl;obtain⟨x1,d1,x2,d2,x3,d3,x4,d4,rfl,-⟩:=ht.full;have HB0:Hid (∀ O:Obj,Below w.heap.size w (w.alloc O)):=hid fun O=>(zp _ _).alloc (zl _) O;clear hW hC ht hcl;have hfs:=qd5;have hft:=qde;go_enter func11,ntmps11
 go_wp2_with (first
  | (go_at_call 23;refine(HO.out _ (HB0.out _)).mono ?_;rintro e w2 h2;obtain⟨v2,rfl,hs2,hb2⟩:=h2.v;have HB2:=hid ((HB0.out _).trans (hb2.mono (HB0.out _).size));have HS2:=hid hs2;clear hs2 hb2 h2)
  | (go_at_call 30;refine(HU.out _ HB2.out _ HS2.out).mono ?_;rintro e w3 h3;obtain⟨v3,rfl,hs3,hb3⟩:=h3.v;have HB3:=bel_ HB2 hb3;obtain⟨e1,f1,e2,f2,e3,f3,e4,f4,rfl,-⟩:=hs3.open;clear hb3 h3))
 go_ret
 exact⟨rfl,HB3.out⟩
