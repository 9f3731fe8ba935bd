import Derived.Test.YtdmmpflpnnjahaaGreatDoorWNms0
set_option linter.all false
set_option maxHeartbeats 4000000
namespace Go.Proofs.YtdmmpflpnnjahaaGreatDoor
open Go Go.RowKit Go.Proofs.Tryz
set_option maxRecDepth 100000
theorem setLen_nil (b:Nat) (w:World) (h:w.cell? ⟨b,0,none⟩=some (.slice none 0 0)):Calls prog 35 #[.pointer (some ⟨b,0,none⟩)] w fun e w'=>e = .returned (.int .i64 0)∧w'=w:=by
 go_enter func35,ntmps35
 go_wp2_with fail
 go_ret
 exact⟨rfl,rfl⟩
def NoMs (W:Wd) (s:Spot):Prop:=((plain W s).of.kind=1∧(qae W s).of.kind=2)∨((plain W s).of.kind=2∧((qae W (qaq (plain W s))).of.kind=5∨(qae W (qaq (plain W s))).of.kind=2))
theorem nms_any {F:Fix} {P:Nat→Nat} {w0:World} {s:St} {w:World} (A:Amb F P w0 s w) {sp:Spot} {v:Value} (hd:DenW F s w sp v) (hs:SpO F.W P sp) (hc:NoMs F.W sp):Calls prog 34 #[v] w (NoSet w):=by
 rcases hc with ⟨h1,h2⟩|⟨h1,h2|h2⟩
 ·exact nms_named A hd hs h1 h2
 ·exact nms_ifc A hd hs h1 h2
 ·exact nms_ptr A hd hs h1 h2
theorem implMs_none (W:Wd) (a:Option Addr) (c:Nat) (w:World) (t:Ty) (hF:qfz W t) (hN:NmOk W) (hW:WOk w W a c) (hT:Tabs w) (htb:t.bulk≤1048576) (P:Nat→Nat) (hS:qdx W t P) (cs:List Value) (ht:TyC w t cs) (hc:NoMs W (operand W t)):
  Calls prog 15 #[.slice a W.length c,.agg cs.toArray] w (qa2 (.slice none 0 0) w):=by
 obtain⟨x1,y1,x2,y2,x3,y3,x4,y4,rfl,-⟩:=ht.full;have hbk:=hW.bulk;have HB:=hid (fun(w1:World) (h:Below w.heap.size w w1)=>qsp W a c w1 t hF hN (hW.keep (qac.below h)) (hT.below h) htb _ (ht.keep (qac.below h)));have HH:=hid (And.intro hF (And.intro hS (And.intro hT htb)));have HC:=hid hc;clear hF hN hW hT htb hS ht hc;have HB0:Hid (∀ (O1:Obj),Below w.heap.size w (w.alloc O1)):=hid fun O1=>(zp _ _).alloc (zl _) _;go_enter func15,ntmps15
 go_wp2_with (go_at_call 33;refine(HB.out _ ((zp _ _).alloc (zl _) _)).mono ?_;rintro e w2 ⟨x,rfl,Hx⟩)
 have HAm:Hid (Amb x.1 (setN x.1.W P x.1.N) _ x.2.1 w2∧SpO x.1.W (setN x.1.W P x.1.N) (operand W t)):=hid (by
  have e:=Hx.out.1;have h:=Amb.of (F:=x.1) (t:=t) (P:=P) Hx.out.2.2.1 (by rw[e];exact HH.out.1) (by rw[e];exact HH.out.2.1) (by rw[e];exact hbk) HH.out.2.2.2 (by rw[e];exact Hx.out.2.1) (HH.out.2.2.1.below ((HB0.out _).trans (Hx.out.2.2.2.2.mono (HB0.out _).size))) (by rw[e];exact Hx.out.2.2.2.1);rw[e] at h ⊢;exact h)
 have HK:=hid (nms_any HAm.out.1 Hx.out.2.2.2.1 HAm.out.2 (by rw[Hx.out.1];exact HC.out));have HB2:Hid (Below w.heap.size w w2):=hid ((HB0.out _).trans (Hx.out.2.2.2.2.mono (HB0.out _).size))
 go_wp2_with (first
  | (go_at_call 34;refine HK.out.mono ?_;rintro e w3 ⟨b,rfl,H3⟩;have HB3:=bel_ HB2 H3.out.2;have HL:=hid (setLen_nil b w3 (H3.out.1.cell 0)))
  | (go_at_call 35;refine qap HL.out ?_))
 go_loopw [8,20] (fun sv kv wr=>sv = .slice none 0 0∧kv = .int .i64 0∧wr=w3) (fun _ _ _=>0)
 case atStart=>exact⟨rfl,rfl,rfl⟩
 case round=>
  obtain⟨rfl,rfl,rfl⟩:=hrel
  go_wp2_with fail
  go_ret
  exact⟨rfl,HB3.out⟩
