import Derived.Test.YtmfhclggkjjcdaaGreatDoorL27
import Derived.Test.YtmfhclggkjjcdaaGreatDoorL28
import Derived.Deep.RegionWith
set_option linter.all false
set_option maxHeartbeats 4000000
namespace Go.Proofs.YtmfhclggkjjcdaaGreatDoor
open Go Go.RowKit Go.Proofs.Tryz
set_option maxRecDepth 100000
variable {w:World} {b:Nat}
def obI (r:Rs):Int:=match r.ob with|none => -1|some (k,_)=>k
def obM (r:Rs):Bool:=match r.ob with|none=>false|some (_,m)=>m
def qdq (r:Rs) (w:World) (e:Ending) (w':World):Prop:=∃ x:Option Addr×Nat,e = .returned (qdz (obI r) (obM r) x.1 r.ix.length x.2 r.ind)∧Hid (w'.ownsRow 0 3 1 (.slice x.1 r.ix.length x.2) r.ix.length (qbh r.ix)∧Below w.heap.size w w')
theorem qt3 {F:Fix} {P:Nat→Nat} {w0:World} {s:St} {w w1:World} (A:Amb F P w0 s w1) {r:Rs} {x:Option Addr×Nat} (h1:∀ k met,r.ob=some (k,met)→∃ x,s.ob k=some (met,x)∧k<F.N) (ho:w1.ownsRow 0 3 1 (.slice x.1 r.ix.length x.2) r.ix.length (qbh r.ix)) (hb:Below w.heap.size w w1):
  Calls prog 24 #[ptrV F.bb,obV s r.ob,.slice x.1 r.ix.length x.2,.bool r.ind] w1 (qdq r w):=by
 have key:∀ (z:Int) (m:Bool) (w2:World),obI r=z→obM r=m→Below w1.heap.size w1 w2→qdq r w (.returned (qdz z m x.1 r.ix.length x.2 r.ind)) w2:=fun z m w2 e1 e2 hb2=>
  ⟨x,by rw[e1,e2],hid ⟨qab (S:=fun _=>False) ho (qag.keep hb2) fun _ _ h=>h,hb.trans (hb2.mono hb.size)⟩⟩
 cases hr:r.ob with
 | none=>
  refine(qty F.bb x.1 r.ix.length x.2 r.ind w1).mono ?_;rintro e w2 ⟨rfl,hb2⟩;exact key _ _ _ (by unfold obI;rw[hr]) (by unfold obM;rw[hr]) hb2
 | some p=>
  obtain⟨k,met⟩:=p;obtain⟨b,q1,q2⟩:=h1 k met hr;simp only[obV,q1];refine(qrx A.bt.ok A.cov A.nn q2 q1 x.1 r.ix.length x.2 r.ind).mono ?_;rintro e w2 ⟨rfl,hb2⟩;exact key _ _ _ (by unfold obI;rw[hr]) (by unfold obM;rw[hr]) hb2
def put4 (w:World) (b:Nat) (v0 v1 v2 v3:Value):World:=(((w.setCell ⟨b,0,none⟩ v0).setCell ⟨b,1,none⟩ v1).setCell ⟨b,2,none⟩ v2).setCell ⟨b,3,none⟩ v3
theorem qv4 {T:TypeId} {u0 u1 u2 u3:Value} (h:Blk w b T [u0,u1,u2,u3]) (v0 v1 v2 v3:Value):Blk (put4 w b v0 v1 v2 v3) b T [v0,v1,v2,v3]:=
 (((h.set 0 v0).set 1 v1).set 2 v2).set 3 v3
theorem qrl (w:World) (b:Nat) (v0 v1 v2 v3:Value):qag (fun g=>g=b) w (put4 w b v0 v1 v2 v3):=
 (((qag.setCell (fun g=>g=b) w (a:=⟨b,0,none⟩) rfl v0).trans (qag.setCell (fun g=>g=b) _ (a:=⟨b,1,none⟩) rfl v1)).trans (qag.setCell (fun g=>g=b) _ (a:=⟨b,2,none⟩) rfl v2)).trans (qag.setCell (fun g=>g=b) _ (a:=⟨b,3,none⟩) rfl v3)
theorem qru {w0 w:World} {B b:Nat} (h:Below B w0 w) (hb:B≤b) (v0 v1 v2 v3:Value):Below B w0 (put4 w b v0 v1 v2 v3):=by
 unfold put4
 iterate 4 refine Below.setCell ?_ (by simpa using hb) _
 exact h
theorem qdq.done {r:Rs} {w w5:World} {u0 u1 u2 u3:Value} (hb:Blk w5 b 35 [u0,u1,u2,u3]) (hlt:w.heap.size≤b) (hB:Below w.heap.size w w5) (x:Option Addr×Nat) (ho:w5.ownsRow 0 3 1 (.slice x.1 r.ix.length x.2) r.ix.length (qbh r.ix)) (v0 v1 v2 v3:Value):
  qdq r w (.returned (qdz (obI r) (obM r) x.1 r.ix.length x.2 r.ind)) (put4 w5 b v0 v1 v2 v3):=
 ⟨x,rfl,hid ⟨qab ho (qrl w5 b v0 v1 v2 v3) fun g hg e=>by
  obtain⟨cs,hc⟩:=qaf ho hg;exact hc.tne hb (by decide) e,qru hB hlt v0 v1 v2 v3⟩⟩
theorem qgz (W:Wd) (a:Option Addr) (c:Nat) (w:World) (t:Ty) (hF:qfz W t) (hN:NmOk W) (hW:WOk w W a c) (hT:Tabs w) (htb:t.bulk≤1048576) (P:Nat→Nat) (hS:qdx W t P) (cs:List Value) (ht:TyC w t cs) (addr:Bool) (q m:Int) (hq:q=0∨q=1) (hm:IsNm m):
  Calls prog 10 #[.slice a W.length c,.agg cs.toArray,.bool addr,.int .i64 q,.int .i64 m] w (qdq (qch W (operand W t) addr q m) w):=by
 obtain⟨x1,y1,x2,y2,x3,y3,x4,y4,rfl,-⟩:=ht.full;have hbk:=hW.bulk;have HB:=hid (fun(w1:World) (h:Below w.heap.size w w1)=>qsp W a c w1 t hF hN (hW.keep (qac.below h)) (hT.below h) htb _ (ht.keep (qac.below h)));have HH:=hid (And.intro hF (And.intro hS (And.intro hT htb)));have Hq:=hid hq;have Hm:=hid hm;have hq2:0≤q∧q<2:=by omega
 clear hF hN hW hT htb hS ht hq hm;have HB0:Hid (∀ (O1 O2:Obj),Below w.heap.size w ((w.alloc O1).alloc O2)):=hid fun O1 O2=>((zp _ _).alloc (zl _) _).alloc (by rw[zd];omega) _;go_enter func10,ntmps10
 go_wp2_with (go_at_call 23;refine(HB.out _ (((zp _ _).alloc (zl _) _).alloc (by simp) _)).mono ?_;rintro e w2 ⟨x,rfl,Hx⟩)
 have c0:w2.cell? ⟨x.1.bb,0,none⟩=some (.slice (some ⟨x.1.pr,0,none⟩) 2 x.1.pc):=Hx.out.2.2.1.ok.bld.cell 0;have c1:=(Hx.out.2.2.1.ok.pkc Hq.out).1;have HR:Hid (Blk w2 (w.heap.size+1) 35 [.int .i64 0,.bool false,.slice none 0 0,.bool false]):=hid (by
  have h1:=Blk.new (w.alloc (Obj.cells #[Value.int IntKind.i64 t.kind,Value.int IntKind.i64 t.num,Value.slice x1 t.elem.length y1,Value.slice x2 t.fields.length y2,Value.slice x3 t.methods.length y3,Value.slice x4 t.embeds.length y4] 29)) 35 [Value.int IntKind.i64 0,Value.bool false,Value.slice none 0 0,Value.bool false];rw[zd] at h1;exact h1.keep Hx.out.2.2.2.2)
 have HN:=hid (fun w3=>qbq m w3 Hm.out);have HAm:Hid (Amb x.1 (setN x.1.W P x.1.N) _ x.2.1 w2∧SpO x.1.W (setN x.1.W P x.1.N) (operand W t)):=hid (by
  have e:=Hx.out.1;have h:=Amb.of (F:=x.1) (t:=t) (P:=P) Hx.out.2.2.1 (by rw[e];exact HH.out.1) (by rw[e];exact HH.out.2.1) (by rw[e];exact hbk) HH.out.2.2.2 (by rw[e];exact Hx.out.2.1) (HH.out.2.2.1.below ((HB0.out _ _).trans (Hx.out.2.2.2.2.mono (HB0.out _ _).size))) (by rw[e];exact Hx.out.2.2.2.1);rw[e] at h ⊢;exact h)
 have HK:Hid (∀ w3,Below w2.heap.size w2 w3→Calls prog 25 #[.iface x.2.2.1 (.pointer (some x.2.2.2)),.bool addr,ptrV (x.1.pk q),.string (qas m)] w3 (qb0 x.1 x.2.1 w3 (qch W (operand W t) addr q m))):=hid <|
  fun w3 hb=>by
   have h:=qs3 (HAm.out.1.keep hb) (DenW.keep Hx.out.2.2.2.1 hb) HAm.out.2 addr q m Hq.out Hm.out;rw[Hx.out.1] at h;exact h
 have HD:Hid (∀ w3 w4 (x5:Option Addr×Nat),Below w2.heap.size w2 w3→Hid (w4.ownsRow 0 3 1 (.slice x5.1 (qch W (operand W t) addr q m).ix.length x5.2) (qch W (operand W t) addr q m).ix.length (qbh (qch W (operand W t) addr q m).ix)∧Below w3.heap.size w3 w4∧∀ k met,(qch W (operand W t) addr q m).ob=some (k,met)→∃ x6,x.2.1.ob k=some (met,x6)∧k<x.1.N)→Calls prog 24 #[ptrV x.1.bb,obV x.2.1 (qch W (operand W t) addr q m).ob,.slice x5.1 (qch W (operand W t) addr q m).ix.length x5.2,.bool (qch W (operand W t) addr q m).ind] w4 (qdq (qch W (operand W t) addr q m) w3)):=hid <|
  fun w3 w4 x5 hb h4=>by
   have hA4:=HAm.out.1.keep (hb.trans (h4.out.2.1.mono hb.size));exact qt3 hA4 h4.out.2.2 h4.out.1 h4.out.2.1
 go_region_with (first
  | (go_at_call 26;refine(HN.out _).mono ?_;rintro e w3 ⟨rfl,hb3⟩;have Hb3:Hid (Below w2.heap.size w2 w3):=hid (((zp _ _).drew).trans (hb3.mono (by simp)));have c03:=qac.below Hb3.out _ _ c0;have c13:=qac.below Hb3.out _ _ c1;clear hb3)
  | (go_at_call 25;refine(HK.out _ Hb3.out).mono ?_;rintro e w4 ⟨x5,rfl,H4⟩)
  | (go_at_call 24;refine(HD.out _ _ _ Hb3.out H4).mono ?_;rintro e w5 ⟨x7,rfl,H5⟩;(try simp only[qdz]);have HR5:=hid (HR.out.keep (Hb3.out.trans (H5.out.2.mono Hb3.out.size)));have r0:=HR5.out.cell 0;have r1:=HR5.out.cell 1;have r2:=HR5.out.cell 2;have r3:=HR5.out.cell 3;simp only[zu,zt] at r0 r1 r2 r3;have s0:=HR5.out.soft 0;have s1:=HR5.out.soft 1;have s2:=HR5.out.soft 2;have s3:=HR5.out.soft 3;have rl:=HR5.out.lt))
 all_goals
  have hz:=Hb3.out.size;have hB5:Below w.heap.size w w5:=((HB0.out _ _).trans (Hx.out.2.2.2.2.mono (HB0.out _ _).size)).trans ((Hb3.out.trans (H5.out.2.mono Hb3.out.size)).mono (by have:=Hx.out.2.2.2.2.size;have:=(HB0.out (Obj.cells #[] 0) (Obj.cells #[] 0)).size;simp only[zd] at *;omega));have HP:=hid (qdq.done (r:=qch W (operand W t) addr q m) HR5.out (Nat.le_succ _) hB5 x7 H5.out.1);have HQ:=hid (qv4 HR5.out (.int .i64 (obI (qch W (operand W t) addr q m))) (.bool (obM (qch W (operand W t) addr q m))) (.slice x7.1 (qch W (operand W t) addr q m).ix.length x7.2) (.bool (qch W (operand W t) addr q m).ind))
  go_wp2_with fail
  (try simp only[Exit.inBlock,Exit.then])
  refine bodyPost_ret (qd1 (v:=qdz (obI (qch W (operand W t) addr q m)) (obM (qch W (operand W t) addr q m)) x7.1 (qch W (operand W t) addr q m).ix.length x7.2 (qch W (operand W t) addr q m).ind) rfl _ _ _ rfl ?_) rfl ?_
  ·have q0:=HQ.out.cell 0;have q1:=HQ.out.cell 1;have q2:=HQ.out.cell 2;have q3:=HQ.out.cell 3;simp only[put4,zu,zt] at q0 q1 q2 q3;unfold qdz;go_simp
  ·exact HP.out _ _ _ _
