import Derived.Test.YtmfhclggkjjcdaaGreatDoorL22
set_option linter.all false
set_option maxHeartbeats 1000000
namespace Go.Proofs.YtmfhclggkjjcdaaGreatDoor
open Go Go.RowKit Go.Proofs.Tryz
set_option maxRecDepth 100000
variable {w w0:World} {F:Fix} {P:Nat→Nat} {s:St}
theorem qr4 (cp x y tx ty:Nat) (v1 v2:Value) (w:World) (hcp:w.cell? ⟨cp,1,none⟩=some (.bool false)) (hne:x≠y) (h1:qbs w v1 (.iface 98 (ptrV x))) (h2:qbs w v2 (.iface 98 (ptrV y))) (h:qfw w x y tx ty) (p:Option Addr):
  Calls prog 125 #[ptrV cp,v1,v2,.pointer p] w (qa2 (.bool false) w):=by
 have hx:=hid (qan _ _ w h1);have hy:=hid (qan _ _ w h2);have hn:=hid (qfg (.iface 98 (ptrV y)) ⟨y,0,none⟩ w ⟨⟨_,_,rfl,by decide⟩,.inl rfl⟩);have HO:=hid (qk9 x y tx ty w h);have he:=qq1 x y tx ty w h;have heg:=fun p q=>qc9 98 98 (ptrV x) (ptrV y) 63 p q w;have t1:=fun v w=>qaw (T:=98) underlying156 Tryz.zs273 (by decide) v w;have t2:=fun v w=>qaw (T:=98) underlying300 Tryz.zsArr (by decide) v w;have t3:=fun v w=>qaw (T:=98) underlying147 Tryz.zsSl (by decide) v w;have t4:=fun v w=>qaw (T:=98) underlying153 Tryz.zsSt (by decide) v w;have t5:=fun v w=>qaw (T:=98) underlying145 Tryz.zsPt (by decide) v w;have t6:=fun v w=>qaw (T:=98) underlying197 Tryz.zsTu (by decide) v w;have t7:=fun v w=>qaw (T:=98) underlying162 Tryz.zsSg (by decide) v w;have t8:=fun v w=>qaw (T:=98) underlying271 Tryz.zsUn (by decide) v w;have t9:=fun v w=>qaw (T:=98) underlying112 Tryz.zsIf (by decide) v w;have t10:=fun v w=>qaw (T:=98) underlying311 Tryz.zsMp (by decide) v w;have t11:=fun v w=>qaw (T:=98) underlying315 Tryz.zsCh (by decide) v w;have t12:=fun v w=>qb5 underlying98 v w;have hcl:=zj w _ hcp;have hxy:(x==y)=false:=by simpa using hne
 rw[hxy] at he HO;clear h h1 h2 hne hxy;have tok:True:=trivial;go_enter func125,ntmps125
 go_wp2_with (first
  | (go_at_call 86;have _t:=tok;clear _t tok;refine qap hx.out ?_)
  | (go_at_call 86;refine qap hy.out ?_)
  | (go_at_call 61;refine qap hn.out ?_)
  | (go_at_call 157;refine HO.out.mono ?_;rintro e w' ⟨rfl,hb⟩;have Hb:=hid hb;clear hb))
 go_ret
 exact⟨rfl,Hb.out⟩
theorem qcn {f:FuncId} {args:Array Value} {v:Value} (h:Calls prog f args w fun e w'=>e = .returned v∧w'=w):Calls prog f args w (qa2 v w):=
 h.mono fun e w' ⟨h1,h2⟩=>⟨h1,by rw[h2];exact zp _ _⟩
theorem qwj (cp x y:Nat) (k k':Int) (v1 v2:Value) (w:World) (hcp:w.cell? ⟨cp,1,none⟩=some (.bool false)) (hk:k=0∨k=1∨k=2∨k=3∨k=4∨k=5) (hne:kT k'≠kT k) (h1:qbs w v1 (tyV (kT k,x))) (h2:qbs w v2 (tyV (kT k',y))) (hi1:TyIn w (kT k,x)) (hi2:TyIn w (kT k',y)) (p:Option Addr):
  Calls prog 125 #[ptrV cp,v1,v2,.pointer p] w (qa2 (.bool false) w):=by
 rcases hk with rfl|rfl|rfl|rfl|rfl|rfl
 ·exact qcn (qre cp x y _ v1 v2 w hcp p hne h1 h2 hi1 hi2)
 ·exact qcn (qrd cp x y _ v1 v2 w hcp p hne h1 h2 hi1 hi2)
 ·exact qcn (qw0 cp x y _ v1 v2 w hcp p hne h1 h2 hi1 hi2)
 ·exact qcn (qrw cp x y _ v1 v2 w hcp p hne h1 h2 hi1 hi2)
 ·exact qcn (qpx cp x y _ v1 v2 w hcp p hne h1 h2 hi1 hi2)
 ·exact qcn (qry cp x y _ v1 v2 w hcp p hne h1 h2 hi1 hi2)
theorem PlV.setM (A:Amb F P w0 s w) {sp:Spot} {v u:Value} (h:PlV F P s w sp v u) (hk:sp.of.kind=5) {b:Nat} (hb:u = .iface 112 (ptrV b)):
  ∃ ts a c tv sg,SetM w b ts a (msL F.W sp).length c tv (fun i=>qbf s ((msL F.W sp).getD i mn0).k) (fun i=>F.pk ((msL F.W sp).getD i mn0).p) sg (fun i=>((msL F.W sp).getD i mn0).p) (fun i=>((msL F.W sp).getD i mn0).n):=by
 obtain⟨b',a',c',a2,c2,e,hm,-⟩:=Den.iface h.den hk;rw[hb] at e;cases e;obtain⟨G,hG⟩:=A.bt.comp;obtain⟨ts,l,ra,rc,ea,ec,hB,hS⟩:=hG.all hm;have hl:msL F.W sp=l:=qug hS.ms;obtain⟨a,c,tv,h1,h2,h3,-⟩:=hS.set;have hlen:(l.map fun m=>qbf s m.k).length=l.length:=by simp
 have hle:=qjf hS.dis fun m hm=>(hS.ok m hm).1;have hrow:=qeh h2;have hcap:(l.map fun m=>qbf s m.k).length≤c:=by obtain⟨_,_,he,hle,-⟩:=qak h2;cases he;exact hle
 rw[hlen] at hcap;have hsg:∀ i:Nat,∃ sg:Nat,∀ hi:i<l.length,MthM w a i (qbf s l[i].k) (F.pk l[i].p) sg l[i].p l[i].n:=fun i=>by
  by_cases hi:i<l.length
  ·obtain⟨hn,hf⟩:=hS.ok l[i] (z8 hi);obtain⟨sg,v',T,aa,f1,f2,-⟩:=hf;obtain⟨g,o,e1,e2⟩:=hrow i (by simpa using hi);simp only[List.getElem_map] at e2;exact⟨sg,fun _=>⟨⟨g,o,e1,e2⟩,qax (f1 1 _ rfl),qax (f1 2 _ rfl),qax (f1 3 _ rfl),hn.1,hn.2,(A.bt.ok.pkc hn.2).2,qax (f2 2 _ rfl),qax (f2 3 _ rfl),qax (f2 4 _ rfl),qig (f2 2 _ rfl)⟩⟩
  ·exact⟨0,fun h=>absurd h hi⟩
 obtain⟨sg,hsg⟩:=Classical.skolem.1 hsg;refine⟨ts,a,c,tv,sg,?_⟩;rw[hl];refine⟨(qbr hB).2.2.2.2.2,(qbr hB).2.2.1,?_,?_,?_,h3,hcap,by omega,fun i hi => ?_⟩
 ·rw[h1.cell,← hlen];rfl
 ·rw[h1.cell];rfl
 ·rw[h1.cell];rfl
 ·have e:l.getD i mn0=l[i]:=by simp[hi]
  simp only[e];exact hsg i hi
theorem qw2 (A:Amb F P w0 s w) {sp:Spot} {v u:Value} (h:PlV F P s w sp v u) (hk:sp.of.kind=5):(∀ m∈msL F.W sp,NmN m)∧DisN (msL F.W sp)∧MS F.W sp (msL F.W sp):=by
 obtain⟨b',a',c',a2,c2,e,hm,-⟩:=Den.iface h.den hk;obtain⟨G,hG⟩:=A.bt.comp;obtain⟨ts,l,ra,rc,ea,ec,hB,hS⟩:=hG.all hm;rw[qug hS.ms];exact⟨fun m hm=>(hS.ok m hm).1,hS.dis,hS.ms⟩
theorem idL_cid:∀ i:Fin 16,∀ j:Fin 16,∀ p:Fin 2,∀ q:Fin 2,(idL (p.val:Nat) (i.val:Nat)=idL (q.val:Nat) (j.val:Nat))↔cid (p.val:Nat) (i.val:Nat)=cid (q.val:Nat) (j.val:Nat):=by decide +kernel
theorem id_cid {p q n m:Int} (hp:p=0∨p=1) (hq:q=0∨q=1) (hn:IsNm n) (hm:IsNm m):idL p n=idL q m↔cid p n=cid q m:=by
 obtain⟨a1,a2⟩:=hn;obtain⟨b1,b2⟩:=hm;have:=idL_cid ⟨n.toNat,by omega⟩ ⟨m.toNat,by omega⟩ ⟨p.toNat,by omega⟩ ⟨q.toNat,by omega⟩;simpa only[show((p.toNat:Nat):Int)=p by omega,show((q.toNat:Nat):Int)=q by omega,show((n.toNat:Nat):Int)=n by omega,show((m.toNat:Nat):Int)=m by omega] using this
theorem qnm {p1 p2 m1 m2:Nat→Int} {i:Nat} (h1:p1 i=0∨p1 i=1) (h2:p2 i=0∨p2 i=1) (h3:IsNm (m1 i)) (h4:IsNm (m2 i)):qnt p1 p2 m1 m2 i=true↔cid (p1 i) (m1 i)=cid (p2 i) (m2 i):=by
 rw[← id_cid h1 h2 h3 h4];unfold qnt idS;rw[beq_iff_eq];constructor
 ·intro h;have h':=congrArg ByteArray.mk (congrArg List.toArray h);simpa using h
 ·intro h;rw[h]
theorem qqw (cp:Nat):∀ (n:Nat) (x y:Spot) (v1 u1 v2 u2:Value) (w:World),Amb F P w0 s w→PlV F P s w x v1 u1→PlV F P s w y v2 u2→op P x.of≤n→w.cell? ⟨cp,0,none⟩=some (.bool false)→w.cell? ⟨cp,1,none⟩=some (.bool false)→
  Calls prog 125 #[ptrV cp,v1,v2,.pointer none] w (qa2 (.bool (@decide (cano F.W n x=cano F.W n y) (Classical.propDecidable _))) w)
 | 0,x,_,_,_,_,_,_,A,_,_,hop,_,_=>by
  have:=qqe P A.wd.pos x.of;omega
 | n+1,x,y,v1,u1,v2,u2,w,A,hx,hy,hop,hc0,hc1=>by
  have raw:∀ (x' y':Spot) (z1 z2:Value),SpO F.W P x'→SpO F.W P y'→op P x'.of≤n→DenW F s w x' z1→DenW F s w y' z2→∀ w',Below w.heap.size w w'→
    Calls prog 125 #[ptrV cp,z1,z2,.pointer none] w' (qa2 (.bool (@decide (cano F.W n x'=cano F.W n y') (Classical.propDecidable _))) w'):=fun x' y' z1 z2 s1 s2 ho d1 d2 w' hb=>by
   obtain⟨q1,h1⟩:=A.plainv d1 s1;obtain⟨q2,h2⟩:=A.plainv d2 s2;have:=qqw cp n _ _ _ _ _ _ w' (A.keep hb) (h1.keep hb) (h2.keep hb) (Nat.le_trans (s1.toPl A.wd).2 ho) (qac.below hb _ _ hc0) (qac.below hb _ _ hc1);rw[qja F.W A.wd.by_ s1.numOk,qja F.W A.wd.by_ s2.numOk] at this;exact this
  obtain⟨b1,e1,i1⟩:=hx.ty A;obtain⟨b2,e2,i2⟩:=hy.ty A;have p1:=hx.plain;have p2:=hy.plain;rw[e1] at p1;rw[e2] at p2;by_cases hkk:x.of.kind=y.of.kind
  rotate_left 1
  ·have hne:kT y.of.kind≠kT x.of.kind:=fun e=>hkk (qki hy.spo.kinds hx.spo.kinds e).symm;have hc:cano F.W (n+1) x≠cano F.W (n+1) y:=fun e=>by
    have:=congrArg CT.tag e;rw[qqq,qqq,hx.self,hy.self] at this;exact hkk this
   rw[@decide_eq_false _ (Classical.propDecidable _) hc];exact qwj cp b1 b2 _ _ v1 v2 w hc1 hx.spo.kinds hne p1 p2 i1 i2 none
  rw[← hkk] at e2 i2 p2;by_cases hbb:b1=b2
  ·subst hbb;have hc:cano F.W (n+1) x=cano F.W (n+1) y:=qib A (n+1) x y u1 hx.spo hy.spo hx.den (by rw[e1,← e2];exact hy.den);rw[@decide_eq_true _ (Classical.propDecidable _) hc];exact qcn (idSame cp b1 _ v1 v2 w p1 p2 i1 none)
  rcases hx.spo.kinds with hk|hk|hk|hk|hk|hk
  ·rw[hk] at e1 e2 i1 i2 p1 p2;obtain⟨c1,j1,s1,f1,r1⟩:=Den.basic hx.den hk;obtain⟨c2,j2,s2,f2,r2⟩:=Den.basic hy.den (by omega);rw[e1] at f1;cases f1;rw[e2] at f2;cases f2;refine idBasic cp b1 b2 v1 v2 w hc1 none hbb _ _ _ ?_ p1 p2 i1 i2 (qax (r1 0 _ rfl)) (qax (r2 0 _ rfl));rw[qnc hx.self hk,qnc hy.self (by omega)];have n1:=hx.spo.num02 hk;have n2:=hy.spo.num02 (by omega);by_cases e:x.of.num=y.of.num
   ·rw[@decide_eq_true _ (Classical.propDecidable _) (by rw[e]),e];simp
   ·rw[@decide_eq_false _ (Classical.propDecidable _) (by simpa using e)];simp only[beq_eq_false_iff_ne,ne_eq];exact fun e'=>e (qql n1 n2 e')
  ·rw[hk] at e1 e2 i1 i2 p1 p2;obtain⟨l1,c1,tn1,U1,ux1,ra1,rc1,fs1,f1,q1⟩:=A.nd hx.den hk (hx.nal hk);obtain⟨l2,c2,tn2,U2,ux2,ra2,rc2,fs2,f2,q2⟩:=A.nd hy.den (by omega) (hy.nal (by omega));rw[e1] at f1;cases f1;rw[e2] at f2;cases f2;have hc:cano F.W (n+1) x≠cano F.W (n+1) y:=fun e=>by
    rw[qm2 hx.self hk,qm2 hy.self (by omega)] at e;simp only[CT.leaf.injEq,List.cons.injEq,Prod.mk.injEq,true_and,and_true] at e;have t1:=q1.tb;rw[e,q2.tb] at t1;cases t1;exact hbb rfl
   rw[@decide_eq_false _ (Classical.propDecidable _) hc];refine qr4 cp b1 b2 tn1 tn2 v1 v2 w hc1 hbb p1 p2 ⟨⟨_,q1.blk⟩,⟨_,q2.blk⟩,⟨_,q1.tnB⟩,⟨_,q2.tnB⟩,⟨fun e => ?_,fun e=>absurd e hbb⟩⟩ none;have k1:=q1.tnB.cell 3;have k2:=q2.tnB.cell 3;rw[e,k2] at k1;simp only[zu,zt] at k1;cases k1;rfl
  ·rw[hk] at e1 e2 i1 i2 p1 p2;obtain⟨c1,z1,f1,r1,d1⟩:=Den.ptr hx.den hk;obtain⟨c2,z2,f2,r2,d2⟩:=Den.ptr hy.den (by omega);rw[e1] at f1;cases f1;rw[e2] at f2;cases f2;have hs1:=hx.spo.elem (.inl hk);have hs2:=hy.spo.elem (.inl (by omega));have:=idPtr cp b1 b2 v1 v2 w hc1 none hbb _ z1 z2 p1 p2 i1 i2 (qax r1) (qax r2) (raw _ _ _ _ hs1.1 hs2.1 (by omega) d1 d2);have hiff:(cano F.W (n+1) x=cano F.W (n+1) y)=(cano F.W n (qaq x)=cano F.W n (qaq y)):=by
    rw[qew hx.self (.inl hk),qew hy.self (.inl (by omega)),hkk];simp
   rw[hiff];exact this
  ·rw[hk] at e1 e2 i1 i2 p1 p2;obtain⟨c1,z1,f1,r1,d1⟩:=Den.slice hx.den hk;obtain⟨c2,z2,f2,r2,d2⟩:=Den.slice hy.den (by omega);rw[e1] at f1;cases f1;rw[e2] at f2;cases f2;have hs1:=hx.spo.elem (.inr hk);have hs2:=hy.spo.elem (.inr (by omega));have:=idSlice cp b1 b2 v1 v2 w hc1 none hbb _ z1 z2 p1 p2 i1 i2 (qax r1) (qax r2) (raw _ _ _ _ hs1.1 hs2.1 (by omega) d1 d2);have hiff:(cano F.W (n+1) x=cano F.W (n+1) y)=(cano F.W n (qaq x)=cano F.W n (qaq y)):=by
    rw[qew hx.self (.inr hk),qew hy.self (.inr (by omega)),hkk];simp
   rw[hiff];exact this
  ·rw[hk] at e1 e2 i1 i2 p1 p2;obtain⟨c1,a1,k1,f1,r1,t1,m1,g1⟩:=hx.fields A hk;obtain⟨c2,a2,k2,f2,r2,t2,m2,g2⟩:=hy.fields A (by omega);rw[e1] at f1;cases f1;rw[e2] at f2;cases f2;have hcs:=qqo (n:=n) hx.self hk hy.self (by omega);by_cases hlen:x.of.fields.length=y.of.fields.length
   rotate_left 1
   ·have hc:cano F.W (n+1) x≠cano F.W (n+1) y:=fun e=>hlen (hcs.1 e).1;rw[@decide_eq_false _ (Classical.propDecidable _) hc];exact qcn (qon cp b1 b2 v1 v2 w hc1 _ _ _ _ a1 a2 hbb p1 p2 i1 i2 r1 r2 hlen none)
   by_cases h0:x.of.fields.length=0
   ·have hc:cano F.W (n+1) x=cano F.W (n+1) y:=hcs.2 ⟨hlen,fun i hi=>by omega⟩;rw[@decide_eq_true _ (Classical.propDecidable _) hc];exact qcn (qrv cp b1 b2 v1 v2 w hc1 _ _ _ _ a1 a2 hbb p1 p2 i1 i2 r1 r2 h0 (by omega) none)
   obtain⟨ga,oa,-,-,ea,-⟩:=g1 0 (by omega);obtain⟨gb,ob,-,-,eb,-⟩:=g2 0 (by omega);subst ea eb;have sk1:∀ i:Nat,∃ fz:Nat×Value,i<x.of.fields.length→FldM w ga oa i (F.pk x.pkg) fz.1 (fname F.W (x.of.fields.getD i fd0)) fz.2 (x.of.fields.getD i fd0).embedded∧DenW F s w (qao x i) fz.2:=fun i=>by
    by_cases hi:i<x.of.fields.length
    ·obtain⟨g,o,f,z,e,q1,q2,-⟩:=g1 i hi;cases e;exact⟨(f,z),fun _=>⟨q1,q2⟩⟩
    ·exact⟨(0,.nilIface),fun h=>absurd h hi⟩
   have sk2:∀ i:Nat,∃ fz:Nat×Value,i<y.of.fields.length→FldM w gb ob i (F.pk y.pkg) fz.1 (fname F.W (y.of.fields.getD i fd0)) fz.2 (y.of.fields.getD i fd0).embedded∧DenW F s w (qao y i) fz.2:=fun i=>by
    by_cases hi:i<y.of.fields.length
    ·obtain⟨g,o,f,z,e,q1,q2,-⟩:=g2 i hi;cases e;exact⟨(f,z),fun _=>⟨q1,q2⟩⟩
    ·exact⟨(0,.nilIface),fun h=>absurd h hi⟩
   obtain⟨z1,hz1⟩:=Classical.skolem.1 sk1;obtain⟨z2,hz2⟩:=Classical.skolem.1 sk2;have hbl:x.of.fields.length≤1048576:=by
    have hb:=hx.spo.bk;have h1:=qbd x.of;have h2:=qbv x.of.fields;omega
   rw[← hlen] at r2 m2;have:=qnr cp b1 b2 v1 v2 w hc0 hc1 x.of.fields.length k1 k2 ga oa gb ob (F.pk x.pkg) (F.pk y.pkg) hbb p1 p2 i1 i2 r1 t1 r2 t2 m1 m2 hbl A.tabs x.pkg y.pkg hx.spo.pp hy.spo.pp (A.bt.ok.pkc hx.spo.pp).2 (A.bt.ok.pkc hy.spo.pp).2
    (fun i=>fname F.W (x.of.fields.getD i fd0)) (fun i=>fname F.W (y.of.fields.getD i fd0)) (fun i=>(x.of.fields.getD i fd0).embedded) (fun i=>(y.of.fields.getD i fd0).embedded) (fun i=>@decide (cano F.W n (qao x i)=cano F.W n (qao y i)) (Classical.propDecidable _))
    (fun i=>(z1 i).1) (fun i=>(z2 i).1) (fun i=>(z1 i).2) (fun i=>(z2 i).2) (fun i hi=>(hz1 i hi).1) (fun i hi=>(hz2 i (by omega)).1)
    (fun i hi w' hb=>raw _ _ _ _ (hx.spo.field hk hi).1 (hy.spo.field (by omega) (by omega)).1 (by have:=(hx.spo.field hk hi).2;omega) (hz1 i hi).2 (hz2 i (by omega)).2 w' hb)
   refine this.mono fun e w' ⟨h1,h2⟩=>⟨?_,h2⟩;rw[h1];congr 2;rw[Bool.eq_iff_iff,zhb,@decide_eq_true_iff _ (Classical.propDecidable _),hcs];unfold qp3;constructor
   ·intro h;refine⟨hlen,fun i hi => ?_⟩;have h3:=h i (List.mem_range.2 hi);simp only[Bool.and_eq_true,beq_iff_eq,@decide_eq_true_iff _ (Classical.propDecidable _)] at h3;exact⟨qjq.2 ⟨h3.1.1,h3.1.2⟩,h3.2⟩
   ·rintro⟨-,h⟩ i hi;obtain⟨h3,h4⟩:=h i (List.mem_range.1 hi);have h5:=qjq.1 h3;simp only[Bool.and_eq_true,beq_iff_eq,@decide_eq_true_iff _ (Classical.propDecidable _)];exact⟨⟨h5.1,h5.2⟩,h4⟩
  ·rw[hk] at e1 e2 i1 i2 p1 p2;obtain⟨ts1,a1,c1,tv1,sg1,M1⟩:=hx.setM A hk e1;obtain⟨ts2,a2,c2,tv2,sg2,M2⟩:=hy.setM A (by omega) e2;have n1:=qw2 A hx hk;have n2:=qw2 A hy (by omega);rw[qs4 hx.self hk,qs4 hy.self (by omega)];by_cases hlen:(msL F.W x).length=(msL F.W y).length
   rotate_left 1
   ·rw[@decide_eq_false _ (Classical.propDecidable _) (fun e=>by
     simp only[CT.leaf.injEq,List.cons.injEq,true_and] at e;exact hlen (by simpa using congrArg List.length e))]
    exact qpp cp b1 b2 v1 v2 w hc1 hbb p1 p2 i1 i2 ts1 ts2 _ _ _ _ _ _ _ _ _ _ _ _ _ _ _ _ _ _ M1 M2 A.tabs hlen
   rw[← hlen] at M2;have:=qsi cp b1 b2 v1 v2 w hc1 hbb p1 p2 i1 i2 ts1 ts2 _ _ _ _ _ _ _ _ _ _ _ _ _ _ _ _ _ M1 M2 A.tabs;refine this.mono fun e w' ⟨h1,h2⟩=>⟨?_,h2⟩;rw[h1];congr 2;have gm:∀ {l:List Mn} (h:∀ m∈l,NmN m) {i:Nat},i<l.length→NmN (l.getD i mn0):=fun {l} h {i} hi=>by
    have e:l.getD i mn0=l[i]:=by simp[hi]
    rw[e];exact h _ (z8 hi)
   rw[Bool.eq_iff_iff,zhb,@decide_eq_true_iff _ (Classical.propDecidable _)];simp only[CT.leaf.injEq,List.cons.injEq,true_and];constructor
   ·intro h;refine List.ext_getElem (by simpa using hlen) fun i h3 h4 => ?_;have h3':i<(msL F.W x).length:=by simpa using h3
    have h4':i<(msL F.W y).length:=by simpa using h4
    have h5:=h i (List.mem_range.2 h3');rw[qnm (gm n1.1 h3').2 (gm n2.1 h4').2 (gm n1.1 h3').1 (gm n2.1 h4').1] at h5;simpa[h3',h4'] using h5
   ·intro h i hi;have h3':i<(msL F.W x).length:=List.mem_range.1 hi;have h4':i<(msL F.W y).length:=by omega
    rw[qnm (gm n1.1 h3').2 (gm n2.1 h4').2 (gm n1.1 h3').1 (gm n2.1 h4').1];have h5:=congrArg (fun l=>l[i]?) h;simpa[h3',h4'] using h5
theorem qmg (A:Amb F P w0 s w) {x y:Spot} {v1 u1 v2 u2:Value} (hx:PlV F P s w x v1 u1) (hy:PlV F P s w y v2 u2):
  Calls prog 99 #[v1,v2] w (qa2 (.bool (@decide (can F.W x=can F.W y) (Classical.propDecidable _))) w):=by
 have hB:Below w.heap.size w (w.alloc (.cells #[.bool false,.bool false] 256)):=(zp _ _).alloc (zl _) _;have hbk:=Blk.new w 256 [.bool false,.bool false];have HI:=hid (qqw (F:=F) (P:=P) (w0:=w0) (s:=s) w.heap.size 2002 x y v1 u1 v2 u2 (w.alloc (.cells #[.bool false,.bool false] 256)) (A.keep hB) (hx.keep hB) (hy.keep hB) (by have:=hx.spo.sz;omega) (by rw[hbk.cell];rfl) (by rw[hbk.cell];rfl));have HB:=hid hB;clear hB hbk A hx hy;go_enter func99,ntmps99
 go_wp2_with (go_at_call 125;refine HI.out.mono ?_;rintro e w2 ⟨rfl,hb2⟩;have Hb2:=hid hb2;clear hb2)
 go_ret
 exact⟨rfl,HB.out.trans (Hb2.out.mono HB.out.size)⟩
