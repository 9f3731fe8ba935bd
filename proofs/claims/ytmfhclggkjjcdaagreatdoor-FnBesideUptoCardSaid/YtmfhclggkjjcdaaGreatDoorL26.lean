import Derived.Test.YtmfhclggkjjcdaaGreatDoorL25
set_option linter.all false
set_option maxHeartbeats 40000000
namespace Go.Proofs.YtmfhclggkjjcdaaGreatDoor
open Go Go.RowKit Go.Proofs.Tryz
set_option maxRecDepth 100000
variable {w w':World} {F:Fix} {s:St} {r:Rs}
def Act.setL (a:Act) (idx:List Nat) (l:List Value):Act:={ a with tmps:=(idx.zip l).foldl (fun t x=>t.setIfInBounds x.1 x.2) a.tmps }
theorem qum {P:Program} {K:Act→World→Prop} {a:Act} (t:Tmp) {A B:Code} {Q:Exit→Act→World→Prop} (idx:List Nat) (J:List Value→World→Prop) (h:∀ l w',J l w'→K (Act.setL a idx l) w') (k:(∀ l w',J l w'→K (Act.setL a idx l) w')→Code.wp P (.cond (.tmp t) A B) (Exit.then K Q) a w):Code.wp P (.cond (.tmp t) A B) (Exit.then K Q) a w:=k h
theorem qdh {a b c:World} (h:Below a.heap.size a b) (k:Below b.heap.size b c):Below a.heap.size a c:=h.trans (k.mono h.size)
theorem Tryz.infoEm:(prog.info? 225).map (fun i=>(i.zero,i.size,i.bytes))=some (some (.agg #[.nilIface,.slice none 0 0,.bool false,.bool false]),4,48):=by kernel_rfl
def obV (s:St):Option (Nat×Bool)→Value
 | none => .nilIface
 | some (k,_)=>objV (s.ob k)
theorem qkp {g:G} {sp:Spot} {x:Addr} (h:Den g sp (.iface 112 (.pointer (some x)))) (hl:qi6 (.iface 112 (.pointer (some x)))) (hk:sp.of.kind=0∨sp.of.kind=1∨sp.of.kind=2∨sp.of.kind=3∨sp.of.kind=4∨sp.of.kind=5) (h1:sp.of.kind≠1):sp.of.kind=5:=by
 rcases hk with hk|hk|hk|hk|hk|hk
 ·obtain⟨b,i,st,e,-⟩:=Den.basic h hk;exact absurd (show(112:TypeId)=156 by injection e) (by decide)
 ·exact absurd hk h1
 ·obtain⟨b,z,e,-⟩:=Den.ptr h hk;exact absurd (show(112:TypeId)=145 by injection e) (by decide)
 ·obtain⟨b,z,e,-⟩:=Den.slice h hk;exact absurd (show(112:TypeId)=147 by injection e) (by decide)
 ·obtain⟨b,a,c,e,-⟩:=Den.struct h hk;exact absurd (show(112:TypeId)=153 by injection e) (by decide)
 ·exact hk
def qb0 (F:Fix) (s:St) (w:World) (r:Rs) (e:Ending) (w':World):Prop:=∃ x:Option Addr×Nat,e = .returned (.tuple #[obV s r.ob,.slice x.1 r.ix.length x.2,.bool r.ind])∧
 Hid (w'.ownsRow 0 3 1 (.slice x.1 r.ix.length x.2) r.ix.length (qbh r.ix)∧Below w.heap.size w w'∧∀ k met,r.ob=some (k,met)→∃ x,s.ob k=some (met,x)∧k<F.N)
theorem qb0.nothing (hr:r=⟨none,[],r.ind⟩) (hb:Below w.heap.size w w'):qb0 F s w r (.returned (.tuple #[.nilIface,.slice none 0 0,.bool r.ind])) w':=by
 rw[hr];exact⟨(none,0),rfl,hid ⟨zdb _ _ _ _,hb,fun k met h=>(by cases h)⟩⟩
theorem qb0.amb {ix:List Nat} {a:Option Addr} {n c:Nat} (hr:r=⟨none,ix,false⟩) (hn:n=ix.length) (ho:w'.ownsRow 0 3 1 (.slice a n c) n (qbh ix)) (hb:Below w.heap.size w w'):qb0 F s w r (.returned (.tuple #[.nilIface,.slice a n c,.bool false])) w':=by
 subst hn;rw[hr];exact⟨(a,c),rfl,hid ⟨ho,hb,fun k met h=>(by cases h)⟩⟩
theorem qb0.found {wB w w':World} {x:Hi} {T:TypeId} {b:Nat} {ia:Option Addr} {ic:Nat} (hr:r=⟨some (x.ob,x.met),x.ix,x.ind⟩) (h:HitV F s wB w' x T b ia ic) (hb:Below w.heap.size w w'):qb0 F s w r (.returned (.tuple #[.iface T (ptrV b),.slice ia x.ix.length ic,.bool x.ind])) w':=by
 rw[hr];refine⟨(ia,ic),?_,hid ⟨h.ix,hb,fun k met e => ?_⟩⟩
 ·simp only[obV,h.ob];have ht:=h.ty;cases hm:x.met
  ·rw[hm] at ht;rw[ht];rfl
  ·rw[hm] at ht;rw[ht];rfl
 ·cases e;exact⟨b,h.ob,h.lt⟩
structure LvSt (F:Fix) (P:Nat→Nat) (s:St) (wB wr:World) (sb:Nat) (cv:Value) (cur:List En) (S:List Nat) (n:Nat):Prop where
 bel:Below wB.heap.size wB wr
 seen:qeb wB.heap.size wr sb (S.map (nbOf F))
 nds:NdS F.W S
 row:∃ ca cc,cv = .slice ca cur.length cc∧cur.length≤cc∧(cur≠[]→∃ g,ca=some ⟨g,0,none⟩∧wB.heap.size≤g∧qnz F P s wB wr g cur)
 meas:qsg F.W P cur S<n
 len:cur.length≤1048577
 ix:∀ e∈cur,e.ix.length+n≤qj2 F.W
theorem EnAt.spo {P:Nat→Nat} {wB w:World} {g o:Nat} {e:En} (h:EnAt F P s wB w g o e):SpO F.W P e.to:=by
 obtain⟨k,ia,ic,u,h⟩:=h;exact h.pl.spo
theorem qqz {P:Nat→Nat} {w0:World} (A:Amb F P w0 s w) {sp:Spot} {v:Value} (hd:DenW F s w sp v) (hs:SpO F.W P sp) (addr:Bool) (q m:Int) (hq:q=0∨q=1) (hm:IsNm m):
  Calls prog 84 #[v,.bool addr,ptrV (F.pk q),.string (qas m),.bool false] w (qb0 F s w (qhf F.W sp addr q m)):=by
 by_cases h8:m=8
 ·subst h8;have hbl:((qas 8).toList==[95])=true:=by decide +kernel
  have hr:qhf F.W sp addr q 8=⟨none,[],false⟩:=by unfold qhf;rw[if_pos rfl]
  rw[hr];clear A hd hs
  as_aux_lemma=>
   go_enter func84,ntmps84
   go_wp2_with fail
   go_ret3
   exact qb0.nothing rfl (zp _ _)
 have hbl:=qhk hm h8;obtain⟨T0,x0,hcd,hd0,hs0,hop0⟩:=qou A hd hs;obtain⟨u0,hu0⟩:=A.plainv hd0 hs0;obtain⟨z0,hz1,-,hz3,hz4,hz5⟩:=A.underv hu0;have hun:under F.W (pl F.W (drf F.W sp).1)=under F.W (drf F.W sp).1:=by unfold pl;rw[qn6,qfm A.wd.by_ hs0.numOk]
 have HD:=hid (hcd w (zp _ _));have HIi:Hid (∃ i,prog.info? 225=some i∧i.zero=some (.agg #[.nilIface,.slice none 0 0,.bool false,.bool false])∧i.size=4∧i.bytes=48):=hid (by
  obtain⟨i,h1,h2⟩:=zbb.1 Tryz.infoEm;simp only[Prod.mk.injEq] at h2;exact⟨i,h1,h2.1,h2.2.1,h2.2.2⟩)
 obtain⟨R,hR⟩:∃ R,R=qhf F.W sp addr q m:=⟨_,rfl⟩;rw[← hR];have hR2:=hR;unfold qhf at hR2;rw[if_neg h8] at hR2;by_cases hpi:(drf F.W sp).2=true∧(under F.W (drf F.W sp).1).of.kind=5
 ·rw[if_pos hpi] at hR2;rw[hR2];obtain⟨f0,T,x,f,e1,hmth,hent,hcu⟩:∃ f0:Nat,qus w (.iface T0 (.pointer (some x0))) z0:=⟨0,qf9 w _ _ hz1⟩;cases e1;obtain⟨b5,a5,c5,a6,c6,e5,-⟩:=Den.iface hz4 (by rw[hun];exact hpi.2);rw[hpi.1] at HD;rw[e5] at hcu;have Hc:=hid hcu;have ti:=fun v w=>qb5 underlying112 v w;clear A hd hs hcd hd0 hs0 hop0 hu0 hz1 hz3 hz4 hz5 hun hpi hR2 hcu hR
  as_aux_lemma=>
   go_enter func84,ntmps84
   go_wp2_with (first
    | (go_at_call 108;refine qap HD.out ?_)
    | (go_at_fn f;refine qap Hc.out ?_))
   go_ret3
   exact qb0.nothing rfl (zp _ _)
 rw[if_neg hpi] at hR2;have hnx:=NxAt.nil F P s w w;obtain⟨k0,hk0,hi0⟩:=hu0.key A;have HK5:Hid ((drf F.W sp).2=true→(under F.W (drf F.W sp).1).of.kind≠5):=hid fun h h5=>hpi ⟨h,h5⟩;have HU0:=hid (qf9 w _ _ hz1);have HZ:=hid (And.intro hz3 hz4);have HE0:=hid (And.intro hu0 hi0);obtain⟨pi,hpi2⟩:∃ pi,pi=(drf F.W sp).2:=⟨_,rfl⟩;rw[← hpi2] at HD hR2 HK5;obtain⟨bv,hbv⟩:∃ bv,bv=Value.bool pi:=⟨_,rfl⟩;rw[← hbv] at HD;have Hbv:=hid hbv;clear hbv;have HPi:=hid hpi2;have HSu:=hid hz5;have HSn:=hid hu0.spo.numOk;have HR:=hid hR2;have HA:=hid A;have Hq:=hid hq;have Hm:=hid hm;have H8:=hid h8;have Hun:=hid hun;clear A hd hs hcd hd0 hs0 hop0 hu0 hz1 hz3 hz4 hz5 hun hpi hpi2 hR2 hR hnx hi0 hq hm h8;go_enter func84,ntmps84
 go_wp2_with (go_at_call 108;refine qap HD.out ?_)
 refine qum 44 [15,16,45,46,47,48,49,50,51] (fun l w'=>w=w'∧∃ u1 u2 u3 u4 u5 u6 u7 u8 u9,l=[u1,u2,u3,u4,u5,u6,u7,u8,u9]) ?jh ?jk
 case jk=>
  intro hj
  as_aux_lemma=>
   have hj':=fun u1 u2 u3 u4 u5 u6 u7 u8 u9=>hj [u1,u2,u3,u4,u5,u6,u7,u8,u9] w ⟨rfl,u1,u2,u3,u4,u5,u6,u7,u8,u9,rfl⟩;simp -implicitDefEqProofs only[Act.setL,List.zip_cons_cons,List.zip_nil_right,List.zip_nil_left,List.foldl_cons,List.foldl_nil,ze,qai,qaj,zm,zn] at hj';clear hj;rename_i K1 hK1;clear hK1;have hb:=Hbv.out;rw[hb] at hj' ⊢;cases pi with
   | false=>
    go_wp2_with fail
    exact hj' _ _ _ _ _ _ _ _ _
   | true=>
    obtain⟨T,x,f,e1,hmth,hent,hcu⟩:=HU0.out;obtain⟨T5,x5,e5,hT5⟩:=HZ.out.1;have hne5:T5≠112:=fun e=>by
     subst e;have h5:=HZ.out.2;rw[e5] at h5;have hk:=HK5.out rfl;rw[← Hun.out] at hk;exact hk (qkp h5 (e5 ▸ HZ.out.1) HSu.out.kinds (qit HA.out.wd.by_ HSn.out))
    have ti:=fun v w=>qaw (T:=T5) underlying112 Tryz.zsIf hne5 v w;rw[e5] at hcu;have Hc:=hid hcu;rw[hk0] at e1;cases e1;clear hcu hne5 hT5
    go_wp2_with (go_at_fn f;refine qap Hc.out ?_)
    exact hj' _ _ _ _ _ _ _ _ _
 case jh=>
  rintro l w' ⟨rfl,u1,u2,u3,u4,u5,u6,u7,u8,u9,rfl⟩;simp -implicitDefEqProofs only[Act.setL,List.zip_cons_cons,List.zip_nil_right,List.zip_nil_left,List.foldl_cons,List.foldl_nil,ze,qai,qaj,zm,zn];rw[hk0] at HE0;clear HD hk0 HU0 HZ;rw[Hbv.out];clear Hbv
  go_wp2_with fail
  have hB0:Below w.heap.size w ((w.alloc (.cells #[tyV k0,.slice none 0 0,.bool pi,.bool false] 225)).alloc (.cells #[.pointer none,.pointer none,.pointer none,.map none] 230)):=((zp _ _).alloc (zl _) _).alloc (by simp) _
  go_loopg [10,11,12,17] (qj2 F.W) (fun n ov iv dv cv wr=>ov = .nilIface∧iv = .slice none 0 0∧dv = .bool false∧∃ x:List En×List Nat,Hid (LvSt F P s w wr (w.heap.size+1) cv x.1 x.2 n∧R=lvs F.W addr q m n x.1 x.2))
  case atStart=>
   refine⟨rfl,rfl,rfl,([_],[]),hid ⟨⟨hB0,?_,⟨List.nodup_nil,fun d hd=>by cases hd⟩,⟨_,1,rfl,zl _,fun _=>⟨w.heap.size,rfl,zl _,⟨_,(Blk.new w 225 [tyV k0,.slice none 0 0,.bool pi,.bool false]).alloc _⟩,fun i hi => ?_⟩⟩,?_,by simp,fun e he => ?_⟩,HR.out⟩⟩
   ·have:=qeb.nil (w.alloc (.cells #[tyV k0,.slice none 0 0,.bool pi,.bool false] 225)) w.heap.size (by simp);simpa using this
   ·obtain rfl:i=0:=by simpa using hi
    have hb:=(Blk.new w 225 [tyV k0,.slice none 0 0,.bool pi,.bool false]).alloc (.cells #[.pointer none,.pointer none,.pointer none,.map none] 230);exact⟨k0,none,0,u0,by rw[hb.cell];rfl,by rw[hb.cell];rfl,by rw[hb.cell];rfl,by rw[hb.cell];rfl,HE0.out.2,HE0.out.1,zdb _ _ _ _⟩
   ·have:=HE0.out.1.spo.sz;unfold qsg qj2;simp only[mxE,List.length_nil];omega
   ·rw[zfb.1 he];simp
  case round=>
   obtain⟨rfl,rfl,rfl,⟨cur,S⟩,hL⟩:=hrel;simp only at hL;have hrow:=hL.out.1.row;refine hrow.elim fun ca hrow=>hrow.elim fun cc hrow => ?_;have hcv:=hrow.1;subst hcv;by_cases hc0:cur=[]
   ·subst hc0;have hR0:R=⟨none,[],false⟩:=by rw[hL.out.2];exact lvs_nil
    have Hbel:=hid hL.out.1.bel;clear hrow hL
    as_aux_lemma=>
     go_wp2_with fail
     go_ret3
     rw[hR0];exact qb0.nothing rfl Hbel.out
   ·refine(hrow.2.2 hc0).elim fun g hg => ?_;have hca:=hg.1;subst hca;have hne:0<cur.length:=List.length_pos_iff.2 hc0;have hne':(0:Int)<(cur.length:Int):=by omega
    have hlc:=hrow.2.1;have hlen:=hL.out.1.len;obtain⟨lv,hlv⟩:∃ lv,lv=qj2 F.W - gk:=⟨_,rfl⟩;have hgk:0<gk:=by have:=hL.out.1.meas;omega
    have HIx:Hid (∀ e∈cur,e.ix.length≤lv∧lv+1≤1099511627775):=hid fun e he=>by
     have h1:=hL.out.1.ix e he;have h2:qj2 F.W≤1099511627775:=by unfold qj2;have:=HA.out.wd.len;omega
     omega
    obtain⟨E0,hE0⟩:∃ E0,E0=ents F.W q m cur (none,[]) S:=⟨_,rfl⟩;have HE:=hid hE0;have HErr:Hid (∀ x,E0 = .error x→R=⟨none,x,false⟩):=hid fun x hx=>by
     rw[hL.out.2];obtain⟨n,rfl⟩:∃ n,gk=n+1:=⟨gk - 1,by omega⟩;exact lvs_err hc0 (by rw[← hE0];exact hx)
    have HHit:Hid (∀ x nx S',E0 = .ok ((some x,nx),S')→R=if(x.met&&x.ptr&&!x.ind&&!addr)=true then⟨none,[],true⟩ else⟨some (x.ob,x.met),x.ix,x.ind⟩):=hid fun x nx S' hx=>by
     rw[hL.out.2];obtain⟨n,rfl⟩:∃ n,gk=n+1:=⟨gk - 1,by omega⟩;exact lvs_hit hc0 (by rw[← hE0];exact hx)
    have HNx:Hid (∀ nx S',E0 = .ok ((none,nx),S')→R=lvs F.W addr q m (gk - 1) (qbc F.W nx) S'):=hid fun nx S' hx=>by
     rw[hL.out.2];obtain⟨n,rfl⟩:∃ n,gk=n+1:=⟨gk - 1,by omega⟩;exact qwo hc0 (by rw[← hE0];exact hx)
    have HMs:Hid (0<mxE P cur∧qsg F.W P cur S<gk∧gk≤qj2 F.W):=hid (by
     obtain⟨e,he⟩:=List.exists_mem_of_ne_nil cur hc0;have h1:=qpu (P:=P) he;have h2:=qqe P HA.out.wd.pos e.to.of;have h3:=hL.out.1.ix e he;exact⟨by omega,hL.out.1.meas,by omega⟩)
    have HLv:=hid hlv;have Hgk:=hid hgk;have Hc0:=hid hc0;have Hg:=hid hg.2;clear hrow hg hE0 hlv hgk hc0
    go_wp2_with fail
    go_loopw [10,11,12,19,61] (fun ov iv dv nv jv wi=>∃ (k:Nat) (h:Option Hi) (nx:List En) (S':List Nat) (na:Option Addr) (nc:Nat) (cells:List Value),k≤cur.length∧jv = .int .i64 k∧nv = .slice na nx.length nc∧
      Hid (St1 F P s w (w.heap.size+1) g cur S lv h nx S' ov iv dv na nc cells wi∧ents F.W q m (cur.drop k) (h,nx) S'=E0∧nx.length≤k * 2000)) (fun _ _ _ _ jv _=>cur.length - (intOf jv).toNat)
    case atStart=>exact⟨0,none,[],S,none,0,[],Nat.zero_le _,rfl,rfl,hid ⟨⟨hL.out.1.bel,hL.out.1.seen,.inl ⟨rfl,rfl,rfl,rfl⟩,NxAt.nil _ _ _ _ _,fun b hb=>(by cases hb),Hg.out.2,NxOk.start hL.out.1.nds,Hg.out.1⟩,HE.out.symm,Nat.zero_le _⟩⟩
    case round=>
     refine hrel.elim fun k r1=>r1.elim fun h r2=>r2.elim fun nx r3=>r3.elim fun S' r4=>r4.elim fun na r5=>r5.elim fun nc r6=>r6.elim fun cells r7 => ?_;have hk:=r7.1;have hjv:=r7.2.1;have hnv:=r7.2.2.1;have HS:=r7.2.2.2;clear hrel r1 r2 r3 r4 r5 r6 r7;subst hjv hnv;by_cases hlt:k<cur.length
     ·have hlt':(k:Int)<(cur.length:Int):=by omega
      have HKn:Hid (k+1≤cur.length):=hid hlt;refine(HS.out.1.get hlt).elim fun x hx => ?_;obtain⟨e,key,ia,ic,u⟩:=x;simp only at hx;have HEq:Hid (ents F.W q m (e::cur.drop (k+1)) (h,nx) S'=E0):=hid (by rw[← hx.1];exact HS.out.2.1);have Hmem:=hid hx.2.1;have hEn:=hx.2.2;clear hx;have c0:=hEn.c0;have c1:=hEn.c1;have c2:=hEn.c2;have c3:=hEn.c3;have hgr:g<wr.heap.size:=zj wr _ c0;have hBr:=HS.out.1.bel;have HEn:=hid hEn;have HBr:=hid hBr;have hwr:=hBr.size;obtain⟨d,hd⟩:∃ d,d=e.to.of.num.toNat:=⟨_,rfl⟩;have hAs:∃ n23:Value,(∀ O,Calls prog 61 #[tyV key] (wr.alloc O) fun e w'=>e = .returned n23∧w'=wr.alloc O)∧
        (e.to.of.kind=1∧(∃ b tn U ux ra rc fs,n23=ptrV b∧qbz F s w d b tn U ux ra rc fs)∧d<F.W.length∧(dc F.W d).alias=false∨e.to.of.kind≠1∧n23 = .pointer none):=by
       have hpl:=fun O=>(hEn.pl.plain.keep (hBr.trans (((zp wr.heap.size wr).alloc (zl _) O).mono hwr)));by_cases hk1:e.to.of.kind=1
       ·obtain⟨hl,b,tn,U,ux,ra,rc,fs,e1,q1⟩:=HA.out.nd hEn.pl.den hk1 (hEn.pl.nal hk1);rw[e1] at hpl;exact⟨ptrV b,fun O=>qfg _ _ _ (hpl O),.inl ⟨hk1,⟨b,tn,U,ux,ra,rc,fs,rfl,by rw[hd];exact q1⟩,by rw[hd];exact hl,by rw[hd];exact hEn.pl.nal hk1⟩⟩
       ·obtain⟨b,e1,-⟩:=hEn.pl.ty HA.out;rw[e1] at hpl;exact⟨.pointer none,fun O=>qgm _ _ _ _ (fun h=>hk1 (qki (b:=1) hEn.pl.spo.kinds (by omega) (h.trans rfl))) (hpl O),.inr ⟨hk1,rfl⟩⟩
      refine hAs.elim fun n23 hAs => ?_;have HAs:=hid hAs.1;have HNd:=hid hAs.2;obtain⟨b70,hb70⟩:∃ b70,b70=Value.bool (decide (e.to.of.kind=1)):=⟨_,rfl⟩;have hneg:∀ w,(eqGuard .neq 98 (.tmp 69) (.const (.pointer none)) n23 (.pointer none)).run prog w = .ok () w:=fun w=>by
       rcases hAs.2 with ⟨h1,⟨b,_,_,_,_,_,_,rfl,-⟩,-⟩|⟨h1,rfl⟩
       ·exact(qn3 b _ _ w).1
       ·exact(qop _ _ w).1
      have hneq:∀ w,(binOp .neq 98 n23 (.pointer none)).run prog w = .ok b70 w:=fun w=>by
       rcases hAs.2 with ⟨h1,⟨b,_,_,_,_,_,_,rfl,-⟩,-⟩|⟨h1,rfl⟩
       ·rw[hb70,decide_eq_true h1];exact(qn3 b (.tmp 0) (.tmp 0) w).2
       ·rw[hb70,decide_eq_false h1];exact(qop (.tmp 0) (.tmp 0) w).2
      have Hb70:=hid hb70;clear hAs hb70 hEn hBr
      go_wp2_with (go_at_call 61;refine qap (HAs.out _) ?_)
      refine qum 70 [24,25,26,71,72,73,74,75,76,77,78,79,80,81,82,83,84,85,86] (fun l w'=>(∃ u1 u2 u3 u4 u5 u6 u7 u8 u9 v1 v2 v3 v4 v5 v6 v7 v8 v9 v10,l=[u1,u2,u3,u4,u5,u6,u7,u8,u9,v1,v2,v3,v4,v5,v6,v7,v8,v9,v10])∧
       Hid (St2 F P s w (w.heap.size+1) g wr.heap.size q m cur S lv h nx S' e (cur.drop (k+1)) u10 u11 u12 na nc cells key ia ic E0 w')) ?jh2 ?jk2
      case jk2=>
       intro hj;clear hneq hneg
       as_aux_lemma=>
        have hj':=fun u1 u2 u3 u4 u5 u6 u7 u8 u9 v1 v2 v3 v4 v5 v6 v7 v8 v9 v10 w' hx=>hj [u1,u2,u3,u4,u5,u6,u7,u8,u9,v1,v2,v3,v4,v5,v6,v7,v8,v9,v10] w' ⟨⟨u1,u2,u3,u4,u5,u6,u7,u8,u9,v1,v2,v3,v4,v5,v6,v7,v8,v9,v10,rfl⟩,hx⟩;simp -implicitDefEqProofs only[Act.setL,List.zip_cons_cons,List.zip_nil_right,List.zip_nil_left,List.foldl_cons,List.foldl_nil,ze,qai,qaj,zm,zn] at hj';clear hj;rename_i K1 hK1;clear hK1;have hcop:=Blk.new wr 225 [tyV key,.slice ia e.ix.length ic,.bool e.ind,.bool e.mul];rcases HNd.out with ⟨hk1,⟨b,tn,U,ux,ra,rc,fs,hn23,hNd⟩,hdl,hda⟩|⟨hk1,hn23⟩
        ·rw[Hb70.out,decide_eq_true hk1] at hj' ⊢;subst hn23;have hkd:=hk1;have HMt:Hid (∀ m∈(dc F.W d).methods,IsNm m.name):=hid fun m hm=>((HA.out.wd.de d hdl).2.2.1 m hm).1;have HPk:=hid (HA.out.wd.nm d hdl).2.2.1;have HMl:Hid ((dc F.W d).methods.length≤1048576):=hid (by
          have h1:=qfe hdl;have h2:=HA.out.wd.bulk;unfold Dc.bulk at h1;omega)
         have HLk:Hid (∀ O,Calls prog 109 #[ptrV (w.heap.size+1),ptrV b] (wr.alloc O) (qa2 (if d∈S' then ptrV b else .pointer none) (wr.alloc O))):=hid fun O=>by
          have hO:Below wr.heap.size wr (wr.alloc O):=(zp _ _).alloc (zl _) _;have hbO:=HBr.out.trans (hO.mono hwr);exact(HS.out.1.keep hO).look (HA.out.keep hbO) ⟨hdl,hda⟩ (hNd.keep hbO)
         by_cases hds:d∈S'
         ·rw[if_pos hds] at HLk;have Hek:Hid (ents F.W q m (cur.drop (k+1)) (h,nx) S'=E0):=hid (by rw[← HEq.out,qux hk1 (hd ▸ hds)]);clear hNd hds
          go_wp2_with (go_at_call 109;refine(HLk.out _).mono ?_;rintro e1 w1 ⟨rfl,hb1⟩;have Hb1:=hid (((zp _ _).alloc (zl _) _:Below wr.heap.size wr _).trans (hb1.mono (by simp)));clear hb1)
          go_roundw
          case rel=>exact⟨k+1,h,nx,S',na,nc,cells,HKn.out,by go_num,rfl,hid ⟨HS.out.1.keep Hb1.out,Hek.out,by have:=HS.out.2.2;omega⟩⟩
          case measure=>have hkn:=HKn.out;simp[intOf];omega
         ·rw[if_neg hds] at HLk;have Hds:=hid hds;have HNd2:=hid hNd;have HO:∀ O,Hid (Below wr.heap.size wr (wr.alloc O)):=fun O=>hid ((zp _ _).alloc (zl _) _);cases hdi:qey F.W d q m with
          | none=>
           have HLm:Hid (∀ W2,Below w.heap.size w W2→Calls prog 111 #[ptrV b,ptrV (F.pk q),.string (qas m),.bool false] W2 (qa2 (idxV none fs) W2)):=hid fun W2 hb=>by
            have h:=qfv (HNd2.out.keep hb) (HA.out.keep hb).bt.ok (HA.out.keep hb).tabs HMt.out HPk.out HMl.out Hq.out Hm.out H8.out;rw[hdi] at h;exact h
           simp only[idxV] at HLm;have Hdi:=hid hdi;clear hNd hds hdi
           go_wp2_with (first
            | (go_at_call 109;refine(HLk.out _).mono ?_;rintro e1 w1 ⟨rfl,hb1⟩;have Hb1:=hid (((zp _ _).alloc (zl _) _:Below wr.heap.size wr _).trans (hb1.mono (by simp)));have Hc1:=hid (hcop.keep hb1);have HAd:=hid ((HS.out.1.keep Hb1.out).addS (HA.out.keep (HBr.out.trans (Hb1.out.mono hwr))) ⟨hdl,hda⟩ (HNd2.out.keep (HBr.out.trans (Hb1.out.mono hwr))) Hds.out);have HI1:=row_ HEn.out.ix Hb1.out;clear hb1)
            | (go_at_call 110;refine HAd.out.mono ?_;rintro e1 w2 ⟨rfl,h2⟩;have H2:=hid h2.out;have Hc2:=hid (Hc1.out.apart H2.out.2.2.2.apart (qdv Hc1.out (by decide)));have HI2:=hid (qab HI1.out H2.out.2.2.2.apart fun g hg=>qdv (qaf HI1.out hg).choose_spec (by decide));have HBw2:=hid H2.out.1.bel;clear h2)
            | (go_at_call 111;refine(HLm.out _ HBw2.out).mono ?_;rintro e1 w3 ⟨rfl,hb3⟩;have Hb3:=hid hb3;clear hb3))
           have e1:seenN e S'=S'++[d]:=by unfold seenN;rw[if_pos hkd,hd]
           refine hid ⟨?_,fun _ => ?_,?_,Hc2.out.keep Hb3.out,qab (S:=fun _=>False) HI2.out (qag.keep Hb3.out) fun _ _ h=>h⟩
           ·rw[e1];exact H2.out.1.keep Hb3.out
           ·rw[e1];exact H2.out.2.1
           ·exact qim.of (fun _=>⟨hd ▸ Hds.out,hd ▸ Hdi.out⟩) HEq.out
          | some i=>
           have HLm:Hid (∀ W2,Below w.heap.size w W2→Calls prog 111 #[ptrV b,ptrV (F.pk q),.string (qas m),.bool false] W2 (qa2 (idxV (some i) fs) W2)):=hid fun W2 hb=>by
            have h:=qfv (HNd2.out.keep hb) (HA.out.keep hb).bt.ok (HA.out.keep hb).tabs HMt.out HPk.out HMl.out Hq.out Hm.out H8.out;rw[hdi] at h;exact h
           simp only[idxV] at HLm;have HMo:=hid (meth_ob HA.out hdl HNd2.out hdi);have Hix:=hid (HIx.out e Hmem.out);have HEm:=hid (qsq (r:=cur.drop (k+1)) (h:=h) (nx:=nx) hkd (hd ▸ hds) (hd ▸ hdi));rw[HEq.out] at HEm;obtain⟨mb,hmb⟩:∃ mb,mb=fs.getD i 0:=⟨_,rfl⟩;rw[← hmb] at HLm HMo;clear hNd hds hdi hmb;have Hhit:=hid HS.out.1.hit
           go_wp2_with (first
            | (go_at_call 109;refine(HLk.out _).mono ?_;rintro e1 w1 ⟨rfl,hb1⟩;have Hb1:=hid (((zp _ _).alloc (zl _) _:Below wr.heap.size wr _).trans (hb1.mono (by simp)));have Hc1:=hid (hcop.keep hb1);have HAd:=hid ((HS.out.1.keep Hb1.out).addS (HA.out.keep (HBr.out.trans (Hb1.out.mono hwr))) ⟨hdl,hda⟩ (HNd2.out.keep (HBr.out.trans (Hb1.out.mono hwr))) Hds.out);have HI1:=row_ HEn.out.ix Hb1.out;clear hb1)
            | (go_at_call 110;refine HAd.out.mono ?_;rintro e1 w2 ⟨rfl,h2⟩;have H2:=hid h2.out;have Hc2:=hid (Hc1.out.apart H2.out.2.2.2.apart (qdv Hc1.out (by decide)));have HI2:=hid (qab HI1.out H2.out.2.2.2.apart fun g hg=>qdv (qaf HI1.out hg).choose_spec (by decide));have HBw2:=hid H2.out.1.bel;clear h2)
            | (go_at_call 111;refine(HLm.out _ HBw2.out).mono ?_;rintro e1 w3 ⟨rfl,hb3⟩;have Hb3:=hid hb3;have Hc3:=hid (Hc2.out.keep hb3);have HI3:=row_ HI2.out hb3;have cc1:=Hc3.out.cell 1;have cc2:=Hc3.out.cell 2;have cc3:=Hc3.out.cell 3;simp only[zu,zt] at cc1 cc2 cc3;have lc3:=Hc3.out.lt;clear hb3)
            | (go_at_call 112;refine(qe9 _ e.ix i w3 ⟨ia,ic,rfl,HI3.out⟩ (by have:=Hix.out;omega)).mono ?_;rintro e1 w4 ⟨x4,rfl,h4⟩;have H4:=hid h4.out;have Hc4:=hid (Hc3.out.keep h4.out.2);have cd2:=Hc4.out.cell 2;have cd3:=Hc4.out.cell 3;simp only[zu,zt] at cd2 cd3;have lc4:=Hc4.out.lt;clear h4))
           have H1x:=hid (H2.out.1.keep (Hb3.out.trans (H4.out.2.mono Hb3.out.size)));have Hrow4:Hid (w4.ownsRow 0 3 1 (.slice x4.1 (e.ix.length+1) x4.2) (e.ix.length+1) (qbh (e.ix++[i]))):=hid H4.out.1;rw[← hd] at HEm;have HOb:=hid (And.intro HMo.out.2.1 (And.intro HMo.out.2.2.1 HMo.out.2.2.2));refine Hhit.out.elim (fun h0 => ?_) (fun h1 => ?_)
           ·have q1:=h0.1;have q2:=h0.2.1;have q3:=h0.2.2.1;have q4:=h0.2.2.2;clear h0 Hhit;subst q1 q2 q3 q4;refine(Bool.eq_false_or_eq_true e.mul).symm.elim (fun hmu => ?_) (fun hmu => ?_)
            ·skip
             have HEm2:=hid HEm.out;rw[qmx hmu] at HEm2;rw[hmu] at cd3;have hmu':=hid hmu;clear hmu HEm;go_simp
             go_wp2_with fail
             go_roundw
             case rel=>
              refine⟨k+1,some ⟨(start F.W d+i),true,((dc F.W d).methods.getD i ⟨0,false⟩).ptr,e.ix++[i],e.ind⟩,nx,(S'++[d]),na,nc,cells,HKn.out,by go_num,rfl,hid ⟨H1x.out.found (.inr ⟨_,106,mb,x4.1,x4.2,rfl,rfl,by simp,rfl,⟨HOb.out.1,HOb.out.2.1,rfl,?_,fun _=>HOb.out.2.2⟩⟩),?_,by have:=HS.out.2.2;omega⟩⟩
              ·have:=Hrow4.out;simpa using this
              ·exact HEm2.out.symm
             case measure=>have hkn:=HKn.out;simp[intOf];omega
            ·skip
             have HE2:=HErr.out _ (by have:=HEm.out;rw[qe7 (.inr hmu)] at this;exact this);have HE3:=hid HE2;rw[hmu] at cd3;clear hmu HEm HE2;go_simp
             go_wp2_with fail
             go_ret3
             exact qb0.amb HE3.out (by simp) Hrow4.out H1x.out.bel
           ·have HE2:=HErr.out _ (by have:=HEm.out;rw[qe7 (.inl (by obtain⟨x,_,_,_,_,rfl,-⟩:=h1;rfl))] at this;exact this);have HE3:=hid HE2;clear HE2 HEm Hhit;refine h1.elim fun xh r1=>r1.elim fun Th r2=>r2.elim fun bh r3=>r3.elim fun iah r4=>r4.elim fun ich r5 => ?_;have q2:=r5.2.1;clear h1 r1 r2 r3 r4 r5;subst q2;go_simp
            go_wp2_with fail
            go_ret3
            exact qb0.amb HE3.out (by simp) Hrow4.out H1x.out.bel
        ·rw[Hb70.out,decide_eq_false hk1] at hj' ⊢;subst hn23
         go_wp2_with fail
         refine hid ⟨?_,fun h=>absurd h hk1,?_,hcop,?_⟩
         ·have e1:seenN e S'=S':=if_neg hk1;rw[e1];exact HS.out.1.keep ((zp _ _).alloc (zl _) _)
         ·have:=qim.of (fun h=>absurd h hk1) HEq.out;rw[show seenN e S'=S' from if_neg hk1] at this ⊢;exact this
         ·exact qab (S:=fun _=>False) HEn.out.ix (qag.keep ((zp _ _).alloc (zl _) _)) fun _ _ h=>h
      case jh2=>
       intro l w' hJ;clear hneq hneg;obtain⟨⟨a1,a2,a3,a4,a5,a6,a7,a8,a9,d1,d2,d3,d4,d5,d6,d7,d8,d9,d10,rfl⟩,H2⟩:=hJ;simp -implicitDefEqProofs only[Act.setL,List.zip_cons_cons,List.zip_nil_right,List.zip_nil_left,List.foldl_cons,List.foldl_nil,ze,qai,qaj,zm,zn];have hBw:=H2.out.st.bel;have hz2:=hBw.size;have HA2:=hid (HA.out.keep hBw);refine(HA.out.undv HEn.out.pl).elim fun zb hzb => ?_;refine(qf9 w' _ _ (hzb.1.apart (S:=fun _=>False) (qag.keep hBw) fun _ _ _ _ _ h=>h)).elim fun T0' r1=>r1.elim fun xk r2=>r2.elim fun fu r3 => ?_;have e1:=r3.1;have hmth:=r3.2.1;have hent:=r3.2.2.1;have HCu:=hid r3.2.2.2;have HZp:=hid (hzb.2.keep hBw);have HZb:=hid hzb.2;clear r1 r2 r3 hzb;cases e1;obtain⟨ku,hku⟩:∃ ku,ku=(under F.W e.to).of.kind:=⟨_,rfl⟩;have Hku:=hid hku;rw[← hku] at HCu HZp HZb;have Hkus:Hid (ku=0∨ku=1∨ku=2∨ku=3∨ku=4∨ku=5):=hid (hku ▸ HZp.out.spo.kinds);clear hku;have cc0:=H2.out.cop.cell 0;have cc1:=H2.out.cop.cell 1;have cc2:=H2.out.cop.cell 2;have cc3:=H2.out.cop.cell 3;simp only[zu,zt] at cc0 cc1 cc2 cc3;have lc2:=H2.out.cop.lt;by_cases hk4:ku=4
       ·subst hk4;have ti:=fun v w=>qb5 underlying153 v w;have hk4':kT 4=153:=rfl;rw[hk4'] at HCu HZp HZb;have Hul:Hid ((under F.W e.to).of.kind=4):=hid Hku.out.symm;obtain⟨zb',za,zc,ez,z0,-,zle,zf⟩:=HZb.out.fields HA.out Hul.out;cases ez;have HZf:=hid zf;have Hlen2:=hid (qpf HA.out.wd HZb.out.spo);have z0':=qac.below hBw _ _ z0;have lz:=zj w' _ z0';obtain⟨nf,hnf⟩:∃ nf,nf=(under F.W e.to).of.fields.length:=⟨_,rfl⟩;have Hnf:=hid hnf;rw[← hnf] at z0' zle;have hnf2:nf≤2000:=by rw[hnf];exact Hlen2.out
        have H3s:=hid (qim.str H2.out.eq Hul.out);rw[← hnf] at H3s;clear z0 zf hnf
        go_wp2_with (go_at_fn fu;refine qap HCu.out ?_)
        go_loopw [10,11,12,19,112] (fun ov iv dv nv jv wi=>∃ x:Nat×Option Hi×List En×Option Addr×Nat×List Value,x.1≤nf∧jv = .int .i64 x.1∧nv = .slice x.2.2.2.1 x.2.2.1.length x.2.2.2.2.1∧
         Hid (St3 F P s w (w.heap.size+1) g wr.heap.size q m cur S lv x.2.1 x.2.2.1 (seenN e S') e (under F.W e.to) (nf - x.1) x.1 k (cur.drop (k+1)) ov iv dv x.2.2.2.1 x.2.2.2.2.1 x.2.2.2.2.2 key ia ic E0 wi)) (fun _ _ _ _ jv _=>nf - (intOf jv).toNat)
        case atStart=>exact⟨(0,h,nx,na,nc,cells),Nat.zero_le _,rfl,rfl,hid ⟨H2.out.st,H3s.out,H2.out.cop,H2.out.ix,by have:=HS.out.2.2;simp only;omega,fun b hb=>(by obtain⟨cs,hc⟩:=qaf HS.out.1.nxa.own hb;have:=hc.lt;omega)⟩⟩
        case round=>
         obtain⟨⟨i,h',nx',na',nc',cells'⟩,hi,hj3,hn3,H3⟩:=hrel;simp only at hi hj3 hn3 H3;subst hj3 hn3;by_cases hil:i<nf
         ·have hil':(i:Int)<(nf:Int):=by omega
          have hic:i<zc:=by omega
          have HKi:Hid (i+1≤nf):=hid hil;have hBi:=H3.out.st.bel;refine(HZf.out i (by rw[← Hnf.out];exact hil)).elim fun zg r1=>r1.elim fun zo r2=>r2.elim fun fb r3=>r3.elim fun fz r4 => ?_;have ezg:=r4.1;have HFl:=hid (r4.2.1.keep hBi);have HFd:=hid r4.2.2.1;have HFo:=hid r4.2.2.2;clear r1 r2 r3 r4;subst ezg;have f0:=HFl.out.row;have f3:=HFl.out.ty;have f5:=HFl.out.em;have lf:=zj _ _ f3;have HAi:=hid (HA.out.keep hBi);have HSi:Hid (Calls prog 113 #[.pointer (some ⟨fb,0,none⟩),ptrV (F.pk q),.string (qas m),.bool false] wr (qa2 (.bool (qbp (under F.W e.to).pkg (fname F.W ((under F.W e.to).of.fields.getD i fd0)) q m)) wr)):=hid (qik fb (F.pk (under F.W e.to).pkg) (F.pk q) _ _ _ _ _ HFl.out.is Hm.out HZb.out.spo.pp Hq.out HAi.out.tabs HFl.out.pk HFl.out.nm (HAi.out.bt.ok.pkc HZb.out.spo.pp).2 (HAi.out.bt.ok.pkc Hq.out).2);have hsf:=(HZb.out.spo.field Hul.out (by rw[← Hnf.out];exact hil)).1;refine((HA.out.plainv HFd.out hsf).elim fun uz hz=>hz.key HA.out).elim fun kz hkz => ?_;have ekz:=hkz.1;subst ekz;have Hsf:=hid hsf;have ecop:=H3.out.cop;have g1:=ecop.cell 1;have g2:=ecop.cell 2;have g3:=ecop.cell 3;simp only[zu,zt] at g1 g2 g3;have lcp:=ecop.lt;have hne1:nf - i=(nf - (i+1))+1:=by omega
          have HEf:=hid H3.out.eq;rw[hne1] at HEf;clear hkz hsf ecop hne1;cases hsm:qbp (under F.W e.to).pkg (fname F.W ((under F.W e.to).of.fields.getD i fd0)) q m with
          | true=>
           rw[hsm] at HSi;have HH:=hid (qez.hit HEf.out hsm);have Hix:=hid (HIx.out e Hmem.out);have Hfn:Hid (qe0 (under F.W e.to) i<F.N):=hid (by
            have h1:=Hsf.out.nn;have h2:=HA.out.N;simp only[qao] at h1;unfold qe0;omega)
           have Hhit:=hid H3.out.st.hit;clear hsm HEf
           as_aux_lemma=>
            go_wp2_with (first
             | (go_at_call 113;refine HSi.out.mono ?_;rintro e1 w5 ⟨rfl,hb5⟩;have Hb5:=hid hb5;have Hc5:=hid (H3.out.cop.keep hb5);have HI5:=row_ H3.out.ix hb5;have cc1:=Hc5.out.cell 1;have cc2:=Hc5.out.cell 2;have cc3:=Hc5.out.cell 3;simp only[zu,zt] at cc1 cc2 cc3;have lc5:=Hc5.out.lt;have f35:=qac.below hb5 _ _ f3;have lf5:=zj w5 _ f35;clear hb5)
             | (go_at_call 75;refine qap (qd8 _) ?_)
             | (go_at_call 112;refine(qe9 _ e.ix i w5 ⟨ia,ic,rfl,HI5.out⟩ (by have:=Hix.out;omega)).mono ?_;rintro e1 w4 ⟨x4,rfl,h4⟩;have H4:=hid h4.out;have Hc4:=hid (Hc5.out.keep h4.out.2);have cd2:=Hc4.out.cell 2;have cd3:=Hc4.out.cell 3;simp only[zu,zt] at cd2 cd3;have lc4:=Hc4.out.lt;clear h4))
            have H1x:=hid (H3.out.st.keep (Hb5.out.trans (H4.out.2.mono Hb5.out.size)));have Hrow4:Hid (w4.ownsRow 0 3 1 (.slice x4.1 (e.ix.length+1) x4.2) (e.ix.length+1) (qbh (e.ix++[i]))):=hid H4.out.1;have HI4:=row_ HI5.out H4.out.2;refine Hhit.out.elim (fun h0 => ?_) (fun h1 => ?_)
            ·have q1:=h0.1;have q2:=h0.2.1;have q3:=h0.2.2.1;have q4:=h0.2.2.2;clear h0 Hhit;subst q1 q2 q3 q4;refine(Bool.eq_false_or_eq_true e.mul).symm.elim (fun hmu => ?_) (fun hmu => ?_)
             ·skip
              have HEm2:=hid (HH.out.1 _ (qmx hmu));rw[hmu] at cd3;have hmu':=hid hmu;clear hmu HH;go_simp
              go_wp2_with fail
              go_roundw
              case rel=>
               refine⟨(i+1,some ⟨qe0 (under F.W e.to) i,false,false,e.ix++[i],e.ind⟩,nx',na',nc',cells'),HKi.out,by go_num,rfl,hid ⟨H1x.out.found (.inr ⟨_,151,fb,x4.1,x4.2,rfl,rfl,by simp,rfl,⟨HFo.out,Hfn.out,rfl,?_,fun h=>(by cases h)⟩⟩),HEm2.out,Hc4.out,HI4.out,by have:=H3.out.len;simp only;omega,H3.out.ne⟩⟩;have:=Hrow4.out;simpa using this
              case measure=>have hkn:=HKi.out;simp[intOf];omega
             ·skip
              have HE2:=HErr.out _ (HH.out.2 _ (qe7 (.inr hmu)));have HE3:=hid HE2;rw[hmu] at cd3;clear hmu HH HE2;go_simp
              go_wp2_with fail
              go_ret3
              exact qb0.amb HE3.out (by simp) Hrow4.out H1x.out.bel
            ·have HE2:=HErr.out _ (HH.out.2 _ (qe7 (.inl (by obtain⟨x,_,_,_,_,rfl,-⟩:=h1;rfl))));have HE3:=hid HE2;clear HE2 HH Hhit;refine h1.elim fun xh r1=>r1.elim fun Th r2=>r2.elim fun bh r3=>r3.elim fun iah r4=>r4.elim fun ich r5 => ?_;have q2:=r5.2.1;clear h1 r1 r2 r3 r4 r5;subst q2;go_simp
             go_wp2_with fail
             go_ret3
             exact qb0.amb HE3.out (by simp) Hrow4.out H1x.out.bel
          | false=>
           rw[hsm] at HSi;refine H3.out.st.hit.elim (fun h0 => ?_) (fun h1 => ?_)
           ·have q1:=h0.1;have q2:=h0.2.1;have q3:=h0.2.2.1;have q4:=h0.2.2.2;clear h0;subst q1 q2 q3 q4;refine(Bool.eq_false_or_eq_true ((under F.W e.to).of.fields.getD i fd0).embedded).symm.elim (fun hem => ?_) (fun hem => ?_)
            ·have HEn2:=hid (qez.no HEf.out hsm (.inr hem));rw[hem] at f5;clear hem hsm HEf
             go_wp2_with (go_at_call 113;refine HSi.out.mono ?_;rintro e1 w5 ⟨rfl,hb5⟩;have Hb5:=hid hb5;have f55:=qac.below hb5 _ _ f5;have lf5:=zj w5 _ f55;clear hb5)
             go_roundw
             case rel=>exact⟨(i+1,none,nx',na',nc',cells'),HKi.out,by go_num,rfl,hid ⟨H3.out.st.keep Hb5.out,HEn2.out,H3.out.cop.keep Hb5.out,qab (S:=fun _=>False) H3.out.ix (qag.keep Hb5.out) fun _ _ h=>h,by have:=H3.out.len;simp only;omega,H3.out.ne⟩⟩
             case measure=>have hkn:=HKi.out;simp[intOf];omega
            ·have HEn2:=hid (qez.sub HEf.out hsm hem);have Hok2:=hid (NxOk.add HA.out.wd H3.out.st.ok Hmem.out HEn.out.pl.spo Hul.out (i:=i) (by rw[← Hnf.out];exact hil) hem H2.out.gr ((HIx.out e Hmem.out).1));have Hix:=hid (HIx.out e Hmem.out);rw[hem] at f5;refine(qut HA.out HFd.out Hsf.out).elim fun kd r1=>r1.elim fun ud r2 => ?_;have HDr:=hid r2.1;have HPd:=hid r2.2.1;have HTd:=hid r2.2.2;clear r1 r2 hem hsm HEf
             go_wp2_with (first
              | (go_at_call 113;refine HSi.out.mono ?_;rintro e1 w5 ⟨rfl,hb5⟩;have Hb5:=hid hb5;have f55:=qac.below hb5 _ _ f5;have f35:=qac.below hb5 _ _ f3;have lf5:=zj w5 _ f55;have Hc5:=hid (H3.out.cop.keep hb5);have HI5:=row_ H3.out.ix hb5;have cc1:=Hc5.out.cell 1;have cc2:=Hc5.out.cell 2;have cc3:=Hc5.out.cell 3;simp only[zu,zt] at cc1 cc2 cc3;have lc5:=Hc5.out.lt;have H5:=hid (H3.out.st.keep hb5);clear hb5)
              | (go_at_call 108;refine qap (HDr.out _ H5.out.bel) ?_))
             have Hdr2:Hid (subE F.W e (under F.W e.to) i=⟨pl F.W (drf F.W (qao (under F.W e.to) i)).1,e.ix++[i],e.ind||(drf F.W (qao (under F.W e.to) i)).2,e.mul⟩):=hid rfl;obtain⟨di,hdi⟩:∃ di,di=(drf F.W (qao (under F.W e.to) i)).2:=⟨_,rfl⟩;rw[← hdi] at Hdr2 ⊢;clear hdi;refine(Bool.eq_false_or_eq_true e.ind).symm.elim (fun hin => ?_) (fun hin => ?_)
             ·have Hin:=hid hin;rw[hin] at cc2;clear hin;refine Mix.wp_region [0,1,2,3,4,6,7,11,12] [(5,false),(8,false),(9,false),(10,false),(13,false),(14,false)] [15,16] (fun _=>default) (by kernel_rfl) (by kernel_rfl) (by decide) ?_
              iterate 9 (first|(refine pre_yes rfl rfl ?_;apply Exists.intro;refine⟨fun W1 hW1 => ?_,?_⟩;(focus (have hc1:=(qal hW1).1;(try simp only[zd,qaa] at hc1);have hk1:=qac.below hW1;go_simp;first|exact rfl|fail));simp only[Act.put,zk,zh,zi,ze,qai,qaj,zm,zn])|(refine pre_no rfl rfl ?_;simp only[Act.put,zk,zh,zi,ze,qai,qaj,zm,zn]))
              refine pre_end (fl_op (fl_op (fl_op (fl_op (fl_op (fl_op fl_nil)))))) (fun W2 hW2 => ?_);have HB2:Hid (Below w5.heap.size w5 W2):=hid ⟨hW2.os,hW2.tape,hW2.output,hW2.size,hW2.block⟩;have HI2:=row_ HI5.out HB2.out;refine mid_call hW2 rfl rfl (fun Kp hKp => ?_);go_simp;refine(qe9 _ e.ix i W2 ⟨ia,ic,rfl,HI2.out⟩ (by have:=Hix.out;omega)).mono ?_;rintro e1 W3 ⟨x4,rfl,h4⟩;have H4:=hid h4.out;refine⟨_,rfl,hKp _ _ h4.out.2 fun W4 hW4 => ?_⟩;clear hKp h4;simp only[Act.put,zk,zh,zi,ze,qai,qaj,zm,zn];have hz2:=HB2.out.size;have hz3:=H4.out.2.size;have hz4:=zq hW4;(try simp only[zd,qaa] at hz4);have hB3:=qbl H4.out.2 hW2 (by first|omega|(simp;done)|(simp;omega));have hB4:=qa4 hW4 hB3;have HB4:=hid hB4;have Hc4:=hid ((Hc5.out.keep HB2.out).keep (H4.out.2.trans (hW4.mono hz3)));have hc4:=(qal hW4).1;(try simp only[zd,qaa] at hc4);have hf4:=(qal hW4).2;(try simp only[zd,qaa] at hf4);refine qcf hB4 rfl rfl ?_;apply Exists.intro;refine⟨?_,fun W5 hW5 => ?_⟩
              (focus (go_simp;first|exact rfl|fail))
              simp only[Act.put,zk,zh,zi,ze,zm,zn];have hz5:=zq hW5;(try simp only[zd,qaa] at hz5);have hB5:=qa4 hW5 hB4;have hc5:=(qal hW5).1;(try simp only[zd,qaa] at hc5);have hf5:=(qal hW5).2;(try simp only[zd,qaa] at hf5);refine qcf hB5 rfl rfl ?_;apply Exists.intro;refine⟨?_,fun W6 hW6 => ?_⟩
              (focus (go_simp;first|exact rfl|fail))
              simp only[Act.put,zk,zh,zi,ze,zm,zn];have hz6:=zq hW6;(try simp only[zd,qaa] at hz6);have hB6:=qa4 hW6 hB5;have hc6:=(qal hW6).1;(try simp only[zd,qaa] at hc6);have hf6:=(qal hW6).2;(try simp only[zd,qaa] at hf6);refine qcf hB6 rfl rfl ?_;apply Exists.intro;refine⟨?_,fun W7 hW7 => ?_⟩
              (focus (go_simp;first|exact rfl|fail))
              simp only[Act.put,zk,zh,zi,ze,zm,zn];have hz7:=zq hW7;(try simp only[zd,qaa] at hz7);have hB7:=qa4 hW7 hB6;have hc7:=(qal hW7).1;(try simp only[zd,qaa] at hc7);have hf7:=(qal hW7).2;(try simp only[zd,qaa] at hf7);refine qcf hB7 rfl rfl ?_;apply Exists.intro;refine⟨?_,fun W8 hW8 => ?_⟩
              (focus (go_simp;first|exact rfl|fail))
              simp only[Act.put,zk,zh,zi,ze,zm,zn];have hz8:=zq hW8;(try simp only[zd,qaa] at hz8);have hB8:=qa4 hW8 hB7;have hc8:=(qal hW8).1;(try simp only[zd,qaa] at hc8);have hf8:=(qal hW8).2;(try simp only[zd,qaa] at hf8);refine mid_call hB8 rfl rfl (fun Kp9 hKp9 => ?_);go_simp;refine hKp9 _ _ ((zp _ _).alloc (zl _) _) fun W10 hW10 => ?_;simp only[Act.put,zk,zh,zi,ze,qai,qaj,zm,zn];have hz10:=zq hW10;(try simp only[zd,qaa] at hz10);have K38:Below W3.heap.size W3 W8:=qdh (qdh (qdh (qdh hW4 hW5) hW6) hW7) hW8;have K310:Below W3.heap.size W3 W10:=K38.trans ((((zp W8.heap.size W8).alloc (zl _) _).trans (hW10.mono (by simp))).mono K38.size);have Hnb:=hid ((Blk.new W8 225 [tyV kd,.slice x4.1 (e.ix.length+1) x4.2,.bool di,.bool e.mul]).keep hW10);have HI10:Hid (W10.ownsRow 0 3 1 (.slice x4.1 (e.ix.length+1) x4.2) (e.ix.length+1) (qbh (e.ix++[i]))):=row_ H4.out.1 K310;have K510:Below w5.heap.size w5 W10:=HB2.out.trans ((H4.out.2.trans (K310.mono hz3)).mono hz2);have H10:=hid (H5.out.keep K510);have Hc10:=hid (Hc5.out.keep K510);have HIe10:=row_ HI5.out K510;clear hKp9 hW10 hB4 hB3 hB8 hB7 hW4 hc4 hf4 K38 hc8 hf8 hc7 hf7 hW8 hW7;refine mid_nil (qnw rfl rfl ?_);have Hlx:=hid H3.out.len;have HnN:Hid (nx'.length+1≤1099511627775):=hid (by
               have h1:=H3.out.len;have h2:=HKn.out;have h3:k * 2000≤1048577 * 2000:=Nat.mul_le_mul_right _ (by omega);omega)
              refine qb2 W10 rfl (.tmp 163) (.tmp 177) 226 rfl 225 HIi.out.choose _ 4 48 underlying226 HIi.out.choose_spec.1 HIi.out.choose_spec.2.1 HIi.out.choose_spec.2.2.1 HIi.out.choose_spec.2.2.2 rfl (by decide) (.slice na' nx'.length nc') nx'.length cells' rfl H10.out.nxa.own ⟨W8.heap.size,0,none⟩ 1 1 [tyV kd,.slice x4.1 (e.ix.length+1) x4.2,.bool di,.bool e.mul] rfl rfl (fun j u hu => ?_) (by simp[Value.oneCell']) (by have:=HnN.out;unfold maxLen;omega) (by have:=HnN.out;omega) (by decide) fun v' W11 hown' hgrow hloc => ?_
              ·rw[Addr.add_lit,Hnb.out.cell,Nat.zero_add];exact hu
              refine(qak hown').elim fun na2 hsh=>hsh.elim fun nc2 hsh => ?_;have ev:=hsh.1;clear hsh;subst ev;obtain⟨E2,hE2⟩:∃ E2:En,E2=⟨pl F.W (drf F.W (qao (under F.W e.to) i)).1,e.ix++[i],di,e.mul⟩:=⟨_,rfl⟩;have HE2:Hid (subE F.W e (under F.W e.to) i=E2):=hid (by rw[Hdr2.out,hE2,Hin.out];rfl);have HG:=hid (H10.out.grow (e:=E2) (k:=kd) (ia:=x4.1) (ic:=x4.2) (na':=na2) (nc':=nc2) (w':=W11) HTd.out (by rw[hE2];exact HPd.out) (by rw[hE2];have:=HI10.out;simpa using this) (by rw[hE2];simpa using hown') hgrow hloc (by rw[← HE2.out];exact Hok2.out));have HAp:Hid (qag (fun b=>(Value.slice na' nx'.length nc').ownBlock=some b) W10 W11):=hid ⟨hgrow.size,fun b hb hn=>hgrow.block b hb fun e=>hn e.symm⟩;have Hcop:=hid (Hc10.out.apart HAp.out fun hb=>H3.out.ne _ hb rfl);have Hix11:Hid (W11.ownsRow 0 3 1 (.slice ia e.ix.length ic) e.ix.length (qbh e.ix)):=hid (qab HIe10.out HAp.out fun b h1 h2=>by
               obtain⟨cs,hc⟩:=qaf HIe10.out h1;obtain⟨ds,hd⟩:=qaf H10.out.nxa.own h2;exact hc.tne hd (by decide) rfl)
              have Hne:=hid (quv hloc H3.out.ne Hc10.out.lt);have HEq2:=HEn2.out;rw[HE2.out] at HEq2;have HEq3:=hid HEq2;clear hown' hgrow hloc HEq2 hE2
              go_wp2_with fail
              go_roundw
              case rel=>exact⟨(i+1,none,nx'++[E2],na2,nc2,_),HKi.out,by go_num,by simp,hid ⟨HG.out,HEq3.out,Hcop.out,Hix11.out,by have:=H3.out.len;simp only[List.length_append,List.length_singleton];omega,fun b hb=>Hne.out b (by simpa using hb)⟩⟩
              case measure=>have hkn:=HKi.out;simp[intOf];omega
             ·have Hin:=hid hin;rw[hin] at cc2;clear hin;refine Mix.wp_region [0,1,2,3,4,6,7,11,12] [(5,false),(8,false),(9,false),(10,false),(13,false),(14,false)] [15,16] (fun _=>default) (by kernel_rfl) (by kernel_rfl) (by decide) ?_
              iterate 9 (first|(refine pre_yes rfl rfl ?_;apply Exists.intro;refine⟨fun W1 hW1 => ?_,?_⟩;(focus (have hc1:=(qal hW1).1;(try simp only[zd,qaa] at hc1);have hk1:=qac.below hW1;go_simp;first|exact rfl|fail));simp only[Act.put,zk,zh,zi,ze,qai,qaj,zm,zn])|(refine pre_no rfl rfl ?_;simp only[Act.put,zk,zh,zi,ze,qai,qaj,zm,zn]))
              refine pre_end (fl_op (fl_op (fl_op (fl_op (fl_op (fl_op fl_nil)))))) (fun W2 hW2 => ?_);have HB2:Hid (Below w5.heap.size w5 W2):=hid ⟨hW2.os,hW2.tape,hW2.output,hW2.size,hW2.block⟩;have HI2:=row_ HI5.out HB2.out;refine mid_call hW2 rfl rfl (fun Kp hKp => ?_);go_simp;refine(qe9 _ e.ix i W2 ⟨ia,ic,rfl,HI2.out⟩ (by have:=Hix.out;omega)).mono ?_;rintro e1 W3 ⟨x4,rfl,h4⟩;have H4:=hid h4.out;refine⟨_,rfl,hKp _ _ h4.out.2 fun W4 hW4 => ?_⟩;clear hKp h4;simp only[Act.put,zk,zh,zi,ze,qai,qaj,zm,zn];have hz2:=HB2.out.size;have hz3:=H4.out.2.size;have hz4:=zq hW4;(try simp only[zd,qaa] at hz4);have hB3:=qbl H4.out.2 hW2 (by first|omega|(simp;done)|(simp;omega));have hB4:=qa4 hW4 hB3;have HB4:=hid hB4;have Hc4:=hid ((Hc5.out.keep HB2.out).keep (H4.out.2.trans (hW4.mono hz3)));have hc4:=(qal hW4).1;(try simp only[zd,qaa] at hc4);have hf4:=(qal hW4).2;(try simp only[zd,qaa] at hf4);refine qcf hB4 rfl rfl ?_;apply Exists.intro;refine⟨?_,fun W5 hW5 => ?_⟩
              (focus (go_simp;first|exact rfl|fail))
              simp only[Act.put,zk,zh,zi,ze,zm,zn];have hz5:=zq hW5;(try simp only[zd,qaa] at hz5);have hB5:=qa4 hW5 hB4;have hc5:=(qal hW5).1;(try simp only[zd,qaa] at hc5);have hf5:=(qal hW5).2;(try simp only[zd,qaa] at hf5);refine mid_no rfl rfl ?_;simp only[Act.put,zk,zh,zi,ze,qai,qaj,zm,zn];refine qcf hB5 rfl rfl ?_;apply Exists.intro;refine⟨?_,fun W7 hW7 => ?_⟩
              (focus (go_simp;first|exact rfl|fail))
              simp only[Act.put,zk,zh,zi,ze,zm,zn];have hz7:=zq hW7;(try simp only[zd,qaa] at hz7);have hB7:=qa4 hW7 hB5;have hc7:=(qal hW7).1;(try simp only[zd,qaa] at hc7);have hf7:=(qal hW7).2;(try simp only[zd,qaa] at hf7);refine qcf hB7 rfl rfl ?_;apply Exists.intro;refine⟨?_,fun W8 hW8 => ?_⟩
              (focus (go_simp;first|exact rfl|fail))
              simp only[Act.put,zk,zh,zi,ze,zm,zn];have hz8:=zq hW8;(try simp only[zd,qaa] at hz8);have hB8:=qa4 hW8 hB7;have hc8:=(qal hW8).1;(try simp only[zd,qaa] at hc8);have hf8:=(qal hW8).2;(try simp only[zd,qaa] at hf8);refine mid_call hB8 rfl rfl (fun Kp9 hKp9 => ?_);go_simp;refine hKp9 _ _ ((zp _ _).alloc (zl _) _) fun W10 hW10 => ?_;simp only[Act.put,zk,zh,zi,ze,qai,qaj,zm,zn];have hz10:=zq hW10;(try simp only[zd,qaa] at hz10);have K38:Below W3.heap.size W3 W8:=qdh (qdh (qdh hW4 hW5) hW7) hW8;have K310:Below W3.heap.size W3 W10:=K38.trans ((((zp W8.heap.size W8).alloc (zl _) _).trans (hW10.mono (by simp))).mono K38.size);have Hnb:=hid ((Blk.new W8 225 [tyV kd,.slice x4.1 (e.ix.length+1) x4.2,.bool true,.bool e.mul]).keep hW10);have HI10:Hid (W10.ownsRow 0 3 1 (.slice x4.1 (e.ix.length+1) x4.2) (e.ix.length+1) (qbh (e.ix++[i]))):=row_ H4.out.1 K310;have K510:Below w5.heap.size w5 W10:=HB2.out.trans ((H4.out.2.trans (K310.mono hz3)).mono hz2);have H10:=hid (H5.out.keep K510);have Hc10:=hid (Hc5.out.keep K510);have HIe10:=row_ HI5.out K510;clear hKp9 hW10 hB4 hB3 hB8 hB7 hW4 hc4 hf4 K38 hc8 hf8 hc7 hf7 hW8 hW7;refine mid_nil (qnw rfl rfl ?_);have Hlx:=hid H3.out.len;have HnN:Hid (nx'.length+1≤1099511627775):=hid (by
               have h1:=H3.out.len;have h2:=HKn.out;have h3:k * 2000≤1048577 * 2000:=Nat.mul_le_mul_right _ (by omega);omega)
              refine qb2 W10 rfl (.tmp 163) (.tmp 177) 226 rfl 225 HIi.out.choose _ 4 48 underlying226 HIi.out.choose_spec.1 HIi.out.choose_spec.2.1 HIi.out.choose_spec.2.2.1 HIi.out.choose_spec.2.2.2 rfl (by decide) (.slice na' nx'.length nc') nx'.length cells' rfl H10.out.nxa.own ⟨W8.heap.size,0,none⟩ 1 1 [tyV kd,.slice x4.1 (e.ix.length+1) x4.2,.bool true,.bool e.mul] rfl rfl (fun j u hu => ?_) (by simp[Value.oneCell']) (by have:=HnN.out;unfold maxLen;omega) (by have:=HnN.out;omega) (by decide) fun v' W11 hown' hgrow hloc => ?_
              ·rw[Addr.add_lit,Hnb.out.cell,Nat.zero_add];exact hu
              refine(qak hown').elim fun na2 hsh=>hsh.elim fun nc2 hsh => ?_;have ev:=hsh.1;clear hsh;subst ev;obtain⟨E2,hE2⟩:∃ E2:En,E2=⟨pl F.W (drf F.W (qao (under F.W e.to) i)).1,e.ix++[i],true,e.mul⟩:=⟨_,rfl⟩;have HE2:Hid (subE F.W e (under F.W e.to) i=E2):=hid (by rw[Hdr2.out,hE2,Hin.out];rfl);have HG:=hid (H10.out.grow (e:=E2) (k:=kd) (ia:=x4.1) (ic:=x4.2) (na':=na2) (nc':=nc2) (w':=W11) HTd.out (by rw[hE2];exact HPd.out) (by rw[hE2];have:=HI10.out;simpa using this) (by rw[hE2];simpa using hown') hgrow hloc (by rw[← HE2.out];exact Hok2.out));have HAp:Hid (qag (fun b=>(Value.slice na' nx'.length nc').ownBlock=some b) W10 W11):=hid ⟨hgrow.size,fun b hb hn=>hgrow.block b hb fun e=>hn e.symm⟩;have Hcop:=hid (Hc10.out.apart HAp.out fun hb=>H3.out.ne _ hb rfl);have Hix11:Hid (W11.ownsRow 0 3 1 (.slice ia e.ix.length ic) e.ix.length (qbh e.ix)):=hid (qab HIe10.out HAp.out fun b h1 h2=>by
               obtain⟨cs,hc⟩:=qaf HIe10.out h1;obtain⟨ds,hd⟩:=qaf H10.out.nxa.own h2;exact hc.tne hd (by decide) rfl)
              have Hne:=hid (quv hloc H3.out.ne Hc10.out.lt);have HEq2:=HEn2.out;rw[HE2.out] at HEq2;have HEq3:=hid HEq2;clear hown' hgrow hloc HEq2 hE2
              go_wp2_with fail
              go_roundw
              case rel=>exact⟨(i+1,none,nx'++[E2],na2,nc2,_),HKi.out,by go_num,by simp,hid ⟨HG.out,HEq3.out,Hcop.out,Hix11.out,by have:=H3.out.len;simp only[List.length_append,List.length_singleton];omega,fun b hb=>Hne.out b (by simpa using hb)⟩⟩
              case measure=>have hkn:=HKi.out;simp[intOf];omega
           ·have HEn2:=hid (qez.no HEf.out hsm (.inl (by obtain⟨x,_,_,_,_,rfl,-⟩:=h1;rfl)));refine h1.elim fun xh r1=>r1.elim fun Th r2=>r2.elim fun bh r3=>r3.elim fun iah r4=>r4.elim fun ich r5 => ?_;have q2:=r5.2.1;clear h1 r1 r2 r3 r4 r5 hsm HEf;subst q2
            go_wp2_with (go_at_call 113;refine HSi.out.mono ?_;rintro e1 w5 ⟨rfl,hb5⟩;have Hb5:=hid hb5;clear hb5)
            go_roundw
            case rel=>exact⟨(i+1,h',nx',na',nc',cells'),HKi.out,by go_num,rfl,hid ⟨H3.out.st.keep Hb5.out,HEn2.out,H3.out.cop.keep Hb5.out,qab (S:=fun _=>False) H3.out.ix (qag.keep Hb5.out) fun _ _ h=>h,by have:=H3.out.len;simp only;omega,H3.out.ne⟩⟩
            case measure=>have hkn:=HKi.out;simp[intOf];omega
         ·obtain rfl:i=nf:=by omega
          have HRt:Hid (ents F.W q m (cur.drop (k+1)) (h',nx') (seenN e S')=E0):=hid (qez.fin (by have:=H3.out.eq;rw[Nat.sub_self] at this;exact this))
          go_wp2_with fail
          go_roundw
          case rel=>exact⟨k+1,h',nx',seenN e S',na',nc',cells',HKn.out,by go_num,rfl,hid ⟨H3.out.st,HRt.out,by have:=H3.out.len;omega⟩⟩
          case measure=>have hkn:=HKn.out;simp[intOf];omega
       as_aux_lemma=>
        by_cases hk5:ku=5
        ·subst hk5;have ti:=fun v w=>qaw (T:=112) underlying153 Tryz.zsSt (by decide) v w;have tj:=fun v w=>qb5 underlying112 v w;have hk5':kT 5=112:=rfl;rw[hk5'] at HCu HZp HZb;have Hul:Hid ((under F.W e.to).of.kind=5):=hid Hku.out.symm;refine(qqm HA2.out HZp.out Hul.out q m Hq.out Hm.out H8.out).elim fun ts hts => ?_;have HTS:=hid (qds zb ts w' hts.1 hts.2.1);have HLI:=hid hts.2.2.1;clear hts;have HMi:=hid ((qqm HA.out HZb.out Hul.out q m Hq.out Hm.out H8.out).elim fun _ h=>h.2.2.2);cases hdi:qhz (qih (msL F.W (under F.W e.to))) q m with
         | none=>
          rw[hdi] at HLI;simp only[idxV] at HLI;have HRt:Hid (ents F.W q m (cur.drop (k+1)) (h,nx) (seenN e S')=E0):=hid (by
           have:=H2.out.eq;unfold qim at this;rw[qsx (by rw[Hul.out];decide) (fun _=>hdi)] at this;exact this)
          clear hdi
          go_wp2_with (first
           | (go_at_fn fu;refine qap HCu.out ?_)
           | (go_at_call 82;refine qap HTS.out ?_)
           | (go_at_call 114;refine HLI.out.mono ?_;rintro e1 w3 ⟨rfl,hb3⟩;have Hb3:=hid hb3;clear hb3))
          go_roundw
          case rel=>exact⟨k+1,h,nx,seenN e S',na,nc,cells,HKn.out,by go_num,rfl,hid ⟨H2.out.st.keep Hb3.out,HRt.out,by have:=HS.out.2.2;omega⟩⟩
          case measure=>have hkn:=HKn.out;simp[intOf];omega
         | some i=>
          rw[hdi] at HLI;simp only[idxV] at HLI;refine(HMi.out i hdi).elim fun mb r1=>r1.elim fun sg r2 => ?_;have hmb:=r2.1;have HOb:=hid (And.intro r2.2.1 (And.intro r2.2.2.1 (show ∃ pk n,qel (rdT w) mb pk n false from r2.2.2.2.1)));have m3:=qac.below hBw _ _ r2.2.2.2.2;clear r1 r2;rw[hmb] at HLI;have HEm:Hid (E0=match qgu e h i ((msL F.W (under F.W e.to)).getD i mn0).k true false with | .ok h=>ents F.W q m (cur.drop (k+1)) (h,nx) (seenN e S') | .error x => .error x):=hid (by
           have:=H2.out.eq;unfold qim at this;rw[qvm Hul.out hdi] at this;rw[← this];cases qgu e h i ((msL F.W (under F.W e.to)).getD i mn0).k true false <;> rfl)
          have Hix:=hid (HIx.out e Hmem.out);have Hhit:=hid HS.out.1.hit;clear hdi hmb HMi;have lm3:=zj w' _ m3
          go_wp2_with (first
           | (go_at_fn fu;refine qap HCu.out ?_)
           | (go_at_call 82;refine qap HTS.out ?_)
           | (go_at_call 114;refine HLI.out.mono ?_;rintro e1 w3 ⟨rfl,hb3⟩;have Hb3:=hid hb3;have Hc3:=hid (H2.out.cop.keep hb3);have HI3:=row_ H2.out.ix hb3;have cc1:=Hc3.out.cell 1;have cc2:=Hc3.out.cell 2;have cc3:=Hc3.out.cell 3;simp only[zu,zt] at cc1 cc2 cc3;have lc3:=Hc3.out.lt;have m33:=qac.below hb3 _ _ m3;have lm33:=zj w3 _ m33;clear hb3)
           | (go_at_call 75;refine qap (qd8 _) ?_)
           | (go_at_call 112;refine(qe9 _ e.ix i w3 ⟨ia,ic,rfl,HI3.out⟩ (by have:=Hix.out;omega)).mono ?_;rintro e1 w4 ⟨x4,rfl,h4⟩;have H4:=hid h4.out;have Hc4:=hid (Hc3.out.keep h4.out.2);have cd2:=Hc4.out.cell 2;have cd3:=Hc4.out.cell 3;simp only[zu,zt] at cd2 cd3;have lc4:=Hc4.out.lt;clear h4))
          have H1x:=hid (H2.out.st.keep (Hb3.out.trans (H4.out.2.mono Hb3.out.size)));have Hrow4:Hid (w4.ownsRow 0 3 1 (.slice x4.1 (e.ix.length+1) x4.2) (e.ix.length+1) (qbh (e.ix++[i]))):=hid H4.out.1;refine Hhit.out.elim (fun h0 => ?_) (fun h1 => ?_)
          ·have q1:=h0.1;have q2:=h0.2.1;have q3:=h0.2.2.1;have q4:=h0.2.2.2;clear h0 Hhit;subst q1 q2 q3 q4;refine(Bool.eq_false_or_eq_true e.mul).symm.elim (fun hmu => ?_) (fun hmu => ?_)
           ·skip
            have HEm2:=hid HEm.out;rw[qmx hmu] at HEm2;rw[hmu] at cd3;have hmu':=hid hmu;clear hmu HEm;go_simp
            go_wp2_with fail
            go_roundw
            case rel=>
             refine⟨k+1,some ⟨((msL F.W (under F.W e.to)).getD i mn0).k,true,false,e.ix++[i],e.ind⟩,nx,(seenN e S'),na,nc,cells,HKn.out,by go_num,rfl,hid ⟨H1x.out.found (.inr ⟨_,106,mb,x4.1,x4.2,rfl,rfl,by simp,rfl,⟨HOb.out.1,HOb.out.2.1,rfl,?_,fun _=>HOb.out.2.2⟩⟩),?_,by have:=HS.out.2.2;omega⟩⟩
             ·have:=Hrow4.out;simpa using this
             ·exact HEm2.out.symm
            case measure=>have hkn:=HKn.out;simp[intOf];omega
           ·skip
            have HE2:=HErr.out _ (by have:=HEm.out;rw[qe7 (.inr hmu)] at this;exact this);have HE3:=hid HE2;rw[hmu] at cd3;clear hmu HEm HE2;go_simp
            go_wp2_with fail
            go_ret3
            exact qb0.amb HE3.out (by simp) Hrow4.out H1x.out.bel
          ·have HE2:=HErr.out _ (by have:=HEm.out;rw[qe7 (.inl (by obtain⟨x,_,_,_,_,rfl,-⟩:=h1;rfl))] at this;exact this);have HE3:=hid HE2;clear HE2 HEm Hhit;refine h1.elim fun xh r1=>r1.elim fun Th r2=>r2.elim fun bh r3=>r3.elim fun iah r4=>r4.elim fun ich r5 => ?_;have q2:=r5.2.1;clear h1 r1 r2 r3 r4 r5;subst q2;go_simp
           go_wp2_with fail
           go_ret3
           exact qb0.amb HE3.out (by simp) Hrow4.out H1x.out.bel
        have hT4:kT ku≠153:=fun h=>hk4 (qki (b:=4) Hkus.out (by omega) (h.trans rfl));have hT5:kT ku≠112:=fun h=>hk5 (qki (b:=5) Hkus.out (by omega) (h.trans rfl));have ti:=fun v w=>qaw (T:=kT ku) underlying153 Tryz.zsSt hT4 v w;have tj:=fun v w=>qaw (T:=kT ku) underlying112 Tryz.zsIf hT5 v w;have HRt:Hid (ents F.W q m (cur.drop (k+1)) (h,nx) (seenN e S')=E0):=hid (by
         have:=H2.out.eq;unfold qim at this;rw[qsx (by rw[← Hku.out];exact hk4) (fun h5=>absurd (Hku.out.trans h5) hk5)] at this;exact this)
        clear hT4 hT5 hk4 hk5
        go_wp2_with (go_at_fn fu;refine qap HCu.out ?_)
        go_roundw
        case rel=>exact⟨k+1,h,nx,seenN e S',na,nc,cells,HKn.out,by go_num,rfl,hid ⟨H2.out.st,HRt.out,by have:=HS.out.2.2;omega⟩⟩
        case measure=>have hkn:=HKn.out;simp[intOf];omega
     ·obtain rfl:k=cur.length:=by omega
      have HEnd:Hid (E0 = .ok ((h,nx),S')):=hid (by have h1:=HS.out.2.1;rw[List.drop_length] at h1;exact h1.symm);refine HS.out.1.hit.elim (fun h0 => ?_) (fun h1 => ?_)
      ·have q1:=h0.1;have q2:=h0.2.1;have q3:=h0.2.2.1;have q4:=h0.2.2.2;clear h0
       as_aux_lemma=>
        subst q1 q2 q3 q4;have HR2:=hid (HNx.out _ _ HEnd.out);have HMe:=hid (HS.out.1.ok.meas HMs.out.1);have HLe:Hid ((qbc F.W nx).length≤1048577):=hid (by have h1:=qvb HS.out.1.ok.emb;have h2:=HA.out.wd.len;omega);have HIx2:Hid (∀ e∈qbc F.W nx,e.ix.length+(gk - 1)≤qj2 F.W):=hid (qkc (fun e=>e.ix.length+(gk - 1)≤qj2 F.W) (fun a b _ e2 h=>by rw[← e2];exact h) fun e he=>by
         have h1:=HS.out.1.ok.ix e he;have h2:=HLv.out;have h3:=HMs.out.2.2;have h4:=Hgk.out;omega)
        by_cases hn1:nx.length≤1
        ·have HCs:=hid (qri (.slice na nx.length nc) na nx.length nc rfl hn1 wr);have hcm:=qpd F.W hn1;rw[hcm] at HR2 HMe HLe HIx2;clear hn1 hcm
         go_wp2_with (go_at_call 116;refine qap HCs.out ?_)
         go_roundg (gk - 1)
         case measure=>have:=Hgk.out;omega
         case rel=>
          refine⟨rfl,rfl,rfl,(nx,S'),hid ⟨⟨HS.out.1.bel,HS.out.1.seen,HS.out.1.ok.nds,⟨na,nc,rfl,?_,fun hne2 => ?_⟩,by have h1:=HMe.out;have h2:=HMs.out.2.1;simp only;omega,HLe.out,HIx2.out⟩,HR2.out⟩⟩
          ·obtain⟨_,_,he,hle,-⟩:=qak HS.out.1.nxa.own;cases he;exact hle
          ·obtain⟨g',eg,-⟩:=HS.out.1.nxa.at_ 0 (List.length_pos_iff.2 hne2);subst eg;refine⟨g',rfl,(HS.out.1.own g' rfl).2,qaf HS.out.1.nxa.own (g:=g') rfl,fun i hi => ?_⟩;obtain⟨g2,e2,q⟩:=HS.out.1.nxa.at_ i hi;cases e2;exact q
        ·have hx0:=HS.out.1.nxa.at_ 0 (by omega);refine hx0.elim fun g' hg' => ?_;have eg:=hg'.1;clear hg' hx0;subst eg;have hbg:=qaf HS.out.1.nxa.own (g:=g') rfl;refine hbg.elim fun csg hbg' => ?_;have HBg:=hid hbg';have hle:nx.length≤nc:=by
          obtain⟨_,_,he,hle,-⟩:=qak HS.out.1.nxa.own;cases he;exact hle
         have HCs:=hid (qv1 HA.out HS.out.1.bel (HS.out.1.own g' rfl).2 hbg' nx hle (by omega) (by have h1:=HS.out.2.2;have h3:cur.length * 2000≤1048577 * 2000:=Nat.mul_le_mul_right _ hlen;omega) fun i hi=>by
          obtain⟨g2,e2,q⟩:=HS.out.1.nxa.at_ i hi;cases e2;exact q)
         have Hle:=hid hle;have HOg:=hid (HS.out.1.own g' rfl).2;have HCl:Hid ((qbc F.W nx).length≤nx.length):=hid (by have:=qgk (W:=F.W) (l:=nx) nx.length;rw[zeb] at this;exact this);clear hbg hbg' hle hn1
         go_wp2_with (go_at_call 116;refine HCs.out.mono ?_;rintro e1 w7 ⟨rfl,h7⟩;have H7:=hid h7;clear h7)
         go_roundg (gk - 1)
         case measure=>have:=Hgk.out;omega
         case rel=>
          exact⟨rfl,rfl,rfl,(qbc F.W nx,S'),hid ⟨⟨HS.out.1.bel.trans (H7.out.1.below HS.out.1.bel.size fun b hb=>by have hb':b=g':=hb;rw[hb'];exact HOg.out),qrn HS.out.1.seen H7.out.1.apart HBg.out,HS.out.1.ok.nds,⟨some ⟨g',0,none⟩,nc,rfl,by have h1:=HCl.out;have h2:=Hle.out;simp only;omega,fun _=>⟨g',rfl,HOg.out,H7.out.2.1,H7.out.2.2⟩⟩,by have h1:=HMe.out;have h2:=HMs.out.2.1;simp only;omega,HLe.out,HIx2.out⟩,HR2.out⟩⟩
      ·refine h1.elim fun x r1=>r1.elim fun T r2=>r2.elim fun b r3=>r3.elim fun ia r4=>r4.elim fun ic r5 => ?_;have q1:=r5.1;have q2:=r5.2.1;have q3:=r5.2.2.1;have q4:=r5.2.2.2.1;have HV:=hid r5.2.2.2.2;clear h1 r1 r2 r3 r4 r5;subst q1 q2 q3 q4;have HR2:=hid (HHit.out _ _ _ HEnd.out);have Hbel:=hid HS.out.1.bel;have hT:=HV.out.ty;obtain⟨xi,hxi⟩:∃ xi,xi=x.ind:=⟨_,rfl⟩;cases hmt:x.met with
       | false=>
        rw[hmt] at hT;have hT':T=151:=hT;subst hT';have tf:=fun v w=>qsv (T:=151) underlying106 Tryz.zFunc (by decide) v w;have HR3:Hid (R=⟨some (x.ob,x.met),x.ix,x.ind⟩):=hid (by rw[HR2.out,hmt];rfl);clear hT hmt HR2 hxi
        go_wp2_with fail
        go_ret3
        exact qb0.found HR3.out HV.out Hbel.out
       | true=>
        rw[hmt] at hT;have hT':T=106:=hT;subst hT';have tf:=fun v w=>qo4 underlying106 v w;have HPr:=hid ((HV.out.fn hmt).elim fun pk h=>h.elim fun n h=>qkv b pk n x.ptr wr (h.mono (qa0 Hbel.out)));have HR3:Hid (R=if(x.ptr&&!x.ind&&!addr)=true then⟨none,[],true⟩ else⟨some (x.ob,x.met),x.ix,x.ind⟩):=hid (by rw[HR2.out,hmt];rfl);obtain⟨xp,hxp⟩:∃ xp,xp=x.ptr:=⟨_,rfl⟩;rw[← hxp] at HPr HR3;rw[← hxi] at HR3 ⊢;have HXi:=hid hxi;clear hT hmt HR2 hxi hxp;cases xp <;> cases xi <;> cases addr
        all_goals
         go_wp2_with (go_at_call 115;refine qap HPr.out ?_)
         go_ret3
         first
          | (have e1:R=⟨none,[],true⟩:=by rw[HR3.out];rfl
             rw[e1];exact qb0.nothing rfl Hbel.out)
          | (have h1:=qb0.found (w:=w) (show R=⟨some (x.ob,x.met),x.ix,x.ind⟩ by rw[HR3.out,← HXi.out];rfl) HV.out Hbel.out;rw[← HXi.out] at h1;exact h1)
