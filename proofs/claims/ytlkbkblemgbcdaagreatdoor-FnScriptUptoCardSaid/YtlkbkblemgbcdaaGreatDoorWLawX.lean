import Derived.Test.YtlkbkblemgbcdaaGreatDoorWLawA
import Derived.Test.YtlkbkblemgbcdaaGreatDoorK56
set_option linter.all false
set_option maxHeartbeats 8000000
namespace Go.Proofs.YtlkbkblemgbcdaaGreatDoor
open Go Go.RowKit
set_option maxRecDepth 100000
structure Ak where
 ad:Bool
 pkg:Int
 name:Int
def AkR (w:World) (a:Option Addr) (l:List Ak):Prop:=∀ (k:Nat) (hk:k<l.length),∃ b o,a=some ⟨b,o,none⟩∧qat w b (o+k * 3) [.bool l[k].ad,.int .i64 l[k].pkg,.int .i64 l[k].name]
theorem AkR.keep {w W:World} {a:Option Addr} {l:List Ak} (h:AkR w a l) (k:qac w W):AkR W a l:=fun i hi=>
 let ⟨b,o,e,hc⟩:=h i hi
 ⟨b,o,e,hc.keep k⟩
noncomputable def akR (W:Wd) (t:Ty) (k:Ak):Rs:=qch W (operand W t) k.ad k.pkg k.name
def foundCs (r:Rs) (x:Option Addr×Nat):List Value:=[.int .i64 (obI r),.bool (obM r),.slice x.1 r.ix.length x.2,.bool r.ind]
def FsR (w:World):List Rs→List Value→Prop
 | [],xs=>xs=[]
 | r::l,xs=>∃ x ys,xs=foundCs r x++ys∧w.ownsRow 0 3 1 (.slice x.1 r.ix.length x.2) r.ix.length (qbh r.ix)∧FsR w l ys
theorem FsR.snoc {w:World} {r:Rs} {x:Option Addr×Nat} (hr:w.ownsRow 0 3 1 (.slice x.1 r.ix.length x.2) r.ix.length (qbh r.ix)):∀ {l:List Rs} {xs:List Value},FsR w l xs→FsR w (l++[r]) (xs++foundCs r x)
 | [],xs,h=>by
  unfold FsR at h;subst h;simp only[List.nil_append,FsR];exact⟨x,[],by simp,hr,rfl⟩
 | s::l,xs,h=>by
  unfold FsR at h;obtain⟨y,ys,rfl,h1,h2⟩:=h;simp only[List.cons_append,FsR];exact⟨y,ys++foundCs r x,by simp,h1,FsR.snoc hr h2⟩
theorem FsR.apart {S:Nat→Prop} {w w':World} (ha:qag S w w') (hs:∀ g cs,Blk w g 3 cs→¬ S g):∀ {l:List Rs} {xs:List Value},FsR w l xs→FsR w' l xs
 | [],xs,h=>h
 | s::l,xs,h=>by
  unfold FsR at h ⊢;obtain⟨y,ys,e,h1,h2⟩:=h;exact⟨y,ys,e,qab h1 ha fun g hg=>(qaf h1 hg).elim fun cs hb=>hs g cs hb,FsR.apart ha hs h2⟩
theorem FsR.get {w:World}:∀ {l:List Rs} {xs:List Value},FsR w l xs→∀ (i:Nat) (hi:i<l.length),∃ x:Option Addr×Nat,(∀ j v,(foundCs l[i] x)[j]?=some v→xs[i * 4+j]?=some v)∧w.ownsRow 0 3 1 (.slice x.1 l[i].ix.length x.2) l[i].ix.length (qbh l[i].ix)
 | s::l,xs,h,0,_=>by
  unfold FsR at h;obtain⟨y,ys,rfl,h1,h2⟩:=h;refine⟨y,fun j v hj => ?_,h1⟩;have hl:j<(foundCs s y).length:=(zjb.1 hj).1;rw[Nat.zero_mul,Nat.zero_add,List.getElem?_append_left hl];exact hj
 | s::l,xs,h,i+1,hi=>by
  unfold FsR at h;obtain⟨y,ys,rfl,h1,h2⟩:=h;obtain⟨x,h3,h4⟩:=FsR.get h2 i (by simpa using hi);refine⟨x,fun j v hj => ?_,h4⟩;rw[List.getElem?_append_right (by simp[foundCs];omega)];have:=h3 j v hj;rw[show(i+1) * 4+j - (foundCs s y).length=i * 4+j by simp[foundCs];omega];exact this
theorem ownsRow_cell {w:World} {T:TypeId} {size n c:Nat} {a:Option Addr} {xs:List Value} (h:w.ownsRow 0 T size (.slice a n c) n xs) (hn:0<n):∃ g,a=some ⟨g,0,none⟩∧∀ j v,xs[j]?=some v→w.cell? ⟨g,j,none⟩=some v:=by
 have h0:=h;obtain⟨-,⟨he,h1⟩|⟨g,cap,cur,he,-⟩⟩:=h
 ·omega
 ·cases he;refine⟨g,rfl,fun j v hj => ?_⟩;have:=h0.cells (g:=g) rfl j v hj;rw[Addr.add_lit,Nat.zero_add] at this;exact this
theorem Tryz.infoFo:(Tryz.prog.info? 33).map (fun i=>(i.zero,i.size,i.bytes))=some (some (.agg #[.int .i64 0,.bool false,.slice none 0 0,.bool false]),4,48):=by kernel_rfl
theorem wp_app {P:Program} {o:Oper} {a:Act} {w:World} {K:Act→World→Prop} {Q:Exit→Act→World→Prop} (s x:Operand) (t:TypeId) (ho:o.op = .call { callee := .builtin .append,args:=#[s,x],argTypes:=#[t,t] })
  (e:TypeId) (z:Value) (size bytes:Nat) (ht:P.underlying t=some (.slice e)) (hi:(P.info? e).map (fun i=>(i.zero,i.size,i.bytes))=some (some z,size,bytes)) (hzs:z.cells.size=size) (hsz:0<size)
  (v:Value) (n:Nat) (xs:List Value) (hs:a.eval s=v) (hown:w.ownsRow 0 e size v n xs)
  (ad:Addr) (m c:Nat) (news:List Value) (hx:a.eval x = .slice (some ad) m c) (hl:news.length=m * size) (hnews:∀ j u,news[j]?=some u→w.cell? (ad.add j)=some u) (h1:∀ u∈news,u.oneCell'=true)
  (h63:n+m≤maxLen) (hbytes:(n+m) * bytes≤140737488355328) (hm:0<m)
  (h:∀ v' w',w'.ownsRow 0 e size v' (n+m) (xs++news)→w.grownBy w' v.ownBlock→(v'.ownBlock=v.ownBlock∨v'.ownBlock=some w.heap.size)→K (a.put o.dst v') w'):o.wp P a w K Q:=by
 obtain⟨i,q0,q1⟩:=zbb.1 hi;simp only[Prod.mk.injEq] at q1;obtain⟨v',w',hr,h2,h3,h4⟩:=qo6 (P:=P) w t o.type e i z size bytes ht q0 q1.1 q1.2.1 q1.2.2 hzs hsz v n xs hown ad m c news hl hnews h1 h63 hbytes hm;unfold Oper.wp execOp;simp only[ho,resolve,invoke,builtin,Sem.run_bind,Sem.run_pure,Result.andThen_ok,List.map_toArray,List.map_cons,List.map_nil,hs,hx,hr];exact h v' w' h2 h3 h4
def LsPost (rs:List Rs) (w:World) (e:Ending) (w':World):Prop:=∃ (x:Option Addr×Nat) (xs:List Value),e = .returned (.slice x.1 rs.length x.2)∧Hid (w'.ownsRow 0 33 4 (.slice x.1 rs.length x.2) rs.length xs∧FsR w' rs xs∧Below w.heap.size w w')
theorem implLookups_any (W:Wd) (a:Option Addr) (c:Nat) (w:World) (t:Ty) (hF:qfz W t) (hN:NmOk W) (hW:WOk w W a c) (hT:Tabs w) (htb:t.bulk≤1048576) (P:Nat→Nat) (hS:qdx W t P) (cs:List Value) (ht:TyC w t cs)
  (l:List Ak) (ka:Option Addr) (kc:Nat) (hk:AkR w ka l) (hl:l.length≤1048576) (hq:∀ x∈l,(x.pkg=0∨x.pkg=1)∧IsNm x.name):
  Calls Tryz.prog 21 #[.slice a W.length c,.agg cs.toArray,.slice ka l.length kc] w (LsPost (l.map (akR W t)) w):=by
 obtain⟨x1,y1,x2,y2,x3,y3,x4,y4,rfl,-⟩:=ht.full;have hbk:=hW.bulk;have HB:=hid (fun(w1:World) (h:Below w.heap.size w w1)=>qsp W a c w1 t hF hN (hW.keep (qac.below h)) (hT.below h) htb _ (ht.keep (qac.below h)));have HH:=hid (And.intro hF (And.intro hS (And.intro hT htb)));have HAk:=hid hk;have Hq:=hid hq;have Hl:=hid hl;clear hF hN hW hT htb hS ht hq hk hl;have HB0:Hid (∀ (O1:Obj),Below w.heap.size w (w.alloc O1)):=hid fun O1=>(zp _ _).alloc (zl _) _;go_enter Tryz.func21,Tryz.ntmps21
 go_wp2_with (go_at_call 30;refine(HB.out _ (HB0.out _)).mono ?_;rintro e w2 ⟨x,rfl,Hx⟩)
 have c0:w2.cell? ⟨x.1.bb,0,none⟩=some (.slice (some ⟨x.1.pr,0,none⟩) 2 x.1.pc):=Hx.out.2.2.1.ok.bld.cell 0;have lb0:=zj w2 _ c0;simp only at lb0;have HAm:Hid (Amb x.1 (setN x.1.W P x.1.N) _ x.2.1 w2∧SpO x.1.W (setN x.1.W P x.1.N) (operand W t)):=hid (by
  have e:=Hx.out.1;have h:=Amb.of (F:=x.1) (t:=t) (P:=P) Hx.out.2.2.1 (by rw[e];exact HH.out.1) (by rw[e];exact HH.out.2.1) (by rw[e];exact hbk) HH.out.2.2.2 (by rw[e];exact Hx.out.2.1) (HH.out.2.2.1.below ((HB0.out _).trans (Hx.out.2.2.2.2.mono (HB0.out _).size))) (by rw[e];exact Hx.out.2.2.2.1);rw[e] at h ⊢;exact h)
 have HK:Hid (∀ w3 (k:Ak),(k.pkg=0∨k.pkg=1)→IsNm k.name→Below w2.heap.size w2 w3→Calls Tryz.prog 32 #[.iface x.2.2.1 (.pointer (some x.2.2.2)),.bool k.ad,ptrV (x.1.pk k.pkg),.string (qas k.name)] w3 (qb0 x.1 x.2.1 w3 (akR W t k))):=hid <|
  fun w3 k hq hm hb=>by
   have h:=qs3 (HAm.out.1.keep hb) (DenW.keep Hx.out.2.2.2.1 hb) HAm.out.2 k.ad k.pkg k.name hq hm;rw[Hx.out.1] at h;exact h
 have HD:Hid (∀ w3 w4 (r:Rs) (x5:Option Addr×Nat),Below w2.heap.size w2 w3→Hid (w4.ownsRow 0 3 1 (.slice x5.1 r.ix.length x5.2) r.ix.length (qbh r.ix)∧Below w3.heap.size w3 w4∧∀ k met,r.ob=some (k,met)→∃ x6,x.2.1.ob k=some (met,x6)∧k<x.1.N)→Calls Tryz.prog 31 #[ptrV x.1.bb,obV x.2.1 r.ob,.slice x5.1 r.ix.length x5.2,.bool r.ind] w4 (qdq r w3)):=hid <|
  fun w3 w4 r x5 hb h4=>qt3 (HAm.out.1.keep (hb.trans (h4.out.2.1.mono hb.size))) h4.out.2.2 h4.out.1 h4.out.2.1
 have HPk:=hid (fun q (h:q=0∨q=1)=>(Hx.out.2.2.1.ok.pkc h).1);have HBw:=hid ((HB0.out _).trans (Hx.out.2.2.2.2.mono (HB0.out _).size));have HA2:=hid (HAk.out.keep (qac.below HBw.out));clear HB HH HAm HAk;obtain⟨n,hn⟩:∃ n,n=l.length:=⟨_,rfl⟩;have Hn:=hid hn;rw[← hn];clear hn
 go_loopw [9,20] (fun rv jv wr=>∃ (k:Nat) (qa:Option Addr) (qc:Nat) (xs:List Value),k≤n∧jv = .int .i64 k∧rv = .slice qa k qc∧w2.heap.size≤wr.heap.size∧
   Hid (Below w2.heap.size w2 wr∧wr.ownsRow 0 33 4 (.slice qa k qc) k xs∧FsR wr ((l.take k).map (akR W t)) xs∧∀ g,(Value.slice qa k qc).ownBlock=some g→w2.heap.size≤g))
  (fun _ jv _=>n - (intOf jv).toNat)
 case atStart=>exact⟨0,none,0,[],Nat.zero_le _,rfl,rfl,zl _,hid ⟨zp _ _,zdb _ _ _ _,by simp[FsR],fun g hg=>by cases hg⟩⟩
 case round=>
  obtain⟨k,qa,qc,xs,hk,rfl,rfl,hz,Hst⟩:=hrel;by_cases hlt:k<n
  ·have hlt':(k:Int)<(n:Int):=by omega
   have hkl:k<l.length:=by have:=Hn.out;omega
   refine((HA2.out.keep (qac.below Hst.out.1)) k hkl).elim fun bb r=>r.elim fun oo r => ?_;have ea:=r.1;have hcc:=r.2;clear r;subst ea;obtain⟨A,hA⟩:∃ A,A=l[k]:=⟨_,rfl⟩;have Hq1:=hid (Hq.out A (by rw[hA];exact z8 _));have HAl:=hid hA;rw[← hA] at hcc;clear hA;obtain⟨ad,q,m⟩:=A;have t0:=hcc 0 _ rfl;have t1:=hcc 1 _ rfl;have t2:=hcc 2 _ rfl;simp only[Nat.add_zero] at t0;clear hcc;have hq2:0≤q∧q<2:=by have:=Hq1.out.1;simp only at this;omega
   have c1:=HPk.out q Hq1.out.1;have lb1:=zj w2 _ c1;simp only at lb1;have HP3:Hid (Below w2.heap.size w2 (wr.alloc (.cells #[.bool ad,.int .i64 q,.int .i64 m] 51))∧Blk (wr.alloc (.cells #[.bool ad,.int .i64 q,.int .i64 m] 51)) wr.heap.size 51 [.bool ad,.int .i64 q,.int .i64 m]):=
    hid ⟨Hst.out.1.alloc hz _,Blk.new wr 51 [.bool ad,.int .i64 q,.int .i64 m]⟩
   have HPr:Hid (Below wr.heap.size wr (wr.alloc (.cells #[.bool ad,.int .i64 q,.int .i64 m] 51))):=hid ((zp _ _).alloc (zl _) _)
   go_wp2_with fail
   refine wpI_region (fun W=>Below w2.heap.size w2 W∧Blk W wr.heap.size 51 [.bool ad,.int .i64 q,.int .i64 m]) (by kernel_rfl) ?_;change wpI _ _ _ _ _ _ _ (World.drew (wr.alloc (.cells #[.bool ad,.int .i64 q,.int .i64 m] 51)))
   generalize (wr.alloc (.cells #[.bool ad,.int .i64 q,.int .i64 m] 51))=wS at HP3 HPr ⊢
   have HID:Hid (Below w2.heap.size w2 wS.drew∧Blk wS.drew wr.heap.size 51 [.bool ad,.int .i64 q,.int .i64 m]):=hid ⟨HP3.out.1.drew,HP3.out.2.drew⟩;have HIr:Hid (Below wr.heap.size wr wS.drew):=hid HPr.out.drew;clear HP3 HPr
   generalize wS.drew=wD at HID HIr ⊢
   clear t0 t1 t2;refine' wpI_take (i:=0) (v:=_) rfl (by kernel_rfl) (by kernel_rfl) (by kernel_rfl) (fun _ _ _ h=>h) (Or.inl ⟨by rfl,_⟩) _
   rotate_left
   ·(intro wq hq;have hcq:=(qal hq.1).1;(try simp only[zd,qaa] at hcq);have hkq:=qac.below hq.1;have a0:=hq.2.cell 0;have a1:=hq.2.cell 1;have a2:=hq.2.cell 2;(simp only[zu,zt] at a0 a1 a2);go_simp;first|done|with_reducible rfl)
   (try simp only[Act.put,zk,zh,zi,ze,zm,zn])
   refine' wpI_take (i:=1) (v:=_) rfl (by kernel_rfl) (by kernel_rfl) (by kernel_rfl) (fun _ _ _ h=>h) (Or.inl ⟨by rfl,_⟩) _
   rotate_left
   ·(intro wq hq;have hcq:=(qal hq.1).1;(try simp only[zd,qaa] at hcq);have hkq:=qac.below hq.1;have a0:=hq.2.cell 0;have a1:=hq.2.cell 1;have a2:=hq.2.cell 2;(simp only[zu,zt] at a0 a1 a2);go_simp;first|done|with_reducible rfl)
   (try simp only[Act.put,zk,zh,zi,ze,zm,zn])
   refine' wpI_take (i:=2) (v:=_) rfl (by kernel_rfl) (by kernel_rfl) (by kernel_rfl) (fun _ _ _ h=>h) (Or.inl ⟨by rfl,_⟩) _
   rotate_left
   ·(intro wq hq;have hcq:=(qal hq.1).1;(try simp only[zd,qaa] at hcq);have hkq:=qac.below hq.1;have a0:=hq.2.cell 0;have a1:=hq.2.cell 1;have a2:=hq.2.cell 2;(simp only[zu,zt] at a0 a1 a2);go_simp;first|done|with_reducible rfl)
   (try simp only[Act.put,zk,zh,zi,ze,zm,zn])
   refine' wpI_take (i:=3) (v:=_) rfl (by kernel_rfl) (by kernel_rfl) (by kernel_rfl) (fun _ _ _ h=>h) (Or.inl ⟨by rfl,_⟩) _
   rotate_left
   ·(intro wq hq;have hcq:=(qal hq.1).1;(try simp only[zd,qaa] at hcq);have hkq:=qac.below hq.1;have a0:=hq.2.cell 0;have a1:=hq.2.cell 1;have a2:=hq.2.cell 2;(simp only[zu,zt] at a0 a1 a2);go_simp;first|done|with_reducible rfl)
   (try simp only[Act.put,zk,zh,zi,ze,zm,zn])
   refine' wpI_take (i:=4) (v:=_) rfl (by kernel_rfl) (by kernel_rfl) (by kernel_rfl) (fun _ _ _ h=>h) (Or.inl ⟨by rfl,_⟩) _
   rotate_left
   ·(intro wq hq;have hcq:=(qal hq.1).1;(try simp only[zd,qaa] at hcq);have hkq:=qac.below hq.1;have a0:=hq.2.cell 0;have a1:=hq.2.cell 1;have a2:=hq.2.cell 2;(simp only[zu,zt] at a0 a1 a2);go_simp;first|done|with_reducible rfl)
   (try simp only[Act.put,zk,zh,zi,ze,zm,zn])
   refine' wpI_take (i:=5) (v:=_) rfl (by kernel_rfl) (by kernel_rfl) (by kernel_rfl) (fun _ _ _ h=>h) (Or.inl ⟨by rfl,_⟩) _
   rotate_left
   ·(intro wq hq;have hcq:=(qal hq.1).1;(try simp only[zd,qaa] at hcq);have hkq:=qac.below hq.1;have a0:=hq.2.cell 0;have a1:=hq.2.cell 1;have a2:=hq.2.cell 2;(simp only[zu,zt] at a0 a1 a2);go_simp;first|done|with_reducible rfl)
   (try simp only[Act.put,zk,zh,zi,ze,zm,zn])
   refine' wpI_take (i:=6) (v:=_) rfl (by kernel_rfl) (by kernel_rfl) (by kernel_rfl) (fun _ _ _ h=>h) (Or.inl ⟨by rfl,_⟩) _
   rotate_left
   ·(intro wq hq;have hcq:=(qal hq.1).1;(try simp only[zd,qaa] at hcq);have hkq:=qac.below hq.1;have a0:=hq.2.cell 0;have a1:=hq.2.cell 1;have a2:=hq.2.cell 2;(simp only[zu,zt] at a0 a1 a2);go_simp;first|done|with_reducible rfl)
   (try simp only[Act.put,zk,zh,zi,ze,zm,zn])
   refine' wpI_take (i:=7) (v:=_) rfl (by kernel_rfl) (by kernel_rfl) (by kernel_rfl) (fun _ _ _ h=>h) (Or.inl ⟨by rfl,_⟩) _
   rotate_left
   ·(intro wq hq;have hcq:=(qal hq.1).1;(try simp only[zd,qaa] at hcq);have hkq:=qac.below hq.1;have a0:=hq.2.cell 0;have a1:=hq.2.cell 1;have a2:=hq.2.cell 2;(simp only[zu,zt] at a0 a1 a2);go_simp;first|done|with_reducible rfl)
   (try simp only[Act.put,zk,zh,zi,ze,zm,zn])
   refine' wpI_take (i:=8) (v:=_) rfl (by kernel_rfl) (by kernel_rfl) (by kernel_rfl) (fun _ _ _ h=>h) (Or.inl ⟨by rfl,_⟩) _
   rotate_left
   ·(intro wq hq;have hcq:=(qal hq.1).1;(try simp only[zd,qaa] at hcq);have hkq:=qac.below hq.1;have a0:=hq.2.cell 0;have a1:=hq.2.cell 1;have a2:=hq.2.cell 2;(simp only[zu,zt] at a0 a1 a2);go_simp;first|done|with_reducible rfl)
   (try simp only[Act.put,zk,zh,zi,ze,zm,zn])
   refine' wpI_take (i:=9) (v:=_) rfl (by kernel_rfl) (by kernel_rfl) (by kernel_rfl) (fun _ _ _ h=>h) (Or.inl ⟨by rfl,_⟩) _
   rotate_left
   ·(intro wq hq;have hcq:=(qal hq.1).1;(try simp only[zd,qaa] at hcq);have hkq:=qac.below hq.1;have a0:=hq.2.cell 0;have a1:=hq.2.cell 1;have a2:=hq.2.cell 2;(simp only[zu,zt] at a0 a1 a2);go_simp;first|done|with_reducible rfl)
   (try simp only[Act.put,zk,zh,zi,ze,zm,zn])
   refine' wpI_take (i:=10) (v:=_) rfl (by kernel_rfl) (by kernel_rfl) (by kernel_rfl) (fun _ _ _ h=>h) (Or.inl ⟨by rfl,_⟩) _
   rotate_left
   ·(intro wq hq;have hcq:=(qal hq.1).1;(try simp only[zd,qaa] at hcq);have hkq:=qac.below hq.1;have a0:=hq.2.cell 0;have a1:=hq.2.cell 1;have a2:=hq.2.cell 2;(simp only[zu,zt] at a0 a1 a2);go_simp;first|done|with_reducible rfl)
   (try simp only[Act.put,zk,zh,zi,ze,zm,zn])
   refine' wpI_take (i:=11) (v:=_) rfl (by kernel_rfl) (by kernel_rfl) (by kernel_rfl) (fun _ _ _ h=>h) (Or.inl ⟨by rfl,_⟩) _
   rotate_left
   ·(intro wq hq;have hcq:=(qal hq.1).1;(try simp only[zd,qaa] at hcq);have hkq:=qac.below hq.1;have a0:=hq.2.cell 0;have a1:=hq.2.cell 1;have a2:=hq.2.cell 2;(simp only[zu,zt] at a0 a1 a2);go_simp;first|done|with_reducible rfl)
   (try simp only[Act.put,zk,zh,zi,ze,zm,zn])
   refine' wpI_take (i:=12) (v:=_) rfl (by kernel_rfl) (by kernel_rfl) (by kernel_rfl) (fun _ _ _ h=>h) (Or.inl ⟨by rfl,_⟩) _
   rotate_left
   ·(intro wq hq;have hcq:=(qal hq.1).1;(try simp only[zd,qaa] at hcq);have hkq:=qac.below hq.1;have a0:=hq.2.cell 0;have a1:=hq.2.cell 1;have a2:=hq.2.cell 2;(simp only[zu,zt] at a0 a1 a2);go_simp;first|done|with_reducible rfl)
   (try simp only[Act.put,zk,zh,zi,ze,zm,zn])
   refine' wpI_take (i:=13) (v:=_) rfl (by kernel_rfl) (by kernel_rfl) (by kernel_rfl) (fun _ _ _ h=>h) (Or.inl ⟨by rfl,_⟩) _
   rotate_left
   ·(intro wq hq;have hcq:=(qal hq.1).1;(try simp only[zd,qaa] at hcq);have hkq:=qac.below hq.1;have a0:=hq.2.cell 0;have a1:=hq.2.cell 1;have a2:=hq.2.cell 2;(simp only[zu,zt] at a0 a1 a2);go_simp;first|done|with_reducible rfl)
   (try simp only[Act.put,zk,zh,zi,ze,zm,zn])
   refine' wpI_take (i:=14) (v:=_) rfl (by kernel_rfl) (by kernel_rfl) (by kernel_rfl) (fun _ _ _ h=>h) (Or.inl ⟨by rfl,_⟩) _
   rotate_left
   ·(intro wq hq;have hcq:=(qal hq.1).1;(try simp only[zd,qaa] at hcq);have hkq:=qac.below hq.1;have a0:=hq.2.cell 0;have a1:=hq.2.cell 1;have a2:=hq.2.cell 2;(simp only[zu,zt] at a0 a1 a2);go_simp;first|done|with_reducible rfl)
   (try simp only[Act.put,zk,zh,zi,ze,zm,zn])
   refine wpI_one (i:=15) (by kernel_rfl) rfl HID.out (by rfl) (fun K hK => ?_);go_simp
   go_at_call 33
   refine(qbq m _ Hq1.out.2).mono ?_;rintro e w3 ⟨rfl,hb3⟩;have HI3:Hid (Below w2.heap.size w2 w3∧Blk w3 wr.heap.size 51 [.bool ad,.int .i64 q,.int .i64 m]):=hid ⟨HID.out.1.trans (hb3.mono HID.out.1.size),HID.out.2.keep hb3⟩;have HJ3:=hid (HIr.out.trans (hb3.mono HIr.out.size));refine hK _ _ ?_;clear hK K hb3
   (try simp only[Act.put,zk,zh,zi,ze,zm,zn])
   refine wpI_one (i:=16) (by kernel_rfl) rfl HI3.out (by rfl) (fun K hK => ?_);go_simp
   go_at_call 32
   refine(HK.out _ ⟨ad,q,m⟩ Hq1.out.1 Hq1.out.2 HI3.out.1).mono ?_;obtain⟨r,hr⟩:∃ r,r=akR W t ⟨ad,q,m⟩:=⟨_,rfl⟩;have Hr:=hid hr;rw[← hr];clear hr;rintro e w4 ⟨x5,rfl,H4⟩;have HI4:Hid (Below w2.heap.size w2 w4∧Blk w4 wr.heap.size 51 [.bool ad,.int .i64 q,.int .i64 m]):=hid ⟨HI3.out.1.trans (H4.out.2.1.mono HI3.out.1.size),HI3.out.2.keep H4.out.2.1⟩;refine hK _ _ ?_;clear hK K
   (try simp only[Act.put,zk,zh,zi,ze,zm,zn])
   refine' wpI_take (i:=17) (v:=_) rfl (by kernel_rfl) (by kernel_rfl) (by kernel_rfl) (fun _ _ _ h=>h) (Or.inl ⟨by rfl,_⟩) _
   rotate_left
   ·(intro wq hq;have hcq:=(qal hq.1).1;(try simp only[zd,qaa] at hcq);have hkq:=qac.below hq.1;have a0:=hq.2.cell 0;have a1:=hq.2.cell 1;have a2:=hq.2.cell 2;(simp only[zu,zt] at a0 a1 a2);go_simp;first|done|with_reducible rfl)
   (try simp only[Act.put,zk,zh,zi,ze,zm,zn])
   refine' wpI_take (i:=18) (v:=_) rfl (by kernel_rfl) (by kernel_rfl) (by kernel_rfl) (fun _ _ _ h=>h) (Or.inl ⟨by rfl,_⟩) _
   rotate_left
   ·(intro wq hq;have hcq:=(qal hq.1).1;(try simp only[zd,qaa] at hcq);have hkq:=qac.below hq.1;have a0:=hq.2.cell 0;have a1:=hq.2.cell 1;have a2:=hq.2.cell 2;(simp only[zu,zt] at a0 a1 a2);go_simp;first|done|with_reducible rfl)
   (try simp only[Act.put,zk,zh,zi,ze,zm,zn])
   refine' wpI_take (i:=19) (v:=_) rfl (by kernel_rfl) (by kernel_rfl) (by kernel_rfl) (fun _ _ _ h=>h) (Or.inl ⟨by rfl,_⟩) _
   rotate_left
   ·(intro wq hq;have hcq:=(qal hq.1).1;(try simp only[zd,qaa] at hcq);have hkq:=qac.below hq.1;have a0:=hq.2.cell 0;have a1:=hq.2.cell 1;have a2:=hq.2.cell 2;(simp only[zu,zt] at a0 a1 a2);go_simp;first|done|with_reducible rfl)
   (try simp only[Act.put,zk,zh,zi,ze,zm,zn])
   refine wpI_one (i:=20) (by kernel_rfl) rfl HI4.out (by rfl) (fun K hK => ?_);go_simp
   go_at_call 31
   refine(HD.out w3 w4 r x5 HI3.out.1 H4).mono ?_;rintro e w5 ⟨x7,rfl,H5⟩;have HI5:Hid (Below w2.heap.size w2 w5∧Blk w5 wr.heap.size 51 [.bool ad,.int .i64 q,.int .i64 m]):=hid ⟨HI3.out.1.trans (H5.out.2.mono HI3.out.1.size),HI3.out.2.keep H5.out.2⟩;have HJ5:=hid (HJ3.out.trans (H5.out.2.mono HJ3.out.size));refine hK _ _ ?_;clear hK K
   (try simp only[Act.put,zk,zh,zi,ze,zm,zn])
   (try simp only[qdz])
   refine wpI_one (i:=21) (by kernel_rfl) rfl HI5.out (by rfl) (fun K hK => ?_);go_simp;refine hK _ _ ?_;clear hK K
   (try simp only[Act.put,zk,zh,zi,ze,zm,zn])
   have hk2:k≤1048576:=by have:=Hl.out;have:=Hn.out;omega
   have HB6:Hid (Blk (w5.alloc (.cells #[.int .i64 (obI r),.bool (obM r),.slice x7.1 r.ix.length x7.2,.bool r.ind] 33)) w5.heap.size 33 (foundCs r x7)):=hid (Blk.new w5 33 (foundCs r x7));have HA6:Hid (Below w5.heap.size w5 (w5.alloc (.cells #[.int .i64 (obI r),.bool (obM r),.slice x7.1 r.ix.length x7.2,.bool r.ind] 33))):=hid ((zp _ _).alloc (zl _) _);have HI6:Hid (Below w2.heap.size w2 (w5.alloc (.cells #[.int .i64 (obI r),.bool (obM r),.slice x7.1 r.ix.length x7.2,.bool r.ind] 33))∧Blk (w5.alloc (.cells #[.int .i64 (obI r),.bool (obM r),.slice x7.1 r.ix.length x7.2,.bool r.ind] 33)) wr.heap.size 51 [.bool ad,.int .i64 q,.int .i64 m]):=hid ⟨HI5.out.1.trans (HA6.out.mono HI5.out.1.size),HI5.out.2.keep HA6.out⟩;have HJ6:Hid (Below wr.heap.size wr (w5.alloc (.cells #[.int .i64 (obI r),.bool (obM r),.slice x7.1 r.ix.length x7.2,.bool r.ind] 33))):=hid (HJ5.out.trans (HA6.out.mono HJ5.out.size));have HR6:Hid (World.ownsRow (w5.alloc (.cells #[.int .i64 (obI r),.bool (obM r),.slice x7.1 r.ix.length x7.2,.bool r.ind] 33)) 0 3 1 (.slice x7.1 r.ix.length x7.2) r.ix.length (qbh r.ix)):=hid (qab (S:=fun _=>False) H5.out.1 (qag.keep HA6.out) fun _ _ h=>h)
   generalize (w5.alloc (.cells #[.int .i64 (obI r),.bool (obM r),.slice x7.1 r.ix.length x7.2,.bool r.ind] 33))=w6 at HB6 HA6 HI6 HJ6 HR6 ⊢
   have HoA:Hid (w6.ownsRow 0 33 4 (.slice qa k qc) k xs):=hid (qab (S:=fun _=>False) Hst.out.2.1 (qag.keep HJ6.out) fun _ _ h=>h);refine wpI_one (i:=22) (by kernel_rfl) rfl HI6.out (by rfl) (fun K hK => ?_);refine wp_app (.tmp 24) (.tmp 45) 52 rfl 33 _ 4 48 Tryz.underlying52 Tryz.infoFo rfl (by decide) (.slice qa k qc) k xs rfl HoA.out ⟨w5.heap.size,0,none⟩ 1 1 (foundCs r x7) rfl rfl (fun j u hu => ?_) (by simp[foundCs,Value.oneCell']) (by unfold maxLen;omega) (by omega) (by decide) fun v' w9 hown' hgrow hloc => ?_
   ·rw[Addr.add_lit,HB6.out.cell,Nat.zero_add];exact hu
   obtain⟨ra',rc',rfl,-⟩:=qak hown';have HAp:Hid (qag (fun b=>(Value.slice qa k qc).ownBlock=some b) w6 w9):=hid (qag.grown hgrow fun b h _=>h);have HI9:Hid (Below w2.heap.size w2 w9∧Blk w9 wr.heap.size 51 [.bool ad,.int .i64 q,.int .i64 m]):=hid ⟨HI6.out.1.grown hgrow HI6.out.1.size Hst.out.2.2.2,HI6.out.2.apart HAp.out fun h=>absurd (Hst.out.2.1.lt _ h).2 (Nat.lt_irrefl _)⟩;have HF9:Hid (FsR w9 ((l.take (k+1)).map (akR W t)) (xs++foundCs r x7)):=hid (by
    rw[← List.take_append_getElem hkl,List.map_append,List.map_singleton,← HAl.out,← Hr.out];refine FsR.snoc ?_ (FsR.apart (S:=fun b=>(Value.slice qa k qc).ownBlock=some b) ((qag.keep HJ6.out).trans HAp.out) (fun g cs hb h => ?_) Hst.out.2.2.1)
    ·refine qab HR6.out HAp.out fun g hg h => ?_;obtain⟨cs,hb⟩:=qaf HR6.out hg;obtain⟨ds,hd⟩:=qaf HoA.out h;exact hb.tne hd (by decide) rfl
    ·obtain⟨ds,hd⟩:=qaf Hst.out.2.1 h;exact hb.tne hd (by decide) rfl)
   have HG9:Hid (∀ g,(Value.slice ra' (k+1) rc').ownBlock=some g→w2.heap.size≤g):=hid fun g hg=>by
    rcases hloc with e|e
    ·rw[e] at hg;exact Hst.out.2.2.2 g hg
    ·rw[e] at hg;cases hg;exact HI6.out.1.size
   have Ho9:=hid hown';clear hown' hgrow hloc;refine hK _ _ ?_;clear hK K
   (try simp only[Act.put,zk,zh,zi,ze,zm,zn])
   refine' wpI_take (i:=23) (v:=_) rfl (by kernel_rfl) (by kernel_rfl) (by kernel_rfl) (fun _ _ _ h=>h) (Or.inl ⟨by rfl,_⟩) _
   rotate_left
   ·(intro wq hq;have hcq:=(qal hq.1).1;(try simp only[zd,qaa] at hcq);have hkq:=qac.below hq.1;have a0:=hq.2.cell 0;have a1:=hq.2.cell 1;have a2:=hq.2.cell 2;(simp only[zu,zt] at a0 a1 a2);go_simp;first|done|with_reducible rfl)
   (try simp only[Act.put,zk,zh,zi,ze,zm,zn])
   refine wpI_done (by kernel_rfl) HI9.out ?_ _
   go_wp2_with fail
   go_roundw
   case rel=>exact⟨k+1,ra',rc',xs++foundCs r x7,hlt,by go_num,rfl,HI9.out.1.size,hid ⟨HI9.out.1,Ho9.out,HF9.out,HG9.out⟩⟩
   case measure=>simp[intOf];omega
  ·obtain rfl:k=n:=by omega
   go_wp2_with fail
   go_ret
   have hlen:(l.map (akR W t)).length=k:=by rw[List.length_map];exact Hn.out.symm
   refine⟨⟨qa,qc⟩,xs,(by rw[hlen];rfl),hid ?_⟩;rw[hlen];refine⟨Hst.out.2.1,?_,HBw.out.trans (Hst.out.1.mono HBw.out.size)⟩;have h:=Hst.out.2.2.1
   rwa [List.take_of_length_le (by have:=Hn.out;omega)] at h
