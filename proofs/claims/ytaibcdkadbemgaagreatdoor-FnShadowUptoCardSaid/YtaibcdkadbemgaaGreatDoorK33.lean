import Derived.Test.YtaibcdkadbemgaaGreatDoorK32
import Derived.Test.YtaibcdkadbemgaaGreatDoorK09
import Derived.Test.YtaibcdkadbemgaaGreatDoorK16
import Derived.Maps.RangeRun
set_option linter.all false
set_option maxHeartbeats 1000000
namespace Go.Proofs.YtaibcdkadbemgaaGreatDoor
open Go Go.RowKit
set_option maxRecDepth 100000
theorem Tryz.szNd:(Tryz.prog.info? 140).map (·.size)=some 10:=by kernel_rfl
theorem Tryz.szTn:(Tryz.prog.info? 144).map (·.size)=some 4:=by kernel_rfl
theorem Tryz.cmpN:(Tryz.prog.info? 97).map (·.comparable)=some true:=by kernel_rfl
structure qfw (w:World) (x y tx ty:Nat):Prop where
 bx:∃ cs,Blk w x 140 (.pointer none::ptrV tx::cs)
 by_:∃ cs,Blk w y 140 (.pointer none::ptrV ty::cs)
 btx:∃ cs,Blk w tx 144 cs
 bty:∃ cs,Blk w ty 144 cs
 iff:tx=ty↔x=y
theorem qk9 (x y tx ty:Nat) (w:World) (h:qfw w x y tx ty):Calls Tryz.prog 155 #[ptrV x,ptrV y] w (qa2 (.bool (x==y)) w):=by
 obtain⟨⟨cx,hx⟩,⟨cy,hy⟩,⟨dx,htx⟩,⟨dy,hty⟩,hi⟩:=h;have x1:=hx.cell 1;have y1:=hy.cell 1;simp only[zt,zs] at x1 y1;obtain⟨j,hj,hj2⟩:=zab.1 Tryz.szTn;have hq:∀ w':World,Below w.heap.size w w'→(binOp .eql 99 (ptrV tx) (ptrV ty)).run Tryz.prog w' = .ok (.bool (x==y)) w':=fun w' hb=>by
  by_cases e:x=y
  ·have e2:=hi.2 e;subst e2;rw[run_eql_ptr_same (P:=Tryz.prog) w' ⟨tx,0,none⟩ Tryz.underlying99 hj];simp[e]
  ·have e2:tx≠ty:=fun h=>e (hi.1 h);rw[run_eql_ptr_other (P:=Tryz.prog) w' (a:=⟨tx,0,none⟩) (b:=⟨ty,0,none⟩) Tryz.underlying99 hj (by rw[hj2];decide) (by first|(simp;done)|simpa using e2) (htx.keep hb) (hty.keep hb)];simp[e]
 have hq0:=hq w (zp _ _);have hq1:=fun n=>hq (w.drewN n) ⟨rfl,rfl,rfl,zl _,fun _ _=>rfl⟩
 generalize (x==y)=r at hq hq0 hq1 ⊢
 clear hx hy htx hty hi hq;go_enter Tryz.func155,Tryz.ntmps155
 go_wp2_with fail
 go_quiet (fail)
 go_wp2_with fail
 go_ret
 exact⟨rfl,⟨rfl,rfl,rfl,zl _,fun _ _=>rfl⟩⟩
theorem Tryz.zs273:(Tryz.prog.info? 156).map (·.zero)=some (some (.pointer none)):=by kernel_rfl
theorem Tryz.zsArr:(Tryz.prog.info? 300).map (·.zero)=some (some (.pointer none)):=by kernel_rfl
theorem Tryz.zsSl:(Tryz.prog.info? 147).map (·.zero)=some (some (.pointer none)):=by kernel_rfl
theorem Tryz.zsSt:(Tryz.prog.info? 153).map (·.zero)=some (some (.pointer none)):=by kernel_rfl
theorem Tryz.zsPt:(Tryz.prog.info? 145).map (·.zero)=some (some (.pointer none)):=by kernel_rfl
theorem Tryz.zsTu:(Tryz.prog.info? 197).map (·.zero)=some (some (.pointer none)):=by kernel_rfl
theorem Tryz.zsSg:(Tryz.prog.info? 162).map (·.zero)=some (some (.pointer none)):=by kernel_rfl
theorem Tryz.zsUn:(Tryz.prog.info? 271).map (·.zero)=some (some (.pointer none)):=by kernel_rfl
theorem Tryz.zsIf:(Tryz.prog.info? 111).map (·.zero)=some (some (.pointer none)):=by kernel_rfl
theorem Tryz.zsMp:(Tryz.prog.info? 311).map (·.zero)=some (some (.pointer none)):=by kernel_rfl
theorem Tryz.zsCh:(Tryz.prog.info? 315).map (·.zero)=some (some (.pointer none)):=by kernel_rfl
theorem qc9 (T U:TypeId) (a b:Value) (t:TypeId) (p q:Operand) (w:World):(eqGuard .eql t p q (.iface T a) (.iface U b)).run Tryz.prog w = .ok () w:=rfl
theorem qq1 (x y tx ty:Nat) (w:World) (h:qfw w x y tx ty):(binOp .eql 62 (.iface 97 (ptrV x)) (.iface 97 (ptrV y))).run Tryz.prog w = .ok (.bool (x==y)) w:=by
 obtain⟨j,hj,hj2⟩:=zab.1 Tryz.szNd;obtain⟨cn,hcn,hcn2⟩:=zab.1 Tryz.cmpN;obtain⟨⟨cx,hx⟩,⟨cy,hy⟩,-⟩:=h;by_cases e:x=y
 ·subst e;exact(qd2 w Tryz.underlying62 Tryz.underlying97 hj hcn hcn2 _).trans (by simp)
 ·exact(qdn w (a:=⟨x,0,none⟩) (b:=⟨y,0,none⟩) Tryz.underlying62 Tryz.underlying97 hj (by rw[hj2];decide) hcn hcn2 (fun h=>e (by cases h;rfl)) hx hy).trans (by simp[e])
theorem qkr (cp:Nat) (x y tx ty:Nat) (w:World) (h:qfw w x y tx ty) (hcp:w.cell? ⟨cp,1,none⟩=some (.bool false)) (p:Option Addr):Calls Tryz.prog 123 #[ptrV cp,.iface 97 (ptrV x),.iface 97 (ptrV y),.pointer p] w (qa2 (.bool (x==y)) w):=by
 have hx:=hid (qfl (.iface 97 (ptrV x)) ⟨_,_,rfl,by decide⟩ w);have hy:=hid (qfl (.iface 97 (ptrV y)) ⟨_,_,rfl,by decide⟩ w);have hn:=hid (qfg (.iface 97 (ptrV y)) ⟨y,0,none⟩ w ⟨⟨_,_,rfl,by decide⟩,.inl rfl⟩);have HO:=hid (qk9 x y tx ty w h);have he:=qq1 x y tx ty w h;have heg:=fun p q=>qc9 97 97 (ptrV x) (ptrV y) 62 p q w;have t1:=fun v w=>qaw (T:=97) Tryz.underlying156 Tryz.zs273 (by decide) v w;have t2:=fun v w=>qaw (T:=97) Tryz.underlying300 Tryz.zsArr (by decide) v w;have t3:=fun v w=>qaw (T:=97) Tryz.underlying147 Tryz.zsSl (by decide) v w;have t4:=fun v w=>qaw (T:=97) Tryz.underlying153 Tryz.zsSt (by decide) v w;have t5:=fun v w=>qaw (T:=97) Tryz.underlying145 Tryz.zsPt (by decide) v w;have t6:=fun v w=>qaw (T:=97) Tryz.underlying197 Tryz.zsTu (by decide) v w;have t7:=fun v w=>qaw (T:=97) Tryz.underlying162 Tryz.zsSg (by decide) v w;have t8:=fun v w=>qaw (T:=97) Tryz.underlying271 Tryz.zsUn (by decide) v w;have t9:=fun v w=>qaw (T:=97) Tryz.underlying111 Tryz.zsIf (by decide) v w;have t10:=fun v w=>qaw (T:=97) Tryz.underlying311 Tryz.zsMp (by decide) v w;have t11:=fun v w=>qaw (T:=97) Tryz.underlying315 Tryz.zsCh (by decide) v w;have t12:=fun v w=>qb5 Tryz.underlying97 v w;have hcl:=zj w _ hcp;clear h;cases hxy:(x==y) with
 | true=>
  rw[hxy] at he HO;clear hxy;have tok:True:=trivial;go_enter Tryz.func123,Tryz.ntmps123
  go_wp2_with (first
   | (go_at_call 84;have _t:=tok;clear _t tok;refine hx.out.mono ?_;rintro e w' ⟨rfl,rfl⟩)
   | (go_at_call 84;refine hy.out.mono ?_;rintro e w' ⟨rfl,rfl⟩))
  go_ret
  exact⟨rfl,zp _ _⟩
 | false=>
  rw[hxy] at he HO;clear hxy;have tok:True:=trivial;go_enter Tryz.func123,Tryz.ntmps123
  go_wp2_with (first
   | (go_at_call 84;have _t:=tok;clear _t tok;refine hx.out.mono ?_;rintro e w' ⟨rfl,rfl⟩)
   | (go_at_call 84;refine hy.out.mono ?_;rintro e w' ⟨rfl,rfl⟩)
   | (go_at_call 59;refine hn.out.mono ?_;rintro e w' ⟨rfl,rfl⟩)
   | (go_at_call 155;refine HO.out.mono ?_;rintro e w' ⟨rfl,hb⟩;have Hb:=hid hb;clear hb))
  go_ret
  exact⟨rfl,Hb.out⟩
end Go.Proofs.YtaibcdkadbemgaaGreatDoor
namespace Go.Proofs.YtaibcdkadbemgaaGreatDoor
open Go Go.RowKit
def qgx (w:World) (r:Nat) (L:List (Nat×Value)):Prop:=∃ es clock,w.heap[r]?=some (.map es clock)∧es.toList.map (fun e=>(e.key,e.val))=L.map fun x=>(Value.pointer (some ⟨x.1,0,none⟩),x.2)
theorem qgx.lt {w:World} {r:Nat} {L:List (Nat×Value)} (h:qgx w r L):r<w.heap.size:=by
 obtain⟨es,c,h,-⟩:=h;exact(z8.1 h).1
theorem qgx.apart {S:Nat→Prop} {w w':World} {r:Nat} {L:List (Nat×Value)} (h:qgx w r L) (ha:qag S w w') (hr:¬ S r):qgx w' r L:=by
 have hl:=h.lt;obtain⟨es,c,h,hL⟩:=h;exact⟨es,c,(ha.block r hl hr).trans h,hL⟩
theorem qgx.new (w:World) (c:Nat):qgx (w.alloc (.map #[] c)) w.heap.size []:=⟨#[],c,by show(w.heap.push _)[w.heap.size]?=_;exact Array.getElem?_push_size,rfl⟩
def getP (L:List (Nat×Value)) (k:Nat):Option Value:=(L.find? fun x=>x.1==k).map (·.2)
section
variable {P:Program} {t kt et:TypeId} {te:TypeId} {j:TypeInfo} {z:Value}
theorem qkl (w:World) (a:Addr) (hp:P.underlying kt=some (.pointer te)) (hte:P.info? te=some j):(Op.equal kt (.pointer (some a)) (.pointer (some a))).run P w = .ok true w:=by
 have h:∀ d:Nat,(Op.equalIn (d+1) kt (.pointer (some a)) (.pointer (some a))).run P w = .ok true w:=fun d=>by
  simp[Op.equalIn,run_underlying hp,sizeOf,typeInfo,hte,run_sameAddr_same]
 simp[Op.equal,Op.maxDepth,h 9999]
theorem qg0 (w:World) {f:Nat} {cf:Array Value} {tf:TypeId} (hp:P.underlying kt=some (.pointer te)) (hte:P.info? te=some j) (hsz:j.size≠0) (hf:w.heap[f]?=some (.cells cf tf (0,0))):
  ∀ (l:List MapEntry) (L:List (Nat×Value)) (i:Nat),l.map (fun e=>(e.key,e.val))=L.map (fun x=>(Value.pointer (some ⟨x.1,0,none⟩),x.2))→(∀ x∈L,∃ cg tg,w.heap[x.1]?=some (.cells cg tg (0,0)))→
   ∃ o,(Instr.findAsking kt (.pointer (some ⟨f,0,none⟩)) l i).run P w = .ok o w∧(getP L f=none∧o=none∨∃ v n,getP L f=some v∧o=some (n,v))
 | [],[],i,h,hg=>⟨none,by simp[Instr.findAsking],.inl ⟨rfl,rfl⟩⟩
 | [],x::L,i,h,hg=>by simp at h
 | e::l,[],i,h,hg=>by simp at h
 | e::l,(g,v)::L,i,h,hg=>by
  simp only[List.map_cons,List.cons.injEq,Prod.mk.injEq] at h;obtain⟨⟨h1,h2⟩,h3⟩:=h;by_cases hfg:f=g
  ·subst hfg;have q:=qkl (P:=P) w ⟨f,0,none⟩ hp hte;exact⟨some (i,v),by simp[Instr.findAsking,h1,q,h2],.inr ⟨v,i,by simp[getP],rfl⟩⟩
  ·obtain⟨cg,tg,hgb⟩:=hg _ (zy ..);have q:=qgf (P:=P) w (a:=⟨f,0,none⟩) (b:=⟨g,0,none⟩) hp hte hsz (by first|(simp;done)|simpa using hfg) hf hgb;obtain⟨o,r1,r2⟩:=qg0 w hp hte hsz hf l L (i+1) h3 fun x hx=>hg x (zx _ hx);have hgf:(g==f)=false:=by simp;exact fun e=>hfg e.symm
   refine⟨o,by simp[Instr.findAsking,h1,q,r1],?_⟩;simpa[getP,hgf] using r2
theorem qhv (w:World) (b:Bool) (f:Nat) (hp:P.underlying kt=some (.pointer te)):(Instr.checkKey b 10000 kt (.pointer (some ⟨f,0,none⟩))).run P w = .ok () w:=by
 have h0:∀ n,(Instr.checkKey b (n+1) kt (.pointer (some ⟨f,0,none⟩))).run P w = .ok () w:=fun n=>by simp[Instr.checkKey,run_underlying hp]
 exact h0 9999
theorem qkb (w:World) {f:Nat} {cf:Array Value} {tf:TypeId} (hp:P.underlying kt=some (.pointer te)) (hte:P.info? te=some j) (hsz:j.size≠0) (hf:w.heap[f]?=some (.cells cf tf (0,0))) (l:List MapEntry) (L:List (Nat×Value)) (h:l.map (fun e=>(e.key,e.val))=L.map (fun x=>(Value.pointer (some ⟨x.1,0,none⟩),x.2))) (hg:∀ x∈L,∃ cg tg,w.heap[x.1]?=some (.cells cg tg (0,0))):
  ∃ o,(Instr.findKey kt (.pointer (some ⟨f,0,none⟩)) l).run P w = .ok o w∧(getP L f=none∧o=none∨∃ v n,getP L f=some v∧o=some (n,v)):=by
 obtain⟨o,h2,h3⟩:=qg0 (P:=P) w hp hte hsz hf l L 0 h hg;refine⟨o,?_,h3⟩;unfold Instr.findKey;cases l with
 | nil=>
  have:o=none:=by simp[Instr.findAsking] at h2;exact h2.symm
  subst this;simp[run_underlying hp,Instr.findNow]
 | cons e l=>simp[run_underlying hp,Instr.findNow,Instr.sameNow,h2]
theorem qex (w:World) (ht:P.underlying t=some (.map kt et)) (hp:P.underlying kt=some (.pointer te)) (hte:P.info? te=some j) (hsz:j.size≠0) (hz:(P.info? et).map (·.zero)=some (some z)) {r:Nat} {L:List (Nat×Value)} (h:qgx w r L) (f:Nat)
  {cf:Array Value} {tf:TypeId} (hf:w.heap[f]?=some (.cells cf tf (0,0))) (hg:∀ x∈L,∃ cg tg,w.heap[x.1]?=some (.cells cg tg (0,0))):
  (Instr.lookup t (.map (some r)) (.pointer (some ⟨f,0,none⟩)) false).run P w = .ok ((getP L f).getD z) w:=by
 obtain⟨es,c,hb,hL⟩:=h;obtain⟨jj,hj,hz'⟩:=zab.1 hz;obtain⟨o,h2,⟨h1,rfl⟩|⟨v,n,h1,rfl⟩⟩:=qkb (P:=P) w hp hte hsz hf es.toList L hL hg
 ·simp[Instr.lookup,run_underlying ht,MapKept.run_getObj_map hb,qhv w _ f hp,h2,h1,Result.andThen,zeroValue,hj,hz',typeInfo]
 ·simp[Instr.lookup,run_underlying ht,MapKept.run_getObj_map hb,qhv w _ f hp,h2,h1,Result.andThen]
theorem qhh (w:World) (ht:P.underlying t=some (.map kt et)) (hp:P.underlying kt=some (.pointer te)) (hz:(P.info? et).map (·.zero)=some (some z)) (f:Nat):
  (Instr.lookup t (.map none) (.pointer (some ⟨f,0,none⟩)) false).run P w = .ok z w:=by
 obtain⟨jj,hj,hz'⟩:=zab.1 hz;simp[Instr.lookup,run_underlying ht,qhv w _ f hp,Instr.findKey,run_underlying hp,Instr.findNow,Result.andThen,zeroValue,hj,hz',typeInfo]
theorem qjo (w:World) (ht:P.underlying t=some (.map kt et)) (hp:P.underlying kt=some (.pointer te)) (hte:P.info? te=some j) (hsz:j.size≠0) {r:Nat} {L:List (Nat×Value)} (h:qgx w r L) (f:Nat) (v:Value) (hn:getP L f=none)
  {cf:Array Value} {tf:TypeId} (hf:w.heap[f]?=some (.cells cf tf (0,0))) (hg:∀ x∈L,∃ cg tg,w.heap[x.1]?=some (.cells cg tg (0,0))):
  ∃ w',(Instr.mapUpdate t (.map (some r)) (.pointer (some ⟨f,0,none⟩)) v).run P w = .ok () w'∧qgx w' r (L++[(f,v)])∧qah (fun b=>b=r) w w':=by
 obtain⟨es,c,hb,hL⟩:=h;obtain⟨o,h2,⟨h1,rfl⟩|⟨v',n,h1,rfl⟩⟩:=qkb (P:=P) w hp hte hsz hf es.toList L hL hg
 ·have hrun:(Instr.mapUpdate t (.map (some r)) (.pointer (some ⟨f,0,none⟩)) v).run P w = .ok () { w with heap:=w.heap.setIfInBounds r (.map (es.push { key := .pointer (some ⟨f,0,none⟩),val:=v,born:=c }) (c+1)) }:=by
   simp[Instr.mapUpdate,run_underlying ht,MapKept.run_getObj_map hb,qhv w _ f hp,h2,MapKept.run_setObj_map _ hb,Result.andThen]
  have hlt:r<w.heap.size:=(z8.1 hb).1;refine⟨_,hrun,⟨es.push { key := .pointer (some ⟨f,0,none⟩),val:=v,born:=c },c+1,by simp[hlt],?_⟩,⟨rfl,rfl,rfl,⟨by simp,fun b hb' hs => ?_⟩⟩⟩
  ·rw[Array.toList_push,List.map_append,hL,List.map_append];rfl
  ·simp only;rw[Array.getElem?_setIfInBounds,if_neg (fun e=>hs e.symm)]
 ·rw[hn] at h1;cases h1
theorem qep (w:World) {ops:Array Oper} {rest:List Oper} {o:Oper} {a:Act} {Q:Exit→Act→World→Prop} (hgd:o.guard=none) (m x v:Operand) (hop:o.op=Op.mapUpdate t m x v)
  (ht:P.underlying t=some (.map kt et)) (hp:P.underlying kt=some (.pointer te)) (hte:P.info? te=some j) (hsz:j.size≠0) {r:Nat} {L:List (Nat×Value)} (hm:a.eval m = .map (some r)) (h:qgx w r L) (f:Nat) (hx:a.eval x = .pointer (some ⟨f,0,none⟩)) (val:Value) (hv:a.eval v=val) (hn:getP L f=none)
  {cf:Array Value} {tf:TypeId} (hf:w.heap[f]?=some (.cells cf tf (0,0))) (hg:∀ x∈L,∃ cg tg,w.heap[x.1]?=some (.cells cg tg (0,0)))
  (hK:∀ w',qgx w' r (L++[(f,val)])→qah (fun b=>b=r) w w'→wpList P ops Q rest (a.put o.dst undef) w'):wpList P ops Q (o::rest) a w:=by
 refine wpList_plain hgd fun K' hK' => ?_;obtain⟨w',hrun,r1,r2⟩:=qjo (P:=P) w ht hp hte hsz h f val hn hf hg;unfold Oper.wp;simp[execOp,hop,hm,hx,hv,hrun,Result.andThen];exact hK' _ _ (hK w' r1 r2)
end
def KeyT (T:TypeId):Prop:=T=156∨T=145∨T=147∨T=153∨T=111∨T=97∨T=102
theorem Tryz.kyB:(Tryz.prog.info? 203).map (fun i=>i.size != 0)=some true∧(Tryz.prog.info? 156).map (·.comparable)=some true:=⟨by kernel_rfl,by kernel_rfl⟩
theorem Tryz.kyP:(Tryz.prog.info? 185).map (fun i=>i.size != 0)=some true∧(Tryz.prog.info? 145).map (·.comparable)=some true:=⟨by kernel_rfl,by kernel_rfl⟩
theorem Tryz.kyS:(Tryz.prog.info? 187).map (fun i=>i.size != 0)=some true∧(Tryz.prog.info? 147).map (·.comparable)=some true:=⟨by kernel_rfl,by kernel_rfl⟩
theorem Tryz.kySt:(Tryz.prog.info? 196).map (fun i=>i.size != 0)=some true∧(Tryz.prog.info? 153).map (·.comparable)=some true:=⟨by kernel_rfl,by kernel_rfl⟩
theorem Tryz.kyI:(Tryz.prog.info? 175).map (fun i=>i.size != 0)=some true∧(Tryz.prog.info? 111).map (·.comparable)=some true:=⟨by kernel_rfl,by kernel_rfl⟩
theorem Tryz.kyN:(Tryz.prog.info? 140).map (fun i=>i.size != 0)=some true∧(Tryz.prog.info? 97).map (·.comparable)=some true:=⟨by kernel_rfl,by kernel_rfl⟩
theorem Tryz.kyA:(Tryz.prog.info? 182).map (fun i=>i.size != 0)=some true∧(Tryz.prog.info? 102).map (·.comparable)=some true:=⟨by kernel_rfl,by kernel_rfl⟩
theorem qos {T:TypeId} (h:KeyT T):∃ te j i,Tryz.prog.underlying T=some (.pointer te)∧Tryz.prog.info? te=some j∧j.size≠0∧Tryz.prog.info? T=some i∧i.comparable=true:=by
 have key:∀ {te:TypeId},Tryz.prog.underlying T=some (.pointer te)→((Tryz.prog.info? te).map (fun i=>i.size != 0)=some true∧(Tryz.prog.info? T).map (·.comparable)=some true)→∃ te j i,Tryz.prog.underlying T=some (.pointer te)∧Tryz.prog.info? te=some j∧j.size≠0∧Tryz.prog.info? T=some i∧i.comparable=true:=fun hu h=>by
  obtain⟨j,h1,h2⟩:=zab.1 h.1;obtain⟨i,h3,h4⟩:=zab.1 h.2;exact⟨_,j,i,hu,h1,by simpa using h2,h3,h4⟩
 rcases h with rfl|rfl|rfl|rfl|rfl|rfl|rfl
 ·exact key Tryz.underlying156 Tryz.kyB
 ·exact key Tryz.underlying145 Tryz.kyP
 ·exact key Tryz.underlying147 Tryz.kyS
 ·exact key Tryz.underlying153 Tryz.kySt
 ·exact key Tryz.underlying111 Tryz.kyI
 ·exact key Tryz.underlying97 Tryz.kyN
 ·exact key Tryz.underlying102 Tryz.kyA
abbrev tyV (x:TypeId×Nat):Value := .iface x.1 (ptrV x.2)
structure TyIn (w:World) (x:TypeId×Nat):Prop where
 key:KeyT x.1
 blk:∃ U cs,Blk w x.2 U cs
theorem TyIn.keep {w w':World} {x:TypeId×Nat} (h:TyIn w x) (hb:Below w.heap.size w w'):TyIn w' x:=by
 obtain⟨U,cs,h1⟩:=h.blk;exact⟨h.key,U,cs,h1.keep hb⟩
theorem qiy (w:World) (x y:TypeId×Nat) (hx:TyIn w x) (hy:TyIn w y):(Op.equal 62 (tyV x) (tyV y)).run Tryz.prog w = .ok (x==y) w:=by
 obtain⟨T,b⟩:=x;obtain⟨U,c⟩:=y;have hI:∃ m,Tryz.prog.underlying 62=some (.interface m):=⟨_,Tryz.underlying62⟩;obtain⟨m,hm⟩:=hI;by_cases hTU:T=U
 ·subst hTU;obtain⟨te,j,i,h1,h2,h3,h4,h5⟩:=qos hx.key;have hcore:∀ r:Bool,(∀ d:Nat,(Op.equalIn (d+1) T (ptrV b) (ptrV c)).run Tryz.prog w = .ok r w)→(Op.equal 62 (tyV (T,b)) (tyV (T,c))).run Tryz.prog w = .ok r w:=fun r hr=>by
   have h':∀ d:Nat,(Op.equalIn (d+2) 62 (.iface T (ptrV b)) (.iface T (ptrV c))).run Tryz.prog w = .ok r w:=fun d=>by
    rw[show d+2=(d+1)+1 from rfl]
    conv=>lhs;unfold Op.equalIn
    simp[run_underlying hm,hr,typeInfo,h4,h5]
   simp[Op.equal,Op.maxDepth,h' 9998]
  by_cases hbc:b=c
  ·subst hbc;have:=hcore true fun d=>by simp[Op.equalIn,run_underlying h1,sizeOf,typeInfo,h2,run_sameAddr_same]
   simpa using this
  ·obtain⟨U1,c1,k1⟩:=hx.blk;obtain⟨U2,c2,k2⟩:=hy.blk;have hne:(⟨b,0,none⟩:Addr)≠⟨c,0,none⟩:=fun e=>hbc (by cases e;rfl);have:=hcore false fun d=>by simp[Op.equalIn,run_underlying h1,sizeOf,typeInfo,h2,h3,run_sameAddr_other w hne k1 k2]
   have e:((T,b)==(T,c))=false:=by simp[hbc]
   rw[e];exact this
 ·have h':∀ d:Nat,(Op.equalIn (d+1) 62 (.iface T (ptrV b)) (.iface U (ptrV c))).run Tryz.prog w = .ok false w:=fun d=>by
   simp[Op.equalIn,run_underlying hm,hTU]
  have e:((T,b)==(U,c))=false:=by simp[hTU]
  rw[e];simp[Op.equal,Op.maxDepth,h' 9999]
structure IMap (w:World) (r:Nat) (L:List ((TypeId×Nat)×Nat)):Prop where
 ex:∃ es clock,w.heap[r]?=some (.map es clock)∧es.toList.map (fun e=>(e.key,e.val))=L.map (fun x=>(tyV x.1,Value.int .i64 x.2))∧(∀ e∈es.toList,e.born<clock)∧(es.toList.map (·.born)).Nodup
theorem IMap.lt {w:World} {r:Nat} {L:List ((TypeId×Nat)×Nat)} (h:IMap w r L):r<w.heap.size:=by
 obtain⟨es,c,h,-⟩:=h.ex;exact(z8.1 h).1
theorem IMap.apart {S:Nat→Prop} {w w':World} {r:Nat} {L:List ((TypeId×Nat)×Nat)} (h:IMap w r L) (ha:qag S w w') (hr:¬ S r):IMap w' r L:=by
 have hl:=h.lt;obtain⟨es,c,h,hL⟩:=h.ex;exact⟨es,c,(ha.block r hl hr).trans h,hL⟩
theorem IMap.new (w:World) (c:Nat):IMap (w.alloc (.map #[] c)) w.heap.size []:=⟨#[],c,by show(w.heap.push _)[w.heap.size]?=_;exact Array.getElem?_push_size,rfl,fun e h=>by simp at h,List.nodup_nil⟩
def getT (L:List ((TypeId×Nat)×Nat)) (k:TypeId×Nat):Option Nat:=(L.find? fun x=>x.1==k).map (·.2)
theorem qhw (w:World) (k:TypeId×Nat) (hk:TyIn w k):∀ (l:List MapEntry) (L:List ((TypeId×Nat)×Nat)) (i:Nat),l.map (fun e=>(e.key,e.val))=L.map (fun x=>(tyV x.1,Value.int .i64 x.2))→(∀ x∈L,TyIn w x.1)→
   ∃ o,(Instr.findAsking 62 (tyV k) l i).run Tryz.prog w = .ok o w∧(getT L k=none∧o=none∨∃ v n,getT L k=some v∧o=some (n,.int .i64 v))
 | [],[],i,h,hg=>⟨none,by simp[Instr.findAsking],.inl ⟨rfl,rfl⟩⟩
 | [],x::L,i,h,hg=>by simp at h
 | e::l,[],i,h,hg=>by simp at h
 | e::l,(g,v)::L,i,h,hg=>by
  simp only[List.map_cons,List.cons.injEq,Prod.mk.injEq] at h;obtain⟨⟨h1,h2⟩,h3⟩:=h;have q:=qiy w k g hk (hg _ (zy ..));by_cases hfg:k=g
  ·subst hfg;simp only[BEq.rfl] at q;exact⟨some (i,.int .i64 v),by simp[Instr.findAsking,h1,q,h2],.inr ⟨v,i,by simp[getT],rfl⟩⟩
  ·have e1:(k==g)=false:=by simpa using hfg
   rw[e1] at q;obtain⟨o,r1,r2⟩:=qhw w k hk l L (i+1) h3 fun x hx=>hg x (zx _ hx);have hgf:(g==k)=false:=by simp;exact fun e=>hfg e.symm
   refine⟨o,by simp[Instr.findAsking,h1,q,r1],?_⟩;simpa[getT,hgf] using r2
theorem ql7 (w:World) (b:Bool) (k:TypeId×Nat) (hk:TyIn w k):(Instr.checkKey b 10000 62 (tyV k)).run Tryz.prog w = .ok () w:=by
 obtain⟨te,j,i,h1,h2,h3,h4,h5⟩:=qos hk.key;have hI:∃ m,Tryz.prog.underlying 62=some (.interface m):=⟨_,Tryz.underlying62⟩;obtain⟨m,hm⟩:=hI;have h0:∀ n,(Instr.checkKey b (n+1) k.1 (ptrV k.2)).run Tryz.prog w = .ok () w:=fun n=>by simp[Instr.checkKey,run_underlying h1]
 have h':∀ n,(Instr.checkKey b (n+2) 62 (tyV k)).run Tryz.prog w = .ok () w:=fun n=>by
  rw[show n+2=(n+1)+1 from rfl]
  conv=>lhs;unfold Instr.checkKey
  simp[run_underlying hm,typeInfo,h4,h5,h0]
 exact h' 9998
theorem qlx (w:World) (k:TypeId×Nat) (hk:TyIn w k) (l:List MapEntry) (L:List ((TypeId×Nat)×Nat)) (h:l.map (fun e=>(e.key,e.val))=L.map (fun x=>(tyV x.1,Value.int .i64 x.2))) (hg:∀ x∈L,TyIn w x.1):
  ∃ o,(Instr.findKey 62 (tyV k) l).run Tryz.prog w = .ok o w∧(getT L k=none∧o=none∨∃ v n,getT L k=some v∧o=some (n,.int .i64 v)):=by
 obtain⟨o,h2,h3⟩:=qhw w k hk l L 0 h hg;have hI:∃ m,Tryz.prog.underlying 62=some (.interface m):=⟨_,Tryz.underlying62⟩;obtain⟨m,hm⟩:=hI;refine⟨o,?_,h3⟩;unfold Instr.findKey;cases l with
 | nil=>
  have:o=none:=by simp[Instr.findAsking] at h2;exact h2.symm
  subst this;simp[run_underlying hm,Instr.findNow]
 | cons e l=>simp[run_underlying hm,Instr.findNow,Instr.sameNow,h2]
theorem Tryz.ziInt:(Tryz.prog.info? 3).map (·.zero)=some (some (.int .i64 0)):=by kernel_rfl
def lkT (o:Option Nat):Value := .tuple #[.int .i64 (o.getD 0:Nat),.bool o.isSome]
theorem qmy (w:World) {r:Nat} {L:List ((TypeId×Nat)×Nat)} (h:IMap w r L) (k:TypeId×Nat) (hk:TyIn w k) (hg:∀ x∈L,TyIn w x.1):
  (Instr.lookup 284 (.map (some r)) (tyV k) true).run Tryz.prog w = .ok (lkT (getT L k)) w:=by
 obtain⟨es,c,hb,hL,-⟩:=h.ex;obtain⟨jj,hj,hz'⟩:=zab.1 Tryz.ziInt;obtain⟨o,h2,⟨h1,rfl⟩|⟨v,n,h1,rfl⟩⟩:=qlx w k hk es.toList L hL hg
 ·simp[Instr.lookup,run_underlying Tryz.underlying284,MapKept.run_getObj_map hb,ql7 w _ k hk,h2,h1,Result.andThen,zeroValue,hj,hz',typeInfo,lkT]
 ·simp[Instr.lookup,run_underlying Tryz.underlying284,MapKept.run_getObj_map hb,ql7 w _ k hk,h2,h1,Result.andThen,lkT]
theorem qm7 (w:World) {r:Nat} {L:List ((TypeId×Nat)×Nat)} (h:IMap w r L) (k:TypeId×Nat) (v:Nat) (hn:getT L k=none) (hk:TyIn w k) (hg:∀ x∈L,TyIn w x.1):
  ∃ w',(Instr.mapUpdate 284 (.map (some r)) (tyV k) (.int .i64 v)).run Tryz.prog w = .ok () w'∧IMap w' r (L++[(k,v)])∧qah (fun b=>b=r) w w':=by
 obtain⟨es,c,hb,hL,hbo,hnd⟩:=h.ex;obtain⟨o,h2,⟨h1,rfl⟩|⟨v',n,h1,rfl⟩⟩:=qlx w k hk es.toList L hL hg
 ·have hrun:(Instr.mapUpdate 284 (.map (some r)) (tyV k) (.int .i64 v)).run Tryz.prog w = .ok () { w with heap:=w.heap.setIfInBounds r (.map (es.push { key:=tyV k,val := .int .i64 v,born:=c }) (c+1)) }:=by
   simp[Instr.mapUpdate,run_underlying Tryz.underlying284,MapKept.run_getObj_map hb,ql7 w _ k hk,h2,MapKept.run_setObj_map _ hb,Result.andThen]
  have hlt:r<w.heap.size:=(z8.1 hb).1;refine⟨_,hrun,⟨es.push { key:=tyV k,val := .int .i64 v,born:=c },c+1,by simp[hlt],?_,?_,?_⟩,⟨rfl,rfl,rfl,⟨by simp,fun b hb' hs => ?_⟩⟩⟩
  ·rw[Array.toList_push,List.map_append,hL,List.map_append];rfl
  ·intro e he;rw[Array.toList_push] at he;rcases zhb.1 he with he|he
   ·have:=hbo e he;omega
   ·rw[zeb.1 he];exact zv c
  ·rw[Array.toList_push,List.map_append,List.nodup_append];refine⟨hnd,by simp,fun a ha b hb2 => ?_⟩;obtain⟨e,he,rfl⟩:=zjb.1 ha;simp only[List.map_cons,List.map_nil,zeb] at hb2;have:=hbo e he;omega
  ·simp only;rw[Array.getElem?_setIfInBounds,if_neg (fun e=>hs e.symm)]
 ·rw[hn] at h1;cases h1
section
variable {P:Program}
theorem qi5 (w:World) {ops:Array Oper} {rest:List Oper} {o:Oper} {a:Act} {Q:Exit→Act→World→Prop} (hgd:o.guard=none) (m x v:Operand) (hop:o.op=Op.mapUpdate 284 m x v)
  {r:Nat} {L:List ((TypeId×Nat)×Nat)} (hm:a.eval m = .map (some r)) (h:IMap w r L) (k:TypeId×Nat) (hx:a.eval x=tyV k) (val:Nat) (hv:a.eval v = .int .i64 val) (hn:getT L k=none) (hk:TyIn w k) (hg:∀ x∈L,TyIn w x.1)
  (hK:∀ w',IMap w' r (L++[(k,val)])→qah (fun b=>b=r) w w'→wpList Tryz.prog ops Q rest (a.put o.dst undef) w'):wpList Tryz.prog ops Q (o::rest) a w:=by
 refine wpList_plain hgd fun K' hK' => ?_;obtain⟨w',hrun,r1,r2⟩:=qm7 w h k val hn hk hg;unfold Oper.wp;simp[execOp,hop,hm,hx,hv,hrun,Result.andThen];exact hK' _ _ (hK w' r1 r2)
end
