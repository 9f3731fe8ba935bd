import Derived.Test.YtmfhclggkjjcdaaGreatDoorL03
import Derived.OwnWalk
set_option linter.all false
set_option maxHeartbeats 2000000
namespace Go.Proofs.YtmfhclggkjjcdaaGreatDoor
open Go Go.RowKit
structure qag (S:Nat→Prop) (w w':World):Prop where
 size:w.heap.size≤w'.heap.size
 block:∀ b,b<w.heap.size→¬ S b→w'.heap[b]?=w.heap[b]?
theorem qag.refl (S:Nat→Prop) (w:World):qag S w w:=⟨zl _,fun _ _ _=>rfl⟩
theorem qag.trans {S:Nat→Prop} {a b c:World} (h:qag S a b) (k:qag S b c):qag S a c:=
 ⟨Nat.le_trans h.size k.size,fun i hi hs=>(k.block i (Nat.lt_of_lt_of_le hi h.size) hs).trans (h.block i hi hs)⟩
theorem qag.mono {S S':Nat→Prop} {w w':World} (h:qag S w w') (hs:∀ b,b<w.heap.size→S b→S' b):qag S' w w':=
 ⟨h.size,fun b hb hn=>h.block b hb fun hS=>hn (hs b hb hS)⟩
theorem qag.below {B:Nat} {w w':World} (h:Below B w w'):qag (fun b=>B≤b) w w':=⟨h.size,fun b _ hn=>h.block b (by omega)⟩
theorem qag.keep {S:Nat→Prop} {w w':World} (h:Below w.heap.size w w'):qag S w w':=⟨h.size,fun b hb _=>h.block b hb⟩
theorem qag.setCell (S:Nat→Prop) (w:World) {a:Addr} (ha:S a.block) (v:Value):qag S w (w.setCell a v):=
 ⟨by simp[World.setCell],fun b hb hn=>Below.heap_setCell _ _ _ _ fun e=>hn (e ▸ ha)⟩
theorem qag.grown {S:Nat→Prop} {w w':World} {row:Option Nat} (h:w.grownBy w' row) (hr:∀ b,row=some b→b<w.heap.size→S b):qag S w w':=
 ⟨h.size,fun b hb hn=>h.block b hb fun e=>hn (hr b e.symm hb)⟩
open Classical in
noncomputable def hide (S:Nat→Prop) (w:World):World:={ w with heap:=w.heap.mapIdx fun i o=>if S i then .cells #[] 0 else o }
theorem qh7 {S:Nat→Prop} {w:World} {ad:Addr} {v:Value}:(hide S w).cell? ad=some v↔¬ S ad.block∧w.cell? ad=some v:=by
 unfold hide World.cell?;simp only[Array.getElem?_mapIdx];cases h:w.heap[ad.block]? with
 | none=>simp
 | some o=>
  by_cases hs:S ad.block
  ·simp[hs]
  ·simp[hs]
theorem qac.show(S:Nat→Prop) (w:World):qac (hide S w) w:=fun ad v h=>(qh7.1 h).2
theorem qac.hide {S S':Nat→Prop} {w w':World} (h:qag S w w') (hs:∀ b,b<w.heap.size→S' b→S b):qac (hide S w) (hide S' w'):=fun ad v hc=>by
 obtain⟨hn,hv⟩:=qh7.1 hc;have hlt:=zj w ad hv;refine qh7.2 ⟨fun hS=>hn (hs _ hlt hS),?_⟩;rw[← hv];exact zlb (h.block _ hlt hn)
theorem qat.hide {S:Nat→Prop} {w:World} {b o:Nat} {cs:List Value} (h:qat w b o cs) (hb:¬ S b):qat (hide S w) b o cs:=fun j v hv=>qh7.2 ⟨hb,h j v hv⟩
section
variable {P:Program} (w:World)
theorem qo6 (t ty e:TypeId) (i:TypeInfo) (z:Value) (size bytes:Nat) (ht:P.underlying t=some (.slice e)) (hi:P.info? e=some i) (hz:i.zero=some z)
  (hsize:i.size=size) (hby:i.bytes=bytes) (hzs:z.cells.size=size) (hsz:0<size)
  (v:Value) (n:Nat) (xs:List Value) (hown:w.ownsRow 0 e size v n xs)
  (a:Addr) (m c:Nat) (news:List Value) (hl:news.length=m * size) (hnews:∀ j u,news[j]?=some u→w.cell? (a.add j)=some u) (h1:∀ u∈news,u.oneCell'=true)
  (h63:n+m≤maxLen) (hbytes:(n+m) * bytes≤140737488355328) (hm:0<m):
  ∃ v' w',(Builtin.append_ #[t,t] ty #[v,.slice (some a) m c]).run P w = .ok v' w'∧w'.ownsRow 0 e size v' (n+m) (xs++news)∧w.grownBy w' v.ownBlock∧
   (v'.ownBlock=v.ownBlock∨v'.ownBlock=some w.heap.size):=by
 obtain⟨v',w',hr,h2,h3,-⟩:=run_append_own (P:=P) w 0 t ty e i z size bytes ht hi hz hsize hby hzs hsz v n xs hown a m c news hl hnews h1 h63 hbytes (Nat.zero_le _);refine⟨v',w',hr,h2,h3,?_⟩;subst hsize hby;have h63':n+m≤9223372036854775807:=by simp only[maxLen] at h63;omega
 rcases hown.2 with ⟨rfl,rfl⟩|⟨g,cap,cur,rfl,-,hg,hnc,hcm,hcs,htake⟩
 ·have e:=run_append_nil (P:=P) w t ty e i z ht hi hz a m c news hl hnews hm (by omega) (by have hb:=hbytes;simp only[Nat.zero_add] at hb;omega);rw[hr] at e;injection e with e1 e2;right;rw[e1];rfl
 ·by_cases hroom:n+m≤cap
  ·have hfit:n * i.size+news.length≤cur.size:=by rw[hl,hcs,← Nat.add_mul];exact Nat.mul_le_mul_right _ hroom
   have e:=run_append_room (P:=P) w t ty e i ht hi g n cap cur hg a m c news hl hnews h1 hroom hfit;rw[hr] at e;injection e with e1 e2;left;rw[e1];rfl
  ·have holds:∀ j u,xs[j]?=some u→w.cell? ((⟨g,0,none⟩:Addr).add j)=some u:=hown.cells (g:=g) rfl;have e:=run_append_grow (P:=P) w t ty e i z ht hi hz ⟨g,0,none⟩ n cap xs hown.1 holds a m c news hl hnews (by omega) (by omega) (growslice_fits (by omega) hbytes);rw[hr] at e;injection e with e1 e2;right;rw[e1];rfl
theorem qb2 {ops:Array Oper} {rest:List Oper} {o:Oper} {a:Act} {Q:Exit→Act→World→Prop} (hgd:o.guard=none) (s x:Operand) (t:TypeId)
  (ho:o.op = .call { callee := .builtin .append,args:=#[s,x],argTypes:=#[t,t] })
  (e:TypeId) (i:TypeInfo) (z:Value) (size bytes:Nat) (ht:P.underlying t=some (.slice e)) (hi:P.info? e=some i) (hz:i.zero=some z)
  (hsize:i.size=size) (hby:i.bytes=bytes) (hzs:z.cells.size=size) (hsz:0<size)
  (v:Value) (n:Nat) (xs:List Value) (hs:a.eval s=v) (hown:w.ownsRow 0 e size v n xs)
  (ad:Addr) (m c:Nat) (news:List Value) (hx:a.eval x = .slice (some ad) m c) (hl:news.length=m * size) (hnews:∀ j u,news[j]?=some u→w.cell? (ad.add j)=some u) (h1:∀ u∈news,u.oneCell'=true)
  (h63:n+m≤maxLen) (hbytes:(n+m) * bytes≤140737488355328) (hm:0<m)
  (h:∀ v' w',w'.ownsRow 0 e size v' (n+m) (xs++news)→w.grownBy w' v.ownBlock→(v'.ownBlock=v.ownBlock∨v'.ownBlock=some w.heap.size)→wpList P ops Q rest (a.put o.dst v') w'):wpList P ops Q (o::rest) a w:=by
 refine wpList_plain hgd fun _ hK => ?_;obtain⟨v',w',hr,h2,h3,h4⟩:=qo6 (P:=P) w t o.type e i z size bytes ht hi hz hsize hby hzs hsz v n xs hown ad m c news hl hnews h1 h63 hbytes hm;unfold Oper.wp execOp;simp only[ho,resolve,invoke,builtin,Sem.run_bind,Sem.run_pure,Result.andThen_ok,List.map_toArray,List.map_cons,List.map_nil,hs,hx,hr];exact hK _ _ (h v' w' h2 h3 h4)
end
theorem qak {w:World} {e:TypeId} {size n:Nat} {v:Value} {xs:List Value} (h:w.ownsRow 0 e size v n xs):
  ∃ a c,v = .slice a n c∧n≤c∧(∀ ad,a=some ad→∃ g,ad=⟨g,0,none⟩∧g<w.heap.size∧v.ownBlock=some g∧qat w g 0 xs)∧(a=none→n=0∧v.ownBlock=none):=by
 obtain⟨hl,⟨rfl,rfl⟩|⟨g,cap,cur,rfl,-,hg,hnc,-,hcs,htake⟩⟩:=h
 ·exact⟨none,0,rfl,zl _,(fun ad h=>by cases h),fun _=>⟨rfl,rfl⟩⟩
 ·refine⟨_,cap,rfl,hnc,fun ad h => ?_,fun h=>by cases h⟩;cases h;refine⟨g,rfl,(zab.1 hg).1,rfl,fun j v hv => ?_⟩;subst htake;rw[Nat.zero_add];simp only[World.cell?,hg];rw[List.getElem?_take] at hv;split at hv
  ·simpa using hv
  ·cases hv
theorem qab {S:Nat→Prop} {w w':World} {e:TypeId} {size n:Nat} {v:Value} {xs:List Value} (h:w.ownsRow 0 e size v n xs) (ha:qag S w w') (hs:∀ g,v.ownBlock=some g→¬ S g):w'.ownsRow 0 e size v n xs:=by
 obtain⟨hl,⟨rfl,rfl⟩|⟨g,cap,cur,rfl,h0,hg,hr⟩⟩:=h
 ·exact⟨hl,.inl ⟨rfl,rfl⟩⟩
 ·exact⟨hl,.inr ⟨g,cap,cur,rfl,h0,(ha.block g (zab.1 hg).1 (hs g rfl)).trans hg,hr⟩⟩
theorem row_ {w w':World} {e:TypeId} {size n:Nat} {v:Value} {xs:List Value} (h:w.ownsRow 0 e size v n xs) (hb:Below w.heap.size w w'):Hid (w'.ownsRow 0 e size v n xs):=qab (S:=fun _=>False) h (qag.keep hb) fun _ _ h=>h
theorem bel_ {w0 w w':World} (H:Hid (Below w0.heap.size w0 w)) (h:Below w.heap.size w w'):Hid (Below w0.heap.size w0 w'):=H.out.trans (h.mono H.out.size)
def TysX (w:World):List Ty→List Value→Prop
 | [],xs=>xs=[]
 | t::r,xs=>∃ cs ys,xs=cs++ys∧TyC w t cs∧TysX w r ys
def FdsX (w:World):List Fd→List Value→Prop
 | [],xs=>xs=[]
 | f::r,xs=>∃ cs ys,xs=(.int .i64 f.name :: .bool f.embedded::cs)++ys∧i64 f.name∧TyC w f.of cs∧FdsX w r ys
def MsX:List Meth→List Value→Prop
 | [],xs=>xs=[]
 | m::r,xs=>∃ ys,xs=[.int .i64 m.name,.bool m.ptr]++ys∧i64 m.name∧MsX r ys
theorem TysX.snoc {w:World} {t:Ty} {cs:List Value} (ht:TyC w t cs):∀ {l:List Ty} {xs:List Value},TysX w l xs→TysX w (l++[t]) (xs++cs)
 | [],xs,h=>by simp only[TysX] at h;subst h;exact⟨cs,[],by simp,ht,rfl⟩
 | u::r,xs,⟨cs',ys,e,h1,h2⟩=>by subst e;exact⟨cs',ys++cs,by simp,h1,TysX.snoc ht h2⟩
theorem FdsX.snoc {w:World} {f:Fd} {cs:List Value} (hi:i64 f.name) (ht:TyC w f.of cs):∀ {l:List Fd} {xs:List Value},FdsX w l xs→FdsX w (l++[f]) (xs++(.int .i64 f.name :: .bool f.embedded::cs))
 | [],xs,h=>by simp only[FdsX] at h;subst h;exact⟨cs,[],by simp,hi,ht,rfl⟩
 | u::r,xs,⟨cs',ys,e,h0,h1,h2⟩=>by subst e;exact⟨cs',ys++(.int .i64 f.name :: .bool f.embedded::cs),by simp,h0,h1,FdsX.snoc hi ht h2⟩
theorem MsX.snoc {m:Meth} (hi:i64 m.name):∀ {l:List Meth} {xs:List Value},MsX l xs→MsX (l++[m]) (xs++[.int .i64 m.name,.bool m.ptr])
 | [],xs,h=>by simp only[MsX] at h;subst h;exact⟨[],by simp,hi,rfl⟩
 | u::r,xs,⟨ys,e,h0,h2⟩=>by subst e;exact⟨ys++[.int .i64 m.name,.bool m.ptr],by simp,h0,MsX.snoc hi h2⟩
theorem TysX.keep {w W:World} (k:qac w W):∀ {l:List Ty} {xs:List Value},TysX w l xs→TysX W l xs
 | [],xs,h=>h
 | u::r,xs,⟨cs',ys,e,h1,h2⟩=>⟨cs',ys,e,TyC.keep k h1,TysX.keep k h2⟩
theorem FdsX.keep {w W:World} (k:qac w W):∀ {l:List Fd} {xs:List Value},FdsX w l xs→FdsX W l xs
 | [],xs,h=>h
 | u::r,xs,⟨cs',ys,e,h0,h1,h2⟩=>⟨cs',ys,e,h0,TyC.keep k h1,FdsX.keep k h2⟩
theorem TyC.len {w:World} {t:Ty} {cs:List Value} (h:TyC w t cs):cs.length=6:=by
 obtain⟨x1,d1,x2,d2,x3,d3,x4,d4,rfl,-⟩:=h.open;rfl
theorem qat.split {w:World} {b o:Nat} {cs ys:List Value} (h:qat w b o (cs++ys)):qat w b o cs∧qat w b (o+cs.length) ys:=by
 refine⟨fun j v hv=>h j v ?_,fun j v hv => ?_⟩
 ·rw[List.getElem?_append_left (zjb.1 hv).1];exact hv
 ·have:=h (cs.length+j) v (by rw[List.getElem?_append_right (by omega),show cs.length+j - cs.length=j by omega];exact hv);rw[Nat.add_assoc];exact this
theorem TysX.row {w:World} {a:Option Addr}:∀ {l:List Ty} {xs:List Value} (i:Nat),TysX w l xs→(l≠[]→∃ g,a=some ⟨g,0,none⟩∧qat w g (0+i * 6) xs)→TysR w a i l
 | [],xs,i,h,hc=>by simp[TysR]
 | u::r,xs,i,⟨cs,ys,e,h1,h2⟩,hc=>by
  obtain⟨g,ha,hg⟩:=hc (by simp);subst e;obtain⟨hs1,hs2⟩:=hg.split;simp only[TysR];refine⟨⟨g,0,cs,ha,hs1,h1⟩,TysX.row (i+1) h2 fun _=>⟨g,ha,?_⟩⟩;rw[h1.len] at hs2;have e:0+(i+1) * 6=0+i * 6+6:=by omega
  rw[e];exact hs2
theorem FdsX.row {w:World} {a:Option Addr}:∀ {l:List Fd} {xs:List Value} (i:Nat),FdsX w l xs→(l≠[]→∃ g,a=some ⟨g,0,none⟩∧qat w g (0+i * 8) xs)→FdsR w a i l
 | [],xs,i,h,hc=>by simp[FdsR]
 | .mk n em t::r,xs,i,⟨cs,ys,e,h0,h1,h2⟩,hc=>by
  obtain⟨g,ha,hg⟩:=hc (by simp);subst e;obtain⟨hs1,hs2⟩:=hg.split;simp only[FdsR,FdE];refine⟨⟨g,0,cs,ha,h0,hs1,h1⟩,FdsX.row (i+1) h2 fun _=>⟨g,ha,?_⟩⟩;simp only[List.length_cons,h1.len] at hs2;have e:0+(i+1) * 8=0+i * 8+(6+1+1):=by omega
  rw[e];exact hs2
theorem MsX.row {w:World} {a:Option Addr}:∀ {l:List Meth} {xs:List Value} (i:Nat),MsX l xs→(l≠[]→∃ g,a=some ⟨g,0,none⟩∧qat w g (0+i * 2) xs)→MsR w a i l
 | [],xs,i,h,hc=>by simp[MsR]
 | m::r,xs,i,⟨ys,e,h0,h2⟩,hc=>by
  obtain⟨g,ha,hg⟩:=hc (by simp);subst e;obtain⟨hs1,hs2⟩:=hg.split;refine⟨⟨g,0,ha,h0,hs1⟩,MsX.row (i+1) h2 fun _=>⟨g,ha,?_⟩⟩;have e:0+(i+1) * 2=0+i * 2+2:=by omega
  rw[e];exact hs2
theorem qdd {α:Type} (l:List α) (k:Nat) (hk:k<l.length):l.take (k+1)=l.take k++[l[k]]:=by
 rw[List.take_succ_eq_append_getElem hk]
abbrev HidR (B:Nat) (v:Value):Nat→Prop:=fun b=>b<B∨v.ownBlock=some b
theorem qgj {B n m:Nat} {T:TypeId} {size:Nat} {wr wc w5 w6:World} {v v':Value} {xs ys:List Value} {a:Addr} {u:Value} (ha:a.block<B) (hsz:B≤wr.heap.size)
  (hb:Below wr.heap.size wr wc) (hown:wr.ownsRow 0 T size v n xs) (hv:∀ g,v.ownBlock=some g→B≤g) (h5:w5.ownsRow 0 T size v' m ys) (hg:wc.grownBy w5 v.ownBlock)
  (hl:v'.ownBlock=v.ownBlock∨v'.ownBlock=some wc.heap.size) (h6:w6=w5.setCell a u):
  qac (hide (HidR B v) wr) (hide (HidR B v') w6)∧qac (hide (fun b=>b<wr.heap.size) wc) (hide (HidR B v') w6)∧w6.ownsRow 0 T size v' m ys∧(∀ g,v'.ownBlock=some g→B≤g)∧
   qag (HidR B v) wr w6:=by
 have hlt:∀ g,v.ownBlock=some g→g<wr.heap.size:=fun g hg=>(hown.lt g hg).2;have hz:=hb.size;have hv':∀ g,v'.ownBlock=some g→B≤g:=fun g hg=>by
  rcases hl with e|e
  ·exact hv g (e ▸ hg)
  ·rw[e] at hg;cases hg;omega
 have hA1:qag (HidR B v) wr w6:=by
  subst h6;refine(qag.keep hb).trans ((qag.grown hg fun b h _=>Or.inr h).trans (qag.setCell _ _ (Or.inl ha) _))
 have hA2:qag (fun b=>b<wr.heap.size) wc w6:=by
  subst h6;exact(qag.grown hg fun b h _=>hlt b h).trans (qag.setCell _ _ (by show a.block<_;omega) _)
 refine⟨qac.hide hA1 fun b hb' hS => ?_,qac.hide hA2 fun b hb' hS => ?_,?_,hv',hA1⟩
 ·rcases hS with hS|hS
  ·exact .inl hS
  ·rcases hl with e|e
   ·exact .inr (e ▸ hS)
   ·rw[e] at hS;cases hS;omega
 ·rcases hS with hS|hS
  ·show b<_;omega
  ·rcases hl with e|e
   ·exact hlt b (e ▸ hS)
   ·rw[e] at hS;cases hS;omega
 ·subst h6;exact qab h5 (qag.setCell (fun b=>b=a.block) _ rfl _) fun g hg e=>by
   have:=hv' g hg;omega
theorem Blk.grown {w w':World} {b:Nat} {T:TypeId} {cs:List Value} {row:Option Nat} (h:Blk w b T cs) (hg:w.grownBy w' row) (hne:∀ g,row=some g→b<g):Blk w' b T cs:=by
 have hl:=h.lt;unfold Blk at *;rw[hg.block b hl fun e=>by have:=hne b e.symm;omega];exact h
theorem qd7 {w w':World} {row:Option Nat} (hg:w.grownBy w' row):w.heap.size≤w'.heap.size:=hg.size
theorem qck {w:World} {b:Nat} {T:TypeId} {cs:List Value} (h:Blk w b T cs):∀ j u,cs[j]?=some u→w.cell? ((⟨b,0,none⟩:Addr).add j)=some u:=fun j u hu=>by
 have:=h.cells j u hu;rw[Nat.zero_add] at this;rw[Addr.add_lit,Nat.zero_add];exact this
theorem qjw {B:Nat} {wA wr wc w5 w6:World} {own:Option Nat} {a:Addr} {u:Value} (h:qag (fun b=>b<B∨wA.heap.size≤b) wA wr) (hb:Below wr.heap.size wr wc) (hg:wc.grownBy w5 own) (hv:∀ g,own=some g→wA.heap.size≤g)
  (ha:a.block<B) (h6:w6=w5.setCell a u):qag (fun b=>b<B∨wA.heap.size≤b) wA w6:=by
 subst h6;exact h.trans ((qag.keep hb).trans ((qag.grown hg fun b h _ => .inr (hv b h)).trans (qag.setCell _ _ (.inl ha) _)))
theorem qag.old {B:Nat} {wA wr:World} (h:qag (fun b=>b<B∨wA.heap.size≤b) wA wr):qag (fun b=>b<B) wA wr:=h.mono fun b hb hs=>by
 rcases hs with hs|hs
 ·exact hs
 ·omega
theorem qec {B C:Nat} (h:B≤C) (w:World):qac (hide (fun b=>b<C) w) (hide (fun b=>b<B) w):=
 qac.hide (qag.refl _ _) fun b _ hb=>Nat.lt_of_lt_of_le hb h
theorem qj0 {B:Nat} {w W:World} (h:qag (fun b=>b<B) w W):qac (hide (fun b=>b<B) w) (hide (fun b=>b<B) W):=
 qac.hide h fun b _ hb=>hb
theorem qb4 {S:Nat→Prop} {w W:World} (h:Below w.heap.size w W):qac (hide S w) (hide S W):=qac.hide (qag.keep h) fun b _ hb=>hb
theorem qii {S:Nat→Prop} (w:World) (O:Obj):qac (hide S w) (hide S (w.alloc O)):=qb4 ((zp _ _).alloc (zl _) _)
theorem oc6 (a b:Int) (x1 x2 x3 x4:Option Addr) (n1 n2 n3 n4 c1 c2 c3 c4:Nat):∀ u∈[Value.int .i64 a,.int .i64 b,.slice x1 n1 c1,.slice x2 n2 c2,.slice x3 n3 c3,.slice x4 n4 c4],u.oneCell'=true:=by simp[Value.oneCell']
theorem oc8 (a b d:Int) (e:Bool) (x1 x2 x3 x4:Option Addr) (n1 n2 n3 n4 c1 c2 c3 c4:Nat):∀ u∈[Value.int .i64 d,.bool e,.int .i64 a,.int .i64 b,.slice x1 n1 c1,.slice x2 n2 c2,.slice x3 n3 c3,.slice x4 n4 c4],u.oneCell'=true:=by simp[Value.oneCell']
theorem oc2 (a:Int) (e:Bool):∀ u∈[Value.int .i64 a,.bool e],u.oneCell'=true:=by simp[Value.oneCell']
theorem qr1 (S:Nat→Prop) (w:World) (b:Nat) (hb:S b) (v0 v1 v2 v3 v4 v5:Value):
  qag S w ((((((w.setCell ⟨b,0,none⟩ v0).setCell ⟨b,1,none⟩ v1).setCell ⟨b,2,none⟩ v2).setCell ⟨b,3,none⟩ v3).setCell ⟨b,4,none⟩ v4).setCell ⟨b,5,none⟩ v5):=
 ((((((qag.setCell S _ hb _).trans (qag.setCell S _ hb _)).trans (qag.setCell S _ hb _)).trans (qag.setCell S _ hb _)).trans (qag.setCell S _ hb _)).trans (qag.setCell S _ hb _))
theorem qq8 {S:Nat→Prop} {wA wr wc w5 w6:World} {own:Option Nat} {a:Addr} {u:Value} (h:qag S wA wr) (hb:Below wr.heap.size wr wc) (hg:wc.grownBy w5 own) (hv:∀ g,own=some g→S g)
  (ha:S a.block) (h6:w6=w5.setCell a u):qag S wA w6:=by
 subst h6;exact h.trans ((qag.keep hb).trans ((qag.grown hg fun b h _=>hv b h).trans (qag.setCell _ _ ha _)))
theorem Blk.apart {S:Nat→Prop} {w w':World} {b:Nat} {T:TypeId} {cs:List Value} (h:Blk w b T cs) (ha:qag S w w') (hb:¬ S b):Blk w' b T cs:=by
 have hl:=h.lt;unfold Blk at *;rw[ha.block b hl hb];exact h
theorem qio {B n:Nat} {T:TypeId} {size:Nat} {w:World} {a:Option Addr} {c:Nat} {xs:List Value} (hown:w.ownsRow 0 T size (.slice a n c) n xs) (hv:∀ g,(Value.slice a n c).ownBlock=some g→B≤g):
  qac (hide (HidR B (.slice a n c)) w) (hide (fun b=>b<B) w)∧(0<n→∃ g,a=some ⟨g,0,none⟩∧qat (hide (fun b=>b<B) w) g (0+0 * size) xs):=by
 refine⟨qac.hide (qag.refl _ _) fun b _ h => .inl h,fun h0 => ?_⟩;obtain⟨a',c',he,-,h1,h2⟩:=qak hown;cases he;cases a with
 | none=>have:=(h2 rfl).1;omega
 | some ad=>
  obtain⟨g,rfl,hg,ho,hc⟩:=h1 ad rfl;refine⟨g,rfl,?_⟩;rw[Nat.zero_mul];exact hc.hide (by have:=hv g ho;omega)
def hidT (T:TypeId):Bool:=T==77||T==112||T==140
def qcq (v:Value):Option Value:=match v with
 | .nilIface=>none
 | v=>some v
def rdT (w:World) (b j:Nat):Option Value:=
 match w.heap[b]? with
 | some (.cells cs T)=>if hidT T=true∨(T=175∧j=6) then none else cs[j]?.bind qcq
 | _=>none
def RdLe (r r':Nat→Nat→Option Value):Prop:=∀ b j v,r b j=some v→r' b j=some v
theorem RdLe.refl (r:Nat→Nat→Option Value):RdLe r r:=fun _ _ _ h=>h
theorem RdLe.trans {a b c:Nat→Nat→Option Value} (h:RdLe a b) (k:RdLe b c):RdLe a c:=fun x j v hv=>k _ _ _ (h _ _ _ hv)
theorem qb7 {w:World} {b j:Nat} {v:Value} (h:rdT w b j=some v):∃ cs T,w.heap[b]?=some (.cells cs T)∧hidT T=false∧¬ (T=175∧j=6)∧cs[j]?=some v∧qcq v=some v:=by
 unfold rdT at h;split at h
 next cs T e=>
  split at h
  ·cases h
  next hn=>
   refine⟨cs,T,e,?_,fun hc=>hn (.inr hc),?_⟩
   ·cases hT:hidT T
    ·rfl
    ·exact absurd (.inl hT) hn
   ·cases hc:cs[j]? with
    | none=>rw[hc] at h;cases h
    | some u=>
     rw[hc] at h;simp only[Option.bind_some] at h;cases u <;> simp only[qcq] at h <;> cases h <;> exact⟨rfl,rfl⟩
 ·cases h
theorem qc4 {w:World} {b j:Nat} {v:Value} {cs:Array Value} {T:TypeId} (h:w.heap[b]?=some (.cells cs T)) (hT:hidT T=false) (hn:¬ (T=175∧j=6)) (hc:cs[j]?=some v) (hv:qcq v=some v):rdT w b j=some v:=by
 unfold rdT;rw[h];simp only;rw[if_neg (by rintro(h|h);rw[hT] at h;cases h;exact hn h),hc];exact hv
theorem qax {w:World} {b j:Nat} {v:Value} (h:rdT w b j=some v):w.cell? ⟨b,j,none⟩=some v:=by
 obtain⟨cs,T,h1,-,-,h2,-⟩:=qb7 h;simp[World.cell?,h1,h2]
theorem qft {w:World} {b j:Nat} {v:Value} (h:rdT w b j=some v):b<w.heap.size:=by
 obtain⟨cs,T,h1,-⟩:=qb7 h;exact(zab.1 h1).1
theorem qjy {S:Nat→Prop} {w w':World} (h:qag S w w') (hs:∀ b cs T,S b→w.heap[b]?=some (.cells cs T)→hidT T=true):RdLe (rdT w) (rdT w'):=fun b j v hv=>by
 obtain⟨cs,T,h1,h2,h3,h4,h5⟩:=qb7 hv;refine qc4 ((h.block b (qft hv) fun hS => ?_).trans h1) h2 h3 h4 h5;rw[hs b cs T hS h1] at h2;cases h2
theorem qa0 {w w':World} (h:Below w.heap.size w w'):RdLe (rdT w) (rdT w'):=
 qjy (S:=fun _=>False) (qag.keep h) (fun _ _ _ h=>h.elim)
theorem qqa {w:World} {b k:Nat} {cs:List Value} {T:TypeId} (h:Blk w b T cs) (hk:cs[k]?=some .nilIface) (v:Value):RdLe (rdT w) (rdT (w.setCell ⟨b,k,none⟩ v)):=fun b' j u hv=>by
 obtain⟨cs',T',h1,h2,h3,h4,h5⟩:=qb7 hv;by_cases hb:b'=b
 ·subst hb;have hq:=h.set k v;unfold Blk at h hq;rw[h] at h1;injection h1 with h1;injection h1 with e1 e2;subst e1 e2;refine qc4 hq h2 h3 ?_ h5;simp only[List.getElem?_toArray] at h4 ⊢;rw[List.getElem?_set];by_cases e:k=j
  ·subst e;rw[hk] at h4;injection h4 with h4;subst h4;cases h5
  ·rw[if_neg e];exact h4
 ·exact qc4 ((Below.heap_setCell _ _ _ _ (fun e=>hb e)).trans h1) h2 h3 h4 h5
theorem qvc {w:World} {b:Nat} {cs:List Value} (h:Blk w b 175 cs) (v:Value):RdLe (rdT w) (rdT (w.setCell ⟨b,6,none⟩ v)):=fun b' j u hv=>by
 obtain⟨cs',T',h1,h2,h3,h4,h5⟩:=qb7 hv;by_cases hb:b'=b
 ·subst hb;have hq:=h.set 6 v;unfold Blk at h hq;rw[h] at h1;injection h1 with h1;injection h1 with e1 e2;subst e1 e2;refine qc4 hq h2 h3 ?_ h5;simp only[List.getElem?_toArray] at h4 ⊢;rw[List.getElem?_set,if_neg (fun e=>h3 ⟨rfl,e.symm⟩)];exact h4
 ·exact qc4 ((Below.heap_setCell _ _ _ _ (fun e=>hb e)).trans h1) h2 h3 h4 h5
theorem Blk.rd {w:World} {b:Nat} {T:TypeId} {cs:List Value} (h:Blk w b T cs) (hT:hidT T=false) {j:Nat} {v:Value} (hn:¬ (T=175∧j=6)) (hc:cs[j]?=some v) (hv:qcq v=some v):rdT w b j=some v:=
 qc4 h hT hn (by simpa using hc) hv
def BlkR (r:Nat→Nat→Option Value) (b:Nat) (cs:List Value):Prop:=∀ j v,cs[j]?=some v→r b j=some v
theorem BlkR.mono {r r':Nat→Nat→Option Value} (h:RdLe r r') {b:Nat} {cs:List Value} (k:BlkR r b cs):BlkR r' b cs:=fun j v hv=>h _ _ _ (k j v hv)
theorem Blk.rdr {w:World} {b:Nat} {T:TypeId} {cs:List Value} (h:Blk w b T cs) (hT:hidT T=false) (hI:T≠175) (hv:∀ v∈cs,qcq v=some v):BlkR (rdT w) b cs:=fun j v hc=>
 h.rd hT (fun e=>hI e.1) hc (hv v (List.mem_of_getElem? hc))
def rankT:List Nat:=[10,12,14,16,0,1,2,6,8,18,7,20,22,5,4,3]
def rank (p n:Int):Nat:=rankT.getD n.toNat 0+if qay n=false∧p≠0 then 1 else 0
def ordM (p:Int) (ms:List Meth):List Nat:=(List.range ms.length).mergeSort fun i j=>decide (rank p (ms.getD i ⟨0,false⟩).name≤rank p (ms.getD j ⟨0,false⟩).name)
structure G where
 W:Wd
 tb:Nat→Option Value
 ob:Nat→Option (Bool×Nat)
 ifs:List (Nat×Spot)
 pk:Int→Nat
 rd:Nat→Nat→Option Value
structure G.Le (g g':G):Prop where
 W:g'.W=g.W
 pk:g'.pk=g.pk
 tb:∀ d v,g.tb d=some v→g'.tb d=some v
 ob:∀ k x,g.ob k=some x→g'.ob k=some x
 ifs:∀ x,x∈g.ifs→x∈g'.ifs
 rd:RdLe g.rd g'.rd
theorem G.Le.refl (g:G):G.Le g g:=⟨rfl,rfl,fun _ _ h=>h,fun _ _ h=>h,fun _ h=>h,RdLe.refl _⟩
theorem G.Le.trans {a b c:G} (h:G.Le a b) (k:G.Le b c):G.Le a c:=
 ⟨k.W.trans h.W,k.pk.trans h.pk,fun d v e=>k.tb d v (h.tb d v e),fun d v e=>k.ob d v (h.ob d v e),fun x e=>k.ifs x (h.ifs x e),h.rd.trans k.rd⟩
abbrev ptrV (b:Nat):Value := .pointer (some ⟨b,0,none⟩)
def qel (r:Nat→Nat→Option Value) (x pk:Nat) (n:Int) (ptr:Bool):Prop:=∃ sg v T a,BlkR r x [.int .i64 0,ptrV pk,.string (qas n),.iface 162 (ptrV sg),.bool false,.bool false]∧
 BlkR r sg [ptrV v,.pointer none,.pointer none,.pointer none,.bool false]∧r v 3=some (.iface T (.pointer (some a)))∧T≠103∧
 (ptr=true→T=145∧a.off=0∧a.spot=none∧∃ T' x',r a.block 0=some (.iface T' (.pointer (some x'))))∧(ptr=false→T≠145)
theorem qel.mono {r r':Nat→Nat→Option Value} (h:RdLe r r') {x pk:Nat} {n:Int} {ptr:Bool} (k:qel r x pk n ptr):qel r' x pk n ptr:=by
 obtain⟨sg,v,T,a,h1,h2,h3,h4,h5,h6⟩:=k;exact⟨sg,v,T,a,h1.mono h,h2.mono h,h _ _ _ h3,h4,fun e=>(h5 e).imp id fun⟨q1,q2,T',x',q3⟩=>⟨q1,q2,T',x',h _ _ _ q3⟩,h6⟩
def qqc (g:G) (ms:List Meth) (at_:Nat) (p:Int) (a:Option Addr):Prop:=∀ i k,(ordM p ms)[i]?=some k→∃ gb o x,a=some ⟨gb,o,none⟩∧g.rd gb (o+i)=some (ptrV x)∧g.ob (at_+k)=some (true,x)∧
 qel g.rd x (g.pk p) (ms.getD k ⟨0,false⟩).name false
theorem qqc.mono {g g':G} (h:G.Le g g') {ms:List Meth} {at_:Nat} {p:Int} {a:Option Addr} (k:qqc g ms at_ p a):qqc g' ms at_ p a:=fun i j e=>by
 obtain⟨gb,o,x,h1,h2,h3,h4⟩:=k i j e;exact⟨gb,o,x,h1,h.rd _ _ _ h2,h.ob _ _ h3,h.pk ▸ h4.mono h.rd⟩
def basK (m:Int):Int:=if m=0 then 2 else if m=1 then 17 else 1
mutual
def DenT (g:G):Ty→Nat→Int→Value→Prop
 | .mk k m el fs ms em,at_,p,v=>
  (k=1∧g.tb m.toNat=some v)∨
  (k=0∧∃ b i s,v = .iface 156 (ptrV b)∧BlkR g.rd b [.int .i64 (basK m),.int .i64 i,.string s])∨
  (k=2∧∃ b u,v = .iface 145 (ptrV b)∧g.rd b 0=some u∧DenE g el at_ p u)∨
  (k=3∧∃ b u,v = .iface 147 (ptrV b)∧g.rd b 0=some u∧DenE g el at_ p u)∨
  (k=4∧∃ b a c,v = .iface 153 (ptrV b)∧BlkR g.rd b [.slice a fs.length c,.slice none 0 0]∧fs.length≤c∧DenF g fs at_ p a 0)∨
  (k=5∧∃ b a c a' c',v = .iface 112 (ptrV b)∧(b,(⟨.mk k m el fs ms em,at_,p⟩:Spot))∈g.ifs∧BlkR g.rd b [.pointer none,.slice a ms.length c,.slice a' em.length c',.pointer none,.bool false,.bool true]∧
   ms.length≤c∧em.length≤c'∧qqc g ms at_ p a∧DenM g em (at_+ms.length) p a' 0)
def DenE (g:G):List Ty→Nat→Int→Value→Prop
 | [],_,_,_=>False
 | t::_,at_,p,v=>DenT g t at_ p v
def DenF (g:G):List Fd→Nat→Int→Option Addr→Nat→Prop
 | [],_,_,_,_=>True
 | .mk n e t::r,at_,p,a,i=>(∃ gb o x u,a=some ⟨gb,o,none⟩∧g.rd gb (o+i)=some (ptrV x)∧g.ob at_=some (false,x)∧BlkR g.rd x [.int .i64 0,ptrV (g.pk p),.string (qas (fname g.W (.mk n e t))),u,.int .u8 6,.bool e]∧
   DenT g t (at_+1) p u)∧DenF g r (at_+1+t.size) p a (i+1)
def DenM (g:G):List Ty→Nat→Int→Option Addr→Nat→Prop
 | [],_,_,_,_=>True
 | t::r,at_,p,a,i=>(∃ gb o u,a=some ⟨gb,o,none⟩∧g.rd gb (o+i)=some u∧DenT g t at_ p u)∧DenM g r (at_+t.size) p a (i+1)
end
mutual
theorem DenT.mono {g g':G} (h:G.Le g g'):∀ (t:Ty) (at_:Nat) (p:Int) (v:Value),DenT g t at_ p v→DenT g' t at_ p v
 | .mk k m el fs ms em,at_,p,v,hd=>by
  simp only[DenT] at hd ⊢;rcases hd with ⟨hk,q⟩|⟨hk,b,i,s,q1,q2⟩|⟨hk,b,u,q1,q2,q3⟩|⟨hk,b,u,q1,q2,q3⟩|⟨hk,b,a,c,q1,q2,q3,q4⟩|⟨hk,b,a,c,a',c',q1,q2,q3,q4,q5,q6,q7⟩
  ·exact .inl ⟨hk,h.tb _ _ q⟩
  ·exact .inr (.inl ⟨hk,b,i,s,q1,q2.mono h.rd⟩)
  ·exact .inr (.inr (.inl ⟨hk,b,u,q1,h.rd _ _ _ q2,DenE.mono h el _ _ _ q3⟩))
  ·exact .inr (.inr (.inr (.inl ⟨hk,b,u,q1,h.rd _ _ _ q2,DenE.mono h el _ _ _ q3⟩)))
  ·exact .inr (.inr (.inr (.inr (.inl ⟨hk,b,a,c,q1,q2.mono h.rd,q3,DenF.mono h fs _ _ _ _ q4⟩))))
  ·exact .inr (.inr (.inr (.inr (.inr ⟨hk,b,a,c,a',c',q1,h.ifs _ q2,q3.mono h.rd,q4,q5,q6.mono h,DenM.mono h em _ _ _ _ q7⟩))))
theorem DenE.mono {g g':G} (h:G.Le g g'):∀ (l:List Ty) (at_:Nat) (p:Int) (v:Value),DenE g l at_ p v→DenE g' l at_ p v
 | [],_,_,_,hd=>by simp only[DenE] at hd
 | t::_,at_,p,v,hd=>by simp only[DenE] at hd ⊢;exact DenT.mono h t _ _ _ hd
theorem DenF.mono {g g':G} (h:G.Le g g'):∀ (l:List Fd) (at_:Nat) (p:Int) (a:Option Addr) (i:Nat),DenF g l at_ p a i→DenF g' l at_ p a i
 | [],_,_,_,_,_=>by simp only[DenF]
 | .mk n e t::r,at_,p,a,i,hd=>by
  simp only[DenF] at hd ⊢;obtain⟨⟨gb,o,x,u,h1,h2,h3,h4,h5⟩,hr⟩:=hd;exact⟨⟨gb,o,x,u,h1,h.rd _ _ _ h2,h.ob _ _ h3,by rw[h.W,h.pk];exact h4.mono h.rd,DenT.mono h t _ _ _ h5⟩,DenF.mono h r _ _ _ _ hr⟩
theorem DenM.mono {g g':G} (h:G.Le g g'):∀ (l:List Ty) (at_:Nat) (p:Int) (a:Option Addr) (i:Nat),DenM g l at_ p a i→DenM g' l at_ p a i
 | [],_,_,_,_,_=>by simp only[DenM]
 | t::r,at_,p,a,i,hd=>by
  simp only[DenM] at hd ⊢;obtain⟨⟨gb,o,u,h1,h2,h3⟩,hr⟩:=hd;exact⟨⟨gb,o,u,h1,h.rd _ _ _ h2,DenT.mono h t _ _ _ h3⟩,DenM.mono h r _ _ _ _ hr⟩
end
def Den (g:G) (s:Spot) (v:Value):Prop:=DenT g s.of s.at_ s.pkg v
theorem Den.mono {g g':G} (h:G.Le g g') {s:Spot} {v:Value} (k:Den g s v):Den g' s v:=DenT.mono h _ _ _ _ k
theorem DenF.get {g:G} {a:Option Addr} {p:Int}:∀ (l:List Fd) (at_ i j:Nat),DenF g l at_ p a i→j<l.length→∃ gb o x u,a=some ⟨gb,o,none⟩∧g.rd gb (o+(i+j))=some (ptrV x)∧g.ob (at_+qar (l.take j))=some (false,x)∧
  BlkR g.rd x [.int .i64 0,ptrV (g.pk p),.string (qas (fname g.W (l.getD j fd0))),u,.int .u8 6,.bool (l.getD j fd0).embedded]∧DenT g (l.getD j fd0).of (at_+qar (l.take j)+1) p u
 | [],_,_,_,_,hj=>by simp at hj
 | .mk n e t::r,at_,i,0,hd,_=>by
  simp only[DenF] at hd;obtain⟨⟨gb,o,x,u,h1,h2,h3,h4,h5⟩,-⟩:=hd;exact⟨gb,o,x,u,h1,h2,by simpa[qar] using h3,by simpa[Fd.embedded] using h4,by simpa[qar,Fd.of] using h5⟩
 | .mk n e t::r,at_,i,j+1,hd,hj=>by
  simp only[DenF] at hd;obtain⟨gb,o,x,u,h1,h2,h3,h4,h5⟩:=DenF.get r _ _ j hd.2 (by simpa using hj);have e1:at_+qar ((Fd.mk n e t::r).take (j+1))=at_+1+t.size+qar (r.take j):=by simp[qar];omega
  refine⟨gb,o,x,u,h1,?_,?_,?_,?_⟩
  ·rw[show o+(i+(j+1))=o+(i+1+j) by omega];exact h2
  ·rw[e1];exact h3
  ·simpa using h4
  ·rw[e1];simpa using h5
theorem DenM.get {g:G} {a:Option Addr} {p:Int}:∀ (l:List Ty) (at_ i j:Nat),DenM g l at_ p a i→j<l.length→∃ gb o u,a=some ⟨gb,o,none⟩∧g.rd gb (o+(i+j))=some u∧DenT g (l.getD j ty0) (at_+qau (l.take j)) p u
 | [],_,_,_,_,hj=>by simp at hj
 | t::r,at_,i,0,hd,_=>by
  simp only[DenM] at hd;obtain⟨⟨gb,o,u,h1,h2,h3⟩,-⟩:=hd;exact⟨gb,o,u,h1,h2,by simpa[qau] using h3⟩
 | t::r,at_,i,j+1,hd,hj=>by
  simp only[DenM] at hd;obtain⟨gb,o,u,h1,h2,h3⟩:=DenM.get r _ _ j hd.2 (by simpa using hj);have e1:at_+qau ((t::r).take (j+1))=at_+t.size+qau (r.take j):=by simp[qau];omega
  refine⟨gb,o,u,h1,?_,?_⟩
  ·rw[show o+(i+(j+1))=o+(i+1+j) by omega];exact h2
  ·rw[e1];simpa using h3
theorem Den.named {g:G} {s:Spot} {v:Value} (h:Den g s v) (hk:s.of.kind=1):g.tb s.of.num.toNat=some v:=by
 obtain⟨⟨k,m,el,fs,ms,em⟩,at_,p⟩:=s;simp only[Den,DenT,Ty.kind,Ty.num] at *;rcases h with ⟨_,q⟩|⟨h,-⟩|⟨h,-⟩|⟨h,-⟩|⟨h,-⟩|⟨h,-⟩
 ·exact q
 all_goals omega
theorem Den.basic {g:G} {s:Spot} {v:Value} (h:Den g s v) (hk:s.of.kind=0):∃ b i st,v = .iface 156 (ptrV b)∧BlkR g.rd b [.int .i64 (basK s.of.num),.int .i64 i,.string st]:=by
 obtain⟨⟨k,m,el,fs,ms,em⟩,at_,p⟩:=s;simp only[Den,DenT,Ty.kind,Ty.num] at *;rcases h with ⟨h,-⟩|⟨-,q⟩|⟨h,-⟩|⟨h,-⟩|⟨h,-⟩|⟨h,-⟩
 ·omega
 ·exact q
 all_goals omega
theorem DenE.el {g:G}:∀ {l:List Ty} {at_:Nat} {p:Int} {v:Value},DenE g l at_ p v→DenT g (l.getD 0 ty0) at_ p v
 | [],_,_,_,h=>by simp only[DenE] at h
 | t::_,_,_,_,h=>by simp only[DenE] at h;simpa using h
theorem Den.ptr {g:G} {s:Spot} {v:Value} (h:Den g s v) (hk:s.of.kind=2):∃ b u,v = .iface 145 (ptrV b)∧g.rd b 0=some u∧Den g (qaq s) u:=by
 obtain⟨⟨k,m,el,fs,ms,em⟩,at_,p⟩:=s;simp only[Den,DenT,Ty.kind,qaq,Ty.el0,Ty.elem] at *;rcases h with ⟨h,-⟩|⟨h,-⟩|⟨-,b,u,q1,q2,q3⟩|⟨h,-⟩|⟨h,-⟩|⟨h,-⟩
 ·omega
 ·omega
 ·exact⟨b,u,q1,q2,q3.el⟩
 all_goals omega
theorem Den.slice {g:G} {s:Spot} {v:Value} (h:Den g s v) (hk:s.of.kind=3):∃ b u,v = .iface 147 (ptrV b)∧g.rd b 0=some u∧Den g (qaq s) u:=by
 obtain⟨⟨k,m,el,fs,ms,em⟩,at_,p⟩:=s;simp only[Den,DenT,Ty.kind,qaq,Ty.el0,Ty.elem] at *;rcases h with ⟨h,-⟩|⟨h,-⟩|⟨h,-⟩|⟨-,b,u,q1,q2,q3⟩|⟨h,-⟩|⟨h,-⟩
 ·omega
 ·omega
 ·omega
 ·exact⟨b,u,q1,q2,q3.el⟩
 all_goals omega
def qe0 (s:Spot) (i:Nat):Nat:=s.at_+qar (s.of.fields.take i)
theorem Den.struct {g:G} {s:Spot} {v:Value} (h:Den g s v) (hk:s.of.kind=4):∃ b a c,v = .iface 153 (ptrV b)∧BlkR g.rd b [.slice a s.of.fields.length c,.slice none 0 0]∧s.of.fields.length≤c∧
  ∀ j,j<s.of.fields.length→∃ gb o x u,a=some ⟨gb,o,none⟩∧g.rd gb (o+j)=some (ptrV x)∧g.ob (qe0 s j)=some (false,x)∧
   BlkR g.rd x [.int .i64 0,ptrV (g.pk s.pkg),.string (qas (fname g.W (s.of.fields.getD j fd0))),u,.int .u8 6,.bool (s.of.fields.getD j fd0).embedded]∧Den g (qao s j) u:=by
 obtain⟨⟨k,m,el,fs,ms,em⟩,at_,p⟩:=s;simp only[Den,DenT,Ty.kind,Ty.fields,qe0,qao] at *;rcases h with ⟨h,-⟩|⟨h,-⟩|⟨h,-⟩|⟨h,-⟩|⟨-,b,a,c,q1,q2,q3,q4⟩|⟨h,-⟩
 ·omega
 ·omega
 ·omega
 ·omega
 ·refine⟨b,a,c,q1,q2,q3,fun j hj => ?_⟩;have:=DenF.get fs at_ 0 j q4 hj;simpa using this
 ·omega
theorem Den.iface {g:G} {s:Spot} {v:Value} (h:Den g s v) (hk:s.of.kind=5):∃ b a c a' c',v = .iface 112 (ptrV b)∧(b,s)∈g.ifs∧
  BlkR g.rd b [.pointer none,.slice a s.of.methods.length c,.slice a' s.of.embeds.length c',.pointer none,.bool false,.bool true]∧s.of.methods.length≤c∧s.of.embeds.length≤c'∧qqc g s.of.methods s.at_ s.pkg a∧
  ∀ j,j<s.of.embeds.length→∃ gb o u,a'=some ⟨gb,o,none⟩∧g.rd gb (o+j)=some u∧Den g (qav s j) u:=by
 obtain⟨⟨k,m,el,fs,ms,em⟩,at_,p⟩:=s;simp only[Den,DenT,Ty.kind,Ty.methods,Ty.embeds,qav] at *;rcases h with ⟨h,-⟩|⟨h,-⟩|⟨h,-⟩|⟨h,-⟩|⟨h,-⟩|⟨-,b,a,c,a',c',q1,q2,q3,q4,q5,q6,q7⟩
 ·omega
 ·omega
 ·omega
 ·omega
 ·omega
 ·refine⟨b,a,c,a',c',q1,q2,q3,q4,q5,q6,fun j hj => ?_⟩;have:=DenM.get em (at_+ms.length) 0 j q7 hj;simpa using this
open Go.Proofs.Tryz
set_option maxRecDepth 100000
def qqp (n:Nat) (f:Fd):Prop:=f.embedded=true→if f.of.kind=2 then 0<f.of.elem.length∧0≤f.of.el0.num∧f.of.el0.num<n else 0≤f.of.num∧f.of.num<n
theorem qdc (W:Wd) (a:Option Addr) (c:Nat) (f:Fd) (cs:List Value) (w0 w:World) (k0:qac w0 w) (hW:WOk w0 W a c) (hf:TyC w0 f.of cs) (hn:qqp W.length f) (hi:i64 f.name):
  Calls prog 58 #[.slice a W.length c,.agg (.int .i64 f.name :: .bool f.embedded::cs).toArray] w (qa2 (.int .i64 (fname W f)) w):=by
 have hcap:=hW.cap;obtain⟨x1,d1,x2,d2,x3,d3,x4,d4,rfl,⟨hc1,-⟩,-,-,h1,-⟩:=hf.full;have HW:=hid hW;clear hW hf;cases he:f.embedded with
 | false=>
  have hv:fname W f=f.name:=by simp[fname,he]
  rw[hv];clear hv hn;go_enter func58,ntmps58
  go_wp2_with fail
  go_ret
  exact⟨rfl,bel⟩
 | true=>
  have hn:=hn he;by_cases hk:f.of.kind=2
  ·rw[if_pos hk] at hn;obtain⟨hn0,hn1,hn2⟩:=hn;obtain⟨b,o,cs,rfl,hcc,ht1⟩:=TysR.get h1 0 hn0;obtain⟨y1,g1,y2,g2,y3,g3,y4,g4,rfl,-⟩:=ht1.full;obtain⟨e0,e1,e2,e3,e4,e5⟩:=six (hcc.keep k0);simp only[Nat.zero_add,Nat.zero_mul,Nat.add_zero] at e0 e1 e2 e3 e4 e5;have hel:f.of.el0=f.of.elem[0]:=by unfold Ty.el0;simp[hn0]
   rw[hel] at hn1 hn2;have hkd:(f.of.kind==2)=true:=by simp[hk]
   have hnl:f.of.elem[0].num.toNat<W.length:=by omega
   obtain⟨b2,o2,p1,g1,p2,g2,p3,g3,p4,g4,p5,g5,rfl,-,-,-,-,-,hdd⟩:=HW.out.row.get f.of.elem[0].num.toNat hnl;obtain⟨D0,-⟩:=ten (hdd.keep k0);have hv:fname W f=W[f.of.elem[0].num.toNat].name:=by simp[fname,he,hk,hel,qcg hnl]
   have Hv:=hid hv;have hnn:f.of.elem[0].num=(f.of.elem[0].num.toNat:Int):=by omega
   generalize f.of.elem[0].num.toNat=nn at *
   clear hv hcc hdd ht1 h1 hel hk he;rw[Hv.out];have hb0:=zj w _ e0;have hb2:=zj w _ D0;simp only at hb0 hb2;have hb3:b2<w.heap.size+1:=by omega
   go_enter func58,ntmps58
   go_wp2_with fail
   go_ret
   exact⟨rfl,bel⟩
  ·rw[if_neg hk] at hn;obtain⟨hn1,hn2⟩:=hn;have hkd:(f.of.kind==2)=false:=by simp[hk]
   have hnl:f.of.num.toNat<W.length:=by omega
   obtain⟨b2,o2,p1,g1,p2,g2,p3,g3,p4,g4,p5,g5,rfl,-,-,-,-,-,hdd⟩:=HW.out.row.get f.of.num.toNat hnl;obtain⟨D0,-⟩:=ten (hdd.keep k0);have hv:fname W f=W[f.of.num.toNat].name:=by simp[fname,he,hk,qcg hnl]
   have Hv:=hid hv;have hnn:f.of.num=(f.of.num.toNat:Int):=by omega
   generalize f.of.num.toNat=nn at *
   clear hv hdd h1 hk he;rw[Hv.out];have hb2:=zj w _ D0;simp only at hb2;have hb3:b2<w.heap.size+1:=by omega
   go_enter func58,ntmps58
   go_wp2_with fail
   go_ret
   exact⟨rfl,bel⟩
def qrz (w0:World) (s:Spot) (n:Nat) (w:World) (e:Ending) (w':World):Prop:=
 ∃ cs,e = .returned (.tuple #[.agg (cs++[.int .i64 s.at_,.int .i64 s.pkg]).toArray,.int .i64 n])∧TyC w0 s.of cs∧Below w.heap.size w w'
theorem qte (s:Spot) (v:Value) (i:Nat) (w0 w:World) (k0:qac w0 w) (hs:qb6 w0 s v) (hi:i<s.of.fields.length) (hb:s.of.bulk≤1048576) (hat:s.at_≤4194304):
  Calls prog 57 #[v,.int .i64 i] w (qrz w0 (qao s i) (s.at_+qar (s.of.fields.take i)) w):=by
 obtain⟨x1,d1,x2,d2,x3,d3,x4,d4,rfl,⟨-,hcp,-⟩,-,-,-,h4,-,-,ht⟩:=hs.full;have hbk:qcm s.of.fields≤s.of.bulk:=by cases s.of;simp only[Ty.bulk,Ty.fields];omega
 have hl3:=qbv s.of.fields;have hs3:=qh6 s.of.fields;have hsi:=qbj s.of.fields i;clear ht hs;obtain⟨O,hO⟩:∃ O,O=(Obj.cells #[.int .i64 s.of.kind,.int .i64 s.of.num,.slice x1 s.of.elem.length d1,.slice x2 s.of.fields.length d2,.slice x3 s.of.methods.length d3,.slice x4 s.of.embeds.length d4,.int .i64 s.at_,.int .i64 s.pkg] 88):=⟨_,rfl⟩;obtain⟨O2,hO2⟩:∃ O2,O2=(Obj.cells #[.int .i64 0,.int .i64 0,.slice none 0 0,.slice none 0 0,.slice none 0 0,.slice none 0 0,.int .i64 0,.int .i64 0] 88):=⟨_,rfl⟩;have f1:((w.alloc O).alloc O2).heap[w.heap.size]?=some (.cells [.int .i64 s.of.kind,.int .i64 s.of.num,.slice x1 s.of.elem.length d1,.slice x2 s.of.fields.length d2,.slice x3 s.of.methods.length d3,.slice x4 s.of.embeds.length d4,.int .i64 s.at_,.int .i64 s.pkg].toArray 88):=by rw[← hO];exact qtb (qa8 _ _)
 have f2:((w.alloc O).alloc O2).heap[w.heap.size+1]?=some (.cells [.int .i64 0,.int .i64 0,.slice none 0 0,.slice none 0 0,.slice none 0 0,.slice none 0 0,.int .i64 0,.int .i64 0].toArray 88):=by rw[← hO2];have:=qa8 (w.alloc O) O2;simpa using this
 have F1:=hid f1;have F2:=hid f2;clear f1 f2;go_enter func57,ntmps57
 go_wp2_with fail
 rw[← hO,← hO2];clear hO hO2;have kw:qac w ((w.alloc O).alloc O2):=(qac.alloc _ _).trans (qac.alloc _ _);have hw2:((w.alloc O).alloc O2).heap.size=w.heap.size+1+1:=by simp
 have hbw2:Below w.heap.size w ((w.alloc O).alloc O2):=bel
 generalize (w.alloc O).alloc O2=w2 at *
 have Hw0:=hid hw2;clear hw2
 go_loopw [6,17] (fun v j wr=>∃ k:Nat,k≤i∧j = .int .i64 k∧v = .int .i64 (s.at_+qar (s.of.fields.take k))∧Below (w.heap.size+2) w2 wr)
  (fun _ j _=>i - (intOf j).toNat)
 case atStart=>exact⟨0,by omega,rfl,by simp[qar],zp _ _⟩
 case round=>
  obtain⟨k,hk,rfl,rfl,hbel⟩:=hrel;have hK:qac w0 wr:=(k0.trans kw).trans (qac.belowGe hbel (by have:=Hw0.out;omega));have hz:=zq hbel;(try simp only[zd,qaa] at hz);have hts:=qbj s.of.fields k;by_cases hlt:k<i
  ·obtain⟨b,o,cs,rfl,hn1,hc,htt⟩:=FdsR.get h4 k (by omega);have htt:=htt.keep hK;obtain⟨y1,g1,y2,g2,y3,g3,y4,g4,rfl,-⟩:=htt.open;obtain⟨e0,e1,e2,e3,e4,e5,e6,e7⟩:=qhx (hc.keep hK);simp only[Nat.zero_add] at e0 e1 e2 e3 e4 e5 e6 e7;have htk:=qdi s.of.fields k (by omega);have hbk:=qbx s.of.fields k (by omega);have hsk:=qbj s.of.fields (k+1);have hle:qar (s.of.fields.take k)+(1+s.of.fields[k].of.size)≤qcm s.of.fields:=by omega
   have Htk:=hid htk;clear htk;have Htt:=hid htt;clear htt;clear h4 hc hK
   go_wp2_with (go_at_call 30;refine(qmq _ _ _ (by omega) (Htt.out.keep (qac.alloc _ _))).mono ?_;rintro e w1 ⟨rfl,hb1⟩)
   have hz1:=zq hb1;(try simp only[zd,qaa] at hz1);have hz0:w.heap.size+2≤wr.heap.size:=by have:=Hw0.out;omega
   go_roundw
   case rel=>exact⟨k+1,by omega,by go_num,by rw[Htk.out];go_num,bel⟩
   case measure=>simp[intOf];omega
  ·obtain rfl:k=i:=by omega
   obtain⟨b,o,cs,rfl,hn1,hc,htt⟩:=FdsR.get h4 k hi;have hbb:b<w.heap.size:=by
    obtain⟨_,_,_,_,_,_,_,_,rfl,-⟩:=htt.open;exact zj w ⟨b,_,none⟩ ((hc.keep k0) 0 _ rfl)
   have hbw:b<wr.heap.size:=by have:=Hw0.out;omega
   have ha0:w.heap.size<wr.heap.size:=by have:=Hw0.out;omega
   have ha1:w.heap.size+1<wr.heap.size:=by have:=Hw0.out;omega
   have htt0:=htt;obtain⟨y1,g1,y2,g2,y3,g3,y4,g4,rfl,-⟩:=htt.open;obtain⟨e0,e1,e2,e3,e4,e5,e6,e7⟩:=qhx (hc.keep hK);simp only[Nat.zero_add] at e0 e1 e2 e3 e4 e5 e6 e7;obtain⟨q0,q1,q2,q3,q4,q5,q6,q7⟩:=qgv (qa9 hbel (by omega) F1.out);obtain⟨r0,r1,r2,r3,r4,r5,r6,r7⟩:=qgv (qa9 hbel (by omega) F2.out);have rf:=qfp hbel (by omega) F2.out;simp only[Nat.zero_add] at r0 r1 r2 r3 r4 r5 r6 r7 q0 q1 q2 q3 q4 q5 q6 q7;have Htt:=hid htt0;clear htt htt0 h4 hc hK hlt
   go_wp2_with fail
   refine Mix.wp_regionF [12] [0,1,2,3,4,5,6,7,8,9,10,11,12] [] [13,14] (fun _=>default) (by kernel_rfl) (by kernel_rfl) (by decide) ?hq ?_
   case hq=>intro _ c a a' W hd h;simp only[Exit.then,bodyPost] at h ⊢;rw[← hd];exact h
   iterate 13 (first|(refine pre_yes rfl rfl ?_;apply Exists.intro;refine⟨fun W1 hW1 => ?_,?_⟩;(focus (have hc1:=(qal hW1).1;(try simp only[zd,qaa] at hc1);have hk1:=qac.below hW1;go_simp;first|exact rfl|fail));simp only[Act.put,zk,zh,zi,ze,zm,zn])|(refine pre_no rfl rfl ?_;simp only[Act.put,zk,zh,zi,ze,zm,zn]))
   refine qvg fl_nil ?_ (fun W2 hW2=>mid_nil (qnw rfl rfl ?_))
   ·refine free_op (d:=40) (v := .int .i64 ((s.at_:Int)+(qar (s.of.fields.take k):Int))) rfl rfl rfl (by simp) (fun W => ?_);go_simp
   have hz2:=zq hW2;(try simp only[zd,qaa] at hz2);have hc2:=(qal hW2).1;(try simp only[zd,qaa] at hc2);have hf2:=(qal hW2).2;(try simp only[zd,qaa] at hf2)
   go_wp2_with fail
   have hel:s.of.fields.getD k fd0=s.of.fields[k]:=by simp[hi]
   refine bodyPost_ret (v := .tuple #[.agg #[.int .i64 s.of.fields[k].of.kind,.int .i64 s.of.fields[k].of.num,.slice y1 s.of.fields[k].of.elem.length g1,.slice y2 s.of.fields[k].of.fields.length g2,.slice y3 s.of.fields[k].of.methods.length g3,.slice y4 s.of.fields[k].of.embeds.length g4,.int .i64 (s.at_+qar (s.of.fields.take k)+1),.int .i64 s.pkg],.int .i64 (s.at_+qar (s.of.fields.take k))]) (by simp[results,results57,go_sem,hc2,ha1,r0,r1,r2,r3,r4,r5,r6,r7]) rfl ⟨[.int .i64 s.of.fields[k].of.kind,.int .i64 s.of.fields[k].of.num,.slice y1 s.of.fields[k].of.elem.length g1,.slice y2 s.of.fields[k].of.fields.length g2,.slice y3 s.of.fields[k].of.methods.length g3,.slice y4 s.of.fields[k].of.embeds.length g4],?_,?_,?_⟩
   ·simp[qao]
   ·simp only[qao,hel];exact Htt.out
   ·exact bel
