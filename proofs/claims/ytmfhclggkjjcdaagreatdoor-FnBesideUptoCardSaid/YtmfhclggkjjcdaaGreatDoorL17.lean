import Derived.Test.YtmfhclggkjjcdaaGreatDoorL16
import Derived.LaidEqlPtr
import Derived.Test.YtmfhclggkjjcdaaGreatDoorL08
import Derived.Test.YtmfhclggkjjcdaaGreatDoorL14
import Derived.Maps.RangeRun
set_option linter.all false
set_option maxHeartbeats 1000000
namespace Go.Proofs.YtmfhclggkjjcdaaGreatDoor
open Go Go.RowKit
def ndS (d:Nat):Spot:=⟨.mk 1 d [] [] [] [],0,0⟩
def nrm (s:Spot):Spot:=if s.of.kind=1 then ndS s.of.num.toNat else s
def pl (W:Wd) (s:Spot):Spot:=nrm (plain W s)
theorem qgb {s:Spot} (h:s.of.kind≠1):nrm s=s:=if_neg h
theorem qly {s:Spot} (h:s.of.kind=1):nrm s=ndS s.of.num.toNat:=if_pos h
theorem qfn (s:Spot):(nrm s).of.kind=s.of.kind:=by
 by_cases h:s.of.kind=1
 ·rw[qly h,h];rfl
 ·rw[qgb h]
theorem qmd {s:Spot}:(nrm s).of.num.toNat=s.of.num.toNat:=by
 by_cases h:s.of.kind=1
 ·rw[qly h];exact Int.toNat_natCast _
 ·rw[qgb h]
theorem den_nd {g:G} {s:Spot} {v:Value} (hk:s.of.kind=1) (h:g.tb s.of.num.toNat=some v):Den g s v:=by
 obtain⟨⟨k,m,el,fs,ms,em⟩,at_,p⟩:=s;simp only[Den,DenT,Ty.kind,Ty.num] at *;exact .inl ⟨hk,h⟩
theorem Den.nrm {g:G} {s:Spot} {v:Value} (h:Den g s v):Den g (nrm s) v:=by
 by_cases hk:s.of.kind=1
 ·refine den_nd (by rw[qfn,hk]) ?_;rw[qmd];exact h.named hk
 ·rw[qgb hk];exact h
theorem qn6 (W:Wd) (s:Spot):under W (nrm s)=under W s:=by
 by_cases hk:s.of.kind=1
 ·unfold under qb9;rw[if_pos (by rw[qfn];exact hk),if_pos hk,qmd]
 ·rw[qgb hk]
inductive CT where
 | leaf (l:List (Int×Int))
 | node (l:List (Int×Int)) (a b:CT)
def cid (p n:Int):Int×Int:=(if qay n=true then 0 else p,n)
theorem qkd (p n q m:Int):qbp p n q m=true↔cid p n=cid q m:=by
 unfold qbp cid;simp only[Bool.and_eq_true,Bool.or_eq_true,beq_iff_eq,Prod.mk.injEq];constructor
 ·rintro⟨rfl,h⟩;refine⟨?_,rfl⟩;rcases h with h|h
  ·simp[h]
  ·rw[h]
 ·rintro⟨h1,rfl⟩;refine⟨rfl,?_⟩;by_cases h:qay n=true
  ·exact .inl h
  ·simp only[h] at h1;exact .inr h1
open Classical in
noncomputable def msL (W:Wd) (s:Spot):List Mn:=if h:∃ l,MS W s l then h.choose else []
theorem qug {W:Wd} {s:Spot} {l:List Mn} (h:MS W s l):msL W s=l:=by
 unfold msL;rw[dif_pos ⟨l,h⟩];exact(Exists.choose_spec (⟨l,h⟩:∃ l,MS W s l)).unique h
def qjg (W:Wd) (x:Spot) (i:Nat):List (Int×Int):=[(if(x.of.fields.getD i fd0).embedded=true then 1 else 0,0),cid x.pkg (fname W (x.of.fields.getD i fd0))]
noncomputable def cano (W:Wd):Nat→Spot→CT
 | 0,_ => .leaf [(-1,0)]
 | n+1,s=>
  if(plain W s).of.kind=1 then .leaf [(1,(plain W s).of.num)]
  else if(plain W s).of.kind=0 then .leaf [(0,(plain W s).of.num)]
  else if(plain W s).of.kind=4 then .node [(4,(plain W s).of.fields.length)] ((List.range (plain W s).of.fields.length).foldr (fun i t => .node (qjg W (plain W s) i) (cano W n (qao (plain W s) i)) t) (.leaf [])) (.leaf [])
  else if(plain W s).of.kind=5 then .leaf ((5,0)::(msL W (plain W s)).map fun m=>cid m.p m.n)
  else .node [((plain W s).of.kind,0)] (cano W n (qaq (plain W s))) (.leaf [])
theorem qla {l:List Nat} {a a':Nat→List (Int×Int)} {b b':Nat→CT} {z:CT}:l.foldr (fun i t=>CT.node (a i) (b i) t) z=l.foldr (fun i t=>CT.node (a' i) (b' i) t) z↔∀ i∈l,a i=a' i∧b i=b' i:=by
 induction l with
 | nil=>simp
 | cons i r ih=>
  simp only[List.foldr_cons,CT.node.injEq,ih,zgb,forall_eq_or_imp];constructor
  ·rintro⟨h1,h2,h3⟩;exact⟨⟨h1,h2⟩,h3⟩
  ·rintro⟨⟨h1,h2⟩,h3⟩;exact⟨h1,h2,h3⟩
noncomputable def can (W:Wd) (s:Spot):CT:=cano W 2002 s
def drf (W:Wd) (s:Spot):Spot×Bool:=if(plain W s).of.kind=2 then(qaq (plain W s),true) else(s,false)
structure En where
 to:Spot
 ix:List Nat
 ind:Bool
 mul:Bool
structure Hi where
 ob:Nat
 met:Bool
 ptr:Bool
 ix:List Nat
 ind:Bool
abbrev Stp (α:Type):=Except (List Nat) α
def qgu (e:En) (h:Option Hi) (i k:Nat) (met ptr:Bool):Stp (Option Hi):=if(h.isSome||e.mul)=true then .error (e.ix++[i]) else .ok (some ⟨k,met,ptr,e.ix++[i],e.ind⟩)
def subE (W:Wd) (e:En) (u:Spot) (i:Nat):En:=⟨pl W (drf W (qao u i)).1,e.ix++[i],e.ind||(drf W (qao u i)).2,e.mul⟩
def fldS (W:Wd) (q m:Int) (e:En) (u:Spot) (i:Nat) (st:Option Hi×List En):Stp (Option Hi×List En):=
 if qbp u.pkg (fname W (u.of.fields.getD i fd0)) q m=true then
  match qgu e st.1 i (qe0 u i) false false with
  | .ok h => .ok (h,st.2)
  | .error x => .error x
 else if(st.1.isNone&&(u.of.fields.getD i fd0).embedded)=true then .ok (st.1,st.2++[subE W e u i])
 else .ok st
def flds (W:Wd) (q m:Int) (e:En) (u:Spot):Nat→Nat→Option Hi×List En→Stp (Option Hi×List En)
 | 0,_,st => .ok st
 | n+1,i,st=>match fldS W q m e u i st with
  | .ok st=>flds W q m e u n (i+1) st
  | .error x => .error x
noncomputable def typS (W:Wd) (q m:Int) (e:En) (st:Option Hi×List En):Stp (Option Hi×List En):=
 if(under W e.to).of.kind=4 then flds W q m e (under W e.to) (under W e.to).of.fields.length 0 st
 else if(under W e.to).of.kind=5 then
  match qhz (qih (msL W (under W e.to))) q m with
  | some i=>match qgu e st.1 i ((msL W (under W e.to)).getD i mn0).k true false with
   | .ok h => .ok (h,st.2)
   | .error x => .error x
  | none => .ok st
 else .ok st
noncomputable def entS (W:Wd) (q m:Int) (e:En) (st:Option Hi×List En):Stp (Option Hi×List En):=
 match if e.to.of.kind=1 then qey W e.to.of.num.toNat q m else none with
 | some i=>match qgu e st.1 i (start W e.to.of.num.toNat+i) true ((dc W e.to.of.num.toNat).methods.getD i ⟨0,false⟩).ptr with
  | .ok h => .ok (h,st.2)
  | .error x => .error x
 | none=>typS W q m e st
noncomputable def ents (W:Wd) (q m:Int):List En→(Option Hi×List En)→List Nat→Stp ((Option Hi×List En)×List Nat)
 | [],st,S => .ok (st,S)
 | e::r,st,S=>
  if e.to.of.kind=1∧e.to.of.num.toNat∈S then ents W q m r st S
  else match entS W q m e st with
   | .ok st=>ents W q m r st (if e.to.of.kind=1 then S++[e.to.of.num.toNat] else S)
   | .error x => .error x
open Classical in
noncomputable def conS (W:Wd) (acc:List En) (e:En):List En:=match acc.findIdx? fun a=>decide (can W a.to=can W e.to) with
 | some i=>acc.modify i fun a=>{ a with mul:=true }
 | none=>acc++[e]
noncomputable def qbc (W:Wd) (l:List En):List En:=l.foldl (conS W) []
structure Rs where
 ob:Option (Nat×Bool)
 ix:List Nat
 ind:Bool
noncomputable def lvs (W:Wd) (addr:Bool) (q m:Int):Nat→List En→List Nat→Rs
 | 0,_,_=>⟨none,[],false⟩
 | n+1,cur,S=>
  if cur=[] then⟨none,[],false⟩
  else match ents W q m cur (none,[]) S with
   | .error x=>⟨none,x,false⟩
   | .ok ((some h,_),_)=>if(h.met&&h.ptr&&!h.ind&&!addr)=true then⟨none,[],true⟩ else⟨some (h.ob,h.met),h.ix,h.ind⟩
   | .ok ((none,nx),S')=>lvs W addr q m n (qbc W nx) S'
def qj2 (W:Wd):Nat:=(W.length+1) * 2003+2003
noncomputable def qhf (W:Wd) (s:Spot) (addr:Bool) (q m:Int):Rs:=
 if m=8 then⟨none,[],false⟩
 else if(drf W s).2=true∧(under W (drf W s).1).of.kind=5 then⟨none,[],false⟩
 else lvs W addr q m (qj2 W) [⟨pl W (drf W s).1,[],(drf W s).2,false⟩] []
noncomputable def qch (W:Wd) (s:Spot) (addr:Bool) (q m:Int):Rs:=
 if(plain W s).of.kind=1∧(under W s).of.kind=2 then
  match (qhf W (under W s) false q m).ob with
  | some (_,true)=>⟨none,[],false⟩
  | _=>qhf W (under W s) false q m
 else qhf W s addr q m
theorem qlw:∀ (l:List Fd) (k:Nat),k<qar l→∃ j,j<l.length∧qar (l.take j)≤k∧k<qar (l.take j)+1+(l.getD j fd0).of.size
 | [],k,h=>by simp[qar] at h
 | .mk n e t::r,k,h=>by
  by_cases h1:k<1+t.size
  ·exact⟨0,by simp,by simp[qar],by simp[qar,Fd.of];omega⟩
  ·simp only[qar] at h;obtain⟨j,q1,q2,q3⟩:=qlw r (k - (1+t.size)) (by omega);exact⟨j+1,by simpa using q1,by simp only[List.take_succ_cons,qar];omega,by simp only[List.take_succ_cons,qar,List.getD_cons_succ];omega⟩
theorem qln:∀ (l:List Ty) (k:Nat),k<qau l→∃ j,j<l.length∧qau (l.take j)≤k∧k<qau (l.take j)+(l.getD j ty0).size
 | [],k,h=>by simp[qau] at h
 | t::r,k,h=>by
  by_cases h1:k<t.size
  ·exact⟨0,by simp,by simp[qau],by simp[qau];omega⟩
  ·simp only[qau] at h;obtain⟨j,q1,q2,q3⟩:=qln r (k - t.size) (by omega);exact⟨j+1,by simpa using q1,by simp only[List.take_succ_cons,qau];omega,by simp only[List.take_succ_cons,qau,List.getD_cons_succ];omega⟩
def ObIn (g:G) (k:Nat):Prop:=∃ m x u,g.ob k=some (m,x)∧g.rd x 0=some u
theorem qfc {g:G} {W:Wd} {d:Int}:∀ (n:Nat) (val:Bool) (s:Spot) (v:Value),s.of.bulk≤n→qam W d val s.of→Den g s v→∀ k,s.at_≤k→k<s.at_+s.of.size→ObIn g k
 | 0,_,s,_,hn,_,_,_,_,_=>by have:=qd3 s.of;omega
 | n+1,val,s,v,hn,hf,hd,k,h1,h2=>by
  have hbe:=qbd s.of;have hsz:=qkt s.of;rcases hf.kinds with hk|hk|hk|hk|hk|hk
  ·obtain⟨e1,e2,e3,e4,-⟩:=hf.k0 hk;rw[e1,e2,e3,e4] at hsz;simp[qau,qar] at hsz;omega
  ·obtain⟨e1,e2,e3,e4,-⟩:=hf.k1 hk;rw[e1,e2,e3,e4] at hsz;simp[qau,qar] at hsz;omega
  ·obtain⟨en,e2,e3,e4,el,ef⟩:=hf.k23 (.inl hk);obtain⟨b,u,-,-,h3⟩:=hd.ptr hk;have he:s.of.elem=[s.of.el0]:=by
    cases hel:s.of.elem with
    | nil=>rw[hel] at el;simp at el
    | cons x r=>rw[hel] at el;cases r with
     | nil=>simp[Ty.el0,hel]
     | cons=>simp at el
   rw[e2,e3,e4,he] at hsz;simp[qau,qar] at hsz;rw[he] at hbe;simp[qbt] at hbe;exact qfc n false (qaq s) u (by simp only[qaq];omega) ef h3 k h1 (by simp only[qaq];omega)
  ·obtain⟨en,e2,e3,e4,el,ef⟩:=hf.k23 (.inr hk);obtain⟨b,u,-,-,h3⟩:=hd.slice hk;have he:s.of.elem=[s.of.el0]:=by
    cases hel:s.of.elem with
    | nil=>rw[hel] at el;simp at el
    | cons x r=>rw[hel] at el;cases r with
     | nil=>simp[Ty.el0,hel]
     | cons=>simp at el
   rw[e2,e3,e4,he] at hsz;simp[qau,qar] at hsz;rw[he] at hbe;simp[qbt] at hbe;exact qfc n false (qaq s) u (by simp only[qaq];omega) ef h3 k h1 (by simp only[qaq];omega)
  ·obtain⟨-,e2,e3,e4,ef⟩:=hf.k4 hk;rw[e2,e3,e4] at hsz;simp[qau] at hsz;obtain⟨b,a,c,-,-,-,h5⟩:=hd.struct hk;obtain⟨j,q1,q2,q3⟩:=qlw s.of.fields (k - s.at_) (by omega);obtain⟨gb,o,x,u,-,-,r3,r4,r5⟩:=h5 j q1;by_cases hkj:k=qe0 s j
   ·exact⟨false,x,_,hkj ▸ r3,r4 0 _ rfl⟩
   ·have hg:s.of.fields.getD j fd0=s.of.fields[j]:=by simp[zv,zr q1]
    have hb:=qbx s.of.fields j q1;unfold qe0 at hkj;refine qfc (W:=W) (d:=d) n val (qao s j) u ?_ ?_ r5 k ?_ ?_
    ·simp only[qao,hg];omega
    ·simp only[qao,hg];exact(ef.get j q1).2.2
    ·simp only[qao];omega
    ·simp only[qao];omega
  ·obtain⟨-,e2,e3,e4,ef⟩:=hf.k5 hk;rw[e2,e3] at hsz;simp[qau,qar] at hsz;obtain⟨b,a,c,a',c',-,-,-,-,-,h4,h5⟩:=hd.iface hk;by_cases hkm:k<s.at_+s.of.methods.length
   ·have hm:(k - s.at_)∈ordM s.pkg s.of.methods:=((qjc s.pkg s.of.methods).1.mem_iff).2 (List.mem_range.2 (by omega));obtain⟨i,hi⟩:=List.mem_iff_getElem?.1 hm;obtain⟨gb,o,x,-,-,r3,r4⟩:=h4 i _ hi;obtain⟨sg,v',T,aa,f1,-⟩:=r4;exact⟨true,x,_,by rw[← r3];congr 1;omega,f1 0 _ rfl⟩
   ·obtain⟨j,q1,q2,q3⟩:=qln s.of.embeds (k - s.at_ - s.of.methods.length) (by omega);obtain⟨gb,o,u,-,-,r3⟩:=h5 j q1;have hg:s.of.embeds.getD j ty0=s.of.embeds[j]:=by simp[zv,zr q1]
    have hb:=qa6 s.of.embeds j q1;refine qfc (W:=W) (d:=d) n true (qav s j) u ?_ ?_ r3 k ?_ ?_
    ·simp only[qav,hg];omega
    ·simp only[qav,hg];exact ef.get j q1
    ·simp only[qav];omega
    ·simp only[qav];omega
theorem qld (W:Wd):∀ (n:Nat),n≤W.length→∀ k,k<start W n→∃ d,d<n∧start W d≤k∧k<start W (d+1)
 | 0,_,k,h=>by simp[start,sumD] at h
 | n+1,hn,k,h=>by
  by_cases h1:k<start W n
  ·obtain⟨d,q1,q2,q3⟩:=qld W n (by omega) k h1;exact⟨d,by omega,q2,q3⟩
  ·exact⟨n,by omega,by omega,h⟩
theorem qh0 {W:Wd} {d:Nat} (hd:d<W.length) (hB:qcp W) (h:0<(dc W d).of.size):(dc W d).of.kind≠1:=fun hk=>by
 obtain⟨e1,e2,e3,e4,-⟩:=(hB d hd).k1 hk;have:=qkt (dc W d).of;rw[e1,e2,e3,e4] at this;simp[qau,qar] at this;omega
theorem qm6.cover {F:Fix} {w0:World} {s:St} {w:World} (h:qm6 F w0 s w) {t:Ty} (hFit:qfz F.W t) {v:Value} (hd:Den (gOf F s (rdT w)) (operand F.W t) v) {k:Nat} (hk:k<start F.W F.W.length+t.size):∃ m x T cs,s.ob k=some (m,x)∧Blk w x T cs:=by
 have hB:qcp F.W:=fun d hd=>(hFit.names d hd).2.2.2.1;have key:ObIn (gOf F s (rdT w)) k:=by
  by_cases h1:k<start F.W F.W.length
  ·obtain⟨d,hdl,q2,q3⟩:=qld F.W _ (zl _) k h1;have hst:=qc2 hdl;unfold qi8 at hst;have hset:=h.set d hdl;unfold qe5 at hset;split at hset
   next hal=>
    obtain⟨al,tn,rhs,u,m,q⟩:=hset;have hm0:=(hFit.names d hdl).2.2.2.2 hal;rw[hm0] at hst;simp only[List.length_nil] at hst;have hkd:=qh0 hdl hB (by omega);have hden:=q.den;rw[qbg (fun e=>hkd e.1)] at hden;exact qfc _ true (qad F.W d) u (zl _) (hB d hdl) hden k (by simp only[qad,hm0,List.length_nil];omega) (by simp only[qad,hm0,List.length_nil];omega)
   next hal=>
    obtain⟨b',tn,U,ux,ra,rc,fs,q⟩:=hset;by_cases hkm:k<start F.W d+(dc F.W d).methods.length
    ·obtain⟨r1,sg,v',T,aa,f1,-⟩:=q.ms (k - start F.W d) (by rw[q.len];omega);exact⟨true,_,_,by rw[← r1];show s.ob k=s.ob _;congr 1;omega,f1 0 _ rfl⟩
    ·have hkd:=qh0 hdl hB (by omega);have hden:=q.den;rw[qdu (s:=qad F.W d) hkd] at hden;exact qfc _ true (qad F.W d) _ (zl _) (hB d hdl) hden k (by simp only[qad];omega) (by simp only[qad];omega)
  ·exact qfc _ true (operand F.W t) v (zl _) hFit.formed hd k (by simp only[operand];omega) (by simp only[operand];omega)
 obtain⟨m,x,u,h1,h2⟩:=key;obtain⟨cs,T,q1,-⟩:=qb7 h2;exact⟨m,x,T,cs.toList,h1,by unfold Blk;simpa using q1⟩
open Go.Proofs.Tryz
theorem Tryz.szFn:(prog.info? 167).map (·.size)=some 6:=by kernel_rfl
theorem Tryz.szVr:(prog.info? 191).map (·.size)=some 6:=by kernel_rfl
section
variable {P:Program} {t:TypeId}
theorem qfi (w:World) {m} (ht:P.underlying t=some (.interface m)) {T U:TypeId} (h:T≠U) (v u:Value):(binOp .eql t (.iface T v) (.iface U u)).run P w = .ok (.bool false) w:=by
 have h':∀ d:Nat,(Op.equalIn (d+1) t (.iface T v) (.iface U u)).run P w = .ok false w:=fun d=>by
  simp[Op.equalIn,run_underlying ht,h]
 simp only[binOp];simp[Op.equal,Op.maxDepth,h' 9999]
theorem qd2 (w:World) {m} (ht:P.underlying t=some (.interface m)) {T te:TypeId} {j:TypeInfo} (hp:P.underlying T=some (.pointer te)) (hte:P.info? te=some j) {i:TypeInfo} (hT:P.info? T=some i) (hc:i.comparable=true) (a:Addr):(binOp .eql t (.iface T (.pointer (some a))) (.iface T (.pointer (some a)))).run P w = .ok (.bool true) w:=by
 have h1:∀ d:Nat,(Op.equalIn (d+1) T (.pointer (some a)) (.pointer (some a))).run P w = .ok true w:=fun d=>by
  simp[Op.equalIn,run_underlying hp,sizeOf,typeInfo,hte,run_sameAddr_same]
 have h':∀ d:Nat,(Op.equalIn (d+2) t (.iface T (.pointer (some a))) (.iface T (.pointer (some a)))).run P w = .ok true w:=fun d=>by
  rw[show d+2=(d+1)+1 from rfl]
  conv=>lhs;unfold Op.equalIn
  simp[run_underlying ht,h1,typeInfo,hT,hc]
 simp only[binOp];simp[Op.equal,Op.maxDepth,h' 9998]
theorem qdn (w:World) {m} (ht:P.underlying t=some (.interface m)) {T te:TypeId} {j:TypeInfo} (hp:P.underlying T=some (.pointer te)) (hte:P.info? te=some j) (hsz:j.size≠0) {i:TypeInfo} (hT:P.info? T=some i) (hc:i.comparable=true) {a b:Addr} {ca cb:Array Value} {ta tb:TypeId} (hne:a≠b) (ha:w.heap[a.block]?=some (.cells ca ta (0,0))) (hb:w.heap[b.block]?=some (.cells cb tb (0,0))):(binOp .eql t (.iface T (.pointer (some a))) (.iface T (.pointer (some b)))).run P w = .ok (.bool false) w:=by
 have h1:∀ d:Nat,(Op.equalIn (d+1) T (.pointer (some a)) (.pointer (some b))).run P w = .ok false w:=fun d=>by
  simp[Op.equalIn,run_underlying hp,sizeOf,typeInfo,hte,hsz,run_sameAddr_other w hne ha hb]
 have h':∀ d:Nat,(Op.equalIn (d+2) t (.iface T (.pointer (some a))) (.iface T (.pointer (some b)))).run P w = .ok false w:=fun d=>by
  rw[show d+2=(d+1)+1 from rfl]
  conv=>lhs;unfold Op.equalIn
  simp[run_underlying ht,h1,typeInfo,hT,hc]
 simp only[binOp];simp[Op.equal,Op.maxDepth,h' 9998]
end
theorem Tryz.cmpF:(prog.info? 106).map (·.comparable)=some true:=by kernel_rfl
theorem Tryz.cmpV:(prog.info? 151).map (·.comparable)=some true:=by kernel_rfl
theorem eq_obj (w:World) (m n:Bool) (x y:Nat) {T U:TypeId} {cs ds:List Value} (hx:Blk w x T cs) (hy:Blk w y U ds):(binOp .eql 68 (objV (some (m,x))) (objV (some (n,y)))).run prog w = .ok (.bool (m==n&&x==y)) w:=by
 obtain⟨jf,hjf,hjf2⟩:=zbb.1 Tryz.szFn;obtain⟨jv,hjv,hjv2⟩:=zbb.1 Tryz.szVr;obtain⟨cf,hcf,hcf2⟩:=zbb.1 Tryz.cmpF;obtain⟨cv,hcv,hcv2⟩:=zbb.1 Tryz.cmpV;have hne:x≠y→(⟨x,0,none⟩:Addr)≠⟨y,0,none⟩:=fun h e=>h (by cases e;rfl);by_cases hxy:x=y
 ·subst hxy;cases m <;> cases n
  ·exact(qd2 w underlying68 underlying151 hjv hcv hcv2 _).trans (by simp)
  ·exact(qfi w underlying68 (by decide) _ _).trans (by simp)
  ·exact(qfi w underlying68 (by decide) _ _).trans (by simp)
  ·exact(qd2 w underlying68 underlying106 hjf hcf hcf2 _).trans (by simp)
 ·cases m <;> cases n
  ·exact(qdn w underlying68 underlying151 hjv (by rw[hjv2];decide) hcv hcv2 (hne hxy) hx hy).trans (by simp[hxy])
  ·exact(qfi w underlying68 (by decide) _ _).trans (by simp)
  ·exact(qfi w underlying68 (by decide) _ _).trans (by simp)
  ·exact(qdn w underlying68 underlying106 hjf (by rw[hjf2];decide) hcf hcf2 (hne hxy) hx hy).trans (by simp[hxy])
theorem eqg_obj (m n:Bool) (x y:Nat) (t:TypeId) (p q:Operand) (w:World):(eqGuard .eql t p q (objV (some (m,x))) (objV (some (n,y)))).run prog w = .ok () w:=by
 cases m <;> cases n <;> rfl
set_option maxRecDepth 100000
def Cov (F:Fix) (s:St) (w:World):Prop:=∀ k,k<F.N→∃ m x T cs,s.ob k=some (m,x)∧Blk w x T cs
theorem Cov.keep {F:Fix} {s:St} {w w':World} (h:Cov F s w) (hb:Below w.heap.size w w'):Cov F s w':=fun k hk=>by
 obtain⟨m,x,T,cs,h1,h2⟩:=h k hk;exact⟨m,x,T,cs,h1,h2.keep hb⟩
theorem qr2 {F:Fix} {s:St} {w:World} (hok:BOk F s w) (hc:Cov F s w) (hN:F.N≤4194304) {k0:Nat} (hk:k0<F.N) {m:Bool} {x:Nat} (ho:s.ob k0=some (m,x)):
  Calls prog 50 #[ptrV F.bb,objV (some (m,x))] w fun e w'=>e = .returned (.int .i64 k0)∧w'=w:=by
 have b2:=hok.bld.cell 2;simp only[zu,zt] at b2;have HR:=hid (fun i (hi:i<F.N)=>(show w.cell? ⟨F.ob0,i,none⟩=some (objV (s.ob i)) by
  obtain⟨os,o1,o2⟩:=hok.obj;rw[o1.cell];exact o2 i hi))
 have Hinj:=hid hok.inj;have Hc:=hid hc;have Ho:=hid ho;have hbl:=hok.bld.lt;have hol:F.ob0<w.heap.size:=by obtain⟨os,o1,-⟩:=hok.obj;exact o1.lt
 clear hok hc ho;obtain⟨v,hv⟩:∃ v,v=objV (some (m,x)):=⟨_,rfl⟩;have Hv:=hid hv;rw[← hv];clear hv;go_enter func50,ntmps50
 go_wp2_with fail
 go_loop [12] (fun j=>∃ i:Nat,i≤k0∧j = .int .i64 i) (fun j=>k0 - (intOf j).toNat)
 case atStart=>exact⟨0,Nat.zero_le _,rfl⟩
 case round=>
  obtain⟨i,hi,rfl⟩:=hrel;have hiN:i<F.N:=by omega
  have hiN':(i:Int)<(F.N:Int):=by omega
  have hc:=HR.out i hiN;obtain⟨m',x',T,cs,h1,h2⟩:=Hc.out i hiN;obtain⟨m0,x0,T0,cs0,g1,g2⟩:=Hc.out k0 hk;rw[Ho.out] at g1;cases g1;have hq:=eq_obj w m' m x' x h2 g2;have hg:=eqg_obj m' m x' x 68 (.tmp 17) (.tmp 18) w;rw[h1] at hc;rw[← Hv.out] at hq hg;obtain⟨u,hu⟩:∃ u,u=objV (some (m',x')):=⟨_,rfl⟩;rw[← hu] at hc hq hg;by_cases he:i=k0
  ·subst he;rw[Ho.out] at h1;cases h1;simp only[BEq.rfl,Bool.and_self] at hq;clear h2 g2 hu
   go_wp2_with fail
   go_ret
   exact⟨rfl,rfl⟩
  ·have hxx:x'≠x:=fun e=>he (Hinj.out i k0 _ _ h1 Ho.out e);have hb:(m'==m&&x'==x)=false:=by simp[hxx]
   rw[hb] at hq;clear h2 g2 hu h1 hb
   go_wp2_with fail
   go_round
   case rel=>exact⟨i+1,by omega,by go_num⟩
   case measure=>simp[intOf];omega
structure SpO (W:Wd) (P:Nat→Nat) (s:Spot):Prop where
 pp:s.pkg=0∨s.pkg=1
 bk:s.of.bulk≤1048576
 va:qdp W s.pkg s.of s.at_
 fo:∃ d val,qam W d val s.of
 sz:op P s.of≤2001
 nn:s.at_+s.of.size<P W.length
theorem SpO.numOk {W:Wd} {P:Nat→Nat} {s:Spot} (h:SpO W P s):qdw W s:=by
 obtain⟨d,val,hf⟩:=h.fo;exact hf.numOk
theorem SpO.decl {W:Wd} {P:Nat→Nat} {t:Ty} (hf:qfz W t) (hs:qdx W t P) (hb:qbw W≤1048576) (hN:start W W.length<P W.length) {d:Nat} (hd:d<W.length):SpO W P (qad W d):=by
 obtain⟨-,-,q1,q2,-⟩:=hf.names d hd;have h1:=qfe hd;refine⟨q1,?_,hf.valid d hd,⟨_,_,q2⟩,Nat.le_succ_of_le (hs.decl d hd),?_⟩
 ·unfold Dc.bulk at h1;simp only[qad];omega
 ·have h2:=qc2 hd;have h3:=qdk W (show d+1≤W.length from hd);unfold qi8 at h2;simp only[qad];omega
theorem SpO.operand {W:Wd} {P:Nat→Nat} {t:Ty} (hf:qfz W t) (hs:qdx W t P) (hb:t.bulk≤1048576) (hN:start W W.length+t.size<P W.length):SpO W P (operand W t):=
 ⟨.inl rfl,hb,hf.validT,⟨_,_,hf.formed⟩,hs.operand,hN⟩
theorem op_nd {P:Nat→Nat} {t:Ty} (hk:t.kind=1):P t.num.toNat≤op P t:=by
 cases t;simp only[op,Ty.kind,Ty.num] at *;rw[if_pos hk];omega
theorem qw9 (P:Nat→Nat) (d:Nat):op P (ndS d).of=P d:=by simp[ndS,op,opT,opF]
theorem op_elem {P:Nat→Nat} {t:Ty} (hk:t.kind≠1) (h:t.elem.length=1):op P t.el0<op P t:=by
 cases t;simp only[op,Ty.kind,Ty.elem,Ty.el0] at *;rename_i k m el fs ms em
 match el,h with
 | [x],_=>
  simp only[opT,if_neg hk,List.getD_cons_zero];omega
theorem quw (P:Nat→Nat):∀ (l:List Fd) (i:Nat) (hi:i<l.length),op P l[i].of≤opF P l
 | .mk _ _ t::r,0,_=>by simp only[opF,zi,Fd.of];omega
 | .mk _ _ t::r,i+1,hi=>by
  have:=quw P r i (by simpa using hi);simp only[opF,zh];omega
theorem qwe {P:Nat→Nat} {t:Ty} (hk:t.kind≠1) (i:Nat) (hi:i<t.fields.length):op P (t.fields.getD i fd0).of<op P t:=by
 have e:t.fields.getD i fd0=t.fields[i]:=by simp[hi]
 rw[e];have h1:=quw P t.fields i hi;cases t;simp only[op,Ty.kind,Ty.fields] at *;rw[if_neg hk];omega
theorem SpO.nds {W:Wd} {P:Nat→Nat} {d:Nat} (hd:d<W.length) (ho:P d≤2001) (hN:0<P W.length):SpO W P (ndS d):=by
 refine⟨.inl rfl,by simp[ndS,Ty.bulk,qbt,qcm],by simp[ndS,qdp,qb1,qc0,qcr,qjv],⟨-1,false,?_⟩,by rw[qw9];exact ho,by simpa[ndS,Ty.size,qau,qar] using hN⟩;simp only[ndS,qam];exact .inr (.inl (by refine⟨by trivial,by trivial,by trivial,by trivial,by trivial,by omega,by omega,.inr ⟨by trivial,.inl (by omega)⟩⟩))
theorem SpO.toNrm {W:Wd} {P:Nat→Nat} {s:Spot} (h:SpO W P s):SpO W P (nrm s)∧op P (nrm s).of≤op P s.of:=by
 by_cases hk:s.of.kind=1
 ·have h1:=h.numOk hk;have h2:=op_nd (P:=P) hk;rw[qly hk];refine⟨SpO.nds (by omega) (by have:=h.sz;omega) (by have:=h.nn;omega),?_⟩;rw[qw9];exact h2
 ·rw[qgb hk];exact⟨h,zl _⟩
structure WdO (W:Wd) (P:Nat→Nat):Prop where
 by_:qcp W
 nm:∀ d,d<W.length→IsNm (dc W d).name∧(dc W d).name≠8∧((dc W d).pkg=0∨(dc W d).pkg=1)∧((dc W d).alias=true→(dc W d).methods=[])
 sp:∀ d,d<W.length→SpO W P (qad W d)
 al:∀ d,d<W.length→(dc W d).alias=true→op P (dc W d).of≤P d
 pos:∀ n,1≤P n
 de:∀ d,d<W.length→qen W d
 len:W.length≤1048576
 bulk:qbw W≤1048576
theorem WdO.of {W:Wd} {P:Nat→Nat} {t:Ty} (hf:qfz W t) (hs:qdx W t P) (hb:qbw W≤1048576) (hN:start W W.length<P W.length):WdO W P:=
 ⟨fun d hd=>(hf.names d hd).2.2.2.1,fun d hd=>⟨(hf.names d hd).1,(hf.names d hd).2.1,(hf.names d hd).2.2.1,(hf.names d hd).2.2.2.2⟩,fun d hd=>SpO.decl hf hs hb hN hd,hs.alias,hs.pos,hf.declared,by have:=qbk W;omega,hb⟩
theorem SpO.toPlain {W:Wd} {P:Nat→Nat} (hW:WdO W P) {s:Spot} (h:SpO W P s):SpO W P (plain W s)∧op P (plain W s).of≤op P s.of:=by
 refine byval_ind' hW.by_ (fun s=>SpO W P s→SpO W P (plain W s)∧op P (plain W s).of≤op P s.of) (fun s hk h => ?_) (fun s hk hn ih h => ?_) s h.numOk h
 ·rw[qbg (fun e=>hk e.1)];exact⟨h,zl _⟩
 ·have hl:s.of.num.toNat<W.length:=by have:=hn hk;omega
  cases ha:(dc W s.of.num.toNat).alias with
  | false=>rw[qbg (fun e=>by rw[ha] at e;cases e.2)];exact⟨h,zl _⟩
  | true=>
   rw[qea hW.by_ hk ha hn];obtain⟨q1,q2⟩:=ih (hW.sp _ hl);have h1:=hW.al _ hl ha;have h2:=op_nd (P:=P) hk;simp only[qad] at q2;exact⟨q1,by simp only[qad];omega⟩
theorem SpO.toUnder {W:Wd} {P:Nat→Nat} (hW:WdO W P) {s:Spot} (h:SpO W P s):SpO W P (under W s):=by
 refine byval_ind' hW.by_ (fun s=>SpO W P s→SpO W P (under W s)) (fun s hk h => ?_) (fun s hk hn ih h => ?_) s h.numOk h
 ·rw[qdu hk];exact h
 ·rw[qdg hW.by_ hk hn];exact ih (hW.sp _ (by have:=hn hk;omega))
theorem SpO.toPl {W:Wd} {P:Nat→Nat} (hW:WdO W P) {s:Spot} (h:SpO W P s):SpO W P (pl W s)∧op P (pl W s).of≤op P s.of:=by
 obtain⟨q1,q2⟩:=h.toPlain hW;obtain⟨q3,q4⟩:=q1.toNrm;exact⟨q3,Nat.le_trans q4 q2⟩
theorem SpO.elem {W:Wd} {P:Nat→Nat} {s:Spot} (h:SpO W P s) (hk:s.of.kind=2∨s.of.kind=3):SpO W P (qaq s)∧op P (qaq s).of<op P s.of:=by
 obtain⟨d,val,hf⟩:=h.fo;obtain⟨e1,e2,e3,e4,e5,e6⟩:=hf.k23 hk;have hop:=op_elem (P:=P) (t:=s.of) (by omega) e5;have h1:=h.sz;have h2:=h.bk;have h3:s.of.el0.bulk≤s.of.bulk:=by
  have hb:=qbd s.of;have hg:=qa6 s.of.elem 0 (by omega);have e:s.of.el0=s.of.elem[0]:=by simp[Ty.el0,e5]
  rw[e];omega
 have h4:s.of.el0.size≤s.of.size:=by
  have e:s.of.elem=[s.of.el0]:=by
   cases hel:s.of.elem with
   | nil=>rw[hel] at e5;simp at e5
   | cons x r=>rw[hel] at e5;cases r with
    | nil=>simp[Ty.el0,hel]
    | cons=>simp at e5
  have:=qkt s.of;rw[e] at this;simp[qau] at this;omega
 have h5:=h.nn;exact⟨⟨h.pp,by simp only[qaq];omega,h.va.elem e5,⟨d,false,e6⟩,by simp only[qaq];omega,by simp only[qaq];omega⟩,hop⟩
theorem SpO.field {W:Wd} {P:Nat→Nat} {s:Spot} (h:SpO W P s) (hk:s.of.kind=4) {i:Nat} (hi:i<s.of.fields.length):SpO W P (qao s i)∧op P (qao s i).of<op P s.of:=by
 obtain⟨d,val,hf⟩:=h.fo;obtain⟨e1,e2,e3,e4,e5⟩:=hf.k4 hk;have hop:=qwe (P:=P) (t:=s.of) (by omega) i hi;have h1:=h.sz;have h2:=h.bk;have hg:s.of.fields.getD i fd0=s.of.fields[i]:=by simp[hi]
 have hb:=qbd s.of;have hb2:=qbx s.of.fields i hi;have hv:=(h.va.fields.get i hi).2;have hff:=(e5.get i hi).2.2;have h4:=qdi s.of.fields i hi;have h5:=qbj s.of.fields (i+1);have h6:=qkt s.of;have h7:=h.nn;refine⟨⟨h.pp,?_,?_,⟨d,val,?_⟩,?_,?_⟩,hop⟩
 ·simp only[qao,hg];omega
 ·simp only[qao,hg];exact hv
 ·simp only[qao,hg];exact hff
 ·simp only[qao];omega
 ·simp only[qao,hg];omega
theorem qcr.emb {W:Wd} {p:Int}:∀ {l prev:List Fd} {at_:Nat},qcr W p prev l at_→∀ i (hi:i<l.length),l[i].embedded=true→qdo W p ⟨l[i].of,at_+qar (l.take i)+1,p⟩
 | [],_,_,_,i,hi,_=>by simp at hi
 | .mk n e t::r,prev,at_,h,0,_,he=>by
  simp only[qcr] at h;simpa[qar,Fd.of] using h.1.2.2 he
 | .mk n e t::r,prev,at_,h,i+1,hi,he=>by
  simp only[qcr] at h;have:=qcr.emb h.2 i (by simpa using hi) he;simp only[zh,List.take_succ_cons,qar];rw[show at_+(1+t.size+qar (r.take i))+1=at_+(1+t.size)+qar (r.take i)+1 by omega];exact this
theorem SpO.embOk {W:Wd} {P:Nat→Nat} {s:Spot} (h:SpO W P s) {i:Nat} (hi:i<s.of.fields.length) (he:(s.of.fields.getD i fd0).embedded=true):qdo W s.pkg (qao s i):=by
 have hg:s.of.fields.getD i fd0=s.of.fields[i]:=by simp[hi]
 rw[hg] at he;have:=h.va.fields.emb i hi he;simp only[qao,hg];exact this
theorem SpO.fnm {W:Wd} {P:Nat→Nat} (hW:WdO W P) {s:Spot} (h:SpO W P s) (hk:s.of.kind=4) {i:Nat} (hi:i<s.of.fields.length):IsNm (fname W (s.of.fields.getD i fd0)):=by
 obtain⟨d,val,hf⟩:=h.fo;obtain⟨e1,e2,e3,e4,e5⟩:=hf.k4 hk;have hg:s.of.fields.getD i fd0=s.of.fields[i]:=by simp[hi]
 obtain⟨q1,q2,q3⟩:=e5.get i hi;rw[hg];unfold Go.Proofs.YtmfhclggkjjcdaaGreatDoor.fname;split
 ·exact q1
 next he=>
  obtain⟨-,q4⟩:=q2 (by simpa using he);rcases q4 with q4|⟨q4,q5,q6⟩
  ·rw[if_neg (by omega)];have:=q3.num1 q4;exact(hW.nm _ (by omega)).1
  ·rw[if_pos q4];have:=(q3.k23 (.inl q4)).2.2.2.2.2.num1 q6;exact(hW.nm _ (by omega)).1
theorem SpO.kinds {W:Wd} {P:Nat→Nat} {s:Spot} (h:SpO W P s):s.of.kind=0∨s.of.kind=1∨s.of.kind=2∨s.of.kind=3∨s.of.kind=4∨s.of.kind=5:=by
 obtain⟨d,val,hf⟩:=h.fo;exact hf.kinds
theorem Below.nxt {F:Fix} {s:St} {w w':World} (hb:Below w.heap.size w w'):Nxt F F s s w w' fun _=>False:=
 ⟨rfl,rfl,fun _ _ h=>h,⟨rfl,rfl,fun _ _ h=>h,fun _ _ h=>h,fun _ h=>h,qa0 hb⟩,fun _=>False,qag.keep hb,fun _ _ _ _ _ _ h=>h⟩
theorem Comp.keep {F:Fix} {st:St} {μ:Spot→Nat} {w0 w w':World} {G:Nat→Prop} {n:Nat} (h:Comp F st μ w0 w G n) (hb:Below w.heap.size w w'):Comp F st μ w0 w' G n:=by
 have hx:CExt F st μ 0 w w':=CExt.keep hb;refine⟨h.ci.ext hx fun b s hm => ?_,fun g hg=>Nat.lt_of_lt_of_le (h.lt g hg) hb.size,fun b s hm => ?_,fun i hi hn => ?_⟩
 ·obtain⟨cs,hc⟩:=h.ci.ifT b s hm;exact⟨cs,hc.keep hb⟩
 ·obtain⟨ra,rc,ea,ec,tso,q1,q2⟩:=h.ok b s hm;refine⟨ra,rc,ea,ec,tso,q1.keep hb,q2.imp id fun⟨ts,l,e,q⟩=>⟨ts,l,e,q.ext h.ci hx fun _ h=>h⟩⟩
 ·obtain⟨ts,hc⟩:=h.done i hi hn;exact⟨ts,(zlb (hb.block _ (zj w _ hc))).trans hc⟩
theorem qm6.keep {F:Fix} {w0:World} {s:St} {w w':World} (h:qm6 F w0 s w) (hb:Below w.heap.size w w'):qm6 F w0 s w':=by
 have n:=Below.nxt (F:=F) (s:=s) hb;obtain⟨G,hG⟩:=h.comp;exact⟨(BExt.keep h.ok hb 0).ok,fun d T x e=>by have:=h.lt d T x e;have:=hb.size;omega,h.inj,fun d hd=>(h.set d hd).next n,h.big,fun b sp hm=>(h.mem b sp hm).mono n.le,G,hG.keep hb⟩
structure Amb (F:Fix) (P:Nat→Nat) (w0:World) (s:St) (w:World):Prop where
 bt:qm6 F w0 s w
 wd:WdO F.W P
 tabs:Tabs w
 nn:F.N≤4194304
 cov:Cov F s w
 N:P F.W.length=F.N+1
theorem Tabs.keep {w w':World} (h:Tabs w) (hb:Below w.heap.size w w'):Tabs w':=Tabs.below h hb
theorem Amb.keep {F:Fix} {P:Nat→Nat} {w0:World} {s:St} {w w':World} (h:Amb F P w0 s w) (hb:Below w.heap.size w w'):Amb F P w0 s w':=
 ⟨h.bt.keep hb,h.wd,h.tabs.keep hb,h.nn,h.cov.keep hb,h.N⟩
abbrev DenW (F:Fix) (s:St) (w:World) (sp:Spot) (v:Value):Prop:=Den (gOf F s (rdT w)) sp v
theorem DenW.keep {F:Fix} {s:St} {w w':World} {sp:Spot} {v:Value} (h:DenW F s w sp v) (hb:Below w.heap.size w w'):DenW F s w' sp v:=Den.mono (Below.nxt (F:=F) (s:=s) hb).le h
structure PlV (F:Fix) (P:Nat→Nat) (s:St) (w:World) (sp:Spot) (v u:Value):Prop where
 plain:qbs w v u
 den:DenW F s w sp u
 spo:SpO F.W P sp
 nal:sp.of.kind=1→(dc F.W sp.of.num.toNat).alias=false
 alB:∀ al,v=qjx al→∃ a b c,Blk w al 182 [a,b,c,u]
theorem qbs.keep {w w':World} {v u:Value} (h:qbs w v u) (hb:Below w.heap.size w w'):qbs w' v u:=by
 obtain⟨h1,h2|⟨al,h2,h3⟩⟩:=h
 ·exact⟨h1,.inl h2⟩
 ·exact⟨h1,.inr ⟨al,h2,(zlb (hb.block _ (zj w _ h3))).trans h3⟩⟩
theorem PlV.keep {F:Fix} {P:Nat→Nat} {s:St} {w w':World} {sp:Spot} {v u:Value} (h:PlV F P s w sp v u) (hb:Below w.heap.size w w'):PlV F P s w' sp v u:=⟨h.plain.keep hb,h.den.keep hb,h.spo,h.nal,fun al e=>(h.alB al e).imp fun a h=>h.imp fun b h=>h.imp fun c h=>h.keep hb⟩
theorem Amb.nd {F:Fix} {P:Nat→Nat} {w0:World} {s:St} {w:World} (h:Amb F P w0 s w) {sp:Spot} {v:Value} (hd:DenW F s w sp v) (hk:sp.of.kind=1) (ha:(dc F.W sp.of.num.toNat).alias=false):
  sp.of.num.toNat<F.W.length∧∃ b tn U ux ra rc fs,v=qdr b∧qbz F s w sp.of.num.toNat b tn U ux ra rc fs:=by
 have htb:F.tb sp.of.num.toNat=some v:=hd.named hk;have hl:=h.bt.big _ _ htb;obtain⟨b,tn,U,ux,ra,rc,fs,q⟩:=(h.bt.set _ hl).nd ha;have e:=q.tb;rw[htb] at e;cases e;exact⟨hl,b,tn,U,ux,ra,rc,fs,rfl,q⟩
theorem Amb.notAl {F:Fix} {P:Nat→Nat} {w0:World} {s:St} {w:World} (h:Amb F P w0 s w) {sp:Spot} {v:Value} (hd:DenW F s w sp v) (ha:sp.of.kind=1→(dc F.W sp.of.num.toNat).alias=false):qgl v:=by
 by_cases hk:sp.of.kind=1
 ·obtain⟨-,b,tn,U,ux,ra,rc,fs,rfl,-⟩:=h.nd hd hk (ha hk);exact⟨_,_,rfl,by decide⟩
 ·obtain⟨T,x,rfl,hT⟩:=Den.lit hd hk;exact⟨T,x,rfl,by rcases hT with rfl|rfl|rfl|rfl|rfl <;> decide⟩
theorem Amb.plainv {F:Fix} {P:Nat→Nat} {w0:World} {s:St} {w:World} (h:Amb F P w0 s w) {sp:Spot} {v:Value} (hd:DenW F s w sp v) (hs:SpO F.W P sp):∃ u,PlV F P s w (pl F.W sp) v u:=by
 have hB:=h.wd.by_;have key:∃ u,qbs w v u∧DenW F s w (plain F.W sp) u∧∀ al,v=qjx al→∃ a b c,Blk w al 182 [a,b,c,u]:=by
  by_cases hal:sp.of.kind=1∧(dc F.W sp.of.num.toNat).alias=true
  ·obtain⟨hk,hal⟩:=hal;have htb:F.tb sp.of.num.toNat=some v:=hd.named hk;have hl:=h.bt.big _ _ htb;obtain⟨al,tn,rhs,u,n,q⟩:=(h.bt.set _ hl).al hal;have e:=q.tb;rw[htb] at e;cases e;refine⟨u,⟨q.nal,.inr ⟨al,rfl,by rw[q.blk.cell];rfl⟩⟩,?_,fun al' e=>by cases e;exact⟨_,_,_,q.blk⟩⟩;rw[qea hB hk hal hs.numOk];exact q.den
  ·have hna:sp.of.kind=1→(dc F.W sp.of.num.toNat).alias=false:=fun hk=>by
    cases e:(dc F.W sp.of.num.toNat).alias with
    | true=>exact absurd ⟨hk,e⟩ hal
    | false=>rfl
   refine⟨v,⟨h.notAl hd hna,.inl rfl⟩,?_,fun al' e => ?_⟩
   ·rw[qbg hal];exact hd
   ·obtain⟨T,x,e2,hT⟩:=h.notAl hd hna;rw[e] at e2;cases e2;exact absurd rfl hT
 obtain⟨u,h1,h2,h3⟩:=key;refine⟨u,h1,Den.nrm h2,(hs.toPl h.wd).1,fun hk => ?_,h3⟩;have hp:=qjj hB hs.numOk;unfold pl at hk ⊢;rw[qmd];exact hp.2 (by rwa [qfn] at hk)
theorem Amb.underv {F:Fix} {P:Nat→Nat} {w0:World} {s:St} {w:World} (h:Amb F P w0 s w) {sp:Spot} {v u:Value} (hv:PlV F P s w sp v u):∃ z,qf7 w v z∧qf7 w u z∧qi6 z∧DenW F s w (under F.W sp) z∧SpO F.W P (under F.W sp):=by
 have hB:=h.wd.by_;have key:∃ z,qg3 w u z∧qi6 z∧DenW F s w (under F.W sp) z:=by
  by_cases hk:sp.of.kind=1
  ·obtain⟨hl,b,tn,U,ux,ra,rc,fs,rfl,q⟩:=h.nd hv.den hk (hv.nal hk);exact⟨_,.inr ⟨b,_,_,_,_,_,_,_,_,_,rfl,rfl,q.blk⟩,q.lit,by rw[qdg hB hk hv.spo.numOk];exact q.den⟩
  ·have hl:=Den.lit hv.den hk;exact⟨u,.inl ⟨hl,rfl⟩,hl,by rw[qdu hk];exact hv.den⟩
 obtain⟨z,h1,h2,h3⟩:=key;refine⟨z,?_,.inl h1,h2,h3,hv.spo.toUnder h.wd⟩;obtain⟨hn,rfl|⟨al,rfl,hc⟩⟩:=hv.plain
 ·exact .inl h1
 ·obtain⟨a,b,c,hal⟩:=hv.alB al rfl;exact .inr ⟨al,u,a,b,c,rfl,hal,h1⟩
theorem Tryz.szNd:(prog.info? 140).map (·.size)=some 10:=by kernel_rfl
theorem Tryz.szTn:(prog.info? 144).map (·.size)=some 4:=by kernel_rfl
theorem Tryz.cmpN:(prog.info? 98).map (·.comparable)=some true:=by kernel_rfl
structure qfw (w:World) (x y tx ty:Nat):Prop where
 bx:∃ cs,Blk w x 140 (.pointer none::ptrV tx::cs)
 by_:∃ cs,Blk w y 140 (.pointer none::ptrV ty::cs)
 btx:∃ cs,Blk w tx 144 cs
 bty:∃ cs,Blk w ty 144 cs
 iff:tx=ty↔x=y
theorem qk9 (x y tx ty:Nat) (w:World) (h:qfw w x y tx ty):Calls prog 157 #[ptrV x,ptrV y] w (qa2 (.bool (x==y)) w):=by
 obtain⟨⟨cx,hx⟩,⟨cy,hy⟩,⟨dx,htx⟩,⟨dy,hty⟩,hi⟩:=h;have x1:=hx.cell 1;have y1:=hy.cell 1;simp only[zu,zt] at x1 y1;obtain⟨j,hj,hj2⟩:=zbb.1 Tryz.szTn;have hq:∀ w':World,Below w.heap.size w w'→(binOp .eql 100 (ptrV tx) (ptrV ty)).run prog w' = .ok (.bool (x==y)) w':=fun w' hb=>by
  by_cases e:x=y
  ·have e2:=hi.2 e;subst e2;rw[run_eql_ptr_same (P:=prog) w' ⟨tx,0,none⟩ underlying100 hj];simp[e]
  ·have e2:tx≠ty:=fun h=>e (hi.1 h);rw[run_eql_ptr_other (P:=prog) w' (a:=⟨tx,0,none⟩) (b:=⟨ty,0,none⟩) underlying100 hj (by rw[hj2];decide) (by first|(simp;done)|simpa using e2) (htx.keep hb) (hty.keep hb)];simp[e]
 have hq0:=hq w (zp _ _);have hq1:=fun n=>hq (w.drewN n) ⟨rfl,rfl,rfl,zl _,fun _ _=>rfl⟩
 generalize (x==y)=r at hq hq0 hq1 ⊢
 clear hx hy htx hty hi hq;go_enter func157,ntmps157
 go_wp2_with fail
 go_quiet (fail)
 go_wp2_with fail
 go_ret
 exact⟨rfl,⟨rfl,rfl,rfl,zl _,fun _ _=>rfl⟩⟩
theorem Tryz.zs273:(prog.info? 156).map (·.zero)=some (some (.pointer none)):=by kernel_rfl
theorem Tryz.zsArr:(prog.info? 300).map (·.zero)=some (some (.pointer none)):=by kernel_rfl
theorem Tryz.zsSl:(prog.info? 147).map (·.zero)=some (some (.pointer none)):=by kernel_rfl
theorem Tryz.zsSt:(prog.info? 153).map (·.zero)=some (some (.pointer none)):=by kernel_rfl
theorem Tryz.zsPt:(prog.info? 145).map (·.zero)=some (some (.pointer none)):=by kernel_rfl
theorem Tryz.zsTu:(prog.info? 197).map (·.zero)=some (some (.pointer none)):=by kernel_rfl
theorem Tryz.zsSg:(prog.info? 162).map (·.zero)=some (some (.pointer none)):=by kernel_rfl
theorem Tryz.zsUn:(prog.info? 271).map (·.zero)=some (some (.pointer none)):=by kernel_rfl
theorem Tryz.zsIf:(prog.info? 112).map (·.zero)=some (some (.pointer none)):=by kernel_rfl
theorem Tryz.zsMp:(prog.info? 311).map (·.zero)=some (some (.pointer none)):=by kernel_rfl
theorem Tryz.zsCh:(prog.info? 315).map (·.zero)=some (some (.pointer none)):=by kernel_rfl
theorem qc9 (T U:TypeId) (a b:Value) (t:TypeId) (p q:Operand) (w:World):(eqGuard .eql t p q (.iface T a) (.iface U b)).run prog w = .ok () w:=rfl
theorem qq1 (x y tx ty:Nat) (w:World) (h:qfw w x y tx ty):(binOp .eql 63 (.iface 98 (ptrV x)) (.iface 98 (ptrV y))).run prog w = .ok (.bool (x==y)) w:=by
 obtain⟨j,hj,hj2⟩:=zbb.1 Tryz.szNd;obtain⟨cn,hcn,hcn2⟩:=zbb.1 Tryz.cmpN;obtain⟨⟨cx,hx⟩,⟨cy,hy⟩,-⟩:=h;by_cases e:x=y
 ·subst e;exact(qd2 w underlying63 underlying98 hj hcn hcn2 _).trans (by simp)
 ·exact(qdn w (a:=⟨x,0,none⟩) (b:=⟨y,0,none⟩) underlying63 underlying98 hj (by rw[hj2];decide) hcn hcn2 (fun h=>e (by cases h;rfl)) hx hy).trans (by simp[e])
theorem qkr (cp:Nat) (x y tx ty:Nat) (w:World) (h:qfw w x y tx ty) (hcp:w.cell? ⟨cp,1,none⟩=some (.bool false)) (p:Option Addr):Calls prog 125 #[ptrV cp,.iface 98 (ptrV x),.iface 98 (ptrV y),.pointer p] w (qa2 (.bool (x==y)) w):=by
 have hx:=hid (qfl (.iface 98 (ptrV x)) ⟨_,_,rfl,by decide⟩ w);have hy:=hid (qfl (.iface 98 (ptrV y)) ⟨_,_,rfl,by decide⟩ w);have hn:=hid (qfg (.iface 98 (ptrV y)) ⟨y,0,none⟩ w ⟨⟨_,_,rfl,by decide⟩,.inl rfl⟩);have HO:=hid (qk9 x y tx ty w h);have he:=qq1 x y tx ty w h;have heg:=fun p q=>qc9 98 98 (ptrV x) (ptrV y) 63 p q w;have t1:=fun v w=>qaw (T:=98) underlying156 Tryz.zs273 (by decide) v w;have t2:=fun v w=>qaw (T:=98) underlying300 Tryz.zsArr (by decide) v w;have t3:=fun v w=>qaw (T:=98) underlying147 Tryz.zsSl (by decide) v w;have t4:=fun v w=>qaw (T:=98) underlying153 Tryz.zsSt (by decide) v w;have t5:=fun v w=>qaw (T:=98) underlying145 Tryz.zsPt (by decide) v w;have t6:=fun v w=>qaw (T:=98) underlying197 Tryz.zsTu (by decide) v w;have t7:=fun v w=>qaw (T:=98) underlying162 Tryz.zsSg (by decide) v w;have t8:=fun v w=>qaw (T:=98) underlying271 Tryz.zsUn (by decide) v w;have t9:=fun v w=>qaw (T:=98) underlying112 Tryz.zsIf (by decide) v w;have t10:=fun v w=>qaw (T:=98) underlying311 Tryz.zsMp (by decide) v w;have t11:=fun v w=>qaw (T:=98) underlying315 Tryz.zsCh (by decide) v w;have t12:=fun v w=>qb5 underlying98 v w;have hcl:=zj w _ hcp;clear h;cases hxy:(x==y) with
 | true=>
  rw[hxy] at he HO;clear hxy;have tok:True:=trivial;go_enter func125,ntmps125
  go_wp2_with (first
   | (go_at_call 86;have _t:=tok;clear _t tok;refine hx.out.mono ?_;rintro e w' ⟨rfl,rfl⟩)
   | (go_at_call 86;refine hy.out.mono ?_;rintro e w' ⟨rfl,rfl⟩))
  go_ret
  exact⟨rfl,zp _ _⟩
 | false=>
  rw[hxy] at he HO;clear hxy;have tok:True:=trivial;go_enter func125,ntmps125
  go_wp2_with (first
   | (go_at_call 86;have _t:=tok;clear _t tok;refine hx.out.mono ?_;rintro e w' ⟨rfl,rfl⟩)
   | (go_at_call 86;refine hy.out.mono ?_;rintro e w' ⟨rfl,rfl⟩)
   | (go_at_call 61;refine hn.out.mono ?_;rintro e w' ⟨rfl,rfl⟩)
   | (go_at_call 157;refine HO.out.mono ?_;rintro e w' ⟨rfl,hb⟩;have Hb:=hid hb;clear hb))
  go_ret
  exact⟨rfl,Hb.out⟩
def qgx (w:World) (r:Nat) (L:List (Nat×Value)):Prop:=∃ es clock,w.heap[r]?=some (.map es clock)∧es.toList.map (fun e=>(e.key,e.val))=L.map fun x=>(Value.pointer (some ⟨x.1,0,none⟩),x.2)
theorem qgx.lt {w:World} {r:Nat} {L:List (Nat×Value)} (h:qgx w r L):r<w.heap.size:=by
 obtain⟨es,c,h,-⟩:=h;exact(zab.1 h).1
theorem qgx.apart {S:Nat→Prop} {w w':World} {r:Nat} {L:List (Nat×Value)} (h:qgx w r L) (ha:qag S w w') (hr:¬ S r):qgx w' r L:=by
 have hl:=h.lt;obtain⟨es,c,h,hL⟩:=h;exact⟨es,c,(ha.block r hl hr).trans h,hL⟩
theorem qgx.new (w:World) (c:Nat):qgx (w.alloc (.map #[] c)) w.heap.size []:=⟨#[],c,by show(w.heap.push _)[w.heap.size]?=_;exact Array.getElem?_push_size,rfl⟩
def getP (L:List (Nat×Value)) (k:Nat):Option Value:=(L.find? fun x=>x.1==k).map (·.2)
section
variable {P:Program} {t kt et:TypeId} {te:TypeId} {j:TypeInfo} {z:Value}
theorem qkl (w:World) (a:Addr) (hp:P.underlying kt=some (.pointer te)) (hte:P.info? te=some j):(Op.equal kt (.pointer (some a)) (.pointer (some a))).run P w = .ok true w:=by
 have h:∀ d:Nat,(Op.equalIn (d+1) kt (.pointer (some a)) (.pointer (some a))).run P w = .ok true w:=fun d=>by
  simp[Op.equalIn,run_underlying hp,sizeOf,typeInfo,hte,run_sameAddr_same]
 simp[Op.equal,Op.maxDepth,h 9999]
theorem qg0 (w:World) {f:Nat} {cf:Array Value} {tf:TypeId} (hp:P.underlying kt=some (.pointer te)) (hte:P.info? te=some j) (hsz:j.size≠0) (hf:w.heap[f]?=some (.cells cf tf (0,0))):
  ∀ (l:List MapEntry) (L:List (Nat×Value)) (i:Nat),l.map (fun e=>(e.key,e.val))=L.map (fun x=>(Value.pointer (some ⟨x.1,0,none⟩),x.2))→(∀ x∈L,∃ cg tg,w.heap[x.1]?=some (.cells cg tg (0,0)))→
   ∃ o,(Instr.findAsking kt (.pointer (some ⟨f,0,none⟩)) l i).run P w = .ok o w∧(getP L f=none∧o=none∨∃ v n,getP L f=some v∧o=some (n,v))
 | [],[],i,h,hg=>⟨none,by simp[Instr.findAsking],.inl ⟨rfl,rfl⟩⟩
 | [],x::L,i,h,hg=>by simp at h
 | e::l,[],i,h,hg=>by simp at h
 | e::l,(g,v)::L,i,h,hg=>by
  simp only[List.map_cons,List.cons.injEq,Prod.mk.injEq] at h;obtain⟨⟨h1,h2⟩,h3⟩:=h;by_cases hfg:f=g
  ·subst hfg;have q:=qkl (P:=P) w ⟨f,0,none⟩ hp hte;exact⟨some (i,v),by simp[Instr.findAsking,h1,q,h2],.inr ⟨v,i,by simp[getP],rfl⟩⟩
  ·obtain⟨cg,tg,hgb⟩:=hg _ (z6 ..);have q:=qgf (P:=P) w (a:=⟨f,0,none⟩) (b:=⟨g,0,none⟩) hp hte hsz (by first|(simp;done)|simpa using hfg) hf hgb;obtain⟨o,r1,r2⟩:=qg0 w hp hte hsz hf l L (i+1) h3 fun x hx=>hg x (zy _ hx);have hgf:(g==f)=false:=by simp;exact fun e=>hfg e.symm
   refine⟨o,by simp[Instr.findAsking,h1,q,r1],?_⟩;simpa[getP,hgf] using r2
theorem qhv (w:World) (b:Bool) (f:Nat) (hp:P.underlying kt=some (.pointer te)):(Instr.checkKey b 10000 kt (.pointer (some ⟨f,0,none⟩))).run P w = .ok () w:=by
 have h0:∀ n,(Instr.checkKey b (n+1) kt (.pointer (some ⟨f,0,none⟩))).run P w = .ok () w:=fun n=>by simp[Instr.checkKey,run_underlying hp]
 exact h0 9999
theorem qkb (w:World) {f:Nat} {cf:Array Value} {tf:TypeId} (hp:P.underlying kt=some (.pointer te)) (hte:P.info? te=some j) (hsz:j.size≠0) (hf:w.heap[f]?=some (.cells cf tf (0,0))) (l:List MapEntry) (L:List (Nat×Value)) (h:l.map (fun e=>(e.key,e.val))=L.map (fun x=>(Value.pointer (some ⟨x.1,0,none⟩),x.2))) (hg:∀ x∈L,∃ cg tg,w.heap[x.1]?=some (.cells cg tg (0,0))):
  ∃ o,(Instr.findKey kt (.pointer (some ⟨f,0,none⟩)) l).run P w = .ok o w∧(getP L f=none∧o=none∨∃ v n,getP L f=some v∧o=some (n,v)):=by
 obtain⟨o,h2,h3⟩:=qg0 (P:=P) w hp hte hsz hf l L 0 h hg;refine⟨o,?_,h3⟩;unfold Instr.findKey;cases l with
 | nil=>
  have:o=none:=by simp[Instr.findAsking] at h2;exact h2.symm
  subst this;simp[run_underlying hp,Instr.findNow]
 | cons e l=>simp[run_underlying hp,Instr.findNow,Instr.sameNow,h2]
theorem qex (w:World) (ht:P.underlying t=some (.map kt et)) (hp:P.underlying kt=some (.pointer te)) (hte:P.info? te=some j) (hsz:j.size≠0) (hz:(P.info? et).map (·.zero)=some (some z)) {r:Nat} {L:List (Nat×Value)} (h:qgx w r L) (f:Nat)
  {cf:Array Value} {tf:TypeId} (hf:w.heap[f]?=some (.cells cf tf (0,0))) (hg:∀ x∈L,∃ cg tg,w.heap[x.1]?=some (.cells cg tg (0,0))):
  (Instr.lookup t (.map (some r)) (.pointer (some ⟨f,0,none⟩)) false).run P w = .ok ((getP L f).getD z) w:=by
 obtain⟨es,c,hb,hL⟩:=h;obtain⟨jj,hj,hz'⟩:=zbb.1 hz;obtain⟨o,h2,⟨h1,rfl⟩|⟨v,n,h1,rfl⟩⟩:=qkb (P:=P) w hp hte hsz hf es.toList L hL hg
 ·simp[Instr.lookup,run_underlying ht,MapKept.run_getObj_map hb,qhv w _ f hp,h2,h1,Result.andThen,zeroValue,hj,hz',typeInfo]
 ·simp[Instr.lookup,run_underlying ht,MapKept.run_getObj_map hb,qhv w _ f hp,h2,h1,Result.andThen]
theorem qhh (w:World) (ht:P.underlying t=some (.map kt et)) (hp:P.underlying kt=some (.pointer te)) (hz:(P.info? et).map (·.zero)=some (some z)) (f:Nat):
  (Instr.lookup t (.map none) (.pointer (some ⟨f,0,none⟩)) false).run P w = .ok z w:=by
 obtain⟨jj,hj,hz'⟩:=zbb.1 hz;simp[Instr.lookup,run_underlying ht,qhv w _ f hp,Instr.findKey,run_underlying hp,Instr.findNow,Result.andThen,zeroValue,hj,hz',typeInfo]
theorem qjo (w:World) (ht:P.underlying t=some (.map kt et)) (hp:P.underlying kt=some (.pointer te)) (hte:P.info? te=some j) (hsz:j.size≠0) {r:Nat} {L:List (Nat×Value)} (h:qgx w r L) (f:Nat) (v:Value) (hn:getP L f=none)
  {cf:Array Value} {tf:TypeId} (hf:w.heap[f]?=some (.cells cf tf (0,0))) (hg:∀ x∈L,∃ cg tg,w.heap[x.1]?=some (.cells cg tg (0,0))):
  ∃ w',(Instr.mapUpdate t (.map (some r)) (.pointer (some ⟨f,0,none⟩)) v).run P w = .ok () w'∧qgx w' r (L++[(f,v)])∧qah (fun b=>b=r) w w':=by
 obtain⟨es,c,hb,hL⟩:=h;obtain⟨o,h2,⟨h1,rfl⟩|⟨v',n,h1,rfl⟩⟩:=qkb (P:=P) w hp hte hsz hf es.toList L hL hg
 ·have hrun:(Instr.mapUpdate t (.map (some r)) (.pointer (some ⟨f,0,none⟩)) v).run P w = .ok () { w with heap:=w.heap.setIfInBounds r (.map (es.push { key := .pointer (some ⟨f,0,none⟩),val:=v,born:=c }) (c+1)) }:=by
   simp[Instr.mapUpdate,run_underlying ht,MapKept.run_getObj_map hb,qhv w _ f hp,h2,MapKept.run_setObj_map _ hb,Result.andThen]
  have hlt:r<w.heap.size:=(zab.1 hb).1;refine⟨_,hrun,⟨es.push { key := .pointer (some ⟨f,0,none⟩),val:=v,born:=c },c+1,by simp[hlt],?_⟩,⟨rfl,rfl,rfl,⟨by simp,fun b hb' hs => ?_⟩⟩⟩
  ·rw[Array.toList_push,List.map_append,hL,List.map_append];rfl
  ·simp only;rw[Array.getElem?_setIfInBounds,if_neg (fun e=>hs e.symm)]
 ·rw[hn] at h1;cases h1
theorem qep (w:World) {ops:Array Oper} {rest:List Oper} {o:Oper} {a:Act} {Q:Exit→Act→World→Prop} (hgd:o.guard=none) (m x v:Operand) (hop:o.op=Op.mapUpdate t m x v)
  (ht:P.underlying t=some (.map kt et)) (hp:P.underlying kt=some (.pointer te)) (hte:P.info? te=some j) (hsz:j.size≠0) {r:Nat} {L:List (Nat×Value)} (hm:a.eval m = .map (some r)) (h:qgx w r L) (f:Nat) (hx:a.eval x = .pointer (some ⟨f,0,none⟩)) (val:Value) (hv:a.eval v=val) (hn:getP L f=none)
  {cf:Array Value} {tf:TypeId} (hf:w.heap[f]?=some (.cells cf tf (0,0))) (hg:∀ x∈L,∃ cg tg,w.heap[x.1]?=some (.cells cg tg (0,0)))
  (hK:∀ w',qgx w' r (L++[(f,val)])→qah (fun b=>b=r) w w'→wpList P ops Q rest (a.put o.dst undef) w'):wpList P ops Q (o::rest) a w:=by
 refine wpList_plain hgd fun K' hK' => ?_;obtain⟨w',hrun,r1,r2⟩:=qjo (P:=P) w ht hp hte hsz h f val hn hf hg;unfold Oper.wp;simp[execOp,hop,hm,hx,hv,hrun,Result.andThen];exact hK' _ _ (hK w' r1 r2)
end
def KeyT (T:TypeId):Prop:=T=156∨T=145∨T=147∨T=153∨T=112∨T=98∨T=103
theorem Tryz.kyB:(prog.info? 203).map (fun i=>i.size != 0)=some true∧(prog.info? 156).map (·.comparable)=some true:=⟨by kernel_rfl,by kernel_rfl⟩
theorem Tryz.kyP:(prog.info? 185).map (fun i=>i.size != 0)=some true∧(prog.info? 145).map (·.comparable)=some true:=⟨by kernel_rfl,by kernel_rfl⟩
theorem Tryz.kyS:(prog.info? 187).map (fun i=>i.size != 0)=some true∧(prog.info? 147).map (·.comparable)=some true:=⟨by kernel_rfl,by kernel_rfl⟩
theorem Tryz.kySt:(prog.info? 196).map (fun i=>i.size != 0)=some true∧(prog.info? 153).map (·.comparable)=some true:=⟨by kernel_rfl,by kernel_rfl⟩
theorem Tryz.kyI:(prog.info? 175).map (fun i=>i.size != 0)=some true∧(prog.info? 112).map (·.comparable)=some true:=⟨by kernel_rfl,by kernel_rfl⟩
theorem Tryz.kyN:(prog.info? 140).map (fun i=>i.size != 0)=some true∧(prog.info? 98).map (·.comparable)=some true:=⟨by kernel_rfl,by kernel_rfl⟩
theorem Tryz.kyA:(prog.info? 182).map (fun i=>i.size != 0)=some true∧(prog.info? 103).map (·.comparable)=some true:=⟨by kernel_rfl,by kernel_rfl⟩
theorem qos {T:TypeId} (h:KeyT T):∃ te j i,prog.underlying T=some (.pointer te)∧prog.info? te=some j∧j.size≠0∧prog.info? T=some i∧i.comparable=true:=by
 have key:∀ {te:TypeId},prog.underlying T=some (.pointer te)→((prog.info? te).map (fun i=>i.size != 0)=some true∧(prog.info? T).map (·.comparable)=some true)→∃ te j i,prog.underlying T=some (.pointer te)∧prog.info? te=some j∧j.size≠0∧prog.info? T=some i∧i.comparable=true:=fun hu h=>by
  obtain⟨j,h1,h2⟩:=zbb.1 h.1;obtain⟨i,h3,h4⟩:=zbb.1 h.2;exact⟨_,j,i,hu,h1,by simpa using h2,h3,h4⟩
 rcases h with rfl|rfl|rfl|rfl|rfl|rfl|rfl
 ·exact key underlying156 Tryz.kyB
 ·exact key underlying145 Tryz.kyP
 ·exact key underlying147 Tryz.kyS
 ·exact key underlying153 Tryz.kySt
 ·exact key underlying112 Tryz.kyI
 ·exact key underlying98 Tryz.kyN
 ·exact key underlying103 Tryz.kyA
abbrev tyV (x:TypeId×Nat):Value := .iface x.1 (ptrV x.2)
structure TyIn (w:World) (x:TypeId×Nat):Prop where
 key:KeyT x.1
 blk:∃ U cs,Blk w x.2 U cs
theorem TyIn.keep {w w':World} {x:TypeId×Nat} (h:TyIn w x) (hb:Below w.heap.size w w'):TyIn w' x:=by
 obtain⟨U,cs,h1⟩:=h.blk;exact⟨h.key,U,cs,h1.keep hb⟩
theorem qiy (w:World) (x y:TypeId×Nat) (hx:TyIn w x) (hy:TyIn w y):(Op.equal 63 (tyV x) (tyV y)).run prog w = .ok (x==y) w:=by
 obtain⟨T,b⟩:=x;obtain⟨U,c⟩:=y;have hI:∃ m,prog.underlying 63=some (.interface m):=⟨_,underlying63⟩;obtain⟨m,hm⟩:=hI;by_cases hTU:T=U
 ·subst hTU;obtain⟨te,j,i,h1,h2,h3,h4,h5⟩:=qos hx.key;have hcore:∀ r:Bool,(∀ d:Nat,(Op.equalIn (d+1) T (ptrV b) (ptrV c)).run prog w = .ok r w)→(Op.equal 63 (tyV (T,b)) (tyV (T,c))).run prog w = .ok r w:=fun r hr=>by
   have h':∀ d:Nat,(Op.equalIn (d+2) 63 (.iface T (ptrV b)) (.iface T (ptrV c))).run prog w = .ok r w:=fun d=>by
    rw[show d+2=(d+1)+1 from rfl]
    conv=>lhs;unfold Op.equalIn
    simp[run_underlying hm,hr,typeInfo,h4,h5]
   simp[Op.equal,Op.maxDepth,h' 9998]
  by_cases hbc:b=c
  ·subst hbc;have:=hcore true fun d=>by simp[Op.equalIn,run_underlying h1,sizeOf,typeInfo,h2,run_sameAddr_same]
   simpa using this
  ·obtain⟨U1,c1,k1⟩:=hx.blk;obtain⟨U2,c2,k2⟩:=hy.blk;have hne:(⟨b,0,none⟩:Addr)≠⟨c,0,none⟩:=fun e=>hbc (by cases e;rfl);have:=hcore false fun d=>by simp[Op.equalIn,run_underlying h1,sizeOf,typeInfo,h2,h3,run_sameAddr_other w hne k1 k2]
   have e:((T,b)==(T,c))=false:=by simp[hbc]
   rw[e];exact this
 ·have h':∀ d:Nat,(Op.equalIn (d+1) 63 (.iface T (ptrV b)) (.iface U (ptrV c))).run prog w = .ok false w:=fun d=>by
   simp[Op.equalIn,run_underlying hm,hTU]
  have e:((T,b)==(U,c))=false:=by simp[hTU]
  rw[e];simp[Op.equal,Op.maxDepth,h' 9999]
structure IMap (w:World) (r:Nat) (L:List ((TypeId×Nat)×Nat)):Prop where
 ex:∃ es clock,w.heap[r]?=some (.map es clock)∧es.toList.map (fun e=>(e.key,e.val))=L.map (fun x=>(tyV x.1,Value.int .i64 x.2))∧(∀ e∈es.toList,e.born<clock)∧(es.toList.map (·.born)).Nodup
theorem IMap.lt {w:World} {r:Nat} {L:List ((TypeId×Nat)×Nat)} (h:IMap w r L):r<w.heap.size:=by
 obtain⟨es,c,h,-⟩:=h.ex;exact(zab.1 h).1
theorem IMap.apart {S:Nat→Prop} {w w':World} {r:Nat} {L:List ((TypeId×Nat)×Nat)} (h:IMap w r L) (ha:qag S w w') (hr:¬ S r):IMap w' r L:=by
 have hl:=h.lt;obtain⟨es,c,h,hL⟩:=h.ex;exact⟨es,c,(ha.block r hl hr).trans h,hL⟩
theorem IMap.new (w:World) (c:Nat):IMap (w.alloc (.map #[] c)) w.heap.size []:=⟨#[],c,by show(w.heap.push _)[w.heap.size]?=_;exact Array.getElem?_push_size,rfl,fun e h=>by simp at h,List.nodup_nil⟩
def getT (L:List ((TypeId×Nat)×Nat)) (k:TypeId×Nat):Option Nat:=(L.find? fun x=>x.1==k).map (·.2)
theorem qhw (w:World) (k:TypeId×Nat) (hk:TyIn w k):∀ (l:List MapEntry) (L:List ((TypeId×Nat)×Nat)) (i:Nat),l.map (fun e=>(e.key,e.val))=L.map (fun x=>(tyV x.1,Value.int .i64 x.2))→(∀ x∈L,TyIn w x.1)→
   ∃ o,(Instr.findAsking 63 (tyV k) l i).run prog w = .ok o w∧(getT L k=none∧o=none∨∃ v n,getT L k=some v∧o=some (n,.int .i64 v))
 | [],[],i,h,hg=>⟨none,by simp[Instr.findAsking],.inl ⟨rfl,rfl⟩⟩
 | [],x::L,i,h,hg=>by simp at h
 | e::l,[],i,h,hg=>by simp at h
 | e::l,(g,v)::L,i,h,hg=>by
  simp only[List.map_cons,List.cons.injEq,Prod.mk.injEq] at h;obtain⟨⟨h1,h2⟩,h3⟩:=h;have q:=qiy w k g hk (hg _ (z6 ..));by_cases hfg:k=g
  ·subst hfg;simp only[BEq.rfl] at q;exact⟨some (i,.int .i64 v),by simp[Instr.findAsking,h1,q,h2],.inr ⟨v,i,by simp[getT],rfl⟩⟩
  ·have e1:(k==g)=false:=by simpa using hfg
   rw[e1] at q;obtain⟨o,r1,r2⟩:=qhw w k hk l L (i+1) h3 fun x hx=>hg x (zy _ hx);have hgf:(g==k)=false:=by simp;exact fun e=>hfg e.symm
   refine⟨o,by simp[Instr.findAsking,h1,q,r1],?_⟩;simpa[getT,hgf] using r2
theorem ql7 (w:World) (b:Bool) (k:TypeId×Nat) (hk:TyIn w k):(Instr.checkKey b 10000 63 (tyV k)).run prog w = .ok () w:=by
 obtain⟨te,j,i,h1,h2,h3,h4,h5⟩:=qos hk.key;have hI:∃ m,prog.underlying 63=some (.interface m):=⟨_,underlying63⟩;obtain⟨m,hm⟩:=hI;have h0:∀ n,(Instr.checkKey b (n+1) k.1 (ptrV k.2)).run prog w = .ok () w:=fun n=>by simp[Instr.checkKey,run_underlying h1]
 have h':∀ n,(Instr.checkKey b (n+2) 63 (tyV k)).run prog w = .ok () w:=fun n=>by
  rw[show n+2=(n+1)+1 from rfl]
  conv=>lhs;unfold Instr.checkKey
  simp[run_underlying hm,typeInfo,h4,h5,h0]
 exact h' 9998
theorem qlx (w:World) (k:TypeId×Nat) (hk:TyIn w k) (l:List MapEntry) (L:List ((TypeId×Nat)×Nat)) (h:l.map (fun e=>(e.key,e.val))=L.map (fun x=>(tyV x.1,Value.int .i64 x.2))) (hg:∀ x∈L,TyIn w x.1):
  ∃ o,(Instr.findKey 63 (tyV k) l).run prog w = .ok o w∧(getT L k=none∧o=none∨∃ v n,getT L k=some v∧o=some (n,.int .i64 v)):=by
 obtain⟨o,h2,h3⟩:=qhw w k hk l L 0 h hg;have hI:∃ m,prog.underlying 63=some (.interface m):=⟨_,underlying63⟩;obtain⟨m,hm⟩:=hI;refine⟨o,?_,h3⟩;unfold Instr.findKey;cases l with
 | nil=>
  have:o=none:=by simp[Instr.findAsking] at h2;exact h2.symm
  subst this;simp[run_underlying hm,Instr.findNow]
 | cons e l=>simp[run_underlying hm,Instr.findNow,Instr.sameNow,h2]
theorem Tryz.ziInt:(prog.info? 3).map (·.zero)=some (some (.int .i64 0)):=by kernel_rfl
def lkT (o:Option Nat):Value := .tuple #[.int .i64 (o.getD 0:Nat),.bool o.isSome]
theorem qmy (w:World) {r:Nat} {L:List ((TypeId×Nat)×Nat)} (h:IMap w r L) (k:TypeId×Nat) (hk:TyIn w k) (hg:∀ x∈L,TyIn w x.1):
  (Instr.lookup 284 (.map (some r)) (tyV k) true).run prog w = .ok (lkT (getT L k)) w:=by
 obtain⟨es,c,hb,hL,-⟩:=h.ex;obtain⟨jj,hj,hz'⟩:=zbb.1 Tryz.ziInt;obtain⟨o,h2,⟨h1,rfl⟩|⟨v,n,h1,rfl⟩⟩:=qlx w k hk es.toList L hL hg
 ·simp[Instr.lookup,run_underlying underlying284,MapKept.run_getObj_map hb,ql7 w _ k hk,h2,h1,Result.andThen,zeroValue,hj,hz',typeInfo,lkT]
 ·simp[Instr.lookup,run_underlying underlying284,MapKept.run_getObj_map hb,ql7 w _ k hk,h2,h1,Result.andThen,lkT]
theorem qm7 (w:World) {r:Nat} {L:List ((TypeId×Nat)×Nat)} (h:IMap w r L) (k:TypeId×Nat) (v:Nat) (hn:getT L k=none) (hk:TyIn w k) (hg:∀ x∈L,TyIn w x.1):
  ∃ w',(Instr.mapUpdate 284 (.map (some r)) (tyV k) (.int .i64 v)).run prog w = .ok () w'∧IMap w' r (L++[(k,v)])∧qah (fun b=>b=r) w w':=by
 obtain⟨es,c,hb,hL,hbo,hnd⟩:=h.ex;obtain⟨o,h2,⟨h1,rfl⟩|⟨v',n,h1,rfl⟩⟩:=qlx w k hk es.toList L hL hg
 ·have hrun:(Instr.mapUpdate 284 (.map (some r)) (tyV k) (.int .i64 v)).run prog w = .ok () { w with heap:=w.heap.setIfInBounds r (.map (es.push { key:=tyV k,val := .int .i64 v,born:=c }) (c+1)) }:=by
   simp[Instr.mapUpdate,run_underlying underlying284,MapKept.run_getObj_map hb,ql7 w _ k hk,h2,MapKept.run_setObj_map _ hb,Result.andThen]
  have hlt:r<w.heap.size:=(zab.1 hb).1;refine⟨_,hrun,⟨es.push { key:=tyV k,val := .int .i64 v,born:=c },c+1,by simp[hlt],?_,?_,?_⟩,⟨rfl,rfl,rfl,⟨by simp,fun b hb' hs => ?_⟩⟩⟩
  ·rw[Array.toList_push,List.map_append,hL,List.map_append];rfl
  ·intro e he;rw[Array.toList_push] at he;rcases zib.1 he with he|he
   ·have:=hbo e he;omega
   ·rw[zfb.1 he];exact zw c
  ·rw[Array.toList_push,List.map_append,List.nodup_append];refine⟨hnd,by simp,fun a ha b hb2 => ?_⟩;obtain⟨e,he,rfl⟩:=zkb.1 ha;simp only[List.map_cons,List.map_nil,zfb] at hb2;have:=hbo e he;omega
  ·simp only;rw[Array.getElem?_setIfInBounds,if_neg (fun e=>hs e.symm)]
 ·rw[hn] at h1;cases h1
section
variable {P:Program}
theorem qi5 (w:World) {ops:Array Oper} {rest:List Oper} {o:Oper} {a:Act} {Q:Exit→Act→World→Prop} (hgd:o.guard=none) (m x v:Operand) (hop:o.op=Op.mapUpdate 284 m x v)
  {r:Nat} {L:List ((TypeId×Nat)×Nat)} (hm:a.eval m = .map (some r)) (h:IMap w r L) (k:TypeId×Nat) (hx:a.eval x=tyV k) (val:Nat) (hv:a.eval v = .int .i64 val) (hn:getT L k=none) (hk:TyIn w k) (hg:∀ x∈L,TyIn w x.1)
  (hK:∀ w',IMap w' r (L++[(k,val)])→qah (fun b=>b=r) w w'→wpList prog ops Q rest (a.put o.dst undef) w'):wpList prog ops Q (o::rest) a w:=by
 refine wpList_plain hgd fun K' hK' => ?_;obtain⟨w',hrun,r1,r2⟩:=qm7 w h k val hn hk hg;unfold Oper.wp;simp[execOp,hop,hm,hx,hv,hrun,Result.andThen];exact hK' _ _ (hK w' r1 r2)
end
