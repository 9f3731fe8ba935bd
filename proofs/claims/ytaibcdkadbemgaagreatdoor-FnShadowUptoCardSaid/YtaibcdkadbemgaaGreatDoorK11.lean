import Derived.Test.YtaibcdkadbemgaaGreatDoorK10
import Derived.Test.YtaibcdkadbemgaaGreatDoorK01
import Derived.Deep.QuietTactic
import Derived.BigQuiet
import Derived.Test.YtaibcdkadbemgaaGreatDoorK09
import Derived.MapKept
import Derived.Test.YtaibcdkadbemgaaGreatDoorK04
import Derived.Deep.RegionWith
import Derived.Test.YtaibcdkadbemgaaGreatDoorProg
import Derived.OwnWalk
set_option linter.all false
set_option maxHeartbeats 2000000
namespace Go.Proofs.YtaibcdkadbemgaaGreatDoor
open Go Go.RowKit
def qd6 (s:St) (k:Nat) (x:Bool×Nat):St:={ s with ob:=fun j=>if j=k then some x else s.ob j }
theorem BExt.put {F:Fix} {s:St} {w:World} (h:BOk F s w) {k:Nat} (hk:k<F.N) (hn:s.ob k=none) (f:Bool) (x:Nat) (hx:x<w.heap.size) (hnew:∀ j y,s.ob j=some y→y.2≠x):
  BExt F s w (qd6 s k (f,x)) (w.setCell ⟨F.ob0,k,none⟩ (objV (some (f,x)))) k (k+1):=by
 obtain⟨os,o1,o2⟩:=h.obj;have hA:qag (fun b=>b=F.ob0) w (w.setCell ⟨F.ob0,k,none⟩ (objV (some (f,x)))):=qag.setCell (fun b=>b=F.ob0) w (a:=⟨F.ob0,k,none⟩) rfl _;have hne:∀ {b:Nat} {T:TypeId} {cs:List Value},Blk w b T cs→T≠67→¬ b=F.ob0:=fun hb hT e=>hb.tne o1 hT e;obtain⟨ts,t1,t2⟩:=h.typ;refine⟨⟨h.bld.apart hA (hne h.bld (by decide)),h.prB.apart hA (hne h.prB (by decide)),h.pk0B.apart hA (hne h.pk0B (by decide)),h.pk1B.apart hA (hne h.pk1B (by decide)),⟨ts,t1.apart hA (hne t1 (by decide)),t2⟩,
  ⟨os.set k (objV (some (f,x))),o1.set k _,fun j hj => ?_⟩,qab h.ifr hA fun g hg e=>by obtain⟨cs,hc⟩:=h.rowT hg;exact hne hc (by decide) e,fun j g y e => ?_,fun i j y z e1 e2 e3 => ?_,h.tbl,h.nd,fun x hx=>by have:=h.il x hx;simpa[World.setCell] using this⟩,
  (qah.setCell (fun b=>b=F.ob0) w (a:=⟨F.ob0,k,none⟩) rfl _).mono fun b _ e => .inr (.inl e),?_,fun g hg => .inl hg,fun j hj => ?_,fun j y e => ?_,fun j j1 j2 => ?_,[],by simp[qd6],fun x hx=>by cases hx⟩
 ·rw[List.getElem?_set];by_cases e:k=j
  ·subst e;have:k<os.length:=(zib.1 (o2 k hk)).1;simp[qd6,this]
  ·rw[if_neg e,o2 j hj];simp[qd6,Ne.symm e]
 ·simp only[qd6] at e;split at e
  ·cases e;simpa[World.setCell] using hx
  ·have:=h.lt j g y e;simpa[World.setCell] using this
 ·simp only[qd6] at e1 e2;split at e1 <;> split at e2
  ·omega
  ·cases e1;exact absurd e3.symm (hnew j z e2)
  ·cases e2;exact absurd e3 (hnew i y e1)
  ·exact h.inj i j y z e1 e2 e3
 ·exact qqa o1 (by rw[o2 k hk,hn];rfl) _
 ·show(if j=k then some (f,x) else s.ob j)=s.ob j;rw[if_neg (by omega)]
 ·show(if j=k then some (f,x) else s.ob j)=some y;rw[if_neg (by rintro rfl;rw[hn] at e;cases e)];exact e
 ·obtain rfl:j=k:=by omega
  exact⟨(f,x),by simp[qd6]⟩
theorem BOk.new {F:Fix} {s:St} {w:World} (h:BOk F s w) {x:Nat} (hx:w.heap.size≤x):∀ j y,s.ob j=some y→y.2≠x:=fun j y e1 e2=>by
 have:=h.lt j y.1 y.2 e1;omega
def qgd (g:G) (f:Fd) (at_:Nat) (p:Int) (x:Nat):Prop:=g.ob at_=some (false,x)∧∃ u,BlkR g.rd x [.int .i64 0,ptrV (g.pk p),.string (qas (fname g.W f)),u,.int .u8 6,.bool f.embedded]∧DenT g f.of (at_+1) p u
theorem qgd.mono {g g':G} (h:G.Le g g') {f:Fd} {at_:Nat} {p:Int} {x:Nat} (k:qgd g f at_ p x):qgd g' f at_ p x:=by
 obtain⟨h1,u,h2,h3⟩:=k;exact⟨h.ob _ _ h1,u,by rw[h.W,h.pk];exact h2.mono h.rd,DenT.mono h _ _ _ _ h3⟩
def qbe (g:G):List Fd→Nat→Int→List Nat→Prop
 | [],_,_,xs=>xs=[]
 | f::r,at_,p,xs=>∃ x ys,xs=x::ys∧qgd g f at_ p x∧qbe g r (at_+(1+f.of.size)) p ys
theorem qbe.mono {g g':G} (h:G.Le g g'):∀ {l:List Fd} {at_:Nat} {p:Int} {xs:List Nat},qbe g l at_ p xs→qbe g' l at_ p xs
 | [],_,_,_,k=>k
 | f::r,_,_,_,⟨x,ys,e,h1,h2⟩=>⟨x,ys,e,h1.mono h,qbe.mono h h2⟩
theorem qbe.snoc {g:G} {f:Fd} {p:Int} {x:Nat}:∀ {l:List Fd} {at_:Nat} {xs:List Nat},qbe g l at_ p xs→qgd g f (at_+qar l) p x→qbe g (l++[f]) at_ p (xs++[x])
 | [],at_,xs,h,hf=>by
  simp only[qbe] at h;subst h;exact⟨x,[],rfl,by simpa[qar] using hf,rfl⟩
 | .mk n e t::r,at_,xs,⟨y,ys,e1,h1,h2⟩,hf=>by
  subst e1;refine⟨y,ys++[x],rfl,h1,qbe.snoc h2 ?_⟩;simp only[qar,Fd.of] at hf ⊢;rw[Nat.add_assoc];exact hf
theorem qbe.len {g:G}:∀ {l:List Fd} {at_:Nat} {p:Int} {xs:List Nat},qbe g l at_ p xs→xs.length=l.length
 | [],_,_,xs,h=>by simp only[qbe] at h;subst h;rfl
 | f::r,_,_,xs,⟨x,ys,e,_,h⟩=>by subst e;simp[qbe.len h]
theorem qbe.den {g:G} {p:Int} {a:Option Addr}:∀ {l:List Fd} {at_ i:Nat} {xs:List Nat},qbe g l at_ p xs→(∀ j (hj:j<xs.length),∃ gb o,a=some ⟨gb,o,none⟩∧g.rd gb (o+(i+j))=some (ptrV xs[j]))→DenF g l at_ p a i
 | [],_,_,_,_,_=>by simp only[DenF]
 | .mk n e t::r,at_,i,xs,⟨x,ys,e1,⟨h1,u,h2,h3⟩,h4⟩,hr=>by
  subst e1;obtain⟨gb,o,ha,hc⟩:=hr 0 (by simp);simp only[DenF];refine⟨⟨gb,o,x,u,ha,by simpa using hc,h1,h2,h3⟩,?_⟩;have e2:at_+1+t.size=at_+(1+t.size):=by omega
  rw[e2];refine qbe.den h4 fun j hj => ?_;obtain⟨gb',o',ha',hc'⟩:=hr (j+1) (by simp;omega);refine⟨gb',o',ha',?_⟩;rw[show o'+(i+1+j)=o'+(i+(j+1)) by omega];simpa using hc'
def qd4 (g:G):List Ty→Nat→Int→List Value→Prop
 | [],_,_,us=>us=[]
 | t::r,at_,p,us=>∃ u ys,us=u::ys∧DenT g t at_ p u∧qd4 g r (at_+t.size) p ys
theorem qd4.mono {g g':G} (h:G.Le g g'):∀ {l:List Ty} {at_:Nat} {p:Int} {us:List Value},qd4 g l at_ p us→qd4 g' l at_ p us
 | [],_,_,_,k=>k
 | f::r,_,_,_,⟨x,ys,e,h1,h2⟩=>⟨x,ys,e,DenT.mono h _ _ _ _ h1,qd4.mono h h2⟩
theorem qd4.snoc {g:G} {t:Ty} {p:Int} {u:Value}:∀ {l:List Ty} {at_:Nat} {us:List Value},qd4 g l at_ p us→DenT g t (at_+qau l) p u→qd4 g (l++[t]) at_ p (us++[u])
 | [],at_,xs,h,hf=>by
  simp only[qd4] at h;subst h;exact⟨u,[],rfl,by simpa[qau] using hf,rfl⟩
 | t'::r,at_,xs,⟨y,ys,e1,h1,h2⟩,hf=>by
  subst e1;refine⟨y,ys++[u],rfl,h1,qd4.snoc h2 ?_⟩;simp only[qau] at hf ⊢;rw[Nat.add_assoc];exact hf
theorem qd4.len {g:G}:∀ {l:List Ty} {at_:Nat} {p:Int} {us:List Value},qd4 g l at_ p us→us.length=l.length
 | [],_,_,xs,h=>by simp only[qd4] at h;subst h;rfl
 | f::r,_,_,xs,⟨x,ys,e,_,h⟩=>by subst e;simp[qd4.len h]
theorem qd4.den {g:G} {p:Int} {a:Option Addr}:∀ {l:List Ty} {at_ i:Nat} {us:List Value},qd4 g l at_ p us→(∀ j (hj:j<us.length),∃ gb o,a=some ⟨gb,o,none⟩∧g.rd gb (o+(i+j))=some us[j])→DenM g l at_ p a i
 | [],_,_,_,_,_=>by simp only[DenM]
 | t::r,at_,i,us,⟨x,ys,e1,h3,h4⟩,hr=>by
  subst e1;obtain⟨gb,o,ha,hc⟩:=hr 0 (by simp);simp only[DenM];refine⟨⟨gb,o,x,ha,by simpa using hc,h3⟩,?_⟩;refine qd4.den h4 fun j hj => ?_;obtain⟨gb',o',ha',hc'⟩:=hr (j+1) (by simp;omega);refine⟨gb',o',ha',?_⟩;rw[show o'+(i+1+j)=o'+(i+(j+1)) by omega];simpa using hc'
theorem qtj {w:World} {T:TypeId} {n c B:Nat} {a:Option Addr} {xs:List Value} (h:w.ownsRow 0 T 1 (.slice a n c) n xs) (hB:∀ g,(Value.slice a n c).ownBlock=some g→B≤g) (hT:hidT T=false) (hI:T≠175) (hv:∀ v∈xs,qcq v=some v):
  ∀ j (hj:j<xs.length),∃ gb o,a=some ⟨gb,o,none⟩∧rdA B w gb (o+(0+j))=some xs[j]:=by
 intro j hj;obtain⟨hl,⟨he,h0⟩|⟨g,cap,cur,he,-,hb,hn1,hn2,hn3,hn4⟩⟩:=h
 ·omega
 ·cases he;refine⟨g,0,rfl,qcu ?_ (hB g rfl)⟩;refine qc4 hb hT (fun e=>hI e.1) ?_ (hv _ (z7 _));have h1:(cur.toList.take (n * 1))[j]?=xs[j]?:=by rw[hn4]
  rw[List.getElem?_take_of_lt (by omega),zr hj] at h1;rw[Nat.zero_add,Nat.zero_add,← Array.getElem?_toList];exact h1
abbrev m0:Meth:=⟨0,false⟩
structure MsAt (B:Nat) (w:World) (ob:Nat→Option (Bool×Nat)) (ms:List Meth) (k at_ pk:Nat) (fs sgs:List Nat):Prop where
 lf:fs.length=k
 ls:sgs.length=k
 fb:∀ i,i<k→FB w (fs.getD i 0) (sgs.getD i 0) pk (ms.getD i m0).name (.pointer none)∧B≤fs.getD i 0∧B≤sgs.getD i 0∧ob (at_+i)=some (true,fs.getD i 0)
 nf:fs.Nodup
 ns:∀ i j,i<k→j<k→sgs.getD i 0=sgs.getD j 0→i=j
theorem MsAt.nil (B:Nat) (w:World) (ob:Nat→Option (Bool×Nat)) (ms:List Meth) (at_ pk:Nat):MsAt B w ob ms 0 at_ pk [] []:=⟨rfl,rfl,fun i hi=>by omega,List.nodup_nil,fun i j hi=>by omega⟩
theorem MsAt.turned {B:Nat} {w w':World} {F:Fix} {s s':St} {lo hi:Nat} {ms:List Meth} {k at_ pk:Nat} {fs sgs:List Nat} (h:MsAt B w s.ob ms k at_ pk fs sgs) (hok:BOk F s w) (he:BExt F s w s' w' lo hi):MsAt B w' s'.ob ms k at_ pk fs sgs:=
 ⟨h.lf,h.ls,fun i hi=>by
  obtain⟨h1,h2,h3,h4⟩:=h.fb i hi;exact⟨h1.apart he.turns.apart (hok.notTurned h1.1 (by decide) (by decide) (by decide)) (hok.notTurned h1.2 (by decide) (by decide) (by decide)),h2,h3,he.grow _ _ h4⟩,h.nf,h.ns⟩
theorem qc3 {l:List Nat} {x i:Nat} (h:i<l.length):(l++[x]).getD i 0=l.getD i 0:=by
 simp[zu,List.getElem?_append_left h]
theorem qer {l:List Nat} {x:Nat}:(l++[x]).getD l.length 0=x:=by
 simp[zu]
theorem MsAt.snoc {B:Nat} {w:World} {ob:Nat→Option (Bool×Nat)} {ms:List Meth} {k at_ pk:Nat} {fs sgs:List Nat} (h:MsAt B w ob ms k at_ pk fs sgs) {f sg:Nat} (hf:FB w f sg pk (ms.getD k m0).name (.pointer none)) (h1:B≤f) (h2:B≤sg)
  (ho:ob (at_+k)=some (true,f)) (hnf:∀ i,i<k→fs.getD i 0≠f) (hns:∀ i,i<k→sgs.getD i 0≠sg):MsAt B w ob ms (k+1) at_ pk (fs++[f]) (sgs++[sg]):=by
 refine⟨by simp[h.lf],by simp[h.ls],fun i hi => ?_,?_,fun i j hi hj e => ?_⟩
 ·by_cases e:i<k
  ·rw[qc3 (by rw[h.lf];exact e),qc3 (by rw[h.ls];exact e)];exact h.fb i e
  ·obtain rfl:i=k:=by omega
   have e1:(fs++[f]).getD i 0=f:=by rw[← h.lf];exact qer
   have e2:(sgs++[sg]).getD i 0=sg:=by rw[← h.ls];exact qer
   rw[e1,e2];exact⟨hf,h1,h2,ho⟩
 ·rw[List.nodup_append];refine⟨h.nf,by simp,fun a ha b hb => ?_⟩;simp only[zeb] at hb;subst hb;obtain⟨i,hi,e⟩:=List.getElem_of_mem ha;have:=hnf i (by rw[← h.lf];exact hi);rw[zu,zr hi] at this;simpa[e] using this
 ·by_cases ei:i<k <;> by_cases ej:j<k
  ·rw[qc3 (by rw[h.ls];exact ei),qc3 (by rw[h.ls];exact ej)] at e;exact h.ns i j ei ej e
  ·obtain rfl:j=k:=by omega
   rw[qc3 (by rw[h.ls];exact ei),show(sgs++[sg]).getD j 0=sg by rw[← h.ls];exact qer] at e;exact absurd e (hns i ei)
  ·obtain rfl:i=k:=by omega
   rw[show(sgs++[sg]).getD i 0=sg by rw[← h.ls];exact qer,qc3 (by rw[h.ls];exact ej)] at e;exact absurd e.symm (hns j ej)
  ·omega
theorem qjm (l:List Nat):∀ v∈qa7 l,qcq v=some v:=fun v hv=>by
 simp only[qa7,zjb] at hv;obtain⟨x,-,rfl⟩:=hv;rfl
theorem qtk {F:Fix} {s:St} {B:Nat} {w1 w2:World} {num:Int} {el:List Ty} {fs:List Fd} {ms:List Meth} {em:List Ty} {at_:Nat} {p:Int} {gs sgs π:List Nat} {us:List Value} {ib rc m ec:Nat} {ra ea:Option Addr} {tso:Option Nat}
  (hp:p=0∨p=1) (hn:∀ x∈ms,IsNm x.name) (hd:qb1 (ms.map Meth.name)) (hB:B≤w1.heap.size) (hib:w1.heap.size≤ib) (hm:MsAt B w1 s.ob ms ms.length at_ (F.pk p) gs sgs) (hb:Blk w2 ib 175 (qcd ra ms.length rc ea em.length ec tso))
  (hs:Srt (fun i=>rank p ((ms.map Meth.name).getD i 0)) ms.length π) (hown:w2.ownsRow 0 105 1 (.slice ra ms.length rc) ms.length (qa7 (π.map fun i=>gs.getD i 0))) (hrB:∀ g,(Value.slice ra ms.length rc).ownBlock=some g→B≤g)
  (hrv:qsf w1.heap.size w2 gs.length gs sgs (ms.map Meth.name) (F.pk p) ib) (hem:qd4 (gOf F s (rdA B w2)) em (at_+ms.length) p us) (hec:em.length≤ec) (hown2:0<em.length→w2.ownsRow 0 62 1 (.slice ea em.length ec) em.length us) (hrB2:0<em.length→∀ g,(Value.slice ea em.length ec).ownBlock=some g→B≤g)
  (hus:∀ u∈us,IsTy u) (hin:(ib,(⟨.mk 5 num el fs ms em,at_,p⟩:Spot))∈s.ifs):Den (gOf F s (rdA B w2)) ⟨.mk 5 num el fs ms em,at_,p⟩ (.iface 111 (ptrV ib)):=by
 have hnm:∀ i,i<ms.length→(ms.map Meth.name).getD i 0=(ms.getD i m0).name:=fun i hi=>by simp[zu,zr hi]
 have hπ:π=ordM p ms:=by
  refine ordM_of hp hn hd ⟨hs.1,hs.2.imp_of_mem fun {a b} ha hb h => ?_⟩;have ha':a<ms.length:=List.mem_range.1 (hs.1.mem_iff.1 ha);have hb':b<ms.length:=List.mem_range.1 (hs.1.mem_iff.1 hb);simp only at h ⊢;rw[hnm a ha',hnm b hb'] at h;exact h
 unfold Den DenT;refine .inr (.inr (.inr (.inr (.inr ⟨rfl,ib,ra,rc,ea,ec,rfl,hin,fun j v hj => ?_,?_,hec,fun i k hk => ?_,?_⟩))))
 ·refine qcu (hb.rd (by decide) ?_ (v:=v) ?_ ?_) (by omega)
  ·rintro⟨-,rfl⟩;simp at hj
  ·rw[← hj];unfold qcd
   match j with
   | 0|1|2|3|4|5=>rfl
   | n+6=>simp at hj
  ·match j with
   | 0|1|2|3|4|5=>cases hj;rfl
   | n+6=>simp at hj
 ·obtain⟨_,_,he,hle,-⟩:=qak hown;cases he;exact hle
 ·rw[← hπ] at hk;have hik:i<π.length:=(zib.1 hk).1;have hkm:k<ms.length:=List.mem_range.1 (hs.1.mem_iff.1 (List.mem_of_getElem? hk));have hx:=qtj hown hrB (by decide) (by decide) (qjm _) i (by simpa[qa7] using hik);obtain⟨gb,o,ha,hr⟩:=hx;obtain⟨f1,f2,f3,f4⟩:=hm.fb k hkm;have hkg:k<gs.length:=by rw[hm.lf];exact hkm
  obtain⟨v,hv,q1,q2⟩:=(hrv k hkg).1 hkg;have eg:gs[k]=gs.getD k 0:=by simp[zu,zr hkg]
  rw[eg,hnm k hkm] at q1;have e1:(List.map (fun i=>gs.getD i 0) π)[i]?=some (gs.getD k 0):=by rw[List.getElem?_map,hk];rfl
  refine⟨gb,o,gs.getD k 0,ha,?_,f4,?_⟩
  ·rw[Nat.zero_add] at hr;show rdA B w2 gb (o+i)=_;rw[hr];have:(qa7 (π.map fun i=>gs.getD i 0))[i]?=some (ptrV (gs.getD k 0)):=by simp only[qa7];rw[List.getElem?_map,e1];rfl
   exact(zr _).symm.trans this
  ·refine⟨sgs.getD k 0,v,111,⟨ib,0,none⟩,?_,?_,?_,by decide,(fun h=>by cases h),fun _=>by decide⟩
   ·exact q1.1.rda f2 (by decide) (by decide) (by simp[qcq])
   ·exact q1.2.rda f3 (by decide) (by decide) (by simp[qcq])
   ·exact q2.rda (by omega) (by decide) (by decide) (by simp[qcq]) 3 _ rfl
 ·refine hem.den fun j hj => ?_;have hl:=hem.len;exact qtj (hown2 (by omega)) (hrB2 (by omega)) (by decide) (by decide) (fun v hv=>by obtain⟨T,x,rfl⟩:=hus v hv;rfl) j hj
theorem qes {W:Wd} {d:Int} {val:Bool} {t:Ty} (h:qam W d val t) (k:Nat) (hk:k<t.fields.length):
  IsNm t.fields[k].name∧(t.fields[k].embedded=true→t.fields[k].name=0∧qdb t.fields[k].of)∧qam W d val t.fields[k].of:=by
 cases t with
 | mk kd n el fs ms em=>
  have hf:qby W d val fs:=by
   simp only[qam] at h;rcases h with ⟨-,-,rfl,-⟩|⟨-,-,rfl,-⟩|⟨-,-,rfl,-⟩|⟨-,-,-,-,-,h⟩|⟨-,-,-,rfl,-⟩
   ·simp[Ty.fields] at hk
   ·simp[Ty.fields] at hk
   ·simp[Ty.fields] at hk
   ·exact h
   ·simp[Ty.fields] at hk
  simp only[Ty.fields] at hk ⊢;clear h
  induction fs generalizing k with
  | nil=>simp at hk
  | cons f r ih=>
   cases f with
   | mk n e t=>
    simp only[qby] at hf;cases k with
    | zero=>exact⟨hf.1.1,hf.1.2.1,hf.1.2.2⟩
    | succ k=>exact ih k (by simpa using hk) hf.2
theorem qn0 {W:Wd} {d:Int} {val:Bool} {t:Ty} (h:qam W d val t) (k:Nat) (hk:k<t.embeds.length):
  (t.embeds[k].kind=1∨t.embeds[k].kind=5)∧qam W d true t.embeds[k]:=by
 cases t with
 | mk kd n el fs ms em=>
  have hf:qbi W d em:=by
   simp only[qam] at h;rcases h with ⟨-,-,-,-,rfl,-⟩|⟨-,-,-,-,rfl,-⟩|⟨-,-,-,-,rfl,-⟩|⟨-,-,-,-,rfl,h⟩|⟨-,-,-,-,-,h⟩
   ·simp[Ty.embeds] at hk
   ·simp[Ty.embeds] at hk
   ·simp[Ty.embeds] at hk
   ·simp[Ty.embeds] at hk
   ·exact h
  simp only[Ty.embeds] at hk ⊢;clear h
  induction em generalizing k with
  | nil=>simp at hk
  | cons f r ih=>
   simp only[qbi] at hf;cases k with
   | zero=>exact hf.1
   | succ k=>exact ih k (by simpa using hk) hf.2
theorem qhe {W:Wd} {d:Int} {val:Bool} {t:Ty} (h:qam W d val t) (hk:0<t.elem.length):
  t.elem.length=1∧qam W d false t.el0:=by
 cases t with
 | mk kd n el fs ms em=>
  have hf:qc5 W d el:=by
   simp only[qam] at h;rcases h with ⟨-,rfl,-⟩|⟨-,rfl,-⟩|⟨-,-,-,-,-,h⟩|⟨-,-,rfl,-⟩|⟨-,-,rfl,-⟩
   ·simp[Ty.elem] at hk
   ·simp[Ty.elem] at hk
   ·exact h
   ·simp[Ty.elem] at hk
   ·simp[Ty.elem] at hk
  cases el with
  | nil=>simp[Ty.elem] at hk
  | cons a r=>
   simp only[qc5] at hf;obtain⟨rfl,hf⟩:=hf;exact⟨rfl,hf⟩
theorem qha:∀ (l:List Int),(∀ i (hi:i<l.length) j (hj:j<i),l[i]≠l[j])→qb1 l
 | [],_=>trivial
 | a::r,h=>by
  refine⟨fun b hb => ?_,qha r fun i hi j hj => ?_⟩
  ·obtain⟨i,hi,rfl⟩:=List.getElem_of_mem hb;have:=h (i+1) (by simpa using hi) 0 (by omega);simp only[zh,zi] at this;exact fun e=>this e.symm
  ·have:=h (i+1) (by simpa using hi) (j+1) (by omega);simpa using this
theorem qoy (W:Wd) (pkg:Int):∀ (l:List Ty) (at_:Nat),(∀ k (hk:k<l.length),(qae W ⟨l[k],at_+qau (l.take k),pkg⟩).of.kind=5∧qdp W pkg l[k] (at_+qau (l.take k)))→qc0 W pkg l at_
 | [],_,_=>by simp[qc0]
 | t::r,at_,h=>by
  simp only[qc0];refine⟨h 0 (Nat.zero_lt_succ _),qoy W pkg r _ fun k hk => ?_⟩;have:=h (k+1) (by simpa using hk);simpa[qau,Nat.add_assoc] using this
theorem ValidF_of' (W:Wd) (pkg:Int):∀ (r prev:List Fd) (at_:Nat),(∀ k (hk:k<r.length),(∀ g∈prev++r.take k,fname W r[k]≠8→fname W r[k]≠fname W g)∧qdp W pkg r[k].of (at_+qar (r.take k)+1)∧(r[k].embedded=true→qdo W pkg ⟨r[k].of,at_+qar (r.take k)+1,pkg⟩))→qcr W pkg prev r at_
 | [],_,_,_=>by simp[qcr]
 | .mk n e t::r,prev,at_,h=>by
  simp only[qcr];refine⟨by have:=h 0 (Nat.zero_lt_succ _);rw[List.take_zero,List.append_nil] at this;exact this,ValidF_of' W pkg r _ _ fun k hk => ?_⟩;have:=h (k+1) (by simpa using hk);simpa[qar,Nat.add_assoc] using this
theorem qtv (W:Wd) (pkg:Int) (r:List Fd) (at_:Nat) (h:∀ k (hk:k<r.length),(∀ j (hj:j<k),fname W r[k]≠8→fname W r[k]≠fname W r[j])∧qdp W pkg r[k].of (at_+qar (r.take k)+1)∧(r[k].embedded=true→qdo W pkg ⟨r[k].of,at_+qar (r.take k)+1,pkg⟩)):qcr W pkg [] r at_:=
 ValidF_of' W pkg r [] at_ fun k hk=>⟨fun g hg=>by
  simp only[List.nil_append] at hg;obtain⟨j,hj,rfl⟩:=List.getElem_of_mem hg;rw[List.length_take] at hj;rw[List.getElem_take];exact(h k hk).1 j (by omega),(h k hk).2⟩
theorem qoc (W:Wd) (s:Spot)
  (h1:∀ i (hi:i<s.of.methods.length) j (hj:j<i),s.of.methods[i].name≠s.of.methods[j].name)
  (h2:∀ k (hk:k<s.of.embeds.length),(qae W (qav s k)).of.kind=5∧qcj W (qav s k))
  (h3:∀ k (hk:k<s.of.fields.length),(∀ j (hj:j<k),fname W s.of.fields[k]≠8→fname W s.of.fields[k]≠fname W s.of.fields[j])∧qcj W (qao s k)∧(s.of.fields[k].embedded=true→qdo W s.pkg (qao s k)))
  (h4:0<s.of.elem.length→qcj W (qaq s)):qcj W s:=by
 obtain⟨t,at_,pkg⟩:=s;cases t with
 | mk kd n el fs ms em=>
  unfold qcj;simp only[qdp];refine⟨qha _ fun i hi j hj => ?_,qoy _ _ _ _ fun k hk => ?_,qtv _ _ _ _ fun k hk => ?_,?_⟩
  ·simp only[List.length_map] at hi;simp only[List.getElem_map];exact h1 i hi j hj
  ·have:=h2 k hk;simpa[qcj,qav,Ty.embeds,Ty.methods,zu,zr hk] using this
  ·have:=h3 k hk;have e:fs.getD k fd0=fs[k]:=by simp[zu,zr hk]
   simp only[qcj,qao,Ty.fields,e] at this;exact this
  ·cases el with
   | nil=>simp[qjv]
   | cons a r=>
    have:=h4 (by simp[Ty.elem]);simp only[qcj,qaq,Ty.el0,Ty.elem,List.getD_cons_zero] at this;simp only[qjv];exact this
theorem qmi:∀ (l:List Ty) (k:Nat) (hk:k<l.length),qau (l.take k)+l[k].bulk≤qbt l
 | t::r,0,_=>by simp[qau,qbt]
 | t::r,k+1,hk=>by
  have:=qmi r k (by simpa using hk);have:=qba t;simp only[List.take_succ_cons,zh,qau,qbt];omega
theorem qq5:∀ (l:List Fd) (k:Nat) (hk:k<l.length),qar (l.take k)+1+l[k].of.bulk≤qcm l
 | .mk _ _ t::r,0,_=>by simp[qar,qcm,Fd.of]
 | .mk _ _ t::r,k+1,hk=>by
  have:=qq5 r k (by simpa using hk);have:=qba t;simp only[List.take_succ_cons,zh,qar,qcm];omega
theorem qbd (t:Ty):t.bulk=1+qbt t.elem+qcm t.fields+t.methods.length+qbt t.embeds:=by cases t;rfl
theorem qoz (s:Spot) {k:Nat} (hk:k<s.of.embeds.length):(qav s k).of=s.of.embeds[k]:=by simp[qav,zu,zr hk]
theorem qkk (s:Spot) {k:Nat} (hk:k<s.of.fields.length):(qao s k).of=s.of.fields[k].of:=by simp[qao,zu,zr hk]
theorem qvr (s:Spot) {k:Nat} (hk:k<s.of.embeds.length):(qav s k).of.bulk<s.of.bulk∧(qav s k).at_+(qav s k).of.bulk≤s.at_+s.of.bulk:=by
 have:=qmi s.of.embeds k hk;have:=qbd s.of;rw[qoz s hk];simp only[qav];omega
theorem qvh (s:Spot) {k:Nat} (hk:k<s.of.fields.length):(qao s k).of.bulk<s.of.bulk∧(qao s k).at_+(qao s k).of.bulk≤s.at_+s.of.bulk:=by
 have:=qq5 s.of.fields k hk;have:=qbd s.of;rw[qkk s hk];simp only[qao];omega
theorem qtz (s:Spot) (hk:0<s.of.elem.length):(qaq s).of.bulk<s.of.bulk∧(qaq s).at_+(qaq s).of.bulk≤s.at_+s.of.bulk:=by
 have h1:=qmi s.of.elem 0 hk;have:=qbd s.of;have e:(qaq s).of=s.of.elem[0]:=by simp[qaq,Ty.el0,zu,zr hk]
 simp only[List.take_zero,qau] at h1;rw[e];simp only[qaq];omega
end Go.Proofs.YtaibcdkadbemgaaGreatDoor
namespace Go.Proofs.YtaibcdkadbemgaaGreatDoor
open Go Go.RowKit
set_option maxRecDepth 100000
structure Base (F:Fix) (w0:World) (s:St) (w:World):Prop where
 below:Below w0.heap.size w0 w
 bb:w0.heap.size≤F.bb
 ob:w0.heap.size≤F.ob0
 row:∀ g,s.row.ownBlock=some g→w0.heap.size≤g
theorem Base.turned {F:Fix} {w0:World} {s:St} {w:World} (h:Base F w0 s w):∀ b,qa1 F s b→w0.heap.size≤b:=fun b hb=>by
 rcases hb with e|e|e
 ·rw[e];exact h.bb
 ·rw[e];exact h.ob
 ·exact h.row b e
theorem Base.ext {F:Fix} {w0:World} {s s':St} {w w':World} {lo hi:Nat} (h:Base F w0 s w) (k:BExt F s w s' w' lo hi):Base F w0 s' w':=
 ⟨h.below.trans (k.turns.below h.below.size h.turned),h.bb,h.ob,fun g hg=>by
  rcases k.row g hg with e|e
  ·exact h.row g e
  ·have:=h.below.size;omega⟩
theorem Base.keeps {F:Fix} {w0:World} {s:St} {w:World} (h:Base F w0 s w):qac w0 w:=qac.below h.below
def TbOk (F:Fix) (d:Int):Prop:=∀ n:Nat,n<F.W.length→(d<n∨d<0∨(dc F.W d.toNat).alias=false∨(dc F.W n).alias=false)→∃ v,F.tb n=some v
def SpOk (W:Wd) (s:Spot):Prop:=s.of.kind=5∧(s.pkg=0∨s.pkg=1)∧s.of.bulk≤1048576∧qdp W s.pkg s.of s.at_∧∃ d val,qam W d val s.of
def qk6 (g:G) (x:Nat×Spot):Prop:=Den g x.2 (.iface 111 (ptrV x.1))∧SpOk g.W x.2
theorem qk6.mono {g g':G} (h:G.Le g g') {x:Nat×Spot} (k:qk6 g x):qk6 g' x:=⟨Den.mono h k.1,by rw[h.W];exact k.2⟩
def Mems (g:G) (old:List (Nat×Spot)):Prop:=∀ x∈g.ifs,x∈old∨qk6 g x
theorem Mems.mono {g g':G} {old:List (Nat×Spot)} (h:Mems g old) (l:G.Le g g') (e:g'.ifs=g.ifs):Mems g' old:=fun x hx=>(h x (e ▸ hx)).imp id (qk6.mono l)
theorem Mems.next {g g2 g':G} {old:List (Nat×Spot)} (h:Mems g old) (h2:Mems g2 g.ifs) (l1:G.Le g g') (l2:G.Le g2 g') (e:g'.ifs=g2.ifs):Mems g' old:=fun x hx=>by
 rcases h2 x (e ▸ hx) with q|q
 ·exact(h x q).imp id (qk6.mono l1)
 ·exact .inr (q.mono l2)
def qh4 (F:Fix) (s:St) (w:World) (t:Ty) (at_:Nat) (p:Int):Ending→World→Prop:=fun e w'=>
 ∃ v s',e = .returned v∧IsTy v∧BExt F s w s' w' at_ (at_+t.size)∧Den (gOf F s' (rdA w.heap.size w')) ⟨t,at_,p⟩ v∧s'.ifs.length≤s.ifs.length+t.bulk∧Mems (gOf F s' (rdA w.heap.size w')) s.ifs
structure BPre (F:Fix) (w0:World) (s:St) (w:World) (d:Int) (val:Bool) (t:Ty) (at_:Nat) (p:Int):Prop where
 base:Base F w0 s w
 ok:BOk F s w
 pp:p=0∨p=1
 formed:qam F.W d val t
 valid:qdp F.W p t at_
 tb:TbOk F d
 free:∀ k,at_≤k→k<at_+t.size→s.ob k=none
 le:at_+t.size≤F.N
 nn:F.N≤4194304
 ni:s.ifs.length+t.bulk≤4194304
theorem qkt (t:Ty):t.size=t.methods.length+qau t.elem+qar t.fields+qau t.embeds:=by
 cases t;simp only[Ty.size,Ty.methods,Ty.elem,Ty.fields,Ty.embeds]
theorem qam.k1 {W:Wd} {d:Int} {val:Bool} {t:Ty} (h:qam W d val t) (hk:t.kind=1):t.elem=[]∧t.fields=[]∧t.methods=[]∧t.embeds=[]∧0≤t.num∧t.num<W.length∧(d<t.num∨val=false∧(d<0∨(dc W d.toNat).alias=false∨(dc W t.num.toNat).alias=false)):=by
 cases t;simp only[qam,Ty.kind,Ty.elem,Ty.fields,Ty.methods,Ty.embeds,Ty.num] at *;rcases h with ⟨h,-⟩|⟨-,h⟩|⟨h,-⟩|⟨h,-⟩|⟨h,-⟩
 ·omega
 ·exact h
 all_goals omega
theorem qam.k0 {W:Wd} {d:Int} {val:Bool} {t:Ty} (h:qam W d val t) (hk:t.kind=0):t.elem=[]∧t.fields=[]∧t.methods=[]∧t.embeds=[]∧0≤t.num∧t.num≤2:=by
 cases t;simp only[qam,Ty.kind,Ty.elem,Ty.fields,Ty.methods,Ty.embeds,Ty.num] at *;rcases h with ⟨-,h⟩|⟨h,-⟩|⟨h,-⟩|⟨h,-⟩|⟨h,-⟩
 ·exact h
 all_goals omega
theorem TbOk.get {F:Fix} {d:Int} {val:Bool} {t:Ty} (h:TbOk F d) (hf:qam F.W d val t) (hk:t.kind=1):∃ v,F.tb t.num.toNat=some v:=by
 obtain⟨-,-,-,-,h0,h1,h2⟩:=hf.k1 hk;refine h t.num.toNat (by omega) ?_;rcases h2 with h2|⟨-,h2⟩
 ·exact .inl (by omega)
 ·exact .inr h2
theorem qp6 {B:Nat} {w w':World} (h:Below B w w') (n:Nat):Below B w (w'.drewN n):=⟨h.os,h.tape,h.output,h.size,h.block⟩
theorem qsl (F:Fix) (a:Option Addr) (c:Nat) (w0 w:World) (s:St) (d:Int) (val:Bool) (t:Ty) (cs:List Value) (at_:Nat) (p:Int) (hk:t.kind=1) (ht:TyC w0 t cs) (hP:BPre F w0 s w d val t at_ p):
  Calls Tryz.prog 41 #[.pointer (some ⟨F.bb,0,none⟩),.slice a F.W.length c,.int .i64 p,.agg cs.toArray,.int .i64 at_] w (qh4 F s w t at_ p):=by
 obtain⟨v,hv⟩:=hP.tb.get hP.formed hk;obtain⟨e1,e2,e3,e4,n0,n1,-⟩:=hP.formed.k1 hk;have hz:t.size=0:=by rw[qkt,e1,e2,e3,e4];simp[qau,qar]
 obtain⟨ts,t1,t2⟩:=hP.ok.typ;obtain⟨T,x,rfl⟩:=hP.ok.tbl _ _ hv;have hc:=t2 t.num.toNat (by omega);rw[hv] at hc;simp only[Option.getD_some] at hc;have b1:=hP.ok.bld.cell 1;simp only[zt,zs] at b1;have b2:=(t1.cell t.num.toNat).trans hc;have l1:=hP.ok.bld.lt;have l2:=t1.lt;have l1':F.bb<w.heap.size+1:=by omega
 have l2':F.tr<w.heap.size+1:=by omega
 obtain⟨x1,d1,x2,d2,x3,d3,x4,d4,rfl,-⟩:=ht.full;have hpost:∀ nq,qh4 F s w t at_ p (.returned (.iface T (.pointer (some x)))) ((w.alloc (.cells #[.int .i64 t.kind,.int .i64 t.num,.slice x1 t.elem.length d1,.slice x2 t.fields.length d2,.slice x3 t.methods.length d3,.slice x4 t.embeds.length d4] 29)).drewN nq):=fun nq=>by
  refine⟨_,s,rfl,⟨_,_,rfl⟩,?_,?_,zbb _ _,fun x hx => .inl hx⟩
  ·rw[hz];exact BExt.keep hP.ok (qp6 ((zp _ _).alloc (zl _) _) nq) at_
  ·obtain⟨k,m,el,fs,ms,em⟩:=t;simp only[Ty.kind,Ty.num] at *;unfold Den DenT;exact .inl ⟨hk,hv⟩
 have Hpost:=hid hpost;have hkd:(t.kind==1)=true:=by simp[hk]
 obtain⟨q,hq⟩:∃ q:Nat,q=t.num.toNat:=⟨_,rfl⟩;have hqn:t.num=(q:Int):=by omega
 have hql:(q:Int)<(F.W.length:Int):=by omega
 rw[← hq] at b2;clear hP ht hpost t1 t2 hc hv hk hz n0 n1 hq e1 e2 e3 e4
 generalize t.kind=kd at *
 generalize t.num=nn at *
 subst hqn;go_enter Tryz.func41,Tryz.ntmps41
 go_wp2_with fail
 go_quiet (fail)
 go_wp2_with fail
 go_ret
 exact Hpost.out _
theorem qsa (F:Fix) (a:Option Addr) (c:Nat) (w0 w:World) (s:St) (d:Int) (val:Bool) (t:Ty) (cs:List Value) (at_:Nat) (p:Int) (hk:t.kind=0) (ht:TyC w0 t cs) (hP:BPre F w0 s w d val t at_ p):
  Calls Tryz.prog 41 #[.pointer (some ⟨F.bb,0,none⟩),.slice a F.W.length c,.int .i64 p,.agg cs.toArray,.int .i64 at_] w (qh4 F s w t at_ p):=by
 obtain⟨e1,e2,e3,e4,n0,n1⟩:=hP.formed.k0 hk;have hz:t.size=0:=by rw[qkt,e1,e2,e3,e4];simp[qau,qar]
 obtain⟨x1,d1,x2,d2,x3,d3,x4,d4,rfl,-⟩:=ht.full;have hpost:∀ (w':World) (b:Nat),qt1 w' b (basK t.num)→w.heap.size≤b→Below w.heap.size w w'→qh4 F s w t at_ p (.returned (.iface 156 (.pointer (some ⟨b,0,none⟩)))) w':=fun w' b hb hl hB=>by
  refine⟨_,s,rfl,⟨_,_,rfl⟩,?_,?_,zbb _ _,fun x hx => .inl hx⟩
  ·rw[hz];exact BExt.keep hP.ok hB at_
  ·obtain⟨i,st,hb⟩:=hb;obtain⟨k,m,el,fs,ms,em⟩:=t;simp only[Ty.kind,Ty.num] at *;unfold Den DenT;exact .inr (.inl ⟨hk,b,i,st,rfl,hb.rda hl (by decide) (by decide) (by simp[qcq])⟩)
 have Hpost:=hid hpost;have k1:(t.kind==1)=false:=by simp[hk]
 have k2:(t.kind==2)=false:=by simp[hk]
 have k3:(t.kind==3)=false:=by simp[hk]
 have k4:(t.kind==4)=false:=by simp[hk]
 have k5:(t.kind==5)=false:=by simp[hk]
 have hn:t.num=0∨t.num=1∨t.num=2:=by omega
 clear hP ht hpost hk hz n0 n1 e1 e2 e3 e4
 generalize t.kind=kd at *
 obtain⟨nn,hnn⟩:∃ nn,nn=t.num:=⟨_,rfl⟩;rw[← hnn] at hn Hpost
 generalize t.num=nn2 at *
 subst hnn;rcases hn with rfl|rfl|rfl
 ·go_enter Tryz.func41,Tryz.ntmps41
  go_wp2_with (go_at_call 69;refine(qjs 2 (.inl rfl) _).mono ?_;rintro e w' ⟨b,rfl,hb,hl,hB⟩;have Hb:=hid hb;have HB:=hid hB;clear hb hB)
  go_ret
  exact Hpost.out _ _ Hb.out (by simp at hl;omega) ((((zp _ _).alloc (zl _) _).alloc (by simp) _).trans (HB.out.mono (by simp;omega)))
 ·go_enter Tryz.func41,Tryz.ntmps41
  go_wp2_with (go_at_call 69;refine(qjs 17 (.inr (.inl rfl)) _).mono ?_;rintro e w' ⟨b,rfl,hb,hl,hB⟩;have Hb:=hid hb;have HB:=hid hB;clear hb hB)
  go_ret
  exact Hpost.out _ _ Hb.out (by simp at hl;omega) ((((zp _ _).alloc (zl _) _).alloc (by simp) _).trans (HB.out.mono (by simp;omega)))
 ·go_enter Tryz.func41,Tryz.ntmps41
  go_wp2_with (go_at_call 69;refine(qjs 1 (.inr (.inr rfl)) _).mono ?_;rintro e w' ⟨b,rfl,hb,hl,hB⟩;have Hb:=hid hb;have HB:=hid hB;clear hb hB)
  go_ret
  exact Hpost.out _ _ Hb.out (by simp at hl;omega) ((((zp _ _).alloc (zl _) _).alloc (by simp) _).trans (HB.out.mono (by simp;omega)))
theorem qam.k23 {W:Wd} {d:Int} {val:Bool} {t:Ty} (h:qam W d val t) (hk:t.kind=2∨t.kind=3):t.num=0∧t.fields=[]∧t.methods=[]∧t.embeds=[]∧t.elem.length=1∧qam W d false t.el0:=by
 obtain⟨k,m,el,fs,ms,em⟩:=t;simp only[qam,Ty.kind,Ty.elem,Ty.fields,Ty.methods,Ty.embeds,Ty.num,Ty.el0] at *;rcases h with ⟨h,-⟩|⟨h,-⟩|⟨-,h0,h1,h2,h3,h4⟩|⟨h,-⟩|⟨h,-⟩
 ·omega
 ·omega
 ·cases el with
  | nil=>simp only[qc5] at h4
  | cons e r=>simp only[qc5] at h4;obtain⟨rfl,h4⟩:=h4;exact⟨h0,h1,h2,h3,rfl,by simpa using h4⟩
 all_goals omega
theorem qdp.elem {W:Wd} {p:Int} {t:Ty} {at_:Nat} (h:qdp W p t at_) (hl:t.elem.length=1):qdp W p t.el0 at_:=by
 obtain⟨k,m,el,fs,ms,em⟩:=t;simp only[qdp,Ty.elem,Ty.el0] at *;cases el with
 | nil=>simp at hl
 | cons e r=>have:=h.2.2.2;simp only[qjv] at this;simpa using this
theorem BPre.keep {F:Fix} {w0:World} {s:St} {w w':World} {d:Int} {val:Bool} {t:Ty} {at_:Nat} {p:Int} (h:BPre F w0 s w d val t at_ p) (hb:Below w.heap.size w w'):BPre F w0 s w' d val t at_ p:=
 ⟨h.base.ext (BExt.keep h.ok hb 0),(BExt.keep h.ok hb 0).ok,h.pp,h.formed,h.valid,h.tb,h.free,h.le,h.nn,h.ni⟩
def qs6 (F:Fix) (a:Option Addr) (c:Nat) (w0:World) (n:Nat):Prop:=∀ (u:Ty) (cs:List Value) (w:World) (s:St) (d:Int) (val:Bool) (at_:Nat) (p:Int),u.bulk≤n→TyC w0 u cs→BPre F w0 s w d val u at_ p→
 Calls Tryz.prog 41 #[.pointer (some ⟨F.bb,0,none⟩),.slice a F.W.length c,.int .i64 p,.agg cs.toArray,.int .i64 at_] w (qh4 F s w u at_ p)
theorem qww (F:Fix) (a:Option Addr) (c:Nat) (w0 w:World) (n:Nat) (ih:qs6 F a c w0 n) (s:St) (d:Int) (val:Bool) (t:Ty) (cs:List Value) (at_:Nat) (p:Int) (hbk:t.bulk≤n+1) (hk:t.kind=2) (ht:TyC w0 t cs) (hP:BPre F w0 s w d val t at_ p):
  Calls Tryz.prog 41 #[.pointer (some ⟨F.bb,0,none⟩),.slice a F.W.length c,.int .i64 p,.agg cs.toArray,.int .i64 at_] w (qh4 F s w t at_ p):=by
 obtain⟨en,e2,e3,e4,el,ef⟩:=hP.formed.k23 (.inl hk);have hv:=hP.valid.elem el;have hz:t.size=t.el0.size:=by
  obtain⟨k,m,l,fs,ms,em⟩:=t;simp only[Ty.elem,Ty.fields,Ty.methods,Ty.embeds,Ty.el0] at *;subst e2 e3 e4;cases l with
  | nil=>simp at el
  | cons x r=>cases r with
   | nil=>simp[Ty.size,qau,qar]
   | cons=>simp at el
 have he:0<t.elem.length:=by omega
 obtain⟨x1,d1,x2,d2,x3,d3,x4,d4,rfl,-,-,-,h1,-⟩:=ht.full;obtain⟨b,o,cs1,rfl,hc,ht1⟩:=TysR.get h1 0 he;have e0:t.elem[0]=t.el0:=by simp[Ty.el0,zu,zr he]
 have hb2:t.el0.bulk≤t.bulk:=by
  have:=qa6 t.elem 0 he;have:=qbd t;rw[← e0];omega
 have hb1:t.el0.bulk≤n:=by
  have:=qa6 t.elem 0 he;have:=qbd t;rw[← e0];omega
 rw[e0] at ht1;have Ht1:=hid ht1;obtain⟨y1,g1,y2,g2,y3,g3,y4,g4,rfl,-⟩:=ht1.open;obtain⟨c0,c1,c2,c3,c4,c5⟩:=six (hc.keep hP.base.keeps);simp only[Nat.zero_add,Nat.zero_mul,Nat.add_zero] at c0 c1 c2 c3 c4 c5;have hbb:=zj w _ c0;simp only at hbb;have hbb1:b<w.heap.size+1:=by omega
 obtain⟨O,hO⟩:∃ O,O=(Obj.cells #[.int .i64 t.kind,.int .i64 t.num,.slice (some ⟨b,o,none⟩) t.elem.length d1,.slice x2 t.fields.length d2,.slice x3 t.methods.length d3,.slice x4 t.embeds.length d4] 29):=⟨_,rfl⟩;have hP1:BPre F w0 s (w.alloc O) d false t.el0 at_ p:=by
  have:=hP.keep ((zp _ _).alloc (zl _) O);exact⟨this.base,this.ok,hP.pp,ef,hv,hP.tb,by rw[← hz];exact hP.free,by rw[← hz];exact hP.le,hP.nn,by have:=hP.ni;omega⟩
 subst hO;have HC:=hid (ih t.el0 _ _ s d false at_ p hb1 ht1 hP1);have hpost:∀ (w1:World) (s':St) (v:Value),IsTy v→BExt F s (w.alloc (.cells #[.int .i64 t.kind,.int .i64 t.num,.slice (some ⟨b,o,none⟩) t.elem.length d1,.slice x2 t.fields.length d2,.slice x3 t.methods.length d3,.slice x4 t.embeds.length d4] 29)) s' w1 at_ (at_+t.el0.size)→Den (gOf F s' (rdA (w.alloc (.cells #[.int .i64 t.kind,.int .i64 t.num,.slice (some ⟨b,o,none⟩) t.elem.length d1,.slice x2 t.fields.length d2,.slice x3 t.methods.length d3,.slice x4 t.embeds.length d4] 29)).heap.size w1)) ⟨t.el0,at_,p⟩ v→s'.ifs.length≤s.ifs.length+t.el0.bulk∧Mems (gOf F s' (rdA (w.alloc (.cells #[.int .i64 t.kind,.int .i64 t.num,.slice (some ⟨b,o,none⟩) t.elem.length d1,.slice x2 t.fields.length d2,.slice x3 t.methods.length d3,.slice x4 t.embeds.length d4] 29)).heap.size w1)) s.ifs→
   qh4 F s w t at_ p (.returned (.iface 145 (.pointer (some ⟨w1.heap.size,0,none⟩)))) (w1.alloc (.cells #[v] 185)):=fun w1 s' v hv hE hD hI=>by
  have E1:=BExt.keep hP.ok ((zp _ _).alloc (zl _) (.cells #[.int .i64 t.kind,.int .i64 t.num,.slice (some ⟨b,o,none⟩) t.elem.length d1,.slice x2 t.fields.length d2,.slice x3 t.methods.length d3,.slice x4 t.embeds.length d4] 29)) at_;have E3:=BExt.keep hE.ok ((zp _ _).alloc (zl _) (.cells #[v] 185)) (at_+t.el0.size);have hsz:=hE.size;rw[zd] at hsz;have hI1:=hI.1;refine⟨_,s',rfl,⟨_,_,rfl⟩,?_,?_,by omega,hI.2.mono (E3.le (qfd (by simp) E3.rd)) rfl⟩
  ·rw[hz];exact(E1.trans hE (zl _) (by omega)).trans E3 (by omega) (zl _)
  ·have hD2:=Den.mono (E3.le (qfd (B:=(w.alloc (.cells #[.int .i64 t.kind,.int .i64 t.num,.slice (some ⟨b,o,none⟩) t.elem.length d1,.slice x2 t.fields.length d2,.slice x3 t.methods.length d3,.slice x4 t.embeds.length d4] 29)).heap.size) (B':=w.heap.size) (by simp) E3.rd)) hD;have hb:=(Blk.new w1 185 [v]).rda (B:=w.heap.size) (by omega) (by decide) (by decide) (by
    obtain⟨T,x,rfl⟩:=hv;simp[qcq])
   obtain⟨k,m,l,fs,ms,em⟩:=t;simp only[Ty.kind,Ty.elem,Ty.el0] at *;unfold Den DenT;refine .inr (.inr (.inl ⟨hk,w1.heap.size,v,rfl,hb 0 v rfl,?_⟩));cases l with
   | nil=>simp at el
   | cons x r=>simpa[DenE,Den] using hD2
 have Hpost:=hid hpost;have k1:(t.kind==1)=false:=by simp[hk]
 have k2:(t.kind==2)=true:=by simp[hk]
 clear hb2;clear hP ht hpost hk hz e0 e2 e3 e4 ef hv hP1 ht1 hc h1 hbk hb1 ih en
 generalize t.kind=kd at *
 have hez:(0:Int)<(t.elem.length:Int):=by omega
 clear el he;go_enter Tryz.func41,Tryz.ntmps41
 go_wp2_with (first
  | (go_at_call 41;refine HC.out.mono ?_;rintro e w1 ⟨v,s',rfl,hv,hE,hD,hI⟩;obtain⟨T,x,rfl⟩:=hv;have HE:=hid hE;have HD:=hid hD;have HI:=hid hI;clear hE hD hI)
  | (go_at_call 63;refine(qg1 _ _ _).mono ?_;rintro e w2 ⟨rfl,rfl⟩))
 go_ret
 exact Hpost.out _ s' _ ⟨_,_,rfl⟩ HE.out HD.out HI.out
theorem qro (F:Fix) (a:Option Addr) (c:Nat) (w0 w:World) (n:Nat) (ih:qs6 F a c w0 n) (s:St) (d:Int) (val:Bool) (t:Ty) (cs:List Value) (at_:Nat) (p:Int) (hbk:t.bulk≤n+1) (hk:t.kind=3) (ht:TyC w0 t cs) (hP:BPre F w0 s w d val t at_ p):
  Calls Tryz.prog 41 #[.pointer (some ⟨F.bb,0,none⟩),.slice a F.W.length c,.int .i64 p,.agg cs.toArray,.int .i64 at_] w (qh4 F s w t at_ p):=by
 obtain⟨en,e2,e3,e4,el,ef⟩:=hP.formed.k23 (.inr hk);have hv:=hP.valid.elem el;have hz:t.size=t.el0.size:=by
  obtain⟨k,m,l,fs,ms,em⟩:=t;simp only[Ty.elem,Ty.fields,Ty.methods,Ty.embeds,Ty.el0] at *;subst e2 e3 e4;cases l with
  | nil=>simp at el
  | cons x r=>cases r with
   | nil=>simp[Ty.size,qau,qar]
   | cons=>simp at el
 have he:0<t.elem.length:=by omega
 obtain⟨x1,d1,x2,d2,x3,d3,x4,d4,rfl,-,-,-,h1,-⟩:=ht.full;obtain⟨b,o,cs1,rfl,hc,ht1⟩:=TysR.get h1 0 he;have e0:t.elem[0]=t.el0:=by simp[Ty.el0,zu,zr he]
 have hb2:t.el0.bulk≤t.bulk:=by
  have:=qa6 t.elem 0 he;have:=qbd t;rw[← e0];omega
 have hb1:t.el0.bulk≤n:=by
  have:=qa6 t.elem 0 he;have:=qbd t;rw[← e0];omega
 rw[e0] at ht1;have Ht1:=hid ht1;obtain⟨y1,g1,y2,g2,y3,g3,y4,g4,rfl,-⟩:=ht1.open;obtain⟨c0,c1,c2,c3,c4,c5⟩:=six (hc.keep hP.base.keeps);simp only[Nat.zero_add,Nat.zero_mul,Nat.add_zero] at c0 c1 c2 c3 c4 c5;have hbb:=zj w _ c0;simp only at hbb;have hbb1:b<w.heap.size+1:=by omega
 obtain⟨O,hO⟩:∃ O,O=(Obj.cells #[.int .i64 t.kind,.int .i64 t.num,.slice (some ⟨b,o,none⟩) t.elem.length d1,.slice x2 t.fields.length d2,.slice x3 t.methods.length d3,.slice x4 t.embeds.length d4] 29):=⟨_,rfl⟩;have hP1:BPre F w0 s (w.alloc O) d false t.el0 at_ p:=by
  have:=hP.keep ((zp _ _).alloc (zl _) O);exact⟨this.base,this.ok,hP.pp,ef,hv,hP.tb,by rw[← hz];exact hP.free,by rw[← hz];exact hP.le,hP.nn,by have:=hP.ni;omega⟩
 subst hO;have HC:=hid (ih t.el0 _ _ s d false at_ p hb1 ht1 hP1);have hpost:∀ (w1:World) (s':St) (v:Value),IsTy v→BExt F s (w.alloc (.cells #[.int .i64 t.kind,.int .i64 t.num,.slice (some ⟨b,o,none⟩) t.elem.length d1,.slice x2 t.fields.length d2,.slice x3 t.methods.length d3,.slice x4 t.embeds.length d4] 29)) s' w1 at_ (at_+t.el0.size)→Den (gOf F s' (rdA (w.alloc (.cells #[.int .i64 t.kind,.int .i64 t.num,.slice (some ⟨b,o,none⟩) t.elem.length d1,.slice x2 t.fields.length d2,.slice x3 t.methods.length d3,.slice x4 t.embeds.length d4] 29)).heap.size w1)) ⟨t.el0,at_,p⟩ v→s'.ifs.length≤s.ifs.length+t.el0.bulk∧Mems (gOf F s' (rdA (w.alloc (.cells #[.int .i64 t.kind,.int .i64 t.num,.slice (some ⟨b,o,none⟩) t.elem.length d1,.slice x2 t.fields.length d2,.slice x3 t.methods.length d3,.slice x4 t.embeds.length d4] 29)).heap.size w1)) s.ifs→
   qh4 F s w t at_ p (.returned (.iface 147 (.pointer (some ⟨w1.heap.size,0,none⟩)))) (w1.alloc (.cells #[v] 187)):=fun w1 s' v hv hE hD hI=>by
  have E1:=BExt.keep hP.ok ((zp _ _).alloc (zl _) (.cells #[.int .i64 t.kind,.int .i64 t.num,.slice (some ⟨b,o,none⟩) t.elem.length d1,.slice x2 t.fields.length d2,.slice x3 t.methods.length d3,.slice x4 t.embeds.length d4] 29)) at_;have E3:=BExt.keep hE.ok ((zp _ _).alloc (zl _) (.cells #[v] 187)) (at_+t.el0.size);have hsz:=hE.size;rw[zd] at hsz;have hI1:=hI.1;refine⟨_,s',rfl,⟨_,_,rfl⟩,?_,?_,by omega,hI.2.mono (E3.le (qfd (by simp) E3.rd)) rfl⟩
  ·rw[hz];exact(E1.trans hE (zl _) (by omega)).trans E3 (by omega) (zl _)
  ·have hD2:=Den.mono (E3.le (qfd (B:=(w.alloc (.cells #[.int .i64 t.kind,.int .i64 t.num,.slice (some ⟨b,o,none⟩) t.elem.length d1,.slice x2 t.fields.length d2,.slice x3 t.methods.length d3,.slice x4 t.embeds.length d4] 29)).heap.size) (B':=w.heap.size) (by simp) E3.rd)) hD;have hb:=(Blk.new w1 187 [v]).rda (B:=w.heap.size) (by omega) (by decide) (by decide) (by
    obtain⟨T,x,rfl⟩:=hv;simp[qcq])
   obtain⟨k,m,l,fs,ms,em⟩:=t;simp only[Ty.kind,Ty.elem,Ty.el0] at *;unfold Den DenT;refine .inr (.inr (.inr (.inl ⟨hk,w1.heap.size,v,rfl,hb 0 v rfl,?_⟩)));cases l with
   | nil=>simp at el
   | cons x r=>simpa[DenE,Den] using hD2
 have Hpost:=hid hpost;have k1:(t.kind==1)=false:=by simp[hk]
 have k2:(t.kind==2)=false:=by simp[hk]
 have k3:(t.kind==3)=true:=by simp[hk]
 clear hb2;clear hP ht hpost hk hz e0 e2 e3 e4 ef hv hP1 ht1 hc h1 hbk hb1 ih en
 generalize t.kind=kd at *
 have hez:(0:Int)<(t.elem.length:Int):=by omega
 clear el he;go_enter Tryz.func41,Tryz.ntmps41
 go_wp2_with (first
  | (go_at_call 41;refine HC.out.mono ?_;rintro e w1 ⟨v,s',rfl,hv,hE,hD,hI⟩;obtain⟨T,x,rfl⟩:=hv;have HE:=hid hE;have HD:=hid hD;have HI:=hid hI;clear hE hD hI)
  | (go_at_call 64;refine(qox _ _ _).mono ?_;rintro e w2 ⟨rfl,rfl⟩))
 go_ret
 exact Hpost.out _ s' _ ⟨_,_,rfl⟩ HE.out HD.out HI.out
end Go.Proofs.YtaibcdkadbemgaaGreatDoor
namespace Go.Proofs.YtaibcdkadbemgaaGreatDoor
open Go Go.RowKit
def qct (w:World) (r:Nat) (L:List (ByteArray×Value)):Prop:=∃ es clock,w.heap[r]?=some (.map es clock)∧es.toList.map (fun e=>(e.key,e.val))=L.map fun x=>(Value.string x.1,x.2)
theorem qtl (a b:ByteArray):(a==b)=true↔a=b:=by
 obtain⟨a⟩:=a;obtain⟨b⟩:=b;show(a==b)=true↔_;simp
theorem ba_ne {a b:ByteArray} (h:a≠b):(a==b)=false:=by
 cases e:(a==b)
 ·rfl
 ·exact absurd ((qtl a b).1 e) h
theorem qna (a:ByteArray):(a==a)=true:=(qtl a a).2 rfl
def getS (L:List (ByteArray×Value)) (k:ByteArray):Option Value:=(L.find? fun x=>x.1==k).map (·.2)
theorem qct.lt {w:World} {r:Nat} {L:List (ByteArray×Value)} (h:qct w r L):r<w.heap.size:=by
 obtain⟨es,c,h,-⟩:=h;exact(z8.1 h).1
theorem qct.apart {S:Nat→Prop} {w w':World} {r:Nat} {L:List (ByteArray×Value)} (h:qct w r L) (ha:qag S w w') (hr:¬ S r):qct w' r L:=by
 have hl:=h.lt;obtain⟨es,c,h,hL⟩:=h;exact⟨es,c,(ha.block r hl hr).trans h,hL⟩
theorem qct.new (w:World) (c:Nat):qct (w.alloc (.map #[] c)) w.heap.size []:=⟨#[],c,by show(w.heap.push _)[w.heap.size]?=_;exact Array.getElem?_push_size,rfl⟩
theorem qg6 (k:ByteArray):∀ (l:List MapEntry) (L:List (ByteArray×Value)) (i:Nat),l.map (fun e=>(e.key,e.val))=L.map (fun x=>(Value.string x.1,x.2))→
  (getS L k=none∧Instr.findNow .string (.string k) l i=some none)∨∃ v j,getS L k=some v∧Instr.findNow .string (.string k) l i=some (some (j,v))
 | [],[],i,_ => .inl ⟨rfl,rfl⟩
 | [],x::L,i,h=>by simp at h
 | e::l,[],i,h=>by simp at h
 | e::l,(s,v)::L,i,h=>by
  simp only[List.map_cons,List.cons.injEq,Prod.mk.injEq] at h;obtain⟨⟨h1,h2⟩,h3⟩:=h;simp only[Instr.findNow,h1,Instr.sameNow];by_cases hk:k=s
  ·subst hk;right;exact⟨v,i,by simp[getS,qna],by simp[h2,qna]⟩
  ·have e1:(k==s)=false:=ba_ne hk;have e2:(s==k)=false:=ba_ne fun e=>hk e.symm;simp only[e1];have:=qg6 k l L (i+1) h3;simpa[getS,e2] using this
section
variable {P:Program} {t kt et:TypeId} {z:Value}
theorem qh8 (w:World) (b:Bool) (k:ByteArray) (hk:P.underlying kt=some .string):(Instr.checkKey b 10000 kt (.string k)).run P w = .ok () w:=by
 exact MapKept.run_checkKey (d := .string) (k := .string k) hk (by trivial) b 9999
theorem qg4 (w:World) (ht:P.underlying t=some (.map kt et)) (hk:P.underlying kt=some .string) (hz:(P.info? et).map (·.zero)=some (some z)) {r:Nat} {L:List (ByteArray×Value)} (h:qct w r L) (k:ByteArray):
  (Instr.lookup t (.map (some r)) (.string k) false).run P w = .ok ((getS L k).getD z) w:=by
 obtain⟨es,c,hb,hL⟩:=h;obtain⟨j,hj,hz'⟩:=zab.1 hz;rcases qg6 k es.toList L 0 hL with ⟨h1,h2⟩|⟨v,n,h1,h2⟩
 ·simp[Instr.lookup,run_underlying ht,MapKept.run_getObj_map hb,qh8 w _ k hk,MapKept.run_findKey hk h2,h1,Result.andThen,zeroValue,hj,hz',typeInfo]
 ·simp[Instr.lookup,run_underlying ht,MapKept.run_getObj_map hb,qh8 w _ k hk,MapKept.run_findKey hk h2,h1,Result.andThen]
theorem qkm (w:World) (ht:P.underlying t=some (.map kt et)) (hk:P.underlying kt=some .string) (hz:(P.info? et).map (·.zero)=some (some z)) (k:ByteArray):
  (Instr.lookup t (.map none) (.string k) false).run P w = .ok z w:=by
 obtain⟨j,hj,hz'⟩:=zab.1 hz;simp[Instr.lookup,run_underlying ht,qh8 w _ k hk,Instr.findKey,run_underlying hk,Instr.findNow,Result.andThen,zeroValue,hj,hz',typeInfo]
theorem qkw (w:World) (ht:P.underlying t=some (.map kt et)) (hk:P.underlying kt=some .string) {r:Nat} {L:List (ByteArray×Value)} (h:qct w r L) (k:ByteArray) (v:Value) (hn:getS L k=none):
  ∃ w',(Instr.mapUpdate t (.map (some r)) (.string k) v).run P w = .ok () w'∧qct w' r (L++[(k,v)])∧qah (fun b=>b=r) w w':=by
 obtain⟨es,c,hb,hL⟩:=h;rcases qg6 k es.toList L 0 hL with ⟨h1,h2⟩|⟨v',n,h1,h2⟩
 ·have hrun:(Instr.mapUpdate t (.map (some r)) (.string k) v).run P w = .ok () { w with heap:=w.heap.setIfInBounds r (.map (es.push { key := .string k,val:=v,born:=c }) (c+1)) }:=by
   simp[Instr.mapUpdate,run_underlying ht,MapKept.run_getObj_map hb,qh8 w _ k hk,MapKept.run_findKey hk h2,MapKept.run_setObj_map _ hb,Result.andThen]
  have hlt:r<w.heap.size:=(z8.1 hb).1;refine⟨_,hrun,⟨es.push { key := .string k,val:=v,born:=c },c+1,by simp[hlt],?_⟩,⟨rfl,rfl,rfl,⟨by simp,fun b hb' hs => ?_⟩⟩⟩
  ·rw[Array.toList_push,List.map_append,hL,List.map_append];rfl
  ·simp only;rw[Array.getElem?_setIfInBounds,if_neg (fun e=>hs e.symm)]
 ·rw[hn] at h1;cases h1
theorem qe8 (w:World) {ops:Array Oper} {rest:List Oper} {o:Oper} {a:Act} {Q:Exit→Act→World→Prop} (hg:o.guard=none) (m x v:Operand) (hop:o.op=Op.mapUpdate t m x v)
  (ht:P.underlying t=some (.map kt et)) (hk:P.underlying kt=some .string) {r:Nat} {L:List (ByteArray×Value)} (hm:a.eval m = .map (some r)) (h:qct w r L) (k:ByteArray) (hx:a.eval x = .string k) (val:Value) (hv:a.eval v=val) (hn:getS L k=none)
  (hK:∀ w',qct w' r (L++[(k,val)])→qah (fun b=>b=r) w w'→wpList P ops Q rest (a.put o.dst undef) w'):wpList P ops Q (o::rest) a w:=by
 refine wpList_plain hg fun K' hK' => ?_;obtain⟨w',hrun,r1,r2⟩:=qkw (P:=P) w ht hk h k val hn;unfold Oper.wp;simp[execOp,hop,hm,hx,hv,hrun,Result.andThen];exact hK' _ _ (hK w' r1 r2)
end
end Go.Proofs.YtaibcdkadbemgaaGreatDoor
namespace Go.Proofs.YtaibcdkadbemgaaGreatDoor
open Go Go.RowKit Go.MuLone
set_option maxRecDepth 100000
theorem qhj (f pk:Nat) (p n:Int) (w:World) (h:IsNm n) (hp:p=0∨p=1) (hT:Tabs w) (h1:w.cell? ⟨f,1,none⟩=some (.pointer (some ⟨pk,0,none⟩))) (h2:w.cell? ⟨f,2,none⟩=some (.string (qas n))) (hc:w.cell? ⟨pk,0,none⟩=some (.string (qbo p))):
  Calls Tryz.prog 154 #[.pointer (some ⟨f,0,none⟩)] w (qa2 (.string (idS p n)) w):=by
 have HT:=hid hT;have Hp:=hid hp;have H:=hid h;have hfl:=zj w _ h1;have hpl:=zj w _ hc;simp only at hfl hpl;clear hT hp h;go_enter Tryz.func154,Tryz.ntmps154
 go_wp2_with fail
 refine Mix.wp_region [0,1,2,3,4,5,6,7,8] [] [9] (fun _=>default) (by kernel_rfl) (by kernel_rfl) (by decide) ?_
 iterate 9 (first|(refine pre_yes rfl rfl ?_;apply Exists.intro;refine⟨fun W1 hW1 => ?_,?_⟩;(focus (have hc1:=(qal hW1).1;(try simp only[zd,qaa] at hc1);have hk1:=qac.below hW1;go_simp;first|exact rfl|(go_at_call 50;exact qj5 pk p n _ H.out Hp.out (HT.out.below ⟨hW1.os,hW1.tape,hW1.output,hW1.size,hW1.block⟩) (hk1 _ _ hc))));simp only[Act.put,zk,zh,zi,ze,zm,zn])|(refine pre_no rfl rfl ?_;simp only[Act.put,zk,zh,zi,ze,zm,zn]))
 refine pre_end fl_nil (fun W2 hW2=>mid_nil (qco rfl ?_))
 go_wp2_with fail
 go_ret
 exact⟨rfl,⟨hW2.os,hW2.tape,hW2.output,hW2.size,hW2.block⟩⟩
theorem quu (a : Addr) (w : World) : (method 511 151 (.pointer (some a)) "Id").run Tryz.prog w = .ok (154, .pointer (some a)) w := by kernel_rfl
theorem qlk (a : Addr) (w : World) : (method 511 105 (.pointer (some a)) "Id").run Tryz.prog w = .ok (154, .pointer (some a)) w := by kernel_rfl
theorem Tryz.zObj:(Tryz.prog.info? 67).map (·.zero)=some (some .nilIface):=by kernel_rfl
theorem qlt (sb f pk:Nat) (p n:Int) (m:Option Nat) (L:List (ByteArray×Value)) (w:World) (h:IsNm n) (hp:p=0∨p=1) (hT:Tabs w) (h1:w.cell? ⟨f,1,none⟩=some (.pointer (some ⟨pk,0,none⟩))) (h2:w.cell? ⟨f,2,none⟩=some (.string (qas n))) (hc:w.cell? ⟨pk,0,none⟩=some (.string (qbo p)))
  (T D:TypeId) (hD:D=151∨D=105) (hs:Blk w sb T [.map m]) (hm:m=none∧L=[]∨∃ r,m=some r∧qct w r L∧r≠sb) (hn:getS L (idS p n)=none):
  Calls Tryz.prog 87 #[.pointer (some ⟨sb,0,none⟩),.iface D (.pointer (some ⟨f,0,none⟩))] w fun e w'=>e = .returned .nilIface∧∃ r,Blk w' sb T [.map (some r)]∧qct w' r (L++[(idS p n,.iface D (.pointer (some ⟨f,0,none⟩)))])∧r≠sb∧
   (m=some r∨w.heap.size≤r)∧qah (fun b=>b=sb∨m=some b) w w':=by
 have HT:=hid hT;have Hp:=hid hp;have H:=hid h;have Hs:=hid hs;have Hn:=hid hn;have c0:=hs.cell 0;have f0:=hs.soft 0;simp only[zs] at c0;have hsl:=hs.lt;have hmv:=quu;have hmf:=qlk;clear hT hp h hs hn;rcases hm with ⟨rfl,rfl⟩|⟨r,rfl,hr,hrs⟩
 ·have hlk:=fun w=>qkm (P:=Tryz.prog) w Tryz.underlying193 Tryz.underlying9 Tryz.zObj (idS p n);have qT:∀ (w:World) (r:Option Nat),(binOp .eql 193 (.map r) (.map none)).run Tryz.prog w = .ok (.bool r.isNone) w:=fun w r=>run_eql_map_nil w _ _ _ r Tryz.underlying193;have hmm:=@run_makeMap Tryz.prog;have Hself:=hid (trivial:True);rcases hD with rfl|rfl
  all_goals
   go_enter Tryz.func87,Tryz.ntmps87
   go_wp2_with (first|(at_mapUpdate;refine qe8 _ rfl (.tmp 26) (.tmp 27) (.tmp 28) rfl Tryz.underlying193 Tryz.underlying9 (r:=w1.heap.size) (L:=[]) rfl ?m1 (idS p n) rfl _ rfl ?q4 ?m2)|(go_at_call 154;refine(qhj f pk p n _ H.out Hp.out HT.out h1 h2 hc).mono ?_;rintro e w1 ⟨rfl,hb1⟩;have Hb1:=hid hb1;have hz1:=zq hb1;have q0:w1.cell? ⟨sb,0,none⟩=some (.map none):=(qac.below hb1) _ _ c0;have qf:w1.frozen? ⟨sb,0,none⟩=false:=(by rw[hb1.frozen (p:=⟨sb,0,none⟩) hsl];exact f0);have hs1:sb<w1.heap.size:=(by omega);have hs2:sb<w1.heap.size+1:=(by omega)))
   case q4=>exact rfl
   case m1=>
    have:=qct.new (w1.setCell ⟨sb,0,none⟩ (.map (some w1.heap.size))) 0
    rwa [show(w1.setCell ⟨sb,0,none⟩ (.map (some w1.heap.size))).heap.size=w1.heap.size by simp[World.setCell]] at this
   case m2=>
    intro w' hmap htu;have Hmap:=hid hmap;have Htu:=hid htu;clear hmap htu
    go_wp2_with fail
    go_ret
    refine⟨rfl,w1.heap.size,?_,Hmap.out,by omega,.inr hz1,?_⟩
    ·exact(((Hs.out.keep Hb1.out).set 0 (.map (some w1.heap.size))).alloc _).apart Htu.out.apart (by show ¬ sb=w1.heap.size;omega)
    ·have t1:qah (fun b=>b=sb∨(none:Option Nat)=some b) w1 (w1.setCell ⟨sb,0,none⟩ (.map (some w1.heap.size))):=qah.setCell _ _ (.inl rfl) _;have t2:qah (fun b=>b=sb∨(none:Option Nat)=some b) (w1.setCell ⟨sb,0,none⟩ (.map (some w1.heap.size))) ((w1.setCell ⟨sb,0,none⟩ (.map (some w1.heap.size))).alloc (.map #[] 0)):=qah.keep ((zp _ _).alloc (zl _) _);have t3:=((qah.keep (S:=fun b=>b=sb∨b=w1.heap.size) Hb1.out).trans (t1.mono fun b _ h=>by rcases h with h|h;exact .inl h;cases h)).trans ((t2.mono fun b _ h=>by rcases h with h|h;exact .inl h;cases h).trans (Htu.out.mono fun b _ h => .inr h));exact t3.mono fun b hb h=>by rcases h with h|h;exact .inl h;omega
 ·have qT:∀ (w:World) (r:Option Nat),(binOp .eql 193 (.map r) (.map none)).run Tryz.prog w = .ok (.bool r.isNone) w:=fun w r=>run_eql_map_nil w _ _ _ r Tryz.underlying193;have Hr:=hid hr;clear hr;rcases hD with rfl|rfl
  all_goals
   go_enter Tryz.func87,Tryz.ntmps87
   go_wp2_with (first|(at_mapUpdate;refine qe8 _ rfl (.tmp 26) (.tmp 27) (.tmp 28) rfl Tryz.underlying193 Tryz.underlying9 (r:=r) (L:=L) rfl ?m1 (idS p n) rfl _ rfl ?q4 ?m2)|(go_at_call 154;refine(qhj f pk p n _ H.out Hp.out HT.out h1 h2 hc).mono ?_;rintro e w1 ⟨rfl,hb1⟩;have Hb1:=hid hb1;have hz1:=zq hb1;have q0:w1.cell? ⟨sb,0,none⟩=some (.map (some r)):=(qac.below hb1) _ _ c0;have Hm1:=hid (Hr.out.apart (S:=fun _=>False) (qag.keep hb1) (fun h=>h));have hlk:=qg4 (P:=Tryz.prog) w1 Tryz.underlying193 Tryz.underlying9 Tryz.zObj Hm1.out (idS p n);rw[Hn.out] at hlk;simp only[Option.getD_none] at hlk;have hs1:sb<w1.heap.size:=(by omega)))
   case m1=>exact Hm1.out
   case q4=>exact Hn.out
   case m2=>
    intro w' hmap htu;have Hmap:=hid hmap;have Htu:=hid htu;clear hmap htu
    go_wp2_with fail
    go_ret
    refine⟨rfl,r,?_,Hmap.out,hrs,.inl rfl,?_⟩
    ·exact(Hs.out.keep Hb1.out).apart Htu.out.apart (by show ¬ sb=r;omega)
    ·exact(qah.keep Hb1.out).trans (Htu.out.mono fun b _ h => .inr (by rw[h]))
end Go.Proofs.YtaibcdkadbemgaaGreatDoor
namespace Go.Proofs.YtaibcdkadbemgaaGreatDoor
open Go Go.RowKit
theorem qd0 (v:Value) (n:Nat):madeCells #[v] n=(List.replicate n v).toArray:=by
 apply Array.ext
 ·simp[madeCells]
 ·intro i h1 h2;simp[madeCells,Nat.mod_one]
theorem Tryz.infoInt:(Tryz.prog.info? 3).map (fun i=>(i.zero,i.size,i.bytes))=some (some (.int .i64 0),1,8):=by kernel_rfl
theorem qso (n:Nat) (w:World) (hn:n≤16777216):
  (Instr.makeSlice 32 (.int .i64 (n:Int)) (.int .i64 (n:Int))).run Tryz.prog w = .ok (.slice (some ⟨w.heap.size,0,none⟩) n n) (w.alloc (.cells (qbh (List.replicate n 0)).toArray 3)):=by
 obtain⟨i0,hi,hz0,hz1,hz2⟩:=info_parts Tryz.infoInt;have h:=run_make (P:=Tryz.prog) w 32 3 i0 _ Tryz.underlying32 hi hz0 .i64 .i64 n n (by omega) (by omega) (by rw[hz2];omega) (by omega);rw[h];simp only[Int.toNat_natCast,hz1,Nat.mul_one,Value.cells,qd0,qbh,List.map_replicate];rfl
end Go.Proofs.YtaibcdkadbemgaaGreatDoor
namespace Go.Proofs.YtaibcdkadbemgaaGreatDoor
open Go Go.RowKit Go.MuLone
set_option maxRecDepth 100000
theorem qt7 {L:List (ByteArray×Value)} {k:ByteArray} (h:∀ x∈L,x.1≠k):getS L k=none:=by
 unfold getS;rw[Option.map_eq_none_iff,List.find?_eq_none];intro x hx e;exact h x hx ((qtl _ _).1 e)
def qsb (w:World) (f pk:Nat) (p n:Int):Prop:=w.cell? ⟨f,1,none⟩=some (.pointer (some ⟨pk,0,none⟩))∧w.cell? ⟨f,2,none⟩=some (.string (qas n))∧w.cell? ⟨pk,0,none⟩=some (.string (qbo p))
theorem qsb.keep {w W:World} {f pk:Nat} {p n:Int} (h:qsb w f pk p n) (k:qac w W):qsb W f pk p n:=⟨k _ _ h.1,k _ _ h.2.1,k _ _ h.2.2⟩
def ObjSet (w:World) (B sb:Nat) (T:TypeId) (ids:List ByteArray):Prop:=∃ m L,Blk w sb T [.map m]∧(m=none∧L=[]∨∃ r,m=some r∧qct w r L∧r≠sb∧B≤r)∧∀ x∈L,x.1∈ids
theorem qiu (b:Nat) (a:Addr) (n c:Nat) (v:Value) (T:TypeId) (w:World) (h:Blk w b T [.slice (some a) n c,v]):Calls Tryz.prog 88 #[.pointer (some ⟨b,0,none⟩)] w fun e w'=>e = .returned (.tuple #[])∧w'=w:=by
 have c0:=h.cell 0;simp only[zs] at c0;have qs:=fun(w:World) (a:Option Addr) (n c n' c':Nat)=>Lib.run_eql_slice_nil (P:=Tryz.prog) w _ _ a n c n' c' Tryz.underlying149;clear h;go_enter Tryz.func88,Tryz.ntmps88
 go_wp2_with fail
 go_end0
 exact⟨rfl,rfl⟩
theorem Tryz.infoPV:(Tryz.prog.info? 151).map (fun i=>(i.zero,i.size,i.bytes))=some (some (.pointer none),1,8):=by kernel_rfl
theorem qub (w:World):(Instr.makeSlice 149 (.int .i64 0) (.int .i64 0)).run Tryz.prog w = .ok (.slice (some ⟨w.heap.size,0,none⟩) 0 0) (w.alloc (.cells #[] 151)):=by
 obtain⟨i0,hi,hz0,hz1,hz2⟩:=info_parts Tryz.infoPV;have h:=run_make (P:=Tryz.prog) w 149 151 i0 _ Tryz.underlying149 hi hz0 .i64 .i64 0 0 (by omega) (by omega) (by rw[hz2];omega) (by omega);rw[h];have e:∀ z,madeCells z 0=#[]:=fun z=>Array.size_eq_zero_iff.1 (size_madeCells z 0);simp only[Int.toNat_zero,Nat.zero_mul,e]
theorem qid (b:Nat) (n c:Nat) (v:Value) (T:TypeId) (w:World) (h:Blk w b T [.slice none n c,v]):Calls Tryz.prog 88 #[.pointer (some ⟨b,0,none⟩)] w fun e w'=>e = .returned (.tuple #[])∧(∃ a2,Blk w' b T [.slice a2 0 0,v])∧qah (fun k=>k=b) w w':=by
 have c0:=h.cell 0;have f0:=h.soft 0;have hbl:=h.lt;simp only[zs] at c0;have qs:=fun(w:World) (a:Option Addr) (n c n' c':Nat)=>Lib.run_eql_slice_nil (P:=Tryz.prog) w _ _ a n c n' c' Tryz.underlying149;have hmk:=qub;have H:=hid h;clear h;go_enter Tryz.func88,Tryz.ntmps88
 go_wp2_with fail
 go_end0
 refine⟨rfl,?_,?_⟩
 ·exact⟨_,(H.out.set 0 _).alloc _⟩
 ·exact(qah.setCell (fun k=>k=b) w (a:=⟨b,0,none⟩) rfl _).trans (qah.keep ((zp _ _).alloc (zl _) _))
theorem qm1 (a:Option Addr) (c:Nat) (fs:List Nat) (pk:Nat) (p:Int) (ns:List Int) (w:World) (hp:p=0∨p=1) (hT:Tabs w) (hr:qlm w a fs) (hc:fs.length≤c) (hl:fs.length≤1048576)
  (hf:∀ i (hi:i<fs.length),qsb w fs[i] pk p (ns.getD i 0)∧IsNm (ns.getD i 0)∧(ns.getD i 0≠8→∀ j,j<i→idS p (ns.getD i 0)≠idS p (ns.getD j 0))):
  Calls Tryz.prog 67 #[.slice a fs.length c,.slice none 0 0] w fun e w'=>∃ b a' c',e = .returned (.pointer (some ⟨b,0,none⟩))∧Blk w' b 196 [.slice a' fs.length c',.slice none 0 0]∧(0<fs.length→a'=a∧c'=c)∧fs.length≤c'∧w.heap.size≤b∧Below w.heap.size w w':=by
 have HT:=hid hT;have Hp:=hid hp;have Hr:=hid hr;have Hf:=hid hf;clear hT hp hr hf;go_enter Tryz.func67,Tryz.ntmps67
 go_wp2_with fail
 have hB1:Below w.heap.size w (w.alloc (.cells #[.map none] 193)):=(zp _ _).alloc (zl _) _;have HN:=hid (Blk.new w 193 [.map none])
 go_loopw [11] (fun j wr=>∃ k:Nat,k≤fs.length∧j = .int .i64 k∧Below w.heap.size w wr∧Hid (∃ ids,ObjSet wr w.heap.size w.heap.size 193 ids∧∀ s∈ids,∃ i,i<k∧s=idS p (ns.getD i 0)))
  (fun j _=>fs.length - (intOf j).toNat)
 case atStart=>exact⟨0,by omega,rfl,hB1,hid ⟨[],⟨none,[],HN.out,.inl ⟨rfl,rfl⟩,fun x hx=>by cases hx⟩,fun s hs=>by cases hs⟩⟩
 clear hB1 HN
 case round=>
  obtain⟨k,hk,rfl,hbel,hst⟩:=hrel;obtain⟨ids,⟨m,L,hblk,hm,hL⟩,hids⟩:=hst.out;have hz:=zq hbel;have HK:=hid (qac.below hbel);have Hblk:=hid hblk;have Hm:=hid hm;have HL:=hid hL;have Hids:=hid hids;have hbl:=hblk.lt;clear hst hblk hm hL hids;by_cases hlt:k<fs.length
  ·obtain⟨g,o,rfl,hg⟩:=Hr.out k hlt;obtain⟨hv,hnm,hdis⟩:=Hf.out k hlt;have hv:=hv.keep HK.out;have hg:=HK.out _ _ hg;have hv2:=hv.2.1;have Hv:=hid hv;have Hnm:=hid hnm;have Hdis:=hid hdis;clear hv hnm hdis;by_cases h8:ns.getD k 0=8
   ·have hq:((qas (ns.getD k 0)).toList==[95])=true:=by rw[h8];decide +kernel
    have H8:=hid h8;clear h8
    generalize ns.getD k 0=x at hv2 hq
    go_wp2_with fail
    go_roundw
    case rel=>exact⟨k+1,by omega,by go_num,hbel,hid ⟨ids,⟨m,L,Hblk.out,Hm.out,HL.out⟩,fun s hs=>by
     obtain⟨i,hi,e⟩:=Hids.out s hs;exact⟨i,by omega,e⟩⟩⟩
    case measure=>simp[intOf];omega
   ·have hq:((qas (ns.getD k 0)).toList==[95])=false:=qhk Hnm.out h8;have hno:getS L (idS p (ns.getD k 0))=none:=qt7 fun x hx e=>by
     obtain⟨i,hi,e2⟩:=Hids.out _ (HL.out x hx);exact Hdis.out h8 i hi (e ▸ e2)
    have Hno:=hid hno;clear h8 hno;obtain⟨x,hx⟩:∃ x,x=ns.getD k 0:=⟨_,rfl⟩;rw[← hx] at hv2 hq Hnm Hv Hno;have Hx:=hid hx;clear hx
    go_wp2_with (go_at_call 87;refine(qlt w.heap.size fs[k] pk p x m L _ Hnm.out Hp.out (HT.out.below hbel) Hv.out.1 Hv.out.2.1 Hv.out.2.2 193 151 (.inl rfl) Hblk.out (by rcases Hm.out with h|⟨r,h1,h2,h3,h4⟩;exact .inl h;exact .inr ⟨r,h1,h2,h3⟩) Hno.out).mono ?_;rintro e w2 ⟨rfl,r,hb2,hs2,hne2,hr2,ht2⟩;have Hb2:=hid hb2;have Hs2:=hid hs2;have Hne2:=hid hne2;have Hr2:=hid hr2;have Ht2:=hid ht2;clear hb2 hs2 hne2 hr2 ht2)
    have hb3:Below w.heap.size wr w2:=Ht2.out.below hz fun b hb=>by
     rcases hb with h|h
     ·omega
     ·rcases Hm.out with ⟨h1,-⟩|⟨r2,h1,h2,h3,h4⟩
      ·rw[h1] at h;cases h
      ·rw[h1] at h;cases h;exact h4
    have hr3:w.heap.size≤r:=by
     rcases Hr2.out with h|h
     ·rcases Hm.out with ⟨h1,-⟩|⟨r2,h1,h2,h3,h4⟩
      ·rw[h1] at h;cases h
      ·rw[h1] at h;cases h;exact h4
     ·omega
    go_roundw
    case rel=>exact⟨k+1,by omega,by go_num,hbel.trans hb3,hid ⟨idS p x::ids,⟨some r,_,Hb2.out,.inr ⟨r,rfl,Hs2.out,Hne2.out,hr3⟩,fun y hy=>by
      rcases zhb.1 hy with hy|hy
      ·exact zx _ (HL.out y hy)
      ·rw[zeb.1 hy];exact zy ..⟩,fun s hs=>by
      rcases zfb.1 hs with rfl|hs
      ·exact⟨k,by omega,by rw[Hx.out]⟩
      ·obtain⟨i,hi,e⟩:=Hids.out s hs;exact⟨i,by omega,e⟩⟩⟩
    case measure=>simp[intOf];omega
  ·obtain rfl:k=fs.length:=by omega
   have Hn:=hid (Blk.new wr 196 [.slice a fs.length c,.slice none 0 0]);have HB:=hid hbel;cases a with
   | some ad=>
    go_wp2_with (go_at_call 88;refine(qiu wr.heap.size ad fs.length c _ _ _ Hn.out).mono ?_;rintro e w2 ⟨rfl,rfl⟩)
    go_ret
    exact⟨wr.heap.size,_,_,rfl,Hn.out,fun _=>⟨rfl,rfl⟩,hc,hz,HB.out.alloc hz _⟩
   | none=>
    have h0:fs.length=0:=by
     by_cases h:0<fs.length
     ·obtain⟨_,_,h2,-⟩:=Hr.out 0 h;cases h2
     ·omega
    have H0:=hid h0;clear h0
    go_wp2_with (go_at_call 88;refine(qid wr.heap.size fs.length c _ _ _ Hn.out).mono ?_;rintro e w2 ⟨rfl,⟨a2,hb2⟩,ht2⟩;have Hb2:=hid hb2;have Ht2:=hid ht2;clear hb2 ht2)
    go_ret
    refine⟨wr.heap.size,a2,0,rfl,?_,fun h=>by have:=H0.out;omega,by have:=H0.out;omega,hz,?_⟩
    ·rw[H0.out];exact Hb2.out
    ·exact(HB.out.alloc hz _).trans (Ht2.out.below (by simp;omega) fun b hb=>by omega)
