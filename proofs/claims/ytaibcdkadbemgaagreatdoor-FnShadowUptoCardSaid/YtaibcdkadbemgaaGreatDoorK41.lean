import Derived.Test.YtaibcdkadbemgaaGreatDoorK40
import Derived.Test.YtaibcdkadbemgaaGreatDoorK32
set_option linter.all false
namespace Go.Proofs.YtaibcdkadbemgaaGreatDoor
open Go Go.RowKit
set_option maxRecDepth 100000
theorem qri (v:Value) (a:Option Addr) (n c:Nat) (hv:v = .slice a n c) (hn:n≤1) (w:World):Calls Tryz.prog 114 #[v] w fun e w'=>e = .returned v∧w'=w:=by
 subst hv;have hn':(n:Int)≤1:=by omega
 go_enter Tryz.func114,Tryz.ntmps114
 go_wp2_with fail
 go_ret
 exact⟨rfl,rfl⟩
theorem qpd (W:Wd) {l:List En} (h:l.length≤1):qbc W l=l:=by
 match l,h with
 | [],_=>rfl
 | [e],_=>simp[qbc,conS]
theorem qou {F:Fix} {P:Nat→Nat} {w0:World} {s:St} {w:World} (A:Amb F P w0 s w) {sp:Spot} {v:Value} (hd:DenW F s w sp v) (hs:SpO F.W P sp):
  ∃ T x,(∀ w',Below w.heap.size w w'→Calls Tryz.prog 106 #[v] w' (fun e w2=>e = .returned (.tuple #[.iface T (.pointer (some x)),.bool (drf F.W sp).2])∧w2=w'))∧DenW F s w (drf F.W sp).1 (.iface T (.pointer (some x)))∧SpO F.W P (drf F.W sp).1∧op P (drf F.W sp).1.of≤op P sp.of:=by
 obtain⟨u,hu⟩:=A.plainv hd hs;obtain⟨sp1,sp2⟩:=hs.toPlain A.wd;have hk1:(pl F.W sp).of.kind=(plain F.W sp).of.kind:=qfn _;unfold drf;split
 next hk=>
  obtain⟨b,z,e,h1,h2⟩:=Den.ptr hu.den (by rw[hk1];exact hk);have e1:pl F.W sp=plain F.W sp:=qgb (by omega);rw[e1] at h2;have hse:=sp1.elem (.inl hk);have hz:=A.plainv h2 hse.1;have hty:∃ T x,z = .iface T (.pointer (some x)):=by
   obtain⟨uz,hz⟩:=hz;obtain⟨⟨T,x,e3,-⟩,h3⟩:=hz.plain;rcases h3 with h3|⟨al,h3,-⟩
   ·exact⟨T,x,by rw[h3,e3]⟩
   ·exact⟨_,_,h3⟩
  obtain⟨T,x,rfl⟩:=hty;exact⟨T,x,fun w' hb=>qn2 v b T (some x) w' (by rw[← e];exact hu.plain.keep hb) (qac.below hb _ _ (qax h1)),h2,hse.1,by show op P (qaq _).of≤_;omega⟩
 next hk=>
  obtain⟨b,e,-⟩:=hu.ty A;have hT:kT (pl F.W sp).of.kind≠145:=fun e2=>by
   have:=qki (b:=2) hu.spo.kinds (by omega) (e2.trans rfl);rw[hk1] at this;exact hk this
  have hp:=hu.plain;rw[e] at hp;have hty:∃ T x,v = .iface T (.pointer (some x)):=by
   obtain⟨-,h3|⟨al,h3,-⟩⟩:=hp
   ·exact⟨_,_,h3⟩
   ·exact⟨_,_,h3⟩
  have hcall:=fun(w':World) (hb:Below w.heap.size w w')=>qqu v (kT (pl F.W sp).of.kind) ⟨b,0,none⟩ w' hT (hp.keep hb);obtain⟨T,x,rfl⟩:=hty;exact⟨T,x,hcall,hd,hs,zl _⟩
theorem PlV.key {F:Fix} {P:Nat→Nat} {w0:World} {s:St} {w:World} (A:Amb F P w0 s w) {sp:Spot} {v u:Value} (h:PlV F P s w sp v u):∃ k,v=tyV k∧TyIn w k:=by
 obtain⟨b,e,hi⟩:=h.ty A;obtain⟨-,h3|⟨al,h3,-⟩⟩:=h.plain
 ·exact⟨_,h3.trans e,hi⟩
 ·obtain⟨a,b,c,hb⟩:=h.alB al h3;exact⟨(102,al),h3,by unfold KeyT;simp,_,_,hb⟩
def nbOf (F:Fix) (d:Nat):Nat:=match F.tb d with
 | some (.iface _ (.pointer (some x)))=>x.block
 | _=>0
theorem qis {F:Fix} {s:St} {w:World} {d b tn:Nat} {U:TypeId} {ux:Addr} {ra:Option Addr} {rc:Nat} {fs:List Nat} (h:qbz F s w d b tn U ux ra rc fs):nbOf F d=b:=by
 unfold nbOf;rw[h.tb]
def NdS (W:Wd) (S:List Nat):Prop:=S.Nodup∧∀ d∈S,d<W.length∧(dc W d).alias=false
theorem qp9 {F:Fix} {P:Nat→Nat} {w0:World} {s:St} {w:World} (A:Amb F P w0 s w) {d e:Nat} (hd:d<F.W.length∧(dc F.W d).alias=false) (he:e<F.W.length∧(dc F.W e).alias=false):∃ tx ty,qfw w (nbOf F d) (nbOf F e) tx ty∧(nbOf F d=nbOf F e↔d=e):=by
 obtain⟨b1,tn1,U1,ux1,ra1,rc1,fs1,q1⟩:=(A.bt.set d hd.1).nd hd.2;obtain⟨b2,tn2,U2,ux2,ra2,rc2,fs2,q2⟩:=(A.bt.set e he.1).nd he.2;rw[qis q1,qis q2];have hbd:b1=b2→d=e:=fun h=>by
  exact A.bt.inj d e _ q1.tb (by rw[h];exact q2.tb)
 refine⟨tn1,tn2,⟨⟨_,q1.blk⟩,⟨_,q2.blk⟩,⟨_,q1.tnB⟩,⟨_,q2.tnB⟩,⟨fun h => ?_,fun h => ?_⟩⟩,hbd,fun h => ?_⟩
 ·have k1:=q1.tnB.cell 3;have k2:=q2.tnB.cell 3;rw[h,k2] at k1;simp only[zt,zs] at k1;cases k1;rfl
 ·have k1:=q1.blk.cell 1;have k2:=q2.blk.cell 1;rw[h,k2] at k1;simp only[zt,zs] at k1;cases k1;rfl
 ·subst h;have t1:=q1.tb;rw[q2.tb] at t1;cases t1;rfl
theorem qw7 {F:Fix} {P:Nat→Nat} {w0:World} {s:St} {w:World} (A:Amb F P w0 s w) {S:List Nat} (hS:NdS F.W S) {d:Nat} (hd:d<F.W.length∧(dc F.W d).alias=false):nbOf F d∈S.map (nbOf F)↔d∈S:=by
 constructor
 ·intro h;obtain⟨e,he,h1⟩:=zjb.1 h;obtain⟨-,-,-,h2⟩:=qp9 A (hS.2 e he) hd;rw[← h2.1 h1];exact he
 ·intro h;exact zjb.2 ⟨d,h,rfl⟩
structure qnz (F:Fix) (P:Nat→Nat) (s:St) (wB w:World) (g:Nat) (es:List En):Prop where
 blk:∃ cs,Blk w g 225 cs
 at_:∀ i (hi:i<es.length),EnAt F P s wB w g (i * 4) es[i]
theorem qnz.apart {F:Fix} {P:Nat→Nat} {s:St} {wB w w':World} {g:Nat} {es:List En} {S:Nat→Prop} (h:qnz F P s wB w g es) (ha:qag S w w') (hg:¬ S g) (hS:∀ b cs,Blk w b 3 cs→¬ S b):qnz F P s wB w' g es:=by
 obtain⟨cs,hc⟩:=h.blk;exact⟨⟨cs,hc.apart ha hg⟩,fun i hi=>(h.at_ i hi).apart ha hg hS⟩
structure NxAt (F:Fix) (P:Nat→Nat) (s:St) (wB w:World) (a:Option Addr) (c:Nat) (es:List En) (cells:List Value):Prop where
 own:w.ownsRow 0 225 4 (.slice a es.length c) es.length cells
 at_:∀ i (hi:i<es.length),∃ g,a=some ⟨g,0,none⟩∧EnAt F P s wB w g (i * 4) es[i]
theorem NxAt.nil (F:Fix) (P:Nat→Nat) (s:St) (wB w:World):NxAt F P s wB w none 0 [] []:=⟨zcb _ _ _ _,fun i hi=>by simp at hi⟩
theorem NxAt.apart {F:Fix} {P:Nat→Nat} {s:St} {wB w w':World} {a:Option Addr} {c:Nat} {es:List En} {cells:List Value} {S:Nat→Prop} (h:NxAt F P s wB w a c es cells) (ha:qag S w w') (hS:∀ b T cs,Blk w b T cs→T=3∨T=225→¬ S b):NxAt F P s wB w' a c es cells:=by
 refine⟨qab h.own ha fun g hg => ?_,fun i hi => ?_⟩
 ·obtain⟨cs,hc⟩:=qaf h.own hg;exact hS g _ cs hc (.inr rfl)
 ·obtain⟨g,e,q⟩:=h.at_ i hi;refine⟨g,e,q.apart ha ?_ fun b cs hb=>hS b _ cs hb (.inl rfl)⟩;subst e;obtain⟨cs,hc⟩:=qaf h.own (g:=g) rfl;exact hS g _ cs hc (.inr rfl)
theorem NxAt.keep {F:Fix} {P:Nat→Nat} {s:St} {wB w w':World} {a:Option Addr} {c:Nat} {es:List En} {cells:List Value} (h:NxAt F P s wB w a c es cells) (hb:Below w.heap.size w w'):NxAt F P s wB w' a c es cells:=
 h.apart (S:=fun _=>False) (qag.keep hb) (fun _ _ _ _ _ h=>h)
theorem qnz.keep {F:Fix} {P:Nat→Nat} {s:St} {wB w w':World} {g:Nat} {es:List En} (h:qnz F P s wB w g es) (hb:Below w.heap.size w w'):qnz F P s wB w' g es:=
 h.apart (S:=fun _=>False) (qag.keep hb) (fun h=>h) (fun _ _ _ h=>h)
end Go.Proofs.YtaibcdkadbemgaaGreatDoor
namespace Go.Proofs.YtaibcdkadbemgaaGreatDoor
open Go Go.RowKit
def plD (W:Wd) (d:Nat):Spot:=pl W (ndS d)
theorem pl_nd {W:Wd} {s:Spot} (hk:s.of.kind=1):pl W s=plD W s.of.num.toNat:=by
 unfold plD pl plain qfy;have e1:(ndS s.of.num.toNat).of.kind=1:=rfl;have e2:(ndS s.of.num.toNat).of.num.toNat=s.of.num.toNat:=Int.toNat_natCast _;rw[e1,e2,hk];split
 ·rfl
 ·rw[qly hk,qly e1,e2]
def Emb (W:Wd) (e:En):Prop:=∃ d,d<W.length∧e.to=plD W d
theorem qvp {W:Wd} {P:Nat→Nat} (hW:WdO W P) {s:Spot} (hs:SpO W P s) (h:(plain W s).of.kind=2):(qae W s).of.kind=2:=by
 rw[← qfm hW.by_ hs.numOk,qdu (by omega)];exact h
theorem sub_emb {W:Wd} {P:Nat→Nat} (hW:WdO W P) {e:En} {u:Spot} (hu:SpO W P u) (hk:u.of.kind=4) {i:Nat} (hi:i<u.of.fields.length) (he:(u.of.fields.getD i fd0).embedded=true):Emb W (subE W e u i):=by
 have hok:=hu.embOk hi he;obtain⟨hf,-⟩:=hu.field hk hi;obtain⟨d,val,hfo⟩:=hu.fo;have hg:u.of.fields.getD i fd0=u.of.fields[i]:=by simp[hi]
 have hnm:=((hfo.k4 hk).2.2.2.2.get i hi).2.1 (by rw[← hg];exact he);have e1:(qao u i).of=u.of.fields[i].of:=by simp only[qao,hg]
 unfold subE Emb;unfold qdo at hok;simp only at hok;rcases hnm.2 with hk1|⟨hk2,hl,hk1⟩
 ·have hk1':(qao u i).of.kind=1:=by rw[e1];exact hk1
  rw[if_neg (by omega)] at hok;have h2:¬ (plain W (qao u i)).of.kind=2:=fun h=>hok.1 (qvp hW hf h);refine⟨(qao u i).of.num.toNat,by have:=hf.numOk hk1';omega,?_⟩;simp only[drf,if_neg h2];exact pl_nd hk1'
 ·have hk2':(qao u i).of.kind=2:=by rw[e1];exact hk2
  have hp:plain W (qao u i)=qao u i:=qbg fun e=>by omega
  have hk1':(qaq (qao u i)).of.kind=1:=by
   simp only[qaq,e1];exact hk1
  refine⟨(qaq (qao u i)).of.num.toNat,by have:=(hf.elem (.inl hk2')).1.numOk hk1';omega,?_⟩;simp only[drf,hp,if_pos hk2'];exact pl_nd hk1'
theorem qwr {W:Wd} {acc:List En} {e x:En} (h:x∈conS W acc e):(∃ y∈acc,y.to=x.to∧y.ix=x.ix)∨x=e:=by
 unfold conS at h;split at h
 next i _=>
  obtain⟨j,hj,rfl⟩:=List.mem_iff_getElem.1 h;have hj':j<acc.length:=by simpa using hj
  rw[List.getElem_modify];left;refine⟨acc[j],z7 hj',?_⟩;split <;> exact⟨rfl,rfl⟩
 ·rcases zhb.1 h with h|h
  ·exact .inl ⟨x,h,rfl,rfl⟩
  ·exact .inr (zeb.1 h)
theorem qot {W:Wd} {l:List En} {x:En} (h:x∈qbc W l):∃ y∈l,y.to=x.to∧y.ix=x.ix:=by
 have key:∀ (l acc:List En),x∈l.foldl (conS W) acc→(∃ y∈acc,y.to=x.to∧y.ix=x.ix)∨∃ y∈l,y.to=x.to∧y.ix=x.ix:=by
  intro l
  induction l with
  | nil=>intro acc h;exact .inl ⟨x,h,rfl,rfl⟩
  | cons e r ih=>
   intro acc h;rcases ih _ h with ⟨y,h1,h2⟩|⟨y,h1,h2⟩
   ·rcases qwr h1 with ⟨z,q1,q2,q3⟩|q
    ·exact .inl ⟨z,q1,q2.trans h2.1,q3.trans h2.2⟩
    ·exact .inr ⟨e,zy ..,by rw[← q];exact h2⟩
   ·exact .inr ⟨y,zx _ h1,h2⟩
 rcases key l [] h with ⟨y,h1,-⟩|h
 ·cases h1
 ·exact h
theorem conS_ne {W:Wd} {acc:List En} {e:En} (h:acc.Pairwise fun a b=>can W a.to≠can W b.to):(conS W acc e).Pairwise fun a b=>can W a.to≠can W b.to:=by
 unfold conS;split
 next i _=>
  rw[List.pairwise_iff_getElem] at h ⊢;intro a b ha hb hab;have ha':a<acc.length:=by simpa using ha
  have hb':b<acc.length:=by simpa using hb
  have:=h a b ha' hb' hab;rw[List.getElem_modify,List.getElem_modify];split <;> split <;> exact this
 next hn=>
  rw[List.pairwise_append];refine⟨h,List.pairwise_singleton _ _,fun a ha b hb => ?_⟩;rw[zeb] at hb;subst hb;rw[List.findIdx?_eq_none_iff] at hn;simpa using hn a ha
theorem qwt {W:Wd} (l:List En):(qbc W l).Pairwise fun a b=>can W a.to≠can W b.to:=by
 have key:∀ (l acc:List En),acc.Pairwise (fun a b=>can W a.to≠can W b.to)→(l.foldl (conS W) acc).Pairwise fun a b=>can W a.to≠can W b.to:=by
  intro l
  induction l with
  | nil=>intro acc h;exact h
  | cons e r ih=>intro acc h;exact ih _ (conS_ne h)
 exact key l [] List.Pairwise.nil
theorem qvb {W:Wd} {l:List En} (h:∀ e∈l,Emb W e):(qbc W l).length≤W.length:=by
 have h1:∀ e:En,∃ d:Nat,e∈qbc W l→d<W.length∧e.to=plD W d:=fun e=>by
  by_cases he:e∈qbc W l
  ·obtain⟨y,hy,e1,-⟩:=qot he;obtain⟨d,q1,q2⟩:=h y hy;exact⟨d,fun _=>⟨q1,e1 ▸ q2⟩⟩
  ·exact⟨0,fun h=>absurd h he⟩
 obtain⟨f,hf⟩:=Classical.skolem.1 h1;have:=qfk W.length ((qbc W l).map f) (by
  unfold List.Nodup;rw[List.pairwise_map];refine List.Pairwise.imp_of_mem (fun {a b} ha hb hab e=>hab ?_) (qwt l);rw[(hf a ha).2,(hf b hb).2,e]) fun x hx=>by
   obtain⟨e,he,rfl⟩:=zjb.1 hx;exact(hf e he).1
 simpa using this
theorem qkc {W:Wd} {l:List En} (Q:En→Prop) (hQ:∀ a b:En,a.to=b.to→a.ix=b.ix→Q a→Q b) (h:∀ e∈l,Q e):∀ e∈qbc W l,Q e:=fun e he=>by
 obtain⟨y,hy,e1,e2⟩:=qot he;exact hQ y e e1 e2 (h y hy)
def mxE (P:Nat→Nat):List En→Nat
 | []=>0
 | e::r=>max (op P e.to.of) (mxE P r)
theorem qpu {P:Nat→Nat}:∀ {l:List En} {e:En},e∈l→op P e.to.of≤mxE P l
 | x::r,e,h=>by
  simp only[mxE];rcases zfb.1 h with rfl|h
  ·omega
  ·have:=qpu (P:=P) h;omega
theorem qw3 {P:Nat→Nat} {n:Nat}:∀ {l:List En},(∀ e∈l,op P e.to.of<n)→0<n→mxE P l<n
 | [],_,h=>h
 | e::r,h,h0=>by
  simp only[mxE];have h1:=h e (zy ..);have h2:=qw3 (l:=r) (fun x hx=>h x (zx _ hx)) h0;omega
theorem qw6 {P:Nat→Nat} {n:Nat}:∀ {l:List En},(∀ e∈l,op P e.to.of≤n)→mxE P l≤n
 | [],_=>Nat.zero_le _
 | e::r,h=>by
  simp only[mxE];have h1:=h e (zy ..);have h2:=qw6 (l:=r) (fun x hx=>h x (zx _ hx));omega
def qsg (W:Wd) (P:Nat→Nat) (cur:List En) (S:List Nat):Nat:=(W.length - S.length) * 2003+mxE P cur
structure NxOk (W:Wd) (P:Nat→Nat) (cur:List En) (S:List Nat) (nx:List En) (S':List Nat) (lv:Nat):Prop where
 nds:NdS W S'
 len:S.length≤S'.length
 emb:∀ e∈nx,Emb W e
 le:∀ e∈nx,op P e.to.of≤2001
 lt:S.length<S'.length∨∀ e∈nx,op P e.to.of<mxE P cur
 ix:∀ e∈nx,e.ix.length≤lv+1
theorem NxOk.meas {W:Wd} {P:Nat→Nat} {cur:List En} {S:List Nat} {nx:List En} {S':List Nat} {lv:Nat} (h:NxOk W P cur S nx S' lv) (hc:0<mxE P cur):qsg W P (qbc W nx) S'<qsg W P cur S:=by
 have h1:=qfk W.length S' h.nds.1 fun x hx=>(h.nds.2 x hx).1;have h2:=h.len;unfold qsg;rcases h.lt with h3|h3
 ·have h4:mxE P (qbc W nx)≤2001:=qw6 (qkc (fun e=>op P e.to.of≤2001) (fun a b e1 _ h=>by rw[← e1];exact h) h.le);have:(W.length - S'.length)+1≤W.length - S.length:=by omega
  have:=Nat.mul_le_mul_right 2003 this;omega
 ·have h4:mxE P (qbc W nx)<mxE P cur:=qw3 (qkc (fun e=>op P e.to.of<mxE P cur) (fun a b e1 _ h=>by rw[← e1];exact h) h3) hc;have:(W.length - S'.length)≤W.length - S.length:=by omega
  have:=Nat.mul_le_mul_right 2003 this;omega
theorem NxOk.start {W:Wd} {P:Nat→Nat} {cur:List En} {S:List Nat} {lv:Nat} (h:NdS W S):NxOk W P cur S [] S lv:=
 ⟨h,zl _,fun e he=>(by cases he),fun e he=>(by cases he),.inr fun e he=>(by cases he),fun e he=>(by cases he)⟩
theorem NxOk.seen {W:Wd} {P:Nat→Nat} {cur:List En} {S:List Nat} {nx:List En} {S':List Nat} {lv:Nat} (h:NxOk W P cur S nx S' lv) {d:Nat} (hd:d<W.length∧(dc W d).alias=false) (hn:d ∉ S'):NxOk W P cur S nx (S'++[d]) lv∧S.length<(S'++[d]).length:=by
 have hl:S.length<(S'++[d]).length:=by have:=h.len;simp;omega
 refine⟨⟨⟨?_,fun x hx => ?_⟩,by omega,h.emb,h.le,.inl hl,h.ix⟩,hl⟩
 ·rw[List.nodup_append];exact⟨h.nds.1,by simp,fun a ha b hb e=>by rw[zeb] at hb;subst hb;subst e;exact hn ha⟩
 ·rcases zhb.1 hx with hx|hx
  ·exact h.nds.2 x hx
  ·rw[zeb.1 hx];exact hd
theorem drf_op {W:Wd} {P:Nat→Nat} (hW:WdO W P) {s:Spot} (hs:SpO W P s):SpO W P (drf W s).1∧op P (drf W s).1.of≤op P s.of:=by
 obtain⟨q1,q2⟩:=hs.toPlain hW;unfold drf;split
 next h=>
  have:=q1.elem (.inl h);exact⟨this.1,by show op P (qaq _).of≤_;omega⟩
 ·exact⟨hs,zl _⟩
theorem NxOk.add {W:Wd} {P:Nat→Nat} (hW:WdO W P) {cur:List En} {S:List Nat} {nx:List En} {S':List Nat} {lv:Nat} (h:NxOk W P cur S nx S' lv) {e:En} (he:e∈cur) (hs:SpO W P e.to) (hk:(qae W e.to).of.kind=4) {i:Nat} (hi:i<(qae W e.to).of.fields.length) (hem:((qae W e.to).of.fields.getD i fd0).embedded=true)
  (hn:e.to.of.kind=1→S.length<S'.length) (hl:e.ix.length≤lv):NxOk W P cur S (nx++[subE W e (qae W e.to) i]) S' lv:=by
 have hu:=hs.toUnder hW;obtain⟨hf,hlt⟩:=hu.field hk hi;obtain⟨q1,q2⟩:=drf_op hW hf;obtain⟨q3,q4⟩:=q1.toPl hW;have hop:op P (subE W e (qae W e.to) i).to.of<op P (qae W e.to).of:=by
  show op P (pl W (drf W (qao (qae W e.to) i)).1).of<_;omega
 refine⟨h.nds,h.len,fun x hx => ?_,fun x hx => ?_,?_,fun x hx => ?_⟩
 ·rcases zhb.1 hx with hx|hx
  ·exact h.emb x hx
  ·rw[zeb.1 hx];exact sub_emb hW hu hk hi hem
 ·rcases zhb.1 hx with hx|hx
  ·exact h.le x hx
  ·rw[zeb.1 hx];have:=hu.sz;omega
 ·by_cases hk1:e.to.of.kind=1
  ·exact .inl (hn hk1)
  ·rcases h.lt with h3|h3
   ·exact .inl h3
   ·refine .inr fun x hx => ?_;rcases zhb.1 hx with hx|hx
    ·exact h3 x hx
    ·rw[zeb.1 hx];have h4:=qpu (P:=P) he;rw[qdu hk1] at hop ⊢;omega
 ·rcases zhb.1 hx with hx|hx
  ·exact h.ix x hx
  ·rw[zeb.1 hx];show(e.ix++[i]).length≤_;simp;omega
theorem qpf {W:Wd} {P:Nat→Nat} (hW:WdO W P) {s:Spot} (hs:SpO W P s):s.of.fields.length≤2000:=by
 have h1:=hs.sz;have h2:∀ l:List Fd,l.length≤opF P l:=by
  intro l
  induction l with
  | nil=>exact Nat.zero_le _
  | cons f r ih=>
   obtain⟨n,e,t⟩:=f;have:=qqe P hW.pos t;simp only[opF,List.length_cons];omega
 have h3:=h2 s.of.fields;have h4:opF P s.of.fields+1≤op P s.of:=by
  generalize s.of=t
  obtain⟨k,n,el,fs,ms,em⟩:=t;have hp:=hW.pos n.toNat;simp only[op,Ty.fields];split <;> omega
 omega
def seenN (e:En) (S:List Nat):List Nat:=if e.to.of.kind=1 then S++[e.to.of.num.toNat] else S
theorem qux {W:Wd} {q m:Int} {e:En} {r:List En} {st:Option Hi×List En} {S:List Nat} (hk:e.to.of.kind=1) (hd:e.to.of.num.toNat∈S):ents W q m (e::r) st S=ents W q m r st S:=by
 conv=>lhs;unfold ents
 rw[if_pos ⟨hk,hd⟩]
theorem qsq {W:Wd} {q m:Int} {e:En} {r:List En} {h:Option Hi} {nx:List En} {S:List Nat} (hk:e.to.of.kind=1) (hd:e.to.of.num.toNat ∉ S) {i:Nat} (hi:qey W e.to.of.num.toNat q m=some i):ents W q m (e::r) (h,nx) S=
  match qgu e h i (start W e.to.of.num.toNat+i) true ((dc W e.to.of.num.toNat).methods.getD i ⟨0,false⟩).ptr with
  | .ok h=>ents W q m r (h,nx) (S++[e.to.of.num.toNat])
  | .error x => .error x:=by
 conv=>lhs;unfold ents
 rw[if_neg (fun h=>hd h.2)];unfold entS;rw[if_pos hk,hi];simp only;cases qgu e h i (start W e.to.of.num.toNat+i) true ((dc W e.to.of.num.toNat).methods.getD i ⟨0,false⟩).ptr with
 | ok h=>simp only[if_pos hk]
 | error x=>rfl
theorem qws {W:Wd} {q m:Int} {e:En} {r:List En} {st:Option Hi×List En} {S:List Nat} (hn:e.to.of.kind=1→e.to.of.num.toNat ∉ S∧qey W e.to.of.num.toNat q m=none):ents W q m (e::r) st S=
  match typS W q m e st with
  | .ok st=>ents W q m r st (seenN e S)
  | .error x => .error x:=by
 conv=>lhs;unfold ents
 rw[if_neg (fun h=>(hn h.1).1 h.2)];have h1:(if e.to.of.kind=1 then qey W e.to.of.num.toNat q m else none)=none:=by
  split
  next h=>exact(hn h).2
  ·rfl
 unfold entS;rw[h1];unfold seenN;rfl
theorem qu1 {W:Wd} {q m:Int} {e:En} {st:Option Hi×List En} (hk:(qae W e.to).of.kind=4):typS W q m e st=flds W q m e (qae W e.to) (qae W e.to).of.fields.length 0 st:=by
 unfold typS;rw[if_pos hk]
theorem qvm {W:Wd} {q m:Int} {e:En} {h:Option Hi} {nx:List En} (hk:(qae W e.to).of.kind=5) {i:Nat} (hi:qhz (qih (msL W (qae W e.to))) q m=some i):typS W q m e (h,nx)=
  match qgu e h i ((msL W (qae W e.to)).getD i mn0).k true false with
  | .ok h => .ok (h,nx)
  | .error x => .error x:=by
 unfold typS;rw[if_neg (by omega),if_pos hk,hi];rfl
theorem qsx {W:Wd} {q m:Int} {e:En} {st:Option Hi×List En} (hk:(qae W e.to).of.kind≠4) (hi:(qae W e.to).of.kind=5→qhz (qih (msL W (qae W e.to))) q m=none):typS W q m e st = .ok st:=by
 unfold typS;rw[if_neg hk];split
 next h=>rw[hi h]
 ·rfl
theorem qmx {e:En} {i k:Nat} {met ptr:Bool} (hm:e.mul=false):qgu e none i k met ptr = .ok (some ⟨k,met,ptr,e.ix++[i],e.ind⟩):=by
 simp[qgu,hm]
theorem qe7 {e:En} {h:Option Hi} {i k:Nat} {met ptr:Bool} (hm:h.isSome=true∨e.mul=true):qgu e h i k met ptr = .error (e.ix++[i]):=by
 unfold qgu;rw[if_pos (by rcases hm with h|h <;> simp[h])]
theorem flds_end {W:Wd} {q m:Int} {e:En} {u:Spot} {i:Nat} {st:Option Hi×List En}:flds W q m e u 0 i st = .ok st:=rfl
theorem qv8 {W:Wd} {q m:Int} {e:En} {u:Spot} {n i:Nat} {h:Option Hi} {nx:List En} (hs:qbp u.pkg (fname W (u.of.fields.getD i fd0)) q m=true):flds W q m e u (n+1) i (h,nx)=
  match qgu e h i (qe0 u i) false false with
  | .ok h=>flds W q m e u n (i+1) (h,nx)
  | .error x => .error x:=by
 conv=>lhs;unfold flds fldS
 rw[if_pos hs];simp only;cases qgu e h i (qe0 u i) false false <;> rfl
theorem qwy {W:Wd} {q m:Int} {e:En} {u:Spot} {n i:Nat} {nx:List En} (hs:qbp u.pkg (fname W (u.of.fields.getD i fd0)) q m=false) (he:(u.of.fields.getD i fd0).embedded=true):flds W q m e u (n+1) i (none,nx)=flds W q m e u n (i+1) (none,nx++[subE W e u i]):=by
 conv=>lhs;unfold flds fldS
 rw[if_neg (by rw[hs];decide),if_pos (by rw[he];rfl)]
theorem flds_no {W:Wd} {q m:Int} {e:En} {u:Spot} {n i:Nat} {h:Option Hi} {nx:List En} (hs:qbp u.pkg (fname W (u.of.fields.getD i fd0)) q m=false) (he:h.isSome=true∨(u.of.fields.getD i fd0).embedded=false):flds W q m e u (n+1) i (h,nx)=flds W q m e u n (i+1) (h,nx):=by
 conv=>lhs;unfold flds fldS
 rw[if_neg (by rw[hs];decide),if_neg (by rcases he with he|he <;> cases h <;> simp_all)]
theorem lvs_nil {W:Wd} {addr:Bool} {q m:Int} {n:Nat} {S:List Nat}:lvs W addr q m n [] S=⟨none,[],false⟩:=by
 cases n with
 | zero=>rfl
 | succ n=>unfold lvs;rw[if_pos rfl]
theorem lvs_err {W:Wd} {addr:Bool} {q m:Int} {n:Nat} {cur:List En} {S x:List Nat} (hc:cur≠[]) (h:ents W q m cur (none,[]) S = .error x):lvs W addr q m (n+1) cur S=⟨none,x,false⟩:=by
 unfold lvs;rw[if_neg hc,h]
theorem lvs_hit {W:Wd} {addr:Bool} {q m:Int} {n:Nat} {cur nx:List En} {S S':List Nat} {h:Hi} (hc:cur≠[]) (he:ents W q m cur (none,[]) S = .ok ((some h,nx),S')):lvs W addr q m (n+1) cur S=if(h.met&&h.ptr&&!h.ind&&!addr)=true then⟨none,[],true⟩ else⟨some (h.ob,h.met),h.ix,h.ind⟩:=by
 unfold lvs;rw[if_neg hc,he]
theorem qwo {W:Wd} {addr:Bool} {q m:Int} {n:Nat} {cur nx:List En} {S S':List Nat} (hc:cur≠[]) (he:ents W q m cur (none,[]) S = .ok ((none,nx),S')):lvs W addr q m (n+1) cur S=lvs W addr q m n (qbc W nx) S':=by
 conv=>lhs;unfold lvs
 rw[if_neg hc,he]
structure HitV (F:Fix) (s:St) (wB w:World) (x:Hi) (T:TypeId) (b:Nat) (ia:Option Addr) (ic:Nat):Prop where
 ob:s.ob x.ob=some (x.met,b)
 lt:x.ob<F.N
 ty:T=if x.met=true then 105 else 151
 ix:w.ownsRow 0 3 1 (.slice ia x.ix.length ic) x.ix.length (qbh x.ix)
 fn:x.met=true→∃ pk n,qel (rdT wB) b pk n x.ptr
def HitM (F:Fix) (s:St) (wB w:World) (h:Option Hi) (ov iv dv:Value):Prop:=
 (h=none∧ov = .nilIface∧iv = .slice none 0 0∧dv = .bool false)∨∃ x T b ia ic,h=some x∧ov = .iface T (ptrV b)∧iv = .slice ia x.ix.length ic∧dv = .bool x.ind∧HitV F s wB w x T b ia ic
theorem HitM.apart {F:Fix} {s:St} {wB w w':World} {h:Option Hi} {ov iv dv:Value} {S:Nat→Prop} (k:HitM F s wB w h ov iv dv) (ha:qag S w w') (hS:∀ b cs,Blk w b 3 cs→¬ S b):HitM F s wB w' h ov iv dv:=by
 rcases k with k|⟨x,T,b,ia,ic,e1,e2,e3,e4,q⟩
 ·exact .inl k
 ·exact .inr ⟨x,T,b,ia,ic,e1,e2,e3,e4,q.ob,q.lt,q.ty,qab q.ix ha fun g hg=>by
   obtain⟨cs,hc⟩:=qaf q.ix hg;exact hS g cs hc,q.fn⟩
theorem HitM.keep {F:Fix} {s:St} {wB w w':World} {h:Option Hi} {ov iv dv:Value} (k:HitM F s wB w h ov iv dv) (hb:Below w.heap.size w w'):HitM F s wB w' h ov iv dv:=
 k.apart (S:=fun _=>False) (qag.keep hb) (fun _ _ _ h=>h)
theorem NxAt.app {F:Fix} {P:Nat→Nat} {s:St} {wB w w':World} {a a':Option Addr} {c c':Nat} {es:List En} {cells:List Value} (h:NxAt F P s wB w a c es cells) {e:En} {k:TypeId×Nat} {ia:Option Addr} {ic:Nat} {u:Value} (ht:TyIn wB k) (hp:PlV F P s wB e.to (tyV k) u) (hi:w.ownsRow 0 3 1 (.slice ia e.ix.length ic) e.ix.length (qbh e.ix))
  (ho:w'.ownsRow 0 225 4 (.slice a' (es.length+1) c') (es.length+1) (cells++[tyV k,.slice ia e.ix.length ic,.bool e.ind,.bool e.mul])) (hg:w.grownBy w' (Value.slice a es.length c).ownBlock):
  NxAt F P s wB w' a' c' (es++[e]) (cells++[tyV k,.slice ia e.ix.length ic,.bool e.ind,.bool e.mul]):=by
 have hA:qag (fun b=>(Value.slice a es.length c).ownBlock=some b) w w':=⟨hg.size,fun b hb hn=>hg.block b hb fun e=>hn e.symm⟩;have hI:∀ {ia:Option Addr} {n ic:Nat} {xs:List Value},w.ownsRow 0 3 1 (.slice ia n ic) n xs→w'.ownsRow 0 3 1 (.slice ia n ic) n xs:=fun hx=>qab hx hA fun g hg1 hg2=>by
  obtain⟨cs,hc⟩:=qaf hx hg1;obtain⟨ds,hd⟩:=qaf h.own hg2;exact hc.tne hd (by decide) rfl
 have hlen:cells.length=es.length * 4:=h.own.1;obtain⟨a2,c2,he,-,h1,h2⟩:=qak ho;cases he;have ha':∃ g,a'=some ⟨g,0,none⟩∧qat w' g 0 (cells++[tyV k,.slice ia e.ix.length ic,.bool e.ind,.bool e.mul]):=by
  cases a' with
  | none=>have:=(h2 rfl).1;omega
  | some ad=>
   obtain⟨g,rfl,-,-,q⟩:=h1 ad rfl;exact⟨g,rfl,q⟩
 obtain⟨g,rfl,hC⟩:=ha';refine⟨by simpa using ho,fun i hi' => ?_⟩;by_cases hie:i<es.length
 ·obtain⟨g0,e0,k0,ia0,ic0,u0,q⟩:=h.at_ i hie;subst e0;refine⟨g,rfl,?_⟩;rw[List.getElem_append_left hie];obtain⟨a3,c3,he3,-,h3,-⟩:=qak h.own;cases he3;obtain⟨g3,e3,-,-,hC0⟩:=h3 _ rfl;cases e3;have hcell:∀ j v,j<4→w.cell? ⟨g0,i * 4+j,none⟩=some v→w'.cell? ⟨g,i * 4+j,none⟩=some v:=fun j v hj hv=>by
   have hx:i * 4+j<cells.length:=by omega
   have q1:=hC0 (i * 4+j) _ (zr hx);rw[Nat.zero_add,hv] at q1;have q2:=hC (i * 4+j) _ (by rw[List.getElem?_append_left hx];exact zr hx);rw[Nat.zero_add] at q2;rw[q2,q1]
  exact⟨k0,ia0,ic0,u0,hcell 0 _ (by omega) q.c0,hcell 1 _ (by omega) q.c1,hcell 2 _ (by omega) q.c2,hcell 3 _ (by omega) q.c3,q.ty,q.pl,hI q.ix⟩
 ·have ei:i=es.length:=by simp at hi';omega
  subst ei;refine⟨g,rfl,?_⟩;rw[List.getElem_append_right (zl _)];simp only[Nat.sub_self,zi];have hcell:∀ j v,[tyV k,.slice ia e.ix.length ic,.bool e.ind,.bool e.mul][j]?=some v→w'.cell? ⟨g,es.length * 4+j,none⟩=some v:=fun j v hv=>by
   have q2:=hC (es.length * 4+j) v (by rw[List.getElem?_append_right (by omega),hlen,Nat.add_sub_cancel_left];exact hv);rw[Nat.zero_add] at q2;exact q2
  exact⟨k,ia,ic,u,hcell 0 _ rfl,hcell 1 _ rfl,hcell 2 _ rfl,hcell 3 _ rfl,ht,hp,hI hi⟩
theorem qbz.keep {F:Fix} {s:St} {w w':World} {d b tn:Nat} {U:TypeId} {ux:Addr} {ra:Option Addr} {rc:Nat} {fs:List Nat} (h:qbz F s w d b tn U ux ra rc fs) (hb:Below w.heap.size w w'):qbz F s w' d b tn U ux ra rc fs:=
 ⟨h.tb,h.tnB.keep hb,h.blk.keep hb,h.lit,Den.mono (show G.Le (gOf F s (rdT w)) (gOf F s (rdT w')) from⟨rfl,rfl,fun _ _ h=>h,fun _ _ h=>h,fun _ h=>h,qa0 hb⟩) h.den,h.len,qab h.row (qag.keep (S:=fun _=>False) hb) (fun _ _ h=>h),fun j hj=>⟨(h.ms j hj).1,(h.ms j hj).2.mono (qa0 hb)⟩⟩
theorem qn3 (b:Nat) (p q:Operand) (w:World):(eqGuard .neq 97 p q (ptrV b) (.pointer none)).run Tryz.prog w = .ok () w∧(binOp .neq 97 (ptrV b) (.pointer none)).run Tryz.prog w = .ok (.bool true) w:=by
 constructor
 ·go_simp
 ·go_simp
theorem qop (p q:Operand) (w:World):(eqGuard .neq 97 p q (.pointer none) (.pointer none)).run Tryz.prog w = .ok () w∧(binOp .neq 97 (.pointer none) (.pointer none)).run Tryz.prog w = .ok (.bool false) w:=by
 constructor
 ·go_simp
 ·go_simp
structure St1 (F:Fix) (P:Nat→Nat) (s:St) (wB:World) (sb g:Nat) (cur:List En) (S:List Nat) (lv:Nat) (h:Option Hi) (nx:List En) (S':List Nat) (ov iv dv:Value) (na:Option Addr) (nc:Nat) (cells:List Value) (w:World):Prop where
 bel:Below wB.heap.size wB w
 seen:qeb wB.heap.size w sb (S'.map (nbOf F))
 hit:HitM F s wB w h ov iv dv
 nxa:NxAt F P s wB w na nc nx cells
 own:∀ b,(Value.slice na nx.length nc).ownBlock=some b→b≠g∧wB.heap.size≤b
 cura:qnz F P s wB w g cur
 ok:NxOk F.W P cur S nx S' lv
 gge:wB.heap.size≤g
variable {F:Fix} {P:Nat→Nat} {s:St} {wB:World} {sb g:Nat} {cur:List En} {S:List Nat} {lv:Nat} {h:Option Hi} {nx:List En} {S':List Nat} {ov iv dv:Value} {na:Option Addr} {nc:Nat} {cells:List Value} {w w':World}
theorem St1.keep (H:St1 F P s wB sb g cur S lv h nx S' ov iv dv na nc cells w) (hb:Below w.heap.size w w'):St1 F P s wB sb g cur S lv h nx S' ov iv dv na nc cells w':=
 ⟨H.bel.trans (hb.mono H.bel.size),H.seen.keep hb,H.hit.keep hb,H.nxa.keep hb,H.own,H.cura.keep hb,H.ok,H.gge⟩
theorem qdv {w:World} {b:Nat} {T:TypeId} {cs:List Value} (hb:Blk w b T cs) (hT:T≠230):¬ qmu w b:=fun h=>by
 rcases h with ⟨cs',h⟩|⟨es,c,h⟩
 ·exact hb.tne h hT rfl
 ·unfold Blk at hb;rw[hb] at h;cases h
theorem St1.see (H:St1 F P s wB sb g cur S lv h nx S' ov iv dv na nc cells w) {d:Nat} (hd:d<F.W.length∧(dc F.W d).alias=false) (hn:d ∉ S') (hs:qeb wB.heap.size w' sb (S'.map (nbOf F)++[nbOf F d])) (hb:Below wB.heap.size w w') (ht:qah (qmu w) w w'):
  St1 F P s wB sb g cur S lv h nx (S'++[d]) ov iv dv na nc cells w'∧S.length<(S'++[d]).length:=by
 obtain⟨q1,q2⟩:=H.ok.seen hd hn;obtain⟨cs,hc⟩:=H.cura.blk;exact⟨⟨H.bel.trans hb,by rw[List.map_append];exact hs,H.hit.apart ht.apart fun b cs hb=>qdv hb (by decide),H.nxa.apart ht.apart fun b T cs hb hT=>qdv hb (by rcases hT with rfl|rfl <;> decide),H.own,H.cura.apart ht.apart (qdv hc (by decide)) fun b cs hb=>qdv hb (by decide),q1,H.gge⟩,q2⟩
theorem St1.found (H:St1 F P s wB sb g cur S lv h nx S' ov iv dv na nc cells w) {h':Option Hi} {ov' iv' dv':Value} (hh:HitM F s wB w h' ov' iv' dv'):St1 F P s wB sb g cur S lv h' nx S' ov' iv' dv' na nc cells w:=
 ⟨H.bel,H.seen,hh,H.nxa,H.own,H.cura,H.ok,H.gge⟩
theorem St1.grow (H:St1 F P s wB sb g cur S lv h nx S' ov iv dv na nc cells w) {e:En} {k:TypeId×Nat} {ia:Option Addr} {ic:Nat} {u:Value} {na':Option Addr} {nc':Nat} (ht:TyIn wB k) (hp:PlV F P s wB e.to (tyV k) u) (hi:w.ownsRow 0 3 1 (.slice ia e.ix.length ic) e.ix.length (qbh e.ix))
  (ho:w'.ownsRow 0 225 4 (.slice na' (nx.length+1) nc') (nx.length+1) (cells++[tyV k,.slice ia e.ix.length ic,.bool e.ind,.bool e.mul])) (hg:w.grownBy w' (Value.slice na nx.length nc).ownBlock)
  (hl:(Value.slice na' (nx.length+1) nc').ownBlock=(Value.slice na nx.length nc).ownBlock∨(Value.slice na' (nx.length+1) nc').ownBlock=some w.heap.size) (hok:NxOk F.W P cur S (nx++[e]) S' lv):
  St1 F P s wB sb g cur S lv h (nx++[e]) S' ov iv dv na' nc' (cells++[tyV k,.slice ia e.ix.length ic,.bool e.ind,.bool e.mul]) w':=by
 have hA:qag (fun b=>(Value.slice na nx.length nc).ownBlock=some b) w w':=⟨hg.size,fun b hb hn=>hg.block b hb fun e=>hn e.symm⟩;have hno:∀ {b:Nat} {T:TypeId} {cs:List Value},Blk w b T cs→T≠225→¬ (Value.slice na nx.length nc).ownBlock=some b:=fun hb hT hx=>by
  obtain⟨cs',hc⟩:=qaf H.nxa.own hx;exact hb.tne hc hT rfl
 have hgl:g<w.heap.size:=by obtain⟨cs,hc⟩:=H.cura.blk;exact hc.lt
 have hmap:∀ {r:Nat} {es:Array MapEntry} {c:Nat},w.heap[r]?=some (.map es c)→¬ (Value.slice na nx.length nc).ownBlock=some r:=fun h hx=>by
  obtain⟨cs',hc⟩:=qaf H.nxa.own hx;unfold Blk at hc;rw[hc] at h;cases h
 refine⟨H.bel.trans ⟨hg.os,hg.tape,hg.output,hg.size,fun b hb=>hg.block b (Nat.lt_of_lt_of_le hb H.bel.size) fun e => ?_⟩,?_,H.hit.apart hA fun b cs hb=>hno hb (by decide),H.nxa.app ht hp hi ho hg,fun b hb => ?_,H.cura.apart hA (fun e=>(H.own g e).1 rfl) fun b cs hb=>hno hb (by decide),hok,H.gge⟩
 ·exact absurd (H.own b e.symm).2 (by omega)
 ·obtain⟨hge,m,hb,hm⟩:=H.seen;refine⟨hge,m,hb.apart hA (hno hb (by decide)),?_⟩;rcases hm with hm|⟨h1,r,M,q1,q2,q3,q4,q5⟩
  ·exact .inl hm
  ·refine .inr ⟨h1,r,M,q1,q2,q3.apart hA ?_,q4,fun e he => ?_⟩
   ·obtain⟨es,c,hr,-⟩:=q3;exact hmap hr
   ·obtain⟨ra,rc,g1,g2⟩:=q5 e he;refine⟨ra,rc,g1,qab g2 hA fun b hb => ?_⟩;obtain⟨cs',hc⟩:=qaf g2 hb;exact hno hc (by decide)
 ·have e:(nx++[‹En›]).length=nx.length+1:=by simp
  rw[e] at hb;rcases hl with hl|hl
  ·rw[hl] at hb;exact H.own b hb
  ·rw[hl] at hb;cases hb;exact⟨by omega,H.bel.size⟩
theorem St1.get (H:St1 F P s wB sb g cur S lv h nx S' ov iv dv na nc cells w) {k:Nat} (hk:k<cur.length):∃ x:En×(TypeId×Nat)×Option Addr×Nat×Value,cur.drop k=x.1::cur.drop (k+1)∧x.1∈cur∧EnC F P s wB w g (k * 4) x.1 x.2.1 x.2.2.1 x.2.2.2.1 x.2.2.2.2:=by
 obtain⟨key,ia,ic,u,hE⟩:=H.cura.at_ k hk;exact⟨(cur[k],key,ia,ic,u),List.drop_eq_getElem_cons hk,z7 hk,hE⟩
def qim (W:Wd) (q m:Int) (e:En) (h:Option Hi) (nx r:List En) (Sn:List Nat) (E0:Stp ((Option Hi×List En)×List Nat)):Prop:=(match typS W q m e (h,nx) with
 | .ok st=>ents W q m r st Sn
 | .error x => .error x)=E0
theorem qim.of {W:Wd} {q m:Int} {e:En} {h:Option Hi} {nx r:List En} {S:List Nat} {E0:Stp ((Option Hi×List En)×List Nat)} (hn:e.to.of.kind=1→e.to.of.num.toNat ∉ S∧qey W e.to.of.num.toNat q m=none) (he:ents W q m (e::r) (h,nx) S=E0):qim W q m e h nx r (seenN e S) E0:=by
 unfold qim;rw[qws hn] at he;exact he
theorem nd_all {F:Fix} {P:Nat→Nat} {w0:World} {s:St} {w:World} (A:Amb F P w0 s w) {S:List Nat} (hS:NdS F.W S) {d b tn:Nat} {U:TypeId} {ux:Addr} {ra:Option Addr} {rc:Nat} {fs:List Nat} (hd:d<F.W.length∧(dc F.W d).alias=false) (h:qbz F s w d b tn U ux ra rc fs):∃ f:Nat→Nat,∀ y∈S.map (nbOf F),qfw w b y tn (f y):=by
 have h1:∀ y:Nat,∃ ty:Nat,y∈S.map (nbOf F)→qfw w b y tn ty:=fun y=>by
  by_cases hy:y∈S.map (nbOf F)
  ·obtain⟨e,he,rfl⟩:=zjb.1 hy;obtain⟨tx,ty,hp,-⟩:=qp9 A hd (hS.2 e he);rw[qis h] at hp;have:tx=tn:=by
    obtain⟨cs,hc⟩:=hp.bx;have k1:=hc.cell 1;rw[h.blk.cell] at k1;simp only[zt,zs] at k1;cases k1;rfl
   exact⟨ty,fun _=>this ▸ hp⟩
  ·exact⟨0,fun h=>absurd h hy⟩
 exact Classical.skolem.1 h1
structure St2 (F:Fix) (P:Nat→Nat) (s:St) (wB:World) (sb g cb:Nat) (q m:Int) (cur:List En) (S:List Nat) (lv:Nat) (h:Option Hi) (nx:List En) (S':List Nat) (e:En) (r:List En) (ov iv dv:Value) (na:Option Addr) (nc:Nat) (cells:List Value) (key:TypeId×Nat) (ia:Option Addr) (ic:Nat) (E0:Stp ((Option Hi×List En)×List Nat)) (w:World):Prop where
 st:St1 F P s wB sb g cur S lv h nx (seenN e S') ov iv dv na nc cells w
 gr:e.to.of.kind=1→S.length<(seenN e S').length
 eq:qim F.W q m e h nx r (seenN e S') E0
 cop:Blk w cb 225 [tyV key,.slice ia e.ix.length ic,.bool e.ind,.bool e.mul]
 ix:w.ownsRow 0 3 1 (.slice ia e.ix.length ic) e.ix.length (qbh e.ix)
theorem Amb.undv {P:Nat→Nat} {w0:World} (A:Amb F P w0 s w) {sp:Spot} {v u:Value} (hv:PlV F P s w sp v u):∃ zb,qf7 w v (tyV (kT (qae F.W sp).of.kind,zb))∧PlV F P s w (qae F.W sp) (tyV (kT (qae F.W sp).of.kind,zb)) (tyV (kT (qae F.W sp).of.kind,zb)):=by
 obtain⟨z,h1,-,h3,h4,h5⟩:=A.underv hv;have hk1:=qit A.wd.by_ hv.spo.numOk;have hna:qgl z:=A.notAl h4 fun h=>absurd h hk1;have hp:PlV F P s w (qae F.W sp) z z:=⟨⟨hna,.inl rfl⟩,h4,h5,fun h=>absurd h hk1,fun al e=>by
  obtain⟨T,x,e2,hT⟩:=hna;rw[e] at e2;cases e2;exact absurd rfl hT⟩
 obtain⟨b,e,-⟩:=hp.ty A;subst e;exact⟨b,h1,hp⟩
theorem meth_ob {P:Nat→Nat} {w0:World} (A:Amb F P w0 s w) {d b tn:Nat} {U:TypeId} {ux:Addr} {ra:Option Addr} {rc:Nat} {fs:List Nat} (hd:d<F.W.length) (h:qbz F s w d b tn U ux ra rc fs) {q m:Int} {i:Nat} (hi:qey F.W d q m=some i):
  i<fs.length∧s.ob (start F.W d+i)=some (true,fs.getD i 0)∧start F.W d+i<F.N∧∃ pk n,qel (rdT w) (fs.getD i 0) pk n ((dc F.W d).methods.getD i ⟨0,false⟩).ptr:=by
 have hil:i<fs.length:=by
  unfold qey at hi;split at hi
  ·unfold qj9 at hi;have:=(List.findIdx?_eq_some_iff_getElem.1 hi).1;rw[h.len];simpa[qf3] using this
  ·cases hi
 have e:fs.getD i 0=fs[i]:=by simp[hil]
 obtain⟨q1,q2⟩:=h.ms i hil;rw[e];refine⟨hil,q1,?_,_,_,q2⟩;have h1:=(A.wd.sp d hd).nn;have h2:=A.N;have h3:=h.len;simp only[qad] at h1;omega
theorem St1.look {P':Nat→Nat} {w0:World} (A:Amb F P' w0 s w) (H:St1 F P s wB sb g cur S lv h nx S' ov iv dv na nc cells w) {d b tn:Nat} {U:TypeId} {ux:Addr} {ra:Option Addr} {rc:Nat} {fs:List Nat} (hd:d<F.W.length∧(dc F.W d).alias=false) (hN:qbz F s w d b tn U ux ra rc fs):
  Calls Tryz.prog 107 #[ptrV sb,ptrV b] w (qa2 (if d∈S' then ptrV b else .pointer none) w):=by
 obtain⟨f,hf⟩:=nd_all A H.ok.nds hd hN;have:=qo3 wB.heap.size sb b tn f _ w H.seen hf;have hm:=qw7 A H.ok.nds hd;rw[qis hN] at hm;by_cases h1:d∈S'
 ·rw[if_pos h1];rw[qf0 (hm.2 h1)] at this;exact this
 ·rw[if_neg h1];rw[qm3 (fun h2=>h1 (hm.1 h2))] at this;exact this
theorem St1.addS {P':Nat→Nat} {w0:World} (A:Amb F P' w0 s w) (H:St1 F P s wB sb g cur S lv h nx S' ov iv dv na nc cells w) {d b tn:Nat} {U:TypeId} {ux:Addr} {ra:Option Addr} {rc:Nat} {fs:List Nat} (hd:d<F.W.length∧(dc F.W d).alias=false) (hN:qbz F s w d b tn U ux ra rc fs) (hn:d ∉ S'):
  Calls Tryz.prog 108 #[ptrV sb,ptrV b] w fun e w'=>e = .returned (.tuple #[])∧Hid (St1 F P s wB sb g cur S lv h nx (S'++[d]) ov iv dv na nc cells w'∧S.length<(S'++[d]).length∧Below wB.heap.size w w'∧qah (qmu w) w w'):=by
 have hm:=qw7 A H.ok.nds hd;rw[qis hN] at hm;refine(qv7 wB.heap.size sb b _ w H.seen H.bel.size ⟨_,hN.blk⟩ (fun y hy => ?_) (fun h2=>hn (hm.1 h2))).mono ?_
 ·obtain⟨e,he,rfl⟩:=zjb.1 hy;obtain⟨_,_,hp,-⟩:=qp9 A hd (H.ok.nds.2 e he);exact hp.by_.elim fun cs h=>⟨_,h⟩
 ·rintro e w' ⟨rfl,hq⟩;have hs:=hq.out.1;rw[← qis hN] at hs;obtain⟨h1,h2⟩:=H.see hd hn hs hq.out.2.1 hq.out.2.2;exact⟨rfl,hid ⟨h1,h2,hq.out.2.1,hq.out.2.2⟩⟩
end Go.Proofs.YtaibcdkadbemgaaGreatDoor
namespace Go.Proofs.YtaibcdkadbemgaaGreatDoor
open Go Go.RowKit
set_option maxRecDepth 100000
theorem quq (P:Nat→Nat):∀ (l:List Ty) (i:Nat) (hi:i<l.length),op P l[i]≤opT P l
 | t::r,0,_=>by simp only[opT,zi];omega
 | t::r,i+1,hi=>by
  have:=quq P r i (by simpa using hi);simp only[opT,zh];omega
theorem SpO.embed {W:Wd} {P:Nat→Nat} {s:Spot} (h:SpO W P s) (hk:s.of.kind=5) {i:Nat} (hi:i<s.of.embeds.length):SpO W P (qav s i):=by
 obtain⟨d,val,hf⟩:=h.fo;obtain⟨e1,e2,e3,e4,e5⟩:=hf.k5 hk;have hg:s.of.embeds.getD i ty0=s.of.embeds[i]:=by simp[hi]
 have h1:=h.sz;have h2:=h.bk;have h3:=h.nn;have hb:=qbd s.of;have hb2:=qa6 s.of.embeds i hi;have h4:=qc1 s.of.embeds i hi;have h5:=qa5 s.of.embeds (i+1);have h6:=qkt s.of;have h7:op P s.of.embeds[i]≤op P s.of:=by
  have:=quq P s.of.embeds i hi;refine Nat.le_trans this ?_
  generalize s.of=t
  cases t;simp only[op,Ty.embeds];omega
 refine⟨h.pp,?_,?_,⟨d,true,?_⟩,?_,?_⟩
 ·simp only[qav,hg];omega
 ·simp only[qav,hg];exact h.va.iface.2.get i hi
 ·simp only[qav,hg];exact e5.get i hi
 ·simp only[qav,hg];omega
 ·simp only[qav,hg];omega
theorem MS.ob {F:Fix} {P:Nat→Nat} {st:St} {μ:Spot→Nat} {w0 w:World} (C:CI F st μ w0 w) (hW:WdO F.W P) (hN:P F.W.length=F.N+1) (hk:∀ b s,(b,s)∈st.ifs→s.of.kind=5) {s:Spot} {l:List Mn} (h:MS F.W s l):∀ b,(b,s)∈st.ifs→SpO F.W P s→∀ m∈l,(∃ x,st.ob m.k=some (true,x))∧m.k<F.N:=by
 induction h with
 | mk s ls hl hms ih=>
  intro b hm hs m hx;rcases qgq (qka hx) with hx|⟨l,hl1,hx⟩
  ·rcases qf2 hx with hx|hx
   ·cases hx
   ·unfold expl at hx;obtain⟨k,hk1,rfl⟩:=zjb.1 hx;have hk2:=quf hk1;obtain⟨i,hi⟩:=List.mem_iff_getElem?.1 hk1;obtain⟨a,c,-,-,hM⟩:=C.meth b s hm;obtain⟨gb,o,x,-,-,ho,-⟩:=hM i k hi;refine⟨⟨x,ho⟩,?_⟩;have h1:=hs.nn;have h2:=qkt s.of;simp only;omega
  ·obtain⟨i,hi,rfl⟩:=List.mem_iff_getElem.1 hl1;obtain⟨ea,ec,-,-,hE⟩:=C.emb b s hm;obtain⟨gb,o,v,b',-,-,-,hm'⟩:=hE i (by omega);exact ih i hi b' hm' ((hs.embed (hk b s hm) (by omega)).toUnder hW) m hx
variable {F:Fix} {P:Nat→Nat} {w0:World} {s:St} {w:World}
theorem qqm (A:Amb F P w0 s w) {sp:Spot} {v:Value} {zb:Nat} (h:PlV F P s w sp v (.iface 111 (ptrV zb))) (hk:sp.of.kind=5) (q m:Int) (hq:q=0∨q=1) (hm:IsNm m) (h8:m≠8):
  ∃ ts,w.cell? ⟨zb,0,none⟩=some (.pointer none)∧w.cell? ⟨zb,6,none⟩=some (ptrV ts)∧
   Calls Tryz.prog 112 #[ptrV ts,ptrV (F.pk q),.string (qas m),.bool false] w (qa2 (idxV (qhz (qih (msL F.W sp)) q m) ((msL F.W sp).map fun m=>qbf s m.k)) w)∧
   ∀ i,qhz (qih (msL F.W sp)) q m=some i→∃ b sg,((msL F.W sp).map fun m=>qbf s m.k).getD i 0=b∧s.ob ((msL F.W sp).getD i mn0).k=some (true,b)∧((msL F.W sp).getD i mn0).k<F.N∧(∃ pk n,qel (rdT w) b pk n false)∧w.cell? ⟨b,3,none⟩=some (.iface 162 (ptrV sg)):=by
 obtain⟨b',a',c',a2,c2,e,hmem,-⟩:=Den.iface h.den hk;cases e;obtain⟨G,hG⟩:=A.bt.comp;obtain⟨ts,l,ra,rc,ea,ec,hB,hS⟩:=hG.all hmem;have hl:msL F.W sp=l:=qug hS.ms;rw[hl];refine⟨ts,(qbr hB).2.2.2.2.2,(qbr hB).2.2.1,qmn hS A.bt.ok A.tabs hq hm h8,fun i hi => ?_⟩;have hil:i<l.length:=by
  unfold qhz at hi;have:=(List.findIdx?_eq_some_iff_getElem.1 hi).1;simpa[qih] using this
 have e1:l.getD i mn0=l[i]:=by simp[hil]
 have e2:(l.map fun m=>qbf s m.k).getD i 0=qbf s l[i].k:=by simp[hil]
 rw[e1,e2];obtain⟨⟨x,hx⟩,hlt⟩:=MS.ob hG.ci A.wd A.N (fun b s hm=>(A.bt.mem b s hm).2.1) hS.ms _ hmem h.spo _ (z7 hil);have hF:=(hS.ok l[i] (z7 hil)).2;rw[qms hx] at hF ⊢;have hF2:=hF;obtain⟨sg,v',T,aa,f1,-⟩:=hF2;exact⟨x,sg,rfl,hx,hlt,⟨_,_,hF⟩,qax (f1 3 _ rfl)⟩
def qez (W:Wd) (q m:Int) (e:En) (u:Spot) (n i:Nat) (h:Option Hi) (nx r:List En) (Sn:List Nat) (E0:Stp ((Option Hi×List En)×List Nat)):Prop:=(match flds W q m e u n i (h,nx) with
 | .ok st=>ents W q m r st Sn
 | .error x => .error x)=E0
theorem qim.str {W:Wd} {q m:Int} {e:En} {h:Option Hi} {nx r:List En} {Sn:List Nat} {E0:Stp ((Option Hi×List En)×List Nat)} (hr:qim W q m e h nx r Sn E0) (hk:(qae W e.to).of.kind=4):qez W q m e (qae W e.to) (qae W e.to).of.fields.length 0 h nx r Sn E0:=by
 unfold qim at hr;rw[qu1 hk] at hr;exact hr
section
variable {W:Wd} {q m:Int} {e:En} {u:Spot} {n i:Nat} {h:Option Hi} {nx r:List En} {Sn:List Nat} {E0:Stp ((Option Hi×List En)×List Nat)}
theorem qez.fin (hr:qez W q m e u 0 i h nx r Sn E0):ents W q m r (h,nx) Sn=E0:=hr
theorem qez.hit (hr:qez W q m e u (n+1) i h nx r Sn E0) (hs:qbp u.pkg (fname W (u.of.fields.getD i fd0)) q m=true):(∀ h',qgu e h i (qe0 u i) false false = .ok h'→qez W q m e u n (i+1) h' nx r Sn E0)∧∀ x,qgu e h i (qe0 u i) false false = .error x→E0 = .error x:=by
 unfold qez at hr;rw[qv8 hs] at hr;constructor
 ·intro h' e1;rw[e1] at hr;exact hr
 ·intro x e1;rw[e1] at hr;exact hr.symm
theorem qez.sub {nx:List En} (hr:qez W q m e u (n+1) i none nx r Sn E0) (hs:qbp u.pkg (fname W (u.of.fields.getD i fd0)) q m=false) (he:(u.of.fields.getD i fd0).embedded=true):qez W q m e u n (i+1) none (nx++[subE W e u i]) r Sn E0:=by
 unfold qez at hr ⊢;rw[qwy hs he] at hr;exact hr
theorem qez.no (hr:qez W q m e u (n+1) i h nx r Sn E0) (hs:qbp u.pkg (fname W (u.of.fields.getD i fd0)) q m=false) (he:h.isSome=true∨(u.of.fields.getD i fd0).embedded=false):qez W q m e u n (i+1) h nx r Sn E0:=by
 unfold qez at hr ⊢;rw[flds_no hs he] at hr;exact hr
end
structure St3 (F:Fix) (P:Nat→Nat) (s:St) (wB:World) (sb g cb:Nat) (q m:Int) (cur:List En) (S:List Nat) (lv:Nat) (h:Option Hi) (nx:List En) (S':List Nat) (e:En) (u:Spot) (n i k:Nat) (r:List En) (ov iv dv:Value) (na:Option Addr) (nc:Nat) (cells:List Value) (key:TypeId×Nat) (ia:Option Addr) (ic:Nat) (E0:Stp ((Option Hi×List En)×List Nat)) (w:World):Prop where
 st:St1 F P s wB sb g cur S lv h nx S' ov iv dv na nc cells w
 eq:qez F.W q m e u n i h nx r S' E0
 cop:Blk w cb 225 [tyV key,.slice ia e.ix.length ic,.bool e.ind,.bool e.mul]
 ix:w.ownsRow 0 3 1 (.slice ia e.ix.length ic) e.ix.length (qbh e.ix)
 len:nx.length≤k * 2000+i
 ne:∀ b,(Value.slice na nx.length nc).ownBlock=some b→b≠cb
theorem quv {o o':Option Nat} {z cb:Nat} (hl:o'=o∨o'=some z) (hne:∀ b,o=some b→b≠cb) (hc:cb<z):∀ b,o'=some b→b≠cb:=fun b hb=>by
 rcases hl with hl|hl
 ·rw[hl] at hb;exact hne b hb
 ·rw[hl] at hb;cases hb;omega
theorem qrn {B sb g:Nat} {L:List Nat} {w w':World} {cs:List Value} (H:qeb B w sb L) (ha:qag (fun b=>b=g) w w') (hg:Blk w g 225 cs):qeb B w' sb L:=by
 obtain⟨hge,m,hb,hm⟩:=H;refine⟨hge,m,hb.apart ha (hb.tne hg (by decide)),?_⟩;rcases hm with hm|⟨h1,r,M,q1,q2,q3,q4,q5⟩
 ·exact .inl hm
 ·refine .inr ⟨h1,r,M,q1,q2,q3.apart ha fun e => ?_,q4,fun e he => ?_⟩
  ·have e':r=g:=e;subst e';obtain⟨es,c,hr,-⟩:=q3;unfold Blk at hg;rw[hg] at hr;cases hr
  ·obtain⟨ra,rc,g1,g2⟩:=q5 e he;refine⟨ra,rc,g1,qab g2 ha fun b hb => ?_⟩;obtain⟨cs',hc⟩:=qaf g2 hb;exact hc.tne hg (by decide)
theorem qut (A:Amb F P w0 s w) {sp:Spot} {v:Value} (hd:DenW F s w sp v) (hs:SpO F.W P sp):
  ∃ k u,(∀ w',Below w.heap.size w w'→Calls Tryz.prog 106 #[v] w' (fun e w2=>e = .returned (.tuple #[tyV k,.bool (drf F.W sp).2])∧w2=w'))∧PlV F P s w (pl F.W (drf F.W sp).1) (tyV k) u∧TyIn w k:=by
 obtain⟨T,x,h1,h2,h3,h4⟩:=qou A hd hs;obtain⟨u,hu⟩:=A.plainv h2 h3;obtain⟨k,hk,hi⟩:=hu.key A;exact⟨k,u,fun w' hb=>by rw[← hk];exact h1 w' hb,hk ▸ hu,hi⟩
theorem qo4 {D:TypeId} {e:TypeId} (hu:Tryz.prog.underlying D=some (.pointer e)) (v:Value) (w:World):(Instr.typeAssert (.iface D v) 67 D true).run Tryz.prog w = .ok (.tuple #[v,.bool true]) w:=by
 simp[Instr.typeAssert,run_underlying hu,go_sem]
theorem qsv {T D:TypeId} {e:TypeId} (hu:Tryz.prog.underlying D=some (.pointer e)) (hz:(Tryz.prog.info? D).map (·.zero)=some (some (.pointer none))) (hT:T≠D) (v:Value) (w:World):(Instr.typeAssert (.iface T v) 67 D true).run Tryz.prog w = .ok (.tuple #[.pointer none,.bool false]) w:=by
 obtain⟨j,hj,hz'⟩:=zab.1 hz;simp[Instr.typeAssert,run_underlying hu,go_sem,typeInfo,zeroValue,hj,hz',hT]
theorem Tryz.zFunc:(Tryz.prog.info? 105).map (·.zero)=some (some (.pointer none)):=by kernel_rfl
theorem qd1 {fn:Func} {a:Tmp} {t:TypeId} (h:fn.results=#[.cell a t]) (tmps:Array Value) (P:Program) (w:World) {ad:Addr} (ha:tmps.getD a undef = .pointer (some ad)) {v:Value} (hl:(loadVar t ad).run P w = .ok v w):
  (results fn tmps).run P w = .ok v w:=by
 simp only[Array.getD_eq_getD_getElem?] at ha;simp[results,h,hl,ha,asAddr]
def qdz (o:Int) (m:Bool) (a:Option Addr) (n c:Nat) (ind:Bool):Value := .agg #[.int .i64 o,.bool m,.slice a n c,.bool ind]
theorem qty (bb:Nat) (a:Option Addr) (n c:Nat) (ind:Bool) (w:World):Calls Tryz.prog 22 #[ptrV bb,.nilIface,.slice a n c,.bool ind] w (qa2 (qdz (-1) false a n c ind) w):=by
 go_enter Tryz.func22,Tryz.ntmps22
 go_wp2_with fail
 (try simp only[Exit.inBlock,Exit.then])
 refine bodyPost_ret (qd1 (v:=qdz (-1) false a n c ind) rfl _ _ _ rfl ?_) rfl ?_
 ·unfold qdz;go_simp
 ·exact⟨rfl,(zp _ _).alloc (zl _) _⟩
theorem qrx {F:Fix} {s:St} {w:World} (hok:BOk F s w) (hc:Cov F s w) (hN:F.N≤4194304) {k0:Nat} (hk:k0<F.N) {m:Bool} {x:Nat} (ho:s.ob k0=some (m,x)) (a:Option Addr) (n c:Nat) (ind:Bool):
  Calls Tryz.prog 22 #[ptrV F.bb,objV (some (m,x)),.slice a n c,.bool ind] w (qa2 (qdz k0 m a n c ind) w):=by
 have hA:Below w.heap.size w (w.alloc (.cells #[.int .i64 0,.bool false,.slice none 0 0,.bool false] 34)):=(zp _ _).alloc (zl _) _;have HN:=hid (qr2 (BExt.keep hok hA 0).ok (hc.keep hA) hN hk ho);clear hok hc ho hN hA;cases m with
 | true=>
  have hta:=fun v w=>qo4 Tryz.underlying105 v w;simp only[objV] at HN ⊢;go_enter Tryz.func22,Tryz.ntmps22
  go_wp2_with (go_at_call 47;refine HN.out.mono ?_;rintro e w2 ⟨rfl,rfl⟩)
  (try simp only[Exit.inBlock,Exit.then])
  refine bodyPost_ret (qd1 (v:=qdz k0 true a n c ind) rfl _ _ _ rfl ?_) rfl ?_
  ·unfold qdz;go_simp
  ·exact⟨rfl,(zp _ _).alloc (zl _) _⟩
 | false=>
  have hta:=fun v w=>qsv (T:=151) Tryz.underlying105 Tryz.zFunc (by decide) v w;simp only[objV] at HN ⊢;go_enter Tryz.func22,Tryz.ntmps22
  go_wp2_with (go_at_call 47;refine HN.out.mono ?_;rintro e w2 ⟨rfl,rfl⟩)
  (try simp only[Exit.inBlock,Exit.then])
  refine bodyPost_ret (qd1 (v:=qdz k0 false a n c ind) rfl _ _ _ rfl ?_) rfl ?_
  ·unfold qdz;go_simp
  ·exact⟨rfl,(zp _ _).alloc (zl _) _⟩
