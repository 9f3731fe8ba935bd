import Derived.Test.YtmfhclggkjjcdaaGreatDoorLWNai3
set_option linter.all false
namespace Go.Proofs.YtmfhclggkjjcdaaGreatDoor
open Go Go.RowKit
variable {H HD HE:HitP} {W:Wd} {d e:Nat}
theorem resH_true (ix:List Nat) (ind:Bool) (o:Ow):resH true ix ind o=⟨some (o.2.1,o.2.2.1),ix++[o.1],ind⟩:=by
 unfold resH;simp
def Beh (n:Nat) (a g:Rs):Prop:=(a.ob=none→AmbR g∧∃ r,g.ix=n::r∧r.length=a.ix.length)∧(a.ob≠none→g=preR n a)
def BesR (g a b:Rs):Prop:=
 (a.ix=[]∧b.ix=[]∧g=⟨none,[],false⟩)∨
 (a.ix≠[]∧a.ix.length=b.ix.length∧AmbR g∧g.ix.length=a.ix.length+1)∨
 (a.ix≠[]∧(b.ix=[]∨a.ix.length<b.ix.length)∧Beh 0 a g)∨
 (b.ix≠[]∧(a.ix=[]∨b.ix.length<a.ix.length)∧Beh 1 b g)
def Joins (H HD HE:HitP) (n n':Nat):Prop:=(∀ {ix ind o},¬ H 0 ix ind o)∧∀ {k ix ind o},H (k+1) ix ind o↔(∃ ix',ix=n::ix'∧HD k ix' ind o)∨(∃ ix',ix=n'::ix'∧HE k ix' ind o)
theorem Joins.symm {n n':Nat} (h:Joins H HD HE n n'):Joins H HE HD n' n:=⟨h.1,h.2.trans Or.comm⟩
theorem OutH.len (hH:H.Ok) {r:Rs} (h:OutH H true r):(r.ix=[]∧∀ {k ix ind o},¬ H k ix ind o)∨∃ k,r.ix.length=k+1∧(∀ {j ix ind o},j<k→¬ H j ix ind o)∧∃ ix ind o,H k ix ind o:=by
 rcases h with ⟨h1,h2⟩|⟨k,ix,ind,o,h1,h2,h3⟩
 ·exact .inl ⟨by rw[h2],h1⟩
 ·refine .inr ⟨k,?_,h1,ix,ind,o,h2⟩;rcases h3 with ⟨-,h3⟩|⟨-,h3⟩
  ·rw[h3,resH_true];simp[hH.len h2]
  ·rw[h3];simp[hH.len h2]
theorem OutH.ind {r:Rs} (h:OutH H true r) (hn:r.ob=none):r.ind=false:=by
 rcases h with ⟨-,h⟩|⟨k,ix,ind,o,-,-,⟨-,h⟩|⟨-,h⟩⟩
 ·rw[h]
 ·rw[h,resH_true] at hn;cases hn
 ·rw[h]
theorem OutH.one {n n':Nat} (hJ:Joins H HD HE n n') (hD:HD.Ok) {g a:Rs} (hg:OutH H true g) (ha:OutH HD true a) {k:Nat} (hk:a.ix.length=k+1) (hE:∀ {j ix ind o},j≤k→¬ HE j ix ind o):Beh n a g:=by
 rcases ha with ⟨-,h2⟩|⟨ka,ix,ind,o,h1,h2,h3⟩
 ·rw[h2] at hk;cases hk
 ·have e:ka=k:=by
   rcases h3 with ⟨-,h3⟩|⟨-,h3⟩
   ·rw[h3,resH_true] at hk;simpa[hD.len h2] using hk
   ·rw[h3] at hk;simpa[hD.len h2] using hk
  subst e;have hh:∀ {ix ind o},H (ka+1) ix ind o↔∃ ix',ix=n::ix'∧HD ka ix' ind o:=fun {ix ind o}=>
   ⟨fun h=>by
    rcases hJ.2.1 h with h|⟨ix',-,h⟩
    ·exact h
    ·exact absurd h (hE (zl _)),fun h=>hJ.2.2 (.inl h)⟩
  rcases hg with ⟨g1,-⟩|⟨kg,jx,jnd,p,g1,g2,g3⟩
  ·exact absurd (hh.2 ⟨ix,rfl,h2⟩) g1
  ·have e:kg=ka+1:=by
    cases kg with
    | zero=>exact absurd g2 hJ.1
    | succ kg=>
     rcases Nat.lt_trichotomy kg ka with h|h|h
     ·rcases hJ.2.1 g2 with ⟨ix',-,h'⟩|⟨ix',-,h'⟩
      ·exact absurd h' (h1 h)
      ·exact absurd h' (hE (Nat.le_of_lt h))
     ·rw[h]
     ·exact absurd (hh.2 ⟨ix,rfl,h2⟩) (g1 (by omega))
   subst e;obtain⟨jx',q1,q2⟩:=hh.1 g2;subst q1;rcases h3 with ⟨h3,h4⟩|⟨⟨x,y,z,h3,h5⟩,h4⟩
   ·obtain⟨e1,e2⟩:=h3 q2;subst e1 e2;have e3:=hD.fn h2 q2;subst e3;rcases g3 with ⟨-,g4⟩|⟨⟨x,y,z,g3,g5⟩,-⟩
    ·rw[resH_true] at h4 g4;rw[h4,g4];refine⟨fun h=>(by cases h),fun _ => ?_⟩;simp[preR]
    ·obtain⟨x',r1,r2⟩:=hh.1 g3;obtain⟨e1,e2⟩:=h3 r2;rcases g5 with g5|g5
     ·exact absurd (by rw[r1,e1]) g5
     ·exact absurd e2 g5
   ·rw[h4];refine⟨fun _ => ?_,fun h=>absurd rfl h⟩;rcases g3 with ⟨g3,-⟩|⟨-,g4⟩
    ·obtain⟨e1,e2⟩:=g3 (hh.2 ⟨ix,rfl,h2⟩);obtain⟨e3,e4⟩:=g3 (hh.2 ⟨x,rfl,h3⟩);simp only[List.cons.injEq,true_and] at e1 e3;rcases h5 with h5|h5
     ·exact absurd (e3.trans e1.symm) h5
     ·exact absurd (e4.trans e2.symm) h5
    ·rw[g4];refine⟨⟨rfl,rfl,by simp⟩,jx'++[p.1],rfl,?_⟩;simp[hD.len h2,hD.len q2]
theorem OutH.beside (hJ:Joins H HD HE 0 1) (hD:HD.Ok) (hE:HE.Ok) {g a b:Rs} (hg:OutH H true g) (ha:OutH HD true a) (hb:OutH HE true b):BesR g a b:=by
 rcases ha.len hD with ⟨a1,a2⟩|⟨ka,a1,a2,a3⟩ <;> rcases hb.len hE with ⟨b1,b2⟩|⟨kb,b1,b2,b3⟩
 ·refine .inl ⟨a1,b1,?_⟩;rcases hg with ⟨-,g⟩|⟨kg,jx,jnd,p,-,g2,-⟩
  ·exact g
  ·cases kg with
   | zero=>exact absurd g2 hJ.1
   | succ kg=>
    rcases hJ.2.1 g2 with ⟨ix',-,h'⟩|⟨ix',-,h'⟩
    ·exact absurd h' a2
    ·exact absurd h' b2
 ·exact .inr (.inr (.inr ⟨fun h=>(by rw[h] at b1;cases b1),.inl a1,OutH.one hJ.symm hE hg hb b1 fun _=>a2⟩))
 ·exact .inr (.inr (.inl ⟨fun h=>(by rw[h] at a1;cases a1),.inl b1,OutH.one hJ hD hg ha a1 fun _=>b2⟩))
 ·rcases Nat.lt_trichotomy ka kb with h|h|h
  ·exact .inr (.inr (.inl ⟨fun h=>(by rw[h] at a1;cases a1),.inr (by omega),OutH.one hJ hD hg ha a1 fun hj=>b2 (by omega)⟩))
  ·subst h;refine .inr (.inl ⟨fun h=>(by rw[h] at a1;cases a1),by omega,?_⟩);obtain⟨x,y,z,a3⟩:=a3;obtain⟨x',y',z',b3⟩:=b3;rcases hg with ⟨g1,-⟩|⟨kg,jx,jnd,p,g1,g2,g3⟩
   ·exact absurd (hJ.2.2 (.inl ⟨x,rfl,a3⟩)) g1
   ·have e:kg=ka+1:=by
     cases kg with
     | zero=>exact absurd g2 hJ.1
     | succ kg=>
      rcases Nat.lt_trichotomy kg ka with h|h|h
      ·rcases hJ.2.1 g2 with ⟨ix',-,h'⟩|⟨ix',-,h'⟩
       ·exact absurd h' (a2 h)
       ·exact absurd h' (b2 h)
      ·rw[h]
      ·exact absurd (hJ.2.2 (.inl ⟨x,rfl,a3⟩)) (g1 (by omega))
    subst e;rcases g3 with ⟨g3,-⟩|⟨-,g4⟩
    ·have e1:=(g3 (hJ.2.2 (.inl ⟨x,rfl,a3⟩))).1;have e2:=(g3 (hJ.2.2 (.inr ⟨x',rfl,b3⟩))).1;rw[← e2] at e1;simp at e1
    ·have hl:jx.length=ka+1:=by
      rcases hJ.2.1 g2 with ⟨ix',r,h'⟩|⟨ix',r,h'⟩
      ·rw[r,List.length_cons,hD.len h']
      ·rw[r,List.length_cons,hE.len h']
     rw[g4];refine⟨⟨rfl,rfl,by simp⟩,?_⟩;simp only[List.length_append,List.length_singleton];omega
  ·exact .inr (.inr (.inr ⟨fun h=>(by rw[h] at b1;cases b1),.inr (by omega),OutH.one hJ.symm hE hg hb b1 fun hj=>a2 (by omega)⟩))
def twoT (d e:Nat):Ty:=stT [.mk 0 true (ndT d),.mk 0 true (ndT e)]
theorem two_emb {i:Nat}:Embd W (operand W (twoT d e)) i↔i=0∨i=1:=by
 have hu:under W (operand W (twoT d e))=operand W (twoT d e):=qdu (by show(4:Int)≠1;omega);unfold Embd;rw[hu];constructor
 ·rintro⟨-,h,-⟩;have:i<2:=h;omega
 ·rintro(rfl|rfl)
  ·exact⟨rfl,(by show 0<2;omega),rfl⟩
  ·exact⟨rfl,(by show 1<2;omega),rfl⟩
theorem two_sub {P:Nat→Nat} (hW:WdO W P) {d e:Nat} (hs:SpO W P (operand W (twoT d e))) {i k:Nat} (hi:i<2) (hk:(qao (operand W (twoT d e)) i).of=ndT k):subT W (operand W (twoT d e)) i=plD W k∧subP W (operand W (twoT d e)) i=false∧SpO W P (operand W (ndT k))∧(under W (operand W (ndT k))).of.kind≠2:=by
 have hu:under W (operand W (twoT d e))=operand W (twoT d e):=qdu (by show(4:Int)≠1;omega);have hE:=(two_emb (W:=W) (d:=d) (e:=e) (i:=i)).2 (by omega);unfold Embd at hE;rw[hu] at hE;have hok:=hs.embOk hE.2.1 hE.2.2;obtain⟨hf,ho⟩:=hs.field hE.1 hE.2.1;have hkk:(qao (operand W (twoT d e)) i).of.kind=1:=by rw[hk];rfl
 have h2:(under W (qao (operand W (twoT d e)) i)).of.kind≠2:=by
  unfold qdo at hok;simp only at hok;rw[if_neg (by omega)] at hok;exact hok.1
 have hp:=kind_plain hW.by_ hf.numOk h2;have hd:drf W (qao (operand W (twoT d e)) i)=(qao (operand W (twoT d e)) i,false):=by unfold drf;rw[if_neg hp]
 have hn:(qao (operand W (twoT d e)) i).of.num.toNat=k:=by rw[hk];exact Int.toNat_natCast k
 have e1:(operand W (ndT k)).of=(qao (operand W (twoT d e)) i).of:=hk.symm;have hn2:qdw W (operand W (ndT k)):=fun h=>by rw[e1] at h ⊢;exact hf.numOk h
 unfold subT subP;rw[hu,hd];refine⟨by rw[pl_nd hkk,hn],rfl,?_,by rw[under_of hW.by_ e1 (by rw[e1];exact hkk) hn2];exact h2⟩;have hl:=hf.numOk hkk;rw[hk] at hl;have hkl:k<W.length:=by have:=hl.2;simp only[ndT,Ty.num] at this;omega
 refine⟨.inl rfl,by simp[operand,ndT,Ty.bulk,qbt,qcm],by simp[ndT,operand,qdp,qb1,qc0,qcr,qjv],⟨-1,true,?_⟩,?_,?_⟩
 ·simp only[ndT,operand,qam];exact .inr (.inl (by refine⟨by trivial,by trivial,by trivial,by trivial,by trivial,by omega,by omega,.inl (by omega)⟩))
 ·have:=hf.sz;rw[← e1] at this;exact this
 ·have h1:=hf.nn;have h3:(operand W (ndT k)).of.size=0:=by simp[operand,ndT,Ty.size,qau,qar]
  have h4:=hs.nn;show start W W.length+(operand W (ndT k)).of.size<_;have h5:start W W.length+(operand W (twoT d e)).of.size<P W.length:=h4;omega
theorem beside_nd (hA:qqd W (twoT d e)) (hb:qbw W≤1048576) {m:Int} (hm:m≠8) (q:Int) (hd:qbp 0 (dc W d).name q m=false) (he:qbp 0 (dc W e).name q m=false):
  BesR (qch W (operand W (twoT d e)) true q m) (qch W (operand W (ndT d)) true q m) (qch W (operand W (ndT e)) true q m)∧
  ((qch W (operand W (ndT d)) true q m).ob=none→(qch W (operand W (ndT d)) true q m).ind=false)∧((qch W (operand W (ndT e)) true q m).ob=none→(qch W (operand W (ndT e)) true q m).ind=false):=by
 obtain⟨hF,P,hS,-⟩:=hA;obtain⟨P',hW,hs⟩:=fit_spo hF hS hb (by simp[twoT,stT,ndT,Ty.bulk,qbt,qcm]);obtain⟨a1,a2,a3,a4⟩:=two_sub hW hs (i:=0) (k:=d) (by omega) rfl;obtain⟨b1,b2,b3,b4⟩:=two_sub hW hs (i:=1) (k:=e) (by omega) rfl;have o1:=(lookM_nd hW a3 a4 hm true q).toH;have o2:=(lookM_nd hW b3 b4 hm true q).toH;have hp:pl W (operand W (twoT d e))=operand W (twoT d e):=by
  unfold pl;rw[qbg (fun h=>absurd h.1 (by show(4:Int)≠1;omega)),qgb (by show(4:Int)≠1;omega)]
 have hpk:(plain W (operand W (twoT d e))).of.kind=4:=by rw[qbg (fun h=>absurd h.1 (by show(4:Int)≠1;omega))];rfl
 have og:Out W (operand W (twoT d e)) false true q m (qch W (operand W (twoT d e)) true q m):=by
  unfold qch;rw[if_neg (fun h=>by have:=h.1;omega),qt8 hm (by omega)];have h1:=lvs_out hW hs (i0:=false) (addr:=true) (q:=q) (m:=m);rw[hp] at h1 ⊢;exact h1
 have hu:under W (operand W (twoT d e))=operand W (twoT d e):=qdu (by show(4:Int)≠1;omega);have hnm:∀ k,fname W (.mk 0 true (ndT k))=(dc W k).name:=fun k=>by unfold fname;simp[Fd.embedded,Fd.of,ndT,Ty.kind,Ty.num]
 have hown:ownL W q m (operand W (twoT d e))=[]:=by
  rw[ownL_lit (by show(4:Int)≠1;omega)];unfold ownT;rw[hu,if_pos (show(operand W (twoT d e)).of.kind=4 from rfl)];show ownF W q m (operand W (twoT d e)) 2 0=[];have e1:qbp (operand W (twoT d e)).pkg (fname W ((operand W (twoT d e)).of.fields.getD 0 fd0)) q m=false:=(congrArg (fun x=>qbp 0 x q m) (hnm d)).trans hd;have e2:qbp (operand W (twoT d e)).pkg (fname W ((operand W (twoT d e)).of.fields.getD 1 fd0)) q m=false:=(congrArg (fun x=>qbp 0 x q m) (hnm e)).trans he;simp only[ownF,Nat.zero_add];rw[if_neg (by rw[e1];exact Bool.false_ne_true),if_neg (by rw[e2];exact Bool.false_ne_true)]
 refine⟨OutH.beside (H:=hitW W (operand W (twoT d e)) false q m) ⟨?_,?_⟩ (hitW_ok ..) (hitW_ok ..) og.toH o1 o2,o1.ind,o2.ind⟩
 ·rintro ix ind o ⟨s,h1,h2⟩;have hl:=List.eq_nil_of_length_eq_zero h1.len;subst hl;rw[(h1.uniq Wy.root).1,hown] at h2;cases h2
 ·intro k ix ind o;constructor
  ·rintro⟨s,h1,h2⟩;obtain⟨j,ix',c1,c2,c3⟩:=h1.head;rcases two_emb.1 c1 with rfl|rfl
   ·rw[a1,a2] at c3;exact .inl ⟨ix',c2,s,c3,h2⟩
   ·rw[b1,b2] at c3;exact .inr ⟨ix',c2,s,c3,h2⟩
  ·rintro(⟨ix',rfl,s,h1,h2⟩|⟨ix',rfl,s,h1,h2⟩)
   ·refine⟨s,Wy.behind (two_emb.2 (.inl rfl)) ?_,h2⟩;rw[a1,a2];exact h1
   ·refine⟨s,Wy.behind (two_emb.2 (.inr rfl)) ?_,h2⟩;rw[b1,b2];exact h1
theorem beside_own (hA:qqd W (twoT d e)) (hb:qbw W≤1048576) {m:Int} (hm:m≠8) (q:Int) (addr:Bool) (h:qbp 0 (dc W d).name q m=true∨qbp 0 (dc W e).name q m=true):
  ∃ k i,qch W (operand W (twoT d e)) addr q m=⟨some (k,false),[i],false⟩:=by
 have hnm:∀ k,fname W (.mk 0 true (ndT k))=(dc W k).name:=fun k=>by unfold fname;simp[Fd.embedded,Fd.of,ndT,Ty.kind,Ty.num]
 obtain⟨n,hn⟩:∃ n,qj2 W=n+1:=⟨qj2 W - 1,by unfold qj2;omega⟩;have hne:¬ (qbp 0 (dc W d).name q m=true∧qbp 0 (dc W e).name q m=true):=by
  rintro⟨h1,h2⟩;obtain⟨hF,-⟩:=hA;have hv:=hF.validT;simp only[twoT,stT,qcj,operand,qdp,qcr] at hv;have hv2:=hv.2.2.1.2.1.1 (.mk 0 true (ndT d)) (by simp);rw[hnm,hnm] at hv2;unfold qbp at h1 h2;simp only[Bool.and_eq_true,beq_iff_eq] at h1 h2;exact hv2 (fun e=>hm (h2.1.symm.trans e)) (h2.1.trans h1.1.symm)
 unfold twoT;rw[lookM_struct hm hn,lvs_one (k:=2) rfl rfl];have key:∃ k i nx,flds W q m ⟨operand W (stT [.mk 0 true (ndT d),.mk 0 true (ndT e)]),[],false,false⟩ (operand W (stT [.mk 0 true (ndT d),.mk 0 true (ndT e)])) 2 0 (none,[]) = .ok (some ⟨k,false,false,[i],false⟩,nx):=by
  cases h1:qbp 0 (dc W d).name q m with
  | true=>
   have h2:qbp 0 (dc W e).name q m=false:=by
    cases h2:qbp 0 (dc W e).name q m with
    | false=>rfl
    | true=>exact absurd ⟨h1,h2⟩ hne
   refine⟨qe0 (operand W (stT [.mk 0 true (ndT d),.mk 0 true (ndT e)])) 0,0,[],?_⟩;rw[qv8 (by show qbp 0 (fname W (.mk 0 true (ndT d))) q m=true;rw[hnm];exact h1),qmx rfl];simp only;rw[flds_no (by show qbp 0 (fname W (.mk 0 true (ndT e))) q m=false;rw[hnm];exact h2) (.inl rfl),flds_end];rfl
  | false=>
   have h2:qbp 0 (dc W e).name q m=true:=by
    rcases h with h|h
    ·rw[h] at h1;cases h1
    ·exact h
   refine⟨qe0 (operand W (stT [.mk 0 true (ndT d),.mk 0 true (ndT e)])) 1,1,[]++[subE W ⟨operand W (stT [.mk 0 true (ndT d),.mk 0 true (ndT e)]),[],false,false⟩ (operand W (stT [.mk 0 true (ndT d),.mk 0 true (ndT e)])) 0],?_⟩;rw[qwy (by show qbp 0 (fname W (.mk 0 true (ndT d))) q m=false;rw[hnm];exact h1) rfl,qv8 (by show qbp 0 (fname W (.mk 0 true (ndT e))) q m=true;rw[hnm];exact h2),qmx rfl];simp only;rw[flds_end];rfl
 obtain⟨k,i,nx,h1⟩:=key;exact⟨k,i,by rw[h1];simp⟩
