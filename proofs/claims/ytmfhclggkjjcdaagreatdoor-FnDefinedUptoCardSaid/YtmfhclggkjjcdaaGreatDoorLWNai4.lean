import Derived.Test.YtmfhclggkjjcdaaGreatDoorLWNai3
set_option linter.all false
namespace Go.Proofs.YtmfhclggkjjcdaaGreatDoor
open Go Go.RowKit
variable {W:Wd} {s t:Spot}
theorem OutH.same {H H':HitP} (hH:H.Ok) (he:∀ k ix ind o,H k ix ind o↔H' k ix ind o) {addr:Bool} {r r':Rs} (h:OutH H addr r) (h':OutH H' addr r'):r=r'∨(AmbR r∧AmbR r'∧r.ix.length=r'.ix.length):=by
 have e:H=H':=by funext k ix ind o;exact propext (he k ix ind o)
 subst e;rcases h with ⟨a1,a2⟩|⟨k,ix,ind,o,a1,a2,a3⟩ <;> rcases h' with ⟨b1,b2⟩|⟨k',ix',ind',o',b1,b2,b3⟩
 ·exact .inl (a2.trans b2.symm)
 ·exact absurd b2 a1
 ·exact absurd a2 b1
 ·have hk:k=k':=Nat.le_antisymm (Nat.le_of_not_lt fun h=>a1 h b2) (Nat.le_of_not_lt fun h=>b1 h a2);subst hk;rcases a3 with ⟨a3,a4⟩|⟨⟨x,y,z,a3,a5⟩,a4⟩ <;> rcases b3 with ⟨b3,b4⟩|⟨⟨x',y',z',b3,b5⟩,b4⟩
  ·obtain⟨e1,e2⟩:=a3 b2;subst e1 e2;have e3:=hH.fn a2 b2;subst e3;exact .inl (a4.trans b4.symm)
  ·obtain⟨e1,e2⟩:=a3 b2;obtain⟨e3,e4⟩:=a3 b3;rcases b5 with b5|b5
   ·exact absurd (e3.trans e1.symm) b5
   ·exact absurd (e4.trans e2.symm) b5
  ·obtain⟨e1,e2⟩:=b3 a2;obtain⟨e3,e4⟩:=b3 a3;rcases a5 with a5|a5
   ·exact absurd (e3.trans e1.symm) a5
   ·exact absurd (e4.trans e2.symm) a5
  ·refine .inr ⟨by rw[a4];exact⟨rfl,rfl,by simp⟩,by rw[b4];exact⟨rfl,rfl,by simp⟩,?_⟩;rw[a4,b4];simp only[List.length_append,List.length_singleton];rw[hH.len a2,hH.len b2]
theorem Embd.under (hu:Go.Proofs.YtmfhclggkjjcdaaGreatDoor.under W s=Go.Proofs.YtmfhclggkjjcdaaGreatDoor.under W t) {i:Nat} (h:Embd W s i):Embd W t i:=by
 unfold Embd at h ⊢;rw[← hu];exact h
theorem Wy.under (hu:Go.Proofs.YtmfhclggkjjcdaaGreatDoor.under W s=Go.Proofs.YtmfhclggkjjcdaaGreatDoor.under W t) {i0:Bool} {k:Nat} {x:Spot} {ix:List Nat} {ind:Bool} (h:Wy W s i0 (k+1) x ix ind):Wy W t i0 (k+1) x ix ind:=by
 obtain⟨j,ix',h1,h2,h3⟩:=h.head;subst h2;refine Wy.behind (h1.under hu) ?_;unfold subT subP at h3 ⊢;rw[← hu];exact h3
theorem hitW_under (hu:Go.Proofs.YtmfhclggkjjcdaaGreatDoor.under W s=Go.Proofs.YtmfhclggkjjcdaaGreatDoor.under W t) {q m:Int} (ho:ownL W q m s=ownL W q m t) {i0:Bool} (k:Nat) (ix:List Nat) (ind:Bool) (o:Ow):hitW W s i0 q m k ix ind o↔hitW W t i0 q m k ix ind o:=by
 have key:∀ {s t:Spot},Go.Proofs.YtmfhclggkjjcdaaGreatDoor.under W s=Go.Proofs.YtmfhclggkjjcdaaGreatDoor.under W t→ownL W q m s=ownL W q m t→hitW W s i0 q m k ix ind o→hitW W t i0 q m k ix ind o:=by
  rintro s t hu ho ⟨x,h1,h2⟩;cases k with
  | zero=>
   generalize hz:0=z at h1
   cases h1 with
   | root=>exact⟨t,.root,ho ▸ h2⟩
   | step _ _=>omega
  | succ k=>exact⟨x,h1.under hu,h2⟩
 exact⟨key hu ho,key hu.symm ho.symm⟩
theorem ownT_under {q m:Int} (hu:under W s=under W t):ownT W q m s=ownT W q m t:=by
 unfold ownT;rw[hu]
theorem plD_self {d:Nat} (ha:(dc W d).alias=false):plD W d=ndS d:=by
 have h:plain W (ndS d)=ndS d:=qbg fun e=>by
  have h2:=e.2;rw[show(ndS d).of.num.toNat=d from Int.toNat_natCast d,ha] at h2;cases h2
 unfold plD pl;rw[h,qly rfl];show ndS (Int.toNat ((d:Nat):Int))=_;rw[Int.toNat_natCast]
theorem qfz.nd {t:Ty} (h:qfz W t) {d:Nat} (hd:d<W.length):qfz W (ndT d):=
 ⟨h.names,h.distinct,by
  simp only[ndT,qam];exact .inr (.inl (by refine⟨by trivial,by trivial,by trivial,by trivial,by trivial,by omega,by omega,.inl (by omega)⟩)),h.valid,h.declared,by simp[ndT,qcj,operand,qdp,qb1,qc0,qcr,qjv]⟩
theorem defined_nd {n:Nat} (hA:qqd W (ndT n)) (hb:qbw W≤1048576) (hn:n<W.length) (ha:(dc W n).alias=false) (hk:(dc W n).of.kind=1) (hma:(dc W (dc W n).of.num.toNat).alias=false) (hms:(dc W n).methods=[]) (q m:Int) (addr:Bool):
  (dc W n).of.num.toNat<W.length∧
  ((∃ k i,qch W (operand W (ndT (dc W n).of.num.toNat)) true q m=⟨some (k,true),[i],false⟩∧(under W (operand W (ndT (dc W n).of.num.toNat))).of.kind≠5)∨
  qch W (operand W (ndT n)) addr q m=qch W (operand W (ndT (dc W n).of.num.toNat)) addr q m∨
  (AmbR (qch W (operand W (ndT n)) addr q m)∧AmbR (qch W (operand W (ndT (dc W n).of.num.toNat)) addr q m)∧(qch W (operand W (ndT n)) addr q m).ix.length=(qch W (operand W (ndT (dc W n).of.num.toNat)) addr q m).ix.length)):=by
 obtain⟨hF,P,hS,-⟩:=hA;obtain⟨P',hW,hs⟩:=fit_spo hF hS hb (by simp[ndT,Ty.bulk,qbt,qcm]);have hof:qdw W (qad W n):=(hW.sp n hn).numOk;have hnum:=hof hk;have hmu:(qad W n).of.num.toNat=(dc W n).of.num.toNat:=rfl;rw[show(qad W n).of.num=(dc W n).of.num from rfl] at hnum
 generalize hmm:(dc W n).of.num.toNat=k at *
 have hkl:k<W.length:=by omega
 refine⟨hkl,?_⟩;have hsk:SpO W P' (operand W (ndT k)):=by
  refine⟨.inl rfl,by simp[operand,ndT,Ty.bulk,qbt,qcm],?_,?_,?_,?_⟩
  ·exact(hF.nd hkl).validT
  ·exact⟨_,_,(hF.nd hkl).formed⟩
  ·have h1:=(hW.sp n hn).sz;have h2:=op_nd (P:=P') (t:=(qad W n).of) hk;rw[show(qad W n).of.num.toNat=k from hmu] at h2;have h3:op P' (operand W (ndT k)).of=P' k:=qw9 P' k;omega
  ·have:=hs.nn;exact this
 have e1:under W (operand W (ndT n))=under W (qad W n):=by
  rw[qdg hW.by_ (s:=operand W (ndT n)) rfl hs.numOk];show under W (qad W (Int.toNat ((n:Nat):Int)))=_;rw[Int.toNat_natCast]
 have e2:under W (operand W (ndT k))=under W (qad W k):=by
  rw[qdg hW.by_ (s:=operand W (ndT k)) rfl hsk.numOk];show under W (qad W (Int.toNat ((k:Nat):Int)))=_;rw[Int.toNat_natCast]
 have e3:under W (qad W n)=under W (qad W k):=by
  rw[qdg hW.by_ hk hof,hmu]
 have e4:under W (operand W (ndT n))=under W (operand W (ndT k)):=by rw[e1,e3,e2]
 by_cases h8:m=8
 ·subst h8;refine .inr (.inl ?_);have h:∀ s a,qhf W s a q 8=⟨none,[],false⟩:=fun s a=>by unfold qhf;rw[if_pos rfl]
  unfold qch;simp only[h];split <;> split <;> rfl
 by_cases h2:(under W (operand W (ndT n))).of.kind=2
 ·refine .inr (.inl ?_);have p1:(plain W (operand W (ndT n))).of.kind=1:=by
   rw[qbg fun e=>by
    have h3:=e.2;rw[show(operand W (ndT n)).of.num.toNat=n from Int.toNat_natCast n,ha] at h3;cases h3]
   rfl
  have p2:(plain W (operand W (ndT k))).of.kind=1:=by
   rw[qbg fun e=>by
    have h3:=e.2;rw[show(operand W (ndT k)).of.num.toNat=k from Int.toNat_natCast k,hma] at h3;cases h3]
   rfl
  unfold qch;rw[if_pos ⟨p1,h2⟩,if_pos ⟨p2,by rw[← e4];exact h2⟩,e4]
 ·have o1:=lookM_nd hW hs h2 h8 addr q;have h2':(under W (operand W (ndT k))).of.kind≠2:=by rw[← e4];exact h2
  have o2:=lookM_nd hW hsk h2' h8 addr q;have o3:=lookM_nd hW hsk h2' h8 true q;rw[plD_self ha] at o1;rw[plD_self hma] at o2 o3;have nk:(ndS k).of.num.toNat=k:=Int.toNat_natCast k;have nn:(ndS n).of.num.toNat=n:=Int.toNat_natCast n;cases hd:qey W k q m with
  | some i=>
   refine .inl ?_;have ho:ownL W q m (ndS k)=[(i,start W k+i,true,((dc W k).methods.getD i ⟨0,false⟩).ptr)]:=by
    unfold ownL;rw[if_pos (show(ndS k).of.kind=1 from rfl),nk,hd]
   have hm2:(dc W k).methods≠[]:=fun e=>by
    unfold qey qf3 qj9 at hd;rw[e] at hd;split at hd <;> simp at hd
   have h5:=((hW.de k hkl).2.1 hm2).2;rcases o3 with ⟨a1,-⟩|⟨j,s,ix,ind,o,a1,a2,a3,a4⟩
   ·have:=a1 Wy.root;rw[ho] at this;cases this
   ·have hj:j=0:=Nat.eq_zero_of_not_pos fun h=>by
     have:=a1 h Wy.root;rw[ho] at this;cases this
    subst hj;have hr:∀ {s ix ind},Wy W (ndS k) false 0 s ix ind→s=ndS k∧ix=[]∧ind=false:=fun {s ix ind} h=>by
     have hl:=List.eq_nil_of_length_eq_zero h.len;subst hl;obtain⟨u1,u2⟩:=h.uniq (Wy.root (W:=W) (s0:=ndS k) (i0:=false));exact⟨u1,rfl,u2⟩
    obtain⟨r1,r2,r3⟩:=hr a2;subst r1 r2 r3;rw[ho,zfb] at a3;subst a3;rcases a4 with ⟨-,a4⟩|⟨⟨s',ix',ind',o',b1,b2,b3⟩,-⟩
    ·refine⟨start W k+i,i,?_,by rw[e2];exact h5⟩;rw[a4];simp[resH]
    ·obtain⟨r1,r2,r3⟩:=hr b1;subst r1;rw[ho,zfb] at b2;rcases b3 with b3|b3
     ·exact absurd r2 b3
     ·exact absurd b2 b3
  | none=>
   refine .inr ?_;have hn0:qey W n q m=none:=by
    unfold qey qf3 qj9;rw[hms];split <;> rfl
   have u1:under W (ndS n)=under W (ndS k):=by
    have a1:=qn6 W (operand W (ndT n));have a2:=qn6 W (operand W (ndT k));rw[qly rfl] at a1 a2;rw[show(operand W (ndT n)).of.num.toNat=n from Int.toNat_natCast n] at a1;rw[show(operand W (ndT k)).of.num.toNat=k from Int.toNat_natCast k] at a2;rw[a1,a2,e4]
   have ho:ownL W q m (ndS n)=ownL W q m (ndS k):=by
    unfold ownL;rw[if_pos (show(ndS k).of.kind=1 from rfl),if_pos (show(ndS n).of.kind=1 from rfl),nk,nn,hd,hn0];exact ownT_under u1
   exact OutH.same (hitW_ok ..) (hitW_under u1 ho) o1.toH o2.toH
