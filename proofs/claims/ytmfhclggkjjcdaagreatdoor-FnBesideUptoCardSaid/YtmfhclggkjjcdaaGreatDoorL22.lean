import Derived.Test.YtmfhclggkjjcdaaGreatDoorL17
import Derived.Test.YtmfhclggkjjcdaaGreatDoorL19
import Derived.Test.YtmfhclggkjjcdaaGreatDoorL21
set_option linter.all false
namespace Go.Proofs.YtmfhclggkjjcdaaGreatDoor
open Go Go.RowKit
variable {w w0:World} {F:Fix} {P:Nat→Nat} {s:Spot} {n:Nat} {W:Wd}
def kT (k:Int):TypeId:=if k=0 then 156 else if k=1 then 98 else if k=2 then 145 else if k=3 then 147 else if k=4 then 153 else 112
theorem qlz (k:Int):KeyT (kT k):=by
 unfold kT KeyT
 repeat' split
 all_goals simp
theorem qig {b j:Nat} {v:Value} (h:rdT w b j=some v):∃ T cs,Blk w b T cs:=by
 obtain⟨cs,T,h1,-⟩:=qb7 h;exact⟨T,cs.toList,by unfold Blk;simpa using h1⟩
theorem PlV.ty {s:St} (A:Amb F P w0 s w) {sp:Spot} {v u:Value} (h:PlV F P s w sp v u):∃ b,u=tyV (kT sp.of.kind,b)∧TyIn w (kT sp.of.kind,b):=by
 rcases h.spo.kinds with hk|hk|hk|hk|hk|hk
 ·obtain⟨b,i,st,e,h1⟩:=Den.basic h.den hk;exact⟨b,by rw[e,hk];rfl,qlz _,qig (h1 0 _ rfl)⟩
 ·obtain⟨-,b,tn,U,ux,ra,rc,fs,e,q⟩:=A.nd h.den hk (h.nal hk);exact⟨b,by rw[e,hk];rfl,qlz _,_,_,q.blk⟩
 ·obtain⟨b,z,e,h1,-⟩:=Den.ptr h.den hk;exact⟨b,by rw[e,hk];rfl,qlz _,qig h1⟩
 ·obtain⟨b,z,e,h1,-⟩:=Den.slice h.den hk;exact⟨b,by rw[e,hk];rfl,qlz _,qig h1⟩
 ·obtain⟨b,a,c,e,h1,-⟩:=Den.struct h.den hk;exact⟨b,by rw[e,hk];rfl,qlz _,qig (h1 0 _ rfl)⟩
 ·obtain⟨b,a,c,a',c',e,-,h1,-⟩:=Den.iface h.den hk;exact⟨b,by rw[e,hk];rfl,qlz _,qig (h1 5 _ rfl)⟩
theorem PlV.self {s:St} {sp:Spot} {v u:Value} (h:PlV F P s w sp v u):Go.Proofs.YtmfhclggkjjcdaaGreatDoor.plain F.W sp=sp:=qbg fun e=>by rw[h.nal e.1] at e;cases e.2
theorem qbs.unique {v u u':Value} (h:qbs w v u) (h':qbs w v u'):u=u':=by
 obtain⟨⟨T,x,e,hT⟩,h1⟩:=h;obtain⟨⟨T',x',e',hT'⟩,h1'⟩:=h';rcases h1 with h1|⟨al,h1,h2⟩ <;> rcases h1' with h1'|⟨al',h1',h2'⟩
 ·rw[← h1,← h1']
 ·rw[← h1,h1'] at e;cases e;exact absurd rfl hT
 ·rw[← h1',h1] at e';cases e';exact absurd rfl hT'
 ·rw[h1] at h1';cases h1';rw[h2] at h2';cases h2';rfl
theorem qja (W:Wd) {s:Spot} (hB:qcp W) (hs:qdw W s) (n:Nat):cano W n (pl W s)=cano W n s:=by
 cases n with
 | zero=>rfl
 | succ n=>
  have hp:=qjj hB hs;have e1:plain W (pl W s)=pl W s:=qbg fun e=>by
   unfold pl at e;rw[qfn,qmd] at e;have:=hp.2 e.1;rw[this] at e;cases e.2
  unfold cano;rw[e1];unfold pl;by_cases hk:(plain W s).of.kind=1
  ·have hn:=hp.1 hk;rw[if_pos (by rw[qfn];exact hk),if_pos hk,qly hk];show CT.leaf [(1,(((plain W s).of.num.toNat:Nat):Int))]=_;rw[show(((plain W s).of.num.toNat:Nat):Int)=(plain W s).of.num by omega]
  ·rw[qgb hk]
def CT.tag:CT→Int
 | .leaf l=>(l.headD (9,0)).1
 | .node l _ _=>(l.headD (9,0)).1
theorem qqq (W:Wd) (n:Nat) (s:Spot):(cano W (n+1) s).tag=(plain W s).of.kind:=by
 unfold cano;split
 next h=>rw[h];rfl
 next h1=>
  split
  next h=>rw[h];rfl
  next h2=>
   split
   next h=>rw[h];rfl
   next h3=>
    split
    next h=>rw[h];rfl
    next h4=>rfl
theorem PlV.fields {s:St} (A:Amb F P w0 s w) {sp:Spot} {v u:Value} (h:PlV F P s w sp v u) (hk:sp.of.kind=4):∃ b a c,u = .iface 153 (ptrV b)∧w.cell? ⟨b,0,none⟩=some (.slice a sp.of.fields.length c)∧w.cell? ⟨b,1,none⟩=some (.slice none 0 0)∧sp.of.fields.length≤c∧
  ∀ j,j<sp.of.fields.length→∃ g o f z,a=some ⟨g,o,none⟩∧FldM w g o j (F.pk sp.pkg) f (fname F.W (sp.of.fields.getD j fd0)) z (sp.of.fields.getD j fd0).embedded∧DenW F s w (qao sp j) z∧s.ob (qe0 sp j)=some (false,f):=by
 obtain⟨b,a,c,e,h1,h2,h3⟩:=Den.struct h.den hk;refine⟨b,a,c,e,qax (h1 0 _ rfl),qax (h1 1 _ rfl),h2,fun j hj => ?_⟩;obtain⟨gb,o,x,z,q1,q2,q3,q4,q5⟩:=h3 j hj;exact⟨gb,o,x,z,q1,⟨qax q2,qax (q4 1 _ rfl),qax (q4 2 _ rfl),qax (q4 3 _ rfl),qax (q4 5 _ rfl),h.spo.fnm A.wd hk hj⟩,q5,q3⟩
theorem pk_ne {s:St} (h:BOk F s w) {p q:Int} (hp:p=0∨p=1) (hq:q=0∨q=1) (e:F.pk p=F.pk q):p=q:=by
 have h1:=(h.pkc hp).2;have h2:=(h.pkc hq).2;rw[e,h2] at h1;have h3:qbo q=qbo p:=by injection h1 with h1;injection h1
 have h4:=qun hq hp;rw[h3] at h4;simp at h4;exact h4.symm
theorem qs0 {n m:Int} (hn:IsNm n) (hm:IsNm m) (e:qas n=qas m):n=m:=by
 have h:=ql6 hn hm;rw[e] at h;simpa using h
theorem qql {a b:Int} (ha:0≤a∧a≤2) (hb:0≤b∧b≤2) (e:basK a=basK b):a=b:=by
 unfold basK at e
 repeat' split at e
 all_goals omega
theorem SpO.num02 (h:SpO W P s) (hk:s.of.kind=0):0≤s.of.num∧s.of.num≤2:=by
 obtain⟨d,val,hf⟩:=h.fo;have:=hf.k0 hk;exact⟨this.2.2.2.2.1,this.2.2.2.2.2⟩
theorem qm2 (hp:plain W s=s) (hk:s.of.kind=1):cano W (n+1) s = .leaf [(1,s.of.num)]:=by
 unfold cano;rw[hp,if_pos hk]
theorem qnc (hp:plain W s=s) (hk:s.of.kind=0):cano W (n+1) s = .leaf [(0,s.of.num)]:=by
 conv=>lhs;unfold cano
 rw[hp,if_neg (by omega),if_pos hk]
theorem qew (hp:plain W s=s) (hk:s.of.kind=2∨s.of.kind=3):cano W (n+1) s = .node [(s.of.kind,0)] (cano W n (qaq s)) (.leaf []):=by
 conv=>lhs;unfold cano
 rw[hp,if_neg (by omega),if_neg (by omega),if_neg (by omega),if_neg (by omega)]
theorem que (hp:plain W s=s) (hk:s.of.kind=4):cano W (n+1) s = .node [(4,s.of.fields.length)] ((List.range s.of.fields.length).foldr (fun i t => .node (qjg W s i) (cano W n (qao s i)) t) (.leaf [])) (.leaf []):=by
 conv=>lhs;unfold cano
 rw[hp,if_neg (by omega),if_neg (by omega),if_pos hk]
theorem qs4 (hp:plain W s=s) (hk:s.of.kind=5):cano W (n+1) s = .leaf ((5,0)::(msL W s).map fun m=>cid m.p m.n):=by
 conv=>lhs;unfold cano
 rw[hp,if_neg (by omega),if_neg (by omega),if_neg (by omega),if_pos hk]
theorem qqo {s t:Spot} (hp:plain W s=s) (hk:s.of.kind=4) (hp':plain W t=t) (hk':t.of.kind=4):cano W (n+1) s=cano W (n+1) t↔s.of.fields.length=t.of.fields.length∧∀ i,i<s.of.fields.length→qjg W s i=qjg W t i∧cano W n (qao s i)=cano W n (qao t i):=by
 rw[que hp hk,que hp' hk'];simp only[CT.node.injEq,List.cons.injEq,Prod.mk.injEq,and_true,true_and];constructor
 ·rintro⟨h1,h2⟩;have h1':s.of.fields.length=t.of.fields.length:=by omega
  rw[← h1'] at h2;refine⟨h1',fun i hi=>qla.1 h2 i (List.mem_range.2 hi)⟩
 ·rintro⟨h1,h2⟩;refine⟨by omega,?_⟩;rw[← h1];exact qla.2 fun i hi=>h2 i (List.mem_range.1 hi)
theorem qjq {s t:Spot} {i:Nat}:qjg W s i=qjg W t i↔((s.of.fields.getD i fd0).embedded=(t.of.fields.getD i fd0).embedded∧qbp s.pkg (fname W (s.of.fields.getD i fd0)) t.pkg (fname W (t.of.fields.getD i fd0))=true):=by
 unfold qjg;rw[qkd];simp only[List.cons.injEq,Prod.mk.injEq,and_true];constructor
 ·rintro⟨h1,h2⟩;refine⟨?_,h2⟩;cases h3:(s.of.fields.getD i fd0).embedded <;> cases h4:(t.of.fields.getD i fd0).embedded <;> rw[h3,h4] at h1 <;> simp at h1 ⊢
 ·rintro⟨h1,h2⟩;rw[h1];exact⟨rfl,h2⟩
theorem qki {a b:Int} (ha:a=0∨a=1∨a=2∨a=3∨a=4∨a=5) (hb:b=0∨b=1∨b=2∨b=3∨b=4∨b=5) (e:kT a=kT b):a=b:=by
 rcases ha with rfl|rfl|rfl|rfl|rfl|rfl <;> rcases hb with rfl|rfl|rfl|rfl|rfl|rfl <;> first|rfl|(exact absurd e (by decide))
theorem qib {s:St} (A:Amb F P w0 s w):∀ (n:Nat) (x y:Spot) (v:Value),SpO F.W P x→SpO F.W P y→DenW F s w x v→DenW F s w y v→cano F.W n x=cano F.W n y
 | 0,_,_,_,_,_,_,_=>rfl
 | n+1,x,y,v,hx,hy,dx,dy=>by
  obtain⟨u,hu⟩:=A.plainv dx hx;obtain⟨u',hu'⟩:=A.plainv dy hy;have e:=hu.plain.unique hu'.plain;subst e;rw[← qja F.W A.wd.by_ hx.numOk,← qja F.W A.wd.by_ hy.numOk]
  generalize pl F.W x=p at hu
  generalize pl F.W y=q at hu'
  clear dx dy hx hy;have sp:=hu.self;have sq:=hu'.self;obtain⟨b,e1,-⟩:=hu.ty A;obtain⟨b',e2,-⟩:=hu'.ty A;rw[e1] at e2;have hkk:p.of.kind=q.of.kind:=qki hu.spo.kinds hu'.spo.kinds (by injection e2);rcases hu.spo.kinds with hk|hk|hk|hk|hk|hk
  ·rw[qnc sp hk,qnc sq (by omega)];obtain⟨b1,i1,s1,f1,r1⟩:=Den.basic hu.den hk;obtain⟨b2,i2,s2,f2,r2⟩:=Den.basic hu'.den (by omega);rw[f1] at f2;cases f2;have c1:=r1 0 _ rfl;have c2:=r2 0 _ rfl;rw[c1] at c2;have hb:basK p.of.num=basK q.of.num:=by injection c2 with c2;injection c2
   rw[qql (hu.spo.num02 hk) (hu'.spo.num02 (by omega)) hb]
  ·rw[qm2 sp hk,qm2 sq (by omega)];have t1:=Den.named hu.den hk;have t2:=Den.named hu'.den (by omega);have:=A.bt.inj _ _ _ t1 t2;have h1:=hu.spo.numOk hk;have h2:=hu'.spo.numOk (by omega);rw[show p.of.num=q.of.num by omega]
  ·rw[qew sp (.inl hk),qew sq (.inl (by omega)),hkk];obtain⟨b1,z1,f1,r1,d1⟩:=Den.ptr hu.den hk;obtain⟨b2,z2,f2,r2,d2⟩:=Den.ptr hu'.den (by omega);rw[f1] at f2;cases f2;rw[r1] at r2;cases r2;rw[qib A n _ _ _ (hu.spo.elem (.inl hk)).1 (hu'.spo.elem (.inl (by omega))).1 d1 d2]
  ·rw[qew sp (.inr hk),qew sq (.inr (by omega)),hkk];obtain⟨b1,z1,f1,r1,d1⟩:=Den.slice hu.den hk;obtain⟨b2,z2,f2,r2,d2⟩:=Den.slice hu'.den (by omega);rw[f1] at f2;cases f2;rw[r1] at r2;cases r2;rw[qib A n _ _ _ (hu.spo.elem (.inr hk)).1 (hu'.spo.elem (.inr (by omega))).1 d1 d2]
  ·obtain⟨b1,a1,c1,f1,r1,-,-,m1⟩:=hu.fields A hk;obtain⟨b2,a2,c2,f2,r2,-,-,m2⟩:=hu'.fields A (by omega);rw[f1] at f2;cases f2;rw[r1] at r2;have hlen:p.of.fields.length=q.of.fields.length:=by injection r2 with r2;injection r2
   have ha:a1=a2:=by injection r2 with r2;injection r2
   subst ha;rw[qqo sp hk sq (by omega)];refine⟨hlen,fun i hi => ?_⟩;obtain⟨g1,o1,x1,z1,q1,y1,d1,-⟩:=m1 i hi;obtain⟨g2,o2,x2,z2,q2,y2,d2,-⟩:=m2 i (by omega);rw[q1] at q2;cases q2;have k1:=y1.row;rw[y2.row] at k1;cases k1;have k2:=y1.pk;rw[y2.pk] at k2;have k3:=y1.nm;rw[y2.nm] at k3;have k4:=y1.ty;rw[y2.ty] at k4;have k5:=y1.em;rw[y2.em] at k5;have e5:(q.of.fields.getD i fd0).embedded=(p.of.fields.getD i fd0).embedded:=by injection k5 with k5;injection k5
   have e3:qas (fname F.W (q.of.fields.getD i fd0))=qas (fname F.W (p.of.fields.getD i fd0)):=by injection k3 with k3;injection k3
   have e3':=qs0 y2.is y1.is e3;have e2':q.pkg=p.pkg:=pk_ne A.bt.ok hu'.spo.pp hu.spo.pp (by injection k2 with k2;injection k2 with k2;injection k2 with k2;injection k2);have e4:z2=z1:=by injection k4
   subst e4;refine⟨?_,qib A n _ _ _ (hu.spo.field hk hi).1 (hu'.spo.field (by omega) (by omega)).1 d1 d2⟩;rw[qjq];refine⟨e5.symm,?_⟩;rw[e3',e2',qkd]
  ·obtain⟨b1,a1,c1,a1',c1',f1,m1,-⟩:=Den.iface hu.den hk;obtain⟨b2,a2,c2,a2',c2',f2,m2,-⟩:=Den.iface hu'.den (by omega);rw[f1] at f2;cases f2;rw[qjz A.bt.ok.nd _ _ _ m1 m2]
