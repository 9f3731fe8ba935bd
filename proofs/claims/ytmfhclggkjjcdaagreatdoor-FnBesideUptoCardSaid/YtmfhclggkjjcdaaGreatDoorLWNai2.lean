import Derived.Test.YtmfhclggkjjcdaaGreatDoorLWNai
set_option linter.all false
namespace Go.Proofs.YtmfhclggkjjcdaaGreatDoor
open Go Go.RowKit
variable {W:Wd} {P:Nat→Nat} {q m:Int} {l:List En}
theorem can_pl (hW:WdO W P) {s:Spot} (hs:SpO W P s):can W (pl W s)=can W s:=qja W hW.by_ hs.numOk 2002
theorem twin_str (hW:WdO W P) {s t:Spot} (hs:Pn W P s) (ht:Pn W P t) (e:can W s=can W t) (hk:s.of.kind=4):
  s.of.fields.length=t.of.fields.length∧∀ i,i<s.of.fields.length→qjg W s i=qjg W t i∧can W (qao s i)=can W (qao t i):=by
 have hk':t.of.kind=4:=(hs.kind ht e).symm.trans hk;obtain⟨h1,h2⟩:=(qqo (n:=2001) hs.pl hk ht.pl hk').1 e;refine⟨h1,fun i hi=>⟨(h2 i hi).1,?_⟩⟩;obtain⟨a1,a2⟩:=hs.sp.field hk hi;obtain⟨b1,b2⟩:=ht.sp.field hk' (h1 ▸ hi);have:=hs.sp.sz;have:=ht.sp.sz;rw[(can_eq hW a1 (by omega)).1,(can_eq hW b1 (by omega)).1];exact(h2 i hi).2
theorem ownL_lit {s:Spot} (hk:s.of.kind≠1):ownL W q m s=ownT W q m s:=by
 unfold ownL;rw[if_neg hk]
theorem sameIdM_congr {p n p' n' q m:Int} (h:cid p n=cid p' n'):qbp p n q m=qbp p' n' q m:=by
 cases h1:qbp p n q m with
 | true=>exact((qkd p' n' q m).2 (h ▸ (qkd p n q m).1 h1)).symm
 | false=>
  cases h2:qbp p' n' q m with
  | false=>rfl
  | true=>rw[(qkd p n q m).2 (h.trans ((qkd p' n' q m).1 h2))] at h1;cases h1
theorem twin_own (hW:WdO W P) {s t:Spot} (hs:Pn W P s) (ht:Pn W P t) (e:can W s=can W t) {q m:Int} (h:ownL W q m s=[]):ownL W q m t=[]:=by
 by_cases hk1:s.of.kind=1
 ·rw[← hs.one ht e hk1];exact h
 ·have hkt:=hs.kind ht e;rw[ownL_lit hk1] at h;rw[ownL_lit (by omega)];unfold ownT at h ⊢;rw[hs.under hk1] at h;rw[ht.under (by omega)];by_cases k4:s.of.kind=4
  ·rw[if_pos k4] at h;rw[if_pos (by omega)];obtain⟨h1,h2⟩:=twin_str hW hs ht e k4;rw[List.eq_nil_iff_forall_not_mem] at h ⊢;intro o ho;obtain⟨j,-,j2,j3,-⟩:=ownF_mem.1 ho;have hj:j<s.of.fields.length:=by omega
   have h3:=(h2 j hj).1;unfold qjg at h3;simp only[List.cons.injEq,and_true] at h3;refine h (j,qe0 s j,false,false) (ownF_mem.2 ⟨j,Nat.zero_le _,by omega,?_,rfl⟩);rw[sameIdM_congr h3.2];exact j3
  ·rw[if_neg k4] at h;rw[if_neg (by omega)];by_cases k5:s.of.kind=5
   ·rw[if_pos k5] at h;rw[if_pos (by omega)];have e1:=e;unfold can at e1;rw[qs4 hs.pl k5,qs4 ht.pl (by omega)] at e1;simp only[CT.leaf.injEq,List.cons.injEq,true_and] at e1;have key:∀ l:List Mn,qhz (qih l) q m=(l.map fun x=>cid x.p x.n).findIdx? fun y=>decide (y=cid q m):=fun l=>by
     unfold qhz qih;rw[List.findIdx?_map,List.findIdx?_map];congr 1;funext x;simp only[Function.comp_apply];have:=qkd x.p x.n q m;cases h:qbp x.p x.n q m with
     | true=>rw[decide_eq_true (this.1 h)]
     | false=>rw[decide_eq_false (fun e=>by rw[this.2 e] at h;cases h)]
    rw[key,e1,← key] at h;cases hi:qhz (qih (msL W t)) q m with
    | none=>rfl
    | some i=>rw[hi] at h;cases h
   ·rw[if_neg (by omega)]
theorem elem_can (hW:WdO W P) {x y:Spot} (hx:SpO W P x) (hy:SpO W P y) (ox:op P x.of≤2000) (oy:op P y.of≤2000) (e:can W x=can W y) (hk:(plain W x).of.kind=2):
  (plain W y).of.kind=2∧can W (qaq (plain W x))=can W (qaq (plain W y)):=by
 have hp:=Pn.mk_pl hW hx;have hq:=Pn.mk_pl hW hy;have e1:can W (pl W x)=can W (pl W y):=by rw[can_pl hW hx,can_pl hW hy];exact e
 have kx:(pl W x).of.kind=2:=(qfn _).trans hk;have ky:(pl W y).of.kind=2:=(hp.kind hq e1).symm.trans kx;have ky':(plain W y).of.kind=2:=(qfn _).symm.trans ky;refine⟨ky',?_⟩;have ex:pl W x=plain W x:=qgb (by omega);have ey:pl W y=plain W y:=qgb (by omega);unfold can at e1;rw[qew hp.pl (.inl kx),qew hq.pl (.inl ky),kx,ky] at e1;simp only[CT.node.injEq,true_and,and_true] at e1;obtain⟨a1,a2⟩:=hp.sp.elem (.inl kx);obtain⟨b1,b2⟩:=hq.sp.elem (.inl ky);rw[← ex,← ey,(can_eq hW a1 (by have:=hp.sp.sz;omega)).1,(can_eq hW b1 (by have:=hq.sp.sz;omega)).1];exact e1
theorem twin_emb (hW:WdO W P) {s t:Spot} (hs:Pn W P s) (ht:Pn W P t) (e:can W s=can W t) {i:Nat} (h:Embd W s i):Embd W t i∧can W (subT W s i)=can W (subT W t i)∧subP W s i=subP W t i:=by
 by_cases hk1:s.of.kind=1
 ·rw[← hs.one ht e hk1];exact⟨h,rfl,rfl⟩
 ·have hkt:=hs.kind ht e;obtain⟨h1,h2,h3⟩:=h;rw[hs.under hk1] at h1 h2 h3;have hut:=ht.under (by omega);have hus:=hs.under hk1;obtain⟨l1,l2⟩:=twin_str hW hs ht e h1;obtain⟨f1,f2⟩:=l2 i h2;refine⟨⟨by rw[hut];omega,by rw[hut];omega,by rw[hut,← (qjq.1 f1).1];exact h3⟩,?_⟩;obtain⟨a1,a2⟩:=hs.sp.field h1 h2;have hi':i<t.of.fields.length:=by omega
  obtain⟨b1,b2⟩:=ht.sp.field (by omega:t.of.kind=4) hi';have ox:op P (qao s i).of≤2000:=by have:=hs.sp.sz;omega
  have oy:op P (qao t i).of≤2000:=by have:=ht.sp.sz;omega
  unfold subT subP;rw[hus,hut];unfold drf;by_cases hk:(plain W (qao s i)).of.kind=2
  ·obtain⟨c1,c2⟩:=elem_can hW a1 b1 ox oy f2 hk;rw[if_pos hk,if_pos c1];refine⟨?_,rfl⟩;show can W (pl W (qaq (plain W (qao s i))))=can W (pl W (qaq (plain W (qao t i))));rw[can_pl hW ((a1.toPlain hW).1.elem (.inl hk)).1,can_pl hW ((b1.toPlain hW).1.elem (.inl c1)).1];exact c2
  ·have hk':(plain W (qao t i)).of.kind≠2:=fun h=>hk (elem_can hW b1 a1 oy ox f2.symm h).1;rw[if_neg hk,if_neg hk'];refine⟨?_,rfl⟩;show can W (pl W (qao s i))=can W (pl W (qao t i));rw[can_pl hW a1,can_pl hW b1];exact f2
theorem conS_has {acc:List En} {e x:En} (h:x∈acc):∃ y∈conS W acc e,y.to=x.to∧y.ix=x.ix∧(x.mul=true→y.mul=true):=by
 unfold conS;split
 next i _=>
  obtain⟨j,hj,rfl⟩:=List.mem_iff_getElem.1 h;refine⟨(acc.modify i fun a=>{ a with mul:=true })[j]'(by simpa using hj),z8 _,?_⟩;rw[List.getElem_modify];split <;> exact⟨rfl,rfl,fun h=>by first|rfl|exact h⟩
 ·exact⟨x,z7 _ h,rfl,rfl,id⟩
theorem conS_new {acc:List En} {e:En}:∃ y∈conS W acc e,can W y.to=can W e.to∧(y.ix=e.ix∨y.mul=true)∧(e.mul=true→y.mul=true):=by
 unfold conS;split
 next i hi=>
  obtain⟨h1,h2,-⟩:=List.findIdx?_eq_some_iff_getElem.1 hi;refine⟨(acc.modify i fun a=>{ a with mul:=true })[i]'(by simpa using h1),z8 _,?_⟩;rw[List.getElem_modify,if_pos rfl];exact⟨by simpa using h2,.inr rfl,fun _=>rfl⟩
 ·exact⟨e,by simp,rfl,.inl rfl,id⟩
theorem consM_has {x:En} (hx:x∈l):∃ y∈qbc W l,can W y.to=can W x.to∧(y.ix=x.ix∨y.mul=true)∧(x.mul=true→y.mul=true):=by
 have up:∀ (l acc:List En) (y:En),y∈acc→∃ z∈l.foldl (conS W) acc,z.to=y.to∧z.ix=y.ix∧(y.mul=true→z.mul=true):=by
  intro l
  induction l with
  | nil=>intro acc y h;exact⟨y,h,rfl,rfl,id⟩
  | cons e r ih=>
   intro acc y h;obtain⟨z,z1,z2,z3,z4⟩:=conS_has (W:=W) (e:=e) h;obtain⟨u,u1,u2,u3,u4⟩:=ih _ z z1;exact⟨u,u1,u2.trans z2,u3.trans z3,fun h=>u4 (z4 h)⟩
 have key:∀ (l acc:List En),x∈l→∃ y∈l.foldl (conS W) acc,can W y.to=can W x.to∧(y.ix=x.ix∨y.mul=true)∧(x.mul=true→y.mul=true):=by
  intro l
  induction l with
  | nil=>intro acc h;cases h
  | cons e r ih=>
   intro acc h;rcases zgb.1 h with rfl|h
   ·obtain⟨y,y1,y2,y3,y4⟩:=conS_new (W:=W) (acc:=acc) (e:=x);obtain⟨z,z1,z2,z3,z4⟩:=up r _ y y1;refine⟨z,z1,by rw[z2];exact y2,?_,fun h=>z4 (y4 h)⟩;rcases y3 with y3|y3
    ·exact .inl (z3.trans y3)
    ·exact .inr (z4 y3)
   ·exact ih _ h
 exact key l [] hx
theorem consM_mul (hp:l.Pairwise fun a b=>a.ix≠b.ix) {y:En} (hy:y∈qbc W l):∃ x∈l,x.to=y.to∧x.ix=y.ix∧x.ind=y.ind∧(y.mul=true→x.mul=true∨∃ z∈l,z.ix≠x.ix∧can W z.to=can W x.to):=by
 have key:∀ (l pre acc:List En),(pre++l).Pairwise (fun a b=>a.ix≠b.ix)→(∀ y∈acc,∃ x∈pre,x.to=y.to∧x.ix=y.ix∧x.ind=y.ind∧(y.mul=true→x.mul=true∨∃ z∈pre,z.ix≠x.ix∧can W z.to=can W x.to))→
   ∀ y∈l.foldl (conS W) acc,∃ x∈pre++l,x.to=y.to∧x.ix=y.ix∧x.ind=y.ind∧(y.mul=true→x.mul=true∨∃ z∈pre++l,z.ix≠x.ix∧can W z.to=can W x.to):=by
  intro l
  induction l with
  | nil=>intro pre acc _ h;simpa using h
  | cons e r ih=>
   intro pre acc hp h;have e1:pre++e::r=(pre++[e])++r:=by simp
   rw[e1] at hp ⊢;refine ih (pre++[e]) _ hp fun y hy => ?_;have hpe:∀ x∈pre,x.ix≠e.ix:=fun x hx=>(List.pairwise_append.1 (List.pairwise_append.1 hp).1).2.2 x hx e (by simp);have old:∀ y∈acc,∃ x∈pre++[e],x.to=y.to∧x.ix=y.ix∧x.ind=y.ind∧(y.mul=true→x.mul=true∨∃ z∈pre++[e],z.ix≠x.ix∧can W z.to=can W x.to):=fun y hy=>by
    obtain⟨x,x1,x2,x3,x4,x5⟩:=h y hy;refine⟨x,z7 _ x1,x2,x3,x4,fun hm => ?_⟩;rcases x5 hm with h1|⟨z,z1,z2⟩
    ·exact .inl h1
    ·exact .inr ⟨z,z7 _ z1,z2⟩
   unfold conS at hy;split at hy
   next i hi=>
    obtain⟨h1,h2,-⟩:=List.findIdx?_eq_some_iff_getElem.1 hi;obtain⟨j,hj,rfl⟩:=List.mem_iff_getElem.1 hy;rw[List.getElem_modify];have hj':j<acc.length:=by simpa using hj
    split
    next hij=>
     subst hij;obtain⟨x,x1,x2,x3,x4,-⟩:=h acc[i] (z8 _);refine⟨x,z7 _ x1,x2,x3,x4,fun _ => .inr ⟨e,by simp,(hpe x x1).symm,?_⟩⟩;rw[x2];exact(show can W acc[i].to=can W e.to by simpa using h2).symm
    ·exact old _ (z8 hj')
   ·rcases zib.1 hy with hy|hy
    ·exact old y hy
    ·rw[zfb.1 hy];exact⟨e,by simp,rfl,rfl,rfl,.inl⟩
 obtain⟨x,h⟩:=key l [] [] (by simpa using hp) (fun y h=>by cases h) y hy;simp only[List.nil_append] at h;exact⟨x,h⟩
def Old (W:Wd) (s0:Spot) (i0:Bool) (k:Nat) (s:Spot):Prop:=∃ j t iy ind,j<k∧Wy W s0 i0 j t iy ind∧can W t=can W s
structure Lv (W:Wd) (s0:Spot) (i0:Bool) (q m:Int) (k:Nat) (cur:List En) (S:List Nat):Prop where
 wy:∀ e∈cur,Wy W s0 i0 k e.to e.ix e.ind
 ne:cur.Pairwise fun a b=>can W a.to≠can W b.to
 all:∀ {s ix ind},Wy W s0 i0 k s ix ind→(∃ e∈cur,can W e.to=can W s∧(ix≠e.ix→e.mul=true))∨Old W s0 i0 k s
 mul:∀ e∈cur,e.mul=true→∃ s ix ind,Wy W s0 i0 k s ix ind∧ix≠e.ix∧can W s=can W e.to
 seen:∀ d∈S,∃ j iy ind,j<k∧Wy W s0 i0 j (ndS d) iy ind
 no:∀ {j s ix ind},j<k→Wy W s0 i0 j s ix ind→ownL W q m s=[]
theorem Old.own (hW:WdO W P) {s0:Spot} {i0:Bool} (h0:Pn W P s0) {q m:Int} {k:Nat} {s:Spot} (hs:Pn W P s) (h:Old W s0 i0 k s) (hn:∀ {j s ix ind},j<k→Wy W s0 i0 j s ix ind→ownL W q m s=[]):ownL W q m s=[]:=by
 obtain⟨j,t,iy,ind,h1,h2,h3⟩:=h;exact twin_own hW (h2.pn hW h0) hs h3 (hn h1 h2)
theorem Old.sub (hW:WdO W P) {s0:Spot} {i0:Bool} (h0:Pn W P s0) {k:Nat} {s:Spot} (hs:Pn W P s) (h:Old W s0 i0 k s) {i:Nat} (he:Embd W s i):Old W s0 i0 (k+1) (subT W s i):=by
 obtain⟨j,t,iy,ind,h1,h2,h3⟩:=h;obtain⟨e1,e2,-⟩:=twin_emb hW hs (h2.pn hW h0) h3.symm he;exact⟨j+1,_,_,_,by omega,h2.step e1,e2.symm⟩
theorem Lv.nums (hW:WdO W P) {s0:Spot} {i0:Bool} (h0:Pn W P s0) {q m:Int} {k:Nat} {cur:List En} {S:List Nat} (h:Lv W s0 i0 q m k cur S):cur.Pairwise fun a b=>a.to.of.kind=1→b.to.of.kind=1→a.to.of.num.toNat≠b.to.of.num.toNat:=by
 refine List.Pairwise.imp_of_mem (fun {a b} ha hb hab k1 k2 e=>hab ?_) h.ne;rw[((h.wy a ha).pn hW h0).nd k1,((h.wy b hb).pn hW h0).nd k2,e]
theorem Lv.frs (hW:WdO W P) {s0:Spot} {i0:Bool} (h0:Pn W P s0) {q m:Int} {k:Nat} {cur:List En} {S:List Nat} (h:Lv W s0 i0 q m k cur S) {e:En} (he:e∈cur):e∈Go.Proofs.YtmfhclggkjjcdaaGreatDoor.frs cur S∨Old W s0 i0 k e.to:=by
 rcases frs_in (S:=S) (h.nums hW h0) he with h1|⟨h1,h2⟩
 ·exact .inl h1
 ·obtain⟨j,iy,ind,j1,j2⟩:=h.seen _ h2;refine .inr ⟨j,_,iy,ind,j1,j2,?_⟩;rw[← ((h.wy e he).pn hW h0).nd h1]
theorem Lv.ixne {s0:Spot} {i0:Bool} {k:Nat} {cur:List En} {S:List Nat} (h:Lv W s0 i0 q m k cur S):cur.Pairwise fun a b=>a.ix≠b.ix:=by
 refine List.Pairwise.imp_of_mem (fun {a b} ha hb hab e=>hab ?_) h.ne;have h1:=h.wy a ha;rw[e] at h1;rw[(h1.uniq (h.wy b hb)).1]
theorem subsL_all (hl:∀ a∈l,∀ b∈l,a.ix.length=b.ix.length) (hp:l.Pairwise fun a b=>a.ix≠b.ix):(l.flatMap (subsL W)).Pairwise fun a b=>a.ix≠b.ix:=by
 induction l with
 | nil=>exact List.Pairwise.nil
 | cons e r ih=>
  obtain⟨h1,h2⟩:=List.pairwise_cons.1 hp;rw[List.flatMap_cons,List.pairwise_append];refine⟨subsL_pw W e,ih (fun a ha b hb=>hl a (.tail _ ha) b (.tail _ hb)) h2,fun a ha b hb e1 => ?_⟩;obtain⟨i,-,rfl⟩:=subsL_mem.1 ha;obtain⟨c,hc,hb⟩:=List.mem_flatMap.1 hb;obtain⟨j,-,rfl⟩:=subsL_mem.1 hb;simp only at e1;exact h1 c hc (List.append_inj' e1 rfl).1
theorem Lv.step (hW:WdO W P) {s0:Spot} {i0:Bool} (h0:Pn W P s0) {q m:Int} {k:Nat} {cur:List En} {S:List Nat} (h:Lv W s0 i0 q m k cur S) (hno:∀ e∈cur,ownL W q m e.to=[]):Lv W s0 i0 q m (k+1) (qbc W ((Go.Proofs.YtmfhclggkjjcdaaGreatDoor.frs cur S).flatMap (subsL W))) (seenL cur S):=by
 have sub:∀ {e},e∈Go.Proofs.YtmfhclggkjjcdaaGreatDoor.frs cur S→e∈cur:=fun he=>(frs_sub cur S).subset he;have pw:((Go.Proofs.YtmfhclggkjjcdaaGreatDoor.frs cur S).flatMap (subsL W)).Pairwise fun a b=>a.ix≠b.ix:=
  subsL_all (fun a ha b hb=>by rw[(h.wy a (sub ha)).len,(h.wy b (sub hb)).len]) (h.ixne.sublist (frs_sub cur S))
 have wys:∀ x∈(Go.Proofs.YtmfhclggkjjcdaaGreatDoor.frs cur S).flatMap (subsL W),Wy W s0 i0 (k+1) x.to x.ix x.ind:=fun x hx=>by
  obtain⟨e,he,hx⟩:=List.mem_flatMap.1 hx;obtain⟨i,hE,rfl⟩:=subsL_mem.1 hx;exact(h.wy e (sub he)).step hE
 have pn:∀ {k s ix ind},Wy W s0 i0 k s ix ind→Pn W P s:=fun hw=>hw.pn hW h0;refine⟨fun y hy => ?_,qwt _,fun {s ix ind} hw => ?_,fun y hy hm => ?_,fun d hd => ?_,fun {j s ix ind} hj hw => ?_⟩
 ·obtain⟨x,x1,x2,x3,x4,-⟩:=consM_mul pw hy;rw[← x2,← x3,← x4];exact wys x x1
 ·cases hw with
  | @step _ s ix ind i hw hE=>
   rcases h.all hw with ⟨e,e1,e2,e3⟩|ho
   ·rcases h.frs hW h0 e1 with e4|⟨j,t,iy,ind',j1,j2,j3⟩
    ·obtain⟨t1,t2,-⟩:=twin_emb hW (pn hw) (pn (h.wy e e1)) e2.symm hE;obtain⟨y,y1,y2,y3,y4⟩:=consM_has (W:=W) (List.mem_flatMap.2 ⟨e,e4,subsL_mem.2 ⟨i,t1,rfl⟩⟩);refine .inl ⟨y,y1,y2.trans t2.symm,fun hne => ?_⟩;rcases y3 with y3|y3
     ·refine y4 (e3 fun e5=>hne ?_);rw[y3,e5]
     ·exact y3
    ·exact .inr (Old.sub hW h0 (pn hw) ⟨j,t,iy,ind',j1,j2,j3.trans e2⟩ hE)
   ·exact .inr (ho.sub hW h0 (pn hw) hE)
 ·obtain⟨x,x1,x2,x3,x4,x5⟩:=consM_mul pw hy;rcases x5 hm with x5|⟨z,z1,z2,z3⟩
  ·obtain⟨e,he,hx⟩:=List.mem_flatMap.1 x1;obtain⟨i,hE,rfl⟩:=subsL_mem.1 hx;obtain⟨s,ix,ind,w1,w2,w3⟩:=h.mul e (sub he) x5;obtain⟨t1,t2,-⟩:=twin_emb hW (pn (h.wy e (sub he))) (pn w1) w3.symm hE;refine⟨_,_,_,w1.step t1,fun e5=>w2 ?_,?_⟩
   ·rw[← x3] at e5;exact(List.append_inj' e5 rfl).1
   ·rw[← x2];exact t2.symm
  ·exact⟨z.to,z.ix,z.ind,wys z z1,by rw[← x3];exact z2,by rw[← x2];exact z3⟩
 ·rcases seenL_in hd with hd|⟨e,e1,e2,e3⟩
  ·obtain⟨j,iy,ind,j1,j2⟩:=h.seen d hd;exact⟨j,iy,ind,by omega,j2⟩
  ·have h1:=h.wy e e1;rw[(pn h1).nd e2,e3] at h1;exact⟨k,_,_,by omega,h1⟩
 ·rcases Nat.lt_succ_iff_lt_or_eq.1 hj with hj|rfl
  ·exact h.no hj hw
  ·rcases h.all hw with ⟨e,e1,e2,-⟩|ho
   ·exact twin_own hW (pn (h.wy e e1)) (pn hw) e2 (hno e e1)
   ·exact ho.own hW h0 (pn hw) h.no
theorem Lv.last (hW:WdO W P) {s0:Spot} {i0:Bool} (h0:Pn W P s0) {q m:Int} {k:Nat} {S:List Nat} (h:Lv W s0 i0 q m k [] S):∀ {j s ix ind},Wy W s0 i0 j s ix ind→ownL W q m s=[]:=by
 have key:∀ (r:Nat) {s ix ind},Wy W s0 i0 (k+r) s ix ind→Old W s0 i0 k s:=by
  intro r
  induction r with
  | zero=>
   intro s ix ind hw;rcases h.all hw with ⟨e,he,-⟩|ho
   ·cases he
   ·exact ho
  | succ r ih=>
   intro s ix ind hw;cases hw with
   | @step _ s ix ind i hw hE=>
    obtain⟨j,t,iy,ind',j1,j2,j3⟩:=(ih hw);obtain⟨t1,t2,-⟩:=twin_emb hW (hw.pn hW h0) (j2.pn hW h0) j3.symm hE;by_cases hj:j+1<k
    ·exact⟨j+1,_,_,_,hj,j2.step t1,t2.symm⟩
    ·have hjk:j+1=k:=by omega
     have h2:=j2.step t1;rw[hjk] at h2;rcases h.all h2 with ⟨e,he,-⟩|⟨j',t',iy',ind2,a1,a2,a3⟩
     ·cases he
     ·exact⟨j',t',iy',ind2,a1,a2,a3.trans t2.symm⟩
 intro j s ix ind hw;by_cases hj:j<k
 ·exact h.no hj hw
 ·obtain⟨r,rfl⟩:∃ r,j=k+r:=⟨j - k,by omega⟩;exact(key r hw).own hW h0 (hw.pn hW h0) h.no
abbrev Ow:=Nat×Nat×Bool×Bool
def resH (addr:Bool) (ix:List Nat) (ind:Bool) (o:Ow):Rs:=if(o.2.2.1&&o.2.2.2&&!ind&&!addr)=true then⟨none,[],true⟩ else⟨some (o.2.1,o.2.2.1),ix++[o.1],ind⟩
def Out (W:Wd) (s0:Spot) (i0:Bool) (addr:Bool) (q m:Int) (r:Rs):Prop:=
 ((∀ {j s ix ind},Wy W s0 i0 j s ix ind→ownL W q m s=[])∧r=⟨none,[],false⟩)∨
 ∃ k s ix ind o,(∀ {j s ix ind},j<k→Wy W s0 i0 j s ix ind→ownL W q m s=[])∧Wy W s0 i0 k s ix ind∧o∈ownL W q m s∧
  (((∀ {s' ix' ind' o'},Wy W s0 i0 k s' ix' ind'→o'∈ownL W q m s'→ix'=ix∧o'=o)∧r=resH addr ix ind o)∨
    ((∃ s' ix' ind' o',Wy W s0 i0 k s' ix' ind'∧o'∈ownL W q m s'∧(ix'≠ix∨o'≠o))∧r=⟨none,ix++[o.1],false⟩))
theorem foldH_some:∀ (l:List Ho) (h:Hi),foldH l (some h)=match l with
  | [] => .ok (some h)
  | (e,i,_)::_ => .error (e.ix++[i])
 | [],h=>rfl
 | (e,i,k,mt,p)::r,h=>by
  simp only[foldH];rw[qe7 (.inl rfl)]
theorem lvs_naive (hW:WdO W P) {s0:Spot} {i0:Bool} (h0:Pn W P s0) {addr:Bool} {q m:Int} (n:Nat):∀ (k:Nat) (cur:List En) (S:List Nat),Lv W s0 i0 q m k cur S→(∀ e∈cur,EnT W P e∧e.ix.length≤k)→NdS W S→qsg W P cur S<n→Out W s0 i0 addr q m (lvs W addr q m n cur S):=by
 induction n with
 | zero=>exact fun _ _ _ _ _ _ h=>absurd h (Nat.not_lt_zero _)
 | succ n ih=>
  intro k cur S hL hc hS hm;by_cases hcur:cur=[]
  ·subst hcur;rw[lvs_nil];exact .inl ⟨fun hw=>hL.last hW h0 hw,rfl⟩
  ·by_cases hno:∀ e∈cur,ownL W q m e.to=[]
   ·have he:=ents_none (S:=S) (nx:=[]) hno;rw[List.nil_append] at he;rw[qwo hcur he];have hx:=ents_nx hW cur (fun e h=>⟨h,(hc e h).1,(hc e h).2⟩) none none [] _ S _ ⟨NxOk.start hS,fun e he=>by cases he⟩ he;have hp:0<mxE P cur:=by
     cases cur with
     | nil=>exact absurd rfl hcur
     | cons e r=>have:=qqe P hW.pos e.to.of;simp only[mxE];omega
    have:=hx.ok.meas hp;refine ih (k+1) _ _ (hL.step hW h0 hno) (fun e he => ?_) hx.ok.nds (by omega);obtain⟨y,hy,e1,e2⟩:=qot he;have h1:=hx.ty y hy;have h2:=hx.ok.ix y hy;unfold EnT at h1 ⊢;rw[← e1,← e2];exact⟨h1,h2⟩
   ·have pn:∀ {k s ix ind},Wy W s0 i0 k s ix ind→Pn W P s:=fun hw=>hw.pn hW h0;have sub:∀ {e},e∈Go.Proofs.YtmfhclggkjjcdaaGreatDoor.frs cur S→e∈cur:=fun he=>(frs_sub cur S).subset he;have hit:∀ {s ix ind o},Wy W s0 i0 k s ix ind→o∈ownL W q m s→∃ e∈Go.Proofs.YtmfhclggkjjcdaaGreatDoor.frs cur S,can W e.to=can W s∧(ix≠e.ix→e.mul=true)∧ownL W q m e.to≠[]:=fun {s ix ind o} hw ho=>by
     have hne:ownL W q m s≠[]:=fun e=>by rw[e] at ho;cases ho
     rcases hL.all hw with ⟨e,e1,e2,e3⟩|hold
     ·have hne2:ownL W q m e.to≠[]:=fun e5=>hne (twin_own hW (pn (hL.wy e e1)) (pn hw) e2 e5);rcases hL.frs hW h0 e1 with e4|hold
      ·exact⟨e,e4,e2,e3,hne2⟩
      ·exact absurd (hold.own hW h0 (pn (hL.wy e e1)) hL.no) hne2
     ·exact absurd (hold.own hW h0 (pn hw) hL.no) hne
    have hmem:∀ {e o},(e,o)∈hitsL W q m (Go.Proofs.YtmfhclggkjjcdaaGreatDoor.frs cur S)↔e∈Go.Proofs.YtmfhclggkjjcdaaGreatDoor.frs cur S∧o∈ownL W q m e.to:=fun {e o}=>by
     unfold hitsL;rw[List.mem_flatMap];constructor
     ·rintro⟨a,a1,a2⟩;obtain⟨b,b1,b2⟩:=zkb.1 a2;cases b2;exact⟨a1,b1⟩
     ·rintro⟨a1,a2⟩;exact⟨e,a1,zkb.2 ⟨o,a2,rfl⟩⟩
    have hpw:(hitsL W q m (Go.Proofs.YtmfhclggkjjcdaaGreatDoor.frs cur S)).Pairwise fun a b=>a.1.ix≠b.1.ix∨a.2≠b.2:=by
     have h1:=hL.ixne.sublist (frs_sub cur S)
     generalize Go.Proofs.YtmfhclggkjjcdaaGreatDoor.frs cur S=l at h1
     unfold hitsL
     induction l with
     | nil=>exact List.Pairwise.nil
     | cons e r ih2=>
      obtain⟨a1,a2⟩:=List.pairwise_cons.1 h1;rw[List.flatMap_cons,List.pairwise_append];refine⟨?_,ih2 a2,fun x hx y hy => ?_⟩
      ·rw[List.pairwise_map];exact(ownL_pw W q m e.to).imp fun h => .inr fun e=>h (congrArg Prod.fst e)
      ·obtain⟨o,-,rfl⟩:=zkb.1 hx;obtain⟨c,hc,hy⟩:=List.mem_flatMap.1 hy;obtain⟨o',-,rfl⟩:=zkb.1 hy;exact .inl (a1 c hc)
    have hf:=ents_fold W q m cur S none [];have hne:hitsL W q m (Go.Proofs.YtmfhclggkjjcdaaGreatDoor.frs cur S)≠[]:=fun e=>hno fun x hx=>by
     rcases hL.frs hW h0 hx with h1|h1
     ·rw[List.eq_nil_iff_forall_not_mem];intro o ho;have:=hmem.2 ⟨h1,ho⟩;rw[e] at this;cases this
     ·exact h1.own hW h0 (pn (hL.wy x hx)) hL.no
    generalize hl:hitsL W q m (Go.Proofs.YtmfhclggkjjcdaaGreatDoor.frs cur S)=l at hf hne hmem hpw
    cases l with
    | nil=>exact absurd rfl hne
    | cons x r=>
     obtain⟨e,o⟩:=x;obtain⟨e1,e2⟩:=hmem.1 (z6 ..);have ew:=hL.wy e (sub e1);obtain⟨i,kk,mt,p⟩:=o;cases hmu:e.mul with
     | true=>
      simp only[foldH] at hf;rw[qe7 (.inr hmu)] at hf;have he:ents W q m cur (none,[]) S = .error (e.ix++[i]):=by
       cases hx:ents W q m cur (none,[]) S with
       | ok y=>rw[hx] at hf;cases hf
       | error y=>rw[hx] at hf;cases hf;rfl
      rw[lvs_err hcur he];obtain⟨s',ix',ind',w1,w2,w3⟩:=hL.mul e (sub e1) hmu;have hne2:ownL W q m s'≠[]:=fun e5=>by
       rw[twin_own hW (pn w1) (pn ew) w3 e5] at e2;cases e2
      obtain⟨o',ho'⟩:=List.exists_mem_of_ne_nil _ hne2;exact .inr ⟨k,e.to,e.ix,e.ind,_,hL.no,ew,e2,.inr ⟨⟨s',ix',ind',o',w1,ho',.inl w2⟩,rfl⟩⟩
     | false=>
      simp only[foldH] at hf;rw[qmx hmu] at hf;simp only at hf;rw[foldH_some] at hf;cases r with
      | nil=>
       simp only at hf;obtain⟨nx,S',he⟩:∃ nx S',ents W q m cur (none,[]) S = .ok ((some ⟨kk,mt,p,e.ix++[i],e.ind⟩,nx),S'):=by
        cases hx:ents W q m cur (none,[]) S with
        | error y=>rw[hx] at hf;cases hf
        | ok y=>
         obtain⟨⟨h,nx⟩,S'⟩:=y;rw[hx] at hf;refine⟨nx,S',?_⟩;have:h=some ⟨kk,mt,p,e.ix++[i],e.ind⟩:=by injection hf
         rw[this]
       rw[lvs_hit hcur he];refine .inr ⟨k,e.to,e.ix,e.ind,_,hL.no,ew,e2,.inl ⟨fun {s' ix' ind' o'} w1 ho' => ?_,rfl⟩⟩;obtain⟨f,f1,f2,f3,f4⟩:=hit w1 ho';obtain⟨o2,ho2⟩:=List.exists_mem_of_ne_nil _ f4;have h1:=hmem.2 ⟨f1,ho2⟩;simp only[zfb,Prod.mk.injEq] at h1;obtain⟨h1,-⟩:=h1;subst h1;have hix:ix'=f.ix:=Classical.byContradiction fun h=>by rw[f3 h] at hmu;cases hmu
       subst hix;obtain⟨u1,-⟩:=w1.uniq ew;subst u1;have h2:=hmem.2 ⟨f1,ho'⟩;simp only[zfb,Prod.mk.injEq,true_and] at h2;exact⟨rfl,h2⟩
      | cons y r=>
       obtain⟨e',i',o'⟩:=y;simp only at hf;have he:ents W q m cur (none,[]) S = .error (e'.ix++[i']):=by
        cases hx:ents W q m cur (none,[]) S with
        | ok y=>rw[hx] at hf;cases hf
        | error y=>rw[hx] at hf;cases hf;rfl
       rw[lvs_err hcur he];obtain⟨g1,g2⟩:=hmem.1 (zy _ (z6 ..));have h3:=(List.pairwise_cons.1 hpw).1 _ (z6 ..);exact .inr ⟨k,e'.to,e'.ix,e'.ind,(i',o'),hL.no,hL.wy e' (sub g1),g2,.inr ⟨⟨e.to,e.ix,e.ind,_,ew,e2,h3⟩,rfl⟩⟩
theorem lvs_out (hW:WdO W P) {s:Spot} (hs:SpO W P s) {i0 addr:Bool} {q m:Int}:Out W (pl W s) i0 addr q m (lvs W addr q m (qj2 W) [⟨pl W s,[],i0,false⟩] []):=by
 refine lvs_naive hW (Pn.mk_pl hW hs) _ 0 _ [] ⟨fun e he => ?_,List.pairwise_singleton _ _,fun {s' ix ind} hw => ?_,fun e he hm => ?_,fun d hd=>(by cases hd),fun hj=>absurd hj (Nat.not_lt_zero _)⟩ (fun e he => ?_) ⟨List.nodup_nil,fun d hd=>by cases hd⟩ ?_
 ·rw[zfb.1 he];exact .root
 ·cases hw;exact .inl ⟨_,zfb.2 rfl,rfl,fun h=>absurd rfl h⟩
 ·rw[zfb.1 he] at hm;cases hm
 ·rw[zfb.1 he];exact⟨EnT.pl hW hs rfl,zl _⟩
 ·have h1:=(hs.toPl hW).1.sz;unfold qsg qj2;simp only[mxE,List.length_nil,Nat.sub_zero];have:(W.length+1) * 2003=W.length * 2003+2003:=Nat.succ_mul _ _;omega
