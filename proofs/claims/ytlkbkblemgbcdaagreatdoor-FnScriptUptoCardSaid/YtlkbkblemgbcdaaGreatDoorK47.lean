import Derived.Test.YtlkbkblemgbcdaaGreatDoorK41
import Derived.Test.YtlkbkblemgbcdaaGreatDoorK32
import Derived.Test.YtlkbkblemgbcdaaGreatDoorK45
import Derived.Test.YtlkbkblemgbcdaaGreatDoorWDeclM
set_option linter.all false
set_option maxHeartbeats 4000000
namespace Go.Proofs.YtlkbkblemgbcdaaGreatDoor
open Go Go.RowKit
theorem qpk (W:Wd) (s:Spot) (addr:Bool) (q:Int):qhf W s addr q 8=⟨none,[],false⟩:=by
 unfold qhf;rw[if_pos rfl]
theorem qp7 (W:Wd) (s:Spot) (addr:Bool) (q:Int):qch W s addr q 8=⟨none,[],false⟩:=by
 unfold qch;simp only[qpk];split <;> rfl
theorem sameIdM_exp {m:Int} (h:qay m=true) (q q' p n:Int):qbp p n q m=qbp p n q' m:=by
 unfold qbp;by_cases hn:n=m
 ·subst hn;simp[h]
 ·have e:(n==m)=false:=by simpa using hn
  rw[e];rfl
theorem idIdx_exp {m:Int} (h:qay m=true) (q q':Int) (l:List (Int×Int)):qhz l q m=qhz l q' m:=by
 unfold qhz;congr 1;funext x;exact sameIdM_exp h q q' x.1 x.2
theorem declIdx_exp {m:Int} (h:qay m=true) (q q':Int) (W:Wd) (d:Nat):qey W d q m=qey W d q' m:=by
 unfold qey;simp[h]
theorem fldS_exp {m:Int} (h:qay m=true) (q q':Int) (W:Wd) (e:En) (u:Spot) (i:Nat) (st:Option Hi×List En):fldS W q m e u i st=fldS W q' m e u i st:=by
 unfold fldS;rw[sameIdM_exp h q q']
theorem flds_exp {m:Int} (h:qay m=true) (q q':Int) (W:Wd) (e:En) (u:Spot):∀ (n i:Nat) (st:Option Hi×List En),flds W q m e u n i st=flds W q' m e u n i st
 | 0,_,_=>rfl
 | n+1,i,st=>by
  simp only[flds,fldS_exp h q q'];cases fldS W q' m e u i st with
  | ok st=>exact flds_exp h q q' W e u n (i+1) st
  | error x=>rfl
theorem typS_exp {m:Int} (h:qay m=true) (q q':Int) (W:Wd) (e:En) (st:Option Hi×List En):typS W q m e st=typS W q' m e st:=by
 unfold typS;rw[flds_exp h q q',idIdx_exp h q q']
theorem entS_exp {m:Int} (h:qay m=true) (q q':Int) (W:Wd) (e:En) (st:Option Hi×List En):entS W q m e st=entS W q' m e st:=by
 unfold entS;rw[typS_exp h q q',declIdx_exp h q q']
theorem ents_exp {m:Int} (h:qay m=true) (q q':Int) (W:Wd):∀ (l:List En) (st:Option Hi×List En) (S:List Nat),ents W q m l st S=ents W q' m l st S
 | [],_,_=>rfl
 | e::r,st,S=>by
  simp only[ents,entS_exp h q q'];split
  ·exact ents_exp h q q' W r st S
  ·cases entS W q' m e st with
   | ok st=>exact ents_exp h q q' W r st _
   | error x=>rfl
theorem lvs_exp {m:Int} (h:qay m=true) (q q':Int) (W:Wd) (addr:Bool):∀ (n:Nat) (cur:List En) (S:List Nat),lvs W addr q m n cur S=lvs W addr q' m n cur S
 | 0,_,_=>rfl
 | n+1,cur,S=>by
  simp only[lvs,ents_exp h q q',lvs_exp h q q' W addr n]
theorem lookI_exp {m:Int} (h:qay m=true) (q q':Int) (W:Wd) (s:Spot) (addr:Bool):qhf W s addr q m=qhf W s addr q' m:=by
 unfold qhf;rw[lvs_exp h q q']
theorem lookM_exp {m:Int} (h:qay m=true) (q q':Int) (W:Wd) (s:Spot) (addr:Bool):qch W s addr q m=qch W s addr q' m:=by
 unfold qch;simp only[lookI_exp h q q']
theorem lvs_addr (W:Wd) (q m:Int):∀ (n:Nat) (cur:List En) (S:List Nat),
  (lvs W true q m n cur S=lvs W false q m n cur S∧((lvs W true q m n cur S).ob=none→(lvs W true q m n cur S).ind=false))∨
  (lvs W false q m n cur S=⟨none,[],true⟩∧∃ k ix,lvs W true q m n cur S=⟨some (k,true),ix,false⟩)
 | 0,cur,S => .inl ⟨rfl,fun _=>rfl⟩
 | n+1,cur,S=>by
  simp only[lvs];by_cases hc:cur=[]
  ·rw[if_pos hc,if_pos hc];exact .inl ⟨rfl,fun _=>rfl⟩
  ·rw[if_neg hc,if_neg hc];cases ents W q m cur (none,[]) S with
   | error x=>exact .inl ⟨rfl,fun _=>rfl⟩
   | ok r=>
    obtain⟨⟨h,nx⟩,S'⟩:=r;cases h with
    | none=>exact lvs_addr W q m n _ _
    | some h=>
     obtain⟨k,met,ptr,ix,ind⟩:=h;cases met <;> cases ptr <;> cases ind <;> first
      | exact .inl ⟨rfl,fun e=>by simp at e⟩
      | exact .inr ⟨rfl,k,ix,rfl⟩
theorem lvs_true {W:Wd} {q m:Int} {n:Nat} {cur:List En} {S:List Nat} (h:(lvs W true q m n cur S).ob=none):(lvs W true q m n cur S).ind=false:=by
 rcases lvs_addr W q m n cur S with q|⟨-,k,ix,e⟩
 ·exact q.2 h
 ·rw[e]
def En.ahead (e:En):En:={ e with ind:=true }
def Hi.ahead (h:Hi):Hi:={ h with ind:=true }
def stA (st:Option Hi×List En):Option Hi×List En:=(st.1.map Hi.ahead,st.2.map En.ahead)
theorem sgHit_ahead (e:En) (h:Option Hi) (i k:Nat) (met ptr:Bool):qgu e.ahead (h.map Hi.ahead) i k met ptr=(qgu e h i k met ptr).map (Option.map Hi.ahead):=by
 unfold qgu;cases h <;> cases hm:e.mul <;> simp[En.ahead,hm,Except.map,Hi.ahead]
theorem subE_ahead (W:Wd) (e:En) (u:Spot) (i:Nat):subE W e.ahead u i=(subE W e u i).ahead:=by
 simp[subE,En.ahead]
theorem fldS_ahead (W:Wd) (q m:Int) (e:En) (u:Spot) (i:Nat) (st:Option Hi×List En):fldS W q m e.ahead u i (stA st)=(fldS W q m e u i st).map stA:=by
 unfold fldS;split
 ·simp only[stA,sgHit_ahead];cases qgu e st.1 i (qe0 u i) false false <;> rfl
 ·have e1:(stA st).1.isNone=st.1.isNone:=by simp[stA]
  rw[e1];split
  ·simp[stA,Except.map,subE_ahead]
  ·rfl
theorem flds_ahead (W:Wd) (q m:Int) (e:En) (u:Spot):∀ (n i:Nat) (st:Option Hi×List En),flds W q m e.ahead u n i (stA st)=(flds W q m e u n i st).map stA
 | 0,_,_=>rfl
 | n+1,i,st=>by
  simp only[flds,fldS_ahead];cases fldS W q m e u i st with
  | ok st=>exact flds_ahead W q m e u n (i+1) st
  | error x=>rfl
theorem typS_ahead (W:Wd) (q m:Int) (e:En) (st:Option Hi×List En):typS W q m e.ahead (stA st)=(typS W q m e st).map stA:=by
 unfold typS;have e1:e.ahead.to=e.to:=rfl;rw[e1];split
 ·exact flds_ahead W q m e _ _ 0 st
 ·split
  ·cases qhz (qih (msL W (qae W e.to))) q m with
   | none=>rfl
   | some i=>
    simp only[stA,sgHit_ahead];cases qgu e st.1 i ((msL W (qae W e.to)).getD i mn0).k true false <;> rfl
  ·rfl
theorem entS_ahead (W:Wd) (q m:Int) (e:En) (st:Option Hi×List En):entS W q m e.ahead (stA st)=(entS W q m e st).map stA:=by
 unfold entS;have e1:e.ahead.to=e.to:=rfl;rw[e1,typS_ahead];cases (if e.to.of.kind=1 then qey W e.to.of.num.toNat q m else none) with
 | none=>rfl
 | some i=>
  simp only[stA,sgHit_ahead];cases qgu e st.1 i (start W e.to.of.num.toNat+i) true ((dc W e.to.of.num.toNat).methods.getD i ⟨0,false⟩).ptr <;> rfl
theorem ents_ahead (W:Wd) (q m:Int):∀ (l:List En) (st:Option Hi×List En) (S:List Nat),ents W q m (l.map En.ahead) (stA st) S=(ents W q m l st S).map fun x=>(stA x.1,x.2)
 | [],_,_=>rfl
 | e::r,st,S=>by
  simp only[List.map_cons,ents,entS_ahead];have e1:e.ahead.to=e.to:=rfl;rw[e1];split
  ·exact ents_ahead W q m r st S
  ·cases entS W q m e st with
   | ok st=>exact ents_ahead W q m r st _
   | error x=>rfl
theorem modify_map {α β:Type} (f:α→β) (g:β→β) (g':α→α) (h:∀ a,g (f a)=f (g' a)):∀ (l:List α) (i:Nat),(l.map f).modify i g=(l.modify i g').map f
 | [],i=>by cases i <;> simp
 | a::r,0=>by simp[h]
 | a::r,i+1=>by simp[modify_map f g g' h r i]
theorem conS_ahead (W:Wd) (acc:List En) (e:En):conS W (acc.map En.ahead) e.ahead=(conS W acc e).map En.ahead:=by
 unfold conS;rw[List.findIdx?_map];show(match acc.findIdx? fun a=>@decide (can W a.to=can W e.to) (Classical.propDecidable _) with
  | some i=>(acc.map En.ahead).modify i fun a=>{ a with mul:=true }
  | none=>acc.map En.ahead++[e.ahead])=_
 cases acc.findIdx? fun a=>@decide (can W a.to=can W e.to) (Classical.propDecidable _) with
 | none=>simp
 | some i=>exact modify_map En.ahead (fun a=>{ a with mul:=true }) (fun a=>{ a with mul:=true }) (fun a=>rfl) acc i
theorem foldl_ahead (W:Wd):∀ (l acc:List En),(l.map En.ahead).foldl (conS W) (acc.map En.ahead)=(l.foldl (conS W) acc).map En.ahead
 | [],acc=>rfl
 | e::r,acc=>by
  simp only[List.map_cons,List.foldl_cons,conS_ahead];exact foldl_ahead W r _
theorem consM_ahead (W:Wd) (l:List En):qbc W (l.map En.ahead)=(qbc W l).map En.ahead:=foldl_ahead W l []
def indR (r:Rs):Rs:=⟨r.ob,r.ix,r.ob.isSome⟩
theorem lvs_ahead (W:Wd) (addr:Bool) (q m:Int):∀ (n:Nat) (cur:List En) (S:List Nat),lvs W addr q m n (cur.map En.ahead) S=indR (lvs W true q m n cur S)
 | 0,_,_=>rfl
 | n+1,cur,S=>by
  simp only[lvs];by_cases hc:cur=[]
  ·subst hc;rfl
  ·have hc':cur.map En.ahead≠[]:=by simpa using hc
   simp only[if_neg hc,if_neg hc'];have e1:=ents_ahead W q m cur (none,[]) S;rw[show stA (none,[])=(none,[]) from rfl] at e1;rw[e1];cases ents W q m cur (none,[]) S with
   | error x=>rfl
   | ok r=>
    obtain⟨⟨h,nx⟩,S'⟩:=r;cases h with
    | none=>
     simp only[Except.map,stA,Option.map_none,consM_ahead];exact lvs_ahead W addr q m n _ _
    | some h=>
     obtain⟨k,met,ptr,ix,ind⟩:=h;simp[Except.map,stA,Hi.ahead,indR]
def ptrT (t:Ty):Ty := .mk 2 0 [t] [] [] []
theorem qt8 {W:Wd} {s:Spot} {addr:Bool} {q m:Int} (hm:m≠8) (hp:(plain W s).of.kind≠2):qhf W s addr q m=lvs W addr q m (qj2 W) [⟨pl W s,[],false,false⟩] []:=by
 unfold qhf;have e:drf W s=(s,false):=by unfold drf;rw[if_neg hp]
 rw[if_neg hm,e,if_neg (by simp)]
theorem lookI_ptr {W:Wd} {s:Spot} {addr:Bool} {q m:Int} (hm:m≠8) (hp:(plain W s).of.kind=2) (h5:(qae W (qaq (plain W s))).of.kind≠5):
  qhf W s addr q m=indR (lvs W true q m (qj2 W) [⟨pl W (qaq (plain W s)),[],false,false⟩] []):=by
 unfold qhf;have e:drf W s=(qaq (plain W s),true):=by unfold drf;rw[if_pos hp]
 rw[if_neg hm,e,if_neg (fun h=>h5 h.2)];exact lvs_ahead W addr q m (qj2 W) [⟨pl W (qaq (plain W s)),[],false,false⟩] []
theorem plain_operand_ptr (W:Wd) (t:Ty):plain W (operand W (ptrT t))=operand W (ptrT t):=qbg (by simp[operand,ptrT,Ty.kind])
theorem elem_operand_ptr (W:Wd) (t:Ty):qaq (operand W (ptrT t))=operand W t:=rfl
theorem kind_plain {W:Wd} (hB:qcp W) {s:Spot} (hs:qdw W s) (h:(qae W s).of.kind≠2):(plain W s).of.kind≠2:=fun e=>h (by
 rw[← qfm hB hs,qdu (by omega)];exact e)
theorem lookM_pointer {W:Wd} (hB:qcp W) {t:Ty} (hn:qdw W (operand W t)) (h2:(qae W (operand W t)).of.kind≠2) (h5:(qae W (operand W t)).of.kind≠5) (addr:Bool) (q m:Int):
  qch W (operand W (ptrT t)) addr q m=indR (qch W (operand W t) true q m)∧((qch W (operand W t) true q m).ob=none→(qch W (operand W t) true q m).ind=false):=by
 have hk:(operand W (ptrT t)).of.kind=2:=rfl;have e1:qch W (operand W (ptrT t)) addr q m=qhf W (operand W (ptrT t)) addr q m:=by
  unfold qch;rw[if_neg (by rw[plain_operand_ptr,hk];simp)]
 have e2:qch W (operand W t) true q m=qhf W (operand W t) true q m:=by
  unfold qch;rw[if_neg (fun h=>h2 h.2)]
 rw[e1,e2];by_cases hm:m=8
 ·subst hm;rw[qpk,qpk];exact⟨rfl,fun _=>rfl⟩
 ·rw[qt8 hm (kind_plain hB hn h2),lookI_ptr hm (by rw[plain_operand_ptr];exact hk) (by rw[plain_operand_ptr,elem_operand_ptr];exact h5),plain_operand_ptr,elem_operand_ptr];exact⟨rfl,lvs_true⟩
theorem lookI_addr (W:Wd) (s:Spot) (q m:Int):
  (qhf W s true q m=qhf W s false q m∧((qhf W s false q m).ob=none→(qhf W s false q m).ind=false))∨
  (qhf W s false q m=⟨none,[],true⟩∧∃ k ix,qhf W s true q m=⟨some (k,true),ix,false⟩):=by
 unfold qhf;split
 ·exact .inl ⟨rfl,fun _=>rfl⟩
 ·split
  ·exact .inl ⟨rfl,fun _=>rfl⟩
  ·rcases lvs_addr W q m (qj2 W) [⟨pl W (drf W s).1,[],(drf W s).2,false⟩] [] with ⟨h1,h2⟩|h
   ·exact .inl ⟨h1,by rw[← h1];exact h2⟩
   ·exact .inr h
theorem lookM_addr (W:Wd) (s:Spot) (hu:(qae W s).of.kind≠1) (q m:Int):
  (qch W s true q m=qch W s false q m∧((qch W s false q m).ob=none→(qch W s false q m).ind=false))∨
  (qch W s false q m=⟨none,[],true⟩∧∃ k ix,qch W s true q m=⟨some (k,true),ix,false⟩):=by
 by_cases h:(plain W s).of.kind=1∧(qae W s).of.kind=2
 ·have key:∀ addr,qch W s addr q m=match (qhf W (qae W s) false q m).ob with
    | some (_,true)=>⟨none,[],false⟩
    | _=>qhf W (qae W s) false q m:=fun addr=>by
   unfold qch;rw[if_pos h];rfl
  rw[key true,key false];refine .inl ⟨rfl,?_⟩;have hi:(qhf W (qae W s) false q m).ob=none→(qhf W (qae W s) false q m).ind=false:=by
   by_cases hm:m=8
   ·subst hm;rw[qpk];intro;rfl
   ·by_cases h5:(qae W (qaq (plain W (qae W s)))).of.kind=5
    ·unfold qhf;have e:drf W (qae W s)=(qaq (plain W (qae W s)),true):=by
      unfold drf;rw[if_pos (by rw[qbg (fun e=>hu e.1)];exact h.2)]
     rw[if_neg hm,e,if_pos ⟨rfl,h5⟩];intro;rfl
    ·rw[lookI_ptr hm (by rw[qbg (fun e=>hu e.1)];exact h.2) h5];intro e;simp only[indR] at e ⊢;rw[e];rfl
  split
  ·intro;rfl
  ·exact hi
 ·have key:∀ addr,qch W s addr q m=qhf W s addr q m:=fun addr=>by
   unfold qch;rw[if_neg h]
  rw[key true,key false];exact lookI_addr W s q m
structure Pk0 (W:Wd):Prop where
 pk:∀ d,(dc W d).pkg=0
theorem plainN_pk {W:Wd} (h:Pk0 W):∀ (n:Nat) (s:Spot),s.pkg=0→(qfy W n s).pkg=0
 | 0,s,hs=>hs
 | n+1,s,hs=>by
  simp only[qfy];split
  ·exact plainN_pk h n _ (h.pk _)
  ·exact hs
theorem qnk {W:Wd} (h:Pk0 W):∀ (n:Nat) (s:Spot),s.pkg=0→(qb9 W n s).pkg=0
 | 0,s,hs=>hs
 | n+1,s,hs=>by
  simp only[qb9];split
  ·exact qnk h n _ (h.pk _)
  ·exact hs
theorem qwh {W:Wd} (h:Pk0 W) {s:Spot} (hs:s.pkg=0):(qae W s).pkg=0:=qnk h _ s hs
theorem pl_pk {W:Wd} (h:Pk0 W) {s:Spot} (hs:s.pkg=0):(pl W s).pkg=0:=by
 have h1:=plainN_pk h (W.length+1) s hs;unfold pl nrm;split
 ·rfl
 ·exact h1
theorem drf_pk {W:Wd} (h:Pk0 W) {s:Spot} (hs:s.pkg=0):(drf W s).1.pkg=0:=by
 unfold drf;split
 ·exact plainN_pk h (W.length+1) s hs
 ·exact hs
theorem MS.pk {W:Wd} (h:Pk0 W) {s:Spot} {l:List Mn} (hl:MS W s l):s.pkg=0→∀ m∈l,m.p=0:=by
 induction hl with
 | mk s ls hl _ ih=>
  intro hs m hm;rcases qgq (qka hm) with hm|⟨l,h1,h2⟩
  ·rcases qf2 hm with hm|hm
   ·cases hm
   ·unfold expl at hm;obtain⟨k,-,rfl⟩:=zkb.1 hm;exact hs
  ·obtain⟨i,hi,rfl⟩:=List.getElem_of_mem h1;exact ih i hi (qwh h hs) m h2
theorem msL_pk {W:Wd} (h:Pk0 W) {s:Spot} (hs:s.pkg=0):∀ m∈msL W s,m.p=0:=by
 unfold msL;split
 next hx=>exact MS.pk h hx.choose_spec hs
 next=>intro m hm;cases hm
theorem sameIdM_other {n m:Int} (hm:qay m=false):qbp 0 n 1 m=false:=by
 unfold qbp;by_cases hn:n=m
 ·subst hn;simp[hm]
 ·simp[hn]
theorem flds_other {W:Wd} (h:Pk0 W) {m:Int} (hm:qay m=false) (e:En) {u:Spot} (hu:u.pkg=0):∀ (n i:Nat) (nx:List En),(∀ x∈nx,x.to.pkg=0)→
  ∃ nx',flds W 1 m e u n i (none,nx) = .ok (none,nx')∧∀ x∈nx',x.to.pkg=0
 | 0,_,nx,hx=>⟨nx,rfl,hx⟩
 | n+1,i,nx,hx=>by
  have e1:∃ nx',fldS W 1 m e u i (none,nx) = .ok (none,nx')∧∀ x∈nx',x.to.pkg=0:=by
   unfold fldS;rw[hu,sameIdM_other hm,if_neg (by decide)];split
   ·refine⟨_,rfl,fun x hx' => ?_⟩;rcases zib.1 hx' with hx'|hx'
    ·exact hx x hx'
    ·rw[zfb.1 hx'];exact pl_pk h (drf_pk h hu)
   ·exact⟨nx,rfl,hx⟩
  obtain⟨nx',e2,hx'⟩:=e1;simp only[flds,e2];exact flds_other h hm e hu n (i+1) nx' hx'
theorem typS_other {W:Wd} (h:Pk0 W) {m:Int} (hm:qay m=false) {e:En} (he:e.to.pkg=0) {nx:List En} (hx:∀ x∈nx,x.to.pkg=0):
  ∃ nx',typS W 1 m e (none,nx) = .ok (none,nx')∧∀ x∈nx',x.to.pkg=0:=by
 have hu:=qwh h he;unfold typS;split
 ·exact flds_other h hm e hu _ 0 nx hx
 ·split
  ·have e1:qhz (qih (msL W (qae W e.to))) 1 m=none:=by
    refine qsd fun j hj => ?_;have h1:((qih (msL W (qae W e.to)))[j]).1=0:=by
     simp only[qih,List.getElem_map];exact msL_pk h hu _ (z8 _)
    rw[h1];exact sameIdM_other hm
   rw[e1];exact⟨nx,rfl,hx⟩
  ·exact⟨nx,rfl,hx⟩
theorem entS_other {W:Wd} (h:Pk0 W) {m:Int} (hm:qay m=false) {e:En} (he:e.to.pkg=0) {nx:List En} (hx:∀ x∈nx,x.to.pkg=0):
  ∃ nx',entS W 1 m e (none,nx) = .ok (none,nx')∧∀ x∈nx',x.to.pkg=0:=by
 unfold entS;have e1:(if e.to.of.kind=1 then qey W e.to.of.num.toNat 1 m else none)=none:=by
  split
  ·unfold qey;rw[h.pk,hm];rfl
  ·rfl
 rw[e1];exact typS_other h hm he hx
theorem ents_other {W:Wd} (h:Pk0 W) {m:Int} (hm:qay m=false):∀ (l:List En) (nx:List En) (S:List Nat),(∀ x∈l,x.to.pkg=0)→(∀ x∈nx,x.to.pkg=0)→
  ∃ nx' S',ents W 1 m l (none,nx) S = .ok ((none,nx'),S')∧∀ x∈nx',x.to.pkg=0
 | [],nx,S,_,hx=>⟨nx,S,rfl,hx⟩
 | e::r,nx,S,hl,hx=>by
  simp only[ents];split
  ·exact ents_other h hm r nx S (fun x hx=>hl x (.tail _ hx)) hx
  ·obtain⟨nx',e1,hx'⟩:=entS_other h hm (hl e (.head _)) hx;rw[e1];exact ents_other h hm r nx' _ (fun x hx=>hl x (.tail _ hx)) hx'
theorem lvs_other {W:Wd} (h:Pk0 W) {m:Int} (hm:qay m=false) (addr:Bool):∀ (n:Nat) (cur:List En) (S:List Nat),(∀ x∈cur,x.to.pkg=0)→lvs W addr 1 m n cur S=⟨none,[],false⟩
 | 0,_,_,_=>rfl
 | n+1,cur,S,hc=>by
  simp only[lvs];split
  ·rfl
  ·obtain⟨nx',S',e1,hx'⟩:=ents_other h hm cur [] S hc (fun x hx=>by cases hx);rw[e1];exact lvs_other h hm addr n _ _ (qkc (fun x=>x.to.pkg=0) (fun a b e1 e2 h=>by rw[← e1];exact h) hx')
theorem lookI_other {W:Wd} (h:Pk0 W) {m:Int} (hm:qay m=false) (s:Spot) (hs:s.pkg=0) (addr:Bool):qhf W s addr 1 m=⟨none,[],false⟩:=by
 unfold qhf;split
 ·rfl
 ·split
  ·rfl
  ·refine lvs_other h hm addr _ _ _ fun x hx => ?_;rw[zfb.1 hx];exact pl_pk h (drf_pk h hs)
theorem lookM_other {W:Wd} (h:Pk0 W) {m:Int} (hm:qay m=false) (s:Spot) (hs:s.pkg=0) (addr:Bool):qch W s addr 1 m=⟨none,[],false⟩:=by
 unfold qch;rw[lookI_other h hm (qae W s) (qwh h hs)];split
 ·rfl
 ·exact lookI_other h hm s hs addr
def StB (L:Nat) (st:Option Hi×List En):Prop:=(∀ h,st.1=some h→h.ix.length≤L)∧∀ x∈st.2,x.ix.length≤L
def RB (L:Nat):Stp (Option Hi×List En)→Prop
 | .ok st=>StB L st
 | .error x=>x.length≤L
def HB (L:Nat):Stp (Option Hi)→Prop
 | .ok h=>∀ x,h=some x→x.ix.length≤L
 | .error x=>x.length≤L
theorem sgHit_len {e:En} {L:Nat} (he:e.ix.length+1≤L) (h:Option Hi) (i k:Nat) (met ptr:Bool):HB L (qgu e h i k met ptr):=by
 unfold qgu;split
 ·simp only[HB,List.length_append,List.length_singleton];exact he
 ·intro x hx;cases hx;simp only[List.length_append,List.length_singleton];exact he
theorem fldS_len {W:Wd} {q m:Int} {e:En} {L:Nat} (he:e.ix.length+1≤L) (u:Spot) (i:Nat) {st:Option Hi×List En} (hs:StB L st):RB L (fldS W q m e u i st):=by
 unfold fldS;split
 ·have h1:=sgHit_len he st.1 i (qe0 u i) false false;cases hg:qgu e st.1 i (qe0 u i) false false with
  | ok h=>rw[hg] at h1;exact⟨h1,hs.2⟩
  | error x=>rw[hg] at h1;exact h1
 ·split
  ·refine⟨hs.1,fun x hx => ?_⟩;rcases zib.1 hx with hx|hx
   ·exact hs.2 x hx
   ·rw[zfb.1 hx];simp only[subE,List.length_append,List.length_singleton];exact he
  ·exact hs
theorem flds_len {W:Wd} {q m:Int} {e:En} {L:Nat} (he:e.ix.length+1≤L) (u:Spot):∀ (n i:Nat) {st:Option Hi×List En},StB L st→RB L (flds W q m e u n i st)
 | 0,_,_,hs=>hs
 | n+1,i,st,hs=>by
  have h1:=fldS_len (W:=W) (q:=q) (m:=m) he u i hs;simp only[flds];cases hg:fldS W q m e u i st with
  | ok st'=>rw[hg] at h1;exact flds_len he u n (i+1) h1
  | error x=>rw[hg] at h1;exact h1
theorem typS_len {W:Wd} {q m:Int} {e:En} {L:Nat} (he:e.ix.length+1≤L) {st:Option Hi×List En} (hs:StB L st):RB L (typS W q m e st):=by
 unfold typS;split
 ·exact flds_len he _ _ _ hs
 ·split
  ·cases qhz (qih (msL W (qae W e.to))) q m with
   | none=>exact hs
   | some i=>
    have h1:=sgHit_len he st.1 i ((msL W (qae W e.to)).getD i mn0).k true false;dsimp only;cases hg:qgu e st.1 i ((msL W (qae W e.to)).getD i mn0).k true false with
    | ok h=>rw[hg] at h1;exact⟨h1,hs.2⟩
    | error x=>rw[hg] at h1;exact h1
  ·exact hs
theorem entS_len {W:Wd} {q m:Int} {e:En} {L:Nat} (he:e.ix.length+1≤L) {st:Option Hi×List En} (hs:StB L st):RB L (entS W q m e st):=by
 unfold entS;cases (if e.to.of.kind=1 then qey W e.to.of.num.toNat q m else none) with
 | none=>exact typS_len he hs
 | some i=>
  have h1:=sgHit_len he st.1 i (start W e.to.of.num.toNat+i) true ((dc W e.to.of.num.toNat).methods.getD i ⟨0,false⟩).ptr;dsimp only;cases hg:qgu e st.1 i (start W e.to.of.num.toNat+i) true ((dc W e.to.of.num.toNat).methods.getD i ⟨0,false⟩).ptr with
  | ok h=>rw[hg] at h1;exact⟨h1,hs.2⟩
  | error x=>rw[hg] at h1;exact h1
def EB (L:Nat):Stp ((Option Hi×List En)×List Nat)→Prop
 | .ok x=>StB L x.1
 | .error x=>x.length≤L
theorem ents_len {W:Wd} {q m:Int} {L:Nat}:∀ (l:List En) {st:Option Hi×List En} (S:List Nat),(∀ e∈l,e.ix.length+1≤L)→StB L st→EB L (ents W q m l st S)
 | [],_,_,_,hs=>hs
 | e::r,st,S,hl,hs=>by
  simp only[ents];split
  ·exact ents_len r S (fun x hx=>hl x (.tail _ hx)) hs
  ·have h1:=entS_len (W:=W) (q:=q) (m:=m) (hl e (.head _)) hs;cases hg:entS W q m e st with
   | ok st'=>rw[hg] at h1;exact ents_len r _ (fun x hx=>hl x (.tail _ hx)) h1
   | error x=>rw[hg] at h1;exact h1
theorem lvs_len {W:Wd} {addr:Bool} {q m:Int}:∀ (n:Nat) (cur:List En) (S:List Nat) (L:Nat),(∀ x∈cur,x.ix.length≤L)→(lvs W addr q m n cur S).ix.length≤L+n
 | 0,_,_,_,_=>Nat.zero_le _
 | n+1,cur,S,L,hc=>by
  have h1:=ents_len (W:=W) (q:=q) (m:=m) (L:=L+1) cur (st:=(none,[])) S (fun x hx=>by have:=hc x hx;omega) ⟨fun h e=>by simp at e,fun x hx=>by cases hx⟩;simp only[lvs];split
  ·exact Nat.zero_le _
  ·cases hg:ents W q m cur (none,[]) S with
   | error x=>rw[hg] at h1;have:x.length≤L+1:=h1;show x.length≤_;omega
   | ok r=>
    rw[hg] at h1;obtain⟨⟨h,nx⟩,S'⟩:=r;cases h with
    | none=>
     have h2:=lvs_len (W:=W) (addr:=addr) (q:=q) (m:=m) n (qbc W nx) S' (L+1) (qkc (fun x=>x.ix.length≤L+1) (fun a b e1 e2 h=>by rw[← e2];exact h) h1.2);exact Nat.le_trans h2 (by omega)
    | some h=>
     have h2:=h1.1 h rfl;dsimp only;split
     ·exact Nat.zero_le _
     ·show h.ix.length≤_;omega
theorem lookI_len (W:Wd) (s:Spot) (addr:Bool) (q m:Int):(qhf W s addr q m).ix.length≤qj2 W:=by
 unfold qhf;split
 ·exact Nat.zero_le _
 ·split
  ·exact Nat.zero_le _
  ·have:=lvs_len (W:=W) (addr:=addr) (q:=q) (m:=m) (qj2 W) [⟨pl W (drf W s).1,[],(drf W s).2,false⟩] [] 0 (fun x hx=>by rw[zfb.1 hx];exact zl _);omega
theorem lookM_len (W:Wd) (s:Spot) (addr:Bool) (q m:Int):(qch W s addr q m).ix.length≤qj2 W:=by
 unfold qch;split
 ·split
  ·exact Nat.zero_le _
  ·exact lookI_len ..
 ·exact lookI_len ..
theorem fuelW_le {W:Wd} (h:W.length≤1048576):qj2 W≤4294967296:=by
 unfold qj2;omega
def tyA:Ty := .mk 4 0 [] [.mk 4 false ty0] [] []
theorem qp8:qch [] (operand [] tyA) false 0 4=⟨some (0,false),[0],false⟩:=by
 have hk:(operand [] tyA).of.kind=4:=rfl;have hp:plain [] (operand [] tyA)=operand [] tyA:=qbg (by rw[hk];simp);have hu:qae [] (operand [] tyA)=operand [] tyA:=qdu (by rw[hk];simp);have hl:pl [] (operand [] tyA)=operand [] tyA:=by unfold pl;rw[hp,qgb (by rw[hk];simp)]
 unfold qch;rw[if_neg (by rw[hp,hk];simp),qt8 (by decide) (by rw[hp,hk];simp),hl];have e1:ents [] 0 4 [⟨operand [] tyA,[],false,false⟩] (none,[]) [] = .ok ((some ⟨0,false,false,[0],false⟩,[]),[]):=by
  simp only[ents,entS,hk];rw[if_neg (by simp)];simp only[show ¬ ((4:Int)=1) by decide,if_false];have e2:typS [] 0 4 ⟨operand [] tyA,[],false,false⟩ (none,[]) = .ok (some ⟨0,false,false,[0],false⟩,[]):=by
   unfold typS;simp only[hu];rw[if_pos hk];rfl
  rw[e2]
 show lvs [] false 0 4 (4005+1) _ []=_;simp only[lvs,e1];rfl
end Go.Proofs.YtlkbkblemgbcdaaGreatDoor
namespace Go.Proofs.YtlkbkblemgbcdaaGreatDoor
open Go Go.RowKit
set_option maxRecDepth 100000
theorem qm4 (s t:ByteArray) (w:World):Calls Tryz.prog 52 #[.string s,.string t] w fun e w'=>
  ∃ b,e = .returned (.pointer (some ⟨b,0,none⟩))∧w'.cell? ⟨b,0,none⟩=some (.string s)∧Below w.heap.size w w':=by
 go_enter Tryz.func52,Tryz.ntmps52
 go_wp2_with fail
 go_ret
 exact⟨_,rfl,by simp,bel⟩
theorem qrc (p n:Int) (w:World) (h:IsNm n) (hp:p=0∨p=1) (hT:Tabs w):
  Calls Tryz.prog 35 #[.int .i64 p,.int .i64 n] w (qa2 (.string (idS p n)) w):=by
 have HT:=hid hT;clear hT;have Hn:=hid h;clear h;have hpp:qbo p=⟨#[if p=0 then 112 else 113]⟩:=rfl;rcases hp with rfl|rfl
 all_goals
  go_enter Tryz.func35,Tryz.ntmps35
  go_wp2_with (first
   | (go_at_call 52;refine(qm4 _ _ _).mono ?_;rintro e w1 ⟨b,rfl,hc,hb⟩;have hz:=zq hb;simp only[zd,qaa] at hz)
   | (go_at_call 33;refine(qbq _ _ Hn.out).mono ?_;rintro e w2 ⟨rfl,hb2⟩;have hz2:=zq hb2;have hc2:=qac.below hb2 _ _ hc)
   | (go_at_call 64;(first|refine(qj5 b 0 _ _ Hn.out (.inl rfl) (by exact HT.out.below bel) (by exact hc2)).mono ?_|refine(qj5 b 1 _ _ Hn.out (.inr rfl) (by exact HT.out.below bel) (by exact hc2)).mono ?_);rintro e w3 ⟨rfl,hb3⟩;have hz3:=zq hb3))
  go_ret
  exact⟨rfl,bel⟩
theorem qpi:qfz [] tyA:=by
 refine⟨fun d hd=>absurd hd (Nat.not_lt_zero _),fun d e h1 h2=>absurd h2 (Nat.not_lt_zero _),?_,fun d hd=>absurd hd (Nat.not_lt_zero _),fun d hd=>absurd hd (Nat.not_lt_zero _),?_⟩
 ·unfold tyA ty0;simp[qam,qby,IsNm]
 ·unfold qcj operand tyA ty0;simp[qdp,qc0,qcr,qjv,qb1]
theorem qmo:qdx [] tyA fun _=>1:=
 ⟨fun _=>zl _,fun d hd=>absurd hd (Nat.not_lt_zero _),fun d hd=>absurd hd (Nat.not_lt_zero _),by decide⟩
theorem wOk_nil (w:World):WOk w [] none 0:=⟨fun k hk=>absurd hk (Nat.not_lt_zero _),zl _,by decide⟩
theorem tyA_at {w:World} {b:Nat} (h:qat w b 0 [.int .i64 4,.bool false,.int .i64 0,.int .i64 0,.slice none 0 0,.slice none 0 0,.slice none 0 0,.slice none 0 0]):
  TyC w tyA [.int .i64 4,.int .i64 0,.slice none 0 0,.slice (some ⟨b,0,none⟩) 1 1,.slice none 0 0,.slice none 0 0]:=by
 unfold tyA;simp only[TyC];refine⟨none,0,some ⟨b,0,none⟩,1,none,0,none,0,rfl,⟨zl _,zl _,zl _,zl _⟩,⟨by omega,by omega⟩,⟨by omega,by omega⟩,?_,?_,?_,?_⟩
 ·simp only[TysR]
 ·simp only[FdsR,FdE,and_true];exact⟨b,0,_,rfl,⟨by omega,by omega⟩,h,qu2 w⟩
 ·simp only[MsR]
 ·simp only[TysR]
theorem qtr (w:World) (hT:Tabs w):Calls Tryz.prog 13 #[] w (qa2 (.bool true) w):=by
 have hB0:∀ O:Obj,Below w.heap.size w (w.alloc O):=fun O=>(zp _ _).alloc (zl _) O;have HL:=hid (qgz [] none 0 (w.alloc (.cells #[.int .i64 4,.bool false,.int .i64 0,.int .i64 0,.slice none 0 0,.slice none 0 0,.slice none 0 0,.slice none 0 0] 87)) tyA qpi (fun d hd=>absurd hd (Nat.not_lt_zero _)) (wOk_nil _) (hT.below (hB0 _)) (by decide) _ qmo _ (tyA_at (Blk.new w 87 _).cells) false 0 4 (.inl rfl) ⟨by omega,by omega⟩);rw[qp8] at HL;have HT:=hid hT;have HB0:=hid hB0;have Hid4:Hid (∀ w1,Below w.heap.size w w1→Calls Tryz.prog 35 #[.int .i64 0,.int .i64 4] w1 (qa2 (.string ⟨#[65]⟩) w1)):=hid fun w1 hb=>qrc 0 4 w1 ⟨by omega,by omega⟩ (.inl rfl) (hT.below hb);clear hT hB0;go_enter Tryz.func13,Tryz.ntmps13
 go_wp2_with (first
  | (go_at_call 12;refine HL.out.mono ?_;rintro e w2 ⟨x,rfl,H2⟩;(simp only[qdz,obI,obM]);have HB2:=hid ((HB0.out _).trans (H2.out.2.mono (HB0.out _).size));have HA2:Hid (∀ O1 O2:Obj,Below w2.heap.size w2 ((w2.alloc O1).alloc O2)):=hid (fun O1 O2=>((zp _ _).alloc (zl _) O1).alloc (by simp) O2);have HR1:=hid (fun(O1 O2:Obj)=>qab (S:=fun _=>False) H2.out.1 (qag.keep (HA2.out O1 O2)) fun _ _ h=>h);have HR2:Hid (∀ O1:Obj,((w2.alloc O1).alloc (.cells #[.int .i64 0] 3)).ownsRow 0 3 1 (.slice (some ⟨w2.heap.size+1,0,none⟩) 1 1) 1 [.int .i64 0]):=hid (fun O1=>by have h:=World.ownsRow_lit (base:=0) (size:=1) (e:=3) (w2.alloc O1) #[.int .i64 0] 1 (Nat.zero_le _) (by decide) rfl;simpa using h))
  | (go_at_call 34;refine(qv0 [0] (by decide) x.1 _ x.2 1 _ (HR1.out _ _) (HR2.out _)).mono ?_;rintro e w3 ⟨rfl,hb3⟩;have HB3:=hid (HB2.out.trans (((HA2.out _ _).trans (hb3.mono (HA2.out _ _).size)).mono HB2.out.size));clear hb3)
  | (go_at_call 35;refine(Hid4.out _ HB3.out).mono ?_;rintro e w4 ⟨rfl,hb4⟩))
 go_ret
 exact⟨rfl,HB3.out.trans (hb4.mono HB3.out.size)⟩
