import Derived.Test.YtmfhclggkjjcdaaGreatDoorLWWrap
import Derived.Test.YtmfhclggkjjcdaaGreatDoorL22
set_option linter.all false
namespace Go.Proofs.YtmfhclggkjjcdaaGreatDoor
open Go Go.RowKit
variable {W:Wd} {P:Nat→Nat} {s:Spot} {q m:Int} {e:En}
theorem cano_more (hW:WdO W P):∀ (n:Nat) (s:Spot),SpO W P s→op P s.of≤n→cano W (n+1) s=cano W n s
 | 0,s,_,h=>by have:=qqe P hW.pos s.of;omega
 | n+1,s,hs,h=>by
  obtain⟨hp,ho⟩:=hs.toPlain hW
  conv=>lhs;unfold cano
  conv=>rhs;unfold cano
  by_cases k1:(plain W s).of.kind=1
  ·rw[if_pos k1,if_pos k1]
  ·rw[if_neg k1,if_neg k1];by_cases k0:(plain W s).of.kind=0
   ·rw[if_pos k0,if_pos k0]
   ·rw[if_neg k0,if_neg k0];by_cases k4:(plain W s).of.kind=4
    ·rw[if_pos k4,if_pos k4];have:=(qla (l:=List.range (plain W s).of.fields.length) (a:=qjg W (plain W s)) (a':=qjg W (plain W s)) (b:=fun i=>cano W (n+1) (qao (plain W s) i)) (b':=fun i=>cano W n (qao (plain W s) i)) (z := .leaf [])).2 fun i hi=>by
      obtain⟨h1,h2⟩:=hp.field k4 (List.mem_range.1 hi);exact⟨rfl,cano_more hW n _ h1 (by omega)⟩
     rw[this]
    ·rw[if_neg k4,if_neg k4];by_cases k5:(plain W s).of.kind=5
     ·rw[if_pos k5,if_pos k5]
     ·rw[if_neg k5,if_neg k5];have hk:(plain W s).of.kind=2∨(plain W s).of.kind=3:=by
       rcases hp.kinds with h|h|h|h|h|h <;> omega
      obtain⟨h1,h2⟩:=hp.elem hk;rw[cano_more hW n _ h1 (by omega)]
theorem can_eq (hW:WdO W P) {s:Spot} (hs:SpO W P s) (h:op P s.of≤2000):can W s=cano W 2001 s∧can W s=cano W 2000 s:=by
 have h1:=cano_more hW 2001 s hs (by omega);have h2:=cano_more hW 2000 s hs h;exact⟨h1,h1.trans h2⟩
structure Pn (W:Wd) (P:Nat→Nat) (s:Spot):Prop where
 sp:SpO W P s
 pl:plain W s=s
 nr:nrm s=s
theorem nrm_nrm (s:Spot):nrm (nrm s)=nrm s:=by
 by_cases hk:s.of.kind=1
 ·rw[qly hk];exact qly rfl
 ·rw[qgb hk,qgb hk]
theorem plain_pl (hB:qcp W) {s:Spot} (hs:qdw W s):plain W (pl W s)=pl W s:=by
 have hp:=qjj hB hs;exact qbg fun e=>by
  unfold pl at e;rw[qfn,qmd] at e;have:=hp.2 e.1;rw[this] at e;cases e.2
theorem Pn.mk_pl (hW:WdO W P) {s:Spot} (hs:SpO W P s):Pn W P (Go.Proofs.YtmfhclggkjjcdaaGreatDoor.pl W s):=
 ⟨(hs.toPl hW).1,plain_pl hW.by_ hs.numOk,nrm_nrm _⟩
theorem Pn.nd (h:Pn W P s) (hk:s.of.kind=1):s=ndS s.of.num.toNat:=by
 have:=h.nr;rw[qly hk] at this;exact this.symm
theorem Pn.under (h:Pn W P s) (hk:s.of.kind≠1):Go.Proofs.YtmfhclggkjjcdaaGreatDoor.under W s=s:=qdu hk
theorem Pn.kind {s t:Spot} (h:Pn W P s) (h':Pn W P t) (e:can W s=can W t):s.of.kind=t.of.kind:=by
 have h1:=qqq W 2001 s;have h2:=qqq W 2001 t;unfold can at e;rw[h.pl] at h1;rw[h'.pl,← e,h1] at h2;exact h2
theorem Pn.one {s t:Spot} (h:Pn W P s) (h':Pn W P t) (e:can W s=can W t) (hk:s.of.kind=1):s=t:=by
 have hk':t.of.kind=1:=by rw[← h.kind h' e];exact hk
 have e1:=e;unfold can at e1;rw[qm2 h.pl hk,qm2 h'.pl hk'] at e1;simp only[CT.leaf.injEq,List.cons.injEq,Prod.mk.injEq,and_true,true_and] at e1;rw[h.nd hk,h'.nd hk',e1]
def subT (W:Wd) (s:Spot) (i:Nat):Spot:=pl W (drf W (qao (under W s) i)).1
def subP (W:Wd) (s:Spot) (i:Nat):Bool:=(drf W (qao (under W s) i)).2
def Embd (W:Wd) (s:Spot) (i:Nat):Prop:=(under W s).of.kind=4∧i<(under W s).of.fields.length∧((under W s).of.fields.getD i fd0).embedded=true
inductive Wy (W:Wd) (s0:Spot) (i0:Bool):Nat→Spot→List Nat→Bool→Prop where
 | root:Wy W s0 i0 0 s0 [] i0
 | step {k:Nat} {s:Spot} {ix:List Nat} {ind:Bool} {i:Nat}:Wy W s0 i0 k s ix ind→Embd W s i→Wy W s0 i0 (k+1) (subT W s i) (ix++[i]) (ind||subP W s i)
theorem Wy.len {s0:Spot} {i0:Bool} {k:Nat} {ix:List Nat} {ind:Bool} (h:Wy W s0 i0 k s ix ind):ix.length=k:=by
 induction h with
 | root=>rfl
 | step _ _ ih=>rw[List.length_append,ih];rfl
theorem Wy.uniq {s0:Spot} {i0:Bool} {k:Nat} {ix:List Nat} {ind:Bool} (h:Wy W s0 i0 k s ix ind):∀ {k':Nat} {s':Spot} {ind':Bool},Wy W s0 i0 k' s' ix ind'→s=s'∧ind=ind':=by
 induction h with
 | root=>
  intro k' s' ind' h'
  generalize hx:([]:List Nat)=x at h'
  cases h' with
  | root=>exact⟨rfl,rfl⟩
  | step _ _=>simp at hx
 | @step k s ix ind i _ _ ih=>
  intro k' s' ind' h'
  generalize hx:ix++[i]=x at h'
  cases h' with
  | root=>simp at hx
  | step h2 _=>
   obtain⟨e1,e2⟩:=List.append_inj' hx rfl;subst e1;obtain⟨e3,e4⟩:=ih h2;simp only[List.cons.injEq,and_true] at e2;subst e2 e3 e4;exact⟨rfl,rfl⟩
theorem Wy.pn (hW:WdO W P) {s0:Spot} {i0:Bool} (h0:Pn W P s0) {k:Nat} {s:Spot} {ix:List Nat} {ind:Bool} (h:Wy W s0 i0 k s ix ind):Pn W P s:=by
 induction h with
 | root=>exact h0
 | step _ he ih=>exact Pn.mk_pl hW (drf_op hW ((ih.sp.toUnder hW).field he.1 he.2.1).1).1
def ownF (W:Wd) (q m:Int) (u:Spot):Nat→Nat→List (Nat×Nat×Bool×Bool)
 | 0,_=>[]
 | n+1,i=>if qbp u.pkg (fname W (u.of.fields.getD i fd0)) q m=true then(i,qe0 u i,false,false)::ownF W q m u n (i+1) else ownF W q m u n (i+1)
noncomputable def ownT (W:Wd) (q m:Int) (s:Spot):List (Nat×Nat×Bool×Bool):=
 if(under W s).of.kind=4 then ownF W q m (under W s) (under W s).of.fields.length 0
 else if(under W s).of.kind=5 then
  match qhz (qih (msL W (under W s))) q m with
  | some i=>[(i,((msL W (under W s)).getD i mn0).k,true,false)]
  | none=>[]
 else []
noncomputable def ownL (W:Wd) (q m:Int) (s:Spot):List (Nat×Nat×Bool×Bool):=
 match if s.of.kind=1 then qey W s.of.num.toNat q m else none with
 | some i=>[(i,start W s.of.num.toNat+i,true,((dc W s.of.num.toNat).methods.getD i ⟨0,false⟩).ptr)]
 | none=>ownT W q m s
abbrev Ho:=En×Nat×Nat×Bool×Bool
def foldH:List Ho→Option Hi→Stp (Option Hi)
 | [],h => .ok h
 | (e,i,k,mt,p)::r,h=>match qgu e h i k mt p with
  | .ok h'=>foldH r h'
  | .error x => .error x
theorem foldH_app:∀ (a b:List Ho) (h:Option Hi),foldH (a++b) h=match foldH a h with
  | .ok h'=>foldH b h'
  | .error x => .error x
 | [],b,h=>rfl
 | (e,i,k,mt,p)::r,b,h=>by
  simp only[List.cons_append,foldH];cases qgu e h i k mt p with
  | ok h'=>exact foldH_app r b h'
  | error x=>rfl
theorem ownF_mem {W:Wd} {q m:Int} {u:Spot} {o:Nat×Nat×Bool×Bool}:∀ {n i:Nat},o∈ownF W q m u n i↔∃ j,i≤j∧j<i+n∧qbp u.pkg (fname W (u.of.fields.getD j fd0)) q m=true∧o=(j,qe0 u j,false,false)
 | 0,i=>by
  simp only[ownF,List.not_mem_nil,false_iff];rintro⟨j,h1,h2,-⟩;omega
 | n+1,i=>by
  have ih:=ownF_mem (W:=W) (q:=q) (m:=m) (u:=u) (o:=o) (n:=n) (i:=i+1);simp only[ownF];split
  next h=>
   rw[zgb,ih];constructor
   ·rintro(rfl|⟨j,h1,h2,h3,h4⟩)
    ·exact⟨i,zl _,by omega,h,rfl⟩
    ·exact⟨j,by omega,by omega,h3,h4⟩
   ·rintro⟨j,h1,h2,h3,h4⟩;by_cases e:j=i
    ·exact .inl (e ▸ h4)
    ·exact .inr ⟨j,by omega,by omega,h3,h4⟩
  next h=>
   rw[ih];constructor
   ·rintro⟨j,h1,h2,h3,h4⟩;exact⟨j,by omega,by omega,h3,h4⟩
   ·rintro⟨j,h1,h2,h3,h4⟩;by_cases e:j=i
    ·exact absurd (e ▸ h3) h
    ·exact⟨j,by omega,by omega,h3,h4⟩
theorem ownF_pw (W:Wd) (q m:Int) (u:Spot):∀ (n i:Nat),(ownF W q m u n i).Pairwise fun a b=>a.1≠b.1
 | 0,i=>List.Pairwise.nil
 | n+1,i=>by
  simp only[ownF];split
  ·refine List.Pairwise.cons (fun b hb => ?_) (ownF_pw W q m u n (i+1));obtain⟨j,h1,-,-,rfl⟩:=ownF_mem.1 hb;show i≠j;omega
  ·exact ownF_pw W q m u n (i+1)
theorem ownL_pw (W:Wd) (q m:Int) (s:Spot):(ownL W q m s).Pairwise fun a b=>a.1≠b.1:=by
 unfold ownL;split
 ·exact List.pairwise_singleton _ _
 ·unfold ownT;split
  ·exact ownF_pw ..
  ·split
   ·split
    ·exact List.pairwise_singleton _ _
    ·exact List.Pairwise.nil
   ·exact List.Pairwise.nil
theorem flds_fold (W:Wd) (q m:Int) (e:En) (u:Spot):∀ (n i:Nat) (h:Option Hi) (nx:List En),(flds W q m e u n i (h,nx)).map Prod.fst=foldH ((ownF W q m u n i).map (Prod.mk e)) h
 | 0,i,h,nx=>rfl
 | n+1,i,h,nx=>by
  simp only[flds,fldS,ownF];split
  next st hst=>
   split at hst
   next hs=>
    rw[if_pos hs];simp only[List.map_cons,foldH];cases hg:qgu e h i (qe0 u i) false false with
    | ok h2=>rw[hg] at hst;cases hst;exact flds_fold W q m e u n (i+1) h2 nx
    | error x=>rw[hg] at hst;cases hst
   next hs=>
    rw[if_neg hs];split at hst <;> cases hst <;> exact flds_fold W q m e u n (i+1) h _
  next x hst=>
   split at hst
   next hs=>
    rw[if_pos hs];simp only[List.map_cons,foldH];cases hg:qgu e h i (qe0 u i) false false with
    | ok h2=>rw[hg] at hst;cases hst
    | error x=>rw[hg] at hst;cases hst;rfl
   next hs=>split at hst <;> cases hst
theorem typS_fold (W:Wd) (q m:Int) (e:En) (h:Option Hi) (nx:List En):(typS W q m e (h,nx)).map Prod.fst=foldH ((ownT W q m e.to).map (Prod.mk e)) h:=by
 unfold typS ownT;split
 ·exact flds_fold ..
 ·split
  ·cases qhz (qih (msL W (under W e.to))) q m with
   | none=>rfl
   | some i=>
    simp only[List.map_cons,List.map_nil,foldH];cases qgu e h i ((msL W (under W e.to)).getD i mn0).k true false <;> rfl
  ·rfl
theorem entS_fold (W:Wd) (q m:Int) (e:En) (h:Option Hi) (nx:List En):(entS W q m e (h,nx)).map Prod.fst=foldH ((ownL W q m e.to).map (Prod.mk e)) h:=by
 unfold entS ownL;cases (if e.to.of.kind=1 then qey W e.to.of.num.toNat q m else none) with
 | none=>exact typS_fold ..
 | some i=>
  simp only[List.map_cons,List.map_nil,foldH];cases qgu e h i (start W e.to.of.num.toNat+i) true ((dc W e.to.of.num.toNat).methods.getD i ⟨0,false⟩).ptr <;> rfl
def frs:List En→List Nat→List En
 | [],_=>[]
 | e::r,S=>if e.to.of.kind=1∧e.to.of.num.toNat∈S then frs r S else e::frs r (if e.to.of.kind=1 then S++[e.to.of.num.toNat] else S)
def seenL:List En→List Nat→List Nat
 | [],S=>S
 | e::r,S=>if e.to.of.kind=1∧e.to.of.num.toNat∈S then seenL r S else seenL r (if e.to.of.kind=1 then S++[e.to.of.num.toNat] else S)
noncomputable def hitsL (W:Wd) (q m:Int) (l:List En):List Ho:=l.flatMap fun e=>(ownL W q m e.to).map (Prod.mk e)
theorem ents_fold (W:Wd) (q m:Int):∀ (l:List En) (S:List Nat) (h:Option Hi) (nx:List En),(ents W q m l (h,nx) S).map (fun x=>x.1.1)=foldH (hitsL W q m (frs l S)) h
 | [],S,h,nx=>rfl
 | e::r,S,h,nx=>by
  simp only[ents,frs];split
  ·exact ents_fold W q m r S h nx
  ·have h1:=entS_fold W q m e h nx;simp only[hitsL,List.flatMap_cons,foldH_app];rw[← h1];cases entS W q m e (h,nx) with
   | ok st=>exact ents_fold W q m r _ st.1 st.2
   | error x=>rfl
def subF (W:Wd) (e:En) (u:Spot):Nat→Nat→List En
 | 0,_=>[]
 | n+1,i=>if(u.of.fields.getD i fd0).embedded=true then subE W e u i::subF W e u n (i+1) else subF W e u n (i+1)
def subsL (W:Wd) (e:En):List En:=if(under W e.to).of.kind=4 then subF W e (under W e.to) (under W e.to).of.fields.length 0 else []
theorem subF_mem {W:Wd} {e:En} {u:Spot} {x:En}:∀ {n i:Nat},x∈subF W e u n i↔∃ j,i≤j∧j<i+n∧(u.of.fields.getD j fd0).embedded=true∧x=subE W e u j
 | 0,i=>by
  simp only[subF,List.not_mem_nil,false_iff];rintro⟨j,h1,h2,-⟩;omega
 | n+1,i=>by
  have ih:=subF_mem (W:=W) (e:=e) (u:=u) (x:=x) (n:=n) (i:=i+1);simp only[subF];split
  next h=>
   rw[zgb,ih];constructor
   ·rintro(rfl|⟨j,h1,h2,h3,h4⟩)
    ·exact⟨i,zl _,by omega,h,rfl⟩
    ·exact⟨j,by omega,by omega,h3,h4⟩
   ·rintro⟨j,h1,h2,h3,h4⟩;by_cases e:j=i
    ·exact .inl (e ▸ h4)
    ·exact .inr ⟨j,by omega,by omega,h3,h4⟩
  next h=>
   rw[ih];constructor
   ·rintro⟨j,h1,h2,h3,h4⟩;exact⟨j,by omega,by omega,h3,h4⟩
   ·rintro⟨j,h1,h2,h3,h4⟩;by_cases e:j=i
    ·exact absurd (e ▸ h3) h
    ·exact⟨j,by omega,by omega,h3,h4⟩
theorem subF_pw (W:Wd) (e:En) (u:Spot):∀ (n i:Nat),(subF W e u n i).Pairwise fun a b=>a.ix≠b.ix
 | 0,i=>List.Pairwise.nil
 | n+1,i=>by
  simp only[subF];split
  ·refine List.Pairwise.cons (fun b hb => ?_) (subF_pw W e u n (i+1));obtain⟨j,h1,-,-,rfl⟩:=subF_mem.1 hb;simp only[subE,ne_eq,List.append_cancel_left_eq,List.cons.injEq,and_true];omega
  ·exact subF_pw W e u n (i+1)
theorem subsL_mem {e x:En}:x∈subsL W e↔∃ i,Embd W e.to i∧x=⟨subT W e.to i,e.ix++[i],e.ind||subP W e.to i,e.mul⟩:=by
 unfold subsL Embd;split
 next h=>
  rw[subF_mem];constructor
  ·rintro⟨j,-,h1,h2,h3⟩;exact⟨j,⟨h,by omega,h2⟩,h3⟩
  ·rintro⟨j,⟨-,h1,h2⟩,h3⟩;exact⟨j,Nat.zero_le _,by omega,h2,h3⟩
 next h=>
  simp only[List.not_mem_nil,false_iff];rintro⟨j,⟨h1,-⟩,-⟩;exact h h1
theorem subsL_pw (W:Wd) (e:En):(subsL W e).Pairwise fun a b=>a.ix≠b.ix:=by
 unfold subsL;split
 ·exact subF_pw ..
 ·exact List.Pairwise.nil
theorem flds_none {u:Spot}:∀ {n i:Nat} {nx:List En},ownF W q m u n i=[]→flds W q m e u n i (none,nx) = .ok (none,nx++subF W e u n i)
 | 0,i,nx,h=>by simp[flds,subF]
 | n+1,i,nx,h=>by
  simp only[ownF] at h;split at h
  ·cases h
  next hs=>
   simp only[flds,fldS,if_neg hs,subF,Option.isNone_none,Bool.true_and];split
   next st hst=>
    split at hst
    next he=>cases hst;rw[flds_none h,List.append_assoc,if_pos he];rfl
    next he=>cases hst;rw[if_neg he];exact flds_none h
   next x hst=>split at hst <;> cases hst
theorem entS_none {nx:List En} (h:ownL W q m e.to=[]):entS W q m e (none,nx) = .ok (none,nx++subsL W e):=by
 unfold ownL at h;unfold entS;split at h
 ·cases h
 next hd=>
  rw[hd];unfold ownT at h;simp only[typS,subsL];split at h
  next h4=>rw[if_pos h4,if_pos h4];exact flds_none h
  next h4=>
   rw[if_neg h4,if_neg h4,List.append_nil];split at h
   next h5=>
    rw[if_pos h5];split at h
    ·cases h
    next hi=>rw[hi]
   next h5=>rw[if_neg h5]
theorem ents_none {q m:Int}:∀ {l:List En} {S:List Nat} {nx:List En},(∀ e∈l,ownL W q m e.to=[])→ents W q m l (none,nx) S = .ok ((none,nx++(frs l S).flatMap (subsL W)),seenL l S)
 | [],S,nx,_=>by simp[ents,frs,seenL]
 | e::r,S,nx,h=>by
  simp only[ents,frs,seenL];split
  ·exact ents_none fun x hx=>h x (.tail _ hx)
  ·rw[entS_none (h e (.head _))];simp only;rw[ents_none fun x hx=>h x (.tail _ hx),List.flatMap_cons,List.append_assoc]
theorem frs_sub:∀ (l:List En) (S:List Nat),(frs l S).Sublist l
 | [],_=>List.Sublist.refl _
 | e::r,S=>by
  simp only[frs];split
  ·exact(frs_sub r S).cons _
  ·exact(frs_sub r _).cons_cons _
theorem frs_in:∀ {l:List En} {S:List Nat},(l.Pairwise fun a b=>a.to.of.kind=1→b.to.of.kind=1→a.to.of.num.toNat≠b.to.of.num.toNat)→∀ {e:En},e∈l→e∈frs l S∨(e.to.of.kind=1∧e.to.of.num.toNat∈S)
 | x::r,S,hp,e,he=>by
  obtain⟨h1,h2⟩:=List.pairwise_cons.1 hp;simp only[frs];split
  next hs=>
   rcases zgb.1 he with rfl|he
   ·exact .inr hs
   ·exact frs_in h2 he
  next hs=>
   rcases zgb.1 he with rfl|he
   ·exact .inl (.head _)
   ·rcases frs_in (S:=if x.to.of.kind=1 then S++[x.to.of.num.toNat] else S) h2 he with h|⟨h3,h4⟩
    ·exact .inl (.tail _ h)
    ·refine .inr ⟨h3,?_⟩;split at h4
     next hk=>
      rcases zib.1 h4 with h4|h4
      ·exact h4
      ·exact absurd (zfb.1 h4).symm (h1 e he hk h3)
     ·exact h4
theorem seenL_in:∀ {l:List En} {S:List Nat} {d:Nat},d∈seenL l S→d∈S∨∃ e∈l,e.to.of.kind=1∧e.to.of.num.toNat=d
 | [],S,d,h => .inl h
 | x::r,S,d,h=>by
  simp only[seenL] at h;split at h
  ·rcases seenL_in h with h|⟨e,h1,h2⟩
   ·exact .inl h
   ·exact .inr ⟨e,.tail _ h1,h2⟩
  ·rcases seenL_in h with h|⟨e,h1,h2⟩
   ·split at h
    next hk=>
     rcases zib.1 h with h|h
     ·exact .inl h
     ·exact .inr ⟨x,.head _,hk,(zfb.1 h).symm⟩
    ·exact .inl h
   ·exact .inr ⟨e,.tail _ h1,h2⟩
