import Derived.Test.YtmfhclggkjjcdaaGreatDoorK29
set_option linter.all false
namespace Go.Proofs.YtmfhclggkjjcdaaGreatDoor
open Go Go.RowKit
theorem qpk (W:Wd) (s:Spot) (addr:Bool) (q:Int):qhf W s addr q 8=⟨none,[],false⟩:=by
 unfold qhf;rw[if_pos rfl]
theorem qp7 (W:Wd) (s:Spot) (addr:Bool) (q:Int):qch W s addr q 8=⟨none,[],false⟩:=by
 unfold qch;simp only[qpk];split <;> rfl
def En.ahead (e:En):En:={ e with ind:=true }
def Hi.ahead (h:Hi):Hi:={ h with ind:=true }
theorem modify_map {α β:Type} (f:α→β) (g:β→β) (g':α→α) (h:∀ a,g (f a)=f (g' a)):∀ (l:List α) (i:Nat),(l.map f).modify i g=(l.modify i g').map f
 | [],i=>by cases i <;> simp
 | a::r,0=>by simp[h]
 | a::r,i+1=>by simp[modify_map f g g' h r i]
def ptrT (t:Ty):Ty := .mk 2 0 [t] [] [] []
theorem qt8 {W:Wd} {s:Spot} {addr:Bool} {q m:Int} (hm:m≠8) (hp:(plain W s).of.kind≠2):qhf W s addr q m=lvs W addr q m (qj2 W) [⟨pl W s,[],false,false⟩] []:=by
 unfold qhf;have e:drf W s=(s,false):=by unfold drf;rw[if_neg hp]
 rw[if_neg hm,e,if_neg (by simp)]
structure Pk0 (W:Wd):Prop where
 pk:∀ d,(dc W d).pkg=0
theorem qnk {W:Wd} (h:Pk0 W):∀ (n:Nat) (s:Spot),s.pkg=0→(qb9 W n s).pkg=0
 | 0,s,hs=>hs
 | n+1,s,hs=>by
  simp only[qb9];split
  ·exact qnk h n _ (h.pk _)
  ·exact hs
theorem qwh {W:Wd} (h:Pk0 W) {s:Spot} (hs:s.pkg=0):(qae W s).pkg=0:=qnk h _ s hs
theorem MS.pk {W:Wd} (h:Pk0 W) {s:Spot} {l:List Mn} (hl:MS W s l):s.pkg=0→∀ m∈l,m.p=0:=by
 induction hl with
 | mk s ls hl _ ih=>
  intro hs m hm;rcases qgq (qka hm) with hm|⟨l,h1,h2⟩
  ·rcases qf2 hm with hm|hm
   ·cases hm
   ·unfold expl at hm;obtain⟨k,-,rfl⟩:=zkb.1 hm;exact hs
  ·obtain⟨i,hi,rfl⟩:=List.getElem_of_mem h1;exact ih i hi (qwh h hs) m h2
def StB (L:Nat) (st:Option Hi×List En):Prop:=(∀ h,st.1=some h→h.ix.length≤L)∧∀ x∈st.2,x.ix.length≤L
def RB (L:Nat):Stp (Option Hi×List En)→Prop
 | .ok st=>StB L st
 | .error x=>x.length≤L
def HB (L:Nat):Stp (Option Hi)→Prop
 | .ok h=>∀ x,h=some x→x.ix.length≤L
 | .error x=>x.length≤L
theorem sgHit_len {e:En} {L:Nat} (he:e.ix.length+1≤L) (h:Option Hi) (i k:Nat) (met ptr:Bool):HB L (qgu e h i k met ptr):=by
 unfold qgu;split
 ·simp only[HB,List.length_append,List.length_singleton];exact he
 ·intro x hx;cases hx;simp only[List.length_append,List.length_singleton];exact he
theorem fldS_len {W:Wd} {q m:Int} {e:En} {L:Nat} (he:e.ix.length+1≤L) (u:Spot) (i:Nat) {st:Option Hi×List En} (hs:StB L st):RB L (fldS W q m e u i st):=by
 unfold fldS;split
 ·have h1:=sgHit_len he st.1 i (qe0 u i) false false;cases hg:qgu e st.1 i (qe0 u i) false false with
  | ok h=>rw[hg] at h1;exact⟨h1,hs.2⟩
  | error x=>rw[hg] at h1;exact h1
 ·split
  ·refine⟨hs.1,fun x hx => ?_⟩;rcases zib.1 hx with hx|hx
   ·exact hs.2 x hx
   ·rw[zfb.1 hx];simp only[subE,List.length_append,List.length_singleton];exact he
  ·exact hs
theorem flds_len {W:Wd} {q m:Int} {e:En} {L:Nat} (he:e.ix.length+1≤L) (u:Spot):∀ (n i:Nat) {st:Option Hi×List En},StB L st→RB L (flds W q m e u n i st)
 | 0,_,_,hs=>hs
 | n+1,i,st,hs=>by
  have h1:=fldS_len (W:=W) (q:=q) (m:=m) he u i hs;simp only[flds];cases hg:fldS W q m e u i st with
  | ok st'=>rw[hg] at h1;exact flds_len he u n (i+1) h1
  | error x=>rw[hg] at h1;exact h1
theorem typS_len {W:Wd} {q m:Int} {e:En} {L:Nat} (he:e.ix.length+1≤L) {st:Option Hi×List En} (hs:StB L st):RB L (typS W q m e st):=by
 unfold typS;split
 ·exact flds_len he _ _ _ hs
 ·split
  ·cases qhz (qih (msL W (qae W e.to))) q m with
   | none=>exact hs
   | some i=>
    have h1:=sgHit_len he st.1 i ((msL W (qae W e.to)).getD i mn0).k true false;dsimp only;cases hg:qgu e st.1 i ((msL W (qae W e.to)).getD i mn0).k true false with
    | ok h=>rw[hg] at h1;exact⟨h1,hs.2⟩
    | error x=>rw[hg] at h1;exact h1
  ·exact hs
theorem entS_len {W:Wd} {q m:Int} {e:En} {L:Nat} (he:e.ix.length+1≤L) {st:Option Hi×List En} (hs:StB L st):RB L (entS W q m e st):=by
 unfold entS;cases (if e.to.of.kind=1 then qey W e.to.of.num.toNat q m else none) with
 | none=>exact typS_len he hs
 | some i=>
  have h1:=sgHit_len he st.1 i (start W e.to.of.num.toNat+i) true ((dc W e.to.of.num.toNat).methods.getD i ⟨0,false⟩).ptr;dsimp only;cases hg:qgu e st.1 i (start W e.to.of.num.toNat+i) true ((dc W e.to.of.num.toNat).methods.getD i ⟨0,false⟩).ptr with
  | ok h=>rw[hg] at h1;exact⟨h1,hs.2⟩
  | error x=>rw[hg] at h1;exact h1
def EB (L:Nat):Stp ((Option Hi×List En)×List Nat)→Prop
 | .ok x=>StB L x.1
 | .error x=>x.length≤L
theorem ents_len {W:Wd} {q m:Int} {L:Nat}:∀ (l:List En) {st:Option Hi×List En} (S:List Nat),(∀ e∈l,e.ix.length+1≤L)→StB L st→EB L (ents W q m l st S)
 | [],_,_,_,hs=>hs
 | e::r,st,S,hl,hs=>by
  simp only[ents];split
  ·exact ents_len r S (fun x hx=>hl x (.tail _ hx)) hs
  ·have h1:=entS_len (W:=W) (q:=q) (m:=m) (hl e (.head _)) hs;cases hg:entS W q m e st with
   | ok st'=>rw[hg] at h1;exact ents_len r _ (fun x hx=>hl x (.tail _ hx)) h1
   | error x=>rw[hg] at h1;exact h1
theorem lvs_len {W:Wd} {addr:Bool} {q m:Int}:∀ (n:Nat) (cur:List En) (S:List Nat) (L:Nat),(∀ x∈cur,x.ix.length≤L)→(lvs W addr q m n cur S).ix.length≤L+n
 | 0,_,_,_,_=>Nat.zero_le _
 | n+1,cur,S,L,hc=>by
  have h1:=ents_len (W:=W) (q:=q) (m:=m) (L:=L+1) cur (st:=(none,[])) S (fun x hx=>by have:=hc x hx;omega) ⟨fun h e=>by simp at e,fun x hx=>by cases hx⟩;simp only[lvs];split
  ·exact Nat.zero_le _
  ·cases hg:ents W q m cur (none,[]) S with
   | error x=>rw[hg] at h1;have:x.length≤L+1:=h1;show x.length≤_;omega
   | ok r=>
    rw[hg] at h1;obtain⟨⟨h,nx⟩,S'⟩:=r;cases h with
    | none=>
     have h2:=lvs_len (W:=W) (addr:=addr) (q:=q) (m:=m) n (qbc W nx) S' (L+1) (qkc (fun x=>x.ix.length≤L+1) (fun a b e1 e2 h=>by rw[← e2];exact h) h1.2);exact Nat.le_trans h2 (by omega)
    | some h=>
     have h2:=h1.1 h rfl;dsimp only;split
     ·exact Nat.zero_le _
     ·show h.ix.length≤_;omega
theorem lookI_len (W:Wd) (s:Spot) (addr:Bool) (q m:Int):(qhf W s addr q m).ix.length≤qj2 W:=by
 unfold qhf;split
 ·exact Nat.zero_le _
 ·split
  ·exact Nat.zero_le _
  ·have:=lvs_len (W:=W) (addr:=addr) (q:=q) (m:=m) (qj2 W) [⟨pl W (drf W s).1,[],(drf W s).2,false⟩] [] 0 (fun x hx=>by rw[zfb.1 hx];exact zl _);omega
theorem lookM_len (W:Wd) (s:Spot) (addr:Bool) (q m:Int):(qch W s addr q m).ix.length≤qj2 W:=by
 unfold qch;split
 ·split
  ·exact Nat.zero_le _
  ·exact lookI_len ..
 ·exact lookI_len ..
theorem fuelW_le {W:Wd} (h:W.length≤1048576):qj2 W≤4294967296:=by
 unfold qj2;omega
def tyA:Ty := .mk 4 0 [] [.mk 4 false ty0] [] []
theorem qp8:qch [] (operand [] tyA) false 0 4=⟨some (0,false),[0],false⟩:=by
 have hk:(operand [] tyA).of.kind=4:=rfl;have hp:plain [] (operand [] tyA)=operand [] tyA:=qbg (by rw[hk];simp);have hu:qae [] (operand [] tyA)=operand [] tyA:=qdu (by rw[hk];simp);have hl:pl [] (operand [] tyA)=operand [] tyA:=by unfold pl;rw[hp,qgb (by rw[hk];simp)]
 unfold qch;rw[if_neg (by rw[hp,hk];simp),qt8 (by decide) (by rw[hp,hk];simp),hl];have e1:ents [] 0 4 [⟨operand [] tyA,[],false,false⟩] (none,[]) [] = .ok ((some ⟨0,false,false,[0],false⟩,[]),[]):=by
  simp only[ents,entS,hk];rw[if_neg (by simp)];simp only[show ¬ ((4:Int)=1) by decide,if_false];have e2:typS [] 0 4 ⟨operand [] tyA,[],false,false⟩ (none,[]) = .ok (some ⟨0,false,false,[0],false⟩,[]):=by
   unfold typS;simp only[hu];rw[if_pos hk];rfl
  rw[e2]
 show lvs [] false 0 4 (4005+1) _ []=_;simp only[lvs,e1];rfl
