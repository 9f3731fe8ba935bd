import Derived.Test.YtmfhclggkjjcdaaGreatDoorL24
import Derived.Test.YtmfhclggkjjcdaaGreatDoorL07
set_option linter.all false
set_option maxHeartbeats 8000000
namespace Go.Proofs.YtmfhclggkjjcdaaGreatDoor
open Go Go.RowKit
variable {W:Wd} {q m:Int} {e:En} {L:Nat}
theorem qpk (W:Wd) (s:Spot) (addr:Bool) (q:Int):qhf W s addr q 8=⟨none,[],false⟩:=by
 unfold qhf;rw[if_pos rfl]
theorem qp7 (W:Wd) (s:Spot) (addr:Bool) (q:Int):qch W s addr q 8=⟨none,[],false⟩:=by
 unfold qch;simp only[qpk];split <;> rfl
def En.ahead (e:En):En:={ e with ind:=true }
def Hi.ahead (h:Hi):Hi:={ h with ind:=true }
theorem qt8 {s:Spot} {addr:Bool} (hm:m≠8) (hp:(plain W s).of.kind≠2):qhf W s addr q m=lvs W addr q m (qj2 W) [⟨pl W s,[],false,false⟩] []:=by
 unfold qhf;have e:drf W s=(s,false):=by unfold drf;rw[if_neg hp]
 rw[if_neg hm,e,if_neg (by simp)]
theorem kind_plain (hB:qcp W) {s:Spot} (hs:qdw W s) (h:(under W s).of.kind≠2):(plain W s).of.kind≠2:=fun e=>h (by
 rw[← qfm hB hs,qdu (by omega)];exact e)
structure Pk0 (W:Wd):Prop where
 pk:∀ d,(dc W d).pkg=0
theorem qnk (h:Pk0 W):∀ (n:Nat) (s:Spot),s.pkg=0→(qb9 W n s).pkg=0
 | 0,s,hs=>hs
 | n+1,s,hs=>by
  simp only[qb9];split
  ·exact qnk h n _ (h.pk _)
  ·exact hs
theorem qwh (h:Pk0 W) {s:Spot} (hs:s.pkg=0):(under W s).pkg=0:=qnk h _ s hs
theorem MS.pk (h:Pk0 W) {s:Spot} {l:List Mn} (hl:MS W s l):s.pkg=0→∀ m∈l,m.p=0:=by
 induction hl with
 | mk s ls hl _ ih=>
  intro hs m hm;rcases qgq (qka hm) with hm|⟨l,h1,h2⟩
  ·rcases qf2 hm with hm|hm
   ·cases hm
   ·unfold expl at hm;obtain⟨k,-,rfl⟩:=zkb.1 hm;exact hs
  ·obtain⟨i,hi,rfl⟩:=List.getElem_of_mem h1;exact ih i hi (qwh h hs) m h2
def StB (L:Nat) (st:Option Hi×List En):Prop:=(∀ h,st.1=some h→h.ix.length≤L)∧∀ x∈st.2,x.ix.length≤L
def RB (L:Nat):Stp (Option Hi×List En)→Prop
 | .ok st=>StB L st
 | .error x=>x.length≤L
def HB (L:Nat):Stp (Option Hi)→Prop
 | .ok h=>∀ x,h=some x→x.ix.length≤L
 | .error x=>x.length≤L
theorem sgHit_len (he:e.ix.length+1≤L) (h:Option Hi) (i k:Nat) (met ptr:Bool):HB L (qgu e h i k met ptr):=by
 unfold qgu;split
 ·simp only[HB,List.length_append,List.length_singleton];exact he
 ·intro x hx;cases hx;simp only[List.length_append,List.length_singleton];exact he
theorem fldS_len (he:e.ix.length+1≤L) (u:Spot) (i:Nat) {st:Option Hi×List En} (hs:StB L st):RB L (fldS W q m e u i st):=by
 unfold fldS;split
 ·have h1:=sgHit_len he st.1 i (qe0 u i) false false;cases hg:qgu e st.1 i (qe0 u i) false false with
  | ok h=>rw[hg] at h1;exact⟨h1,hs.2⟩
  | error x=>rw[hg] at h1;exact h1
 ·split
  ·refine⟨hs.1,fun x hx => ?_⟩;rcases zib.1 hx with hx|hx
   ·exact hs.2 x hx
   ·rw[zfb.1 hx];simp only[subE,List.length_append,List.length_singleton];exact he
  ·exact hs
theorem flds_len (he:e.ix.length+1≤L) (u:Spot):∀ (n i:Nat) {st:Option Hi×List En},StB L st→RB L (flds W q m e u n i st)
 | 0,_,_,hs=>hs
 | n+1,i,st,hs=>by
  have h1:=fldS_len (W:=W) (q:=q) (m:=m) he u i hs;simp only[flds];cases hg:fldS W q m e u i st with
  | ok st'=>rw[hg] at h1;exact flds_len he u n (i+1) h1
  | error x=>rw[hg] at h1;exact h1
theorem typS_len (he:e.ix.length+1≤L) {st:Option Hi×List En} (hs:StB L st):RB L (typS W q m e st):=by
 unfold typS;split
 ·exact flds_len he _ _ _ hs
 ·split
  ·cases qhz (qih (msL W (under W e.to))) q m with
   | none=>exact hs
   | some i=>
    have h1:=sgHit_len he st.1 i ((msL W (under W e.to)).getD i mn0).k true false;dsimp only;cases hg:qgu e st.1 i ((msL W (under W e.to)).getD i mn0).k true false with
    | ok h=>rw[hg] at h1;exact⟨h1,hs.2⟩
    | error x=>rw[hg] at h1;exact h1
  ·exact hs
theorem entS_len (he:e.ix.length+1≤L) {st:Option Hi×List En} (hs:StB L st):RB L (entS W q m e st):=by
 unfold entS;cases (if e.to.of.kind=1 then qey W e.to.of.num.toNat q m else none) with
 | none=>exact typS_len he hs
 | some i=>
  have h1:=sgHit_len he st.1 i (start W e.to.of.num.toNat+i) true ((dc W e.to.of.num.toNat).methods.getD i ⟨0,false⟩).ptr;dsimp only;cases hg:qgu e st.1 i (start W e.to.of.num.toNat+i) true ((dc W e.to.of.num.toNat).methods.getD i ⟨0,false⟩).ptr with
  | ok h=>rw[hg] at h1;exact⟨h1,hs.2⟩
  | error x=>rw[hg] at h1;exact h1
def EB (L:Nat):Stp ((Option Hi×List En)×List Nat)→Prop
 | .ok x=>StB L x.1
 | .error x=>x.length≤L
theorem ents_len {L:Nat}:∀ (l:List En) {st:Option Hi×List En} (S:List Nat),(∀ e∈l,e.ix.length+1≤L)→StB L st→EB L (ents W q m l st S)
 | [],_,_,_,hs=>hs
 | e::r,st,S,hl,hs=>by
  simp only[ents];split
  ·exact ents_len r S (fun x hx=>hl x (.tail _ hx)) hs
  ·have h1:=entS_len (W:=W) (q:=q) (m:=m) (hl e (.head _)) hs;cases hg:entS W q m e st with
   | ok st'=>rw[hg] at h1;exact ents_len r _ (fun x hx=>hl x (.tail _ hx)) h1
   | error x=>rw[hg] at h1;exact h1
theorem lvs_len {W:Wd} {addr:Bool} {q m:Int}:∀ (n:Nat) (cur:List En) (S:List Nat) (L:Nat),(∀ x∈cur,x.ix.length≤L)→(lvs W addr q m n cur S).ix.length≤L+n
 | 0,_,_,_,_=>Nat.zero_le _
 | n+1,cur,S,L,hc=>by
  have h1:=ents_len (W:=W) (q:=q) (m:=m) (L:=L+1) cur (st:=(none,[])) S (fun x hx=>by have:=hc x hx;omega) ⟨fun h e=>by simp at e,fun x hx=>by cases hx⟩;simp only[lvs];split
  ·exact Nat.zero_le _
  ·cases hg:ents W q m cur (none,[]) S with
   | error x=>rw[hg] at h1;have:x.length≤L+1:=h1;show x.length≤_;omega
   | ok r=>
    rw[hg] at h1;obtain⟨⟨h,nx⟩,S'⟩:=r;cases h with
    | none=>
     have h2:=lvs_len (W:=W) (addr:=addr) (q:=q) (m:=m) n (qbc W nx) S' (L+1) (qkc (fun x=>x.ix.length≤L+1) (fun a b e1 e2 h=>by rw[← e2];exact h) h1.2);exact Nat.le_trans h2 (by omega)
    | some h=>
     have h2:=h1.1 h rfl;dsimp only;split
     ·exact Nat.zero_le _
     ·show h.ix.length≤_;omega
theorem lookI_len (W:Wd) (s:Spot) (addr:Bool) (q m:Int):(qhf W s addr q m).ix.length≤qj2 W:=by
 unfold qhf;split
 ·exact Nat.zero_le _
 ·split
  ·exact Nat.zero_le _
  ·have:=lvs_len (W:=W) (addr:=addr) (q:=q) (m:=m) (qj2 W) [⟨pl W (drf W s).1,[],(drf W s).2,false⟩] [] 0 (fun x hx=>by rw[zfb.1 hx];exact zl _);omega
theorem lookM_len (W:Wd) (s:Spot) (addr:Bool) (q m:Int):(qch W s addr q m).ix.length≤qj2 W:=by
 unfold qch;split
 ·split
  ·exact Nat.zero_le _
  ·exact lookI_len ..
 ·exact lookI_len ..
theorem fuelW_le (h:W.length≤1048576):qj2 W≤4294967296:=by
 unfold qj2;omega
def tyA:Ty := .mk 4 0 [] [.mk 4 false ty0] [] []
theorem qp8:qch [] (operand [] tyA) false 0 4=⟨some (0,false),[0],false⟩:=by
 have hk:(operand [] tyA).of.kind=4:=rfl;have hp:plain [] (operand [] tyA)=operand [] tyA:=qbg (by rw[hk];simp);have hu:under [] (operand [] tyA)=operand [] tyA:=qdu (by rw[hk];simp);have hl:pl [] (operand [] tyA)=operand [] tyA:=by unfold pl;rw[hp,qgb (by rw[hk];simp)]
 unfold qch;rw[if_neg (by rw[hp,hk];simp),qt8 (by decide) (by rw[hp,hk];simp),hl];have e1:ents [] 0 4 [⟨operand [] tyA,[],false,false⟩] (none,[]) [] = .ok ((some ⟨0,false,false,[0],false⟩,[]),[]):=by
  simp only[ents,entS,hk];rw[if_neg (by simp)];simp only[show ¬ ((4:Int)=1) by decide,if_false];have e2:typS [] 0 4 ⟨operand [] tyA,[],false,false⟩ (none,[]) = .ok (some ⟨0,false,false,[0],false⟩,[]):=by
   unfold typS;simp only[hu];rw[if_pos hk];rfl
  rw[e2]
 show lvs [] false 0 4 (4005+1) _ []=_;simp only[lvs,e1];rfl
open Go.Proofs.Tryz
set_option maxRecDepth 100000
theorem qrq (W:Wd) (a:Option Addr) (c:Nat) (w0:World) (hW:WOk w0 W a c) (d:Int) (hd : -1≤d∧d<W.length)
  (t:Ty) (cs:List Value) (val:Bool) (w:World) (hkd:t.kind=2∨t.kind=3) (hb:t.bulk≤1048576) (ht:TyC w0 t cs) (k0:qac w0 w)
  (ih:∀ (u:Ty) (cs:List Value) (val:Bool) (w:World),u.bulk<t.bulk→TyC w0 u cs→qac w0 w→
   Calls prog 34 #[.slice a W.length c,.agg cs.toArray,.int .i64 d,.bool val] w (qb8 (qam W d val u) w)):
  Calls prog 34 #[.slice a W.length c,.agg cs.toArray,.int .i64 d,.bool val] w (qb8 (qam W d val t) w):=by
  have IH:=hid ih;clear ih;have hl:=qbk W;have hcap:=hW.cap;have hbk:=hW.bulk;have HW:=hid hW;clear hW;obtain⟨x1,d1,x2,d2,x3,d3,x4,d4,rfl,⟨q1,q2,q3,q4⟩,hik,hin,h1,h2,h3,h4,htt⟩:=ht.full;clear ht;have hsz:t.elem.length≤1048576∧t.fields.length≤1048576∧t.methods.length≤1048576∧t.embeds.length≤1048576:=by
   have:=qa3 t.elem;have:=qbv t.fields;have:=qa3 t.embeds;cases t;simp only[Ty.bulk,Ty.elem,Ty.fields,Ty.methods,Ty.embeds] at *;omega
  have Hsz:=hid hsz;clear hsz;obtain⟨hd1,hd2⟩:=hd;have hbox:qat (w.alloc (Obj.cells #[.int .i64 t.kind,.int .i64 t.num,.slice x1 t.elem.length d1,.slice x2 t.fields.length d2,.slice x3 t.methods.length d3,.slice x4 t.embeds.length d4] 54)) w.heap.size 0 [.int .i64 t.kind,.int .i64 t.num,.slice x1 t.elem.length d1,.slice x2 t.fields.length d2,.slice x3 t.methods.length d3,.slice x4 t.embeds.length d4]:=qa9 (zp (w.heap.size+1) _) (zw _) (qa8 _ _);have kb:Below w.heap.size w (w.alloc (Obj.cells #[.int .i64 t.kind,.int .i64 t.num,.slice x1 t.elem.length d1,.slice x2 t.fields.length d2,.slice x3 t.methods.length d3,.slice x4 t.embeds.length d4] 54)):=(zp _ _).alloc (zl _) _;have hws:(w.alloc (Obj.cells #[.int .i64 t.kind,.int .i64 t.num,.slice x1 t.elem.length d1,.slice x2 t.fields.length d2,.slice x3 t.methods.length d3,.slice x4 t.embeds.length d4] 54)).heap.size=w.heap.size+1:=by simp
  obtain⟨c0,c1,c2,c3,c4,c5⟩:=six hbox;simp only[Nat.zero_add] at c0 c1 c2 c3 c4 c5;have Hb:=hid hbox;have Hw:=hid hws;have hk0:(t.kind==0)=false:=by rcases hkd with h|h <;> simp[h]
  have hk1:(t.kind==1)=false:=by rcases hkd with h|h <;> simp[h]
  have Hk:=hid hkd;have hbt:Hid (1+qbt t.elem≤t.bulk):=hid (by cases t;simp only[Ty.bulk,Ty.elem];omega);cases hk2:(t.kind==2)
  all_goals
   have hk3:(t.kind==2)=false→(t.kind==3)=true:=by rcases hkd with h|h <;> simp[h]
   try have hk3:=hk3 hk2
   clear hkd;cases hh:hasB t true false false false with
   | false=>
    go_enter func34,ntmps34
    go_wp2_with (go_at_call 54;refine(qce w.heap.size t _ _ _ _ _ Hb.out (by simp) Hsz.out).mono ?_;rintro e w1 ⟨rfl,hb1⟩;rw[hh];have hz1:=zq hb1;simp only[zd,qaa] at hz1;have hc1:=(qal hb1).1;simp only[zd,qaa] at hc1;have hlt0:w.heap.size<w.heap.size+1:=zw _;have hkw:=(qac.alloc w _).trans (qac.below hb1))
    go_ret
    refine⟨_,rfl,fun hx => ?_,bel⟩;simp at hx
   | true=>
    have Hv:=hid (quo hh);cases hg1:((t.elem.length:Int)==1) with
    | false=>
     go_enter func34,ntmps34
     go_wp2_with (go_at_call 54;refine(qce w.heap.size t _ _ _ _ _ Hb.out (by simp) Hsz.out).mono ?_;rintro e w1 ⟨rfl,hb1⟩;rw[hh];have hz1:=zq hb1;simp only[zd,qaa] at hz1;have hc1:=(qal hb1).1;simp only[zd,qaa] at hc1;have hlt0:w.heap.size<w.heap.size+1:=zw _;have hkw:=(qac.alloc w _).trans (qac.below hb1))
     go_ret
     refine⟨_,rfl,fun hx => ?_,bel⟩;simp at hx
    | true=>
     have hl1:t.elem.length=1:=by have:=of_decide_eq_true hg1;omega
     have Hl1:=hid hl1;have hel:0<t.elem.length:=by omega
     obtain⟨b,o,cs,rfl,hcc,ht1⟩:=TysR.get h1 0 hel;have Ht1:=hid ht1;obtain⟨y1,g1,y2,g2,y3,g3,y4,g4,rfl,-⟩:=ht1.open;obtain⟨e0,e1,e2,e3,e4,e5⟩:=six (hcc.keep k0);simp only[Nat.zero_add,Nat.zero_mul,Nat.add_zero] at e0 e1 e2 e3 e4 e5;have hbb:=zj w _ e0;simp only at hbb;have hbb1:b<w.heap.size+1:=by omega
     have hE:t.el0=t.elem[0]:=by unfold Ty.el0;simp[hel]
     have HE:=hid hE;clear hcc ht1 hl1 hE;go_enter func34,ntmps34
     go_wp2_with (first|(go_at_call 54;refine(qce w.heap.size t _ _ _ _ _ Hb.out (by simp) Hsz.out).mono ?_;rintro e w1 ⟨rfl,hb1⟩;rw[hh];have hz1:=zq hb1;simp only[zd,qaa] at hz1;have hc1:=(qal hb1).1;simp only[zd,qaa] at hc1;have hlt0:w.heap.size<w.heap.size+1:=zw _;have hkw:=(qac.alloc w _).trans (qac.below hb1))|(go_at_call 34;refine(IH.out t.elem[0] _ false _ (by have:=qa6 t.elem 0 hel;have:=hbt.out;omega) Ht1.out (k0.trans hkw)).mono ?_;rintro e w2 ⟨b2,rfl,hp2,hb2⟩;have hz2:=zq hb2;have Hp2:=hid hp2;clear hp2))
     go_ret
     refine⟨_,rfl,fun hx => ?_,bel⟩;exact qr7 Hk.out Hv.out Hl1.out (by rw[HE.out];exact Hp2.out hx)
theorem qo2 (W:Wd) (a:Option Addr) (c:Nat) (w0:World) (d:Int)
  (t:Ty) (cs:List Value) (val:Bool) (w:World) (hkd:¬ (0≤t.kind∧t.kind≤5)) (ht:TyC w0 t cs):
  Calls prog 34 #[.slice a W.length c,.agg cs.toArray,.int .i64 d,.bool val] w (qb8 (qam W d val t) w):=by
  obtain⟨x1,d1,x2,d2,x3,d3,x4,d4,rfl,-⟩:=ht.full;have hk0:(t.kind==0)=false:=by simp;omega
  have hk1:(t.kind==1)=false:=by simp;omega
  have hk2:(t.kind==2)=false:=by simp;omega
  have hk3:(t.kind==3)=false:=by simp;omega
  have hk4:(t.kind==4)=false:=by simp;omega
  have hk5:(t.kind==5)=false:=by simp;omega
  clear hkd ht;go_enter func34,ntmps34
  go_wp2_with fail
  go_ret
  refine⟨_,rfl,fun hx => ?_,bel⟩;simp at hx
