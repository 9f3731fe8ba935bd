import Derived.Test.YtdmmpflpnnjahaaGreatDoorK24
import Derived.Test.YtdmmpflpnnjahaaGreatDoorK07
set_option linter.all false
set_option maxHeartbeats 8000000
namespace Go.Proofs.YtdmmpflpnnjahaaGreatDoor
open Go Go.RowKit
variable {W:Wd}
def En.ahead (e:En):En:={ e with ind:=true }
def Hi.ahead (h:Hi):Hi:={ h with ind:=true }
def ptrT (t:Ty):Ty := .mk 2 0 [t] [] [] []
theorem qt8 {s:Spot} {addr:Bool} {q m:Int} (hm:m≠8) (hp:(plain W s).of.kind≠2):qhf W s addr q m=lvs W addr q m (qj2 W) [⟨pl W s,[],false,false⟩] []:=by
 unfold qhf;have e:drf W s=(s,false):=by unfold drf;rw[if_neg hp]
 rw[if_neg hm,e,if_neg (by simp)]
structure Pk0 (W:Wd):Prop where
 pk:∀ d,(dc W d).pkg=0
theorem qnk (h:Pk0 W):∀ (n:Nat) (s:Spot),s.pkg=0→(qb9 W n s).pkg=0
 | 0,s,hs=>hs
 | n+1,s,hs=>by
  simp only[qb9];split
  ·exact qnk h n _ (h.pk _)
  ·exact hs
theorem qwh (h:Pk0 W) {s:Spot} (hs:s.pkg=0):(qae W s).pkg=0:=qnk h _ s hs
theorem MS.pk (h:Pk0 W) {s:Spot} {l:List Mn} (hl:MS W s l):s.pkg=0→∀ m∈l,m.p=0:=by
 induction hl with
 | mk s ls hl _ ih=>
  intro hs m hm;rcases qgq (qka hm) with hm|⟨l,h1,h2⟩
  ·rcases qf2 hm with hm|hm
   ·cases hm
   ·unfold expl at hm;obtain⟨k,-,rfl⟩:=zkb.1 hm;exact hs
  ·obtain⟨i,hi,rfl⟩:=List.getElem_of_mem h1;exact ih i hi (qwh h hs) m h2
def HB (L:Nat):Stp (Option Hi)→Prop
 | .ok h=>∀ x,h=some x→x.ix.length≤L
 | .error x=>x.length≤L
def tyA:Ty := .mk 4 0 [] [.mk 4 false ty0] [] []
theorem qp8:qch [] (operand [] tyA) false 0 4=⟨some (0,false),[0],false⟩:=by
 have hk:(operand [] tyA).of.kind=4:=rfl;have hp:plain [] (operand [] tyA)=operand [] tyA:=qbg (by rw[hk];simp);have hu:qae [] (operand [] tyA)=operand [] tyA:=qdu (by rw[hk];simp);have hl:pl [] (operand [] tyA)=operand [] tyA:=by unfold pl;rw[hp,qgb (by rw[hk];simp)]
 unfold qch;rw[if_neg (by rw[hp,hk];simp),qt8 (by decide) (by rw[hp,hk];simp),hl];have e1:ents [] 0 4 [⟨operand [] tyA,[],false,false⟩] (none,[]) [] = .ok ((some ⟨0,false,false,[0],false⟩,[]),[]):=by
  simp only[ents,entS,hk];rw[if_neg (by simp)];simp only[show ¬ ((4:Int)=1) by decide,if_false];have e2:typS [] 0 4 ⟨operand [] tyA,[],false,false⟩ (none,[]) = .ok (some ⟨0,false,false,[0],false⟩,[]):=by
   unfold typS;simp only[hu];rw[if_pos hk];rfl
  rw[e2]
 show lvs [] false 0 4 (4005+1) _ []=_;simp only[lvs,e1];rfl
open Go.Proofs.Tryz
set_option maxRecDepth 100000
theorem qrq (W:Wd) (a:Option Addr) (c:Nat) (w0:World) (hW:WOk w0 W a c) (d:Int) (hd : -1≤d∧d<W.length)
  (t:Ty) (cs:List Value) (val:Bool) (w:World) (hkd:t.kind=2∨t.kind=3) (hb:t.bulk≤1048576) (ht:TyC w0 t cs) (k0:qac w0 w)
  (ih:∀ (u:Ty) (cs:List Value) (val:Bool) (w:World),u.bulk<t.bulk→TyC w0 u cs→qac w0 w→
   Calls prog 50 #[.slice a W.length c,.agg cs.toArray,.int .i64 d,.bool val] w (qb8 (qam W d val u) w)):
  Calls prog 50 #[.slice a W.length c,.agg cs.toArray,.int .i64 d,.bool val] w (qb8 (qam W d val t) w):=by
  have IH:=hid ih;clear ih;have hl:=qbk W;have hcap:=hW.cap;have hbk:=hW.bulk;have HW:=hid hW;clear hW;obtain⟨x1,d1,x2,d2,x3,d3,x4,d4,rfl,⟨q1,q2,q3,q4⟩,hik,hin,h1,h2,h3,h4,htt⟩:=ht.full;clear ht;have hsz:t.elem.length≤1048576∧t.fields.length≤1048576∧t.methods.length≤1048576∧t.embeds.length≤1048576:=by
   have:=qa3 t.elem;have:=qbv t.fields;have:=qa3 t.embeds;cases t;simp only[Ty.bulk,Ty.elem,Ty.fields,Ty.methods,Ty.embeds] at *;omega
  have Hsz:=hid hsz;clear hsz;obtain⟨hd1,hd2⟩:=hd;have hbox:qat (w.alloc (Obj.cells #[.int .i64 t.kind,.int .i64 t.num,.slice x1 t.elem.length d1,.slice x2 t.fields.length d2,.slice x3 t.methods.length d3,.slice x4 t.embeds.length d4] 40)) w.heap.size 0 [.int .i64 t.kind,.int .i64 t.num,.slice x1 t.elem.length d1,.slice x2 t.fields.length d2,.slice x3 t.methods.length d3,.slice x4 t.embeds.length d4]:=qa9 (zp (w.heap.size+1) _) (zw _) (qa8 _ _);have kb:Below w.heap.size w (w.alloc (Obj.cells #[.int .i64 t.kind,.int .i64 t.num,.slice x1 t.elem.length d1,.slice x2 t.fields.length d2,.slice x3 t.methods.length d3,.slice x4 t.embeds.length d4] 40)):=(zp _ _).alloc (zl _) _;have hws:(w.alloc (Obj.cells #[.int .i64 t.kind,.int .i64 t.num,.slice x1 t.elem.length d1,.slice x2 t.fields.length d2,.slice x3 t.methods.length d3,.slice x4 t.embeds.length d4] 40)).heap.size=w.heap.size+1:=by simp
  obtain⟨c0,c1,c2,c3,c4,c5⟩:=six hbox;simp only[Nat.zero_add] at c0 c1 c2 c3 c4 c5;have Hb:=hid hbox;have Hw:=hid hws;have hk0:(t.kind==0)=false:=by rcases hkd with h|h <;> simp[h]
  have hk1:(t.kind==1)=false:=by rcases hkd with h|h <;> simp[h]
  have Hk:=hid hkd;have hbt:Hid (1+qbt t.elem≤t.bulk):=hid (by cases t;simp only[Ty.bulk,Ty.elem];omega);cases hk2:(t.kind==2)
  all_goals
   have hk3:(t.kind==2)=false→(t.kind==3)=true:=by rcases hkd with h|h <;> simp[h]
   try have hk3:=hk3 hk2
   clear hkd;cases hh:hasB t true false false false with
   | false=>
    go_enter func50,ntmps50
    go_wp2_with (go_at_call 95;refine(qce w.heap.size t _ _ _ _ _ Hb.out (by simp) Hsz.out).mono ?_;rintro e w1 ⟨rfl,hb1⟩;rw[hh];have hz1:=zq hb1;simp only[zd,qaa] at hz1;have hc1:=(qal hb1).1;simp only[zd,qaa] at hc1;have hlt0:w.heap.size<w.heap.size+1:=zw _;have hkw:=(qac.alloc w _).trans (qac.below hb1))
    go_ret
    refine⟨_,rfl,fun hx => ?_,bel⟩;simp at hx
   | true=>
    have Hv:=hid (quo hh);cases hg1:((t.elem.length:Int)==1) with
    | false=>
     go_enter func50,ntmps50
     go_wp2_with (go_at_call 95;refine(qce w.heap.size t _ _ _ _ _ Hb.out (by simp) Hsz.out).mono ?_;rintro e w1 ⟨rfl,hb1⟩;rw[hh];have hz1:=zq hb1;simp only[zd,qaa] at hz1;have hc1:=(qal hb1).1;simp only[zd,qaa] at hc1;have hlt0:w.heap.size<w.heap.size+1:=zw _;have hkw:=(qac.alloc w _).trans (qac.below hb1))
     go_ret
     refine⟨_,rfl,fun hx => ?_,bel⟩;simp at hx
    | true=>
     have hl1:t.elem.length=1:=by have:=of_decide_eq_true hg1;omega
     have Hl1:=hid hl1;have hel:0<t.elem.length:=by omega
     obtain⟨b,o,cs,rfl,hcc,ht1⟩:=TysR.get h1 0 hel;have Ht1:=hid ht1;obtain⟨y1,g1,y2,g2,y3,g3,y4,g4,rfl,-⟩:=ht1.open;obtain⟨e0,e1,e2,e3,e4,e5⟩:=six (hcc.keep k0);simp only[Nat.zero_add,Nat.zero_mul,Nat.add_zero] at e0 e1 e2 e3 e4 e5;have hbb:=zj w _ e0;simp only at hbb;have hbb1:b<w.heap.size+1:=by omega
     have hE:t.el0=t.elem[0]:=by unfold Ty.el0;simp[hel]
     have HE:=hid hE;clear hcc ht1 hl1 hE;go_enter func50,ntmps50
     go_wp2_with (first|(go_at_call 95;refine(qce w.heap.size t _ _ _ _ _ Hb.out (by simp) Hsz.out).mono ?_;rintro e w1 ⟨rfl,hb1⟩;rw[hh];have hz1:=zq hb1;simp only[zd,qaa] at hz1;have hc1:=(qal hb1).1;simp only[zd,qaa] at hc1;have hlt0:w.heap.size<w.heap.size+1:=zw _;have hkw:=(qac.alloc w _).trans (qac.below hb1))|(go_at_call 50;refine(IH.out t.elem[0] _ false _ (by have:=qa6 t.elem 0 hel;have:=hbt.out;omega) Ht1.out (k0.trans hkw)).mono ?_;rintro e w2 ⟨b2,rfl,hp2,hb2⟩;have hz2:=zq hb2;have Hp2:=hid hp2;clear hp2))
     go_ret
     refine⟨_,rfl,fun hx => ?_,bel⟩;exact qr7 Hk.out Hv.out Hl1.out (by rw[HE.out];exact Hp2.out hx)
theorem qo2 (W:Wd) (a:Option Addr) (c:Nat) (w0:World) (d:Int)
  (t:Ty) (cs:List Value) (val:Bool) (w:World) (hkd:¬ (0≤t.kind∧t.kind≤5)) (ht:TyC w0 t cs):
  Calls prog 50 #[.slice a W.length c,.agg cs.toArray,.int .i64 d,.bool val] w (qb8 (qam W d val t) w):=by
  obtain⟨x1,d1,x2,d2,x3,d3,x4,d4,rfl,-⟩:=ht.full;have hk0:(t.kind==0)=false:=by simp;omega
  have hk1:(t.kind==1)=false:=by simp;omega
  have hk2:(t.kind==2)=false:=by simp;omega
  have hk3:(t.kind==3)=false:=by simp;omega
  have hk4:(t.kind==4)=false:=by simp;omega
  have hk5:(t.kind==5)=false:=by simp;omega
  clear hkd ht;go_enter func50,ntmps50
  go_wp2_with fail
  go_ret
  refine⟨_,rfl,fun hx => ?_,bel⟩;simp at hx
