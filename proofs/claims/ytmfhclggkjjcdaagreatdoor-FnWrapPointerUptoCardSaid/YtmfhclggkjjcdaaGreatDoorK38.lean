import Derived.Test.YtmfhclggkjjcdaaGreatDoorK37
set_option linter.all false
set_option maxHeartbeats 8000000
namespace Go.Proofs.YtmfhclggkjjcdaaGreatDoor
open Go Go.RowKit
set_option maxRecDepth 100000
theorem qns (W:Wd) (a:Option Addr) (c:Nat) (w0:World) (hW:WOk w0 W a c) (d:Int) (hd : -1≤d∧d<W.length)
  (t:Ty) (cs:List Value) (val:Bool) (w:World) (hkd:t.kind=5) (hb:t.bulk≤1048576) (ht:TyC w0 t cs) (k0:qac w0 w)
  (ih:∀ (u:Ty) (cs:List Value) (val:Bool) (w:World),u.bulk<t.bulk→TyC w0 u cs→qac w0 w→
   Calls Tryz.prog 34 #[.slice a W.length c,.agg cs.toArray,.int .i64 d,.bool val] w (qb8 (qam W d val u) w)):
  Calls Tryz.prog 34 #[.slice a W.length c,.agg cs.toArray,.int .i64 d,.bool val] w (qb8 (qam W d val t) w):=by
  have IH:=hid ih;clear ih;have hl:=qbk W;have hcap:=hW.cap;have hbk:=hW.bulk;have HW:=hid hW;clear hW;obtain⟨x1,d1,x2,d2,x3,d3,x4,d4,rfl,⟨q1,q2,q3,q4⟩,hik,hin,h1,h2,h3,h4,htt⟩:=ht.full;clear ht;have hsz:t.elem.length≤1048576∧t.fields.length≤1048576∧t.methods.length≤1048576∧t.embeds.length≤1048576:=by
   have:=qa3 t.elem;have:=qbv t.fields;have:=qa3 t.embeds;cases t;simp only[Ty.bulk,Ty.elem,Ty.fields,Ty.methods,Ty.embeds] at *;omega
  have Hsz:=hid hsz;clear hsz;obtain⟨hd1,hd2⟩:=hd;have hbox:qat (w.alloc (Obj.cells #[.int .i64 t.kind,.int .i64 t.num,.slice x1 t.elem.length d1,.slice x2 t.fields.length d2,.slice x3 t.methods.length d3,.slice x4 t.embeds.length d4] 54)) w.heap.size 0 [.int .i64 t.kind,.int .i64 t.num,.slice x1 t.elem.length d1,.slice x2 t.fields.length d2,.slice x3 t.methods.length d3,.slice x4 t.embeds.length d4]:=qa9 (zp (w.heap.size+1) _) (zw _) (qa8 _ _);have kb:Below w.heap.size w (w.alloc (Obj.cells #[.int .i64 t.kind,.int .i64 t.num,.slice x1 t.elem.length d1,.slice x2 t.fields.length d2,.slice x3 t.methods.length d3,.slice x4 t.embeds.length d4] 54)):=(zp _ _).alloc (zl _) _;have hws:(w.alloc (Obj.cells #[.int .i64 t.kind,.int .i64 t.num,.slice x1 t.elem.length d1,.slice x2 t.fields.length d2,.slice x3 t.methods.length d3,.slice x4 t.embeds.length d4] 54)).heap.size=w.heap.size+1:=by simp
  obtain⟨c0,c1,c2,c3,c4,c5⟩:=six hbox;simp only[Nat.zero_add] at c0 c1 c2 c3 c4 c5;have Hb:=hid hbox;have Hw:=hid hws;have hk0:(t.kind==0)=false:=by simp[hkd]
  have hk1:(t.kind==1)=false:=by simp[hkd]
  have hk2:(t.kind==2)=false:=by simp[hkd]
  have hk3:(t.kind==3)=false:=by simp[hkd]
  have hk4:(t.kind==4)=false:=by simp[hkd]
  have hk5:(t.kind==5)=true:=by simp[hkd]
  have Hk:=hid hkd;have hbt:Hid (1+qbt t.embeds≤t.bulk):=hid (by cases t;simp only[Ty.bulk,Ty.embeds];omega);have hml:t.methods.length≤1048576:=Hsz.out.2.2.1;have hel:t.embeds.length≤1048576:=Hsz.out.2.2.2;clear hkd h1 h2;go_enter Tryz.func34,Tryz.ntmps34
  go_wp2_with fail
  generalize w.alloc (Obj.cells #[.int .i64 t.kind,.int .i64 t.num,.slice x1 t.elem.length d1,.slice x2 t.fields.length d2,.slice x3 t.methods.length d3,.slice x4 t.embeds.length d4] 54)=w2 at *
  go_loopw [170] (fun j wr=>∃ k:Nat,k≤t.methods.length∧j = .int .i64 k∧Below (w.heap.size+1) w2 wr∧Hid (∀ i (hi:i<t.methods.length),i<k→IsNm t.methods[i].name∧t.methods[i].name≠8∧t.methods[i].ptr=false))
   (fun j _=>t.methods.length - (intOf j).toNat)
  case atStart=>exact⟨0,by omega,rfl,zp _ _,hid fun i hi hk=>by omega⟩
  case round=>
   obtain⟨k,hk,rfl,hbel,hok⟩:=hrel;have hK:qac w0 wr:=k0.trans ((qac.below kb).trans (qac.belowGe hbel (by omega)));have hz:=zq hbel;by_cases hlt:k<t.methods.length
   ·obtain⟨b,o,rfl,hn1,hc⟩:=MsR.get h3 k hlt;have e0:=(hc.keep hK) 0 _ rfl;have e1:=(hc.keep hK) 1 _ rfl;simp only[Nat.zero_add,Nat.add_zero] at e0 e1;have hbr:=zj wr _ e0;simp only at hbr;have hbr1:b<wr.heap.size+1:=by omega
    clear hc hK;by_cases his:IsNm t.methods[k].name
    ·have His:=hid his;cases h8:(t.methods[k].name==8) with
     | true=>
      go_wp2_with (go_at_call 20;refine(qaz _ _ his).mono ?_;rintro e w3 ⟨rfl,hb3⟩;have hz3:=zq hb3;simp only[zd,qaa] at hz3;have hc3:=(qal hb3).1;simp only[zd,qaa] at hc3;have hlt3:wr.heap.size<wr.heap.size+1:=zw _)
      go_ret
      refine⟨_,rfl,fun hx => ?_,bel⟩;simp at hx
     | false=>
      cases hp:t.methods[k].ptr with
      | true=>
       rw[hp] at e1
       go_wp2_with (go_at_call 20;refine(qaz _ _ his).mono ?_;rintro e w3 ⟨rfl,hb3⟩;have hz3:=zq hb3;simp only[zd,qaa] at hz3;have hc3:=(qal hb3).1;simp only[zd,qaa] at hc3;have hlt3:wr.heap.size<wr.heap.size+1:=zw _)
       go_ret
       refine⟨_,rfl,fun hx => ?_,bel⟩;simp at hx
      | false=>
       rw[hp] at e1
       go_wp2_with (go_at_call 20;refine(qaz _ _ his).mono ?_;rintro e w3 ⟨rfl,hb3⟩;have hz3:=zq hb3;simp only[zd,qaa] at hz3;have hc3:=(qal hb3).1;simp only[zd,qaa] at hc3;have hlt3:wr.heap.size<wr.heap.size+1:=zw _)
       go_roundw
       case rel=>exact⟨k+1,by omega,by go_num,bel,hid fun i hi hik=>by
        by_cases hie:i=k
        ·subst hie;exact⟨His.out,by simpa using h8,hp⟩
        ·exact hok.out i hi (by omega)⟩
       case measure=>simp[intOf];omega
    ·go_wp2_with (go_at_call 20;refine(qdt _ _ his).mono ?_;rintro e w3 ⟨rfl,hb3⟩;have hz3:=zq hb3;simp only[zd,qaa] at hz3;have hc3:=(qal hb3).1;simp only[zd,qaa] at hc3;have hlt3:wr.heap.size<wr.heap.size+1:=zw _)
     go_ret
     refine⟨_,rfl,fun hx => ?_,bel⟩;simp at hx
   ·obtain rfl:k=t.methods.length:=by omega
    obtain⟨-,-,-,-,-,q5'⟩:=six (Hb.out.keep (qac.belowGe hbel (by omega)));simp only[Nat.zero_add] at q5';clear hlt hK
    go_wp2_with fail
    go_loopw [191] (fun j wr=>∃ k:Nat,k≤t.embeds.length∧j = .int .i64 k∧Below (w.heap.size+1) w2 wr∧Hid (∀ i (hi:i<t.embeds.length),i<k→(t.embeds[i].kind=1∨t.embeds[i].kind=5)∧qam W d true t.embeds[i]))
     (fun j _=>t.embeds.length - (intOf j).toNat)
    case atStart=>exact⟨0,by omega,rfl,hbel,hid fun i hi hk=>by omega⟩
    clear hbel q5' hz hk
    case round=>
     obtain⟨k,hk,rfl,hbel,hok2⟩:=hrel;have hK:qac w0 wr:=k0.trans ((qac.below kb).trans (qac.belowGe hbel (by omega)));have hz:=zq hbel;by_cases hlt:k<t.embeds.length
     ·obtain⟨b,o,cs,rfl,hc,ht1⟩:=TysR.get h4 k hlt;have Ht1:=hid ht1;obtain⟨y1,g1,y2,g2,y3,g3,y4,g4,rfl,-⟩:=ht1.open;obtain⟨e0,e1,e2,e3,e4,e5⟩:=six (hc.keep hK);simp only[Nat.zero_add] at e0 e1 e2 e3 e4 e5;have hbr:=zj wr _ e0;simp only at hbr;have hbr1:b<wr.heap.size+1:=by omega
      have hbkf:=qa6 t.embeds k hlt;have HK:=hid hK;clear hc ht1 hK;cases hb1:(t.embeds[k].kind != 1) with
      | false=>
       go_wp2_with (go_at_call 34;refine(IH.out t.embeds[k] _ true _ (by have:=hbt.out;omega) Ht1.out (HK.out.trans (qac.alloc wr _))).mono ?_;rintro e w4 ⟨b4,rfl,hp4,hb4⟩;have hz4:=zq hb4;(try simp only[zd,qaa] at hz4);have Hp4:=hid hp4;clear hp4;cases b4)
       ·go_ret
        refine⟨_,rfl,fun hx => ?_,bel⟩;simp at hx
       ·go_roundw
        case rel=>exact⟨k+1,by omega,by go_num,bel,hid fun i hi hik=>by
         by_cases hie:i=k
         ·subst hie;exact⟨.inl (by simpa using hb1),Hp4.out (by simp)⟩
         ·exact hok2.out i hi (by omega)⟩
        case measure=>simp[intOf];omega
      | true=>
       cases hb2:(t.embeds[k].kind != 5) with
       | true=>
        go_wp2_with fail
        go_ret
        refine⟨_,rfl,fun hx => ?_,bel⟩;simp at hx
       | false=>
        go_wp2_with (go_at_call 34;refine(IH.out t.embeds[k] _ true _ (by have:=hbt.out;omega) Ht1.out (HK.out.trans (qac.alloc wr _))).mono ?_;rintro e w4 ⟨b4,rfl,hp4,hb4⟩;have hz4:=zq hb4;(try simp only[zd,qaa] at hz4);have Hp4:=hid hp4;clear hp4;cases b4)
        ·go_ret
         refine⟨_,rfl,fun hx => ?_,bel⟩;simp at hx
        ·go_roundw
         case rel=>exact⟨k+1,by omega,by go_num,bel,hid fun i hi hik=>by
          by_cases hie:i=k
          ·subst hie;exact⟨.inr (by simpa using hb2),Hp4.out (by simp)⟩
          ·exact hok2.out i hi (by omega)⟩
         case measure=>simp[intOf];omega
     ·obtain rfl:k=t.embeds.length:=by omega
      cases hh:hasB t false false true false with
      | false=>
       go_wp2_with (go_at_call 54;refine(qce w.heap.size t _ _ _ _ _ (Hb.out.keep (qac.belowGe hbel (by omega))) (by simp) Hsz.out).mono ?_;rintro e w1 ⟨rfl,hb1⟩;rw[hh];have hz1:=zq hb1)
       go_ret
       refine⟨_,rfl,fun hx => ?_,bel⟩;simp at hx
      | true=>
       have Hv:=hid (qow hh)
       go_wp2_with (go_at_call 54;refine(qce w.heap.size t _ _ _ _ _ (Hb.out.keep (qac.belowGe hbel (by omega))) (by simp) Hsz.out).mono ?_;rintro e w1 ⟨rfl,hb1⟩;rw[hh];have hz1:=zq hb1)
       go_ret
       refine⟨_,rfl,fun hx => ?_,bel⟩;exact qn5 Hk.out Hv.out (fun m hm=>by
        obtain⟨i,hi,rfl⟩:=List.getElem_of_mem hm;exact hok.out i hi hi) fun i hi=>hok2.out i hi hi
theorem qt2 (W:Wd) (a:Option Addr) (c:Nat) (w0:World) (hW:WOk w0 W a c) (d:Int) (hd : -1≤d∧d<W.length) (n:Nat):
  ∀ (t:Ty) (cs:List Value) (val:Bool) (w:World),t.bulk≤n→t.bulk≤1048576→TyC w0 t cs→qac w0 w→
  Calls Tryz.prog 34 #[.slice a W.length c,.agg cs.toArray,.int .i64 d,.bool val] w (qb8 (qam W d val t) w):=by
 induction n with
 | zero=>
  intro t cs val w h;have:=qd3 t;omega
 | succ n ih=>
  intro t cs val w h hb ht k0;have ih':∀ (u:Ty) (cs:List Value) (val:Bool) (w:World),u.bulk<t.bulk→TyC w0 u cs→qac w0 w→
    Calls Tryz.prog 34 #[.slice a W.length c,.agg cs.toArray,.int .i64 d,.bool val] w (qb8 (qam W d val u) w):=
   fun u cs val w hu=>ih u cs val w (by omega) (by omega)
  by_cases h01:t.kind=0∨t.kind=1
  ·exact quj W a c w0 hW d hd t cs val w h01 hb ht k0
  by_cases h23:t.kind=2∨t.kind=3
  ·exact qrq W a c w0 hW d hd t cs val w h23 hb ht k0 ih'
  by_cases h4:t.kind=4
  ·exact qml W a c w0 hW d hd t cs val w h4 hb ht k0 ih'
  by_cases h5:t.kind=5
  ·exact qns W a c w0 hW d hd t cs val w h5 hb ht k0 ih'
  exact qo2 W a c w0 d t cs val w (by omega) ht
theorem qgo (W:Wd) (a:Option Addr) (c:Nat) (w0:World) (hW:WOk w0 W a c) (d:Int) (hd : -1≤d∧d<W.length) (t:Ty) (cs:List Value) (val:Bool) (w:World) (hb:t.bulk≤1048576) (ht:TyC w0 t cs) (k0:qac w0 w):
  Calls Tryz.prog 34 #[.slice a W.length c,.agg cs.toArray,.int .i64 d,.bool val] w (qb8 (qam W d val t) w):=
 qt2 W a c w0 hW d hd t.bulk t cs val w (zl _) hb ht k0
