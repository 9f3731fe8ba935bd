import Derived.Test.YtmfhclggkjjcdaaGreatDoorL30
set_option linter.all false
set_option maxHeartbeats 8000000
namespace Go.Proofs.YtmfhclggkjjcdaaGreatDoor
open Go Go.RowKit Go.Proofs.Tryz
set_option maxRecDepth 100000
variable {W:Wd} {d:Int} {t:Ty}
def FdOk (W:Wd) (d:Int) (val:Bool) (f:Fd):Prop:=IsNm f.name∧(f.embedded=true→f.name=0∧qdb f.of)∧qam W d val f.of
theorem qlq {val:Bool}:∀ {l:List Fd},(∀ k (hk:k<l.length),FdOk W d val l[k])→qby W d val l
 | [],_=>by simp[qby]
 | .mk n e t::r,h=>by
  simp only[qby];exact⟨h 0 (by simp),qlq fun k hk=>h (k+1) (by simpa using hk)⟩
theorem qmw {val:Bool} (hk:t.kind=4) (h:t.num=0∧t.elem=[]∧t.methods=[]∧t.embeds=[]) (h1:∀ k (hk:k<t.fields.length),FdOk W d val t.fields[k]):qam W d val t:=by
 cases t;simp only[Ty.kind,Ty.elem,Ty.fields,Ty.methods,Ty.embeds,Ty.num] at *;simp only[qam];exact .inr (.inr (.inr (.inl ⟨hk,h.1,h.2.1,h.2.2.1,h.2.2.2,qlq h1⟩)))
def MsOk (l:List Meth):Prop:=∀ m∈l,IsNm m.name∧m.name≠8∧m.ptr=false
theorem qk8 {d:Int}:∀ {l:List Ty},(∀ k (hk:k<l.length),(l[k].kind=1∨l[k].kind=5)∧qam W d true l[k])→qbi W d l
 | [],_=>by simp[qbi]
 | t::r,h=>by
  simp only[qbi];exact⟨h 0 (by simp),qk8 fun k hk=>h (k+1) (by simpa using hk)⟩
theorem qn5 {val:Bool} (hk:t.kind=5) (h:t.num=0∧t.elem=[]∧t.fields=[]) (h1:MsOk t.methods) (h2:∀ k (hk:k<t.embeds.length),(t.embeds[k].kind=1∨t.embeds[k].kind=5)∧qam W d true t.embeds[k]):qam W d val t:=by
 cases t;simp only[Ty.kind,Ty.elem,Ty.fields,Ty.methods,Ty.embeds,Ty.num] at *;simp only[qam];exact .inr (.inr (.inr (.inr ⟨hk,h.1,h.2.1,h.2.2,h1,qk8 h2⟩)))
def ql3 (t:Ty):Bool:=t.kind==1||(t.kind==2&&((t.elem.length:Int)==1&&t.el0.kind==1))
theorem qny (h:ql3 t=true):qdb t:=by
 unfold ql3 at h;unfold qdb;simp only[Bool.or_eq_true,Bool.and_eq_true,beq_iff_eq] at h;rcases h with h|⟨h1,h2,h3⟩
 ·exact .inl h
 ·exact .inr ⟨h1,by omega,h3⟩
theorem qml (W:Wd) (a:Option Addr) (c:Nat) (w0:World) (hW:WOk w0 W a c) (d:Int) (hd : -1≤d∧d<W.length)
  (t:Ty) (cs:List Value) (val:Bool) (w:World) (hkd:t.kind=4) (hb:t.bulk≤1048576) (ht:TyC w0 t cs) (k0:qac w0 w)
  (ih:∀ (u:Ty) (cs:List Value) (val:Bool) (w:World),u.bulk<t.bulk→TyC w0 u cs→qac w0 w→
   Calls prog 34 #[.slice a W.length c,.agg cs.toArray,.int .i64 d,.bool val] w (qb8 (qam W d val u) w)):
  Calls prog 34 #[.slice a W.length c,.agg cs.toArray,.int .i64 d,.bool val] w (qb8 (qam W d val t) w):=by
  have IH:=hid ih;clear ih;have hl:=qbk W;have hcap:=hW.cap;have hbk:=hW.bulk;have HW:=hid hW;clear hW;obtain⟨x1,d1,x2,d2,x3,d3,x4,d4,rfl,⟨q1,q2,q3,q4⟩,hik,hin,h1,h2,h3,h4,htt⟩:=ht.full;clear ht;have hsz:t.elem.length≤1048576∧t.fields.length≤1048576∧t.methods.length≤1048576∧t.embeds.length≤1048576:=by
   have:=qa3 t.elem;have:=qbv t.fields;have:=qa3 t.embeds;cases t;simp only[Ty.bulk,Ty.elem,Ty.fields,Ty.methods,Ty.embeds] at *;omega
  have Hsz:=hid hsz;clear hsz;obtain⟨hd1,hd2⟩:=hd;have hbox:qat (w.alloc (Obj.cells #[.int .i64 t.kind,.int .i64 t.num,.slice x1 t.elem.length d1,.slice x2 t.fields.length d2,.slice x3 t.methods.length d3,.slice x4 t.embeds.length d4] 54)) w.heap.size 0 [.int .i64 t.kind,.int .i64 t.num,.slice x1 t.elem.length d1,.slice x2 t.fields.length d2,.slice x3 t.methods.length d3,.slice x4 t.embeds.length d4]:=qa9 (zp (w.heap.size+1) _) (zw _) (qa8 _ _);have kb:Below w.heap.size w (w.alloc (Obj.cells #[.int .i64 t.kind,.int .i64 t.num,.slice x1 t.elem.length d1,.slice x2 t.fields.length d2,.slice x3 t.methods.length d3,.slice x4 t.embeds.length d4] 54)):=(zp _ _).alloc (zl _) _;have hws:(w.alloc (Obj.cells #[.int .i64 t.kind,.int .i64 t.num,.slice x1 t.elem.length d1,.slice x2 t.fields.length d2,.slice x3 t.methods.length d3,.slice x4 t.embeds.length d4] 54)).heap.size=w.heap.size+1:=by simp
  obtain⟨c0,c1,c2,c3,c4,c5⟩:=six hbox;simp only[Nat.zero_add] at c0 c1 c2 c3 c4 c5;have Hb:=hid hbox;have Hw:=hid hws;have hk0:(t.kind==0)=false:=by simp[hkd]
  have hk1:(t.kind==1)=false:=by simp[hkd]
  have hk2:(t.kind==2)=false:=by simp[hkd]
  have hk3:(t.kind==3)=false:=by simp[hkd]
  have hk4:(t.kind==4)=true:=by simp[hkd]
  have Hk:=hid hkd;have hbt:Hid (1+qcm t.fields≤t.bulk):=hid (by cases t;simp only[Ty.bulk,Ty.fields];omega);have hfl:t.fields.length≤1048576:=Hsz.out.2.1;clear hkd h1 h3 h4;go_enter func34,ntmps34
  go_wp2_with fail
  have HO:=hid (rfl:(Obj.cells #[.int .i64 t.kind,.int .i64 t.num,.slice x1 t.elem.length d1,.slice x2 t.fields.length d2,.slice x3 t.methods.length d3,.slice x4 t.embeds.length d4] 54)=Obj.cells #[.int .i64 t.kind,.int .i64 t.num,.slice x1 t.elem.length d1,.slice x2 t.fields.length d2,.slice x3 t.methods.length d3,.slice x4 t.embeds.length d4] 54)
  generalize w.alloc (Obj.cells #[.int .i64 t.kind,.int .i64 t.num,.slice x1 t.elem.length d1,.slice x2 t.fields.length d2,.slice x3 t.methods.length d3,.slice x4 t.embeds.length d4] 54)=w2 at *
  go_loopw [106] (fun j wr=>∃ k:Nat,k≤t.fields.length∧j = .int .i64 k∧Below (w.heap.size+1) w2 wr∧Hid (∀ i (hi:i<t.fields.length),i<k→FdOk W d val t.fields[i]))
   (fun j _=>t.fields.length - (intOf j).toNat)
  case atStart=>exact⟨0,by omega,rfl,zp _ _,hid fun i hi hk=>by omega⟩
  case round=>
   obtain⟨k,hk,rfl,hbel,hok⟩:=hrel;have hK:qac w0 wr:=k0.trans ((qac.below kb).trans (qac.belowGe hbel (by omega)));have hz:=zq hbel;by_cases hlt:k<t.fields.length
   ·obtain⟨b,o,cs,rfl,hn1,hc,ht1⟩:=FdsR.get h2 k hlt;have Ht1:=hid ht1;obtain⟨y1,g1,y2,g2,y3,g3,y4,g4,rfl,⟨u1,-⟩,-,-,j1,-⟩:=ht1.full;obtain⟨e0,e1,e2,e3,e4,e5,e6,e7⟩:=qhx (hc.keep hK);simp only[Nat.zero_add] at e0 e1 e2 e3 e4 e5 e6 e7;have hbr:=zj wr _ e0;simp only at hbr;have hbr1:b<wr.heap.size+1:=by omega
    have hbkf:=qbx t.fields k hlt;have hlen:t.fields[k].of.elem.length≤1048576:=by
     have h1:=qa3 t.fields[k].of.elem;have h2:qbt t.fields[k].of.elem≤t.fields[k].of.bulk:=by cases t.fields[k].of;simp only[Ty.elem,Ty.bulk];omega
     have:=hbt.out;omega
    have HK:=hid hK;clear hc ht1 hK;cases hb1:(t.fields[k].of.kind==1) with
    | true=>
     have hnb:Hid (ql3 t.fields[k].of=true):=hid (by unfold ql3;rw[hb1];rfl);by_cases his:IsNm t.fields[k].name
     ·have His:=hid his;cases he:t.fields[k].embedded with
      | false=>
       rw[he] at e1
       go_wp2_with (first|(go_at_call 20;refine(qaz _ _ his).mono ?_;rintro e w3 ⟨rfl,hb3⟩;have hz3:=zq hb3;simp only[zd,qaa] at hz3;have hc3:=(qal hb3).1;simp only[zd,qaa] at hc3;have hlt3:wr.heap.size<wr.heap.size+1:=zw _)|(go_at_call 34;refine(IH.out t.fields[k].of _ val _ (by have:=hbt.out;omega) Ht1.out (HK.out.trans ((qac.alloc wr _).trans (qac.below hb3)))).mono ?_;rintro e w4 ⟨b4,rfl,hp4,hb4⟩;have hz4:=zq hb4;have Hp4:=hid hp4;clear hp4;cases b4))
       ·go_ret
        refine⟨_,rfl,fun hx => ?_,bel⟩;simp at hx
       ·go_roundw
        case rel=>exact⟨k+1,by omega,by go_num,bel,hid fun i hi hik=>by
         by_cases hie:i=k
         ·subst hie;exact⟨His.out,(fun h=>by rw[he] at h;cases h),Hp4.out (by simp)⟩
         ·exact hok.out i hi (by omega)⟩
        case measure=>simp[intOf];omega
      | true=>
       rw[he] at e1;cases hm:(t.fields[k].name != 0) with
       | true=>
        go_wp2_with (go_at_call 20;refine(qaz _ _ his).mono ?_;rintro e w3 ⟨rfl,hb3⟩;have hz3:=zq hb3;simp only[zd,qaa] at hz3;have hc3:=(qal hb3).1;simp only[zd,qaa] at hc3;have hlt3:wr.heap.size<wr.heap.size+1:=zw _)
        go_ret
        refine⟨_,rfl,fun hx => ?_,bel⟩;simp at hx
       | false=>
        go_wp2_with (first|(go_at_call 20;refine(qaz _ _ his).mono ?_;rintro e w3 ⟨rfl,hb3⟩;have hz3:=zq hb3;simp only[zd,qaa] at hz3;have hc3:=(qal hb3).1;simp only[zd,qaa] at hc3;have hlt3:wr.heap.size<wr.heap.size+1:=zw _)|(go_at_call 34;refine(IH.out t.fields[k].of _ val _ (by have:=hbt.out;omega) Ht1.out (HK.out.trans ((qac.alloc wr _).trans (qac.below hb3)))).mono ?_;rintro e w4 ⟨b4,rfl,hp4,hb4⟩;have hz4:=zq hb4;have Hp4:=hid hp4;clear hp4;cases b4))
        ·go_ret
         refine⟨_,rfl,fun hx => ?_,bel⟩;simp at hx
        ·go_roundw
         case rel=>exact⟨k+1,by omega,by go_num,bel,hid fun i hi hik=>by
          by_cases hie:i=k
          ·subst hie;exact⟨His.out,(fun _=>⟨by simpa using hm,qny hnb.out⟩),Hp4.out (by simp)⟩
          ·exact hok.out i hi (by omega)⟩
         case measure=>simp[intOf];omega
     ·go_wp2_with (go_at_call 20;refine(qdt _ _ his).mono ?_;rintro e w3 ⟨rfl,hb3⟩;have hz3:=zq hb3;(try simp only[zd,qaa] at hz3))
      go_ret
      refine⟨_,rfl,fun hx => ?_,bel⟩;simp at hx
    | false=>
     cases hb2:(t.fields[k].of.kind==2) with
     | false=>
      by_cases his:IsNm t.fields[k].name
      ·have His:=hid his;cases he:t.fields[k].embedded with
       | false=>
        rw[he] at e1
        go_wp2_with (first|(go_at_call 20;refine(qaz _ _ his).mono ?_;rintro e w3 ⟨rfl,hb3⟩;have hz3:=zq hb3;simp only[zd,qaa] at hz3;have hc3:=(qal hb3).1;simp only[zd,qaa] at hc3;have hlt3:wr.heap.size<wr.heap.size+1:=zw _)|(go_at_call 34;refine(IH.out t.fields[k].of _ val _ (by have:=hbt.out;omega) Ht1.out (HK.out.trans ((qac.alloc wr _).trans (qac.below hb3)))).mono ?_;rintro e w4 ⟨b4,rfl,hp4,hb4⟩;have hz4:=zq hb4;have Hp4:=hid hp4;clear hp4;cases b4))
        ·go_ret
         refine⟨_,rfl,fun hx => ?_,bel⟩;simp at hx
        ·go_roundw
         case rel=>exact⟨k+1,by omega,by go_num,bel,hid fun i hi hik=>by
          by_cases hie:i=k
          ·subst hie;exact⟨His.out,(fun h=>by rw[he] at h;cases h),Hp4.out (by simp)⟩
          ·exact hok.out i hi (by omega)⟩
         case measure=>simp[intOf];omega
       | true=>
        rw[he] at e1;cases hm:(t.fields[k].name != 0) with
        | true=>
         go_wp2_with (go_at_call 20;refine(qaz _ _ his).mono ?_;rintro e w3 ⟨rfl,hb3⟩;have hz3:=zq hb3;simp only[zd,qaa] at hz3;have hc3:=(qal hb3).1;simp only[zd,qaa] at hc3;have hlt3:wr.heap.size<wr.heap.size+1:=zw _)
         go_ret
         refine⟨_,rfl,fun hx => ?_,bel⟩;simp at hx
        | false=>
         go_wp2_with (go_at_call 20;refine(qaz _ _ his).mono ?_;rintro e w3 ⟨rfl,hb3⟩;have hz3:=zq hb3;simp only[zd,qaa] at hz3;have hc3:=(qal hb3).1;simp only[zd,qaa] at hc3;have hlt3:wr.heap.size<wr.heap.size+1:=zw _)
         go_ret
         refine⟨_,rfl,fun hx => ?_,bel⟩;simp at hx
      ·go_wp2_with (go_at_call 20;refine(qdt _ _ his).mono ?_;rintro e w3 ⟨rfl,hb3⟩;have hz3:=zq hb3;(try simp only[zd,qaa] at hz3))
       go_ret
       refine⟨_,rfl,fun hx => ?_,bel⟩;simp at hx
     | true=>
      cases hb3':((t.fields[k].of.elem.length:Int)==1) with
      | false=>
       by_cases his:IsNm t.fields[k].name
       ·have His:=hid his;cases he:t.fields[k].embedded with
        | false=>
         rw[he] at e1
         go_wp2_with (first|(go_at_call 20;refine(qaz _ _ his).mono ?_;rintro e w3 ⟨rfl,hb3⟩;have hz3:=zq hb3;simp only[zd,qaa] at hz3;have hc3:=(qal hb3).1;simp only[zd,qaa] at hc3;have hlt3:wr.heap.size<wr.heap.size+1:=zw _)|(go_at_call 34;refine(IH.out t.fields[k].of _ val _ (by have:=hbt.out;omega) Ht1.out (HK.out.trans ((qac.alloc wr _).trans (qac.below hb3)))).mono ?_;rintro e w4 ⟨b4,rfl,hp4,hb4⟩;have hz4:=zq hb4;have Hp4:=hid hp4;clear hp4;cases b4))
         ·go_ret
          refine⟨_,rfl,fun hx => ?_,bel⟩;simp at hx
         ·go_roundw
          case rel=>exact⟨k+1,by omega,by go_num,bel,hid fun i hi hik=>by
           by_cases hie:i=k
           ·subst hie;exact⟨His.out,(fun h=>by rw[he] at h;cases h),Hp4.out (by simp)⟩
           ·exact hok.out i hi (by omega)⟩
          case measure=>simp[intOf];omega
        | true=>
         rw[he] at e1;cases hm:(t.fields[k].name != 0) with
         | true=>
          go_wp2_with (go_at_call 20;refine(qaz _ _ his).mono ?_;rintro e w3 ⟨rfl,hb3⟩;have hz3:=zq hb3;simp only[zd,qaa] at hz3;have hc3:=(qal hb3).1;simp only[zd,qaa] at hc3;have hlt3:wr.heap.size<wr.heap.size+1:=zw _)
          go_ret
          refine⟨_,rfl,fun hx => ?_,bel⟩;simp at hx
         | false=>
          go_wp2_with (go_at_call 20;refine(qaz _ _ his).mono ?_;rintro e w3 ⟨rfl,hb3⟩;have hz3:=zq hb3;simp only[zd,qaa] at hz3;have hc3:=(qal hb3).1;simp only[zd,qaa] at hc3;have hlt3:wr.heap.size<wr.heap.size+1:=zw _)
          go_ret
          refine⟨_,rfl,fun hx => ?_,bel⟩;simp at hx
       ·go_wp2_with (go_at_call 20;refine(qdt _ _ his).mono ?_;rintro e w3 ⟨rfl,hb3⟩;have hz3:=zq hb3;(try simp only[zd,qaa] at hz3))
        go_ret
        refine⟨_,rfl,fun hx => ?_,bel⟩;simp at hx
      | true=>
       have hel:0<t.fields[k].of.elem.length:=by simp at hb3';omega
       obtain⟨b5,o5,cs,rfl,hc5,ht5⟩:=TysR.get j1 0 hel;obtain⟨z1,r1,z2,r2,z3,r3,z4,r4,rfl,-⟩:=ht5.open;obtain⟨s0,-⟩:=six (hc5.keep HK.out);simp only[Nat.zero_add,Nat.zero_mul,Nat.add_zero] at s0;have hbr5:=zj wr _ s0;simp only at hbr5;have hbr6:b5<wr.heap.size+1:=by omega
       have hE:Hid (t.fields[k].of.el0=t.fields[k].of.elem[0]):=hid (by unfold Ty.el0;simp[hel]);clear hc5 ht5 j1;cases hb4:(t.fields[k].of.elem[0].kind==1) with
       | false=>
        by_cases his:IsNm t.fields[k].name
        ·have His:=hid his;cases he:t.fields[k].embedded with
         | false=>
          rw[he] at e1
          go_wp2_with (first|(go_at_call 20;refine(qaz _ _ his).mono ?_;rintro e w3 ⟨rfl,hb3⟩;have hz3:=zq hb3;simp only[zd,qaa] at hz3;have hc3:=(qal hb3).1;simp only[zd,qaa] at hc3;have hlt3:wr.heap.size<wr.heap.size+1:=zw _)|(go_at_call 34;refine(IH.out t.fields[k].of _ val _ (by have:=hbt.out;omega) Ht1.out (HK.out.trans ((qac.alloc wr _).trans (qac.below hb3)))).mono ?_;rintro e w4 ⟨b4,rfl,hp4,hb4⟩;have hz4:=zq hb4;have Hp4:=hid hp4;clear hp4;cases b4))
          ·go_ret
           refine⟨_,rfl,fun hx => ?_,bel⟩;simp at hx
          ·go_roundw
           case rel=>exact⟨k+1,by omega,by go_num,bel,hid fun i hi hik=>by
            by_cases hie:i=k
            ·subst hie;exact⟨His.out,(fun h=>by rw[he] at h;cases h),Hp4.out (by simp)⟩
            ·exact hok.out i hi (by omega)⟩
           case measure=>simp[intOf];omega
         | true=>
          rw[he] at e1;cases hm:(t.fields[k].name != 0) with
          | true=>
           go_wp2_with (go_at_call 20;refine(qaz _ _ his).mono ?_;rintro e w3 ⟨rfl,hb3⟩;have hz3:=zq hb3;simp only[zd,qaa] at hz3;have hc3:=(qal hb3).1;simp only[zd,qaa] at hc3;have hlt3:wr.heap.size<wr.heap.size+1:=zw _)
           go_ret
           refine⟨_,rfl,fun hx => ?_,bel⟩;simp at hx
          | false=>
           go_wp2_with (go_at_call 20;refine(qaz _ _ his).mono ?_;rintro e w3 ⟨rfl,hb3⟩;have hz3:=zq hb3;simp only[zd,qaa] at hz3;have hc3:=(qal hb3).1;simp only[zd,qaa] at hc3;have hlt3:wr.heap.size<wr.heap.size+1:=zw _)
           go_ret
           refine⟨_,rfl,fun hx => ?_,bel⟩;simp at hx
        ·go_wp2_with (go_at_call 20;refine(qdt _ _ his).mono ?_;rintro e w3 ⟨rfl,hb3⟩;have hz3:=zq hb3;(try simp only[zd,qaa] at hz3))
         go_ret
         refine⟨_,rfl,fun hx => ?_,bel⟩;simp at hx
       | true=>
        have hnb:Hid (ql3 t.fields[k].of=true):=hid (by unfold ql3;rw[hb1,hb2,hb3',hE.out,hb4];rfl);by_cases his:IsNm t.fields[k].name
        ·have His:=hid his;cases he:t.fields[k].embedded with
         | false=>
          rw[he] at e1
          go_wp2_with (first|(go_at_call 20;refine(qaz _ _ his).mono ?_;rintro e w3 ⟨rfl,hb3⟩;have hz3:=zq hb3;simp only[zd,qaa] at hz3;have hc3:=(qal hb3).1;simp only[zd,qaa] at hc3;have hlt3:wr.heap.size<wr.heap.size+1:=zw _)|(go_at_call 34;refine(IH.out t.fields[k].of _ val _ (by have:=hbt.out;omega) Ht1.out (HK.out.trans ((qac.alloc wr _).trans (qac.below hb3)))).mono ?_;rintro e w4 ⟨b4,rfl,hp4,hb4⟩;have hz4:=zq hb4;have Hp4:=hid hp4;clear hp4;cases b4))
          ·go_ret
           refine⟨_,rfl,fun hx => ?_,bel⟩;simp at hx
          ·go_roundw
           case rel=>exact⟨k+1,by omega,by go_num,bel,hid fun i hi hik=>by
            by_cases hie:i=k
            ·subst hie;exact⟨His.out,(fun h=>by rw[he] at h;cases h),Hp4.out (by simp)⟩
            ·exact hok.out i hi (by omega)⟩
           case measure=>simp[intOf];omega
         | true=>
          rw[he] at e1;cases hm:(t.fields[k].name != 0) with
          | true=>
           go_wp2_with (go_at_call 20;refine(qaz _ _ his).mono ?_;rintro e w3 ⟨rfl,hb3⟩;have hz3:=zq hb3;simp only[zd,qaa] at hz3;have hc3:=(qal hb3).1;simp only[zd,qaa] at hc3;have hlt3:wr.heap.size<wr.heap.size+1:=zw _)
           go_ret
           refine⟨_,rfl,fun hx => ?_,bel⟩;simp at hx
          | false=>
           go_wp2_with (first|(go_at_call 20;refine(qaz _ _ his).mono ?_;rintro e w3 ⟨rfl,hb3⟩;have hz3:=zq hb3;simp only[zd,qaa] at hz3;have hc3:=(qal hb3).1;simp only[zd,qaa] at hc3;have hlt3:wr.heap.size<wr.heap.size+1:=zw _)|(go_at_call 34;refine(IH.out t.fields[k].of _ val _ (by have:=hbt.out;omega) Ht1.out (HK.out.trans ((qac.alloc wr _).trans (qac.below hb3)))).mono ?_;rintro e w4 ⟨b4,rfl,hp4,hb4⟩;have hz4:=zq hb4;have Hp4:=hid hp4;clear hp4;cases b4))
           ·go_ret
            refine⟨_,rfl,fun hx => ?_,bel⟩;simp at hx
           ·go_roundw
            case rel=>exact⟨k+1,by omega,by go_num,bel,hid fun i hi hik=>by
             by_cases hie:i=k
             ·subst hie;exact⟨His.out,(fun _=>⟨by simpa using hm,qny hnb.out⟩),Hp4.out (by simp)⟩
             ·exact hok.out i hi (by omega)⟩
            case measure=>simp[intOf];omega
        ·go_wp2_with (go_at_call 20;refine(qdt _ _ his).mono ?_;rintro e w3 ⟨rfl,hb3⟩;have hz3:=zq hb3;(try simp only[zd,qaa] at hz3))
         go_ret
         refine⟨_,rfl,fun hx => ?_,bel⟩;simp at hx
   ·obtain rfl:k=t.fields.length:=by omega
    cases hh:hasB t false true false false with
    | false=>
     go_wp2_with (go_at_call 54;refine(qce w.heap.size t _ _ _ _ _ (Hb.out.keep (qac.belowGe hbel (by omega))) (by simp) Hsz.out).mono ?_;rintro e w1 ⟨rfl,hb1⟩;rw[hh];have hz1:=zq hb1)
     go_ret
     refine⟨_,rfl,fun hx => ?_,bel⟩;simp at hx
    | true=>
     have Hv:=hid (qpb hh)
     go_wp2_with (go_at_call 54;refine(qce w.heap.size t _ _ _ _ _ (Hb.out.keep (qac.belowGe hbel (by omega))) (by simp) Hsz.out).mono ?_;rintro e w1 ⟨rfl,hb1⟩;rw[hh];have hz1:=zq hb1)
     go_ret
     refine⟨_,rfl,fun hx => ?_,bel⟩;exact qmw Hk.out Hv.out fun i hi=>hok.out i hi hi
