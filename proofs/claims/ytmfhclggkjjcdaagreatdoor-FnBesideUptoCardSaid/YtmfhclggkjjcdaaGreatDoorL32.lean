import Derived.Test.YtmfhclggkjjcdaaGreatDoorL31
import Derived.Test.YtmfhclggkjjcdaaGreatDoorL07
import Derived.Test.YtmfhclggkjjcdaaGreatDoorL16
import Derived.Test.YtmfhclggkjjcdaaGreatDoorL09
set_option linter.all false
set_option maxHeartbeats 8000000
namespace Go.Proofs.YtmfhclggkjjcdaaGreatDoor
open Go Go.RowKit Go.Proofs.Tryz
set_option maxRecDepth 100000
variable {W:Wd} {s:Spot} {k:Nat} {L:List Nat}
theorem qns (W:Wd) (a:Option Addr) (c:Nat) (w0:World) (hW:WOk w0 W a c) (d:Int) (hd : -1≤d∧d<W.length)
  (t:Ty) (cs:List Value) (val:Bool) (w:World) (hkd:t.kind=5) (hb:t.bulk≤1048576) (ht:TyC w0 t cs) (k0:qac w0 w)
  (ih:∀ (u:Ty) (cs:List Value) (val:Bool) (w:World),u.bulk<t.bulk→TyC w0 u cs→qac w0 w→
   Calls prog 34 #[.slice a W.length c,.agg cs.toArray,.int .i64 d,.bool val] w (qb8 (qam W d val u) w)):
  Calls prog 34 #[.slice a W.length c,.agg cs.toArray,.int .i64 d,.bool val] w (qb8 (qam W d val t) w):=by
  have IH:=hid ih;clear ih;have hl:=qbk W;have hcap:=hW.cap;have hbk:=hW.bulk;have HW:=hid hW;clear hW;obtain⟨x1,d1,x2,d2,x3,d3,x4,d4,rfl,⟨q1,q2,q3,q4⟩,hik,hin,h1,h2,h3,h4,htt⟩:=ht.full;clear ht;have hsz:t.elem.length≤1048576∧t.fields.length≤1048576∧t.methods.length≤1048576∧t.embeds.length≤1048576:=by
   have:=qa3 t.elem;have:=qbv t.fields;have:=qa3 t.embeds;cases t;simp only[Ty.bulk,Ty.elem,Ty.fields,Ty.methods,Ty.embeds] at *;omega
  have Hsz:=hid hsz;clear hsz;obtain⟨hd1,hd2⟩:=hd;have hbox:qat (w.alloc (Obj.cells #[.int .i64 t.kind,.int .i64 t.num,.slice x1 t.elem.length d1,.slice x2 t.fields.length d2,.slice x3 t.methods.length d3,.slice x4 t.embeds.length d4] 54)) w.heap.size 0 [.int .i64 t.kind,.int .i64 t.num,.slice x1 t.elem.length d1,.slice x2 t.fields.length d2,.slice x3 t.methods.length d3,.slice x4 t.embeds.length d4]:=qa9 (zp (w.heap.size+1) _) (zw _) (qa8 _ _);have kb:Below w.heap.size w (w.alloc (Obj.cells #[.int .i64 t.kind,.int .i64 t.num,.slice x1 t.elem.length d1,.slice x2 t.fields.length d2,.slice x3 t.methods.length d3,.slice x4 t.embeds.length d4] 54)):=(zp _ _).alloc (zl _) _;have hws:(w.alloc (Obj.cells #[.int .i64 t.kind,.int .i64 t.num,.slice x1 t.elem.length d1,.slice x2 t.fields.length d2,.slice x3 t.methods.length d3,.slice x4 t.embeds.length d4] 54)).heap.size=w.heap.size+1:=by simp
  obtain⟨c0,c1,c2,c3,c4,c5⟩:=six hbox;simp only[Nat.zero_add] at c0 c1 c2 c3 c4 c5;have Hb:=hid hbox;have Hw:=hid hws;have hk0:(t.kind==0)=false:=by simp[hkd]
  have hk1:(t.kind==1)=false:=by simp[hkd]
  have hk2:(t.kind==2)=false:=by simp[hkd]
  have hk3:(t.kind==3)=false:=by simp[hkd]
  have hk4:(t.kind==4)=false:=by simp[hkd]
  have hk5:(t.kind==5)=true:=by simp[hkd]
  have Hk:=hid hkd;have hbt:Hid (1+qbt t.embeds≤t.bulk):=hid (by cases t;simp only[Ty.bulk,Ty.embeds];omega);have hml:t.methods.length≤1048576:=Hsz.out.2.2.1;have hel:t.embeds.length≤1048576:=Hsz.out.2.2.2;clear hkd h1 h2;go_enter func34,ntmps34
  go_wp2_with fail
  generalize w.alloc (Obj.cells #[.int .i64 t.kind,.int .i64 t.num,.slice x1 t.elem.length d1,.slice x2 t.fields.length d2,.slice x3 t.methods.length d3,.slice x4 t.embeds.length d4] 54)=w2 at *
  go_loopw [170] (fun j wr=>∃ k:Nat,k≤t.methods.length∧j = .int .i64 k∧Below (w.heap.size+1) w2 wr∧Hid (∀ i (hi:i<t.methods.length),i<k→IsNm t.methods[i].name∧t.methods[i].name≠8∧t.methods[i].ptr=false))
   (fun j _=>t.methods.length - (intOf j).toNat)
  case atStart=>exact⟨0,by omega,rfl,zp _ _,hid fun i hi hk=>by omega⟩
  case round=>
   obtain⟨k,hk,rfl,hbel,hok⟩:=hrel;have hK:qac w0 wr:=k0.trans ((qac.below kb).trans (qac.belowGe hbel (by omega)));have hz:=zq hbel;by_cases hlt:k<t.methods.length
   ·obtain⟨b,o,rfl,hn1,hc⟩:=MsR.get h3 k hlt;have e0:=(hc.keep hK) 0 _ rfl;have e1:=(hc.keep hK) 1 _ rfl;simp only[Nat.zero_add,Nat.add_zero] at e0 e1;have hbr:=zj wr _ e0;simp only at hbr;have hbr1:b<wr.heap.size+1:=by omega
    clear hc hK;by_cases his:IsNm t.methods[k].name
    ·have His:=hid his;cases h8:(t.methods[k].name==8) with
     | true=>
      go_wp2_with (go_at_call 20;refine(qaz _ _ his).mono ?_;rintro e w3 ⟨rfl,hb3⟩;have hz3:=zq hb3;simp only[zd,qaa] at hz3;have hc3:=(qal hb3).1;simp only[zd,qaa] at hc3;have hlt3:wr.heap.size<wr.heap.size+1:=zw _)
      go_ret
      refine⟨_,rfl,fun hx => ?_,bel⟩;simp at hx
     | false=>
      cases hp:t.methods[k].ptr with
      | true=>
       rw[hp] at e1
       go_wp2_with (go_at_call 20;refine(qaz _ _ his).mono ?_;rintro e w3 ⟨rfl,hb3⟩;have hz3:=zq hb3;simp only[zd,qaa] at hz3;have hc3:=(qal hb3).1;simp only[zd,qaa] at hc3;have hlt3:wr.heap.size<wr.heap.size+1:=zw _)
       go_ret
       refine⟨_,rfl,fun hx => ?_,bel⟩;simp at hx
      | false=>
       rw[hp] at e1
       go_wp2_with (go_at_call 20;refine(qaz _ _ his).mono ?_;rintro e w3 ⟨rfl,hb3⟩;have hz3:=zq hb3;simp only[zd,qaa] at hz3;have hc3:=(qal hb3).1;simp only[zd,qaa] at hc3;have hlt3:wr.heap.size<wr.heap.size+1:=zw _)
       go_roundw
       case rel=>exact⟨k+1,by omega,by go_num,bel,hid fun i hi hik=>by
        by_cases hie:i=k
        ·subst hie;exact⟨His.out,by simpa using h8,hp⟩
        ·exact hok.out i hi (by omega)⟩
       case measure=>simp[intOf];omega
    ·go_wp2_with (go_at_call 20;refine(qdt _ _ his).mono ?_;rintro e w3 ⟨rfl,hb3⟩;have hz3:=zq hb3;simp only[zd,qaa] at hz3;have hc3:=(qal hb3).1;simp only[zd,qaa] at hc3;have hlt3:wr.heap.size<wr.heap.size+1:=zw _)
     go_ret
     refine⟨_,rfl,fun hx => ?_,bel⟩;simp at hx
   ·obtain rfl:k=t.methods.length:=by omega
    obtain⟨-,-,-,-,-,q5'⟩:=six (Hb.out.keep (qac.belowGe hbel (by omega)));simp only[Nat.zero_add] at q5';clear hlt hK
    go_wp2_with fail
    go_loopw [191] (fun j wr=>∃ k:Nat,k≤t.embeds.length∧j = .int .i64 k∧Below (w.heap.size+1) w2 wr∧Hid (∀ i (hi:i<t.embeds.length),i<k→(t.embeds[i].kind=1∨t.embeds[i].kind=5)∧qam W d true t.embeds[i]))
     (fun j _=>t.embeds.length - (intOf j).toNat)
    case atStart=>exact⟨0,by omega,rfl,hbel,hid fun i hi hk=>by omega⟩
    clear hbel q5' hz hk
    case round=>
     obtain⟨k,hk,rfl,hbel,hok2⟩:=hrel;have hK:qac w0 wr:=k0.trans ((qac.below kb).trans (qac.belowGe hbel (by omega)));have hz:=zq hbel;by_cases hlt:k<t.embeds.length
     ·obtain⟨b,o,cs,rfl,hc,ht1⟩:=TysR.get h4 k hlt;have Ht1:=hid ht1;obtain⟨y1,g1,y2,g2,y3,g3,y4,g4,rfl,-⟩:=ht1.open;obtain⟨e0,e1,e2,e3,e4,e5⟩:=six (hc.keep hK);simp only[Nat.zero_add] at e0 e1 e2 e3 e4 e5;have hbr:=zj wr _ e0;simp only at hbr;have hbr1:b<wr.heap.size+1:=by omega
      have hbkf:=qa6 t.embeds k hlt;have HK:=hid hK;clear hc ht1 hK;cases hb1:(t.embeds[k].kind != 1) with
      | false=>
       go_wp2_with (go_at_call 34;refine(IH.out t.embeds[k] _ true _ (by have:=hbt.out;omega) Ht1.out (HK.out.trans (qac.alloc wr _))).mono ?_;rintro e w4 ⟨b4,rfl,hp4,hb4⟩;have hz4:=zq hb4;(try simp only[zd,qaa] at hz4);have Hp4:=hid hp4;clear hp4;cases b4)
       ·go_ret
        refine⟨_,rfl,fun hx => ?_,bel⟩;simp at hx
       ·go_roundw
        case rel=>exact⟨k+1,by omega,by go_num,bel,hid fun i hi hik=>by
         by_cases hie:i=k
         ·subst hie;exact⟨.inl (by simpa using hb1),Hp4.out (by simp)⟩
         ·exact hok2.out i hi (by omega)⟩
        case measure=>simp[intOf];omega
      | true=>
       cases hb2:(t.embeds[k].kind != 5) with
       | true=>
        go_wp2_with fail
        go_ret
        refine⟨_,rfl,fun hx => ?_,bel⟩;simp at hx
       | false=>
        go_wp2_with (go_at_call 34;refine(IH.out t.embeds[k] _ true _ (by have:=hbt.out;omega) Ht1.out (HK.out.trans (qac.alloc wr _))).mono ?_;rintro e w4 ⟨b4,rfl,hp4,hb4⟩;have hz4:=zq hb4;(try simp only[zd,qaa] at hz4);have Hp4:=hid hp4;clear hp4;cases b4)
        ·go_ret
         refine⟨_,rfl,fun hx => ?_,bel⟩;simp at hx
        ·go_roundw
         case rel=>exact⟨k+1,by omega,by go_num,bel,hid fun i hi hik=>by
          by_cases hie:i=k
          ·subst hie;exact⟨.inr (by simpa using hb2),Hp4.out (by simp)⟩
          ·exact hok2.out i hi (by omega)⟩
         case measure=>simp[intOf];omega
     ·obtain rfl:k=t.embeds.length:=by omega
      cases hh:hasB t false false true false with
      | false=>
       go_wp2_with (go_at_call 54;refine(qce w.heap.size t _ _ _ _ _ (Hb.out.keep (qac.belowGe hbel (by omega))) (by simp) Hsz.out).mono ?_;rintro e w1 ⟨rfl,hb1⟩;rw[hh];have hz1:=zq hb1)
       go_ret
       refine⟨_,rfl,fun hx => ?_,bel⟩;simp at hx
      | true=>
       have Hv:=hid (qow hh)
       go_wp2_with (go_at_call 54;refine(qce w.heap.size t _ _ _ _ _ (Hb.out.keep (qac.belowGe hbel (by omega))) (by simp) Hsz.out).mono ?_;rintro e w1 ⟨rfl,hb1⟩;rw[hh];have hz1:=zq hb1)
       go_ret
       refine⟨_,rfl,fun hx => ?_,bel⟩;exact qn5 Hk.out Hv.out (fun m hm=>by
        obtain⟨i,hi,rfl⟩:=List.getElem_of_mem hm;exact hok.out i hi hi) fun i hi=>hok2.out i hi hi
theorem qt2 (W:Wd) (a:Option Addr) (c:Nat) (w0:World) (hW:WOk w0 W a c) (d:Int) (hd : -1≤d∧d<W.length) (n:Nat):
  ∀ (t:Ty) (cs:List Value) (val:Bool) (w:World),t.bulk≤n→t.bulk≤1048576→TyC w0 t cs→qac w0 w→
  Calls prog 34 #[.slice a W.length c,.agg cs.toArray,.int .i64 d,.bool val] w (qb8 (qam W d val t) w):=by
 induction n with
 | zero=>
  intro t cs val w h;have:=qd3 t;omega
 | succ n ih=>
  intro t cs val w h hb ht k0;have ih':∀ (u:Ty) (cs:List Value) (val:Bool) (w:World),u.bulk<t.bulk→TyC w0 u cs→qac w0 w→
    Calls prog 34 #[.slice a W.length c,.agg cs.toArray,.int .i64 d,.bool val] w (qb8 (qam W d val u) w):=
   fun u cs val w hu=>ih u cs val w (by omega) (by omega)
  by_cases h01:t.kind=0∨t.kind=1
  ·exact quj W a c w0 hW d hd t cs val w h01 hb ht k0
  by_cases h23:t.kind=2∨t.kind=3
  ·exact qrq W a c w0 hW d hd t cs val w h23 hb ht k0 ih'
  by_cases h4:t.kind=4
  ·exact qml W a c w0 hW d hd t cs val w h4 hb ht k0 ih'
  by_cases h5:t.kind=5
  ·exact qns W a c w0 hW d hd t cs val w h5 hb ht k0 ih'
  exact qo2 W a c w0 d t cs val w (by omega) ht
theorem qgo (W:Wd) (a:Option Addr) (c:Nat) (w0:World) (hW:WOk w0 W a c) (d:Int) (hd : -1≤d∧d<W.length) (t:Ty) (cs:List Value) (val:Bool) (w:World) (hb:t.bulk≤1048576) (ht:TyC w0 t cs) (k0:qac w0 w):
  Calls prog 34 #[.slice a W.length c,.agg cs.toArray,.int .i64 d,.bool val] w (qb8 (qam W d val t) w):=
 qt2 W a c w0 hW d hd t.bulk t cs val w (zl _) hb ht k0
def qk7 (w:World) (a:Option Addr) (P:Nat→Nat) (n:Nat):Prop:=∀ d,d<n→∃ b o,a=some ⟨b,o,none⟩∧w.cell? ⟨b,o+d,none⟩=some (.int .i64 (P d))∧P d≤2001
theorem qk7.keep {w W:World} {a:Option Addr} {P:Nat→Nat} {n:Nat} (h:qk7 w a P n) (k:qac w W):qk7 W a P n:=fun d hd=>
 let ⟨b,o,e,hc,hp⟩:=h d hd
 ⟨b,o,e,k _ _ hc,hp⟩
theorem qiq (a b:Nat):(if(2001:Int)<(cap1 a:Int)+(cap1 b:Int) then(2001:Int) else((cap1 a:Int)+(cap1 b:Int)))=(cap1 (a+b):Int):=by
 unfold cap1;split <;> omega
theorem min_cap2 (a b:Nat):min ((cap1 a:Int)+(cap1 b:Int)) (2001:Int)=(cap1 (a+b):Int):=by
 unfold cap1;omega
theorem cap_min (n:Nat):min ((cap1 n:Nat):Int) (2001:Int)=((cap1 n:Nat):Int):=by
 unfold cap1;omega
def op0 (P:Nat→Nat) (t:Ty):Nat:=if t.kind=1 then P t.num.toNat else 1
theorem op_eq (P:Nat→Nat) (t:Ty):op P t=op0 P t+opT P t.elem+opF P t.fields+opT P t.embeds:=by
 cases t;rfl
theorem qtx {n:Nat} (h:n≤2001):cap1 n=n:=by unfold cap1;omega
theorem qtu (pa:Option Addr) (pc:Nat) (P:Nat→Nat) (N:Nat) (w0:World) (hP:qk7 w0 pa P N) (hpc:N≤pc) (hN:N≤1048576) (n:Nat):∀ (t:Ty) (cs:List Value) (w:World),t.bulk≤n→t.bulk≤1048576→TyC w0 t cs→qac w0 w→t.clo N→
  Calls prog 55 #[.agg cs.toArray,.slice pa N pc] w (qa2 (.int .i64 (cap1 (op P t))) w):=by
 induction n with
 | zero=>
  intro t cs w h;have:=qd3 t;omega
 | succ n ih=>
  intro t cs w h hb ht k0 hcl;have IH:=hid ih;clear ih;have hcm:=cap_min;obtain⟨x1,d1,x2,d2,x3,d3,x4,d4,rfl,⟨q1,q2,q3,q4⟩,hik,hin,h1,h2,h3,h4,htt⟩:=ht.full;clear ht;have hbt:Hid (1+qbt t.elem+qcm t.fields+qbt t.embeds≤t.bulk):=hid (by cases t;simp only[Ty.bulk,Ty.elem,Ty.fields,Ty.embeds];omega);have hl1:=qa3 t.elem;have hl2:=qbv t.fields;have hl3:=qa3 t.embeds;have hl1':t.elem.length≤1048576:=by have:=hbt.out;omega
  have hl2':t.fields.length≤1048576:=by have:=hbt.out;omega
  have hl3':t.embeds.length≤1048576:=by have:=hbt.out;omega
  clear hl1 hl2 hl3;have hbox:qat (w.alloc (Obj.cells #[.int .i64 t.kind,.int .i64 t.num,.slice x1 t.elem.length d1,.slice x2 t.fields.length d2,.slice x3 t.methods.length d3,.slice x4 t.embeds.length d4] 54)) w.heap.size 0 [.int .i64 t.kind,.int .i64 t.num,.slice x1 t.elem.length d1,.slice x2 t.fields.length d2,.slice x3 t.methods.length d3,.slice x4 t.embeds.length d4]:=qa9 (zp (w.heap.size+1) _) (zw _) (qa8 _ _);have kb:Below w.heap.size w (w.alloc (Obj.cells #[.int .i64 t.kind,.int .i64 t.num,.slice x1 t.elem.length d1,.slice x2 t.fields.length d2,.slice x3 t.methods.length d3,.slice x4 t.embeds.length d4] 54)):=(zp _ _).alloc (zl _) _;have hws:(w.alloc (Obj.cells #[.int .i64 t.kind,.int .i64 t.num,.slice x1 t.elem.length d1,.slice x2 t.fields.length d2,.slice x3 t.methods.length d3,.slice x4 t.embeds.length d4] 54)).heap.size=w.heap.size+1:=by simp
  have Hb:=hid hbox;obtain⟨c0,c1,c2,c3,c4,c5⟩:=six hbox;simp only[Nat.zero_add] at c0 c1 c2 c3 c4 c5;clear hbox;have hop:∃ v0:Nat,v0=op0 P t∧v0≤2001:=⟨_,rfl,by
   unfold op0;split
   ·rename_i hk;obtain⟨m0,m1⟩:=Ty.clo_num hcl hk;obtain⟨b,o,-,-,hp⟩:=hP t.num.toNat (by omega);exact hp
   ·omega⟩
  obtain⟨v0,hv0,hv1⟩:=hop;have HP:=hid hP;have Hcl:=hid hcl;have Hv:=hid hv0;by_cases hk:t.kind=1
  ·obtain⟨m0,m1⟩:=Ty.clo_num hcl hk;obtain⟨b,o,rfl,hpc',-⟩:=hP t.num.toNat (by omega);have hv:P t.num.toNat=v0:=by rw[hv0];unfold op0;rw[if_pos hk]
   rw[hv] at hpc';have e0:=k0 _ _ hpc';have hbb:=zj w _ e0;simp only at hbb;have hbb1:b<w.heap.size+1:=by omega
   have hk1:(t.kind==1)=true:=by simp[hk]
   clear hk hpc' hP hcl hv hv0;go_enter func55,ntmps55
   go_wp2_with fail
   clear hk1 e0
   generalize w.alloc (Obj.cells #[.int .i64 t.kind,.int .i64 t.num,.slice x1 t.elem.length d1,.slice x2 t.fields.length d2,.slice x3 t.methods.length d3,.slice x4 t.embeds.length d4] 54)=w2 at *
   go_loopw [5,23] (fun v j wr=>∃ k:Nat,k≤t.elem.length∧j = .int .i64 k∧v = .int .i64 (cap1 (v0+opT P (t.elem.take k)))∧Below (w.heap.size+1) w2 wr)
    (fun _ j _=>t.elem.length - (intOf j).toNat)
   case atStart=>exact⟨0,by omega,rfl,by rw[List.take_zero,opT,Nat.add_zero,qtx hv1],by first|exact zp _ _|assumption⟩
   case round=>
    obtain⟨k,hk,rfl,rfl,hbel⟩:=hrel;have hK:qac w0 wr:=k0.trans ((qac.below kb).trans (qac.belowGe hbel (by omega)));have hz:=zq hbel;have hp0:=qcy (v0+opT P (t.elem.take k));by_cases hlt:k<t.elem.length
    ·obtain⟨b,o,cs,rfl,hc,ht1⟩:=TysR.get h1 k hlt;have Ht1:=hid ht1;obtain⟨y1,g1,y2,g2,y3,g3,y4,g4,rfl,-⟩:=ht1.open;obtain⟨e0,e1,e2,e3,e4,e5⟩:=six (hc.keep hK);simp only[Nat.zero_add] at e0 e1 e2 e3 e4 e5;have Htk:=hid (qh1 P t.elem k hlt);have Hc1:=hid (qgr (Ty.clo_elem Hcl.out) k hlt);have hbkg:=qa6 t.elem k hlt;have HK:=hid hK;clear hc ht1 hK
     go_wp2_with (go_at_call 55;refine(IH.out _ _ _ (by have:=hbt.out;omega) (by have:=hbt.out;omega) Ht1.out (HK.out.trans (qac.alloc _ _)) Hc1.out).mono ?_;rintro e w1 ⟨rfl,hb1⟩;have hz1:=zq hb1;(try simp only[zd,qaa] at hz1);have hp1:=qcy (op P t.elem[k]))
     go_roundw
     case rel=>exact⟨k+1,by omega,by go_num,by rw[Htk.out,← Nat.add_assoc];exact congrArg (Value.int .i64) (by first|exact qiq _ _|exact min_cap2 _ _),bel⟩
     case measure=>simp[intOf];omega
    ·obtain rfl:k=t.elem.length:=by omega
     obtain⟨-,-,-,q3,-,q5⟩:=six (Hb.out.keep (qac.belowGe hbel (by omega)));simp only[Nat.zero_add] at q3 q5;simp only[zeb] at *;obtain⟨v1,hv1'⟩:∃ v1,v0+opT P t.elem=v1:=⟨_,rfl⟩;rw[hv1'] at hp0 ⊢;have HV1:=hid hv1';clear h1 hlt hv1' hK
     go_wp2_with fail
     go_loopw [5,37] (fun v j wr=>∃ k:Nat,k≤t.fields.length∧j = .int .i64 k∧v = .int .i64 (cap1 (v1+opF P (t.fields.take k)))∧Below (w.heap.size+1) w2 wr)
      (fun _ j _=>t.fields.length - (intOf j).toNat)
     case atStart=>exact⟨0,by omega,rfl,by rw[List.take_zero,opF,Nat.add_zero],hbel⟩
     clear hbel q3 q5 hz hp0
     case round=>
      obtain⟨k,hk,rfl,rfl,hbel⟩:=hrel;have hK:qac w0 wr:=k0.trans ((qac.below kb).trans (qac.belowGe hbel (by omega)));have hz:=zq hbel;have hp0:=qcy (v1+opF P (t.fields.take k));by_cases hlt:k<t.fields.length
      ·obtain⟨b,o,cs,rfl,hn1,hc,ht1⟩:=FdsR.get h2 k hlt;have Ht1:=hid ht1;obtain⟨y1,g1,y2,g2,y3,g3,y4,g4,rfl,-⟩:=ht1.open;obtain⟨e0,e1,e2,e3,e4,e5,e6,e7⟩:=qhx (hc.keep hK);simp only[Nat.zero_add] at e0 e1 e2 e3 e4 e5 e6 e7;have Htk:=hid (qnb P t.fields k hlt);have Hc1:=hid (qmf (Ty.clo_fields Hcl.out) k hlt);have hbkg:=qbx t.fields k hlt;have HK:=hid hK;clear hc ht1 hK hn1
       go_wp2_with (go_at_call 55;refine(IH.out _ _ _ (by have:=hbt.out;omega) (by have:=hbt.out;omega) Ht1.out (HK.out.trans (qac.alloc _ _)) Hc1.out).mono ?_;rintro e w1 ⟨rfl,hb1⟩;have hz1:=zq hb1;(try simp only[zd,qaa] at hz1);have hp1:=qcy (op P t.fields[k].of))
       go_roundw
       case rel=>exact⟨k+1,by omega,by go_num,by rw[Htk.out,← Nat.add_assoc];exact congrArg (Value.int .i64) (by first|exact qiq _ _|exact min_cap2 _ _),bel⟩
       case measure=>simp[intOf];omega
      ·obtain rfl:k=t.fields.length:=by omega
       obtain⟨-,-,-,-,-,q5⟩:=six (Hb.out.keep (qac.belowGe hbel (by omega)));simp only[Nat.zero_add] at q5;simp only[zeb] at *;obtain⟨v2,hv2'⟩:∃ v2,v1+opF P t.fields=v2:=⟨_,rfl⟩;rw[hv2'] at hp0 ⊢;have HV2:=hid hv2';clear h2 hlt hv2' hK
       go_wp2_with fail
       go_loopw [5,52] (fun v j wr=>∃ k:Nat,k≤t.embeds.length∧j = .int .i64 k∧v = .int .i64 (cap1 (v2+opT P (t.embeds.take k)))∧Below (w.heap.size+1) w2 wr)
        (fun _ j _=>t.embeds.length - (intOf j).toNat)
       case atStart=>exact⟨0,by omega,rfl,by rw[List.take_zero,opT,Nat.add_zero],hbel⟩
       clear hbel q5 hz hp0
       case round=>
        obtain⟨k,hk,rfl,rfl,hbel⟩:=hrel;have hK:qac w0 wr:=k0.trans ((qac.below kb).trans (qac.belowGe hbel (by omega)));have hz:=zq hbel;have hp0:=qcy (v2+opT P (t.embeds.take k));by_cases hlt:k<t.embeds.length
        ·obtain⟨b,o,cs,rfl,hc,ht1⟩:=TysR.get h4 k hlt;have Ht1:=hid ht1;obtain⟨y1,g1,y2,g2,y3,g3,y4,g4,rfl,-⟩:=ht1.open;obtain⟨e0,e1,e2,e3,e4,e5⟩:=six (hc.keep hK);simp only[Nat.zero_add] at e0 e1 e2 e3 e4 e5;have Htk:=hid (qh1 P t.embeds k hlt);have Hc1:=hid (qgr (Ty.clo_embeds Hcl.out) k hlt);have hbkg:=qa6 t.embeds k hlt;have HK:=hid hK;clear hc ht1 hK
         go_wp2_with (go_at_call 55;refine(IH.out _ _ _ (by have:=hbt.out;omega) (by have:=hbt.out;omega) Ht1.out (HK.out.trans (qac.alloc _ _)) Hc1.out).mono ?_;rintro e w1 ⟨rfl,hb1⟩;have hz1:=zq hb1;(try simp only[zd,qaa] at hz1);have hp1:=qcy (op P t.embeds[k]))
         go_roundw
         case rel=>exact⟨k+1,by omega,by go_num,by rw[Htk.out,← Nat.add_assoc];exact congrArg (Value.int .i64) (by first|exact qiq _ _|exact min_cap2 _ _),bel⟩
         case measure=>simp[intOf];omega
        ·obtain rfl:k=t.embeds.length:=by omega
         simp only[zeb] at *;have hop:op P t=v2+opT P t.embeds:=by rw[op_eq,← HV2.out,← HV1.out,Hv.out]
         rw[← hop] at hp0;rw[← hop];have Hop:=hid hop;clear h4 hlt hop hK
         go_wp2_with fail
         go_ret
         exact⟨rfl,bel⟩
  ·have hk1:(t.kind==1)=false:=by simp[hk]
   have hv:1=v0:=by rw[hv0];unfold op0;rw[if_neg hk]
   have HV:=hid hv;clear hk hP hcl hv0 hv;go_enter func55,ntmps55
   go_wp2_with fail
   clear hk1
   generalize w.alloc (Obj.cells #[.int .i64 t.kind,.int .i64 t.num,.slice x1 t.elem.length d1,.slice x2 t.fields.length d2,.slice x3 t.methods.length d3,.slice x4 t.embeds.length d4] 54)=w2 at *
   go_loopw [5,23] (fun v j wr=>∃ k:Nat,k≤t.elem.length∧j = .int .i64 k∧v = .int .i64 (cap1 (v0+opT P (t.elem.take k)))∧Below (w.heap.size+1) w2 wr)
    (fun _ j _=>t.elem.length - (intOf j).toNat)
   case atStart=>exact⟨0,by omega,rfl,by rw[List.take_zero,opT,Nat.add_zero,qtx hv1];rw[←HV.out];rfl,by first|exact zp _ _|assumption⟩
   case round=>
    obtain⟨k,hk,rfl,rfl,hbel⟩:=hrel;have hK:qac w0 wr:=k0.trans ((qac.below kb).trans (qac.belowGe hbel (by omega)));have hz:=zq hbel;have hp0:=qcy (v0+opT P (t.elem.take k));by_cases hlt:k<t.elem.length
    ·obtain⟨b,o,cs,rfl,hc,ht1⟩:=TysR.get h1 k hlt;have Ht1:=hid ht1;obtain⟨y1,g1,y2,g2,y3,g3,y4,g4,rfl,-⟩:=ht1.open;obtain⟨e0,e1,e2,e3,e4,e5⟩:=six (hc.keep hK);simp only[Nat.zero_add] at e0 e1 e2 e3 e4 e5;have Htk:=hid (qh1 P t.elem k hlt);have Hc1:=hid (qgr (Ty.clo_elem Hcl.out) k hlt);have hbkg:=qa6 t.elem k hlt;have HK:=hid hK;clear hc ht1 hK
     go_wp2_with (go_at_call 55;refine(IH.out _ _ _ (by have:=hbt.out;omega) (by have:=hbt.out;omega) Ht1.out (HK.out.trans (qac.alloc _ _)) Hc1.out).mono ?_;rintro e w1 ⟨rfl,hb1⟩;have hz1:=zq hb1;(try simp only[zd,qaa] at hz1);have hp1:=qcy (op P t.elem[k]))
     go_roundw
     case rel=>exact⟨k+1,by omega,by go_num,by rw[Htk.out,← Nat.add_assoc];exact congrArg (Value.int .i64) (by first|exact qiq _ _|exact min_cap2 _ _),bel⟩
     case measure=>simp[intOf];omega
    ·obtain rfl:k=t.elem.length:=by omega
     obtain⟨-,-,-,q3,-,q5⟩:=six (Hb.out.keep (qac.belowGe hbel (by omega)));simp only[Nat.zero_add] at q3 q5;simp only[zeb] at *;obtain⟨v1,hv1'⟩:∃ v1,v0+opT P t.elem=v1:=⟨_,rfl⟩;rw[hv1'] at hp0 ⊢;have HV1:=hid hv1';clear h1 hlt hv1' hK
     go_wp2_with fail
     go_loopw [5,37] (fun v j wr=>∃ k:Nat,k≤t.fields.length∧j = .int .i64 k∧v = .int .i64 (cap1 (v1+opF P (t.fields.take k)))∧Below (w.heap.size+1) w2 wr)
      (fun _ j _=>t.fields.length - (intOf j).toNat)
     case atStart=>exact⟨0,by omega,rfl,by rw[List.take_zero,opF,Nat.add_zero],hbel⟩
     clear hbel q3 q5 hz hp0
     case round=>
      obtain⟨k,hk,rfl,rfl,hbel⟩:=hrel;have hK:qac w0 wr:=k0.trans ((qac.below kb).trans (qac.belowGe hbel (by omega)));have hz:=zq hbel;have hp0:=qcy (v1+opF P (t.fields.take k));by_cases hlt:k<t.fields.length
      ·obtain⟨b,o,cs,rfl,hn1,hc,ht1⟩:=FdsR.get h2 k hlt;have Ht1:=hid ht1;obtain⟨y1,g1,y2,g2,y3,g3,y4,g4,rfl,-⟩:=ht1.open;obtain⟨e0,e1,e2,e3,e4,e5,e6,e7⟩:=qhx (hc.keep hK);simp only[Nat.zero_add] at e0 e1 e2 e3 e4 e5 e6 e7;have Htk:=hid (qnb P t.fields k hlt);have Hc1:=hid (qmf (Ty.clo_fields Hcl.out) k hlt);have hbkg:=qbx t.fields k hlt;have HK:=hid hK;clear hc ht1 hK hn1
       go_wp2_with (go_at_call 55;refine(IH.out _ _ _ (by have:=hbt.out;omega) (by have:=hbt.out;omega) Ht1.out (HK.out.trans (qac.alloc _ _)) Hc1.out).mono ?_;rintro e w1 ⟨rfl,hb1⟩;have hz1:=zq hb1;(try simp only[zd,qaa] at hz1);have hp1:=qcy (op P t.fields[k].of))
       go_roundw
       case rel=>exact⟨k+1,by omega,by go_num,by rw[Htk.out,← Nat.add_assoc];exact congrArg (Value.int .i64) (by first|exact qiq _ _|exact min_cap2 _ _),bel⟩
       case measure=>simp[intOf];omega
      ·obtain rfl:k=t.fields.length:=by omega
       obtain⟨-,-,-,-,-,q5⟩:=six (Hb.out.keep (qac.belowGe hbel (by omega)));simp only[Nat.zero_add] at q5;simp only[zeb] at *;obtain⟨v2,hv2'⟩:∃ v2,v1+opF P t.fields=v2:=⟨_,rfl⟩;rw[hv2'] at hp0 ⊢;have HV2:=hid hv2';clear h2 hlt hv2' hK
       go_wp2_with fail
       go_loopw [5,52] (fun v j wr=>∃ k:Nat,k≤t.embeds.length∧j = .int .i64 k∧v = .int .i64 (cap1 (v2+opT P (t.embeds.take k)))∧Below (w.heap.size+1) w2 wr)
        (fun _ j _=>t.embeds.length - (intOf j).toNat)
       case atStart=>exact⟨0,by omega,rfl,by rw[List.take_zero,opT,Nat.add_zero],hbel⟩
       clear hbel q5 hz hp0
       case round=>
        obtain⟨k,hk,rfl,rfl,hbel⟩:=hrel;have hK:qac w0 wr:=k0.trans ((qac.below kb).trans (qac.belowGe hbel (by omega)));have hz:=zq hbel;have hp0:=qcy (v2+opT P (t.embeds.take k));by_cases hlt:k<t.embeds.length
        ·obtain⟨b,o,cs,rfl,hc,ht1⟩:=TysR.get h4 k hlt;have Ht1:=hid ht1;obtain⟨y1,g1,y2,g2,y3,g3,y4,g4,rfl,-⟩:=ht1.open;obtain⟨e0,e1,e2,e3,e4,e5⟩:=six (hc.keep hK);simp only[Nat.zero_add] at e0 e1 e2 e3 e4 e5;have Htk:=hid (qh1 P t.embeds k hlt);have Hc1:=hid (qgr (Ty.clo_embeds Hcl.out) k hlt);have hbkg:=qa6 t.embeds k hlt;have HK:=hid hK;clear hc ht1 hK
         go_wp2_with (go_at_call 55;refine(IH.out _ _ _ (by have:=hbt.out;omega) (by have:=hbt.out;omega) Ht1.out (HK.out.trans (qac.alloc _ _)) Hc1.out).mono ?_;rintro e w1 ⟨rfl,hb1⟩;have hz1:=zq hb1;(try simp only[zd,qaa] at hz1);have hp1:=qcy (op P t.embeds[k]))
         go_roundw
         case rel=>exact⟨k+1,by omega,by go_num,by rw[Htk.out,← Nat.add_assoc];exact congrArg (Value.int .i64) (by first|exact qiq _ _|exact min_cap2 _ _),bel⟩
         case measure=>simp[intOf];omega
        ·obtain rfl:k=t.embeds.length:=by omega
         simp only[zeb] at *;have hop:op P t=v2+opT P t.embeds:=by rw[op_eq,← HV2.out,← HV1.out,Hv.out]
         rw[← hop] at hp0;rw[← hop];have Hop:=hid hop;clear h4 hlt hop hK
         go_wp2_with fail
         go_ret
         exact⟨rfl,bel⟩
theorem qgn (pa:Option Addr) (pc:Nat) (P:Nat→Nat) (N:Nat) (w0:World) (hP:qk7 w0 pa P N) (hpc:N≤pc) (hN:N≤1048576) (t:Ty) (cs:List Value) (w:World) (hb:t.bulk≤1048576) (ht:TyC w0 t cs) (k0:qac w0 w) (hcl:t.clo N):
  Calls prog 55 #[.agg cs.toArray,.slice pa N pc] w (qa2 (.int .i64 (cap1 (op P t))) w):=
 qtu pa pc P N w0 hP hpc hN t.bulk t cs w (zl _) hb ht k0 hcl
def qic (W:Wd):Prop:=∀ d,d<W.length→IsNm (dc W d).name∧((dc W d).pkg=0∨(dc W d).pkg=1)
def qei (W:Wd):Prop:=∀ d,d<W.length→qam W d true (dc W d).of
structure qe1 (W:Wd) (s:Spot):Prop where
 formed:∃ d val,qam W d val s.of
 pkg:s.pkg=0∨s.pkg=1
theorem qe1.clo (h:qe1 W s):s.of.clo W.length:=by obtain⟨d,val,hf⟩:=h.formed;exact qbn W d val _ hf
theorem qe1.i64 (h:qe1 W s):i64 s.pkg:=by
 unfold Go.Proofs.YtmfhclggkjjcdaaGreatDoor.i64;rcases h.pkg with h|h <;> rw[h] <;> decide
theorem qho (hN:qic W) (hF:qei W) {d:Nat} (hd:d<W.length):qe1 W (qad W d):=⟨⟨d,true,hF d hd⟩,(hN d hd).2⟩
theorem qh9 (hN:qic W) (hF:qei W):∀ (n:Nat) (s:Spot),qe1 W s→qe1 W (qb9 W n s)
 | 0,s,h=>h
 | n+1,s,h=>by
  simp only[qb9];split
  ·rename_i hk;have hc:=Ty.clo h.clo hk;exact qh9 hN hF n _ (qho hN hF hc)
  ·exact h
where
 Ty.clo {n:Nat} {t:Ty} (h:t.clo n) (hk:t.kind=1):t.num.toNat<n:=by
  cases t;simp only[Ty.clo,Ty.kind,Ty.num] at *;have:=h.1 hk;omega
theorem qvz (hN:qic W) (hF:qei W) {s:Spot} (h:qe1 W s):qe1 W (under W s):=qh9 hN hF _ s h
theorem elem_ok (h:qe1 W s) (he:0<s.of.elem.length):qe1 W (qaq s):=by
 obtain⟨d,val,hf⟩:=h.formed;exact⟨⟨d,false,(qhe hf he).2⟩,h.pkg⟩
theorem qvt (h:qe1 W s) (hk:s.of.kind=2∨s.of.kind=3):s.of.elem.length=1:=by
 obtain⟨d,val,hf⟩:=h.formed
 generalize s.of=t at *
 cases t with
 | mk kd n el fs ms em=>
  simp only[Ty.kind,Ty.elem] at hk ⊢;simp only[qam] at hf;rcases hf with ⟨rfl,-⟩|⟨rfl,-⟩|⟨-,-,-,-,-,h1⟩|⟨rfl,-⟩|⟨rfl,-⟩
  ·omega
  ·omega
  ·cases el with
   | nil=>simp[qc5] at h1
   | cons a r=>simp only[qc5] at h1;obtain⟨rfl,-⟩:=h1;rfl
  ·omega
  ·omega
theorem qvv (hN:qic W) {s:Spot} (h:qe1 W s) {k:Nat} (hk:k<s.of.fields.length):IsNm (fname W s.of.fields[k]):=by
 obtain⟨d,val,hf⟩:=h.formed;obtain⟨f1,f2,f3⟩:=qes hf k hk;have hc:=qbn W d val _ f3;unfold fname;split
 ·exact f1
 ·rename_i he;rcases (f2 (by simpa using he)).2 with h1|⟨h1,h2,h3⟩
  ·rw[if_neg (by omega)];exact(hN _ (qh9.Ty.clo hc h1)).1
  ·rw[if_pos h1];have hel:0<s.of.fields[k].of.elem.length:=by omega
   have:=(qhe f3 hel).2;exact(hN _ (qh9.Ty.clo (qbn W d false _ this) h3)).1
theorem idS_neA {p n q m:Int} (h:idS p n≠idS q m):idL p n≠idL q m:=by
 intro e;unfold idS at h;rw[e] at h;exact h rfl
def pf (L:List Nat) (n:Nat):Nat:=L.getD n 1
structure qcl (W:Wd) (k:Nat) (L:List Nat):Prop where
 len:L.length=W.length
 rng:∀ x∈L,1≤x∧x≤2001
 done:∀ d,k≤d→d<W.length→(dc W d).alias=true→pf L d=cap1 (op (pf L) (dc W d).of)
theorem qxc (h:qcl W k L) (n:Nat):1≤pf L n:=by
 unfold pf;by_cases hn:n<L.length
 ·rw[zv,zr hn];exact(h.rng _ (z8 hn)).1
 ·rw[zv,List.getElem?_eq_none (by omega)];exact zl 1
theorem pf_le (h:qcl W k L) (n:Nat):pf L n≤2001:=by
 unfold pf;by_cases hn:n<L.length
 ·rw[zv,zr hn];exact(h.rng _ (z8 hn)).2
 ·rw[zv,List.getElem?_eq_none (by omega)];decide
theorem qcl.row (h:qcl W k L) {w:World} {b:Nat} {T:TypeId} (hb:Blk w b T (qbh L)):qk7 w (some ⟨b,0,none⟩) (pf L) W.length:=by
 intro d hd;refine⟨b,0,rfl,?_,pf_le h d⟩;have hd':d<L.length:=by rw[h.len];exact hd
 rw[Nat.zero_add,hb.cell,qh3,zr hd'];simp[pf,zv,zr hd']
theorem qcl.skip (h:qcl W (k+1) L) (hk:(dc W k).alias=false):qcl W k L:=
 ⟨h.len,h.rng,fun d h1 h2 h3=>by
  by_cases hd:d=k
  ·subst hd;rw[hk] at h3;cases h3
  ·exact h.done d (by omega) h2 h3⟩
theorem qcl.step (hF:qei W) {k:Nat} (hk:k<W.length) {L:List Nat} (h:qcl W (k+1) L) (hal:(dc W k).alias=true):
  qcl W k (L.set k (cap1 (op (pf L) (dc W k).of))):=by
 have hkl:k<L.length:=by rw[h.len];exact hk
 have hne:∀ n,n≠k→pf (L.set k (cap1 (op (pf L) (dc W k).of))) n=pf L n:=by
  intro n hn;unfold pf;rw[zv,zv,List.getElem?_set_ne (by omega)]
 have heq:pf (L.set k (cap1 (op (pf L) (dc W k).of))) k=cap1 (op (pf L) (dc W k).of):=by
  unfold pf;rw[zv,List.getElem?_set_self hkl];rfl
 have hlat:∀ e:Nat,k≤e→e<W.length→(dc W e).alias=true→op (pf (L.set k (cap1 (op (pf L) (dc W k).of)))) (dc W e).of=op (pf L) (dc W e).of:=fun e he hel hae=>
  qhm W e _ _ hae (fun n hn hor=>hne n (by
   intro hnk;subst hnk;rcases hor with hor|hor
   ·omega
   ·rw[hal] at hor;cases hor)) true _ (hF e hel)
 refine⟨by rw[List.length_set];exact h.len,?_,?_⟩
 ·intro x hx;rcases List.mem_or_eq_of_mem_set hx with hx|hx
  ·exact h.rng x hx
  ·subst hx;have:=qqe (pf L) (qxc h) (dc W k).of;have:=qcy (op (pf L) (dc W k).of);refine⟨?_,this⟩;unfold cap1;omega
 ·intro d h1 h2 h3;rw[hlat d h1 h2 h3];by_cases hd:d=k
  ·subst hd;exact heq
  ·rw[hne d hd];exact h.done d (by omega) h2 h3
theorem qvs (n k:Nat) (hk:k<n):(List.replicate k 1++List.replicate (n - k) 0).set k 1=List.replicate (k+1) 1++List.replicate (n - (k+1)) 0:=by
 obtain⟨m,rfl⟩:∃ m,n=k+1+m:=⟨n - k - 1,by omega⟩;rw[show k+1+m - k=m+1 by omega,show k+1+m - (k+1)=m by omega,List.replicate_succ,List.replicate_succ'];rw[List.set_append,if_neg (by simp)];simp
theorem qcl.first(W:Wd):qcl W W.length (List.replicate W.length 1):=
 ⟨by simp,fun x hx=>by rw[List.mem_replicate] at hx;omega,fun d h1 h2=>by omega⟩
theorem qcl.small {t:Ty} (h:qcl W 0 L) (h1:∀ d,d<W.length→cap1 (op (pf L) (dc W d).of)≤2000) (h2:cap1 (op (pf L) t)≤2000):∃ P,qdx W t P∧op P t≤2000:=
 ⟨pf L,⟨qxc h,fun d hd ha=>by
   have h3:=h.done d (Nat.zero_le _) hd ha;have h4:=h1 d hd;unfold cap1 at h3 h4;omega,
  fun d hd=>by have h4:=h1 d hd;unfold cap1 at h4;omega,by unfold cap1 at h2;omega⟩,by unfold cap1 at h2;omega⟩
theorem qth (W:Wd) (a:Option Addr) (c:Nat) (w0 w:World) (hW:WOk w0 W a c) (hF:qei W) (t:Ty) (cs:List Value) (hb:t.bulk≤1048576) (ht:TyC w0 t cs) (hf:qam W (-1) true t) (k0:qac w0 w):
  Calls prog 35 #[.slice a W.length c,.agg cs.toArray] w (qb8 (∃ P,qdx W t P∧op P t≤2000) w):=by
 obtain⟨x1,d1,x2,d2,x3,d3,x4,d4,rfl,-,-,-,-,-,-,-,htt⟩:=ht.full;clear ht;have hl:=qbk W;have hcap:=hW.cap;have hbk:=hW.bulk;have HW:=hid hW;have HF:=hid hF;have Hf:=hid hf;have Htt:=hid htt;have K0:=hid k0;clear hW hF hf htt;have hbox:qat (w.alloc (Obj.cells #[.int .i64 t.kind,.int .i64 t.num,.slice x1 t.elem.length d1,.slice x2 t.fields.length d2,.slice x3 t.methods.length d3,.slice x4 t.embeds.length d4] 54)) w.heap.size 0 [.int .i64 t.kind,.int .i64 t.num,.slice x1 t.elem.length d1,.slice x2 t.fields.length d2,.slice x3 t.methods.length d3,.slice x4 t.embeds.length d4]:=qa9 (zp (w.heap.size+1) _) (zw _) (qa8 _ _);have kb:Below w.heap.size w (w.alloc (Obj.cells #[.int .i64 t.kind,.int .i64 t.num,.slice x1 t.elem.length d1,.slice x2 t.fields.length d2,.slice x3 t.methods.length d3,.slice x4 t.embeds.length d4] 54)):=(zp _ _).alloc (zl _) _;have hws:(w.alloc (Obj.cells #[.int .i64 t.kind,.int .i64 t.num,.slice x1 t.elem.length d1,.slice x2 t.fields.length d2,.slice x3 t.methods.length d3,.slice x4 t.embeds.length d4] 54)).heap.size=w.heap.size+1:=by simp
 have Hb:=hid hbox;have Hw:=hid hws;have hws1:(w.alloc (Obj.cells #[.int .i64 t.kind,.int .i64 t.num,.slice x1 t.elem.length d1,.slice x2 t.fields.length d2,.slice x3 t.methods.length d3,.slice x4 t.embeds.length d4] 54)).heap.size≤w.heap.size+1:=by omega
 have Hkb:=hid kb;clear hbox;have hmk:=fun w'=>qso W.length w' (by omega);go_enter func35,ntmps35
 go_wp2_with fail
 clear hmk
 generalize w.alloc (Obj.cells #[.int .i64 t.kind,.int .i64 t.num,.slice x1 t.elem.length d1,.slice x2 t.fields.length d2,.slice x3 t.methods.length d3,.slice x4 t.embeds.length d4] 54)=w2 at *
 clear hws;have hnew:Blk (w2.alloc (.cells (qbh (List.replicate W.length 0)).toArray 3)) (w.heap.size+1) 3 (qbh (List.replicate W.length 0)):=by
  have:=Blk.new w2 3 (qbh (List.replicate W.length 0));rw[Hw.out] at this;exact this
 have hbn:Below (w.heap.size+1) w2 (w2.alloc (.cells (qbh (List.replicate W.length 0)).toArray 3)):=(zp _ _).alloc (by rw[Hw.out];exact zl _) _;have Hnew:=hid hnew;clear hnew
 generalize w2.alloc (.cells (qbh (List.replicate W.length 0)).toArray 3)=w3 at *
 go_loopw [14] (fun j wr=>∃ k:Nat,k≤W.length∧j = .int .i64 k∧Below (w.heap.size+1) w2 wr∧Hid (Blk wr (w.heap.size+1) 3 (qbh (List.replicate k 1++List.replicate (W.length - k) 0))))
  (fun j _=>W.length - (intOf j).toNat)
 case atStart=>exact⟨0,by omega,rfl,hbn,hid (by simpa using Hnew.out)⟩
 clear Hnew hbn
 case round=>
  obtain⟨k,hk,rfl,hbel,hblk⟩:=hrel;by_cases hlt:k<W.length
  ·have e0:wr.cell? ⟨w.heap.size+1,k,none⟩=some (.int .i64 0):=by
    rw[hblk.out.cell,qh3];simp[List.getElem?_append,List.getElem?_replicate];omega
   have f0:=hblk.out.soft k
   go_wp2_with fail
   go_roundw
   case rel=>exact⟨k+1,by omega,by go_num,bel,hid (by rw[← qvs _ _ hlt,← qoa];exact hblk.out.set k _)⟩
   case measure=>simp[intOf];omega
  ·obtain rfl:k=W.length:=by omega
   have hstart:Hid (∃ L,Blk wr (w.heap.size+1) 3 (qbh L)∧qcl W W.length L):=hid ⟨_,by simpa using hblk.out,qcl.first W⟩;clear hblk hlt
   go_wp2_with fail
   go_loopw [7] (fun j wr=>∃ k:Nat,k≤W.length∧j = .int .i64 ((k:Int) - 1)∧Below (w.heap.size+1) w2 wr∧Hid (∃ L,Blk wr (w.heap.size+1) 3 (qbh L)∧qcl W k L))
    (fun j _=>(intOf j+1).toNat)
   case atStart=>exact⟨W.length,by omega,rfl,hbel,hstart⟩
   clear hstart hbel hk
   case round=>
    obtain⟨k,hk,rfl,hbel,hpo⟩:=hrel;obtain⟨L,hblk,hpo⟩:=hpo.out;have hK:qac w0 wr:=K0.out.trans ((qac.below Hkb.out).trans (qac.belowGe hbel (by omega)));have hblt:=hblk.lt;have Hblk:=hid hblk;have Hpo:=hid hpo;have HK:=hid hK;clear hblk hpo hK;cases k with
    | zero=>
     have e:((0:Nat):Int) - 1 = -1:=rfl;rw[e];clear e hk
     go_wp2_with fail
     go_loopw [45] (fun j wr=>∃ k:Nat,k≤W.length∧j = .int .i64 k∧Below (w.heap.size+1) w2 wr∧Hid (Blk wr (w.heap.size+1) 3 (qbh L))∧Hid (∀ d,d<k→cap1 (op (pf L) (dc W d).of)≤2000))
      (fun j _=>W.length - (intOf j).toNat)
     case atStart=>exact⟨0,by omega,rfl,hbel,Hblk,hid fun d hd=>by omega⟩
     clear hbel Hblk hblt HK
     case round=>
      obtain⟨k,hk,rfl,hbel,hblk,hok⟩:=hrel;have hK:qac w0 wr:=K0.out.trans ((qac.below Hkb.out).trans (qac.belowGe hbel (by omega)));have hz:=zq hbel;have hblt:=hblk.out.lt;by_cases hlt:k<W.length
      ·obtain⟨b,o,y1,g1,y2,g2,y3,g3,y4,g4,y5,g5,rfl,-,-,-,-,ht1,hcc⟩:=HW.out.row.get k hlt;obtain⟨e0,e1,e2,e3,e4,e5,e6,e7,e8,e9⟩:=ten (hcc.keep hK);have Ht1:=hid ht1;have HK:=hid hK;have hbk1:=qfe hlt;have hcl:=qbn W k true _ (HF.out k hlt);rw[qcg hlt] at hbk1 hcl;unfold Dc.bulk at hbk1;have Hcl:=hid hcl;have hc1:=qcy (op (pf L) W[k].of);clear ht1 hcc hK hcl;by_cases hle:cap1 (op (pf L) W[k].of)≤2000
       ·go_wp2_with (go_at_call 55;refine(qgn _ _ (pf L) W.length wr (Hpo.out.row hblk.out) (zl _) (by omega) _ _ _ (by omega) (TyC.keep HK.out Ht1.out) (qac.refl _) Hcl.out).mono ?_;rintro e w1 ⟨rfl,hb1⟩;have hz1:=zq hb1)
        go_roundw
        case rel=>exact⟨k+1,by omega,by go_num,bel,hid (hblk.out.keep hb1),hid fun d hd=>by
         by_cases hdk:d=k
         ·subst hdk;rw[qcg hlt];exact hle
         ·exact hok.out d (by omega)⟩
        case measure=>simp[intOf];omega
       ·go_wp2_with (go_at_call 55;refine(qgn _ _ (pf L) W.length wr (Hpo.out.row hblk.out) (zl _) (by omega) _ _ _ (by omega) (TyC.keep HK.out Ht1.out) (qac.refl _) Hcl.out).mono ?_;rintro e w1 ⟨rfl,hb1⟩;have hz1:=zq hb1)
        go_ret
        exact⟨_,rfl,fun hx=>by first|(simp at hx;done)|(simp at hx;omega),(Hkb.out.trans (hbel.mono (by omega))).trans (hb1.mono (by omega))⟩
      ·obtain rfl:k=W.length:=by omega
       obtain⟨c0,c1,c2,c3,c4,c5⟩:=six (Hb.out.keep (qac.belowGe hbel (by omega)));simp only[Nat.zero_add] at c0 c1 c2 c3 c4 c5;have HK:=hid hK;clear hlt hK;have hc1:=qcy (op (pf L) t);by_cases hle:cap1 (op (pf L) t)≤2000
       all_goals
        go_wp2_with (go_at_call 55;refine(qgn _ _ (pf L) W.length wr (Hpo.out.row hblk.out) (zl _) (by omega) _ _ _ (by omega) (TyC.keep HK.out Htt.out) (qac.refl _) (qbn W _ true _ Hf.out)).mono ?_;rintro e w1 ⟨rfl,hb1⟩;have hz1:=zq hb1)
        go_ret
       ·exact⟨_,rfl,fun hx=>Hpo.out.small hok.out hle,(Hkb.out.trans (hbel.mono (by omega))).trans (hb1.mono (by omega))⟩
       ·exact⟨_,rfl,fun hx=>by first|(simp at hx;done)|(simp at hx;omega),(Hkb.out.trans (hbel.mono (by omega))).trans (hb1.mono (by omega))⟩
    | succ k=>
     have e:((k+1:Nat):Int) - 1=(k:Int):=by omega
     rw[e];clear e;have hlt:k<W.length:=by omega
     obtain⟨b,o,y1,g1,y2,g2,y3,g3,y4,g4,y5,g5,rfl,-,-,-,-,ht1,hcc⟩:=HW.out.row.get k hlt;obtain⟨e0,e1,e2,e3,e4,e5,e6,e7,e8,e9⟩:=ten (hcc.keep HK.out);have Ht1:=hid ht1;have hbk1:=qfe hlt;have hcl:=qbn W k true _ (HF.out k hlt);rw[qcg hlt] at hbk1 hcl;unfold Dc.bulk at hbk1;have Hcl:=hid hcl;have hal:(dc W k).alias=W[k].alias:=by rw[qcg hlt]
     have Hal:=hid hal;clear ht1 hcc hcl hal;cases ha:W[k].alias with
     | true=>
      rw[ha] at e2;have hv:∃ v,wr.cell? ⟨w.heap.size+1,k,none⟩=some v:=⟨_,by
       rw[Hblk.out.cell,qh3,zr (by rw[Hpo.out.len];exact hlt)];rfl⟩
      obtain⟨v0,q0⟩:=hv;have f0:=Hblk.out.soft k;have Ha:=hid ha;clear ha
      go_wp2_with (go_at_call 55;refine(qgn _ _ (pf L) W.length wr (Hpo.out.row Hblk.out) (zl _) (by omega) _ _ _ (by omega) (TyC.keep HK.out Ht1.out) (qac.refl _) Hcl.out).mono ?_;rintro e w1 ⟨rfl,hb1⟩;have hz1:=zq hb1;obtain⟨hc1,hf1⟩:=qal hb1)
      go_roundw
      case rel=>exact⟨k,by omega,by go_num,bel,hid ⟨_,by
       have:=(Hblk.out.keep hb1).set k (.int .i64 (cap1 (op (pf L) W[k].of)));rw[qoa] at this;exact this,by
       have:=Hpo.out.step HF.out hlt (by rw[Hal.out];exact Ha.out);rw[qcg hlt] at this;exact this⟩⟩
      case measure=>simp[intOf]
     | false=>
      rw[ha] at e2;have Ha:=hid ha;clear ha
      go_wp2_with fail
      go_roundw
      case rel=>exact⟨k,by omega,by go_num,hbel,hid ⟨L,Hblk.out,Hpo.out.skip (by rw[Hal.out];exact Ha.out)⟩⟩
      case measure=>simp[intOf]
