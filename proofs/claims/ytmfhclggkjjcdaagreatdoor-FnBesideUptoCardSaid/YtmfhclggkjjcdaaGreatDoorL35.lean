import Derived.Test.YtmfhclggkjjcdaaGreatDoorL32
import Derived.Test.YtmfhclggkjjcdaaGreatDoorL34
set_option linter.all false
set_option maxHeartbeats 16000000
namespace Go.Proofs.YtmfhclggkjjcdaaGreatDoor
open Go Go.RowKit Go.Proofs.Tryz
set_option maxRecDepth 100000
variable {W:Wd}
def qqd (W:Wd) (t:Ty):Prop:=qfz W t∧∃ P,qdx W t P∧op P t≤2000
def qfr (W:Wd) (k:Nat):Prop:=(IsNm (dc W k).name∧(dc W k).name≠8∧((dc W k).pkg=0∨(dc W k).pkg=1)∧qam W k true (dc W k).of∧((dc W k).alias=true→(dc W k).methods=[]))∧
 ∀ j,j<k→(dc W k).name=(dc W j).name→(dc W k).pkg≠(dc W j).pkg
theorem qfz.mk' {t:Ty} (h1:∀ k,k<W.length→qfr W k) (h2:qam W (-1) true t) (h3:∀ d,d<W.length→qcj W (qad W d)∧qen W d) (h4:qcj W (operand W t)):qfz W t:=
 ⟨fun d hd=>(h1 d hd).1,fun d e hde he hn hp=>(h1 e he).2 d hde hn.symm hp.symm,h2,fun d hd=>(h3 d hd).1,fun d hd=>(h3 d hd).2,h4⟩
theorem qfr.formed (h:∀ k,k<W.length→qfr W k):qei W:=fun d hd=>(h d hd).1.2.2.2.1
theorem qfr.names (h:∀ k,k<W.length→qfr W k):qic W:=fun d hd=>⟨(h d hd).1.1,(h d hd).1.2.2.1⟩
theorem qfr.clo (h:∀ k,k<W.length→qfr W k):CloW W:=fun d hd=>qbn W d true _ (qfr.formed h d hd)
theorem fit_any (W:Wd) (a:Option Addr) (c:Nat) (w0:World) (hW:WOk w0 W a c) (t:Ty) (cs:List Value) (w:World) (hb:t.bulk≤1048576) (ht:TyC w0 t cs) (k0:qac w0 w):
  Calls prog 21 #[.slice a W.length c,.agg cs.toArray] w (qb8 (qqd W t) w):=by
 have hl:=qbk W;have hcap:=hW.cap;have hbk:=hW.bulk;obtain⟨x1,d1,x2,d2,x3,d3,x4,d4,rfl,-,-,-,-,-,-,-,htt⟩:=ht.full;clear ht;have HW:=hid hW;have Htt:=hid htt;have K0:=hid k0;clear hW htt;have hbox:qat (w.alloc (Obj.cells #[.int .i64 t.kind,.int .i64 t.num,.slice x1 t.elem.length d1,.slice x2 t.fields.length d2,.slice x3 t.methods.length d3,.slice x4 t.embeds.length d4] 54)) w.heap.size 0 [.int .i64 t.kind,.int .i64 t.num,.slice x1 t.elem.length d1,.slice x2 t.fields.length d2,.slice x3 t.methods.length d3,.slice x4 t.embeds.length d4]:=qa9 (zp (w.heap.size+1) _) (zw _) (qa8 _ _);have Hb:=hid hbox;have HB2:Hid (Below w.heap.size w (w.alloc (Obj.cells #[.int .i64 t.kind,.int .i64 t.num,.slice x1 t.elem.length d1,.slice x2 t.fields.length d2,.slice x3 t.methods.length d3,.slice x4 t.embeds.length d4] 54))):=hid ((zp _ _).alloc (zl _) _);have hws:w.heap.size+1≤(w.alloc (Obj.cells #[.int .i64 t.kind,.int .i64 t.num,.slice x1 t.elem.length d1,.slice x2 t.fields.length d2,.slice x3 t.methods.length d3,.slice x4 t.embeds.length d4] 54)).heap.size:=by simp
 clear hbox;go_enter func21,ntmps21
 go_wp2_with fail
 generalize w.alloc (Obj.cells #[.int .i64 t.kind,.int .i64 t.num,.slice x1 t.elem.length d1,.slice x2 t.fields.length d2,.slice x3 t.methods.length d3,.slice x4 t.embeds.length d4] 54)=w2 at *
 go_loopw [12] (fun j wr=>∃ k:Nat,k≤W.length∧j = .int .i64 k∧Below w2.heap.size w2 wr∧Hid (∀ i,i<W.length→i<k→qfr W i))
  (fun j _=>W.length - (intOf j).toNat)
 case atStart=>exact⟨0,by omega,rfl,zp _ _,hid fun i hi hk=>by omega⟩
 case round=>
  obtain⟨k,hk,rfl,hbel,hok⟩:=hrel;obtain⟨wo,rfl⟩:∃ wo:World,wo=wr:=⟨_,rfl⟩;have hz:=zq hbel;have HK:Hid (qac w0 wo):=hid (K0.out.trans ((qac.below HB2.out).trans (qac.below hbel)));by_cases hlt:k<W.length
  ·obtain⟨b,o,y1,g1,y2,g2,y3,g3,y4,g4,y5,g5,rfl,-,-,-,-,ht1,hcc⟩:=HW.out.row.get k hlt;obtain⟨e0,e1,e2,e3,e4,e5,e6,e7,e8,e9⟩:=ten (hcc.keep HK.out);have Ht1:=hid ht1;have hbr:=zj wo _ e0;simp only at hbr;have hself:wo.heap.size<wo.heap.size+1:=zw _;have hbd:=qfe hlt;rw[qcg hlt] at hbd;unfold Dc.bulk at hbd;have hkc:k≤c:=by omega
   clear ht1 hcc;by_cases his:IsNm W[k].name
   ·have His:=hid his;clear his;cases h8:(W[k].name==8) with
    | true=>
     go_wp2_with (go_at_call 20;refine(qaz _ _ His.out).mono ?_;rintro e w4 ⟨rfl,hb4⟩;have hz4:=zq hb4;(try simp only[zd,qaa] at hz4);obtain⟨hc4,hf4⟩:=qal hb4;(try simp only[zd,qaa] at hc4);have hl4:wo.heap.size<w4.heap.size:=(by omega))
     go_ret
     exact⟨_,rfl,fun hx=>by simp at hx,HB2.out.trans ((hbel.mono (by omega)).trans (((zp _ _).alloc (by omega) _).trans (hb4.mono (by simp;omega))))⟩
    | false=>
     have H8:=hid h8;by_cases hp0:W[k].pkg<0
     ·go_wp2_with (go_at_call 20;refine(qaz _ _ His.out).mono ?_;rintro e w4 ⟨rfl,hb4⟩;have hz4:=zq hb4;(try simp only[zd,qaa] at hz4);obtain⟨hc4,hf4⟩:=qal hb4;(try simp only[zd,qaa] at hc4);have hl4:wo.heap.size<w4.heap.size:=(by omega))
      go_ret
      exact⟨_,rfl,fun hx=>by simp at hx,HB2.out.trans ((hbel.mono (by omega)).trans (((zp _ _).alloc (by omega) _).trans (hb4.mono (by simp;omega))))⟩
     ·by_cases hp1:1<W[k].pkg
      ·go_wp2_with (go_at_call 20;refine(qaz _ _ His.out).mono ?_;rintro e w4 ⟨rfl,hb4⟩;have hz4:=zq hb4;(try simp only[zd,qaa] at hz4);obtain⟨hc4,hf4⟩:=qal hb4;(try simp only[zd,qaa] at hc4);have hl4:wo.heap.size<w4.heap.size:=(by omega))
       go_ret
       exact⟨_,rfl,fun hx=>by simp at hx,HB2.out.trans ((hbel.mono (by omega)).trans (((zp _ _).alloc (by omega) _).trans (hb4.mono (by simp;omega))))⟩
      ·have Hpk:Hid (W[k].pkg=0∨W[k].pkg=1):=hid (by omega);cases hal:W[k].alias with
       | false=>
        rw[hal] at e2;have Hal:=hid hal;clear hal
        go_wp2_with (first|(go_at_call 20;refine(qaz _ _ His.out).mono ?_;rintro e w4 ⟨rfl,hb4⟩;have hz4:=zq hb4;(try simp only[zd,qaa] at hz4);obtain⟨hc4,hf4⟩:=qal hb4;(try simp only[zd,qaa] at hc4);have hl4:wo.heap.size<w4.heap.size:=(by omega))|(go_at_call 34;refine(qgo W _ c w0 HW.out k (by omega) W[k].of _ true _ (by omega) Ht1.out ((HK.out.trans (qac.alloc _ _)).trans (qac.below hb4))).mono ?_;rintro e w5 ⟨b5,rfl,hp5,hb5⟩;have Hp5:=hid hp5;clear hp5;have hz5:=zq hb5;obtain⟨hc5,hf5⟩:=qal hb5;have hl5:wo.heap.size<w5.heap.size:=(by omega);cases b5))
        ·go_ret
         exact⟨_,rfl,fun hx=>by simp at hx,HB2.out.trans ((hbel.mono (by omega)).trans (((zp _ _).alloc (by omega) _).trans ((hb4.mono (by simp;omega)).trans (hb5.mono (by omega)))))⟩
        ·have Halp:Hid (W[k].alias=true→W[k].methods=[]):=hid (fun h=>by rw[Hal.out] at h;cases h);have HB5:Hid (Below wo.heap.size wo w5):=hid (((zp _ _).alloc (zl _) _).trans ((hb4.mono (by simp)).trans (hb5.mono (by omega))));have Hn6:Hid (Blk w5 wo.heap.size 82 [.int .i64 W[k].name,.int .i64 W[k].pkg,.bool false,.int .i64 W[k].of.kind,.int .i64 W[k].of.num,.slice y1 W[k].of.elem.length g1,.slice y2 W[k].of.fields.length g2,.slice y3 W[k].of.methods.length g3,.slice y4 W[k].of.embeds.length g4,.slice y5 W[k].methods.length g5]):=hid (((Blk.new wo 82 [.int .i64 W[k].name,.int .i64 W[k].pkg,.bool false,.int .i64 W[k].of.kind,.int .i64 W[k].of.num,.slice y1 W[k].of.elem.length g1,.slice y2 W[k].of.fields.length g2,.slice y3 W[k].of.methods.length g3,.slice y4 W[k].of.embeds.length g4,.slice y5 W[k].methods.length g5]).keep hb4).keep hb5);have HK5:Hid (qac w0 w5):=hid (HK.out.trans (qac.below HB5.out));have HF5:Hid (qam W k true W[k].of):=hid (Hp5.out (by simp));clear hb4 hc4 hf4 hb5 hc5 hf5 e0 e1 e2 e3 e4 e5 e6 e7 e8 e9
         go_loopw [58] (fun j wr=>∃ i:Nat,i≤k∧j = .int .i64 i∧Below w5.heap.size w5 wr∧Hid (∀ j (hj:j<k),j<i→W[k].name=W[j].name→W[k].pkg≠W[j].pkg))
          (fun j _=>k - (intOf j).toNat)
         case atStart=>exact⟨0,by omega,rfl,zp _ _,hid fun i hi hj=>by omega⟩
         case round=>
          obtain⟨i,hi,rfl,hbel2,hok2⟩:=hrel;have hz6:=zq hbel2;have HK6:Hid (qac w0 wr):=hid (HK5.out.trans (qac.below hbel2));obtain⟨d0,d1,-⟩:=ten ((Hn6.out.keep hbel2).cells);simp only[Nat.zero_add] at d0 d1;have hl6:wo.heap.size<wr.heap.size:=by omega
          have hl7:wo.heap.size<wr.heap.size+1:=by omega
          by_cases hlt2:i<k
          ·obtain⟨b2,o2,Y1,G1,Y2,G2,Y3,G3,Y4,G4,Y5,G5,hbo,-,-,-,-,-,hcc2⟩:=HW.out.row.get i (by omega);cases hbo;obtain⟨e0,e1,e2,e3,e4,e5,e6,e7,e8,e9⟩:=ten (hcc2.keep HK6.out);have hbr2:=zj wr _ e0;simp only at hbr2;clear hcc2;cases heq:(W[k].name==W[i].name) with
           | true=>
            cases hpq:(W[k].pkg==W[i].pkg) with
            | true=>
             go_wp2_with fail
             go_ret
             exact⟨_,rfl,fun hx=>by simp at hx,HB2.out.trans ((hbel.mono (by omega)).trans ((HB5.out.mono (by omega)).trans ((hbel2.mono (by omega)).alloc (by omega) _)))⟩
            | false=>
             go_wp2_with fail
             go_roundw
             case rel=>exact⟨i+1,by omega,by go_num,hbel2.alloc (by omega) _,hid fun j hj hji=>by
              by_cases hje:j=i
              ·subst hje;intro _;simpa using hpq
              ·exact hok2.out j hj (by omega)⟩
             case measure=>simp[intOf];omega
           | false=>
            go_wp2_with fail
            go_roundw
            case rel=>exact⟨i+1,by omega,by go_num,hbel2.alloc (by omega) _,hid fun j hj hji=>by
             by_cases hje:j=i
             ·subst hje;intro h;simp[h] at heq
             ·exact hok2.out j hj (by omega)⟩
            case measure=>simp[intOf];omega
          ·obtain rfl:i=k:=by omega
           go_wp2_with fail
           go_roundw
           case rel=>exact⟨i+1,by omega,by go_num,hbel.trans ((HB5.out.mono (by omega)).trans (hbel2.mono (by omega))),hid fun i2 hi2 hik=>by
            by_cases hie:i2=i
            ·subst hie;have e:=qcg hlt;refine⟨by rw[e];exact⟨His.out,by simpa using H8.out,Hpk.out,HF5.out,Halp.out⟩,fun j hj => ?_⟩;rw[e,qcg (show j<W.length by omega)];exact hok2.out j hj (by omega)
            ·exact hok.out i2 hi2 (by omega)⟩
           case measure=>simp[intOf];omega
       | true=>
        rw[hal] at e2;have Hal:=hid hal;clear hal;by_cases hm:0<W[k].methods.length
        ·go_wp2_with (first|(go_at_call 20;refine(qaz _ _ His.out).mono ?_;rintro e w4 ⟨rfl,hb4⟩;have hz4:=zq hb4;(try simp only[zd,qaa] at hz4);obtain⟨hc4,hf4⟩:=qal hb4;(try simp only[zd,qaa] at hc4);have hl4:wo.heap.size<w4.heap.size:=(by omega))|(go_at_call 34;refine(qgo W _ c w0 HW.out k (by omega) W[k].of _ true _ (by omega) Ht1.out ((HK.out.trans (qac.alloc _ _)).trans (qac.below hb4))).mono ?_;rintro e w5 ⟨b5,rfl,hp5,hb5⟩;have Hp5:=hid hp5;clear hp5;have hz5:=zq hb5;obtain⟨hc5,hf5⟩:=qal hb5;have hl5:wo.heap.size<w5.heap.size:=(by omega);cases b5))
         ·go_ret
          exact⟨_,rfl,fun hx=>by simp at hx,HB2.out.trans ((hbel.mono (by omega)).trans (((zp _ _).alloc (by omega) _).trans ((hb4.mono (by simp;omega)).trans (hb5.mono (by omega)))))⟩
         ·go_ret
          exact⟨_,rfl,fun hx=>by simp at hx,HB2.out.trans ((hbel.mono (by omega)).trans (((zp _ _).alloc (by omega) _).trans ((hb4.mono (by simp;omega)).trans (hb5.mono (by omega)))))⟩
        ·have Hm:Hid (W[k].methods=[]):=hid (by simpa using hm)
         go_wp2_with (first|(go_at_call 20;refine(qaz _ _ His.out).mono ?_;rintro e w4 ⟨rfl,hb4⟩;have hz4:=zq hb4;(try simp only[zd,qaa] at hz4);obtain⟨hc4,hf4⟩:=qal hb4;(try simp only[zd,qaa] at hc4);have hl4:wo.heap.size<w4.heap.size:=(by omega))|(go_at_call 34;refine(qgo W _ c w0 HW.out k (by omega) W[k].of _ true _ (by omega) Ht1.out ((HK.out.trans (qac.alloc _ _)).trans (qac.below hb4))).mono ?_;rintro e w5 ⟨b5,rfl,hp5,hb5⟩;have Hp5:=hid hp5;clear hp5;have hz5:=zq hb5;obtain⟨hc5,hf5⟩:=qal hb5;have hl5:wo.heap.size<w5.heap.size:=(by omega);cases b5))
         ·go_ret
          exact⟨_,rfl,fun hx=>by simp at hx,HB2.out.trans ((hbel.mono (by omega)).trans (((zp _ _).alloc (by omega) _).trans ((hb4.mono (by simp;omega)).trans (hb5.mono (by omega)))))⟩
         ·have Halp:Hid (W[k].alias=true→W[k].methods=[]):=hid (fun _=>Hm.out);have HB5:Hid (Below wo.heap.size wo w5):=hid (((zp _ _).alloc (zl _) _).trans ((hb4.mono (by simp)).trans (hb5.mono (by omega))));have Hn6:Hid (Blk w5 wo.heap.size 82 [.int .i64 W[k].name,.int .i64 W[k].pkg,.bool true,.int .i64 W[k].of.kind,.int .i64 W[k].of.num,.slice y1 W[k].of.elem.length g1,.slice y2 W[k].of.fields.length g2,.slice y3 W[k].of.methods.length g3,.slice y4 W[k].of.embeds.length g4,.slice y5 W[k].methods.length g5]):=hid (((Blk.new wo 82 [.int .i64 W[k].name,.int .i64 W[k].pkg,.bool true,.int .i64 W[k].of.kind,.int .i64 W[k].of.num,.slice y1 W[k].of.elem.length g1,.slice y2 W[k].of.fields.length g2,.slice y3 W[k].of.methods.length g3,.slice y4 W[k].of.embeds.length g4,.slice y5 W[k].methods.length g5]).keep hb4).keep hb5);have HK5:Hid (qac w0 w5):=hid (HK.out.trans (qac.below HB5.out));have HF5:Hid (qam W k true W[k].of):=hid (Hp5.out (by simp));clear hb4 hc4 hf4 hb5 hc5 hf5 e0 e1 e2 e3 e4 e5 e6 e7 e8 e9
          go_loopw [58] (fun j wr=>∃ i:Nat,i≤k∧j = .int .i64 i∧Below w5.heap.size w5 wr∧Hid (∀ j (hj:j<k),j<i→W[k].name=W[j].name→W[k].pkg≠W[j].pkg))
           (fun j _=>k - (intOf j).toNat)
          case atStart=>exact⟨0,by omega,rfl,zp _ _,hid fun i hi hj=>by omega⟩
          case round=>
           obtain⟨i,hi,rfl,hbel2,hok2⟩:=hrel;have hz6:=zq hbel2;have HK6:Hid (qac w0 wr):=hid (HK5.out.trans (qac.below hbel2));obtain⟨d0,d1,-⟩:=ten ((Hn6.out.keep hbel2).cells);simp only[Nat.zero_add] at d0 d1;have hl6:wo.heap.size<wr.heap.size:=by omega
           have hl7:wo.heap.size<wr.heap.size+1:=by omega
           by_cases hlt2:i<k
           ·obtain⟨b2,o2,Y1,G1,Y2,G2,Y3,G3,Y4,G4,Y5,G5,hbo,-,-,-,-,-,hcc2⟩:=HW.out.row.get i (by omega);cases hbo;obtain⟨e0,e1,e2,e3,e4,e5,e6,e7,e8,e9⟩:=ten (hcc2.keep HK6.out);have hbr2:=zj wr _ e0;simp only at hbr2;clear hcc2;cases heq:(W[k].name==W[i].name) with
            | true=>
             cases hpq:(W[k].pkg==W[i].pkg) with
             | true=>
              go_wp2_with fail
              go_ret
              exact⟨_,rfl,fun hx=>by simp at hx,HB2.out.trans ((hbel.mono (by omega)).trans ((HB5.out.mono (by omega)).trans ((hbel2.mono (by omega)).alloc (by omega) _)))⟩
             | false=>
              go_wp2_with fail
              go_roundw
              case rel=>exact⟨i+1,by omega,by go_num,hbel2.alloc (by omega) _,hid fun j hj hji=>by
               by_cases hje:j=i
               ·subst hje;intro _;simpa using hpq
               ·exact hok2.out j hj (by omega)⟩
              case measure=>simp[intOf];omega
            | false=>
             go_wp2_with fail
             go_roundw
             case rel=>exact⟨i+1,by omega,by go_num,hbel2.alloc (by omega) _,hid fun j hj hji=>by
              by_cases hje:j=i
              ·subst hje;intro h;simp[h] at heq
              ·exact hok2.out j hj (by omega)⟩
             case measure=>simp[intOf];omega
           ·obtain rfl:i=k:=by omega
            go_wp2_with fail
            go_roundw
            case rel=>exact⟨i+1,by omega,by go_num,hbel.trans ((HB5.out.mono (by omega)).trans (hbel2.mono (by omega))),hid fun i2 hi2 hik=>by
             by_cases hie:i2=i
             ·subst hie;have e:=qcg hlt;refine⟨by rw[e];exact⟨His.out,by simpa using H8.out,Hpk.out,HF5.out,Halp.out⟩,fun j hj => ?_⟩;rw[e,qcg (show j<W.length by omega)];exact hok2.out j hj (by omega)
             ·exact hok.out i2 hi2 (by omega)⟩
            case measure=>simp[intOf];omega
   ·have His:=hid his;clear his
    go_wp2_with (go_at_call 20;refine(qdt _ _ His.out).mono ?_;rintro e w4 ⟨rfl,hb4⟩;have hz4:=zq hb4;(try simp only[zd,qaa] at hz4))
    go_ret
    exact⟨_,rfl,fun hx=>by simp at hx,HB2.out.trans ((hbel.mono (by omega)).trans (((zp _ _).alloc (by omega) _).trans (hb4.mono (by simp;omega))))⟩
  ·obtain rfl:k=W.length:=by omega
   have Hdk:=hid (fun i (hi:i<W.length)=>hok.out i hi hi);have HFA:=hid (qfr.formed Hdk.out);have HNA:=hid (qfr.names Hdk.out);have HCA:=hid (qfr.clo Hdk.out);obtain⟨c0,c1,c2,c3,c4,c5⟩:=six ((Hb.out.keep (qac.below hbel)));simp only[Nat.zero_add] at c0 c1 c2 c3 c4 c5;have hw2:w.heap.size<wo.heap.size:=by omega
   clear hok hlt
   go_wp2_with (first|(go_at_call 34;refine(qgo W _ c w0 HW.out (-1) (by omega) t _ true _ hb Htt.out HK.out).mono ?_;rintro e w4 ⟨b4,rfl,hp4,hb4⟩;have Hp4:=hid hp4;clear hp4;have hz4:=zq hb4;obtain⟨hc4,hf4⟩:=qal hb4;cases b4)|(go_at_call 35;refine(qth W _ c w0 _ HW.out HFA.out t _ hb Htt.out (Hp4.out (by simp)) (HK.out.trans (qac.below hb4))).mono ?_;rintro e w5 ⟨b5,rfl,hp5,hb5⟩;have Hp5:=hid hp5;clear hp5;have hz5:=zq hb5;cases b5))
   ·go_ret
    exact⟨_,rfl,fun hx=>by simp at hx,HB2.out.trans ((hbel.mono (by omega)).trans (hb4.mono (by omega)))⟩
   ·go_ret
    exact⟨_,rfl,fun hx=>by simp at hx,HB2.out.trans ((hbel.mono (by omega)).trans ((hb4.mono (by omega)).trans (hb5.mono (by omega))))⟩
   ·have HB5:Hid (Below w2.heap.size w2 w5):=hid (hbel.trans ((hb4.mono (by omega)).trans (hb5.mono (by omega))));have Hft:=hid (Hp4.out (by simp));have Hsm:=hid (Hp5.out (by simp));clear hbel hb4 hc4 hf4 hb5 c0 c1 c2 c3 c4 c5 HK Hp4 Hp5
    go_loopw [88] (fun j wr=>∃ k:Nat,k≤W.length∧j = .int .i64 k∧Below w2.heap.size w2 wr∧Hid (∀ i,i<W.length→i<k→qcj W (qad W i)∧qen W i))
     (fun j _=>W.length - (intOf j).toNat)
    case atStart=>exact⟨0,by omega,rfl,HB5.out,hid fun i hi hk=>by omega⟩
    case round=>
     obtain⟨k,hk,rfl,hbel,hok⟩:=hrel;have hz:=zq hbel;have HK:Hid (qac w0 wr):=hid (K0.out.trans ((qac.below HB2.out).trans (qac.below hbel)));by_cases hlt:k<W.length
     ·have Hsk:=hid (qho HNA.out HFA.out hlt);have hbs:(qad W k).of.bulk≤1048576∧(qad W k).at_+(qad W k).of.bulk≤4194304:=by
       have h1:=qfe hlt;have h2:=qcv W k;unfold Dc.bulk at h1;simp only[qad];omega
      obtain⟨hbs1,hbs2⟩:=hbs
      go_wp2_with (first|(go_at_call 37;refine(qeo W _ c k w0 _ HK.out HW.out.row hlt hcap hbk).mono ?_;rintro e w4 ⟨cs,rfl,ht4,hb4⟩;obtain⟨y1,g1,y2,g2,y3,g3,y4,g4,rfl,-⟩:=ht4.open;have Hs4:Hid (qb6 w0 (qad W k) (.agg #[.int .i64 (qad W k).of.kind,.int .i64 (qad W k).of.num,.slice y1 (qad W k).of.elem.length g1,.slice y2 (qad W k).of.fields.length g2,.slice y3 (qad W k).of.methods.length g3,.slice y4 (qad W k).of.embeds.length g4,.int .i64 (qad W k).at_,.int .i64 (qad W k).pkg])):=hid ⟨_,rfl,ht4⟩;clear ht4;have hz4:=zq hb4)|(go_at_call 36;refine(qod W _ c w0 HW.out HCA.out (qad W k) _ _ hbs1 hbs2 Hsk.out.formed Hsk.out.i64 Hs4.out (HK.out.trans (qac.below hb4))).mono ?_;rintro e w5 ⟨b5,rfl,hp5,hb5⟩;have Hp5:=hid hp5;clear hp5;have hz5:=zq hb5;cases b5)|(go_at_call 38;refine(qn9 W _ c w0 HW.out HCA.out HNA.out HFA.out k hlt _ ((HK.out.trans (qac.below hb4)).trans (qac.below hb5))).mono ?_;rintro e w6 ⟨b6,rfl,hp6,hb6⟩;have Hp6:=hid hp6;clear hp6;have hz6:=zq hb6;cases b6))
      ·go_ret
       exact⟨_,rfl,fun hx=>by simp at hx,HB2.out.trans ((hbel.mono (by omega)).trans ((hb4.mono (by omega)).trans (hb5.mono (by omega))))⟩
      ·go_ret
       exact⟨_,rfl,fun hx=>by simp at hx,HB2.out.trans ((hbel.mono (by omega)).trans ((hb4.mono (by omega)).trans ((hb5.mono (by omega)).trans (hb6.mono (by omega)))))⟩
      ·go_roundw
       case rel=>exact⟨k+1,by omega,by go_num,hbel.trans ((hb4.mono (by omega)).trans ((hb5.mono (by omega)).trans (hb6.mono (by omega)))),hid fun i hi hik=>by
        by_cases hie:i=k
        ·subst hie;exact⟨Hp5.out (by simp),Hp6.out (by simp)⟩
        ·exact hok.out i hi (by omega)⟩
       case measure=>simp[intOf];omega
     ·obtain rfl:k=W.length:=by omega
      obtain⟨c0,c1,c2,c3,c4,c5⟩:=six ((Hb.out.keep (qac.below hbel)));simp only[Nat.zero_add] at c0 c1 c2 c3 c4 c5;have hw2:w.heap.size<wr.heap.size:=by omega
      have hat:(operand W t).at_+(operand W t).of.bulk≤4194304:=by
       have:=qcv W W.length;simp only[operand];omega
      have hpk:i64 (operand W t).pkg:=⟨by simp[operand],by simp[operand]⟩;clear hlt
      go_wp2_with (first|(go_at_call 33;refine(qpr W _ c t _ w0 _ HK.out HW.out.row Htt.out hcap hbk).mono ?_;rintro e w4 ⟨cs,rfl,ht4,hb4⟩;obtain⟨y1,g1,y2,g2,y3,g3,y4,g4,rfl,-⟩:=ht4.open;have Hs4:Hid (qb6 w0 (operand W t) (.agg #[.int .i64 (operand W t).of.kind,.int .i64 (operand W t).of.num,.slice y1 (operand W t).of.elem.length g1,.slice y2 (operand W t).of.fields.length g2,.slice y3 (operand W t).of.methods.length g3,.slice y4 (operand W t).of.embeds.length g4,.int .i64 (operand W t).at_,.int .i64 (operand W t).pkg])):=hid ⟨_,rfl,ht4⟩;clear ht4;have hz4:=zq hb4)|(go_at_call 36;refine(qod W _ c w0 HW.out HCA.out (operand W t) _ _ hb hat ⟨-1,true,Hft.out⟩ hpk Hs4.out (HK.out.trans (qac.below hb4))).mono ?_;rintro e w5 ⟨b5,rfl,hp5,hb5⟩;have Hp5:=hid hp5;clear hp5;have hz5:=zq hb5))
      go_ret
      exact⟨_,rfl,fun hx=>⟨qfz.mk' Hdk.out Hft.out (fun d hd=>hok.out d hd hd) (Hp5.out hx),Hsm.out⟩,HB2.out.trans ((hbel.mono (by omega)).trans ((hb4.mono (by omega)).trans (hb5.mono (by omega))))⟩
