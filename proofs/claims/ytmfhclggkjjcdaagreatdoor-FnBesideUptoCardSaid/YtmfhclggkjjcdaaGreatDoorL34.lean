import Derived.Test.YtmfhclggkjjcdaaGreatDoorL33
import Derived.Test.YtmfhclggkjjcdaaGreatDoorL32
set_option linter.all false
set_option maxHeartbeats 16000000
namespace Go.Proofs.YtmfhclggkjjcdaaGreatDoor
open Go Go.RowKit Go.Proofs.Tryz
set_option maxRecDepth 100000
theorem qhc {W:Wd} {d:Nat} (hd:d<W.length) (h1:¬ ((under W (qad W d)).of.kind=2∧(under W (qaq (under W (qad W d)))).of.kind=2))
  (h2:0<W[d].methods.length→(under W (qad W d)).of.kind≠2∧(under W (qad W d)).of.kind≠5)
  (h3:∀ k (hk:k<W[d].methods.length),IsNm W[d].methods[k].name∧W[d].methods[k].name≠8∧(∀ j (hj:j<k),W[d].methods[k].name≠W[d].methods[j].name)∧
   ∀ i (hi:i<(under W (qad W d)).of.fields.length),idS (under W (qad W d)).pkg (fname W (under W (qad W d)).of.fields[i])≠idS W[d].pkg W[d].methods[k].name):qen W d:=by
 unfold qen;simp only[qcg hd];refine⟨h1,fun hm=>h2 (List.length_pos_iff.2 hm),fun m hm => ?_,qha _ fun i hi j hj => ?_,fun m hm f hf => ?_⟩
 ·obtain⟨k,hk,rfl⟩:=List.getElem_of_mem hm;exact⟨(h3 k hk).1,(h3 k hk).2.1⟩
 ·simp only[List.length_map] at hi;simp only[List.getElem_map];exact(h3 i hi).2.2.1 j hj
 ·obtain⟨k,hk,rfl⟩:=List.getElem_of_mem hm;obtain⟨i,hi,rfl⟩:=List.getElem_of_mem hf;exact idS_neA ((h3 k hk).2.2.2 i hi)
theorem qjn {W:Wd} (hbk:qbw W≤1048576) (hC:CloW W):∀ (n:Nat) (s:Spot),s.of.clo W.length→s.of.bulk≤1048576→(qb9 W n s).of.bulk≤1048576
 | 0,s,hc,hb=>hb
 | n+1,s,hc,hb=>by
  simp only[qb9];split
  ·rename_i hk;have h1:=Ty.clo_num hc hk;have h2:=qfe (W:=W) (d:=s.of.num.toNat) (by omega);exact qjn hbk hC n _ (hC _ (by omega)) (by unfold qad;unfold Dc.bulk at h2;simp only;omega)
  ·exact hb
theorem qn9 (W:Wd) (a:Option Addr) (c:Nat) (w0:World) (hW:WOk w0 W a c) (hC:CloW W) (hN:qic W) (hF:qei W) (d:Nat) (hd:d<W.length) (w:World) (k0:qac w0 w):
  Calls prog 38 #[.slice a W.length c,.int .i64 d] w (qb8 (qen W d) w):=by
 have hl:=qbk W;have hcap:=hW.cap;have hbk:=hW.bulk;have hbd:=qfe hd;rw[qcg hd] at hbd;unfold Dc.bulk at hbd;have HW:=hid hW;have HC:=hid hC;have HN:=hid hN;have HF:=hid hF;have K0:=hid k0;have Hsok:=hid (qho hN hF hd);have Huok:=hid (qvz hN hF (qho hN hF hd));have Hpk:=hid (by have:=(hN d hd).2;rw[qcg hd] at this;exact this:W[d].pkg=0∨W[d].pkg=1);obtain⟨b,o,p1,G1,p2,G2,p3,G3,p4,G4,p5,G5,rfl,hmc,-,-,hms,-,hcc⟩:=hW.row.get d hd;have Hcc:=hid hcc;have Hms:=hid hms;obtain⟨e0,e1,e2,e3,e4,e5,e6,e7,e8,e9⟩:=ten (hcc.keep k0);have hbr:=zj w _ e0;simp only at hbr;clear hW hC hN hF hcc hms e0 e1 e2 e3 e4 e5 e6 e7 e8 e9;have tok1:True:=trivial;have hfs:=qd5;have hft:=qde;have hml:W[d].methods.length≤1048576:=by omega
 by_cases hk2:(under W (qad W d)).of.kind=2
 ·have hkd:((under W (qad W d)).of.kind==2)=true:=by simp[hk2]
  have hel:0<(under W (qad W d)).of.elem.length:=by have:=qvt Huok.out (.inl hk2);omega
  have Hel:=hid hel;have Heok:=hid (elem_ok Huok.out hel);have Hk2:=hid hk2;clear hk2 hel;cases hq:((under W (qaq (under W (qad W d)))).of.kind==2) with
  | true=>
   go_enter func38,ntmps38
   go_wp2_with (first|(go_at_call 37;refine(qeo W _ c d w0 _ K0.out HW.out.row hd hcap hbk).mono ?_;rintro e w1 ⟨cs,rfl,ht1,hb1⟩;obtain⟨y1,g1,y2,g2,y3,g3,y4,g4,rfl,-⟩:=ht1.open;have Hs1:Hid (qb6 w0 (qad W d) (.agg #[.int .i64 (qad W d).of.kind,.int .i64 (qad W d).of.num,.slice y1 (qad W d).of.elem.length g1,.slice y2 (qad W d).of.fields.length g2,.slice y3 (qad W d).of.methods.length g3,.slice y4 (qad W d).of.embeds.length g4,.int .i64 (qad W d).at_,.int .i64 (qad W d).pkg])):=hid ⟨_,rfl,ht1⟩;clear ht1;have hz1:=zq hb1)|(go_at_call 32;have _t:=tok1;clear _t tok1;refine(qb3 W _ c (qad W d) _ w0 _ (K0.out.trans (qac.below hb1)) HW.out HC.out Hs1.out Hsok.out.clo).mono ?_;rintro e w3 ⟨cs,rfl,ht3,hb3⟩;obtain⟨x1,d1,x2,d2,x3,d3,x4,d4,rfl,-⟩:=ht3.open;obtain⟨D0,D1,D2,D3,D4,D5,D6,D7,D8,D9⟩:=ten (Hcc.out.keep ((K0.out.trans (qac.below hb1)).trans (qac.below hb3)));have hbr3:b<w3.heap.size:=zj w3 _ D0;have hbr4:b<w3.heap.size+1:=(by omega);have Hs3:Hid (qb6 w0 (under W (qad W d)) (.agg #[.int .i64 (under W (qad W d)).of.kind,.int .i64 (under W (qad W d)).of.num,.slice x1 (under W (qad W d)).of.elem.length d1,.slice x2 (under W (qad W d)).of.fields.length d2,.slice x3 (under W (qad W d)).of.methods.length d3,.slice x4 (under W (qad W d)).of.embeds.length d4,.int .i64 (under W (qad W d)).at_,.int .i64 (under W (qad W d)).pkg])):=hid ⟨_,rfl,ht3⟩;clear ht3;have hz3:=zq hb3)|(go_at_call 60;refine(qhs (under W (qad W d)) _ w0 _ (((K0.out.trans (qac.below hb1)).trans (qac.below hb3)).trans (qac.alloc _ _)) Hs3.out Hel.out).mono ?_;rintro e w4 ⟨cs,rfl,ht4,hb4⟩;obtain⟨z1,r1,z2,r2,z3,r3,z4,r4,rfl,-⟩:=ht4.open;have Hs4:Hid (qb6 w0 (qaq (under W (qad W d))) (.agg #[.int .i64 (qaq (under W (qad W d))).of.kind,.int .i64 (qaq (under W (qad W d))).of.num,.slice z1 (qaq (under W (qad W d))).of.elem.length r1,.slice z2 (qaq (under W (qad W d))).of.fields.length r2,.slice z3 (qaq (under W (qad W d))).of.methods.length r3,.slice z4 (qaq (under W (qad W d))).of.embeds.length r4,.int .i64 (qaq (under W (qad W d))).at_,.int .i64 (qaq (under W (qad W d))).pkg])):=hid ⟨_,rfl,ht4⟩;clear ht4;have hz4:=zq hb4;(try simp only[zd,qaa] at hz4);obtain⟨hc4,hf4⟩:=qal hb4;(try simp only[zd,qaa] at hc4))|(go_at_call 32;refine(qb3 W _ c (qaq (under W (qad W d))) _ w0 _ ((((K0.out.trans (qac.below hb1)).trans (qac.below hb3)).trans (qac.alloc _ _)).trans (qac.below hb4)) HW.out HC.out Hs4.out Heok.out.clo).mono ?_;rintro e w5 ⟨cs,rfl,ht5,hb5⟩;obtain⟨u1,s1,u2,s2,u3,s3,u4,s4,rfl,-⟩:=ht5.open;clear ht5;have hz5:=zq hb5;obtain⟨hc5,hf5⟩:=qal hb5;have hl5:w3.heap.size<w5.heap.size:=(by omega);have hl4:w3.heap.size<w4.heap.size:=(by omega);have hl3:w3.heap.size<w3.heap.size+1:=zw _;have hl6:b<w5.heap.size:=(by omega);have hl7:b<w4.heap.size:=(by omega)))
   go_ret
   exact⟨_,rfl,fun hx=>by simp at hx,((hb1.trans (hb3.mono (by omega))).trans (((zp _ _).alloc (by omega) _).trans ((hb4.mono (by simp;omega)).trans (hb5.mono (by omega)))))⟩
  | false=>
   have Hq:Hid (¬ (under W (qaq (under W (qad W d)))).of.kind=2):=hid (by simpa using hq);by_cases hm:0<W[d].methods.length
   ·go_enter func38,ntmps38
    go_wp2_with (first|(go_at_call 37;refine(qeo W _ c d w0 _ K0.out HW.out.row hd hcap hbk).mono ?_;rintro e w1 ⟨cs,rfl,ht1,hb1⟩;obtain⟨y1,g1,y2,g2,y3,g3,y4,g4,rfl,-⟩:=ht1.open;have Hs1:Hid (qb6 w0 (qad W d) (.agg #[.int .i64 (qad W d).of.kind,.int .i64 (qad W d).of.num,.slice y1 (qad W d).of.elem.length g1,.slice y2 (qad W d).of.fields.length g2,.slice y3 (qad W d).of.methods.length g3,.slice y4 (qad W d).of.embeds.length g4,.int .i64 (qad W d).at_,.int .i64 (qad W d).pkg])):=hid ⟨_,rfl,ht1⟩;clear ht1;have hz1:=zq hb1)|(go_at_call 32;have _t:=tok1;clear _t tok1;refine(qb3 W _ c (qad W d) _ w0 _ (K0.out.trans (qac.below hb1)) HW.out HC.out Hs1.out Hsok.out.clo).mono ?_;rintro e w3 ⟨cs,rfl,ht3,hb3⟩;obtain⟨x1,d1,x2,d2,x3,d3,x4,d4,rfl,-⟩:=ht3.open;obtain⟨D0,D1,D2,D3,D4,D5,D6,D7,D8,D9⟩:=ten (Hcc.out.keep ((K0.out.trans (qac.below hb1)).trans (qac.below hb3)));have hbr3:b<w3.heap.size:=zj w3 _ D0;have hbr4:b<w3.heap.size+1:=(by omega);have Hs3:Hid (qb6 w0 (under W (qad W d)) (.agg #[.int .i64 (under W (qad W d)).of.kind,.int .i64 (under W (qad W d)).of.num,.slice x1 (under W (qad W d)).of.elem.length d1,.slice x2 (under W (qad W d)).of.fields.length d2,.slice x3 (under W (qad W d)).of.methods.length d3,.slice x4 (under W (qad W d)).of.embeds.length d4,.int .i64 (under W (qad W d)).at_,.int .i64 (under W (qad W d)).pkg])):=hid ⟨_,rfl,ht3⟩;clear ht3;have hz3:=zq hb3)|(go_at_call 60;refine(qhs (under W (qad W d)) _ w0 _ (((K0.out.trans (qac.below hb1)).trans (qac.below hb3)).trans (qac.alloc _ _)) Hs3.out Hel.out).mono ?_;rintro e w4 ⟨cs,rfl,ht4,hb4⟩;obtain⟨z1,r1,z2,r2,z3,r3,z4,r4,rfl,-⟩:=ht4.open;have Hs4:Hid (qb6 w0 (qaq (under W (qad W d))) (.agg #[.int .i64 (qaq (under W (qad W d))).of.kind,.int .i64 (qaq (under W (qad W d))).of.num,.slice z1 (qaq (under W (qad W d))).of.elem.length r1,.slice z2 (qaq (under W (qad W d))).of.fields.length r2,.slice z3 (qaq (under W (qad W d))).of.methods.length r3,.slice z4 (qaq (under W (qad W d))).of.embeds.length r4,.int .i64 (qaq (under W (qad W d))).at_,.int .i64 (qaq (under W (qad W d))).pkg])):=hid ⟨_,rfl,ht4⟩;clear ht4;have hz4:=zq hb4;(try simp only[zd,qaa] at hz4);obtain⟨hc4,hf4⟩:=qal hb4;(try simp only[zd,qaa] at hc4))|(go_at_call 32;refine(qb3 W _ c (qaq (under W (qad W d))) _ w0 _ ((((K0.out.trans (qac.below hb1)).trans (qac.below hb3)).trans (qac.alloc _ _)).trans (qac.below hb4)) HW.out HC.out Hs4.out Heok.out.clo).mono ?_;rintro e w5 ⟨cs,rfl,ht5,hb5⟩;obtain⟨u1,s1,u2,s2,u3,s3,u4,s4,rfl,-⟩:=ht5.open;clear ht5;have hz5:=zq hb5;obtain⟨hc5,hf5⟩:=qal hb5;have hl5:w3.heap.size<w5.heap.size:=(by omega);have hl4:w3.heap.size<w4.heap.size:=(by omega);have hl3:w3.heap.size<w3.heap.size+1:=zw _;have hl6:b<w5.heap.size:=(by omega);have hl7:b<w4.heap.size:=(by omega)))
    go_ret
    exact⟨_,rfl,fun hx=>by simp at hx,((hb1.trans (hb3.mono (by omega))).trans (((zp _ _).alloc (by omega) _).trans ((hb4.mono (by simp;omega)).trans (hb5.mono (by omega)))))⟩
   ·have hm0:W[d].methods.length≤0:=by omega
    go_enter func38,ntmps38
    go_wp2_with (first|(go_at_call 37;refine(qeo W _ c d w0 _ K0.out HW.out.row hd hcap hbk).mono ?_;rintro e w1 ⟨cs,rfl,ht1,hb1⟩;obtain⟨y1,g1,y2,g2,y3,g3,y4,g4,rfl,-⟩:=ht1.open;have Hs1:Hid (qb6 w0 (qad W d) (.agg #[.int .i64 (qad W d).of.kind,.int .i64 (qad W d).of.num,.slice y1 (qad W d).of.elem.length g1,.slice y2 (qad W d).of.fields.length g2,.slice y3 (qad W d).of.methods.length g3,.slice y4 (qad W d).of.embeds.length g4,.int .i64 (qad W d).at_,.int .i64 (qad W d).pkg])):=hid ⟨_,rfl,ht1⟩;clear ht1;have hz1:=zq hb1)|(go_at_call 32;have _t:=tok1;clear _t tok1;refine(qb3 W _ c (qad W d) _ w0 _ (K0.out.trans (qac.below hb1)) HW.out HC.out Hs1.out Hsok.out.clo).mono ?_;rintro e w3 ⟨cs,rfl,ht3,hb3⟩;obtain⟨x1,d1,x2,d2,x3,d3,x4,d4,rfl,-⟩:=ht3.open;obtain⟨D0,D1,D2,D3,D4,D5,D6,D7,D8,D9⟩:=ten (Hcc.out.keep ((K0.out.trans (qac.below hb1)).trans (qac.below hb3)));have hbr3:b<w3.heap.size:=zj w3 _ D0;have hbr4:b<w3.heap.size+1:=(by omega);have Hs3:Hid (qb6 w0 (under W (qad W d)) (.agg #[.int .i64 (under W (qad W d)).of.kind,.int .i64 (under W (qad W d)).of.num,.slice x1 (under W (qad W d)).of.elem.length d1,.slice x2 (under W (qad W d)).of.fields.length d2,.slice x3 (under W (qad W d)).of.methods.length d3,.slice x4 (under W (qad W d)).of.embeds.length d4,.int .i64 (under W (qad W d)).at_,.int .i64 (under W (qad W d)).pkg])):=hid ⟨_,rfl,ht3⟩;clear ht3;have hz3:=zq hb3)|(go_at_call 60;refine(qhs (under W (qad W d)) _ w0 _ (((K0.out.trans (qac.below hb1)).trans (qac.below hb3)).trans (qac.alloc _ _)) Hs3.out Hel.out).mono ?_;rintro e w4 ⟨cs,rfl,ht4,hb4⟩;obtain⟨z1,r1,z2,r2,z3,r3,z4,r4,rfl,-⟩:=ht4.open;have Hs4:Hid (qb6 w0 (qaq (under W (qad W d))) (.agg #[.int .i64 (qaq (under W (qad W d))).of.kind,.int .i64 (qaq (under W (qad W d))).of.num,.slice z1 (qaq (under W (qad W d))).of.elem.length r1,.slice z2 (qaq (under W (qad W d))).of.fields.length r2,.slice z3 (qaq (under W (qad W d))).of.methods.length r3,.slice z4 (qaq (under W (qad W d))).of.embeds.length r4,.int .i64 (qaq (under W (qad W d))).at_,.int .i64 (qaq (under W (qad W d))).pkg])):=hid ⟨_,rfl,ht4⟩;clear ht4;have hz4:=zq hb4;(try simp only[zd,qaa] at hz4);obtain⟨hc4,hf4⟩:=qal hb4;(try simp only[zd,qaa] at hc4))|(go_at_call 32;refine(qb3 W _ c (qaq (under W (qad W d))) _ w0 _ ((((K0.out.trans (qac.below hb1)).trans (qac.below hb3)).trans (qac.alloc _ _)).trans (qac.below hb4)) HW.out HC.out Hs4.out Heok.out.clo).mono ?_;rintro e w5 ⟨cs,rfl,ht5,hb5⟩;obtain⟨u1,s1,u2,s2,u3,s3,u4,s4,rfl,-⟩:=ht5.open;clear ht5;have hz5:=zq hb5;obtain⟨hc5,hf5⟩:=qal hb5;have hl5:w3.heap.size<w5.heap.size:=(by omega);have hl4:w3.heap.size<w4.heap.size:=(by omega);have hl3:w3.heap.size<w3.heap.size+1:=zw _;have hl6:b<w5.heap.size:=(by omega);have hl7:b<w4.heap.size:=(by omega)))
    go_loopw [55] (fun j wr=>j = .int .i64 ((0:Nat):Int)∧Below w.heap.size w wr) (fun j _=>1)
    case atStart=>exact⟨rfl,((hb1.trans (hb3.mono (by omega))).trans (((zp _ _).alloc (by omega) _).trans ((hb4.mono (by simp;omega)).trans (hb5.mono (by omega)))))⟩
    case round=>
     obtain⟨rfl,hbel⟩:=hrel
     go_wp2_with fail
     go_ret
     exact⟨_,rfl,fun hx=>qhc hd (fun h=>Hq.out h.2) (fun h=>by omega) (fun k hk=>by omega),bel⟩
 ·have hkd:((under W (qad W d)).of.kind==2)=false:=by simp[hk2]
  have Hk2:=hid hk2;clear hk2;by_cases hm:0<W[d].methods.length
  ·cases hq:((under W (qad W d)).of.kind==5) with
   | true=>
    go_enter func38,ntmps38
    go_wp2_with (first|(go_at_call 37;refine(qeo W _ c d w0 _ K0.out HW.out.row hd hcap hbk).mono ?_;rintro e w1 ⟨cs,rfl,ht1,hb1⟩;obtain⟨y1,g1,y2,g2,y3,g3,y4,g4,rfl,-⟩:=ht1.open;have Hs1:Hid (qb6 w0 (qad W d) (.agg #[.int .i64 (qad W d).of.kind,.int .i64 (qad W d).of.num,.slice y1 (qad W d).of.elem.length g1,.slice y2 (qad W d).of.fields.length g2,.slice y3 (qad W d).of.methods.length g3,.slice y4 (qad W d).of.embeds.length g4,.int .i64 (qad W d).at_,.int .i64 (qad W d).pkg])):=hid ⟨_,rfl,ht1⟩;clear ht1;have hz1:=zq hb1)|(go_at_call 32;have _t:=tok1;clear _t tok1;refine(qb3 W _ c (qad W d) _ w0 _ (K0.out.trans (qac.below hb1)) HW.out HC.out Hs1.out Hsok.out.clo).mono ?_;rintro e w3 ⟨cs,rfl,ht3,hb3⟩;obtain⟨x1,d1,x2,d2,x3,d3,x4,d4,rfl,-⟩:=ht3.open;obtain⟨D0,D1,D2,D3,D4,D5,D6,D7,D8,D9⟩:=ten (Hcc.out.keep ((K0.out.trans (qac.below hb1)).trans (qac.below hb3)));have hbr3:b<w3.heap.size:=zj w3 _ D0;have hbr4:b<w3.heap.size+1:=(by omega);have Hs3:Hid (qb6 w0 (under W (qad W d)) (.agg #[.int .i64 (under W (qad W d)).of.kind,.int .i64 (under W (qad W d)).of.num,.slice x1 (under W (qad W d)).of.elem.length d1,.slice x2 (under W (qad W d)).of.fields.length d2,.slice x3 (under W (qad W d)).of.methods.length d3,.slice x4 (under W (qad W d)).of.embeds.length d4,.int .i64 (under W (qad W d)).at_,.int .i64 (under W (qad W d)).pkg])):=hid ⟨_,rfl,ht3⟩;clear ht3;have hz3:=zq hb3))
    go_ret
    exact⟨_,rfl,fun hx=>by simp at hx,bel⟩
   | false=>
    have Hq:Hid (¬ (under W (qad W d)).of.kind=5):=hid (by simpa using hq);go_enter func38,ntmps38
    go_wp2_with (first|(go_at_call 37;refine(qeo W _ c d w0 _ K0.out HW.out.row hd hcap hbk).mono ?_;rintro e w1 ⟨cs,rfl,ht1,hb1⟩;obtain⟨y1,g1,y2,g2,y3,g3,y4,g4,rfl,-⟩:=ht1.open;have Hs1:Hid (qb6 w0 (qad W d) (.agg #[.int .i64 (qad W d).of.kind,.int .i64 (qad W d).of.num,.slice y1 (qad W d).of.elem.length g1,.slice y2 (qad W d).of.fields.length g2,.slice y3 (qad W d).of.methods.length g3,.slice y4 (qad W d).of.embeds.length g4,.int .i64 (qad W d).at_,.int .i64 (qad W d).pkg])):=hid ⟨_,rfl,ht1⟩;clear ht1;have hz1:=zq hb1)|(go_at_call 32;have _t:=tok1;clear _t tok1;refine(qb3 W _ c (qad W d) _ w0 _ (K0.out.trans (qac.below hb1)) HW.out HC.out Hs1.out Hsok.out.clo).mono ?_;rintro e w3 ⟨cs,rfl,ht3,hb3⟩;obtain⟨x1,d1,x2,d2,x3,d3,x4,d4,rfl,-⟩:=ht3.open;obtain⟨D0,D1,D2,D3,D4,D5,D6,D7,D8,D9⟩:=ten (Hcc.out.keep ((K0.out.trans (qac.below hb1)).trans (qac.below hb3)));have hbr3:b<w3.heap.size:=zj w3 _ D0;have hbr4:b<w3.heap.size+1:=(by omega);have Hs3:Hid (qb6 w0 (under W (qad W d)) (.agg #[.int .i64 (under W (qad W d)).of.kind,.int .i64 (under W (qad W d)).of.num,.slice x1 (under W (qad W d)).of.elem.length d1,.slice x2 (under W (qad W d)).of.fields.length d2,.slice x3 (under W (qad W d)).of.methods.length d3,.slice x4 (under W (qad W d)).of.embeds.length d4,.int .i64 (under W (qad W d)).at_,.int .i64 (under W (qad W d)).pkg])):=hid ⟨_,rfl,ht3⟩;clear ht3;have hz3:=zq hb3))
    have HB3:Hid (Below w.heap.size w (w3.alloc (.cells #[.int .i64 (under W (qad W d)).of.kind,.int .i64 (under W (qad W d)).of.num,.slice x1 (under W (qad W d)).of.elem.length d1,.slice x2 (under W (qad W d)).of.fields.length d2,.slice x3 (under W (qad W d)).of.methods.length d3,.slice x4 (under W (qad W d)).of.embeds.length d4,.int .i64 (under W (qad W d)).at_,.int .i64 (under W (qad W d)).pkg] 88))):=hid ((hb1.trans (hb3.mono (by omega))).alloc (by omega) _);have Hn5:=hid (Blk.new w3 88 [.int .i64 (under W (qad W d)).of.kind,.int .i64 (under W (qad W d)).of.num,.slice x1 (under W (qad W d)).of.elem.length d1,.slice x2 (under W (qad W d)).of.fields.length d2,.slice x3 (under W (qad W d)).of.methods.length d3,.slice x4 (under W (qad W d)).of.embeds.length d4,.int .i64 (under W (qad W d)).at_,.int .i64 (under W (qad W d)).pkg]);have hz3':(w3.alloc (.cells #[.int .i64 (under W (qad W d)).of.kind,.int .i64 (under W (qad W d)).of.num,.slice x1 (under W (qad W d)).of.elem.length d1,.slice x2 (under W (qad W d)).of.fields.length d2,.slice x3 (under W (qad W d)).of.methods.length d3,.slice x4 (under W (qad W d)).of.embeds.length d4,.int .i64 (under W (qad W d)).at_,.int .i64 (under W (qad W d)).pkg] 88)).heap.size=w3.heap.size+1:=by simp
    have Hz3:=hid hz3';clear hz3' hb1 hb3 hz1 hz3 D0 D1 D2 D3 D4 D5 D6 D7 D8 D9;obtain⟨W3,hW3⟩:∃ W3,W3=(w3.alloc (.cells #[.int .i64 (under W (qad W d)).of.kind,.int .i64 (under W (qad W d)).of.num,.slice x1 (under W (qad W d)).of.elem.length d1,.slice x2 (under W (qad W d)).of.fields.length d2,.slice x3 (under W (qad W d)).of.methods.length d3,.slice x4 (under W (qad W d)).of.embeds.length d4,.int .i64 (under W (qad W d)).at_,.int .i64 (under W (qad W d)).pkg] 88)):=⟨_,rfl⟩;rw[← hW3];change Hid (Below w.heap.size w _) at HB3;rw[← hW3] at HB3 Hz3;have Hn5':Hid (Blk W3 w3.heap.size 88 [.int .i64 (under W (qad W d)).of.kind,.int .i64 (under W (qad W d)).of.num,.slice x1 (under W (qad W d)).of.elem.length d1,.slice x2 (under W (qad W d)).of.fields.length d2,.slice x3 (under W (qad W d)).of.methods.length d3,.slice x4 (under W (qad W d)).of.embeds.length d4,.int .i64 (under W (qad W d)).at_,.int .i64 (under W (qad W d)).pkg]):=by rw[hW3];exact Hn5
    clear hW3 Hn5;have H3:Hid (FdsR w0 x2 0 (under W (qad W d)).of.fields):=hid (by obtain⟨cs',he,ht'⟩:=Hs3.out;have:=ht'.full;obtain⟨X1,Y1,X2,Y2,X3,Y3,X4,Y4,hcs,-,-,-,-,hfd,-⟩:=this;subst hcs;simp at he;obtain⟨-,⟨rfl,-⟩,-⟩:=he;exact hfd);have hub:(under W (qad W d)).of.fields.length≤1048576:=by
     have h1:=qjn hbk HC.out (W.length+1) (qad W d) Hsok.out.clo (by rw[← qcg hd] at hbd;unfold qad;simp only;omega);have h2:(under W (qad W d)).of.bulk≤1048576:=h1;have h3:=qbd (under W (qad W d)).of;have h4:=qbv (under W (qad W d)).of.fields;omega
    have hz3:w3.heap.size<W3.heap.size:=by have:=Hz3.out;omega
    have hzw:w.heap.size≤W3.heap.size:=zq HB3.out;have hbW:b<W3.heap.size:=by omega
    clear hl hcap hbk hbd hq hkd
    go_loopw [55] (fun j wr=>∃ k:Nat,k≤W[d].methods.length∧j = .int .i64 k∧Below W3.heap.size W3 wr∧Hid (∀ i (hi:i<W[d].methods.length),i<k→IsNm W[d].methods[i].name∧W[d].methods[i].name≠8∧(∀ j (hj:j<i),W[d].methods[i].name≠W[d].methods[j].name)∧
      ∀ f (hf:f<(under W (qad W d)).of.fields.length),idS (under W (qad W d)).pkg (fname W (under W (qad W d)).of.fields[f])≠idS W[d].pkg W[d].methods[i].name))
     (fun j _=>W[d].methods.length - (intOf j).toNat)
    case atStart=>exact⟨0,by omega,rfl,zp _ _,hid fun i hi hk=>by omega⟩
    case round=>
     obtain⟨k,hk,rfl,hbel,hok⟩:=hrel;obtain⟨wo,rfl⟩:∃ wo:World,wo=wr:=⟨_,rfl⟩;have hz:=zq hbel;have HK:Hid (qac w0 wo):=hid (K0.out.trans ((qac.below HB3.out).trans (qac.below hbel)));by_cases hlt:k<W[d].methods.length
     ·obtain⟨b1,o1,rfl,hn1,hc⟩:=MsR.get Hms.out k hlt;have e0:=(hc.keep HK.out) 0 _ rfl;have e1:=(hc.keep HK.out) 1 _ rfl;simp only[Nat.zero_add,Nat.add_zero] at e0 e1;have hbr:=zj wo _ e0;simp only at hbr;obtain⟨D0,D1,D2,D3,D4,D5,D6,D7,D8,D9⟩:=ten (Hcc.out.keep HK.out);have hself:wo.heap.size<wo.heap.size+1:=zw _;have hkc:k≤G5:=by omega
      have hbW1:b<wo.heap.size:=by omega
      have hbW2:b<wo.heap.size+1:=by omega
      clear hc;by_cases his:IsNm W[d].methods[k].name
      ·have His:=hid his;clear his;cases h8:(W[d].methods[k].name==8) with
       | true=>
        go_wp2_with (go_at_call 20;refine(qaz _ _ His.out).mono ?_;rintro e w4 ⟨rfl,hb4⟩;have hz4:=zq hb4;(try simp only[zd,qaa] at hz4);obtain⟨hc4,hf4⟩:=qal hb4;(try simp only[zd,qaa] at hc4))
        go_ret
        exact⟨_,rfl,fun hx=>by simp at hx,HB3.out.trans ((hbel.mono (by omega)).trans (((zp _ _).alloc (by omega) _).trans (hb4.mono (by simp;omega))))⟩
       | false=>
        have H8:=hid h8
        go_wp2_with (go_at_call 20;refine(qaz _ _ His.out).mono ?_;rintro e w4 ⟨rfl,hb4⟩;have hz4:=zq hb4;(try simp only[zd,qaa] at hz4);obtain⟨hc4,hf4⟩:=qal hb4;(try simp only[zd,qaa] at hc4);have hl4:b<w4.heap.size:=(by omega);have hl5:wo.heap.size<w4.heap.size:=(by omega))
        have Hn7:Hid (Blk w4 wo.heap.size 85 [.int .i64 W[d].methods[k].name,.bool W[d].methods[k].ptr]):=hid ((Blk.new wo _ [.int .i64 W[d].methods[k].name,.bool W[d].methods[k].ptr]).keep hb4);have HB4:Hid (Below wo.heap.size wo w4):=hid (((zp _ _).alloc (zl _) _).trans (hb4.mono (by simp)));have HK4:Hid (qac w0 w4):=hid (HK.out.trans (qac.below HB4.out));clear hb4 hc4 hf4 e0 e1 D0 D1 D2 D3 D4 D5 D6 D7 D8 D9 h8
        go_loopw [77] (fun j wr=>∃ i:Nat,i≤k∧j = .int .i64 i∧Below w4.heap.size w4 wr∧Hid (∀ j (hj:j<k),j<i→W[d].methods[k].name≠W[d].methods[j].name))
         (fun j _=>k - (intOf j).toNat)
        case atStart=>exact⟨0,by omega,rfl,zp _ _,hid fun i hi hj=>by omega⟩
        case round=>
         obtain⟨i,hi,rfl,hbel2,hok2⟩:=hrel;have hz5:=zq hbel2;have HK5:Hid (qac w0 wr):=hid (HK4.out.trans (qac.below hbel2));have g0:=(Hn7.out.keep hbel2).cell 0;simp only[zt] at g0;have hl6:wo.heap.size<wr.heap.size:=by omega
         have hl7:wo.heap.size<wr.heap.size+1:=by omega
         by_cases hlt2:i<k
         ·obtain⟨b2,o2,hbo,hn2,hc2⟩:=MsR.get Hms.out i (by omega);cases hbo;have f0:=(hc2.keep HK5.out) 0 _ rfl;have f1:=(hc2.keep HK5.out) 1 _ rfl;simp only[Nat.zero_add,Nat.add_zero] at f0 f1;have hbr2:=zj wr _ f0;simp only at hbr2;clear hc2;cases heq:(W[d].methods[k].name==W[d].methods[i].name) with
          | true=>
           go_wp2_with fail
           go_ret
           exact⟨_,rfl,fun hx=>by simp at hx,HB3.out.trans ((hbel.mono (by omega)).trans ((HB4.out.mono (by omega)).trans ((hbel2.mono (by omega)).alloc (by omega) _)))⟩
          | false=>
           go_wp2_with fail
           go_roundw
           case rel=>exact⟨i+1,by omega,by go_num,hbel2.alloc (by omega) _,hid fun j hj hji=>by
            by_cases hje:j=i
            ·subst hje;simpa using heq
            ·exact hok2.out j hj (by omega)⟩
           case measure=>simp[intOf];omega
         ·obtain rfl:i=k:=by omega
          obtain⟨C0,C1,C2,C3,C4,C5,C6,C7⟩:=qgv ((((Hn5'.out.keep hbel).keep HB4.out).keep hbel2).cells);simp only[Nat.zero_add] at C0 C1 C2 C3 C4 C5 C6 C7;have hl8:w3.heap.size<wr.heap.size:=by omega
          have HB5:Hid (Below wo.heap.size wo wr):=hid (HB4.out.trans (hbel2.mono (by omega)));have Hn8:=hid (Hn7.out.keep hbel2);clear g0 hlt2
          go_wp2_with fail
          obtain⟨W5,rfl⟩:∃ W5:World,W5=wr:=⟨_,rfl⟩;clear C0 C1 C2 C3 C4 C5 C6 C7 hbel2
          go_loopw [91] (fun j wr=>∃ f:Nat,f≤(under W (qad W d)).of.fields.length∧j = .int .i64 f∧Below W5.heap.size W5 wr∧Hid (∀ g (hg:g<(under W (qad W d)).of.fields.length),g<f→idS (under W (qad W d)).pkg (fname W (under W (qad W d)).of.fields[g])≠idS W[d].pkg W[d].methods[i].name))
           (fun j _=>(under W (qad W d)).of.fields.length - (intOf j).toNat)
          case atStart=>exact⟨0,by omega,rfl,zp _ _,hid fun i hi hj=>by omega⟩
          case round=>
           obtain⟨f,hf,rfl,hbel3,hok3⟩:=hrel;have hz6:=zq hbel3;have HK6:Hid (qac w0 wr):=hid (HK5.out.trans (qac.below hbel3));by_cases hlt3:f<(under W (qad W d)).of.fields.length
           ·obtain⟨C0,C1,C2,C3,C4,C5,C6,C7⟩:=qgv ((((((Hn5'.out.keep hbel).keep HB5.out).keep hbel3).cells)));simp only[Nat.zero_add] at C0 C1 C2 C3 C4 C5 C6 C7;obtain⟨D0,D1,D2,D3,D4,D5,D6,D7,D8,D9⟩:=ten (Hcc.out.keep HK6.out);have g0:=(Hn8.out.keep hbel3).cell 0;simp only[zt] at g0;obtain⟨b2,o2,cs2,rfl,hn2,hc2,htf2⟩:=FdsR.get H3.out f hlt3;have Htf2:=hid htf2;have Hn2:=hid hn2;obtain⟨M1,L1,M2,L2,M3,L3,M4,L4,rfl,-⟩:=htf2.open;obtain⟨e0,e1,e2,e3,e4,e5,e6,e7⟩:=qhx (hc2.keep HK6.out);simp only[Nat.zero_add] at e0 e1 e2 e3 e4 e5 e6 e7;have hbr2:=zj wr _ e0;simp only at hbr2;have Hnok2:Hid (qqp W.length (under W (qad W d)).of.fields[f]):=hid (by
             obtain⟨d,val,hf⟩:=Huok.out.formed;obtain⟨f1,f2,f3⟩:=qes hf f hlt3;exact qkj (qbn W d val _ f3) fun he=>(f2 he).2)
            have Hfn:=hid (qvv HN.out Huok.out hlt3);clear hc2 htf2 hn2
            go_wp2_with fail
            have Hup:=hid Huok.out.pkg;have n1:w3.heap.size<wr.heap.size:=by omega
            have n2:w3.heap.size<wr.heap.size+1:=by omega
            have n3:b<wr.heap.size:=by omega
            have n4:b<wr.heap.size+1:=by omega
            have n5:wo.heap.size<wr.heap.size:=by omega
            have n6:wo.heap.size<wr.heap.size+1:=by omega
            have n7:wr.heap.size<wr.heap.size+1:=by omega
            cases heq:((idS (under W (qad W d)).pkg (fname W (under W (qad W d)).of.fields[f])).toList==(idS W[d].pkg W[d].methods[i].name).toList) with
            | true=>
             refine Mix.wp_region [0,1,2,3,4,5,6,7,8,9,10,11,12,13,14] [] [] (fun _=>default) (by kernel_rfl) (by kernel_rfl) (by decide) ?_
             iterate 15 (first|(refine pre_yes rfl rfl ?_;apply Exists.intro;refine⟨fun W1 hW1 => ?_,?_⟩;(focus (have hc1:=(qal hW1).1;(try simp only[zd,qaa] at hc1);have hk1:=qac.below hW1;go_simp;first|exact rfl|(first|(go_at_call 58;exact qdc W _ c (under W (qad W d)).of.fields[f] [.int .i64 (under W (qad W d)).of.fields[f].of.kind,.int .i64 (under W (qad W d)).of.fields[f].of.num,.slice M1 (under W (qad W d)).of.fields[f].of.elem.length L1,.slice M2 (under W (qad W d)).of.fields[f].of.fields.length L2,.slice M3 (under W (qad W d)).of.fields[f].of.methods.length L3,.slice M4 (under W (qad W d)).of.fields[f].of.embeds.length L4] w0 _ (HK6.out.trans hk1.undrew.unalloc) HW.out Htf2.out Hnok2.out Hn2.out)|(go_at_call 11;exact qqn _ _ _ Hfn.out Hup.out)|(go_at_call 11;exact qqn _ _ _ His.out Hpk.out))));simp only[Act.put,zk,zh,zi,ze,zm,zn])|(refine pre_no rfl rfl ?_;simp only[Act.put,zk,zh,zi,ze,zm,zn]))
             refine pre_end fl_nil (fun W2 hW2=>mid_nil ?_);rw[List.filterMap_nil];have hz9:=zq hW2;(try simp only[zd,qaa] at hz9)
             go_wp2_with fail
             go_ret
             exact⟨_,rfl,fun hx=>by simp at hx,HB3.out.trans ((hbel.mono (by omega)).trans ((HB5.out.mono (by omega)).trans ((hbel3.mono (by omega)).trans ((((zp _ _).alloc (by omega) _).drew).trans (hW2.mono (by simp;omega))))))⟩
            | false=>
             refine Mix.wp_region [0,1,2,3,4,5,6,7,8,9,10,11,12,13,14] [] [] (fun _=>default) (by kernel_rfl) (by kernel_rfl) (by decide) ?_
             iterate 15 (first|(refine pre_yes rfl rfl ?_;apply Exists.intro;refine⟨fun W1 hW1 => ?_,?_⟩;(focus (have hc1:=(qal hW1).1;(try simp only[zd,qaa] at hc1);have hk1:=qac.below hW1;go_simp;first|exact rfl|(first|(go_at_call 58;exact qdc W _ c (under W (qad W d)).of.fields[f] [.int .i64 (under W (qad W d)).of.fields[f].of.kind,.int .i64 (under W (qad W d)).of.fields[f].of.num,.slice M1 (under W (qad W d)).of.fields[f].of.elem.length L1,.slice M2 (under W (qad W d)).of.fields[f].of.fields.length L2,.slice M3 (under W (qad W d)).of.fields[f].of.methods.length L3,.slice M4 (under W (qad W d)).of.fields[f].of.embeds.length L4] w0 _ (HK6.out.trans hk1.undrew.unalloc) HW.out Htf2.out Hnok2.out Hn2.out)|(go_at_call 11;exact qqn _ _ _ Hfn.out Hup.out)|(go_at_call 11;exact qqn _ _ _ His.out Hpk.out))));simp only[Act.put,zk,zh,zi,ze,zm,zn])|(refine pre_no rfl rfl ?_;simp only[Act.put,zk,zh,zi,ze,zm,zn]))
             refine pre_end fl_nil (fun W2 hW2=>mid_nil ?_);rw[List.filterMap_nil];have hz9:=zq hW2;(try simp only[zd,qaa] at hz9)
             go_wp2_with fail
             go_roundw
             case rel=>exact⟨f+1,by omega,by go_num,hbel3.trans ((((zp _ _).alloc (by omega) _).drew).trans (hW2.mono (by simp;omega))),hid fun g hg hgf=>by
              by_cases hge:g=f
              ·subst hge;intro e;rw[e] at heq;simp at heq
              ·exact hok3.out g hg (by omega)⟩
             case measure=>simp[intOf];omega
           ·obtain rfl:f=(under W (qad W d)).of.fields.length:=by omega
            go_wp2_with fail
            go_roundw
            case rel=>exact⟨i+1,by omega,by go_num,hbel.trans ((HB5.out.mono (by omega)).trans (hbel3.mono (by omega))),hid fun i2 hi2 hik=>by
             by_cases hie:i2=i
             ·subst hie;exact⟨His.out,by simpa using H8.out,fun j hj=>hok2.out j hj (by omega),fun g hg=>hok3.out g hg (by omega)⟩
             ·exact hok.out i2 hi2 (by omega)⟩
            case measure=>simp[intOf];omega
      ·have His:=hid his;clear his
       go_wp2_with (go_at_call 20;refine(qdt _ _ His.out).mono ?_;rintro e w4 ⟨rfl,hb4⟩;have hz4:=zq hb4;(try simp only[zd,qaa] at hz4))
       go_ret
       exact⟨_,rfl,fun hx=>by simp at hx,HB3.out.trans ((hbel.mono (by omega)).trans (((zp _ _).alloc (by omega) _).trans (hb4.mono (by simp;omega))))⟩
     ·obtain rfl:k=W[d].methods.length:=by omega
      go_wp2_with fail
      go_ret
      exact⟨_,rfl,fun hx=>qhc hd (fun h=>Hk2.out h.1) (fun h=>⟨Hk2.out,Hq.out⟩) (fun k hk=>hok.out k hk hk),HB3.out.trans (hbel.mono (by omega))⟩
  ·have hm0:W[d].methods.length≤0:=by omega
   go_enter func38,ntmps38
   go_wp2_with (first|(go_at_call 37;refine(qeo W _ c d w0 _ K0.out HW.out.row hd hcap hbk).mono ?_;rintro e w1 ⟨cs,rfl,ht1,hb1⟩;obtain⟨y1,g1,y2,g2,y3,g3,y4,g4,rfl,-⟩:=ht1.open;have Hs1:Hid (qb6 w0 (qad W d) (.agg #[.int .i64 (qad W d).of.kind,.int .i64 (qad W d).of.num,.slice y1 (qad W d).of.elem.length g1,.slice y2 (qad W d).of.fields.length g2,.slice y3 (qad W d).of.methods.length g3,.slice y4 (qad W d).of.embeds.length g4,.int .i64 (qad W d).at_,.int .i64 (qad W d).pkg])):=hid ⟨_,rfl,ht1⟩;clear ht1;have hz1:=zq hb1)|(go_at_call 32;have _t:=tok1;clear _t tok1;refine(qb3 W _ c (qad W d) _ w0 _ (K0.out.trans (qac.below hb1)) HW.out HC.out Hs1.out Hsok.out.clo).mono ?_;rintro e w3 ⟨cs,rfl,ht3,hb3⟩;obtain⟨x1,d1,x2,d2,x3,d3,x4,d4,rfl,-⟩:=ht3.open;obtain⟨D0,D1,D2,D3,D4,D5,D6,D7,D8,D9⟩:=ten (Hcc.out.keep ((K0.out.trans (qac.below hb1)).trans (qac.below hb3)));have hbr3:b<w3.heap.size:=zj w3 _ D0;have hbr4:b<w3.heap.size+1:=(by omega);have Hs3:Hid (qb6 w0 (under W (qad W d)) (.agg #[.int .i64 (under W (qad W d)).of.kind,.int .i64 (under W (qad W d)).of.num,.slice x1 (under W (qad W d)).of.elem.length d1,.slice x2 (under W (qad W d)).of.fields.length d2,.slice x3 (under W (qad W d)).of.methods.length d3,.slice x4 (under W (qad W d)).of.embeds.length d4,.int .i64 (under W (qad W d)).at_,.int .i64 (under W (qad W d)).pkg])):=hid ⟨_,rfl,ht3⟩;clear ht3;have hz3:=zq hb3))
   go_loopw [55] (fun j wr=>j = .int .i64 ((0:Nat):Int)∧Below w.heap.size w wr) (fun j _=>1)
   case atStart=>exact⟨rfl,bel⟩
   case round=>
    obtain⟨rfl,hbel⟩:=hrel
    go_wp2_with fail
    go_ret
    exact⟨_,rfl,fun hx=>qhc hd (fun h=>Hk2.out h.1) (fun h=>by omega) (fun k hk=>by omega),bel⟩
