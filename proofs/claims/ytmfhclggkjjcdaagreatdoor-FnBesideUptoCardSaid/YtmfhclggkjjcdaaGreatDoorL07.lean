import Derived.Test.YtmfhclggkjjcdaaGreatDoorL06
set_option linter.all false
set_option maxHeartbeats 8000000
namespace Go.Proofs.YtmfhclggkjjcdaaGreatDoor
open Go Go.RowKit Go.Proofs.Tryz
set_option maxRecDepth 100000
variable {t:Ty} {W:Wd} {d:Int} {val:Bool}
def qb8 (p:Prop) (w:World) (e:Ending) (w':World):Prop:=∃ b,e = .returned (.bool b)∧(b=true→p)∧Below w.heap.size w w'
theorem ql5 (h:hasB t false false false true=true):t.elem=[]∧t.fields=[]∧t.methods=[]∧t.embeds=[]:=by
 unfold hasB at h;simp at h;exact⟨h.1.1,h.1.2,h.2.1,h.2.2⟩
theorem quo (h:hasB t true false false false=true):t.num=0∧t.fields=[]∧t.methods=[]∧t.embeds=[]:=by
 unfold hasB at h;simp at h;exact⟨h.2,h.1.1,h.1.2.1,h.1.2.2⟩
theorem qpb (h:hasB t false true false false=true):t.num=0∧t.elem=[]∧t.methods=[]∧t.embeds=[]:=by
 unfold hasB at h;simp at h;exact⟨h.2,h.1.1,h.1.2.1,h.1.2.2⟩
theorem qow (h:hasB t false false true false=true):t.num=0∧t.elem=[]∧t.fields=[]:=by
 unfold hasB at h;simp at h;exact⟨h.2,h.1.1,h.1.2⟩
theorem qn7 (hk:t.kind=0) (h:t.elem=[]∧t.fields=[]∧t.methods=[]∧t.embeds=[]) (h1:0≤t.num) (h2:t.num≤2):qam W d val t:=by
 cases t;simp only[Ty.kind,Ty.elem,Ty.fields,Ty.methods,Ty.embeds,Ty.num] at *;simp only[qam];exact .inl ⟨hk,h.1,h.2.1,h.2.2.1,h.2.2.2,h1,h2⟩
theorem qet {d:Int} {val:Bool} (hk:t.kind=1) (h:t.elem=[]∧t.fields=[]∧t.methods=[]∧t.embeds=[]) (h1:0≤t.num) (h2:t.num<W.length)
  (h3:d<t.num∨val=false∧(d<0∨(dc W d.toNat).alias=false∨(dc W t.num.toNat).alias=false)):qam W d val t:=by
 cases t;simp only[Ty.kind,Ty.elem,Ty.fields,Ty.methods,Ty.embeds,Ty.num] at *;simp only[qam];exact .inr (.inl ⟨hk,h.1,h.2.1,h.2.2.1,h.2.2.2,h1,h2,h3⟩)
theorem qr7 (hk:t.kind=2∨t.kind=3) (h:t.num=0∧t.fields=[]∧t.methods=[]∧t.embeds=[]) (h1:t.elem.length=1) (h2:qam W d false t.el0):qam W d val t:=by
 cases t;rename_i k n el fs ms em;simp only[Ty.kind,Ty.elem,Ty.fields,Ty.methods,Ty.embeds,Ty.num,Ty.el0] at *
 match el,h1,h2 with
 | [x],_,h2=>simp only[qam,qc5];exact .inr (.inr (.inl ⟨hk,h.1,h.2.1,h.2.2.1,h.2.2.2,trivial,by simpa using h2⟩))
theorem quj (W:Wd) (a:Option Addr) (c:Nat) (w0:World) (hW:WOk w0 W a c) (d:Int) (hd : -1≤d∧d<W.length)
  (t:Ty) (cs:List Value) (val:Bool) (w:World) (hkd:t.kind=0∨t.kind=1) (hb:t.bulk≤1048576) (ht:TyC w0 t cs) (k0:qac w0 w):
  Calls prog 34 #[.slice a W.length c,.agg cs.toArray,.int .i64 d,.bool val] w (qb8 (qam W d val t) w):=by
  have hl:=qbk W;have hcap:=hW.cap;have hbk:=hW.bulk;have HW:=hid hW;clear hW;have Hkd:=hid hkd;clear hkd;obtain⟨x1,d1,x2,d2,x3,d3,x4,d4,rfl,⟨q1,q2,q3,q4⟩,hik,hin,h1,h2,h3,h4,htt⟩:=ht.full;clear ht;have hsz:t.elem.length≤1048576∧t.fields.length≤1048576∧t.methods.length≤1048576∧t.embeds.length≤1048576:=by
   have:=qa3 t.elem;have:=qbv t.fields;have:=qa3 t.embeds;cases t;simp only[Ty.bulk,Ty.elem,Ty.fields,Ty.methods,Ty.embeds] at *;omega
  have Hsz:=hid hsz;clear hsz;obtain⟨hd1,hd2⟩:=hd;have hbox:qat (w.alloc (Obj.cells #[.int .i64 t.kind,.int .i64 t.num,.slice x1 t.elem.length d1,.slice x2 t.fields.length d2,.slice x3 t.methods.length d3,.slice x4 t.embeds.length d4] 54)) w.heap.size 0 [.int .i64 t.kind,.int .i64 t.num,.slice x1 t.elem.length d1,.slice x2 t.fields.length d2,.slice x3 t.methods.length d3,.slice x4 t.embeds.length d4]:=qa9 (zp (w.heap.size+1) _) (zw _) (qa8 _ _);have kb:Below w.heap.size w (w.alloc (Obj.cells #[.int .i64 t.kind,.int .i64 t.num,.slice x1 t.elem.length d1,.slice x2 t.fields.length d2,.slice x3 t.methods.length d3,.slice x4 t.embeds.length d4] 54)):=(zp _ _).alloc (zl _) _;have hws:(w.alloc (Obj.cells #[.int .i64 t.kind,.int .i64 t.num,.slice x1 t.elem.length d1,.slice x2 t.fields.length d2,.slice x3 t.methods.length d3,.slice x4 t.embeds.length d4] 54)).heap.size=w.heap.size+1:=by simp
  obtain⟨c0,c1,c2,c3,c4,c5⟩:=six hbox;simp only[Nat.zero_add] at c0 c1 c2 c3 c4 c5;by_cases k0':t.kind=0
  ·have hk0:(t.kind==0)=true:=by simp[k0']
   have Hk:=hid k0';clear k0';have Hb:=hid hbox;have Hw:=hid hws;cases hh:hasB t false false false true with
   | false=>
    go_enter func34,ntmps34
    go_wp2_with (go_at_call 54;refine(qce w.heap.size t _ _ _ _ _ Hb.out (by simp) Hsz.out).mono ?_;rintro e w1 ⟨rfl,hb1⟩;rw[hh];have hz1:=zq hb1;simp only[zd,qaa] at hz1)
    go_ret
    exact⟨_,rfl,fun h=>absurd h (by simp),bel⟩
   | true=>
    obtain⟨v1,v2,v3,v4⟩:=ql5 hh;have Hv:=hid (And.intro v1 (And.intro v2 (And.intro v3 v4)));clear v1 v2 v3 v4;cases hg1:decide (t.num≥0)
    all_goals cases hg2:decide (t.num≤2)
    all_goals
     go_enter func34,ntmps34
     go_wp2_with (go_at_call 54;refine(qce w.heap.size t _ _ _ _ _ Hb.out (by simp) Hsz.out).mono ?_;rintro e w1 ⟨rfl,hb1⟩;rw[hh];have hz1:=zq hb1;simp only[zd,qaa] at hz1;have hc1:=(qal hb1).1;simp only[zd,qaa] at hc1;have hlt0:w.heap.size<w.heap.size+1:=zw _)
     go_ret
     refine⟨_,rfl,fun hx => ?_,bel⟩
     first
      | exact qn7 Hk.out Hv.out (of_decide_eq_true hg1) (of_decide_eq_true hg2)
      | (simp at hx)
  by_cases k1':t.kind=1
  ·have hk0:(t.kind==0)=false:=by simp[k1']
   have hk1:(t.kind==1)=true:=by simp[k1']
   have Hk:=hid k1';clear k1' k0';have Hb:=hid hbox;have Hw:=hid hws;cases hh:hasB t false false false true with
   | false=>
    go_enter func34,ntmps34
    go_wp2_with (go_at_call 54;refine(qce w.heap.size t _ _ _ _ _ Hb.out (by simp) Hsz.out).mono ?_;rintro e w1 ⟨rfl,hb1⟩;rw[hh];have hz1:=zq hb1;simp only[zd,qaa] at hz1;have hc1:=(qal hb1).1;simp only[zd,qaa] at hc1;have hlt0:w.heap.size<w.heap.size+1:=zw _)
    go_ret
    refine⟨_,rfl,fun hx => ?_,bel⟩;simp at hx
   | true=>
     obtain⟨v1,v2,v3,v4⟩:=ql5 hh;have Hv:=hid (And.intro v1 (And.intro v2 (And.intro v3 v4)));clear v1 v2 v3 v4;cases hg1:decide (t.num≥0) with
     | false=>
    go_enter func34,ntmps34
    go_wp2_with (go_at_call 54;refine(qce w.heap.size t _ _ _ _ _ Hb.out (by simp) Hsz.out).mono ?_;rintro e w1 ⟨rfl,hb1⟩;rw[hh];have hz1:=zq hb1;simp only[zd,qaa] at hz1;have hc1:=(qal hb1).1;simp only[zd,qaa] at hc1;have hlt0:w.heap.size<w.heap.size+1:=zw _)
    go_ret
    refine⟨_,rfl,fun hx => ?_,bel⟩;simp at hx
     | true=>
    cases hg2:decide (t.num<W.length) with
    | false=>
      go_enter func34,ntmps34
      go_wp2_with (go_at_call 54;refine(qce w.heap.size t _ _ _ _ _ Hb.out (by simp) Hsz.out).mono ?_;rintro e w1 ⟨rfl,hb1⟩;rw[hh];have hz1:=zq hb1;simp only[zd,qaa] at hz1;have hc1:=(qal hb1).1;simp only[zd,qaa] at hc1;have hlt0:w.heap.size<w.heap.size+1:=zw _)
      go_ret
      refine⟨_,rfl,fun hx => ?_,bel⟩;simp at hx
    | true=>
      cases hg3:decide (t.num > d) with
      | true=>
     go_enter func34,ntmps34
     go_wp2_with (go_at_call 54;refine(qce w.heap.size t _ _ _ _ _ Hb.out (by simp) Hsz.out).mono ?_;rintro e w1 ⟨rfl,hb1⟩;rw[hh];have hz1:=zq hb1;simp only[zd,qaa] at hz1;have hc1:=(qal hb1).1;simp only[zd,qaa] at hc1;have hlt0:w.heap.size<w.heap.size+1:=zw _)
     go_ret
     refine⟨_,rfl,fun hx => ?_,bel⟩;exact qet Hk.out Hv.out (of_decide_eq_true hg1) (of_decide_eq_true hg2) (.inl (of_decide_eq_true hg3))
      | false=>
     cases val with
     | true=>
       go_enter func34,ntmps34
       go_wp2_with (go_at_call 54;refine(qce w.heap.size t _ _ _ _ _ Hb.out (by simp) Hsz.out).mono ?_;rintro e w1 ⟨rfl,hb1⟩;rw[hh];have hz1:=zq hb1;simp only[zd,qaa] at hz1;have hc1:=(qal hb1).1;simp only[zd,qaa] at hc1;have hlt0:w.heap.size<w.heap.size+1:=zw _)
       go_ret
       refine⟨_,rfl,fun hx => ?_,bel⟩;simp at hx
     | false=>
       cases hg4:decide (d<0) with
       | true=>
      go_enter func34,ntmps34
      go_wp2_with (go_at_call 54;refine(qce w.heap.size t _ _ _ _ _ Hb.out (by simp) Hsz.out).mono ?_;rintro e w1 ⟨rfl,hb1⟩;rw[hh];have hz1:=zq hb1;simp only[zd,qaa] at hz1;have hc1:=(qal hb1).1;simp only[zd,qaa] at hc1;have hlt0:w.heap.size<w.heap.size+1:=zw _)
      go_ret
      refine⟨_,rfl,fun hx => ?_,bel⟩;exact qet Hk.out Hv.out (of_decide_eq_true hg1) (of_decide_eq_true hg2) (.inr ⟨rfl,.inl (of_decide_eq_true hg4)⟩)
       | false=>
      have g1:=of_decide_eq_true hg1;have g2:=of_decide_eq_true hg2;have g4:=of_decide_eq_false hg4;have hnl:t.num.toNat<W.length:=by omega
      have hdl:d.toNat<W.length:=by omega
      have g4':0≤d:=by omega
      obtain⟨b1,o1,p1,e1,p2,e2,p3,e3,p4,e4,p5,e5,ha,-,-,-,-,-,hdd⟩:=HW.out.row.get t.num.toNat hnl;obtain⟨b2,o2,r1,f1,r2,f2,r3,f3,r4,f4,r5,f5,ha2,-,-,-,-,-,hdd2⟩:=HW.out.row.get d.toNat hdl;have hee:=hid (ha.symm.trans ha2);subst ha;obtain⟨rfl,rfl⟩:b1=b2∧o1=o2:=by have:=hee.out;simpa using this
      have D2:=(hdd.keep k0) 2 _ rfl;have E2:=(hdd2.keep k0) 2 _ rfl;have hbb:=zj w _ D2;simp only at hbb;have hbb1:b1<w.heap.size+1:=by omega
      clear hdd hdd2 ha2 hee;have hdcn:(dc W t.num.toNat).alias=W[t.num.toNat].alias:=by rw[qcg hnl]
      have hdcd:(dc W d.toNat).alias=W[d.toNat].alias:=by rw[qcg hdl]
      have Hdn:=hid hdcn;have Hdd:=hid hdcd;clear hdcn hdcd;cases hg5:W[d.toNat].alias with
      | false=>
        rw[hg5] at E2;go_enter func34,ntmps34
        go_wp2_with (go_at_call 54;refine(qce w.heap.size t _ _ _ _ _ Hb.out (by simp) Hsz.out).mono ?_;rintro e w1 ⟨rfl,hb1⟩;rw[hh];have hz1:=zq hb1;simp only[zd,qaa] at hz1;have hc1:=(qal hb1).1;simp only[zd,qaa] at hc1;have hlt0:w.heap.size<w.heap.size+1:=zw _)
        go_ret
        refine⟨_,rfl,fun hx => ?_,bel⟩;exact qet Hk.out Hv.out (of_decide_eq_true hg1) (of_decide_eq_true hg2) (.inr ⟨rfl,.inr (.inl (Hdd.out.trans hg5))⟩)
      | true=>
        rw[hg5] at E2;cases hg6:W[t.num.toNat].alias with
        | false=>
       rw[hg6] at D2;go_enter func34,ntmps34
       go_wp2_with (go_at_call 54;refine(qce w.heap.size t _ _ _ _ _ Hb.out (by simp) Hsz.out).mono ?_;rintro e w1 ⟨rfl,hb1⟩;rw[hh];have hz1:=zq hb1;simp only[zd,qaa] at hz1;have hc1:=(qal hb1).1;simp only[zd,qaa] at hc1;have hlt0:w.heap.size<w.heap.size+1:=zw _)
       go_ret
       refine⟨_,rfl,fun hx => ?_,bel⟩;exact qet Hk.out Hv.out (of_decide_eq_true hg1) (of_decide_eq_true hg2) (.inr ⟨rfl,.inr (.inr (Hdn.out.trans hg6))⟩)
        | true=>
       rw[hg6] at D2;go_enter func34,ntmps34
       go_wp2_with (go_at_call 54;refine(qce w.heap.size t _ _ _ _ _ Hb.out (by simp) Hsz.out).mono ?_;rintro e w1 ⟨rfl,hb1⟩;rw[hh];have hz1:=zq hb1;simp only[zd,qaa] at hz1;have hc1:=(qal hb1).1;simp only[zd,qaa] at hc1;have hlt0:w.heap.size<w.heap.size+1:=zw _)
       go_ret
       refine⟨_,rfl,fun hx => ?_,bel⟩;simp at hx
  exact absurd Hkd.out (by simp[k0',k1'])
