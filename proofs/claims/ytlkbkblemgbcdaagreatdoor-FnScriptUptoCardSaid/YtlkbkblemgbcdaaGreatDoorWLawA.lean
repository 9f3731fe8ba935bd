import Derived.Test.YtlkbkblemgbcdaaGreatDoorWLawB
set_option linter.all false
set_option maxHeartbeats 8000000
namespace Go.Proofs.YtlkbkblemgbcdaaGreatDoor
open Go Go.RowKit
set_option maxRecDepth 100000
theorem under_kind1 {W:Wd} {t:Ty} (hF:qfz W t):(qae W (operand W t)).of.kind≠1:=
 qit (fun d hd=>(hF.names d hd).2.2.2.1) (hF.formed.numOk (s:=operand W t))
def AnsPost (o:Int) (m:Bool) (ix:List Nat) (ind:Bool) (w:World) (e:Ending) (w':World):Prop:=∃ x:Option Addr×Nat,e = .returned (.agg #[.int .i64 o,.bool m,.slice x.1 ix.length x.2,.bool ind])∧Hid (w'.ownsRow 0 3 1 (.slice x.1 ix.length x.2) ix.length (qbh ix)∧Below w.heap.size w w')
theorem qdq.ans {r:Rs} {w w':World} {e:Ending} (h:qdq r w e w'):AnsPost (obI r) (obM r) r.ix r.ind w e w':=h
theorem two_put {W:World} {b1 b2:Nat} {T:TypeId} {k0 k1 k2 k3 l0 l1 l2 l3:Value} (h1:Blk W b1 T [k0,k1,k2,k3]) (h2:Blk W b2 T [l0,l1,l2,l3]) (hne:b2≠b1) (v0 v1 v2 v3 u0 u1 u2 u3:Value):
  Blk (put4 (put4 W b1 v0 v1 v2 v3) b2 u0 u1 u2 u3) b1 T [v0,v1,v2,v3]∧Blk (put4 (put4 W b1 v0 v1 v2 v3) b2 u0 u1 u2 u3) b2 T [u0,u1,u2,u3]∧
  (∀ (B:Nat) (w0:World),Below B w0 W→B≤b1→B≤b2→Below B w0 (put4 (put4 W b1 v0 v1 v2 v3) b2 u0 u1 u2 u3))∧qag (fun g=>g=b1∨g=b2) W (put4 (put4 W b1 v0 v1 v2 v3) b2 u0 u1 u2 u3):=by
 refine⟨(qv4 h1 v0 v1 v2 v3).apart (qrl _ b2 u0 u1 u2 u3) (fun e=>hne e.symm),qv4 (h2.apart (qrl W b1 v0 v1 v2 v3) hne) u0 u1 u2 u3,fun B w0 h hb1 hb2=>qru (qru h hb1 _ _ _ _) hb2 _ _ _ _,?_⟩;exact((qrl W b1 v0 v1 v2 v3).mono fun g _ h => .inl h).trans ((qrl _ b2 u0 u1 u2 u3).mono fun g _ h => .inr h)
theorem addr_walk (W:Wd) (a:Option Addr) (c:Nat) (w:World) (t:Ty) (hbk:qbw W≤1048576) (hT:Tabs w) (htb:t.bulk≤1048576) (p n:Int) {x1 x2 x3 x4:Option Addr} {d1 d2 d3 d4:Nat}
  (hF:∀ w',Below w.heap.size w w'→Calls Tryz.prog 11 #[.slice a W.length c,.agg #[.int .i64 t.kind,.int .i64 t.num,.slice x1 t.elem.length d1,.slice x2 t.fields.length d2,.slice x3 t.methods.length d3,.slice x4 t.embeds.length d4],.int .i64 p,.int .i64 n] w' (qb8 (Asked W t p n) w'))
  (o1 o2:Int) (m1 m2 i1 i2:Bool) (ix1 ix2:List Nat) (hi1:ix1.length≤4294967296)
  (hc:(o1<0∧i1=true∧ix1=[]∧0≤o2∧m2=true∧i2=false)∨(¬ o1<0∨i1=false)∧o1=o2∧m1=m2∧i1=i2∧ix1=ix2)
  (h1:∀ w',Below w.heap.size w w'→Asked W t p n→Calls Tryz.prog 12 #[.slice a W.length c,.agg #[.int .i64 t.kind,.int .i64 t.num,.slice x1 t.elem.length d1,.slice x2 t.fields.length d2,.slice x3 t.methods.length d3,.slice x4 t.embeds.length d4],.bool false,.int .i64 p,.int .i64 n] w' (AnsPost o1 m1 ix1 i1 w'))
  (h2:∀ w',Below w.heap.size w w'→Asked W t p n→Calls Tryz.prog 12 #[.slice a W.length c,.agg #[.int .i64 t.kind,.int .i64 t.num,.slice x1 t.elem.length d1,.slice x2 t.fields.length d2,.slice x3 t.methods.length d3,.slice x4 t.embeds.length d4],.bool true,.int .i64 p,.int .i64 n] w' (AnsPost o2 m2 ix2 i2 w')):
  Calls Tryz.prog 3 #[.slice a W.length c,.agg #[.int .i64 t.kind,.int .i64 t.num,.slice x1 t.elem.length d1,.slice x2 t.fields.length d2,.slice x3 t.methods.length d3,.slice x4 t.embeds.length d4],.int .i64 p,.int .i64 n] w (qa2 (.bool true) w):=by
 have hl:=qbk W;have HF:=hid hF;have HL1:=hid h1;have HL2:=hid h2;have HWk:=hid fun w' (h:Below w.heap.size w w')=>qtr w' (hT.below h);have HZ:=hid fun w'=>qps t w' (x1:=x1) (x2:=x2) (x3:=x3) (x4:=x4) (d1:=d1) (d2:=d2) (d3:=d3) (d4:=d4) htb;have hlen:(W.length:Int)≤2147483647:=by omega
 have HB0:Hid (∀ O:Obj,Below w.heap.size w (w.alloc O)):=hid fun O=>(zp _ _).alloc (zl _) O;have HC:=hid hc;have Hi1:=hid hi1;clear hT htb hl hbk hF h1 h2 hc hi1;go_enter Tryz.func3,Tryz.ntmps3
 go_wp2_with (first
  | (go_at_call 10;refine(HZ.out _).mono ?_;rintro e w1 ⟨rfl,hb1⟩;have HX1:=hid hb1;have HB1:=hid ((HB0.out _).trans (hb1.mono (HB0.out _).size));clear hb1;have q0:=(box6 HX1.out).1;have q1:=(box6 HX1.out).2.1;have q2:=(box6 HX1.out).2.2.1;have q3:=(box6 HX1.out).2.2.2.1;have q4:=(box6 HX1.out).2.2.2.2.1;have q5:=(box6 HX1.out).2.2.2.2.2)
  | (go_at_call 11;refine(HF.out _ HB1.out).mono ?_;rintro e w2 ⟨b,rfl,hA,hb2⟩;have HA:=hid hA;have HX2:=hid (HX1.out.trans (hb2.mono HX1.out.size));have HB2:=hid (HB1.out.trans (hb2.mono HB1.out.size));clear hb2 hA;have p0:=(box6 HX2.out).1;have p1:=(box6 HX2.out).2.1;have p2:=(box6 HX2.out).2.2.1;have p3:=(box6 HX2.out).2.2.2.1;have p4:=(box6 HX2.out).2.2.2.2.1;have p5:=(box6 HX2.out).2.2.2.2.2;have hself:w.heap.size<w2.heap.size:=(by have:=HX2.out.size;simp only[zd] at this;omega);clear q0 q1 q2 q3 q4 q5;cases b))
 ·go_ret
  exact⟨rfl,HB2.out⟩
 have HAs:=hid (HA.out (by simp));clear HA HF HZ;refine Mix.wp_region [0,1,2,3,5,6,7,8] [(4,false),(9,false),(10,true),(11,true)] [12,13] (fun _=>⟨.cells #[.int .i64 0,.bool false,.slice none 0 0,.bool false] 33,fun b => .pointer (some ⟨b,0,none⟩)⟩) (by kernel_rfl) (by kernel_rfl) (by decide) ?_
 iterate 8 (first|(refine pre_yes rfl rfl ?_;apply Exists.intro;refine⟨fun W1 hW1 => ?_,?_⟩;(focus (have hc1:=(qal hW1).1;(try simp only[zd,qaa] at hc1);have hk1:=qac.below hW1;go_simp;first|exact rfl|fail));simp only[Act.put,zk,zh,zi,ze,zm,zn])|(refine pre_no rfl rfl ?_;simp only[Act.put,zk,zh,zi,ze,zm,zn]))
 refine pre_end ?_ (fun W2 hW2 => ?_)
 ·refine fl_op (fl_op (qnd rfl rfl (fun W1 hW1 => ?_) (qnd rfl rfl (fun W1 hW1 => ?_) fl_nil)))
  all_goals go_simp
 ·skip
  have hD2:Below w2.heap.size w2 W2:=⟨hW2.os,hW2.tape,hW2.output,hW2.size,hW2.block⟩;have HD2:=hid (HB2.out.trans (hD2.mono HB2.out.size));have hx2:=HD2.out.size;refine mid_call hW2 rfl rfl (fun Kp hKp => ?_);go_simp;refine(HL1.out W2 HD2.out HAs.out).mono ?_;rintro e W3 ⟨x,rfl,H3⟩;refine⟨_,rfl,hKp _ _ H3.out.2 fun W4 hW4 => ?_⟩;simp only[Act.put,zk,zh,zi,ze,qai,qaj,zm,zn];have hB3:=qbl H3.out.2 hW2 hW2.size;have hB4:=qbl hW4 hB3 (Nat.le_trans hW2.size H3.out.2.size);have HD4:=hid (HD2.out.trans ((H3.out.2.trans (hW4.mono H3.out.2.size)).mono HD2.out.size));have hx3:=H3.out.2.size;have hx4:=hW4.size;refine mid_call hB4 rfl rfl (fun Kp2 hKp2 => ?_);go_simp;refine(HL2.out W4 HD4.out HAs.out).mono ?_;rintro e W5 ⟨y,rfl,H5⟩;refine⟨_,rfl,hKp2 _ _ H5.out.2 fun W6 hW6 => ?_⟩;simp only[Act.put,zk,zh,zi,ze,qai,qaj,zm,zn];have hx5:=H5.out.2.size;have hx6:=hW6.size;refine qje rfl (fun b1 W7 hW7 hh1 hb1 hn1 => ?_);simp only[Act.put,zk,zh,zi,ze,qai,qaj,zm,zn];have hx7:=hW7.size;refine qje rfl (fun b2 W8 hW8 hh2 hb2 hn2 => ?_);simp only[Act.put,zk,zh,zi,ze,qai,qaj,zm,zn];have hx8:=hW8.size;refine mid_nil (qnw rfl rfl ?_);have H58:Below W5.heap.size W5 W8:=hW6.trans ((hW7.trans (hW8.mono hx7)).mono hx6);have H38:Below W3.heap.size W3 W8:=hW4.trans ((H5.out.2.trans (H58.mono hx5)).mono hx4);have HRx:=hid (qab (S:=fun _=>False) H3.out.1 (qag.keep H38) fun _ _ h=>h);have HRy:=hid (qab (S:=fun _=>False) H5.out.1 (qag.keep H58) fun _ _ h=>h);have HD8:=hid (HD2.out.trans ((H3.out.2.trans (H38.mono hx3)).mono hx2));have HN1:Hid (Blk W8 b1 33 [.int .i64 0,.bool false,.slice none 0 0,.bool false]):=hid ((show Blk W7 b1 33 [.int .i64 0,.bool false,.slice none 0 0,.bool false] from hh1).keep hW8);have HN2:Hid (Blk W8 b2 33 [.int .i64 0,.bool false,.slice none 0 0,.bool false]):=hid hh2;have hne:b2≠b1:=fun e=>hn2 (by rw[e];exact z6 ..);have hne2:b1≠b2:=fun e=>hne e.symm;have hb1':w.heap.size≤b1:=Nat.le_trans HB2.out.size hb1;have hb2':w.heap.size≤b2:=Nat.le_trans HB2.out.size hb2;clear hW2 hD2 hB3 hB4 hW4 hW6 hW7 hW8 hKp hKp2 hh1 hh2 hn1 hn2 H38 H58 hb1 hb2;have c0:=HN1.out.cell 0;have c1:=HN1.out.cell 1;have c2:=HN1.out.cell 2;have c3:=HN1.out.cell 3;simp only[zu,zt] at c0 c1 c2 c3;have cs0:=HN1.out.soft 0;have cs1:=HN1.out.soft 1;have cs2:=HN1.out.soft 2;have cs3:=HN1.out.soft 3;have d0:=HN2.out.cell 0;have d1:=HN2.out.cell 1;have d2:=HN2.out.cell 2;have d3:=HN2.out.cell 3;simp only[zu,zt] at d0 d1 d2 d3;have ds0:=HN2.out.soft 0;have ds1:=HN2.out.soft 1;have ds2:=HN2.out.soft 2;have ds3:=HN2.out.soft 3;have HT:=hid (two_put HN1.out HN2.out hne (.int .i64 o1) (.bool m1) (.slice x.1 ix1.length x.2) (.bool i1) (.int .i64 o2) (.bool m2) (.slice y.1 ix2.length y.2) (.bool i2));have HTB:=hid (HT.out.2.2.1 _ _ HD8.out hb1' hb2');have HRx2:=hid (qab HRx.out HT.out.2.2.2 fun g hg h=>by
   obtain⟨cs,hb⟩:=qaf HRx.out hg;rcases h with rfl|rfl
   ·exact hb.tne HN1.out (by decide) rfl
   ·exact hb.tne HN2.out (by decide) rfl)
  have HRy2:=hid (qab HRy.out HT.out.2.2.2 fun g hg h=>by
   obtain⟨cs,hb⟩:=qaf HRy.out hg;rcases h with rfl|rfl
   ·exact hb.tne HN1.out (by decide) rfl
   ·exact hb.tne HN2.out (by decide) rfl)
  rcases HC.out with ⟨k1,k2,k3,k4,k5,k6⟩|⟨k1,k2,k3,k4,k5⟩
  ·subst k2 k3 k5 k6;have k1':decide (o1<0)=true:=by simpa using k1
   have k4':decide (0≤o2)=true:=by simpa using k4
   go_wp2_with fail
   go_ret
   exact⟨rfl,HTB.out⟩
  ·subst k2 k3 k4 k5;have HSm:Hid (∀ w',Below (put4 (put4 W8 b1 (.int .i64 o1) (.bool m1) (.slice x.1 ix1.length x.2) (.bool i1)) b2 (.int .i64 o1) (.bool m1) (.slice y.1 ix1.length y.2) (.bool i1)).heap.size (put4 (put4 W8 b1 (.int .i64 o1) (.bool m1) (.slice x.1 ix1.length x.2) (.bool i1)) b2 (.int .i64 o1) (.bool m1) (.slice y.1 ix1.length y.2) (.bool i1)) w'→
     Calls Tryz.prog 14 #[.agg #[.int .i64 o1,.bool m1,.slice x.1 ix1.length x.2,.bool i1],.agg #[.int .i64 o1,.bool m1,.slice y.1 ix1.length y.2,.bool i1]] w' (qa2 (.bool true) w')):=hid fun w' hb=>
    same_yes o1 m1 i1 ix1 Hi1.out x.1 y.1 x.2 y.2 w' (qab (S:=fun _=>False) HRx2.out (qag.keep hb) fun _ _ h=>h) (qab (S:=fun _=>False) HRy2.out (qag.keep hb) fun _ _ h=>h)
   by_cases ho:o1<0
   ·have hi:i1=false:=by
     rcases k1 with k1|k1
     ·omega
     ·exact k1
    have k1':decide (o1<0)=true:=by simpa using ho
    subst hi;clear ho k1
    go_wp2_with (first
     | (go_at_call 13;refine(HWk.out _ HTB.out).mono ?_;rintro e w9 ⟨rfl,hb9⟩;have HE1:=hid (HT.out.1.keep hb9);have HE2:=hid (HT.out.2.1.keep hb9);have Hb9:=hid hb9;have HB9:=hid (HTB.out.trans (hb9.mono HTB.out.size));clear hb9;have e0:=HE1.out.cell 0;have e1:=HE1.out.cell 1;have e2:=HE1.out.cell 2;have e3:=HE1.out.cell 3;have f0:=HE2.out.cell 0;have f1:=HE2.out.cell 1;have f2:=HE2.out.cell 2;have f3:=HE2.out.cell 3;(simp only[zu,zt] at e0 e1 e2 e3 f0 f1 f2 f3))
     | (go_at_call 14;refine(HSm.out _ Hb9.out).mono ?_;rintro e w10 ⟨rfl,hb10⟩;have HB10:=hid (HB9.out.trans (hb10.mono HB9.out.size));clear hb10))
    go_ret
    exact⟨rfl,HB10.out⟩
   ·have k1':decide (o1<0)=false:=by simpa using ho
    clear ho k1
    go_wp2_with (first
     | (go_at_call 13;refine(HWk.out _ HTB.out).mono ?_;rintro e w9 ⟨rfl,hb9⟩;have HE1:=hid (HT.out.1.keep hb9);have HE2:=hid (HT.out.2.1.keep hb9);have Hb9:=hid hb9;have HB9:=hid (HTB.out.trans (hb9.mono HTB.out.size));clear hb9;have e0:=HE1.out.cell 0;have e1:=HE1.out.cell 1;have e2:=HE1.out.cell 2;have e3:=HE1.out.cell 3;have f0:=HE2.out.cell 0;have f1:=HE2.out.cell 1;have f2:=HE2.out.cell 2;have f3:=HE2.out.cell 3;(simp only[zu,zt] at e0 e1 e2 e3 f0 f1 f2 f3))
     | (go_at_call 14;refine(HSm.out _ Hb9.out).mono ?_;rintro e w10 ⟨rfl,hb10⟩;have HB10:=hid (HB9.out.trans (hb10.mono HB9.out.size));clear hb10))
    go_ret
    exact⟨rfl,HB10.out⟩
theorem obI_none {r:Rs} (h:r.ob=none):obI r = -1:=by unfold obI;rw[h]
theorem obI_some {r:Rs} {k:Nat} {m:Bool} (h:r.ob=some (k,m)):obI r=k:=by unfold obI;rw[h]
theorem obM_some {r:Rs} {k:Nat} {m:Bool} (h:r.ob=some (k,m)):obM r=m:=by unfold obM;rw[h]
theorem obI_neg {r:Rs}:obI r<0↔r.ob=none:=by
 cases h:r.ob with
 | none=>simp[obI_none h]
 | some x=>obtain⟨k,m⟩:=x;simp[obI_some h]
theorem lawAddressable (W:Wd) (a:Option Addr) (c:Nat) (w:World) (t:Ty) (hW:WOk w W a c) (hT:Tabs w) (htb:t.bulk≤1048576) (cs:List Value) (ht:TyC w t cs) (p n:Int):
  Calls Tryz.prog 3 #[.slice a W.length c,.agg cs.toArray,.int .i64 p,.int .i64 n] w (qa2 (.bool true) w):=by
 have hl:=qbk W;have hlk:=fun(hA:Asked W t p n) addr w' (h:Below w.heap.size w w')=>qs2 W a c w' t hA.2.2 (hW.keep (qac.below h)) (hT.below h) htb cs (ht.keep (qac.below h)) addr p n hA.1 hA.2.1;have hfit:=fun w' (h:Below w.heap.size w w')=>qvj W a c t cs p n w' (hW.keep (qac.below h)) htb (ht.keep (qac.below h));obtain⟨x1,d1,x2,d2,x3,d3,x4,d4,rfl,-⟩:=ht.full;by_cases hA:Asked W t p n
 ·refine addr_walk W a c w t hW.bulk hT htb p n hfit (obI (qch W (operand W t) false p n)) (obI (qch W (operand W t) true p n)) (obM (qch W (operand W t) false p n)) (obM (qch W (operand W t) true p n)) (qch W (operand W t) false p n).ind (qch W (operand W t) true p n).ind (qch W (operand W t) false p n).ix (qch W (operand W t) true p n).ix
   (Nat.le_trans (lookM_len ..) (fuelW_le (by have:=hW.bulk;omega))) ?_ (fun w' h hA=>(hlk hA false w' h).mono fun e w2 h=>h.ans) (fun w' h hA=>(hlk hA true w' h).mono fun e w2 h=>h.ans)
  rcases lookM_addr W (operand W t) (under_kind1 hA.2.2.1) p n with ⟨h1,h2⟩|⟨h1,k,ix,h2⟩
  ·rw[h1];refine .inr ⟨?_,rfl,rfl,rfl,rfl⟩;rw[obI_neg];cases ho:(qch W (operand W t) false p n).ob with
   | none=>exact .inr (h2 ho)
   | some x=>exact .inl (by simp)
  ·rw[h1,h2];exact .inl ⟨by simp[obI],rfl,rfl,by simp[obI],rfl,rfl⟩
 ·exact addr_walk W a c w t hW.bulk hT htb p n hfit 0 0 false false false false [] [] (by simp) (.inr ⟨.inr rfl,rfl,rfl,rfl,rfl⟩) (fun _ _ h=>absurd h hA) (fun _ _ h=>absurd h hA)
