import Derived.Test.YtlkbkblemgbcdaaGreatDoorWLawA
import Derived.Test.YtlkbkblemgbcdaaGreatDoorK56
set_option linter.all false
set_option maxHeartbeats 8000000
namespace Go.Proofs.YtlkbkblemgbcdaaGreatDoor
open Go Go.RowKit
set_option maxRecDepth 100000
theorem isIface_any (W:Wd) (a:Option Addr) (c:Nat) (t:Ty) (cs:List Value) (w:World) (hW:WOk w W a c) (hC:CloW W) (ht:TyC w t cs) (hcl:t.clo W.length):
  Calls Tryz.prog 24 #[.slice a W.length c,.agg cs.toArray] w (qa2 (.bool ((qae W (operand W t)).of.kind==5)) w):=by
 have HO:=hid fun w' (h:Below w.heap.size w w')=>qpr W a c t cs w w' (qac.below h) hW.row ht hW.cap hW.bulk;have HU:=hid fun w' (h:Below w.heap.size w w') v (hs:qb6 w (operand W t) v)=>qb3 W a c (operand W t) v w w' (qac.below h) hW hC hs hcl;obtain⟨x1,d1,x2,d2,x3,d3,x4,d4,rfl,-⟩:=ht.full;have HB0:Hid (∀ O:Obj,Below w.heap.size w (w.alloc O)):=hid fun O=>(zp _ _).alloc (zl _) O;clear hW hC ht hcl;have hfs:=qd5;have hft:=qde;go_enter Tryz.func24,Tryz.ntmps24
 go_wp2_with (first
  | (go_at_call 46;refine(HO.out _ (HB0.out _)).mono ?_;rintro e w2 h2;obtain⟨v2,rfl,hs2,hb2⟩:=h2.v;have HB2:=hid ((HB0.out _).trans (hb2.mono (HB0.out _).size));have HS2:=hid hs2;clear hs2 hb2 h2)
  | (go_at_call 45;refine(HU.out _ HB2.out _ HS2.out).mono ?_;rintro e w3 h3;obtain⟨v3,rfl,hs3,hb3⟩:=h3.v;have HB3:=hid (HB2.out.trans (hb3.mono HB2.out.size));obtain⟨e1,f1,e2,f2,e3,f3,e4,f4,rfl,-⟩:=hs3.open;clear hb3 h3))
 go_ret
 exact⟨rfl,HB3.out⟩
theorem isPtr_any (W:Wd) (a:Option Addr) (c:Nat) (t:Ty) (cs:List Value) (w:World) (hW:WOk w W a c) (hC:CloW W) (ht:TyC w t cs) (hcl:t.clo W.length):
  Calls Tryz.prog 26 #[.slice a W.length c,.agg cs.toArray] w (qa2 (.bool ((qae W (operand W t)).of.kind==2)) w):=by
 have HO:=hid fun w' (h:Below w.heap.size w w')=>qpr W a c t cs w w' (qac.below h) hW.row ht hW.cap hW.bulk;have HU:=hid fun w' (h:Below w.heap.size w w') v (hs:qb6 w (operand W t) v)=>qb3 W a c (operand W t) v w w' (qac.below h) hW hC hs hcl;obtain⟨x1,d1,x2,d2,x3,d3,x4,d4,rfl,-⟩:=ht.full;have HB0:Hid (∀ O:Obj,Below w.heap.size w (w.alloc O)):=hid fun O=>(zp _ _).alloc (zl _) O;clear hW hC ht hcl;have hfs:=qd5;have hft:=qde;go_enter Tryz.func26,Tryz.ntmps26
 go_wp2_with (first
  | (go_at_call 46;refine(HO.out _ (HB0.out _)).mono ?_;rintro e w2 h2;obtain⟨v2,rfl,hs2,hb2⟩:=h2.v;have HB2:=hid ((HB0.out _).trans (hb2.mono (HB0.out _).size));have HS2:=hid hs2;clear hs2 hb2 h2)
  | (go_at_call 45;refine(HU.out _ HB2.out _ HS2.out).mono ?_;rintro e w3 h3;obtain⟨v3,rfl,hs3,hb3⟩:=h3.v;have HB3:=hid (HB2.out.trans (hb3.mono HB2.out.size));obtain⟨e1,f1,e2,f2,e3,f3,e4,f4,rfl,-⟩:=hs3.open;clear hb3 h3))
 go_ret
 exact⟨rfl,HB3.out⟩
theorem pointer_any (w:World) (v0 v1 v2 v3 v4 v5:Value):Calls Tryz.prog 27 #[.agg #[v0,v1,v2,v3,v4,v5]] w fun e w'=>
  ∃ b,e = .returned (.agg #[.int .i64 2,.int .i64 0,.slice (some ⟨b,0,none⟩) 1 1,.slice none 0 0,.slice none 0 0,.slice none 0 0])∧qat w' b 0 [v0,v1,v2,v3,v4,v5]∧Below w.heap.size w w':=by
 go_enter Tryz.func27,Tryz.ntmps27
 go_wp2_with fail
 (try simp only[Exit.inBlock,Exit.then])
 refine bodyPost_ret (qd1 (v := .agg #[.int .i64 2,.int .i64 0,.slice (some ⟨w.heap.size+1+1,0,none⟩) 1 1,.slice none 0 0,.slice none 0 0,.slice none 0 0]) rfl _ _ _ rfl ?_) rfl ?_
 ·go_simp
 ·refine⟨w.heap.size+1+1,rfl,?_,?_⟩
  ·have h:=(Blk.new ((w.alloc (.cells #[v0,v1,v2,v3,v4,v5] 28)).alloc (.cells #[.int .i64 2,.int .i64 0,.slice (some ⟨w.heap.size+1+1,0,none⟩) 1 1,.slice none 0 0,.slice none 0 0,.slice none 0 0] 28)) 28 [v0,v1,v2,v3,v4,v5]).cells;simp only[zd] at h;exact h
  ·exact(((zp _ _).alloc (zl _) _).alloc (by simp only[zd];omega) _).alloc (by simp only[zd];omega) _
mutual
theorem formed_noval (W:Wd) (d:Int):∀ (t:Ty),qam W d true t→qam W d false t
 | .mk k n el fs ms em=>fun h=>by
  unfold qam at h ⊢;rcases h with h|⟨h1,h2,h3,h4,h5,h6,h7,h8⟩|h|⟨h1,h2,h3,h4,h5,h6⟩|h
  ·exact .inl h
  ·exact .inr (.inl ⟨h1,h2,h3,h4,h5,h6,h7,.inl (h8.resolve_right fun h=>by cases h.1)⟩)
  ·exact .inr (.inr (.inl h))
  ·exact .inr (.inr (.inr (.inl ⟨h1,h2,h3,h4,h5,formed_novalF W d fs h6⟩)))
  ·exact .inr (.inr (.inr (.inr h)))
theorem formed_novalF (W:Wd) (d:Int):∀ (l:List Fd),qby W d true l→qby W d false l
 | []=>fun _=>by unfold qby;trivial
 | .mk n e t::r=>fun h=>by
  unfold qby at h ⊢;exact⟨⟨h.1.1,h.1.2.1,formed_noval W d t h.1.2.2⟩,formed_novalF W d r h.2⟩
end
theorem fitOk_ptr {W:Wd} {t:Ty} (h:qfz W t):qfz W (ptrT t):=by
 refine⟨h.names,h.distinct,?_,h.valid,h.declared,?_⟩
 ·unfold ptrT qam;exact .inr (.inr (.inl ⟨.inl rfl,rfl,rfl,rfl,rfl,by unfold qc5;exact⟨rfl,formed_noval W _ t h.formed⟩⟩))
 ·have:=h.validT;unfold qcj operand at this ⊢;simp only[ptrT,qdp,qjv,qc0,qcr,qb1,List.map_nil,true_and];exact this
theorem smallOk_ptr {W:Wd} {t:Ty} {P:Nat→Nat} (h:qdx W t P) (h2:op P t≤2000):qdx W (ptrT t) P:=
 ⟨h.pos,h.alias,h.decl,by simp only[ptrT,op,opT,opF];simp;omega⟩
theorem tyC_ptr {w:World} {t:Ty} {b:Nat} {cs:List Value} (h:qat w b 0 cs) (ht:TyC w t cs):
  TyC w (ptrT t) [.int .i64 2,.int .i64 0,.slice (some ⟨b,0,none⟩) 1 1,.slice none 0 0,.slice none 0 0,.slice none 0 0]:=by
 unfold ptrT;simp only[TyC];refine⟨some ⟨b,0,none⟩,1,none,0,none,0,none,0,rfl,⟨zl _,zl _,zl _,zl _⟩,⟨by omega,by omega⟩,⟨by omega,by omega⟩,?_,?_,?_,?_⟩
 ·simp only[TysR,and_true];exact⟨b,0,cs,rfl,h,ht⟩
 ·simp only[FdsR]
 ·simp only[MsR]
 ·simp only[TysR]
theorem qqd.small {W:Wd} {t:Ty} (h:qqd W t):∃ P,qdx W t P∧op P t≤2000:=h.2
theorem ptr_walk (W:Wd) (a:Option Addr) (c:Nat) (w:World) (t:Ty) (hW:WOk w W a c) (hT:Tabs w) (htb:t.bulk≤1048576) (addr:Bool) (p n:Int) {x1 x2 x3 x4:Option Addr} {d1 d2 d3 d4:Nat}
  (hF:∀ w',Below w.heap.size w w'→Calls Tryz.prog 11 #[.slice a W.length c,.agg #[.int .i64 t.kind,.int .i64 t.num,.slice x1 t.elem.length d1,.slice x2 t.fields.length d2,.slice x3 t.methods.length d3,.slice x4 t.embeds.length d4],.int .i64 p,.int .i64 n] w' (qb8 (Asked W t p n) w'))
  (hTy:∀ w',Below w.heap.size w w'→Calls Tryz.prog 25 #[.agg #[.int .i64 t.kind,.int .i64 t.num,.slice x1 t.elem.length d1,.slice x2 t.fields.length d2,.slice x3 t.methods.length d3,.slice x4 t.embeds.length d4]] w' (qmz t w'))
  (hWd:∀ w',Below w.heap.size w w'→Calls Tryz.prog 18 #[.slice a W.length c] w' (GivesWd W w'))
  (bI bP:Bool)
  (hI:∀ a' c' cs w',Below w.heap.size w w'→Asked W t p n→W.length≤c'→WdR w' a' W→TyC w' t cs→Calls Tryz.prog 24 #[.slice a' W.length c',.agg cs.toArray] w' (qa2 (.bool bI) w'))
  (hP:∀ a' c' cs w',Below w.heap.size w w'→Asked W t p n→W.length≤c'→WdR w' a' W→TyC w' t cs→Calls Tryz.prog 26 #[.slice a' W.length c',.agg cs.toArray] w' (qa2 (.bool bP) w'))
  (o:Int) (m i1 i2:Bool) (ix:List Nat) (hi1:ix.length≤4294967296) (hc:(o<0∧i1=false∧i2=false)∨(¬ o<0∧i2=true))
  (h1:∀ w',Below w.heap.size w w'→Asked W t p n→bI=false→bP=false→Calls Tryz.prog 12 #[.slice a W.length c,.agg #[.int .i64 t.kind,.int .i64 t.num,.slice x1 t.elem.length d1,.slice x2 t.fields.length d2,.slice x3 t.methods.length d3,.slice x4 t.embeds.length d4],.bool true,.int .i64 p,.int .i64 n] w' (AnsPost o m ix i1 w'))
  (h2:∀ b w',Below w.heap.size w w'→Asked W t p n→bI=false→bP=false→qat w' b 0 [.int .i64 t.kind,.int .i64 t.num,.slice x1 t.elem.length d1,.slice x2 t.fields.length d2,.slice x3 t.methods.length d3,.slice x4 t.embeds.length d4]→Calls Tryz.prog 12 #[.slice a W.length c,.agg #[.int .i64 2,.int .i64 0,.slice (some ⟨b,0,none⟩) 1 1,.slice none 0 0,.slice none 0 0,.slice none 0 0],.bool addr,.int .i64 p,.int .i64 n] w' (AnsPost o m ix i2 w')):
  Calls Tryz.prog 9 #[.slice a W.length c,.agg #[.int .i64 t.kind,.int .i64 t.num,.slice x1 t.elem.length d1,.slice x2 t.fields.length d2,.slice x3 t.methods.length d3,.slice x4 t.embeds.length d4],.bool addr,.int .i64 p,.int .i64 n] w (qa2 (.bool true) w):=by
 have hl:=qbk W;have hbk:=hW.bulk;have HW:=hid hW;have HF:=hid hF;have HTy:=hid hTy;have HWd:=hid hWd;have HI:=hid hI;have HP:=hid hP;have HWk:=hid fun w' (h:Below w.heap.size w w')=>qtr w' (hT.below h);have HL1:=hid h1;have HL2:=hid h2;have HCc:=hid hc;have Hi1:=hid hi1;have HZ:=hid fun w'=>qps t w' (x1:=x1) (x2:=x2) (x3:=x3) (x4:=x4) (d1:=d1) (d2:=d2) (d3:=d3) (d4:=d4) htb;have hlen:(W.length:Int)≤2147483647:=by omega
 have HB0:Hid (∀ O:Obj,Below w.heap.size w (w.alloc O)):=hid fun O=>(zp _ _).alloc (zl _) O;clear hT htb hl hbk hF hW hTy hWd hI hP h1 h2 hc hi1;go_enter Tryz.func9,Tryz.ntmps9
 go_wp2_with (first
  | (go_at_call 10;refine(HZ.out _).mono ?_;rintro e w1 ⟨rfl,hb1⟩;have HX:=hid hb1;have HB:=hid ((HB0.out _).trans (hb1.mono (HB0.out _).size));clear hb1;have q0:=(box6 HX.out).1;have q1:=(box6 HX.out).2.1;have q2:=(box6 HX.out).2.2.1;have q3:=(box6 HX.out).2.2.2.1;have q4:=(box6 HX.out).2.2.2.2.1;have q5:=(box6 HX.out).2.2.2.2.2))
 have hlt:w.heap.size<w1.heap.size:=by have:=HX.out.size;simp only[zd] at this;omega
 refine wpI_region (fun W=>Below w1.heap.size w1 W) (by kernel_rfl) ?_;have HI0:Hid (Below w1.heap.size w1 w1.drew):=hid (zp _ _).drew
 generalize w1.drew=wD at HI0 ⊢
 refine' wpI_take (i:=0) (v:=_) rfl (by kernel_rfl) (by kernel_rfl) (by kernel_rfl) (fun _ _ _ h=>h) (Or.inl ⟨by rfl,_⟩) _
 rotate_left
 ·(intro wq hq;have hcq:=(qal hq).1;(try simp only[zd,qaa] at hcq);have hkq:=qac.below hq;go_simp;first|done|with_reducible rfl)
 (try simp only[Act.put,zk,zh,zi,ze,zm,zn])
 refine' wpI_take (i:=1) (v:=_) rfl (by kernel_rfl) (by kernel_rfl) (by kernel_rfl) (fun _ _ _ h=>h) (Or.inl ⟨by rfl,_⟩) _
 rotate_left
 ·(intro wq hq;have hcq:=(qal hq).1;(try simp only[zd,qaa] at hcq);have hkq:=qac.below hq;go_simp;first|done|with_reducible rfl)
 (try simp only[Act.put,zk,zh,zi,ze,zm,zn])
 refine' wpI_take (i:=2) (v:=_) rfl (by kernel_rfl) (by kernel_rfl) (by kernel_rfl) (fun _ _ _ h=>h) (Or.inl ⟨by rfl,_⟩) _
 rotate_left
 ·(intro wq hq;have hcq:=(qal hq).1;(try simp only[zd,qaa] at hcq);have hkq:=qac.below hq;go_simp;first|done|with_reducible rfl)
 (try simp only[Act.put,zk,zh,zi,ze,zm,zn])
 refine' wpI_take (i:=3) (v:=_) rfl (by kernel_rfl) (by kernel_rfl) (by kernel_rfl) (fun _ _ _ h=>h) (Or.inl ⟨by rfl,_⟩) _
 rotate_left
 ·(intro wq hq;have hcq:=(qal hq).1;(try simp only[zd,qaa] at hcq);have hkq:=qac.below hq;go_simp;first|done|with_reducible rfl)
 (try simp only[Act.put,zk,zh,zi,ze,zm,zn])
 refine wpI_one (i:=4) (by kernel_rfl) rfl HI0.out (by rfl) (fun K hK => ?_);go_simp
 go_at_call 11
 refine(HF.out _ (HB.out.trans (HI0.out.mono HB.out.size))).mono ?_;rintro e w2 ⟨b,rfl,hA,hb2⟩;have HA:=hid hA;have HI2:=hid (HI0.out.trans (hb2.mono HI0.out.size));clear hb2 hA;refine hK _ _ ?_;clear hK K
 (try simp only[Act.put,zk,zh,zi,ze,zm,zn])
 cases b
 ·skip
  refine' wpI_take (i:=5) (v:=_) rfl (by kernel_rfl) (by kernel_rfl) (by kernel_rfl) (fun _ _ _ h=>h) (Or.inl ⟨by rfl,_⟩) _
  rotate_left
  ·(intro wq hq;have hcq:=(qal hq).1;(try simp only[zd,qaa] at hcq);have hkq:=qac.below hq;go_simp;first|done|with_reducible rfl)
  (try simp only[Act.put,zk,zh,zi,ze,zm,zn])
  refine' wpI_take (i:=6) (v:=_) rfl (by kernel_rfl) (by kernel_rfl) (by kernel_rfl) (fun _ _ _ h=>h) (Or.inl ⟨by rfl,_⟩) _
  rotate_left
  ·(intro wq hq;have hcq:=(qal hq).1;(try simp only[zd,qaa] at hcq);have hkq:=qac.below hq;go_simp;first|done|with_reducible rfl)
  (try simp only[Act.put,zk,zh,zi,ze,zm,zn])
  refine wpI_take (i:=7) (v:=undef) rfl (by kernel_rfl) (by kernel_rfl) (by kernel_rfl) (fun _ _ _ h=>h) (Or.inr ⟨by rfl,rfl⟩) ?_
  (try simp only[Act.put,zk,zh,zi,ze,zm,zn])
  refine wpI_take (i:=8) (v:=undef) rfl (by kernel_rfl) (by kernel_rfl) (by kernel_rfl) (fun _ _ _ h=>h) (Or.inr ⟨by rfl,rfl⟩) ?_
  (try simp only[Act.put,zk,zh,zi,ze,zm,zn])
  refine wpI_take (i:=9) (v:=undef) rfl (by kernel_rfl) (by kernel_rfl) (by kernel_rfl) (fun _ _ _ h=>h) (Or.inr ⟨by rfl,rfl⟩) ?_
  (try simp only[Act.put,zk,zh,zi,ze,zm,zn])
  refine wpI_take (i:=10) (v:=undef) rfl (by kernel_rfl) (by kernel_rfl) (by kernel_rfl) (fun _ _ _ h=>h) (Or.inr ⟨by rfl,rfl⟩) ?_
  (try simp only[Act.put,zk,zh,zi,ze,zm,zn])
  refine wpI_take (i:=11) (v:=undef) rfl (by kernel_rfl) (by kernel_rfl) (by kernel_rfl) (fun _ _ _ h=>h) (Or.inr ⟨by rfl,rfl⟩) ?_
  (try simp only[Act.put,zk,zh,zi,ze,zm,zn])
  refine' wpI_take (i:=12) (v:=_) rfl (by kernel_rfl) (by kernel_rfl) (by kernel_rfl) (fun _ _ _ h=>h) (Or.inl ⟨by rfl,_⟩) _
  rotate_left
  ·(intro wq hq;have hcq:=(qal hq).1;(try simp only[zd,qaa] at hcq);have hkq:=qac.below hq;go_simp;first|done|with_reducible rfl)
  (try simp only[Act.put,zk,zh,zi,ze,zm,zn])
  refine' wpI_take (i:=13) (v:=_) rfl (by kernel_rfl) (by kernel_rfl) (by kernel_rfl) (fun _ _ _ h=>h) (Or.inl ⟨by rfl,_⟩) _
  rotate_left
  ·(intro wq hq;have hcq:=(qal hq).1;(try simp only[zd,qaa] at hcq);have hkq:=qac.below hq;go_simp;first|done|with_reducible rfl)
  (try simp only[Act.put,zk,zh,zi,ze,zm,zn])
  refine wpI_take (i:=14) (v:=undef) rfl (by kernel_rfl) (by kernel_rfl) (by kernel_rfl) (fun _ _ _ h=>h) (Or.inr ⟨by rfl,rfl⟩) ?_
  (try simp only[Act.put,zk,zh,zi,ze,zm,zn])
  refine wpI_take (i:=15) (v:=undef) rfl (by kernel_rfl) (by kernel_rfl) (by kernel_rfl) (fun _ _ _ h=>h) (Or.inr ⟨by rfl,rfl⟩) ?_
  (try simp only[Act.put,zk,zh,zi,ze,zm,zn])
  refine wpI_take (i:=16) (v:=undef) rfl (by kernel_rfl) (by kernel_rfl) (by kernel_rfl) (fun _ _ _ h=>h) (Or.inr ⟨by rfl,rfl⟩) ?_
  (try simp only[Act.put,zk,zh,zi,ze,zm,zn])
  refine wpI_take (i:=17) (v:=undef) rfl (by kernel_rfl) (by kernel_rfl) (by kernel_rfl) (fun _ _ _ h=>h) (Or.inr ⟨by rfl,rfl⟩) ?_
  (try simp only[Act.put,zk,zh,zi,ze,zm,zn])
  refine wpI_take (i:=18) (v:=undef) rfl (by kernel_rfl) (by kernel_rfl) (by kernel_rfl) (fun _ _ _ h=>h) (Or.inr ⟨by rfl,rfl⟩) ?_
  (try simp only[Act.put,zk,zh,zi,ze,zm,zn])
  refine' wpI_take (i:=19) (v:=_) rfl (by kernel_rfl) (by kernel_rfl) (by kernel_rfl) (fun _ _ _ h=>h) (Or.inl ⟨by rfl,_⟩) _
  rotate_left
  ·(intro wq hq;have hcq:=(qal hq).1;(try simp only[zd,qaa] at hcq);have hkq:=qac.below hq;go_simp;first|done|with_reducible rfl)
  (try simp only[Act.put,zk,zh,zi,ze,zm,zn])
  refine wpI_done (by kernel_rfl) HI2.out ?_ _
  go_wp2_with fail
  go_ret
  exact⟨rfl,HB.out.trans (HI2.out.mono HB.out.size)⟩
 refine' wpI_take (i:=5) (v:=_) rfl (by kernel_rfl) (by kernel_rfl) (by kernel_rfl) (fun _ _ _ h=>h) (Or.inl ⟨by rfl,_⟩) _
 rotate_left
 ·(intro wq hq;have hcq:=(qal hq).1;(try simp only[zd,qaa] at hcq);have hkq:=qac.below hq;go_simp;first|done|with_reducible rfl)
 (try simp only[Act.put,zk,zh,zi,ze,zm,zn])
 refine' wpI_take (i:=6) (v:=_) rfl (by kernel_rfl) (by kernel_rfl) (by kernel_rfl) (fun _ _ _ h=>h) (Or.inl ⟨by rfl,_⟩) _
 rotate_left
 ·(intro wq hq;have hcq:=(qal hq).1;(try simp only[zd,qaa] at hcq);have hkq:=qac.below hq;go_simp;first|done|with_reducible rfl)
 (try simp only[Act.put,zk,zh,zi,ze,zm,zn])
 refine' wpI_take (i:=7) (v:=_) rfl (by kernel_rfl) (by kernel_rfl) (by kernel_rfl) (fun _ _ _ h=>h) (Or.inl ⟨by rfl,_⟩) _
 rotate_left
 ·(intro wq hq;have hcq:=(qal hq).1;(try simp only[zd,qaa] at hcq);have hkq:=qac.below hq;go_simp;first|done|with_reducible rfl)
 (try simp only[Act.put,zk,zh,zi,ze,zm,zn])
 refine' wpI_take (i:=9) (v:=_) rfl (by kernel_rfl) (by kernel_rfl) (by kernel_rfl) (fun _ _ _ h=>h) (Or.inl ⟨by rfl,_⟩) _
 rotate_left
 ·(intro wq hq;have hcq:=(qal hq).1;(try simp only[zd,qaa] at hcq);have hkq:=qac.below hq;go_simp;first|done|with_reducible rfl)
 (try simp only[Act.put,zk,zh,zi,ze,zm,zn])
 refine wpI_one (i:=8) (by kernel_rfl) rfl HI2.out (by rfl) (fun K hK => ?_);go_simp
 go_at_call 18
 refine(HWd.out _ (HB.out.trans (HI2.out.mono HB.out.size))).mono ?_;rintro e w3 ⟨a3,c3,rfl,hc3,hwd3,hb3⟩;have Hwd:=hid (hwd3.keep (qac.show _ _));have Hc:=hid hc3;have HI3:=hid (HI2.out.trans (hb3.mono HI2.out.size));clear hb3 hwd3 hc3;refine hK _ _ ?_;clear hK K
 (try simp only[Act.put,zk,zh,zi,ze,zm,zn])
 refine wpI_one (i:=10) (by kernel_rfl) rfl HI3.out (by rfl) (fun K hK => ?_);go_simp
 go_at_call 25
 refine(HTy.out _ (HB.out.trans (HI3.out.mono HB.out.size))).mono ?_;rintro e w4 ⟨cs4,rfl,ht4,hb4⟩;obtain⟨f1,p1,f2,p2,f3,p3,f4,p4,rfl,-⟩:=ht4.open;have Ht:=hid (TyC.keep (qac.show _ _) ht4);have Hwd:=hid (Hwd.out.keep (qac.below hb4));have HI4:=hid (HI3.out.trans (hb4.mono HI3.out.size));clear hb4 ht4;refine hK _ _ ?_;clear hK K
 (try simp only[Act.put,zk,zh,zi,ze,zm,zn])
 refine wpI_one (i:=11) (by kernel_rfl) rfl HI4.out (by rfl) (fun K hK => ?_);go_simp
 go_at_call 24
 refine(HI.out _ _ _ _ (HB.out.trans (HI4.out.mono HB.out.size)) (HA.out rfl) Hc.out Hwd.out Ht.out).mono ?_;rintro e w5 ⟨rfl,hb5⟩;have HI5:=hid (HI4.out.trans (hb5.mono HI4.out.size));clear hb5;refine hK _ _ ?_;clear hK K
 (try simp only[Act.put,zk,zh,zi,ze,zm,zn])
 cases bI
 rotate_left
 ·skip
  refine' wpI_take (i:=12) (v:=_) rfl (by kernel_rfl) (by kernel_rfl) (by kernel_rfl) (fun _ _ _ h=>h) (Or.inl ⟨by rfl,_⟩) _
  rotate_left
  ·(intro wq hq;have hcq:=(qal hq).1;(try simp only[zd,qaa] at hcq);have hkq:=qac.below hq;go_simp;first|done|with_reducible rfl)
  (try simp only[Act.put,zk,zh,zi,ze,zm,zn])
  refine' wpI_take (i:=13) (v:=_) rfl (by kernel_rfl) (by kernel_rfl) (by kernel_rfl) (fun _ _ _ h=>h) (Or.inl ⟨by rfl,_⟩) _
  rotate_left
  ·(intro wq hq;have hcq:=(qal hq).1;(try simp only[zd,qaa] at hcq);have hkq:=qac.below hq;go_simp;first|done|with_reducible rfl)
  (try simp only[Act.put,zk,zh,zi,ze,zm,zn])
  refine wpI_take (i:=14) (v:=undef) rfl (by kernel_rfl) (by kernel_rfl) (by kernel_rfl) (fun _ _ _ h=>h) (Or.inr ⟨by rfl,rfl⟩) ?_
  (try simp only[Act.put,zk,zh,zi,ze,zm,zn])
  refine wpI_take (i:=15) (v:=undef) rfl (by kernel_rfl) (by kernel_rfl) (by kernel_rfl) (fun _ _ _ h=>h) (Or.inr ⟨by rfl,rfl⟩) ?_
  (try simp only[Act.put,zk,zh,zi,ze,zm,zn])
  refine wpI_take (i:=16) (v:=undef) rfl (by kernel_rfl) (by kernel_rfl) (by kernel_rfl) (fun _ _ _ h=>h) (Or.inr ⟨by rfl,rfl⟩) ?_
  (try simp only[Act.put,zk,zh,zi,ze,zm,zn])
  refine wpI_take (i:=17) (v:=undef) rfl (by kernel_rfl) (by kernel_rfl) (by kernel_rfl) (fun _ _ _ h=>h) (Or.inr ⟨by rfl,rfl⟩) ?_
  (try simp only[Act.put,zk,zh,zi,ze,zm,zn])
  refine wpI_take (i:=18) (v:=undef) rfl (by kernel_rfl) (by kernel_rfl) (by kernel_rfl) (fun _ _ _ h=>h) (Or.inr ⟨by rfl,rfl⟩) ?_
  (try simp only[Act.put,zk,zh,zi,ze,zm,zn])
  refine' wpI_take (i:=19) (v:=_) rfl (by kernel_rfl) (by kernel_rfl) (by kernel_rfl) (fun _ _ _ h=>h) (Or.inl ⟨by rfl,_⟩) _
  rotate_left
  ·(intro wq hq;have hcq:=(qal hq).1;(try simp only[zd,qaa] at hcq);have hkq:=qac.below hq;go_simp;first|done|with_reducible rfl)
  (try simp only[Act.put,zk,zh,zi,ze,zm,zn])
  refine wpI_done (by kernel_rfl) HI5.out ?_ _
  go_wp2_with fail
  go_ret
  exact⟨rfl,HB.out.trans (HI5.out.mono HB.out.size)⟩
 refine' wpI_take (i:=12) (v:=_) rfl (by kernel_rfl) (by kernel_rfl) (by kernel_rfl) (fun _ _ _ h=>h) (Or.inl ⟨by rfl,_⟩) _
 rotate_left
 ·(intro wq hq;have hcq:=(qal hq).1;(try simp only[zd,qaa] at hcq);have hkq:=qac.below hq;go_simp;first|done|with_reducible rfl)
 (try simp only[Act.put,zk,zh,zi,ze,zm,zn])
 refine' wpI_take (i:=13) (v:=_) rfl (by kernel_rfl) (by kernel_rfl) (by kernel_rfl) (fun _ _ _ h=>h) (Or.inl ⟨by rfl,_⟩) _
 rotate_left
 ·(intro wq hq;have hcq:=(qal hq).1;(try simp only[zd,qaa] at hcq);have hkq:=qac.below hq;go_simp;first|done|with_reducible rfl)
 (try simp only[Act.put,zk,zh,zi,ze,zm,zn])
 refine' wpI_take (i:=14) (v:=_) rfl (by kernel_rfl) (by kernel_rfl) (by kernel_rfl) (fun _ _ _ h=>h) (Or.inl ⟨by rfl,_⟩) _
 rotate_left
 ·(intro wq hq;have hcq:=(qal hq).1;(try simp only[zd,qaa] at hcq);have hkq:=qac.below hq;go_simp;first|done|with_reducible rfl)
 (try simp only[Act.put,zk,zh,zi,ze,zm,zn])
 refine' wpI_take (i:=16) (v:=_) rfl (by kernel_rfl) (by kernel_rfl) (by kernel_rfl) (fun _ _ _ h=>h) (Or.inl ⟨by rfl,_⟩) _
 rotate_left
 ·(intro wq hq;have hcq:=(qal hq).1;(try simp only[zd,qaa] at hcq);have hkq:=qac.below hq;go_simp;first|done|with_reducible rfl)
 (try simp only[Act.put,zk,zh,zi,ze,zm,zn])
 clear Hc Hwd Ht;refine wpI_one (i:=15) (by kernel_rfl) rfl HI5.out (by rfl) (fun K hK => ?_);go_simp
 go_at_call 18
 refine(HWd.out _ (HB.out.trans (HI5.out.mono HB.out.size))).mono ?_;rintro e w3 ⟨a3,c3,rfl,hc3,hwd3,hb3⟩;have Hwd:=hid (hwd3.keep (qac.show _ _));have Hc:=hid hc3;have HI6:=hid (HI5.out.trans (hb3.mono HI5.out.size));clear hb3 hwd3 hc3;refine hK _ _ ?_;clear hK K
 (try simp only[Act.put,zk,zh,zi,ze,zm,zn])
 refine wpI_one (i:=17) (by kernel_rfl) rfl HI6.out (by rfl) (fun K hK => ?_);go_simp
 go_at_call 25
 refine(HTy.out _ (HB.out.trans (HI6.out.mono HB.out.size))).mono ?_;rintro e w4 ⟨cs4,rfl,ht4,hb4⟩;obtain⟨f1,p1,f2,p2,f3,p3,f4,p4,rfl,-⟩:=ht4.open;have Ht:=hid (TyC.keep (qac.show _ _) ht4);have Hwd:=hid (Hwd.out.keep (qac.below hb4));have HI7:=hid (HI6.out.trans (hb4.mono HI6.out.size));clear hb4 ht4;refine hK _ _ ?_;clear hK K
 (try simp only[Act.put,zk,zh,zi,ze,zm,zn])
 refine wpI_one (i:=18) (by kernel_rfl) rfl HI7.out (by rfl) (fun K hK => ?_);go_simp
 go_at_call 26
 refine(HP.out _ _ _ _ (HB.out.trans (HI7.out.mono HB.out.size)) (HA.out rfl) Hc.out Hwd.out Ht.out).mono ?_;rintro e w6 ⟨rfl,hb6⟩;have HI8:=hid (HI7.out.trans (hb6.mono HI7.out.size));clear hb6;refine hK _ _ ?_;clear hK K
 (try simp only[Act.put,zk,zh,zi,ze,zm,zn])
 cases bP
 rotate_left
 ·skip
  refine' wpI_take (i:=19) (v:=_) rfl (by kernel_rfl) (by kernel_rfl) (by kernel_rfl) (fun _ _ _ h=>h) (Or.inl ⟨by rfl,_⟩) _
  rotate_left
  ·(intro wq hq;have hcq:=(qal hq).1;(try simp only[zd,qaa] at hcq);have hkq:=qac.below hq;go_simp;first|done|with_reducible rfl)
  (try simp only[Act.put,zk,zh,zi,ze,zm,zn])
  refine wpI_done (by kernel_rfl) HI8.out ?_ _
  go_wp2_with fail
  go_ret
  exact⟨rfl,HB.out.trans (HI8.out.mono HB.out.size)⟩
 refine' wpI_take (i:=19) (v:=_) rfl (by kernel_rfl) (by kernel_rfl) (by kernel_rfl) (fun _ _ _ h=>h) (Or.inl ⟨by rfl,_⟩) _
 rotate_left
 ·(intro wq hq;have hcq:=(qal hq).1;(try simp only[zd,qaa] at hcq);have hkq:=qac.below hq;go_simp;first|done|with_reducible rfl)
 (try simp only[Act.put,zk,zh,zi,ze,zm,zn])
 refine wpI_done (by kernel_rfl) HI8.out ?_ _
 go_wp2_with fail
 have HX:=hid (HX.out.trans (HI8.out.mono HX.out.size));have HB:=hid (HB.out.trans (HI8.out.mono HB.out.size));clear HI0 HI2 HI3 HI4 HI5 HI6 HI7 HI8 q0 q1 q2 q3 q4 q5;have q0:=(box6 HX.out).1;have q1:=(box6 HX.out).2.1;have q2:=(box6 HX.out).2.2.1;have q3:=(box6 HX.out).2.2.2.1;have q4:=(box6 HX.out).2.2.2.2.1;have q5:=(box6 HX.out).2.2.2.2.2;have HAs:=hid (HA.out (by simp));have hself:w.heap.size<w6.heap.size:=by have:=HX.out.size;simp only[zd] at this;omega
 refine Mix.wp_region [0,1,2,3,5,6,8,9,10] [(4,false),(7,false),(11,false),(12,true),(13,true)] [14,15] (fun _=>⟨.cells #[.int .i64 0,.bool false,.slice none 0 0,.bool false] 33,fun b => .pointer (some ⟨b,0,none⟩)⟩) (by kernel_rfl) (by kernel_rfl) (by decide) ?_
 iterate 9 (first|(refine pre_yes rfl rfl ?_;apply Exists.intro;refine⟨fun W1 hW1 => ?_,?_⟩;(focus (have hc1:=(qal hW1).1;(try simp only[zd,qaa] at hc1);have hk1:=qac.below hW1;go_simp;first|exact rfl|fail));simp only[Act.put,zk,zh,zi,ze,zm,zn])|(refine pre_no rfl rfl ?_;simp only[Act.put,zk,zh,zi,ze,zm,zn]))
 refine pre_end ?_ (fun W2 hW2 => ?_)
 ·refine fl_op (fl_op (fl_op (qnd rfl rfl (fun W1 hW1 => ?_) (qnd rfl rfl (fun W1 hW1 => ?_) fl_nil))))
  all_goals go_simp
 ·have hD2:Below w6.heap.size w6 W2:=⟨hW2.os,hW2.tape,hW2.output,hW2.size,hW2.block⟩;have HD2:=hid (HB.out.trans (hD2.mono HB.out.size));have hx2:=HD2.out.size;refine mid_call hW2 rfl rfl (fun Kp hKp => ?_);go_simp;refine(HL1.out W2 HD2.out HAs.out (by simp) (by simp)).mono ?_;rintro e W3 ⟨x,rfl,H3⟩;refine⟨_,rfl,hKp _ _ H3.out.2 fun W4 hW4 => ?_⟩;simp only[Act.put,zk,zh,zi,ze,qai,qaj,zm,zn];have hB3:=qbl H3.out.2 hW2 hW2.size;have hB4:=qbl hW4 hB3 (Nat.le_trans hW2.size H3.out.2.size);have HD4:=hid (HD2.out.trans ((H3.out.2.trans (hW4.mono H3.out.2.size)).mono HD2.out.size));have hx3:=H3.out.2.size;have hx4:=hW4.size;refine mid_call hB4 rfl rfl (fun Kp1 hKp1 => ?_);go_simp;refine(pointer_any W4 _ _ _ _ _ _).mono ?_;rintro e W5 ⟨pb,rfl,HC5,hb5⟩;refine⟨_,rfl,hKp1 _ _ hb5 fun W6 hW6 => ?_⟩;simp only[Act.put,zk,zh,zi,ze,qai,qaj,zm,zn];have hx5:=hb5.size;have hx6:=hW6.size;have hB5:=qbl hb5 hB4 hB4.size;have hB6:=qbl hW6 hB5 hB5.size;have HD6:=hid (HD4.out.trans ((hb5.trans (hW6.mono hx5)).mono HD4.out.size));have HC6:=hid (HC5.keep (qac.below hW6));refine mid_call hB6 rfl rfl (fun Kp2 hKp2 => ?_);go_simp;refine(HL2.out pb W6 HD6.out HAs.out (by simp) (by simp) HC6.out).mono ?_;rintro e W7 ⟨y,rfl,H7⟩;refine⟨_,rfl,hKp2 _ _ H7.out.2 fun W8 hW8 => ?_⟩;simp only[Act.put,zk,zh,zi,ze,qai,qaj,zm,zn];have hx7:=H7.out.2.size;have hx8:=hW8.size;refine qje rfl (fun b1 W9 hW9 hh1 hb1 hn1 => ?_);simp only[Act.put,zk,zh,zi,ze,qai,qaj,zm,zn];have hx9:=hW9.size;refine qje rfl (fun b2 W10 hW10 hh2 hb2 hn2 => ?_);simp only[Act.put,zk,zh,zi,ze,qai,qaj,zm,zn];have hx10:=hW10.size;refine mid_nil (qnw rfl rfl ?_);have H78:Below W7.heap.size W7 W10:=hW8.trans ((hW9.trans (hW10.mono hx9)).mono hx8);have H38:Below W3.heap.size W3 W10:=hW4.trans ((hb5.trans ((hW6.trans ((H7.out.2.trans (H78.mono hx7)).mono hx6)).mono hx5)).mono hx4);have HRx:=hid (qab (S:=fun _=>False) H3.out.1 (qag.keep H38) fun _ _ h=>h);have HRy:=hid (qab (S:=fun _=>False) H7.out.1 (qag.keep H78) fun _ _ h=>h);have HD8:=hid (HD2.out.trans ((H3.out.2.trans (H38.mono hx3)).mono hx2));have HN1:Hid (Blk W10 b1 33 [.int .i64 0,.bool false,.slice none 0 0,.bool false]):=hid ((show Blk W9 b1 33 [.int .i64 0,.bool false,.slice none 0 0,.bool false] from hh1).keep hW10);have HN2:Hid (Blk W10 b2 33 [.int .i64 0,.bool false,.slice none 0 0,.bool false]):=hid hh2;have hne:b2≠b1:=fun e=>hn2 (by rw[e];exact z6 ..);have hne2:b1≠b2:=fun e=>hne e.symm;have hb1':w.heap.size≤b1:=Nat.le_trans HB.out.size hb1;have hb2':w.heap.size≤b2:=Nat.le_trans HB.out.size hb2;clear hW2 hD2 hB3 hB4 hB5 hB6 hW4 hW6 hb5 hW8 hW9 hW10 hKp hKp1 hKp2 hh1 hh2 hn1 hn2 H38 H78 hb1 hb2;have c0:=HN1.out.cell 0;have c1:=HN1.out.cell 1;have c2:=HN1.out.cell 2;have c3:=HN1.out.cell 3;simp only[zu,zt] at c0 c1 c2 c3;have cs0:=HN1.out.soft 0;have cs1:=HN1.out.soft 1;have cs2:=HN1.out.soft 2;have cs3:=HN1.out.soft 3;have d0:=HN2.out.cell 0;have d1:=HN2.out.cell 1;have d2:=HN2.out.cell 2;have d3:=HN2.out.cell 3;simp only[zu,zt] at d0 d1 d2 d3;have ds0:=HN2.out.soft 0;have ds1:=HN2.out.soft 1;have ds2:=HN2.out.soft 2;have ds3:=HN2.out.soft 3;have HT:=hid (two_put HN1.out HN2.out hne (.int .i64 o) (.bool m) (.slice x.1 ix.length x.2) (.bool i1) (.int .i64 o) (.bool m) (.slice y.1 ix.length y.2) (.bool i2));have HTB:=hid (HT.out.2.2.1 _ _ HD8.out hb1' hb2');have HRx2:=hid (qab HRx.out HT.out.2.2.2 fun g hg h=>by
   obtain⟨cs,hb⟩:=qaf HRx.out hg;rcases h with rfl|rfl
   ·exact hb.tne HN1.out (by decide) rfl
   ·exact hb.tne HN2.out (by decide) rfl)
  have HRy2:=hid (qab HRy.out HT.out.2.2.2 fun g hg h=>by
   obtain⟨cs,hb⟩:=qaf HRy.out hg;rcases h with rfl|rfl
   ·exact hb.tne HN1.out (by decide) rfl
   ·exact hb.tne HN2.out (by decide) rfl)
  refine wpList_plain rfl (fun K hK => ?_);go_simp;refine hK _ _ ?_;clear hK K
  (try simp only[Act.put,zk,zh,zi,ze,qai,qaj,zm,zn])
  refine wpList_plain rfl (fun K hK => ?_);go_simp;refine hK _ _ ?_;clear hK K
  (try simp only[Act.put,zk,zh,zi,ze,qai,qaj,zm,zn])
  change wpList _ _ _ [] _ (put4 (put4 W10 b1 (.int .i64 o) (.bool m) (.slice x.1 ix.length x.2) (.bool i1)) b2 (.int .i64 o) (.bool m) (.slice y.1 ix.length y.2) (.bool i2));have HT1:=hid HT.out.1;have HT2:=hid HT.out.2.1;clear HT HN1 HN2 HRx HRy HD8 HD2 HD4 HD6 H3 H7 HC6
  generalize (put4 (put4 W10 b1 (.int .i64 o) (.bool m) (.slice x.1 ix.length x.2) (.bool i1)) b2 (.int .i64 o) (.bool m) (.slice y.1 ix.length y.2) (.bool i2))=W11 at HT1 HT2 HTB HRx2 HRy2 ⊢
  clear c0 c1 c2 c3 cs0 cs1 cs2 cs3 d0 d1 d2 d3 ds0 ds1 ds2 ds3;have c0:=HT1.out.cell 0;have c1:=HT1.out.cell 1;have c2:=HT1.out.cell 2;have c3:=HT1.out.cell 3;simp only[zu,zt] at c0 c1 c2 c3;have cs0:=HT1.out.soft 0;have cs1:=HT1.out.soft 1;have cs2:=HT1.out.soft 2;have cs3:=HT1.out.soft 3;have d0:=HT2.out.cell 0;have d1:=HT2.out.cell 1;have d2:=HT2.out.cell 2;have d3:=HT2.out.cell 3;simp only[zu,zt] at d0 d1 d2 d3;have ds0:=HT2.out.soft 0;have ds1:=HT2.out.soft 1;have ds2:=HT2.out.soft 2;have ds3:=HT2.out.soft 3;rcases HCc.out with ⟨k1,k2,k3⟩|⟨k1,k2⟩
  ·subst k2 k3;have k1':decide (o<0)=true:=by simpa using k1
   go_wp2_with (go_at_call 13;refine(HWk.out _ HTB.out).mono ?_;rintro e w9 ⟨rfl,hb9⟩;have HE1:=hid (HT1.out.keep hb9);have HE2:=hid (HT2.out.keep hb9);have HB9:=hid (HTB.out.trans (hb9.mono HTB.out.size));clear hb9;have e0:=HE1.out.cell 0;have e1:=HE1.out.cell 1;have e2:=HE1.out.cell 2;have e3:=HE1.out.cell 3;have f0:=HE2.out.cell 0;have f1:=HE2.out.cell 1;have f2:=HE2.out.cell 2;have f3:=HE2.out.cell 3;(simp only[zu,zt] at e0 e1 e2 e3 f0 f1 f2 f3))
   go_ret
   exact⟨rfl,HB9.out⟩
  ·subst k2;have k1':decide (o<0)=false:=by simpa using k1
   have HAs2:Hid (qag (fun g=>g=b1) W11 (W11.setCell ⟨b1,3,none⟩ (.bool true))):=hid (qag.setCell (fun g=>g=b1) _ (a:=⟨b1,3,none⟩) rfl _);have HTB3:Hid (Below w.heap.size w (W11.setCell ⟨b1,3,none⟩ (.bool true))):=hid (Below.setCell HTB.out hb1' _);have HSm:=hid (same_yes o m true ix Hi1.out x.1 y.1 x.2 y.2 (W11.setCell ⟨b1,3,none⟩ (.bool true))
    (qab HRx2.out HAs2.out fun g hg h=>by
     obtain⟨cs,hb⟩:=qaf HRx2.out hg;exact hb.tne HT1.out (by decide) h)
    (qab HRy2.out HAs2.out fun g hg h=>by
     obtain⟨cs,hb⟩:=qaf HRy2.out hg;exact hb.tne HT1.out (by decide) h))
   clear k1
   go_wp2_with (go_at_call 14;refine HSm.out.mono ?_;rintro e w10 ⟨rfl,hb10⟩;have HB10:=hid (HTB3.out.trans (hb10.mono HTB3.out.size));clear hb10)
   go_ret
   exact⟨rfl,HB10.out⟩
theorem lawPointer (W:Wd) (a:Option Addr) (c:Nat) (w:World) (t:Ty) (hW:WOk w W a c) (hT:Tabs w) (htb:t.bulk+1≤1048576) (cs:List Value) (ht:TyC w t cs) (addr:Bool) (p n:Int):
  Calls Tryz.prog 9 #[.slice a W.length c,.agg cs.toArray,.bool addr,.int .i64 p,.int .i64 n] w (qa2 (.bool true) w):=by
 have htb':t.bulk≤1048576:=by omega
 have hl:=qbk W;have hfit:=fun w' (h:Below w.heap.size w w')=>qvj W a c t cs p n w' (hW.keep (qac.below h)) htb' (ht.keep (qac.below h));have hTy:=fun w' (h:Below w.heap.size w w')=>qt0 t cs w w' htb' ht (qac.below h);have hWd:=fun w' (h:Below w.heap.size w w')=>qsu W a c w' (hW.keep (qac.below h));have hcl:=fun(hF:qfz W t)=>(⟨fun d hd=>qbn W d true _ (hF.names d hd).2.2.2.1,qbn W (-1) true t hF.formed⟩:CloW W∧t.clo W.length);have hI:=fun a' c' cs' w' (_:Below w.heap.size w w') (hA:Asked W t p n) (hc:W.length≤c') (hr:WdR w' a' W) (htc:TyC w' t cs')=>isIface_any W a' c' t cs' w' ⟨hr,hc,hW.bulk⟩ (hcl hA.2.2.1).1 htc (hcl hA.2.2.1).2;have hP:=fun a' c' cs' w' (_:Below w.heap.size w w') (hA:Asked W t p n) (hc:W.length≤c') (hr:WdR w' a' W) (htc:TyC w' t cs')=>isPtr_any W a' c' t cs' w' ⟨hr,hc,hW.bulk⟩ (hcl hA.2.2.1).1 htc (hcl hA.2.2.1).2;have hlk:=fun(hA:Asked W t p n) w' (h:Below w.heap.size w w')=>qs2 W a c w' t hA.2.2 (hW.keep (qac.below h)) (hT.below h) htb' cs (ht.keep (qac.below h)) true p n hA.1 hA.2.1;have hlp:∀ (hA:Asked W t p n) b w' (_:Below w.heap.size w w'),qat w' b 0 cs→Calls Tryz.prog 12 #[.slice a W.length c,.agg #[.int .i64 2,.int .i64 0,.slice (some ⟨b,0,none⟩) 1 1,.slice none 0 0,.slice none 0 0,.slice none 0 0],.bool addr,.int .i64 p,.int .i64 n] w' (qdq (qch W (operand W (ptrT t)) addr p n) w'):=fun hA b w' h hc=>by
  obtain⟨P,hS,h2⟩:=qqd.small hA.2.2;exact qgz W a c w' (ptrT t) (fitOk_ptr hA.2.2.1) (fitOk_ptr hA.2.2.1).nm (hW.keep (qac.below h)) (hT.below h) (by simp only[ptrT,Ty.bulk,qbt,qcm,List.length_nil];omega) P (smallOk_ptr hS h2) _ (tyC_ptr hc (ht.keep (qac.below h))) addr p n hA.1 hA.2.1
 obtain⟨x1,d1,x2,d2,x3,d3,x4,d4,rfl,-⟩:=ht.full;by_cases hA:Asked W t p n∧(qae W (operand W t)).of.kind≠2∧(qae W (operand W t)).of.kind≠5
 ·obtain⟨hA,h2,h5⟩:=hA;obtain⟨e1,e2⟩:=lookM_pointer (fun d hd=>(hA.2.2.1.names d hd).2.2.2.1) (hA.2.2.1.formed.numOk (s:=operand W t)) h2 h5 addr p n;refine ptr_walk W a c w t hW hT htb' addr p n hfit hTy hWd _ _ hI hP (obI (qch W (operand W t) true p n)) (obM (qch W (operand W t) true p n)) (qch W (operand W t) true p n).ind (qch W (operand W t) true p n).ob.isSome (qch W (operand W t) true p n).ix
   (Nat.le_trans (lookM_len ..) (fuelW_le (by have:=hW.bulk;omega))) ?_ (fun w' h hA _ _=>(hlk hA w' h).mono fun e w2 h=>h.ans) (fun b w' h hA _ _ hc=>(hlp hA b w' h hc).mono fun e w2 h => ?_)
  ·cases ho:(qch W (operand W t) true p n).ob with
   | none=>exact .inl ⟨by rw[obI_none ho];omega,e2 ho,rfl⟩
   | some x=>obtain⟨k,m⟩:=x;exact .inr ⟨by rw[obI_some ho];omega,rfl⟩
  ·rw[e1] at h;exact h.ans
 ·refine ptr_walk W a c w t hW hT htb' addr p n hfit hTy hWd _ _ hI hP (-1) false false false [] (by simp) (.inl ⟨by omega,rfl,rfl⟩) (fun _ _ h h5 h2=>absurd ⟨h,by simpa using h2,by simpa using h5⟩ hA) (fun _ _ _ h h5 h2 _=>absurd ⟨h,by simpa using h2,by simpa using h5⟩ hA)
