import Derived.Test.YtmfhclggkjjcdaaGreatDoorK45
import Derived.Test.YtmfhclggkjjcdaaGreatDoorK49
import Derived.Test.YtmfhclggkjjcdaaGreatDoorK46
set_option linter.all false
set_option maxHeartbeats 8000000
namespace Go.Proofs.YtmfhclggkjjcdaaGreatDoor
open Go Go.RowKit
set_option maxRecDepth 100000
theorem wrapp_walk (n:Nat) (a:Option Addr) (c:Nat) (w:World) (k:Nat) (hk:k<n) (hn:n≤1048576) (addr:Bool) (p m nm:Int) (b o:Nat) (ha:a=some ⟨b,o,none⟩) (e0:w.cell? ⟨b,o+k * 10,none⟩=some (.int .i64 nm)) (A:Prop)
  (hF:∀ cs w',Below w.heap.size w w'→TyC w' (stT [.mk 0 true (ptrT (ndT k))]) cs→Calls Tryz.prog 6 #[.slice a n c,.agg cs.toArray,.int .i64 p,.int .i64 m] w' fun e w2=>∃ b,e = .returned (.bool b)∧(b=true→A)∧Below w'.heap.size w' w2)
  (WdR':World→Option Addr→Prop) (hkeep:∀ a' w1 w2,Below w1.heap.size w1 w2→WdR' w1 a'→WdR' w2 a')
  (hWd:∀ w',Below w.heap.size w w'→Calls Tryz.prog 13 #[.slice a n c] w' fun e w2=>∃ (a':Option Addr) (c':Nat),e = .returned (.slice a' n c')∧n≤c'∧WdR' w2 a'∧Below w'.heap.size w' w2)
  (st:Nat) (hSt:∀ a' c' w',n≤c'→WdR' w' a'→Calls Tryz.prog 14 #[.slice a' n c',.int .i64 n] w' (qa2 (.int .i64 st) w'))
  (hWk:∀ w',Below w.heap.size w w'→Calls Tryz.prog 16 #[] w' (qa2 (.bool true) w'))
  (hSm:∀ (o:Int) (m i:Bool) (ix:List Nat) (a1 a2:Option Addr) (c1 c2:Nat) w',ix.length≤4294967296→w'.ownsRow 0 3 1 (.slice a1 ix.length c1) ix.length (qbh ix)→w'.ownsRow 0 3 1 (.slice a2 ix.length c2) ix.length (qbh ix)→Calls Tryz.prog 12 #[.agg #[.int .i64 o,.bool m,.slice a1 ix.length c1,.bool i],.agg #[.int .i64 o,.bool m,.slice a2 ix.length c2,.bool i]] w' (qa2 (.bool true) w'))
  (o1 o2:Int) (m1 m2 i1 i2:Bool) (ix1 ix2:List Nat) (hi1:ix1.length≤4294967296) (hi2:ix2.length≤4294967296)
  (hQ:A→(p=0∨p=1)∧IsNm m∧IsNm nm∧((m≠8∧qbp 0 nm p m=true∧o1=st∧m1=false∧ix1=[0]∧i1=false)∨((m=8∨qbp 0 nm p m=false)∧o2=o1∧m2=m1∧i2=i1∧ix1=if ix2=[] then [] else 0::ix2)))
  (hG:∀ cs w',Below w.heap.size w w'→A→TyC w' (stT [.mk 0 true (ptrT (ndT k))]) cs→Calls Tryz.prog 10 #[.slice a n c,.agg cs.toArray,.bool addr,.int .i64 p,.int .i64 m] w' (AnsPost o1 m1 ix1 i1 w'))
  (hV:∀ cs w',Below w.heap.size w w'→A→TyC w' (ptrT (ndT k)) cs→Calls Tryz.prog 10 #[.slice a n c,.agg cs.toArray,.bool addr,.int .i64 p,.int .i64 m] w' (AnsPost o2 m2 ix2 i2 w')):
  Calls Tryz.prog 3 #[.slice a n c,.int .i64 k,.bool addr,.int .i64 p,.int .i64 m] w (qa2 (.bool true) w):=by
 subst ha;have HF:=hid hF;have HWd:=hid hWd;have HSt:=hid hSt;have HWk:=hid hWk;have HSm:=hid hSm;have HG:=hid hG;have HV:=hid hV;have HQ:=hid hQ;have Hi1:=hid hi1;have Hi2:=hid hi2;have HKp:=hid hkeep;have Hk:Hid (k≤1048576):=hid (by omega);have hlen:(n:Int)≤2147483647:=by omega
 have hki:(k:Int)<(n:Int):=by omega
 have hkd:decide (n≤k)=false:=by simpa using hk
 have hk0:decide ((k:Int)<0)=false:=by simp
 have HB0:Hid (Below w.heap.size w w):=hid (zp _ _);clear hF hWd hSt hWk hSm hG hV hQ hi1 hi2 hkeep;go_enter Tryz.func3,Tryz.ntmps3
 go_wp2_with fail
 refine(named_any _ _).mono ?_;rintro e n1 ⟨rfl,hbn⟩;have HN1:=hid (HB0.out.trans (hbn.mono HB0.out.size));have HNr1:=hid hbn;clear hbn
 go_wp2_with fail
 refine(pointer_any _ _ _ _ _ _ _).mono ?_;rintro e p1 ⟨pb1,rfl,hcp,hbp⟩;have HP1:=hid (HN1.out.trans (hbp.mono HN1.out.size));have HI1:Hid (TyC p1 (ptrT (ndT k)) [.int .i64 2,.int .i64 0,.slice (some ⟨pb1,0,none⟩) 1 1,.slice none 0 0,.slice none 0 0,.slice none 0 0]):=hid (tyC_ptr hcp (tyC_nd Hk.out));have HPr1:=hid (HNr1.out.trans (hbp.mono HNr1.out.size));clear hbp hcp;have HA1:Hid (Below p1.heap.size p1 (p1.alloc (.cells #[.int .i64 2,.int .i64 0,.slice (some ⟨pb1,0,none⟩) 1 1,.slice none 0 0,.slice none 0 0,.slice none 0 0] 29))):=hid ((zp _ _).alloc (zl _) _)
 go_wp2_with fail
 refine(structure_one (p1.alloc (.cells #[.int .i64 2,.int .i64 0,.slice (some ⟨pb1,0,none⟩) 1 1,.slice none 0 0,.slice none 0 0,.slice none 0 0] 29)) p1.heap.size 2 0 (some ⟨pb1,0,none⟩) none none none 1 0 0 0 1 0 0 0 (Blk.new p1 29 [.int .i64 2,.int .i64 0,.slice (some ⟨pb1,0,none⟩) 1 1,.slice none 0 0,.slice none 0 0,.slice none 0 0]).cells).mono ?_;rintro e s1 ⟨y1,rfl,HS1⟩;have HB1:=hid (HP1.out.trans ((HA1.out.trans (HS1.out.2.2.mono HA1.out.size)).mono HP1.out.size));have HT1:=hid (tyC_st HS1.out.1 HS1.out.2.1 (HI1.out.keep (qac.below (HA1.out.trans (HS1.out.2.2.mono HA1.out.size)))))
 go_wp2_with fail
 refine(HF.out _ s1 HB1.out HT1.out).mono ?_;rintro e w3 ⟨bb,rfl,hA,hb3⟩;have HA3:=hid hA;have HB3:=hid (HB1.out.trans (hb3.mono HB1.out.size));clear hb3 hA;cases bb
 ·go_wp2_with fail
  go_ret
  exact⟨rfl,HB3.out⟩
 have HAs:=hid (HA3.out rfl);have Hp:=hid (HQ.out HAs.out).1;have Hm:=hid (HQ.out HAs.out).2.1;have Hnm:=hid (HQ.out HAs.out).2.2.1;have HC:=hid (HQ.out HAs.out).2.2.2;clear HQ
 go_wp2_with fail
 refine(named_any _ _).mono ?_;rintro e n2 ⟨rfl,hbn⟩;have HN2:=hid (HB3.out.trans (hbn.mono HB3.out.size));have HNr2:=hid hbn;clear hbn
 go_wp2_with fail
 refine(pointer_any _ _ _ _ _ _ _).mono ?_;rintro e p2 ⟨pb2,rfl,hcp,hbp⟩;have HP2:=hid (HN2.out.trans (hbp.mono HN2.out.size));have HI2:Hid (TyC p2 (ptrT (ndT k)) [.int .i64 2,.int .i64 0,.slice (some ⟨pb2,0,none⟩) 1 1,.slice none 0 0,.slice none 0 0,.slice none 0 0]):=hid (tyC_ptr hcp (tyC_nd Hk.out));have HPr2:=hid (HNr2.out.trans (hbp.mono HNr2.out.size));clear hbp hcp;have HA2:Hid (Below p2.heap.size p2 (p2.alloc (.cells #[.int .i64 2,.int .i64 0,.slice (some ⟨pb2,0,none⟩) 1 1,.slice none 0 0,.slice none 0 0,.slice none 0 0] 29))):=hid ((zp _ _).alloc (zl _) _)
 go_wp2_with fail
 refine(structure_one (p2.alloc (.cells #[.int .i64 2,.int .i64 0,.slice (some ⟨pb2,0,none⟩) 1 1,.slice none 0 0,.slice none 0 0,.slice none 0 0] 29)) p2.heap.size 2 0 (some ⟨pb2,0,none⟩) none none none 1 0 0 0 1 0 0 0 (Blk.new p2 29 [.int .i64 2,.int .i64 0,.slice (some ⟨pb2,0,none⟩) 1 1,.slice none 0 0,.slice none 0 0,.slice none 0 0]).cells).mono ?_;rintro e s2 ⟨y2,rfl,HS2⟩;have HB2:=hid (HP2.out.trans ((HA2.out.trans (HS2.out.2.2.mono HA2.out.size)).mono HP2.out.size));have HT2:=hid (tyC_st HS2.out.1 HS2.out.2.1 (HI2.out.keep (qac.below (HA2.out.trans (HS2.out.2.2.mono HA2.out.size)))))
 go_wp2_with fail
 refine(HG.out _ s2 HB2.out HAs.out HT2.out).mono ?_;rintro e w6 ⟨x6,rfl,H6⟩;have HB6:=hid (HB2.out.trans (H6.out.2.mono HB2.out.size))
 go_wp2_with fail
 obtain⟨b1,hb1⟩:∃ b1,b1=w6.heap.size:=⟨_,rfl⟩;refine wpI_region (fun W=>Below w.heap.size w W∧Blk W b1 35 [.int .i64 o1,.bool m1,.slice x6.1 ix1.length x6.2,.bool i1]) (by kernel_rfl) ?_;have HID:Hid (Below w.heap.size w (w6.alloc (.cells #[.int .i64 o1,.bool m1,.slice x6.1 ix1.length x6.2,.bool i1] 35)).drew∧Blk (w6.alloc (.cells #[.int .i64 o1,.bool m1,.slice x6.1 ix1.length x6.2,.bool i1] 35)).drew b1 35 [.int .i64 o1,.bool m1,.slice x6.1 ix1.length x6.2,.bool i1]):=hid (by rw[hb1];exact⟨(HB6.out.alloc HB6.out.size _).drew,(Blk.new w6 35 [.int .i64 o1,.bool m1,.slice x6.1 ix1.length x6.2,.bool i1]).drew⟩);have HRD:Hid (((w6.alloc (.cells #[.int .i64 o1,.bool m1,.slice x6.1 ix1.length x6.2,.bool i1] 35)).drew).ownsRow 0 3 1 (.slice x6.1 ix1.length x6.2) ix1.length (qbh ix1)):=hid (qab (S:=fun _=>False) H6.out.1 (qag.keep ((zp w6.heap.size w6).alloc (zl _) (.cells #[.int .i64 o1,.bool m1,.slice x6.1 ix1.length x6.2,.bool i1] 35)).drew) fun _ _ h=>h)
 generalize (w6.alloc (.cells #[.int .i64 o1,.bool m1,.slice x6.1 ix1.length x6.2,.bool i1] 35)).drew=wD at HID HRD ⊢
 rw[← hb1];clear hb1 H6;by_cases h8:m=8
 ·have HC2:Hid (o2=o1∧m2=m1∧i2=i1∧ix1=if ix2=[] then [] else 0::ix2):=hid (HC.out.elim (fun h=>absurd h8 h.1) fun h=>h.2);subst h8;refine' wpI_take (i:=0) (v:=_) rfl (by kernel_rfl) (by kernel_rfl) (by kernel_rfl) (fun _ _ _ h=>h) (Or.inl ⟨by rfl,_⟩) _
  rotate_left
  ·(intro wq hq;have hkq:=qac.below hq.1;have e0q:=hkq _ _ e0;have a0:=hq.2.cell 0;have a1:=hq.2.cell 1;have a2:=hq.2.cell 2;have a3:=hq.2.cell 3;(simp only[zu,zt] at a0 a1 a2 a3);go_simp;first|done|with_reducible rfl)
  (try simp only[Act.put,zk,zh,zi,ze,zm,zn])
  refine' wpI_take (i:=1) (v:=_) rfl (by kernel_rfl) (by kernel_rfl) (by kernel_rfl) (fun _ _ _ h=>h) (Or.inl ⟨by rfl,_⟩) _
  rotate_left
  ·(intro wq hq;have hkq:=qac.below hq.1;have e0q:=hkq _ _ e0;have a0:=hq.2.cell 0;have a1:=hq.2.cell 1;have a2:=hq.2.cell 2;have a3:=hq.2.cell 3;(simp only[zu,zt] at a0 a1 a2 a3);go_simp;first|done|with_reducible rfl)
  (try simp only[Act.put,zk,zh,zi,ze,zm,zn])
  refine' wpI_take (i:=2) (v:=_) rfl (by kernel_rfl) (by kernel_rfl) (by kernel_rfl) (fun _ _ _ h=>h) (Or.inl ⟨by rfl,_⟩) _
  rotate_left
  ·(intro wq hq;have hkq:=qac.below hq.1;have e0q:=hkq _ _ e0;have a0:=hq.2.cell 0;have a1:=hq.2.cell 1;have a2:=hq.2.cell 2;have a3:=hq.2.cell 3;(simp only[zu,zt] at a0 a1 a2 a3);go_simp;first|done|with_reducible rfl)
  (try simp only[Act.put,zk,zh,zi,ze,zm,zn])
  refine wpI_take (i:=3) (v:=undef) rfl (by kernel_rfl) (by kernel_rfl) (by kernel_rfl) (fun _ _ _ h=>h) (Or.inr ⟨by rfl,rfl⟩) ?_
  (try simp only[Act.put,zk,zh,zi,ze,zm,zn])
  refine wpI_take (i:=4) (v:=undef) rfl (by kernel_rfl) (by kernel_rfl) (by kernel_rfl) (fun _ _ _ h=>h) (Or.inr ⟨by rfl,rfl⟩) ?_
  (try simp only[Act.put,zk,zh,zi,ze,zm,zn])
  refine wpI_take (i:=5) (v:=undef) rfl (by kernel_rfl) (by kernel_rfl) (by kernel_rfl) (fun _ _ _ h=>h) (Or.inr ⟨by rfl,rfl⟩) ?_
  (try simp only[Act.put,zk,zh,zi,ze,zm,zn])
  refine wpI_take (i:=6) (v:=undef) rfl (by kernel_rfl) (by kernel_rfl) (by kernel_rfl) (fun _ _ _ h=>h) (Or.inr ⟨by rfl,rfl⟩) ?_
  (try simp only[Act.put,zk,zh,zi,ze,zm,zn])
  refine wpI_take (i:=7) (v:=undef) rfl (by kernel_rfl) (by kernel_rfl) (by kernel_rfl) (fun _ _ _ h=>h) (Or.inr ⟨by rfl,rfl⟩) ?_
  (try simp only[Act.put,zk,zh,zi,ze,zm,zn])
  refine wpI_take (i:=8) (v:=undef) rfl (by kernel_rfl) (by kernel_rfl) (by kernel_rfl) (fun _ _ _ h=>h) (Or.inr ⟨by rfl,rfl⟩) ?_
  (try simp only[Act.put,zk,zh,zi,ze,zm,zn])
  refine wpI_take (i:=9) (v:=undef) rfl (by kernel_rfl) (by kernel_rfl) (by kernel_rfl) (fun _ _ _ h=>h) (Or.inr ⟨by rfl,rfl⟩) ?_
  (try simp only[Act.put,zk,zh,zi,ze,zm,zn])
  refine wpI_take (i:=10) (v:=undef) rfl (by kernel_rfl) (by kernel_rfl) (by kernel_rfl) (fun _ _ _ h=>h) (Or.inr ⟨by rfl,rfl⟩) ?_
  (try simp only[Act.put,zk,zh,zi,ze,zm,zn])
  refine wpI_take (i:=11) (v:=undef) rfl (by kernel_rfl) (by kernel_rfl) (by kernel_rfl) (fun _ _ _ h=>h) (Or.inr ⟨by rfl,rfl⟩) ?_
  (try simp only[Act.put,zk,zh,zi,ze,zm,zn])
  refine wpI_take (i:=12) (v:=undef) rfl (by kernel_rfl) (by kernel_rfl) (by kernel_rfl) (fun _ _ _ h=>h) (Or.inr ⟨by rfl,rfl⟩) ?_
  (try simp only[Act.put,zk,zh,zi,ze,zm,zn])
  refine' wpI_take (i:=13) (v:=_) rfl (by kernel_rfl) (by kernel_rfl) (by kernel_rfl) (fun _ _ _ h=>h) (Or.inl ⟨by rfl,_⟩) _
  rotate_left
  ·(intro wq hq;have hkq:=qac.below hq.1;have e0q:=hkq _ _ e0;have a0:=hq.2.cell 0;have a1:=hq.2.cell 1;have a2:=hq.2.cell 2;have a3:=hq.2.cell 3;(simp only[zu,zt] at a0 a1 a2 a3);go_simp;first|done|with_reducible rfl)
  (try simp only[Act.put,zk,zh,zi,ze,zm,zn])
  refine wpI_done (by kernel_rfl) HID.out ?_ _;have HIE:=HID;have HRE:=HRD;clear HID HRD;clear e0
  go_wp2_with fail
  refine(named_any _ _).mono ?_;rintro e n3 ⟨rfl,hbn⟩;have HN3:=hid (HIE.out.1.trans (hbn.mono HIE.out.1.size));have HNr3:=hid hbn;clear hbn
  go_wp2_with fail
  refine(pointer_any _ _ _ _ _ _ _).mono ?_;rintro e p3 ⟨pb3,rfl,hcp,hbp⟩;have HP3:=hid (HN3.out.trans (hbp.mono HN3.out.size));have HI3:Hid (TyC p3 (ptrT (ndT k)) [.int .i64 2,.int .i64 0,.slice (some ⟨pb3,0,none⟩) 1 1,.slice none 0 0,.slice none 0 0,.slice none 0 0]):=hid (tyC_ptr hcp (tyC_nd Hk.out));have HPr3:=hid (HNr3.out.trans (hbp.mono HNr3.out.size));clear hbp hcp
  go_wp2_with fail
  refine(HV.out _ p3 HP3.out HAs.out HI3.out).mono ?_;rintro e w9 ⟨x9,rfl,H9⟩;have HE9:=hid (HIE.out.2.keep (HPr3.out.trans (H9.out.2.mono HPr3.out.size)));have HR9:=hid (qab (S:=fun _=>False) HRE.out (qag.keep (HPr3.out.trans (H9.out.2.mono HPr3.out.size))) fun _ _ h=>h);have HB9:=hid (HP3.out.trans (H9.out.2.mono HP3.out.size));have HA9:Hid (Below w9.heap.size w9 (w9.alloc (.cells #[.int .i64 o2,.bool m2,.slice x9.1 ix2.length x9.2,.bool i2] 35))):=hid ((zp _ _).alloc (zl _) _);have hlt9:=HE9.out.lt;have hne9:b1≠w9.heap.size:=by omega
  obtain⟨ab,hab⟩:∃ ab,ab=(decide (o2<0)&&!m2&&!i2&&decide (0<ix2.length)):=⟨_,rfl⟩;have Hab:=hid hab;have HAm:=hid fun w'=>ambiguous_any o2 m2 i2 ix2.length x9.2 x9.1 w';rw[← hab] at HAm;clear hab
  go_wp2_with fail
  refine(HAm.out _).mono ?_;rintro e w10 ⟨rfl,hb10⟩;have H10:=hid (HA9.out.trans (hb10.mono HA9.out.size));have HF10:=hid ((Blk.new w9 35 [.int .i64 o2,.bool m2,.slice x9.1 ix2.length x9.2,.bool i2]).keep hb10);have HE10:=hid (HE9.out.keep H10.out);have HB10:=hid (HB9.out.trans (H10.out.mono HB9.out.size));have HR10:=hid (qab (S:=fun _=>False) HR9.out (qag.keep H10.out) fun _ _ h=>h);have HQ10:=hid (qab (S:=fun _=>False) H9.out.1 (qag.keep H10.out) fun _ _ h=>h);clear hb10 HE9 HR9 H9 HA9 H10 HIE HRE;obtain⟨b2,hb2⟩:∃ b2,b2=w9.heap.size:=⟨_,rfl⟩;rw[← hb2] at HF10 hne9 ⊢;clear hb2;obtain⟨q1,q2,q3,q4⟩:=HC2.out;subst q1 q2 q3;have Hq4:=hid q4;clear q4 HC2 HC;cases ab with
  | true=>
   have hab:=Hab.out.symm;simp only[Bool.and_eq_true,Bool.not_eq_true',decide_eq_true_eq] at hab;obtain⟨⟨⟨g1,g2⟩,g3⟩,g4⟩:=hab;subst g2 g3;have hx:ix2≠[]:=fun e=>by rw[e] at g4;simp at g4
   have q4:=Hq4.out;rw[if_neg hx] at q4;subst q4;have hg1:(decide (o2<0)&&!false&&!false&&decide (0<(0::ix2).length))=true:=by simp[g1]
   have HAm2:=hid fun w'=>ambiguous_any o2 false false (0::ix2).length x6.2 x6.1 w';rw[hg1] at HAm2;clear hx g1 g4 hg1 Hq4 Hab HAm;refine(qqi HR10.out (k:=0) (by simp)).elim fun gb hg => ?_;have eg:=hg.1;have Hg:=hid hg.2;clear hg;have hlen2:=Hi2.out;obtain⟨L2,hL2⟩:∃ L2,L2=ix2.length:=⟨_,rfl⟩;obtain⟨L1,hL1⟩:∃ L1,L1=(0::ix2).length:=⟨_,rfl⟩;have hwr:IntKind.i64.wrap ((L2:Int)+1)=(L1:Int):=by rw[hL1,hL2,qni _ (by omega) (by omega)];simp
   have hp1:(0:Int)<(L1:Int):=by rw[hL1];simp only[List.length_cons];omega
   have hp2:0<L1:=by rw[hL1];simp
   rw[← hL1] at HE10 HAm2 ⊢;rw[← hL2] at HF10 ⊢;clear hL1 hL2 hlen2;rw[eg] at HE10 HAm2;have e0:=HE10.out.cell 0;have e1:=HE10.out.cell 1;have e2:=HE10.out.cell 2;have e3:=HE10.out.cell 3;simp only[zu,zt] at e0 e1 e2 e3
   go_wp2_with fail
   refine(HAm2.out _).mono ?_;rintro e w11 ⟨rfl,hb11⟩;have HE11:=hid (HE10.out.keep hb11);have HF11:=hid (HF10.out.keep hb11);have HB11:=hid (HB10.out.trans (hb11.mono HB10.out.size));have c0:=Hg.out w11 hb11;simp only[List.getD_cons_zero] at c0;clear hb11 e0 e1 e2 e3;have e0:=HE11.out.cell 0;have e1:=HE11.out.cell 1;have e2:=HE11.out.cell 2;have e3:=HE11.out.cell 3;have f0:=HF11.out.cell 0;have f1:=HF11.out.cell 1;have f2:=HF11.out.cell 2;have f3:=HF11.out.cell 3;simp only[zu,zt] at e0 e1 e2 e3 f0 f1 f2 f3
   go_wp2_with fail
   go_ret
   exact⟨rfl,HB11.out⟩
  | false=>
   clear Hab HAm
   go_wp2_with fail
   refine wpI_region (fun W=>Below w.heap.size w W∧Blk W b1 35 [.int .i64 o2,.bool m2,.slice x6.1 ix1.length x6.2,.bool i2]∧Blk W b2 35 [.int .i64 o2,.bool m2,.slice x9.1 ix2.length x9.2,.bool i2]) (by kernel_rfl) ?_;have HJ:Hid (Below w.heap.size w w10.drew∧Blk w10.drew b1 35 [.int .i64 o2,.bool m2,.slice x6.1 ix1.length x6.2,.bool i2]∧Blk w10.drew b2 35 [.int .i64 o2,.bool m2,.slice x9.1 ix2.length x9.2,.bool i2]):=hid ⟨HB10.out.drew,HE10.out.drew,HF10.out.drew⟩;have HRd:=hid (qab (S:=fun _=>False) HR10.out (qag.keep (zp w10.heap.size w10).drew) fun _ _ h=>h);have HQd:=hid (qab (S:=fun _=>False) HQ10.out (qag.keep (zp w10.heap.size w10).drew) fun _ _ h=>h)
   generalize w10.drew=wX at HJ HRd HQd ⊢
   refine wpI_one (i:=0) (by kernel_rfl) rfl HJ.out (by rfl) (fun K hK => ?_);go_simp
   go_at_call 16
   refine(HWk.out _ HJ.out.1).mono ?_;rintro e w12 ⟨rfl,hb12⟩;have HJ2:Hid (Below w.heap.size w w12∧Blk w12 b1 35 [.int .i64 o2,.bool m2,.slice x6.1 ix1.length x6.2,.bool i2]∧Blk w12 b2 35 [.int .i64 o2,.bool m2,.slice x9.1 ix2.length x9.2,.bool i2]):=hid ⟨HJ.out.1.trans (hb12.mono HJ.out.1.size),HJ.out.2.1.keep hb12,HJ.out.2.2.keep hb12⟩;have HR12:=hid (qab (S:=fun _=>False) HRd.out (qag.keep hb12) fun _ _ h=>h);have HQ12:=hid (qab (S:=fun _=>False) HQd.out (qag.keep hb12) fun _ _ h=>h);clear hb12;refine hK _ _ ?_;clear hK K
   (try simp only[Act.put,zk,zh,zi,ze,zm,zn])
   refine' wpI_take (i:=1) (v:=_) rfl (by kernel_rfl) (by kernel_rfl) (by kernel_rfl) (fun _ _ _ h=>h) (Or.inl ⟨by rfl,_⟩) _
   rotate_left
   ·(intro wq hq;have a0:=hq.2.1.cell 0;have a1:=hq.2.1.cell 1;have a2:=hq.2.1.cell 2;have a3:=hq.2.1.cell 3;have b0:=hq.2.2.cell 0;have b1:=hq.2.2.cell 1;have b2:=hq.2.2.cell 2;have b3:=hq.2.2.cell 3;(simp only[zu,zt] at a0 a1 a2 a3 b0 b1 b2 b3);go_simp;first|done|with_reducible rfl)
   (try simp only[Act.put,zk,zh,zi,ze,zm,zn])
   refine' wpI_take (i:=2) (v:=_) rfl (by kernel_rfl) (by kernel_rfl) (by kernel_rfl) (fun _ _ _ h=>h) (Or.inl ⟨by rfl,_⟩) _
   rotate_left
   ·(intro wq hq;have a0:=hq.2.1.cell 0;have a1:=hq.2.1.cell 1;have a2:=hq.2.1.cell 2;have a3:=hq.2.1.cell 3;have b0:=hq.2.2.cell 0;have b1:=hq.2.2.cell 1;have b2:=hq.2.2.cell 2;have b3:=hq.2.2.cell 3;(simp only[zu,zt] at a0 a1 a2 a3 b0 b1 b2 b3);go_simp;first|done|with_reducible rfl)
   (try simp only[Act.put,zk,zh,zi,ze,zm,zn])
   refine' wpI_take (i:=3) (v:=_) rfl (by kernel_rfl) (by kernel_rfl) (by kernel_rfl) (fun _ _ _ h=>h) (Or.inl ⟨by rfl,_⟩) _
   rotate_left
   ·(intro wq hq;have a0:=hq.2.1.cell 0;have a1:=hq.2.1.cell 1;have a2:=hq.2.1.cell 2;have a3:=hq.2.1.cell 3;have b0:=hq.2.2.cell 0;have b1:=hq.2.2.cell 1;have b2:=hq.2.2.cell 2;have b3:=hq.2.2.cell 3;(simp only[zu,zt] at a0 a1 a2 a3 b0 b1 b2 b3);go_simp;first|done|with_reducible rfl)
   (try simp only[Act.put,zk,zh,zi,ze,zm,zn])
   refine wpI_one (i:=4) (by kernel_rfl) rfl HJ2.out (by rfl) (fun K hK => ?_);go_simp
   go_at_call 17
   refine(behind_any 0 o2 m2 i2 ix2 Hi2.out x9.1 x9.2 w12 HQ12.out).mono ?_;rw[← Hq4.out];rintro e w13 ⟨x13,rfl,H13⟩;have HJ3:Hid (Below w.heap.size w w13∧Blk w13 b1 35 [.int .i64 o2,.bool m2,.slice x6.1 ix1.length x6.2,.bool i2]∧Blk w13 b2 35 [.int .i64 o2,.bool m2,.slice x9.1 ix2.length x9.2,.bool i2]):=hid ⟨HJ2.out.1.trans (H13.out.2.mono HJ2.out.1.size),HJ2.out.2.1.keep H13.out.2,HJ2.out.2.2.keep H13.out.2⟩;have HR13:=hid (qab (S:=fun _=>False) HR12.out (qag.keep H13.out.2) fun _ _ h=>h);refine hK _ _ ?_;clear hK K
   (try simp only[Act.put,zk,zh,zi,ze,zm,zn])
   refine wpI_one (i:=5) (by kernel_rfl) rfl HJ3.out (by rfl) (fun K hK => ?_);go_simp
   go_at_call 12
   refine(HSm.out o2 m2 i2 ix1 x6.1 x13.1 x6.2 x13.2 w13 Hi1.out HR13.out H13.out.1).mono ?_;rintro e w14 ⟨rfl,hb14⟩;have HJ4:Hid (Below w.heap.size w w14∧Blk w14 b1 35 [.int .i64 o2,.bool m2,.slice x6.1 ix1.length x6.2,.bool i2]∧Blk w14 b2 35 [.int .i64 o2,.bool m2,.slice x9.1 ix2.length x9.2,.bool i2]):=hid ⟨HJ3.out.1.trans (hb14.mono HJ3.out.1.size),HJ3.out.2.1.keep hb14,HJ3.out.2.2.keep hb14⟩;clear hb14;refine hK _ _ ?_;clear hK K
   (try simp only[Act.put,zk,zh,zi,ze,zm,zn])
   refine' wpI_take (i:=6) (v:=_) rfl (by kernel_rfl) (by kernel_rfl) (by kernel_rfl) (fun _ _ _ h=>h) (Or.inl ⟨by rfl,_⟩) _
   rotate_left
   ·(intro wq hq;have a0:=hq.2.1.cell 0;have a1:=hq.2.1.cell 1;have a2:=hq.2.1.cell 2;have a3:=hq.2.1.cell 3;have b0:=hq.2.2.cell 0;have b1:=hq.2.2.cell 1;have b2:=hq.2.2.cell 2;have b3:=hq.2.2.cell 3;(simp only[zu,zt] at a0 a1 a2 a3 b0 b1 b2 b3);go_simp;first|done|with_reducible rfl)
   (try simp only[Act.put,zk,zh,zi,ze,zm,zn])
   refine' wpI_take (i:=7) (v:=_) rfl (by kernel_rfl) (by kernel_rfl) (by kernel_rfl) (fun _ _ _ h=>h) (Or.inl ⟨by rfl,_⟩) _
   rotate_left
   ·(intro wq hq;have a0:=hq.2.1.cell 0;have a1:=hq.2.1.cell 1;have a2:=hq.2.1.cell 2;have a3:=hq.2.1.cell 3;have b0:=hq.2.2.cell 0;have b1:=hq.2.2.cell 1;have b2:=hq.2.2.cell 2;have b3:=hq.2.2.cell 3;(simp only[zu,zt] at a0 a1 a2 a3 b0 b1 b2 b3);go_simp;first|done|with_reducible rfl)
   (try simp only[Act.put,zk,zh,zi,ze,zm,zn])
   refine wpI_done (by kernel_rfl) HJ4.out ?_ _
   go_wp2_with fail
   go_ret
   exact⟨rfl,HJ4.out.1⟩
 refine' wpI_take (i:=0) (v:=_) rfl (by kernel_rfl) (by kernel_rfl) (by kernel_rfl) (fun _ _ _ h=>h) (Or.inl ⟨by rfl,_⟩) _
 rotate_left
 ·(intro wq hq;have hkq:=qac.below hq.1;have e0q:=hkq _ _ e0;have a0:=hq.2.cell 0;have a1:=hq.2.cell 1;have a2:=hq.2.cell 2;have a3:=hq.2.cell 3;(simp only[zu,zt] at a0 a1 a2 a3);go_simp;first|done|with_reducible rfl)
 (try simp only[Act.put,zk,zh,zi,ze,zm,zn])
 refine' wpI_take (i:=1) (v := .bool true) rfl (by kernel_rfl) (by kernel_rfl) (by kernel_rfl) (fun _ _ _ h=>h) (Or.inl ⟨by rfl,_⟩) _
 ·(intro wq hq;go_simp;first|done|with_reducible rfl|simp[h8])
 (try simp only[Act.put,zk,zh,zi,ze,zm,zn])
 refine' wpI_take (i:=2) (v:=_) rfl (by kernel_rfl) (by kernel_rfl) (by kernel_rfl) (fun _ _ _ h=>h) (Or.inl ⟨by rfl,_⟩) _
 rotate_left
 ·(intro wq hq;have hkq:=qac.below hq.1;have e0q:=hkq _ _ e0;have a0:=hq.2.cell 0;have a1:=hq.2.cell 1;have a2:=hq.2.cell 2;have a3:=hq.2.cell 3;(simp only[zu,zt] at a0 a1 a2 a3);go_simp;first|done|with_reducible rfl)
 (try simp only[Act.put,zk,zh,zi,ze,zm,zn])
 refine' wpI_take (i:=3) (v:=_) rfl (by kernel_rfl) (by kernel_rfl) (by kernel_rfl) (fun _ _ _ h=>h) (Or.inl ⟨by rfl,_⟩) _
 rotate_left
 ·(intro wq hq;have hkq:=qac.below hq.1;have e0q:=hkq _ _ e0;have a0:=hq.2.cell 0;have a1:=hq.2.cell 1;have a2:=hq.2.cell 2;have a3:=hq.2.cell 3;(simp only[zu,zt] at a0 a1 a2 a3);go_simp;first|done|with_reducible rfl)
 (try simp only[Act.put,zk,zh,zi,ze,zm,zn])
 refine' wpI_take (i:=4) (v:=_) rfl (by kernel_rfl) (by kernel_rfl) (by kernel_rfl) (fun _ _ _ h=>h) (Or.inl ⟨by rfl,_⟩) _
 rotate_left
 ·(intro wq hq;have hkq:=qac.below hq.1;have e0q:=hkq _ _ e0;have a0:=hq.2.cell 0;have a1:=hq.2.cell 1;have a2:=hq.2.cell 2;have a3:=hq.2.cell 3;(simp only[zu,zt] at a0 a1 a2 a3);go_simp;first|done|with_reducible rfl)
 (try simp only[Act.put,zk,zh,zi,ze,zm,zn])
 refine' wpI_take (i:=6) (v:=_) rfl (by kernel_rfl) (by kernel_rfl) (by kernel_rfl) (fun _ _ _ h=>h) (Or.inl ⟨by rfl,_⟩) _
 rotate_left
 ·(intro wq hq;have hkq:=qac.below hq.1;have e0q:=hkq _ _ e0;have a0:=hq.2.cell 0;have a1:=hq.2.cell 1;have a2:=hq.2.cell 2;have a3:=hq.2.cell 3;(simp only[zu,zt] at a0 a1 a2 a3);go_simp;first|done|with_reducible rfl)
 (try simp only[Act.put,zk,zh,zi,ze,zm,zn])
 refine' wpI_take (i:=7) (v:=_) rfl (by kernel_rfl) (by kernel_rfl) (by kernel_rfl) (fun _ _ _ h=>h) (Or.inl ⟨by rfl,_⟩) _
 rotate_left
 ·(intro wq hq;have hkq:=qac.below hq.1;have e0q:=hkq _ _ e0;have a0:=hq.2.cell 0;have a1:=hq.2.cell 1;have a2:=hq.2.cell 2;have a3:=hq.2.cell 3;(simp only[zu,zt] at a0 a1 a2 a3);go_simp;first|done|with_reducible rfl)
 (try simp only[Act.put,zk,zh,zi,ze,zm,zn])
 refine' wpI_take (i:=8) (v:=_) rfl (by kernel_rfl) (by kernel_rfl) (by kernel_rfl) (fun _ _ _ h=>h) (Or.inl ⟨by rfl,_⟩) _
 rotate_left
 ·(intro wq hq;have hkq:=qac.below hq.1;have e0q:=hkq _ _ e0;have a0:=hq.2.cell 0;have a1:=hq.2.cell 1;have a2:=hq.2.cell 2;have a3:=hq.2.cell 3;(simp only[zu,zt] at a0 a1 a2 a3);go_simp;first|done|with_reducible rfl)
 (try simp only[Act.put,zk,zh,zi,ze,zm,zn])
 refine' wpI_take (i:=9) (v:=_) rfl (by kernel_rfl) (by kernel_rfl) (by kernel_rfl) (fun _ _ _ h=>h) (Or.inl ⟨by rfl,_⟩) _
 rotate_left
 ·(intro wq hq;have hkq:=qac.below hq.1;have e0q:=hkq _ _ e0;have a0:=hq.2.cell 0;have a1:=hq.2.cell 1;have a2:=hq.2.cell 2;have a3:=hq.2.cell 3;(simp only[zu,zt] at a0 a1 a2 a3);go_simp;first|done|with_reducible rfl)
 (try simp only[Act.put,zk,zh,zi,ze,zm,zn])
 refine' wpI_take (i:=10) (v:=_) rfl (by kernel_rfl) (by kernel_rfl) (by kernel_rfl) (fun _ _ _ h=>h) (Or.inl ⟨by rfl,_⟩) _
 rotate_left
 ·(intro wq hq;have hkq:=qac.below hq.1;have e0q:=hkq _ _ e0;have a0:=hq.2.cell 0;have a1:=hq.2.cell 1;have a2:=hq.2.cell 2;have a3:=hq.2.cell 3;(simp only[zu,zt] at a0 a1 a2 a3);go_simp;first|done|with_reducible rfl)
 (try simp only[Act.put,zk,zh,zi,ze,zm,zn])
 refine wpI_one (i:=5) (by kernel_rfl) rfl HID.out (by rfl) (fun K hK => ?_);go_simp
 go_at_call 11
 refine(qqn p m _ Hm.out Hp.out).mono ?_;rintro e w7 ⟨rfl,hb7⟩;have HI7:Hid (Below w.heap.size w w7∧Blk w7 b1 35 [.int .i64 o1,.bool m1,.slice x6.1 ix1.length x6.2,.bool i1]):=hid ⟨HID.out.1.trans (hb7.mono HID.out.1.size),HID.out.2.keep hb7⟩;have HR7:=hid (qab (S:=fun _=>False) HRD.out (qag.keep hb7) fun _ _ h=>h);clear hb7;refine hK _ _ ?_;clear hK K
 (try simp only[Act.put,zk,zh,zi,ze,zm,zn])
 refine wpI_one (i:=11) (by kernel_rfl) rfl HI7.out (by rfl) (fun K hK => ?_);go_simp
 go_at_call 11
 refine(qqn 0 nm _ Hnm.out (.inl rfl)).mono ?_;rintro e w8 ⟨rfl,hb8⟩;have HIE:Hid (Below w.heap.size w w8∧Blk w8 b1 35 [.int .i64 o1,.bool m1,.slice x6.1 ix1.length x6.2,.bool i1]):=hid ⟨HI7.out.1.trans (hb8.mono HI7.out.1.size),HI7.out.2.keep hb8⟩;have HRE:=hid (qab (S:=fun _=>False) HR7.out (qag.keep hb8) fun _ _ h=>h);clear hb8 HI7 HR7 HID HRD;refine hK _ _ ?_;clear hK K
 (try simp only[Act.put,zk,zh,zi,ze,zm,zn])
 cases hsm:qbp 0 nm p m with
 | false=>
  have HC2:Hid (o2=o1∧m2=m1∧i2=i1∧ix1=if ix2=[] then [] else 0::ix2):=hid (HC.out.elim (fun h=>by rw[hsm] at h;cases h.2.1) fun h=>h.2);have hst:¬ (idS p m).toList=(idS 0 nm).toList:=idS_toL Hp.out (.inl rfl) Hm.out Hnm.out hsm;clear hsm;refine' wpI_take (i:=12) (v := .bool false) rfl (by kernel_rfl) (by kernel_rfl) (by kernel_rfl) (fun _ _ _ h=>h) (Or.inl ⟨by rfl,_⟩) _
  ·(intro wq hq;go_simp;first|done|with_reducible rfl|simp[hst])
  (try simp only[Act.put,zk,zh,zi,ze,zm,zn])
  refine' wpI_take (i:=13) (v:=_) rfl (by kernel_rfl) (by kernel_rfl) (by kernel_rfl) (fun _ _ _ h=>h) (Or.inl ⟨by rfl,_⟩) _
  rotate_left
  ·(intro wq hq;have hkq:=qac.below hq.1;have e0q:=hkq _ _ e0;have a0:=hq.2.cell 0;have a1:=hq.2.cell 1;have a2:=hq.2.cell 2;have a3:=hq.2.cell 3;(simp only[zu,zt] at a0 a1 a2 a3);go_simp;first|done|with_reducible rfl)
  (try simp only[Act.put,zk,zh,zi,ze,zm,zn])
  refine wpI_done (by kernel_rfl) HIE.out ?_ _;clear e0
  go_wp2_with fail
  refine(named_any _ _).mono ?_;rintro e n3 ⟨rfl,hbn⟩;have HN3:=hid (HIE.out.1.trans (hbn.mono HIE.out.1.size));have HNr3:=hid hbn;clear hbn
  go_wp2_with fail
  refine(pointer_any _ _ _ _ _ _ _).mono ?_;rintro e p3 ⟨pb3,rfl,hcp,hbp⟩;have HP3:=hid (HN3.out.trans (hbp.mono HN3.out.size));have HI3:Hid (TyC p3 (ptrT (ndT k)) [.int .i64 2,.int .i64 0,.slice (some ⟨pb3,0,none⟩) 1 1,.slice none 0 0,.slice none 0 0,.slice none 0 0]):=hid (tyC_ptr hcp (tyC_nd Hk.out));have HPr3:=hid (HNr3.out.trans (hbp.mono HNr3.out.size));clear hbp hcp
  go_wp2_with fail
  refine(HV.out _ p3 HP3.out HAs.out HI3.out).mono ?_;rintro e w9 ⟨x9,rfl,H9⟩;have HE9:=hid (HIE.out.2.keep (HPr3.out.trans (H9.out.2.mono HPr3.out.size)));have HR9:=hid (qab (S:=fun _=>False) HRE.out (qag.keep (HPr3.out.trans (H9.out.2.mono HPr3.out.size))) fun _ _ h=>h);have HB9:=hid (HP3.out.trans (H9.out.2.mono HP3.out.size));have HA9:Hid (Below w9.heap.size w9 (w9.alloc (.cells #[.int .i64 o2,.bool m2,.slice x9.1 ix2.length x9.2,.bool i2] 35))):=hid ((zp _ _).alloc (zl _) _);have hlt9:=HE9.out.lt;have hne9:b1≠w9.heap.size:=by omega
  obtain⟨ab,hab⟩:∃ ab,ab=(decide (o2<0)&&!m2&&!i2&&decide (0<ix2.length)):=⟨_,rfl⟩;have Hab:=hid hab;have HAm:=hid fun w'=>ambiguous_any o2 m2 i2 ix2.length x9.2 x9.1 w';rw[← hab] at HAm;clear hab
  go_wp2_with fail
  refine(HAm.out _).mono ?_;rintro e w10 ⟨rfl,hb10⟩;have H10:=hid (HA9.out.trans (hb10.mono HA9.out.size));have HF10:=hid ((Blk.new w9 35 [.int .i64 o2,.bool m2,.slice x9.1 ix2.length x9.2,.bool i2]).keep hb10);have HE10:=hid (HE9.out.keep H10.out);have HB10:=hid (HB9.out.trans (H10.out.mono HB9.out.size));have HR10:=hid (qab (S:=fun _=>False) HR9.out (qag.keep H10.out) fun _ _ h=>h);have HQ10:=hid (qab (S:=fun _=>False) H9.out.1 (qag.keep H10.out) fun _ _ h=>h);clear hb10 HE9 HR9 H9 HA9 H10 HIE HRE;obtain⟨b2,hb2⟩:∃ b2,b2=w9.heap.size:=⟨_,rfl⟩;rw[← hb2] at HF10 hne9 ⊢;clear hb2;obtain⟨q1,q2,q3,q4⟩:=HC2.out;subst q1 q2 q3;have Hq4:=hid q4;clear q4 HC2 HC;cases ab with
  | true=>
   have hab:=Hab.out.symm;simp only[Bool.and_eq_true,Bool.not_eq_true',decide_eq_true_eq] at hab;obtain⟨⟨⟨g1,g2⟩,g3⟩,g4⟩:=hab;subst g2 g3;have hx:ix2≠[]:=fun e=>by rw[e] at g4;simp at g4
   have q4:=Hq4.out;rw[if_neg hx] at q4;subst q4;have hg1:(decide (o2<0)&&!false&&!false&&decide (0<(0::ix2).length))=true:=by simp[g1]
   have HAm2:=hid fun w'=>ambiguous_any o2 false false (0::ix2).length x6.2 x6.1 w';rw[hg1] at HAm2;clear hx g1 g4 hg1 Hq4 Hab HAm;refine(qqi HR10.out (k:=0) (by simp)).elim fun gb hg => ?_;have eg:=hg.1;have Hg:=hid hg.2;clear hg;have hlen2:=Hi2.out;obtain⟨L2,hL2⟩:∃ L2,L2=ix2.length:=⟨_,rfl⟩;obtain⟨L1,hL1⟩:∃ L1,L1=(0::ix2).length:=⟨_,rfl⟩;have hwr:IntKind.i64.wrap ((L2:Int)+1)=(L1:Int):=by rw[hL1,hL2,qni _ (by omega) (by omega)];simp
   have hp1:(0:Int)<(L1:Int):=by rw[hL1];simp only[List.length_cons];omega
   have hp2:0<L1:=by rw[hL1];simp
   rw[← hL1] at HE10 HAm2 ⊢;rw[← hL2] at HF10 ⊢;clear hL1 hL2 hlen2;rw[eg] at HE10 HAm2;have e0:=HE10.out.cell 0;have e1:=HE10.out.cell 1;have e2:=HE10.out.cell 2;have e3:=HE10.out.cell 3;simp only[zu,zt] at e0 e1 e2 e3
   go_wp2_with fail
   refine(HAm2.out _).mono ?_;rintro e w11 ⟨rfl,hb11⟩;have HE11:=hid (HE10.out.keep hb11);have HF11:=hid (HF10.out.keep hb11);have HB11:=hid (HB10.out.trans (hb11.mono HB10.out.size));have c0:=Hg.out w11 hb11;simp only[List.getD_cons_zero] at c0;clear hb11 e0 e1 e2 e3;have e0:=HE11.out.cell 0;have e1:=HE11.out.cell 1;have e2:=HE11.out.cell 2;have e3:=HE11.out.cell 3;have f0:=HF11.out.cell 0;have f1:=HF11.out.cell 1;have f2:=HF11.out.cell 2;have f3:=HF11.out.cell 3;simp only[zu,zt] at e0 e1 e2 e3 f0 f1 f2 f3
   go_wp2_with fail
   go_ret
   exact⟨rfl,HB11.out⟩
  | false=>
   clear Hab HAm
   go_wp2_with fail
   refine wpI_region (fun W=>Below w.heap.size w W∧Blk W b1 35 [.int .i64 o2,.bool m2,.slice x6.1 ix1.length x6.2,.bool i2]∧Blk W b2 35 [.int .i64 o2,.bool m2,.slice x9.1 ix2.length x9.2,.bool i2]) (by kernel_rfl) ?_;have HJ:Hid (Below w.heap.size w w10.drew∧Blk w10.drew b1 35 [.int .i64 o2,.bool m2,.slice x6.1 ix1.length x6.2,.bool i2]∧Blk w10.drew b2 35 [.int .i64 o2,.bool m2,.slice x9.1 ix2.length x9.2,.bool i2]):=hid ⟨HB10.out.drew,HE10.out.drew,HF10.out.drew⟩;have HRd:=hid (qab (S:=fun _=>False) HR10.out (qag.keep (zp w10.heap.size w10).drew) fun _ _ h=>h);have HQd:=hid (qab (S:=fun _=>False) HQ10.out (qag.keep (zp w10.heap.size w10).drew) fun _ _ h=>h)
   generalize w10.drew=wX at HJ HRd HQd ⊢
   refine wpI_one (i:=0) (by kernel_rfl) rfl HJ.out (by rfl) (fun K hK => ?_);go_simp
   go_at_call 16
   refine(HWk.out _ HJ.out.1).mono ?_;rintro e w12 ⟨rfl,hb12⟩;have HJ2:Hid (Below w.heap.size w w12∧Blk w12 b1 35 [.int .i64 o2,.bool m2,.slice x6.1 ix1.length x6.2,.bool i2]∧Blk w12 b2 35 [.int .i64 o2,.bool m2,.slice x9.1 ix2.length x9.2,.bool i2]):=hid ⟨HJ.out.1.trans (hb12.mono HJ.out.1.size),HJ.out.2.1.keep hb12,HJ.out.2.2.keep hb12⟩;have HR12:=hid (qab (S:=fun _=>False) HRd.out (qag.keep hb12) fun _ _ h=>h);have HQ12:=hid (qab (S:=fun _=>False) HQd.out (qag.keep hb12) fun _ _ h=>h);clear hb12;refine hK _ _ ?_;clear hK K
   (try simp only[Act.put,zk,zh,zi,ze,zm,zn])
   refine' wpI_take (i:=1) (v:=_) rfl (by kernel_rfl) (by kernel_rfl) (by kernel_rfl) (fun _ _ _ h=>h) (Or.inl ⟨by rfl,_⟩) _
   rotate_left
   ·(intro wq hq;have a0:=hq.2.1.cell 0;have a1:=hq.2.1.cell 1;have a2:=hq.2.1.cell 2;have a3:=hq.2.1.cell 3;have b0:=hq.2.2.cell 0;have b1:=hq.2.2.cell 1;have b2:=hq.2.2.cell 2;have b3:=hq.2.2.cell 3;(simp only[zu,zt] at a0 a1 a2 a3 b0 b1 b2 b3);go_simp;first|done|with_reducible rfl)
   (try simp only[Act.put,zk,zh,zi,ze,zm,zn])
   refine' wpI_take (i:=2) (v:=_) rfl (by kernel_rfl) (by kernel_rfl) (by kernel_rfl) (fun _ _ _ h=>h) (Or.inl ⟨by rfl,_⟩) _
   rotate_left
   ·(intro wq hq;have a0:=hq.2.1.cell 0;have a1:=hq.2.1.cell 1;have a2:=hq.2.1.cell 2;have a3:=hq.2.1.cell 3;have b0:=hq.2.2.cell 0;have b1:=hq.2.2.cell 1;have b2:=hq.2.2.cell 2;have b3:=hq.2.2.cell 3;(simp only[zu,zt] at a0 a1 a2 a3 b0 b1 b2 b3);go_simp;first|done|with_reducible rfl)
   (try simp only[Act.put,zk,zh,zi,ze,zm,zn])
   refine' wpI_take (i:=3) (v:=_) rfl (by kernel_rfl) (by kernel_rfl) (by kernel_rfl) (fun _ _ _ h=>h) (Or.inl ⟨by rfl,_⟩) _
   rotate_left
   ·(intro wq hq;have a0:=hq.2.1.cell 0;have a1:=hq.2.1.cell 1;have a2:=hq.2.1.cell 2;have a3:=hq.2.1.cell 3;have b0:=hq.2.2.cell 0;have b1:=hq.2.2.cell 1;have b2:=hq.2.2.cell 2;have b3:=hq.2.2.cell 3;(simp only[zu,zt] at a0 a1 a2 a3 b0 b1 b2 b3);go_simp;first|done|with_reducible rfl)
   (try simp only[Act.put,zk,zh,zi,ze,zm,zn])
   refine wpI_one (i:=4) (by kernel_rfl) rfl HJ2.out (by rfl) (fun K hK => ?_);go_simp
   go_at_call 17
   refine(behind_any 0 o2 m2 i2 ix2 Hi2.out x9.1 x9.2 w12 HQ12.out).mono ?_;rw[← Hq4.out];rintro e w13 ⟨x13,rfl,H13⟩;have HJ3:Hid (Below w.heap.size w w13∧Blk w13 b1 35 [.int .i64 o2,.bool m2,.slice x6.1 ix1.length x6.2,.bool i2]∧Blk w13 b2 35 [.int .i64 o2,.bool m2,.slice x9.1 ix2.length x9.2,.bool i2]):=hid ⟨HJ2.out.1.trans (H13.out.2.mono HJ2.out.1.size),HJ2.out.2.1.keep H13.out.2,HJ2.out.2.2.keep H13.out.2⟩;have HR13:=hid (qab (S:=fun _=>False) HR12.out (qag.keep H13.out.2) fun _ _ h=>h);refine hK _ _ ?_;clear hK K
   (try simp only[Act.put,zk,zh,zi,ze,zm,zn])
   refine wpI_one (i:=5) (by kernel_rfl) rfl HJ3.out (by rfl) (fun K hK => ?_);go_simp
   go_at_call 12
   refine(HSm.out o2 m2 i2 ix1 x6.1 x13.1 x6.2 x13.2 w13 Hi1.out HR13.out H13.out.1).mono ?_;rintro e w14 ⟨rfl,hb14⟩;have HJ4:Hid (Below w.heap.size w w14∧Blk w14 b1 35 [.int .i64 o2,.bool m2,.slice x6.1 ix1.length x6.2,.bool i2]∧Blk w14 b2 35 [.int .i64 o2,.bool m2,.slice x9.1 ix2.length x9.2,.bool i2]):=hid ⟨HJ3.out.1.trans (hb14.mono HJ3.out.1.size),HJ3.out.2.1.keep hb14,HJ3.out.2.2.keep hb14⟩;clear hb14;refine hK _ _ ?_;clear hK K
   (try simp only[Act.put,zk,zh,zi,ze,zm,zn])
   refine' wpI_take (i:=6) (v:=_) rfl (by kernel_rfl) (by kernel_rfl) (by kernel_rfl) (fun _ _ _ h=>h) (Or.inl ⟨by rfl,_⟩) _
   rotate_left
   ·(intro wq hq;have a0:=hq.2.1.cell 0;have a1:=hq.2.1.cell 1;have a2:=hq.2.1.cell 2;have a3:=hq.2.1.cell 3;have b0:=hq.2.2.cell 0;have b1:=hq.2.2.cell 1;have b2:=hq.2.2.cell 2;have b3:=hq.2.2.cell 3;(simp only[zu,zt] at a0 a1 a2 a3 b0 b1 b2 b3);go_simp;first|done|with_reducible rfl)
   (try simp only[Act.put,zk,zh,zi,ze,zm,zn])
   refine' wpI_take (i:=7) (v:=_) rfl (by kernel_rfl) (by kernel_rfl) (by kernel_rfl) (fun _ _ _ h=>h) (Or.inl ⟨by rfl,_⟩) _
   rotate_left
   ·(intro wq hq;have a0:=hq.2.1.cell 0;have a1:=hq.2.1.cell 1;have a2:=hq.2.1.cell 2;have a3:=hq.2.1.cell 3;have b0:=hq.2.2.cell 0;have b1:=hq.2.2.cell 1;have b2:=hq.2.2.cell 2;have b3:=hq.2.2.cell 3;(simp only[zu,zt] at a0 a1 a2 a3 b0 b1 b2 b3);go_simp;first|done|with_reducible rfl)
   (try simp only[Act.put,zk,zh,zi,ze,zm,zn])
   refine wpI_done (by kernel_rfl) HJ4.out ?_ _
   go_wp2_with fail
   go_ret
   exact⟨rfl,HJ4.out.1⟩
 | true=>
  have hst:idS p m=idS 0 nm:=((idS_same (.inl rfl) Hp.out Hnm.out Hm.out).2 hsm).symm;obtain⟨-,-,g1,g2,g3,g4⟩:m≠8∧qbp 0 nm p m=true∧o1=st∧m1=false∧ix1=[0]∧i1=false:=HC.out.elim id fun h=>(h.1.elim (fun h=>absurd h h8) fun h=>by rw[hsm] at h;cases h);subst g1 g2 g3 g4;clear hsm;refine' wpI_take (i:=12) (v := .bool true) rfl (by kernel_rfl) (by kernel_rfl) (by kernel_rfl) (fun _ _ _ h=>h) (Or.inl ⟨by rfl,_⟩) _
  ·(intro wq hq;go_simp;first|done|with_reducible rfl|simp[hst])
  (try simp only[Act.put,zk,zh,zi,ze,zm,zn])
  refine' wpI_take (i:=13) (v:=_) rfl (by kernel_rfl) (by kernel_rfl) (by kernel_rfl) (fun _ _ _ h=>h) (Or.inl ⟨by rfl,_⟩) _
  rotate_left
  ·(intro wq hq;have hkq:=qac.below hq.1;have e0q:=hkq _ _ e0;have a0:=hq.2.cell 0;have a1:=hq.2.cell 1;have a2:=hq.2.cell 2;have a3:=hq.2.cell 3;(simp only[zu,zt] at a0 a1 a2 a3);go_simp;first|done|with_reducible rfl)
  (try simp only[Act.put,zk,zh,zi,ze,zm,zn])
  refine wpI_done (by kernel_rfl) HIE.out ?_ _
  go_wp2_with fail
  refine wpI_region (fun W=>Below w.heap.size w W∧Blk W b1 35 [.int .i64 st,.bool false,.slice x6.1 [0].length x6.2,.bool false]) (by kernel_rfl) ?_;have HI0:Hid (Below w.heap.size w w8.drew∧Blk w8.drew b1 35 [.int .i64 st,.bool false,.slice x6.1 [0].length x6.2,.bool false]):=hid ⟨HIE.out.1.drew,HIE.out.2.drew⟩;have HR0:=hid (qab (S:=fun _=>False) HRE.out (qag.keep (zp w8.heap.size w8).drew) fun _ _ h=>h)
  generalize w8.drew=wD at HI0 HR0 ⊢
  clear HIE HRE;refine' wpI_take (i:=0) (v:=_) rfl (by kernel_rfl) (by kernel_rfl) (by kernel_rfl) (fun _ _ _ h=>h) (Or.inl ⟨by rfl,_⟩) _
  rotate_left
  ·(intro wq hq;have hkq:=qac.below hq.1;have e0q:=hkq _ _ e0;have a0:=hq.2.cell 0;have a1:=hq.2.cell 1;have a2:=hq.2.cell 2;have a3:=hq.2.cell 3;(simp only[zu,zt] at a0 a1 a2 a3);go_simp;first|done|with_reducible rfl)
  (try simp only[Act.put,zk,zh,zi,ze,zm,zn])
  refine' wpI_take (i:=1) (v:=_) rfl (by kernel_rfl) (by kernel_rfl) (by kernel_rfl) (fun _ _ _ h=>h) (Or.inl ⟨by rfl,_⟩) _
  rotate_left
  ·(intro wq hq;have hkq:=qac.below hq.1;have e0q:=hkq _ _ e0;have a0:=hq.2.cell 0;have a1:=hq.2.cell 1;have a2:=hq.2.cell 2;have a3:=hq.2.cell 3;(simp only[zu,zt] at a0 a1 a2 a3);go_simp;first|done|with_reducible rfl)
  (try simp only[Act.put,zk,zh,zi,ze,zm,zn])
  refine' wpI_take (i:=3) (v:=_) rfl (by kernel_rfl) (by kernel_rfl) (by kernel_rfl) (fun _ _ _ h=>h) (Or.inl ⟨by rfl,_⟩) _
  rotate_left
  ·(intro wq hq;have hkq:=qac.below hq.1;have e0q:=hkq _ _ e0;have a0:=hq.2.cell 0;have a1:=hq.2.cell 1;have a2:=hq.2.cell 2;have a3:=hq.2.cell 3;(simp only[zu,zt] at a0 a1 a2 a3);go_simp;first|done|with_reducible rfl)
  (try simp only[Act.put,zk,zh,zi,ze,zm,zn])
  refine' wpI_take (i:=4) (v:=_) rfl (by kernel_rfl) (by kernel_rfl) (by kernel_rfl) (fun _ _ _ h=>h) (Or.inl ⟨by rfl,_⟩) _
  rotate_left
  ·(intro wq hq;have hkq:=qac.below hq.1;have e0q:=hkq _ _ e0;have a0:=hq.2.cell 0;have a1:=hq.2.cell 1;have a2:=hq.2.cell 2;have a3:=hq.2.cell 3;(simp only[zu,zt] at a0 a1 a2 a3);go_simp;first|done|with_reducible rfl)
  (try simp only[Act.put,zk,zh,zi,ze,zm,zn])
  refine wpI_two (i:=2) (j:=6) (by kernel_rfl) rfl rfl HI0.out (by rfl) (by rfl) (fun K hK => ?_) (fun K hK => ?_);go_simp
  go_at_call 13
  refine(HWd.out _ HI0.out.1).mono ?_;rintro e wa ⟨aw,cw,rfl,hcw,hwd,hba⟩;have HIa:Hid (Below w.heap.size w wa∧Blk wa b1 35 [.int .i64 st,.bool false,.slice x6.1 [0].length x6.2,.bool false]):=hid ⟨HI0.out.1.trans (hba.mono HI0.out.1.size),HI0.out.2.keep hba⟩;have HRa:=hid (qab (S:=fun _=>False) HR0.out (qag.keep hba) fun _ _ h=>h);refine hK _ _ ?_;clear hK K
  (try simp only[Act.put,zk,zh,zi,ze,zm,zn])
  refine wpI_two (i:=5) (j:=6) (by kernel_rfl) rfl rfl HIa.out (by rfl) (by rfl) (fun K hK => ?_) (fun K hK => ?_);go_simp
  go_at_call 14
  refine(HSt.out aw cw _ hcw (hwd)).mono ?_;rintro e wb ⟨rfl,hbb⟩;have HIb:Hid (Below w.heap.size w wb∧Blk wb b1 35 [.int .i64 st,.bool false,.slice x6.1 [0].length x6.2,.bool false]):=hid ⟨HIa.out.1.trans (hbb.mono HIa.out.1.size),HIa.out.2.keep hbb⟩;have HRb:=hid (qab (S:=fun _=>False) HRa.out (qag.keep hbb) fun _ _ h=>h);refine hK _ _ ?_;clear hK K
  (try simp only[Act.put,zk,zh,zi,ze,zm,zn])
  refine wpI_one (i:=6) (by kernel_rfl) rfl HIb.out (by rfl) (fun K hK => ?_);go_simp;refine hK _ _ ?_;clear hK K
  (try simp only[Act.put,zk,zh,zi,ze,zm,zn])
  have HIz:Hid (Below w.heap.size w (wb.alloc (.cells #[.int .i64 0] 3))∧Blk (wb.alloc (.cells #[.int .i64 0] 3)) b1 35 [.int .i64 st,.bool false,.slice x6.1 [0].length x6.2,.bool false]):=hid ⟨HIb.out.1.trans (((zp wb.heap.size wb).alloc (zl _) (.cells #[.int .i64 0] 3)).mono HIb.out.1.size),HIb.out.2.keep ((zp wb.heap.size wb).alloc (zl _) (.cells #[.int .i64 0] 3))⟩;have HRz:=hid (qab (S:=fun _=>False) HRb.out (qag.keep ((zp wb.heap.size wb).alloc (zl _) (.cells #[.int .i64 0] 3))) fun _ _ h=>h);have HZ:Hid (World.ownsRow (wb.alloc (.cells #[.int .i64 0] 3)) 0 3 1 (.slice (some ⟨wb.heap.size,0,none⟩) 1 1) 1 [.int .i64 0]):=hid (World.ownsRow_lit (base:=0) (size:=1) (e:=3) wb #[.int .i64 0] 1 (Nat.zero_le _) (by decide) rfl)
  generalize wb.alloc (.cells #[.int .i64 0] 3)=wE at HIz HRz HZ ⊢
  generalize wb.heap.size=bE at HZ ⊢
  rotate_left
  go_simp;refine hK _ _ ?_;clear hK K
  (try simp only[Act.put,zk,zh,zi,ze,zm,zn])
  have HIc:Hid (Below w.heap.size w (wa.alloc (.cells #[.int .i64 0] 3))∧Blk (wa.alloc (.cells #[.int .i64 0] 3)) b1 35 [.int .i64 st,.bool false,.slice x6.1 [0].length x6.2,.bool false]):=hid ⟨HIa.out.1.trans (((zp wa.heap.size wa).alloc (zl _) (.cells #[.int .i64 0] 3)).mono HIa.out.1.size),HIa.out.2.keep ((zp wa.heap.size wa).alloc (zl _) (.cells #[.int .i64 0] 3))⟩;have HRc:=hid (qab (S:=fun _=>False) HRa.out (qag.keep ((zp wa.heap.size wa).alloc (zl _) (.cells #[.int .i64 0] 3))) fun _ _ h=>h);have HZ:Hid (World.ownsRow (wa.alloc (.cells #[.int .i64 0] 3)) 0 3 1 (.slice (some ⟨wa.heap.size,0,none⟩) 1 1) 1 [.int .i64 0]):=hid (World.ownsRow_lit (base:=0) (size:=1) (e:=3) wa #[.int .i64 0] 1 (Nat.zero_le _) (by decide) rfl);have hwd2:=HKp.out _ _ _ ((zp wa.heap.size wa).alloc (zl _) (.cells #[.int .i64 0] 3)) hwd
  generalize wa.alloc (.cells #[.int .i64 0] 3)=wc at HIc HRc HZ hwd2 ⊢
  generalize wa.heap.size=bE at HZ ⊢
  refine wpI_one (i:=5) (by kernel_rfl) rfl HIc.out (by rfl) (fun K hK => ?_);go_simp
  go_at_call 14
  refine(HSt.out aw cw _ hcw (hwd2)).mono ?_;rintro e wb ⟨rfl,hbb⟩;have HIb:Hid (Below w.heap.size w wb∧Blk wb b1 35 [.int .i64 st,.bool false,.slice x6.1 [0].length x6.2,.bool false]):=hid ⟨HIc.out.1.trans (hbb.mono HIc.out.1.size),HIc.out.2.keep hbb⟩;have HRb:=hid (qab (S:=fun _=>False) HRc.out (qag.keep hbb) fun _ _ h=>h);refine hK _ _ ?_;clear hK K
  (try simp only[Act.put,zk,zh,zi,ze,zm,zn])
  have HZ:=hid (qab (S:=fun _=>False) HZ.out (qag.keep hbb) fun _ _ h=>h);have HIz:=HIb;have HRz:=HRb;clear hbb HIb HRb
  rotate_left
  go_simp;refine hK _ _ ?_;clear hK K
  (try simp only[Act.put,zk,zh,zi,ze,zm,zn])
  have HIc:Hid (Below w.heap.size w (wD.alloc (.cells #[.int .i64 0] 3))∧Blk (wD.alloc (.cells #[.int .i64 0] 3)) b1 35 [.int .i64 st,.bool false,.slice x6.1 [0].length x6.2,.bool false]):=hid ⟨HI0.out.1.trans (((zp wD.heap.size wD).alloc (zl _) (.cells #[.int .i64 0] 3)).mono HI0.out.1.size),HI0.out.2.keep ((zp wD.heap.size wD).alloc (zl _) (.cells #[.int .i64 0] 3))⟩;have HRc:=hid (qab (S:=fun _=>False) HR0.out (qag.keep ((zp wD.heap.size wD).alloc (zl _) (.cells #[.int .i64 0] 3))) fun _ _ h=>h);have HZ:Hid (World.ownsRow (wD.alloc (.cells #[.int .i64 0] 3)) 0 3 1 (.slice (some ⟨wD.heap.size,0,none⟩) 1 1) 1 [.int .i64 0]):=hid (World.ownsRow_lit (base:=0) (size:=1) (e:=3) wD #[.int .i64 0] 1 (Nat.zero_le _) (by decide) rfl)
  generalize wD.alloc (.cells #[.int .i64 0] 3)=wc at HIc HRc HZ ⊢
  generalize wD.heap.size=bE at HZ ⊢
  refine wpI_one (i:=2) (by kernel_rfl) rfl HIc.out (by rfl) (fun K hK => ?_);go_simp
  go_at_call 13
  refine(HWd.out _ HIc.out.1).mono ?_;rintro e wa ⟨aw,cw,rfl,hcw,hwd,hba⟩;have HIa:Hid (Below w.heap.size w wa∧Blk wa b1 35 [.int .i64 st,.bool false,.slice x6.1 [0].length x6.2,.bool false]):=hid ⟨HIc.out.1.trans (hba.mono HIc.out.1.size),HIc.out.2.keep hba⟩;have HRa:=hid (qab (S:=fun _=>False) HRc.out (qag.keep hba) fun _ _ h=>h);refine hK _ _ ?_;clear hK K
  (try simp only[Act.put,zk,zh,zi,ze,zm,zn])
  have HZ:=hid (qab (S:=fun _=>False) HZ.out (qag.keep hba) fun _ _ h=>h);refine wpI_one (i:=5) (by kernel_rfl) rfl HIa.out (by rfl) (fun K hK => ?_);go_simp
  go_at_call 14
  refine(HSt.out aw cw _ hcw (hwd)).mono ?_;rintro e wb ⟨rfl,hbb⟩;have HIb:Hid (Below w.heap.size w wb∧Blk wb b1 35 [.int .i64 st,.bool false,.slice x6.1 [0].length x6.2,.bool false]):=hid ⟨HIa.out.1.trans (hbb.mono HIa.out.1.size),HIa.out.2.keep hbb⟩;have HRb:=hid (qab (S:=fun _=>False) HRa.out (qag.keep hbb) fun _ _ h=>h);refine hK _ _ ?_;clear hK K
  (try simp only[Act.put,zk,zh,zi,ze,zm,zn])
  have HZ:=hid (qab (S:=fun _=>False) HZ.out (qag.keep hbb) fun _ _ h=>h);have HIz:=HIb;have HRz:=HRb;clear hbb HIb HRb
  all_goals
   refine' wpI_take (i:=7) (v:=_) rfl (by kernel_rfl) (by kernel_rfl) (by kernel_rfl) (fun _ _ _ h=>h) (Or.inl ⟨by rfl,_⟩) _
   rotate_left
   ·(intro wq hq;have hkq:=qac.below hq.1;have e0q:=hkq _ _ e0;have a0:=hq.2.cell 0;have a1:=hq.2.cell 1;have a2:=hq.2.cell 2;have a3:=hq.2.cell 3;(simp only[zu,zt] at a0 a1 a2 a3);go_simp;first|done|with_reducible rfl)
   (try simp only[Act.put,zk,zh,zi,ze,zm,zn])
   refine wpI_one (i:=8) (by kernel_rfl) rfl HIz.out (by rfl) (fun K hK => ?_);go_simp
   go_at_call 12
   refine(HSm.out st false false [0] x6.1 (some ⟨bE,0,none⟩) x6.2 1 _ (by simp) HRz.out HZ.out).mono ?_;rintro e wl ⟨rfl,hbl⟩;have HIl:Hid (Below w.heap.size w wl∧Blk wl b1 35 [.int .i64 st,.bool false,.slice x6.1 [0].length x6.2,.bool false]):=hid ⟨HIz.out.1.trans (hbl.mono HIz.out.1.size),HIz.out.2.keep hbl⟩;refine hK _ _ ?_;clear hK K
   (try simp only[Act.put,zk,zh,zi,ze,zm,zn])
   refine' wpI_take (i:=9) (v:=_) rfl (by kernel_rfl) (by kernel_rfl) (by kernel_rfl) (fun _ _ _ h=>h) (Or.inl ⟨by rfl,_⟩) _
   rotate_left
   ·(intro wq hq;have hkq:=qac.below hq.1;have e0q:=hkq _ _ e0;have a0:=hq.2.cell 0;have a1:=hq.2.cell 1;have a2:=hq.2.cell 2;have a3:=hq.2.cell 3;(simp only[zu,zt] at a0 a1 a2 a3);go_simp;first|done|with_reducible rfl)
   (try simp only[Act.put,zk,zh,zi,ze,zm,zn])
   refine wpI_done (by kernel_rfl) HIl.out ?_ _
   go_wp2_with fail
   go_ret
   exact⟨rfl,HIl.out.1⟩
theorem lawWrapPointer (W:Wd) (a:Option Addr) (c:Nat) (w:World) (hW:WOk w W a c) (hT:Tabs w) (d:Int) (addr:Bool) (p m:Int):
  Calls Tryz.prog 3 #[.slice a W.length c,.int .i64 d,.bool addr,.int .i64 p,.int .i64 m] w (qa2 (.bool true) w):=by
 have hl:=qbk W;have hbk:=hW.bulk;have hlen:(W.length:Int)≤2147483647:=by omega
 by_cases h0:d<0
 ·have h0':decide (d<0)=true:=by simpa using h0
  clear hW hT hl hbk;go_enter Tryz.func3,Tryz.ntmps3
  go_wp2_with fail
  go_ret
  exact⟨rfl,zp _ _⟩
 have h0':decide (d<0)=false:=by simpa using h0
 by_cases h1:(W.length:Int)≤d
 ·have h1':decide ((W.length:Int)≤d)=true:=by simpa using h1
  clear hW hT hl hbk h0 h1;go_enter Tryz.func3,Tryz.ntmps3
  go_wp2_with fail
  go_ret
  exact⟨rfl,zp _ _⟩
 obtain⟨k,rfl⟩:∃ k:Nat,d=k:=⟨d.toNat,by omega⟩;have hk:k<W.length:=by omega
 obtain⟨b,o,a1,c1,a2,c2,a3,c3,a4,c4,a5,c5,rfl,-,-,-,-,-,hcc⟩:=hW.row.get k hk;rw[← qcg hk] at hcc;obtain⟨e0,-⟩:=ten hcc;have hln:=fun(t:Ty)=>Nat.le_trans (lookM_len W (operand W t) addr p m) (fuelW_le (by omega));refine wrapp_walk W.length (some ⟨b,o,none⟩) c w k hk (by omega) addr p m (dc W k).name b o rfl e0 (Asked W (stT [.mk 0 true (ptrT (ndT k))]) p m)
  (fun cs w' h ht=>qvj W (some ⟨b,o,none⟩) c (stT [.mk 0 true (ptrT (ndT k))]) cs p m w' (hW.keep (qac.below h)) (by simp[stT,ndT,ptrT,Ty.bulk,qbt,qcm]) ht)
  (fun w' a'=>WdR w' a' W) (fun a' w1 w2 h hr=>WdR.keep (qac.below h) hr)
  (fun w' h=>(qsu W (some ⟨b,o,none⟩) c w' (hW.keep (qac.below h))).mono fun e w2 ⟨a',c',he,hc',hr,hb⟩=>⟨a',c',he,hc',hr.keep (qac.show _ _),hb⟩)
  (start W W.length) (fun a' c' w' hc' hr=>qoi W a' c' W.length w' hr (zl _) hc' hbk)
  (fun w' h=>qtr w' (hT.below h)) (fun o m i ix a1 a2 c1 c2 w' hl h1 h2=>same_yes o m i ix hl a1 a2 c1 c2 w' h1 h2)
  (obI (qch W (operand W (stT [.mk 0 true (ptrT (ndT k))])) addr p m)) (obI (qch W (operand W (ptrT (ndT k))) addr p m)) (obM (qch W (operand W (stT [.mk 0 true (ptrT (ndT k))])) addr p m)) (obM (qch W (operand W (ptrT (ndT k))) addr p m)) (qch W (operand W (stT [.mk 0 true (ptrT (ndT k))])) addr p m).ind (qch W (operand W (ptrT (ndT k))) addr p m).ind (qch W (operand W (stT [.mk 0 true (ptrT (ndT k))])) addr p m).ix (qch W (operand W (ptrT (ndT k))) addr p m).ix
  (hln _) (hln _) (fun hA=>⟨hA.1,hA.2.1,(hA.2.2.1.names k hk).1,?_⟩)
  (fun cs w' h hA ht=>(qs2 W (some ⟨b,o,none⟩) c w' (stT [.mk 0 true (ptrT (ndT k))]) hA.2.2 (hW.keep (qac.below h)) (hT.below h) (by simp[stT,ndT,ptrT,Ty.bulk,qbt,qcm]) cs ht addr p m hA.1 hA.2.1).mono fun e w2 h=>h.ans)
  (fun cs w' h hA ht => ?_)
 ·by_cases hm8:m=8
  ·subst hm8;rw[qp7,qp7];exact .inr ⟨.inl rfl,rfl,rfl,rfl,rfl⟩
  ·rcases wrap_ptr hA.2.2 hbk hm8 p addr with ⟨h1,h2⟩|⟨h1,h2⟩
   ·rw[h2];exact .inl ⟨hm8,h1,rfl,rfl,rfl,rfl⟩
   ·rw[h2];exact .inr ⟨.inr h1,rfl,rfl,rfl,rfl⟩
 ·obtain⟨hF,P,hS,-⟩:=hA.2.2;exact(qgz W (some ⟨b,o,none⟩) c w' (ptrT (ndT k)) (fitOk_pnd hF hk) (fitOk_pnd hF hk).nm (hW.keep (qac.below h)) (hT.below h) (by simp[ndT,ptrT,Ty.bulk,qbt,qcm]) P (small_in hS) cs ht addr p m hA.1 hA.2.1).mono fun e w2 h=>h.ans
