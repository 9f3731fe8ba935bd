import Derived.Test.YtdmmpflpnnjahaaGreatDoorWNms1
import Derived.Test.YtdmmpflpnnjahaaGreatDoorWWrapC
import Derived.Test.YtdmmpflpnnjahaaGreatDoorWIsI
import Derived.Test.YtdmmpflpnnjahaaGreatDoorWIsP
import Derived.Test.YtdmmpflpnnjahaaGreatDoorK45
import Derived.Test.YtdmmpflpnnjahaaGreatDoorK41
import Derived.Test.YtdmmpflpnnjahaaGreatDoorK42
set_option linter.all false
set_option maxHeartbeats 8000000
namespace Go.Proofs.YtdmmpflpnnjahaaGreatDoor
open Go Go.RowKit Go.Proofs.Tryz
set_option maxRecDepth 100000
variable {P Q:Nat→Nat}
theorem WdR.row10 {w:World} {a:Option Addr} {W:Wd} (h:WdR w a W) {k:Nat} (hk:k<W.length):∃ x:Nat×Nat×(Option Addr×Nat)×(Option Addr×Nat)×(Option Addr×Nat)×(Option Addr×Nat)×(Option Addr×Nat),a=some ⟨x.1,x.2.1,none⟩∧
  Hid (qat w x.1 (x.2.1+k * 10) [.int .i64 (dc W k).name,.int .i64 (dc W k).pkg,.bool (dc W k).alias,.int .i64 (dc W k).of.kind,.int .i64 (dc W k).of.num,.slice x.2.2.1.1 (dc W k).of.elem.length x.2.2.1.2,.slice x.2.2.2.1.1 (dc W k).of.fields.length x.2.2.2.1.2,.slice x.2.2.2.2.1.1 (dc W k).of.methods.length x.2.2.2.2.1.2,.slice x.2.2.2.2.2.1.1 (dc W k).of.embeds.length x.2.2.2.2.2.1.2,.slice x.2.2.2.2.2.2.1 (dc W k).methods.length x.2.2.2.2.2.2.2]):=by
 obtain⟨b,o,a1,c1,a2,c2,a3,c3,a4,c4,a5,c5,e,-,-,-,-,-,hcc⟩:=h.get k hk;rw[← qcg hk] at hcc;exact⟨(b,o,(a1,c1),(a2,c2),(a3,c3),(a4,c4),(a5,c5)),e,hcc⟩
theorem noset_walk (W:Wd) (a:Option Addr) (c:Nat) (w:World) (t:Ty) (hW:WOk w W a c) (hT:Tabs w) (htb:t.bulk≤1048576) {x1 x2 x3 x4:Option Addr} {d1 d2 d3 d4:Nat} (A:Prop)
  (hF:∀ b w',Below w.heap.size w w'→qat w' b 0 [.int .i64 t.kind,.int .i64 t.num,.slice x1 t.elem.length d1,.slice x2 t.fields.length d2,.slice x3 t.methods.length d3,.slice x4 t.embeds.length d4]→Calls prog 8 #[.slice a W.length c,.agg #[.int .i64 2,.int .i64 0,.slice (some ⟨b,0,none⟩) 1 1,.slice none 0 0,.slice none 0 0,.slice none 0 0],.int .i64 0,.int .i64 0] w' (qb8 A w'))
  (hTy:∀ w',Below w.heap.size w w'→Calls prog 12 #[.agg #[.int .i64 t.kind,.int .i64 t.num,.slice x1 t.elem.length d1,.slice x2 t.fields.length d2,.slice x3 t.methods.length d3,.slice x4 t.embeds.length d4]] w' (qmz t w'))
  (hWd:∀ w',Below w.heap.size w w'→Calls prog 10 #[.slice a W.length c] w' (GivesWd W w'))
  (bI bP:Bool) (bD:Nat→Bool)
  (hI:∀ a' c' cs w',A→W.length≤c'→WdR w' a' W→TyC w' t cs→Calls prog 11 #[.slice a' W.length c',.agg cs.toArray] w' (qa2 (.bool bI) w'))
  (hP:∀ a' c' cs w',A→W.length≤c'→WdR w' a' W→TyC w' t cs→Calls prog 13 #[.slice a' W.length c',.agg cs.toArray] w' (qa2 (.bool bP) w'))
  (hD:∀ k a' c' cs w',k<W.length→A→W.length≤c'→WdR w' a' W→TyC w' (ndT k) cs→Calls prog 13 #[.slice a' W.length c',.agg cs.toArray] w' (qa2 (.bool (bD k)) w'))
  (hMp:A→bI=true∨bP=true→∀ b w',Below w.heap.size w w'→qat w' b 0 [.int .i64 t.kind,.int .i64 t.num,.slice x1 t.elem.length d1,.slice x2 t.fields.length d2,.slice x3 t.methods.length d3,.slice x4 t.embeds.length d4]→Calls prog 15 #[.slice a W.length c,.agg #[.int .i64 2,.int .i64 0,.slice (some ⟨b,0,none⟩) 1 1,.slice none 0 0,.slice none 0 0,.slice none 0 0]] w' (qa2 (.slice none 0 0) w'))
  (hMd:∀ k cs w',k<W.length→A→(dc W k).alias=false→bD k=true→Below w.heap.size w w'→TyC w' (ndT k) cs→Calls prog 15 #[.slice a W.length c,.agg cs.toArray] w' (qa2 (.slice none 0 0) w')):
  Calls prog 3 #[.slice a W.length c,.agg #[.int .i64 t.kind,.int .i64 t.num,.slice x1 t.elem.length d1,.slice x2 t.fields.length d2,.slice x3 t.methods.length d3,.slice x4 t.embeds.length d4]] w (qa2 (.bool true) w):=by
 have hl:=qbk W;have hbk:=hW.bulk;have HW:=hid hW;have HF:=hid hF;have HTy:=hid hTy;have HWd:=hid hWd;have HI:=hid hI;have HP:=hid hP;have HD:=hid hD;have HMp:=hid hMp;have HMd:=hid hMd;have HWk:=hid fun w' (h:Below w.heap.size w w')=>qtr w' (hT.below h);have HZ:=hid fun w'=>qps t w' (x1:=x1) (x2:=x2) (x3:=x3) (x4:=x4) (d1:=d1) (d2:=d2) (d3:=d3) (d4:=d4) htb;have hlen:(W.length:Int)≤2147483647:=by omega
 have Hlen:Hid (W.length≤1048576):=hid (by omega);have HB0:Hid (∀ O:Obj,Below w.heap.size w (w.alloc O)):=hid fun O=>(zp _ _).alloc (zl _) O;clear hT htb hl hbk hF hW hTy hWd hI hP hD hMp hMd;go_enter func3,ntmps3
 go_wp2_with (first
  | (go_at_call 7;refine(HZ.out _).mono ?_;rintro e w1 ⟨rfl,hb1⟩;have HX1:=hid hb1;have HB1:=hid ((HB0.out _).trans (hb1.mono (HB0.out _).size));clear hb1;have q0:=(box6 HX1.out).1;have q1:=(box6 HX1.out).2.1;have q2:=(box6 HX1.out).2.2.1;have q3:=(box6 HX1.out).2.2.2.1;have q4:=(box6 HX1.out).2.2.2.2.1;have q5:=(box6 HX1.out).2.2.2.2.2)
  | (go_at_call 9;refine(pointer_any _ _ _ _ _ _ _).mono ?_;rintro e w2 ⟨pb,rfl,hpc,hb2⟩;have HX2:=bel_ HX1 hb2;have HB2:=bel_ HB1 hb2;have Hpc:=hid hpc;clear hb2 hpc q0 q1 q2 q3 q4 q5)
  | (go_at_call 8;refine(HF.out _ _ HB2.out Hpc.out).mono ?_;rintro e w3 ⟨bb,rfl,hA,hb3⟩;have HA:=hid hA;have HX3:=bel_ HX2 hb3;have HB3:=bel_ HB2 hb3;clear hb3 hA;have p0:=(box6 HX3.out).1;have p1:=(box6 HX3.out).2.1;have p2:=(box6 HX3.out).2.2.1;have p3:=(box6 HX3.out).2.2.2.1;have p4:=(box6 HX3.out).2.2.2.2.1;have p5:=(box6 HX3.out).2.2.2.2.2;cases bb))
 ·go_ret
  exact⟨rfl,HB3.out⟩
 have HAs:=hid (HA.out (by simp));clear HA HF HZ Hpc;have hlt:w.heap.size<w3.heap.size:=by have:=HX3.out.size;simp only[zd] at this;omega
 refine wpI_region (fun W=>Below w3.heap.size w3 W) (by kernel_rfl) ?_;have HI0:Hid (Below w3.heap.size w3 w3.drew):=hid (zp _ _).drew
 generalize w3.drew=wD at HI0 ⊢
 refine' wpI_take (i:=0) (v:=_) rfl (by kernel_rfl) (by kernel_rfl) (by kernel_rfl) (fun _ _ _ h=>h) (Or.inl ⟨by rfl,_⟩) _
 rotate_left
 ·(intro wq hq;have hcq:=(qal hq).1;(try simp only[zd,qaa] at hcq);have hkq:=qac.below hq;go_simp;first|done|with_reducible rfl)
 (try simp only[Act.put,zk,zh,zi,ze,zm,zn])
 refine' wpI_take (i:=2) (v:=_) rfl (by kernel_rfl) (by kernel_rfl) (by kernel_rfl) (fun _ _ _ h=>h) (Or.inl ⟨by rfl,_⟩) _
 rotate_left
 ·(intro wq hq;have hcq:=(qal hq).1;(try simp only[zd,qaa] at hcq);have hkq:=qac.below hq;go_simp;first|done|with_reducible rfl)
 (try simp only[Act.put,zk,zh,zi,ze,zm,zn])
 refine wpI_one (i:=1) (by kernel_rfl) rfl HI0.out (by rfl) (fun K hK => ?_);go_simp
 go_at_call 10
 refine(HWd.out _ (HB3.out.trans (HI0.out.mono HB3.out.size))).mono ?_;rintro e wx ⟨ax,cx,rfl,hcx,hwdx,hbx⟩;have Hwd:=hid (hwdx.keep (qac.show _ _));have Hc:=hid hcx;have HI1:=bel_ HI0 hbx;clear hbx hwdx hcx;refine hK _ _ ?_;clear hK K
 (try simp only[Act.put,zk,zh,zi,ze,zm,zn])
 refine wpI_one (i:=3) (by kernel_rfl) rfl HI1.out (by rfl) (fun K hK => ?_);go_simp
 go_at_call 12
 refine(HTy.out _ (HB3.out.trans (HI1.out.mono HB3.out.size))).mono ?_;rintro e wy ⟨csy,rfl,hty,hby⟩;obtain⟨f1,r1,f2,r2,f3,r3,f4,r4,rfl,-⟩:=hty.open;have Ht:=hid (TyC.keep (qac.show _ _) hty);have Hwd:=hid (Hwd.out.keep (qac.below hby));have HI2:=bel_ HI1 hby;clear hby hty;refine hK _ _ ?_;clear hK K
 (try simp only[Act.put,zk,zh,zi,ze,zm,zn])
 refine wpI_one (i:=4) (by kernel_rfl) rfl HI2.out (by rfl) (fun K hK => ?_);go_simp
 go_at_call 11
 refine(HI.out _ _ _ _ HAs.out Hc.out Hwd.out Ht.out).mono ?_;rintro e wz ⟨rfl,hbz⟩;have HI3:=bel_ HI2 hbz;clear hbz;refine hK _ _ ?_;clear hK K
 (try simp only[Act.put,zk,zh,zi,ze,zm,zn])
 refine' wpI_take (i:=5) (v:=_) rfl (by kernel_rfl) (by kernel_rfl) (by kernel_rfl) (fun _ _ _ h=>h) (Or.inl ⟨by rfl,_⟩) _
 rotate_left
 ·(intro wq hq;have hcq:=(qal hq).1;(try simp only[zd,qaa] at hcq);have hkq:=qac.below hq;go_simp;first|done|with_reducible rfl)
 (try simp only[Act.put,zk,zh,zi,ze,zm,zn])
 cases bI with
 | true=>
  have HN:Hid (true=true∨bP=true):=hid (.inl rfl);refine wpI_take (i:=6) (v:=undef) rfl (by kernel_rfl) (by kernel_rfl) (by kernel_rfl) (fun _ _ _ h=>h) (Or.inr ⟨by rfl,rfl⟩) ?_
  (try simp only[Act.put,zk,zh,zi,ze,zm,zn])
  refine wpI_take (i:=7) (v:=undef) rfl (by kernel_rfl) (by kernel_rfl) (by kernel_rfl) (fun _ _ _ h=>h) (Or.inr ⟨by rfl,rfl⟩) ?_
  (try simp only[Act.put,zk,zh,zi,ze,zm,zn])
  refine wpI_take (i:=8) (v:=undef) rfl (by kernel_rfl) (by kernel_rfl) (by kernel_rfl) (fun _ _ _ h=>h) (Or.inr ⟨by rfl,rfl⟩) ?_
  (try simp only[Act.put,zk,zh,zi,ze,zm,zn])
  refine wpI_take (i:=9) (v:=undef) rfl (by kernel_rfl) (by kernel_rfl) (by kernel_rfl) (fun _ _ _ h=>h) (Or.inr ⟨by rfl,rfl⟩) ?_
  (try simp only[Act.put,zk,zh,zi,ze,zm,zn])
  refine wpI_take (i:=10) (v:=undef) rfl (by kernel_rfl) (by kernel_rfl) (by kernel_rfl) (fun _ _ _ h=>h) (Or.inr ⟨by rfl,rfl⟩) ?_
  (try simp only[Act.put,zk,zh,zi,ze,zm,zn])
  refine' wpI_take (i:=11) (v:=_) rfl (by kernel_rfl) (by kernel_rfl) (by kernel_rfl) (fun _ _ _ h=>h) (Or.inl ⟨by rfl,_⟩) _
  rotate_left
  ·(intro wq hq;have hcq:=(qal hq).1;(try simp only[zd,qaa] at hcq);have hkq:=qac.below hq;go_simp;first|done|with_reducible rfl)
  (try simp only[Act.put,zk,zh,zi,ze,zm,zn])
  refine wpI_done (by kernel_rfl) HI3.out ?_ _;have HB4:=bel_ HB3 HI3.out;have HX4:=bel_ HX3 HI3.out
  go_wp2_with fail
  refine(HWk.out _ HB4.out).mono ?_;rintro e w5 ⟨rfl,hb5⟩;have HB5:=bel_ HB4 hb5;have HX5:=bel_ HX4 hb5;clear hb5 p0 p1 p2 p3 p4 p5;have p0:=(box6 HX5.out).1;have p1:=(box6 HX5.out).2.1;have p2:=(box6 HX5.out).2.2.1;have p3:=(box6 HX5.out).2.2.2.1;have p4:=(box6 HX5.out).2.2.2.2.1;have p5:=(box6 HX5.out).2.2.2.2.2
  go_wp2_with fail
  refine(pointer_any _ _ _ _ _ _ _).mono ?_;rintro e w6 ⟨pb,rfl,hpc,hb6⟩;have HB6:=bel_ HB5 hb6;have Hpc:=hid hpc;clear hb6 hpc
  go_wp2_with fail
  refine(HMp.out HAs.out HN.out pb w6 HB6.out Hpc.out).mono ?_;rintro e w7 ⟨rfl,hb7⟩;have HB7:=bel_ HB6 hb7;clear hb7
  go_wp2_with fail
  go_ret
  exact⟨rfl,HB7.out⟩
 | false=>
  refine' wpI_take (i:=6) (v:=_) rfl (by kernel_rfl) (by kernel_rfl) (by kernel_rfl) (fun _ _ _ h=>h) (Or.inl ⟨by rfl,_⟩) _
  rotate_left
  ·(intro wq hq;have hcq:=(qal hq).1;(try simp only[zd,qaa] at hcq);have hkq:=qac.below hq;go_simp;first|done|with_reducible rfl)
  (try simp only[Act.put,zk,zh,zi,ze,zm,zn])
  refine' wpI_take (i:=8) (v:=_) rfl (by kernel_rfl) (by kernel_rfl) (by kernel_rfl) (fun _ _ _ h=>h) (Or.inl ⟨by rfl,_⟩) _
  rotate_left
  ·(intro wq hq;have hcq:=(qal hq).1;(try simp only[zd,qaa] at hcq);have hkq:=qac.below hq;go_simp;first|done|with_reducible rfl)
  (try simp only[Act.put,zk,zh,zi,ze,zm,zn])
  refine wpI_one (i:=7) (by kernel_rfl) rfl HI3.out (by rfl) (fun K hK => ?_);go_simp
  go_at_call 10
  refine(HWd.out _ (HB3.out.trans (HI3.out.mono HB3.out.size))).mono ?_;rintro e wx ⟨ax,cx,rfl,hcx,hwdx,hbx⟩;have Hwd:=hid (hwdx.keep (qac.show _ _));have Hc:=hid hcx;have HI4:=bel_ HI3 hbx;clear hbx hwdx hcx;refine hK _ _ ?_;clear hK K
  (try simp only[Act.put,zk,zh,zi,ze,zm,zn])
  refine wpI_one (i:=9) (by kernel_rfl) rfl HI4.out (by rfl) (fun K hK => ?_);go_simp
  go_at_call 12
  refine(HTy.out _ (HB3.out.trans (HI4.out.mono HB3.out.size))).mono ?_;rintro e wy ⟨csy,rfl,hty,hby⟩;obtain⟨f1,r1,f2,r2,f3,r3,f4,r4,rfl,-⟩:=hty.open;have Ht:=hid (TyC.keep (qac.show _ _) hty);have Hwd:=hid (Hwd.out.keep (qac.below hby));have HI5:=bel_ HI4 hby;clear hby hty;refine hK _ _ ?_;clear hK K
  (try simp only[Act.put,zk,zh,zi,ze,zm,zn])
  refine wpI_one (i:=10) (by kernel_rfl) rfl HI5.out (by rfl) (fun K hK => ?_);go_simp
  go_at_call 13
  refine(HP.out _ _ _ _ HAs.out Hc.out Hwd.out Ht.out).mono ?_;rintro e wz ⟨rfl,hbz⟩;have HI6:=bel_ HI5 hbz;clear hbz;refine hK _ _ ?_;clear hK K
  (try simp only[Act.put,zk,zh,zi,ze,zm,zn])
  refine' wpI_take (i:=11) (v:=_) rfl (by kernel_rfl) (by kernel_rfl) (by kernel_rfl) (fun _ _ _ h=>h) (Or.inl ⟨by rfl,_⟩) _
  rotate_left
  ·(intro wq hq;have hcq:=(qal hq).1;(try simp only[zd,qaa] at hcq);have hkq:=qac.below hq;go_simp;first|done|with_reducible rfl)
  (try simp only[Act.put,zk,zh,zi,ze,zm,zn])
  cases bP with
  | true=>
   have HN:Hid (false=true∨true=true):=hid (.inr rfl);refine wpI_done (by kernel_rfl) HI6.out ?_ _;have HB4:=bel_ HB3 HI6.out;have HX4:=bel_ HX3 HI6.out
   go_wp2_with fail
   refine(HWk.out _ HB4.out).mono ?_;rintro e w5 ⟨rfl,hb5⟩;have HB5:=bel_ HB4 hb5;have HX5:=bel_ HX4 hb5;clear hb5 p0 p1 p2 p3 p4 p5;have p0:=(box6 HX5.out).1;have p1:=(box6 HX5.out).2.1;have p2:=(box6 HX5.out).2.2.1;have p3:=(box6 HX5.out).2.2.2.1;have p4:=(box6 HX5.out).2.2.2.2.1;have p5:=(box6 HX5.out).2.2.2.2.2
   go_wp2_with fail
   refine(pointer_any _ _ _ _ _ _ _).mono ?_;rintro e w6 ⟨pb,rfl,hpc,hb6⟩;have HB6:=bel_ HB5 hb6;have Hpc:=hid hpc;clear hb6 hpc
   go_wp2_with fail
   refine(HMp.out HAs.out HN.out pb w6 HB6.out Hpc.out).mono ?_;rintro e w7 ⟨rfl,hb7⟩;have HB7:=bel_ HB6 hb7;clear hb7
   go_wp2_with fail
   go_ret
   exact⟨rfl,HB7.out⟩
  | false=>
   refine wpI_done (by kernel_rfl) HI6.out ?_ _;have HB4:=bel_ HB3 HI6.out;clear HI0 HI1 HI2 HI3 HI4 HI5 HI6 Hwd Hc Ht p0 p1 p2 p3 p4 p5 HMp HI HP HTy
   go_wp2_with fail
   go_loopw [43] (fun jv wr=>∃ k:Nat,jv = .int .i64 k∧Hid (k≤W.length∧Below w.heap.size w wr)) (fun jv _=>W.length - (intOf jv).toNat)
   case atStart=>exact⟨0,rfl,hid ⟨Nat.zero_le _,HB4.out⟩⟩
   case round=>
    obtain⟨k,rfl,HX⟩:=hrel;by_cases hk:k<W.length
    ·have Hk:=hid hk;have hki:(k:Int)<(W.length:Int):=by omega
     have hwrp:IntKind.i64.wrap ((k:Int)+1)=((k+1:Nat):Int):=by have:=Hlen.out;rw[qni _ (by omega) (by omega)];rfl
     refine(WdR.row10 HW.out.row hk).elim fun x hx => ?_;obtain⟨rfl,HR⟩:=hx;have HRr:=hid (HR.out.keep (qac.below HX.out.2));have HRt:=ten HRr.out;have e0:=HRt.1;have e1:=HRt.2.1;have e2:=HRt.2.2.1;have e3:=HRt.2.2.2.1;have e4:=HRt.2.2.2.2.1;have e5:=HRt.2.2.2.2.2.1;have e6:=HRt.2.2.2.2.2.2.1;have e7:=HRt.2.2.2.2.2.2.2.1;have e8:=HRt.2.2.2.2.2.2.2.2.1;have e9:=HRt.2.2.2.2.2.2.2.2.2;clear HRt;have HBn:Hid (∀ O:Obj,Below w.heap.size w (wr.alloc O)):=hid fun O=>HX.out.2.alloc HX.out.2.size _;obtain⟨al,hal⟩:∃ al,al=(dc W k).alias:=⟨_,rfl⟩;rw[← hal] at e2;have Hal:=hid hal;clear hal;cases al with
     | true=>
      go_wp2_with fail
      go_roundw
      case rel=>exact⟨k+1,by go_num,hid ⟨Hk.out,HBn.out _⟩⟩
      case measure=>have:=Hk.out;simp[intOf];omega
     | false=>
      obtain⟨bd,hbd⟩:∃ bd,bd=bD k:=⟨_,rfl⟩;have Hbd:=hid hbd;have HDk:=hid (HD.out k);rw[← hbd] at HDk;clear hbd
      go_wp2_with (go_at_call 10;refine(HWd.out _ (HBn.out _)).mono ?_;rintro e w5 ⟨a5,c5,rfl,hc5,hwd5,hb5⟩;have Hwd:=hid (hwd5.keep (qac.show _ _));have Hc:=hid hc5;have HB5:=hid ((HBn.out _).trans (hb5.mono (HBn.out _).size));clear hb5 hwd5 hc5)
      have Ht5:Hid (TyC w5 (ndT k) [.int .i64 1,.int .i64 k,.slice none 0 0,.slice none 0 0,.slice none 0 0,.slice none 0 0]):=hid (tyC_nd (by have:=Hk.out;have:=Hlen.out;omega));cases bd with
      | false=>
       go_wp2_with (go_at_call 13;refine(HDk.out _ _ _ _ Hk.out HAs.out Hc.out Hwd.out Ht5.out).mono ?_;rintro e w6 ⟨rfl,hb6⟩;have HB6:=bel_ HB5 hb6;clear hb6)
       go_roundw
       case rel=>exact⟨k+1,by go_num,hid ⟨Hk.out,HB6.out⟩⟩
       case measure=>have:=Hk.out;simp[intOf];omega
      | true=>
       go_wp2_with (first
        | (go_at_call 13;refine(HDk.out _ _ _ _ Hk.out HAs.out Hc.out Hwd.out Ht5.out).mono ?_;rintro e w6 ⟨rfl,hb6⟩;have HB6:=bel_ HB5 hb6;clear hb6)
        | (go_at_call 16;refine(named_any _ _).mono ?_;rintro e w7 ⟨rfl,hb7⟩;have HB7:=bel_ HB6 hb7;clear hb7;have Ht7:Hid (TyC w7 (ndT k) [.int .i64 1,.int .i64 k,.slice none 0 0,.slice none 0 0,.slice none 0 0,.slice none 0 0]):=hid (tyC_nd (by have:=Hk.out;have:=Hlen.out;omega)))
        | (go_at_call 15;refine(HMd.out _ _ _ Hk.out HAs.out Hal.out.symm Hbd.out.symm HB7.out Ht7.out).mono ?_;rintro e w8 ⟨rfl,hb8⟩;have HB8:=bel_ HB7 hb8;clear hb8))
       go_roundw
       case rel=>exact⟨k+1,by go_num,hid ⟨Hk.out,HB8.out⟩⟩
       case measure=>have:=Hk.out;simp[intOf];omega
    ·have hkn:k=W.length:=by have:=HX.out.1;omega
     subst hkn
     go_wp2_with (go_at_call 14;refine(HWk.out _ HX.out.2).mono ?_;rintro e w5 ⟨rfl,hb5⟩;have HB5:=hid (HX.out.2.trans (hb5.mono HX.out.2.size));clear hb5)
     go_ret
     exact⟨rfl,HB5.out⟩
mutual
theorem op_le (h:∀ n,P n≤Q n):∀ t:Ty,op P t≤op Q t
 | .mk k n el fs ms em=>by
  have h1:=opT_le h el;have h2:=opF_le h fs;have h3:=opT_le h em;have h4:=h n.toNat;simp only[op];split <;> omega
theorem opT_le (h:∀ n,P n≤Q n):∀ l:List Ty,opT P l≤opT Q l
 | []=>zl _
 | t::r=>Nat.add_le_add (op_le h t) (opT_le h r)
theorem opF_le (h:∀ n,P n≤Q n):∀ l:List Fd,opF P l≤opF Q l
 | []=>zl _
 | .mk _ _ t::r=>Nat.add_le_add (op_le h t) (opF_le h r)
end
theorem small_decl {W:Wd} {t:Ty} (h:qdx W t P) {k:Nat} (hk:k<W.length) (ha:(dc W k).alias=false):∃ P',qdx W (ndT k) P':=by
 have le:∀ t,op (fun n=>if n=k then 1 else P n) t≤op P t:=fun t=>op_le (fun n=>by
  by_cases e:n=k
  ·simp only[e,if_true];exact h.pos k
  ·simp only[if_neg e];exact zl _) t
 refine⟨fun n=>if n=k then 1 else P n,fun n => ?_,fun d hd hda => ?_,fun d hd=>Nat.le_trans (le _) (h.decl d hd),?_⟩
 ·by_cases e:n=k
  ·simp only[e,if_true];exact zl _
  ·simp only[if_neg e];exact h.pos n
 ·have hne:d≠k:=fun e=>by rw[e,ha] at hda;cases hda
  simp only[if_neg hne];exact Nat.le_trans (le _) (h.alias d hd hda)
 ·have h4:op (fun n=>if n=k then 1 else P n) (ndT k)=(fun n=>if n=k then 1 else P n) k:=qw9 _ k;rw[h4];simp
theorem lawNoSet (W:Wd) (a:Option Addr) (c:Nat) (w:World) (t:Ty) (hW:WOk w W a c) (hT:Tabs w) (htb:t.bulk+1≤1048576) (cs:List Value) (ht:TyC w t cs):
  Calls prog 3 #[.slice a W.length c,.agg cs.toArray] w (qa2 (.bool true) w):=by
 have hl:=qbk W;have hbk:=hW.bulk;have htb':t.bulk≤1048576:=by omega
 have hbp:(ptrT t).bulk≤1048576:=by simp only[ptrT,Ty.bulk,qbt,qcm,List.length_nil];omega
 have hTy:=fun w' (h:Below w.heap.size w w')=>qt0 t cs w w' htb' ht (qac.below h);have hWd:=fun w' (h:Below w.heap.size w w')=>qsu W a c w' (hW.keep (qac.below h));obtain⟨x1,d1,x2,d2,x3,d3,x4,d4,rfl,-⟩:=ht.full;have tp:=fun b w' (h:Below w.heap.size w w') (hc:qat w' b 0 _)=>tyC_ptr hc (ht.keep (qac.below h));have fm:Asked W (ptrT t) 0 0→qam W (-1) false t:=fun hA=>by
  have:=(hA.2.2.1.formed.k23 (.inl rfl)).2.2.2.2.2;exact this
 have hcl:=fun(hA:Asked W (ptrT t) 0 0)=>(⟨fun d hd=>qbn W d true _ (hA.2.2.1.names d hd).2.2.2.1,qbn W (-1) false t (fm hA)⟩:CloW W∧t.clo W.length);have hnn:=fun(hA:Asked W (ptrT t) 0 0)=>(fm hA).numOk (s:=operand W t);refine noset_walk W a c w t hW hT htb' (Asked W (ptrT t) 0 0)
  (fun b w' h hc=>qvj W a c (ptrT t) _ 0 0 w' (hW.keep (qac.below h)) hbp (tp b w' h hc)) hTy hWd
  ((qae W (operand W t)).of.kind==5) ((qae W (operand W t)).of.kind==2) (fun k=>(qae W (operand W (ndT k))).of.kind==2)
  (fun a' c' cs' w' hA hc hr htc=>isIface_any W a' c' t cs' w' ⟨hr,hc,hW.bulk⟩ (hcl hA).1 htc (hcl hA).2)
  (fun a' c' cs' w' hA hc hr htc=>isPtr_any W a' c' t cs' w' ⟨hr,hc,hW.bulk⟩ (hcl hA).1 htc (hcl hA).2)
  (fun k a' c' cs' w' hk hA hc hr htc=>isPtr_any W a' c' (ndT k) cs' w' ⟨hr,hc,hW.bulk⟩ (hcl hA).1 htc (qbn W (-1) true (ndT k) (formed_nd hk true)))
  (fun hA hb b w' h hc => ?_) (fun k cs' w' hk hA ha hb h htc => ?_)
 ·obtain⟨hF,P,hS,-⟩:=hA.2.2;refine implMs_none W a c w' (ptrT t) hF hF.nm (hW.keep (qac.below h)) (hT.below h) hbp P hS _ (tp b w' h hc) (.inr ?_);have hp:plain W (operand W (ptrT t))=operand W (ptrT t):=qbg fun e=>absurd e.1 (by show(2:Int)≠1;omega);rw[hp];refine⟨rfl,?_⟩;have e:qaq (operand W (ptrT t))=operand W t:=rfl;rw[e];rcases hb with hb|hb
  ·exact .inl (by simpa using hb)
  ·exact .inr (by simpa using hb)
 ·obtain⟨hF,P,hS,-⟩:=hA.2.2;obtain⟨P',hS'⟩:=small_decl hS hk ha;refine implMs_none W a c w' (ndT k) (fitOk_nd hF hk) (fitOk_nd hF hk).nm (hW.keep (qac.below h)) (hT.below h) (by simp[ndT,Ty.bulk,qbt,qcm]) P' hS' _ htc (.inl ⟨?_,by simpa using hb⟩);rw[qbg fun e=>by
   have h3:=e.2;rw[show(operand W (ndT k)).of.num.toNat=k from Int.toNat_natCast k,ha] at h3;cases h3]
  rfl
