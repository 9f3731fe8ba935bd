import Derived.Test.YtaibcdkadbemgaaGreatDoorK04
import Derived.Test.YtaibcdkadbemgaaGreatDoorK09
import Derived.Test.YtaibcdkadbemgaaGreatDoorK02
import Derived.Test.YtaibcdkadbemgaaGreatDoorK05
set_option linter.all false
set_option maxHeartbeats 2000000
namespace Go.Proofs.YtaibcdkadbemgaaGreatDoor
open Go Go.RowKit
set_option maxRecDepth 100000
theorem qvn (n:Nat):∀ (t:Ty) (cs:List Value) (w:World),t.bulk≤n→t.bulk≤1048576→TyC w t cs→
  Calls Tryz.prog 37 #[.agg cs.toArray] w (qa2 (.int .i64 t.size) w):=by
 induction n with
 | zero=>
  intro t cs w h;have:=qd3 t;omega
 | succ n ih=>
  intro t cs w h hb ht;obtain⟨k,num,el,fs,ms,em⟩:=t;simp only[TyC] at ht;obtain⟨a1,c1,a2,c2,a3,c3,a4,c4,rfl,-,hk,hn,h1,h2,h3,h4⟩:=ht;simp only[Ty.bulk] at h hb;have hl1:=qa3 el;have hl2:=qbv fs;have hl3:=qa3 em;have hs1:=qem el;have hs2:=qh6 fs;have hs3:=qem em;have IH:=hid ih;clear ih;obtain⟨O,hO⟩:∃ O,O=(Obj.cells #[.int .i64 k,.int .i64 num,.slice a1 el.length c1,.slice a2 fs.length c2,.slice a3 ms.length c3,.slice a4 em.length c4] 29):=⟨_,rfl⟩;have HO:=hid hO;clear hk hn h3;go_enter Tryz.func37,Tryz.ntmps37
  go_wp2_with fail
  rw[← hO];clear hO
  go_loopw [3,16] (fun v i wr=>∃ k':Nat,k'≤fs.length∧i = .int .i64 k'∧v = .int .i64 (ms.length+qar (fs.take k'))∧Below (w.heap.size+1) (w.alloc O) wr)
   (fun _ i _=>fs.length - (intOf i).toNat)
  case atStart=>exact⟨0,by omega,rfl,by simp[qar],zp _ _⟩
  case round=>
   obtain⟨k',hk',rfl,rfl,hbel⟩:=hrel;have hK:qac w wr:=(qac.alloc w O).trans (qac.belowGe hbel (by simp));have hz:=zq hbel;(try simp only[zd,qaa] at hz);have hts:=qbj fs k';by_cases hlt:k'<fs.length
   ·obtain⟨b,o,cs,rfl,hn1,hc,htt⟩:=FdsR.get h2 k' hlt;have htt:=htt.keep hK;obtain⟨x1,d1,x2,d2,x3,d3,x4,d4,rfl,-⟩:=htt.open;obtain⟨e0,e1,e2,e3,e4,e5,e6,e7⟩:=qhx (hc.keep hK);simp only[Nat.zero_add] at e0 e1 e2 e3 e4 e5 e6 e7;have htk:=qdi fs k' hlt;have hbk:=qbx fs k' hlt;have hsk:=qbj fs (k'+1);have hle:qar (fs.take k')+(1+fs[k'].of.size)≤qcm fs:=by omega
    have Htk:=hid htk;clear htk;have Htt:=hid htt;clear htt;clear h2 h4 h1 hc hK hn1
    go_wp2_with (go_at_call 37;refine(IH.out _ _ _ (by omega) (by omega) (Htt.out.keep (qac.alloc _ _))).mono ?_;rintro e w1 ⟨rfl,hb1⟩)
    have hz1:=zq hb1;(try simp only[zd,qaa] at hz1)
    go_roundw
    case rel=>exact⟨k'+1,by omega,by go_num,by rw[Htk.out];go_num,bel⟩
    case measure=>simp[intOf];omega
   ·obtain rfl:k'=fs.length:=by omega
    obtain⟨-,-,q2,-,-,q5⟩:=six (box hbel HO.out);simp only[zdb] at *;clear h2 hlt
    go_wp2_with fail
    go_loopw [3,30] (fun v i wr=>∃ k':Nat,k'≤em.length∧i = .int .i64 k'∧v = .int .i64 (ms.length+qar fs+qau (em.take k'))∧Below (w.heap.size+1) (w.alloc O) wr)
     (fun _ i _=>em.length - (intOf i).toNat)
    case atStart=>exact⟨0,by omega,rfl,by simp[qau],hbel⟩
    clear hbel q2 q5 hK hz
    case round=>
     obtain⟨k',hk',rfl,rfl,hbel⟩:=hrel;have hK:qac w wr:=(qac.alloc w O).trans (qac.belowGe hbel (by simp));have hz:=zq hbel;(try simp only[zd,qaa] at hz);have hts:=qa5 em k';by_cases hlt:k'<em.length
     ·obtain⟨b,o,cs,rfl,hc,htt⟩:=TysR.get h4 k' hlt;have htt:=htt.keep hK;obtain⟨x1,d1,x2,d2,x3,d3,x4,d4,rfl,-⟩:=htt.open;obtain⟨e0,e1,e2,e3,e4,e5⟩:=six (hc.keep hK);simp only[Nat.zero_add] at e0 e1 e2 e3 e4 e5;have htk:=qc1 em k' hlt;have hbk:=qa6 em k' hlt;have hsk:=qa5 em (k'+1);have hle:qau (em.take k')+em[k'].size≤qbt em:=by omega
      have Htk:=hid htk;clear htk;have Htt:=hid htt;clear htt;clear h1 h4 hc hK
      go_wp2_with (go_at_call 37;refine(IH.out _ _ _ (by omega) (by omega) (Htt.out.keep (qac.alloc _ _))).mono ?_;rintro e w1 ⟨rfl,hb1⟩)
      have hz1:=zq hb1;(try simp only[zd,qaa] at hz1)
      go_roundw
      case rel=>exact⟨k'+1,by omega,by go_num,by rw[Htk.out];go_num,bel⟩
      case measure=>simp[intOf];omega
     ·obtain rfl:k'=em.length:=by omega
      obtain⟨-,-,q2,-,-,-⟩:=six (box hbel HO.out);simp only[zdb] at *;clear h4 hlt
      go_wp2_with fail
      go_loopw [3,42] (fun v i wr=>∃ k':Nat,k'≤el.length∧i = .int .i64 k'∧v = .int .i64 (ms.length+qar fs+qau em+qau (el.take k'))∧Below (w.heap.size+1) (w.alloc O) wr)
       (fun _ i _=>el.length - (intOf i).toNat)
      case atStart=>exact⟨0,by omega,rfl,by simp[qau],hbel⟩
      clear hbel q2 hK hz
      case round=>
       obtain⟨k',hk',rfl,rfl,hbel⟩:=hrel;have hK:qac w wr:=(qac.alloc w O).trans (qac.belowGe hbel (by simp));have hz:=zq hbel;(try simp only[zd,qaa] at hz);have hts:=qa5 el k';by_cases hlt:k'<el.length
       ·obtain⟨b,o,cs,rfl,hc,htt⟩:=TysR.get h1 k' hlt;have htt:=htt.keep hK;obtain⟨x1,d1,x2,d2,x3,d3,x4,d4,rfl,-⟩:=htt.open;obtain⟨e0,e1,e2,e3,e4,e5⟩:=six (hc.keep hK);simp only[Nat.zero_add] at e0 e1 e2 e3 e4 e5;have htk:=qc1 el k' hlt;have hbk:=qa6 el k' hlt;have hsk:=qa5 el (k'+1);have hle:qau (el.take k')+el[k'].size≤qbt el:=by omega
        have Htk:=hid htk;clear htk;have Htt:=hid htt;clear htt;clear h1 hc hK
        go_wp2_with (go_at_call 37;refine(IH.out _ _ _ (by omega) (by omega) (Htt.out.keep (qac.alloc _ _))).mono ?_;rintro e w1 ⟨rfl,hb1⟩)
        have hz1:=zq hb1;(try simp only[zd,qaa] at hz1)
        go_roundw
        case rel=>exact⟨k'+1,by omega,by go_num,by rw[Htk.out];go_num,bel⟩
        case measure=>simp[intOf];omega
       ·obtain rfl:k'=el.length:=by omega
        simp only[zdb] at *;clear h1 hlt
        go_wp2_with fail
        go_ret
        exact⟨by simp[Ty.size];omega,(((zp _ _).alloc (zl _) _).trans (hbel.mono (by omega)))⟩
theorem qf1 (t:Ty) (cs:List Value) (w:World) (hb:t.bulk≤1048576) (h:TyC w t cs):
  Calls Tryz.prog 37 #[.agg cs.toArray] w (qa2 (.int .i64 t.size) w):=qvn t.bulk t cs w (zl _) hb h
theorem qmk (bb ob N c k:Nat) (D:TypeId) (x:Option Addr) (v:Value) (w:World) (h:w.cell? ⟨bb,2,none⟩=some (.slice (some ⟨ob,0,none⟩) N c)) (hk:k<N) (hc:w.cell? ⟨ob,k,none⟩=some v) (hf:w.frozen? ⟨ob,k,none⟩=false):
  Calls Tryz.prog 43 #[.pointer (some ⟨bb,0,none⟩),.int .i64 k,.iface D (.pointer x)] w fun e w'=>e = .returned (.tuple #[])∧w'=w.setCell ⟨ob,k,none⟩ (.iface D (.pointer x)):=by
 go_enter Tryz.func43,Tryz.ntmps43
 go_wp2_with fail
 go_end0
 exact⟨rfl,rfl⟩
theorem qlg (W:Wd) (a:Option Addr) (c:Nat) (t:Ty) (cs:List Value) (w0 w:World) (k0:qac w0 w) (hW:WOk w0 W a c) (ht:TyC w0 t cs) (hk:t.kind=1) (hn:0≤t.num∧t.num<W.length) (hnm:IsNm (dc W t.num.toNat).name):
  Calls Tryz.prog 65 #[.slice a W.length c,.agg cs.toArray] w (qa2 (.string (qas (dc W t.num.toNat).name)) w):=by
 obtain⟨x1,d1,x2,d2,x3,d3,x4,d4,rfl,-⟩:=ht.full;have hnl:t.num.toNat<W.length:=by omega
 have hnn:t.num=(t.num.toNat:Int):=by omega
 obtain⟨b,o,p1,g1,p2,g2,p3,g3,p4,g4,p5,g5,rfl,-,-,-,-,-,hdd⟩:=hW.row.get t.num.toNat hnl;obtain⟨D0,-⟩:=ten (hdd.keep k0);have hbb:=zj w _ D0;simp only at hbb;have hkd:(t.kind==2)=false:=by simp[hk]
 have hcap:=hW.cap;rw[qcg hnl] at hnm ⊢;have Hnm:=hid hnm;clear hdd hk hnm ht hW hn
 generalize W[t.num.toNat].name=N at *
 rw[hnn];clear hnn
 generalize t.num.toNat=nn at *
 go_enter Tryz.func65,Tryz.ntmps65
 go_wp2_with (go_at_call 24;refine(qbq _ _ Hnm.out).mono ?_;rintro e w2 ⟨rfl,hb2⟩)
 go_ret
 exact⟨rfl,((zp _ _).alloc (zl _) _).trans (hb2.mono (by simp))⟩
theorem qr3 (W:Wd) (a:Option Addr) (c:Nat) (t:Ty) (cs:List Value) (w0 w:World) (k0:qac w0 w) (hW:WOk w0 W a c) (ht:TyC w0 t cs) (hk:t.kind=2) (he:0<t.elem.length) (hk1:t.el0.kind=1) (hn:0≤t.el0.num∧t.el0.num<W.length) (hnm:IsNm (dc W t.el0.num.toNat).name):
  Calls Tryz.prog 65 #[.slice a W.length c,.agg cs.toArray] w (qa2 (.string (qas (dc W t.el0.num.toNat).name)) w):=by
 obtain⟨x1,d1,x2,d2,x3,d3,x4,d4,rfl,-,-,-,h1,-⟩:=ht.full;obtain⟨b,o,cs1,rfl,hc,ht1⟩:=TysR.get h1 0 he;have e0:t.elem[0]=t.el0:=by simp[Ty.el0,zu,zr he]
 rw[e0] at ht1;have Ht1:=hid ht1;obtain⟨y1,g1,y2,g2,y3,g3,y4,g4,rfl,-⟩:=ht1.open;obtain⟨c0,c1,c2,c3,c4,c5⟩:=six (hc.keep k0);simp only[Nat.zero_add,Nat.zero_mul,Nat.add_zero] at c0 c1 c2 c3 c4 c5;have hbb:=zj w _ c0;simp only at hbb;have hbb1:b<w.heap.size+1:=by omega
 have hkd:(t.kind==2)=true:=by simp[hk]
 have HW:=hid hW;have Hk1:=hid hk1;have Hn:=hid hn;have Hnm:=hid hnm;have K0:=hid k0;clear hc ht1 hk hk1 hn hnm ht hW e0 h1;go_enter Tryz.func65,Tryz.ntmps65
 go_wp2_with (go_at_call 65;refine(qlg W a c t.el0 _ w0 _ (K0.out.trans (qac.alloc _ _)) HW.out Ht1.out Hk1.out Hn.out Hnm.out).mono ?_;rintro e w2 ⟨rfl,hb2⟩)
 go_ret
 exact⟨rfl,((zp _ _).alloc (zl _) _).trans (hb2.mono (by simp))⟩
def qjt (B:Nat) (w:World) (f pk:Nat) (n:Int) (rv:Value):Prop:=∃ sg,Blk w f 167 [.int .i64 0,.pointer (some ⟨pk,0,none⟩),.string (qas n),.iface 162 (.pointer (some ⟨sg,0,none⟩)),.bool false,.bool false]∧
 Blk w sg 199 [rv,.pointer none,.pointer none,.pointer none,.bool false]∧B≤f∧B≤sg∧sg≠f
theorem qr9 (bb pr pn pk:Nat) (p n:Int) (c:Nat) (m:Bool) (w:World) (hn:IsNm n) (hp:p=0∨p=1) (h:w.cell? ⟨bb,0,none⟩=some (.slice (some ⟨pr,0,none⟩) 2 c)) (hk:w.cell? ⟨pr,p.toNat,none⟩=some (.pointer (some ⟨pk,0,none⟩))):
  Calls Tryz.prog 42 #[.pointer (some ⟨bb,0,none⟩),.int .i64 p,.agg #[.int .i64 n,.bool m],.nilIface] w fun e w'=>∃ f,e = .returned (.pointer (some ⟨f,0,none⟩))∧qjt w.heap.size w' f pk n (.pointer none)∧Below w.heap.size w w':=by
 have hpn:p=(p.toNat:Int):=by omega
 have hp2:p.toNat<2:=by omega
 have hbl:=zj w _ h;have hpl:=zj w _ hk;simp only at hbl hpl;have hpl1:pr<w.heap.size+1:=by omega
 have hbl1:bb<w.heap.size+1:=by omega
 have Hn:=hid hn;clear hn hp
 generalize p.toNat=q at *
 subst hpn;have hq2:(q:Int)<2:=by omega
 go_enter Tryz.func42,Tryz.ntmps42
 go_wp2_with fail
 refine Mix.wp_region [0,1,2,3,4,5,6,7,8,9,10] [(11,false),(12,false)] [13] (fun _=>default) (by kernel_rfl) (by kernel_rfl) (by decide) ?_
 iterate 11 (first|(refine pre_yes rfl rfl ?_;apply Exists.intro;refine⟨fun W1 hW1 => ?_,?_⟩;(focus (have hc1:=(qal hW1).1;(try simp only[zd,qaa] at hc1);have hk1:=qac.below hW1;go_simp;first|exact rfl|(go_at_call 24;exact qbq _ _ Hn.out)));simp only[Act.put,zk,zh,zi,ze,zm,zn])|(refine pre_no rfl rfl ?_;simp only[Act.put,zk,zh,zi,ze,zm,zn]))
 refine pre_end (fl_op (fl_op fl_nil)) (fun W2 hW2 => ?_);have hz2:=zq hW2;(try simp only[zd,qaa] at hz2);refine mid_call hW2 rfl rfl (fun Kp hKp => ?_);go_simp;refine(qie _ _).mono ?_;rintro e W3 ⟨rfl,rfl⟩;refine⟨_,rfl,hKp _ _ ((zp _ _).alloc (zl _) _) fun W4 hW4 => ?_⟩;simp only[Act.put,zk,zh,zi,ze,zm,zn];have hz4:=zq hW4;(try simp only[zd,qaa] at hz4);have hB4:=qa4 hW4 (qbl ((zp _ _).alloc (zl _) _) hW2 (by first|omega|(simp;done)|(simp;omega)));refine mid_call hB4 rfl rfl (fun Kp2 hKp2 => ?_);go_simp;refine(qhd _ _ _ _).mono ?_;rintro e W5 ⟨rfl,rfl⟩;refine⟨_,rfl,hKp2 _ _ ((zp _ _).alloc (zl _) _) fun W6 hW6 => ?_⟩;simp only[Act.put,zk,zh,zi,ze,zm,zn];have hz6:=zq hW6;(try simp only[zd,qaa] at hz6);refine mid_nil (qco rfl ?_)
 go_wp2_with fail
 go_ret
 refine⟨_,rfl,⟨W2.heap.size,(Blk.new W4 _ _).keep hW6,(((Blk.new W2 _ _).keep hW4).alloc _).keep hW6,by omega,by omega,by omega⟩,?_⟩;exact(((zp _ _).alloc (zl _) _).drew).trans ((hB4.mono (by simp)).trans (((zp _ _).alloc (by omega) _).trans (hW6.mono (by simp;omega))))
theorem qsj (T:TypeId) (x:Addr) (bb pr pn pk:Nat) (p n:Int) (c:Nat) (w:World) (hn:IsNm n) (hp:p=0∨p=1) (h:w.cell? ⟨bb,0,none⟩=some (.slice (some ⟨pr,0,none⟩) 2 c)) (hk:w.cell? ⟨pr,p.toNat,none⟩=some (.pointer (some ⟨pk,0,none⟩))):
  Calls Tryz.prog 42 #[.pointer (some ⟨bb,0,none⟩),.int .i64 p,.agg #[.int .i64 n,.bool false],.iface T (.pointer (some x))] w fun e w'=>∃ f,e = .returned (.pointer (some ⟨f,0,none⟩))∧(∃ v,qjt w.heap.size w' f pk n (.pointer (some ⟨v,0,none⟩))∧w.heap.size≤v∧Blk w' v 191 [.int .i64 0,.pointer (some ⟨pk,0,none⟩),.string ⟨#[]⟩,.iface T (.pointer (some x)),.int .u8 4,.bool false])∧Below w.heap.size w w':=by
 have hpn:p=(p.toNat:Int):=by omega
 have hp2:p.toNat<2:=by omega
 have hbl:=zj w _ h;have hpl:=zj w _ hk;simp only at hbl hpl;have hpl2:pr<w.heap.size+1+1:=by omega
 have hbl2:bb<w.heap.size+1+1:=by omega
 have hpl1:pr<w.heap.size+1:=by omega
 have hbl1:bb<w.heap.size+1:=by omega
 have Hn:=hid hn;clear hn hp
 generalize p.toNat=q at *
 subst hpn;have hq2:(q:Int)<2:=by omega
 go_enter Tryz.func42,Tryz.ntmps42
 go_wp2_with (go_at_call 70;refine(qix _ _ _ _ _).mono ?_;rintro e w1 ⟨rfl,rfl⟩)
 refine Mix.wp_region [0,1,2,3,4,5,6,7,8,9,10] [(11,false),(12,false)] [13] (fun _=>default) (by kernel_rfl) (by kernel_rfl) (by decide) ?_
 iterate 11 (first|(refine pre_yes rfl rfl ?_;apply Exists.intro;refine⟨fun W1 hW1 => ?_,?_⟩;(focus (have hc1:=(qal hW1).1;(try simp only[zd,qaa] at hc1);have hk1:=qac.below hW1;go_simp;first|exact rfl|(go_at_call 24;exact qbq _ _ Hn.out)));simp only[Act.put,zk,zh,zi,ze,zm,zn])|(refine pre_no rfl rfl ?_;simp only[Act.put,zk,zh,zi,ze,zm,zn]))
 refine pre_end (fl_op (fl_op fl_nil)) (fun W2 hW2 => ?_);have hz2:=zq hW2;(try simp only[zd,qaa] at hz2);refine mid_call hW2 rfl rfl (fun Kp hKp => ?_);go_simp;refine(qie _ _).mono ?_;rintro e W3 ⟨rfl,rfl⟩;refine⟨_,rfl,hKp _ _ ((zp _ _).alloc (zl _) _) fun W4 hW4 => ?_⟩;simp only[Act.put,zk,zh,zi,ze,zm,zn];have hz4:=zq hW4;(try simp only[zd,qaa] at hz4);have hB4:=qa4 hW4 (qbl ((zp _ _).alloc (zl _) _) hW2 (by first|omega|(simp;done)|(simp;omega)));refine mid_call hB4 rfl rfl (fun Kp2 hKp2 => ?_);go_simp;refine(qhd _ _ _ _).mono ?_;rintro e W5 ⟨rfl,rfl⟩;refine⟨_,rfl,hKp2 _ _ ((zp _ _).alloc (zl _) _) fun W6 hW6 => ?_⟩;simp only[Act.put,zk,zh,zi,ze,zm,zn];have hz6:=zq hW6;(try simp only[zd,qaa] at hz6);refine mid_nil (qco rfl ?_)
 go_wp2_with fail
 go_ret
 refine⟨_,rfl,⟨_,⟨W2.heap.size,(Blk.new W4 _ _).keep hW6,(((Blk.new W2 _ _).keep hW4).alloc _).keep hW6,by omega,by omega,by omega⟩,?_,?v⟩,?_⟩
 case v=>
  have h1:=(Blk.new (w.alloc (.cells #[.int .i64 ↑n,.bool false] 83)) 191 [.int .i64 0,.pointer (some ⟨pk,0,none⟩),.string ⟨#[]⟩,.iface T (.pointer (some x)),.int .u8 4,.bool false]);rw[show(w.alloc (.cells #[.int .i64 ↑n,.bool false] 83)).heap.size=w.heap.size+1 by simp] at h1;exact((((h1.drew).keep hW2).alloc _ |>.keep hW4).alloc _).keep hW6
 ·simp
 ·exact((((zp _ _).alloc (zl _) _).alloc (by simp) _).drew).trans ((hB4.mono (by simp;omega)).trans (((zp _ _).alloc (by omega) _).trans (hW6.mono (by simp;omega))))
theorem qsc (T:TypeId) (x:Addr) (bb pr pn pk:Nat) (p n:Int) (c:Nat) (w:World) (hn:IsNm n) (hp:p=0∨p=1) (h:w.cell? ⟨bb,0,none⟩=some (.slice (some ⟨pr,0,none⟩) 2 c)) (hk:w.cell? ⟨pr,p.toNat,none⟩=some (.pointer (some ⟨pk,0,none⟩))):
  Calls Tryz.prog 42 #[.pointer (some ⟨bb,0,none⟩),.int .i64 p,   .agg #[.int .i64 n,.bool true],.iface T (.pointer (some x))] w fun e w'=>∃ f,e = .returned (.pointer (some ⟨f,0,none⟩))∧(∃ v,qjt w.heap.size w' f pk n (.pointer (some ⟨v,0,none⟩))∧w.heap.size≤v∧∃ q,w.heap.size≤q∧Blk w' q 185 [.iface T (.pointer (some x))]∧Blk w' v 191 [.int .i64 0,.pointer (some ⟨pk,0,none⟩),.string ⟨#[]⟩,.iface 145 (.pointer (some ⟨q,0,none⟩)),.int .u8 4,.bool false])∧Below w.heap.size w w':=by
 have hpn:p=(p.toNat:Int):=by omega
 have hp2:p.toNat<2:=by omega
 have hbl:=zj w _ h;have hpl:=zj w _ hk;simp only at hbl hpl;have hpl3:pr<w.heap.size+1+1+1:=by omega
 have hbl3:bb<w.heap.size+1+1+1:=by omega
 have hpl2:pr<w.heap.size+1+1:=by omega
 have hbl2:bb<w.heap.size+1+1:=by omega
 have hpl1:pr<w.heap.size+1:=by omega
 have hbl1:bb<w.heap.size+1:=by omega
 have Hn:=hid hn;clear hn hp
 generalize p.toNat=q at *
 subst hpn;have hq2:(q:Int)<2:=by omega
 go_enter Tryz.func42,Tryz.ntmps42
 go_wp2_with (first|(go_at_call 63;refine(qg1 _ _ _).mono ?_;rintro e w1 ⟨rfl,rfl⟩)|(go_at_call 70;refine(qix _ _ _ _ _).mono ?_;rintro e w1 ⟨rfl,rfl⟩))
 refine Mix.wp_region [0,1,2,3,4,5,6,7,8,9,10] [(11,false),(12,false)] [13] (fun _=>default) (by kernel_rfl) (by kernel_rfl) (by decide) ?_
 iterate 11 (first|(refine pre_yes rfl rfl ?_;apply Exists.intro;refine⟨fun W1 hW1 => ?_,?_⟩;(focus (have hc1:=(qal hW1).1;(try simp only[zd,qaa] at hc1);have hk1:=qac.below hW1;go_simp;first|exact rfl|(go_at_call 24;exact qbq _ _ Hn.out)));simp only[Act.put,zk,zh,zi,ze,zm,zn])|(refine pre_no rfl rfl ?_;simp only[Act.put,zk,zh,zi,ze,zm,zn]))
 refine pre_end (fl_op (fl_op fl_nil)) (fun W2 hW2 => ?_);have hz2:=zq hW2;(try simp only[zd,qaa] at hz2);refine mid_call hW2 rfl rfl (fun Kp hKp => ?_);go_simp;refine(qie _ _).mono ?_;rintro e W3 ⟨rfl,rfl⟩;refine⟨_,rfl,hKp _ _ ((zp _ _).alloc (zl _) _) fun W4 hW4 => ?_⟩;simp only[Act.put,zk,zh,zi,ze,zm,zn];have hz4:=zq hW4;(try simp only[zd,qaa] at hz4);have hB4:=qa4 hW4 (qbl ((zp _ _).alloc (zl _) _) hW2 (by first|omega|(simp;done)|(simp;omega)));refine mid_call hB4 rfl rfl (fun Kp2 hKp2 => ?_);go_simp;refine(qhd _ _ _ _).mono ?_;rintro e W5 ⟨rfl,rfl⟩;refine⟨_,rfl,hKp2 _ _ ((zp _ _).alloc (zl _) _) fun W6 hW6 => ?_⟩;simp only[Act.put,zk,zh,zi,ze,zm,zn];have hz6:=zq hW6;(try simp only[zd,qaa] at hz6);refine mid_nil (qco rfl ?_)
 go_wp2_with fail
 go_ret
 refine⟨_,rfl,⟨_,⟨W2.heap.size,(Blk.new W4 _ _).keep hW6,(((Blk.new W2 _ _).keep hW4).alloc _).keep hW6,by omega,by omega,by omega⟩,?_,w.heap.size+1,by omega,?hpp,?hvv⟩,?_⟩
 case hpp=>
  have h1:=(Blk.new (w.alloc (.cells #[.int .i64 ↑n,.bool true] 83)) 185 [.iface T (.pointer (some x))]);rw[show(w.alloc (.cells #[.int .i64 ↑n,.bool true] 83)).heap.size=w.heap.size+1 by simp] at h1;exact(((((h1.alloc _).drew).keep hW2).alloc _ |>.keep hW4).alloc _).keep hW6
 case hvv=>
  have h1:=(Blk.new ((w.alloc (.cells #[.int .i64 ↑n,.bool true] 83)).alloc (.cells #[.iface T (.pointer (some x))] 185)) 191 [.int .i64 0,.pointer (some ⟨pk,0,none⟩),.string ⟨#[]⟩,.iface 145 (.pointer (some ⟨w.heap.size+1,0,none⟩)),.int .u8 4,.bool false]);rw[show((w.alloc (.cells #[.int .i64 ↑n,.bool true] 83)).alloc (.cells #[.iface T (.pointer (some x))] 185)).heap.size=w.heap.size+1+1 by simp] at h1;exact((((h1.drew).keep hW2).alloc _ |>.keep hW4).alloc _).keep hW6
 ·omega
 ·exact(((((zp _ _).alloc (zl _) _).alloc (by simp) _).alloc (by simp <;> omega) _).drew).trans ((hB4.mono (by simp;omega)).trans (((zp _ _).alloc (by omega) _).trans (hW6.mono (by simp;omega))))
def AllV (w:World) (v:Value):Prop:=∃ tl c te cs,v = .slice (some ⟨tl,0,none⟩) 1 c∧1≤c∧Blk w tl 273 (.pointer (some ⟨te,0,none⟩)::cs)∧Blk w te 275 [.bool false,.nilIface]
theorem qed (w:World):Calls Tryz.prog 117 #[] w fun e w'=>e = .returned (.slice (some ⟨w.heap.size+1,0,none⟩) 1 1)∧w'=(w.alloc (.cells #[.bool false,.nilIface] 275)).alloc (.cells #[.pointer (some ⟨w.heap.size,0,none⟩)] 273):=by
 go_enter Tryz.func117,Tryz.ntmps117
 go_wp2_with fail
 go_ret
 exact⟨by simp,rfl⟩
theorem qkq (w:World):Calls Tryz.prog 89 #[] w fun e w'=>e = .returned (.pointer (some ⟨w.heap.size+2,0,none⟩))∧
  w'=((w.alloc (.cells #[.bool false,.nilIface] 275)).alloc (.cells #[.pointer (some ⟨w.heap.size,0,none⟩)] 273)).alloc (.cells #[.bool false,.slice none 0 0,.slice (some ⟨w.heap.size+1,0,none⟩) 1 1,.bool false] 248):=by
 go_enter Tryz.func89,Tryz.ntmps89
 go_wp2_with (go_at_call 117;refine(qed _).mono ?_;rintro e w' ⟨rfl,rfl⟩)
 go_ret
 exact⟨by simp,rfl⟩
def SetAt (w:World) (ts:Nat) (fs:List Nat):Prop:=∃ a c tv,Blk w ts 248 [.bool false,.slice a fs.length c,tv,.bool false]∧w.ownsRow 0 105 1 (.slice a fs.length c) fs.length (qa7 fs)∧AllV w tv
def qqk (w:World) (ts:Nat):Prop:=∃ tv,Blk w ts 248 [.bool false,.slice none 0 0,tv,.bool false]∧AllV w tv
theorem qqk.set {w:World} {ts:Nat} (h:qqk w ts):SetAt w ts []:=by
 obtain⟨tv,h1,h2⟩:=h;exact⟨none,0,tv,h1,zcb _ _ _ _,h2⟩
def qcd (ra:Option Addr) (n rc:Nat) (ea:Option Addr) (m ec:Nat) (ts:Option Nat):List Value:=[.pointer none,.slice ra n rc,.slice ea m ec,.pointer none,.bool false,.bool true,.pointer (ts.map fun b=>⟨b,0,none⟩)]
theorem qok (a1 a2:Option Addr) (c1 c2:Nat) (w:World):Calls Tryz.prog 68 #[.slice a1 0 c1,.slice a2 0 c2] w fun e w'=>∃ b ts,e = .returned (.pointer (some ⟨b,0,none⟩))∧
  Blk w' b 175 (qcd none 0 0 none 0 0 (some ts))∧qqk w' ts∧w.heap.size≤b∧w.heap.size≤ts∧Below w.heap.size w w':=by
 go_enter Tryz.func68,Tryz.ntmps68
 go_wp2_with (go_at_call 89;refine(qkq _).mono ?_;rintro e w' ⟨rfl,rfl⟩)
 go_ret
 refine⟨_,w.heap.size+2,rfl,qbb ?_ _ _,⟨_,(qbb ?_ _ _).alloc _,w.heap.size+1,1,w.heap.size,[],rfl,zl _,((qbb ?_ _ _).alloc _).alloc _,(((qbb rfl _ _).alloc _).alloc _).alloc _⟩,?_,?_,?_⟩
 iterate 5 · first|omega|(simp;done)|(simp;omega)
 ·iterate 4 refine Below.alloc ?_ (by simp <;> omega) _
  exact zp _ _
theorem ta1_yes {D:TypeId} {e:TypeId} (hu:Tryz.prog.underlying D=some (.pointer e)) (v:Value) (w:World):(Instr.typeAssert (.iface D v) 62 D false).run Tryz.prog w = .ok v w:=by
 simp[Instr.typeAssert,run_underlying hu,go_sem]
theorem qaf {w:World} {T:TypeId} {size n c:Nat} {a:Option Addr} {xs:List Value} (h:w.ownsRow 0 T size (.slice a n c) n xs) {g:Nat} (hg:(Value.slice a n c).ownBlock=some g):∃ cs,Blk w g T cs:=by
 obtain⟨-,⟨he,-⟩|⟨g',cap,cur,he,-,hb,-⟩⟩:=h
 ·cases he;cases hg
 ·cases he;cases hg;exact⟨cur.toList,by unfold Blk;simpa using hb⟩
def FB (w:World) (f sg pk:Nat) (n:Int) (rv:Value):Prop:=Blk w f 167 [.int .i64 0,.pointer (some ⟨pk,0,none⟩),.string (qas n),.iface 162 (.pointer (some ⟨sg,0,none⟩)),.bool false,.bool false]∧
 Blk w sg 199 [rv,.pointer none,.pointer none,.pointer none,.bool false]
def VB (w:World) (v pk ib:Nat):Prop:=Blk w v 191 [.int .i64 0,.pointer (some ⟨pk,0,none⟩),.string ⟨#[]⟩,.iface 111 (.pointer (some ⟨ib,0,none⟩)),.int .u8 3,.bool false]
theorem FB.apart {S:Nat→Prop} {w w':World} {f sg pk:Nat} {n:Int} {rv:Value} (h:FB w f sg pk n rv) (k:qag S w w') (h1:¬ S f) (h2:¬ S sg):FB w' f sg pk n rv:=⟨h.1.apart k h1,h.2.apart k h2⟩
theorem Blk.tne {w:World} {a b:Nat} {T U:TypeId} {cs ds:List Value} (h:Blk w a T cs) (k:Blk w b U ds) (hT:T≠U):a≠b:=fun e=>by
 subst e;unfold Blk at h k;rw[h] at k;injection k with k;injection k with _ k;exact hT k
def qsf (L:Nat) (w:World) (k:Nat) (fs sgs:List Nat) (ns:List Int) (pk ib:Nat):Prop:=∀ i (hi:i<fs.length),(i<k→∃ v,L≤v∧FB w fs[i] (sgs.getD i 0) pk (ns.getD i 0) (.pointer (some ⟨v,0,none⟩))∧VB w v pk ib)∧(k≤i→FB w fs[i] (sgs.getD i 0) pk (ns.getD i 0) (.pointer none))
theorem qmh (ra ea:Option Addr) (rc m ec:Nat) (fs sgs:List Nat) (ns:List Int) (pk:Nat) (p:Int) (w0 w:World) (hT:Tabs w0) (hB:Below w0.heap.size w0 w) (h0:0<fs.length)
  (hown:w.ownsRow 0 105 1 (.slice ra fs.length rc) fs.length (qa7 fs)) (hob:∀ g,(Value.slice ra fs.length rc).ownBlock=some g→w0.heap.size≤g)
  (hf:∀ i (hi:i<fs.length),FB w fs[i] (sgs.getD i 0) pk (ns.getD i 0) (.pointer none)∧IsNm (ns.getD i 0)) (hfn:fs.Nodup) (hsn:∀ i j,i<fs.length→j<fs.length→sgs.getD i 0=sgs.getD j 0→i=j)
  (hpk:w.cell? ⟨pk,0,none⟩=some (.string (qbo p))) (hp:p=0∨p=1) (hpkB:∃ cs,Blk w pk 128 cs) (hsl:∀ i,i<fs.length→w0.heap.size≤sgs.getD i 0) (hl:fs.length≤1048576):
  Calls Tryz.prog 68 #[.slice ra fs.length rc,.slice ea m ec] w fun e w'=>∃ ib π,e = .returned (.pointer (some ⟨ib,0,none⟩))∧w.heap.size≤ib∧
   qah (fun b=>(∃ i,i<fs.length∧b=sgs.getD i 0)∨(Value.slice ra fs.length rc).ownBlock=some b) w w'∧Blk w' ib 175 (qcd ra fs.length rc ea m ec none)∧
   Srt (fun i=>rank p (ns.getD i 0)) fs.length π∧w'.ownsRow 0 105 1 (.slice ra fs.length rc) fs.length (qa7 (π.map fun i=>fs.getD i 0))∧qsf w.heap.size w' fs.length fs sgs ns pk ib:=by
 have HT:=hid hT;have HB:=hid hB;have Hown:=hid hown;have Hob:=hid hob;have Hf:=hid hf;have Hfn:=hid hfn;have Hsn:=hid hsn;have Hpk:=hid hpk;have Hp:=hid hp;have Hpl:=hid hpkB;have Hsl:=hid hsl;have hz0:=hB.size;have hpl2:pk<w.heap.size:=hpkB.choose_spec.lt;clear hT hB hown hob hf hfn hsn hpk hp hpkB hsl;have hne0:((fs.length:Int)==0)=false:=by simp;intro e;subst e;simp at h0
 clear h0;go_enter Tryz.func68,Tryz.ntmps68
 go_wp2_with (go_at_call 90;refine(qfu _).mono ?_;rintro e w' ⟨rfl,rfl⟩)
 have HI:=hid (Blk.new w 175 [.pointer none,.slice none 0 0,.slice none 0 0,.pointer none,.bool false,.bool false,.pointer none]);have H1:Hid (qah (fun b=>∃ i,i<fs.length∧b=sgs.getD i 0) w (w.alloc (.cells #[.pointer none,.slice none 0 0,.slice none 0 0,.pointer none,.bool false,.bool false,.pointer none] 175))):=hid (qah.keep ((zp _ _).alloc (zl _) _));have HR0:Hid (qsf w.heap.size (w.alloc (.cells #[.pointer none,.slice none 0 0,.slice none 0 0,.pointer none,.bool false,.bool false,.pointer none] 175)) 0 fs sgs ns pk w.heap.size):=hid fun i hi=>⟨fun h=>by omega,fun _=>((Hf.out i hi).1).apart (S:=fun _=>False) (qag.keep ((zp _ _).alloc (zl _) _)) (fun h=>h) (fun h=>h)⟩;have HS:Hid (∀ g,(Value.slice ra fs.length rc).ownBlock=some g→¬ ∃ i,i<fs.length∧g=sgs.getD i 0):=hid fun g hg ⟨i,hi,e⟩=>by
  obtain⟨cs,hb⟩:=qaf Hown.out hg;exact hb.tne (Hf.out i hi).1.2 (by decide) e
 have HSf:Hid (∀ j,j<fs.length→¬ ∃ i,i<fs.length∧fs.getD j 0=sgs.getD i 0):=hid fun j hj ⟨i,hi,e⟩=>by
  have h1:=(Hf.out j hj).1.1;rw[zu,zr hj] at e;exact h1.tne (Hf.out i hi).1.2 (by decide) e
 have hib:w.heap.size<w.heap.size+1:=zv _;have hta:=fun v w=>ta1_yes Tryz.underlying162 v w
 go_loopw [23] (fun j wr=>∃ k:Nat,k≤fs.length∧j = .int .i64 k∧w.heap.size+1≤wr.heap.size∧Hid (qah (fun b=>∃ i,i<fs.length∧b=sgs.getD i 0) w wr∧qsf w.heap.size wr k fs sgs ns pk w.heap.size∧
   Blk wr w.heap.size 175 [.pointer none,.slice none 0 0,.slice none 0 0,.pointer none,.bool false,.bool false,.pointer none]))
  (fun j _=>fs.length - (intOf j).toNat)
 case atStart=>exact⟨0,by omega,rfl,by simp,hid ⟨H1.out,HR0.out,HI.out⟩⟩
 clear HI H1 HR0
 case round=>
  obtain⟨k,hk,rfl,hz,hst⟩:=hrel;obtain⟨htu,hrv,hib'⟩:=hst.out;have Htu:=hid htu;have Hrv:=hid hrv;have Hib:=hid hib';have Hown2:=hid (qab Hown.out htu.apart HS.out);clear hst htu hrv hib';by_cases hlt:k<fs.length
  ·obtain⟨g,o,rfl,hg⟩:=qeh Hown2.out k hlt;obtain⟨-,hb2⟩:=Hrv.out k hlt;obtain⟨hbf,hbs⟩:=hb2 (zl _);have f0:=hbf.cell 0;have f1:=hbf.cell 1;have f3:=hbf.cell 3;have s0:=hbs.cell 0;have q0:=hbs.soft 0;simp only[zt,zs] at f0 f1 f3 s0;have Hbf:=hid hbf;have Hbs:=hid hbs;have hlf:=hbf.lt;have hls:=hbs.lt;obtain⟨x,hx⟩:∃ x,x=fs[k]:=⟨_,rfl⟩;obtain⟨y,hy⟩:∃ y,y=sgs.getD k 0:=⟨_,rfl⟩;rw[← hx] at hg f0 f1 f3 hlf;rw[← hy] at f3 s0 q0 hls;have Hx:=hid hx;have Hy:=hid hy;clear hx hy hbf hbs hb2
   go_wp2_with fail
   refine Mix.wp_region [0,1,2,3,4,5,6,7,8,9,10,11,12] [(13,false)] [14,15,16] (fun _=>default) (by kernel_rfl) (by kernel_rfl) (by decide) ?_
   iterate 13 (first|(refine pre_yes rfl rfl ?_;apply Exists.intro;refine⟨fun W1 hW1 => ?_,?_⟩;(focus (have hc1:=(qal hW1).1;(try simp only[zd,qaa] at hc1);have hk1:=qac.below hW1;go_simp;first|exact rfl|fail));simp only[Act.put,zk,zh,zi,ze,zm,zn])|(refine pre_no rfl rfl ?_;simp only[Act.put,zk,zh,zi,ze,zm,zn]))
   refine pre_end (fl_op fl_nil) (fun W2 hW2 => ?_);have hz2:=zq hW2;(try simp only[zd,qaa] at hz2);refine mid_call hW2 rfl rfl (fun Kp hKp => ?_);go_simp;refine(qir _ _ _ _ _ _).mono ?_;rintro e W3 ⟨rfl,rfl⟩;refine⟨_,rfl,hKp _ _ ((zp _ _).alloc (zl _) _) fun W4 hW4 => ?_⟩;simp only[Act.put,zk,zh,zi,ze,zm,zn];have hz4:=zq hW4;(try simp only[zd,qaa] at hz4);have hB4:=qa4 hW4 (qbl ((zp _ _).alloc (zl _) _) hW2 (by first|omega|(simp;done)|(simp;omega)));have hB5:Below wr.heap.size wr W4:=((zp _ _).drew).trans (hB4.mono (by simp));have HB5:=hid hB5;have hv4:=(Blk.new W2 191 [.int .i64 0,.pointer (some ⟨pk,0,none⟩),.string ⟨#[]⟩,.iface 111 (.pointer (some ⟨w.heap.size,0,none⟩)),.int .u8 3,.bool false]).keep hW4;have Hv4:=hid hv4;have hs4:=(qac.below hB5) _ _ s0;have hq4:W4.frozen? ⟨y,0,none⟩=false:=by rw[hB5.frozen (p:=⟨y,0,none⟩) hls];exact q0
   have hly:y<W4.heap.size:=by omega
   clear hB4 hB5 hv4 hKp f0 f1 f3 s0 q0 hg hW2 hW4;refine mid_nil (qqy rfl rfl rfl ?_)
   go_wp2_with fail
   go_roundw
   case rel=>
    have hT5:qah (fun b=>∃ i,i<fs.length∧b=sgs.getD i 0) wr (W4.setCell ⟨y,0,none⟩ (.pointer (some ⟨W2.heap.size,0,none⟩))):=(qah.keep HB5.out).trans (qah.setCell _ _ ⟨k,hlt,Hy.out⟩ _);have hA5:qag (fun b=>b=y) wr (W4.setCell ⟨y,0,none⟩ (.pointer (some ⟨W2.heap.size,0,none⟩))):=(qag.keep HB5.out).trans (qag.setCell (fun b=>b=y) W4 (a:=⟨y,0,none⟩) rfl _);refine⟨k+1,by omega,by go_num,by simp;omega,hid ⟨Htu.out.trans hT5,fun i hi=>⟨fun hik => ?_,fun hik => ?_⟩,?_⟩⟩
    ·by_cases e:i=k
     ·subst e;refine⟨W2.heap.size,by omega,⟨?_,?_⟩,?_⟩
      ·exact(Hbf.out.keep HB5.out).other (fun e2=>by
        have:=HSf.out i hi;rw[zu,zr hi] at this;exact this ⟨i,hi,e2.trans Hy.out⟩) _
      ·rw[← Hy.out];have:=(Hbs.out.keep HB5.out);rw[← Hy.out] at this;exact this.set 0 _
      ·exact Hv4.out.other (by simp;omega) _
     ·obtain⟨v,hvL,h1,h2⟩:=(Hrv.out i hi).1 (by omega);exact⟨v,hvL,h1.apart hA5 (fun e2=>HSf.out i hi ⟨k,hlt,by
       rw[zu,zr hi];exact e2.trans Hy.out⟩) (fun e2=>e (Hsn.out i k hi hlt (e2.trans Hy.out))),h2.apart hA5 (Blk.tne h2 (Hy.out ▸ Hbs.out) (by decide))⟩
    ·exact((Hrv.out i hi).2 (by omega)).apart hA5 (fun e2=>HSf.out i hi ⟨k,hlt,by
       rw[zu,zr hi];exact e2.trans Hy.out⟩) (fun e2=>by have:=Hsn.out i k hi hlt (e2.trans Hy.out);omega)
    ·exact Hib.out.apart hA5 (Blk.tne Hib.out (Hy.out ▸ Hbs.out) (by decide))
   case measure=>simp[intOf];omega
  ·obtain rfl:k=fs.length:=by omega
   have hbw:Below w0.heap.size w0 wr:=HB.out.trans (Htu.out.below hz0 fun b hb=>by obtain⟨i,hi,e⟩:=hb;rw[e];exact Hsl.out i hi);have Hso:=hid (qgi ra rc fs (fun _=>pk) (fun _=>p) (fun i=>ns.getD i 0) w0 wr HT.out hbw Hob.out Hown2.out (fun i hi=>by
    obtain⟨v,-,h1,h2⟩:=(Hrv.out i hi).1 hi;have c1:=h1.1.cell 1;have c2:=h1.1.cell 2;simp only[zt,zs] at c1 c2;refine⟨⟨c1,c2,?_,(Hf.out i hi).2,Hp.out,_,_,h1.1⟩,fun e2 => ?_,fun e2 => ?_⟩
    ·have hpl:=zj w _ Hpk.out;exact(zkb (Htu.out.apart.block pk hpl fun⟨j,hj,e⟩=>Hpl.out.choose_spec.tne (Hf.out j hj).1.2 (by decide) e)).trans Hpk.out
    ·obtain⟨cs,hb⟩:=qaf Hown2.out e2;exact hb.tne h1.1 (by decide) rfl
    ·obtain⟨cs,hb⟩:=qaf Hown2.out e2;have hpb:=Hpl.out.choose_spec.apart Htu.out.apart fun⟨j,hj,e⟩=>Hpl.out.choose_spec.tne (Hf.out j hj).1.2 (by decide) e;exact hb.tne hpb (by decide) rfl) Hfn.out hl)
   clear hbw;have HIr:Hid (∀ g,(Value.slice ra fs.length rc).ownBlock=some g→¬ w.heap.size=g):=hid fun g hg e2=>by
    obtain⟨cs,hb⟩:=qaf Hown2.out hg;exact hb.tne Hib.out (by decide) e2.symm
   go_wp2_with (go_at_call 91;refine Hso.out.mono ?_;rintro e w2 ⟨rfl,π,hp1,hp2,hp3⟩;have hb2:=Hib.out.apart hp2.apart (fun e2=>HIr.out _ e2 rfl);have HP1:=hid hp1;have HP2:=hid hp2;have HP3:=hid hp3;have Hb2:=hid hb2;have c1:=hb2.cell 1;have q1:=hb2.soft 1;have c2:=hb2.cell 2;have q2:=hb2.soft 2;have c5:=hb2.cell 5;have q5:=hb2.soft 5;simp only[zt,zs] at c1 c2 c5;have hl2:=hb2.lt;clear hb2 hp1 hp2 hp3)
   go_ret
   have hb3:=((Hb2.out.set 1 (.slice ra fs.length rc)).set 2 (.slice ea m ec)).set 5 (.bool true);have t:∀ (u:World) (j:Nat) (v:Value),qag (fun b=>b=w.heap.size) u (u.setCell ⟨w.heap.size,j,none⟩ v):=fun u j v=>qag.setCell (fun b=>b=w.heap.size) u (a:=⟨w.heap.size,j,none⟩) rfl v;have hA3:=((t w2 1 (.slice ra fs.length rc)).trans (t _ 2 (.slice ea m ec))).trans (t _ 5 (.bool true));have hAw:qah (fun b=>(Value.slice ra fs.length rc).ownBlock=some b∨b=w.heap.size) wr (((w2.setCell ⟨w.heap.size,1,none⟩ (.slice ra fs.length rc)).setCell ⟨w.heap.size,2,none⟩ (.slice ea m ec)).setCell ⟨w.heap.size,5,none⟩ (.bool true)):=
    (HP2.out.mono fun b _ h => .inl h).trans ⟨rfl,rfl,rfl,hA3.mono fun b _ h => .inr h⟩
   refine⟨w.heap.size,π,rfl,zl _,?_,hb3,HP1.out,?_,fun i hi=>⟨fun _ => ?_,fun h=>by omega⟩⟩
   ·have h1:=(Htu.out.mono (S':=fun b=>((∃ i,i<fs.length∧b=sgs.getD i 0)∨(Value.slice ra fs.length rc).ownBlock=some b)∨b=w.heap.size) fun b _ h => .inl (.inl h)).trans (hAw.mono fun b _ h=>by rcases h with h|h;exact .inl (.inr h);exact .inr h);exact h1.mono fun b hb h=>by rcases h with h|h;exact h;omega
   ·exact qab HP3.out hA3 fun g hg e2=>HIr.out g hg e2.symm
   ·obtain⟨v,hvL,h1,h2⟩:=(Hrv.out i hi).1 hi;have nf:∀ {b:Nat} {T:TypeId} {cs:List Value},Blk wr b T cs→T≠105→T≠175→¬ ((Value.slice ra fs.length rc).ownBlock=some b∨b=w.heap.size):=fun hb hT hU h=>by
     rcases h with h|h
     ·obtain⟨cs,hb2⟩:=qaf Hown2.out h;exact hb2.tne hb (fun e=>hT e.symm) rfl
     ·exact hb.tne Hib.out hU h
    exact⟨v,hvL,h1.apart hAw.apart (nf h1.1 (by decide) (by decide)) (nf h1.2 (by decide) (by decide)),h2.apart hAw.apart (nf h2 (by decide) (by decide))⟩
theorem qog (ra ea:Option Addr) (rc m ec:Nat) (w:World) (h0:0<m):
  Calls Tryz.prog 68 #[.slice ra 0 rc,.slice ea m ec] w fun e w'=>∃ ib,e = .returned (.pointer (some ⟨ib,0,none⟩))∧w.heap.size≤ib∧Below w.heap.size w w'∧Blk w' ib 175 (qcd ra 0 rc ea m ec none):=by
 have hne0:((m:Int)==0)=false:=by simp;omega
 go_enter Tryz.func68,Tryz.ntmps68
 go_wp2_with (go_at_call 90;refine(qfu _).mono ?_;rintro e w' ⟨rfl,rfl⟩)
 have HI:=hid (Blk.new w 175 [.pointer none,.slice none 0 0,.slice none 0 0,.pointer none,.bool false,.bool false,.pointer none]);have HB:Hid (Below w.heap.size w (w.alloc (.cells #[.pointer none,.slice none 0 0,.slice none 0 0,.pointer none,.bool false,.bool false,.pointer none] 175))):=hid ((zp _ _).alloc (zl _) _);have hl:w.heap.size<(w.alloc (.cells #[.pointer none,.slice none 0 0,.slice none 0 0,.pointer none,.bool false,.bool false,.pointer none] 175)).heap.size:=by simp
 generalize (w.alloc (.cells #[.pointer none,.slice none 0 0,.slice none 0 0,.pointer none,.bool false,.bool false,.pointer none] 175))=w1 at *
 go_loopw [23] (fun j wr=>j = .int .i64 0∧wr=w1) (fun j _=>0)
 case atStart=>exact⟨rfl,rfl⟩
 case round=>
  obtain⟨rfl,rfl⟩:=hrel;have c1:=HI.out.cell 1;have q1:=HI.out.soft 1;have c2:=HI.out.cell 2;have q2:=HI.out.soft 2;have c5:=HI.out.cell 5;have q5:=HI.out.soft 5;simp only[zt,zs] at c1 c2 c5
  go_wp2_with (go_at_call 91;refine(qfs _ _ _).mono ?_;rintro e w2 ⟨rfl,rfl⟩)
  go_ret
  exact⟨w.heap.size,rfl,zl _,((HB.out.setCell (zl _) _).setCell (zl _) _).setCell (zl _) _,((HI.out.set 1 _).set 2 _).set 5 _⟩
def qr6 (w:World) (k:Nat) (tso:Option Nat):Prop:=(0<k∧tso=none)∨(k=0∧∃ ts,tso=some ts∧qqk w ts)
theorem qoo (ra ea:Option Addr) (rc m ec:Nat) (fs sgs:List Nat) (ns:List Int) (pk:Nat) (p:Int) (w0 w:World) (hT:Tabs w0) (hB:Below w0.heap.size w0 w)
  (hown:w.ownsRow 0 105 1 (.slice ra fs.length rc) fs.length (qa7 fs)) (hob:∀ g,(Value.slice ra fs.length rc).ownBlock=some g→w0.heap.size≤g)
  (hf:∀ i (hi:i<fs.length),FB w fs[i] (sgs.getD i 0) pk (ns.getD i 0) (.pointer none)∧IsNm (ns.getD i 0)) (hfn:fs.Nodup) (hsn:∀ i j,i<fs.length→j<fs.length→sgs.getD i 0=sgs.getD j 0→i=j)
  (hpk:w.cell? ⟨pk,0,none⟩=some (.string (qbo p))) (hp:p=0∨p=1) (hpkB:∃ cs,Blk w pk 128 cs) (hsl:∀ i,i<fs.length→w0.heap.size≤sgs.getD i 0) (hl:fs.length≤1048576):
  Calls Tryz.prog 68 #[.slice ra fs.length rc,.slice ea m ec] w fun e w'=>∃ ib π ra' rc' ea' ec' tso,e = .returned (.pointer (some ⟨ib,0,none⟩))∧w.heap.size≤ib∧
   qah (fun b=>(∃ i,i<fs.length∧b=sgs.getD i 0)∨(Value.slice ra fs.length rc).ownBlock=some b) w w'∧Blk w' ib 175 (qcd ra' fs.length rc' ea' m ec' tso)∧qr6 w' (fs.length+m) tso∧
   (0<m→ea'=ea∧ec'=ec)∧(ra'=ra∧rc'=rc∨ra'=none)∧
   Srt (fun i=>rank p (ns.getD i 0)) fs.length π∧w'.ownsRow 0 105 1 (.slice ra' fs.length rc') fs.length (qa7 (π.map fun i=>fs.getD i 0))∧qsf w.heap.size w' fs.length fs sgs ns pk ib:=by
 by_cases h0:0<fs.length
 ·refine(qmh ra ea rc m ec fs sgs ns pk p w0 w hT hB h0 hown hob hf hfn hsn hpk hp hpkB hsl hl).mono ?_;rintro e w' ⟨ib,π,rfl,h1,h2,h3,h4,h5,h6⟩;exact⟨ib,π,ra,rc,ea,ec,none,rfl,h1,h2,h3,.inl ⟨by omega,rfl⟩,fun _=>⟨rfl,rfl⟩,.inl ⟨rfl,rfl⟩,h4,h5,h6⟩
 ·obtain rfl:fs=[]:=by cases fs with|nil=>rfl|cons=>simp at h0
  by_cases hm:0<m
  ·refine(qog ra ea rc m ec w hm).mono ?_;rintro e w' ⟨ib,rfl,h1,h2,h3⟩;exact⟨ib,[],ra,rc,ea,ec,none,rfl,h1,qah.keep h2,h3,.inl ⟨by simp;omega,rfl⟩,fun _=>⟨rfl,rfl⟩,.inl ⟨rfl,rfl⟩,⟨by simp,by simp⟩,by
    have:=qab hown (qag.keep (S:=fun _=>False) h2) (fun _ _ h=>h);simpa using this,fun i hi=>by simp at hi⟩
  ·obtain rfl:m=0:=by omega
   refine(qok ra ea rc ec w).mono ?_;rintro e w' ⟨b,ts,rfl,h1,h2,h3,-,h4⟩;exact⟨b,[],none,0,none,0,some ts,rfl,h3,qah.keep h4,h1,.inr ⟨rfl,ts,rfl,h2⟩,fun h=>by omega,.inr rfl,⟨by simp,by simp⟩,by
    simpa[qa7] using zcb w' 0 105 1,fun i hi=>by simp at hi⟩
end Go.Proofs.YtaibcdkadbemgaaGreatDoor
namespace Go.Proofs.YtaibcdkadbemgaaGreatDoor
open Go Go.RowKit
theorem qij {rk:Nat→Nat}:∀ {l l':List Nat},l.Perm l'→l.Pairwise (fun i j=>rk i≤rk j)→l'.Pairwise (fun i j=>rk i≤rk j)→(∀ i∈l,∀ j∈l,rk i=rk j→i=j)→l=l'
 | [],l',hp,_,_,_=>by rw[List.nil_perm.1 hp]
 | a::l,[],hp,_,_,_=>by have:=hp.length_eq;simp at this
 | a::l,b::l',hp,h1,h2,hi=>by
  rw[List.pairwise_cons] at h1 h2;have hab:a=b:=by
   have ha:a∈b::l':=hp.mem_iff.1 (zy ..);have hb:b∈a::l:=hp.mem_iff.2 (zy ..);rcases zfb.1 ha with e|ha'
   ·exact e
   rcases zfb.1 hb with e|hb'
   ·exact e.symm
   exact hi a (zy ..) b hb (Nat.le_antisymm (h1.1 b hb') (h2.1 a ha'))
  subst hab;rw[qij ((List.perm_cons a).1 hp) h1.2 h2.2 fun i hi' j hj'=>hi i (zx _ hi') j (zx _ hj')]
theorem qjc (p:Int) (ms:List Meth):Srt (fun i=>rank p (ms.getD i ⟨0,false⟩).name) ms.length (ordM p ms):=by
 refine⟨List.mergeSort_perm _ _,?_⟩;have:=List.pairwise_mergeSort (le:=fun i j=>decide (rank p (ms.getD i ⟨0,false⟩).name≤rank p (ms.getD j ⟨0,false⟩).name)) (fun a b c=>by simp;omega) (fun a b=>by simp;omega) (List.range ms.length);exact this.imp fun h=>by simpa using h
theorem qwl:∀ i:Fin 16,∀ j:Fin 16,∀ p:Fin 2,rank (p.val:Nat) (i.val:Nat)=rank (p.val:Nat) (j.val:Nat)→i=j:=by decide +kernel
theorem qtf {p n m:Int} (hp:p=0∨p=1) (hn:IsNm n) (hm:IsNm m) (h:rank p n=rank p m):n=m:=by
 unfold IsNm at hn hm;have:=qwl ⟨n.toNat,by omega⟩ ⟨m.toNat,by omega⟩ ⟨p.toNat,by omega⟩ (by
  simp only[show((p.toNat:Nat):Int)=p by omega,show((n.toNat:Nat):Int)=n by omega,show((m.toNat:Nat):Int)=m by omega];exact h)
 simp only[Fin.mk.injEq] at this;omega
theorem qb1.get:∀ {l:List Int},qb1 l→∀ i j (hi:i<l.length) (hj:j<l.length),l[i]=l[j]→i=j
 | [],_,i,j,hi,_,_=>by simp at hi
 | a::r,h,0,0,_,_,_=>rfl
 | a::r,h,0,j+1,_,hj,e=>absurd e (h.1 _ (z7 _))
 | a::r,h,i+1,0,hi,_,e=>absurd e.symm (h.1 _ (z7 _))
 | a::r,h,i+1,j+1,hi,hj,e=>by rw[qb1.get h.2 i j (by simpa using hi) (by simpa using hj) (by simpa using e)]
theorem ordM_of {p:Int} {ms:List Meth} {π:List Nat} (hp:p=0∨p=1) (hn:∀ m∈ms,IsNm m.name) (hd:qb1 (ms.map Meth.name)) (h:Srt (fun i=>rank p (ms.getD i ⟨0,false⟩).name) ms.length π):π=ordM p ms:=by
 have h2:=qjc p ms;refine qij (h.1.trans h2.1.symm) h.2 h2.2 fun i hi j hj e => ?_;have hi':i<ms.length:=List.mem_range.1 (h.1.mem_iff.1 hi);have hj':j<ms.length:=List.mem_range.1 (h.1.mem_iff.1 hj);simp only[zu,zr hi',zr hj',Option.getD_some] at e;exact hd.get i j (by simpa using hi') (by simpa using hj') (by simpa using qtf hp (hn _ (z7 _)) (hn _ (z7 _)) e)
def rdA (B:Nat) (w:World) (b j:Nat):Option Value:=if b<B then none else rdT w b j
theorem qnx (B:Nat) (w:World):RdLe (rdA B w) (rdT w):=fun b j v h=>by
 unfold rdA at h;split at h
 ·cases h
 ·exact h
theorem qcu {B:Nat} {w:World} {b j:Nat} {v:Value} (h:rdT w b j=some v) (hb:B≤b):rdA B w b j=some v:=by
 unfold rdA;rw[if_neg (by omega)];exact h
theorem qc8 {B:Nat} {w:World} {b j:Nat} {v:Value} (h:rdA B w b j=some v):rdT w b j=some v∧B≤b:=by
 unfold rdA at h;split at h
 ·cases h
 ·exact⟨h,by omega⟩
theorem qfd {B B':Nat} {w w':World} (hB:B'≤B) (h:RdLe (rdT w) (rdT w')):RdLe (rdA B w) (rdA B' w'):=fun b j v hv=>by
 obtain⟨h1,h2⟩:=qc8 hv;exact qcu (h _ _ _ h1) (by omega)
theorem quh {B B':Nat} {w w':World} {S:Nat→Prop} (hB:B'≤B) (h:qag S w w') (hs:∀ b,S b→b<B):RdLe (rdA B w) (rdA B' w'):=fun b j v hv=>by
 obtain⟨h1,h2⟩:=qc8 hv;obtain⟨cs,T,q1,q2,q3,q4,q5⟩:=qb7 h1;exact qcu (qc4 ((h.block b (qft h1) fun hS=>by have:=hs b hS;omega).trans q1) q2 q3 q4 q5) (by omega)
theorem Blk.rda {w:World} {b B:Nat} {T:TypeId} {cs:List Value} (h:Blk w b T cs) (hB:B≤b) (hT:hidT T=false) (hI:T≠175) (hv:∀ v∈cs,qcq v=some v):BlkR (rdA B w) b cs:=fun j v hc=>qcu (h.rdr hT hI hv j v hc) hB
def objV:Option (Bool×Nat)→Value
 | none => .nilIface
 | some (true,x) => .iface 105 (ptrV x)
 | some (false,x) => .iface 151 (ptrV x)
def IsTy (v:Value):Prop:=∃ T x,v = .iface T (.pointer (some x))
structure Fix where
 W:Wd
 bb:Nat
 pr:Nat
 pc:Nat
 pk0:Nat
 pk1:Nat
 tr:Nat
 tc:Nat
 ob0:Nat
 oc:Nat
 N:Nat
 tb:Nat→Option Value
structure St where
 ob:Nat→Option (Bool×Nat)
 ia:Option Addr
 ic:Nat
 ifs:List (Nat×Spot)
def St.row (s:St):Value := .slice s.ia s.ifs.length s.ic
def Fix.pk (F:Fix) (p:Int):Nat:=if p=0 then F.pk0 else F.pk1
def gOf (F:Fix) (s:St) (r:Nat→Nat→Option Value):G:=⟨F.W,F.tb,s.ob,s.ifs,F.pk,r⟩
structure BOk (F:Fix) (s:St) (w:World):Prop where
 bld:Blk w F.bb 76 [.slice (some ⟨F.pr,0,none⟩) 2 F.pc,.slice (some ⟨F.tr,0,none⟩) F.W.length F.tc,.slice (some ⟨F.ob0,0,none⟩) F.N F.oc,s.row]
 prB:Blk w F.pr 70 [ptrV F.pk0,ptrV F.pk1]
 pk0B:Blk w F.pk0 128 [.string (qbo 0),.string (qbo 0)]
 pk1B:Blk w F.pk1 128 [.string (qbo 1),.string (qbo 1)]
 typ:∃ ts,Blk w F.tr 62 ts∧∀ d,d<F.W.length→ts[d]?=some ((F.tb d).getD .nilIface)
 obj:∃ os,Blk w F.ob0 67 os∧∀ k,k<F.N→os[k]?=some (objV (s.ob k))
 ifr:w.ownsRow 0 111 1 s.row s.ifs.length (qa7 (s.ifs.map (·.1)))
 lt:∀ k f x,s.ob k=some (f,x)→x<w.heap.size
 inj:∀ j k x y,s.ob j=some x→s.ob k=some y→x.2=y.2→j=k
 tbl:∀ d v,F.tb d=some v→IsTy v
 nd:(s.ifs.map (·.1)).Nodup
 il:∀ x∈s.ifs,x.1<w.heap.size
def qa1 (F:Fix) (s:St):Nat→Prop:=fun b=>b=F.bb∨b=F.ob0∨s.row.ownBlock=some b
def qg8 (w:World) (b:Nat):Prop:=∃ ra n rc ea m ec tso,Blk w b 175 (qcd ra n rc ea m ec tso)∧qr6 w (n+m) tso
theorem BOk.pkc {F:Fix} {s:St} {w:World} (h:BOk F s w) {p:Int} (hp:p=0∨p=1):w.cell? ⟨F.pr,p.toNat,none⟩=some (ptrV (F.pk p))∧w.cell? ⟨F.pk p,0,none⟩=some (.string (qbo p)):=by
 rcases hp with rfl|rfl
 ·exact⟨by rw[h.prB.cell];rfl,by show w.cell? ⟨F.pk0,0,none⟩=_;rw[h.pk0B.cell];rfl⟩
 ·exact⟨by rw[h.prB.cell];rfl,by show w.cell? ⟨F.pk1,0,none⟩=_;rw[h.pk1B.cell];rfl⟩
theorem BOk.rowT {F:Fix} {s:St} {w:World} (h:BOk F s w) {b:Nat} (hb:s.row.ownBlock=some b):∃ cs,Blk w b 111 cs:=qaf h.ifr hb
theorem BOk.notTurned {F:Fix} {s:St} {w:World} (h:BOk F s w) {b:Nat} {T:TypeId} {cs:List Value} (hb:Blk w b T cs) (h1:T≠76) (h2:T≠67) (h3:T≠111):¬ qa1 F s b:=fun ht=>by
 rcases ht with e|e|e
 ·exact hb.tne h.bld h1 e
 ·obtain⟨os,ho,-⟩:=h.obj;exact hb.tne ho h2 e
 ·obtain⟨cs',hc⟩:=h.rowT e;exact hb.tne hc h3 rfl
theorem AllV.apart {S:Nat→Prop} {w w':World} {v:Value} (h:AllV w v) (ha:qag S w w') (hs:∀ b T cs,Blk w b T cs→T=273∨T=275→¬ S b):AllV w' v:=by
 obtain⟨tl,c,te,cs,e,h1,h4,h5⟩:=h;exact⟨tl,c,te,cs,e,h1,h4.apart ha (hs _ _ _ h4 (.inl rfl)),h5.apart ha (hs _ _ _ h5 (.inr rfl))⟩
theorem qr6.apart {S:Nat→Prop} {w w':World} {k:Nat} {tso:Option Nat} (h:qr6 w k tso) (ha:qag S w w') (hs:∀ b T cs,Blk w b T cs→T=248∨T=273∨T=275→¬ S b):qr6 w' k tso:=by
 rcases h with h|⟨h,ts,e,tv,h1,h2⟩
 ·exact .inl h
 ·exact .inr ⟨h,ts,e,tv,h1.apart ha (hs _ _ _ h1 (.inl rfl)),h2.apart ha fun b T cs hb hT=>hs b T cs hb (.inr hT)⟩
theorem qg8.apart {S:Nat→Prop} {w w':World} {b:Nat} (h:qg8 w b) (ha:qag S w w') (hs:∀ b T cs,Blk w b T cs→T=248∨T=273∨T=275∨T=175→¬ S b):qg8 w' b:=by
 obtain⟨ra,n,rc,ea,m,ec,tso,h1,h2⟩:=h;exact⟨ra,n,rc,ea,m,ec,tso,h1.apart ha (hs _ _ _ h1 (.inr (.inr (.inr rfl)))),h2.apart ha fun b T cs hb h=>hs b T cs hb (by rcases h with h|h|h;exact .inl h;exact .inr (.inl h);exact .inr (.inr (.inl h)))⟩
theorem qg8.turned {F:Fix} {s:St} {w w':World} {b:Nat} (h:qg8 w b) (hok:BOk F s w) (ha:qag (qa1 F s) w w'):qg8 w' b:=
 h.apart ha fun b T cs hb hT=>hok.notTurned hb (by rcases hT with rfl|rfl|rfl|rfl <;> decide) (by rcases hT with rfl|rfl|rfl|rfl <;> decide) (by rcases hT with rfl|rfl|rfl|rfl <;> decide)
structure BExt (F:Fix) (s:St) (w:World) (s':St) (w':World) (lo hi:Nat):Prop where
 ok:BOk F s' w'
 turns:qah (qa1 F s) w w'
 rd:RdLe (rdT w) (rdT w')
 row:∀ g,s'.row.ownBlock=some g→s.row.ownBlock=some g∨w.heap.size≤g
 same:∀ k,k<lo∨hi≤k→s'.ob k=s.ob k
 grow:∀ k x,s.ob k=some x→s'.ob k=some x
 full:∀ k,lo≤k→k<hi→∃ x,s'.ob k=some x
 ifs:∃ l,s'.ifs=s.ifs++l∧∀ x∈l,w.heap.size≤x.1∧qg8 w' x.1
theorem BExt.size {F:Fix} {s s':St} {w w':World} {lo hi:Nat} (h:BExt F s w s' w' lo hi):w.heap.size≤w'.heap.size:=h.turns.apart.size
theorem BExt.refl {F:Fix} {s:St} {w:World} (h:BOk F s w) (lo:Nat):BExt F s w s w lo lo:=
 ⟨h,qah.refl _ _,RdLe.refl _,fun g hg => .inl hg,fun _ _=>rfl,fun _ _ h=>h,fun k h1 h2=>by omega,[],by simp,fun x hx=>by cases hx⟩
theorem BExt.trans {F:Fix} {s s1 s2:St} {w w1 w2:World} {lo mid hi:Nat} (h:BExt F s w s1 w1 lo mid) (k:BExt F s1 w1 s2 w2 mid hi) (h1:lo≤mid) (h2:mid≤hi):BExt F s w s2 w2 lo hi:=by
 have hz:=h.size;have hT:qah (qa1 F s) w w2:=by
  have a:=h.turns.mono (S':=fun b=>qa1 F s b∨w.heap.size≤b) fun b _ hb => .inl hb;have b:=k.turns.mono (S':=fun b=>qa1 F s b∨w.heap.size≤b) fun b _ hb=>by
   rcases hb with hb|hb|hb
   ·exact .inl (.inl hb)
   ·exact .inl (.inr (.inl hb))
   ·rcases h.row b hb with hb|hb
    ·exact .inl (.inr (.inr hb))
    ·exact .inr hb
  exact(a.trans b).mono fun b hb h=>by rcases h with h|h;exact h;omega
 obtain⟨l1,e1,q1⟩:=h.ifs;obtain⟨l2,e2,q2⟩:=k.ifs;refine⟨k.ok,hT,h.rd.trans k.rd,fun g hg => ?_,fun j hj => ?_,fun j x hx=>k.grow j x (h.grow j x hx),fun j j1 j2 => ?_,l1++l2,by rw[e2,e1,List.append_assoc],fun x hx => ?_⟩
 ·rcases k.row g hg with hg|hg
  ·exact h.row g hg
  ·exact .inr (by omega)
 ·rw[k.same j (by omega),h.same j (by omega)]
 ·by_cases hj:j<mid
  ·obtain⟨x,hx⟩:=h.full j j1 hj;exact⟨x,k.grow j x hx⟩
  ·exact k.full j (by omega) j2
 ·rcases zhb.1 hx with hx|hx
  ·exact⟨(q1 x hx).1,(q1 x hx).2.turned h.ok k.turns.apart⟩
  ·exact⟨by have:=(q2 x hx).1;omega,(q2 x hx).2⟩
theorem BExt.le {F:Fix} {s s':St} {w w':World} {lo hi:Nat} (h:BExt F s w s' w' lo hi) {r r':Nat→Nat→Option Value} (hr:RdLe r r'):G.Le (gOf F s r) (gOf F s' r'):=by
 obtain⟨l,e,-⟩:=h.ifs;exact⟨rfl,rfl,fun _ _ h=>h,h.grow,fun x hx=>by show x∈s'.ifs;rw[e];exact z6 _ hx,hr⟩
theorem BOk.apart {S:Nat→Prop} {F:Fix} {s:St} {w w':World} (h:BOk F s w) (ha:qag S w w') (hs:∀ b T cs,Blk w b T cs→T=76∨T=70∨T=128∨T=62∧b=F.tr∨T=67∨T=111→¬ S b):BOk F s w':=by
 obtain⟨ts,t1,t2⟩:=h.typ;obtain⟨os,o1,o2⟩:=h.obj;exact⟨h.bld.apart ha (hs _ _ _ h.bld (.inl rfl)),h.prB.apart ha (hs _ _ _ h.prB (.inr (.inl rfl))),h.pk0B.apart ha (hs _ _ _ h.pk0B (.inr (.inr (.inl rfl)))),h.pk1B.apart ha (hs _ _ _ h.pk1B (.inr (.inr (.inl rfl)))),
  ⟨ts,t1.apart ha (hs _ _ _ t1 (.inr (.inr (.inr (.inl ⟨rfl,rfl⟩))))),t2⟩,⟨os,o1.apart ha (hs _ _ _ o1 (.inr (.inr (.inr (.inr (.inl rfl)))))),o2⟩,
  qab h.ifr ha fun g hg=>by obtain⟨cs,hc⟩:=h.rowT hg;exact hs _ _ _ hc (.inr (.inr (.inr (.inr (.inr rfl))))),fun k f x e=>by have:=h.lt k f x e;have:=ha.size;omega,h.inj,h.tbl,h.nd,fun x hx=>by have:=h.il x hx;have:=ha.size;omega⟩
theorem BExt.keep {F:Fix} {s:St} {w w':World} (h:BOk F s w) (hb:Below w.heap.size w w') (lo:Nat):BExt F s w s w' lo lo:=
 ⟨h.apart (S:=fun _=>False) (qag.keep hb) (fun _ _ _ _ _ h=>h),qah.keep hb,qa0 hb,fun g hg => .inl hg,fun _ _=>rfl,fun _ _ h=>h,fun k h1 h2=>by omega,[],by simp,fun x hx=>by cases hx⟩
theorem BExt.later {F:Fix} {s s1:St} {w w1 w2:World} {lo hi:Nat} (h:BExt F s w s1 w1 lo hi) {S:Nat→Prop} (ha:qah S w1 w2) (hS:∀ b,S b→w.heap.size≤b)
  (hT:∀ b T cs,Blk w1 b T cs→T=76∨T=70∨T=128∨T=62∧b=F.tr∨T=67∨T=111∨T=248∨T=273∨T=275∨T=175→¬ S b):BExt F s w s1 w2 lo hi:=by
 obtain⟨l,e,q⟩:=h.ifs;have hz:=h.size;have hB:Below w.heap.size w1 w2:=ha.below hz hS;refine⟨h.ok.apart ha.apart fun b T cs hb hx=>hT b T cs hb (by rcases hx with hx|hx|hx|hx|hx|hx;exact .inl hx;exact .inr (.inl hx);exact .inr (.inr (.inl hx));exact .inr (.inr (.inr (.inl hx)));exact .inr (.inr (.inr (.inr (.inl hx))));exact .inr (.inr (.inr (.inr (.inr (.inl hx)))))),?_,fun b j v hv => ?_,h.row,h.same,h.grow,h.full,l,e,fun x hx=>⟨(q x hx).1,(q x hx).2.apart ha.apart fun b T cs hb hx=>hT b T cs hb (.inr (.inr (.inr (.inr (.inr (.inr hx))))))⟩⟩
 ·exact(h.turns.mono (S':=fun b=>qa1 F s b∨w.heap.size≤b) (fun b _ hb => .inl hb)).trans (ha.mono fun b _ hb => .inr (hS b hb)) |>.mono fun b hb hx=>by rcases hx with hx|hx;exact hx;omega
 ·have hlt:=qft hv;obtain⟨cs,T,q1,q2,q3,q4,q5⟩:=qb7 (h.rd _ _ _ hv);exact qc4 ((hB.block b hlt).trans q1) q2 q3 q4 q5
