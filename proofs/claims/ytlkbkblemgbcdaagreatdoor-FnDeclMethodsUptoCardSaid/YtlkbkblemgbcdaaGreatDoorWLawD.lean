import Derived.Test.YtlkbkblemgbcdaaGreatDoorWLawA
set_option linter.all false
set_option maxHeartbeats 8000000
namespace Go.Proofs.YtlkbkblemgbcdaaGreatDoor
open Go Go.RowKit
set_option maxRecDepth 100000
theorem named_any (d:Int) (w:World):Calls Tryz.prog 16 #[.int .i64 d] w (qa2 (.agg #[.int .i64 1,.int .i64 d,.slice none 0 0,.slice none 0 0,.slice none 0 0,.slice none 0 0]) w):=by
 go_enter Tryz.func16,Tryz.ntmps16
 go_wp2_with fail
 (try simp only[Exit.inBlock,Exit.then])
 refine bodyPost_ret (qd1 (v := .agg #[.int .i64 1,.int .i64 d,.slice none 0 0,.slice none 0 0,.slice none 0 0,.slice none 0 0]) rfl _ _ _ rfl ?_) rfl ?_
 ·go_simp
 ·exact⟨rfl,(zp _ _).alloc (zl _) _⟩
def ndT (d:Nat):Ty := .mk 1 d [] [] [] []
theorem tyC_nd {w:World} {d:Nat} (h:d≤1048576):TyC w (ndT d) [.int .i64 1,.int .i64 d,.slice none 0 0,.slice none 0 0,.slice none 0 0,.slice none 0 0]:=by
 unfold ndT;simp only[TyC];refine⟨none,0,none,0,none,0,none,0,rfl,⟨zl _,zl _,zl _,zl _⟩,⟨by omega,by omega⟩,⟨by omega,by omega⟩,?_,?_,?_,?_⟩
 ·simp only[TysR]
 ·simp only[FdsR]
 ·simp only[MsR]
 ·simp only[TysR]
theorem has_yes (l:List Nat) (hl:l.length≤4294967296) (a:Option Addr) (c:Nat) (w:World) (h:w.ownsRow 0 3 1 (.slice a l.length c) l.length (qbh l)) (j:Nat) (hj:j<l.length) (v:Nat) (hv:l.getD j 0=v):
  Calls Tryz.prog 20 #[.slice a l.length c,.int .i64 v] w (qa2 (.bool true) w):=by
 have HG:=hid fun k hk=>qqi h (k:=k) hk;have Hv:=hid hv;obtain⟨n,hn⟩:∃ n,n=l.length:=⟨_,rfl⟩;rw[← hn] at hl HG hj ⊢;clear h hn hv;go_enter Tryz.func20,Tryz.ntmps20
 go_wp2_with fail
 go_loopw [9] (fun jv wr=>∃ k:Nat,k≤j∧jv = .int .i64 k∧Hid (Below w.heap.size w wr)) (fun jv _=>n - (intOf jv).toNat)
 case atStart=>exact⟨0,Nat.zero_le _,rfl,hid (zp _ _)⟩
 case round=>
  obtain⟨k,hk,rfl,HB⟩:=hrel;have hlt:k<n:=by omega
  have hlt':(k:Int)<(n:Int):=by omega
  refine(HG.out k hlt).elim fun g r1 => ?_;have e1:=r1.1;have c1:=r1.2 _ HB.out;clear r1 HG;subst e1;obtain⟨u,hu⟩:∃ u,u=l.getD k 0:=⟨_,rfl⟩;rw[← hu] at c1;have Hu:=hid hu;clear hu;by_cases he:u=v
  ·subst he
   go_wp2_with fail
   go_ret
   exact⟨rfl,HB.out⟩
  ·have hkj:k≠j:=fun e=>he (by rw[Hu.out,e];exact Hv.out);have he2:((u:Int)==(v:Int))=false:=beq_eq_false_iff_ne.2 (by omega)
   go_wp2_with fail
   go_roundw
   case rel=>exact⟨k+1,by omega,by go_num,HB⟩
   case measure=>simp[intOf];omega
theorem lawDeclMethods (W:Wd) (a:Option Addr) (c:Nat) (w:World) (hW:WOk w W a c) (hT:Tabs w) (d:Int) (hd64:i64 d):
  Calls Tryz.prog 5 #[.slice a W.length c,.int .i64 d] w (qa2 (.bool true) w):=by
 have hl:=qbk W;have hbk:=hW.bulk;have hlen:(W.length:Int)≤2147483647:=by omega
 by_cases h0:d<0
 ·have h0':decide (d<0)=true:=by simpa using h0
  clear hW hT hl hbk;go_enter Tryz.func5,Tryz.ntmps5
  go_wp2_with fail
  go_ret
  exact⟨rfl,zp _ _⟩
 have h0':decide (d<0)=false:=by simpa using h0
 by_cases h1:(W.length:Int)≤d
 ·have h1':decide ((W.length:Int)≤d)=true:=by simpa using h1
  clear hW hT hl hbk h0 h1;go_enter Tryz.func5,Tryz.ntmps5
  go_wp2_with fail
  go_ret
  exact⟨rfl,zp _ _⟩
 obtain⟨k,rfl⟩:∃ k:Nat,d=k:=⟨d.toNat,by omega⟩;have hk:k<W.length:=by omega
 have hki:(k:Int)<(W.length:Int):=by omega
 have hkd:decide (W.length≤k)=false:=by simpa using hk
 obtain⟨b,o,a1,c1,a2,c2,a3,c3,a4,c4,a5,c5,rfl,h5,-,-,-,-,hcc⟩:=hW.row.get k hk;rw[← qcg hk] at hcc;obtain⟨-,-,e2,-,-,-,-,-,-,e9⟩:=ten hcc;have hW':=hW;have HW:=hid hW;have HT:=hid hT;have HF:=hid fun w' (h:Below w.heap.size w w')=>qvj W (some ⟨b,o,none⟩) c (ndT k) _ 0 0 w' (hW.keep (qac.below h)) (by simp[ndT,Ty.bulk,qbt,qcm]) (tyC_nd (by omega));have HNa:=hid fun w'=>named_any (k:Int) w';have HWk:=hid fun w' (h:Below w.heap.size w w')=>qtr w' (hT.below h);have hml:(dc W k).methods.length≤1048576:=by have:=qfe hk;unfold Dc.bulk at this;omega
 cases hal:(dc W k).alias with
 | true=>
  rw[hal] at e2;clear hW hT hl hbk hcc hW' h0 h1 HF HNa e9;go_enter Tryz.func5,Tryz.ntmps5
  go_wp2_with fail
  go_ret
  exact⟨rfl,zp _ _⟩
 | false=>
  rw[hal] at e2;have HE:=hid (And.intro e2 e9);have HD:=hid fun w' (h:Below w.heap.size w w') (hA:Asked W (ndT k) 0 0)=>declMethods_any W (some ⟨b,o,none⟩) c w' (ndT k) hA.2.2.1 hA.2.2.1.nm (hW.keep (qac.below h)) (hT.below h) k hk hal;have HWd:=hid fun w' (h:Below w.heap.size w w')=>qsu W (some ⟨b,o,none⟩) c w' (hW.keep (qac.below h));have hst:=qc2 hk;have hst2:=qdk W (show k+1≤W.length from hk);have hst3:=qcv W W.length;unfold qi8 at hst;have hsl:start W k+(dc W k).methods.length≤4294967296:=by omega
  have Hhk:=hid hk;obtain⟨st,hs⟩:∃ st,st=start W k:=⟨_,rfl⟩;obtain⟨n,hn⟩:∃ n,n=(dc W k).methods.length:=⟨_,rfl⟩;rw[← hs] at hsl HD;rw[← hn] at hsl hml HD e9 HE;have Hs:=hid hs;have Hbk:=hid hbk;clear hW hT hl hbk hcc hW' h0 h1 hst hst2 hst3 hs hal h5 hn e2 e9;have e2:=HE.out.1;have e9:=HE.out.2;clear HE;go_enter Tryz.func5,Tryz.ntmps5
  go_wp2_with (first
   | (go_at_call 16;refine(HNa.out _).mono ?_;rintro e w1 ⟨rfl,hb1⟩;have HB1:=hid hb1;clear hb1)
   | (go_at_call 11;refine(HF.out _ HB1.out).mono ?_;rintro e w2 ⟨bb,rfl,hA,hb2⟩;have HA:=hid hA;have HB2:=hid (HB1.out.trans (hb2.mono HB1.out.size));clear hb2 hA;cases bb)
   | (go_at_call 17;refine(HD.out _ HB2.out (HA.out (by simp))).mono ?_;rintro e w3 ⟨x,rfl,H3⟩;have HB3:=hid (HB2.out.trans (H3.out.2.mono HB2.out.size)))
   | (go_at_call 18;refine(HWd.out _ HB3.out).mono ?_;rintro e w4 ⟨wa,wc,rfl,hwc,hwd,hb4⟩;have Hwd:=hid (And.intro hwc (hwd.keep (qac.show _ _)));have Hb4:=hid hb4;clear hwd hb4 hwc)
   | (go_at_call 19;refine(qoi W wa wc k w4 Hwd.out.2 (Nat.le_of_lt Hhk.out) Hwd.out.1 Hbk.out).mono ?_;rw[← Hs.out];rintro e w5 ⟨rfl,hb5⟩;have H35:Hid (Below w3.heap.size w3 w5):=hid (Hb4.out.trans (hb5.mono Hb4.out.size));have HB5:=hid (HB3.out.trans (H35.out.mono HB3.out.size));have g9:=qac.below HB5.out _ _ e9;clear hb5))
  ·go_ret
   exact⟨rfl,HB2.out⟩
  have HR5:=hid (qab (S:=fun _=>False) H3.out.1 (qag.keep H35.out) fun _ _ h=>h)
  go_loopw [55] (fun jv wr=>∃ j:Nat,j≤n∧jv = .int .i64 j∧Hid (Below w5.heap.size w5 wr)) (fun jv _=>n - (intOf jv).toNat)
  case atStart=>exact⟨0,Nat.zero_le _,rfl,hid (zp _ _)⟩
  case round=>
   obtain⟨j,hj,rfl,HBr⟩:=hrel;by_cases hjn:j<n
   ·have hjn':(j:Int)<(n:Int):=by omega
    have hlen2:((List.range n).map fun k=>st+k).length=n:=by simp
    have HH:Hid (∀ v:Int,v=((st+j:Nat):Int)→Calls Tryz.prog 20 #[.slice x.1 n x.2,.int .i64 v] wr (qa2 (.bool true) wr)):=hid fun v hv=>by
     subst hv;have h:=has_yes ((List.range n).map fun k=>st+k) (by omega) x.1 x.2 wr (by rw[hlen2];exact qab (S:=fun _=>False) HR5.out (qag.keep HBr.out) fun _ _ h=>h) j (by omega) (st+j) (by simp[zv,hjn]);rw[hlen2] at h;exact h
    have hw:IntKind.i64.wrap ((st:Int)+(j:Int))=((st+j:Nat):Int):=by
     rw[qni _ (by omega) (by omega)];omega
    clear hlen2
    go_wp2_with (go_at_call 20;refine(HH.out _ (by first|rfl|omega|simp)).mono ?_;rintro e w6 ⟨rfl,hb6⟩;have HB6:=hid (HBr.out.trans (hb6.mono HBr.out.size));clear hb6)
    go_roundw
    case rel=>exact⟨j+1,hjn,by go_num,HB6⟩
    case measure=>simp[intOf];omega
   ·obtain rfl:j=n:=by omega
    have HB7:=hid (HB5.out.trans (HBr.out.mono HB5.out.size))
    go_wp2_with (go_at_call 13;refine(HWk.out _ HB7.out).mono ?_;rintro e w8 ⟨rfl,hb8⟩;have HB8:=hid (HB7.out.trans (hb8.mono HB7.out.size));clear hb8)
    go_ret
    exact⟨rfl,HB8.out⟩
