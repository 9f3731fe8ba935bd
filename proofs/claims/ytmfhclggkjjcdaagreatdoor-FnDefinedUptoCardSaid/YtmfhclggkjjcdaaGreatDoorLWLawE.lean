import Derived.Test.YtmfhclggkjjcdaaGreatDoorLWWrapC
import Derived.Test.YtmfhclggkjjcdaaGreatDoorL40
import Derived.Test.YtmfhclggkjjcdaaGreatDoorLWIsI
import Derived.Test.YtmfhclggkjjcdaaGreatDoorL39
import Derived.Test.YtmfhclggkjjcdaaGreatDoorLWNai4
set_option linter.all false
set_option maxHeartbeats 8000000
namespace Go.Proofs.YtmfhclggkjjcdaaGreatDoor
open Go Go.RowKit Go.Proofs.Tryz
set_option maxRecDepth 100000
theorem def_walk (n:Nat) (c:Nat) (w:World) (k:Nat) (hk:k<n) (hn:n≤1048576) (addr:Bool) (p m:Int) (b o:Nat) (al:Bool) (kd nm:Int) (ml:Nat) (am:Option Addr) (cm:Nat)
  (e2:w.cell? ⟨b,o+k * 10+2,none⟩=some (.bool al)) (e3:w.cell? ⟨b,o+k * 10+3,none⟩=some (.int .i64 kd)) (e4:w.cell? ⟨b,o+k * 10+4,none⟩=some (.int .i64 nm)) (e9:w.cell? ⟨b,o+k * 10+9,none⟩=some (.slice am ml cm))
  (alJ:Nat→Bool) (eJ:∀ j,j<n→w.cell? ⟨b,o+j * 10+2,none⟩=some (.bool (alJ j))) (A:Prop)
  (hF:∀ cs w',Below w.heap.size w w'→TyC w' (ndT k) cs→Calls prog 6 #[.slice (some ⟨b,o,none⟩) n c,.agg cs.toArray,.int .i64 p,.int .i64 m] w' fun e w2=>∃ b,e = .returned (.bool b)∧(b=true→A)∧Below w'.heap.size w' w2)
  (hj:A→kd=1→∃ j:Nat,nm=j∧j<n)
  (WdR':World→Option Addr→Prop)
  (hWd:∀ w',Below w.heap.size w w'→Calls prog 13 #[.slice (some ⟨b,o,none⟩) n c] w' fun e w2=>∃ (a':Option Addr) (c':Nat),e = .returned (.slice a' n c')∧n≤c'∧WdR' w2 a'∧Below w'.heap.size w' w2)
  (isI:Nat→Bool) (hI:∀ (j:Nat) a' c' cs w',j<n→A→n≤c'→WdR' w' a'→TyC w' (ndT j) cs→Calls prog 18 #[.slice a' n c',.agg cs.toArray] w' (qa2 (.bool (isI j)) w'))
  (hWk:∀ w',Below w.heap.size w w'→Calls prog 16 #[] w' (qa2 (.bool true) w'))
  (hSm:∀ (o:Int) (m i:Bool) (ix:List Nat) (a1 a2:Option Addr) (c1 c2:Nat) w',ix.length≤4294967296→w'.ownsRow 0 3 1 (.slice a1 ix.length c1) ix.length (qbh ix)→w'.ownsRow 0 3 1 (.slice a2 ix.length c2) ix.length (qbh ix)→Calls prog 12 #[.agg #[.int .i64 o,.bool m,.slice a1 ix.length c1,.bool i],.agg #[.int .i64 o,.bool m,.slice a2 ix.length c2,.bool i]] w' (qa2 (.bool true) w'))
  (o0 o1 o2:Int) (m0 m1 m2 i0 i1 i2:Bool) (ix0 ix1 ix2:List Nat) (hi1:ix1.length≤4294967296)
  (hQ:∀ j:Nat,A→al=false→kd=1→nm=j→j<n→alJ j=false→ml=0→(m0=true∧ix0.length=1∧isI j=false)∨
   ((decide (o2<0)&&!m2&&!i2&&decide (0<ix2.length))=true∧(decide (o1<0)&&!m1&&!i1&&decide (0<ix1.length))=true∧ix1.length=ix2.length)∨
   ((decide (o2<0)&&!m2&&!i2&&decide (0<ix2.length))=false∧o2=o1∧m2=m1∧i2=i1∧ix2=ix1))
  (hG0:∀ (j:Nat) cs w',Below w.heap.size w w'→A→kd=1→nm=j→TyC w' (ndT j) cs→Calls prog 10 #[.slice (some ⟨b,o,none⟩) n c,.agg cs.toArray,.bool true,.int .i64 p,.int .i64 m] w' (AnsPost o0 m0 ix0 i0 w'))
  (hG1:∀ cs w',Below w.heap.size w w'→A→TyC w' (ndT k) cs→Calls prog 10 #[.slice (some ⟨b,o,none⟩) n c,.agg cs.toArray,.bool addr,.int .i64 p,.int .i64 m] w' (AnsPost o1 m1 ix1 i1 w'))
  (hG2:∀ (j:Nat) cs w',Below w.heap.size w w'→A→kd=1→nm=j→TyC w' (ndT j) cs→Calls prog 10 #[.slice (some ⟨b,o,none⟩) n c,.agg cs.toArray,.bool addr,.int .i64 p,.int .i64 m] w' (AnsPost o2 m2 ix2 i2 w')):
  Calls prog 4 #[.slice (some ⟨b,o,none⟩) n c,.int .i64 k,.bool addr,.int .i64 p,.int .i64 m] w (qa2 (.bool true) w):=by
 have HF:=hid hF;have HWd:=hid hWd;have HIf:=hid hI;have HWk:=hid hWk;have HSm:=hid hSm;have HG0:=hid hG0;have HG1:=hid hG1;have HG2:=hid hG2;have HQ:=hid hQ;have Hj:=hid hj;have HeJ:=hid eJ;have Hi1:=hid hi1;have Hk:Hid (k≤1048576):=hid (by omega);have Hn:=hid hn;have hlen:(n:Int)≤2147483647:=by omega
 have hki:(k:Int)<(n:Int):=by omega
 have hkd:decide (n≤k)=false:=by simpa using hk
 have hk0:decide ((k:Int)<0)=false:=by simp
 have HB0:Hid (Below w.heap.size w w):=hid (zp _ _);have E2:=hid e2;have E3:=hid e3;have E4:=hid e4;have E9:=hid e9;clear hF hWd hI hWk hSm hG0 hG1 hG2 hQ hj eJ hi1 hn e2 e3 e4 e9;go_enter func4,ntmps4
 go_wp2_with fail
 refine(named_any _ _).mono ?_;rintro e n1 ⟨rfl,hbn⟩;have HN1:=bel_ HB0 hbn;clear hbn;have HI1:Hid (TyC n1 (ndT k) [.int .i64 1,.int .i64 k,.slice none 0 0,.slice none 0 0,.slice none 0 0,.slice none 0 0]):=hid (tyC_nd Hk.out)
 go_wp2_with fail
 refine(HF.out _ n1 HN1.out HI1.out).mono ?_;rintro e w3 ⟨bb,rfl,hA,hb3⟩;have HA3:=hid hA;have HB3:=bel_ HN1 hb3;clear hb3 hA;cases bb
 ·go_wp2_with fail
  go_ret
  exact⟨rfl,HB3.out⟩
 have HAs:=hid (HA3.out rfl);clear HA3;have e2:=qac.below HB3.out _ _ E2.out;have e3:=qac.below HB3.out _ _ E3.out;have e4:=qac.below HB3.out _ _ E4.out;have e9:=qac.below HB3.out _ _ E9.out;cases al with
 | true=>
  go_wp2_with fail
  go_ret
  exact⟨rfl,HB3.out⟩
 | false=>
 by_cases hkd1:kd=1
 ·subst hkd1;obtain⟨j,rfl,hjn⟩:=Hj.out HAs.out rfl;have hji:(j:Int)<(n:Int):=by omega
  have hjd:decide (n≤j)=false:=by simpa using hjn
  have eJ:=qac.below HB3.out _ _ (HeJ.out j hjn);have HQj:=hid (fun h1 h2=>HQ.out j HAs.out rfl rfl rfl hjn h1 h2);have Hjk:Hid (j≤1048576):=hid (by have:=Hn.out;omega);obtain⟨aj,haj⟩:∃ aj,aj=alJ j:=⟨_,rfl⟩;rw[← haj] at eJ HQj;clear haj;cases aj with
  | true=>
   go_wp2_with fail
   go_ret
   exact⟨rfl,HB3.out⟩
  | false=>
  by_cases hml:ml=0
  ·subst hml;have HR:=hid (HQj.out rfl rfl);clear HQj HQ
   go_wp2_with fail
   refine(named_any _ _).mono ?_;rintro e n4 ⟨rfl,hbn⟩;have HN4:=bel_ HB3 hbn;clear hbn;have HI4:Hid (TyC n4 (ndT j) [.int .i64 1,.int .i64 j,.slice none 0 0,.slice none 0 0,.slice none 0 0,.slice none 0 0]):=hid (tyC_nd Hjk.out);clear e2 e3 e4 e9 eJ
   go_wp2_with fail
   refine(HG0.out j _ n4 HN4.out HAs.out (by trivial) (by first|rfl|trivial) HI4.out).mono ?_;rintro e w6 ⟨x6,rfl,H6⟩;have HB6:=bel_ HN4 H6.out.2;clear H6;have HB7:Hid (Below w.heap.size w (w6.alloc (.cells #[.int .i64 o0,.bool m0,.slice x6.1 ix0.length x6.2,.bool i0] 35))):=hid (HB6.out.alloc HB6.out.size _);have HB7':Hid (∀ m,Below w.heap.size w (w6.alloc (.cells #[.int .i64 o0,.bool m,.slice x6.1 ix0.length x6.2,.bool i0] 35))):=hid fun m=>HB6.out.alloc HB6.out.size _;have cont:Hid (∃ w8,Below w.heap.size w w8):=hid ⟨_,HB6.out⟩;clear cont;cases m0 with
   | false=>
    go_wp2_with fail
    have HB8:=hid (HB7'.out false);clear HB7'
    generalize (w6.alloc (.cells #[.int .i64 o0,.bool false,.slice x6.1 ix0.length x6.2,.bool i0] 35))=w8 at HB8 ⊢
    have HR2:=hid (HR.out.elim (fun h=>by have:=h.1;cases this) id);clear HR;refine(named_any _ _).mono ?_;rintro e n9 ⟨rfl,hbn⟩;have HN9:=bel_ HB8 hbn;clear hbn;have HI9:Hid (TyC n9 (ndT k) [.int .i64 1,.int .i64 k,.slice none 0 0,.slice none 0 0,.slice none 0 0,.slice none 0 0]):=hid (tyC_nd Hk.out)
    go_wp2_with fail
    refine(HG1.out _ n9 HN9.out HAs.out HI9.out).mono ?_;rintro e w10 ⟨x9,rfl,H10⟩;have HB10:=bel_ HN9 H10.out.2
    go_wp2_with fail
    refine(named_any _ _).mono ?_;rintro e n11 ⟨rfl,hbn⟩;have HN11:=bel_ HB10 hbn;have HR11:=row_ H10.out.1 hbn;clear hbn H10;have HI11:Hid (TyC n11 (ndT j) [.int .i64 1,.int .i64 j,.slice none 0 0,.slice none 0 0,.slice none 0 0,.slice none 0 0]):=hid (tyC_nd Hjk.out)
    go_wp2_with fail
    refine(HG2.out j _ n11 HN11.out HAs.out (by trivial) (by first|rfl|trivial) HI11.out).mono ?_;rintro e w12 ⟨x11,rfl,H12⟩;have HB12:=bel_ HN11 H12.out.2;have HR12:=row_ HR11.out H12.out.2
    go_wp2_with fail
    have HK13:Hid (Below w12.heap.size w12 ((w12.alloc (.cells #[.int .i64 o1,.bool m1,.slice x9.1 ix1.length x9.2,.bool i1] 35)).alloc (.cells #[.int .i64 o2,.bool m2,.slice x11.1 ix2.length x11.2,.bool i2] 35))):=hid (((zp _ _).alloc (zl _) _).alloc (by simp) _);have HB13:=bel_ HB12 HK13.out;have HE13:Hid (Blk ((w12.alloc (.cells #[.int .i64 o1,.bool m1,.slice x9.1 ix1.length x9.2,.bool i1] 35)).alloc (.cells #[.int .i64 o2,.bool m2,.slice x11.1 ix2.length x11.2,.bool i2] 35)) w12.heap.size 35 [.int .i64 o1,.bool m1,.slice x9.1 ix1.length x9.2,.bool i1]):=hid ((Blk.new w12 35 [.int .i64 o1,.bool m1,.slice x9.1 ix1.length x9.2,.bool i1]).alloc _);have HF13:Hid (Blk ((w12.alloc (.cells #[.int .i64 o1,.bool m1,.slice x9.1 ix1.length x9.2,.bool i1] 35)).alloc (.cells #[.int .i64 o2,.bool m2,.slice x11.1 ix2.length x11.2,.bool i2] 35)) (w12.heap.size+1) 35 [.int .i64 o2,.bool m2,.slice x11.1 ix2.length x11.2,.bool i2]):=hid (by
     have h:=Blk.new (w12.alloc (.cells #[.int .i64 o1,.bool m1,.slice x9.1 ix1.length x9.2,.bool i1] 35)) 35 [.int .i64 o2,.bool m2,.slice x11.1 ix2.length x11.2,.bool i2];rw[zd] at h;exact h)
    have HR13:=row_ HR12.out HK13.out;have HQ13:=row_ H12.out.1 HK13.out;clear HR12 H12 HK13 HR11
    generalize ((w12.alloc (.cells #[.int .i64 o1,.bool m1,.slice x9.1 ix1.length x9.2,.bool i1] 35)).alloc (.cells #[.int .i64 o2,.bool m2,.slice x11.1 ix2.length x11.2,.bool i2] 35))=w13 at HB13 HE13 HF13 HR13 HQ13 ⊢
    generalize w12.heap.size=b1 at HE13 HF13 ⊢
    refine(ambiguous_any o2 m2 i2 ix2.length x11.2 x11.1 w13).mono ?_;rintro e w14 ⟨rfl,hb14⟩;have HE14:=hid (HE13.out.keep hb14);have HF14:=hid (HF13.out.keep hb14);have HB14:=bel_ HB13 hb14;have HR14:=row_ HR13.out hb14;have HQ14:=row_ HQ13.out hb14;clear hb14 HE13 HF13 HR13 HQ13;refine HR2.out.elim (fun h => ?_) fun h => ?_
    ·have ha2:=h.1;have ha1:=h.2.1;have hL:=h.2.2;clear h HR2;rw[ha2];have HAm:=hid fun w'=>ambiguous_any o1 m1 i1 ix1.length x9.2 x9.1 w';rw[ha1] at HAm;rw[← hL] at HF14;clear ha1 ha2 hL HQ14;have e0:=HE14.out.cell 0;have e1:=HE14.out.cell 1;have e2:=HE14.out.cell 2;have e3:=HE14.out.cell 3;simp only[zu,zt] at e0 e1 e2 e3
     go_wp2_with fail
     refine(HAm.out w14).mono ?_;rintro e w15 ⟨rfl,hb15⟩;have HE15:=hid (HE14.out.keep hb15);have HF15:=hid (HF14.out.keep hb15);have HB15:=bel_ HB14 hb15;clear hb15 e0 e1 e2 e3;have e2:=HE15.out.cell 2;have f2:=HF15.out.cell 2;simp only[zu,zt] at e2 f2
     go_wp2_with fail
     go_ret
     exact⟨rfl,HB15.out⟩
    ·have ha2:=h.1;obtain⟨g1,g2,g3,g4⟩:=h.2;clear h HR2;rw[ha2];clear ha2;subst g1 g2 g3 g4
     go_wp2_with fail
     refine(HWk.out _ HB14.out).mono ?_;rintro e w15 ⟨rfl,hb15⟩;have HE15:=hid (HE14.out.keep hb15);have HF15:=hid (HF14.out.keep hb15);have HB15:=bel_ HB14 hb15;have HR15:=row_ HR14.out hb15;have HQ15:=row_ HQ14.out hb15;clear hb15;have e0:=HE15.out.cell 0;have e1:=HE15.out.cell 1;have e2:=HE15.out.cell 2;have e3:=HE15.out.cell 3;have f0:=HF15.out.cell 0;have f1:=HF15.out.cell 1;have f2:=HF15.out.cell 2;have f3:=HF15.out.cell 3;simp only[zu,zt] at e0 e1 e2 e3 f0 f1 f2 f3
     go_wp2_with fail
     refine(HSm.out _ _ _ _ x9.1 x11.1 x9.2 x11.2 w15 Hi1.out HR15.out HQ15.out).mono ?_;rintro e w16 ⟨rfl,hb16⟩;have HB16:=bel_ HB15 hb16;clear hb16
     go_wp2_with fail
     go_ret
     exact⟨rfl,HB16.out⟩
   | true=>
    by_cases hl0:ix0.length=1
    ·go_wp2_with fail
     have HB8:=hid (HB7'.out true);rw[hl0] at HB8;clear HB7'
     generalize (w6.alloc (.cells #[.int .i64 o0,.bool true,.slice x6.1 1 x6.2,.bool i0] 35))=wa at HB8 ⊢
     refine(HWd.out _ HB8.out).mono ?_;rintro e wb ⟨aw,cw,rfl,hcw,hwd,hbb⟩;have HWa:=hid hwd;have HCa:=hid hcw;have HBb:=bel_ HB8 hbb;clear hbb hwd hcw HB8
     go_wp2_with fail
     refine(HIf.out j aw cw _ wb hjn HAs.out HCa.out HWa.out (tyC_nd Hjk.out)).mono ?_;rintro e w8 ⟨rfl,hb8⟩;have HB8:=bel_ HBb hb8;clear hb8 HBb;obtain⟨ii,hii⟩:∃ ii,ii=isI j:=⟨_,rfl⟩;rw[← hii] at HR ⊢;clear hii;cases ii with
     | false=>
      go_wp2_with fail
      refine(HWk.out _ HB8.out).mono ?_;rintro e w9 ⟨rfl,hb9⟩;have HB9:=bel_ HB8 hb9;clear hb9
      go_wp2_with fail
      go_ret
      exact⟨rfl,HB9.out⟩
     | true=>
      go_wp2_with fail
      have HR2:=hid (HR.out.elim (fun h=>by have:=h.2.2;cases this) id);clear HR;refine(named_any _ _).mono ?_;rintro e n9 ⟨rfl,hbn⟩;have HN9:=bel_ HB8 hbn;clear hbn;have HI9:Hid (TyC n9 (ndT k) [.int .i64 1,.int .i64 k,.slice none 0 0,.slice none 0 0,.slice none 0 0,.slice none 0 0]):=hid (tyC_nd Hk.out)
      go_wp2_with fail
      refine(HG1.out _ n9 HN9.out HAs.out HI9.out).mono ?_;rintro e w10 ⟨x9,rfl,H10⟩;have HB10:=bel_ HN9 H10.out.2
      go_wp2_with fail
      refine(named_any _ _).mono ?_;rintro e n11 ⟨rfl,hbn⟩;have HN11:=bel_ HB10 hbn;have HR11:=row_ H10.out.1 hbn;clear hbn H10;have HI11:Hid (TyC n11 (ndT j) [.int .i64 1,.int .i64 j,.slice none 0 0,.slice none 0 0,.slice none 0 0,.slice none 0 0]):=hid (tyC_nd Hjk.out)
      go_wp2_with fail
      refine(HG2.out j _ n11 HN11.out HAs.out (by trivial) (by first|rfl|trivial) HI11.out).mono ?_;rintro e w12 ⟨x11,rfl,H12⟩;have HB12:=bel_ HN11 H12.out.2;have HR12:=row_ HR11.out H12.out.2
      go_wp2_with fail
      have HK13:Hid (Below w12.heap.size w12 ((w12.alloc (.cells #[.int .i64 o1,.bool m1,.slice x9.1 ix1.length x9.2,.bool i1] 35)).alloc (.cells #[.int .i64 o2,.bool m2,.slice x11.1 ix2.length x11.2,.bool i2] 35))):=hid (((zp _ _).alloc (zl _) _).alloc (by simp) _);have HB13:=bel_ HB12 HK13.out;have HE13:Hid (Blk ((w12.alloc (.cells #[.int .i64 o1,.bool m1,.slice x9.1 ix1.length x9.2,.bool i1] 35)).alloc (.cells #[.int .i64 o2,.bool m2,.slice x11.1 ix2.length x11.2,.bool i2] 35)) w12.heap.size 35 [.int .i64 o1,.bool m1,.slice x9.1 ix1.length x9.2,.bool i1]):=hid ((Blk.new w12 35 [.int .i64 o1,.bool m1,.slice x9.1 ix1.length x9.2,.bool i1]).alloc _);have HF13:Hid (Blk ((w12.alloc (.cells #[.int .i64 o1,.bool m1,.slice x9.1 ix1.length x9.2,.bool i1] 35)).alloc (.cells #[.int .i64 o2,.bool m2,.slice x11.1 ix2.length x11.2,.bool i2] 35)) (w12.heap.size+1) 35 [.int .i64 o2,.bool m2,.slice x11.1 ix2.length x11.2,.bool i2]):=hid (by
       have h:=Blk.new (w12.alloc (.cells #[.int .i64 o1,.bool m1,.slice x9.1 ix1.length x9.2,.bool i1] 35)) 35 [.int .i64 o2,.bool m2,.slice x11.1 ix2.length x11.2,.bool i2];rw[zd] at h;exact h)
      have HR13:=row_ HR12.out HK13.out;have HQ13:=row_ H12.out.1 HK13.out;clear HR12 H12 HK13 HR11
      generalize ((w12.alloc (.cells #[.int .i64 o1,.bool m1,.slice x9.1 ix1.length x9.2,.bool i1] 35)).alloc (.cells #[.int .i64 o2,.bool m2,.slice x11.1 ix2.length x11.2,.bool i2] 35))=w13 at HB13 HE13 HF13 HR13 HQ13 ⊢
      generalize w12.heap.size=b1 at HE13 HF13 ⊢
      refine(ambiguous_any o2 m2 i2 ix2.length x11.2 x11.1 w13).mono ?_;rintro e w14 ⟨rfl,hb14⟩;have HE14:=hid (HE13.out.keep hb14);have HF14:=hid (HF13.out.keep hb14);have HB14:=bel_ HB13 hb14;have HR14:=row_ HR13.out hb14;have HQ14:=row_ HQ13.out hb14;clear hb14 HE13 HF13 HR13 HQ13;refine HR2.out.elim (fun h => ?_) fun h => ?_
      ·have ha2:=h.1;have ha1:=h.2.1;have hL:=h.2.2;clear h HR2;rw[ha2];have HAm:=hid fun w'=>ambiguous_any o1 m1 i1 ix1.length x9.2 x9.1 w';rw[ha1] at HAm;rw[← hL] at HF14;clear ha1 ha2 hL HQ14;have e0:=HE14.out.cell 0;have e1:=HE14.out.cell 1;have e2:=HE14.out.cell 2;have e3:=HE14.out.cell 3;simp only[zu,zt] at e0 e1 e2 e3
       go_wp2_with fail
       refine(HAm.out w14).mono ?_;rintro e w15 ⟨rfl,hb15⟩;have HE15:=hid (HE14.out.keep hb15);have HF15:=hid (HF14.out.keep hb15);have HB15:=bel_ HB14 hb15;clear hb15 e0 e1 e2 e3;have e2:=HE15.out.cell 2;have f2:=HF15.out.cell 2;simp only[zu,zt] at e2 f2
       go_wp2_with fail
       go_ret
       exact⟨rfl,HB15.out⟩
      ·have ha2:=h.1;obtain⟨g1,g2,g3,g4⟩:=h.2;clear h HR2;rw[ha2];clear ha2;subst g1 g2 g3 g4
       go_wp2_with fail
       refine(HWk.out _ HB14.out).mono ?_;rintro e w15 ⟨rfl,hb15⟩;have HE15:=hid (HE14.out.keep hb15);have HF15:=hid (HF14.out.keep hb15);have HB15:=bel_ HB14 hb15;have HR15:=row_ HR14.out hb15;have HQ15:=row_ HQ14.out hb15;clear hb15;have e0:=HE15.out.cell 0;have e1:=HE15.out.cell 1;have e2:=HE15.out.cell 2;have e3:=HE15.out.cell 3;have f0:=HF15.out.cell 0;have f1:=HF15.out.cell 1;have f2:=HF15.out.cell 2;have f3:=HF15.out.cell 3;simp only[zu,zt] at e0 e1 e2 e3 f0 f1 f2 f3
       go_wp2_with fail
       refine(HSm.out _ _ _ _ x9.1 x11.1 x9.2 x11.2 w15 Hi1.out HR15.out HQ15.out).mono ?_;rintro e w16 ⟨rfl,hb16⟩;have HB16:=bel_ HB15 hb16;clear hb16
       go_wp2_with fail
       go_ret
       exact⟨rfl,HB16.out⟩
    ·go_wp2_with fail
     have HB8:=hid (HB7'.out true);clear HB7'
     generalize (w6.alloc (.cells #[.int .i64 o0,.bool true,.slice x6.1 ix0.length x6.2,.bool i0] 35))=w8 at HB8 ⊢
     have HR2:=hid (HR.out.elim (fun h=>absurd h.2.1 hl0) id);clear HR;refine(named_any _ _).mono ?_;rintro e n9 ⟨rfl,hbn⟩;have HN9:=bel_ HB8 hbn;clear hbn;have HI9:Hid (TyC n9 (ndT k) [.int .i64 1,.int .i64 k,.slice none 0 0,.slice none 0 0,.slice none 0 0,.slice none 0 0]):=hid (tyC_nd Hk.out)
     go_wp2_with fail
     refine(HG1.out _ n9 HN9.out HAs.out HI9.out).mono ?_;rintro e w10 ⟨x9,rfl,H10⟩;have HB10:=bel_ HN9 H10.out.2
     go_wp2_with fail
     refine(named_any _ _).mono ?_;rintro e n11 ⟨rfl,hbn⟩;have HN11:=bel_ HB10 hbn;have HR11:=row_ H10.out.1 hbn;clear hbn H10;have HI11:Hid (TyC n11 (ndT j) [.int .i64 1,.int .i64 j,.slice none 0 0,.slice none 0 0,.slice none 0 0,.slice none 0 0]):=hid (tyC_nd Hjk.out)
     go_wp2_with fail
     refine(HG2.out j _ n11 HN11.out HAs.out (by trivial) (by first|rfl|trivial) HI11.out).mono ?_;rintro e w12 ⟨x11,rfl,H12⟩;have HB12:=bel_ HN11 H12.out.2;have HR12:=row_ HR11.out H12.out.2
     go_wp2_with fail
     have HK13:Hid (Below w12.heap.size w12 ((w12.alloc (.cells #[.int .i64 o1,.bool m1,.slice x9.1 ix1.length x9.2,.bool i1] 35)).alloc (.cells #[.int .i64 o2,.bool m2,.slice x11.1 ix2.length x11.2,.bool i2] 35))):=hid (((zp _ _).alloc (zl _) _).alloc (by simp) _);have HB13:=bel_ HB12 HK13.out;have HE13:Hid (Blk ((w12.alloc (.cells #[.int .i64 o1,.bool m1,.slice x9.1 ix1.length x9.2,.bool i1] 35)).alloc (.cells #[.int .i64 o2,.bool m2,.slice x11.1 ix2.length x11.2,.bool i2] 35)) w12.heap.size 35 [.int .i64 o1,.bool m1,.slice x9.1 ix1.length x9.2,.bool i1]):=hid ((Blk.new w12 35 [.int .i64 o1,.bool m1,.slice x9.1 ix1.length x9.2,.bool i1]).alloc _);have HF13:Hid (Blk ((w12.alloc (.cells #[.int .i64 o1,.bool m1,.slice x9.1 ix1.length x9.2,.bool i1] 35)).alloc (.cells #[.int .i64 o2,.bool m2,.slice x11.1 ix2.length x11.2,.bool i2] 35)) (w12.heap.size+1) 35 [.int .i64 o2,.bool m2,.slice x11.1 ix2.length x11.2,.bool i2]):=hid (by
      have h:=Blk.new (w12.alloc (.cells #[.int .i64 o1,.bool m1,.slice x9.1 ix1.length x9.2,.bool i1] 35)) 35 [.int .i64 o2,.bool m2,.slice x11.1 ix2.length x11.2,.bool i2];rw[zd] at h;exact h)
     have HR13:=row_ HR12.out HK13.out;have HQ13:=row_ H12.out.1 HK13.out;clear HR12 H12 HK13 HR11
     generalize ((w12.alloc (.cells #[.int .i64 o1,.bool m1,.slice x9.1 ix1.length x9.2,.bool i1] 35)).alloc (.cells #[.int .i64 o2,.bool m2,.slice x11.1 ix2.length x11.2,.bool i2] 35))=w13 at HB13 HE13 HF13 HR13 HQ13 ⊢
     generalize w12.heap.size=b1 at HE13 HF13 ⊢
     refine(ambiguous_any o2 m2 i2 ix2.length x11.2 x11.1 w13).mono ?_;rintro e w14 ⟨rfl,hb14⟩;have HE14:=hid (HE13.out.keep hb14);have HF14:=hid (HF13.out.keep hb14);have HB14:=bel_ HB13 hb14;have HR14:=row_ HR13.out hb14;have HQ14:=row_ HQ13.out hb14;clear hb14 HE13 HF13 HR13 HQ13;refine HR2.out.elim (fun h => ?_) fun h => ?_
     ·have ha2:=h.1;have ha1:=h.2.1;have hL:=h.2.2;clear h HR2;rw[ha2];have HAm:=hid fun w'=>ambiguous_any o1 m1 i1 ix1.length x9.2 x9.1 w';rw[ha1] at HAm;rw[← hL] at HF14;clear ha1 ha2 hL HQ14;have e0:=HE14.out.cell 0;have e1:=HE14.out.cell 1;have e2:=HE14.out.cell 2;have e3:=HE14.out.cell 3;simp only[zu,zt] at e0 e1 e2 e3
      go_wp2_with fail
      refine(HAm.out w14).mono ?_;rintro e w15 ⟨rfl,hb15⟩;have HE15:=hid (HE14.out.keep hb15);have HF15:=hid (HF14.out.keep hb15);have HB15:=bel_ HB14 hb15;clear hb15 e0 e1 e2 e3;have e2:=HE15.out.cell 2;have f2:=HF15.out.cell 2;simp only[zu,zt] at e2 f2
      go_wp2_with fail
      go_ret
      exact⟨rfl,HB15.out⟩
     ·have ha2:=h.1;obtain⟨g1,g2,g3,g4⟩:=h.2;clear h HR2;rw[ha2];clear ha2;subst g1 g2 g3 g4
      go_wp2_with fail
      refine(HWk.out _ HB14.out).mono ?_;rintro e w15 ⟨rfl,hb15⟩;have HE15:=hid (HE14.out.keep hb15);have HF15:=hid (HF14.out.keep hb15);have HB15:=bel_ HB14 hb15;have HR15:=row_ HR14.out hb15;have HQ15:=row_ HQ14.out hb15;clear hb15;have e0:=HE15.out.cell 0;have e1:=HE15.out.cell 1;have e2:=HE15.out.cell 2;have e3:=HE15.out.cell 3;have f0:=HF15.out.cell 0;have f1:=HF15.out.cell 1;have f2:=HF15.out.cell 2;have f3:=HF15.out.cell 3;simp only[zu,zt] at e0 e1 e2 e3 f0 f1 f2 f3
      go_wp2_with fail
      refine(HSm.out _ _ _ _ x9.1 x11.1 x9.2 x11.2 w15 Hi1.out HR15.out HQ15.out).mono ?_;rintro e w16 ⟨rfl,hb16⟩;have HB16:=bel_ HB15 hb16;clear hb16
      go_wp2_with fail
      go_ret
      exact⟨rfl,HB16.out⟩
  ·have hml':decide ((0:Int)<(ml:Int))=true:=by simp;omega
   go_wp2_with fail
   go_ret
   exact⟨rfl,HB3.out⟩
 ·have hkd1':(kd==1)=false:=by simpa using hkd1
  go_wp2_with fail
  go_ret
  exact⟨rfl,HB3.out⟩
def ambB (r:Rs):Bool:=decide (obI r<0)&&!obM r&&!r.ind&&decide (0<r.ix.length)
theorem ambB_yes {r:Rs} (h:AmbR r):ambB r=true:=by
 obtain⟨h1,h2,h3⟩:=h;unfold ambB obM;rw[h1,h2,decide_eq_true (obI_neg.2 h1),decide_eq_true (List.length_pos_iff.2 h3)];rfl
theorem small_nd {W:Wd} {t:Ty} {P:Nat→Nat} (h:qdx W t P) {k:Nat} (hk:k<W.length) (h1:(dc W k).of.kind=1):qdx W (ndT (dc W k).of.num.toNat) P:=by
 refine⟨h.pos,h.alias,h.decl,?_⟩;have h2:=h.decl k hk;have h3:=op_nd (P:=P) h1;have h4:op P (ndT (dc W k).of.num.toNat)=P (dc W k).of.num.toNat:=qw9 P _;omega
theorem lawDefined (W:Wd) (a:Option Addr) (c:Nat) (w:World) (hW:WOk w W a c) (hT:Tabs w) (d:Int) (addr:Bool) (p m:Int):
  Calls prog 4 #[.slice a W.length c,.int .i64 d,.bool addr,.int .i64 p,.int .i64 m] w (qa2 (.bool true) w):=by
 have hl:=qbk W;have hbk:=hW.bulk;have hlen:(W.length:Int)≤2147483647:=by omega
 by_cases h0:d<0
 ·have h0':decide (d<0)=true:=by simpa using h0
  clear hW hT hl hbk;go_enter func4,ntmps4
  go_wp2_with fail
  go_ret
  exact⟨rfl,zp _ _⟩
 have h0':decide (d<0)=false:=by simpa using h0
 by_cases h1:(W.length:Int)≤d
 ·have h1':decide ((W.length:Int)≤d)=true:=by simpa using h1
  clear hW hT hl hbk h0 h1;go_enter func4,ntmps4
  go_wp2_with fail
  go_ret
  exact⟨rfl,zp _ _⟩
 obtain⟨k,rfl⟩:∃ k:Nat,d=k:=⟨d.toNat,by omega⟩;have hk:k<W.length:=by omega
 obtain⟨b,o,a1,c1,a2,c2,a3,c3,a4,c4,a5,c5,rfl,-,-,-,-,-,hcc⟩:=hW.row.get k hk;rw[← qcg hk] at hcc;obtain⟨-,-,e2,e3,e4,-,-,-,-,e9⟩:=ten hcc;have hln:=fun(t:Ty)=>Nat.le_trans (lookM_len W (operand W t) addr p m) (fuelW_le (by omega));refine def_walk W.length c w k hk (by omega) addr p m b o (dc W k).alias (dc W k).of.kind (dc W k).of.num (dc W k).methods.length a5 c5 e2 e3 e4 e9 (fun j=>(dc W j).alias) (fun j hj => ?_) (Asked W (ndT k) p m)
  (fun cs w' h ht=>qvj W (some ⟨b,o,none⟩) c (ndT k) cs p m w' (hW.keep (qac.below h)) (by simp[ndT,Ty.bulk,qbt,qcm]) ht)
  (fun hA h1 => ?_) (fun w' a'=>WdR w' a' W)
  (fun w' h=>(qsu W (some ⟨b,o,none⟩) c w' (hW.keep (qac.below h))).mono fun e w2 ⟨a',c',he,hc',hr,hb⟩=>⟨a',c',he,hc',hr.keep (qac.show _ _),hb⟩)
  (fun j=>(under W (operand W (ndT j))).of.kind==5) (fun j a' c' cs w' hj hA hc hr ht=>isIface_any W a' c' (ndT j) cs w' ⟨hr,hc,hW.bulk⟩ (fun d hd=>qbn W d true _ (hA.2.2.1.names d hd).2.2.2.1) ht (qbn W (-1) true (ndT j) (formed_nd hj true)))
  (fun w' h=>qtr w' (hT.below h)) (fun o m i ix a1 a2 c1 c2 w' hl h1 h2=>same_yes o m i ix hl a1 a2 c1 c2 w' h1 h2)
  (obI (qch W (operand W (ndT (dc W k).of.num.toNat)) true p m)) (obI (qch W (operand W (ndT k)) addr p m)) (obI (qch W (operand W (ndT (dc W k).of.num.toNat)) addr p m))
  (obM (qch W (operand W (ndT (dc W k).of.num.toNat)) true p m)) (obM (qch W (operand W (ndT k)) addr p m)) (obM (qch W (operand W (ndT (dc W k).of.num.toNat)) addr p m))
  (qch W (operand W (ndT (dc W k).of.num.toNat)) true p m).ind (qch W (operand W (ndT k)) addr p m).ind (qch W (operand W (ndT (dc W k).of.num.toNat)) addr p m).ind
  (qch W (operand W (ndT (dc W k).of.num.toNat)) true p m).ix (qch W (operand W (ndT k)) addr p m).ix (qch W (operand W (ndT (dc W k).of.num.toNat)) addr p m).ix (hln _)
  (fun j hA ha h1 hj hjn hja hml => ?_) (fun j cs w' h hA h1 hj ht => ?_)
  (fun cs w' h hA ht=>(qs2 W (some ⟨b,o,none⟩) c w' (ndT k) hA.2.2 (hW.keep (qac.below h)) (hT.below h) (by simp[ndT,Ty.bulk,qbt,qcm]) cs ht addr p m hA.1 hA.2.1).mono fun e w2 h=>h.ans)
  (fun j cs w' h hA h1 hj ht => ?_)
 ·obtain⟨b',o',a1,c1,a2,c2,a3,c3,a4,c4,a5,c5,hb',-,-,-,-,-,hcj⟩:=hW.row.get j hj;rw[← qcg hj] at hcj;cases hb';exact(ten hcj).2.2.1
 ·have h2:=(hA.2.2.1.names k hk).2.2.2.1.numOk (s:=qad W k) h1;have h3:(qad W k).of.num=(dc W k).of.num:=rfl;exact⟨(dc W k).of.num.toNat,by omega,by omega⟩
 ·have hJ:(dc W k).of.num.toNat=j:=by omega
  obtain⟨-,h2⟩:=defined_nd hA.2.2 hbk hk ha h1 (by rw[hJ];exact hja) (List.eq_nil_of_length_eq_zero hml) p m addr;rw[hJ] at h2 ⊢;rcases h2 with ⟨x,i,h3,h4⟩|h3|⟨h3,h4,h5⟩
  ·rw[h3];exact .inl ⟨rfl,rfl,by simpa using h4⟩
  ·rw[h3];cases hb:ambB (qch W (operand W (ndT j)) addr p m) with
   | true=>exact .inr (.inl ⟨hb,hb,rfl⟩)
   | false=>exact .inr (.inr ⟨hb,rfl,rfl,rfl,rfl⟩)
  ·exact .inr (.inl ⟨ambB_yes h4,ambB_yes h3,h5⟩)
 ·have hJ:(dc W k).of.num.toNat=j:=by omega
  obtain⟨hF,P,hS,-⟩:=hA.2.2;have hN:=hF.names k hk;have hjn:j<W.length:=by
   have h2:=hN.2.2.2.1.numOk (s:=qad W k) h1;have h3:(qad W k).of.num=(dc W k).of.num:=rfl;omega
  have hS2:=small_nd hS hk h1;rw[hJ] at hS2 ⊢;exact(qgz W (some ⟨b,o,none⟩) c w' (ndT j) (fitOk_nd hF hjn) (fitOk_nd hF hjn).nm (hW.keep (qac.below h)) (hT.below h) (by simp[ndT,Ty.bulk,qbt,qcm]) P hS2 cs ht true p m hA.1 hA.2.1).mono fun e w2 h=>h.ans
 ·have hJ:(dc W k).of.num.toNat=j:=by omega
  obtain⟨hF,P,hS,-⟩:=hA.2.2;have hN:=hF.names k hk;have hjn:j<W.length:=by
   have h2:=hN.2.2.2.1.numOk (s:=qad W k) h1;have h3:(qad W k).of.num=(dc W k).of.num:=rfl;omega
  have hS2:=small_nd hS hk h1;rw[hJ] at hS2 ⊢;exact(qgz W (some ⟨b,o,none⟩) c w' (ndT j) (fitOk_nd hF hjn) (fitOk_nd hF hjn).nm (hW.keep (qac.below h)) (hT.below h) (by simp[ndT,Ty.bulk,qbt,qcm]) P hS2 cs ht addr p m hA.1 hA.2.1).mono fun e w2 h=>h.ans
