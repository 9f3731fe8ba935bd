import Derived.Test.YtmfhclggkjjcdaaGreatDoorLWStrC
import Derived.Test.YtmfhclggkjjcdaaGreatDoorL40
import Derived.Test.YtmfhclggkjjcdaaGreatDoorL49
import Derived.Test.YtmfhclggkjjcdaaGreatDoorL39
import Derived.Test.YtmfhclggkjjcdaaGreatDoorLWNai5
set_option linter.all false
set_option maxHeartbeats 8000000
namespace Go.Proofs.YtmfhclggkjjcdaaGreatDoor
open Go Go.RowKit Go.Proofs.Tryz
set_option maxRecDepth 100000
theorem four_b {w:World} {b T:Nat} {p q r s:Value} (h:Blk w b T [p,q,r,s]):w.cell? ⟨b,0,none⟩=some p∧w.cell? ⟨b,1,none⟩=some q∧w.cell? ⟨b,2,none⟩=some r∧w.cell? ⟨b,3,none⟩=some s:=⟨h.cell 0,h.cell 1,h.cell 2,h.cell 3⟩
theorem two_cells {w:World} {b k l:Nat} (h:qat w b 0 [.int .i64 1,.int .i64 k,.slice none 0 0,.slice none 0 0,.slice none 0 0,.slice none 0 0,.int .i64 1,.int .i64 l,.slice none 0 0,.slice none 0 0,.slice none 0 0,.slice none 0 0]):∀ j,j<[k,l].length→qat w b (0+j * 6) (ndC ([k,l].getD j 0)):=by
 intro j hj i v hi;have hl:i<6:=by
  have:=(zjb.1 hi).1;simpa[ndC] using this
 match j,hj with
 | 0,_=>
  have:=h i v (by
   show(ndC k++ndC l)[i]?=some v;rw[List.getElem?_append_left (by simpa[ndC] using hl)];exact hi)
  simpa using this
 | 1,_=>
  have:=h (6+i) v (by
   show(ndC k++ndC l)[6+i]?=some v;rw[List.getElem?_append_right (by simp[ndC]),show 6+i - (ndC k).length=i by simp[ndC]];exact hi)
  rw[show 0+(6+i)=0+1 * 6+i by omega] at this;exact this
def ambQ (o:Int) (m i:Bool) (ix:List Nat):Bool:=decide (o<0)&&!m&&!i&&decide (0<ix.length)
def BehQ (n:Nat) (oa og:Int) (ma mg ia ig:Bool) (ixa ixg:List Nat):Prop:=
 (ambQ oa ma ia ixa=true∧ambQ og mg ig ixg=true∧∃ r,ixg=n::r∧r.length=ixa.length)∨(ambQ oa ma ia ixa=false∧og=oa∧mg=ma∧ig=ia∧ixg=n::ixa)
theorem bes_walk (n:Nat) (c:Nat) (w:World) (k l:Nat) (hk:k<n) (hl:l<n) (hn:n≤1048576) (p m nk nl:Int) (b o:Nat)
  (ek:w.cell? ⟨b,o+k * 10,none⟩=some (.int .i64 nk)) (el:w.cell? ⟨b,o+l * 10,none⟩=some (.int .i64 nl)) (A:Prop)
  (hF:∀ cs w',Below w.heap.size w w'→TyC w' (stT [.mk 0 true (ndT k),.mk 0 true (ndT l)]) cs→Calls prog 6 #[.slice (some ⟨b,o,none⟩) n c,.agg cs.toArray,.int .i64 p,.int .i64 m] w' fun e w2=>∃ b,e = .returned (.bool b)∧(b=true→A)∧Below w'.heap.size w' w2)
  (hWk:∀ w',Below w.heap.size w w'→Calls prog 16 #[] w' (qa2 (.bool true) w'))
  (hSm:∀ (o:Int) (m i:Bool) (ix:List Nat) (a1 a2:Option Addr) (c1 c2:Nat) w',ix.length≤4294967296→w'.ownsRow 0 3 1 (.slice a1 ix.length c1) ix.length (qbh ix)→w'.ownsRow 0 3 1 (.slice a2 ix.length c2) ix.length (qbh ix)→Calls prog 12 #[.agg #[.int .i64 o,.bool m,.slice a1 ix.length c1,.bool i],.agg #[.int .i64 o,.bool m,.slice a2 ix.length c2,.bool i]] w' (qa2 (.bool true) w'))
  (hNo:∀ (a:Option Addr) (c:Nat) w',Calls prog 19 #[.agg #[.int .i64 (-1),.bool false,.slice a 0 c,.bool false]] w' (qa2 (.bool true) w'))
  (og oa ob:Int) (mg ma mb ig ia ib:Bool) (ixg ixa ixb:List Nat) (hig:ixg.length≤4294967296) (hia:ixa.length≤4294967296) (hib:ixb.length≤4294967296)
  (hQ:A→(p=0∨p=1)∧IsNm m∧IsNm nk∧IsNm nl∧(((qbp 0 nk p m=true∨qbp 0 nl p m=true)∧0≤og∧mg=false∧ixg.length=1)∨
   ((qbp 0 nk p m=false∧qbp 0 nl p m=false)∧((ixa=[]∧ixb=[]∧og = -1∧mg=false∧ig=false∧ixg=[])∨(ixa≠[]∧ixb.length=ixa.length∧ambQ og mg ig ixg=true∧ixg.length=ixa.length+1)∨
    (ixa≠[]∧(ixb=[]∨ixa.length<ixb.length)∧BehQ 0 oa og ma mg ia ig ixa ixg)∨(ixb≠[]∧(ixa=[]∨ixb.length<ixa.length)∧BehQ 1 ob og mb mg ib ig ixb ixg)))))
  (hG:∀ cs w',Below w.heap.size w w'→A→TyC w' (stT [.mk 0 true (ndT k),.mk 0 true (ndT l)]) cs→Calls prog 10 #[.slice (some ⟨b,o,none⟩) n c,.agg cs.toArray,.bool true,.int .i64 p,.int .i64 m] w' (AnsPost og mg ixg ig w'))
  (hA:∀ cs w',Below w.heap.size w w'→A→TyC w' (ndT k) cs→Calls prog 10 #[.slice (some ⟨b,o,none⟩) n c,.agg cs.toArray,.bool true,.int .i64 p,.int .i64 m] w' (AnsPost oa ma ixa ia w'))
  (hB:∀ cs w',Below w.heap.size w w'→A→TyC w' (ndT l) cs→Calls prog 10 #[.slice (some ⟨b,o,none⟩) n c,.agg cs.toArray,.bool true,.int .i64 p,.int .i64 m] w' (AnsPost ob mb ixb ib w')):
  Calls prog 5 #[.slice (some ⟨b,o,none⟩) n c,.int .i64 k,.int .i64 l,.int .i64 p,.int .i64 m] w (qa2 (.bool true) w):=by
 have HF:=hid hF;have HWk:=hid hWk;have HSm:=hid hSm;have HNo:=hid hNo;have HG:=hid hG;have HA:=hid hA;have HB:=hid hB;have HQ:=hid hQ;have Hig:=hid hig;have Hia:=hid hia;have Hib:=hid hib;have Hk:Hid (k≤1048576):=hid (by omega);have Hl:Hid (l≤1048576):=hid (by omega);have hlen:(n:Int)≤2147483647:=by omega
 have hki:(k:Int)<(n:Int):=by omega
 have hli:(l:Int)<(n:Int):=by omega
 have hkd:decide (n≤k)=false:=by simpa using hk
 have hld:decide (n≤l)=false:=by simpa using hl
 have hk0:decide ((k:Int)<0)=false:=by simp
 have hl0:decide ((l:Int)<0)=false:=by simp
 have HB0:Hid (Below w.heap.size w w):=hid (zp _ _);have Ek:=hid ek;have El:=hid el;clear hF hWk hSm hNo hG hA hB hQ hig hia hib ek el;go_enter func5,ntmps5
 go_wp2_with fail
 refine(named_any _ _).mono ?_;rintro e nA1 ⟨rfl,hbn⟩;have HNA1:=bel_ HB0 hbn;clear hbn
 go_wp2_with fail
 refine(named_any _ _).mono ?_;rintro e nB1 ⟨rfl,hbn⟩;have HNB1:=bel_ HNA1 hbn;clear hbn;have HA1:Hid (Below nB1.heap.size nB1 (nB1.alloc (.cells #[.int .i64 1,.int .i64 k,.slice none 0 0,.slice none 0 0,.slice none 0 0,.slice none 0 0,.int .i64 1,.int .i64 l,.slice none 0 0,.slice none 0 0,.slice none 0 0,.slice none 0 0] 29))):=hid ((zp _ _).alloc (zl _) _)
 go_wp2_with fail
 refine(structure_nds (nB1.alloc (.cells #[.int .i64 1,.int .i64 k,.slice none 0 0,.slice none 0 0,.slice none 0 0,.slice none 0 0,.int .i64 1,.int .i64 l,.slice none 0 0,.slice none 0 0,.slice none 0 0,.slice none 0 0] 29)) nB1.heap.size 0 [k,l] (by simp) (by simp) (two_cells (Blk.new nB1 29 [.int .i64 1,.int .i64 k,.slice none 0 0,.slice none 0 0,.slice none 0 0,.slice none 0 0,.int .i64 1,.int .i64 l,.slice none 0 0,.slice none 0 0,.slice none 0 0,.slice none 0 0]).cells)).mono ?_;rintro e s1 ⟨y1,rfl,HS1⟩;have HB1:=hid (HNB1.out.trans ((HA1.out.trans (HS1.out.2.2.mono HA1.out.size)).mono HNB1.out.size));have HT1:=hid (tyC_two Hk.out Hl.out HS1.out.1 HS1.out.2.1)
 go_wp2_with fail
 refine(HF.out _ s1 HB1.out HT1.out).mono ?_;rintro e w3 ⟨bb,rfl,hA,hb3⟩;have HA3:=hid hA;have HB3:=bel_ HB1 hb3;clear hb3 hA;cases bb
 ·go_wp2_with fail
  go_ret
  exact⟨rfl,HB3.out⟩
 have HAs:=hid (HA3.out rfl);have Hp:=hid (HQ.out HAs.out).1;have Hm:=hid (HQ.out HAs.out).2.1;have Hnk:=hid (HQ.out HAs.out).2.2.1;have Hnl:=hid (HQ.out HAs.out).2.2.2.1;have HC:=hid (HQ.out HAs.out).2.2.2.2;clear HQ HA3
 go_wp2_with fail
 refine(named_any _ _).mono ?_;rintro e nA2 ⟨rfl,hbn⟩;have HNA2:=bel_ HB3 hbn;clear hbn
 go_wp2_with fail
 refine(named_any _ _).mono ?_;rintro e nB2 ⟨rfl,hbn⟩;have HNB2:=bel_ HNA2 hbn;clear hbn;have HA2:Hid (Below nB2.heap.size nB2 (nB2.alloc (.cells #[.int .i64 1,.int .i64 k,.slice none 0 0,.slice none 0 0,.slice none 0 0,.slice none 0 0,.int .i64 1,.int .i64 l,.slice none 0 0,.slice none 0 0,.slice none 0 0,.slice none 0 0] 29))):=hid ((zp _ _).alloc (zl _) _)
 go_wp2_with fail
 refine(structure_nds (nB2.alloc (.cells #[.int .i64 1,.int .i64 k,.slice none 0 0,.slice none 0 0,.slice none 0 0,.slice none 0 0,.int .i64 1,.int .i64 l,.slice none 0 0,.slice none 0 0,.slice none 0 0,.slice none 0 0] 29)) nB2.heap.size 0 [k,l] (by simp) (by simp) (two_cells (Blk.new nB2 29 [.int .i64 1,.int .i64 k,.slice none 0 0,.slice none 0 0,.slice none 0 0,.slice none 0 0,.int .i64 1,.int .i64 l,.slice none 0 0,.slice none 0 0,.slice none 0 0,.slice none 0 0]).cells)).mono ?_;rintro e s2 ⟨y2,rfl,HS2⟩;have HB2:=hid (HNB2.out.trans ((HA2.out.trans (HS2.out.2.2.mono HA2.out.size)).mono HNB2.out.size));have HT2:=hid (tyC_two Hk.out Hl.out HS2.out.1 HS2.out.2.1)
 go_wp2_with fail
 refine(HG.out _ s2 HB2.out HAs.out HT2.out).mono ?_;rintro e w6 ⟨x6,rfl,H6⟩;have HB6:=bel_ HB2 H6.out.2;have HE6:Hid (Blk (w6.alloc (.cells #[.int .i64 og,.bool mg,.slice x6.1 ixg.length x6.2,.bool ig] 35)) w6.heap.size 35 [.int .i64 og,.bool mg,.slice x6.1 ixg.length x6.2,.bool ig]):=hid (Blk.new w6 35 [.int .i64 og,.bool mg,.slice x6.1 ixg.length x6.2,.bool ig]);have HR6:=hid (qab (S:=fun _=>False) H6.out.1 (qag.keep ((zp w6.heap.size w6).alloc (zl _) (.cells #[.int .i64 og,.bool mg,.slice x6.1 ixg.length x6.2,.bool ig] 35))) fun _ _ h=>h);have HB7:=hid (HB6.out.alloc HB6.out.size (.cells #[.int .i64 og,.bool mg,.slice x6.1 ixg.length x6.2,.bool ig] 35));clear H6
 go_wp2_with fail
 generalize (w6.alloc (.cells #[.int .i64 og,.bool mg,.slice x6.1 ixg.length x6.2,.bool ig] 35))=w7 at HE6 HR6 HB7 ⊢
 generalize w6.heap.size=b1 at HE6 ⊢
 refine(qqn p m _ Hm.out Hp.out).mono ?_;rintro e w8 ⟨rfl,hb8⟩;have HE8:=hid (HE6.out.keep hb8);have HR8:=row_ HR6.out hb8;have HB8:=bel_ HB7 hb8;clear hb8 HE6 HR6;have ek:=qac.below HB8.out _ _ Ek.out
 go_wp2_with fail
 refine(qqn 0 nk _ Hnk.out (.inl rfl)).mono ?_;rintro e w9 ⟨rfl,hb9⟩;have HE9:=hid (HE8.out.keep hb9);have HR9:=row_ HR8.out hb9;have HB9:=bel_ HB8 hb9;clear hb9 HE8 HR8 ek;have el:=qac.below HB9.out _ _ El.out;have e0:=HE9.out.cell 0;have e1:=HE9.out.cell 1;have e2:=HE9.out.cell 2;have e3:=HE9.out.cell 3;simp only[zu,zt] at e0 e1 e2 e3;cases hsk:qbp 0 nk p m with
 | true=>
  have hst:idS 0 nk=idS p m:=(idS_same (.inl rfl) Hp.out Hnk.out Hm.out).2 hsk;obtain⟨-,g1,g2,g3⟩:(qbp 0 nk p m=true∨qbp 0 nl p m=true)∧0≤og∧mg=false∧ixg.length=1:=HC.out.elim id fun h=>by have:=h.1.1;rw[hsk] at this;cases this
  clear HC hsk;have g1':decide (0≤og)=true:=by simpa using g1
  clear g1;subst g2;rw[g3] at e2;rw[hst]
  go_wp2_with fail
  go_ret
  exact⟨rfl,HB9.out⟩
 | false=>
  have hst1:((idS p m).toList==(idS 0 nk).toList)=false:=by simpa using idS_toL Hp.out (.inl rfl) Hm.out Hnk.out hsk
  have Hsk:=hid hsk;clear hsk e0 e1 e2 e3
  go_wp2_with fail
  refine(qqn 0 nl _ Hnl.out (.inl rfl)).mono ?_;rintro e w10 ⟨rfl,hb10⟩;have HE10:=hid (HE9.out.keep hb10);have HR10:=row_ HR9.out hb10;have HB10:=bel_ HB9 hb10;clear hb10 HE9 HR9 el;cases hsl:qbp 0 nl p m with
  | true=>
   have hst:idS 0 nl=idS p m:=(idS_same (.inl rfl) Hp.out Hnl.out Hm.out).2 hsl;obtain⟨-,g1,g2,g3⟩:(qbp 0 nk p m=true∨qbp 0 nl p m=true)∧0≤og∧mg=false∧ixg.length=1:=HC.out.elim id fun h=>by have:=h.1.2;rw[hsl] at this;cases this
   clear HC hsl;have g1':decide (0≤og)=true:=by simpa using g1
   clear g1;subst g2;have e0:=HE10.out.cell 0;have e1:=HE10.out.cell 1;have e2:=HE10.out.cell 2;have e3:=HE10.out.cell 3;simp only[zu,zt] at e0 e1 e2 e3;rw[g3] at e2;rw[hst]
   go_wp2_with fail
   go_ret
   exact⟨rfl,HB10.out⟩
  | false=>
   have hst:((idS p m).toList==(idS 0 nl).toList)=false:=by simpa using idS_toL Hp.out (.inl rfl) Hm.out Hnl.out hsl
   have HD:=hid (HC.out.elim (fun h=>by rcases h.1 with h|h;rw[Hsk.out] at h;cases h;rw[hsl] at h;cases h) fun h=>h.2);clear HC hsl Hsk
   go_wp2_with fail
   refine(named_any _ _).mono ?_;rintro e n11 ⟨rfl,hbn⟩;have HN11:=bel_ HB10 hbn;have HNr11:=hid hbn;clear hbn hst hst1;have HI11:Hid (TyC n11 (ndT k) [.int .i64 1,.int .i64 k,.slice none 0 0,.slice none 0 0,.slice none 0 0,.slice none 0 0]):=hid (tyC_nd Hk.out)
   go_wp2_with fail
   refine(HA.out _ n11 HN11.out HAs.out HI11.out).mono ?_;rintro e w12 ⟨x12,rfl,H12⟩;have HB12:=bel_ HN11 H12.out.2;have HK12:=bel_ HNr11 H12.out.2
   go_wp2_with fail
   refine(named_any _ _).mono ?_;rintro e n13 ⟨rfl,hbn⟩;have HN13:=bel_ HB12 hbn;have HNr13:=hid hbn;clear hbn;have HI13:Hid (TyC n13 (ndT l) [.int .i64 1,.int .i64 l,.slice none 0 0,.slice none 0 0,.slice none 0 0,.slice none 0 0]):=hid (tyC_nd Hl.out)
   go_wp2_with fail
   refine(HB.out _ n13 HN13.out HAs.out HI13.out).mono ?_;rintro e w14 ⟨x14,rfl,H14⟩;have HB14:=bel_ HN13 H14.out.2;have HKb:=bel_ HNr13 H14.out.2;have HKa:=bel_ HK12 HKb.out;have HRa:=row_ H12.out.1 HKb.out;have HRg:=row_ HR10.out HKa.out;have HEg:=hid (HE10.out.keep HKa.out);clear HE10 HR10 H12 HNr13 HNr11 HKa HKb HK12;have HRb:=hid H14.out.1;clear H14
   go_wp2_with fail
   have HK14:Hid (Below w14.heap.size w14 ((w14.alloc (.cells #[.int .i64 oa,.bool ma,.slice x12.1 ixa.length x12.2,.bool ia] 35)).alloc (.cells #[.int .i64 ob,.bool mb,.slice x14.1 ixb.length x14.2,.bool ib] 35))):=hid (((zp _ _).alloc (zl _) _).alloc (by simp) _);have HBA:=bel_ HB14 HK14.out;have HEa:Hid (Blk ((w14.alloc (.cells #[.int .i64 oa,.bool ma,.slice x12.1 ixa.length x12.2,.bool ia] 35)).alloc (.cells #[.int .i64 ob,.bool mb,.slice x14.1 ixb.length x14.2,.bool ib] 35)) w14.heap.size 35 [.int .i64 oa,.bool ma,.slice x12.1 ixa.length x12.2,.bool ia]):=hid ((Blk.new w14 35 [.int .i64 oa,.bool ma,.slice x12.1 ixa.length x12.2,.bool ia]).alloc _);have HEb:Hid (Blk ((w14.alloc (.cells #[.int .i64 oa,.bool ma,.slice x12.1 ixa.length x12.2,.bool ia] 35)).alloc (.cells #[.int .i64 ob,.bool mb,.slice x14.1 ixb.length x14.2,.bool ib] 35)) (w14.heap.size+1) 35 [.int .i64 ob,.bool mb,.slice x14.1 ixb.length x14.2,.bool ib]):=hid (by
    have h:=Blk.new (w14.alloc (.cells #[.int .i64 oa,.bool ma,.slice x12.1 ixa.length x12.2,.bool ia] 35)) 35 [.int .i64 ob,.bool mb,.slice x14.1 ixb.length x14.2,.bool ib];rw[zd] at h;exact h)
   have HEg:=hid (HEg.out.keep HK14.out);have HRg:=row_ HRg.out HK14.out.drew;have HRa:=row_ HRa.out HK14.out.drew;have HRb:=row_ HRb.out HK14.out.drew;clear HK14;refine wpI_region (fun W=>Below w.heap.size w W∧Blk W b1 35 [.int .i64 og,.bool mg,.slice x6.1 ixg.length x6.2,.bool ig]∧Blk W w14.heap.size 35 [.int .i64 oa,.bool ma,.slice x12.1 ixa.length x12.2,.bool ia]∧Blk W (w14.heap.size+1) 35 [.int .i64 ob,.bool mb,.slice x14.1 ixb.length x14.2,.bool ib]) (by kernel_rfl) ?_;have HI:Hid (Below w.heap.size w ((w14.alloc (.cells #[.int .i64 oa,.bool ma,.slice x12.1 ixa.length x12.2,.bool ia] 35)).alloc (.cells #[.int .i64 ob,.bool mb,.slice x14.1 ixb.length x14.2,.bool ib] 35)).drew∧Blk ((w14.alloc (.cells #[.int .i64 oa,.bool ma,.slice x12.1 ixa.length x12.2,.bool ia] 35)).alloc (.cells #[.int .i64 ob,.bool mb,.slice x14.1 ixb.length x14.2,.bool ib] 35)).drew b1 35 [.int .i64 og,.bool mg,.slice x6.1 ixg.length x6.2,.bool ig]∧Blk ((w14.alloc (.cells #[.int .i64 oa,.bool ma,.slice x12.1 ixa.length x12.2,.bool ia] 35)).alloc (.cells #[.int .i64 ob,.bool mb,.slice x14.1 ixb.length x14.2,.bool ib] 35)).drew w14.heap.size 35 [.int .i64 oa,.bool ma,.slice x12.1 ixa.length x12.2,.bool ia]∧Blk ((w14.alloc (.cells #[.int .i64 oa,.bool ma,.slice x12.1 ixa.length x12.2,.bool ia] 35)).alloc (.cells #[.int .i64 ob,.bool mb,.slice x14.1 ixb.length x14.2,.bool ib] 35)).drew (w14.heap.size+1) 35 [.int .i64 ob,.bool mb,.slice x14.1 ixb.length x14.2,.bool ib]):=hid ⟨HBA.out.drew,HEg.out.drew,HEa.out.drew,HEb.out.drew⟩;clear HBA HEg HEa HEb
   generalize ((w14.alloc (.cells #[.int .i64 oa,.bool ma,.slice x12.1 ixa.length x12.2,.bool ia] 35)).alloc (.cells #[.int .i64 ob,.bool mb,.slice x14.1 ixb.length x14.2,.bool ib] 35)).drew=wA at HI HRg HRa HRb ⊢
   generalize w14.heap.size=b2 at HI ⊢
   refine' wpI_take (i:=0) (v:=_) rfl (by kernel_rfl) (by kernel_rfl) (by kernel_rfl) (fun _ _ _ h=>h) (Or.inl ⟨by rfl,_⟩) _
   rotate_left
   ·(intro wq hq;obtain⟨a0,a1,a2,a3⟩:=four_b hq.2.1;obtain⟨b0,b1,b2,b3⟩:=four_b hq.2.2.1;obtain⟨d0,d1,d2,d3⟩:=four_b hq.2.2.2;go_simp;first|done|with_reducible rfl)
   (try simp only[Act.put,zk,zh,zi,ze,zm,zn])
   refine wpI_one (i:=1) (by kernel_rfl) rfl HI.out (by rfl) (fun K hK => ?_);go_simp;refine hK _ _ ?_;clear hK K
   (try simp only[Act.put,zk,zh,zi,ze,zm,zn])
   have HK2:Hid (∀ O:Obj,Below wA.heap.size wA (wA.alloc O)):=hid fun O=>(zp _ _).alloc (zl _) O;have HI2:Hid (∀ O:Obj,Below w.heap.size w (wA.alloc O)∧Blk (wA.alloc O) b1 35 [.int .i64 og,.bool mg,.slice x6.1 ixg.length x6.2,.bool ig]∧Blk (wA.alloc O) b2 35 [.int .i64 oa,.bool ma,.slice x12.1 ixa.length x12.2,.bool ia]∧Blk (wA.alloc O) (b2+1) 35 [.int .i64 ob,.bool mb,.slice x14.1 ixb.length x14.2,.bool ib]):=hid fun O=>⟨HI.out.1.trans ((HK2.out O).mono HI.out.1.size),HI.out.2.1.keep (HK2.out O),HI.out.2.2.1.keep (HK2.out O),HI.out.2.2.2.keep (HK2.out O)⟩;refine' wpI_take (i:=2) (v:=_) rfl (by kernel_rfl) (by kernel_rfl) (by kernel_rfl) (fun _ _ _ h=>h) (Or.inl ⟨by rfl,_⟩) _
   rotate_left
   ·(intro wq hq;obtain⟨a0,a1,a2,a3⟩:=four_b hq.2.1;obtain⟨b0,b1,b2,b3⟩:=four_b hq.2.2.1;obtain⟨d0,d1,d2,d3⟩:=four_b hq.2.2.2;go_simp;first|done|with_reducible rfl)
   (try simp only[Act.put,zk,zh,zi,ze,zm,zn])
   refine wpI_one (i:=3) (by kernel_rfl) rfl (HI2.out _) (by rfl) (fun K hK => ?_);go_simp;refine hK _ _ ?_;clear hK K
   (try simp only[Act.put,zk,zh,zi,ze,zm,zn])
   refine wpI_done (by kernel_rfl) (HI2.out _) ?_ _;have HEw:Hid (Blk (wA.alloc (.cells #[.int .i64 oa,.bool ma,.slice x12.1 ixa.length x12.2,.bool ia] 35)) wA.heap.size 35 [.int .i64 oa,.bool ma,.slice x12.1 ixa.length x12.2,.bool ia]):=hid (Blk.new wA 35 [.int .i64 oa,.bool ma,.slice x12.1 ixa.length x12.2,.bool ia]);have hlt4:=HI.out.2.1.lt;have hlt42:=HI.out.2.2.1.lt;have hlt43:=HI.out.2.2.2.lt;have hle4:=hid HI.out.1.size;have HI3:=hid (HI2.out (.cells #[.int .i64 oa,.bool ma,.slice x12.1 ixa.length x12.2,.bool ia] 35));have HRg:=hid (qab (S:=fun _=>False) HRg.out (qag.keep (HK2.out (.cells #[.int .i64 oa,.bool ma,.slice x12.1 ixa.length x12.2,.bool ia] 35))) fun _ _ h=>h);have HRa:=hid (qab (S:=fun _=>False) HRa.out (qag.keep (HK2.out (.cells #[.int .i64 oa,.bool ma,.slice x12.1 ixa.length x12.2,.bool ia] 35))) fun _ _ h=>h);have HRb:=hid (qab (S:=fun _=>False) HRb.out (qag.keep (HK2.out (.cells #[.int .i64 oa,.bool ma,.slice x12.1 ixa.length x12.2,.bool ia] 35))) fun _ _ h=>h);clear HI HI2 HK2
   generalize wA.alloc (.cells #[.int .i64 oa,.bool ma,.slice x12.1 ixa.length x12.2,.bool ia] 35)=wB at HI3 HEw HRg HRa HRb ⊢
   have hne4:b1≠wA.heap.size:=Nat.ne_of_lt hlt4;have hne42:b2≠wA.heap.size:=Nat.ne_of_lt hlt42;have hne43:b2+1≠wA.heap.size:=Nat.ne_of_lt hlt43;clear hlt4 hlt42 hlt43
   generalize wA.heap.size=b4 at HEw hne4 hne42 hne43 hle4 ⊢
   go_wp2_with fail
   refine wpI_region (fun W=>Below w.heap.size w W∧Blk W b1 35 [.int .i64 og,.bool mg,.slice x6.1 ixg.length x6.2,.bool ig]∧Blk W b2 35 [.int .i64 oa,.bool ma,.slice x12.1 ixa.length x12.2,.bool ia]∧Blk W (b2+1) 35 [.int .i64 ob,.bool mb,.slice x14.1 ixb.length x14.2,.bool ib]) (by kernel_rfl) ?_;have HI4:Hid (Below w.heap.size w wB.drew∧Blk wB.drew b1 35 [.int .i64 og,.bool mg,.slice x6.1 ixg.length x6.2,.bool ig]∧Blk wB.drew b2 35 [.int .i64 oa,.bool ma,.slice x12.1 ixa.length x12.2,.bool ia]∧Blk wB.drew (b2+1) 35 [.int .i64 ob,.bool mb,.slice x14.1 ixb.length x14.2,.bool ib]):=hid ⟨HI3.out.1.drew,HI3.out.2.1.drew,HI3.out.2.2.1.drew,HI3.out.2.2.2.drew⟩;have HEw:=hid HEw.out.drew;have HRg:=hid (qab (S:=fun _=>False) HRg.out (qag.keep (zp wB.heap.size wB).drew) fun _ _ h=>h);have HRa:=hid (qab (S:=fun _=>False) HRa.out (qag.keep (zp wB.heap.size wB).drew) fun _ _ h=>h);have HRb:=hid (qab (S:=fun _=>False) HRb.out (qag.keep (zp wB.heap.size wB).drew) fun _ _ h=>h);clear HI3
   generalize wB.drew=wC at HI4 HEw HRg HRa HRb ⊢
   refine' wpI_take (i:=0) (v:=_) rfl (by kernel_rfl) (by kernel_rfl) (by kernel_rfl) (fun _ _ _ h=>h) (Or.inl ⟨by rfl,_⟩) _
   rotate_left
   ·(intro wq hq;obtain⟨a0,a1,a2,a3⟩:=four_b hq.2.1;obtain⟨b0,b1,b2,b3⟩:=four_b hq.2.2.1;obtain⟨d0,d1,d2,d3⟩:=four_b hq.2.2.2;go_simp;first|done|with_reducible rfl)
   (try simp only[Act.put,zk,zh,zi,ze,zm,zn])
   refine' wpI_take (i:=1) (v:=_) rfl (by kernel_rfl) (by kernel_rfl) (by kernel_rfl) (fun _ _ _ h=>h) (Or.inl ⟨by rfl,_⟩) _
   rotate_left
   ·(intro wq hq;obtain⟨a0,a1,a2,a3⟩:=four_b hq.2.1;obtain⟨b0,b1,b2,b3⟩:=four_b hq.2.2.1;obtain⟨d0,d1,d2,d3⟩:=four_b hq.2.2.2;go_simp;first|done|with_reducible rfl)
   (try simp only[Act.put,zk,zh,zi,ze,zm,zn])
   refine' wpI_take (i:=2) (v:=_) rfl (by kernel_rfl) (by kernel_rfl) (by kernel_rfl) (fun _ _ _ h=>h) (Or.inl ⟨by rfl,_⟩) _
   rotate_left
   ·(intro wq hq;obtain⟨a0,a1,a2,a3⟩:=four_b hq.2.1;obtain⟨b0,b1,b2,b3⟩:=four_b hq.2.2.1;obtain⟨d0,d1,d2,d3⟩:=four_b hq.2.2.2;go_simp;first|done|with_reducible rfl)
   (try simp only[Act.put,zk,zh,zi,ze,zm,zn])
   refine' wpI_take (i:=3) (v:=_) rfl (by kernel_rfl) (by kernel_rfl) (by kernel_rfl) (fun _ _ _ h=>h) (Or.inl ⟨by rfl,_⟩) _
   rotate_left
   ·(intro wq hq;obtain⟨a0,a1,a2,a3⟩:=four_b hq.2.1;obtain⟨b0,b1,b2,b3⟩:=four_b hq.2.2.1;obtain⟨d0,d1,d2,d3⟩:=four_b hq.2.2.2;go_simp;first|done|with_reducible rfl)
   (try simp only[Act.put,zk,zh,zi,ze,zm,zn])
   refine' wpI_take (i:=4) (v:=_) rfl (by kernel_rfl) (by kernel_rfl) (by kernel_rfl) (fun _ _ _ h=>h) (Or.inl ⟨by rfl,_⟩) _
   rotate_left
   ·(intro wq hq;obtain⟨a0,a1,a2,a3⟩:=four_b hq.2.1;obtain⟨b0,b1,b2,b3⟩:=four_b hq.2.2.1;obtain⟨d0,d1,d2,d3⟩:=four_b hq.2.2.2;go_simp;first|done|with_reducible rfl)
   (try simp only[Act.put,zk,zh,zi,ze,zm,zn])
   refine' wpI_take (i:=5) (v:=_) rfl (by kernel_rfl) (by kernel_rfl) (by kernel_rfl) (fun _ _ _ h=>h) (Or.inl ⟨by rfl,_⟩) _
   rotate_left
   ·(intro wq hq;obtain⟨a0,a1,a2,a3⟩:=four_b hq.2.1;obtain⟨b0,b1,b2,b3⟩:=four_b hq.2.2.1;obtain⟨d0,d1,d2,d3⟩:=four_b hq.2.2.2;go_simp;first|done|with_reducible rfl)
   (try simp only[Act.put,zk,zh,zi,ze,zm,zn])
   refine' wpI_take (i:=6) (v:=_) rfl (by kernel_rfl) (by kernel_rfl) (by kernel_rfl) (fun _ _ _ h=>h) (Or.inl ⟨by rfl,_⟩) _
   rotate_left
   ·(intro wq hq;obtain⟨a0,a1,a2,a3⟩:=four_b hq.2.1;obtain⟨b0,b1,b2,b3⟩:=four_b hq.2.2.1;obtain⟨d0,d1,d2,d3⟩:=four_b hq.2.2.2;go_simp;first|done|with_reducible rfl)
   (try simp only[Act.put,zk,zh,zi,ze,zm,zn])
   refine' wpI_take (i:=7) (v:=_) rfl (by kernel_rfl) (by kernel_rfl) (by kernel_rfl) (fun _ _ _ h=>h) (Or.inl ⟨by rfl,_⟩) _
   rotate_left
   ·(intro wq hq;obtain⟨a0,a1,a2,a3⟩:=four_b hq.2.1;obtain⟨b0,b1,b2,b3⟩:=four_b hq.2.2.1;obtain⟨d0,d1,d2,d3⟩:=four_b hq.2.2.2;go_simp;first|done|with_reducible rfl)
   (try simp only[Act.put,zk,zh,zi,ze,zm,zn])
   refine wpI_done (by kernel_rfl) HI4.out ?_ _;refine HD.out.elim (fun h => ?_) fun h=>h.elim (fun h => ?_) fun h=>h.elim (fun h => ?_) fun h => ?_
   ·obtain⟨rfl,rfl,rfl,rfl,rfl,rfl⟩:=h;clear HD
    go_wp2_with fail
    refine(HWk.out _ HI4.out.1).mono ?_;rintro e w15 ⟨rfl,hb15⟩;have HB15:=hid (HI4.out.1.trans (hb15.mono HI4.out.1.size));have HE15:=hid (HI4.out.2.1.keep hb15);clear hb15;have e0:=HE15.out.cell 0;have e1:=HE15.out.cell 1;have e2:=HE15.out.cell 2;have e3:=HE15.out.cell 3;simp only[zu,zt] at e0 e1 e2 e3
    go_wp2_with fail
    refine(HNo.out x6.1 x6.2 w15).mono ?_;rintro e w16 ⟨rfl,hb16⟩;have HB16:=bel_ HB15 hb16;clear hb16
    go_wp2_with fail
    go_ret
    exact⟨rfl,HB16.out⟩
   ·have h1:((ixa.length:Int)==0)=false:=by have:=List.length_pos_iff.2 h.1;simp;exact h.1
    have h2:=h.2.1;have h3:=h.2.2.1;have h4:=h.2.2.2;have h5:=Hig.out;unfold ambQ at h3;clear h HD;obtain⟨L,hL⟩:∃ L,L=ixa.length:=⟨_,rfl⟩;rw[← hL] at h1 h2 h4 HI4 ⊢;rw[h2] at HI4 ⊢;have hwr:IntKind.i64.wrap ((L:Int)+1)=((L+1:Nat):Int):=by rw[qni _ (by omega) (by omega)];rfl
    have HAm:=hid fun w'=>ambiguous_any og mg ig ixg.length x6.2 x6.1 w';rw[h3,h4] at HAm;rw[h4] at HI4;have e0:=HI4.out.2.1.cell 0;have e1:=HI4.out.2.1.cell 1;have e2:=HI4.out.2.1.cell 2;have e3:=HI4.out.2.1.cell 3;simp only[zu,zt] at e0 e1 e2 e3;clear h2 h3 h4 h5 hL
    go_wp2_with fail
    refine(HAm.out _).mono ?_;rintro e w15 ⟨rfl,hb15⟩;have HB15:=hid (HI4.out.1.trans (hb15.mono HI4.out.1.size));have HE15:=hid (HI4.out.2.1.keep hb15);clear hb15 e0 e1 e2 e3;have e2:=HE15.out.cell 2;simp only[zu,zt] at e2
    go_wp2_with fail
    go_ret
    exact⟨rfl,HB15.out⟩
   ·have hne:=h.1;have Hne:=hid hne;have h1:((ixa.length:Int)==0)=false:=by simp;exact hne
    have h2:((ixa.length:Int)==(ixb.length:Int))=false:=by
     rcases h.2.1 with h2|h2
     ·subst h2;simp;exact hne
     ·simp;omega
    have h3:=h.2.1;have HDD:Hid (_∨_):=hid (by have:=h.2.2;unfold BehQ at this;exact this);clear h HD;have HI5:=hid (And.intro HI4.out.1 HI4.out.2.1);have e0:=HEw.out.cell 0;have e1:=HEw.out.cell 1;have e2:=HEw.out.cell 2;have e3:=HEw.out.cell 3;simp only[zu,zt] at e0 e1 e2 e3;clear HI4;by_cases hb0:ixb.length=0
    focus
     clear h3 hne
     go_wp2_with fail
    rotate_left
    focus
     have hb0:ixb≠[]:=fun e=>hb0 (by rw[e];rfl);have h4:decide (0<ixb.length)=true:=by simpa using List.length_pos_iff.2 hb0
     have h5:decide (ixb.length<ixa.length)=false:=by
      rcases h3 with h3|h3
      ·exact absurd h3 hb0
      ·simp;omega
     clear h3 hne hb0
     go_wp2_with fail
    all_goals
     refine(ambiguous_any oa ma ia ixa.length x12.2 x12.1 _).mono ?_;rintro e w20 ⟨rfl,hb20⟩;have HI20:=hid (And.intro (HI5.out.1.trans (hb20.mono HI5.out.1.size)) (HI5.out.2.keep hb20));have HEw20:=hid (HEw.out.keep hb20);have HRg20:=row_ HRg.out hb20;have HRw20:=row_ HRa.out hb20;clear hb20 HEw HI5 HRg HRa HRb;refine HDD.out.elim (fun h => ?_) fun h => ?_
     ·have ha2:=h.1;have ha1:=h.2.1;obtain⟨r,hr,hrl⟩:=h.2.2;unfold ambQ at ha1 ha2;clear h HDD;rw[ha2];have HAm:=hid fun w'=>ambiguous_any og mg ig ixg.length x6.2 x6.1 w';rw[ha1] at HAm;subst hr;refine(qqi HRg20.out (k:=0) (by simp)).elim fun gb hg => ?_;have eg:=hg.1;have Hg:=hid hg.2;have hlen2:=Hig.out;obtain⟨L1,hL1⟩:∃ L1,L1=(0::r).length:=⟨_,rfl⟩;have hwr:IntKind.i64.wrap ((ixa.length:Int)+1)=(L1:Int):=by rw[hL1] at *;simp only[List.length_cons] at *;rw[qni _ (by omega) (by omega)];omega
      have hp1:(0:Int)<(L1:Int):=by rw[hL1];simp only[List.length_cons];omega
      have hp2:0<L1:=by rw[hL1];simp
      rw[← hL1] at HI20 HAm;rw[eg] at HI20 HAm;clear hg ha1 ha2 hL1 hlen2 hrl HRw20 HRg20;have e0:=HI20.out.2.cell 0;have e1:=HI20.out.2.cell 1;have e2:=HI20.out.2.cell 2;have e3:=HI20.out.2.cell 3;simp only[zu,zt] at e0 e1 e2 e3
      go_wp2_with fail
      refine(HAm.out _).mono ?_;rintro e w21 ⟨rfl,hb21⟩;have HE21:=hid (HI20.out.2.keep hb21);have HF21:=hid (HEw20.out.keep hb21);have HB21:=hid (HI20.out.1.trans (hb21.mono HI20.out.1.size));have c0:=Hg.out w21 hb21;simp only[List.getD_cons_zero] at c0;clear hb21 e0 e1 e2 e3;have e2:=HE21.out.cell 2;have f2:=HF21.out.cell 2;simp only[zu,zt] at e2 f2
      go_wp2_with fail
      go_ret
      exact⟨rfl,HB21.out⟩
     ·have ha2:=h.1;obtain⟨g1,g2,g3,g4⟩:=h.2;unfold ambQ at ha2;clear h HDD;rw[ha2];clear ha2;subst g1 g2 g3;have Hg4:=hid g4;clear g4;have hq4:ixg=if ixa=[] then [] else 0::ixa:=by rw[if_neg Hne.out];exact Hg4.out
      have Hq4:=hid hq4;clear hq4 Hg4
      go_wp2_with fail
      refine wpI_region (fun W=>Below w.heap.size w W∧Blk W b1 35 [.int .i64 og,.bool mg,.slice x6.1 ixg.length x6.2,.bool ig]∧Blk W b4 35 [.int .i64 og,.bool mg,.slice x12.1 ixa.length x12.2,.bool ig]) (by kernel_rfl) ?_;have HJ:Hid (Below w.heap.size w w20.drew∧Blk w20.drew b1 35 [.int .i64 og,.bool mg,.slice x6.1 ixg.length x6.2,.bool ig]∧Blk w20.drew b4 35 [.int .i64 og,.bool mg,.slice x12.1 ixa.length x12.2,.bool ig]):=hid ⟨HI20.out.1.drew,HI20.out.2.drew,HEw20.out.drew⟩;have HRd:=hid (qab (S:=fun _=>False) HRg20.out (qag.keep (zp w20.heap.size w20).drew) fun _ _ h=>h);have HQd:=hid (qab (S:=fun _=>False) HRw20.out (qag.keep (zp w20.heap.size w20).drew) fun _ _ h=>h)
      generalize w20.drew=wX at HJ HRd HQd ⊢
      refine' wpI_take (i:=0) (v:=_) rfl (by kernel_rfl) (by kernel_rfl) (by kernel_rfl) (fun _ _ _ h=>h) (Or.inl ⟨by rfl,_⟩) _
      rotate_left
      ·(intro wq hq;obtain⟨a0,a1,a2,a3⟩:=four_b hq.2.1;obtain⟨b0,b1,b2,b3⟩:=four_b hq.2.2;go_simp;first|done|with_reducible rfl)
      (try simp only[Act.put,zk,zh,zi,ze,zm,zn])
      refine' wpI_take (i:=1) (v:=_) rfl (by kernel_rfl) (by kernel_rfl) (by kernel_rfl) (fun _ _ _ h=>h) (Or.inl ⟨by rfl,_⟩) _
      rotate_left
      ·(intro wq hq;obtain⟨a0,a1,a2,a3⟩:=four_b hq.2.1;obtain⟨b0,b1,b2,b3⟩:=four_b hq.2.2;go_simp;first|done|with_reducible rfl)
      (try simp only[Act.put,zk,zh,zi,ze,zm,zn])
      refine' wpI_take (i:=2) (v:=_) rfl (by kernel_rfl) (by kernel_rfl) (by kernel_rfl) (fun _ _ _ h=>h) (Or.inl ⟨by rfl,_⟩) _
      rotate_left
      ·(intro wq hq;obtain⟨a0,a1,a2,a3⟩:=four_b hq.2.1;obtain⟨b0,b1,b2,b3⟩:=four_b hq.2.2;go_simp;first|done|with_reducible rfl)
      (try simp only[Act.put,zk,zh,zi,ze,zm,zn])
      refine wpI_one (i:=3) (by kernel_rfl) rfl HJ.out (by rfl) (fun K hK => ?_);go_simp
      go_at_call 17
      refine(behind_any 0 og mg ig ixa Hia.out x12.1 x12.2 wX HQd.out).mono ?_;rw[← Hq4.out];rintro e w23 ⟨x23,rfl,H23⟩;have HJ3:Hid (Below w.heap.size w w23∧Blk w23 b1 35 [.int .i64 og,.bool mg,.slice x6.1 ixg.length x6.2,.bool ig]∧Blk w23 b4 35 [.int .i64 og,.bool mg,.slice x12.1 ixa.length x12.2,.bool ig]):=hid ⟨HJ.out.1.trans (H23.out.2.mono HJ.out.1.size),HJ.out.2.1.keep H23.out.2,HJ.out.2.2.keep H23.out.2⟩;have HR23:=row_ HRd.out H23.out.2;refine hK _ _ ?_;clear hK K
      (try simp only[Act.put,zk,zh,zi,ze,zm,zn])
      refine wpI_one (i:=4) (by kernel_rfl) rfl HJ3.out (by rfl) (fun K hK => ?_);go_simp
      go_at_call 12
      refine(HSm.out og mg ig ixg x6.1 x23.1 x6.2 x23.2 w23 Hig.out HR23.out H23.out.1).mono ?_;rintro e w24 ⟨rfl,hb24⟩;have HJ4:Hid (Below w.heap.size w w24∧Blk w24 b1 35 [.int .i64 og,.bool mg,.slice x6.1 ixg.length x6.2,.bool ig]∧Blk w24 b4 35 [.int .i64 og,.bool mg,.slice x12.1 ixa.length x12.2,.bool ig]):=hid ⟨HJ3.out.1.trans (hb24.mono HJ3.out.1.size),HJ3.out.2.1.keep hb24,HJ3.out.2.2.keep hb24⟩;clear hb24;refine hK _ _ ?_;clear hK K
      (try simp only[Act.put,zk,zh,zi,ze,zm,zn])
      refine' wpI_take (i:=5) (v:=_) rfl (by kernel_rfl) (by kernel_rfl) (by kernel_rfl) (fun _ _ _ h=>h) (Or.inl ⟨by rfl,_⟩) _
      rotate_left
      ·(intro wq hq;obtain⟨a0,a1,a2,a3⟩:=four_b hq.2.1;obtain⟨b0,b1,b2,b3⟩:=four_b hq.2.2;go_simp;first|done|with_reducible rfl)
      (try simp only[Act.put,zk,zh,zi,ze,zm,zn])
      refine wpI_done (by kernel_rfl) HJ4.out ?_ _
      go_wp2_with fail
      go_ret
      exact⟨rfl,HJ4.out.1⟩
   ·have hne:=h.1;have Hne:=hid hne;have h1:((ixb.length:Int)==0)=false:=by simp;exact hne
    have h2:((ixa.length:Int)==(ixb.length:Int))=false:=by
     rcases h.2.1 with h2|h2
     ·subst h2;have:=List.length_pos_iff.2 hne;simp;omega
     ·simp;omega
    have h3:=h.2.1;have HDD:Hid (_∨_):=hid (by have:=h.2.2;unfold BehQ at this;exact this);clear h HD;by_cases hb0:ixa.length=0
    focus
     have h4:((ixa.length:Int)==0)=true:=by simpa using hb0
     clear h3 hne hb0
     go_wp2_with fail
    rotate_left
    focus
     have hb0:ixa≠[]:=fun e=>hb0 (by rw[e];rfl);have h4:((ixa.length:Int)==0)=false:=by simp;exact hb0
     have h5:decide (ixb.length<ixa.length)=true:=by
      rcases h3 with h3|h3
      ·exact absurd h3 hb0
      ·simp;omega
     have h6:decide (0<ixb.length)=true:=by simpa using List.length_pos_iff.2 hne
     clear h3 hne hb0
     go_wp2_with fail
    all_goals
     refine wpI_region (fun W=>Below w.heap.size w W∧Blk W b1 35 [.int .i64 og,.bool mg,.slice x6.1 ixg.length x6.2,.bool ig]∧Blk W b2 35 [.int .i64 oa,.bool ma,.slice x12.1 ixa.length x12.2,.bool ia]∧Blk W (b2+1) 35 [.int .i64 ob,.bool mb,.slice x14.1 ixb.length x14.2,.bool ib]) (by kernel_rfl) ?_;have HI4:Hid (Below w.heap.size w wC.drew∧Blk wC.drew b1 35 [.int .i64 og,.bool mg,.slice x6.1 ixg.length x6.2,.bool ig]∧Blk wC.drew b2 35 [.int .i64 oa,.bool ma,.slice x12.1 ixa.length x12.2,.bool ia]∧Blk wC.drew (b2+1) 35 [.int .i64 ob,.bool mb,.slice x14.1 ixb.length x14.2,.bool ib]):=hid ⟨HI4.out.1.drew,HI4.out.2.1.drew,HI4.out.2.2.1.drew,HI4.out.2.2.2.drew⟩;have HEw:=hid HEw.out.drew;have HRg:=hid (qab (S:=fun _=>False) HRg.out (qag.keep (zp wC.heap.size wC).drew) fun _ _ h=>h);have HRb:=hid (qab (S:=fun _=>False) HRb.out (qag.keep (zp wC.heap.size wC).drew) fun _ _ h=>h)
     generalize wC.drew=wD at HI4 HEw HRg HRb ⊢
     refine' wpI_take (i:=0) (v:=_) rfl (by kernel_rfl) (by kernel_rfl) (by kernel_rfl) (fun _ _ _ h=>h) (Or.inl ⟨by rfl,_⟩) _
     rotate_left
     ·(intro wq hq;obtain⟨a0,a1,a2,a3⟩:=four_b hq.2.1;obtain⟨b0,b1,b2,b3⟩:=four_b hq.2.2.1;obtain⟨d0,d1,d2,d3⟩:=four_b hq.2.2.2;go_simp;first|done|with_reducible rfl)
     (try simp only[Act.put,zk,zh,zi,ze,zm,zn])
     refine' wpI_take (i:=1) (v:=_) rfl (by kernel_rfl) (by kernel_rfl) (by kernel_rfl) (fun _ _ _ h=>h) (Or.inl ⟨by rfl,_⟩) _
     rotate_left
     ·(intro wq hq;obtain⟨a0,a1,a2,a3⟩:=four_b hq.2.1;obtain⟨b0,b1,b2,b3⟩:=four_b hq.2.2.1;obtain⟨d0,d1,d2,d3⟩:=four_b hq.2.2.2;go_simp;first|done|with_reducible rfl)
     (try simp only[Act.put,zk,zh,zi,ze,zm,zn])
     have e0:=HEw.out.cell 0;have e1:=HEw.out.cell 1;have e2:=HEw.out.cell 2;have e3:=HEw.out.cell 3;simp only[zu,zt] at e0 e1 e2 e3;have s0:=HEw.out.soft 0;have s1:=HEw.out.soft 1;have s2:=HEw.out.soft 2;have s3:=HEw.out.soft 3;refine wpI_one (i:=2) (by kernel_rfl) rfl HI4.out (by rfl) (fun K hK => ?_);go_simp;refine hK _ _ ?_;clear hK K;change wpI _ _ _ _ _ _ _ (put4 wD b4 (.int .i64 ob) (.bool mb) (.slice x14.1 ixb.length x14.2) (.bool ib));have HT:=hid (qv4 HEw.out (.int .i64 ob) (.bool mb) (.slice x14.1 ixb.length x14.2) (.bool ib));have HAp:=hid (qrl wD b4 (.int .i64 ob) (.bool mb) (.slice x14.1 ixb.length x14.2) (.bool ib));have HI6:Hid (Below w.heap.size w (put4 wD b4 (.int .i64 ob) (.bool mb) (.slice x14.1 ixb.length x14.2) (.bool ib))∧Blk (put4 wD b4 (.int .i64 ob) (.bool mb) (.slice x14.1 ixb.length x14.2) (.bool ib)) b1 35 [.int .i64 og,.bool mg,.slice x6.1 ixg.length x6.2,.bool ig]∧Blk (put4 wD b4 (.int .i64 ob) (.bool mb) (.slice x14.1 ixb.length x14.2) (.bool ib)) b2 35 [.int .i64 oa,.bool ma,.slice x12.1 ixa.length x12.2,.bool ia]∧Blk (put4 wD b4 (.int .i64 ob) (.bool mb) (.slice x14.1 ixb.length x14.2) (.bool ib)) (b2+1) 35 [.int .i64 ob,.bool mb,.slice x14.1 ixb.length x14.2,.bool ib]):=hid ⟨qru HI4.out.1 hle4.out _ _ _ _,HI4.out.2.1.apart HAp.out hne4,HI4.out.2.2.1.apart HAp.out hne42,HI4.out.2.2.2.apart HAp.out hne43⟩;have HRg:=hid (qab HRg.out HAp.out fun g hg e=>by
      obtain⟨cs,hb⟩:=qaf HRg.out hg;exact hb.tne HEw.out (by decide) e)
     have HRb:=hid (qab HRb.out HAp.out fun g hg e=>by
      obtain⟨cs,hb⟩:=qaf HRb.out hg;exact hb.tne HEw.out (by decide) e)
     clear e0 e1 e2 e3 s0 s1 s2 s3 HEw HAp HI4 HRa
     generalize put4 wD b4 (.int .i64 ob) (.bool mb) (.slice x14.1 ixb.length x14.2) (.bool ib)=wE at HT HI6 HRg HRb ⊢
     refine wpI_done (by kernel_rfl) HI6.out ?_ _;have HEw:=HT;have HRa:=HRb;have HI5:=hid (And.intro HI6.out.1 HI6.out.2.1);clear HT HI6;have e0:=HEw.out.cell 0;have e1:=HEw.out.cell 1;have e2:=HEw.out.cell 2;have e3:=HEw.out.cell 3;simp only[zu,zt] at e0 e1 e2 e3
     go_wp2_with fail
     refine(ambiguous_any ob mb ib ixb.length x14.2 x14.1 _).mono ?_;rintro e w20 ⟨rfl,hb20⟩;have HI20:=hid (And.intro (HI5.out.1.trans (hb20.mono HI5.out.1.size)) (HI5.out.2.keep hb20));have HEw20:=hid (HEw.out.keep hb20);have HRg20:=row_ HRg.out hb20;have HRw20:=row_ HRb.out hb20;clear hb20 HEw HI5 HRg HRa HRb;refine HDD.out.elim (fun h => ?_) fun h => ?_
     ·have ha2:=h.1;have ha1:=h.2.1;obtain⟨r,hr,hrl⟩:=h.2.2;unfold ambQ at ha1 ha2;clear h HDD;rw[ha2];have HAm:=hid fun w'=>ambiguous_any og mg ig ixg.length x6.2 x6.1 w';rw[ha1] at HAm;subst hr;refine(qqi HRg20.out (k:=0) (by simp)).elim fun gb hg => ?_;have eg:=hg.1;have Hg:=hid hg.2;have hlen2:=Hig.out;obtain⟨L1,hL1⟩:∃ L1,L1=(1::r).length:=⟨_,rfl⟩;have hwr:IntKind.i64.wrap ((ixb.length:Int)+1)=(L1:Int):=by rw[hL1] at *;simp only[List.length_cons] at *;rw[qni _ (by omega) (by omega)];omega
      have hp1:(0:Int)<(L1:Int):=by rw[hL1];simp only[List.length_cons];omega
      have hp2:0<L1:=by rw[hL1];simp
      rw[← hL1] at HI20 HAm;rw[eg] at HI20 HAm;clear hg ha1 ha2 hL1 hlen2 hrl HRw20 HRg20;have e0:=HI20.out.2.cell 0;have e1:=HI20.out.2.cell 1;have e2:=HI20.out.2.cell 2;have e3:=HI20.out.2.cell 3;simp only[zu,zt] at e0 e1 e2 e3
      go_wp2_with fail
      refine(HAm.out _).mono ?_;rintro e w21 ⟨rfl,hb21⟩;have HE21:=hid (HI20.out.2.keep hb21);have HF21:=hid (HEw20.out.keep hb21);have HB21:=hid (HI20.out.1.trans (hb21.mono HI20.out.1.size));have c0:=Hg.out w21 hb21;simp only[List.getD_cons_zero] at c0;clear hb21 e0 e1 e2 e3;have e2:=HE21.out.cell 2;have f2:=HF21.out.cell 2;simp only[zu,zt] at e2 f2
      go_wp2_with fail
      go_ret
      exact⟨rfl,HB21.out⟩
     ·have ha2:=h.1;obtain⟨g1,g2,g3,g4⟩:=h.2;unfold ambQ at ha2;clear h HDD;rw[ha2];clear ha2;subst g1 g2 g3;have Hg4:=hid g4;clear g4;have hq4:ixg=if ixb=[] then [] else 1::ixb:=by rw[if_neg Hne.out];exact Hg4.out
      have Hq4:=hid hq4;clear hq4 Hg4
      go_wp2_with fail
      refine wpI_region (fun W=>Below w.heap.size w W∧Blk W b1 35 [.int .i64 og,.bool mg,.slice x6.1 ixg.length x6.2,.bool ig]∧Blk W b4 35 [.int .i64 og,.bool mg,.slice x14.1 ixb.length x14.2,.bool ig]) (by kernel_rfl) ?_;have HJ:Hid (Below w.heap.size w w20.drew∧Blk w20.drew b1 35 [.int .i64 og,.bool mg,.slice x6.1 ixg.length x6.2,.bool ig]∧Blk w20.drew b4 35 [.int .i64 og,.bool mg,.slice x14.1 ixb.length x14.2,.bool ig]):=hid ⟨HI20.out.1.drew,HI20.out.2.drew,HEw20.out.drew⟩;have HRd:=hid (qab (S:=fun _=>False) HRg20.out (qag.keep (zp w20.heap.size w20).drew) fun _ _ h=>h);have HQd:=hid (qab (S:=fun _=>False) HRw20.out (qag.keep (zp w20.heap.size w20).drew) fun _ _ h=>h)
      generalize w20.drew=wX at HJ HRd HQd ⊢
      refine' wpI_take (i:=0) (v:=_) rfl (by kernel_rfl) (by kernel_rfl) (by kernel_rfl) (fun _ _ _ h=>h) (Or.inl ⟨by rfl,_⟩) _
      rotate_left
      ·(intro wq hq;obtain⟨a0,a1,a2,a3⟩:=four_b hq.2.1;obtain⟨b0,b1,b2,b3⟩:=four_b hq.2.2;go_simp;first|done|with_reducible rfl)
      (try simp only[Act.put,zk,zh,zi,ze,zm,zn])
      refine' wpI_take (i:=1) (v:=_) rfl (by kernel_rfl) (by kernel_rfl) (by kernel_rfl) (fun _ _ _ h=>h) (Or.inl ⟨by rfl,_⟩) _
      rotate_left
      ·(intro wq hq;obtain⟨a0,a1,a2,a3⟩:=four_b hq.2.1;obtain⟨b0,b1,b2,b3⟩:=four_b hq.2.2;go_simp;first|done|with_reducible rfl)
      (try simp only[Act.put,zk,zh,zi,ze,zm,zn])
      refine' wpI_take (i:=2) (v:=_) rfl (by kernel_rfl) (by kernel_rfl) (by kernel_rfl) (fun _ _ _ h=>h) (Or.inl ⟨by rfl,_⟩) _
      rotate_left
      ·(intro wq hq;obtain⟨a0,a1,a2,a3⟩:=four_b hq.2.1;obtain⟨b0,b1,b2,b3⟩:=four_b hq.2.2;go_simp;first|done|with_reducible rfl)
      (try simp only[Act.put,zk,zh,zi,ze,zm,zn])
      refine wpI_one (i:=3) (by kernel_rfl) rfl HJ.out (by rfl) (fun K hK => ?_);go_simp
      go_at_call 17
      refine(behind_any 1 og mg ig ixb Hib.out x14.1 x14.2 wX HQd.out).mono ?_;rw[← Hq4.out];rintro e w23 ⟨x23,rfl,H23⟩;have HJ3:Hid (Below w.heap.size w w23∧Blk w23 b1 35 [.int .i64 og,.bool mg,.slice x6.1 ixg.length x6.2,.bool ig]∧Blk w23 b4 35 [.int .i64 og,.bool mg,.slice x14.1 ixb.length x14.2,.bool ig]):=hid ⟨HJ.out.1.trans (H23.out.2.mono HJ.out.1.size),HJ.out.2.1.keep H23.out.2,HJ.out.2.2.keep H23.out.2⟩;have HR23:=row_ HRd.out H23.out.2;refine hK _ _ ?_;clear hK K
      (try simp only[Act.put,zk,zh,zi,ze,zm,zn])
      refine wpI_one (i:=4) (by kernel_rfl) rfl HJ3.out (by rfl) (fun K hK => ?_);go_simp
      go_at_call 12
      refine(HSm.out og mg ig ixg x6.1 x23.1 x6.2 x23.2 w23 Hig.out HR23.out H23.out.1).mono ?_;rintro e w24 ⟨rfl,hb24⟩;have HJ4:Hid (Below w.heap.size w w24∧Blk w24 b1 35 [.int .i64 og,.bool mg,.slice x6.1 ixg.length x6.2,.bool ig]∧Blk w24 b4 35 [.int .i64 og,.bool mg,.slice x14.1 ixb.length x14.2,.bool ig]):=hid ⟨HJ3.out.1.trans (hb24.mono HJ3.out.1.size),HJ3.out.2.1.keep hb24,HJ3.out.2.2.keep hb24⟩;clear hb24;refine hK _ _ ?_;clear hK K
      (try simp only[Act.put,zk,zh,zi,ze,zm,zn])
      refine' wpI_take (i:=5) (v:=_) rfl (by kernel_rfl) (by kernel_rfl) (by kernel_rfl) (fun _ _ _ h=>h) (Or.inl ⟨by rfl,_⟩) _
      rotate_left
      ·(intro wq hq;obtain⟨a0,a1,a2,a3⟩:=four_b hq.2.1;obtain⟨b0,b1,b2,b3⟩:=four_b hq.2.2;go_simp;first|done|with_reducible rfl)
      (try simp only[Act.put,zk,zh,zi,ze,zm,zn])
      refine wpI_done (by kernel_rfl) HJ4.out ?_ _
      go_wp2_with fail
      go_ret
      exact⟨rfl,HJ4.out.1⟩
theorem ambQ_yes {r:Rs} (h:r.ob=none) (h2:r.ind=false) (h3:r.ix≠[]):ambQ (obI r) (obM r) r.ind r.ix=true:=by
 unfold ambQ obM;rw[h,h2,decide_eq_true (obI_neg.2 h),decide_eq_true (List.length_pos_iff.2 h3)];rfl
theorem ambQ_no {r:Rs} (h:r.ob≠none):ambQ (obI r) (obM r) r.ind r.ix=false:=by
 unfold ambQ;rw[decide_eq_false (fun e=>h (obI_neg.1 e))];rfl
theorem Beh.toQ {n:Nat} {a g:Rs} (h:Beh n a g) (h1:a.ix≠[]) (h2:a.ob=none→a.ind=false):BehQ n (obI a) (obI g) (obM a) (obM g) a.ind g.ind a.ix g.ix:=by
 by_cases ho:a.ob=none
 ·obtain⟨⟨g1,g2,g3⟩,g4⟩:=h.1 ho;exact .inl ⟨ambQ_yes ho (h2 ho) h1,ambQ_yes g1 g2 g3,g4⟩
 ·have h3:=h.2 ho;subst h3;refine .inr ⟨ambQ_no ho,rfl,rfl,rfl,?_⟩;unfold preR;simp only;rw[if_neg h1]
theorem small_fld {W:Wd} {t:Ty} {P:Nat→Nat} (h:qdx W t P) (hk:t.kind≠1) (i:Nat) (hi:i<t.fields.length):qdx W (t.fields.getD i fd0).of P:=
 ⟨h.pos,h.alias,h.decl,by have h1:=h.operand;have h2:=qwe (P:=P) hk i hi;omega⟩
theorem lawBeside (W:Wd) (a:Option Addr) (c:Nat) (w:World) (hW:WOk w W a c) (hT:Tabs w) (d e p m:Int):
  Calls prog 5 #[.slice a W.length c,.int .i64 d,.int .i64 e,.int .i64 p,.int .i64 m] w (qa2 (.bool true) w):=by
 have hl:=qbk W;have hbk:=hW.bulk;have hlen:(W.length:Int)≤2147483647:=by omega
 by_cases h0:d<0
 ·have h0':decide (d<0)=true:=by simpa using h0
  clear hW hT hl hbk;go_enter func5,ntmps5
  go_wp2_with fail
  go_ret
  exact⟨rfl,zp _ _⟩
 have h0':decide (d<0)=false:=by simpa using h0
 by_cases h1:(W.length:Int)≤d
 ·have h1':decide ((W.length:Int)≤d)=true:=by simpa using h1
  clear hW hT hl hbk h0 h1;go_enter func5,ntmps5
  go_wp2_with fail
  go_ret
  exact⟨rfl,zp _ _⟩
 have h1':decide ((W.length:Int)≤d)=false:=by simpa using h1
 by_cases h2:e<0
 ·have h2':decide (e<0)=true:=by simpa using h2
  clear hW hT hl hbk h0 h1;go_enter func5,ntmps5
  go_wp2_with fail
  go_ret
  exact⟨rfl,zp _ _⟩
 have h2':decide (e<0)=false:=by simpa using h2
 by_cases h3:(W.length:Int)≤e
 ·have h3':decide ((W.length:Int)≤e)=true:=by simpa using h3
  clear hW hT hl hbk h0 h1 h2 h3;go_enter func5,ntmps5
  go_wp2_with fail
  go_ret
  exact⟨rfl,zp _ _⟩
 obtain⟨k,rfl⟩:∃ k:Nat,d=k:=⟨d.toNat,by omega⟩;obtain⟨l,rfl⟩:∃ l:Nat,e=l:=⟨e.toNat,by omega⟩;have hk:k<W.length:=by omega
 have hl2:l<W.length:=by omega
 obtain⟨b,o,a1,c1,a2,c2,a3,c3,a4,c4,a5,c5,rfl,-,-,-,-,-,hcc⟩:=hW.row.get k hk;rw[← qcg hk] at hcc;obtain⟨ek,-⟩:=ten hcc;have el:w.cell? ⟨b,o+l * 10,none⟩=some (.int .i64 (dc W l).name):=by
  obtain⟨b',o',a1,c1,a2,c2,a3,c3,a4,c4,a5,c5,hb',-,-,-,-,-,hcj⟩:=hW.row.get l hl2;rw[← qcg hl2] at hcj;cases hb';exact(ten hcj).1
 have hln:=fun(t:Ty)=>Nat.le_trans (lookM_len W (operand W t) true p m) (fuelW_le (by omega));have nd:∀ (j:Nat) (i:Nat) cs w',j<W.length→i<2→((twoT k l).fields.getD i fd0).of=ndT j→Below w.heap.size w w'→Asked W (twoT k l) p m→TyC w' (ndT j) cs→Calls prog 10 #[.slice (some ⟨b,o,none⟩) W.length c,.agg cs.toArray,.bool true,.int .i64 p,.int .i64 m] w' (AnsPost (obI (qch W (operand W (ndT j)) true p m)) (obM (qch W (operand W (ndT j)) true p m)) (qch W (operand W (ndT j)) true p m).ix (qch W (operand W (ndT j)) true p m).ind w'):=fun j i cs w' hj hi he h hA ht=>by
  obtain⟨hF,P,hS,-⟩:=hA.2.2;have hS2:=small_fld hS (by show(4:Int)≠1;omega) i (by show i<2;exact hi);rw[he] at hS2;exact(qgz W (some ⟨b,o,none⟩) c w' (ndT j) (fitOk_nd hF hj) (fitOk_nd hF hj).nm (hW.keep (qac.below h)) (hT.below h) (by simp[ndT,Ty.bulk,qbt,qcm]) P hS2 cs ht true p m hA.1 hA.2.1).mono fun e w2 h=>h.ans
 refine bes_walk W.length c w k l hk hl2 (by omega) p m (dc W k).name (dc W l).name b o ek el (Asked W (twoT k l) p m)
  (fun cs w' h ht=>qvj W (some ⟨b,o,none⟩) c (twoT k l) cs p m w' (hW.keep (qac.below h)) (by simp[twoT,stT,ndT,Ty.bulk,qbt,qcm]) ht)
  (fun w' h=>qtr w' (hT.below h)) (fun o m i ix a1 a2 c1 c2 w' hl h1 h2=>same_yes o m i ix hl a1 a2 c1 c2 w' h1 h2) (fun a c w'=>qu7 a c w')
  (obI (qch W (operand W (twoT k l)) true p m)) (obI (qch W (operand W (ndT k)) true p m)) (obI (qch W (operand W (ndT l)) true p m))
  (obM (qch W (operand W (twoT k l)) true p m)) (obM (qch W (operand W (ndT k)) true p m)) (obM (qch W (operand W (ndT l)) true p m))
  (qch W (operand W (twoT k l)) true p m).ind (qch W (operand W (ndT k)) true p m).ind (qch W (operand W (ndT l)) true p m).ind
  (qch W (operand W (twoT k l)) true p m).ix (qch W (operand W (ndT k)) true p m).ix (qch W (operand W (ndT l)) true p m).ix (hln _) (hln _) (hln _)
  (fun hA=>⟨hA.1,hA.2.1,(hA.2.2.1.names k hk).1,(hA.2.2.1.names l hl2).1,?_⟩)
  (fun cs w' h hA ht=>(qs2 W (some ⟨b,o,none⟩) c w' (twoT k l) hA.2.2 (hW.keep (qac.below h)) (hT.below h) (by simp[twoT,stT,ndT,Ty.bulk,qbt,qcm]) cs ht true p m hA.1 hA.2.1).mono fun e w2 h=>h.ans)
  (fun cs w' h hA ht=>nd k 0 cs w' hk (by omega) rfl h hA ht) (fun cs w' h hA ht=>nd l 1 cs w' hl2 (by omega) rfl h hA ht)
 by_cases hm8:m=8
 ·subst hm8;have no:∀ d,d<W.length→qbp 0 (dc W d).name p 8=false:=fun d hd=>by
   have h1:=(hA.2.2.1.names d hd).2.1;unfold qbp;rw[beq_eq_false_iff_ne.2 h1];rfl
  rw[qp7,qp7,qp7];exact .inr ⟨⟨no k hk,no l hl2⟩,.inl ⟨rfl,rfl,rfl,rfl,rfl,rfl⟩⟩
 ·by_cases hs:qbp 0 (dc W k).name p m=true∨qbp 0 (dc W l).name p m=true
  ·obtain⟨x,i,h4⟩:=beside_own hA.2.2 hbk hm8 p true hs;rw[h4];exact .inl ⟨hs,by simp[obI],rfl,rfl⟩
  ·have hs1:qbp 0 (dc W k).name p m=false:=by
    cases h:qbp 0 (dc W k).name p m with
    | false=>rfl
    | true=>exact absurd (.inl h) hs
   have hs2:qbp 0 (dc W l).name p m=false:=by
    cases h:qbp 0 (dc W l).name p m with
    | false=>rfl
    | true=>exact absurd (.inr h) hs
   obtain⟨h4,h5,h6⟩:=beside_nd hA.2.2 hbk hm8 p hs1 hs2;refine .inr ⟨⟨hs1,hs2⟩,?_⟩;rcases h4 with ⟨q1,q2,q3⟩|⟨q1,q2,⟨q3,q4,q5⟩,q6⟩|⟨q1,q2,q3⟩|⟨q1,q2,q3⟩
   ·rw[q3];exact .inl ⟨q1,q2,rfl,rfl,rfl,rfl⟩
   ·exact .inr (.inl ⟨q1,q2.symm,ambQ_yes q3 q4 q5,q6⟩)
   ·exact .inr (.inr (.inl ⟨q1,q2,q3.toQ q1 h5⟩))
   ·exact .inr (.inr (.inr ⟨q1,q2,q3.toQ q1 h6⟩))
