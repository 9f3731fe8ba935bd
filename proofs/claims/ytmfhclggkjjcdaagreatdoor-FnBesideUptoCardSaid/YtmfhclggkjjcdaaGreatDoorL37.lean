import Derived.Test.YtmfhclggkjjcdaaGreatDoorL07
import Derived.Test.YtmfhclggkjjcdaaGreatDoorL04
set_option linter.all false
set_option maxHeartbeats 8000000
namespace Go.Proofs.YtmfhclggkjjcdaaGreatDoor
open Go Go.RowKit Go.Proofs.Tryz
set_option maxRecDepth 100000
theorem Tryz.infoTyA:(prog.info? 54).map (fun i=>(i.zero,i.size,i.bytes))=some (some (.agg #[.int .i64 0,.int .i64 0,.slice none 0 0,.slice none 0 0,.slice none 0 0,.slice none 0 0]),6,112):=by kernel_rfl
theorem Tryz.infoFd:(prog.info? 95).map (fun i=>(i.zero,i.size,i.bytes))=some (some (.agg #[.int .i64 0,.bool false,.int .i64 0,.int .i64 0,.slice none 0 0,.slice none 0 0,.slice none 0 0,.slice none 0 0]),8,128):=by kernel_rfl
theorem Tryz.infoMt:(prog.info? 85).map (fun i=>(i.zero,i.size,i.bytes))=some (some (.agg #[.int .i64 0,.bool false]),2,16):=by kernel_rfl
def qmz (t:Ty) (w:World) (e:Ending) (w':World):Prop:=∃ cs,e = .returned (.agg cs.toArray)∧TyC (hide (fun b=>b<w.heap.size) w') t cs∧Below w.heap.size w w'
theorem bulk_eq' (t:Ty):t.bulk=1+qbt t.elem+qcm t.fields+t.methods.length+qbt t.embeds:=by cases t;rfl
theorem qwd (t:Ty) (cs:List Value) (w0 w:World) (hb:t.bulk≤1048576) (ht:TyC w0 t cs) (k0:qac w0 w)
  (ih:∀ (u:Ty) (cs:List Value) (w:World),u.bulk<t.bulk→TyC w0 u cs→qac w0 w→Calls prog 22 #[.agg cs.toArray] w (qmz u w)):
  Calls prog 22 #[.agg cs.toArray] w (qmz t w):=by
 have IH:=hid ih;obtain⟨i0,hi,hz0,hz1,hzb⟩:=info_parts Tryz.infoTyA;have Hi:=hid hi;have Hi0:=hid hz0;have Hi1:=hid hz1;have Hi2:=hid hzb;clear hi hz0 hz1 hzb;obtain⟨i8,hi,hz0,hz1,hzb⟩:=info_parts Tryz.infoFd;have Fi:=hid hi;have F0:=hid hz0;have F1:=hid hz1;have F2:=hid hzb;clear hi hz0 hz1 hzb;obtain⟨i9,hi,hz0,hz1,hzb⟩:=info_parts Tryz.infoMt;have Ti:=hid hi;have T0:=hid hz0;have T1:=hid hz1;have T2:=hid hzb;clear hi hz0 hz1 hzb;obtain⟨x1,d1,x2,d2,x3,d3,x4,d4,rfl,⟨q1,q2,q3,q4⟩,hik,hin,h1,h2,h3,h4,htt⟩:=ht.full;have hsz:t.elem.length≤1048576∧t.fields.length≤1048576∧t.methods.length≤1048576∧t.embeds.length≤1048576:=by
  have:=qa3 t.elem;have:=qbv t.fields;have:=qa3 t.embeds;have h:t.bulk=1+qbt t.elem+qcm t.fields+t.methods.length+qbt t.embeds:=by cases t;rfl
  omega
 obtain⟨z1,z2,z3,z4⟩:=hsz;have K0:=hid k0;have H1:=hid h1;have H2:=hid h2;have H3:=hid h3;have H4:=hid h4;have Hik:=hid hik;have Hin:=hid hin;clear ih ht htt h1 h2 h3 h4 k0 hik hin;go_enter func22,ntmps22
 go_wp2_with fail
 obtain⟨w2,hw2⟩:∃ w2,w2=((w.alloc (Obj.cells #[.int .i64 t.kind,.int .i64 t.num,.slice x1 t.elem.length d1,.slice x2 t.fields.length d2,.slice x3 t.methods.length d3,.slice x4 t.embeds.length d4] 29)).alloc (Obj.cells #[.int .i64 0,.int .i64 0,.slice none 0 0,.slice none 0 0,.slice none 0 0,.slice none 0 0] 54)).alloc (Obj.cells #[.int .i64 t.kind,.int .i64 t.num,.slice none 0 0,.slice none 0 0,.slice none 0 0,.slice none 0 0] 54):=⟨_,rfl⟩;rw[← hw2];have hz2:w2.heap.size=w.heap.size+1+1+1:=by rw[hw2];simp
 have HB2:Hid (Below w.heap.size w w2):=hid (by rw[hw2];exact(((zp _ _).alloc (zl _) _).alloc (by simp) _).alloc (by simp;omega) _);have Hb0:Hid (Blk w2 w.heap.size 29 [.int .i64 t.kind,.int .i64 t.num,.slice x1 t.elem.length d1,.slice x2 t.fields.length d2,.slice x3 t.methods.length d3,.slice x4 t.embeds.length d4]):=hid (by rw[hw2];exact((Blk.new w _ _).alloc _).alloc _);have Hb1:Hid (Blk w2 (w.heap.size+1) 54 [.int .i64 0,.int .i64 0,.slice none 0 0,.slice none 0 0,.slice none 0 0,.slice none 0 0]):=hid (by
  rw[hw2];have:=Blk.new (w.alloc (Obj.cells #[.int .i64 t.kind,.int .i64 t.num,.slice x1 t.elem.length d1,.slice x2 t.fields.length d2,.slice x3 t.methods.length d3,.slice x4 t.embeds.length d4] 29)) 54 [.int .i64 0,.int .i64 0,.slice none 0 0,.slice none 0 0,.slice none 0 0,.slice none 0 0];rw[zd] at this;exact this.alloc _)
 have Hb2:Hid (Blk w2 (w.heap.size+1+1) 54 [.int .i64 t.kind,.int .i64 t.num,.slice none 0 0,.slice none 0 0,.slice none 0 0,.slice none 0 0]):=hid (by
  rw[hw2];have:=Blk.new ((w.alloc (Obj.cells #[.int .i64 t.kind,.int .i64 t.num,.slice x1 t.elem.length d1,.slice x2 t.fields.length d2,.slice x3 t.methods.length d3,.slice x4 t.embeds.length d4] 29)).alloc (Obj.cells #[.int .i64 0,.int .i64 0,.slice none 0 0,.slice none 0 0,.slice none 0 0,.slice none 0 0] 54)) 54 [.int .i64 t.kind,.int .i64 t.num,.slice none 0 0,.slice none 0 0,.slice none 0 0,.slice none 0 0];rw[zd,zd] at this;exact this)
 have hz2':w.heap.size+1+1+1≤w2.heap.size:=by omega
 have Hz2:=hid hz2;clear hw2 hz2
 go_loopw [20] (fun j wr=>∃ k:Nat,k≤t.elem.length∧j = .int .i64 k∧Below (w.heap.size+1+1) w2 wr∧Hid (∃ ra rc xs,Blk wr (w.heap.size+1+1) 54 [.int .i64 t.kind,.int .i64 t.num,.slice ra k rc,.slice none 0 0,.slice none 0 0,.slice none 0 0]∧
   wr.ownsRow 0 54 6 (.slice ra k rc) k xs∧(∀ g,(Value.slice ra k rc).ownBlock=some g→w.heap.size+1+1+1≤g)∧TysX (hide (HidR (w.heap.size+1+1+1) (.slice ra k rc)) wr) (t.elem.take k) xs))
  (fun j _=>t.elem.length - (intOf j).toNat)
 case atStart=>exact⟨0,by omega,rfl,zp _ _,hid ⟨none,0,[],Hb2.out,zdb _ _ _ _,fun g h=>(by cases h),rfl⟩⟩
 case round=>
  obtain⟨k,hk,rfl,hbel,hst⟩:=hrel;obtain⟨ra,rc,xs,hblk,hown,hvB,hxs⟩:=hst.out;have hz:=zq hbel;have HBw:Hid (Below w.heap.size w wr):=hid (HB2.out.trans (hbel.mono (by omega)));have HK:Hid (qac w0 wr):=hid (K0.out.trans (qac.below HBw.out));have hb0:=hblk.cell 2;have hf0:=hblk.soft 2;simp only[zu,zt] at hb0;have Hown:=hid hown;have HvB:=hid hvB;have Hxs:=hid hxs;have Hblk:=hid hblk;have hl0:w.heap.size+1+1<wr.heap.size:=hblk.lt;have hl1:w.heap.size+1+1<wr.heap.size+1:=by omega
  clear hst hown hvB hxs hblk;by_cases hlt:k<t.elem.length
  ·obtain⟨b,o,cs,rfl,hc,ht1⟩:=TysR.get H1.out k hlt;have Ht1:=hid ht1;obtain⟨y1,g1,y2,g2,y3,g3,y4,g4,rfl,-⟩:=ht1.open;obtain⟨e0,e1,e2,e3,e4,e5⟩:=six (hc.keep HK.out);simp only[Nat.zero_add] at e0 e1 e2 e3 e4 e5;have hbr:=zj wr _ e0;simp only at hbr;have hbr1:b<wr.heap.size+1:=by omega
   have hself:wr.heap.size<wr.heap.size+1:=zw _;have hbk:=qa6 t.elem k hlt;have hbke:=bulk_eq' t;clear hc ht1
   go_wp2_with fail
   refine Mix.wp_region [0,1,2] [(3,false),(4,false)] [5,6,7] (fun _=>default) (by kernel_rfl) (by kernel_rfl) (by decide) ?_
   iterate 3 (first|(refine pre_yes rfl rfl ?_;apply Exists.intro;refine⟨fun W1 hW1 => ?_,?_⟩;(focus (have hc1:=(qal hW1).1;(try simp only[zd,qaa] at hc1);have hk1:=qac.below hW1;go_simp;first|exact rfl|fail));simp only[Act.put,zk,zh,zi,ze,zm,zn])|(refine pre_no rfl rfl ?_;simp only[Act.put,zk,zh,zi,ze,zm,zn]))
   refine pre_end (fl_op (fl_op fl_nil)) (fun W2 hW2 => ?_);have hz2a:=zq hW2;(try simp only[zd,qaa] at hz2a);refine mid_call hW2 rfl rfl (fun Kp hKp => ?_);go_simp;refine(IH.out t.elem[k] _ W2 (by omega) Ht1.out ((HK.out.trans (qac.alloc _ _)).trans (qac.below hW2).undrew)).mono ?_;rintro e W3 ⟨cs3,rfl,ht3,hW3⟩;obtain⟨f1,p1,f2,p2,f3,p3,f4,p4,rfl,-⟩:=ht3.open;have Ht3:=hid ht3;clear ht3;refine⟨_,rfl,hKp _ _ hW3 fun W4 hW4 => ?_⟩;simp only[Act.put,zk,zh,zi,ze,zm,zn];have hz3a:=zq hW3;(try simp only[zd,qaa] at hz3a);have hz4a:=zq hW4;(try simp only[zd,qaa] at hz4a);have hB4:=qa4 hW4 (qbl hW3 hW2 (by first|omega|(simp;done)|(simp;omega)));refine mid_call hB4 rfl rfl (fun Kp2 hKp2 => ?_);go_simp;refine hKp2 _ _ ((zp _ _).alloc (zl _) _) fun W5 hW5 => ?_;simp only[Act.put,zk,zh,zi,ze,zm,zn];have hz5a:=zq hW5;(try simp only[zd,qaa] at hz5a);have hBW:Below wr.heap.size wr W5:=(((zp _ _).alloc (zl _) _).drew).trans ((hB4.mono (by simp)).trans (((zp _ _).alloc (by omega) _).trans (hW5.mono (by simp;omega))));have hown5:=qab Hown.out (qag.keep (S:=fun _=>False) hBW) (fun _ _ h=>h);have hnew:=((Blk.new W4 54 [.int .i64 t.elem[k].kind,.int .i64 t.elem[k].num,.slice f1 t.elem[k].elem.length p1,.slice f2 t.elem[k].fields.length p2,.slice f3 t.elem[k].methods.length p3,.slice f4 t.elem[k].embeds.length p4]).keep hW5);have hbk5:=Hblk.out.keep hBW;have HBW:=hid hBW;have Hnew:=hid hnew;have Hown5:=hid hown5;have Hbk5:=hid hbk5;have ht5:TyC (hide (fun b=>b<wr.heap.size) W5) t.elem[k] [.int .i64 t.elem[k].kind,.int .i64 t.elem[k].num,.slice f1 t.elem[k].elem.length p1,.slice f2 t.elem[k].fields.length p2,.slice f3 t.elem[k].methods.length p3,.slice f4 t.elem[k].embeds.length p4]:=TyC.keep (((qb4 hW4).trans ((qii W4 _).trans (qb4 hW5))).trans (qec (show wr.heap.size≤W2.heap.size by omega) W5)) Ht3.out;have Ht5:=hid ht5;clear hBW hnew hown5 hbk5 ht5 hKp hKp2 hW2 hW3 hW4 hW5 hB4 Ht3 e0 e1 e2 e3 e4 e5 hbr hbr1 hself hl1 Ht1 hb0 hf0;refine mid_nil (qqy rfl rfl rfl ?_);refine qb2 _ rfl (.tmp 25) (.tmp 28) 50 rfl 54 i0 _ 6 112 underlying50 Hi.out Hi0.out Hi1.out Hi2.out rfl (by decide) (.slice ra k rc) k xs (by go_simp) Hown5.out ⟨W4.heap.size,0,none⟩ 1 1 [.int .i64 t.elem[k].kind,.int .i64 t.elem[k].num,.slice f1 t.elem[k].elem.length p1,.slice f2 t.elem[k].fields.length p2,.slice f3 t.elem[k].methods.length p3,.slice f4 t.elem[k].embeds.length p4] (by go_simp) rfl ?c1 ?c2 ?c3 ?c4 (by decide) ?c5
   case c1=>exact qck Hnew.out
   case c2=>exact oc6 _ _ _ _ _ _ _ _ _ _ _ _ _ _
   case c3=>unfold maxLen;omega
   case c4=>omega
   case c5=>
    intro v' w5 hown' hgrow hloc;obtain⟨ra',rc',rfl,-,-⟩:=qak hown';have hzg:=qd7 hgrow;have hbk6:=Hbk5.out.grown hgrow fun g hg=>by have:=HvB.out g hg;omega
    have hb6:=hbk6.cell 2;have hf6:=hbk6.soft 2;simp only[zu,zt] at hb6;have Hbk6:=hid hbk6;have Hown':=hid hown';have Hgrow:=hid hgrow;have Hloc:=hid hloc;clear hbk6 hown' hgrow hloc
    go_wp2_with fail
    go_roundw
    case rel=>
     obtain⟨k1,k2,k3,k4,k5⟩:=qgj (B:=w.heap.size+1+1+1) (a:=⟨w.heap.size+1+1,2,none⟩) (zw _) (by omega) HBW.out Hown.out HvB.out Hown'.out Hgrow.out Hloc.out rfl;refine⟨k+1,by omega,by go_num,?_,hid ⟨ra',rc',xs++[.int .i64 t.elem[k].kind,.int .i64 t.elem[k].num,.slice f1 t.elem[k].elem.length p1,.slice f2 t.elem[k].fields.length p2,.slice f3 t.elem[k].methods.length p3,.slice f4 t.elem[k].embeds.length p4],Hbk6.out.set 2 _,k3,k4,?_⟩⟩
     ·exact((hbel.trans (HBW.out.mono (by omega))).grown Hgrow.out (by omega) (fun g hg=>by have:=HvB.out g hg;omega)).setCell (zl _) _
     ·rw[qdd _ _ hlt];exact TysX.snoc (TyC.keep k2 Ht5.out) (TysX.keep k1 Hxs.out)
    case measure=>simp[intOf];omega
  ·obtain rfl:k=t.elem.length:=by omega
   obtain⟨r1,r2⟩:=qio Hown.out HvB.out;have E1:Hid (TysR (hide (fun b=>b<w.heap.size+1+1+1) wr) ra 0 t.elem):=hid (by
    have h:=TysX.keep r1 Hxs.out;rw[zeb] at h;exact TysX.row 0 h fun hne=>by
     obtain⟨g,hg1,hg2⟩:=r2 (List.length_pos_iff.2 hne);exact⟨g,hg1,by simpa using hg2⟩)
   have C1:Hid (t.elem.length≤rc):=hid (by obtain⟨_,_,he,hle,-⟩:=qak Hown.out;cases he;exact hle);obtain⟨wA,rfl⟩:∃ wA:World,wA=wr:=⟨_,rfl⟩;have hq:=(Hb0.out.below hbel (by omega)).cell 3;simp only[zu,zt] at hq;have hzA:w.heap.size+1+1+1≤wA.heap.size:=by omega
   clear r1 r2 hlt hk Hown HvB Hxs hb0 hf0
   go_wp2_with fail
   clear hq
   go_loopw [35] (fun j wr=>∃ k:Nat,k≤t.fields.length∧j = .int .i64 k∧Below (w.heap.size+1+1) w2 wr∧Hid (∃ Ra Rc xs,Blk wr (w.heap.size+1+1) 54 [.int .i64 t.kind,.int .i64 t.num,.slice ra t.elem.length rc,.slice Ra k Rc,.slice none 0 0,.slice none 0 0]∧
     wr.ownsRow 0 95 8 (.slice Ra k Rc) k xs∧(∀ g,(Value.slice Ra k Rc).ownBlock=some g→wA.heap.size≤g)∧FdsX (hide (HidR wA.heap.size (.slice Ra k Rc)) wr) (t.fields.take k) xs∧
     qag (fun b=>b<w.heap.size+1+1+1∨wA.heap.size≤b) wA wr))
    (fun j _=>t.fields.length - (intOf j).toNat)
   case atStart=>exact⟨0,by omega,rfl,hbel,hid ⟨none,0,[],Hblk.out,zdb _ _ _ _,fun g h=>(by cases h),rfl,qag.refl _ _⟩⟩
   clear Hblk hbel
   case round=>
    obtain⟨k,hk,rfl,hbel,hst⟩:=hrel;obtain⟨Ra,Rc,xs,hblk,hown,hvB,hxs,hap⟩:=hst.out;have hz:=zq hbel;have HBw:Hid (Below w.heap.size w wr):=hid (HB2.out.trans (hbel.mono (by omega)));have HK:Hid (qac w0 wr):=hid (K0.out.trans (qac.below HBw.out));have hb0:=hblk.cell 3;have hf0:=hblk.soft 3;simp only[zu,zt] at hb0;have Hown:=hid hown;have HvB:=hid hvB;have Hxs:=hid hxs;have Hblk:=hid hblk;have Hap:=hid hap;have hzA2:wA.heap.size≤wr.heap.size:=hap.size;have hl0:w.heap.size+1+1<wr.heap.size:=hblk.lt;have hl1:w.heap.size+1+1<wr.heap.size+1:=by omega
    clear hst hown hvB hxs hblk hap;by_cases hlt:k<t.fields.length
    ·obtain⟨b,o,cs,rfl,hn1,hc,ht1⟩:=FdsR.get H2.out k hlt;have Ht1:=hid ht1;have Hn1:=hid hn1;obtain⟨y1,g1,y2,g2,y3,g3,y4,g4,rfl,-⟩:=ht1.open;obtain⟨e0,e1,e2,e3,e4,e5,e6,e7⟩:=qhx (hc.keep HK.out);simp only[Nat.zero_add] at e0 e1 e2 e3 e4 e5 e6 e7;have hbr:=zj wr _ e0;simp only at hbr;have hbr1:b<wr.heap.size+1:=by omega
     have hself:wr.heap.size<wr.heap.size+1:=zw _;have hbk:=qbx t.fields k hlt;have hbke:=bulk_eq' t;clear hc ht1 hn1
     go_wp2_with fail
     refine Mix.wp_region [0,1,2,3,4,5,6,7] [(8,false),(9,false),(10,false)] [11,12,13] (fun _=>default) (by kernel_rfl) (by kernel_rfl) (by decide) ?_
     iterate 8 (first|(refine pre_yes rfl rfl ?_;apply Exists.intro;refine⟨fun W1 hW1 => ?_,?_⟩;(focus (have hc1:=(qal hW1).1;(try simp only[zd,qaa] at hc1);have hk1:=qac.below hW1;go_simp;first|exact rfl|fail));simp only[Act.put,zk,zh,zi,ze,zm,zn])|(refine pre_no rfl rfl ?_;simp only[Act.put,zk,zh,zi,ze,zm,zn]))
     refine pre_end (fl_op (fl_op (fl_op fl_nil))) (fun W2 hW2 => ?_);have hz2a:=zq hW2;(try simp only[zd,qaa] at hz2a);refine mid_call hW2 rfl rfl (fun Kp hKp => ?_);go_simp;refine(IH.out t.fields[k].of _ W2 (by omega) Ht1.out ((HK.out.trans (qac.alloc _ _)).trans (qac.below hW2).undrew)).mono ?_;rintro e W3 ⟨cs3,rfl,ht3,hW3⟩;obtain⟨f1,p1,f2,p2,f3,p3,f4,p4,rfl,-⟩:=ht3.open;have Ht3:=hid ht3;clear ht3;refine⟨_,rfl,hKp _ _ hW3 fun W4 hW4 => ?_⟩;simp only[Act.put,zk,zh,zi,ze,zm,zn];have hz3a:=zq hW3;(try simp only[zd,qaa] at hz3a);have hz4a:=zq hW4;(try simp only[zd,qaa] at hz4a);have hB4:=qa4 hW4 (qbl hW3 hW2 (by first|omega|(simp;done)|(simp;omega)));refine mid_call hB4 rfl rfl (fun Kp2 hKp2 => ?_);go_simp;refine hKp2 _ _ (zp _ _) fun W4' hW4' => ?_;simp only[Act.put,zk,zh,zi,ze,zm,zn];have hz4b:=zq hW4';(try simp only[zd,qaa] at hz4b);have hB4':=qbl hW4' hB4 (by first|omega|(simp;done)|(simp;omega));refine mid_call hB4' rfl rfl (fun Kp3 hKp3 => ?_);go_simp;refine hKp3 _ _ ((zp _ _).alloc (zl _) _) fun W5 hW5 => ?_;simp only[Act.put,zk,zh,zi,ze,zm,zn];have hz5a:=zq hW5;(try simp only[zd,qaa] at hz5a);have hBW:Below wr.heap.size wr W5:=(((zp _ _).alloc (zl _) _).drew).trans ((hB4'.mono (by simp)).trans (((zp _ _).alloc (by omega) _).trans (hW5.mono (by simp;omega))));have hown5:=qab Hown.out (qag.keep (S:=fun _=>False) hBW) (fun _ _ h=>h);have hnew:=((Blk.new W4' 95 [.int .i64 t.fields[k].name,.bool t.fields[k].embedded,.int .i64 t.fields[k].of.kind,.int .i64 t.fields[k].of.num,.slice f1 t.fields[k].of.elem.length p1,.slice f2 t.fields[k].of.fields.length p2,.slice f3 t.fields[k].of.methods.length p3,.slice f4 t.fields[k].of.embeds.length p4]).keep hW5);have hbk5:=Hblk.out.keep hBW;have HBW:=hid hBW;have Hnew:=hid hnew;have Hown5:=hid hown5;have Hbk5:=hid hbk5;have ht5:TyC (hide (fun b=>b<wr.heap.size) W5) t.fields[k].of [.int .i64 t.fields[k].of.kind,.int .i64 t.fields[k].of.num,.slice f1 t.fields[k].of.elem.length p1,.slice f2 t.fields[k].of.fields.length p2,.slice f3 t.fields[k].of.methods.length p3,.slice f4 t.fields[k].of.embeds.length p4]:=TyC.keep (((qb4 hW4).trans ((qb4 hW4').trans ((qii W4' _).trans (qb4 hW5)))).trans (qec (show wr.heap.size≤W2.heap.size by omega) W5)) Ht3.out;have Ht5:=hid ht5;clear hBW hnew hown5 hbk5 ht5 hKp hKp2 hKp3 hW2 hW3 hW4 hW4' hW5 hB4 hB4' Ht3 e0 e1 e2 e3 e4 e5 e6 e7 hbr hbr1 hself hl1 Ht1 hb0 hf0;refine mid_nil (qqy rfl rfl rfl ?_);refine qb2 _ rfl (.tmp 40) (.tmp 49) 51 rfl 95 i8 _ 8 128 underlying51 Fi.out F0.out F1.out F2.out rfl (by decide) (.slice Ra k Rc) k xs (by go_simp) Hown5.out ⟨W4'.heap.size,0,none⟩ 1 1 [.int .i64 t.fields[k].name,.bool t.fields[k].embedded,.int .i64 t.fields[k].of.kind,.int .i64 t.fields[k].of.num,.slice f1 t.fields[k].of.elem.length p1,.slice f2 t.fields[k].of.fields.length p2,.slice f3 t.fields[k].of.methods.length p3,.slice f4 t.fields[k].of.embeds.length p4] (by go_simp) rfl ?c1 ?c2 ?c3 ?c4 (by decide) ?c5
     case c1=>exact qck Hnew.out
     case c2=>exact oc8 _ _ _ _ _ _ _ _ _ _ _ _ _ _ _ _
     case c3=>unfold maxLen;omega
     case c4=>omega
     case c5=>
      intro v' w5 hown' hgrow hloc;obtain⟨ra',rc',rfl,-,-⟩:=qak hown';have hzg:=qd7 hgrow;have hbk6:=Hbk5.out.grown hgrow fun g hg=>by have:=HvB.out g hg;omega
      have hb6:=hbk6.cell 3;have hf6:=hbk6.soft 3;simp only[zu,zt] at hb6;have Hbk6:=hid hbk6;have Hown':=hid hown';have Hgrow:=hid hgrow;have Hloc:=hid hloc;clear hbk6 hown' hgrow hloc
      go_wp2_with fail
      go_roundw
      case rel=>
       obtain⟨k1,k2,k3,k4,k5⟩:=qgj (B:=wA.heap.size) (a:=⟨w.heap.size+1+1,3,none⟩) (Nat.lt_of_succ_le hzA) (by omega) HBW.out Hown.out HvB.out Hown'.out Hgrow.out Hloc.out rfl;refine⟨k+1,by omega,by go_num,?_,hid ⟨ra',rc',xs++[.int .i64 t.fields[k].name,.bool t.fields[k].embedded,.int .i64 t.fields[k].of.kind,.int .i64 t.fields[k].of.num,.slice f1 t.fields[k].of.elem.length p1,.slice f2 t.fields[k].of.fields.length p2,.slice f3 t.fields[k].of.methods.length p3,.slice f4 t.fields[k].of.embeds.length p4],Hbk6.out.set 3 _,k3,k4,?_,qjw (a:=⟨w.heap.size+1+1,3,none⟩) Hap.out HBW.out Hgrow.out HvB.out (zw _) rfl⟩⟩
       ·exact((hbel.trans (HBW.out.mono (by omega))).grown Hgrow.out (by omega) (fun g hg=>by have:=HvB.out g hg;omega)).setCell (zl _) _
       ·rw[qdd _ _ hlt];exact FdsX.snoc Hn1.out (TyC.keep k2 Ht5.out) (FdsX.keep k1 Hxs.out)
      case measure=>simp[intOf];omega
    ·obtain rfl:k=t.fields.length:=by omega
     obtain⟨r1,r2⟩:=qio Hown.out HvB.out;have E2:Hid (FdsR (hide (fun b=>b<w.heap.size+1+1+1) wr) Ra 0 t.fields):=hid (by
      have h:=FdsX.keep r1 Hxs.out;rw[zeb] at h;have h:=FdsX.row (a:=Ra) 0 h fun hne=>by
       obtain⟨g,hg1,hg2⟩:=r2 (List.length_pos_iff.2 hne);exact⟨g,hg1,by simpa using hg2⟩
      exact FdsR.keep (qec hzA wr) h)
     have E1':Hid (TysR (hide (fun b=>b<w.heap.size+1+1+1) wr) ra 0 t.elem):=hid (TysR.keep (qj0 (qag.old Hap.out)) E1.out);have C2:Hid (t.fields.length≤Rc):=hid (by obtain⟨_,_,he,hle,-⟩:=qak Hown.out;cases he;exact hle);obtain⟨wB,rfl⟩:∃ wB:World,wB=wr:=⟨_,rfl⟩;have hq:=(Hb0.out.below hbel (by omega)).cell 4;simp only[zu,zt] at hq;have hzB:w.heap.size+1+1+1≤wB.heap.size:=by omega
     clear r1 r2 hlt hk Hown HvB Hxs hb0 hf0 E1 Hap
     go_wp2_with fail
     clear hq
     go_loopw [56] (fun j wr=>∃ k:Nat,k≤t.methods.length∧j = .int .i64 k∧Below (w.heap.size+1+1) w2 wr∧Hid (∃ Ma Mc xs,Blk wr (w.heap.size+1+1) 54 [.int .i64 t.kind,.int .i64 t.num,.slice ra t.elem.length rc,.slice Ra t.fields.length Rc,.slice Ma k Mc,.slice none 0 0]∧
       wr.ownsRow 0 85 2 (.slice Ma k Mc) k xs∧(∀ g,(Value.slice Ma k Mc).ownBlock=some g→wB.heap.size≤g)∧MsX (t.methods.take k) xs∧
       qag (fun b=>b<w.heap.size+1+1+1∨wB.heap.size≤b) wB wr))
      (fun j _=>t.methods.length - (intOf j).toNat)
     case atStart=>exact⟨0,by omega,rfl,hbel,hid ⟨none,0,[],Hblk.out,zdb _ _ _ _,fun g h=>(by cases h),rfl,qag.refl _ _⟩⟩
     clear Hblk hbel
     case round=>
      obtain⟨k,hk,rfl,hbel,hst⟩:=hrel;obtain⟨Ma,Mc,xs,hblk,hown,hvB,hxs,hap⟩:=hst.out;have hz:=zq hbel;have HBw:Hid (Below w.heap.size w wr):=hid (HB2.out.trans (hbel.mono (by omega)));have HK:Hid (qac w0 wr):=hid (K0.out.trans (qac.below HBw.out));have hb0:=hblk.cell 4;have hf0:=hblk.soft 4;simp only[zu,zt] at hb0;have Hown:=hid hown;have HvB:=hid hvB;have Hxs:=hid hxs;have Hblk:=hid hblk;have Hap:=hid hap;have hzB2:wB.heap.size≤wr.heap.size:=hap.size;have hl0:w.heap.size+1+1<wr.heap.size:=hblk.lt;have hl1:w.heap.size+1+1<wr.heap.size+1:=by omega
      have hl2:w.heap.size+1+1<wr.heap.size+1+1:=by omega
      clear hst hown hvB hxs hblk hap;by_cases hlt:k<t.methods.length
      ·obtain⟨b,o,rfl,hn1,hc⟩:=MsR.get H3.out k hlt;have Hn1:=hid hn1;have e0:=(hc.keep HK.out) 0 _ rfl;have e1:=(hc.keep HK.out) 1 _ rfl;simp only[Nat.zero_add,Nat.add_zero] at e0 e1;have hbr:=zj wr _ e0;simp only at hbr;have hbr1:b<wr.heap.size+1:=by omega
       have hself:wr.heap.size<wr.heap.size+1:=zw _;have HBW:Hid (Below wr.heap.size wr ((wr.alloc (Obj.cells #[.int .i64 t.methods[k].name,.bool t.methods[k].ptr] 84)).alloc (Obj.cells #[.int .i64 t.methods[k].name,.bool t.methods[k].ptr] 85))):=hid (((zp _ _).alloc (zl _) _).alloc (by simp) _);have Hnew:Hid (Blk ((wr.alloc (Obj.cells #[.int .i64 t.methods[k].name,.bool t.methods[k].ptr] 84)).alloc (Obj.cells #[.int .i64 t.methods[k].name,.bool t.methods[k].ptr] 85)) (wr.heap.size+1) 85 [.int .i64 t.methods[k].name,.bool t.methods[k].ptr]):=hid (by
        have:=Blk.new (wr.alloc (Obj.cells #[.int .i64 t.methods[k].name,.bool t.methods[k].ptr] 84)) 85 [.int .i64 t.methods[k].name,.bool t.methods[k].ptr];rw[zd] at this;exact this)
       have Hown5:=hid (qab Hown.out (qag.keep (S:=fun _=>False) HBW.out) (fun _ _ h=>h));have Hbk5:=hid (Hblk.out.keep HBW.out);clear hc hn1
       go_wp2_with (at_builtin;refine qb2 _ rfl _ _ 52 rfl 85 i9 _ 2 16 underlying52 Ti.out T0.out T1.out T2.out rfl (by decide) (.slice Ma k Mc) k xs rfl Hown5.out _ 1 1 [.int .i64 t.methods[k].name,.bool t.methods[k].ptr] rfl rfl ?c1 ?c2 ?c3 ?c4 (by decide) ?c5)
       case c1=>exact qck Hnew.out
       case c2=>exact oc2 _ _
       case c3=>unfold maxLen;omega
       case c4=>omega
       case c5=>
        intro v' w5 hown' hgrow hloc;obtain⟨ra',rc',rfl,-,-⟩:=qak hown';have hzg:=qd7 hgrow;have hbk6:=Hbk5.out.grown hgrow fun g hg=>by have:=HvB.out g hg;omega
        have hb6:=hbk6.cell 4;have hf6:=hbk6.soft 4;simp only[zu,zt] at hb6;have Hbk6:=hid hbk6;have Hown':=hid hown';have Hgrow:=hid hgrow;have Hloc:=hid hloc;clear hbk6 hown' hgrow hloc
        go_wp2_with fail
        go_roundw
        case rel=>
         obtain⟨k1,k2,k3,k4,k5⟩:=qgj (B:=wB.heap.size) (a:=⟨w.heap.size+1+1,4,none⟩) (Nat.lt_of_succ_le hzB) (by omega) HBW.out Hown.out HvB.out Hown'.out Hgrow.out (by simpa using Hloc.out) rfl;refine⟨k+1,by omega,by go_num,?_,hid ⟨ra',rc',xs++[.int .i64 t.methods[k].name,.bool t.methods[k].ptr],Hbk6.out.set 4 _,k3,k4,?_,qjw (a:=⟨w.heap.size+1+1,4,none⟩) Hap.out HBW.out Hgrow.out HvB.out (zw _) rfl⟩⟩
         ·exact((hbel.trans (HBW.out.mono (by omega))).grown Hgrow.out (by simp;omega) (fun g hg=>by have:=HvB.out g hg;omega)).setCell (zl _) _
         ·rw[qdd _ _ hlt];exact MsX.snoc Hn1.out Hxs.out
        case measure=>simp[intOf];omega
      ·obtain rfl:k=t.methods.length:=by omega
       obtain⟨r1,r2⟩:=qio Hown.out HvB.out;have E3:Hid (MsR (hide (fun b=>b<w.heap.size+1+1+1) wr) Ma 0 t.methods):=hid (by
        have h:=Hxs.out;rw[zeb] at h;have h:=MsX.row (w:=hide (fun b=>b<wB.heap.size) wr) (a:=Ma) 0 h fun hne=>by
         obtain⟨g,hg1,hg2⟩:=r2 (List.length_pos_iff.2 hne);exact⟨g,hg1,by simpa using hg2⟩
        exact MsR.keep (qec hzB wr) h)
       have E1:Hid (TysR (hide (fun b=>b<w.heap.size+1+1+1) wr) ra 0 t.elem):=hid (TysR.keep (qj0 (qag.old Hap.out)) E1'.out);have E2':Hid (FdsR (hide (fun b=>b<w.heap.size+1+1+1) wr) Ra 0 t.fields):=hid (FdsR.keep (qj0 (qag.old Hap.out)) E2.out);have C3:Hid (t.methods.length≤Mc):=hid (by obtain⟨_,_,he,hle,-⟩:=qak Hown.out;cases he;exact hle);obtain⟨wC,rfl⟩:∃ wC:World,wC=wr:=⟨_,rfl⟩;have hq:=(Hb0.out.below hbel (by omega)).cell 5;simp only[zu,zt] at hq;have hzC:w.heap.size+1+1+1≤wC.heap.size:=by omega
       clear r1 r2 hlt hk Hown HvB Hxs hb0 hf0 E1' E2 Hap
       go_wp2_with fail
       clear hq
       go_loopw [74] (fun j wr=>∃ k:Nat,k≤t.embeds.length∧j = .int .i64 k∧Below (w.heap.size+1+1) w2 wr∧Hid (∃ Na Nc xs,Blk wr (w.heap.size+1+1) 54 [.int .i64 t.kind,.int .i64 t.num,.slice ra t.elem.length rc,.slice Ra t.fields.length Rc,.slice Ma t.methods.length Mc,.slice Na k Nc]∧
         wr.ownsRow 0 54 6 (.slice Na k Nc) k xs∧(∀ g,(Value.slice Na k Nc).ownBlock=some g→wC.heap.size≤g)∧TysX (hide (HidR wC.heap.size (.slice Na k Nc)) wr) (t.embeds.take k) xs∧
         qag (fun b=>b<w.heap.size+1+1+1∨wC.heap.size≤b) wC wr))
        (fun j _=>t.embeds.length - (intOf j).toNat)
       case atStart=>exact⟨0,by omega,rfl,hbel,hid ⟨none,0,[],Hblk.out,zdb _ _ _ _,fun g h=>(by cases h),rfl,qag.refl _ _⟩⟩
       clear Hblk hbel
       case round=>
        obtain⟨k,hk,rfl,hbel,hst⟩:=hrel;obtain⟨Na,Nc,xs,hblk,hown,hvB,hxs,hap⟩:=hst.out;have hz:=zq hbel;have HBw:Hid (Below w.heap.size w wr):=hid (HB2.out.trans (hbel.mono (by omega)));have HK:Hid (qac w0 wr):=hid (K0.out.trans (qac.below HBw.out));have hb0:=hblk.cell 5;have hf0:=hblk.soft 5;simp only[zu,zt] at hb0;have Hown:=hid hown;have HvB:=hid hvB;have Hxs:=hid hxs;have Hblk:=hid hblk;have Hap:=hid hap;have hzC2:wC.heap.size≤wr.heap.size:=hap.size;have hl0:w.heap.size+1+1<wr.heap.size:=hblk.lt;have hl1:w.heap.size+1+1<wr.heap.size+1:=by omega
        clear hst hown hvB hxs hblk hap;by_cases hlt:k<t.embeds.length
        ·obtain⟨b,o,cs,rfl,hc,ht1⟩:=TysR.get H4.out k hlt;have Ht1:=hid ht1;obtain⟨y1,g1,y2,g2,y3,g3,y4,g4,rfl,-⟩:=ht1.open;obtain⟨e0,e1,e2,e3,e4,e5⟩:=six (hc.keep HK.out);simp only[Nat.zero_add] at e0 e1 e2 e3 e4 e5;have hbr:=zj wr _ e0;simp only at hbr;have hbr1:b<wr.heap.size+1:=by omega
         have hself:wr.heap.size<wr.heap.size+1:=zw _;have hbk:=qa6 t.embeds k hlt;have hbke:=bulk_eq' t;clear hc ht1
         go_wp2_with fail
         refine Mix.wp_region [0,1,2] [(3,false),(4,false)] [5,6,7] (fun _=>default) (by kernel_rfl) (by kernel_rfl) (by decide) ?_
         iterate 3 (first|(refine pre_yes rfl rfl ?_;apply Exists.intro;refine⟨fun W1 hW1 => ?_,?_⟩;(focus (have hc1:=(qal hW1).1;(try simp only[zd,qaa] at hc1);have hk1:=qac.below hW1;go_simp;first|exact rfl|fail));simp only[Act.put,zk,zh,zi,ze,zm,zn])|(refine pre_no rfl rfl ?_;simp only[Act.put,zk,zh,zi,ze,zm,zn]))
         refine pre_end (fl_op (fl_op fl_nil)) (fun W2 hW2 => ?_);have hz2a:=zq hW2;(try simp only[zd,qaa] at hz2a);refine mid_call hW2 rfl rfl (fun Kp hKp => ?_);go_simp;refine(IH.out t.embeds[k] _ W2 (by omega) Ht1.out ((HK.out.trans (qac.alloc _ _)).trans (qac.below hW2).undrew)).mono ?_;rintro e W3 ⟨cs3,rfl,ht3,hW3⟩;obtain⟨f1,p1,f2,p2,f3,p3,f4,p4,rfl,-⟩:=ht3.open;have Ht3:=hid ht3;clear ht3;refine⟨_,rfl,hKp _ _ hW3 fun W4 hW4 => ?_⟩;simp only[Act.put,zk,zh,zi,ze,zm,zn];have hz3a:=zq hW3;(try simp only[zd,qaa] at hz3a);have hz4a:=zq hW4;(try simp only[zd,qaa] at hz4a);have hB4:=qa4 hW4 (qbl hW3 hW2 (by first|omega|(simp;done)|(simp;omega)));refine mid_call hB4 rfl rfl (fun Kp2 hKp2 => ?_);go_simp;refine hKp2 _ _ ((zp _ _).alloc (zl _) _) fun W5 hW5 => ?_;simp only[Act.put,zk,zh,zi,ze,zm,zn];have hz5a:=zq hW5;(try simp only[zd,qaa] at hz5a);have hBW:Below wr.heap.size wr W5:=(((zp _ _).alloc (zl _) _).drew).trans ((hB4.mono (by simp)).trans (((zp _ _).alloc (by omega) _).trans (hW5.mono (by simp;omega))));have hown5:=qab Hown.out (qag.keep (S:=fun _=>False) hBW) (fun _ _ h=>h);have hnew:=((Blk.new W4 54 [.int .i64 t.embeds[k].kind,.int .i64 t.embeds[k].num,.slice f1 t.embeds[k].elem.length p1,.slice f2 t.embeds[k].fields.length p2,.slice f3 t.embeds[k].methods.length p3,.slice f4 t.embeds[k].embeds.length p4]).keep hW5);have hbk5:=Hblk.out.keep hBW;have HBW:=hid hBW;have Hnew:=hid hnew;have Hown5:=hid hown5;have Hbk5:=hid hbk5;have ht5:TyC (hide (fun b=>b<wr.heap.size) W5) t.embeds[k] [.int .i64 t.embeds[k].kind,.int .i64 t.embeds[k].num,.slice f1 t.embeds[k].elem.length p1,.slice f2 t.embeds[k].fields.length p2,.slice f3 t.embeds[k].methods.length p3,.slice f4 t.embeds[k].embeds.length p4]:=TyC.keep (((qb4 hW4).trans ((qii W4 _).trans (qb4 hW5))).trans (qec (show wr.heap.size≤W2.heap.size by omega) W5)) Ht3.out;have Ht5:=hid ht5;clear hBW hnew hown5 hbk5 ht5 hKp hKp2 hW2 hW3 hW4 hW5 hB4 Ht3 e0 e1 e2 e3 e4 e5 hbr hbr1 hself hl1 Ht1 hb0 hf0;refine mid_nil (qqy rfl rfl rfl ?_);refine qb2 _ rfl (.tmp 79) (.tmp 82) 50 rfl 54 i0 _ 6 112 underlying50 Hi.out Hi0.out Hi1.out Hi2.out rfl (by decide) (.slice Na k Nc) k xs (by go_simp) Hown5.out ⟨W4.heap.size,0,none⟩ 1 1 [.int .i64 t.embeds[k].kind,.int .i64 t.embeds[k].num,.slice f1 t.embeds[k].elem.length p1,.slice f2 t.embeds[k].fields.length p2,.slice f3 t.embeds[k].methods.length p3,.slice f4 t.embeds[k].embeds.length p4] (by go_simp) rfl ?c1 ?c2 ?c3 ?c4 (by decide) ?c5
         case c1=>exact qck Hnew.out
         case c2=>exact oc6 _ _ _ _ _ _ _ _ _ _ _ _ _ _
         case c3=>unfold maxLen;omega
         case c4=>omega
         case c5=>
          intro v' w5 hown' hgrow hloc;obtain⟨ra',rc',rfl,-,-⟩:=qak hown';have hzg:=qd7 hgrow;have hbk6:=Hbk5.out.grown hgrow fun g hg=>by have:=HvB.out g hg;omega
          have hb6:=hbk6.cell 5;have hf6:=hbk6.soft 5;simp only[zu,zt] at hb6;have Hbk6:=hid hbk6;have Hown':=hid hown';have Hgrow:=hid hgrow;have Hloc:=hid hloc;clear hbk6 hown' hgrow hloc
          go_wp2_with fail
          go_roundw
          case rel=>
           obtain⟨k1,k2,k3,k4,k5⟩:=qgj (B:=wC.heap.size) (a:=⟨w.heap.size+1+1,5,none⟩) (Nat.lt_of_succ_le hzC) (by omega) HBW.out Hown.out HvB.out Hown'.out Hgrow.out Hloc.out rfl;refine⟨k+1,by omega,by go_num,?_,hid ⟨ra',rc',xs++[.int .i64 t.embeds[k].kind,.int .i64 t.embeds[k].num,.slice f1 t.embeds[k].elem.length p1,.slice f2 t.embeds[k].fields.length p2,.slice f3 t.embeds[k].methods.length p3,.slice f4 t.embeds[k].embeds.length p4],Hbk6.out.set 5 _,k3,k4,?_,qjw (a:=⟨w.heap.size+1+1,5,none⟩) Hap.out HBW.out Hgrow.out HvB.out (zw _) rfl⟩⟩
           ·exact((hbel.trans (HBW.out.mono (by omega))).grown Hgrow.out (by omega) (fun g hg=>by have:=HvB.out g hg;omega)).setCell (zl _) _
           ·rw[qdd _ _ hlt];exact TysX.snoc (TyC.keep k2 Ht5.out) (TysX.keep k1 Hxs.out)
          case measure=>simp[intOf];omega
        ·obtain rfl:k=t.embeds.length:=by omega
         obtain⟨r1,r2⟩:=qio Hown.out HvB.out;have E4:Hid (TysR (hide (fun b=>b<w.heap.size+1+1+1) wr) Na 0 t.embeds):=hid (by
          have h:=TysX.keep r1 Hxs.out;rw[zeb] at h;have h:=TysX.row (a:=Na) 0 h fun hne=>by
           obtain⟨g,hg1,hg2⟩:=r2 (List.length_pos_iff.2 hne);exact⟨g,hg1,by simpa using hg2⟩
          exact TysR.keep (qec hzC wr) h)
         have KK:=qj0 (qag.old Hap.out);have C4:Hid (t.embeds.length≤Nc):=hid (by obtain⟨_,_,he,hle,-⟩:=qak Hown.out;cases he;exact hle);have E1n:=TysR.keep KK E1.out;have E2n:=FdsR.keep KK E2'.out;have E3n:=MsR.keep KK E3.out;have HT:Hid (∀ W,qag (fun b=>b<w.heap.size+1+1+1) wr W→TyC (hide (fun b=>b<w.heap.size) W) t [.int .i64 t.kind,.int .i64 t.num,.slice ra t.elem.length rc,.slice Ra t.fields.length Rc,.slice Ma t.methods.length Mc,.slice Na t.embeds.length Nc]):=hid (fun W hA=>by
          have KF:=(qj0 hA).trans (qec (show w.heap.size≤w.heap.size+1+1+1 by omega) W);exact TyC.shut ⟨_,_,_,_,_,_,_,_,rfl,⟨C1.out,C2.out,C3.out,C4.out⟩,Hik.out,Hin.out,TysR.keep KF E1n,FdsR.keep KF E2n,MsR.keep KF E3n,TysR.keep KF E4.out⟩)
         obtain⟨c0,c1,c2,c3,c4,c5⟩:=six Hblk.out.cells;obtain⟨d0,d1',d2',d3',d4',d5'⟩:=six (Hb1.out.below hbel (by omega)).cells;have hf1:=fun j=>(Hb1.out.below hbel (by omega)).soft j;simp only[Nat.zero_add] at c0 c1 c2 c3 c4 c5 d0 d1' d2' d3' d4' d5';clear r1 r2 hlt hk Hown HvB Hxs hb0 hf0 E1 E2' E3 E4 E1n E2n E3n KK
         go_wp2_with fail
         have HF:Hid (Below (w.heap.size+1) w2 wr):=hid (hbel.mono (by omega));refine bodyPost_ret (v := .agg #[.int .i64 t.kind,.int .i64 t.num,.slice ra t.elem.length rc,.slice Ra t.fields.length Rc,.slice Ma t.methods.length Mc,.slice Na t.embeds.length Nc]) (by simp[results,results22,go_sem,d0,d1',d2',d3',d4',d5']) rfl ⟨_,rfl,HT.out _ ?_,?_⟩
         ·exact qr1 (fun b=>b<w.heap.size+1+1+1) wr (w.heap.size+1) (Nat.lt_succ_of_lt (zw _)) _ _ _ _ _ _
         ·exact((((((HBw.out.setCell (by simp) _).setCell (by simp) _).setCell (by simp) _).setCell (by simp) _).setCell (by simp) _).setCell (by simp) _)
theorem typ_go (w0:World) (n:Nat):∀ (t:Ty) (cs:List Value) (w:World),t.bulk≤n→t.bulk≤1048576→TyC w0 t cs→qac w0 w→Calls prog 22 #[.agg cs.toArray] w (qmz t w):=by
 induction n with
 | zero=>
  intro t cs w h;have:=qd3 t;omega
 | succ n ih=>
  intro t cs w h hb ht k0;exact qwd t cs w0 w hb ht k0 fun u cs w hu ht k0=>ih u cs w (by omega) (by omega) ht k0
theorem qt0 (t:Ty) (cs:List Value) (w0 w:World) (hb:t.bulk≤1048576) (ht:TyC w0 t cs) (k0:qac w0 w):Calls prog 22 #[.agg cs.toArray] w (qmz t w):=
 typ_go w0 t.bulk t cs w (zl _) hb ht k0
