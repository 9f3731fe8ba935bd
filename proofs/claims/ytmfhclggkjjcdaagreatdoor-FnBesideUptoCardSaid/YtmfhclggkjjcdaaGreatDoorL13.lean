import Derived.Test.YtmfhclggkjjcdaaGreatDoorL12
set_option linter.all false
set_option maxHeartbeats 4000000
namespace Go.Proofs.YtmfhclggkjjcdaaGreatDoor
open Go Go.RowKit Go.Proofs.Tryz
set_option maxRecDepth 100000
theorem Tryz.infoTTy:(prog.info? 63).map (fun i=>(i.zero,i.size,i.bytes))=some (some .nilIface,1,16):=by kernel_rfl
theorem Tryz.infoPI:(prog.info? 112).map (fun i=>(i.zero,i.size,i.bytes))=some (some (.pointer none),1,8):=by kernel_rfl
theorem MsAt.row {B:Nat} {w w':World} {ob ob':Nat→Option (Bool×Nat)} {S:Nat→Prop} {ms:List Meth} {k at_ pk:Nat} {fs sgs:List Nat} (h:MsAt B w ob ms k at_ pk fs sgs) (ha:qag S w w') (hS:∀ b T cs,Blk w b T cs→T=167∨T=199→¬ S b) (ho:∀ k x,ob k=some x→ob' k=some x):MsAt B w' ob' ms k at_ pk fs sgs:=
 ⟨h.lf,h.ls,fun i hi=>by
  obtain⟨h1,h2,h3,h4⟩:=h.fb i hi;exact⟨h1.apart ha (hS _ _ _ h1.1 (.inl rfl)) (hS _ _ _ h1.2 (.inr rfl)),h2,h3,ho _ _ h4⟩,h.nf,h.ns⟩
theorem qq7 (F:Fix) (a:Option Addr) (c:Nat) (w0 w:World) (n:Nat) (hT:Tabs w0) (ih:qs6 F a c w0 n) (s:St) (d:Int) (val:Bool) (t:Ty) (cs:List Value) (at_:Nat) (p:Int) (hbk:t.bulk≤n+1) (hb6:t.bulk≤1048576) (hk:t.kind=5) (ht:TyC w0 t cs) (hP:BPre F w0 s w d val t at_ p):
  Calls prog 44 #[.pointer (some ⟨F.bb,0,none⟩),.slice a F.W.length c,.int .i64 p,.agg cs.toArray,.int .i64 at_] w (qh4 F s w t at_ p):=by
 obtain⟨pn,rfl⟩:∃ pn:Nat,p=pn:=⟨p.toNat,by have:=hP.pp;omega⟩;have hp2:(pn:Int)<2:=by have:=hP.pp;omega
 obtain⟨en,e2,e3,em,ee⟩:=hP.formed.k5 hk;obtain⟨hdis,hve⟩:=hP.valid.iface;have hz:t.size=t.methods.length+qau t.embeds:=by rw[qkt,e2,e3];simp[qau,qar]
 obtain⟨x1,d1,x2,d2,x3,d3,x4,d4,rfl,⟨-,-,hcap3,hcap4⟩,-,-,-,-,h3,h4,-⟩:=ht.full;have hbe:=qbd t;have hfl:t.methods.length≤1048576:=by omega
 have hfe:t.embeds.length≤1048576:=by have:=qa3 t.embeds;omega
 have H3:=hid h3;have H4:=hid h4;have HP:=hid hP;have HD:=hid hdis;have HV:=hid hve;have HM:=hid em;have HF:=hid ee;have HT:=hid hT;have HI:=hid ih;have Hz:=hid hz;have k1:(t.kind==1)=false:=by simp[hk]
 have k2:(t.kind==2)=false:=by simp[hk]
 have k3:(t.kind==3)=false:=by simp[hk]
 have k4:(t.kind==4)=false:=by simp[hk]
 have k5:(t.kind==5)=true:=by simp[hk]
 have hat:(at_:Int)+t.size≤4194304:=by have:=hP.le;have:=hP.nn;omega
 have hat1:(at_:Int)+t.methods.length+qau t.embeds≤4194304:=by omega
 have Hk:=hid hk;have Hen:=hid en;obtain⟨O,hO⟩:∃ O,O=(Obj.cells #[.int .i64 t.kind,.int .i64 t.num,.slice x1 t.elem.length d1,.slice x2 t.fields.length d2,.slice x3 t.methods.length d3,.slice x4 t.embeds.length d4] 29):=⟨_,rfl⟩;have EA:=hid (BExt.keep hP.ok ((zp _ _).alloc (zl _) O) at_);have hP':=hid hP.pp;have hTyB:Hid (Blk (w.alloc O) w.heap.size 29 [.int .i64 t.kind,.int .i64 t.num,.slice x1 t.elem.length d1,.slice x2 t.fields.length d2,.slice x3 t.methods.length d3,.slice x4 t.embeds.length d4]):=hid (hO ▸ Blk.new w _ _);clear hP hdis hve em ee hT ih ht h3 h4 hk en e2 e3 hz hbe hat
 generalize hkd:t.kind=kd at k1 k2 k3 k4 k5 hO hTyB ⊢
 generalize hnn:t.num=nn at hO hTyB ⊢
 go_enter func44,ntmps44
 go_wp2_with fail
 rw[← hO];clear hO;have hl1:w.heap.size<(w.alloc O).heap.size:=by simp
 go_loopw [4,16,123] (fun av fv j wr=>∃ (k:Nat) (ra:Option Addr) (rc:Nat),k≤t.methods.length∧j = .int .i64 k∧av = .int .i64 ((at_+k:Nat):Int)∧fv = .slice ra k rc∧w.heap.size+1≤wr.heap.size∧
   Hid (∃ fs sgs s1,s1.ifs=s.ifs∧BExt F s w s1 wr at_ (at_+k)∧wr.ownsRow 0 106 1 (.slice ra k rc) k (qa7 fs)∧(∀ g,(Value.slice ra k rc).ownBlock=some g→w.heap.size≤g)∧MsAt w.heap.size wr s1.ob t.methods k at_ (F.pk pn) fs sgs∧
    Blk wr w.heap.size 29 [.int .i64 kd,.int .i64 nn,.slice x1 t.elem.length d1,.slice x2 t.fields.length d2,.slice x3 t.methods.length d3,.slice x4 t.embeds.length d4]))
  (fun _ _ j _=>t.methods.length - (intOf j).toNat)
 case atStart=>exact⟨0,none,0,by omega,rfl,by simp,rfl,by simp,hid ⟨[],[],s,rfl,EA.out,zdb _ _ _ _,fun g h=>(by cases h),MsAt.nil _ _ _ _ _ _,hTyB.out⟩⟩
 clear EA hTyB
 case round=>
  obtain⟨k,ra,rc,hk,rfl,rfl,rfl,hz1,hst⟩:=hrel;obtain⟨fs,sgs,s1,hni1,hE,hown,hrB,hms,hty⟩:=hst.out;have Hni1:=hid hni1;have HE:=hid hE;have Hown:=hid hown;have HrB:=hid hrB;have Hms:=hid hms;have Hty:=hid hty;have hlb:=hE.ok.bld.lt;clear hst hE hown hrB hms hty hni1;by_cases hlt:k<t.methods.length
  ·obtain⟨b,o,rfl,hn1,hc⟩:=MsR.get H3.out k hlt;have K0:Hid (qac w0 wr):=hid (HP.out.base.ext HE.out).keeps;have hc2:=hc.keep K0.out;have c0:=hc2 0 _ rfl;have c1:=hc2 1 _ rfl;simp only[Nat.zero_add,Nat.add_zero] at c0 c1;have hbb:=zj wr _ c0;simp only at hbb;have hbb1:b<wr.heap.size+1:=by omega
   have hlt':(k:Int)<(t.methods.length:Int):=by omega
   have hmk:=HM.out t.methods[k] (z8 _);have Hmk:=hid hmk;have hptr:t.methods[k].ptr=false:=hmk.2.2;rw[hptr] at c1;obtain⟨nm,hnm⟩:∃ nm,nm=t.methods[k].name:=⟨_,rfl⟩;rw[← hnm] at c0;have Hnm:=hid hnm;clear hc hc2 hn1 hmk hptr hnm;have hAN:at_+k<F.N:=by have:=HP.out.le;have:=Hz.out;omega
   have HAN:=hid hAN;have HoA:Hid (s1.ob (at_+k)=none):=hid (by
    rw[HE.out.same _ (.inr (zl _))];have:=Hz.out;exact HP.out.free _ (zcb _ _) (by omega))
   have HMt:Hid (Calls prog 45 #[.pointer (some ⟨F.bb,0,none⟩),.int .i64 pn,.agg #[.int .i64 nm,.bool false],.nilIface] (wr.alloc (.cells #[.int .i64 nm,.bool false] 84)) fun e w'=>∃ f sg,e = .returned (.pointer (some ⟨f,0,none⟩))∧
     Hid (FB w' f sg (F.pk pn) nm (.pointer none)∧wr.heap.size≤f∧wr.heap.size≤sg∧Below wr.heap.size wr w')):=hid (by
    have hA:Below wr.heap.size wr (wr.alloc (.cells #[.int .i64 nm,.bool false] 84)):=(zp _ _).alloc (zl _) _;have hok:=(BExt.keep HE.out.ok hA 0).ok;have h0:=hok.bld.cell 0;simp only[zt] at h0;refine(qr9 F.bb F.pr 0 (F.pk pn) pn nm F.pc false _ (Hnm.out ▸ Hmk.out.1) hP'.out h0 (hok.pkc hP'.out).1).mono ?_;rintro e w' ⟨f,rfl,⟨sg,q1,q2,q3,q4,q5⟩,hb⟩;rw[zd] at q3 q4;exact⟨f,sg,rfl,hid ⟨⟨q1,q2⟩,by omega,by omega,hA.trans (hb.mono (by simp))⟩⟩)
   have HRv:Hid (∀ g,(Value.slice ra k rc).ownBlock=some g→∃ cs,Blk wr g 106 cs):=hid fun g hg=>qaf Hown.out hg;clear hAN
   go_wp2_with (first
    | (go_at_call 45;refine HMt.out.mono ?_;rintro e w2 ⟨f,sg,rfl,Hf⟩;have EM:Hid (BExt F s1 wr s1 w2 (at_+k) (at_+k)):=hid (BExt.keep HE.out.ok Hf.out.2.2.2 _);have hpc:=EM.out.ok.putc HAN.out HoA.out;have hput:=qmk F.bb F.ob0 F.N F.oc (at_+k) 106 (some ⟨f,0,none⟩) .nilIface w2 hpc.1 HAN.out hpc.2.1 hpc.2.2;simp only[Int.natCast_add] at hput;have Hput:=hid hput;clear hput hpc)
    | (go_at_call 46;refine Hput.out.mono ?_;rintro e w7 ⟨rfl,hw7⟩;have E17:Hid (BExt F s1 wr (qd6 s1 (at_+k) (true,f)) w7 (at_+k) (at_+k+1)):=hid (hw7 ▸ EM.out.trans (BExt.put EM.out.ok HAN.out HoA.out true f Hf.out.1.1.lt (fun j y hy=>by have:=HE.out.ok.lt j y.1 y.2 hy;have:=Hf.out.2.1;omega)) (zl _) (Nat.le_succ _));have Hown7:=hid (qab Hown.out E17.out.turns.apart fun g hg=>HE.out.ok.notTurned (HRv.out g hg).choose_spec (by decide) (by decide) (by decide));have Hown8:=hid (qab Hown7.out (qag.keep (S:=fun _=>False) ((zp w7.heap.size w7).alloc (zl _) (.cells #[.pointer (some ⟨f,0,none⟩)] 106))) (fun _ _ h=>h));have HF7:Hid (FB w7 f sg (F.pk pn) nm (.pointer none)):=hid (by
      have e67:qag (qa1 F s1) w2 w7:=hw7 ▸ (BExt.put EM.out.ok HAN.out HoA.out true f Hf.out.1.1.lt (fun j y hy=>by have:=HE.out.ok.lt j y.1 y.2 hy;have:=Hf.out.2.1;omega)).turns.apart;exact Hf.out.1.apart e67 (EM.out.ok.notTurned Hf.out.1.1 (by decide) (by decide) (by decide)) (EM.out.ok.notTurned Hf.out.1.2 (by decide) (by decide) (by decide)));have Hms7:=hid (Hms.out.turned HE.out.ok E17.out);have Hty7:=hid (Hty.out.apart E17.out.turns.apart (HE.out.ok.notTurned Hty.out (by decide) (by decide) (by decide)));clear hw7)
    | (at_builtin;go_loud (refine qbu _ rfl _ _ 129 rfl 106 _ 8 Tryz.infoPF underlying129 rfl ra k rc (qa7 fs) rfl Hown8.out ⟨w7.heap.size,0,none⟩ (.pointer (some ⟨f,0,none⟩)) rfl (cell_of_row _ _ _ _ _ _ (qa8 _ _)) rfl rfl (by omega) (by decide) fun ra' rc' w9 hown' hgrow hloc => ?_);have Hg:=hid hgrow;have Ho9:=hid hown';have Hl9:=hid hloc;clear hgrow hown' hloc))
   go_roundw
   case rel=>
    have T79:qah (fun b=>(Value.slice ra k rc).ownBlock=some b) w7 w9:=(qah.keep ((zp _ _).alloc (zl _) _)).trans (qah.grown Hg.out fun b h _=>h);have hS:∀ b T cs,Blk w7 b T cs→T≠106→¬ (Value.slice ra k rc).ownBlock=some b:=fun b T cs hb hT hS=>by
     obtain⟨cs',hc⟩:=qaf Hown7.out hS;exact hc.tne hb (fun e=>hT e.symm) rfl
    have E9:BExt F s w (qd6 s1 (at_+k) (true,f)) w9 at_ (at_+k+1):=(HE.out.trans E17.out (zcb _ _) (Nat.le_succ _)).later T79 (fun b hb=>HrB.out b hb) fun b T cs hb hT=>hS b T cs hb (by rcases hT with rfl|rfl|rfl|⟨rfl,-⟩|rfl|rfl|rfl|rfl|rfl|rfl <;> decide);have z1:=HE.out.size;have z2:=E17.out.size;have z9:=E9.size;have hl:=Hms.out.lf;refine⟨k+1,ra',rc',by omega,by go_num,by go_num,rfl,by have:=T79.apart.size;omega,hid ⟨fs++[f],sgs++[sg],qd6 s1 (at_+k) (true,f),Hni1.out,E9,by simpa[qa7] using Ho9.out,fun g hg => ?_,?_,Hty7.out.apart T79.apart (hS _ _ _ Hty7.out (by decide))⟩⟩
    ·rcases Hl9.out with e|e
     ·exact HrB.out g (e ▸ hg)
     ·rw[e] at hg;have hg2:=Option.some.inj hg;rw[zd] at hg2;omega
    ·have h1:=Hms7.out.row T79.apart (fun b T cs hb hT=>hS b T cs hb (by rcases hT with rfl|rfl <;> decide)) (fun _ _ h=>h);have h2:=HF7.out.apart T79.apart (hS _ _ _ HF7.out.1 (by decide)) (hS _ _ _ HF7.out.2 (by decide));have e1:(t.methods.getD k m0).name=nm:=by rw[Hnm.out];simp[zv,zr hlt]
     refine h1.snoc (by rw[e1];exact h2) (by have:=Hf.out.2.1;omega) (by have:=Hf.out.2.2.1;omega) (by simp[qd6]) (fun i hi e => ?_) fun i hi e => ?_
     ·have:=(Hms.out.fb i hi).1.1.lt;have:=Hf.out.2.1;omega
     ·have:=(Hms.out.fb i hi).1.2.lt;have:=Hf.out.2.2.1;omega
   case measure=>simp[intOf];omega
  ·obtain rfl:k=t.methods.length:=by omega
   have h5c:wr.cell? ⟨w.heap.size,5,none⟩=some (.slice x4 t.embeds.length d4):=Hty.out.cell 5;have hl5:=Hty.out.lt;have hzT:(at_:Int)+t.methods.length+qau t.embeds≤4194304:=hat1;clear Hty;obtain⟨wm,rfl⟩:∃ wm:World,wm=wr:=⟨_,rfl⟩
   go_wp2_with fail
   clear h5c
   go_loopw [4,20,146] (fun av fv j wr=>∃ (k:Nat) (ea:Option Addr) (ec:Nat),k≤t.embeds.length∧j = .int .i64 k∧av = .int .i64 ((at_+t.methods.length+qau (t.embeds.take k):Nat):Int)∧fv = .slice ea k ec∧wm.heap.size≤wr.heap.size∧
     Hid (∃ us s2,BExt F s1 wm s2 wr (at_+t.methods.length) (at_+t.methods.length+qau (t.embeds.take k))∧wr.ownsRow 0 63 1 (.slice ea k ec) k us∧(∀ g,(Value.slice ea k ec).ownBlock=some g→wm.heap.size≤g)∧
      qd4 (gOf F s2 (rdX wm.heap.size (Value.slice ea k ec).ownBlock wr)) (t.embeds.take k) (at_+t.methods.length) pn us∧(∀ u∈us,IsTy u)∧s2.ifs.length≤s1.ifs.length+qbt (t.embeds.take k)∧Mems (gOf F s2 (rdX wm.heap.size (Value.slice ea k ec).ownBlock wr)) s1.ifs))
    (fun _ _ j _=>t.embeds.length - (intOf j).toNat)
   case atStart=>exact⟨0,none,0,by omega,rfl,by simp[qau],rfl,zl _,hid ⟨[],s1,by simpa[qau] using BExt.refl HE.out.ok _,zdb _ _ _ _,fun g h=>(by cases h),rfl,fun u hu=>(by cases hu),zcb _ _,fun x hx => .inl hx⟩⟩
   case round=>
    obtain⟨k,ea,ec,hk2,rfl,rfl,rfl,hz2,hst⟩:=hrel;obtain⟨us,s2,hE2,hown2,hrB2,hemb,hus,hni⟩:=hst.out;have HE2:=hid hE2;have Hown2:=hid hown2;have HrB2:=hid hrB2;have Hemb:=hid hemb;have Hus:=hid hus;have Hni:=hid hni;have ETot:Hid (BExt F s w s2 wr at_ (at_+t.methods.length+qau (t.embeds.take k))):=hid (HE.out.trans hE2 (zcb _ _) (zcb _ _));clear hst hE2 hown2 hrB2 hemb hus hni;by_cases hlt2:k<t.embeds.length
    ·obtain⟨b,o,cs1,rfl,hc,ht1⟩:=TysR.get H4.out k hlt2;have K0:Hid (qac w0 wr):=hid (HP.out.base.ext ETot.out).keeps;obtain⟨y1,g1,y2,g2,y3,g3,y4,g4,rfl,-⟩:=ht1.open;have Ht1:=hid ht1;obtain⟨c0,c1,c2,c3,c4,c5⟩:=six (hc.keep K0.out);simp only[Nat.zero_add] at c0 c1 c2 c3 c4 c5;have hbb:=zj wr _ c0;simp only at hbb;have hbb1:b<wr.heap.size+1:=by omega
     have hlt':(k:Int)<(t.embeds.length:Int):=by omega
     have HFk:=hid (HF.out.get k hlt2);have HVk:=hid (HV.out.get k hlt2);have Htk:=hid (qc1 t.embeds k hlt2);have Htl:=hid (qa5 t.embeds (k+1));have Hbt:=hid (ql2 t.embeds k hlt2);have Hbl:=hid (qh5 t.embeds (k+1));have Hbg:=hid (qa6 t.embeds k hlt2);clear hc ht1;obtain⟨f,hf⟩:∃ f,f=t.embeds[k]:=⟨_,rfl⟩;rw[← hf] at HFk HVk Ht1 Htk Hbt Hbg c0 c1 c2 c3 c4 c5;have Hf:=hid hf;clear hf;have hA:Hid (Below wr.heap.size wr (wr.alloc (.cells #[.int .i64 f.kind,.int .i64 f.num,.slice y1 f.elem.length g1,.slice y2 f.fields.length g2,.slice y3 f.methods.length g3,.slice y4 f.embeds.length g4] 29))):=hid ((zp _ _).alloc (zl _) _);have EK:=hid (BExt.keep HE2.out.ok hA.out (at_+t.methods.length+qau (t.embeds.take k)));have hsz:qau (t.embeds.take k)+f.size≤qau t.embeds:=by have:=Htk.out;have:=Htl.out;omega
     have hszi:(at_:Int)+t.methods.length+qau (t.embeds.take k)+f.size≤4194304:=by omega
     have hni2:s2.ifs.length+f.bulk≤4194304:=by
      have h1:=Hni.out.1;have h2:=Hbt.out;have h3:=Hbl.out;have h4:=HP.out.ni;have h5:=qbd t;have h6:=congrArg List.length Hni1.out;omega
     have hbf:f.bulk≤n:=by have h1:=Hbg.out;have h2:=qbd t;omega
     have hbf6:f.bulk≤1048576:=by have h1:=Hbg.out;have h2:=qbd t;omega
     have HC:Hid (Calls prog 44 #[.pointer (some ⟨F.bb,0,none⟩),.slice a F.W.length c,.int .i64 pn,.agg #[.int .i64 f.kind,.int .i64 f.num,.slice y1 f.elem.length g1,.slice y2 f.fields.length g2,.slice y3 f.methods.length g3,.slice y4 f.embeds.length g4],.int .i64 ((at_:Int)+t.methods.length+qau (t.embeds.take k))] (wr.alloc (.cells #[.int .i64 f.kind,.int .i64 f.num,.slice y1 f.elem.length g1,.slice y2 f.fields.length g2,.slice y3 f.methods.length g3,.slice y4 f.embeds.length g4] 29)) fun e w3=>∃ x:TypeId×Addr×St,e = .returned (.iface x.1 (.pointer (some x.2.1)))∧
       Hid (BExt F s2 wr x.2.2 w3 (at_+t.methods.length+qau (t.embeds.take k)) (at_+t.methods.length+qau (t.embeds.take k)+f.size)∧Den (gOf F x.2.2 (rdA (wr.heap.size+1) w3)) ⟨f,at_+t.methods.length+qau (t.embeds.take k),pn⟩ (.iface x.1 (.pointer (some x.2.1)))∧(x.2.2.ifs.length≤s2.ifs.length+f.bulk∧Mems (gOf F x.2.2 (rdA (wr.heap.size+1) w3)) s2.ifs)∧Blk w3 wr.heap.size 29 [.int .i64 f.kind,.int .i64 f.num,.slice y1 f.elem.length g1,.slice y2 f.fields.length g2,.slice y3 f.methods.length g3,.slice y4 f.embeds.length g4])):=hid (by
      have hq:=HI.out f _ (wr.alloc (.cells #[.int .i64 f.kind,.int .i64 f.num,.slice y1 f.elem.length g1,.slice y2 f.fields.length g2,.slice y3 f.methods.length g3,.slice y4 f.embeds.length g4] 29)) s2 d true (at_+t.methods.length+qau (t.embeds.take k)) pn hbf Ht1.out ⟨(HP.out.base.ext ETot.out).ext EK.out,EK.out.ok,hP'.out,HFk.out,HVk.out,HP.out.tb,fun j j1 j2=>by
       rw[ETot.out.same j (.inr j1)];have:=Hz.out;exact HP.out.free j (by omega) (by omega),by have:=Hz.out;have:=HP.out.le;omega,HP.out.nn,hni2⟩
      have e1:(((at_+t.methods.length+qau (t.embeds.take k):Nat)):Int)=(at_:Int)+t.methods.length+qau (t.embeds.take k):=by omega
      rw[e1] at hq;refine hq.mono ?_;rintro e w3 ⟨v,s3,rfl,⟨T,x,rfl⟩,q1,q2,q3⟩;rw[zd] at q2 q3;exact⟨⟨T,x,s3⟩,rfl,hid ⟨EK.out.trans q1 (zl _) (zcb _ _),q2,q3,(Blk.new wr _ _).apart q1.turns.apart fun hx=>by have:=HE2.out.ok.turnedLt hx;omega⟩⟩)
     have HRv:Hid (∀ g,(Value.slice ea k ec).ownBlock=some g→∃ cs,Blk wr g 63 cs):=hid fun g hg=>qaf Hown2.out hg;have HNt:Hid (∀ g,(Value.slice ea k ec).ownBlock=some g→¬ qa1 F s2 g):=hid fun g hg=>HE2.out.ok.notTurned (HRv.out g hg).choose_spec (by decide) (by decide) (by decide);have HbxT:Hid (¬ qa1 F s2 wr.heap.size):=hid fun hx=>by have:=HE2.out.ok.turnedLt hx;omega
     clear hni2 hbf hsz
     go_wp2_with (first
      | (go_at_call 44;refine HC.out.mono ?_;rintro e w3 ⟨x,rfl,Hx⟩;have Hown3:=hid (qab Hown2.out Hx.out.1.turns.apart HNt.out);have Hown4:=hid (qab Hown3.out (qag.keep (S:=fun _=>False) ((zp w3.heap.size w3).alloc (zl _) (.cells #[.iface x.1 (.pointer (some x.2.1))] 63))) (fun _ _ h=>h)))
      | (at_builtin;go_loud (refine qbu _ rfl _ _ 73 rfl 63 _ 16 Tryz.infoTTy underlying73 rfl ea k ec us rfl Hown4.out ⟨w3.heap.size,0,none⟩ (.iface x.1 (.pointer (some x.2.1))) rfl (cell_of_row _ _ _ _ _ _ (qa8 _ _)) rfl rfl (by omega) (by decide) fun ea' ec' w9 hown' hgrow hloc => ?_);have Hg:=hid hgrow;have Ho9:=hid hown';have Hl9:=hid hloc;have hbx9:Blk w9 wr.heap.size 29 [.int .i64 f.kind,.int .i64 f.num,.slice y1 f.elem.length g1,.slice y2 f.fields.length g2,.slice y3 f.methods.length g3,.slice y4 f.embeds.length g4]:=(Hx.out.2.2.2.alloc _).apart (S:=fun b=>(Value.slice ea k ec).ownBlock=some b) (qag.grown hgrow fun b h _=>h) (fun h=>by have:=(HRv.out _ h).choose_spec.lt;omega);have e0:w9.cell? ⟨wr.heap.size,0,none⟩=some (.int .i64 f.kind):=hbx9.cell 0;have e1:w9.cell? ⟨wr.heap.size,1,none⟩=some (.int .i64 f.num):=hbx9.cell 1;have e2:w9.cell? ⟨wr.heap.size,2,none⟩=some (.slice y1 f.elem.length g1):=hbx9.cell 2;have e3:w9.cell? ⟨wr.heap.size,3,none⟩=some (.slice y2 f.fields.length g2):=hbx9.cell 3;have e4:w9.cell? ⟨wr.heap.size,4,none⟩=some (.slice y3 f.methods.length g3):=hbx9.cell 4;have e5:w9.cell? ⟨wr.heap.size,5,none⟩=some (.slice y4 f.embeds.length g4):=hbx9.cell 5;have l9:=hbx9.lt;have T39:Hid (qah (fun b=>(Value.slice ea k ec).ownBlock=some b) w3 w9):=hid ((qah.keep ((zp _ _).alloc (zl _) _)).trans (qah.grown hgrow fun b h _=>h));have HSr:Hid (∀ b T cs,Blk w3 b T cs→T=63∧b=F.tr∨T≠63→¬ (Value.slice ea k ec).ownBlock=some b):=hid (fun b T cs hb hT hS=>by
        obtain⟨cs',hc⟩:=qaf Hown3.out hS;rcases hT with ⟨-,hT⟩|hT
        ·have q1:=HrB2.out b hS;obtain⟨ts,t1,-⟩:=HE.out.ok.typ;have q2:=t1.lt;omega
        ·exact hc.tne hb (fun e=>hT e.symm) rfl);have E9:Hid (BExt F s1 wm x.2.2 w9 (at_+t.methods.length) (at_+t.methods.length+qau (t.embeds.take k)+f.size)):=hid ((HE2.out.trans Hx.out.1 (zcb _ _) (zcb _ _)).later T39.out (fun b hb=>HrB2.out b hb) fun b T cs hb hT=>HSr.out b T cs hb (by
        rcases hT with rfl|rfl|rfl|h|rfl|rfl|rfl|rfl|rfl|rfl
        ·exact .inr (by decide)
        ·exact .inr (by decide)
        ·exact .inr (by decide)
        ·exact .inl h
        all_goals exact .inr (by decide)));have Ht9:Hid (TyC w9 f [.int .i64 f.kind,.int .i64 f.num,.slice y1 f.elem.length g1,.slice y2 f.fields.length g2,.slice y3 f.methods.length g3,.slice y4 f.embeds.length g4]):=hid (Ht1.out.keep (HP.out.base.ext (HE.out.trans E9.out (zcb _ _) (by omega))).keeps);clear hgrow hown' hloc hbx9)
      | (go_at_call 40;refine(qf1 f _ w9 hbf6 Ht9.out).mono ?_;rintro e w10 ⟨rfl,hb10⟩;have Hb10:=hid hb10;clear hb10))
     go_roundw
     case rel=>
      have z10:=zq Hb10.out;have e10:at_+t.methods.length+qau (t.embeds.take (k+1))=at_+t.methods.length+qau (t.embeds.take k)+f.size:=by rw[Htk.out];omega
      have z1:=Hx.out.1.size;have z2:=HE2.out.size;have zR:∀ g,(Value.slice ea k ec).ownBlock=some g→g<wr.heap.size:=fun g hg=>(HRv.out g hg).choose_spec.lt;have hK:Below w3.heap.size w3 (w3.alloc (.cells #[.iface x.1 (.pointer (some x.2.1))] 63)):=(zp _ _).alloc (zl _) _;have hem2:=qt5 (F:=F) (s1:=s2) (s2:=x.2.2) (s3:=x.2.2) (wr:=wr) (w3:=w3) (w9:=w9) (B:=wm.heap.size) (B2:=wr.heap.size+1) (l:=t.embeds.take k) (t:=f) (at_:=at_+t.methods.length) (p:=pn) (us:=us) (by omega) Hemb.out Hx.out.2.1 (Hx.out.1.rd.trans (qa0 hK)) (qa0 hK) Hg.out (fun g hg=>by have:=zR g hg;omega) Hl9.out (fun r r' hr=>Hx.out.1.le hr) (fun r r' hr=>⟨rfl,rfl,fun _ _ h=>h,fun _ _ h=>h,fun _ h=>h,hr⟩);refine⟨k+1,ea',ec',by omega,by go_num,by rw[e10];go_num,rfl,by omega,hid ⟨us++[.iface x.1 (.pointer (some x.2.1))],x.2.2,?_,qab Ho9.out (qag.keep (S:=fun _=>False) Hb10.out) (fun _ _ h=>h),fun g hg => ?_,?_,fun u hu => ?_,?_⟩⟩
      ·rw[e10];exact E9.out.trans (BExt.keep E9.out.ok Hb10.out _) (by omega) (zl _)
      ·rcases Hl9.out with e|e
       ·exact HrB2.out g (e ▸ hg)
       ·rw[e] at hg;have hg2:=Option.some.inj hg;rw[zd] at hg2;omega
      ·rw[qdd _ _ hlt2,← Hf.out];exact hem2.mono (((BExt.keep E9.out.ok Hb10.out 0).le (qdl Hb10.out)))
      ·rcases zib.1 hu with hu|hu
       ·exact Hus.out u hu
       ·rw[zfb.1 hu];exact⟨_,_,rfl⟩
      ·rw[Hbt.out];have h1:=Hx.out.2.2.1.1;have h2:=Hni.out.1;exact⟨by omega,Mems.next (g:=gOf F s2 (rdX wm.heap.size (Value.slice ea k ec).ownBlock wr)) (g2:=gOf F x.2.2 (rdA (wr.heap.size+1) w3)) Hni.out.2 Hx.out.2.2.1.2 (Hx.out.1.le ((qgc (Hx.out.1.rd.trans (qa0 hK)) Hg.out Hl9.out).trans (qdl Hb10.out)))
        (show G.Le (gOf F x.2.2 (rdA (wr.heap.size+1) w3)) (gOf F x.2.2 _) from⟨rfl,rfl,fun _ _ h=>h,fun _ _ h=>h,fun _ h=>h,(qga (by omega) (qa0 hK) Hg.out (fun g hg=>by have:=zR g hg;omega) Hl9.out).trans (qdl Hb10.out)⟩) rfl⟩
     case measure=>simp[intOf];omega
    ·obtain rfl:k=t.embeds.length:=by omega
     have hbB:=(HP.out.base.ext ETot.out).below;have hz0:=HP.out.base.below.size;have hownM:=qab Hown.out HE2.out.turns.apart fun g hg=>HE.out.ok.notTurned (qaf Hown.out hg).choose_spec (by decide) (by decide) (by decide);have HownM:=hid hownM;have HmsM:=hid (Hms.out.turned HE.out.ok HE2.out);have HNI:=hid (qvy F s2 pn hP'.out ra ea rc t.embeds.length ec w.heap.size at_ t.methods fs sgs w0 wr HT.out HE2.out.ok hbB hz0 hownM HrB.out HmsM.out HM.out hfl);clear hbB hownM;have HcN:Hid (∀ wN,qah (fun b=>(∃ i,i<fs.length∧b=sgs.getD i 0)∨(Value.slice ra t.methods.length rc).ownBlock=some b) wr wN→BExt F s w s2 wN at_ (at_+t.methods.length+qau (t.embeds.take t.embeds.length))):=hid fun wN h=>ETot.out.newI HmsM.out HownM.out HrB.out h;have hnI:s2.ifs.length≤4194304:=by
      have h1:=Hni.out.1;have h4:=HP.out.ni;have h5:=qbd t;have h6:=congrArg List.length Hni1.out;rw[zeb] at h1;omega
     go_wp2_with (first
      | (go_at_call 70;refine HNI.out.mono ?_;rintro e wN ⟨x,rfl,Hx⟩;have EN:=hid (HcN.out wN Hx.out.turns);have b3:wN.cell? ⟨F.bb,3,none⟩=some (.slice s2.ia s2.ifs.length s2.ic):=EN.out.ok.bld.cell 3;have lN:=EN.out.ok.bld.lt;have Hown8:Hid ((wN.alloc (.cells #[.pointer (some ⟨x.1,0,none⟩)] 112)).ownsRow 0 112 1 (.slice s2.ia s2.ifs.length s2.ic) s2.ifs.length (qa7 (s2.ifs.map (·.1)))):=hid (qab EN.out.ok.ifr (qag.keep (S:=fun _=>False) ((zp _ _).alloc (zl _) _)) (fun _ _ h=>h)))
      | (at_builtin;go_loud (refine qbu _ rfl _ _ 75 rfl 112 _ 8 Tryz.infoPI underlying75 rfl s2.ia s2.ifs.length s2.ic (qa7 (s2.ifs.map (·.1))) rfl Hown8.out ⟨wN.heap.size,0,none⟩ (.pointer (some ⟨x.1,0,none⟩)) rfl (cell_of_row _ _ _ _ _ _ (qa8 _ _)) rfl rfl (Nat.le_trans hnI (by decide)) (by decide) fun ia' ic' w9 hown' hgrow hloc => ?_);have Hg:=hid hgrow;have Ho9:=hid hown';have Hl9:=hid hloc;have hbb9:Blk w9 F.bb 77 [.slice (some ⟨F.pr,0,none⟩) 2 F.pc,.slice (some ⟨F.tr,0,none⟩) F.W.length F.tc,.slice (some ⟨F.ob0,0,none⟩) F.N F.oc,s2.row]:=(EN.out.ok.bld.alloc _).apart (S:=fun b=>s2.row.ownBlock=some b) (qag.grown hgrow fun b h _=>h) (fun e=>(EN.out.ok.rowT e).choose_spec.tne EN.out.ok.bld (by decide) rfl);have b9:w9.cell? ⟨F.bb,3,none⟩=some (.slice s2.ia s2.ifs.length s2.ic):=hbb9.cell 3;have f9:=hbb9.soft 3;have l9:=hbb9.lt;clear hgrow hown' hloc hbb9))
     go_ret
     have hT:t.embeds.take t.embeds.length=t.embeds:=zeb;have z1:=HE.out.size;have z2:=HE2.out.size;have hemb2:=Hemb.out;rw[hT] at hemb2;have hq:=Hz.out;have hk5:=Hk.out;have hen:=Hen.out;have hni3:s2.ifs.length+1≤s.ifs.length+t.bulk:=by
      have h1:=Hni.out.1;have h5:=qbd t;have h6:=congrArg List.length Hni1.out;rw[hT] at h1;omega
     have hmem2:=Hni.out.2;rw[Hni1.out] at hmem2;have hfin:=fun(num:Int) (el:List Ty) (fl:List Fd) (hsp:SpOk F.W ⟨.mk 5 num el fl t.methods t.embeds,at_,pn⟩)=>qt6 (wm:=wm) (num:=num) (el:=el) (fl:=fl) hP'.out HM.out HD.out HE2.out.ok EN.out HmsM.out HownM.out HrB.out Hx.out z1 z2 (fun i hi=>(Hms.out.fb i hi).1.2.lt) (fun g hg=>(qaf Hown.out hg).choose_spec.lt) hemb2 Hown2.out HrB2.out Hus.out ((zp _ _).alloc (zl _) _) Ho9.out Hg.out Hl9.out hmem2 hsp;simp only[hT] at hfin;have hsf:=HP.out.formed;have hsv:=HP.out.valid;clear HNI HcN Hemb hemb2 hmem2;obtain⟨kk,nn2,el,fl,ms,em⟩:=t;simp only[Ty.kind,Ty.num] at hk5 hen;subst hk5;obtain⟨r1,r2,r3⟩:=hfin nn2 el fl ⟨rfl,hP'.out,hb6,hsv,_,_,hsf⟩;refine⟨_,_,rfl,⟨_,_,rfl⟩,?_,r2,by simpa[qhg] using hni3,r3⟩;rw[hq,← Nat.add_assoc];exact r1
