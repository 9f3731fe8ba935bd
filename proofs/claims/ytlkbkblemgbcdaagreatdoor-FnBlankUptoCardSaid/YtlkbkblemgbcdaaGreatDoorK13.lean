import Derived.Test.YtlkbkblemgbcdaaGreatDoorK12
namespace Go.Proofs.YtlkbkblemgbcdaaGreatDoor
open Go Go.RowKit
set_option linter.unusedVariables false
set_option linter.unusedSimpArgs false
set_option maxRecDepth 100000
theorem qnu (W:Wd) (a:Option Addr) (c:Nat) (f:Fd) (cs:List Value) (w0 w:World) (d:Int) (val:Bool) (k0:qac w0 w) (hW:WOk w0 W a c) (hN:NmOk W) (ht:TyC w0 f.of cs) (he:f.embedded=true) (hf:f.embedded=true→f.name=0∧qdb f.of) (hF:qam W d val f.of):
  Calls Tryz.prog 81 #[.slice a W.length c,.agg cs.toArray] w (qa2 (.string (qas (fname W f))) w):=by
 obtain⟨-,hn⟩:=hf he
 unfold fname
 rw[if_neg (by simp[he])]
 by_cases hk:f.of.kind=2
 ·rw[if_pos hk]
  rcases hn with hn|⟨-,hl,hn⟩
  ·omega
  ·obtain⟨-,-,-,-,-,h5⟩:=hF.k23 (.inl hk)
   have hq:=h5.num1 hn
   exact qr3 W a c f.of cs w0 w k0 hW ht hk (by omega) hn hq (hN _ (by omega)).1
 ·rw[if_neg hk]
  rcases hn with hn|⟨hn,-⟩
  ·have hq:=hF.num1 hn
   exact qlg W a c f.of cs w0 w k0 hW ht hn hq (hN _ (by omega)).1
  ·exact absurd hn hk
set_option maxHeartbeats 4000000 in
theorem qpe (F:Fix) (a:Option Addr) (c:Nat) (w0 w:World) (n:Nat) (hN:NmOk F.W) (hW:WOk w0 F.W a c) (hT:Tabs w0) (ih:qs6 F a c w0 n) (s:St) (d:Int) (val:Bool) (t:Ty) (cs:List Value) (at_:Nat) (p:Int) (hbk:t.bulk≤n+1) (hb6:t.bulk≤1048576) (hk:t.kind=4) (ht:TyC w0 t cs) (hP:BPre F w0 s w d val t at_ p):
  Calls Tryz.prog 57 #[.pointer (some ⟨F.bb,0,none⟩),.slice a F.W.length c,.int .i64 p,.agg cs.toArray,.int .i64 at_] w (qh4 F s w t at_ p):=by
 obtain⟨pn,rfl⟩:∃ pn:Nat,p=pn:=⟨p.toNat,by have:=hP.pp;omega⟩
 have hp2:(pn:Int)<2:=by have:=hP.pp;omega
 obtain⟨en,e2,e3,e4,ef⟩:=hP.formed.k4 hk
 have hv:=hP.valid.fields
 have hz:t.size=qar t.fields:=by rw[qkt,e2,e3,e4];simp[qau]
 obtain⟨x1,d1,x2,d2,x3,d3,x4,d4,rfl,⟨-,hcap,-,-⟩,-,-,-,h2,-,-,-⟩:=ht.full
 have hbe:=qbd t
 have hfl:t.fields.length≤1048576:=by have:=qbv t.fields;omega
 have H2:=hid h2
 have HP:=hid hP
 have HV:=hid hv
 have HF:=hid ef
 have HN:=hid hN
 have HW:=hid hW
 have HT:=hid hT
 have HI:=hid ih
 have Hz:=hid hz
 have k1:(t.kind==1)=false:=by simp[hk]
 have k2:(t.kind==2)=false:=by simp[hk]
 have k3:(t.kind==3)=false:=by simp[hk]
 have k4:(t.kind==4)=true:=by simp[hk]
 have hat:(at_:Int)+t.size≤4194304:=by have:=hP.le;have:=hP.nn;omega
 have Hk:=hid hk
 obtain⟨O,hO⟩:∃ O,O=(Obj.cells #[.int .i64 t.kind,.int .i64 t.num,.slice x1 t.elem.length d1,.slice x2 t.fields.length d2,.slice x3 t.methods.length d3,.slice x4 t.embeds.length d4] 28):=⟨_,rfl⟩
 have EA:=hid (BExt.keep hP.ok ((Below.refl _ _).alloc (Nat.le_refl _) O) at_)
 clear hP hv ef hN hW hT ih ht h2 hk en e2 e3 e4 hz hbe
 generalize hkd:t.kind=kd at k1 k2 k3 k4 hO ⊢
 generalize hnn:t.num=nn at hO ⊢
 go_enter Tryz.func57,Tryz.ntmps57
 go_wp2_with fail
 rw[← hO]
 clear hO
 have hl1:w.heap.size<(w.alloc O).heap.size:=by simp
 go_loopw [4,11,67] (fun av fv j wr=>∃ (k:Nat) (ra:Option Addr) (rc:Nat),k≤t.fields.length∧j = .int .i64 k∧av = .int .i64 ((at_+qar (t.fields.take k):Nat):Int)∧fv = .slice ra k rc∧w.heap.size+1≤wr.heap.size∧
   Hid (∃ xs s1,BExt F s w s1 wr at_ (at_+qar (t.fields.take k))∧wr.ownsRow 0 154 1 (.slice ra k rc) k (qa7 xs)∧(∀ g,(Value.slice ra k rc).ownBlock=some g→w.heap.size≤g)∧qbe (gOf F s1 (rdX w.heap.size (Value.slice ra k rc).ownBlock wr)) (t.fields.take k) at_ pn xs∧s1.ifs.length≤s.ifs.length+qcm (t.fields.take k)∧Mems (gOf F s1 (rdX w.heap.size (Value.slice ra k rc).ownBlock wr)) s.ifs))
  (fun _ _ j _=>t.fields.length - (intOf j).toNat)
 case atStart=>exact⟨0,none,0,by omega,rfl,by simp[qar],rfl,by simp,hid ⟨[],s,by simpa[qar] using EA.out,World.ownsRow_nil _ _ _ _,fun g h=>(by cases h),rfl,Nat.le_add_right _ _,fun x hx => .inl hx⟩⟩
 clear EA
 case round=>
  obtain⟨k,ra,rc,hk,rfl,rfl,rfl,hz1,hst⟩:=hrel
  obtain⟨xs,s1,hE,hown,hrB,hfx,hni⟩:=hst.out
  have HE:=hid hE
  have Hown:=hid hown
  have HrB:=hid hrB
  have Hfx:=hid hfx
  have Hni:=hid hni
  have hlb:=hE.ok.bld.lt
  clear hst hE hown hrB hfx hni
  by_cases hlt:k<t.fields.length
  ·obtain⟨b,o,cs1,rfl,hn1,hc,ht1⟩:=FdsR.get H2.out k hlt
   have K0:Hid (qac w0 wr):=hid (HP.out.base.ext HE.out).keeps
   obtain⟨y1,g1,y2,g2,y3,g3,y4,g4,rfl,-⟩:=ht1.open
   have Ht1:=hid ht1
   obtain⟨c0,c1,c2,c3,c4,c5,c6,c7⟩:=qhx (hc.keep K0.out)
   simp only[Nat.zero_add] at c0 c1 c2 c3 c4 c5 c6 c7
   have hbb:=World.block_lt_of_cell? wr _ c0
   simp only at hbb
   have hbb1:b<wr.heap.size+1:=by omega
   have hlt':(k:Int)<(t.fields.length:Int):=by omega
   have HFk:=hid (HF.out.get k hlt)
   have HVk:=hid (HV.out.get k hlt)
   have hnm:=HFk.out.1
   have Hnm:=hid hnm
   clear hc ht1 hnm hn1
   obtain⟨f,hf⟩:∃ f,f=t.fields[k]:=⟨_,rfl⟩
   rw[← hf] at HFk HVk Hnm Ht1 c0 c1 c2 c3 c4 c5 c6 c7
   have Hf:=hid hf
   clear hf
   cases hem:f.embedded with
   | false=>
    rw[hem] at c1
    have Hem:=hid hem
    clear hem
    go_wp2_with (go_at_call 33;refine(qbq _ _ Hnm.out).mono ?_;rintro e w2 ⟨rfl,hb2⟩;have Hb2:=hid hb2;have hfb:Blk w2 wr.heap.size 87 [.int .i64 f.name,.bool false,.int .i64 f.of.kind,.int .i64 f.of.num,.slice y1 f.of.elem.length g1,.slice y2 f.of.fields.length g2,.slice y3 f.of.methods.length g3,.slice y4 f.of.embeds.length g4]:=(Blk.new wr _ _).keep hb2;have q1:=hfb.cell 1;simp only[List.getElem?_cons_succ,List.getElem?_cons_zero] at q1;have ql:=hfb.lt;have Hfb:=hid hfb;clear hfb hb2)
    clear q1 ql
    obtain⟨wX,hwX⟩:∃ wX,wX=w2:=⟨_,rfl⟩
    have HX:Hid (Below wr.heap.size wr wX):=hid (hwX ▸ ((Below.refl _ _).alloc (Nat.le_refl _) _).trans (Hb2.out.mono (by simp)))
    have HfB:Hid (Blk wX wr.heap.size 87 [.int .i64 f.name,.bool false,.int .i64 f.of.kind,.int .i64 f.of.num,.slice y1 f.of.elem.length g1,.slice y2 f.of.fields.length g2,.slice y3 f.of.methods.length g3,.slice y4 f.of.embeds.length g4]):=hid (hwX ▸ Hfb.out)
    clear Hb2 Hfb
    subst hwX
    rw[show qas f.name=qas (fname F.W f) by unfold fname;rw[if_pos Hem.out]]
    have hE1:=HE.out.trans (BExt.keep HE.out.ok HX.out (at_+qar (t.fields.take k))) (Nat.le_add_right _ _) (Nat.le_refl _)
    have HE1:=hid hE1
    have hbx:=hE1.ok.bld.cell 0
    simp only[List.getElem?_cons_zero] at hbx
    have hlX:wr.heap.size<wX.heap.size:=HfB.out.lt
    have hRk:MixR.RelOk (fun w' W=>qah (qa1 F s1) w' W∧W.cell? ⟨F.bb,0,none⟩=some (.slice (some ⟨F.pr,0,none⟩) 2 F.pc)):=⟨fun w1 W1 W2 h hb=>⟨h.1.trans (qah.keep hb),qac.below hb _ _ h.2⟩,fun w1 W1 h=>h.1.apart.size⟩
    have HXc:Hid (∀ W,(qah (qa1 F s1) wX.drew W∧W.cell? ⟨F.bb,0,none⟩=some (.slice (some ⟨F.pr,0,none⟩) 2 F.pc))→F.bb<W.heap.size∧F.pr<W.heap.size∧wr.heap.size<W.heap.size∧W.cell? ⟨F.bb,0,none⟩=some (.slice (some ⟨F.pr,0,none⟩) 2 F.pc)∧W.cell? ⟨F.pr,pn,none⟩=some (.pointer (some ⟨F.pk pn,0,none⟩))∧
      W.cell? ⟨wr.heap.size,1,none⟩=some (.bool false)∧W.cell? ⟨wr.heap.size,2,none⟩=some (.int .i64 f.of.kind)∧W.cell? ⟨wr.heap.size,3,none⟩=some (.int .i64 f.of.num)∧W.cell? ⟨wr.heap.size,4,none⟩=some (.slice y1 f.of.elem.length g1)∧W.cell? ⟨wr.heap.size,5,none⟩=some (.slice y2 f.of.fields.length g2)∧W.cell? ⟨wr.heap.size,6,none⟩=some (.slice y3 f.of.methods.length g3)∧W.cell? ⟨wr.heap.size,7,none⟩=some (.slice y4 f.of.embeds.length g4)):=hid fun W hW=>by
     have hfW:=HfB.out.drew.apart hW.1.apart (HE1.out.ok.notTurned HfB.out (by decide) (by decide) (by decide))
     have hz:=hW.1.apart.size
     have hzd:wX.drew.heap.size=wX.heap.size:=rfl
     have l1:=HE1.out.ok.prB.lt
     have l2:=HE1.out.ok.bld.lt
     refine⟨by omega,by omega,hfW.lt,hW.2,?_,hfW.cell 1,hfW.cell 2,hfW.cell 3,hfW.cell 4,hfW.cell 5,hfW.cell 6,hfW.cell 7⟩
     exact(World.cell?_of_block (hW.1.apart.block F.pr HE1.out.ok.prB.lt (HE1.out.ok.notTurned HE1.out.ok.prB (by decide) (by decide) (by decide)))).trans (HE1.out.ok.pkc HP.out.pp).1
    have hlP:F.pr<wX.heap.size:=HE1.out.ok.prB.lt
    have hlB:F.bb<wX.heap.size:=HE1.out.ok.bld.lt
    have htk:=qdi t.fields k hlt
    have htl:=qbj t.fields (k+1)
    rw[htk,← Hf.out] at htl
    have hat2:(at_:Int)+(qar (t.fields.take k):Nat)+1+(f.of.size:Nat)≤4194304:=by have:=Hz.out;omega
    have Htl:=hid htl
    have Htk:=hid htk
    clear hE1 htk htl c0 c1 c2 c3 c4 c5 c6 c7
    refine MixR.wp_region (R:=fun w' W=>qah (qa1 F s1) w' W∧W.cell? ⟨F.bb,0,none⟩=some (.slice (some ⟨F.pr,0,none⟩) 2 F.pc)) [0,1,2,3,4,5,6,7,8,9,10,11,12,13,14,16,17] [(15,false),(18,false)] [19] (fun _=>default) ⟨qah.refl _ _,hbx⟩ (by kernel_rfl) (by kernel_rfl) (by decide) ?_
    iterate 17 (first|(refine MixR.pre_yes rfl rfl ?_;apply Exists.intro;refine⟨fun W1 hW1 => ?_,?_⟩;(focus (have q:=HXc.out W1 hW1;have r1:=q.1;have r2:=q.2.1;have r3:=q.2.2.1;have q0:=q.2.2.2.1;have q1:=q.2.2.2.2.1;have e1:=q.2.2.2.2.2.1;have e2:=q.2.2.2.2.2.2.1;have e3:=q.2.2.2.2.2.2.2.1;have e4:=q.2.2.2.2.2.2.2.2.1;have e5:=q.2.2.2.2.2.2.2.2.2.1;have e6:=q.2.2.2.2.2.2.2.2.2.2.1;have e7:=q.2.2.2.2.2.2.2.2.2.2.2;clear q hW1;go_simp;first|exact rfl|fail));simp only[Act.put,List.getElem_toArray,List.getElem_cons_succ,List.getElem_cons_zero,List.setIfInBounds_toArray,qai,qaj,List.set_cons_succ,List.set_cons_zero])|(refine MixR.pre_no rfl rfl ?_;simp only[Act.put,List.getElem_toArray,List.getElem_cons_succ,List.getElem_cons_zero,List.setIfInBounds_toArray,qai,qaj,List.set_cons_succ,List.set_cons_zero]))
    refine MixR.pre_end (MixR.fl_op (MixR.fl_op MixR.fl_nil)) (fun W2 hW2 => ?_)
    refine MixR.mid_turn rfl rfl (fun Kp hKp => ?_)
    go_simp
    have hbu:f.of.bulk≤n:=by
     have h1:=qbx t.fields k hlt
     have h2:=qbd t
     rw[← Hf.out] at h1
     omega
    have hbu6:f.of.bulk≤1048576:=by
     have h1:=qbx t.fields k hlt
     have h2:=qbd t
     rw[← Hf.out] at h1
     omega
    have hW2k:Below wX.heap.size wX W2:=((Below.refl _ _).drew).trans hW2
    have EK:=BExt.keep HE1.out.ok hW2k (at_+qar (t.fields.take k)+1)
    have hpre:BPre F w0 s1 W2 d val f.of (at_+qar (t.fields.take k)+1) pn:=⟨(HP.out.base.ext HE1.out).ext EK,EK.ok,HP.out.pp,HFk.out.2.2,HVk.out.2,HP.out.tb,fun j j1 j2=>by
     rw[HE1.out.same j (by omega)]
     have:=Htl.out;have:=Hz.out
     exact HP.out.free j (by omega) (by omega),by have:=Htl.out;have:=Hz.out;have:=HP.out.le;omega,HP.out.nn,by
     have h1:=qe2 t.fields k hlt
     have h2:=qfb t.fields (k+1)
     have h3:=qbd t
     have h4:=HP.out.ni
     have h5:=Hni.out.1
     rw[← Hf.out] at h1
     omega⟩
    rw[qni _ (by omega) (by omega),show(at_:Int)+(qar (t.fields.take k):Nat)+1=((at_+qar (t.fields.take k)+1:Nat):Int) by omega]
    refine(HI.out f.of _ W2 s1 d val (at_+qar (t.fields.take k)+1) pn hbu Ht1.out hpre).mono ?_
    rintro e W3 ⟨v,s2,rfl,⟨T,x,rfl⟩,hE2,hD2,hI2⟩
    have HI2:=hid hI2
    clear hI2
    have hT3:qah (qa1 F s1) wX.drew W3:=(qah.keep hW2).trans hE2.turns
    refine⟨_,rfl,hKp _ _ ⟨hT3,by have:=hE2.ok.bld.cell 0;simpa using this⟩ hE2.size (fun j j1 j2=>hE2.turns.apart.block j j2 fun hj=>by have:=HE1.out.ok.turnedLt hj;have:wX.drew.heap.size=wX.heap.size:=rfl;omega) fun W4 hW4 => ?_⟩
    simp only[Act.put,List.getElem_toArray,List.getElem_cons_succ,List.getElem_cons_zero,List.setIfInBounds_toArray,qai,qaj,List.set_cons_succ,List.set_cons_zero]
    have hb04:=qac.below hW4 _ _ (show W3.cell? ⟨F.bb,0,none⟩=some (.slice (some ⟨F.pr,0,none⟩) 2 F.pc) by have:=hE2.ok.bld.cell 0;simpa using this)
    refine MixR.mid_call ⟨hT3.trans (qah.keep hW4),hb04⟩ rfl rfl (fun Kp2 hKp2 => ?_)
    go_simp
    refine(qiw _ _ _ _ _ _).mono ?_
    rintro e W5 ⟨rfl,rfl⟩
    refine⟨_,rfl,hKp2 _ _ ((Below.refl _ _).alloc (Nat.le_refl _) _) fun W6 hW6 => ?_⟩
    simp only[Act.put,List.getElem_toArray,List.getElem_cons_succ,List.getElem_cons_zero,List.setIfInBounds_toArray,qai,qaj,List.set_cons_succ,List.set_cons_zero]
    have hW46:Below W3.heap.size W3 W6:=hW4.trans (((Below.refl _ _).alloc (by have:=hW4.size;omega) _).trans (hW6.mono (by have:=hW4.size;simp;omega)))
    have HV6:=hid ((Blk.new W4 214 [.int .i64 0,.pointer (some ⟨F.pk pn,0,none⟩),.string (qas (fname F.W f)),.iface T (.pointer (some x)),.int .u8 6,.bool false]).keep hW6)
    have E26:=hid ((EK.trans hE2 (Nat.le_refl _) (Nat.le_add_right _ _)).trans (BExt.keep hE2.ok hW46 _) (Nat.le_add_right _ _) (Nat.le_refl _))
    have HD2:=hid hD2
    have HW46:=hid hW46
    have hxW2:wX.heap.size≤W2.heap.size:=EK.size
    have hokW2:=EK.ok
    have hE2i:=hE2.ifs
    have HL2:Hid (∀ r r',RdLe r r'→G.Le (gOf F s2 r) (gOf F s2 r')):=hid fun r r' hr=>⟨rfl,rfl,fun _ _ h=>h,fun _ _ h=>h,fun _ h=>h,hr⟩
    have hx6:W4.heap.size<W6.heap.size:=HV6.out.lt
    have hx3:W3.heap.size≤W4.heap.size:=hW4.size
    have hx2:wX.heap.size≤W3.heap.size:=hT3.apart.size
    have hl3:=hid hE2.ok.lt
    clear hKp hKp2 hW2 hW4 hW6 hT3 hE2 hD2 hW46 hb04 hpre hW2k EK
    refine MixR.mid_nil (qco rfl ?_)
    have hok6:=E26.out.ok
    have b2:=hok6.bld.cell 2
    simp only[List.getElem?_cons_succ,List.getElem?_cons_zero] at b2
    have Hok6:=hid hok6
    clear hok6
    have hoA:s2.ob (at_+qar (t.fields.take k))=none:=by
     rw[E26.out.same _ (.inl (by omega)),HE1.out.same _ (.inr (Nat.le_refl _))]
     have:=Htl.out;have:=Hz.out
     exact HP.out.free _ (Nat.le_add_right _ _) (by omega)
    have hAN:at_+qar (t.fields.take k)<F.N:=by have:=Htl.out;have:=Hz.out;have:=HP.out.le;omega
    have E67:=hid (BExt.put Hok6.out hAN hoA false W4.heap.size hx6 (fun j y hy=>by
     have:=hl3.out j y.1 y.2 hy
     omega))
    have hpc:=Hok6.out.putc hAN hoA
    have hput:=qmk F.bb F.ob0 F.N F.oc (at_+qar (t.fields.take k)) 154 (some ⟨W4.heap.size,0,none⟩) .nilIface W6 hpc.1 hAN hpc.2.1 hpc.2.2
    simp only[Int.natCast_add] at hput
    have Hput:=hid hput
    clear hput hpc b2 hoA
    have HRv:Hid (∀ g,(Value.slice ra k rc).ownBlock=some g→∃ cs,Blk wr g 154 cs):=hid fun g hg=>qaf Hown.out hg
    go_wp2_with (first
     | (go_at_call 59;refine Hput.out.mono ?_;rintro e w7 ⟨rfl,hw7⟩;have E17:Hid (BExt F s1 wX (qd6 s2 (at_+qar (t.fields.take k)) (false,W4.heap.size)) w7 (at_+qar (t.fields.take k)) (at_+qar (t.fields.take k)+1+f.of.size)):=hid (hw7 ▸ E26.out.join E67.out (Nat.le_succ _) (Nat.le_add_right _ _));have A17:Hid (qag (qa1 F s1) wr w7):=hid ((qag.keep HX.out).trans E17.out.turns.apart);have Hown7:=hid (qab Hown.out A17.out fun g hg=>HE.out.ok.notTurned (HRv.out g hg).choose_spec (by decide) (by decide) (by decide));have Hown8:=hid (qab Hown7.out (qag.keep (S:=fun _=>False) ((Below.refl w7.heap.size w7).alloc (Nat.le_refl _) (.cells #[.pointer (some ⟨W4.heap.size,0,none⟩)] 154))) (fun _ _ h=>h));have Hfb7:=hid (HfB.out.apart E17.out.turns.apart (HE1.out.ok.notTurned HfB.out (by decide) (by decide) (by decide)));have HV7:=hid (HV6.out.apart (hw7 ▸ E67.out.turns.apart) (Hok6.out.notTurned HV6.out (by decide) (by decide) (by decide)));have R37:Hid (RdLe (rdT W3) (rdT w7)):=hid ((qa0 HW46.out).trans (hw7 ▸ E67.out.rd));clear hw7)
     | (at_builtin;go_loud (refine qbu _ rfl _ _ 174 rfl 154 _ 8 Tryz.infoPV Tryz.underlying174 rfl ra k rc (qa7 xs) rfl Hown8.out ⟨w7.heap.size,0,none⟩ (.pointer (some ⟨W4.heap.size,0,none⟩)) rfl (cell_of_row _ _ _ _ _ _ (qa8 _ _)) rfl rfl (by omega) (by decide) fun ra' rc' w9 hown' hgrow hloc => ?_);have Hg:=hid hgrow;have Ho9:=hid hown';have Hl9:=hid hloc;have hfb9:Blk w9 wr.heap.size 87 [.int .i64 f.name,.bool false,.int .i64 f.of.kind,.int .i64 f.of.num,.slice y1 f.of.elem.length g1,.slice y2 f.of.fields.length g2,.slice y3 f.of.methods.length g3,.slice y4 f.of.embeds.length g4]:=(Hfb7.out.alloc _).apart (S:=fun b=>(Value.slice ra k rc).ownBlock=some b) (qag.grown hgrow fun b h _=>h) (fun h=>by have:=(HRv.out _ h).choose_spec.lt;omega);have e2:w9.cell? ⟨wr.heap.size,2,none⟩=some (.int .i64 f.of.kind):=hfb9.cell 2;have e3:w9.cell? ⟨wr.heap.size,3,none⟩=some (.int .i64 f.of.num):=hfb9.cell 3;have e4:w9.cell? ⟨wr.heap.size,4,none⟩=some (.slice y1 f.of.elem.length g1):=hfb9.cell 4;have e5:w9.cell? ⟨wr.heap.size,5,none⟩=some (.slice y2 f.of.fields.length g2):=hfb9.cell 5;have e6:w9.cell? ⟨wr.heap.size,6,none⟩=some (.slice y3 f.of.methods.length g3):=hfb9.cell 6;have e7:w9.cell? ⟨wr.heap.size,7,none⟩=some (.slice y4 f.of.embeds.length g4):=hfb9.cell 7;have l9:=hfb9.lt;have T79:Hid (qah (fun b=>(Value.slice ra k rc).ownBlock=some b) w7 w9):=hid ((qah.keep ((Below.refl _ _).alloc (Nat.le_refl _) _)).trans (qah.grown hgrow fun b h _=>h));have E9:Hid (BExt F s w (qd6 s2 (at_+qar (t.fields.take k)) (false,W4.heap.size)) w9 at_ (at_+qar (t.fields.take k)+1+f.of.size)):=hid ((HE1.out.trans E17.out (Nat.le_add_right _ _) (by omega)).later T79.out (fun b hb=>HrB.out b hb) (fun b T cs hb hT hS=>by
       obtain⟨cs',hc⟩:=qaf Hown7.out hS
       have e:=hc.tne hb
       rcases hT with rfl|rfl|rfl|⟨rfl,-⟩|rfl|rfl|rfl|rfl|rfl|rfl <;> exact e (by decide) rfl));have Ht9:Hid (TyC w9 f.of [.int .i64 f.of.kind,.int .i64 f.of.num,.slice y1 f.of.elem.length g1,.slice y2 f.of.fields.length g2,.slice y3 f.of.methods.length g3,.slice y4 f.of.embeds.length g4]):=hid (Ht1.out.keep (HP.out.base.ext E9.out).keeps);clear hgrow hown' hloc hfb9)
     | (go_at_call 53;refine(qf1 f.of _ w9 hbu6 Ht9.out).mono ?_;rintro e w10 ⟨rfl,hb10⟩;have Hb10:=hid hb10;clear hb10))
    go_roundw
    case rel=>
     have z10:=Below.size Hb10.out
     have e10:at_+qar (t.fields.take (k+1))=at_+qar (t.fields.take k)+1+f.of.size:=by rw[Htk.out,← Hf.out];omega
     have z1:=HE.out.size
     have z2:=HX.out.size
     have z3:=E17.out.size
     have zR:∀ g,(Value.slice ra k rc).ownBlock=some g→g<wr.heap.size:=fun g hg=>(HRv.out g hg).choose_spec.lt
     have hfm:=qj1 (F:=F) (s1:=s1) (s2:=s2) (s3:=qd6 s2 (at_+qar (t.fields.take k)) (false,W4.heap.size)) (wr:=wr) (w3:=W3) (w9:=w9) (B:=w.heap.size) (B2:=W2.heap.size) (l:=t.fields.take k) (f:=f) (at_:=at_) (x:=W4.heap.size) (p:=pn) (xs:=xs) (by omega) Hfx.out HD2.out
      (((qa0 HX.out).trans E17.out.rd).trans (qa0 ((Below.refl _ _).alloc (Nat.le_refl _) _))) (R37.out.trans (qa0 ((Below.refl _ _).alloc (Nat.le_refl _) _))) Hg.out (fun g hg=>by have:=zR g hg;omega) Hl9.out (fun r r' hr=>E17.out.le hr) (fun r r' hr=>E67.out.le hr) (by simp[qd6])
      (by rw[Hem.out];exact HV7.out.alloc _) (by omega) ⟨_,_,rfl⟩ (fun e=>by have:=zR _ e;omega)
     refine⟨k+1,ra',rc',by omega,by go_num,by rw[e10];go_num,rfl,by omega,hid ⟨xs++[W4.heap.size],qd6 s2 (at_+qar (t.fields.take k)) (false,W4.heap.size),?_,?_,fun g hg => ?_,?_,?_⟩⟩
     ·rw[e10]
      exact E9.out.trans (BExt.keep E9.out.ok Hb10.out _) (by omega) (Nat.le_refl _)
     ·have:=qab Ho9.out (qag.keep (S:=fun _=>False) Hb10.out) (fun _ _ h=>h)
      simpa[qa7] using this
     ·rcases Hl9.out with e|e
      ·exact HrB.out g (e ▸ hg)
      ·rw[e] at hg
       have hg2:=Option.some.inj hg
       rw[World.size_alloc] at hg2;omega
     ·rw[qdd _ _ hlt,← Hf.out]
      exact hfm.mono (((BExt.keep E9.out.ok Hb10.out 0).le (qdl Hb10.out)))
     ·rw[qe2 t.fields k hlt,← Hf.out]
      have h1:=HI2.out.1
      have h2:=Hni.out.1
      refine⟨?_,Mems.next (g:=gOf F s1 (rdX w.heap.size (Value.slice ra k rc).ownBlock wr)) (g2:=gOf F s2 (rdA W2.heap.size W3)) Hni.out.2 HI2.out.2 (E17.out.le ((qgc (((qa0 HX.out).trans E17.out.rd).trans (qa0 ((Below.refl _ _).alloc (Nat.le_refl _) _))) Hg.out Hl9.out).trans (qdl Hb10.out))) (E67.out.le ((qga (by omega) (R37.out.trans (qa0 ((Below.refl _ _).alloc (Nat.le_refl _) _))) Hg.out (fun g hg=>by have:=zR g hg;omega) Hl9.out).trans (qdl Hb10.out))) rfl⟩
      show s2.ifs.length≤_
      omega
    case measure=>simp[intOf];omega
   | true=>
    rw[hem] at c1
    have Hem:=hid hem
    clear hem
    go_wp2_with (first
     | (go_at_call 33;refine(qbq _ _ Hnm.out).mono ?_;rintro e w2 ⟨rfl,hb2⟩;have Hb2:=hid hb2;have hfb:Blk w2 wr.heap.size 87 [.int .i64 f.name,.bool true,.int .i64 f.of.kind,.int .i64 f.of.num,.slice y1 f.of.elem.length g1,.slice y2 f.of.fields.length g2,.slice y3 f.of.methods.length g3,.slice y4 f.of.embeds.length g4]:=(Blk.new wr _ _).keep hb2;have q1:w2.cell? ⟨wr.heap.size,1,none⟩=some (.bool true):=hfb.cell 1;have q2:w2.cell? ⟨wr.heap.size,2,none⟩=some (.int .i64 f.of.kind):=hfb.cell 2;have q3:w2.cell? ⟨wr.heap.size,3,none⟩=some (.int .i64 f.of.num):=hfb.cell 3;have q4:w2.cell? ⟨wr.heap.size,4,none⟩=some (.slice y1 f.of.elem.length g1):=hfb.cell 4;have q5:w2.cell? ⟨wr.heap.size,5,none⟩=some (.slice y2 f.of.fields.length g2):=hfb.cell 5;have q6:w2.cell? ⟨wr.heap.size,6,none⟩=some (.slice y3 f.of.methods.length g3):=hfb.cell 6;have q7:w2.cell? ⟨wr.heap.size,7,none⟩=some (.slice y4 f.of.embeds.length g4):=hfb.cell 7;have ql:=hfb.lt;have Hfb:=hid hfb;have K2:Hid (qac w0 w2):=hid ((K0.out.trans (qac.alloc _ _)).trans (qac.below hb2));clear hfb hb2)
     | (go_at_call 81;refine(qnu F.W a c f _ w0 _ d val K2.out HW.out HN.out Ht1.out Hem.out HFk.out.2.1 HFk.out.2.2).mono ?_;rintro e w3 ⟨rfl,hb3⟩;have Hb3:=hid hb3;clear hb3))
    clear q1 q2 q3 q4 q5 q6 q7 ql
    obtain⟨wX,hwX⟩:∃ wX,wX=w3:=⟨_,rfl⟩
    have HX:Hid (Below wr.heap.size wr wX):=hid (hwX ▸ (((Below.refl _ _).alloc (Nat.le_refl _) _).trans (Hb2.out.mono (by simp))).trans (Hb3.out.mono (by have:=Below.size Hb2.out;simp at this;omega)))
    have HfB:Hid (Blk wX wr.heap.size 87 [.int .i64 f.name,.bool true,.int .i64 f.of.kind,.int .i64 f.of.num,.slice y1 f.of.elem.length g1,.slice y2 f.of.fields.length g2,.slice y3 f.of.methods.length g3,.slice y4 f.of.embeds.length g4]):=hid (hwX ▸ Hfb.out.keep Hb3.out)
    clear Hb2 Hfb Hb3 K2
    subst hwX
    have hE1:=HE.out.trans (BExt.keep HE.out.ok HX.out (at_+qar (t.fields.take k))) (Nat.le_add_right _ _) (Nat.le_refl _)
    have HE1:=hid hE1
    have hbx:=hE1.ok.bld.cell 0
    simp only[List.getElem?_cons_zero] at hbx
    have hlX:wr.heap.size<wX.heap.size:=HfB.out.lt
    have hRk:MixR.RelOk (fun w' W=>qah (qa1 F s1) w' W∧W.cell? ⟨F.bb,0,none⟩=some (.slice (some ⟨F.pr,0,none⟩) 2 F.pc)):=⟨fun w1 W1 W2 h hb=>⟨h.1.trans (qah.keep hb),qac.below hb _ _ h.2⟩,fun w1 W1 h=>h.1.apart.size⟩
    have HXc:Hid (∀ W,(qah (qa1 F s1) wX.drew W∧W.cell? ⟨F.bb,0,none⟩=some (.slice (some ⟨F.pr,0,none⟩) 2 F.pc))→F.bb<W.heap.size∧F.pr<W.heap.size∧wr.heap.size<W.heap.size∧W.cell? ⟨F.bb,0,none⟩=some (.slice (some ⟨F.pr,0,none⟩) 2 F.pc)∧W.cell? ⟨F.pr,pn,none⟩=some (.pointer (some ⟨F.pk pn,0,none⟩))∧
      W.cell? ⟨wr.heap.size,1,none⟩=some (.bool true)∧W.cell? ⟨wr.heap.size,2,none⟩=some (.int .i64 f.of.kind)∧W.cell? ⟨wr.heap.size,3,none⟩=some (.int .i64 f.of.num)∧W.cell? ⟨wr.heap.size,4,none⟩=some (.slice y1 f.of.elem.length g1)∧W.cell? ⟨wr.heap.size,5,none⟩=some (.slice y2 f.of.fields.length g2)∧W.cell? ⟨wr.heap.size,6,none⟩=some (.slice y3 f.of.methods.length g3)∧W.cell? ⟨wr.heap.size,7,none⟩=some (.slice y4 f.of.embeds.length g4)):=hid fun W hW=>by
     have hfW:=HfB.out.drew.apart hW.1.apart (HE1.out.ok.notTurned HfB.out (by decide) (by decide) (by decide))
     have hz:=hW.1.apart.size
     have hzd:wX.drew.heap.size=wX.heap.size:=rfl
     have l1:=HE1.out.ok.prB.lt
     have l2:=HE1.out.ok.bld.lt
     refine⟨by omega,by omega,hfW.lt,hW.2,?_,hfW.cell 1,hfW.cell 2,hfW.cell 3,hfW.cell 4,hfW.cell 5,hfW.cell 6,hfW.cell 7⟩
     exact(World.cell?_of_block (hW.1.apart.block F.pr HE1.out.ok.prB.lt (HE1.out.ok.notTurned HE1.out.ok.prB (by decide) (by decide) (by decide)))).trans (HE1.out.ok.pkc HP.out.pp).1
    have hlP:F.pr<wX.heap.size:=HE1.out.ok.prB.lt
    have hlB:F.bb<wX.heap.size:=HE1.out.ok.bld.lt
    have htk:=qdi t.fields k hlt
    have htl:=qbj t.fields (k+1)
    rw[htk,← Hf.out] at htl
    have hat2:(at_:Int)+(qar (t.fields.take k):Nat)+1+(f.of.size:Nat)≤4194304:=by have:=Hz.out;omega
    have Htl:=hid htl
    have Htk:=hid htk
    clear hE1 htk htl c0 c1 c2 c3 c4 c5 c6 c7
    refine MixR.wp_region (R:=fun w' W=>qah (qa1 F s1) w' W∧W.cell? ⟨F.bb,0,none⟩=some (.slice (some ⟨F.pr,0,none⟩) 2 F.pc)) [0,1,2,3,4,5,6,7,8,9,10,11,12,13,14,16,17] [(15,false),(18,false)] [19] (fun _=>default) ⟨qah.refl _ _,hbx⟩ (by kernel_rfl) (by kernel_rfl) (by decide) ?_
    iterate 17 (first|(refine MixR.pre_yes rfl rfl ?_;apply Exists.intro;refine⟨fun W1 hW1 => ?_,?_⟩;(focus (have q:=HXc.out W1 hW1;have r1:=q.1;have r2:=q.2.1;have r3:=q.2.2.1;have q0:=q.2.2.2.1;have q1:=q.2.2.2.2.1;have e1:=q.2.2.2.2.2.1;have e2:=q.2.2.2.2.2.2.1;have e3:=q.2.2.2.2.2.2.2.1;have e4:=q.2.2.2.2.2.2.2.2.1;have e5:=q.2.2.2.2.2.2.2.2.2.1;have e6:=q.2.2.2.2.2.2.2.2.2.2.1;have e7:=q.2.2.2.2.2.2.2.2.2.2.2;clear q hW1;go_simp;first|exact rfl|fail));simp only[Act.put,List.getElem_toArray,List.getElem_cons_succ,List.getElem_cons_zero,List.setIfInBounds_toArray,qai,qaj,List.set_cons_succ,List.set_cons_zero])|(refine MixR.pre_no rfl rfl ?_;simp only[Act.put,List.getElem_toArray,List.getElem_cons_succ,List.getElem_cons_zero,List.setIfInBounds_toArray,qai,qaj,List.set_cons_succ,List.set_cons_zero]))
    refine MixR.pre_end (MixR.fl_op (MixR.fl_op MixR.fl_nil)) (fun W2 hW2 => ?_)
    refine MixR.mid_turn rfl rfl (fun Kp hKp => ?_)
    go_simp
    have hbu:f.of.bulk≤n:=by
     have h1:=qbx t.fields k hlt
     have h2:=qbd t
     rw[← Hf.out] at h1
     omega
    have hbu6:f.of.bulk≤1048576:=by
     have h1:=qbx t.fields k hlt
     have h2:=qbd t
     rw[← Hf.out] at h1
     omega
    have hW2k:Below wX.heap.size wX W2:=((Below.refl _ _).drew).trans hW2
    have EK:=BExt.keep HE1.out.ok hW2k (at_+qar (t.fields.take k)+1)
    have hpre:BPre F w0 s1 W2 d val f.of (at_+qar (t.fields.take k)+1) pn:=⟨(HP.out.base.ext HE1.out).ext EK,EK.ok,HP.out.pp,HFk.out.2.2,HVk.out.2,HP.out.tb,fun j j1 j2=>by
     rw[HE1.out.same j (by omega)]
     have:=Htl.out;have:=Hz.out
     exact HP.out.free j (by omega) (by omega),by have:=Htl.out;have:=Hz.out;have:=HP.out.le;omega,HP.out.nn,by
     have h1:=qe2 t.fields k hlt
     have h2:=qfb t.fields (k+1)
     have h3:=qbd t
     have h4:=HP.out.ni
     have h5:=Hni.out.1
     rw[← Hf.out] at h1
     omega⟩
    rw[qni _ (by omega) (by omega),show(at_:Int)+(qar (t.fields.take k):Nat)+1=((at_+qar (t.fields.take k)+1:Nat):Int) by omega]
    refine(HI.out f.of _ W2 s1 d val (at_+qar (t.fields.take k)+1) pn hbu Ht1.out hpre).mono ?_
    rintro e W3 ⟨v,s2,rfl,⟨T,x,rfl⟩,hE2,hD2,hI2⟩
    have HI2:=hid hI2
    clear hI2
    have hT3:qah (qa1 F s1) wX.drew W3:=(qah.keep hW2).trans hE2.turns
    refine⟨_,rfl,hKp _ _ ⟨hT3,by have:=hE2.ok.bld.cell 0;simpa using this⟩ hE2.size (fun j j1 j2=>hE2.turns.apart.block j j2 fun hj=>by have:=HE1.out.ok.turnedLt hj;have:wX.drew.heap.size=wX.heap.size:=rfl;omega) fun W4 hW4 => ?_⟩
    simp only[Act.put,List.getElem_toArray,List.getElem_cons_succ,List.getElem_cons_zero,List.setIfInBounds_toArray,qai,qaj,List.set_cons_succ,List.set_cons_zero]
    have hb04:=qac.below hW4 _ _ (show W3.cell? ⟨F.bb,0,none⟩=some (.slice (some ⟨F.pr,0,none⟩) 2 F.pc) by have:=hE2.ok.bld.cell 0;simpa using this)
    refine MixR.mid_call ⟨hT3.trans (qah.keep hW4),hb04⟩ rfl rfl (fun Kp2 hKp2 => ?_)
    go_simp
    refine(qiw _ _ _ _ _ _).mono ?_
    rintro e W5 ⟨rfl,rfl⟩
    refine⟨_,rfl,hKp2 _ _ ((Below.refl _ _).alloc (Nat.le_refl _) _) fun W6 hW6 => ?_⟩
    simp only[Act.put,List.getElem_toArray,List.getElem_cons_succ,List.getElem_cons_zero,List.setIfInBounds_toArray,qai,qaj,List.set_cons_succ,List.set_cons_zero]
    have hW46:Below W3.heap.size W3 W6:=hW4.trans (((Below.refl _ _).alloc (by have:=hW4.size;omega) _).trans (hW6.mono (by have:=hW4.size;simp;omega)))
    have HV6:=hid ((Blk.new W4 214 [.int .i64 0,.pointer (some ⟨F.pk pn,0,none⟩),.string (qas (fname F.W f)),.iface T (.pointer (some x)),.int .u8 6,.bool true]).keep hW6)
    have E26:=hid ((EK.trans hE2 (Nat.le_refl _) (Nat.le_add_right _ _)).trans (BExt.keep hE2.ok hW46 _) (Nat.le_add_right _ _) (Nat.le_refl _))
    have HD2:=hid hD2
    have HW46:=hid hW46
    have hxW2:wX.heap.size≤W2.heap.size:=EK.size
    have hokW2:=EK.ok
    have hE2i:=hE2.ifs
    have HL2:Hid (∀ r r',RdLe r r'→G.Le (gOf F s2 r) (gOf F s2 r')):=hid fun r r' hr=>⟨rfl,rfl,fun _ _ h=>h,fun _ _ h=>h,fun _ h=>h,hr⟩
    have hx6:W4.heap.size<W6.heap.size:=HV6.out.lt
    have hx3:W3.heap.size≤W4.heap.size:=hW4.size
    have hx2:wX.heap.size≤W3.heap.size:=hT3.apart.size
    have hl3:=hid hE2.ok.lt
    clear hKp hKp2 hW2 hW4 hW6 hT3 hE2 hD2 hW46 hb04 hpre hW2k EK
    refine MixR.mid_nil (qco rfl ?_)
    have hok6:=E26.out.ok
    have b2:=hok6.bld.cell 2
    simp only[List.getElem?_cons_succ,List.getElem?_cons_zero] at b2
    have Hok6:=hid hok6
    clear hok6
    have hoA:s2.ob (at_+qar (t.fields.take k))=none:=by
     rw[E26.out.same _ (.inl (by omega)),HE1.out.same _ (.inr (Nat.le_refl _))]
     have:=Htl.out;have:=Hz.out
     exact HP.out.free _ (Nat.le_add_right _ _) (by omega)
    have hAN:at_+qar (t.fields.take k)<F.N:=by have:=Htl.out;have:=Hz.out;have:=HP.out.le;omega
    have E67:=hid (BExt.put Hok6.out hAN hoA false W4.heap.size hx6 (fun j y hy=>by
     have:=hl3.out j y.1 y.2 hy
     omega))
    have hpc:=Hok6.out.putc hAN hoA
    have hput:=qmk F.bb F.ob0 F.N F.oc (at_+qar (t.fields.take k)) 154 (some ⟨W4.heap.size,0,none⟩) .nilIface W6 hpc.1 hAN hpc.2.1 hpc.2.2
    simp only[Int.natCast_add] at hput
    have Hput:=hid hput
    clear hput hpc b2 hoA
    have HRv:Hid (∀ g,(Value.slice ra k rc).ownBlock=some g→∃ cs,Blk wr g 154 cs):=hid fun g hg=>qaf Hown.out hg
    go_wp2_with (first
     | (go_at_call 59;refine Hput.out.mono ?_;rintro e w7 ⟨rfl,hw7⟩;have E17:Hid (BExt F s1 wX (qd6 s2 (at_+qar (t.fields.take k)) (false,W4.heap.size)) w7 (at_+qar (t.fields.take k)) (at_+qar (t.fields.take k)+1+f.of.size)):=hid (hw7 ▸ E26.out.join E67.out (Nat.le_succ _) (Nat.le_add_right _ _));have A17:Hid (qag (qa1 F s1) wr w7):=hid ((qag.keep HX.out).trans E17.out.turns.apart);have Hown7:=hid (qab Hown.out A17.out fun g hg=>HE.out.ok.notTurned (HRv.out g hg).choose_spec (by decide) (by decide) (by decide));have Hown8:=hid (qab Hown7.out (qag.keep (S:=fun _=>False) ((Below.refl w7.heap.size w7).alloc (Nat.le_refl _) (.cells #[.pointer (some ⟨W4.heap.size,0,none⟩)] 154))) (fun _ _ h=>h));have Hfb7:=hid (HfB.out.apart E17.out.turns.apart (HE1.out.ok.notTurned HfB.out (by decide) (by decide) (by decide)));have HV7:=hid (HV6.out.apart (hw7 ▸ E67.out.turns.apart) (Hok6.out.notTurned HV6.out (by decide) (by decide) (by decide)));have R37:Hid (RdLe (rdT W3) (rdT w7)):=hid ((qa0 HW46.out).trans (hw7 ▸ E67.out.rd));clear hw7)
     | (at_builtin;go_loud (refine qbu _ rfl _ _ 174 rfl 154 _ 8 Tryz.infoPV Tryz.underlying174 rfl ra k rc (qa7 xs) rfl Hown8.out ⟨w7.heap.size,0,none⟩ (.pointer (some ⟨W4.heap.size,0,none⟩)) rfl (cell_of_row _ _ _ _ _ _ (qa8 _ _)) rfl rfl (by omega) (by decide) fun ra' rc' w9 hown' hgrow hloc => ?_);have Hg:=hid hgrow;have Ho9:=hid hown';have Hl9:=hid hloc;have hfb9:Blk w9 wr.heap.size 87 [.int .i64 f.name,.bool true,.int .i64 f.of.kind,.int .i64 f.of.num,.slice y1 f.of.elem.length g1,.slice y2 f.of.fields.length g2,.slice y3 f.of.methods.length g3,.slice y4 f.of.embeds.length g4]:=(Hfb7.out.alloc _).apart (S:=fun b=>(Value.slice ra k rc).ownBlock=some b) (qag.grown hgrow fun b h _=>h) (fun h=>by have:=(HRv.out _ h).choose_spec.lt;omega);have e2:w9.cell? ⟨wr.heap.size,2,none⟩=some (.int .i64 f.of.kind):=hfb9.cell 2;have e3:w9.cell? ⟨wr.heap.size,3,none⟩=some (.int .i64 f.of.num):=hfb9.cell 3;have e4:w9.cell? ⟨wr.heap.size,4,none⟩=some (.slice y1 f.of.elem.length g1):=hfb9.cell 4;have e5:w9.cell? ⟨wr.heap.size,5,none⟩=some (.slice y2 f.of.fields.length g2):=hfb9.cell 5;have e6:w9.cell? ⟨wr.heap.size,6,none⟩=some (.slice y3 f.of.methods.length g3):=hfb9.cell 6;have e7:w9.cell? ⟨wr.heap.size,7,none⟩=some (.slice y4 f.of.embeds.length g4):=hfb9.cell 7;have l9:=hfb9.lt;have T79:Hid (qah (fun b=>(Value.slice ra k rc).ownBlock=some b) w7 w9):=hid ((qah.keep ((Below.refl _ _).alloc (Nat.le_refl _) _)).trans (qah.grown hgrow fun b h _=>h));have E9:Hid (BExt F s w (qd6 s2 (at_+qar (t.fields.take k)) (false,W4.heap.size)) w9 at_ (at_+qar (t.fields.take k)+1+f.of.size)):=hid ((HE1.out.trans E17.out (Nat.le_add_right _ _) (by omega)).later T79.out (fun b hb=>HrB.out b hb) (fun b T cs hb hT hS=>by
       obtain⟨cs',hc⟩:=qaf Hown7.out hS
       have e:=hc.tne hb
       rcases hT with rfl|rfl|rfl|⟨rfl,-⟩|rfl|rfl|rfl|rfl|rfl|rfl <;> exact e (by decide) rfl));have Ht9:Hid (TyC w9 f.of [.int .i64 f.of.kind,.int .i64 f.of.num,.slice y1 f.of.elem.length g1,.slice y2 f.of.fields.length g2,.slice y3 f.of.methods.length g3,.slice y4 f.of.embeds.length g4]):=hid (Ht1.out.keep (HP.out.base.ext E9.out).keeps);clear hgrow hown' hloc hfb9)
     | (go_at_call 53;refine(qf1 f.of _ w9 hbu6 Ht9.out).mono ?_;rintro e w10 ⟨rfl,hb10⟩;have Hb10:=hid hb10;clear hb10))
    go_roundw
    case rel=>
     have z10:=Below.size Hb10.out
     have e10:at_+qar (t.fields.take (k+1))=at_+qar (t.fields.take k)+1+f.of.size:=by rw[Htk.out,← Hf.out];omega
     have z1:=HE.out.size
     have z2:=HX.out.size
     have z3:=E17.out.size
     have zR:∀ g,(Value.slice ra k rc).ownBlock=some g→g<wr.heap.size:=fun g hg=>(HRv.out g hg).choose_spec.lt
     have hfm:=qj1 (F:=F) (s1:=s1) (s2:=s2) (s3:=qd6 s2 (at_+qar (t.fields.take k)) (false,W4.heap.size)) (wr:=wr) (w3:=W3) (w9:=w9) (B:=w.heap.size) (B2:=W2.heap.size) (l:=t.fields.take k) (f:=f) (at_:=at_) (x:=W4.heap.size) (p:=pn) (xs:=xs) (by omega) Hfx.out HD2.out
      (((qa0 HX.out).trans E17.out.rd).trans (qa0 ((Below.refl _ _).alloc (Nat.le_refl _) _))) (R37.out.trans (qa0 ((Below.refl _ _).alloc (Nat.le_refl _) _))) Hg.out (fun g hg=>by have:=zR g hg;omega) Hl9.out (fun r r' hr=>E17.out.le hr) (fun r r' hr=>E67.out.le hr) (by simp[qd6])
      (by rw[Hem.out];exact HV7.out.alloc _) (by omega) ⟨_,_,rfl⟩ (fun e=>by have:=zR _ e;omega)
     refine⟨k+1,ra',rc',by omega,by go_num,by rw[e10];go_num,rfl,by omega,hid ⟨xs++[W4.heap.size],qd6 s2 (at_+qar (t.fields.take k)) (false,W4.heap.size),?_,?_,fun g hg => ?_,?_,?_⟩⟩
     ·rw[e10]
      exact E9.out.trans (BExt.keep E9.out.ok Hb10.out _) (by omega) (Nat.le_refl _)
     ·have:=qab Ho9.out (qag.keep (S:=fun _=>False) Hb10.out) (fun _ _ h=>h)
      simpa[qa7] using this
     ·rcases Hl9.out with e|e
      ·exact HrB.out g (e ▸ hg)
      ·rw[e] at hg
       have hg2:=Option.some.inj hg
       rw[World.size_alloc] at hg2;omega
     ·rw[qdd _ _ hlt,← Hf.out]
      exact hfm.mono (((BExt.keep E9.out.ok Hb10.out 0).le (qdl Hb10.out)))
     ·rw[qe2 t.fields k hlt,← Hf.out]
      have h1:=HI2.out.1
      have h2:=Hni.out.1
      refine⟨?_,Mems.next (g:=gOf F s1 (rdX w.heap.size (Value.slice ra k rc).ownBlock wr)) (g2:=gOf F s2 (rdA W2.heap.size W3)) Hni.out.2 HI2.out.2 (E17.out.le ((qgc (((qa0 HX.out).trans E17.out.rd).trans (qa0 ((Below.refl _ _).alloc (Nat.le_refl _) _))) Hg.out Hl9.out).trans (qdl Hb10.out))) (E67.out.le ((qga (by omega) (R37.out.trans (qa0 ((Below.refl _ _).alloc (Nat.le_refl _) _))) Hg.out (fun g hg=>by have:=zR g hg;omega) Hl9.out).trans (qdl Hb10.out))) rfl⟩
      show s2.ifs.length≤_
      omega
    case measure=>simp[intOf];omega
  ·obtain rfl:k=t.fields.length:=by omega
   have hxl:xs.length=t.fields.length:=by have:=Hfx.out.len;simpa using this
   have HTr:=hid (HT.out.below (HP.out.base.ext HE.out).below)
   have hfx:=Hfx.out
   rw[List.take_length] at hfx
   have hsa:=qph hfx HE.out.ok HP.out.pp HN.out HF.out HV.out
   have hown:=Hown.out
   rw[← hxl] at hown
   have hns:=qm1 ra rc xs (F.pk pn) pn (t.fields.map (fname F.W)) wr HP.out.pp HTr.out (qeh hown) (by obtain⟨_,_,he,hle,-⟩:=qak hown;cases he;exact hle) (by omega) hsa
   rw[hxl] at hns
   have Hns:=hid hns
   have Hfx2:=hid hfx
   clear hfx hsa hown hns
   go_wp2_with (go_at_call 83;refine Hns.out.mono ?_;rintro e w' ⟨b,a',c',rfl,h1,h2,h3,h4,h5⟩;have Hb1:=hid h1;have Hb2:=hid h2;have Hb3:=hid h3;have Hb4:=hid h4;have Hb5:=hid h5;clear h1 h2 h3 h4 h5)
   go_ret
   have z1:=HE.out.size
   have EE:=HE.out.trans (BExt.keep HE.out.ok Hb5.out _) (Nat.le_add_right _ _) (Nat.le_refl _)
   rw[List.take_length] at EE
   refine⟨_,s1,rfl,⟨_,_,rfl⟩,by rw[Hz.out];exact EE,?_,by have h1:=Hni.out.1;have h2:=qbd t;rw[List.take_length] at h1;omega,Hni.out.2.mono ((BExt.keep HE.out.ok Hb5.out 0).le ((qol _ _ _).trans (qfd (Nat.le_refl _) (qa0 Hb5.out)))) rfl⟩
   have hfr:qbe (gOf F s1 (rdA w.heap.size w')) t.fields at_ pn xs:=Hfx2.out.mono ((BExt.keep HE.out.ok Hb5.out 0).le ((qol _ _ _).trans (qfd (Nat.le_refl _) (qa0 Hb5.out))))
   have how:=qab Hown.out (qag.keep (S:=fun _=>False) Hb5.out) (fun _ _ h=>h)
   have hk4:=Hk.out
   clear Hns Hfx Hfx2
   obtain⟨k,m,el,fs,ms,em⟩:=t
   simp only[Ty.kind,Ty.fields] at *
   subst hk4
   exact qrk Hb1.out (by have:=Hb4.out;omega) Hb2.out Hb3.out hfr how HrB.out
end Go.Proofs.YtlkbkblemgbcdaaGreatDoor
