import Derived.Test.YtmfhclggkjjcdaaGreatDoorL16
import Derived.Test.YtmfhclggkjjcdaaGreatDoorL08
import Derived.Test.YtmfhclggkjjcdaaGreatDoorL27
set_option linter.all false
set_option maxHeartbeats 4000000
namespace Go.Proofs.YtmfhclggkjjcdaaGreatDoor
open Go Go.RowKit Go.Proofs.Tryz
set_option maxRecDepth 100000
theorem qsp (W:Wd) (a:Option Addr) (c:Nat) (w:World) (t:Ty) (hF:qfz W t) (hN:NmOk W) (hW:WOk w W a c) (hT:Tabs w) (htb:t.bulk≤1048576) (cs:List Value) (ht:TyC w t cs):
  Calls prog 23 #[.slice a W.length c,.agg cs.toArray] w (BuiltPk W t w):=by
 have hl:=qbk W;have hcap:=hW.cap;have hbk:=hW.bulk;obtain⟨a1,c1,a2,c2,a3,c3,a4,c4,rfl,-⟩:=ht.open;have HW:=hid hW;have HT:=hid hT;have Ht:=hid ht;have HF:=hid hF;have HN:=hid hN;clear hW hT ht hF hN;go_enter func23,ntmps23
 go_wp2_with (go_at_call 39;refine(qk4 _ _ _).mono ?_;rintro e w1 ⟨rfl,rfl⟩)
 obtain⟨W1,hW1⟩:∃ W1,W1=(((((w.alloc (.cells #[.int .i64 t.kind,.int .i64 t.num,.slice a1 t.elem.length c1,.slice a2 t.fields.length c2,.slice a3 t.methods.length c3,.slice a4 t.embeds.length c4] 29)).alloc (.cells #[.string ⟨#[112]⟩,.string ⟨#[112]⟩] 128)).alloc (.cells #[.string ⟨#[113]⟩,.string ⟨#[113]⟩] 128)).alloc (.cells #[.pointer (some ⟨w.heap.size+1,0,none⟩),.pointer (some ⟨w.heap.size+1+1,0,none⟩)] 71)).alloc (.cells #[.slice (some ⟨w.heap.size+1+1+1,0,none⟩) 2 2,.slice none 0 0,.slice none 0 0,.slice none 0 0] 77)):=⟨_,rfl⟩;rw[← hW1];have Hb1:Hid (Below w.heap.size w W1):=hid (by
  rw[hW1]
  iterate 5 refine Below.alloc ?_ (by simp <;> omega) _
  exact zp _ _)
 have hz1:=Hb1.out.size;have HBt:Hid (Blk W1 w.heap.size 29 [.int .i64 t.kind,.int .i64 t.num,.slice a1 t.elem.length c1,.slice a2 t.fields.length c2,.slice a3 t.methods.length c3,.slice a4 t.embeds.length c4]):=hid (by rw[hW1];exact((((qbb rfl _ _).alloc _).alloc _).alloc _).alloc _);have HB0:Hid (Blk W1 (w.heap.size+1) 128 [.string (qbo 0),.string (qbo 0)]):=hid (by rw[hW1];exact(((qbb (by simp) _ _).alloc _).alloc _).alloc _);have HB1:Hid (Blk W1 (w.heap.size+1+1) 128 [.string (qbo 1),.string (qbo 1)]):=hid (by rw[hW1];exact((qbb (by simp) _ _).alloc _).alloc _);have HBr:Hid (Blk W1 (w.heap.size+1+1+1) 71 [ptrV (w.heap.size+1),ptrV (w.heap.size+1+1)]):=hid (by rw[hW1];exact(qbb (by simp) _ _).alloc _);have HBb:Hid (Blk W1 (w.heap.size+1+1+1+1) 77 [.slice (some ⟨w.heap.size+1+1+1,0,none⟩) 2 2,.slice none 0 0,.slice none 0 0,.slice none 0 0]):=hid (by rw[hW1];exact qbb (by simp) _ _);have hzb:w.heap.size+5≤W1.heap.size:=by rw[hW1];simp
 clear hW1
 go_loopw [7,8,31] (fun cv rv j wr=>∃ (k:Nat) (ra:Option Addr) (rc:Nat),k≤W.length∧j = .int .i64 k∧cv = .int .i64 ((start W k:Nat):Int)∧rv = .slice ra k rc∧W1.heap.size≤wr.heap.size∧Hid (Below W1.heap.size W1 wr∧wr.ownsRow 0 3 1 (.slice ra k rc) k (qbh ((List.range k).map (start W)))∧∀ g,(Value.slice ra k rc).ownBlock=some g→W1.heap.size≤g))
  (fun _ _ j _=>W.length - (intOf j).toNat)
 case atStart=>exact⟨0,none,0,by omega,rfl,by simp[start,sumD],rfl,zl _,hid ⟨zp _ _,zdb _ _ _ _,fun g hg=>by cases hg⟩⟩
 case round=>
  obtain⟨k,ra,rc,hk,rfl,rfl,rfl,hz,hst⟩:=hrel;by_cases hlt:k<W.length
  ·skip
   have hlt':(k:Int)<(W.length:Int):=by omega
   have hBw:Below w.heap.size w wr:=Hb1.out.trans (hst.out.1.mono hz1);obtain⟨b,o,x1,d1,x2,d2,x3,d3,x4,d4,x5,d5,rfl,-,-,-,-,htt,hcc⟩:=HW.out.row.get k hlt;have hK:qac w wr:=qac.below hBw;obtain⟨e0,e1,e2,e3,e4,e5,e6,e7,e8,e9⟩:=ten (hcc.keep hK);have htk:=qc2 hlt;rw[qcg hlt] at htk;have hle:=qcv W (k+1);have hbk2:=qee W k hlt;have hsz:=qba W[k].of;unfold qi8 at htk;unfold Dc.bulk at hbk2;have hle2:start W k+(W[k].methods.length+W[k].of.size)≤qbw W:=by omega
   have Htk:=hid htk;clear htk;have Htt:=hid htt;clear htt;have Hown:=hid hst.out.2.1;have Hst:=hid hst.out;have Hown4:Hid (∀ D I,((wr.alloc D).alloc I).ownsRow 0 3 1 (.slice ra k rc) k (qbh ((List.range k).map (start W)))):=hid fun D I=>qab Hown.out (qag.keep (S:=fun _=>False) (((zp _ _).alloc (zl _) D).alloc (by simp) I)) (fun _ _ h=>h);have Hcell4:Hid (∀ D,((wr.alloc D).alloc (.cells #[.int .i64 ((start W k:Nat):Int)] 3)).cell? ⟨wr.heap.size+1,0,none⟩=some (.int .i64 ((start W k:Nat):Int))):=hid fun D=>by
    have:=qbb (w:=wr.alloc D) (b:=wr.heap.size+1) (by simp) 3 [.int .i64 ((start W k:Nat):Int)];rw[this.cell];rfl
   clear hst hcc hK hBw
   go_wp2_with (first
    | (at_builtin;go_loud (refine qbu _ rfl _ _ 33 rfl 3 _ 8 Tryz.infoInt underlying33 rfl ra k rc (qbh ((List.range k).map (start W))) rfl (Hown4.out _ _) ⟨wr.heap.size+1,0,none⟩ (.int .i64 ((start W k:Nat):Int)) rfl (Hcell4.out _) rfl rfl (by omega) (by decide) fun ra' rc' w9 hown' hgrow hloc => ?_);have Hg:=hid hgrow;have Ho9:=hid hown';have Hl9:=hid hloc;clear hgrow hown' hloc))
   have T29:Hid (qah (fun g=>(Value.slice ra k rc).ownBlock=some g) wr w9):=hid ((qah.keep (((zp _ _).alloc (zl _) _).alloc (by simp) _)).trans (qah.grown Hg.out fun g h _=>h));have hd9:=(Blk.alloc (qbb (w:=wr) rfl 39 [.int .i64 W[k].name,.int .i64 W[k].pkg,.bool W[k].alias,.int .i64 W[k].of.kind,.int .i64 W[k].of.num,.slice x1 W[k].of.elem.length d1,.slice x2 W[k].of.fields.length d2,.slice x3 W[k].of.methods.length d3,.slice x4 W[k].of.embeds.length d4,.slice x5 W[k].methods.length d5]) (.cells #[.int .i64 ((start W k:Nat):Int)] 3)).apart (qah.grown (S:=fun g=>(Value.slice ra k rc).ownBlock=some g) Hg.out fun g h _=>h).apart (fun e=>by
    obtain⟨cs',hc⟩:=qaf Hown.out e;have:=hc.lt;omega)
   obtain⟨y0,y1,y2,y3,y4,y5,y6,y7,y8,y9⟩:=ten hd9.cells;simp only[Nat.zero_add] at y0 y1 y2 y3 y4 y5 y6 y7 y8 y9;have hl9:=hd9.lt;have hz9:=T29.out.apart.size;have HB9:Hid (Below W1.heap.size W1 w9):=hid (Hst.out.1.trans (T29.out.below hz fun g hg=>Hst.out.2.2 g hg));have HK9:Hid (qac w w9):=hid (qac.below (Hb1.out.trans (HB9.out.mono hz1)));clear hd9;refine Mix.wp_region [0,1,2,3,4,5,6,7,8] [] [9] (fun _=>default) (by kernel_rfl) (by kernel_rfl) (by decide) ?_
   iterate 9 (first|(refine pre_yes rfl rfl ?_;apply Exists.intro;refine⟨fun W1 hW1 => ?_,?_⟩;(focus (have hc1:=(qal hW1).1;(try simp only[zd,qaa] at hc1);have hk1:=qac.below hW1;go_simp;first|exact rfl|(go_at_call 40;exact qf1 _ _ _ (by omega) (Htt.out.keep (HK9.out.trans hk1.undrew)))));simp only[Act.put,zk,zh,zi,ze,zm,zn])|(refine pre_no rfl rfl ?_;simp only[Act.put,zk,zh,zi,ze,zm,zn]))
   refine pre_end fl_nil (fun W2 hW2=>mid_nil (qco rfl ?_));have hB2:Below w9.heap.size w9 W2:=⟨hW2.os,hW2.tape,hW2.output,hW2.size,hW2.block⟩;have hz92:=hB2.size;have HB2:=hid hB2;clear hW2 hB2 y0 y1 y2 y3 y4 y5 y6 y7 y8 y9
   go_wp2_with fail
   go_roundw
   case rel=>exact⟨k+1,ra',rc',by omega,by go_num,by rw[Htk.out];go_num,rfl,by omega,hid ⟨HB9.out.trans (HB2.out.mono (by omega)),by
     have h1:=qab Ho9.out (qag.keep (S:=fun _=>False) HB2.out) (fun _ _ h=>h);have h2:qbh ((List.range (k+1)).map (start W))=qbh ((List.range k).map (start W))++[.int .i64 ((start W k:Nat):Int)]:=by simp[qbh,List.range_succ]
     rw[h2];exact h1,fun g hg=>by
     rcases Hl9.out with e|e
     ·exact Hst.out.2.2 g (e ▸ hg)
     ·rw[e] at hg;have:=Option.some.inj hg;rw[zd,zd] at this;omega⟩⟩
   case measure=>simp[intOf];omega
  ·obtain rfl:k=W.length:=by omega
   have Hst:=hid hst.out;clear hst;have HBt2:=HBt.out.below Hst.out.1 (by omega);have HBb2:=HBb.out.below Hst.out.1 (by omega);have z0:wr.cell? ⟨w.heap.size,0,none⟩=some (.int .i64 t.kind):=by rw[HBt2.cell];rfl
   have z1:wr.cell? ⟨w.heap.size,1,none⟩=some (.int .i64 t.num):=by rw[HBt2.cell];rfl
   have z2:wr.cell? ⟨w.heap.size,2,none⟩=some (.slice a1 t.elem.length c1):=by rw[HBt2.cell];rfl
   have z3:wr.cell? ⟨w.heap.size,3,none⟩=some (.slice a2 t.fields.length c2):=by rw[HBt2.cell];rfl
   have z4:wr.cell? ⟨w.heap.size,4,none⟩=some (.slice a3 t.methods.length c3):=by rw[HBt2.cell];rfl
   have z5:wr.cell? ⟨w.heap.size,5,none⟩=some (.slice a4 t.embeds.length c4):=by rw[HBt2.cell];rfl
   have lz:=HBt2.lt;have hsl:=qcv W W.length;have htl:=qba t;have hmo:=fun w=>qv6 (start W W.length+t.size) w (by omega);have hmt:=fun w=>qv2 W.length w (by omega);simp only[Int.natCast_add] at hmo;clear HBt2 HBb2
   go_wp2_with (go_at_call 40;refine(qf1 t [.int .i64 t.kind,.int .i64 t.num,.slice a1 t.elem.length c1,.slice a2 t.fields.length c2,.slice a3 t.methods.length c3,.slice a4 t.embeds.length c4] wr htb (Ht.out.keep (qac.below (Hb1.out.trans (Hst.out.1.mono hz1))))).mono ?_;rintro e w2 ⟨rfl,hb2⟩;have Hb2:=hid hb2;have hzz2:=hb2.size;have q2:w2.cell? ⟨w.heap.size+1+1+1+1,2,none⟩=some (.slice none 0 0):=(by rw[((HBb.out.below Hst.out.1 (by omega)).keep hb2).cell];rfl);have r2:=((HBb.out.below Hst.out.1 (by omega)).keep hb2).soft 2;have r1:=((HBb.out.below Hst.out.1 (by omega)).keep hb2).soft 1;have q1:w2.cell? ⟨w.heap.size+1+1+1+1,1,none⟩=some (.slice none 0 0):=(by rw[((HBb.out.below Hst.out.1 (by omega)).keep hb2).cell];rfl);have lb2:=((HBb.out.below Hst.out.1 (by omega)).keep hb2).lt;have lb3:w.heap.size+1+1+1+1<w2.heap.size+1:=(by omega);clear hb2)
   have HOk:=hid (qs1 W w2 (w.heap.size+1+1+1+1) (w.heap.size+1+1+1) (w.heap.size+1) (w.heap.size+1+1) (start W W.length+t.size) ((HBb.out.below Hst.out.1 (by omega)).keep Hb2.out) ((HBr.out.below Hst.out.1 (by omega)).keep Hb2.out) ((HB0.out.below Hst.out.1 (by omega)).keep Hb2.out) ((HB1.out.below Hst.out.1 (by omega)).keep Hb2.out));obtain⟨W3,hW3⟩:∃ W3,W3=((((w2.setCell ⟨w.heap.size+1+1+1+1,2,none⟩ (.slice (some ⟨w2.heap.size,0,none⟩) (start W W.length+t.size) (start W W.length+t.size))).setCell ⟨w.heap.size+1+1+1+1,1,none⟩ (.slice (some ⟨w2.heap.size+1,0,none⟩) W.length W.length)).alloc (.cells (Array.replicate (start W W.length+t.size) .nilIface) 68)).alloc (.cells (Array.replicate W.length .nilIface) 63)):=⟨_,rfl⟩;rw[← hW3] at HOk ⊢;have HB3:Hid (Below w.heap.size w W3):=hid (by
    rw[hW3];have hz:=Hst.out.1.size;refine Below.alloc (Below.alloc (Below.setCell (Below.setCell (((Hb1.out.trans (Hst.out.1.mono hz1))).trans (Hb2.out.mono (by omega))) (by simp only;omega) _) (by simp only;omega) _) (by simp[World.setCell];omega) _) (by simp[World.setCell];omega) _)
   have hz3:=HB3.out.size;have HL2:Hid (LL ((fix0 W (w.heap.size+1+1+1+1) (w.heap.size+1+1+1) (w.heap.size+1) (w.heap.size+1+1) (w2.heap.size+1) w2.heap.size (start W W.length+t.size)).with fun _=>none) w (fun d=>(dc W d).alias=false∧d<0) (fun _=>False) ⟨fun _=>none,none,0,[]⟩ W3):=hid
    ⟨⟨HOk.out,⟨HB3.out,(by show w.heap.size≤w.heap.size+1+1+1+1;omega),(by show w.heap.size≤w2.heap.size;omega),fun g hg=>(by cases hg)⟩,(by show w.heap.size≤w2.heap.size+1;omega),fun d T x e=>(by cases e),fun d T x e=>(by cases e),fun d e v h=>(by cases h),fun d hd h=>absurd h.2 (Nat.not_lt_zero _),fun d hd h=>h.elim,fun d v h=>(by cases h),fun x hx=>(by cases hx),fun x hx=>(by cases hx)⟩,fun _ _ _=>rfl⟩
   obtain⟨ocs,hocs⟩:∃ ocs:List Value,ocs=[.int .i64 t.kind,.int .i64 t.num,.slice a1 t.elem.length c1,.slice a2 t.fields.length c2,.slice a3 t.methods.length c3,.slice a4 t.embeds.length c4]:=⟨_,rfl⟩;have HSd3:Hid (Side W ra rc w.heap.size ocs W3):=hid (by
    have hA:qag (fun b=>b=w.heap.size+1+1+1+1) wr W3:=by
     rw[hW3];refine((((qag.keep Hb2.out).trans (qag.setCell (fun b=>b=w.heap.size+1+1+1+1) _ (a:=⟨w.heap.size+1+1+1+1,2,none⟩) rfl _)).trans (qag.setCell (fun b=>b=w.heap.size+1+1+1+1) _ (a:=⟨w.heap.size+1+1+1+1,1,none⟩) rfl _)).trans (qag.keep ((zp _ _).alloc (zl _) _))).trans (qag.keep ((zp _ _).alloc (zl _) _))
    have hz5:w.heap.size+5≤W1.heap.size:=hzb;refine⟨qab Hst.out.2.1 hA fun g hg e => ?_,?_⟩
    ·have:=Hst.out.2.2 g hg;omega
    ·rw[hocs];exact(HBt.out.below Hst.out.1 (by omega)).apart hA (by omega))
   have hlW:w.heap.size<w.heap.size+1+1+1+1+1:=by omega
   have hz23:w2.heap.size+2≤W3.heap.size:=by rw[hW3];simp[World.setCell]
   have hz02:w.heap.size+5≤w2.heap.size:=by omega
   clear hW3 HOk
   go_loopw [65] (fun j wr=>∃ (k:Nat) (tb:Nat→Option Value),k≤W.length∧j = .int .i64 k∧W3.heap.size≤wr.heap.size∧
     Hid (LL ((fix0 W (w.heap.size+1+1+1+1) (w.heap.size+1+1+1) (w.heap.size+1) (w.heap.size+1+1) (w2.heap.size+1) w2.heap.size (start W W.length+t.size)).with tb) w (fun d=>(dc W d).alias=false∧d<k) (fun _=>False) ⟨fun _=>none,none,0,[]⟩ wr∧Side W ra rc w.heap.size ocs wr))
    (fun j _=>W.length - (intOf j).toNat)
   case atStart=>exact⟨0,_,by omega,rfl,zl _,hid ⟨HL2.out,HSd3.out⟩⟩
   clear HL2 HSd3
   case round=>
    obtain⟨k,tb,hk,rfl,hzr,HLS⟩:=hrel;have HL:=hid HLS.out.1;have HSd:=hid HLS.out.2;clear HLS;by_cases hlt:k<W.length
    ·skip
     have hlt':(k:Int)<(W.length:Int):=by omega
     obtain⟨b,o,x1,d1,x2,d2,x3,d3,x4,d4,x5,d5,rfl,-,-,-,-,htt,hcc⟩:=HW.out.row.get k hlt;obtain⟨e0,e1,e2,e3,e4,e5,e6,e7,e8,e9⟩:=ten (hcc.keep (qac.below HL.out.base.below));obtain⟨hn1,hn2,hn3,-⟩:=HF.out.names k hlt;rw[qcg hlt] at hn1 hn2 hn3;obtain⟨q,hq⟩:∃ q:Nat,W[k].pkg=q:=⟨W[k].pkg.toNat,by omega⟩;have hq2:(q:Int)<2:=by omega
     rw[hq] at e1;have Hn1:=hid hn1;have Hq:=hid hq;have hbb:=zj wr _ e0;simp only at hbb;have b0:wr.cell? ⟨w.heap.size+1+1+1+1,0,none⟩=some (.slice (some ⟨w.heap.size+1+1+1,0,none⟩) 2 2):=HL.out.ok.bld.cell 0;have b1:wr.cell? ⟨w.heap.size+1+1+1+1,1,none⟩=some (.slice (some ⟨w2.heap.size+1,0,none⟩) W.length W.length):=HL.out.ok.bld.cell 1;have l1:w.heap.size+1+1+1+1<wr.heap.size:=HL.out.ok.bld.lt;have l2:w.heap.size+1+1+1<wr.heap.size:=HL.out.ok.prB.lt;have l3:w2.heap.size+1<wr.heap.size:=HL.out.ok.typ.choose_spec.1.lt;have l1':w.heap.size+1+1+1+1<wr.heap.size+1:=by omega
     have l2':w.heap.size+1+1+1<wr.heap.size+1:=by omega
     have l3':w2.heap.size+1<wr.heap.size+1:=by omega
     clear hcc htt hn1 hn2 hn3 hq;cases hal:W[k].alias with
     | true=>
      rw[hal] at e2
      go_wp2_with fail
      go_roundw
      case rel=>exact⟨k+1,tb,by omega,by go_num,by simp;omega,hid ⟨(HL.out.keep ((zp _ _).alloc (zl _) _)).imp (fun d hd hr=>⟨hr.1,(by
        have h1:=hr.1;have h2:=hr.2;by_cases e:d=k
        ·subst e;change (dc W d).alias=false at h1;rw[qcg hlt,hal] at h1;cases h1
        ·omega)⟩) (fun _ _ h=>h) fun d hd hr=>hr.imp (fun h=>⟨h.1,Nat.lt_succ_of_lt h.2⟩) id,HSd.out.keep ((zp _ _).alloc (zl _) _)⟩⟩
      case measure=>simp[intOf];omega
     | false=>
      rw[hal] at e2;have p0:=(HL.out.ok.pkc (p:=(q:Int)) (by omega)).1;change wr.cell? ⟨w.heap.size+1+1+1,(q:Int).toNat,none⟩=_ at p0;rw[Int.toNat_natCast] at p0;obtain⟨pk,hpk⟩:∃ pk,pk=((fix0 W (w.heap.size+1+1+1+1) (w.heap.size+1+1+1) (w.heap.size+1) (w.heap.size+1+1) (w2.heap.size+1) w2.heap.size (start W W.length+t.size)).with tb).pk (q:Int):=⟨_,rfl⟩;rw[← hpk] at p0;have Hpk:=hid hpk;clear hpk
      go_wp2_with fail
      refine Mix.wp_region [0,1,2,3,4,5,6,7,8,9,10,11,12,13,14,15] [(16,false),(17,false),(18,false)] [19,20] (fun _=>default) (by kernel_rfl) (by kernel_rfl) (by decide) ?_
      iterate 16 (first|(refine pre_yes rfl rfl ?_;apply Exists.intro;refine⟨fun W1 hW1 => ?_,?_⟩;(focus (have hc1:=(qal hW1).1;(try simp only[zd,qaa] at hc1);have hk1:=qac.below hW1;go_simp;first|exact rfl|(go_at_call 26;exact qbq _ _ Hn1.out)));simp only[Act.put,zk,zh,zi,ze,zm,zn])|(refine pre_no rfl rfl ?_;simp only[Act.put,zk,zh,zi,ze,zm,zn]))
      refine pre_end (fl_op (fl_op (fl_op fl_nil))) (fun W4 hW4 => ?_);have hz4:=zq hW4;(try simp only[zd,qaa] at hz4);refine mid_make hW4 rfl rfl (fun Kp hKp => ?_);go_simp;refine(qgh _ _ _).mono ?_;rintro e W5 ⟨rfl,rfl⟩;refine⟨_,rfl,hKp _ _ ((zp _ _).alloc (zl _) _) fun W6 hW6 => ?_⟩;simp only[Act.put,zk,zh,zi,ze,zm,zn];have hz6:=zq hW6;(try simp only[zd,qaa] at hz6);have hB6:=qa4 hW6 (qbl ((zp _ _).alloc (zl _) _) hW4 (by first|omega|(simp;done)|(simp;omega)));have htn6:=(Blk.new W4 144 [.int .i64 0,.pointer (some ⟨pk,0,none⟩),.string (qas W[k].name),.nilIface]).keep hW6;refine mid_own W4.heap.size (by simp[List.mem_range'_1]) (by first|omega|(simp;done)|(simp;omega)) hB6 rfl rfl (fun Kp2 hKp2 => ?_);go_simp;refine(qnv W4.heap.size W6 _ _ _ _ htn6).mono ?_;rintro e W7 ⟨rfl,rfl⟩;refine⟨_,rfl,hKp2 _ _ ⟨rfl,rfl,rfl,by simp[World.setCell],fun b hb hne => ?_⟩ fun W8 hW8 => ?_⟩
      ·rw[Below.heap_alloc _ _ _ (by simpa[World.setCell] using hb),Below.heap_setCell _ _ _ _ (fun e=>hne (by rw[e]))]
      simp only[Act.put,zk,zh,zi,ze,zm,zn];have htn7:=((htn6.set 3 (.iface 98 (.pointer (some ⟨W6.heap.size,0,none⟩)))).alloc (.cells (qhb W4.heap.size true 0 .nilIface .nilIface (.slice none 0 0)).toArray 140)).keep hW8;have hnd7:=(Blk.new (W6.setCell ⟨W4.heap.size,3,none⟩ (.iface 98 (.pointer (some ⟨W6.heap.size,0,none⟩)))) 140 (qhb W4.heap.size true 0 .nilIface .nilIface (.slice none 0 0))).keep hW8;rw[show(W6.setCell ⟨W4.heap.size,3,none⟩ (.iface 98 (.pointer (some ⟨W6.heap.size,0,none⟩)))).heap.size=W6.heap.size by simp[World.setCell]] at hnd7;have hz8:=hW8.size;simp only[zd,World.setCell,Array.size_modify] at hz8;have hB8:Below (wr.alloc (.cells #[.int .i64 W[k].name,.int .i64 q,.bool false,.int .i64 W[k].of.kind,.int .i64 W[k].of.num,.slice x1 W[k].of.elem.length d1,.slice x2 W[k].of.fields.length d2,.slice x3 W[k].of.methods.length d3,.slice x4 W[k].of.embeds.length d4,.slice x5 W[k].methods.length d5] 39)).drew.heap.size (wr.alloc (.cells #[.int .i64 W[k].name,.int .i64 q,.bool false,.int .i64 W[k].of.kind,.int .i64 W[k].of.num,.slice x1 W[k].of.elem.length d1,.slice x2 W[k].of.fields.length d2,.slice x3 W[k].of.methods.length d3,.slice x4 W[k].of.embeds.length d4,.slice x5 W[k].methods.length d5] 39)).drew W8:=
       ((hB6.setCell (by first|omega|(simp;done)|(simp;omega)) _).alloc (by simp only[World.setCell,Array.size_modify];simp;omega) _).trans (hW8.mono (by simp only[zd,World.setCell,Array.size_modify];simp;omega))
      refine qcf hB8 rfl rfl ?_;apply Exists.intro;refine⟨?_,fun W9 hW9 => ?_⟩
      focus (go_simp;exact rfl)
      simp only[Act.put,zk,zh,zi,ze,zm,zn];have hz9:=zq hW9;(try simp only[zd,qaa] at hz9);have HB9:Hid (Below wr.heap.size wr W9):=hid ((((zp _ _).alloc (zl _) _).drew).trans ((hB8.trans (hW9.mono (by simp;omega))).mono (by simp)));have HLn:=hid (HL.out.keep HB9.out);have Htn9:=hid (htn7.keep hW9);have Hnd9:=hid (hnd7.keep hW9);have hnk:tb k=none:=HL.out.non k (fun h=>Nat.lt_irrefl _ h.2) (fun h=>h);have t4:W9.cell? ⟨w2.heap.size+1,k,none⟩=some .nilIface:=(HLn.out.ok.typc hlt hnk).1;have t5:W9.frozen? ⟨w2.heap.size+1,k,none⟩=false:=(HLn.out.ok.typc hlt hnk).2;have hl46:wr.heap.size≤W4.heap.size:=by omega
      have hl68:W6.heap.size<W9.heap.size:=Hnd9.out.lt;have hl69:wr.heap.size≤W6.heap.size:=by omega
      clear hW4 hW6 hW8 hW9 hB6 hB8 htn6 htn7 hnd7 hKp hKp2;refine mid_nil (qnw rfl rfl ?_)
      go_wp2_with fail
      go_roundw
      case rel=>exact⟨k+1,tbPut tb k (qdr W6.heap.size),by omega,by go_num,by simp only[World.setCell,Array.size_modify];omega,hid ⟨HLn.out.put hlt (fun h=>Nat.lt_irrefl _ h.2) (fun h=>h) 98 W6.heap.size hl68 (by have:=HL.out.base.below.size;omega) (fun e T y he=>by have:=HL.out.lt e T y he;omega)
       (fun e he hr=>by
        by_cases ek:e=k
        ·subst ek;refine .inr ⟨rfl,hr.1,rfl,W4.heap.size,?_,Hnd9.out⟩;show Blk W9 W4.heap.size 144 [.int .i64 0,ptrV (Fix.pk _ (dc W e).pkg),.string (qas (dc W e).name),_];rw[qcg hlt,Hq.out,← Hpk.out];exact Htn9.out
        ·exact .inl ⟨hr.1,by have:=hr.2;omega⟩)
       (fun e he h=>h.elim) fun e he h=>by
        rcases h with h|h|h
        ·exact .inl ⟨h.1,Nat.lt_succ_of_lt h.2⟩
        ·exact h.elim
        ·subst h;exact .inl ⟨by show(dc W e).alias=false;rw[qcg hlt];exact hal,zw _⟩,(HSd.out.keep HB9.out).apart (qag.setCell (fun b=>b=w2.heap.size+1) W9 (a:=⟨w2.heap.size+1,k,none⟩) rfl _) fun b T cs hb hT e=>hb.tne HLn.out.ok.typ.choose_spec.1 (by rcases hT with rfl|rfl <;> decide) e⟩⟩
      case measure=>simp[intOf];omega
    ·obtain rfl:k=W.length:=by omega
     have hS0:Hid (∃ (tb:Nat→Option Value) (s:St),LL ((fix0 W (w.heap.size+1+1+1+1) (w.heap.size+1+1+1) (w.heap.size+1) (w.heap.size+1+1) (w2.heap.size+1) w2.heap.size (start W W.length+t.size)).with tb) w (fun d=>(dc W d).alias=false) (fun d=>(dc W d).alias=true∧W.length≤d) s wr∧Side W ra rc w.heap.size ocs wr∧Dom W s (fun d=>(dc W d).alias=true∧W.length≤d)∧s.ifs.length≤qbw (W.drop W.length)):=hid
      ⟨tb,_,HL.out.imp (fun d hd hr=>⟨hr,hd⟩) (fun d hd hs=>by have:=hs.2;change d<W.length at hd;omega) (fun d hd hr=>by
       rcases hr with hr|hr
       ·exact .inl hr.1
       ·exact hr.elim),HSd.out,fun k x e=>(by cases e),Nat.zero_le _⟩
     clear HL HSd
     go_wp2_with fail
     go_loopw [13] (fun j wr=>∃ i:Nat,i≤W.length∧j = .int .i64 ((i:Int) - 1)∧W3.heap.size≤wr.heap.size∧
       Hid (∃ (tb:Nat→Option Value) (s:St),LL ((fix0 W (w.heap.size+1+1+1+1) (w.heap.size+1+1+1) (w.heap.size+1) (w.heap.size+1+1) (w2.heap.size+1) w2.heap.size (start W W.length+t.size)).with tb) w (fun d=>(dc W d).alias=false) (fun d=>(dc W d).alias=true∧i≤d) s wr∧Side W ra rc w.heap.size ocs wr∧Dom W s (fun d=>(dc W d).alias=true∧i≤d)∧s.ifs.length≤qbw (W.drop i)))
      (fun j _=>(intOf j+1).toNat)
     case atStart=>exact⟨W.length,zl _,rfl,hzr,hS0⟩
     clear hS0
     case round=>
      obtain⟨i,hi,rfl,hzr3,hst3⟩:=hrel;obtain⟨tb3,s1,hq1,hq2,hq3,hq4⟩:=hst3.out;have HL:=hid hq1;have HSd:=hid hq2;have HDom:=hid hq3;have Hni:=hid hq4;clear hst3 hq1 hq2 hq3 hq4;by_cases h0:0<i
      ·skip
       obtain⟨k,rfl⟩:∃ k,i=k+1:=⟨i - 1,by omega⟩;have hlt:k<W.length:=hi;obtain⟨D,hD⟩:∃ D,D=dc W k:=⟨_,rfl⟩;have hDW:W[k]=D:=by rw[hD,qcg hlt]
       obtain⟨b,o,x1,d1,x2,d2,x3,d3,x4,d4,x5,d5,rfl,-,-,-,-,htt,hcc⟩:=HW.out.row.get k hlt;obtain⟨e0,e1,e2,e3,e4,e5,e6,e7,e8,e9⟩:=ten (hcc.keep (qac.below HL.out.base.below));rw[hDW] at htt e0 e1 e2 e3 e4 e5 e6 e7 e8 e9;obtain⟨hn1,hn2,hn3,hn4,hn5⟩:=HF.out.names k hlt;rw[← hD] at hn1 hn2 hn3 hn4 hn5;obtain⟨q,hq⟩:∃ q:Nat,D.pkg=q:=⟨D.pkg.toNat,by omega⟩;have hq2:(q:Int)<2:=by omega
       rw[hq] at e1;have Hn1:=hid hn1;have Hn4:=hid hn4;have Hn5:=hid hn5;have Hq:=hid hq;have HD:=hid hD;have Htt:=hid htt;have hbb:=zj wr _ e0;simp only at hbb;have b0:wr.cell? ⟨w.heap.size+1+1+1+1,0,none⟩=some (.slice (some ⟨w.heap.size+1+1+1,0,none⟩) 2 2):=HL.out.ok.bld.cell 0;have b1:wr.cell? ⟨w.heap.size+1+1+1+1,1,none⟩=some (.slice (some ⟨w2.heap.size+1,0,none⟩) W.length W.length):=HL.out.ok.bld.cell 1;have p0:=(HL.out.ok.pkc (p:=(q:Int)) (by omega)).1;change wr.cell? ⟨w.heap.size+1+1+1,(q:Int).toNat,none⟩=_ at p0;rw[Int.toNat_natCast] at p0;obtain⟨pk,hpk⟩:∃ pk,pk=((fix0 W (w.heap.size+1+1+1+1) (w.heap.size+1+1+1) (w.heap.size+1) (w.heap.size+1+1) (w2.heap.size+1) w2.heap.size (start W W.length+t.size)).with tb3).pk (q:Int):=⟨_,rfl⟩;rw[← hpk] at p0;have Hpk:=hid hpk;obtain⟨rg,rfl⟩:=HSd.out.row (by omega);have s0:=HSd.out.get hlt;have l1:w.heap.size+1+1+1+1<wr.heap.size:=HL.out.ok.bld.lt;have l2:w.heap.size+1+1+1<wr.heap.size:=HL.out.ok.prB.lt;have l3:w2.heap.size+1<wr.heap.size:=HL.out.ok.typ.choose_spec.1.lt;have l4:=zj wr _ s0;simp only at l4;have hlt':(k:Int)<(W.length:Int):=by omega
       have hk0:(0:Int)≤(k:Int):=by omega
       clear hcc htt hn1 hn2 hn3 hn4 hn5 hq hpk hD;rw[show((k+1:Nat):Int) - 1=(k:Int) by omega];cases hal:D.alias with
       | false=>
        rw[hal] at e2;have Hal:=hid hal;clear hal
        go_wp2_with fail
        go_roundw
        case rel=>exact⟨k,by omega,rfl,by simp only[zd];omega,hid ⟨tb3,s1,(HL.out.keep ((zp _ _).alloc (zl _) _)).imp (fun d hd hr=>hr) (fun d hd hs=>⟨hs.1,by
          by_cases e:d=k
          ·subst e;have h1:=hs.1;rw[← HD.out,Hal.out] at h1;cases h1
          ·have:=hs.2;omega⟩) (fun d hd h=>h.imp id fun h=>⟨h.1,by have:=h.2;omega⟩),HSd.out.keep ((zp _ _).alloc (zl _) _),fun j x e=>by
          obtain⟨d,r1,r2,r3,r4⟩:=HDom.out j x e;exact⟨d,r1,⟨r2.1,by have:=r2.2;omega⟩,r3,r4⟩,by have:=qe3 W k hlt;have:=Hni.out;omega⟩⟩
        case measure=>simp only[intOf];omega
       | true=>
        rw[hal] at e2;have Hal:=hid hal;clear hal
        go_wp2_with fail
        obtain⟨F3,hF3⟩:∃ F3,F3=(fix0 W (w.heap.size+1+1+1+1) (w.heap.size+1+1+1) (w.heap.size+1) (w.heap.size+1+1) (w2.heap.size+1) w2.heap.size (start W W.length+t.size)).with tb3:=⟨_,rfl⟩;have HF3:=hid hF3;have HL3:Hid (LL F3 w (fun d=>(dc W d).alias=false) (fun d=>(dc W d).alias=true∧k+1≤d) s1 wr):=hid (by rw[hF3];exact HL.out);have HFW:Hid (F3.W=W):=hid (by rw[hF3];rfl);have hFN:F3.N=start W W.length+t.size:=by rw[hF3];rfl
        have hFbb:F3.bb=w.heap.size+1+1+1+1:=by rw[hF3];rfl
        have hFpr:F3.pr=w.heap.size+1+1+1:=by rw[hF3];rfl
        have HFpk:Hid (F3.pk (q:Int)=pk):=hid (by rw[hF3];exact Hpk.out.symm);clear HL hF3;obtain⟨wX,hwX⟩:∃ wX,wX=wr.alloc (.cells #[.int .i64 D.name,.int .i64 q,.bool true,.int .i64 D.of.kind,.int .i64 D.of.num,.slice x1 D.of.elem.length d1,.slice x2 D.of.fields.length d2,.slice x3 D.of.methods.length d3,.slice x4 D.of.embeds.length d4,.slice x5 D.methods.length d5] 39):=⟨_,rfl⟩;rw[← hwX];have HfB:Hid (Blk wX wr.heap.size 39 [.int .i64 D.name,.int .i64 q,.bool true,.int .i64 D.of.kind,.int .i64 D.of.num,.slice x1 D.of.elem.length d1,.slice x2 D.of.fields.length d2,.slice x3 D.of.methods.length d3,.slice x4 D.of.embeds.length d4,.slice x5 D.methods.length d5]):=hid (by rw[hwX];exact Blk.new _ _ _);have HX:Hid (Below wr.heap.size wr wX):=hid (by rw[hwX];exact(zp _ _).alloc (zl _) _);have hzX:wX.heap.size=wr.heap.size+1:=by rw[hwX];simp
        have HLX:=hid (HL3.out.keep HX.out);have HSX:=hid (HSd.out.keep HX.out);clear hwX;have hRk:MixR.RelOk (fun w' W'=>qah (qa1 F3 s1) w' W'∧W'.cell? ⟨w.heap.size+1+1+1+1,0,none⟩=some (.slice (some ⟨w.heap.size+1+1+1,0,none⟩) 2 2)∧W'.cell? ⟨w.heap.size+1+1+1+1,1,none⟩=some (.slice (some ⟨w2.heap.size+1,0,none⟩) W.length W.length)):=⟨fun w1 W1 W2 h hb=>⟨h.1.trans (qah.keep hb),qac.below hb _ _ h.2.1,qac.below hb _ _ h.2.2⟩,fun w1 W1 h=>h.1.apart.size⟩;have HXc:Hid (∀ W',(qah (qa1 F3 s1) wX.drew W'∧W'.cell? ⟨w.heap.size+1+1+1+1,0,none⟩=some (.slice (some ⟨w.heap.size+1+1+1,0,none⟩) 2 2)∧W'.cell? ⟨w.heap.size+1+1+1+1,1,none⟩=some (.slice (some ⟨w2.heap.size+1,0,none⟩) W.length W.length))→
          (w.heap.size+1+1+1+1<W'.heap.size∧w.heap.size+1+1+1<W'.heap.size∧wr.heap.size<W'.heap.size∧rg<W'.heap.size∧w2.heap.size+1<W'.heap.size)∧W'.cell? ⟨w.heap.size+1+1+1+1,0,none⟩=some (.slice (some ⟨w.heap.size+1+1+1,0,none⟩) 2 2)∧W'.cell? ⟨w.heap.size+1+1+1+1,1,none⟩=some (.slice (some ⟨w2.heap.size+1,0,none⟩) W.length W.length)∧
          W'.cell? ⟨w.heap.size+1+1+1,q,none⟩=some (.pointer (some ⟨pk,0,none⟩))∧W'.cell? ⟨rg,k,none⟩=some (.int .i64 ((start W k:Nat):Int))∧
          W'.cell? ⟨wr.heap.size,0,none⟩=some (.int .i64 D.name)∧W'.cell? ⟨wr.heap.size,1,none⟩=some (.int .i64 q)∧W'.cell? ⟨wr.heap.size,3,none⟩=some (.int .i64 D.of.kind)∧W'.cell? ⟨wr.heap.size,4,none⟩=some (.int .i64 D.of.num)∧W'.cell? ⟨wr.heap.size,5,none⟩=some (.slice x1 D.of.elem.length d1)∧W'.cell? ⟨wr.heap.size,6,none⟩=some (.slice x2 D.of.fields.length d2)∧W'.cell? ⟨wr.heap.size,7,none⟩=some (.slice x3 D.of.methods.length d3)∧W'.cell? ⟨wr.heap.size,8,none⟩=some (.slice x4 D.of.embeds.length d4)):=hid fun W' hW=>by
         have hokX:=HLX.out.ok;have hfW:=HfB.out.drew.apart hW.1.apart (hokX.notTurned HfB.out (by decide) (by decide) (by decide));have hz:wX.heap.size≤W'.heap.size:=hW.1.apart.size;have hpr:=hokX.prB.drew.apart hW.1.apart (hokX.notTurned hokX.prB (by decide) (by decide) (by decide));have hpc:=(hokX.pkc (p:=(q:Int)) (by omega)).1;have hS:=HSX.out.apart (w':=W') (show qag (qa1 F3 s1) wX W' from⟨hW.1.apart.size,hW.1.apart.block⟩) fun b T cs hb hT=>hokX.notTurned hb (by rcases hT with rfl|rfl <;> decide) (by rcases hT with rfl|rfl <;> decide) (by rcases hT with rfl|rfl <;> decide);refine⟨⟨by omega,by omega,by omega,by omega,by omega⟩,hW.2.1,hW.2.2,?_,hS.get hlt,hfW.cell 0,hfW.cell 1,hfW.cell 3,hfW.cell 4,hfW.cell 5,hfW.cell 6,hfW.cell 7,hfW.cell 8⟩;rw[hFpr,Int.toNat_natCast,HFpk.out] at hpc;rw[hFpr] at hpr;have hb1:=hokX.prB;rw[hFpr] at hb1;rw[hb1.cell] at hpc;rw[hpr.cell];exact hpc
        have b0X:=qac.below HX.out _ _ b0;have b1X:=qac.below HX.out _ _ b1;clear b0 b1 e0 e1 e2 e3 e4 e5 e6 e7 e8 e9 p0 s0;refine MixR.wp_region (R:=fun w' W'=>qah (qa1 F3 s1) w' W'∧W'.cell? ⟨w.heap.size+1+1+1+1,0,none⟩=some (.slice (some ⟨w.heap.size+1+1+1,0,none⟩) 2 2)∧W'.cell? ⟨w.heap.size+1+1+1+1,1,none⟩=some (.slice (some ⟨w2.heap.size+1,0,none⟩) W.length W.length)) [0,1,2,3,4,5,6,7,8,9,10,11,12,13,14,15,17,18,19,20,21,22,23,24,25,26] [(16,false),(27,false),(28,false),(29,false)] [30,31] (fun _=>default) ⟨qah.refl _ _,b0X,b1X⟩ (by kernel_rfl) (by kernel_rfl) (by decide) ?_
        iterate 26 (first|(refine MixR.pre_yes rfl rfl ?_;apply Exists.intro;refine⟨fun W1 hW1 => ?_,?_⟩;(focus (have q:=HXc.out W1 hW1;have r1:=q.1.1;have r2:=q.1.2.1;have r3:=q.1.2.2.1;have r4:=q.1.2.2.2.1;have r5:=q.1.2.2.2.2;have g0:=q.2.1;have g1:=q.2.2.1;have g2:=q.2.2.2.1;have g3:=q.2.2.2.2.1;have e0:=q.2.2.2.2.2.1;have e1:=q.2.2.2.2.2.2.1;have e3:=q.2.2.2.2.2.2.2.1;have e4:=q.2.2.2.2.2.2.2.2.1;have e5:=q.2.2.2.2.2.2.2.2.2.1;have e6:=q.2.2.2.2.2.2.2.2.2.2.1;have e7:=q.2.2.2.2.2.2.2.2.2.2.2.1;have e8:=q.2.2.2.2.2.2.2.2.2.2.2.2;clear q hW1;go_simp;first|exact rfl|(go_at_call 26;exact qbq _ _ Hn1.out)));simp only[Act.put,zk,zh,zi,ze,qai,qaj,zm,zn])|(refine MixR.pre_no rfl rfl ?_;simp only[Act.put,zk,zh,zi,ze,qai,qaj,zm,zn]))
        refine MixR.pre_end (MixR.fl_op (MixR.fl_op (MixR.fl_op (MixR.fl_op MixR.fl_nil)))) (fun W2 hW2 => ?_);have hW2':Below wX.heap.size wX W2:=((zp _ _).drew).trans hW2;have hT2:qah (qa1 F3 s1) wX.drew W2:=qah.keep hW2;refine MixR.mid_make ⟨hT2,qac.below hW2' _ _ b0X,qac.below hW2' _ _ b1X⟩ rfl rfl (fun Kp hKp => ?_);go_simp;refine(qgh _ _ _).mono ?_;rintro e W3a ⟨rfl,rfl⟩;refine⟨_,rfl,hKp _ _ ((zp _ _).alloc (zl _) _) fun W4 hW4 => ?_⟩;simp only[Act.put,zk,zh,zi,ze,qai,qaj,zm,zn];have hz2:=zq hW2';have hz4:=zq hW4;simp only[zd] at hz4;have hW4':Below wX.heap.size wX W4:=hW2'.trans (((zp _ _).alloc (by omega) _).trans (hW4.mono (by simp;omega)));have htn4:=(Blk.new W2 144 [.int .i64 0,.pointer (some ⟨pk,0,none⟩),.string (qas D.name),.nilIface]).keep hW4;have hnewX:=HLX.out.ok;have E4:=BExt.keep hnewX hW4' (start W k);have hst:=qc2 hlt;have hm0:(dc W k).methods=[]:=by rw[← HD.out];exact Hn5.out Hal.out
        have hsz:start W (k+1)=start W k+D.of.size:=by rw[hst];unfold qi8;rw[hm0,← HD.out];simp
        have hsN:start W (k+1)≤start W W.length:=qdk W hlt;have hbD:D.of.bulk+1≤D.bulk:=by unfold Dc.bulk;omega
        have hbW:D.bulk≤qbw W:=by rw[← hDW];exact qee W k hlt
        have hpre:BPre F3 w s1 W4 (k:Int) true D.of (start W k) (q:Int):=⟨HLX.out.base.ext E4,E4.ok,by omega,by rw[HFW.out];exact Hn4.out,by
          have hv:=HF.out.valid k hlt;unfold qcj qad at hv;simp only[← HD.out,Hq.out,Hn5.out Hal.out,List.length_nil,Nat.add_zero] at hv;rw[HFW.out];exact hv,fun n hn hn2=>by
          rw[HFW.out] at hn hn2;cases han:(dc W n).alias with
          | false=>
           obtain⟨-,b,tn,hr⟩:=HLX.out.rawOk n (by rw[HFW.out];exact hn) han;exact⟨_,hr.tb⟩
          | true=>
           have hlt2:k+1≤n:=by
            rcases hn2 with h|h|h|h
            ·omega
            ·omega
            ·rw[Int.toNat_natCast,← HD.out,Hal.out] at h;cases h
            ·rw[han] at h;cases h
           obtain⟨al,tn,rhs,u,m,hr⟩:=(HLX.out.setOk n (by rw[HFW.out];exact hn) ⟨han,hlt2⟩).al (by rw[HFW.out];exact han);exact⟨_,hr.tb⟩,fun j j1 j2=>HDom.out.free hlt (fun h=>by have:=h.2;omega) j1 (by omega),by rw[hFN];omega,by rw[hFN];have:=qcv W W.length;have:=qba t;omega,by
          have h1:=Hni.out;have h2:=qfa W (k+1);omega⟩
        refine MixR.mid_turn rfl rfl (fun Kp2 hKp2 => ?_);go_simp;have hty:=qma F3 (some ⟨b,o,none⟩) c w (by rw[HFW.out];exact HN.out) (by rw[HFW.out];exact HW.out) HT.out D.of _ W4 s1 (k:Int) true (start W k) (q:Int) (by omega) Htt.out hpre;rw[hFbb,HFW.out] at hty;refine(hty.mono fun e w' h=>h.pk).mono ?_;rintro e W5 ⟨xx,rfl,Hx⟩;have hE5:=Hx.out.1;have hT4:qah (qa1 F3 s1) wX.drew W4:=⟨hW4'.os,hW4'.tape,hW4'.output,⟨hW4'.size,fun b hb _=>hW4'.block b hb⟩⟩;have hT5:qah (qa1 F3 s1) wX.drew W5:=hT4.trans hE5.turns;have b05:=hE5.ok.bld.cell 0;have b15:=hE5.ok.bld.cell 1;simp only[zu,zt] at b05 b15;rw[hFbb,show F3.pc=2 by rw[HF3.out];rfl,hFpr] at b05;rw[hFbb,HFW.out,show F3.tr=w2.heap.size+1 by rw[HF3.out];rfl,show F3.tc=W.length by rw[HF3.out];rfl] at b15;refine⟨_,rfl,hKp2 _ _ ⟨hT5,b05,b15⟩ hE5.size (fun j j1 j2=>hE5.turns.apart.block j j2 fun hj=>by have:=hnewX.turnedLt hj;have:wX.drew.heap.size=wX.heap.size:=rfl;omega) fun W6 hW6 => ?_⟩;simp only[Act.put,zk,zh,zi,ze,qai,qaj,zm,zn];have htnNT:¬ qa1 F3 s1 W2.heap.size:=fun hj=>by have:=hnewX.turnedLt hj;omega
        have htn6:=(htn4.apart hE5.turns.apart htnNT).keep hW6;have E6:BExt F3 s1 wX xx.2.2 W6 (start W k) (start W k+D.of.size):=(E4.trans hE5 (zl _) (zcb _ _)).trans (BExt.keep hE5.ok hW6 _) (zcb _ _) (zl _);have hG6:G.Le (gOf F3 xx.2.2 (rdA W4.heap.size W5)) (gOf F3 xx.2.2 (rdT W6)):=⟨rfl,rfl,fun _ _ h=>h,fun _ _ h=>h,fun _ h=>h,(qnx _ _).trans (qa0 hW6)⟩;have hL6:LL F3 w (fun d=>(dc W d).alias=false) (fun d=>(dc W d).alias=true∧k+1≤d) xx.2.2 W6:=HLX.out.ext E6 (Hx.out.2.2.2.mono hG6 rfl);have hD6:Den (gOf F3 xx.2.2 (rdT W6)) (qad W k) (.iface xx.1 (.pointer (some xx.2.1))):=by
         have h1:=Den.mono hG6 Hx.out.2.1;unfold qad;rw[hm0,← HD.out,Hq.out];exact h1
        have hBV:qcp W:=fun d hd=>(HF.out.names d hd).2.2.2.1;have hNA:=qpy hL6 (by rw[HFW.out];exact hBV) (by rw[HFW.out];exact qd9 hBV hlt) hD6 (fun d hk' hd=>⟨fun ha=>⟨by rw[HFW.out] at ha;exact ha,by
         have:=(hBV.get hlt hk').2.2;rw[hd];simp only[qad];omega⟩,fun ha => .inl (by rw[HFW.out] at ha;exact ha)⟩) htn6
        refine MixR.mid_own W2.heap.size (by simp[List.mem_range'_1]) rfl rfl (fun Kp3 hKp3 => ?_);go_simp;refine hNA.mono ?_;rintro e W7 ⟨y,rfl,Hy⟩;have hT67:=Hy.out.2.2.2.1;have hA67:=hT67.apart;have hg67:=Hy.out.2.2.2.2.2.2;have hT6:qah (qa1 F3 s1) wX.drew W6:=hT5.trans (qah.keep hW6);have hT7:qah (qa1 F3 s1) wX.drew W7:=((hT6.mono (S':=fun b=>qa1 F3 s1 b∨wX.heap.size≤b) fun b _ h => .inl h).trans (hT67.mono (S':=fun b=>qa1 F3 s1 b∨wX.heap.size≤b) fun b _ h => .inr (by rw[h];exact hz2))).mono fun b hb h=>by
         rcases h with h|h
         ·exact h
         ·exact absurd hb (by show ¬ b<wX.heap.size;omega)
        have htnb:∀ b T cs,Blk W6 b T cs→T≠144→¬ b=W2.heap.size:=fun b T cs hb hT e=>hb.tne htn6 hT e;have E7:BExt F3 s1 wX xx.2.2 W7 (start W k) (start W k+D.of.size):=E6.later hT67 (fun b hb=>by rw[hb];exact hz2) fun b T cs hb hT=>htnb b T cs hb (by rcases hT with rfl|rfl|rfl|⟨rfl,-⟩|rfl|rfl|rfl|rfl|rfl|rfl <;> decide);have b07:=E7.ok.bld.cell 0;have b17:=E7.ok.bld.cell 1;simp only[zu,zt] at b07 b17;rw[hFbb,show F3.pc=2 by rw[HF3.out];rfl,hFpr] at b07;rw[hFbb,HFW.out,show F3.tr=w2.heap.size+1 by rw[HF3.out];rfl,show F3.tc=W.length by rw[HF3.out];rfl] at b17;refine⟨_,rfl,hKp3 _ _ ⟨hT7,b07,b17⟩ hg67 fun W8 hW8 => ?_⟩;simp only[Act.put,zk,zh,zi,ze,qai,qaj,zm,zn];refine MixR.mid_call ⟨hT7.trans (qah.keep hW8),qac.below hW8 _ _ b07,qac.below hW8 _ _ b17⟩ rfl rfl (fun Kp4 hKp4 => ?_);go_simp;refine hKp4 _ _ (zp _ _) fun W9 hW9 => ?_;simp only[Act.put,zk,zh,zi,ze,qai,qaj,zm,zn];have hW79:Below W7.heap.size W7 W9:=hW8.trans (hW9.mono hW8.size);have hz5:=hE5.size;have hz6:=zq hW6;have hz7:=hA67.size;have hz9:=zq hW79;have HE9:Hid (BExt F3 s1 wX xx.2.2 W9 (start W k) (start W k+D.of.size)):=hid (E7.trans (BExt.keep E7.ok hW79 _) (zcb _ _) (zl _));have hG9:G.Le (gOf F3 xx.2.2 (rdT W6)) (gOf F3 xx.2.2 (rdT W9)):=⟨rfl,rfl,fun _ _ h=>h,fun _ _ h=>h,fun _ h=>h,Hy.out.2.2.2.2.2.1.trans (qa0 hW79)⟩;have HL9:Hid (LL F3 w (fun d=>(dc W d).alias=false) (fun d=>(dc W d).alias=true∧k+1≤d) xx.2.2 W9):=hid (HLX.out.ext HE9.out ((Hx.out.2.2.2.mono hG6 rfl).mono hG9 rfl));have HB9:Hid (Blk W9 W6.heap.size 182 [ptrV W2.heap.size,ptrV W6.heap.size,.iface xx.1 (.pointer (some xx.2.1)),y.1]):=hid (Hy.out.2.2.2.2.1.keep hW79);have HC9:Hid (qev W9 y.1 y.2 (.iface xx.1 (.pointer (some xx.2.1)))):=hid (qev.apart (hA67.trans (qag.keep hW79)) (fun b cs hb e=>htnb b _ cs hb (by decide) e) Hy.out.2.1);have HD9:Hid (Den (gOf F3 xx.2.2 (rdT W9)) (plain W (qad W k)) y.1):=hid (by have h:=Den.mono hG9 Hy.out.2.2.1;rw[HFW.out] at h;exact h);have HS9:Hid (Side W (some ⟨rg,0,none⟩) rc w.heap.size ocs W9):=hid (HSX.out.turned hnewX HE9.out.turns.apart);have hnk:F3.tb k=none:=HL9.out.non k (fun h=>by rw[← HD.out,Hal.out] at h;cases h) (fun h=>by have:=h.2;omega);have t4:W9.cell? ⟨w2.heap.size+1,k,none⟩=some .nilIface:=by
         have:=(HL9.out.ok.typc (by rw[HFW.out];exact hlt) hnk).1
         rwa [show F3.tr=w2.heap.size+1 by rw[HF3.out];rfl] at this
        have t5:W9.frozen? ⟨w2.heap.size+1,k,none⟩=false:=by
         have:=(HL9.out.ok.typc (by rw[HFW.out];exact hlt) hnk).2
         rwa [show F3.tr=w2.heap.size+1 by rw[HF3.out];rfl] at this
        have t6:w2.heap.size+1<W9.heap.size:=by omega
        have hl69:W6.heap.size<W9.heap.size:=HB9.out.lt;have hl06:wr.heap.size≤W6.heap.size:=by omega
        clear hKp hKp2 hKp3 hKp4 hW2 hW4 hW6 hW8 hW9 hT2 hT4 hT5 hT6 hT7 hT67 hA67 hg67 htn4 htn6 hpre hty hNA E4 hE5 E6 E7 hL6 hD6 hG6 hG9 b05 b15 b07 b17 hW79;refine MixR.mid_nil (qnw rfl rfl ?_)
        go_wp2_with fail
        go_roundw
        case rel=>
         have hput:=HL9.out.put (raw':=fun d=>(dc W d).alias=false) (set':=fun d=>(dc W d).alias=true∧k≤d) (d:=k) (by rw[HFW.out];exact hlt) (fun h=>by rw[← HD.out,Hal.out] at h;cases h) (fun h=>by have:=h.2;omega) 103 W6.heap.size hl69 (by have:=HL3.out.base.below.size;omega) (fun e T y he=>by have:=HL3.out.lt e T y he;omega)
          (fun e he hr => .inl hr) (fun e he hs=>by
           by_cases ek:e=k
           ·exact .inr ⟨ek,qss (by rw[HFW.out,← HD.out];exact Hal.out) HB9.out Hy.out.1 HC9.out (by rw[HFW.out];exact HD9.out)⟩
           ·exact .inl ⟨hs.1,by have:=hs.2;omega⟩) (fun e he h=>by
           rcases h with h|h|h
           ·exact .inl h
           ·exact .inr ⟨h.1,by have:=h.2;omega⟩
           ·subst h;exact .inr ⟨by rw[← HD.out];exact Hal.out,zl _⟩)
         have hs9:=HS9.out.apart (qag.setCell (fun b=>b=F3.tr) W9 (a:=⟨F3.tr,k,none⟩) rfl (.iface 103 (ptrV W6.heap.size))) fun b T cs hb hT e=>hb.tne HL9.out.ok.typ.choose_spec.1 (by rcases hT with rfl|rfl <;> decide) e;rw[show F3.tr=w2.heap.size+1 by rw[HF3.out];rfl] at hput hs9;rw[HF3.out,Fix.with_put] at hput;refine⟨k,by omega,rfl,by simp only[World.setCell,Array.size_modify];omega,hid ⟨tbPut tb3 k (qjx W6.heap.size),xx.2.2,hput,hs9,HDom.out.ext hlt (fun d h=>⟨h.1,by have:=h.2;omega⟩) ⟨by rw[← HD.out];exact Hal.out,zl _⟩ (zl _) (by omega) HE9.out.same,?_⟩⟩;have h1:=Hx.out.2.2.1;have h2:=Hni.out;have h3:=qe3 W k hlt;rw[hDW] at h3;omega
        case measure=>simp only[intOf];omega
      ·obtain rfl:i=0:=by omega
       have hS0:Hid (∃ (tb:Nat→Option Value) (s:St),LL ((fix0 W (w.heap.size+1+1+1+1) (w.heap.size+1+1+1) (w.heap.size+1) (w.heap.size+1+1) (w2.heap.size+1) w2.heap.size (start W W.length+t.size)).with tb) w (fun d=>(dc W d).alias=false∧d<W.length) (fun d=>(dc W d).alias=true∨W.length≤d) s wr∧Side W ra rc w.heap.size ocs wr∧Dom W s (fun d=>(dc W d).alias=true∨W.length≤d)∧s.ifs.length≤qbw W+qbw (W.drop W.length)):=hid
        ⟨tb3,s1,HL.out.imp (fun d hd h=>h.1) (fun d hd h=>⟨by
         rcases h with h|h
         ·exact h
         ·change d<W.length at hd;omega,Nat.zero_le _⟩) (fun d hd h=>by
         rcases h with h|h
         ·exact .inl ⟨h,hd⟩
         ·exact .inr (.inl h.1)),HSd.out,fun j x e=>by
         obtain⟨d,r1,r2,r3,r4⟩:=HDom.out j x e;exact⟨d,r1,.inl r2.1,r3,r4⟩,by have:=Hni.out;rw[List.drop_zero] at this;omega⟩
       clear HL HSd HDom Hni;rw[show((0:Nat):Int) - 1 = -1 by rfl]
       go_wp2_with fail
       go_loopw [15] (fun j wr=>∃ i:Nat,i≤W.length∧j = .int .i64 ((i:Int) - 1)∧W3.heap.size≤wr.heap.size∧
         Hid (∃ (tb:Nat→Option Value) (s:St),LL ((fix0 W (w.heap.size+1+1+1+1) (w.heap.size+1+1+1) (w.heap.size+1) (w.heap.size+1+1) (w2.heap.size+1) w2.heap.size (start W W.length+t.size)).with tb) w (fun d=>(dc W d).alias=false∧d<i) (fun d=>(dc W d).alias=true∨i≤d) s wr∧Side W ra rc w.heap.size ocs wr∧Dom W s (fun d=>(dc W d).alias=true∨i≤d)∧s.ifs.length≤qbw W+qbw (W.drop i)))
        (fun j _=>(intOf j+1).toNat)
       case atStart=>exact⟨W.length,zl _,rfl,hzr3,hS0⟩
       clear hS0
       case round=>
        obtain⟨i,hi,rfl,hzr4,hst4⟩:=hrel;obtain⟨tb4,s1,hq1,hq2,hq3,hq4⟩:=hst4.out;have HL:=hid hq1;have HSd:=hid hq2;have HDom:=hid hq3;have Hni:=hid hq4;clear hst4 hq1 hq2 hq3 hq4;by_cases h0:0<i
        ·skip
         obtain⟨k,rfl⟩:∃ k,i=k+1:=⟨i - 1,by omega⟩;have hlt:k<W.length:=hi;obtain⟨D,hD⟩:∃ D,D=dc W k:=⟨_,rfl⟩;have hDW:W[k]=D:=by rw[hD,qcg hlt]
         obtain⟨b,o,x1,d1,x2,d2,x3,d3,x4,d4,x5,d5,rfl,hmc,-,-,hmr,htt,hcc⟩:=HW.out.row.get k hlt;obtain⟨e0,e1,e2,e3,e4,e5,e6,e7,e8,e9⟩:=ten (hcc.keep (qac.below HL.out.base.below));rw[hDW] at hmc hmr htt e0 e1 e2 e3 e4 e5 e6 e7 e8 e9;obtain⟨hn1,hn2,hn3,hn4,hn5⟩:=HF.out.names k hlt;rw[← hD] at hn1 hn2 hn3 hn4 hn5;obtain⟨q,hq⟩:∃ q:Nat,D.pkg=q:=⟨D.pkg.toNat,by omega⟩;have hq2:(q:Int)<2:=by omega
         rw[hq] at e1;have Hn1:=hid hn1;have Hn4:=hid hn4;have Hn5:=hid hn5;have Hq:=hid hq;have HD:=hid hD;have Htt:=hid htt;have Hmr:=hid hmr;have hbb:=zj wr _ e0;simp only at hbb;have hml:D.methods.length≤1048576:=by
          have h1:=qee W k hlt;rw[hDW] at h1;unfold Dc.bulk at h1;omega
         have l1:w.heap.size+1+1+1+1<wr.heap.size:=HL.out.ok.bld.lt;have l2:w.heap.size+1+1+1<wr.heap.size:=HL.out.ok.prB.lt;have l3:w2.heap.size+1<wr.heap.size:=HL.out.ok.typ.choose_spec.1.lt;have hlt':(k:Int)<(W.length:Int):=by omega
         have hk0:(0:Int)≤(k:Int):=by omega
         have b1:wr.cell? ⟨w.heap.size+1+1+1+1,1,none⟩=some (.slice (some ⟨w2.heap.size+1,0,none⟩) W.length W.length):=HL.out.ok.bld.cell 1;clear hcc htt hn1 hn2 hn3 hn4 hn5 hq hD hmr;rw[show((k+1:Nat):Int) - 1=(k:Int) by omega];cases hal:D.alias with
         | true=>
          rw[hal] at e2;have Hal:=hid hal;clear hal
          go_wp2_with fail
          go_roundw
          case rel=>exact⟨k,by omega,rfl,by simp only[zd];omega,hid ⟨tb4,s1,(HL.out.keep ((zp _ _).alloc (zl _) _)).imp (fun d hd hr=>⟨hr.1,by have:=hr.2;omega⟩) (fun d hd hs=>by
            rcases hs with hs|hs
            ·exact .inl hs
            ·by_cases e:d=k
             ·subst e;exact .inl (by rw[← HD.out];exact Hal.out)
             ·exact .inr (by omega)) (fun d hd h=>by
            rcases h with h|h|h
            ·by_cases e:d=k
             ·subst e;have h1:=h.1;rw[← HD.out,Hal.out] at h1;cases h1
             ·exact .inl ⟨h.1,by have:=h.2;omega⟩
            ·exact .inr (.inl h)
            ·exact .inr (.inr (by omega))),HSd.out.keep ((zp _ _).alloc (zl _) _),fun j x e=>by
            obtain⟨d,r1,r2,r3,r4⟩:=HDom.out j x e;exact⟨d,r1,r2.imp id fun h=>by omega,r3,r4⟩,by have:=qe3 W k hlt;have:=Hni.out;omega⟩⟩
          case measure=>simp only[intOf];omega
         | false=>
          rw[hal] at e2;have Hal:=hid hal;clear hal;have hR:=HL.out.rawOk k hlt ⟨by rw[← HD.out];exact Hal.out,zw _⟩;obtain⟨nb,tn,hNd⟩:=hR.2;have HNd:=hid hNd;have tk:wr.cell? ⟨w2.heap.size+1,k,none⟩=some (qdr nb):=HL.out.ok.typv hlt hNd.tb;clear hR hNd;have hta:=fun v w=>ta_one underlying98 v w;obtain⟨wS,hwS⟩:∃ wS,wS=wr.alloc (.cells #[.int .i64 D.name,.int .i64 q,.bool false,.int .i64 D.of.kind,.int .i64 D.of.num,.slice x1 D.of.elem.length d1,.slice x2 D.of.fields.length d2,.slice x3 D.of.methods.length d3,.slice x4 D.of.embeds.length d4,.slice x5 D.methods.length d5] 39):=⟨_,rfl⟩;have HfB:Hid (Blk wS wr.heap.size 39 [.int .i64 D.name,.int .i64 q,.bool false,.int .i64 D.of.kind,.int .i64 D.of.num,.slice x1 D.of.elem.length d1,.slice x2 D.of.fields.length d2,.slice x3 D.of.methods.length d3,.slice x4 D.of.embeds.length d4,.slice x5 D.methods.length d5]):=hid (by rw[hwS];exact Blk.new _ _ _);have HX:Hid (Below wr.heap.size wr wS):=hid (by rw[hwS];exact(zp _ _).alloc (zl _) _);have hzS:wS.heap.size=wr.heap.size+1:=by rw[hwS];simp
          have HLS:=hid (HL.out.keep HX.out);have HSS:=hid (HSd.out.keep HX.out);have HNS:Hid (qp0 ((fix0 W (w.heap.size+1+1+1+1) (w.heap.size+1+1+1) (w.heap.size+1) (w.heap.size+1+1) (w2.heap.size+1) w2.heap.size (start W W.length+t.size)).with tb4) wS k nb tn):=hid ⟨HNd.out.tb,HNd.out.tnB.keep HX.out,HNd.out.blk.keep HX.out⟩;have HIM0:=hid (InM.first HLS.out HNS.out)
          go_wp2_with fail
          rw[← hwS];clear hwS;obtain⟨F4,hF4⟩:∃ F4,F4=(fix0 W (w.heap.size+1+1+1+1) (w.heap.size+1+1+1) (w.heap.size+1) (w.heap.size+1+1) (w2.heap.size+1) w2.heap.size (start W W.length+t.size)).with tb4:=⟨_,rfl⟩;rw[← hF4] at HLS HNS HIM0;have HF4:=hid hF4;have HFW:Hid (F4.W=W):=hid (by rw[hF4];rfl);have hFN:F4.N=start W W.length+t.size:=by rw[hF4];rfl
          have hFbb:F4.bb=w.heap.size+1+1+1+1:=by rw[hF4];rfl
          have hFpr:F4.pr=w.heap.size+1+1+1:=by rw[hF4];rfl
          have HFob:Hid (F4.ob0=w2.heap.size):=hid (by rw[hF4];rfl);have hFoc:F4.oc=F4.N:=by rw[hF4];rfl
          have HFpc:Hid (F4.pc=2):=hid (by rw[hF4];rfl);have HLr:=hid HL.out.lt;clear HL hF4 HNd;obtain⟨wo,rfl⟩:∃ wo:World,wo=wr:=⟨_,rfl⟩
          go_loopw [162] (fun jv wr=>∃ j:Nat,j≤D.methods.length∧jv = .int .i64 j∧wS.heap.size≤wr.heap.size∧
            Hid (∃ (s:St) (ra':Option Addr) (rc':Nat) (fs:List Nat) (st:Int),InM F4 w wS s1 k nb tn j j s ra' rc' fs st wr))
           (fun jv _=>D.methods.length - (intOf jv).toNat)
          case atStart=>exact⟨0,by omega,rfl,zl _,hid ⟨s1,none,0,[],0,HIM0.out⟩⟩
          case round=>
           obtain⟨j,hj,rfl,hzr5,hst5⟩:=hrel;obtain⟨s2,ra2,rc2,fs,st,hq1⟩:=hst5.out;have HIM:=hid hq1;have hokS:=HLS.out.ok;have hfb2:=HfB.out.apart hq1.turns.apart (hq1.side hokS HNS.out.blk HfB.out (.inr (.inr rfl)));have HSr:Hid (Side W ra rc w.heap.size ocs wr):=hid (HSS.out.apart hq1.turns.apart fun x T cs hb hT=>hq1.side hokS HNS.out.blk hb (hT.imp id .inl));clear hst5 hq1 hokS;by_cases hltj:j<D.methods.length
           ·skip
            obtain⟨mb,mo,rfl,hmn,hmcell⟩:=MsR.get Hmr.out j hltj;have hc2:=hmcell.keep (qac.below HIM.out.base.below);have m0:=hc2 0 _ rfl;have m1:=hc2 1 _ rfl;simp only[Nat.zero_add,Nat.add_zero] at m0 m1;have g1:=hfb2.cell 1;simp only[zu,zt] at g1;have lg:=hfb2.lt;have hmbl:=zj wr _ m0;simp only at hmbl;have hlj':(j:Int)<(D.methods.length:Int):=by omega
            clear hc2 hmcell hmn hfb2;obtain⟨rg,rfl⟩:=HSr.out.row (by omega);obtain⟨mt,hmt⟩:∃ mt,mt=D.methods[j]:=⟨_,rfl⟩;rw[← hmt] at m0 m1;have Hmt:=hid hmt;clear hmt;have hg1':wo.heap.size<wr.heap.size+1:=by omega
            have g1':(wr.alloc (.cells #[.int .i64 mt.name,.bool mt.ptr] 84)).cell? ⟨wo.heap.size,1,none⟩=some (.int .i64 q):=qac.alloc _ _ _ _ g1;have hAl:Below wr.heap.size wr (wr.alloc (.cells #[.int .i64 mt.name,.bool mt.ptr] 84)):=(zp _ _).alloc (zl _) _;have HIMa:=hid (HIM.out.keep hAl);have HDk:=hid (show dc F4.W k=D by rw[HFW.out,← HD.out]);have HDc:=hid (HF.out.declared k hlt);have HMt:Hid (Calls prog 45 #[.pointer (some ⟨w.heap.size+1+1+1+1,0,none⟩),.int .i64 q,.agg #[.int .i64 mt.name,.bool mt.ptr],qdr nb] (wr.alloc (.cells #[.int .i64 mt.name,.bool mt.ptr] 84)) fun e w'=>∃ f,e = .returned (ptrV f)∧Hid (wr.heap.size+1≤f∧f<w'.heap.size∧qel (rdA (wr.heap.size+1) w') f (F4.pk (q:Int)) mt.name mt.ptr∧Below (wr.heap.size+1) (wr.alloc (.cells #[.int .i64 mt.name,.bool mt.ptr] 84)) w')):=hid (by
             have h0:=HIMa.out.ok.bld.cell 0;simp only[zt] at h0;have hd:=HDc.out;unfold qen at hd;rw[← HD.out] at hd;have hm:=qn1 nb F4.bb F4.pr (F4.pk (q:Int)) (q:Int) mt.name F4.pc mt.ptr _ (by rw[Hmt.out];exact(hd.2.2.1 _ (z8 _)).1) (by omega) h0 (HIMa.out.ok.pkc (by omega)).1;rw[hFbb,zd] at hm;exact hm)
            have hN1:start W (k+1)≤start W W.length:=qdk W hlt;have hN2:=qc2 hlt;unfold qi8 at hN2;rw[← HD.out] at hN2;have hN3:=qcv W W.length;have hN4:=qba t;have HoA:Hid (s1.ob (start F4.W k+j)=none):=hid (by
             rw[HFW.out];exact HDom.out.free hlt (fun h=>by
              rcases h with h|h
              ·rw[← HD.out,Hal.out] at h;cases h
              ·omega) (by omega) (by omega))
            have HAN:Hid (start F4.W k+j<F4.N):=hid (by rw[HFW.out,hFN];omega);have hks:(start W k:Int)+(j:Int)≤4194304:=by omega
            clear hN1 hN2 hN3 hN4
            go_wp2_with (first
             | (go_at_call 45;refine HMt.out.mono ?_;rintro e w5 ⟨f,rfl,Hf⟩;have HIM5:=hid (HIMa.out.keep (Hf.out.2.2.2.mono (by simp)));have s5:=(HSr.out.keep (hAl.trans (Hf.out.2.2.2.mono (by omega)))).get hlt;have hpc:=HIM5.out.ok.putc HAN.out (by rw[HIM5.out.same _ (.inr (zl _))];exact HoA.out);have hput:=qmk F4.bb F4.ob0 F4.N F4.oc (start F4.W k+j) 106 (some ⟨f,0,none⟩) .nilIface w5 hpc.1 HAN.out hpc.2.1 hpc.2.2;rw[hFbb] at hput;simp only[Int.natCast_add,HFW.out] at hput;have Hput:=hid hput;have hz5:=zq Hf.out.2.2.2;simp only[zd] at hz5;clear hput hpc)
             | (go_at_call 46;refine Hput.out.mono ?_;rintro e w7 ⟨rfl,hw7⟩;have HIM7:Hid (InM F4 w wS s1 k nb tn j (j+1) (qd6 s2 (start F4.W k+j) (true,f)) ra2 rc2 fs st w7):=hid (by
               have h:=HIM5.out.put HAN.out HoA.out (f:=f) Hf.out.2.1 (fun i y hy=>by have:=HIM.out.ok.lt i y.1 y.2 hy;have:=Hf.out.1;omega);rw[HFW.out,HFob.out] at h;rw[HFW.out,hw7,HFob.out];exact h);have hR57:RdLe (rdT w5) (rdT w7):=(by
               have h:=(BExt.put HIM5.out.ok HAN.out (by rw[HIM5.out.same _ (.inr (zl _))];exact HoA.out) true f Hf.out.2.1 (fun i y hy=>by have:=HIM.out.ok.lt i y.1 y.2 hy;have:=Hf.out.1;omega)).rd;rw[HFW.out,HFob.out] at h;rw[hw7,HFob.out];exact h);have hz7:w7.heap.size=w5.heap.size:=(by rw[hw7];simp[World.setCell]);have Hadd:=hid (HIM7.out.add (f:=f) (by rw[HDk.out,Hq.out];omega) (by rw[HDk.out];exact hltj) (by rw[HDk.out];exact hml) (by rw[HDk.out,HD.out];exact HDc.out.2.2.1) (by rw[HDk.out,HD.out];exact HDc.out.2.2.2.1) (by simp[qd6]) (by have:=Hf.out.1;omega) (by
               have h:=Hf.out.2.2.1.mono (rdA_rdX (B:=wS.heap.size) (R:=(Value.slice ra2 j rc2).ownBlock) (by omega) hR57 fun g hg=>by
                have:=(qaf HIM.out.own hg).choose_spec.lt;omega)
               have e1:D.methods.getD j ⟨0,false⟩=mt:=by rw[Hmt.out];simp[zv,zr hltj]
               rw[HDk.out,Hq.out,e1];exact h));clear hw7 hR57)
             | (go_at_call 47;refine Hadd.out.mono ?_;rintro e w8 ⟨y,rfl,Hy⟩))
            go_roundw
            case rel=>exact⟨j+1,by omega,by go_num,by have:=Hy.out.2;omega,hid ⟨_,_,_,_,_,Hy.out.1⟩⟩
            case measure=>simp[intOf];omega
           ·obtain rfl:j=D.methods.length:=by omega
            obtain⟨rg,rfl⟩:=HSr.out.row (by omega);have HfB2:=hid hfb2;have lg:=hfb2.lt;have hN2:=qc2 hlt;unfold qi8 at hN2;rw[← HD.out] at hN2;have hN1:start W (k+1)≤start W W.length:=qdk W hlt;have hN3:=qcv W W.length;have hN4:=qba t;have HDk:=hid (show dc F4.W k=D by rw[HFW.out,← HD.out]);have hBV:qcp W:=fun d hd=>(HF.out.names d hd).2.2.2.1;have HLM:Hid (LM F4 w (fun d=>(dc W d).alias=false∧d<k) (fun d=>(dc W d).alias=true∨k+1≤d) s2 wr):=hid (HIM.out.lm (HLS.out.toLM.sub (fun d hd h=>⟨h.1,by have:=h.2;omega⟩) fun d hd h=>h) HNS.out (fun h=>Nat.lt_irrefl _ h.2) fun h=>by
             rcases h with h|h
             ·rw[← HD.out,Hal.out] at h;cases h
             ·omega)
            have HIU:Hid (InU F4 s2 k nb tn ra2 rc2 fs st wr):=hid (by have h:=HIM.out;rw[← HDk.out] at h;exact h.inU HNS.out.tb);have hrgl:=zj wr _ (HSr.out.get hlt);simp only at hrgl;have HXc:Hid (∀ W',qah (fun x=>x=nb∨qa1 F4 s2 x) wr.drew W'→(wo.heap.size<W'.heap.size∧rg<W'.heap.size)∧W'.cell? ⟨rg,k,none⟩=some (.int .i64 ((start W k:Nat):Int))∧W'.cell? ⟨wo.heap.size,1,none⟩=some (.int .i64 q)∧W'.cell? ⟨wo.heap.size,3,none⟩=some (.int .i64 D.of.kind)∧W'.cell? ⟨wo.heap.size,4,none⟩=some (.int .i64 D.of.num)∧W'.cell? ⟨wo.heap.size,5,none⟩=some (.slice x1 D.of.elem.length d1)∧W'.cell? ⟨wo.heap.size,6,none⟩=some (.slice x2 D.of.fields.length d2)∧W'.cell? ⟨wo.heap.size,7,none⟩=some (.slice x3 D.of.methods.length d3)∧W'.cell? ⟨wo.heap.size,8,none⟩=some (.slice x4 D.of.embeds.length d4)∧W'.cell? ⟨wo.heap.size,9,none⟩=some (.slice x5 D.methods.length d5)):=hid fun W' hW=>by
             have hA:qag (fun x=>x=nb∨qa1 F4 s2 x) wr W':=⟨hW.apart.size,hW.apart.block⟩;have hz:=hA.size;have hns:∀ {x:Nat} {T:TypeId} {cs:List Value},Blk wr x T cs→T=3∨T=29∨T=39→¬ (x=nb∨qa1 F4 s2 x):=fun hb hT e=>by
              rcases e with e|e
              ·exact hb.tne HIM.out.blk (by rcases hT with rfl|rfl|rfl <;> decide) e
              ·exact HIM.out.ok.notTurned hb (by rcases hT with rfl|rfl|rfl <;> decide) (by rcases hT with rfl|rfl|rfl <;> decide) (by rcases hT with rfl|rfl|rfl <;> decide) e
             have hfW:=HfB2.out.apart hA (hns HfB2.out (.inr (.inr rfl)));have hS:=HSr.out.apart hA fun x T cs hb hT=>hns hb (hT.imp id .inl);exact⟨⟨by omega,by omega⟩,hS.get hlt,hfW.cell 1,hfW.cell 3,hfW.cell 4,hfW.cell 5,hfW.cell 6,hfW.cell 7,hfW.cell 8,hfW.cell 9⟩
            have hRk:MixR.RelOk (fun w' W'=>qah (fun x=>x=nb∨qa1 F4 s2 x) w' W'):=⟨fun w1 W1 W2 h hb=>h.trans (qah.keep hb),fun w1 W1 h=>h.apart.size⟩;have hwr9:(0:Int)≤(start W k:Int)+D.methods.length∧(start W k:Int)+D.methods.length≤9223372036854775807:=by omega
            clear hfb2
            go_wp2_with fail
            refine MixR.wp_region (R:=fun w' W'=>qah (fun x=>x=nb∨qa1 F4 s2 x) w' W') [0,1,2,3,4,5,6,7,8,9,10,11,12,13,14] [(15,false),(16,false),(17,false)] [] (fun _=>default) (qah.refl _ _) (by kernel_rfl) (by kernel_rfl) (by decide) ?_
            iterate 15 (first|(refine MixR.pre_yes rfl rfl ?_;apply Exists.intro;refine⟨fun W1 hW1 => ?_,?_⟩;(focus (have q:=HXc.out W1 hW1;have r1:=q.1.1;have r2:=q.1.2;have g3:=q.2.1;have e1:=q.2.2.1;have e3:=q.2.2.2.1;have e4:=q.2.2.2.2.1;have e5:=q.2.2.2.2.2.1;have e6:=q.2.2.2.2.2.2.1;have e7:=q.2.2.2.2.2.2.2.1;have e8:=q.2.2.2.2.2.2.2.2.1;have e9:=q.2.2.2.2.2.2.2.2.2;clear q hW1;go_simp;first|exact rfl|fail));simp only[Act.put,zk,zh,zi,ze,qai,qaj,zm,zn])|(refine MixR.pre_no rfl rfl ?_;simp only[Act.put,zk,zh,zi,ze,qai,qaj,zm,zn]))
            refine MixR.pre_end (MixR.fl_op (MixR.fl_op (MixR.fl_op MixR.fl_nil))) (fun W2 hW2 => ?_);have hW2':Below wr.heap.size wr W2:=((zp _ _).drew).trans hW2;refine MixR.mid_turn rfl rfl (fun Kp hKp => ?_);go_simp;rw[qni _ hwr9.1 hwr9.2,show(start W k:Int)+D.methods.length=((start W k+D.methods.length:Nat):Int) by omega];have E2:=BExt.keep HIM.out.ok hW2' (start W k+D.methods.length);have hbD:D.of.bulk+1≤D.bulk:=by unfold Dc.bulk;omega
            have hbW:D.bulk≤qbw W:=by rw[← hDW];exact qee W k hlt
            have hpre:BPre F4 w s2 W2 (k:Int) true D.of (start W k+D.methods.length) (q:Int):=⟨HIM.out.base.ext E2,E2.ok,by omega,by rw[HFW.out];exact Hn4.out,by
              have hv:=HF.out.valid k hlt;unfold qcj qad at hv;simp only[← HD.out,Hq.out] at hv;rw[HFW.out];exact hv,fun n hn hn2=>by
              rw[HFW.out] at hn hn2;have hl':n<F4.W.length:=by rw[HFW.out];exact hn
              cases han:(dc W n).alias with
              | true=>
               obtain⟨al,tn',rhs,u,m,hr⟩:=(HLS.out.setOk n hl' (.inl han)).al (by rw[HFW.out];exact han);exact⟨_,hr.tb⟩
              | false=>
               by_cases hnk:n<k+1
               ·obtain⟨-,b',tn',hr⟩:=HLS.out.rawOk n hl' ⟨han,hnk⟩;exact⟨_,hr.tb⟩
               ·obtain⟨b',tn',U,ux,ra',rc',fs',hr⟩:=(HLS.out.setOk n hl' (.inr (by omega))).nd (by rw[HFW.out];exact han);exact⟨_,hr.tb⟩,fun i i1 i2=>by
              rw[HIM.out.same i (.inr (by rw[HFW.out];exact i1))];exact HDom.out.free hlt (fun h=>by
               rcases h with h|h
               ·rw[← HD.out,Hal.out] at h;cases h
               ·omega) (by omega) (by omega),by rw[hFN];omega,by rw[hFN];omega,by
              rw[HIM.out.ifs];have h1:=Hni.out;have h2:=qfa W (k+1);omega⟩
            have hty:=qma F4 (some ⟨b,o,none⟩) c w (by rw[HFW.out];exact HN.out) (by rw[HFW.out];exact HW.out) HT.out D.of _ W2 s2 (k:Int) true (start W k+D.methods.length) (q:Int) (by omega) Htt.out hpre;rw[hFbb,HFW.out] at hty;refine(hty.mono fun e w' h=>h.pk).mono ?_;rintro e W5 ⟨xx,rfl,Hx⟩;have hE5:=Hx.out.1;have hT2:qah (fun x=>x=nb∨qa1 F4 s2 x) wr.drew W2:=qah.keep hW2;have hT5:qah (fun x=>x=nb∨qa1 F4 s2 x) wr.drew W5:=hT2.trans (hE5.turns.mono fun x _ h => .inr h);refine⟨_,rfl,hKp _ _ hT5 hE5.size (fun i i1 i2=>hE5.turns.apart.block i i2 fun hj=>by have:=HIM.out.ok.turnedLt hj;have:wr.drew.heap.size=wr.heap.size:=rfl;omega) fun W6 hW6 => ?_⟩;simp only[Act.put,zk,zh,zi,ze,qai,qaj,zm,zn];have E6:BExt F4 s2 wr xx.2.2 W6 (start W k+D.methods.length) (start W k+D.methods.length+D.of.size):=(E2.trans hE5 (zl _) (zcb _ _)).trans (BExt.keep hE5.ok hW6 _) (zcb _ _) (zl _);have hG6:G.Le (gOf F4 xx.2.2 (rdA W2.heap.size W5)) (gOf F4 xx.2.2 (rdT W6)):=⟨rfl,rfl,fun _ _ h=>h,fun _ _ h=>h,fun _ h=>h,(qnx _ _).trans (qa0 hW6)⟩;have hL6:LM F4 w (fun d=>(dc W d).alias=false∧d<k) (fun d=>(dc W d).alias=true∨k+1≤d) xx.2.2 W6:=HLM.out.ext E6 (Hx.out.2.2.2.mono hG6 rfl);have hU6:=HIU.out.ext HIM.out.ok E6;have hD6:Den (gOf F4 xx.2.2 (rdT W6)) (qad W k) (.iface xx.1 (.pointer (some xx.2.1))):=by
             have h1:=Den.mono hG6 Hx.out.2.1;unfold qad;rw[← HD.out,Hq.out];exact h1
            have hza:(qad W k).of.kind=1→∀ d,d<F4.W.length→(qad W k).of.num.toNat≤d→((dc W d).alias=true∨k+1≤d):=fun hk' d hd hd2 => .inr (num_gt hBV hlt hk' hd2);have hzb:qdw F4.W (qad W k):=by rw[HFW.out];exact qd9 hBV hlt
            have hzc:qcp F4.W:=by rw[HFW.out];exact hBV
            have hz:=hL6.upk hzc hzb hD6 hza;refine hz.elim fun z hzz => ?_;have z1:=hzz.1;have z2:=hzz.2.1;have Z3:=hzz.2.2;clear hzz hz;have hT6:qah (fun x=>x=nb∨qa1 F4 s2 x) wr.drew W6:=hT5.trans (qah.keep hW6);refine MixR.mid_call hT6 rfl rfl (fun Kp2 hKp2 => ?_);go_simp;refine Z3.out.1.mono ?_;rintro e W7 ⟨rfl,rfl⟩;refine⟨_,rfl,hKp2 _ _ (zp _ _) fun W8 hW8 => ?_⟩;simp only[Act.put,zk,zh,zi,ze,qai,qaj,zm,zn];have hsk:((dc W k).alias=true∨k+1≤k)→D.alias=true:=fun h=>h.elim (fun h=>HD.out ▸ h) fun h=>absurd h (Nat.not_succ_le_self _);have hSU:=setU_at hL6 hU6 hW8 HFW.out HD.out (fun h=>Nat.lt_irrefl _ h.2) hsk Hal.out Z3.out.2.1 Z3.out.2.2;have hT8:qah (fun x=>x=nb∨qa1 F4 s2 x) wr.drew W8:=hT6.trans (qah.keep hW8);refine MixR.mid_turn rfl rfl (fun Kp3 hKp3 => ?_);go_simp;refine hSU.mono ?_;rintro e W9 ⟨rfl,Hy⟩;have hnbl:nb<wr.heap.size:=HIM.out.blk.lt;have hwz:wr.drew.heap.size=wr.heap.size:=rfl;refine⟨_,rfl,hKp3 _ _ (hT8.trans (Hy.out.1.mono fun x _ h => .inl h)) (Nat.le_of_eq Hy.out.2.1.symm) (fun i i1 i2=>Hy.out.1.apart.block i i2 fun hj => ?_) fun W10 hW10 => ?_⟩
            ·rw[hj] at i1;exact absurd hnbl (Nat.not_lt.2 i1)
            simp only[Act.put,zk,zh,zi,ze,qai,qaj,zm,zn];have hRow:(Value.slice (some ⟨rg,0,none⟩) W.length rc).ownBlock=some rg:=rfl;have HSf:Hid (Side W (some ⟨rg,0,none⟩) rc w.heap.size ocs W10):=hid (((HSr.out.turned HIM.out.ok E6.turns.apart).keep hW8).apart (Hy.out.1.apart) (fun x T cs hb hT e=>(hb.tne (hU6.blk.keep hW8) (by rcases hT with rfl|rfl <;> decide) e)) |>.keep hW10);have HDf:Hid (Dom W xx.2.2 (fun d=>(dc W d).alias=true∨k≤d)):=hid (HDom.out.done hlt hN2 (by have h:=HIM.out.same;rw[HFW.out] at h;exact h) E6.same);have HLf:Hid (LL F4 w (fun d=>(dc W d).alias=false∧d<k) (fun d=>(dc W d).alias=true∨k≤d) xx.2.2 W10):=hid (Hy.out.2.2.done hW10);have hnif:=ni_done hlt Hx.out.2.2.1 (HIM.out.ifs ▸ Hni.out) (hDW ▸ hbD);have hz10:wS.heap.size≤W10.heap.size:=Nat.le_trans hzr5 (Nat.le_trans E6.size (Nat.le_trans hW8.size (Nat.le_trans (Nat.le_of_eq Hy.out.2.1.symm) hW10.size)));clear hKp hKp2 hKp3 hW2 hW6 hW8 hW10 hT2 hT5 hT6 hT8 hpre hty E2 hE5 E6 hL6 hU6 hG6 hD6 hSU z1 z2 hza hzb hzc hW2';refine MixR.mid_nil (qvi ?_)
            go_wp2_with fail
            exact⟨⟨k,Nat.le_of_lt hlt,rfl,Nat.le_trans hzr4 (Nat.le_trans (by rw[hzS];exact Nat.le_succ _) hz10),hid ⟨tb4,xx.2.2,by rw[← HF4.out];exact HLf.out,HSf.out,HDf.out,hnif⟩⟩,qvd k⟩
        ·obtain rfl:i=0:=by omega
         have hcov:Hid (LL ((fix0 W (w.heap.size+1+1+1+1) (w.heap.size+1+1+1) (w.heap.size+1) (w.heap.size+1+1) (w2.heap.size+1) w2.heap.size (start W W.length+t.size)).with tb4) w (fun d=>False) (fun d=>True) s1 wr):=hid (HL.out.imp (fun d hd h=>h.elim) (fun d hd h => .inr (Nat.zero_le _)) fun d hd h => .inr trivial);have hDb:=hid (fun(k:Nat) (h:start W W.length≤k)=>HDom.out.beyond h);have hcl:=HSd.out.2;rw[hocs] at hcl;obtain⟨z0,z1,z2,z3,z4,z5⟩:=six hcl.cells;simp only[Nat.zero_add] at z0 z1 z2 z3 z4 z5;have lz:=hcl.lt;have l1:w.heap.size+1+1+1+1<wr.heap.size:=HL.out.ok.bld.lt;have hni0:=Hni.out;rw[List.drop_zero] at hni0;have hN3:=qcv W W.length;have hN4:=qba t;have hpre:BPre ((fix0 W (w.heap.size+1+1+1+1) (w.heap.size+1+1+1) (w.heap.size+1) (w.heap.size+1+1) (w2.heap.size+1) w2.heap.size (start W W.length+t.size)).with tb4) w s1 wr (-1) true t (start W W.length) 0:=⟨hcov.out.base,hcov.out.ok,.inl rfl,HF.out.formed,HF.out.validT,fun n hn _=>by
           have hq:=hcov.out.setOk n hn trivial;unfold qe5 at hq;split at hq
           ·obtain⟨al,tn,rhs,u,m,q⟩:=hq;exact⟨_,q.tb⟩
           ·obtain⟨nb,tn,U,ux,ra',rc',fs,q⟩:=hq;exact⟨_,q.tb⟩,fun i i1 i2=>hDb.out i i1,zl _,by show start W W.length+t.size≤4194304;omega,by omega⟩
         have HTy:=hid ((qma ((fix0 W (w.heap.size+1+1+1+1) (w.heap.size+1+1+1) (w.heap.size+1) (w.heap.size+1+1) (w2.heap.size+1) w2.heap.size (start W W.length+t.size)).with tb4) a c w HN.out HW.out HT.out t _ wr s1 (-1) true (start W W.length) 0 htb Ht.out hpre).mono fun e w' h=>h.pk);clear hpre hcl;rw[show((0:Nat):Int) - 1 = -1 by rfl]
         go_wp2_with (go_at_call 44;refine HTy.out.mono ?_;rintro e w5 ⟨xx,rfl,Hx⟩;have b3:w5.cell? ⟨w.heap.size+1+1+1+1,3,none⟩=some (.slice xx.2.2.ia xx.2.2.ifs.length xx.2.2.ic):=Hx.out.1.ok.bld.cell 3;have l5:w.heap.size+1+1+1+1<w5.heap.size:=Hx.out.1.ok.bld.lt)
         have hBV:qcp W:=fun d hd=>(HF.out.names d hd).2.2.2.1;have HL5:Hid (LM ((fix0 W (w.heap.size+1+1+1+1) (w.heap.size+1+1+1) (w.heap.size+1) (w.heap.size+1+1) (w2.heap.size+1) w2.heap.size (start W W.length+t.size)).with tb4) w (fun _=>False) (fun _=>True) xx.2.2 w5):=hid (hcov.out.toLM.ext Hx.out.1 (Hx.out.2.2.2.mono (show G.Le (gOf _ xx.2.2 (rdA wr.heap.size w5)) (gOf _ xx.2.2 (rdT w5)) from⟨rfl,rfl,fun _ _ h=>h,fun _ _ h=>h,fun _ h=>h,qnx _ _⟩) rfl));have HC5:=hid (HL5.out.ci (fun _=>trivial) HT.out hBV);have HC0:=hid (HL5.out.comp0 (fun _=>trivial) HT.out hBV);have HD5:Hid (Den (gOf ((fix0 W (w.heap.size+1+1+1+1) (w.heap.size+1+1+1) (w.heap.size+1) (w.heap.size+1+1) (w2.heap.size+1) w2.heap.size (start W W.length+t.size)).with tb4) xx.2.2 (rdT w5)) (operand W t) (.iface xx.1 (.pointer (some xx.2.1)))):=hid (Den.mono (show G.Le (gOf _ xx.2.2 (rdA wr.heap.size w5)) (gOf _ xx.2.2 (rdT w5)) from⟨rfl,rfl,fun _ _ h=>h,fun _ _ h=>h,fun _ h=>h,qnx _ _⟩) Hx.out.2.1);have hnx:xx.2.2.ifs.length≤4194304:=Nat.le_trans Hx.out.2.2.1 (by omega);clear b3 z0 z1 z2 z3 z4 z5
         go_loopw [216] (fun j wr=>∃ n:Nat,n≤xx.2.2.ifs.length∧j = .int .i64 n∧Hid (CX ((fix0 W (w.heap.size+1+1+1+1) (w.heap.size+1+1+1) (w.heap.size+1) (w.heap.size+1+1) (w2.heap.size+1) w2.heap.size (start W W.length+t.size)).with tb4) xx.2.2 (muI W) w5 wr∧∃ G,Comp ((fix0 W (w.heap.size+1+1+1+1) (w.heap.size+1+1+1) (w.heap.size+1) (w.heap.size+1+1) (w2.heap.size+1) w2.heap.size (start W W.length+t.size)).with tb4) xx.2.2 (muI W) w wr G n))
          (fun j _=>xx.2.2.ifs.length - (intOf j).toNat)
         case atStart=>exact⟨0,Nat.zero_le _,rfl,hid ⟨CX.refl _ _ _ _,_,HC0.out⟩⟩
         clear HC0
         case round=>
          obtain⟨n,hn,rfl,hst6⟩:=hrel;have HOk6:=hid (HL5.out.ok_cx HC5.out hst6.out.1);by_cases hltn:n<xx.2.2.ifs.length
          ·have hrow:=HOk6.out.ifc hltn;obtain⟨gb,o,he,hc⟩:=hrow;have HCm:=hid (hst6.out.2.choose_spec.call hltn);have hltn':(n:Int)<(xx.2.2.ifs.length:Int):=by omega
           have Hst6:=hid hst6.out.1;clear hst6;rw[he]
           go_wp2_with (go_at_call 49;refine HCm.out.mono ?_;rintro e w6 ⟨rfl,Hy⟩)
           go_roundw
           case rel=>exact⟨n+1,by omega,by go_num,hid ⟨Hst6.out.trans Hy.out.1,Hy.out.2⟩⟩
           case measure=>simp[intOf];omega
          ·obtain rfl:n=xx.2.2.ifs.length:=by omega
           have HB:=hid (HL5.out.built (fun _=>trivial) HC5.out hst6.out.1 hst6.out.2.choose_spec);have HDe:Hid (Den (gOf ((fix0 W (w.heap.size+1+1+1+1) (w.heap.size+1+1+1) (w.heap.size+1) (w.heap.size+1+1) (w2.heap.size+1) w2.heap.size (start W W.length+t.size)).with tb4) xx.2.2 (rdT wr)) (operand W t) (.iface xx.1 (.pointer (some xx.2.1)))):=hid (Den.mono (show G.Le (gOf _ xx.2.2 (rdT w5)) (gOf _ xx.2.2 (rdT wr)) from⟨rfl,rfl,fun _ _ h=>h,fun _ _ h=>h,fun _ h=>h,(CX.parts HC5.out hst6.out.1).choose_spec.2.1⟩) HD5.out);have HBe:=hid hst6.out.2.choose_spec.ci.below;clear hst6
           go_wp2_with fail
           go_ret2
           exact⟨⟨(fix0 W (w.heap.size+1+1+1+1) (w.heap.size+1+1+1) (w.heap.size+1) (w.heap.size+1+1) (w2.heap.size+1) w2.heap.size (start W W.length+t.size)).with tb4,xx.2.2,xx.1,xx.2.1⟩,rfl,hid ⟨rfl,rfl,HB.out,HDe.out,HBe.out⟩⟩
