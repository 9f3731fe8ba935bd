import Derived.Test.YtmfhclggkjjcdaaGreatDoorLWWrapC
set_option linter.all false
set_option maxHeartbeats 2000000
namespace Go.Proofs.YtmfhclggkjjcdaaGreatDoor
open Go Go.RowKit Go.Proofs.Tryz
set_option maxRecDepth 100000
def ndC (d:Nat):List Value:=[.int .i64 1,.int .i64 d,.slice none 0 0,.slice none 0 0,.slice none 0 0,.slice none 0 0]
def fdC (d:Nat):List Value:=[.int .i64 0,.bool true,.int .i64 1,.int .i64 d,.slice none 0 0,.slice none 0 0,.slice none 0 0,.slice none 0 0]
def fdsC (D:List Nat):List Value:=D.flatMap fdC
theorem structure_nds (w:World) (b o:Nat) (D:List Nat) (hD:D.length≤1024) (hpos:0<D.length) (hc:∀ j,j<D.length→qat w b (o+j * 6) (ndC (D.getD j 0))):
  Calls prog 7 #[.slice (some ⟨b,o,none⟩) D.length D.length] w fun e w'=>∃ x:Nat×Nat,e = .returned (.agg #[.int .i64 4,.int .i64 0,.slice none 0 0,.slice (some ⟨x.1,0,none⟩) D.length x.2,.slice none 0 0,.slice none 0 0])∧
   Hid (qat w' x.1 0 (fdsC D)∧D.length≤x.2∧Below w.heap.size w w'):=by
 have HC:=hid hc;obtain⟨i0,z0,q0,q1,q2,q3,q4⟩:=info_cells Tryz.infoFd2;obtain⟨N,hN⟩:∃ N,N=D.length:=⟨_,rfl⟩;rw[← hN] at HC hD hpos ⊢;have HN':=hid hN;have hN2:(N:Int)≤1024:=by omega
 clear hc hN;go_enter func7,ntmps7
 go_wp2_with fail
 have HB1:Hid (Below w.heap.size w ((w.alloc (.cells #[.int .i64 0,.int .i64 0,.slice none 0 0,.slice none 0 0,.slice none 0 0,.slice none 0 0] 29)).alloc (.cells #[.int .i64 4,.int .i64 0,.slice none 0 0,.slice none 0 0,.slice none 0 0,.slice none 0 0] 29))):=hid (((zp _ _).alloc (zl _) _).alloc (by simp) _);have HR1:Hid (Blk ((w.alloc (.cells #[.int .i64 0,.int .i64 0,.slice none 0 0,.slice none 0 0,.slice none 0 0,.slice none 0 0] 29)).alloc (.cells #[.int .i64 4,.int .i64 0,.slice none 0 0,.slice none 0 0,.slice none 0 0,.slice none 0 0] 29)) w.heap.size 29 [.int .i64 0,.int .i64 0,.slice none 0 0,.slice none 0 0,.slice none 0 0,.slice none 0 0]):=hid ((Blk.new w 29 [.int .i64 0,.int .i64 0,.slice none 0 0,.slice none 0 0,.slice none 0 0,.slice none 0 0]).alloc _);have HT1:Hid (Blk ((w.alloc (.cells #[.int .i64 0,.int .i64 0,.slice none 0 0,.slice none 0 0,.slice none 0 0,.slice none 0 0] 29)).alloc (.cells #[.int .i64 4,.int .i64 0,.slice none 0 0,.slice none 0 0,.slice none 0 0,.slice none 0 0] 29)) (w.heap.size+1) 29 [.int .i64 4,.int .i64 0,.slice none 0 0,.slice none 0 0,.slice none 0 0,.slice none 0 0]):=hid (by
  have h:=Blk.new (w.alloc (.cells #[.int .i64 0,.int .i64 0,.slice none 0 0,.slice none 0 0,.slice none 0 0,.slice none 0 0] 29)) 29 [.int .i64 4,.int .i64 0,.slice none 0 0,.slice none 0 0,.slice none 0 0,.slice none 0 0];rw[zd] at h;exact h)
 generalize ((w.alloc (.cells #[.int .i64 0,.int .i64 0,.slice none 0 0,.slice none 0 0,.slice none 0 0,.slice none 0 0] 29)).alloc (.cells #[.int .i64 4,.int .i64 0,.slice none 0 0,.slice none 0 0,.slice none 0 0,.slice none 0 0] 29))=w1 at HB1 HR1 HT1 ⊢
 go_loopw [9] (fun jv wr=>∃ j fa fc,jv = .int .i64 (j:Nat)∧Hid (j≤N)∧Hid (Below w.heap.size w wr∧Blk wr w.heap.size 29 [.int .i64 0,.int .i64 0,.slice none 0 0,.slice none 0 0,.slice none 0 0,.slice none 0 0]∧Blk wr (w.heap.size+1) 29 [.int .i64 4,.int .i64 0,.slice none 0 0,.slice fa j fc,.slice none 0 0,.slice none 0 0]∧wr.ownsRow 0 60 8 (.slice fa j fc) j (fdsC (D.take j))∧∀ g,(Value.slice fa j fc).ownBlock=some g→w.heap.size≤g)) (fun jv _=>N - (intOf jv).toNat)
 case atStart=>exact⟨0,none,0,rfl,hid (Nat.zero_le _),hid ⟨HB1.out,HR1.out,HT1.out,zdb _ _ _ _,fun g h=>by cases h⟩⟩
 case round=>
  obtain⟨j,fa,fc,rfl,Hj,HX⟩:=hrel;by_cases hjn:j<N
  ·have hji:(j:Int)<(N:Int):=by omega
   have hwr:IntKind.i64.wrap ((j:Int)+1)=((j+1:Nat):Int):=by rw[qni _ (by omega) (by omega)];rfl
   have HCr:=hid ((HC.out j hjn).keep (qac.below HX.out.1));have g0:=HCr.out 0 _ rfl;have g1:=HCr.out 1 _ rfl;have g2:=HCr.out 2 _ rfl;have g3:=HCr.out 3 _ rfl;have g4:=HCr.out 4 _ rfl;have g5:=HCr.out 5 _ rfl;have lb:=zj wr _ g0;simp only at lb;simp only[Nat.add_zero] at g0;have t3:=HX.out.2.2.1.cell 3;simp only[zu,zt] at t3;have lt:=HX.out.2.2.1.lt;obtain⟨dj,hdj⟩:∃ dj,dj=D.getD j 0:=⟨_,rfl⟩;have Hdj:=hid hdj;rw[← hdj] at g1;clear hdj;have HN:Hid (Blk ((wr.alloc (.cells #[.int .i64 1,.int .i64 dj,.slice none 0 0,.slice none 0 0,.slice none 0 0,.slice none 0 0] 29)).alloc (.cells (fdC dj).toArray 60)) (wr.heap.size+1) 60 (fdC dj)):=hid (by
    have h:=Blk.new (wr.alloc (.cells #[.int .i64 1,.int .i64 dj,.slice none 0 0,.slice none 0 0,.slice none 0 0,.slice none 0 0] 29)) 60 (fdC dj);rw[zd] at h;exact h)
   have HA:Hid (Below wr.heap.size wr ((wr.alloc (.cells #[.int .i64 1,.int .i64 dj,.slice none 0 0,.slice none 0 0,.slice none 0 0,.slice none 0 0] 29)).alloc (.cells (fdC dj).toArray 60))):=hid (((zp _ _).alloc (zl _) _).alloc (by simp) _);have HO:=row_ HX.out.2.2.2.1 HA.out
   go_wp2_with (at_builtin;go_loud (refine qb2 _ rfl _ _ 26 rfl 60 i0 z0 8 128 underlying26 q0 q1 q2 q3 q4 (by decide) (.slice fa j fc) j (fdsC (D.take j)) rfl HO.out ⟨wr.heap.size+1,0,none⟩ 1 1 (fdC dj) rfl rfl (qck HN.out) (by simp[fdC,Value.oneCell']) (by unfold maxLen;omega) (by omega) (by decide) fun v' w9 hown' hgrow hloc => ?_);have HAp:Hid (qag (fun g=>(Value.slice fa j fc).ownBlock=some g) _ w9):=hid (qag.grown hgrow fun b h _=>h);have HTb:=hid ((HX.out.2.2.1.keep HA.out).apart HAp.out (fun h=>by obtain⟨cs,hx⟩:=qaf HX.out.2.2.2.1 h;exact hx.tne HX.out.2.2.1 (by decide) rfl));have HRb:=hid ((HX.out.2.1.keep HA.out).apart HAp.out (fun h=>by obtain⟨cs,hx⟩:=qaf HX.out.2.2.2.1 h;exact hx.tne HX.out.2.1 (by decide) rfl));have HBb:Hid (Below w.heap.size w w9):=hid ((HX.out.1.trans (HA.out.mono HX.out.1.size)).grown hgrow (HX.out.1.trans (HA.out.mono HX.out.1.size)).size HX.out.2.2.2.2);have Hloc:Hid (∀ g,v'.ownBlock=some g→w.heap.size≤g):=hid (fun g hg=>hloc.elim (fun e=>HX.out.2.2.2.2 g (e ▸ hg)) fun e=>by rw[e] at hg;injection hg with hg;have:=HX.out.1.size;simp only[zd] at hg;omega);have Ho9:=hid hown';clear hown' hgrow hloc;refine(qak Ho9.out).elim fun fa2 h=>h.elim fun fc2 h => ?_;have ev:=h.1;clear h;subst ev;have e3:=HTb.out.cell 3;have f3:=HTb.out.soft 3;(simp only[zu,zt] at e3))
   have hS:=qag.setCell (fun g=>g=w.heap.size+1) w9 (a:=⟨w.heap.size+1,3,none⟩) rfl (.slice fa2 (j+1) fc2);have hfd:fdsC (D.take (j+1))=fdsC (D.take j)++fdC dj:=by
    have h1:j<D.length:=by rw[← HN'.out];exact hjn
    have h2:D.take (j+1)=D.take j++[D.getD j 0]:=by
     rw[List.take_succ_eq_append_getElem h1];simp[h1]
    rw[h2,← Hdj.out];simp[fdsC]
   refine⟨⟨j+1,fa2,fc2,rfl,hid (by omega),hid ⟨Below.setCell HBb.out (Nat.le_succ _) _,HRb.out.apart hS (by omega),HTb.out.set 3 _,?_,Hloc.out⟩⟩,by simp[intOf];omega⟩;rw[hfd];refine qab Ho9.out hS fun g hg e => ?_;obtain⟨cs,hx⟩:=qaf Ho9.out hg;exact hx.tne HTb.out (by decide) e
  ·have hjN:j=N:=by have:=Hj.out;omega
   subst hjN;have hnl:decide ((j:Int)<(j:Int))=false:=by simp
   have t0:=HX.out.2.2.1.cell 0;have t1:=HX.out.2.2.1.cell 1;have t2:=HX.out.2.2.1.cell 2;have t3:=HX.out.2.2.1.cell 3;have t4:=HX.out.2.2.1.cell 4;have t5:=HX.out.2.2.1.cell 5;have r0:=HX.out.2.1.cell 0;have r1:=HX.out.2.1.cell 1;have r2:=HX.out.2.1.cell 2;have r3:=HX.out.2.1.cell 3;have r4:=HX.out.2.1.cell 4;have r5:=HX.out.2.1.cell 5;simp only[zu,zt] at t0 t1 t2 t3 t4 t5 r0 r1 r2 r3 r4 r5;have s0:=HX.out.2.1.soft 0;have s1:=HX.out.2.1.soft 1;have s2:=HX.out.2.1.soft 2;have s3:=HX.out.2.1.soft 3;have s4:=HX.out.2.1.soft 4;have s5:=HX.out.2.1.soft 5;cases fa with
   | none=>
    obtain⟨_,_,he,-,-,h2⟩:=qak HX.out.2.2.2.1;cases he;have:=(h2 rfl).1;omega
   | some ad=>
    obtain⟨_,_,he,hcap,h1,-⟩:=qak HX.out.2.2.2.1;cases he;obtain⟨g,rfl,-,hgo,-⟩:=h1 ad rfl;have Hcap:=hid hcap;have Hgo:=hid hgo;have HT:Hid (D.take j=D):=hid (by rw[HN'.out];exact zeb);clear h1 hcap hgo
    go_wp2_with fail
    (try simp only[Exit.inBlock,Exit.then])
    have HQ:=hid (put6_blk HX.out.2.1 (.int .i64 4) (.int .i64 0) (.slice none 0 0) (.slice (some ⟨g,0,none⟩) j fc) (.slice none 0 0) (.slice none 0 0));refine bodyPost_ret (qd1 (v := .agg #[.int .i64 4,.int .i64 0,.slice none 0 0,.slice (some ⟨g,0,none⟩) j fc,.slice none 0 0,.slice none 0 0]) rfl _ _ _ rfl ?_) rfl ?_
    ·have q0:=HQ.out.cell 0;have q1:=HQ.out.cell 1;have q2:=HQ.out.cell 2;have q3:=HQ.out.cell 3;have q4:=HQ.out.cell 4;have q5:=HQ.out.cell 5;simp only[put6,put4,zu,zt] at q0 q1 q2 q3 q4 q5;go_simp
    ·have hO:=qab HX.out.2.2.2.1 (put6_apart wr w.heap.size (.int .i64 4) (.int .i64 0) (.slice none 0 0) (.slice (some ⟨g,0,none⟩) j fc) (.slice none 0 0) (.slice none 0 0)) fun b hb e=>by
      obtain⟨cs,hx⟩:=qaf HX.out.2.2.2.1 hb;exact hx.tne HX.out.2.1 (by decide) e
     obtain⟨_,_,he,-,h1,-⟩:=qak hO;cases he;obtain⟨g',e,-,-,hC⟩:=h1 _ rfl;cases e;rw[HT.out] at hC;exact⟨(g,fc),rfl,hid ⟨hC,Hcap.out,put6_below HX.out.1 (zl _) _ _ _ _ _ _⟩⟩
theorem tyC_two {w:World} {d e b c:Nat} (hd:d≤1048576) (he:e≤1048576) (h:qat w b 0 (fdsC [d,e])) (hc:2≤c):
  TyC w (stT [.mk 0 true (ndT d),.mk 0 true (ndT e)]) [.int .i64 4,.int .i64 0,.slice none 0 0,.slice (some ⟨b,0,none⟩) 2 c,.slice none 0 0,.slice none 0 0]:=by
 unfold stT;simp only[TyC];refine⟨none,0,some ⟨b,0,none⟩,c,none,0,none,0,rfl,⟨zl _,hc,zl _,zl _⟩,⟨by omega,by omega⟩,⟨by omega,by omega⟩,?_,?_,?_,?_⟩
 ·simp only[TysR]
 ·simp only[FdsR,and_true,FdE];refine⟨⟨b,0,ndC d,rfl,⟨by omega,by omega⟩,fun j v hj => ?_,tyC_nd hd⟩,⟨b,0,ndC e,rfl,⟨by omega,by omega⟩,fun j v hj => ?_,tyC_nd he⟩⟩
  ·refine h j v ?_;have hl:j<8:=by
    have:=(zjb.1 hj).1;simpa[ndC] using this
   show(fdC d++(fdC e++[]))[j]?=some v;rw[List.getElem?_append_left (by simpa[fdC] using hl)];exact hj
  ·have h2:=h (8+j) v ?_
   ·rw[show 0+(8+j)=0+(0+1) * 8+j by omega] at h2;exact h2
   ·show(fdC d++(fdC e++[]))[8+j]?=some v;rw[List.getElem?_append_right (by simp[fdC]),List.append_nil];rw[show 8+j - (fdC d).length=j by simp[fdC]];exact hj
 ·simp only[MsR]
 ·simp only[TysR]
