import Derived.Test.YtmfhclggkjjcdaaGreatDoorK34
import Derived.Test.YtmfhclggkjjcdaaGreatDoorK43
import Derived.Test.YtmfhclggkjjcdaaGreatDoorK44
set_option linter.all false
set_option maxHeartbeats 2000000
namespace Go.Proofs.YtmfhclggkjjcdaaGreatDoor
open Go Go.RowKit
set_option maxRecDepth 100000
theorem idS_sameF:∀ i:Fin 16,∀ j:Fin 16,∀ p:Fin 2,∀ q:Fin 2,(idL (p.val:Nat) (i.val:Nat)=idL (q.val:Nat) (j.val:Nat))=(qbp (p.val:Nat) (i.val:Nat) (q.val:Nat) (j.val:Nat)=true):=by
 have h:∀ i:Fin 16,∀ j:Fin 16,∀ p:Fin 2,∀ q:Fin 2,(idL (p.val:Nat) (i.val:Nat)=idL (q.val:Nat) (j.val:Nat))↔(qbp (p.val:Nat) (i.val:Nat) (q.val:Nat) (j.val:Nat)=true):=by decide +kernel
 exact fun i j p q=>propext (h i j p q)
theorem idS_same {p n q m:Int} (hp:p=0∨p=1) (hq:q=0∨q=1) (hn:IsNm n) (hm:IsNm m):idS p n=idS q m↔qbp p n q m=true:=by
 unfold IsNm at hn hm;have h:=idS_sameF ⟨n.toNat,by omega⟩ ⟨m.toNat,by omega⟩ ⟨p.toNat,by omega⟩ ⟨q.toNat,by omega⟩;simp only[show((p.toNat:Nat):Int)=p by omega,show((q.toNat:Nat):Int)=q by omega,show((n.toNat:Nat):Int)=n by omega,show((m.toNat:Nat):Int)=m by omega] at h;rw[← h];unfold idS;constructor
 ·intro e;injection e with e;simpa using e
 ·intro e;rw[e]
theorem idS_toL {p n q m:Int} (hp:p=0∨p=1) (hq:q=0∨q=1) (hn:IsNm n) (hm:IsNm m) (h:qbp q m p n=false):¬ (idS p n).toList=(idS q m).toList:=by
 have key:∀ i:Fin 16,∀ j:Fin 16,∀ p:Fin 2,∀ q:Fin 2,qbp (q.val:Nat) (j.val:Nat) (p.val:Nat) (i.val:Nat)=false→¬ (idS (p.val:Nat) (i.val:Nat)).toList=(idS (q.val:Nat) (j.val:Nat)).toList:=by decide +kernel
 unfold IsNm at hn hm;have h2:=key ⟨n.toNat,by omega⟩ ⟨m.toNat,by omega⟩ ⟨p.toNat,by omega⟩ ⟨q.toNat,by omega⟩;simp only[show((p.toNat:Nat):Int)=p by omega,show((q.toNat:Nat):Int)=q by omega,show((n.toNat:Nat):Int)=n by omega,show((m.toNat:Nat):Int)=m by omega] at h2;exact h2 h
theorem named_any (d:Int) (w:World):Calls Tryz.prog 9 #[.int .i64 d] w (qa2 (.agg #[.int .i64 1,.int .i64 d,.slice none 0 0,.slice none 0 0,.slice none 0 0,.slice none 0 0]) w):=by
 go_enter Tryz.func9,Tryz.ntmps9
 go_wp2_with fail
 (try simp only[Exit.inBlock,Exit.then])
 refine bodyPost_ret (qd1 (v := .agg #[.int .i64 1,.int .i64 d,.slice none 0 0,.slice none 0 0,.slice none 0 0,.slice none 0 0]) rfl _ _ _ rfl ?_) rfl ?_
 ·go_simp
 ·exact⟨rfl,(zp _ _).alloc (zl _) _⟩
theorem tyC_nd {w:World} {d:Nat} (h:d≤1048576):TyC w (ndT d) [.int .i64 1,.int .i64 d,.slice none 0 0,.slice none 0 0,.slice none 0 0,.slice none 0 0]:=by
 unfold ndT;simp only[TyC];refine⟨none,0,none,0,none,0,none,0,rfl,⟨zl _,zl _,zl _,zl _⟩,⟨by omega,by omega⟩,⟨by omega,by omega⟩,?_,?_,?_,?_⟩
 ·simp only[TysR]
 ·simp only[FdsR]
 ·simp only[MsR]
 ·simp only[TysR]
theorem pointer_any (w:World) (v0 v1 v2 v3 v4 v5:Value):Calls Tryz.prog 8 #[.agg #[v0,v1,v2,v3,v4,v5]] w fun e w'=>
  ∃ b,e = .returned (.agg #[.int .i64 2,.int .i64 0,.slice (some ⟨b,0,none⟩) 1 1,.slice none 0 0,.slice none 0 0,.slice none 0 0])∧qat w' b 0 [v0,v1,v2,v3,v4,v5]∧Below w.heap.size w w':=by
 go_enter Tryz.func8,Tryz.ntmps8
 go_wp2_with fail
 (try simp only[Exit.inBlock,Exit.then])
 refine bodyPost_ret (qd1 (v := .agg #[.int .i64 2,.int .i64 0,.slice (some ⟨w.heap.size+1+1,0,none⟩) 1 1,.slice none 0 0,.slice none 0 0,.slice none 0 0]) rfl _ _ _ rfl ?_) rfl ?_
 ·go_simp
 ·refine⟨w.heap.size+1+1,rfl,?_,?_⟩
  ·have h:=(Blk.new ((w.alloc (.cells #[v0,v1,v2,v3,v4,v5] 29)).alloc (.cells #[.int .i64 2,.int .i64 0,.slice (some ⟨w.heap.size+1+1,0,none⟩) 1 1,.slice none 0 0,.slice none 0 0,.slice none 0 0] 29)) 29 [v0,v1,v2,v3,v4,v5]).cells;simp only[zd] at h;exact h
  ·exact(((zp _ _).alloc (zl _) _).alloc (by simp only[zd];omega) _).alloc (by simp only[zd];omega) _
theorem tyC_ptr {w:World} {t:Ty} {b:Nat} {cs:List Value} (h:qat w b 0 cs) (ht:TyC w t cs):
  TyC w (ptrT t) [.int .i64 2,.int .i64 0,.slice (some ⟨b,0,none⟩) 1 1,.slice none 0 0,.slice none 0 0,.slice none 0 0]:=by
 unfold ptrT;simp only[TyC];refine⟨some ⟨b,0,none⟩,1,none,0,none,0,none,0,rfl,⟨zl _,zl _,zl _,zl _⟩,⟨by omega,by omega⟩,⟨by omega,by omega⟩,?_,?_,?_,?_⟩
 ·simp only[TysR,and_true];exact⟨b,0,cs,rfl,h,ht⟩
 ·simp only[FdsR]
 ·simp only[MsR]
 ·simp only[TysR]
theorem tyC_st {w:World} {t:Ty} {b c:Nat} {cs:List Value} (h:qat w b 0 (.int .i64 0 :: .bool true::cs)) (hc:1≤c) (ht:TyC w t cs):
  TyC w (stT [.mk 0 true t]) [.int .i64 4,.int .i64 0,.slice none 0 0,.slice (some ⟨b,0,none⟩) 1 c,.slice none 0 0,.slice none 0 0]:=by
 unfold stT;simp only[TyC];refine⟨none,0,some ⟨b,0,none⟩,c,none,0,none,0,rfl,⟨zl _,hc,zl _,zl _⟩,⟨by omega,by omega⟩,⟨by omega,by omega⟩,?_,?_,?_,?_⟩
 ·simp only[TysR]
 ·simp only[FdsR,and_true,FdE];exact⟨b,0,cs,rfl,⟨by omega,by omega⟩,h,ht⟩
 ·simp only[MsR]
 ·simp only[TysR]
theorem ambiguous_any (o:Int) (m i:Bool) (n c:Nat) (a:Option Addr) (w:World):Calls Tryz.prog 15 #[.agg #[.int .i64 o,.bool m,.slice a n c,.bool i]] w (qa2 (.bool (decide (o<0)&&!m&&!i&&decide (0<n))) w):=by
 by_cases ho:o<0
 ·have h1:decide (o<0)=true:=by simpa using ho
  cases m <;> cases i
  all_goals
   rw[h1];go_enter Tryz.func15,Tryz.ntmps15
   go_wp2_with fail
   go_ret
   refine⟨?_,(zp _ _).alloc (zl _) _⟩
   first|rfl|simp
 ·have h1:decide (o<0)=false:=by simpa using ho
  rw[h1];go_enter Tryz.func15,Tryz.ntmps15
  go_wp2_with fail
  go_ret
  refine⟨?_,(zp _ _).alloc (zl _) _⟩
  first|rfl|simp
theorem Tryz.infoFd2:(Tryz.prog.info? 60).map (fun i=>(i.zero.map (·.cells.size),i.size,i.bytes))=some (some 8,8,128):=by kernel_rfl
theorem info_cells {P:Program} {e:TypeId} {n b:Nat} (h:(P.info? e).map (fun i=>(i.zero.map (·.cells.size),i.size,i.bytes))=some (some n,n,b)):∃ i z,P.info? e=some i∧i.zero=some z∧i.size=n∧i.bytes=b∧z.cells.size=n:=by
 obtain⟨i,q0,q1⟩:=zbb.1 h;simp only[Prod.mk.injEq] at q1;obtain⟨z,hz,hc⟩:=zbb.1 q1.1;exact⟨i,z,q0,hz,q1.2.1,q1.2.2,hc⟩
theorem qat.apart {S:Nat→Prop} {w w':World} {b o:Nat} {cs:List Value} (h:qat w b o cs) (ha:qag S w w') (hb:¬ S b):qat w' b o cs:=fun j v hv=>by
 have h1:=h j v hv;exact(zlb (ha.block _ (zj w _ h1) hb)).trans h1
def put6 (w:World) (b:Nat) (v0 v1 v2 v3 v4 v5:Value):World:=((put4 w b v0 v1 v2 v3).setCell ⟨b,4,none⟩ v4).setCell ⟨b,5,none⟩ v5
theorem put6_blk {w:World} {b:Nat} {T:TypeId} {u0 u1 u2 u3 u4 u5:Value} (h:Blk w b T [u0,u1,u2,u3,u4,u5]) (v0 v1 v2 v3 v4 v5:Value):Blk (put6 w b v0 v1 v2 v3 v4 v5) b T [v0,v1,v2,v3,v4,v5]:=
 (((((h.set 0 v0).set 1 v1).set 2 v2).set 3 v3).set 4 v4).set 5 v5
theorem put6_apart (w:World) (b:Nat) (v0 v1 v2 v3 v4 v5:Value):qag (fun g=>g=b) w (put6 w b v0 v1 v2 v3 v4 v5):=
 ((qrl w b v0 v1 v2 v3).trans (qag.setCell (fun g=>g=b) _ (a:=⟨b,4,none⟩) rfl v4)).trans (qag.setCell (fun g=>g=b) _ (a:=⟨b,5,none⟩) rfl v5)
theorem put6_below {w0 w:World} {B b:Nat} (h:Below B w0 w) (hb:B≤b) (v0 v1 v2 v3 v4 v5:Value):Below B w0 (put6 w b v0 v1 v2 v3 v4 v5):=
 Below.setCell (Below.setCell (qru h hb v0 v1 v2 v3) (by simpa using hb) _) (by simpa using hb) _
theorem structure_one (w:World) (b:Nat) (k1 k2:Int) (p1 p2 p3 p4:Option Addr) (n1 n2 n3 n4 c1 c2 c3 c4:Nat) (hc:qat w b 0 [.int .i64 k1,.int .i64 k2,.slice p1 n1 c1,.slice p2 n2 c2,.slice p3 n3 c3,.slice p4 n4 c4]):
  Calls Tryz.prog 7 #[.slice (some ⟨b,0,none⟩) 1 1] w fun e w'=>∃ x:Nat×Nat,e = .returned (.agg #[.int .i64 4,.int .i64 0,.slice none 0 0,.slice (some ⟨x.1,0,none⟩) 1 x.2,.slice none 0 0,.slice none 0 0])∧
   Hid (qat w' x.1 0 [.int .i64 0,.bool true,.int .i64 k1,.int .i64 k2,.slice p1 n1 c1,.slice p2 n2 c2,.slice p3 n3 c3,.slice p4 n4 c4]∧1≤x.2∧Below w.heap.size w w'):=by
 have HC:=hid hc;obtain⟨i0,z0,q0,q1,q2,q3,q4⟩:=info_cells Tryz.infoFd2;clear hc;go_enter Tryz.func7,Tryz.ntmps7
 go_wp2_with fail
 have HB1:Hid (Below w.heap.size w ((w.alloc (.cells #[.int .i64 0,.int .i64 0,.slice none 0 0,.slice none 0 0,.slice none 0 0,.slice none 0 0] 29)).alloc (.cells #[.int .i64 4,.int .i64 0,.slice none 0 0,.slice none 0 0,.slice none 0 0,.slice none 0 0] 29))):=hid (((zp _ _).alloc (zl _) _).alloc (by simp) _);have HR1:Hid (Blk ((w.alloc (.cells #[.int .i64 0,.int .i64 0,.slice none 0 0,.slice none 0 0,.slice none 0 0,.slice none 0 0] 29)).alloc (.cells #[.int .i64 4,.int .i64 0,.slice none 0 0,.slice none 0 0,.slice none 0 0,.slice none 0 0] 29)) w.heap.size 29 [.int .i64 0,.int .i64 0,.slice none 0 0,.slice none 0 0,.slice none 0 0,.slice none 0 0]):=hid ((Blk.new w 29 [.int .i64 0,.int .i64 0,.slice none 0 0,.slice none 0 0,.slice none 0 0,.slice none 0 0]).alloc _);have HT1:Hid (Blk ((w.alloc (.cells #[.int .i64 0,.int .i64 0,.slice none 0 0,.slice none 0 0,.slice none 0 0,.slice none 0 0] 29)).alloc (.cells #[.int .i64 4,.int .i64 0,.slice none 0 0,.slice none 0 0,.slice none 0 0,.slice none 0 0] 29)) (w.heap.size+1) 29 [.int .i64 4,.int .i64 0,.slice none 0 0,.slice none 0 0,.slice none 0 0,.slice none 0 0]):=hid (by
  have h:=Blk.new (w.alloc (.cells #[.int .i64 0,.int .i64 0,.slice none 0 0,.slice none 0 0,.slice none 0 0,.slice none 0 0] 29)) 29 [.int .i64 4,.int .i64 0,.slice none 0 0,.slice none 0 0,.slice none 0 0,.slice none 0 0];rw[zd] at h;exact h)
 generalize ((w.alloc (.cells #[.int .i64 0,.int .i64 0,.slice none 0 0,.slice none 0 0,.slice none 0 0,.slice none 0 0] 29)).alloc (.cells #[.int .i64 4,.int .i64 0,.slice none 0 0,.slice none 0 0,.slice none 0 0,.slice none 0 0] 29))=w1 at HB1 HR1 HT1 ⊢
 go_loopw [9] (fun jv wr=>(jv = .int .i64 0∧Hid (Below w.heap.size w wr∧Blk wr w.heap.size 29 [.int .i64 0,.int .i64 0,.slice none 0 0,.slice none 0 0,.slice none 0 0,.slice none 0 0]∧Blk wr (w.heap.size+1) 29 [.int .i64 4,.int .i64 0,.slice none 0 0,.slice none 0 0,.slice none 0 0,.slice none 0 0]))∨(jv = .int .i64 1∧Hid (Below w.heap.size w wr∧Blk wr w.heap.size 29 [.int .i64 0,.int .i64 0,.slice none 0 0,.slice none 0 0,.slice none 0 0,.slice none 0 0]∧∃ fb fc,1≤fc∧qat wr fb 0 [.int .i64 0,.bool true,.int .i64 k1,.int .i64 k2,.slice p1 n1 c1,.slice p2 n2 c2,.slice p3 n3 c3,.slice p4 n4 c4]∧
   Blk wr (w.heap.size+1) 29 [.int .i64 4,.int .i64 0,.slice none 0 0,.slice (some ⟨fb,0,none⟩) 1 fc,.slice none 0 0,.slice none 0 0]))) (fun jv _=>1 - (intOf jv).toNat)
 case atStart=>exact .inl ⟨rfl,hid ⟨HB1.out,HR1.out,HT1.out⟩⟩
 case round=>
  rcases hrel with ⟨rfl,HX⟩|⟨rfl,HX⟩
  ·have HCr:=hid (HC.out.keep (qac.below HX.out.1));have g0:=HCr.out 0 _ rfl;have g1:=HCr.out 1 _ rfl;have g2:=HCr.out 2 _ rfl;have g3:=HCr.out 3 _ rfl;have g4:=HCr.out 4 _ rfl;have g5:=HCr.out 5 _ rfl;have lb:=zj wr _ g0;simp only at lb;simp only[Nat.zero_add] at g0 g1 g2 g3 g4 g5;have t3:=HX.out.2.2.cell 3;simp only[zu,zt] at t3;have lt:=HX.out.2.2.lt;have HN:Hid (Blk ((wr.alloc (.cells #[.int .i64 k1,.int .i64 k2,.slice p1 n1 c1,.slice p2 n2 c2,.slice p3 n3 c3,.slice p4 n4 c4] 29)).alloc (.cells ([.int .i64 0,.bool true,.int .i64 k1,.int .i64 k2,.slice p1 n1 c1,.slice p2 n2 c2,.slice p3 n3 c3,.slice p4 n4 c4]:List Value).toArray 60)) (wr.heap.size+1) 60 [.int .i64 0,.bool true,.int .i64 k1,.int .i64 k2,.slice p1 n1 c1,.slice p2 n2 c2,.slice p3 n3 c3,.slice p4 n4 c4]):=hid (by
    have h:=Blk.new (wr.alloc (.cells #[.int .i64 k1,.int .i64 k2,.slice p1 n1 c1,.slice p2 n2 c2,.slice p3 n3 c3,.slice p4 n4 c4] 29)) 60 [.int .i64 0,.bool true,.int .i64 k1,.int .i64 k2,.slice p1 n1 c1,.slice p2 n2 c2,.slice p3 n3 c3,.slice p4 n4 c4];rw[zd] at h;exact h)
   have HA:Hid (Below wr.heap.size wr ((wr.alloc (.cells #[.int .i64 k1,.int .i64 k2,.slice p1 n1 c1,.slice p2 n2 c2,.slice p3 n3 c3,.slice p4 n4 c4] 29)).alloc (.cells ([.int .i64 0,.bool true,.int .i64 k1,.int .i64 k2,.slice p1 n1 c1,.slice p2 n2 c2,.slice p3 n3 c3,.slice p4 n4 c4]:List Value).toArray 60))):=hid (((zp _ _).alloc (zl _) _).alloc (by simp) _)
   go_wp2_with (at_builtin;go_loud (refine qb2 _ rfl _ _ 26 rfl 60 i0 z0 8 128 Tryz.underlying26 q0 q1 q2 q3 q4 (by decide) (.slice none 0 0) 0 [] rfl (zdb _ _ _ _) ⟨wr.heap.size+1,0,none⟩ 1 1 [.int .i64 0,.bool true,.int .i64 k1,.int .i64 k2,.slice p1 n1 c1,.slice p2 n2 c2,.slice p3 n3 c3,.slice p4 n4 c4] rfl rfl (qck HN.out) (by simp[Value.oneCell']) (by unfold maxLen;omega) (by omega) (by decide) fun v' w9 hown' hgrow hloc => ?_);have HAp:Hid (qag (fun _=>False) _ w9):=hid (qag.grown hgrow fun b h _=>by cases h);have HTb:=hid ((HX.out.2.2.keep HA.out).apart HAp.out (fun h=>h));have HRb:=hid ((HX.out.2.1.keep HA.out).apart HAp.out (fun h=>h));have HBb:Hid (Below w.heap.size w w9):=hid ((HX.out.1.trans (HA.out.mono HX.out.1.size)).grown hgrow (HX.out.1.trans (HA.out.mono HX.out.1.size)).size (fun g h=>by cases h));have Ho9:=hid hown';(rw[Nat.zero_add,List.nil_append] at Ho9);clear hown' hgrow hloc;refine(qak Ho9.out).elim fun fa h=>h.elim fun fc h => ?_;have ev:=h.1;have Hh:=hid h.2;clear h;subst ev;have e3:=HTb.out.cell 3;have f3:=HTb.out.soft 3;(simp only[zu,zt] at e3))
   refine⟨.inr ⟨rfl,?_⟩,by simp[intOf]⟩;cases fa with
   | none=>have:=(Hh.out.2.2 rfl).1;omega
   | some ad=>
    obtain⟨g,rfl,-,-,hC⟩:=Hh.out.2.1 ad rfl;have hne:¬ g=w.heap.size+1:=fun e=>by
     have h1:=hC 1 _ rfl;have h2:=HTb.out.cell 1;rw[e,Nat.zero_add,h2] at h1;cases h1
    have hS:=qag.setCell (fun g=>g=w.heap.size+1) w9 (a:=⟨w.heap.size+1,3,none⟩) rfl (.slice (some ⟨g,0,none⟩) 1 fc);exact hid ⟨Below.setCell HBb.out (Nat.le_succ _) _,HRb.out.apart hS (by omega),g,fc,Hh.out.1,hC.apart hS hne,HTb.out.set 3 _⟩
  ·refine HX.out.2.2.elim fun fb h=>h.elim fun fc h => ?_;have HY:=hid h;clear h;have t0:=HY.out.2.2.cell 0;have t1:=HY.out.2.2.cell 1;have t2:=HY.out.2.2.cell 2;have t3:=HY.out.2.2.cell 3;have t4:=HY.out.2.2.cell 4;have t5:=HY.out.2.2.cell 5;have r0:=HX.out.2.1.cell 0;have r1:=HX.out.2.1.cell 1;have r2:=HX.out.2.1.cell 2;have r3:=HX.out.2.1.cell 3;have r4:=HX.out.2.1.cell 4;have r5:=HX.out.2.1.cell 5;simp only[zu,zt] at t0 t1 t2 t3 t4 t5 r0 r1 r2 r3 r4 r5;have s0:=HX.out.2.1.soft 0;have s1:=HX.out.2.1.soft 1;have s2:=HX.out.2.1.soft 2;have s3:=HX.out.2.1.soft 3;have s4:=HX.out.2.1.soft 4;have s5:=HX.out.2.1.soft 5
   go_wp2_with fail
   (try simp only[Exit.inBlock,Exit.then])
   have HQ:=hid (put6_blk HX.out.2.1 (.int .i64 4) (.int .i64 0) (.slice none 0 0) (.slice (some ⟨fb,0,none⟩) 1 fc) (.slice none 0 0) (.slice none 0 0));refine bodyPost_ret (qd1 (v := .agg #[.int .i64 4,.int .i64 0,.slice none 0 0,.slice (some ⟨fb,0,none⟩) 1 fc,.slice none 0 0,.slice none 0 0]) rfl _ _ _ rfl ?_) rfl ?_
   ·have q0:=HQ.out.cell 0;have q1:=HQ.out.cell 1;have q2:=HQ.out.cell 2;have q3:=HQ.out.cell 3;have q4:=HQ.out.cell 4;have q5:=HQ.out.cell 5;simp only[put6,put4,zu,zt] at q0 q1 q2 q3 q4 q5;go_simp
   ·refine⟨(fb,fc),rfl,hid ⟨fun j v hj => ?_,HY.out.1,put6_below HX.out.1 (zl _) _ _ _ _ _ _⟩⟩;have hne:¬ fb=w.heap.size:=fun e=>by
     have h1:=HY.out.2.1 1 _ rfl;have h2:=HX.out.2.1.cell 1;rw[e,Nat.zero_add,h2] at h1;cases h1
    exact(HY.out.2.1.apart (put6_apart _ _ _ _ _ _ _ _) hne) j v hj
theorem behind_any (k:Nat) (o:Int) (m i:Bool) (ix:List Nat) (hl:ix.length≤4294967296) (a:Option Addr) (c:Nat) (w:World) (h:w.ownsRow 0 3 1 (.slice a ix.length c) ix.length (qbh ix)):
  Calls Tryz.prog 17 #[.int .i64 k,.agg #[.int .i64 o,.bool m,.slice a ix.length c,.bool i]] w fun e w'=>∃ x:Option Addr×Nat,e = .returned (.agg #[.int .i64 o,.bool m,.slice x.1 (if ix=[] then [] else k::ix).length x.2,.bool i])∧
   Hid (w'.ownsRow 0 3 1 (.slice x.1 (if ix=[] then [] else k::ix).length x.2) (if ix=[] then [] else k::ix).length (qbh (if ix=[] then [] else k::ix))∧Below w.heap.size w w'):=by
 have HR:=hid h;by_cases h0:ix=[]
 ·subst h0;rw[if_pos rfl];clear h;go_enter Tryz.func17,Tryz.ntmps17
  go_wp2_with fail
  (try simp only[Exit.inBlock,Exit.then])
  refine bodyPost_ret (qd1 (v := .agg #[.int .i64 o,.bool m,.slice a 0 c,.bool i]) rfl _ _ _ rfl ?_) rfl ?_
  ·go_simp
  ·have hB:∀ O1 O2:Obj,Below w.heap.size w ((w.alloc O1).alloc O2):=fun O1 O2=>((zp _ _).alloc (zl _) _).alloc (by simp) _;exact⟨(a,c),rfl,hid ⟨qab (S:=fun _=>False) HR.out (qag.keep (hB _ _)) fun _ _ h=>h,hB _ _⟩⟩
 ·rw[if_neg h0];have hpos:0<ix.length:=List.length_pos_iff.2 h0;obtain⟨_,_,he,hcap,h1,h2⟩:=qak h;cases he;cases a with
  | none=>have:=(h2 rfl).1;omega
  | some ad=>
   obtain⟨g,rfl,-,-,hc⟩:=h1 ad rfl;obtain⟨i0,q1,q2,q3,q4⟩:=info_parts Tryz.infoInt;have hg0:=hc 0 (.int .i64 (ix[0]:Nat)) (by simp[qbh,hpos]);have hlg:=zj w _ hg0;simp only at hlg;have HA:Hid (∀ O1 O2 O3:Obj,Below w.heap.size w (((w.alloc O1).alloc O2).alloc O3)):=hid fun O1 O2 O3=>(((zp _ _).alloc (zl _) _).alloc (by simp) _).alloc (by simp;omega) _;have Hnews:Hid (∀ O1 O2 O3:Obj,∀ j u,(qbh ix)[j]?=some u→(((w.alloc O1).alloc O2).alloc O3).cell? ((⟨g,0,none⟩:Addr).add j)=some u):=hid fun O1 O2 O3 j u hu=>by rw[Addr.add_lit];exact qac.below (HA.out O1 O2 O3) _ _ (hc j u hu)
   have H1:Hid (∀ u∈qbh ix,u.oneCell'=true):=hid fun u hu=>by
    obtain⟨n,-,rfl⟩:=zkb.1 hu;rfl
   have hlv:(qbh ix).length=ix.length * 1:=by rw[quc,Nat.mul_one]
   have HRow:Hid (∀ O1 O2:Obj,(((w.alloc O1).alloc O2).alloc (.cells #[.int .i64 (k:Int)] 3)).ownsRow 0 3 1 (.slice (some ⟨w.heap.size+1+1,0,none⟩) 1 1) 1 [.int .i64 (k:Int)]):=hid fun O1 O2=>by
    have h:=World.ownsRow_lit (base:=0) (size:=1) (e:=3) ((w.alloc O1).alloc O2) #[.int .i64 (k:Int)] 1 (Nat.zero_le _) (by decide) rfl;simpa using h
   have HX:Hid (∀ O2 O3:Obj,Blk (((w.alloc (.cells #[.int .i64 o,.bool m,.slice (some ⟨g,0,none⟩) ix.length c,.bool i] 35)).alloc O2).alloc O3) w.heap.size 35 [.int .i64 o,.bool m,.slice (some ⟨g,0,none⟩) ix.length c,.bool i]):=hid fun O2 O3=>((Blk.new w 35 [.int .i64 o,.bool m,.slice (some ⟨g,0,none⟩) ix.length c,.bool i]).alloc O2).alloc O3;have HY:Hid (∀ O1 O3:Obj,Blk (((w.alloc O1).alloc (.cells #[.int .i64 0,.bool false,.slice none 0 0,.bool false] 35)).alloc O3) (w.heap.size+1) 35 [.int .i64 0,.bool false,.slice none 0 0,.bool false]):=hid fun O1 O3=>by
    have h:=(Blk.new (w.alloc O1) 35 [.int .i64 0,.bool false,.slice none 0 0,.bool false]).alloc O3;rw[zd] at h;exact h
   have hpos':(0:Int)<(ix.length:Int):=by omega
   clear h h1 h2 hc hg0;go_enter Tryz.func17,Tryz.ntmps17
   go_wp2_with (at_builtin;go_loud (refine qb2 _ rfl _ _ 33 rfl 3 i0 _ 1 8 Tryz.underlying33 q1 q2 q3 q4 rfl (by decide) (.slice (some ⟨w.heap.size+1+1,0,none⟩) 1 1) 1 [.int .i64 (k:Int)] rfl (HRow.out _ _) ⟨g,0,none⟩ ix.length c (qbh ix) rfl hlv (Hnews.out _ _ _) H1.out (by unfold maxLen;omega) (by omega) hpos fun v9 w9 hown' hgrow hloc => ?_);have HAp:Hid (qag (fun b=>b=w.heap.size+1+1) _ w9):=hid (qag.grown hgrow fun b h _=>by have h2:some (w.heap.size+1+1)=some b:=h;injection h2 with h2;exact h2.symm);have HX9:=hid ((HX.out _ _).apart HAp.out (by omega));have HY9:=hid ((HY.out _ _).apart HAp.out (by omega));have HB9:Hid (Below w.heap.size w w9):=hid ((HA.out _ _ _).grown hgrow (HA.out _ _ _).size (fun b h=>by have h2:some (w.heap.size+1+1)=some b:=h;injection h2 with h2;omega));have Ho9:=hid hown';(rw[Nat.add_comm 1 ix.length] at Ho9);clear hown' hgrow hloc;refine(qak Ho9.out).elim fun fa h=>h.elim fun fc h => ?_;have ev:=h.1;clear h;subst ev;have e0:=HX9.out.cell 0;have e1:=HX9.out.cell 1;have e2:=HX9.out.cell 2;have e3:=HX9.out.cell 3;have f0:=HX9.out.soft 0;have f1:=HX9.out.soft 1;have f2:=HX9.out.soft 2;have f3:=HX9.out.soft 3;have d0:=HY9.out.cell 0;have d1:=HY9.out.cell 1;have d2:=HY9.out.cell 2;have d3:=HY9.out.cell 3;have s0:=HY9.out.soft 0;have s1:=HY9.out.soft 1;have s2:=HY9.out.soft 2;have s3:=HY9.out.soft 3;(simp only[zu,zt] at e0 e1 e2 e3 d0 d1 d2 d3))
   (try simp only[Exit.inBlock,Exit.then])
   have hS:=qag.setCell (fun g=>g=w.heap.size) w9 (a:=⟨w.heap.size,2,none⟩) rfl (.slice fa (ix.length+1) fc);have HY10:=hid (HY9.out.apart hS (by omega));have HQ:=hid (qv4 HY10.out (.int .i64 o) (.bool m) (.slice fa (ix.length+1) fc) (.bool i));have HRk:=hid (qab Ho9.out hS fun b hb e=>by
    obtain⟨cs,hx⟩:=qaf Ho9.out hb;exact hx.tne HX9.out (by decide) e)
   have HB10:Hid (Below w.heap.size w (w9.setCell ⟨w.heap.size,2,none⟩ (.slice fa (ix.length+1) fc))):=hid (Below.setCell HB9.out (zl _) _);refine bodyPost_ret (qd1 (v := .agg #[.int .i64 o,.bool m,.slice fa (ix.length+1) fc,.bool i]) rfl _ _ _ rfl ?_) rfl ?_
   ·have q0:=HQ.out.cell 0;have q1:=HQ.out.cell 1;have q2:=HQ.out.cell 2;have q3:=HQ.out.cell 3;simp only[put4,zu,zt] at q0 q1 q2 q3;go_simp
   ·refine⟨(fa,fc),rfl,hid ⟨qab HRk.out (qrl _ (w.heap.size+1) _ _ _ _) fun b hb e => ?_,qru HB10.out (Nat.le_succ _) _ _ _ _⟩⟩;obtain⟨cs,hx⟩:=qaf HRk.out hb;exact hx.tne HY10.out (by decide) e
theorem formed_nd {W:Wd} {k:Nat} (hk:k<W.length) (v:Bool):qam W (-1) v (ndT k):=by
 unfold ndT qam;exact .inr (.inl ⟨rfl,rfl,rfl,rfl,rfl,by omega,by omega,.inl (by omega)⟩)
theorem fitOk_pnd {W:Wd} {t0:Ty} {k:Nat} (h:qfz W t0) (hk:k<W.length):qfz W (ptrT (ndT k)):=by
 refine⟨h.names,h.distinct,?_,h.valid,h.declared,?_⟩
 ·unfold ptrT qam;exact .inr (.inr (.inl ⟨.inl rfl,rfl,rfl,rfl,rfl,by unfold qc5;exact⟨rfl,formed_nd hk false⟩⟩))
 ·unfold qcj operand;simp[ptrT,ndT,qdp,qc0,qcr,qjv,qb1]
theorem small_in {W:Wd} {t:Ty} {P:Nat→Nat} (h:qdx W (stT [.mk 0 true t]) P):qdx W t P:=by
 refine⟨h.pos,h.alias,h.decl,?_⟩;have h1:=h.operand;have h2:=qwe (P:=P) (t:=stT [.mk 0 true t]) (by show(4:Int)≠1;omega) 0 (zw 0);have e:((stT [.mk 0 true t]).fields.getD 0 fd0).of=t:=rfl;rw[e] at h2;omega
