import Derived.Test.YtmfhclggkjjcdaaGreatDoorL29
import Derived.Test.YtmfhclggkjjcdaaGreatDoorLWWrap
import Derived.Test.YtmfhclggkjjcdaaGreatDoorL37
set_option linter.all false
set_option maxHeartbeats 2000000
namespace Go.Proofs.YtmfhclggkjjcdaaGreatDoor
open Go Go.RowKit Go.Proofs.Tryz
set_option maxRecDepth 100000
variable {w:World} {b:Nat}
theorem idS_sameF:∀ i:Fin 16,∀ j:Fin 16,∀ p:Fin 2,∀ q:Fin 2,(idL (p.val:Nat) (i.val:Nat)=idL (q.val:Nat) (j.val:Nat))=(qbp (p.val:Nat) (i.val:Nat) (q.val:Nat) (j.val:Nat)=true):=by
 have h:∀ i:Fin 16,∀ j:Fin 16,∀ p:Fin 2,∀ q:Fin 2,(idL (p.val:Nat) (i.val:Nat)=idL (q.val:Nat) (j.val:Nat))↔(qbp (p.val:Nat) (i.val:Nat) (q.val:Nat) (j.val:Nat)=true):=by decide +kernel
 exact fun i j p q=>propext (h i j p q)
theorem idS_same {p n q m:Int} (hp:p=0∨p=1) (hq:q=0∨q=1) (hn:IsNm n) (hm:IsNm m):idS p n=idS q m↔qbp p n q m=true:=by
 unfold IsNm at hn hm;have h:=idS_sameF ⟨n.toNat,by omega⟩ ⟨m.toNat,by omega⟩ ⟨p.toNat,by omega⟩ ⟨q.toNat,by omega⟩;simp only[show((p.toNat:Nat):Int)=p by omega,show((q.toNat:Nat):Int)=q by omega,show((n.toNat:Nat):Int)=n by omega,show((m.toNat:Nat):Int)=m by omega] at h;rw[← h];unfold idS;constructor
 ·intro e;injection e with e;simpa using e
 ·intro e;rw[e]
theorem idS_toL {p n q m:Int} (hp:p=0∨p=1) (hq:q=0∨q=1) (hn:IsNm n) (hm:IsNm m) (h:qbp q m p n=false):¬ (idS p n).toList=(idS q m).toList:=by
 have key:∀ i:Fin 16,∀ j:Fin 16,∀ p:Fin 2,∀ q:Fin 2,qbp (q.val:Nat) (j.val:Nat) (p.val:Nat) (i.val:Nat)=false→¬ (idS (p.val:Nat) (i.val:Nat)).toList=(idS (q.val:Nat) (j.val:Nat)).toList:=by decide +kernel
 unfold IsNm at hn hm;have h2:=key ⟨n.toNat,by omega⟩ ⟨m.toNat,by omega⟩ ⟨p.toNat,by omega⟩ ⟨q.toNat,by omega⟩;simp only[show((p.toNat:Nat):Int)=p by omega,show((q.toNat:Nat):Int)=q by omega,show((n.toNat:Nat):Int)=n by omega,show((m.toNat:Nat):Int)=m by omega] at h2;exact h2 h
theorem named_any (d:Int) (w:World):Calls prog 9 #[.int .i64 d] w (qa2 (.agg #[.int .i64 1,.int .i64 d,.slice none 0 0,.slice none 0 0,.slice none 0 0,.slice none 0 0]) w):=by
 go_enter func9,ntmps9
 go_wp2_with fail
 (try simp only[Exit.inBlock,Exit.then])
 refine bodyPost_ret (qd1 (v := .agg #[.int .i64 1,.int .i64 d,.slice none 0 0,.slice none 0 0,.slice none 0 0,.slice none 0 0]) rfl _ _ _ rfl ?_) rfl ?_
 ·go_simp
 ·exact⟨rfl,(zp _ _).alloc (zl _) _⟩
theorem tyC_nd {d:Nat} (h:d≤1048576):TyC w (ndT d) [.int .i64 1,.int .i64 d,.slice none 0 0,.slice none 0 0,.slice none 0 0,.slice none 0 0]:=by
 unfold ndT;simp only[TyC];refine⟨none,0,none,0,none,0,none,0,rfl,⟨zl _,zl _,zl _,zl _⟩,⟨by omega,by omega⟩,⟨by omega,by omega⟩,?_,?_,?_,?_⟩
 ·simp only[TysR]
 ·simp only[FdsR]
 ·simp only[MsR]
 ·simp only[TysR]
theorem ambiguous_any (o:Int) (m i:Bool) (n c:Nat) (a:Option Addr) (w:World):Calls prog 15 #[.agg #[.int .i64 o,.bool m,.slice a n c,.bool i]] w (qa2 (.bool (decide (o<0)&&!m&&!i&&decide (0<n))) w):=by
 by_cases ho:o<0
 ·have h1:decide (o<0)=true:=by simpa using ho
  cases m <;> cases i
  all_goals
   rw[h1];go_enter func15,ntmps15
   go_wp2_with fail
   go_ret
   refine⟨?_,(zp _ _).alloc (zl _) _⟩
   first|rfl|simp
 ·have h1:decide (o<0)=false:=by simpa using ho
  rw[h1];go_enter func15,ntmps15
  go_wp2_with fail
  go_ret
  refine⟨?_,(zp _ _).alloc (zl _) _⟩
  first|rfl|simp
theorem Tryz.infoFd2:(prog.info? 60).map (fun i=>(i.zero.map (·.cells.size),i.size,i.bytes))=some (some 8,8,128):=by kernel_rfl
theorem info_cells {P:Program} {e:TypeId} {n b:Nat} (h:(P.info? e).map (fun i=>(i.zero.map (·.cells.size),i.size,i.bytes))=some (some n,n,b)):∃ i z,P.info? e=some i∧i.zero=some z∧i.size=n∧i.bytes=b∧z.cells.size=n:=by
 obtain⟨i,q0,q1⟩:=zbb.1 h;simp only[Prod.mk.injEq] at q1;obtain⟨z,hz,hc⟩:=zbb.1 q1.1;exact⟨i,z,q0,hz,q1.2.1,q1.2.2,hc⟩
theorem qat.apart {S:Nat→Prop} {w w':World} {b o:Nat} {cs:List Value} (h:qat w b o cs) (ha:qag S w w') (hb:¬ S b):qat w' b o cs:=fun j v hv=>by
 have h1:=h j v hv;exact(zlb (ha.block _ (zj w _ h1) hb)).trans h1
def put6 (w:World) (b:Nat) (v0 v1 v2 v3 v4 v5:Value):World:=((put4 w b v0 v1 v2 v3).setCell ⟨b,4,none⟩ v4).setCell ⟨b,5,none⟩ v5
theorem put6_blk {T:TypeId} {u0 u1 u2 u3 u4 u5:Value} (h:Blk w b T [u0,u1,u2,u3,u4,u5]) (v0 v1 v2 v3 v4 v5:Value):Blk (put6 w b v0 v1 v2 v3 v4 v5) b T [v0,v1,v2,v3,v4,v5]:=
 (((((h.set 0 v0).set 1 v1).set 2 v2).set 3 v3).set 4 v4).set 5 v5
theorem put6_apart (w:World) (b:Nat) (v0 v1 v2 v3 v4 v5:Value):qag (fun g=>g=b) w (put6 w b v0 v1 v2 v3 v4 v5):=
 ((qrl w b v0 v1 v2 v3).trans (qag.setCell (fun g=>g=b) _ (a:=⟨b,4,none⟩) rfl v4)).trans (qag.setCell (fun g=>g=b) _ (a:=⟨b,5,none⟩) rfl v5)
theorem put6_below {w0 w:World} {B b:Nat} (h:Below B w0 w) (hb:B≤b) (v0 v1 v2 v3 v4 v5:Value):Below B w0 (put6 w b v0 v1 v2 v3 v4 v5):=
 Below.setCell (Below.setCell (qru h hb v0 v1 v2 v3) (by simpa using hb) _) (by simpa using hb) _
theorem behind_any (k:Nat) (o:Int) (m i:Bool) (ix:List Nat) (hl:ix.length≤4294967296) (a:Option Addr) (c:Nat) (w:World) (h:w.ownsRow 0 3 1 (.slice a ix.length c) ix.length (qbh ix)):
  Calls prog 17 #[.int .i64 k,.agg #[.int .i64 o,.bool m,.slice a ix.length c,.bool i]] w fun e w'=>∃ x:Option Addr×Nat,e = .returned (.agg #[.int .i64 o,.bool m,.slice x.1 (if ix=[] then [] else k::ix).length x.2,.bool i])∧
   Hid (w'.ownsRow 0 3 1 (.slice x.1 (if ix=[] then [] else k::ix).length x.2) (if ix=[] then [] else k::ix).length (qbh (if ix=[] then [] else k::ix))∧Below w.heap.size w w'):=by
 have HR:=hid h;by_cases h0:ix=[]
 ·subst h0;rw[if_pos rfl];clear h;go_enter func17,ntmps17
  go_wp2_with fail
  (try simp only[Exit.inBlock,Exit.then])
  refine bodyPost_ret (qd1 (v := .agg #[.int .i64 o,.bool m,.slice a 0 c,.bool i]) rfl _ _ _ rfl ?_) rfl ?_
  ·go_simp
  ·have hB:∀ O1 O2:Obj,Below w.heap.size w ((w.alloc O1).alloc O2):=fun O1 O2=>((zp _ _).alloc (zl _) _).alloc (by simp) _;exact⟨(a,c),rfl,hid ⟨qab (S:=fun _=>False) HR.out (qag.keep (hB _ _)) fun _ _ h=>h,hB _ _⟩⟩
 ·rw[if_neg h0];have hpos:0<ix.length:=List.length_pos_iff.2 h0;obtain⟨_,_,he,hcap,h1,h2⟩:=qak h;cases he;cases a with
  | none=>have:=(h2 rfl).1;omega
  | some ad=>
   obtain⟨g,rfl,-,-,hc⟩:=h1 ad rfl;obtain⟨i0,q1,q2,q3,q4⟩:=info_parts Tryz.infoInt;have hg0:=hc 0 (.int .i64 (ix[0]:Nat)) (by simp[qbh,hpos]);have hlg:=zj w _ hg0;simp only at hlg;have HA:Hid (∀ O1 O2 O3:Obj,Below w.heap.size w (((w.alloc O1).alloc O2).alloc O3)):=hid fun O1 O2 O3=>(((zp _ _).alloc (zl _) _).alloc (by simp) _).alloc (by simp;omega) _;have Hnews:Hid (∀ O1 O2 O3:Obj,∀ j u,(qbh ix)[j]?=some u→(((w.alloc O1).alloc O2).alloc O3).cell? ((⟨g,0,none⟩:Addr).add j)=some u):=hid fun O1 O2 O3 j u hu=>by rw[Addr.add_lit];exact qac.below (HA.out O1 O2 O3) _ _ (hc j u hu)
   have H1:Hid (∀ u∈qbh ix,u.oneCell'=true):=hid fun u hu=>by
    obtain⟨n,-,rfl⟩:=zkb.1 hu;rfl
   have hlv:(qbh ix).length=ix.length * 1:=by rw[quc,Nat.mul_one]
   have HRow:Hid (∀ O1 O2:Obj,(((w.alloc O1).alloc O2).alloc (.cells #[.int .i64 (k:Int)] 3)).ownsRow 0 3 1 (.slice (some ⟨w.heap.size+1+1,0,none⟩) 1 1) 1 [.int .i64 (k:Int)]):=hid fun O1 O2=>by
    have h:=World.ownsRow_lit (base:=0) (size:=1) (e:=3) ((w.alloc O1).alloc O2) #[.int .i64 (k:Int)] 1 (Nat.zero_le _) (by decide) rfl;simpa using h
   have HX:Hid (∀ O2 O3:Obj,Blk (((w.alloc (.cells #[.int .i64 o,.bool m,.slice (some ⟨g,0,none⟩) ix.length c,.bool i] 35)).alloc O2).alloc O3) w.heap.size 35 [.int .i64 o,.bool m,.slice (some ⟨g,0,none⟩) ix.length c,.bool i]):=hid fun O2 O3=>((Blk.new w 35 [.int .i64 o,.bool m,.slice (some ⟨g,0,none⟩) ix.length c,.bool i]).alloc O2).alloc O3;have HY:Hid (∀ O1 O3:Obj,Blk (((w.alloc O1).alloc (.cells #[.int .i64 0,.bool false,.slice none 0 0,.bool false] 35)).alloc O3) (w.heap.size+1) 35 [.int .i64 0,.bool false,.slice none 0 0,.bool false]):=hid fun O1 O3=>by
    have h:=(Blk.new (w.alloc O1) 35 [.int .i64 0,.bool false,.slice none 0 0,.bool false]).alloc O3;rw[zd] at h;exact h
   have hpos':(0:Int)<(ix.length:Int):=by omega
   clear h h1 h2 hc hg0;go_enter func17,ntmps17
   go_wp2_with (at_builtin;go_loud (refine qb2 _ rfl _ _ 33 rfl 3 i0 _ 1 8 underlying33 q1 q2 q3 q4 rfl (by decide) (.slice (some ⟨w.heap.size+1+1,0,none⟩) 1 1) 1 [.int .i64 (k:Int)] rfl (HRow.out _ _) ⟨g,0,none⟩ ix.length c (qbh ix) rfl hlv (Hnews.out _ _ _) H1.out (by unfold maxLen;omega) (by omega) hpos fun v9 w9 hown' hgrow hloc => ?_);have HAp:Hid (qag (fun b=>b=w.heap.size+1+1) _ w9):=hid (qag.grown hgrow fun b h _=>by have h2:some (w.heap.size+1+1)=some b:=h;injection h2 with h2;exact h2.symm);have HX9:=hid ((HX.out _ _).apart HAp.out (by omega));have HY9:=hid ((HY.out _ _).apart HAp.out (by omega));have HB9:Hid (Below w.heap.size w w9):=hid ((HA.out _ _ _).grown hgrow (HA.out _ _ _).size (fun b h=>by have h2:some (w.heap.size+1+1)=some b:=h;injection h2 with h2;omega));have Ho9:=hid hown';(rw[Nat.add_comm 1 ix.length] at Ho9);clear hown' hgrow hloc;refine(qak Ho9.out).elim fun fa h=>h.elim fun fc h => ?_;have ev:=h.1;clear h;subst ev;have e0:=HX9.out.cell 0;have e1:=HX9.out.cell 1;have e2:=HX9.out.cell 2;have e3:=HX9.out.cell 3;have f0:=HX9.out.soft 0;have f1:=HX9.out.soft 1;have f2:=HX9.out.soft 2;have f3:=HX9.out.soft 3;have d0:=HY9.out.cell 0;have d1:=HY9.out.cell 1;have d2:=HY9.out.cell 2;have d3:=HY9.out.cell 3;have s0:=HY9.out.soft 0;have s1:=HY9.out.soft 1;have s2:=HY9.out.soft 2;have s3:=HY9.out.soft 3;(simp only[zu,zt] at e0 e1 e2 e3 d0 d1 d2 d3))
   (try simp only[Exit.inBlock,Exit.then])
   have hS:=qag.setCell (fun g=>g=w.heap.size) w9 (a:=⟨w.heap.size,2,none⟩) rfl (.slice fa (ix.length+1) fc);have HY10:=hid (HY9.out.apart hS (by omega));have HQ:=hid (qv4 HY10.out (.int .i64 o) (.bool m) (.slice fa (ix.length+1) fc) (.bool i));have HRk:=hid (qab Ho9.out hS fun b hb e=>by
    obtain⟨cs,hx⟩:=qaf Ho9.out hb;exact hx.tne HX9.out (by decide) e)
   have HB10:Hid (Below w.heap.size w (w9.setCell ⟨w.heap.size,2,none⟩ (.slice fa (ix.length+1) fc))):=hid (Below.setCell HB9.out (zl _) _);refine bodyPost_ret (qd1 (v := .agg #[.int .i64 o,.bool m,.slice fa (ix.length+1) fc,.bool i]) rfl _ _ _ rfl ?_) rfl ?_
   ·have q0:=HQ.out.cell 0;have q1:=HQ.out.cell 1;have q2:=HQ.out.cell 2;have q3:=HQ.out.cell 3;simp only[put4,zu,zt] at q0 q1 q2 q3;go_simp
   ·refine⟨(fa,fc),rfl,hid ⟨qab HRk.out (qrl _ (w.heap.size+1) _ _ _ _) fun b hb e => ?_,qru HB10.out (Nat.le_succ _) _ _ _ _⟩⟩;obtain⟨cs,hx⟩:=qaf HRk.out hb;exact hx.tne HY10.out (by decide) e
theorem formed_nd {W:Wd} {k:Nat} (hk:k<W.length) (v:Bool):qam W (-1) v (ndT k):=by
 unfold ndT qam;exact .inr (.inl ⟨rfl,rfl,rfl,rfl,rfl,by omega,by omega,.inl (by omega)⟩)
theorem fitOk_nd {W:Wd} {t0:Ty} {k:Nat} (h:qfz W t0) (hk:k<W.length):qfz W (ndT k):=by
 refine⟨h.names,h.distinct,formed_nd hk true,h.valid,h.declared,?_⟩;unfold qcj operand;simp[ndT,qdp,qc0,qcr,qjv,qb1]
