import Derived.Test.YtmfhclggkjjcdaaGreatDoorL18
import Derived.Test.YtmfhclggkjjcdaaGreatDoorL20
import Derived.Test.YtmfhclggkjjcdaaGreatDoorL15
import Derived.Test.YtmfhclggkjjcdaaGreatDoorL09
set_option linter.all false
set_option maxHeartbeats 4000000
namespace Go.Proofs.YtmfhclggkjjcdaaGreatDoor
open Go Go.RowKit Go.Proofs.Tryz
set_option maxRecDepth 100000
variable {w:World} {a:Option Addr} {i f sg:Nat} {p m:Int}
theorem qds (b ts:Nat) (w:World) (h0:w.cell? ⟨b,0,none⟩=some (.pointer none)) (h6:w.cell? ⟨b,6,none⟩=some (ptrV ts)):Calls prog 82 #[ptrV b] w fun e w'=>e = .returned (ptrV ts)∧w'=w:=by
 go_enter func82,ntmps82
 go_wp2_with (go_at_call 105;refine qap (qoj b ts w h6) ?_)
 go_ret
 exact⟨rfl,rfl⟩
structure MthM (w:World) (a:Option Addr) (i f pk sg:Nat) (p m:Int):Prop where
 row:∃ g o,a=some ⟨g,o,none⟩∧w.cell? ⟨g,o+i,none⟩=some (ptrV f)
 pkc:w.cell? ⟨f,1,none⟩=some (ptrV pk)
 nm:w.cell? ⟨f,2,none⟩=some (.string (qas m))
 ty:w.cell? ⟨f,3,none⟩=some (.iface 162 (ptrV sg))
 is:IsNm m
 pp:p=0∨p=1
 path:w.cell? ⟨pk,0,none⟩=some (.string (qbo p))
 s2:w.cell? ⟨sg,2,none⟩=some (.pointer none)
 s3:w.cell? ⟨sg,3,none⟩=some (.pointer none)
 s4:w.cell? ⟨sg,4,none⟩=some (.bool false)
 sb:∃ T cs,Blk w sg T cs
theorem MthM.keep {w w':World} {i f pk sg:Nat} (h:MthM w a i f pk sg p m) (hb:Below w.heap.size w w'):MthM w' a i f pk sg p m:=by
 have k:=qac.below hb;obtain⟨g,o,h1,h2⟩:=h.row;obtain⟨T,cs,h3⟩:=h.sb;exact⟨⟨g,o,h1,k _ _ h2⟩,k _ _ h.pkc,k _ _ h.nm,k _ _ h.ty,h.is,h.pp,k _ _ h.path,k _ _ h.s2,k _ _ h.s3,k _ _ h.s4,T,cs,h3.keep hb⟩
theorem MthM.id {i f pk sg:Nat} (h:MthM w a i f pk sg p m) (hT:Tabs w):Calls prog 156 #[.pointer (some ⟨f,0,none⟩)] w (qa2 (.string (idS p m)) w):=
 qhj f pk p m w h.is h.pp hT h.pkc h.nm h.path
theorem MthM.sig {a a':Option Addr} {i i' f f' pk pk' sg sg' cp:Nat} {p p' m m':Int} (h:MthM w a i f pk sg p m) (h':MthM w a' i' f' pk' sg' p' m') (hcp:w.cell? ⟨cp,1,none⟩=some (.bool false)) (q:Option Addr):
  Calls prog 125 #[ptrV cp,.iface 162 (ptrV sg),.iface 162 (ptrV sg'),.pointer q] w (qa2 (.bool true) w):=by
 obtain⟨T,cs,h3⟩:=h.sb;obtain⟨T',cs',h3'⟩:=h'.sb;exact idSig cp sg sg' w q hcp h3 h3' h.s2 h.s3 h.s4 h'.s2 h'.s3 h'.s4
structure SetM (w:World) (b ts:Nat) (a:Option Addr) (n c:Nat) (tv:Value) (f pk sg:Nat→Nat) (p m:Nat→Int):Prop where
 b0:w.cell? ⟨b,0,none⟩=some (.pointer none)
 b6:w.cell? ⟨b,6,none⟩=some (ptrV ts)
 t1:w.cell? ⟨ts,1,none⟩=some (.slice a n c)
 t2:w.cell? ⟨ts,2,none⟩=some tv
 t3:w.cell? ⟨ts,3,none⟩=some (.bool false)
 all:AllV w tv
 cap:n≤c
 le:n≤1048576
 ms:∀ i,i<n→MthM w a i (f i) (pk i) (sg i) (p i) (m i)
def qnt (p1 p2 m1 m2:Nat→Int) (i:Nat):Bool:=(idS (p1 i) (m1 i)).toList==(idS (p2 i) (m2 i)).toList
theorem qpp (cp x y:Nat) (v1 v2:Value) (w:World) (hcp:w.cell? ⟨cp,1,none⟩=some (.bool false)) (hne:x≠y) (h1:qbs w v1 (.iface 112 (ptrV x))) (h2:qbs w v2 (.iface 112 (ptrV y))) (hi1:TyIn w (112,x)) (hi2:TyIn w (112,y))
  (tx ty n1 n2 c1 c2:Nat) (a1 a2:Option Addr) (tv tv':Value) (f1 f2 k1 k2 s1 s2:Nat→Nat) (p1 p2 m1 m2:Nat→Int) (X:SetM w x tx a1 n1 c1 tv f1 k1 s1 p1 m1) (Y:SetM w y ty a2 n2 c2 tv' f2 k2 s2 p2 m2) (hT:Tabs w) (hn:n1≠n2):
  Calls prog 125 #[ptrV cp,v1,v2,.pointer none] w (qa2 (.bool false) w):=by
 have hx:=hid (qan _ _ w h1);have hy:=hid (qan _ _ w h2);have he:=qg7 w (112,x) (112,y) hi1 hi2;have hne2:((112,x)==(112,y))=false:=by simpa using hne
 rw[hne2] at he;have heg:=fun p q=>qc9 112 112 (ptrV x) (ptrV y) 63 p q w;have hcl:=zj w _ hcp;have t1:=fun v w=>qaw (T:=112) underlying156 Tryz.zs273 (by decide) v w;have t2:=fun v w=>qaw (T:=112) underlying300 Tryz.zsArr (by decide) v w;have t3:=fun v w=>qaw (T:=112) underlying147 Tryz.zsSl (by decide) v w;have t4:=fun v w=>qaw (T:=112) underlying153 Tryz.zsSt (by decide) v w;have t5:=fun v w=>qaw (T:=112) underlying145 Tryz.zsPt (by decide) v w;have t6:=fun v w=>qaw (T:=112) underlying197 Tryz.zsTu (by decide) v w;have t7:=fun v w=>qaw (T:=112) underlying162 Tryz.zsSg (by decide) v w;have t8:=fun v w=>qaw (T:=112) underlying271 Tryz.zsUn (by decide) v w;have t9:=fun v w=>qb5 underlying112 v w;have x3:=X.t3;have y3:=Y.t3;have x2:=X.t2;have y2:=Y.t2;have x1:=X.t1;have y1:=Y.t1;have l1:=zj w _ x3;have l2:=zj w _ y3;have HT1:=hid (qds x tx w X.b0 X.b6);have HT2:=hid (qds y ty w Y.b0 Y.b6);have HTe:Hid (∀ W,Below w.heap.size w W→Calls prog 154 #[tv,tv'] W (qa2 (.bool true) W)):=hid fun W hW=>(qlu tv tv' W (X.all.keep hW) (Y.all.keep hW)).mono fun e w' h=>⟨h.1,h.2 ▸ zp _ _⟩;have HX:=hid X;have HY:=hid Y;clear h1 h2 hi1 hi2 hne hne2 X Y;have tok:True:=trivial;have tok2:True:=trivial;have hn':¬ ((n1:Int)=(n2:Int)):=by omega
 go_enter func125,ntmps125
 go_wp2_with (first
  | (go_at_call 86;have _t:=tok;clear _t tok;refine qap hx.out ?_)
  | (go_at_call 86;refine qap hy.out ?_)
  | (go_at_call 82;have _t:=tok2;clear _t tok2;refine qap HT1.out ?_)
  | (go_at_call 82;refine qap HT2.out ?_))
 refine Mix.wp_region [0,1,2,3,4,5,6,7,8] [] [] (fun _=>default) (by kernel_rfl) (by kernel_rfl) (by decide) ?_
 iterate 9 (first|(refine pre_yes rfl rfl ?_;apply Exists.intro;refine⟨fun W1 hW1 => ?_,?_⟩;(focus (have hc1:=(qal hW1).1;(try simp only[zd,qaa] at hc1);have hk1:=qac.below hW1;go_simp;first|exact rfl|fail));simp only[Act.put,zk,zh,zi,ze,qai,qaj,zm,zn])|(refine pre_no rfl rfl ?_;simp only[Act.put,zk,zh,zi,ze,qai,qaj,zm,zn]))
 refine pre_end fl_nil (fun W2 hW2=>mid_nil ?_);rw[List.filterMap_nil];have hcw:=(qal hW2).1
 (try simp only[qaa] at hcw)
 have HW2:Hid (Below w.heap.size w W2):=hid ⟨hW2.os,hW2.tape,hW2.output,hW2.size,hW2.block⟩;have hs2:w.heap.size≤W2.heap.size:=HW2.out.size;have l5:tx<W2.heap.size:=by omega
 have l6:ty<W2.heap.size:=by omega
 clear hW2
 go_wp2_with fail
 refine Mix.wp_region [0,1,2,3,4,5,6,7,8,9] [] [] (fun _=>default) (by kernel_rfl) (by kernel_rfl) (by decide) ?_
 iterate 10 (first|(refine pre_yes rfl rfl ?_;apply Exists.intro;refine⟨fun W1 hW1 => ?_,?_⟩;(focus (have hc1:=(qal hW1).1;(try simp only[zd,qaa] at hc1);have hk1:=qac.below hW1;go_simp;first|exact rfl|(go_at_call 154;exact HTe.out W1 (HW2.out.trans (Below.mono ⟨hW1.os,hW1.tape,hW1.output,hW1.size,hW1.block⟩ hs2)))));simp only[Act.put,zk,zh,zi,ze,qai,qaj,zm,zn])|(refine pre_no rfl rfl ?_;simp only[Act.put,zk,zh,zi,ze,qai,qaj,zm,zn]))
 refine pre_end fl_nil (fun W3 hW3=>mid_nil ?_);rw[List.filterMap_nil];have HW3:Hid (Below w.heap.size w W3):=hid (HW2.out.trans (Below.mono ⟨hW3.os,hW3.tape,hW3.output,hW3.size,hW3.block⟩ hs2));have hs3:w.heap.size≤W3.heap.size:=HW3.out.size;have z1:=qac.below HW3.out _ _ x1;have z2:=qac.below HW3.out _ _ y1;clear hW3 hcw;have l3:tx<W3.heap.size:=by omega
 have l4:ty<W3.heap.size:=by omega
 go_wp2_with fail
 go_ret
 exact⟨rfl,HW3.out⟩
theorem qsi (cp x y:Nat) (v1 v2:Value) (w:World) (hcp:w.cell? ⟨cp,1,none⟩=some (.bool false)) (hne:x≠y) (h1:qbs w v1 (.iface 112 (ptrV x))) (h2:qbs w v2 (.iface 112 (ptrV y))) (hi1:TyIn w (112,x)) (hi2:TyIn w (112,y))
  (tx ty n c1 c2:Nat) (a1 a2:Option Addr) (tv tv':Value) (f1 f2 k1 k2 s1 s2:Nat→Nat) (p1 p2 m1 m2:Nat→Int) (X:SetM w x tx a1 n c1 tv f1 k1 s1 p1 m1) (Y:SetM w y ty a2 n c2 tv' f2 k2 s2 p2 m2) (hT:Tabs w):
  Calls prog 125 #[ptrV cp,v1,v2,.pointer none] w (qa2 (.bool ((List.range n).all (qnt p1 p2 m1 m2))) w):=by
 have hx:=hid (qan _ _ w h1);have hy:=hid (qan _ _ w h2);have he:=qg7 w (112,x) (112,y) hi1 hi2;have hne2:((112,x)==(112,y))=false:=by simpa using hne
 rw[hne2] at he;have heg:=fun p q=>qc9 112 112 (ptrV x) (ptrV y) 63 p q w;have hcl:=zj w _ hcp;have t1:=fun v w=>qaw (T:=112) underlying156 Tryz.zs273 (by decide) v w;have t2:=fun v w=>qaw (T:=112) underlying300 Tryz.zsArr (by decide) v w;have t3:=fun v w=>qaw (T:=112) underlying147 Tryz.zsSl (by decide) v w;have t4:=fun v w=>qaw (T:=112) underlying153 Tryz.zsSt (by decide) v w;have t5:=fun v w=>qaw (T:=112) underlying145 Tryz.zsPt (by decide) v w;have t6:=fun v w=>qaw (T:=112) underlying197 Tryz.zsTu (by decide) v w;have t7:=fun v w=>qaw (T:=112) underlying162 Tryz.zsSg (by decide) v w;have t8:=fun v w=>qaw (T:=112) underlying271 Tryz.zsUn (by decide) v w;have t9:=fun v w=>qb5 underlying112 v w;have x3:=X.t3;have y3:=Y.t3;have x2:=X.t2;have y2:=Y.t2;have x1:=X.t1;have y1:=Y.t1;have l1:=zj w _ x3;have l2:=zj w _ y3;have HT1:=hid (qds x tx w X.b0 X.b6);have HT2:=hid (qds y ty w Y.b0 Y.b6);have HTe:Hid (∀ W,Below w.heap.size w W→Calls prog 154 #[tv,tv'] W (qa2 (.bool true) W)):=hid fun W hW=>(qlu tv tv' W (X.all.keep hW) (Y.all.keep hW)).mono fun e w' h=>⟨h.1,h.2 ▸ zp _ _⟩;have HX:=hid X;have HY:=hid Y;clear h1 h2 hi1 hi2 hne hne2 X Y;have tok:True:=trivial;have tok2:True:=trivial;have HT:=hid hT;have HC:=hid hcp;clear hT;go_enter func125,ntmps125
 go_wp2_with (first
  | (go_at_call 86;have _t:=tok;clear _t tok;refine qap hx.out ?_)
  | (go_at_call 86;refine qap hy.out ?_)
  | (go_at_call 82;have _t:=tok2;clear _t tok2;refine qap HT1.out ?_)
  | (go_at_call 82;refine qap HT2.out ?_))
 refine Mix.wp_region [0,1,2,3,4,5,6,7,8] [] [] (fun _=>default) (by kernel_rfl) (by kernel_rfl) (by decide) ?_
 iterate 9 (first|(refine pre_yes rfl rfl ?_;apply Exists.intro;refine⟨fun W1 hW1 => ?_,?_⟩;(focus (have hc1:=(qal hW1).1;(try simp only[zd,qaa] at hc1);have hk1:=qac.below hW1;go_simp;first|exact rfl|fail));simp only[Act.put,zk,zh,zi,ze,qai,qaj,zm,zn])|(refine pre_no rfl rfl ?_;simp only[Act.put,zk,zh,zi,ze,qai,qaj,zm,zn]))
 refine pre_end fl_nil (fun W2 hW2=>mid_nil ?_);rw[List.filterMap_nil];have hcw:=(qal hW2).1
 (try simp only[qaa] at hcw)
 have HW2:Hid (Below w.heap.size w W2):=hid ⟨hW2.os,hW2.tape,hW2.output,hW2.size,hW2.block⟩;have hs2:w.heap.size≤W2.heap.size:=HW2.out.size;have l5:tx<W2.heap.size:=by omega
 have l6:ty<W2.heap.size:=by omega
 clear hW2
 go_wp2_with fail
 refine Mix.wp_region [0,1,2,3,4,5,6,7,8,9] [] [] (fun _=>default) (by kernel_rfl) (by kernel_rfl) (by decide) ?_
 iterate 10 (first|(refine pre_yes rfl rfl ?_;apply Exists.intro;refine⟨fun W1 hW1 => ?_,?_⟩;(focus (have hc1:=(qal hW1).1;(try simp only[zd,qaa] at hc1);have hk1:=qac.below hW1;go_simp;first|exact rfl|(go_at_call 154;exact HTe.out W1 (HW2.out.trans (Below.mono ⟨hW1.os,hW1.tape,hW1.output,hW1.size,hW1.block⟩ hs2)))));simp only[Act.put,zk,zh,zi,ze,qai,qaj,zm,zn])|(refine pre_no rfl rfl ?_;simp only[Act.put,zk,zh,zi,ze,qai,qaj,zm,zn]))
 refine pre_end fl_nil (fun W3 hW3=>mid_nil ?_);rw[List.filterMap_nil];have HW3:Hid (Below w.heap.size w W3):=hid (HW2.out.trans (Below.mono ⟨hW3.os,hW3.tape,hW3.output,hW3.size,hW3.block⟩ hs2));have hs3:w.heap.size≤W3.heap.size:=HW3.out.size;have z1:=qac.below HW3.out _ _ x1;have z2:=qac.below HW3.out _ _ y1;clear hW3 hcw;have l3:tx<W3.heap.size:=by omega
 have l4:ty<W3.heap.size:=by omega
 go_wp2_with fail
 refine wp_loop_rounds 1 ?_;rw[rounds_succ]
 go_wp2_with fail
 obtain⟨O,hO⟩:∃ O,O=Obj.cells #[ptrV x,ptrV y,.pointer none] 309:=⟨_,rfl⟩;have HB:Hid (Below w.heap.size w (W3.alloc O)):=hid (HW3.out.alloc hs3 _);rw[← hO];clear hO;obtain⟨W4,hW4⟩:∃ W4,W4=W3.alloc O:=⟨_,rfl⟩;have hs4:W3.heap.size+1=W4.heap.size:=by rw[hW4];simp
 rw[← hW4] at HB ⊢;clear hW4
 go_loopw [468] (fun j wr=>∃ k:Nat,k≤n∧j = .int .i64 k∧Hid (Below w.heap.size w wr)∧Hid (∀ i,i<k→qnt p1 p2 m1 m2 i=true)) (fun j _=>n - (intOf j).toNat)
 case atStart=>exact⟨0,Nat.zero_le _,rfl,HB,hid fun i hi=>by omega⟩
 case round=>
  obtain⟨k,hk,rfl,hbel,hall⟩:=hrel;have hz:=hbel.out.size;by_cases hlt:k<n
  ·have hlt':(k:Int)<(n:Int):=by omega
   have HKn:Hid (k+1≤n):=hid hlt;have hlt2:k<n:=hlt;have H1:=hid ((HX.out.ms k hlt).keep hbel.out);have H2:=hid ((HY.out.ms k hlt).keep hbel.out);have hcap1:=HX.out.cap;have hle:=HX.out.le;have hcap2:=HY.out.cap;have r1:=H1.out.row;have r2:=H2.out.row;refine r1.elim fun g1 r1=>r1.elim fun o1 r1 => ?_;refine r2.elim fun g2 r2=>r2.elim fun o2 r2 => ?_;have q1:=r1.1;have q2:=r2.1;have q3:=r1.2;have q4:=r2.2;have d1:=H1.out.ty;have d2:=H2.out.ty;have b1:=zj wr _ d1;have b2:=zj wr _ d2;clear r1 r2;have HTw:=hid (HT.out.below hbel.out);have HC2:=hid (qac.below hbel.out _ _ HC.out);have HI1:Hid (∀ W1,Below wr.heap.size wr W1→Calls prog 156 #[.pointer (some ⟨f1 k,0,none⟩)] W1 (qa2 (.string (idS (p1 k) (m1 k))) W1)):=hid fun W1 hW1=>(H1.out.keep hW1).id (HTw.out.below hW1);have HI2:Hid (∀ W1,Below wr.heap.size wr W1→Calls prog 156 #[.pointer (some ⟨f2 k,0,none⟩)] W1 (qa2 (.string (idS (p2 k) (m2 k))) W1)):=hid fun W1 hW1=>(H2.out.keep hW1).id (HTw.out.below hW1);have HSg:Hid (∀ (W1:World),Below wr.heap.size wr W1→Calls prog 125 #[ptrV cp,.iface 162 (ptrV (s1 k)),.iface 162 (ptrV (s2 k)),.pointer (some ⟨W3.heap.size,0,none⟩)] W1 (qa2 (.bool true) W1)):=hid fun W1 hW1=>(H1.out.keep hW1).sig (H2.out.keep hW1) (qac.below hW1 _ _ HC2.out) _;have HE:Hid (qnt p1 p2 m1 m2 k=((idS (p1 k) (m1 k)).toList==(idS (p2 k) (m2 k)).toList)):=hid rfl;have HN:Hid (qnt p1 p2 m1 m2 k=false→(List.range n).all (qnt p1 p2 m1 m2)=false):=hid fun h=>by
    rw[List.all_eq_false];exact⟨k,List.mem_range.2 hlt2,by rw[h];decide⟩
   rw[q1,q2];clear q1 q2;obtain⟨t1,ht1⟩:∃ z,z=idS (p1 k) (m1 k):=⟨_,rfl⟩;obtain⟨t2,ht2⟩:∃ z,z=idS (p2 k) (m2 k):=⟨_,rfl⟩;rw[← ht1] at HI1 HE;rw[← ht2] at HI2 HE;clear ht1 ht2;have HI:Hid (∀ z t,(z=f1 k∧t=t1)∨(z=f2 k∧t=t2)→∀ W1,Below wr.heap.size wr W1→Calls prog 156 #[.pointer (some ⟨z,0,none⟩)] W1 (qa2 (.string t) W1)):=hid fun z t h W1 hW1=>by
    rcases h with ⟨rfl,rfl⟩|⟨rfl,rfl⟩
    ·exact HI1.out W1 hW1
    ·exact HI2.out W1 hW1
   clear HI1 HI2
   go_wp2_with fail
   cases heq:(t1.toList==t2.toList) with
   | false=>
    refine Mix.wp_region [0,1,2,3,4,5,6,7,8,9,10,11,12,13,14,15,16,17,18,19,20,21,22,23,24] [] [] (fun _=>default) (by kernel_rfl) (by kernel_rfl) (by decide) ?_
    iterate 25 (first|(refine pre_yes rfl rfl ?_;apply Exists.intro;refine⟨fun W1 hW1 => ?_,?_⟩;(focus (have hc1:=(qal hW1).1;(try simp only[zd,qaa] at hc1);have hk1:=qac.below hW1;go_simp;first|exact rfl|(first|(go_at_call 156;exact HI.out _ _ (by first|exact Or.inl ⟨rfl,rfl⟩|exact Or.inr ⟨rfl,rfl⟩) W1 ⟨hW1.os,hW1.tape,hW1.output,hW1.size,hW1.block⟩)|(go_at_call 125;exact HSg.out W1 ⟨hW1.os,hW1.tape,hW1.output,hW1.size,hW1.block⟩))));simp only[Act.put,zk,zh,zi,ze,qai,qaj,zm,zn])|(refine pre_no rfl rfl ?_;simp only[Act.put,zk,zh,zi,ze,qai,qaj,zm,zn]))
    refine pre_end fl_nil (fun W2 hW2=>mid_nil ?_);rw[List.filterMap_nil];have hz9:=zq hW2;(try simp only[zd,qaa] at hz9)
    go_wp2_with fail
    go_ret
    refine⟨?_,hbel.out.trans (Below.mono ⟨hW2.os,hW2.tape,hW2.output,hW2.size,hW2.block⟩ hz)⟩;rw[HN.out (by rw[HE.out];exact heq)];rfl
   | true=>
    refine Mix.wp_region [0,1,2,3,4,5,6,7,8,9,10,11,12,13,14,15,16,17,18,19,20,21,22,23,24] [] [] (fun _=>default) (by kernel_rfl) (by kernel_rfl) (by decide) ?_
    iterate 25 (first|(refine pre_yes rfl rfl ?_;apply Exists.intro;refine⟨fun W1 hW1 => ?_,?_⟩;(focus (have hc1:=(qal hW1).1;(try simp only[zd,qaa] at hc1);have hk1:=qac.below hW1;go_simp;first|exact rfl|(first|(go_at_call 156;exact HI.out _ _ (by first|exact Or.inl ⟨rfl,rfl⟩|exact Or.inr ⟨rfl,rfl⟩) W1 ⟨hW1.os,hW1.tape,hW1.output,hW1.size,hW1.block⟩)|(go_at_call 125;exact HSg.out W1 ⟨hW1.os,hW1.tape,hW1.output,hW1.size,hW1.block⟩))));simp only[Act.put,zk,zh,zi,ze,qai,qaj,zm,zn])|(refine pre_no rfl rfl ?_;simp only[Act.put,zk,zh,zi,ze,qai,qaj,zm,zn]))
    refine pre_end fl_nil (fun W2 hW2=>mid_nil ?_);rw[List.filterMap_nil];have hz9:=zq hW2;(try simp only[zd,qaa] at hz9)
    go_wp2_with fail
    go_roundw
    case rel=>exact⟨k+1,HKn.out,by go_num,hid (hbel.out.trans (Below.mono ⟨hW2.os,hW2.tape,hW2.output,hW2.size,hW2.block⟩ hz)),hid fun i hi=>by
     by_cases e:i=k
     ·rw[e,HE.out];exact heq
     ·exact hall.out i (by omega)⟩
    case measure=>have hkn:=HKn.out;simp[intOf];omega
  ·obtain rfl:k=n:=by omega
   have hA:(List.range k).all (qnt p1 p2 m1 m2)=true:=zhb.2 fun i hi=>hall.out i (List.mem_range.1 hi)
   go_wp2_with fail
   go_ret
   exact⟨by rw[hA];rfl,hbel.out⟩
