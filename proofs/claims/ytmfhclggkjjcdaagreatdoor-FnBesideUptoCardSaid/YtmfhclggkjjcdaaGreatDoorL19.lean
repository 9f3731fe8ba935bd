import Derived.Test.YtmfhclggkjjcdaaGreatDoorL18
import Derived.Test.YtmfhclggkjjcdaaGreatDoorL08
import Derived.Test.YtmfhclggkjjcdaaGreatDoorL02
set_option linter.all false
set_option maxHeartbeats 40000000
namespace Go.Proofs.YtmfhclggkjjcdaaGreatDoor
open Go Go.RowKit Go.Proofs.Tryz
set_option maxRecDepth 100000
theorem qgp (x n c:Nat) (a:Option Addr) (w:World) (h:w.cell? ⟨x,0,none⟩=some (.slice a n c)):Calls prog 152 #[ptrV x] w fun e w'=>e = .returned (.int .i64 n)∧w'=w:=by
 go_enter func152,ntmps152
 go_wp2_with fail
 go_ret
 exact⟨rfl,rfl⟩
theorem tag_any (x i : Nat) (w : World) (h : w.cell? ⟨x, 1, none⟩ = some (.slice none 0 0)) : Calls prog 153 #[ptrV x, .int .i64 i] w fun e w' => e = .returned (.string "".toUTF8) ∧ w' = w := by
 have hi:¬ ((i:Int)<0):=by omega
 go_enter func153,ntmps153
 go_wp2_with fail
 go_ret
 exact⟨rfl,rfl⟩
section
variable (cp x y:Nat) (v1 v2:Value) (w:World) (hcp:w.cell? ⟨cp,1,none⟩=some (.bool false)) (n1 c1 n2 c2:Nat) (a1 a2:Option Addr)
include hcp
theorem qon (hne:x≠y) (h1:qbs w v1 (.iface 153 (ptrV x))) (h2:qbs w v2 (.iface 153 (ptrV y))) (hi1:TyIn w (153,x)) (hi2:TyIn w (153,y))
  (hx0:w.cell? ⟨x,0,none⟩=some (.slice a1 n1 c1)) (hy0:w.cell? ⟨y,0,none⟩=some (.slice a2 n2 c2)) (hn:n1≠n2) (p:Option Addr):
  Calls prog 125 #[ptrV cp,v1,v2,.pointer p] w fun e w'=>e = .returned (.bool false)∧w'=w:=by
 have hx:=hid (qan _ _ w h1);have hy:=hid (qan _ _ w h2);have he:=qg7 w (153,x) (153,y) hi1 hi2;have hne2:((153,x)==(153,y))=false:=by simpa using hne
 rw[hne2] at he;have heg:=fun p q=>qc9 153 153 (ptrV x) (ptrV y) 63 p q w;have hcl:=zj w _ hcp;have t1:=fun v w=>qaw (T:=153) underlying156 Tryz.zs273 (by decide) v w;have t2:=fun v w=>qaw (T:=153) underlying300 Tryz.zsArr (by decide) v w;have t3:=fun v w=>qaw (T:=153) underlying147 Tryz.zsSl (by decide) v w;have t4:=fun v w=>qb5 underlying153 v w;have HN1:=hid (qgp x n1 c1 a1 w hx0);have HN2:=hid (qgp y n2 c2 a2 w hy0);have hxl:=zj w _ hx0;have hyl:=zj w _ hy0;clear h1 h2 hi1 hi2 hne hne2;have tok:True:=trivial;have tok2:True:=trivial;have hn':¬ ((n1:Int)=(n2:Int)):=by omega
 go_enter func125,ntmps125
 go_wp2_with (first
  | (go_at_call 86;have _t:=tok;clear _t tok;refine qap hx.out ?_)
  | (go_at_call 86;refine qap hy.out ?_)
  | (go_at_call 152;have _t:=tok2;clear _t tok2;refine qap HN1.out ?_)
  | (go_at_call 152;refine qap HN2.out ?_))
 go_ret
 exact⟨rfl,rfl⟩
theorem qrv (hne:x≠y) (h1:qbs w v1 (.iface 153 (ptrV x))) (h2:qbs w v2 (.iface 153 (ptrV y))) (hi1:TyIn w (153,x)) (hi2:TyIn w (153,y))
  (hx0:w.cell? ⟨x,0,none⟩=some (.slice a1 n1 c1)) (hy0:w.cell? ⟨y,0,none⟩=some (.slice a2 n2 c2)) (hn:n1=0) (hn2:n2=0) (p:Option Addr):
  Calls prog 125 #[ptrV cp,v1,v2,.pointer p] w fun e w'=>e = .returned (.bool true)∧w'=w:=by
 have hx:=hid (qan _ _ w h1);have hy:=hid (qan _ _ w h2);have he:=qg7 w (153,x) (153,y) hi1 hi2;have hne2:((153,x)==(153,y))=false:=by simpa using hne
 rw[hne2] at he;have heg:=fun p q=>qc9 153 153 (ptrV x) (ptrV y) 63 p q w;have hcl:=zj w _ hcp;have t1:=fun v w=>qaw (T:=153) underlying156 Tryz.zs273 (by decide) v w;have t2:=fun v w=>qaw (T:=153) underlying300 Tryz.zsArr (by decide) v w;have t3:=fun v w=>qaw (T:=153) underlying147 Tryz.zsSl (by decide) v w;have t4:=fun v w=>qb5 underlying153 v w;have HN1:=hid (qgp x n1 c1 a1 w hx0);have HN2:=hid (qgp y n2 c2 a2 w hy0);have hxl:=zj w _ hx0;have hyl:=zj w _ hy0;clear h1 h2 hi1 hi2 hne hne2;have tok:True:=trivial;have tok2:True:=trivial;have hn':(n1:Int)=(n2:Int):=by omega
 have hn3:¬ (0:Int)<(n1:Int):=by omega
 go_enter func125,ntmps125
 go_wp2_with (first
  | (go_at_call 86;have _t:=tok;clear _t tok;refine qap hx.out ?_)
  | (go_at_call 86;refine qap hy.out ?_)
  | (go_at_call 152;have _t:=tok2;clear _t tok2;refine qap HN1.out ?_)
  | (go_at_call 152;refine qap HN2.out ?_))
 refine wp_loop_rounds 1 ?_;rw[rounds_succ]
 go_wp2_with fail
 go_ret
 exact⟨rfl,rfl⟩
end
structure FldM (w:World) (g o i pk:Nat) (f:Nat) (m:Int) (u:Value) (e:Bool):Prop where
 row:w.cell? ⟨g,o+i,none⟩=some (ptrV f)
 pk:w.cell? ⟨f,1,none⟩=some (ptrV pk)
 nm:w.cell? ⟨f,2,none⟩=some (.string (qas m))
 ty:w.cell? ⟨f,3,none⟩=some u
 em:w.cell? ⟨f,5,none⟩=some (.bool e)
 is:IsNm m
theorem FldM.keep {w w':World} {g o i pk f:Nat} {m:Int} {u:Value} {e:Bool} (h:FldM w g o i pk f m u e) (hb:Below w.heap.size w w'):FldM w' g o i pk f m u e:=
 ⟨qac.below hb _ _ h.row,qac.below hb _ _ h.pk,qac.below hb _ _ h.nm,qac.below hb _ _ h.ty,qac.below hb _ _ h.em,h.is⟩
def qp3 (p1 p2:Int) (m1 m2:Nat→Int) (e1 e2 r:Nat→Bool) (i:Nat):Bool:=e1 i==e2 i&&qbp p1 (m1 i) p2 (m2 i)&&r i
theorem qq9 {w W:World} (hk:qac w W) {g o i pk f g' o' pk' f':Nat} {m m' p q:Int} {u u':Value} {e e':Bool} (h:FldM w g o i pk f m u e) (h':FldM w g' o' i pk' f' m' u' e') (hT:Tabs W) (hp:p=0∨p=1) (hq:q=0∨q=1) (h3:w.cell? ⟨pk,0,none⟩=some (.string (qbo p))) (h4:w.cell? ⟨pk',0,none⟩=some (.string (qbo q))):
  Calls prog 113 #[.pointer (some ⟨f,0,none⟩),.pointer (some ⟨pk',0,none⟩),.string (qas m'),.bool false] W (qa2 (.bool (qbp p m q m')) W):=
 qik f pk pk' p m q m' W h.is h'.is hp hq hT (hk _ _ h.pk) (hk _ _ h.nm) (hk _ _ h3) (hk _ _ h4)
theorem qnr (cp x y:Nat) (v1 v2:Value) (w:World) (hcp0:w.cell? ⟨cp,0,none⟩=some (.bool false)) (hcp:w.cell? ⟨cp,1,none⟩=some (.bool false)) (n c1 c2 g1 o1 g2 o2 pk1 pk2:Nat) (hne:x≠y) (h1:qbs w v1 (.iface 153 (ptrV x))) (h2:qbs w v2 (.iface 153 (ptrV y))) (hi1:TyIn w (153,x)) (hi2:TyIn w (153,y))
  (hx0:w.cell? ⟨x,0,none⟩=some (.slice (some ⟨g1,o1,none⟩) n c1)) (hx1:w.cell? ⟨x,1,none⟩=some (.slice none 0 0)) (hy0:w.cell? ⟨y,0,none⟩=some (.slice (some ⟨g2,o2,none⟩) n c2)) (hy1:w.cell? ⟨y,1,none⟩=some (.slice none 0 0)) (hn1:n≤c1) (hn2:n≤c2) (hbd:n≤1048576)
  (hT:Tabs w) (p1 p2:Int) (hp1:p1=0∨p1=1) (hp2:p2=0∨p2=1) (hk1:w.cell? ⟨pk1,0,none⟩=some (.string (qbo p1))) (hk2:w.cell? ⟨pk2,0,none⟩=some (.string (qbo p2)))
  (m1 m2:Nat→Int) (e1 e2 r:Nat→Bool) (f1 f2:Nat→Nat) (u1 u2:Nat→Value) (hf1:∀ i,i<n→FldM w g1 o1 i pk1 (f1 i) (m1 i) (u1 i) (e1 i)) (hf2:∀ i,i<n→FldM w g2 o2 i pk2 (f2 i) (m2 i) (u2 i) (e2 i))
  (ih:∀ i,i<n→∀ w',Below w.heap.size w w'→Calls prog 125 #[ptrV cp,u1 i,u2 i,.pointer none] w' (qa2 (.bool (r i)) w')):
  Calls prog 125 #[ptrV cp,v1,v2,.pointer none] w (qa2 (.bool ((List.range n).all (qp3 p1 p2 m1 m2 e1 e2 r))) w):=by
 obtain⟨n1,hn1'⟩:∃ n1:Nat,n1=n:=⟨_,rfl⟩;obtain⟨n2,hn2'⟩:∃ n2:Nat,n2=n:=⟨_,rfl⟩;obtain⟨a1,ha1⟩:∃ a1:Option Addr,a1=some ⟨g1,o1,none⟩:=⟨_,rfl⟩;obtain⟨a2,ha2⟩:∃ a2:Option Addr,a2=some ⟨g2,o2,none⟩:=⟨_,rfl⟩;have hx0':=hx0;have hy0':=hy0;rw[← ha1,← hn1'] at hx0;rw[← ha2,← hn2'] at hy0;have hx:=hid (qan _ _ w h1);have hy:=hid (qan _ _ w h2);have he:=qg7 w (153,x) (153,y) hi1 hi2;have hne2:((153,x)==(153,y))=false:=by simpa using hne
 rw[hne2] at he;have heg:=fun p q=>qc9 153 153 (ptrV x) (ptrV y) 63 p q w;have hcl:=zj w _ hcp;have t1:=fun v w=>qaw (T:=153) underlying156 Tryz.zs273 (by decide) v w;have t2:=fun v w=>qaw (T:=153) underlying300 Tryz.zsArr (by decide) v w;have t3:=fun v w=>qaw (T:=153) underlying147 Tryz.zsSl (by decide) v w;have t4:=fun v w=>qb5 underlying153 v w;have HN1:=hid (qgp x n1 c1 a1 w hx0);have HN2:=hid (qgp y n2 c2 a2 w hy0);have hxl:=zj w _ hx0;have hyl:=zj w _ hy0;clear h1 h2 hi1 hi2 hne hne2;have tok:True:=trivial;have tok2:True:=trivial;subst ha1 ha2 hn1';have hnn:(n2:Int)=(n1:Int):=by omega
 subst hn2';clear hx0' hy0' hnn;have HI:=hid ih;have HT:=hid hT;have HF1:=hid hf1;have HF2:=hid hf2;have HP:=hid (And.intro hp1 hp2);have HK:=hid (And.intro hk1 hk2);clear ih hT hf1 hf2 hp1 hp2 hk1 hk2;go_enter func125,ntmps125
 go_wp2_with (first
  | (go_at_call 86;have _t:=tok;clear _t tok;refine qap hx.out ?_)
  | (go_at_call 86;refine qap hy.out ?_)
  | (go_at_call 152;have _t:=tok2;clear _t tok2;refine qap HN1.out ?_)
  | (go_at_call 152;refine qap HN2.out ?_))
 go_loopw [191] (fun j wr=>∃ k:Nat,k≤n2∧j = .int .i64 k∧Hid (Below w.heap.size w wr)∧Hid (∀ i,i<k→qp3 p1 p2 m1 m2 e1 e2 r i=true)) (fun j _=>n2 - (intOf j).toNat)
 case atStart=>exact⟨0,Nat.zero_le _,rfl,hid (zp _ _),hid fun i hi=>by omega⟩
 case round=>
  obtain⟨k,hk,rfl,hbel,hall⟩:=hrel;have hz:=hbel.out.size;by_cases hlt:k<n2
  ·have hlt':(k:Int)<(n2:Int):=by omega
   have HKn:Hid (k+1≤n2):=hid hlt;have hk1:=hlt;have H1:=hid ((HF1.out k hlt).keep hbel.out);have H2:=hid ((HF2.out k hlt).keep hbel.out);have r1:=H1.out.row;have r2:=H2.out.row;have d1:=H1.out.pk;have d2:=H2.out.pk;have d3:=H1.out.nm;have d4:=H2.out.nm;have d5:=H1.out.ty;have d6:=H2.out.ty;have d7:=H1.out.em;have d8:=H2.out.em;have l1:=zj wr _ d1;have l2:=zj wr _ d2;have kx0:=qac.below hbel.out _ _ hx0;have ky0:=qac.below hbel.out _ _ hy0;have kx1:=qac.below hbel.out _ _ hx1;have ky1:=qac.below hbel.out _ _ hy1;have kc0:=qac.below hbel.out _ _ hcp0;have lx:x<wr.heap.size:=by omega
   have ly:y<wr.heap.size:=by omega
   have lc:cp<wr.heap.size:=by omega
   have HIk:Hid (∀ W1,Below wr.heap.size wr W1→Calls prog 125 #[ptrV cp,u1 k,u2 k,.pointer none] W1 (qa2 (.bool (r k)) W1)):=hid fun W1 hW1=>HI.out k hlt W1 (hbel.out.trans (hW1.mono hz));have HTg : Hid (∀ z, z = x ∨ z = y → ∀ W1, Below wr.heap.size wr W1 → Calls prog 153 #[ptrV z, .int .i64 k] W1 (qa2 (.string "".toUTF8) W1)) := hid fun z hz W1 hW1 => by
    refine(tag_any z k W1 (qac.below hW1 _ _ ?_)).mono fun e w' h=>⟨h.1,h.2 ▸ zp _ _⟩;rcases hz with rfl|rfl
    ·exact kx1
    ·exact ky1
   have HT2:=hid (HT.out.below hbel.out);have HK1:=hid (qac.below hbel.out _ _ HK.out.1);have HK2:=hid (qac.below hbel.out _ _ HK.out.2);have HN:Hid (qp3 p1 p2 m1 m2 e1 e2 r k=false→(List.range n2).all (qp3 p1 p2 m1 m2 e1 e2 r)=false):=hid fun h=>by
    rw[List.all_eq_false];exact⟨k,List.mem_range.2 hlt,by rw[h];decide⟩
   have HE:Hid (qp3 p1 p2 m1 m2 e1 e2 r k=(e1 k==e2 k&&qbp p1 (m1 k) p2 (m2 k)&&r k)):=hid rfl;obtain⟨ek1,hek1⟩:∃ z,z=e1 k:=⟨_,rfl⟩;obtain⟨ek2,hek2⟩:∃ z,z=e2 k:=⟨_,rfl⟩;obtain⟨sk,hsk⟩:∃ z,z=qbp p1 (m1 k) p2 (m2 k):=⟨_,rfl⟩;obtain⟨rk,hrk⟩:∃ z,z=r k:=⟨_,rfl⟩;have HS:Hid (∀ W1,Below wr.heap.size wr W1→Calls prog 113 #[.pointer (some ⟨f1 k,0,none⟩),.pointer (some ⟨pk2,0,none⟩),.string (qas (m2 k)),.bool false] W1 (qa2 (.bool sk) W1)):=hid fun W1 hW1=>by
    rw[hsk];exact qq9 (qac.below hW1) H1.out H2.out (HT2.out.below hW1) HP.out.1 HP.out.2 HK1.out HK2.out
   rw[← hek1] at d7;rw[← hek2] at d8;rw[← hrk] at HIk;rw[← hek1,← hek2,← hsk,← hrk] at HE;clear hek1 hek2 hsk hrk
   go_wp2_with fail
   cases hee:(ek1==ek2) with
   | false=>
    have hee2:(ek1 != ek2)=true:=by simp[bne,hee]
    refine Mix.wp_region [0,1,2,3,4,5,6,7,8,9,10,11,12,13,14,15,16,17,18,19,20,21,22,23,24,25,26,27,28,29,30,31,32,33,34,35,36,37,38,39,40,41,42,43,44,45,46,47,48,49,50,51,52,53,54,55,56,57] [] [] (fun _=>default) (by kernel_rfl) (by kernel_rfl) (by decide) ?_
    iterate 58 (first|(refine pre_yes rfl rfl ?_;apply Exists.intro;refine⟨fun W1 hW1 => ?_,?_⟩;(focus (have hc1:=(qal hW1).1;(try simp only[zd,qaa] at hc1);have hk1:=qac.below hW1;go_simp;first|exact rfl|(first|(go_at_call 113;exact HS.out W1 ⟨hW1.os,hW1.tape,hW1.output,hW1.size,hW1.block⟩)|(go_at_call 153;exact HTg.out _ (by first|exact Or.inl rfl|exact Or.inr rfl) W1 ⟨hW1.os,hW1.tape,hW1.output,hW1.size,hW1.block⟩)|(go_at_call 125;exact HIk.out W1 ⟨hW1.os,hW1.tape,hW1.output,hW1.size,hW1.block⟩))));simp only[Act.put,zk,zh,zi,ze,qai,qaj,zm,zn])|(refine pre_no rfl rfl ?_;simp only[Act.put,zk,zh,zi,ze,qai,qaj,zm,zn]))
    refine pre_end fl_nil (fun W2 hW2=>mid_nil ?_);rw[List.filterMap_nil];have hz9:=zq hW2;(try simp only[zd,qaa] at hz9)
    go_wp2_with fail
    go_ret
    refine⟨?_,hbel.out.trans (Below.mono ⟨hW2.os,hW2.tape,hW2.output,hW2.size,hW2.block⟩ hz)⟩;rw[HN.out (by rw[HE.out];simp[hee])];rfl
   | true=>
    have hee2:(ek1 != ek2)=false:=by simp[bne,hee]
    cases sk with
    | false=>
     refine Mix.wp_region [0,1,2,3,4,5,6,7,8,9,10,11,12,13,14,15,16,17,18,19,20,21,22,23,24,25,26,27,28,29,30,31,32,33,34,35,36,37,38,39,40,41,42,43,44,45,46,47,48,49,50,51,52,53,54,55,56,57] [] [] (fun _=>default) (by kernel_rfl) (by kernel_rfl) (by decide) ?_
     iterate 58 (first|(refine pre_yes rfl rfl ?_;apply Exists.intro;refine⟨fun W1 hW1 => ?_,?_⟩;(focus (have hc1:=(qal hW1).1;(try simp only[zd,qaa] at hc1);have hk1:=qac.below hW1;go_simp;first|exact rfl|(first|(go_at_call 113;exact HS.out W1 ⟨hW1.os,hW1.tape,hW1.output,hW1.size,hW1.block⟩)|(go_at_call 153;exact HTg.out _ (by first|exact Or.inl rfl|exact Or.inr rfl) W1 ⟨hW1.os,hW1.tape,hW1.output,hW1.size,hW1.block⟩)|(go_at_call 125;exact HIk.out W1 ⟨hW1.os,hW1.tape,hW1.output,hW1.size,hW1.block⟩))));simp only[Act.put,zk,zh,zi,ze,qai,qaj,zm,zn])|(refine pre_no rfl rfl ?_;simp only[Act.put,zk,zh,zi,ze,qai,qaj,zm,zn]))
     refine pre_end fl_nil (fun W2 hW2=>mid_nil ?_);rw[List.filterMap_nil];have hz9:=zq hW2;(try simp only[zd,qaa] at hz9)
     go_wp2_with fail
     go_ret
     refine⟨?_,hbel.out.trans (Below.mono ⟨hW2.os,hW2.tape,hW2.output,hW2.size,hW2.block⟩ hz)⟩;rw[HN.out (by rw[HE.out];simp[hee])];rfl
    | true=>
     cases rk with
     | false=>
      refine Mix.wp_region [0,1,2,3,4,5,6,7,8,9,10,11,12,13,14,15,16,17,18,19,20,21,22,23,24,25,26,27,28,29,30,31,32,33,34,35,36,37,38,39,40,41,42,43,44,45,46,47,48,49,50,51,52,53,54,55,56,57] [] [] (fun _=>default) (by kernel_rfl) (by kernel_rfl) (by decide) ?_
      iterate 58 (first|(refine pre_yes rfl rfl ?_;apply Exists.intro;refine⟨fun W1 hW1 => ?_,?_⟩;(focus (have hc1:=(qal hW1).1;(try simp only[zd,qaa] at hc1);have hk1:=qac.below hW1;go_simp;first|exact rfl|(first|(go_at_call 113;exact HS.out W1 ⟨hW1.os,hW1.tape,hW1.output,hW1.size,hW1.block⟩)|(go_at_call 153;exact HTg.out _ (by first|exact Or.inl rfl|exact Or.inr rfl) W1 ⟨hW1.os,hW1.tape,hW1.output,hW1.size,hW1.block⟩)|(go_at_call 125;exact HIk.out W1 ⟨hW1.os,hW1.tape,hW1.output,hW1.size,hW1.block⟩))));simp only[Act.put,zk,zh,zi,ze,qai,qaj,zm,zn])|(refine pre_no rfl rfl ?_;simp only[Act.put,zk,zh,zi,ze,qai,qaj,zm,zn]))
      refine pre_end fl_nil (fun W2 hW2=>mid_nil ?_);rw[List.filterMap_nil];have hz9:=zq hW2;(try simp only[zd,qaa] at hz9)
      go_wp2_with fail
      go_ret
      refine⟨?_,hbel.out.trans (Below.mono ⟨hW2.os,hW2.tape,hW2.output,hW2.size,hW2.block⟩ hz)⟩;rw[HN.out (by rw[HE.out];simp[hee])];rfl
     | true=>
      refine Mix.wp_region [0,1,2,3,4,5,6,7,8,9,10,11,12,13,14,15,16,17,18,19,20,21,22,23,24,25,26,27,28,29,30,31,32,33,34,35,36,37,38,39,40,41,42,43,44,45,46,47,48,49,50,51,52,53,54,55,56,57] [] [] (fun _=>default) (by kernel_rfl) (by kernel_rfl) (by decide) ?_
      iterate 58 (first|(refine pre_yes rfl rfl ?_;apply Exists.intro;refine⟨fun W1 hW1 => ?_,?_⟩;(focus (have hc1:=(qal hW1).1;(try simp only[zd,qaa] at hc1);have hk1:=qac.below hW1;go_simp;first|exact rfl|(first|(go_at_call 113;exact HS.out W1 ⟨hW1.os,hW1.tape,hW1.output,hW1.size,hW1.block⟩)|(go_at_call 153;exact HTg.out _ (by first|exact Or.inl rfl|exact Or.inr rfl) W1 ⟨hW1.os,hW1.tape,hW1.output,hW1.size,hW1.block⟩)|(go_at_call 125;exact HIk.out W1 ⟨hW1.os,hW1.tape,hW1.output,hW1.size,hW1.block⟩))));simp only[Act.put,zk,zh,zi,ze,qai,qaj,zm,zn])|(refine pre_no rfl rfl ?_;simp only[Act.put,zk,zh,zi,ze,qai,qaj,zm,zn]))
      refine pre_end fl_nil (fun W2 hW2=>mid_nil ?_);rw[List.filterMap_nil];have hz9:=zq hW2;(try simp only[zd,qaa] at hz9)
      go_wp2_with fail
      go_roundw
      case rel=>exact⟨k+1,HKn.out,by go_num,hid (hbel.out.trans (Below.mono ⟨hW2.os,hW2.tape,hW2.output,hW2.size,hW2.block⟩ hz)),hid fun i hi=>by
       by_cases e:i=k
       ·rw[e,HE.out,hee];rfl
       ·exact hall.out i (by omega)⟩
      case measure=>have hkn:=HKn.out;simp[intOf];omega
  ·obtain rfl:k=n2:=by omega
   have hA:(List.range k).all (qp3 p1 p2 m1 m2 e1 e2 r)=true:=zhb.2 fun i hi=>hall.out i (List.mem_range.1 hi)
   go_wp2_with fail
   go_ret
   exact⟨by rw[hA];rfl,hbel.out⟩
