import Derived.Test.YtmfhclggkjjcdaaGreatDoorL37
import Derived.Test.YtmfhclggkjjcdaaGreatDoorL35
set_option linter.all false
set_option maxHeartbeats 8000000
namespace Go.Proofs.YtmfhclggkjjcdaaGreatDoor
open Go Go.RowKit Go.Proofs.Tryz
set_option maxRecDepth 100000
variable {w:World}
theorem Tryz.infoDc:(prog.info? 82).map (fun i=>(i.zero,i.size,i.bytes))=some (some (.agg #[.int .i64 0,.int .i64 0,.bool false,.int .i64 0,.int .i64 0,.slice none 0 0,.slice none 0 0,.slice none 0 0,.slice none 0 0,.slice none 0 0]),10,160):=by kernel_rfl
def DcsX (w:World):Wd→List Value→Prop
 | [],xs=>xs=[]
 | d::r,xs=>∃ cs ys,xs=cs++ys∧cs.length=10∧DcC w d cs∧DcsX w r ys
theorem DcsX.snoc {d:Dc} {cs:List Value} (hl:cs.length=10) (hd:DcC w d cs):∀ {l:Wd} {xs:List Value},DcsX w l xs→DcsX w (l++[d]) (xs++cs)
 | [],xs,h=>by simp only[DcsX] at h;subst h;exact⟨cs,[],by simp,hl,hd,rfl⟩
 | u::r,xs,⟨cs',ys,e,h0,h1,h2⟩=>by subst e;exact⟨cs',ys++cs,by simp,h0,h1,DcsX.snoc hl hd h2⟩
theorem DcsX.keep {w W:World} (k:qac w W):∀ {l:Wd} {xs:List Value},DcsX w l xs→DcsX W l xs
 | [],xs,h=>h
 | u::r,xs,⟨cs',ys,e,h0,h1,h2⟩=>⟨cs',ys,e,h0,DcC.keep k h1,DcsX.keep k h2⟩
theorem DcsX.row {a:Option Addr} {l:Wd} {xs:List Value} (h:DcsX w l xs) (hc:l≠[]→∃ g,a=some ⟨g,0,none⟩∧qat w g 0 xs):WdR w a l:=by
 intro k hk;obtain⟨g,rfl,hg⟩:=hc (by intro e;subst e;simp at hk);have key:∀ (l:Wd) (xs:List Value) (o:Nat),DcsX w l xs→qat w g o xs→∀ k (hk:k<l.length),∃ cs,qat w g (o+k * 10) cs∧DcC w l[k] cs:=by
  intro l
  induction l with
  | nil=>intro xs o _ _ k hk;simp at hk
  | cons d r ih=>
   intro xs o h hg k hk;obtain⟨cs,ys,e,hl,hd,hr⟩:=h;subst e;obtain⟨h1,h2⟩:=hg.split;cases k with
   | zero=>exact⟨cs,by simpa using h1,hd⟩
   | succ k=>
    obtain⟨cs',h3,h4⟩:=ih ys (o+cs.length) hr h2 k (by simpa using hk);refine⟨cs',?_,h4⟩;rw[hl] at h3;rw[show o+(k+1) * 10=o+10+k * 10 by omega];exact h3
 obtain⟨cs,h1,h2⟩:=key l xs 0 h hg k hk;exact⟨g,0,cs,rfl,h1,h2⟩
def GivesWd (W:Wd) (w:World) (e:Ending) (w':World):Prop:=∃ a c,e = .returned (.slice a W.length c)∧W.length≤c∧WdR (hide (fun b=>b<w.heap.size) w') a W∧Below w.heap.size w w'
theorem oc10 (n p k m:Int) (al:Bool) (x1 x2 x3 x4 x5:Option Addr) (n1 n2 n3 n4 n5 c1 c2 c3 c4 c5:Nat):∀ u∈[Value.int .i64 n,.int .i64 p,.bool al,.int .i64 k,.int .i64 m,.slice x1 n1 c1,.slice x2 n2 c2,.slice x3 n3 c3,.slice x4 n4 c4,.slice x5 n5 c5],u.oneCell'=true:=by simp[Value.oneCell']
theorem qrf {B n m:Nat} {T:TypeId} {size:Nat} {wr wc w5:World} {v v':Value} {xs ys:List Value} (hsz:B≤wr.heap.size)
  (hb:Below wr.heap.size wr wc) (hown:wr.ownsRow 0 T size v n xs) (hv:∀ g,v.ownBlock=some g→B≤g) (h5:w5.ownsRow 0 T size v' m ys) (hg:wc.grownBy w5 v.ownBlock)
  (hl:v'.ownBlock=v.ownBlock∨v'.ownBlock=some wc.heap.size):
  qac (hide (HidR B v) wr) (hide (HidR B v') w5)∧(∀ g,v'.ownBlock=some g→B≤g)∧
   ∀ (S:Nat→Prop) (wp:World),qag S wp wc→(∀ b,b<wr.heap.size→S b)→qac (hide S wp) (hide (HidR B v') w5):=by
 have hlt:∀ g,v.ownBlock=some g→g<wr.heap.size:=fun g hg=>(hown.lt g hg).2;have hz:=hb.size;have hv':∀ g,v'.ownBlock=some g→B≤g:=fun g hg=>by
  rcases hl with e|e
  ·exact hv g (e ▸ hg)
  ·rw[e] at hg;cases hg;omega
 refine⟨qac.hide ((qag.keep hb).trans (qag.grown hg fun b h _=>Or.inr h)) fun b hb' hS => ?_,hv',fun S wp hA hS=>qac.hide (hA.trans (qag.grown hg fun b h _=>hS b (hlt b h))) fun b hb' hS' => ?_⟩
 ·rcases hS with hS|hS
  ·exact .inl hS
  ·rcases hl with e|e
   ·exact .inr (e ▸ hS)
   ·rw[e] at hS;cases hS;omega
 ·rcases hS' with h|h
  ·exact hS b (by omega)
  ·rcases hl with e|e
   ·exact hS b (hlt b (e ▸ h))
   ·rw[e] at h;cases h;have:=hA.size;omega
theorem qt9 {b:Nat} {T:TypeId} {u0 u1 u2 u3 u4 u5 u6 u7 u8 u9:Value} (h:Blk w b T [u0,u1,u2,u3,u4,u5,u6,u7,u8,u9]) (v0 v1 v2 v3 v4 v5 v6 v7 v8 v9:Value):
  Blk (qgw w b v0 v1 v2 v3 v4 v5 v6 v7 v8 v9) b T [v0,v1,v2,v3,v4,v5,v6,v7,v8,v9]:=
 ((((((((((h.set 0 v0).set 1 v1).set 2 v2).set 3 v3).set 4 v4).set 5 v5).set 6 v6).set 7 v7).set 8 v8).set 9 v9)
theorem qp5 (S:Nat→Prop) (w:World) (b:Nat) (hb:S b) (v0 v1 v2 v3 v4 v5 v6 v7 v8 v9:Value):qag S w (qgw w b v0 v1 v2 v3 v4 v5 v6 v7 v8 v9):=
 (((((((((qag.setCell S _ hb _).trans (qag.setCell S _ hb _)).trans (qag.setCell S _ hb _)).trans (qag.setCell S _ hb _)).trans (qag.setCell S _ hb _)).trans (qag.setCell S _ hb _)).trans (qag.setCell S _ hb _)).trans (qag.setCell S _ hb _)).trans (qag.setCell S _ hb _)).trans (qag.setCell S _ hb _)
theorem qtm {P:Program} {ops:Array Oper} {i:Nat} {a:Act} {o:Oper} {M:Nat→MixR.Made} {K':Act→World→Prop} {us:List Nat} {W:World} {m:List (Nat×Bool)} (hb:Below w.heap.size w W) (ho:ops[i]?=some o) (hw:Region.wanted o (yielded ops a.tmps)=true)
  (h:∀ Kp:Value→World→Prop,(∀ v W',Below W.heap.size W W'→(∀ W'',Below W'.heap.size W' W''→Mix.wpMid P ops w M K' (List.range' W.heap.size (W'.heap.size - W.heap.size)++us) m (a.put o.dst v) W'')→Kp v W')→MixR.Runs P Kp ((execOp a.eval o).run P W)):
  Mix.wpMid P ops w M K' us ((i,false)::m) a W:=qg5 ho hw (h _ fun v W' hb' hk=>
 ⟨hb.trans (hb'.mono hb.size),⟨none,⟨hb'.os,hb'.tape,hb'.output,hb'.size,fun k hk _=>hb'.block k hk⟩,fun k h=>(by cases h)⟩,List.range' W.heap.size (W'.heap.size - W.heap.size),
  fun k hk=>by rw[List.mem_range'_1] at hk;have:=hb'.size;omega,hk⟩)
theorem qsu (W:Wd) (a:Option Addr) (c:Nat) (w:World) (hW:WOk w W a c):Calls prog 13 #[.slice a W.length c] w (GivesWd W w):=by
 have hl:=qbk W;have hcap:=hW.cap;have hbk:=hW.bulk;have HW:=hid hW;obtain⟨i0,hi,hz0,hz1,hzb⟩:=info_parts Tryz.infoDc;have Di:=hid hi;have D0:=hid hz0;have D1:=hid hz1;have D2:=hid hzb;clear hi hz0 hz1 hzb;obtain⟨i9,hi,hz0,hz1,hzb⟩:=info_parts Tryz.infoMt;have Ti:=hid hi;have T0:=hid hz0;have T1:=hid hz1;have T2:=hid hzb;clear hi hz0 hz1 hzb hW;go_enter func13,ntmps13
 go_wp2_with fail
 go_loopw [3,11] (fun u j wr=>∃ k:Nat,k≤W.length∧j = .int .i64 k∧Below w.heap.size w wr∧∃ ra rc,u = .slice ra k rc∧Hid (∃ xs,
   wr.ownsRow 0 82 10 (.slice ra k rc) k xs∧(∀ g,(Value.slice ra k rc).ownBlock=some g→w.heap.size≤g)∧DcsX (hide (HidR w.heap.size (.slice ra k rc)) wr) (W.take k) xs))
  (fun _ j _=>W.length - (intOf j).toNat)
 case atStart=>exact⟨0,by omega,rfl,zp _ _,none,0,rfl,hid ⟨[],zdb _ _ _ _,fun g h=>(by cases h),rfl⟩⟩
 case round=>
  obtain⟨k,hk,rfl,hbel,ra,rc,rfl,hst⟩:=hrel;obtain⟨xs,hown,hvB,hxs⟩:=hst.out;obtain⟨wo,rfl⟩:∃ wo:World,wo=wr:=⟨_,rfl⟩;have Hown:=hid hown;have HvB:=hid hvB;have Hxs:=hid hxs;have hz:=zq hbel;have HK:=hid (qac.below hbel);clear hst hown hvB hxs;by_cases hlt:k<W.length
  ·obtain⟨b,o,y1,g1,y2,g2,y3,g3,y4,g4,y5,g5,rfl,hmc,hin,hip,hms,ht1,hcc⟩:=HW.out.row.get k hlt;obtain⟨e0,e1,e2,e3,e4,e5,e6,e7,e8,e9⟩:=ten (hcc.keep HK.out);have Ht1:=hid ht1;have Hms:=hid hms;have Hin:=hid hin;have Hip:=hid hip;have hbr:=zj wo _ e0;simp only at hbr;have hself:wo.heap.size<wo.heap.size+1:=zw _;have hbd:=qfe hlt;rw[qcg hlt] at hbd;unfold Dc.bulk at hbd;clear ht1 hms hin hip hcc
   go_wp2_with fail
   refine Mix.wp_region [0,1,2,3,4,5,6,7] [(8,false),(9,false),(10,true)] [11] (fun _=>⟨.cells #[.int .i64 0,.int .i64 0,.bool false,.int .i64 0,.int .i64 0,.slice none 0 0,.slice none 0 0,.slice none 0 0,.slice none 0 0,.slice none 0 0] 82,fun b => .pointer (some ⟨b,0,none⟩)⟩) (by kernel_rfl) (by kernel_rfl) (by decide) ?_
   iterate 8 (first|(refine pre_yes rfl rfl ?_;apply Exists.intro;refine⟨fun W1 hW1 => ?_,?_⟩;(focus (have hc1:=(qal hW1).1;(try simp only[zd,qaa] at hc1);have hk1:=qac.below hW1;go_simp;first|exact rfl|fail));simp only[Act.put,zk,zh,zi,ze,zm,zn])|(refine pre_no rfl rfl ?_;simp only[Act.put,zk,zh,zi,ze,zm,zn]))
   refine pre_end ?_ (fun W2 hW2 => ?_)
   ·refine fl_op (fl_op (qnd rfl rfl (fun W1 hW1 => ?_) fl_nil));go_simp
   ·have hz2a:=zq hW2;(try simp only[zd,qaa] at hz2a);refine qtm hW2 rfl rfl (fun Kp hKp => ?_);go_simp;refine(qt0 W[k].of _ w W2 (by omega) Ht1.out ((HK.out.trans (qac.alloc _ _)).trans (qac.below hW2).undrew)).mono ?_;rintro e W3 ⟨cs3,rfl,ht3,hW3⟩;obtain⟨f1,p1,f2,p2,f3,p3,f4,p4,rfl,-⟩:=ht3.open;have Ht3:=hid ht3;clear ht3;refine⟨_,rfl,hKp _ _ hW3 fun W4 hW4 => ?_⟩;simp only[Act.put,zk,zh,zi,ze,zm,zn];have hz3a:=zq hW3;(try simp only[zd,qaa] at hz3a);have hz4a:=zq hW4;(try simp only[zd,qaa] at hz4a);have hB4:=qa4 hW4 (qbl hW3 hW2 (by first|omega|(simp;done)|(simp;omega)));refine mid_call hB4 rfl rfl (fun Kp2 hKp2 => ?_);go_simp;refine hKp2 _ _ (zp _ _) fun W5 hW5 => ?_;simp only[Act.put,zk,zh,zi,ze,zm,zn];have hz5a:=zq hW5;(try simp only[zd,qaa] at hz5a);refine qje rfl (fun b7 W7 hW7 hh hb7 hn7 => ?_);simp only[Act.put,zk,zh,zi,ze,zm,zn];have hz7:=zq hW7;(try simp only[zd,qaa] at hz7);have hB7:Blk W7 b7 82 [.int .i64 0,.int .i64 0,.bool false,.int .i64 0,.int .i64 0,.slice none 0 0,.slice none 0 0,.slice none 0 0,.slice none 0 0,.slice none 0 0]:=hh;have hb7a:wo.heap.size+1≤b7:=by simpa using hb7
    have hb7b:b7<W2.heap.size∨W3.heap.size≤b7:=by
     by_cases hx:b7<W2.heap.size
     ·exact .inl hx
     ·right;by_cases hy:b7<W3.heap.size
      ·exact absurd (z7 _ (List.mem_range'_1.2 ⟨by omega,by omega⟩)) hn7
      ·omega
    have hBW:Below wo.heap.size wo W7:=(((zp _ _).alloc (zl _) _).drew).trans ((hB4.mono (by simp)).trans ((hW5.mono (by omega)).trans (hW7.mono (by omega))));have hK37:qac (hide (fun b=>b<W2.heap.size∨b=b7) W3) (hide (fun b=>b<W2.heap.size∨b=b7) W7):=(qb4 hW4).trans ((qb4 hW5).trans (qb4 hW7));have hT7:TyC (hide (fun b=>b<W2.heap.size∨b=b7) W7) W[k].of [.int .i64 W[k].of.kind,.int .i64 W[k].of.num,.slice f1 W[k].of.elem.length p1,.slice f2 W[k].of.fields.length p2,.slice f3 W[k].of.methods.length p3,.slice f4 W[k].of.embeds.length p4]:=TyC.keep hK37 (TyC.keep (qac.hide (qag.refl _ _) fun b hb h=>by
     rcases h with h|h
     ·exact h
     ·subst h;rcases hb7b with h|h
      ·exact h
      ·omega) Ht3.out)
    have Hn5:Hid (Blk W7 wo.heap.size 39 [.int .i64 W[k].name,.int .i64 W[k].pkg,.bool W[k].alias,.int .i64 W[k].of.kind,.int .i64 W[k].of.num,.slice y1 W[k].of.elem.length g1,.slice y2 W[k].of.fields.length g2,.slice y3 W[k].of.methods.length g3,.slice y4 W[k].of.embeds.length g4,.slice y5 W[k].methods.length g5]):=hid ((((Blk.new wo _ [.int .i64 W[k].name,.int .i64 W[k].pkg,.bool W[k].alias,.int .i64 W[k].of.kind,.int .i64 W[k].of.num,.slice y1 W[k].of.elem.length g1,.slice y2 W[k].of.fields.length g2,.slice y3 W[k].of.methods.length g3,.slice y4 W[k].of.embeds.length g4,.slice y5 W[k].methods.length g5]).drew.below hB4 (by simp)).keep hW5).keep hW7);have HT7:=hid hT7;have HBW:=hid hBW;have HB7:=hid hB7;clear hT7 hBW hB7 hK37 hh hb7 hn7 hKp hKp2 hW2 hW3 hW4 hW5 hW7 hB4 Ht3 e0 e1 e2 e3 e4 e5 e6 e7 e8 e9 hbr;refine mid_nil (qco rfl ?_);obtain⟨c0,c1,c2,c3,c4,c5,c6,c7,c8,c9⟩:=ten HB7.out.cells;have hf7:=fun j=>HB7.out.soft j;simp only[Nat.zero_add] at c0 c1 c2 c3 c4 c5 c6 c7 c8 c9
    first|go_guarded|go_step
    rw[qkh];have HS:=hid (qt9 HB7.out (.int .i64 W[k].name) (.int .i64 W[k].pkg) (.bool W[k].alias) (.int .i64 W[k].of.kind) (.int .i64 W[k].of.num) (.slice f1 W[k].of.elem.length p1) (.slice f2 W[k].of.fields.length p2) (.slice f3 W[k].of.methods.length p3) (.slice f4 W[k].of.embeds.length p4) (.slice none 0 0));have HSA:=hid (qp5 (fun b=>b=b7) W7 b7 rfl (.int .i64 W[k].name) (.int .i64 W[k].pkg) (.bool W[k].alias) (.int .i64 W[k].of.kind) (.int .i64 W[k].of.num) (.slice f1 W[k].of.elem.length p1) (.slice f2 W[k].of.fields.length p2) (.slice f3 W[k].of.methods.length p3) (.slice f4 W[k].of.embeds.length p4) (.slice none 0 0));have hSz:(qgw W7 b7 (.int .i64 W[k].name) (.int .i64 W[k].pkg) (.bool W[k].alias) (.int .i64 W[k].of.kind) (.int .i64 W[k].of.num) (.slice f1 W[k].of.elem.length p1) (.slice f2 W[k].of.fields.length p2) (.slice f3 W[k].of.methods.length p3) (.slice f4 W[k].of.embeds.length p4) (.slice none 0 0)).heap.size=W7.heap.size:=qr8 _ _ _ _ _ _ _ _ _ _;have HSz:=hid hSz;have HSB:Hid (Below wo.heap.size wo (qgw W7 b7 (.int .i64 W[k].name) (.int .i64 W[k].pkg) (.bool W[k].alias) (.int .i64 W[k].of.kind) (.int .i64 W[k].of.num) (.slice f1 W[k].of.elem.length p1) (.slice f2 W[k].of.fields.length p2) (.slice f3 W[k].of.methods.length p3) (.slice f4 W[k].of.embeds.length p4) (.slice none 0 0))):=hid (qg9 _ _ _ _ _ _ _ _ _ _ HBW.out (by omega));clear hSz
    generalize qgw W7 b7 (.int .i64 W[k].name) (.int .i64 W[k].pkg) (.bool W[k].alias) (.int .i64 W[k].of.kind) (.int .i64 W[k].of.num) (.slice f1 W[k].of.elem.length p1) (.slice f2 W[k].of.fields.length p2) (.slice f3 W[k].of.methods.length p3) (.slice f4 W[k].of.embeds.length p4) (.slice none 0 0)=WS at *
    clear c0 c1 c2 c3 c4 c5 c6 c7 c8 c9 hf7;have hq:=(Hn5.out.apart HSA.out (by show ¬ _=_;omega)).cell 9;simp only[zu,zt] at hq
    go_wp2_with fail
    clear hq
    go_loopw [28] (fun j wx=>∃ m:Nat,m≤W[k].methods.length∧j = .int .i64 m∧Below wo.heap.size wo wx∧Hid (∃ Ma Mc ms,Blk wx b7 82 [.int .i64 W[k].name,.int .i64 W[k].pkg,.bool W[k].alias,.int .i64 W[k].of.kind,.int .i64 W[k].of.num,.slice f1 W[k].of.elem.length p1,.slice f2 W[k].of.fields.length p2,.slice f3 W[k].of.methods.length p3,.slice f4 W[k].of.embeds.length p4,.slice Ma m Mc]∧
      wx.ownsRow 0 85 2 (.slice Ma m Mc) m ms∧(∀ g,(Value.slice Ma m Mc).ownBlock=some g→WS.heap.size≤g)∧MsX (W[k].methods.take m) ms∧
      qag (fun b=>b=b7∨WS.heap.size≤b) WS wx))
     (fun j _=>W[k].methods.length - (intOf j).toNat)
    case atStart=>exact⟨0,by omega,rfl,HSB.out,hid ⟨none,0,[],HS.out,zdb _ _ _ _,fun g h=>(by cases h),rfl,qag.refl _ _⟩⟩
    case round=>
     obtain⟨m,hm,rfl,hbel2,hst⟩:=hrel;obtain⟨Ma,Mc,ms,hblk,hown,hvB,hxs,hap⟩:=hst.out;have HK2:=hid (HK.out.trans (qac.below hbel2));have hb0:=hblk.cell 9;have hf0:=hblk.soft 9;simp only[zu,zt] at hb0;have Mown:=hid hown;have MvB:=hid hvB;have Mxs:=hid hxs;have Mblk:=hid hblk;have Map:=hid hap;have hzS2:WS.heap.size≤wr.heap.size:=hap.size;have hl0:b7<wr.heap.size:=hblk.lt;have hl1:b7<wr.heap.size+1:=by omega
     have hl2:b7<wr.heap.size+1+1:=by omega
     have hl3:b7<WS.heap.size:=by have:=HS.out.lt;omega
     have hzw:=zq hbel2;clear hst hown hvB hxs hblk hap;by_cases hlt2:m<W[k].methods.length
     ·obtain⟨b2,o2,rfl,hn1,hc2⟩:=MsR.get Hms.out m hlt2;have Hn1:=hid hn1;have e0:=(hc2.keep HK2.out) 0 _ rfl;have e1:=(hc2.keep HK2.out) 1 _ rfl;simp only[Nat.zero_add,Nat.add_zero] at e0 e1;have hbr:=zj wr _ e0;simp only at hbr;have HBX:Hid (Below wr.heap.size wr ((wr.alloc (Obj.cells #[.int .i64 W[k].methods[m].name,.bool W[k].methods[m].ptr] 84)).alloc (Obj.cells #[.int .i64 W[k].methods[m].name,.bool W[k].methods[m].ptr] 85))):=hid (((zp _ _).alloc (zl _) _).alloc (by simp) _);have Hnew:Hid (Blk ((wr.alloc (Obj.cells #[.int .i64 W[k].methods[m].name,.bool W[k].methods[m].ptr] 84)).alloc (Obj.cells #[.int .i64 W[k].methods[m].name,.bool W[k].methods[m].ptr] 85)) (wr.heap.size+1) 85 [.int .i64 W[k].methods[m].name,.bool W[k].methods[m].ptr]):=hid (by
       have:=Blk.new (wr.alloc (Obj.cells #[.int .i64 W[k].methods[m].name,.bool W[k].methods[m].ptr] 84)) 85 [.int .i64 W[k].methods[m].name,.bool W[k].methods[m].ptr];rw[zd] at this;exact this)
      have Hown5:=hid (qab Mown.out (qag.keep (S:=fun _=>False) HBX.out) (fun _ _ h=>h));have Hbk5:=hid (Mblk.out.keep HBX.out);clear hc2 hn1
      go_wp2_with (at_builtin;refine qb2 _ rfl _ _ 52 rfl 85 i9 _ 2 16 underlying52 Ti.out T0.out T1.out T2.out rfl (by decide) (.slice Ma m Mc) m ms rfl Hown5.out _ 1 1 [.int .i64 W[k].methods[m].name,.bool W[k].methods[m].ptr] rfl rfl ?c1 ?c2 ?c3 ?c4 (by decide) ?c5)
      case c1=>exact qck Hnew.out
      case c2=>exact oc2 _ _
      case c3=>unfold maxLen;omega
      case c4=>omega
      case c5=>
       intro v' w5 hown' hgrow hloc;obtain⟨ra',rc',rfl,-,-⟩:=qak hown';have hzg:=qd7 hgrow;have hbk6:=Hbk5.out.grown hgrow fun g hg=>by have:=MvB.out g hg;omega
       have hb6:=hbk6.cell 9;have hf6:=hbk6.soft 9;simp only[zu,zt] at hb6;have Hbk6:=hid hbk6;have Hown':=hid hown';have Hgrow:=hid hgrow;have Hloc:=hid hloc;clear hbk6 hown' hgrow hloc
       go_wp2_with fail
       go_roundw
       case rel=>
        obtain⟨k1,k2,k3,k4,k5⟩:=qgj (B:=WS.heap.size) (a:=⟨b7,9,none⟩) hl3 (by omega) HBX.out Mown.out MvB.out Hown'.out Hgrow.out (by simpa using Hloc.out) rfl;refine⟨m+1,by omega,by go_num,?_,hid ⟨ra',rc',ms++[.int .i64 W[k].methods[m].name,.bool W[k].methods[m].ptr],Hbk6.out.set 9 _,k3,k4,?_,qq8 (a:=⟨b7,9,none⟩) Map.out HBX.out Hgrow.out (fun g hg => .inr (MvB.out g hg)) (.inl rfl) rfl⟩⟩
        ·exact((hbel2.trans (HBX.out.mono (by omega))).grown Hgrow.out (by simp;omega) (fun g hg=>by have:=MvB.out g hg;have:=zq HSB.out;omega)).setCell (by show _≤b7;omega) _
        ·rw[qdd _ _ hlt2];exact MsX.snoc Hn1.out Mxs.out
       case measure=>simp[intOf];omega
     ·obtain rfl:m=W[k].methods.length:=by omega
      obtain⟨r1,r2⟩:=qio Mown.out MvB.out;have E1:Hid (MsR (hide (fun b=>b<WS.heap.size) wr) Ma 0 W[k].methods):=hid (by
       have h:=Mxs.out;rw[zeb] at h;exact MsX.row 0 h fun hne=>by
        obtain⟨g,hg1,hg2⟩:=r2 (List.length_pos_iff.2 hne);exact⟨g,hg1,by simpa using hg2⟩)
      have C1:Hid (W[k].methods.length≤Mc):=hid (by obtain⟨_,_,he,hle,-⟩:=qak Mown.out;cases he;exact hle);have HBC:Hid (Below wr.heap.size wr (wr.alloc (Obj.cells #[.int .i64 W[k].name,.int .i64 W[k].pkg,.bool W[k].alias,.int .i64 W[k].of.kind,.int .i64 W[k].of.num,.slice f1 W[k].of.elem.length p1,.slice f2 W[k].of.fields.length p2,.slice f3 W[k].of.methods.length p3,.slice f4 W[k].of.embeds.length p4,.slice Ma W[k].methods.length Mc] 82))):=hid ((zp _ _).alloc (zl _) _);have hall:Below wo.heap.size wo (wr.alloc (Obj.cells #[.int .i64 W[k].name,.int .i64 W[k].pkg,.bool W[k].alias,.int .i64 W[k].of.kind,.int .i64 W[k].of.num,.slice f1 W[k].of.elem.length p1,.slice f2 W[k].of.fields.length p2,.slice f3 W[k].of.methods.length p3,.slice f4 W[k].of.embeds.length p4,.slice Ma W[k].methods.length Mc] 82)):=hbel2.trans (HBC.out.mono (by omega));have Hall:=hid hall;have Hnew:=hid (Blk.new wr 82 [.int .i64 W[k].name,.int .i64 W[k].pkg,.bool W[k].alias,.int .i64 W[k].of.kind,.int .i64 W[k].of.num,.slice f1 W[k].of.elem.length p1,.slice f2 W[k].of.fields.length p2,.slice f3 W[k].of.methods.length p3,.slice f4 W[k].of.embeds.length p4,.slice Ma W[k].methods.length Mc]);have Hown5:=hid (qab Hown.out (qag.keep (S:=fun _=>False) hall) (fun _ _ h=>h));obtain⟨c0,c1,c2,c3,c4,c5,c6,c7,c8,c9⟩:=ten Mblk.out.cells;simp only[Nat.zero_add] at c0 c1 c2 c3 c4 c5 c6 c7 c8 c9;clear r1 r2 hb0 hf0 hlt2 hall
      go_wp2_with (at_builtin;refine qb2 _ rfl _ _ 42 rfl 82 i0 _ 10 160 underlying42 Di.out D0.out D1.out D2.out rfl (by decide) (.slice ra k rc) k xs rfl Hown5.out _ 1 1 [.int .i64 W[k].name,.int .i64 W[k].pkg,.bool W[k].alias,.int .i64 W[k].of.kind,.int .i64 W[k].of.num,.slice f1 W[k].of.elem.length p1,.slice f2 W[k].of.fields.length p2,.slice f3 W[k].of.methods.length p3,.slice f4 W[k].of.embeds.length p4,.slice Ma W[k].methods.length Mc] rfl rfl ?c1 ?c2 ?c3 ?c4 (by decide) ?c5)
      case c1=>exact qck Hnew.out
      case c2=>exact oc10 _ _ _ _ _ _ _ _ _ _ _ _ _ _ _ _ _ _ _ _
      case c3=>unfold maxLen;omega
      case c4=>omega
      case c5=>
       intro v' w5 hown' hgrow hloc;obtain⟨ra',rc',rfl,-,-⟩:=qak hown';have hzg:=qd7 hgrow;have Hown':=hid hown';have Hgrow:=hid hgrow;have Hloc:=hid hloc;clear hown' hgrow hloc c0 c1 c2 c3 c4 c5 c6 c7 c8 c9
       go_wp2_with fail
       go_roundw
       case rel=>
        obtain⟨k1,k2,k3⟩:=qrf (B:=w.heap.size) hz Hall.out Hown.out HvB.out Hown'.out Hgrow.out (by simpa using Hloc.out);refine⟨k+1,by omega,by go_num,((hbel.trans (Hall.out.mono hz)).grown Hgrow.out (by simp;omega) HvB.out),ra',rc',rfl,hid ⟨_,Hown'.out,k2,?_⟩⟩;rw[qdd _ _ hlt];refine DcsX.snoc rfl ⟨[.int .i64 W[k].of.kind,.int .i64 W[k].of.num,.slice f1 W[k].of.elem.length p1,.slice f2 W[k].of.fields.length p2,.slice f3 W[k].of.methods.length p3,.slice f4 W[k].of.embeds.length p4],Ma,Mc,rfl,C1.out,Hin.out,Hip.out,TyC.keep (k3 (fun b=>b<W2.heap.size∨b=b7) W7 ?_ fun b hb => .inl (by omega)) HT7.out,MsR.keep (k3 (fun b=>b<WS.heap.size) wr (qag.keep HBC.out) fun b hb=>by show b<_;omega) E1.out⟩ (DcsX.keep k1 Hxs.out);refine(HSA.out.mono fun b _ h => .inr h).trans ((Map.out.mono fun b hb h => ?_).trans (qag.keep HBC.out));rcases h with h|h
        ·exact .inr h
        ·omega
       case measure=>simp[intOf];omega
  ·obtain rfl:k=W.length:=by omega
   go_wp2_with fail
   go_ret
   obtain⟨r1,r2⟩:=qio Hown.out HvB.out;have hcl:W.length≤rc:=by obtain⟨_,_,he,hle,-⟩:=qak Hown.out;cases he;exact hle
   refine⟨ra,rc,rfl,hcl,?_,hbel⟩;have h:=DcsX.keep r1 Hxs.out;rw[zeb] at h;exact DcsX.row h fun hne=>by
    obtain⟨g,hg1,hg2⟩:=r2 (List.length_pos_iff.2 hne);exact⟨g,hg1,by simpa using hg2⟩
