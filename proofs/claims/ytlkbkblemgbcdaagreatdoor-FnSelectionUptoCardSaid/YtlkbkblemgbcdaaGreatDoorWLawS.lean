import Derived.Test.YtlkbkblemgbcdaaGreatDoorWLawA
import Derived.Test.YtlkbkblemgbcdaaGreatDoorK56
set_option linter.all false
set_option maxHeartbeats 16000000
namespace Go.Proofs.YtlkbkblemgbcdaaGreatDoor
open Go Go.RowKit
set_option maxRecDepth 100000
theorem results_ct {fn:Func} {a b:Tmp} {t:TypeId} (h:fn.results=#[.cell a t,.tmp b]) (tmps:Array Value) (P:Program) (w:World) {ad:Addr} (ha:tmps.getD a undef = .pointer (some ad)) {v u:Value} (hb:tmps.getD b undef=u) (hl:(loadVar t ad).run P w = .ok v w):
  (results fn tmps).run P w = .ok (.tuple #[v,u]) w:=by
 simp only[Array.getD_eq_getD_getElem?] at ha hb;simp[results,h,hl,ha,hb,asAddr]
section
variable {I:World→Prop} {P:Program} {ops:Array Oper} {Q:Exit→Act→World→Prop}
def wpT (is:List Nat) (I:World→Prop) (P:Program) (ops:Array Oper) (Q:Exit→Act→World→Prop) (n:Nat) (l:Array Bool) (a:Act) (w:World):Prop:=wpI I P ops Q n l a w
theorem wpT_on (is:List Nat) {n:Nat} {l:Array Bool} {a:Act} {w:World} (h:wpT is I P ops Q n l a w):wpI I P ops Q n l a w:=h
theorem wpT_off {n:Nat} {l:Array Bool} {a:Act} {w:World} (h:wpI I P ops Q n l a w):wpT [] I P ops Q n l a w:=h
theorem wpT_yes {i:Nat} {is:List Nat} {o:Oper} {n:Nat} {l:Array Bool} {a:Act} {w:World} (hi:ops[i]?=some o) (hs:(Region.noSelect ops&&Region.free .any ops l i&&(Region.ready .any ops l).contains i)=true)
  (hQ:∀ v c a w,Q (.panic c) (a.put o.dst v) w→Q (.panic c) a w) (hw:Region.wanted o (yielded ops a.tmps)=true) (h:∃ v,(∀ w,I w→(execOp a.eval o).run P w = .ok (.value v) w)∧wpT is I P ops Q n (l.setIfInBounds i true) (a.put o.dst v) w):wpT (i::is) I P ops Q (n+1) l a w:=by
 obtain⟨v,h1,h2⟩:=h;simp only[Bool.and_eq_true] at hs;exact wpI_take hi hs.1.1 hs.1.2 hs.2 (hQ v) (.inl ⟨hw,h1⟩) h2
end
def put5 (w:World) (b:Nat) (v0 v1 v2 v3 v4:Value):World:=(put4 w b v0 v1 v2 v3).setCell ⟨b,4,none⟩ v4
theorem put5_blk {w:World} {b:Nat} {T:TypeId} {u0 u1 u2 u3 u4:Value} (h:Blk w b T [u0,u1,u2,u3,u4]) (v0 v1 v2 v3 v4:Value):Blk (put5 w b v0 v1 v2 v3 v4) b T [v0,v1,v2,v3,v4]:=
 ((((h.set 0 v0).set 1 v1).set 2 v2).set 3 v3).set 4 v4
theorem put5_apart (w:World) (b:Nat) (v0 v1 v2 v3 v4:Value):qag (fun g=>g=b) w (put5 w b v0 v1 v2 v3 v4):=
 (qrl w b v0 v1 v2 v3).trans (qag.setCell (fun g=>g=b) _ (a:=⟨b,4,none⟩) rfl v4)
theorem put5_below {w0 w:World} {B b:Nat} (h:Below B w0 w) (hb:B≤b) (v0 v1 v2 v3 v4:Value):Below B w0 (put5 w b v0 v1 v2 v3 v4):=
 Below.setCell (qru h hb v0 v1 v2 v3) (by simpa using hb) _
def SelPost (F:Fix) (s:St) (w:World) (T:TypeId) (y:Addr) (r:Rs) (e:Ending) (w':World):Prop:=
 (r.ob=none∧e = .returned (.tuple #[.agg #[.int .i64 0,.nilIface,.nilIface,.slice none 0 0,.bool false],.bool false])∧Hid (Below w.heap.size w w'))∨
 ∃ x:Nat×Bool×Nat×Option Addr×Nat,r.ob=some (x.1,x.2.1)∧s.ob x.1=some (x.2.1,x.2.2.1)∧e = .returned (.tuple #[.agg #[.int .i64 (if x.2.1 then 1 else 0),.iface T (.pointer (some y)),objV (some (x.2.1,x.2.2.1)),.slice x.2.2.2.1 r.ix.length x.2.2.2.2,.bool r.ind],.bool true])∧
  Hid (w'.ownsRow 0 3 1 (.slice x.2.2.2.1 r.ix.length x.2.2.2.2) r.ix.length (qbh r.ix)∧Below w.heap.size w w'∧x.1<F.N)
theorem sel_any {F:Fix} {P:Nat→Nat} {w0:World} {s:St} {w:World} (A:Amb F P w0 s w) {sp:Spot} {T:TypeId} {y:Addr} (hd:DenW F s w sp (.iface T (.pointer (some y)))) (hs:SpO F.W P sp) (addr:Bool) (q m:Int) (hq:q=0∨q=1) (hm:IsNm m):
  Calls Tryz.prog 40 #[.iface T (.pointer (some y)),.bool addr,ptrV (F.pk q),.string (qas m)] w (SelPost F s w T y (qch F.W sp addr q m)):=by
 have HL:=hid fun w' (h:Below w.heap.size w w')=>qs3 (A.keep h) (DenW.keep hd h) hs addr q m hq hm;have tf1:=fun v w=>qo4 Tryz.underlying94 v w;have tf2:=fun v w=>qsv (T:=154) Tryz.underlying94 Tryz.zFunc (by decide) v w;have tf3:=fun v w=>qo4 Tryz.underlying154 v w;clear A hd hs;obtain⟨r,hr⟩:∃ r,r=qch F.W sp addr q m:=⟨_,rfl⟩;rw[← hr] at HL ⊢;clear hr;go_enter Tryz.func40,Tryz.ntmps40
 go_wp2_with (go_at_call 32;refine(HL.out _ bel).mono ?_;rintro e w2 hP;have HOb:=hid hP.ob;obtain⟨x,rfl,h2⟩:=hP;obtain⟨ov,hov⟩:∃ ov,ov=obV s r.ob:=⟨_,rfl⟩;rw[← hov];have Hov:=hid hov;clear hov;have HS:=hid ((Blk.new w 104 [.int .i64 0,.nilIface,.nilIface,.slice none 0 0,.bool false]).keep h2.out.2.1);have c0:=HS.out.cell 0;have c1:=HS.out.cell 1;have c2:=HS.out.cell 2;have c3:=HS.out.cell 3;have c4:=HS.out.cell 4;(simp only[zu,zt] at c0 c1 c2 c3 c4);have s0:=HS.out.soft 0;have s1:=HS.out.soft 1;have s2:=HS.out.soft 2;have s3:=HS.out.soft 3;have s4:=HS.out.soft 4;have HB2:Hid (Below w.heap.size w w2):=hid (((zp _ _).alloc (zl _) _).trans (h2.out.2.1.mono (by simp))))
 have H2:=hid h2.out;clear h2;rw[← Hov.out] at HOb;rcases HOb.out with ⟨hr,e1⟩|⟨k,y1,hr,e1⟩|⟨k,y1,hr,e1⟩
 ·have Hr:=hid hr;subst e1;clear hr HOb;go_simp
  go_wp2_with fail
  (try simp only[Exit.inBlock,Exit.then])
  refine bodyPost_ret (results_ct (v := .agg #[.int .i64 0,.nilIface,.nilIface,.slice none 0 0,.bool false]) rfl _ _ _ rfl rfl ?_) rfl ?_
  ·go_simp
  ·exact .inl ⟨Hr.out,rfl,hid (put5_below HB2.out (zl _) _ _ _ _ _)⟩
 ·have Hr:=hid hr;have HX:=hid (H2.out.2.2 k true hr);have HOe:=hid (show obV s r.ob = .iface 94 (ptrV y1) from Hov.out.symm.trans e1);subst e1;clear hr HOb;go_simp
  go_wp2_with fail
  (try simp only[Exit.inBlock,Exit.then])
  refine bodyPost_ret (results_ct (v := .agg #[.int .i64 1,.iface T (.pointer (some y)),.iface 94 (ptrV y1),.slice x.1 r.ix.length x.2,.bool r.ind]) rfl _ _ _ rfl rfl ?_) rfl ?_
  ·go_simp
  ·refine HX.out.elim fun xo hx => .inr ⟨(k,true,xo,x.1,x.2),Hr.out,hx.1,?_,hid ⟨qab H2.out.1 (put5_apart _ _ _ _ _ _ _) fun g hg e => ?_,put5_below HB2.out (zl _) _ _ _ _ _,hx.2⟩⟩
   ·have h3:=HOe.out;rw[Hr.out] at h3;simp only[obV,hx.1] at h3;rw[h3];rfl
   ·obtain⟨cs,hb⟩:=qaf H2.out.1 hg;exact hb.tne HS.out (by decide) e
 ·have Hr:=hid hr;have HX:=hid (H2.out.2.2 k false hr);have HOe:=hid (show obV s r.ob = .iface 154 (ptrV y1) from Hov.out.symm.trans e1);subst e1;clear hr HOb;go_simp
  go_wp2_with fail
  (try simp only[Exit.inBlock,Exit.then])
  refine bodyPost_ret (results_ct (v := .agg #[.int .i64 0,.iface T (.pointer (some y)),.iface 154 (ptrV y1),.slice x.1 r.ix.length x.2,.bool r.ind]) rfl _ _ _ rfl rfl ?_) rfl ?_
  ·go_simp
  ·refine HX.out.elim fun xo hx => .inr ⟨(k,false,xo,x.1,x.2),Hr.out,hx.1,?_,hid ⟨qab H2.out.1 (put5_apart _ _ _ _ _ _ _) fun g hg e => ?_,put5_below HB2.out (zl _) _ _ _ _ _,hx.2⟩⟩
   ·have h3:=HOe.out;rw[Hr.out] at h3;simp only[obV,hx.1] at h3;rw[h3];rfl
   ·obtain⟨cs,hb⟩:=qaf H2.out.1 hg;exact hb.tne HS.out (by decide) e
def SelD (N:Nat) (s:St) (T:TypeId) (y:Addr) (r:Rs) (V0 V1 V2 V3 V4:Value) (b:Bool) (w:World):Prop:=
 (r.ob=none∧V0 = .int .i64 0∧V1 = .nilIface∧V2 = .nilIface∧V3 = .slice none 0 0∧V4 = .bool false∧b=false)∨
 ∃ (k:Nat) (m:Bool) (x:Nat) (a:Option Addr) (c:Nat) (T2:TypeId) (z:Int),r.ob=some (k,m)∧s.ob k=some (m,x)∧k<N∧objV (some (m,x)) = .iface T2 (ptrV x)∧(z==1)=m∧w.ownsRow 0 3 1 (.slice a r.ix.length c) r.ix.length (qbh r.ix)∧
  V0 = .int .i64 z∧V1 = .iface T (.pointer (some y))∧V2 = .iface T2 (ptrV x)∧V3 = .slice a r.ix.length c∧V4 = .bool r.ind∧b=true
theorem SelD.keep {N:Nat} {s:St} {T:TypeId} {y:Addr} {r:Rs} {V0 V1 V2 V3 V4:Value} {b:Bool} {w w':World} (h:SelD N s T y r V0 V1 V2 V3 V4 b w) (hb:Below w.heap.size w w'):SelD N s T y r V0 V1 V2 V3 V4 b w':=by
 rcases h with h|⟨k,m,x,a,c,T2,z,h1,h2,h3,h4,h5,h6,h7⟩
 ·exact .inl h
 ·exact .inr ⟨k,m,x,a,c,T2,z,h1,h2,h3,h4,h5,qab (S:=fun _=>False) h6 (qag.keep hb) fun _ _ h=>h,h7⟩
def SelG (N:Nat) (s:St) (T:TypeId) (y:Addr) (r:Rs) (w:World) (e:Ending) (w':World):Prop:=∃ V0 V1 V2 V3 V4 b,e = .returned (.tuple #[.agg #[V0,V1,V2,V3,V4],.bool b])∧Hid (Below w.heap.size w w'∧SelD N s T y r V0 V1 V2 V3 V4 b w')
theorem SelPost.gen {F:Fix} {s:St} {w w':World} {T:TypeId} {y:Addr} {r:Rs} {e:Ending} (h:SelPost F s w T y r e w'):SelG F.N s T y r w e w':=by
 rcases h with ⟨h1,rfl,h3⟩|⟨x,h1,h2,rfl,h4⟩
 ·exact⟨_,_,_,_,_,_,rfl,hid ⟨h3.out,.inl ⟨h1,rfl,rfl,rfl,rfl,rfl,rfl⟩⟩⟩
 ·obtain⟨k,m,xo,a,c⟩:=x;cases m
  ·exact⟨_,_,_,_,_,_,rfl,hid ⟨h4.out.2.1,.inr ⟨k,false,xo,a,c,154,0,h1,h2,h4.out.2.2,rfl,rfl,h4.out.1,rfl,rfl,rfl,rfl,rfl,rfl⟩⟩⟩
  ·exact⟨_,_,_,_,_,_,rfl,hid ⟨h4.out.2.1,.inr ⟨k,true,xo,a,c,94,1,h1,h2,h4.out.2.2,rfl,rfl,h4.out.1,rfl,rfl,rfl,rfl,rfl,rfl⟩⟩⟩
theorem selObj_any {w:World} {b:Nat} {v0 v1 v2 v3 v4:Value} (h:Blk w b 104 [v0,v1,v2,v3,v4]):Calls Tryz.prog 41 #[.pointer (some ⟨b,0,none⟩)] w fun e w'=>e = .returned v2∧w'=w:=by
 have c:=h.cell 2;simp only[zu,zt] at c;clear h;go_enter Tryz.func41,Tryz.ntmps41
 go_wp2_with fail
 go_ret
 exact⟨rfl,rfl⟩
theorem selKind_any {w:World} {b:Nat} {v0 v1 v2 v3 v4:Value} (h:Blk w b 104 [v0,v1,v2,v3,v4]):Calls Tryz.prog 42 #[.pointer (some ⟨b,0,none⟩)] w fun e w'=>e = .returned v0∧w'=w:=by
 have c:=h.cell 0;simp only[zu,zt] at c;clear h;go_enter Tryz.func42,Tryz.ntmps42
 go_wp2_with fail
 go_ret
 exact⟨rfl,rfl⟩
theorem selIndex_any {w:World} {b:Nat} {v0 v1 v2 v3 v4:Value} (h:Blk w b 104 [v0,v1,v2,v3,v4]):Calls Tryz.prog 43 #[.pointer (some ⟨b,0,none⟩)] w fun e w'=>e = .returned v3∧w'=w:=by
 have c:=h.cell 3;simp only[zu,zt] at c;clear h;go_enter Tryz.func43,Tryz.ntmps43
 go_wp2_with fail
 go_ret
 exact⟨rfl,rfl⟩
theorem selInd_any {w:World} {b:Nat} {v0 v1 v2 v3 v4:Value} (h:Blk w b 104 [v0,v1,v2,v3,v4]):Calls Tryz.prog 44 #[.pointer (some ⟨b,0,none⟩)] w fun e w'=>e = .returned v4∧w'=w:=by
 have c:=h.cell 4;simp only[zu,zt] at c;clear h;go_enter Tryz.func44,Tryz.ntmps44
 go_wp2_with fail
 go_ret
 exact⟨rfl,rfl⟩
def SelAns (r:Rs) (w:World) (e:Ending) (w':World):Prop:=
 (r.ob=none∧e = .returned (.tuple #[.agg #[.int .i64 (-1),.bool false,.slice none 0 0,.bool false],.bool false])∧Hid (Below w.heap.size w w'))∨
 ∃ x:Nat×Bool×Option Addr×Nat,r.ob=some (x.1,x.2.1)∧e = .returned (.tuple #[.agg #[.int .i64 x.1,.bool x.2.1,.slice x.2.2.1 r.ix.length x.2.2.2,.bool r.ind],.bool true])∧
  Hid (w'.ownsRow 0 3 1 (.slice x.2.2.1 r.ix.length x.2.2.2) r.ix.length (qbh r.ix)∧Below w.heap.size w w')
theorem implSelect_any (W:Wd) (a:Option Addr) (c:Nat) (w:World) (t:Ty) (hF:qfz W t) (hN:NmOk W) (hW:WOk w W a c) (hT:Tabs w) (htb:t.bulk≤1048576) (P:Nat→Nat) (hS:qdx W t P) (cs:List Value) (ht:TyC w t cs) (addr:Bool) (q m:Int) (hq:q=0∨q=1) (hm:IsNm m):
  Calls Tryz.prog 22 #[.slice a W.length c,.agg cs.toArray,.bool addr,.int .i64 q,.int .i64 m] w (SelAns (qch W (operand W t) addr q m) w):=by
 obtain⟨x1,y1,x2,y2,x3,y3,x4,y4,rfl,-⟩:=ht.full;have hbk:=hW.bulk;have HB:=hid (fun(w1:World) (h:Below w.heap.size w w1)=>qsp W a c w1 t hF hN (hW.keep (qac.below h)) (hT.below h) htb _ (ht.keep (qac.below h)));have HH:=hid (And.intro hF (And.intro hS (And.intro hT htb)));have Hq:=hid hq;have Hm:=hid hm;have hq2:0≤q∧q<2:=by omega
 have HB0:Hid (∀ (O1 O2:Obj),Below w.heap.size w ((w.alloc O1).alloc O2)):=hid fun O1 O2=>((zp _ _).alloc (zl _) _).alloc (by rw[zd];omega) _;clear hF hN hW hT htb hS ht hq hm;obtain⟨r,hr⟩:∃ r,r=qch W (operand W t) addr q m:=⟨_,rfl⟩;rw[← hr];have Hr:=hid hr;clear hr;go_enter Tryz.func22,Tryz.ntmps22
 go_wp2_with (go_at_call 30;refine(HB.out _ (((zp _ _).alloc (zl _) _).alloc (by simp) _)).mono ?_;rintro e w2 ⟨x,rfl,Hx⟩)
 have c0:w2.cell? ⟨x.1.bb,0,none⟩=some (.slice (some ⟨x.1.pr,0,none⟩) 2 x.1.pc):=Hx.out.2.2.1.ok.bld.cell 0;have c1:=(Hx.out.2.2.1.ok.pkc Hq.out).1;have lb0:=zj w2 _ c0;have lb1:=zj w2 _ c1;simp only at lb0 lb1;have HN:=hid (fun w3=>qbq m w3 Hm.out);have HAm:Hid (Amb x.1 (setN x.1.W P x.1.N) _ x.2.1 w2∧SpO x.1.W (setN x.1.W P x.1.N) (operand W t)):=hid (by
  have e:=Hx.out.1;have h:=Amb.of (F:=x.1) (t:=t) (P:=P) Hx.out.2.2.1 (by rw[e];exact HH.out.1) (by rw[e];exact HH.out.2.1) (by rw[e];exact hbk) HH.out.2.2.2 (by rw[e];exact Hx.out.2.1) (HH.out.2.2.1.below ((HB0.out _ _).trans (Hx.out.2.2.2.2.mono (HB0.out _ _).size))) (by rw[e];exact Hx.out.2.2.2.1);rw[e] at h ⊢;exact h)
 have HK:Hid (∀ w3,Below w2.heap.size w2 w3→Calls Tryz.prog 40 #[.iface x.2.2.1 (.pointer (some x.2.2.2)),.bool addr,ptrV (x.1.pk q),.string (qas m)] w3 (SelG x.1.N x.2.1 x.2.2.1 x.2.2.2 r w3)):=hid <|
  fun w3 hb=>by
   have h:=sel_any (HAm.out.1.keep hb) (DenW.keep Hx.out.2.2.2.1 hb) HAm.out.2 addr q m Hq.out Hm.out;rw[Hx.out.1,← Hr.out] at h;exact h.mono fun e w4 h=>h.gen
 have HR:Hid (Blk w2 (w.heap.size+1) 33 [.int .i64 0,.bool false,.slice none 0 0,.bool false]):=hid (by
  have h1:=Blk.new (w.alloc (Obj.cells #[Value.int IntKind.i64 t.kind,Value.int IntKind.i64 t.num,Value.slice x1 t.elem.length y1,Value.slice x2 t.fields.length y2,Value.slice x3 t.methods.length y3,Value.slice x4 t.embeds.length y4] 28)) 33 [Value.int IntKind.i64 0,Value.bool false,Value.slice none 0 0,Value.bool false];rw[zd] at h1;exact h1.keep Hx.out.2.2.2.2)
 have HBw:=hid ((HB0.out _ _).trans (Hx.out.2.2.2.2.mono (HB0.out _ _).size));clear HB HH;refine wpI_region (fun W=>Below w2.heap.size w2 W) (by kernel_rfl) ?_;have HID:Hid (Below w2.heap.size w2 w2.drew):=hid (zp _ _).drew
 generalize w2.drew=wD at HID ⊢
 refine wpT_on [0,1,2,3,4,5,6,7,8,9] ?_
 iterate 10 (refine wpT_yes rfl (by kernel_rfl) (fun _ _ _ _ h=>h) rfl ?_;apply Exists.intro;refine⟨fun wq hq => ?_,?_⟩;(focus (have hcq:=(qal hq).1;(try simp only[zd,qaa] at hcq);have hkq:=qac.below hq;go_simp;first|done|with_reducible rfl));(try simp only[Act.put,zk,zh,zi,ze,zm,zn]))
 refine wpT_off ?_;clear c0 c1;refine wpI_two (i:=10) (j:=15) (by kernel_rfl) rfl rfl HID.out (by rfl) (by rfl) (fun K hK => ?_) (fun K hK => ?_);go_simp
 go_at_call 33
 refine(HN.out _).mono ?_;rintro e w3 ⟨rfl,hb3⟩;have H3:=hid (HID.out.trans (hb3.mono HID.out.size));refine hK _ _ ?_;clear hK K
 (try simp only[Act.put,zk,zh,zi,ze,zm,zn])
 refine wpI_two (i:=11) (j:=15) (by kernel_rfl) rfl rfl H3.out (by rfl) (by rfl) (fun K hK => ?_) (fun K hK => ?_);go_simp
 go_at_call 40
 refine(HK.out _ H3.out).mono ?_;rintro e w4 ⟨V0,V1,V2,V3,V4,b,rfl,H4⟩;have HI4:=hid (H3.out.trans (H4.out.1.mono H3.out.size));refine hK _ _ ?_;clear hK K
 (try simp only[Act.put,zk,zh,zi,ze,zm,zn])
 refine wpT_on [12,13,14] ?_
 iterate 3 (refine wpT_yes rfl (by kernel_rfl) (fun _ _ _ _ h=>h) rfl ?_;apply Exists.intro;refine⟨fun wq hq => ?_,?_⟩;(focus (have hcq:=(qal hq).1;(try simp only[zd,qaa] at hcq);have hkq:=qac.below hq;go_simp;first|done|with_reducible rfl));(try simp only[Act.put,zk,zh,zi,ze,zm,zn]))
 refine wpT_off ?_;refine wpI_one (i:=15) (by kernel_rfl) rfl HI4.out (by rfl) (fun K hK => ?_);go_simp;refine hK _ _ ?_;clear hK K
 (try simp only[Act.put,zk,zh,zi,ze,zm,zn])
 have HA4:Hid (Below w4.heap.size w4 (w4.alloc (.cells #[.int .i64 0,.nilIface,.nilIface,.slice none 0 0,.bool false] 104))):=hid ((zp _ _).alloc (zl _) _);have HD7:=hid (HI4.out.trans (HA4.out.mono HI4.out.size));have HN1:=hid (Blk.new w4 104 [.int .i64 0,.nilIface,.nilIface,.slice none 0 0,.bool false]);have HSd:=hid (H4.out.2.keep HA4.out);have hb1:=HI4.out.size;change wpI _ _ _ _ _ _ _ (w4.alloc (.cells #[.int .i64 0,.nilIface,.nilIface,.slice none 0 0,.bool false] 104))
 generalize w4.alloc (.cells #[.int .i64 0,.nilIface,.nilIface,.slice none 0 0,.bool false] 104)=w7 at HN1 HD7 HSd ⊢
 generalize w4.heap.size=b1 at HN1 hb1 ⊢
 rotate_left
 go_simp;refine hK _ _ ?_;clear hK K
 (try simp only[Act.put,zk,zh,zi,ze,zm,zn])
 have HI3:=hid (H3.out.alloc H3.out.size (.cells #[.int .i64 0,.nilIface,.nilIface,.slice none 0 0,.bool false] 104));have HN3:=hid (Blk.new w3 104 [.int .i64 0,.nilIface,.nilIface,.slice none 0 0,.bool false]);have hb1:=H3.out.size
 generalize w3.heap.size=b1 at HN3 hb1 ⊢
 refine wpI_one (i:=11) (by kernel_rfl) rfl HI3.out (by rfl) (fun K hK => ?_);go_simp
 go_at_call 40
 refine(HK.out _ HI3.out).mono ?_;rintro e w7 ⟨V0,V1,V2,V3,V4,b,rfl,H4⟩;have HD7:=hid (HI3.out.trans (H4.out.1.mono HI3.out.size));refine hK _ _ ?_;clear hK K
 (try simp only[Act.put,zk,zh,zi,ze,zm,zn])
 refine wpT_on [12,13,14] ?_
 iterate 3 (refine wpT_yes rfl (by kernel_rfl) (fun _ _ _ _ h=>h) rfl ?_;apply Exists.intro;refine⟨fun wq hq => ?_,?_⟩;(focus (have hcq:=(qal hq).1;(try simp only[zd,qaa] at hcq);have hkq:=qac.below hq;go_simp;first|done|with_reducible rfl));(try simp only[Act.put,zk,zh,zi,ze,zm,zn]))
 refine wpT_off ?_;have HN1:=hid (HN3.out.keep H4.out.1);have HSd:=hid H4.out.2
 rotate_left
 go_simp;refine hK _ _ ?_;clear hK K
 (try simp only[Act.put,zk,zh,zi,ze,zm,zn])
 have HI3:=hid (HID.out.alloc HID.out.size (.cells #[.int .i64 0,.nilIface,.nilIface,.slice none 0 0,.bool false] 104));have HN3:=hid (Blk.new wD 104 [.int .i64 0,.nilIface,.nilIface,.slice none 0 0,.bool false]);have hb1:=HID.out.size
 generalize wD.heap.size=b1 at HN3 hb1 ⊢
 refine wpI_one (i:=10) (by kernel_rfl) rfl HI3.out (by rfl) (fun K hK => ?_);go_simp
 go_at_call 33
 refine(HN.out _).mono ?_;rintro e w3 ⟨rfl,hb3⟩;have H3:=hid (HI3.out.trans (hb3.mono HI3.out.size));refine hK _ _ ?_;clear hK K
 (try simp only[Act.put,zk,zh,zi,ze,zm,zn])
 have HN4:=hid (HN3.out.keep hb3);refine wpI_one (i:=11) (by kernel_rfl) rfl H3.out (by rfl) (fun K hK => ?_);go_simp
 go_at_call 40
 refine(HK.out _ H3.out).mono ?_;rintro e w7 ⟨V0,V1,V2,V3,V4,b,rfl,H4⟩;have HD7:=hid (H3.out.trans (H4.out.1.mono H3.out.size));refine hK _ _ ?_;clear hK K
 (try simp only[Act.put,zk,zh,zi,ze,zm,zn])
 refine wpT_on [12,13,14] ?_
 iterate 3 (refine wpT_yes rfl (by kernel_rfl) (fun _ _ _ _ h=>h) rfl ?_;apply Exists.intro;refine⟨fun wq hq => ?_,?_⟩;(focus (have hcq:=(qal hq).1;(try simp only[zd,qaa] at hcq);have hkq:=qac.below hq;go_simp;first|done|with_reducible rfl));(try simp only[Act.put,zk,zh,zi,ze,zm,zn]))
 refine wpT_off ?_;have HN1:=hid (HN4.out.keep H4.out.1);have HSd:=hid H4.out.2
 all_goals
  clear HK HN;have hlt1:=HR.out.lt;have hne:b1≠w.heap.size+1:=by omega
  have hne2:w.heap.size+1≠b1:=by omega
  have HR7:=hid (HR.out.keep HD7.out);have c0:=HN1.out.cell 0;have c1:=HN1.out.cell 1;have c2:=HN1.out.cell 2;have c3:=HN1.out.cell 3;have c4:=HN1.out.cell 4;simp only[zu,zt] at c0 c1 c2 c3 c4;have s0:=HN1.out.soft 0;have s1:=HN1.out.soft 1;have s2:=HN1.out.soft 2;have s3:=HN1.out.soft 3;have s4:=HN1.out.soft 4;refine HSd.out.elim (fun h => ?_) (fun h => ?_)
  ·obtain⟨hro,rfl,rfl,rfl,rfl,rfl,rfl⟩:=h;have hrow:w7.ownsRow 0 3 1 (.slice none 0 0) 0 []:=zdb _ _ _ _;have Hro:=hid hro;clear hro HSd;have HT:=hid (put5_blk HN1.out (Value.int .i64 0) (Value.nilIface) (Value.nilIface) (Value.slice none 0 0) (Value.bool false));have HTD:=hid (put5_below HD7.out hb1 (Value.int .i64 0) (Value.nilIface) (Value.nilIface) (Value.slice none 0 0) (Value.bool false));have HAp:=hid (put5_apart w7 b1 (Value.int .i64 0) (Value.nilIface) (Value.nilIface) (Value.slice none 0 0) (Value.bool false));have HRow:=hid (qab hrow HAp.out fun g hg e=>by
    obtain⟨cs,hb⟩:=qaf hrow hg;exact hb.tne HN1.out (by decide) e)
   have HRk:=hid (HR7.out.apart HAp.out hne2);have HTB:=hid (HBw.out.trans (HTD.out.mono HBw.out.size));refine wpI_one (i:=16) (by kernel_rfl) rfl HD7.out (by rfl) (fun K hK => ?_);go_simp;refine hK _ _ ?_;clear hK K HAp hrow;change wpI _ _ _ _ _ _ _ (put5 w7 b1 (Value.int .i64 0) (Value.nilIface) (Value.nilIface) (Value.slice none 0 0) (Value.bool false));clear c0 c1 c2 c3 c4 s0 s1 s2 s3 s4 HR7 HN1 HD7
   generalize put5 w7 b1 (Value.int .i64 0) (Value.nilIface) (Value.nilIface) (Value.slice none 0 0) (Value.bool false)=w9 at HT HTD HRow HRk HTB ⊢
   refine wpT_on [17] ?_
   iterate 1 (refine wpT_yes rfl (by kernel_rfl) (fun _ _ _ _ h=>h) rfl ?_;apply Exists.intro;refine⟨fun wq hq => ?_,?_⟩;(focus (have hcq:=(qal hq).1;(try simp only[zd,qaa] at hcq);have hkq:=qac.below hq;go_simp;first|done|with_reducible rfl));(try simp only[Act.put,zk,zh,zi,ze,zm,zn]))
   refine wpT_off ?_;refine wpI_done (by kernel_rfl) HTD.out ?_ _;have r0:=HRk.out.cell 0;have r1:=HRk.out.cell 1;have r2:=HRk.out.cell 2;have r3:=HRk.out.cell 3;simp only[zu,zt] at r0 r1 r2 r3;have u0:=HRk.out.soft 0;have u1:=HRk.out.soft 1;have u2:=HRk.out.soft 2;have u3:=HRk.out.soft 3
   go_wp2_with fail
   have HQ:=hid (qv4 HRk.out (.int .i64 (-1)) (.bool (false)) (Value.slice none 0 0) (.bool (false)))
   (try simp only[Exit.inBlock,Exit.then])
   refine bodyPost_ret (results_ct (v := .agg #[.int .i64 (-1),.bool (false),Value.slice none 0 0,.bool (false)]) rfl _ _ _ rfl rfl ?_) rfl ?_
   ·have q0:=HQ.out.cell 0;have q1:=HQ.out.cell 1;have q2:=HQ.out.cell 2;have q3:=HQ.out.cell 3;simp only[put4,zu,zt] at q0 q1 q2 q3;go_simp
   ·exact .inl ⟨Hro.out,rfl,hid (qru HTB.out (Nat.le_succ _) _ _ _ _)⟩
  ·obtain⟨k,m2,xo,ya,yc,T2,z,hro,hso,hkN,hob,hz1,hrow,rfl,rfl,rfl,rfl,rfl,rfl⟩:=h;have Hro:=hid hro;have HNp:=hid (And.intro hkN (And.intro hso hob));clear hro HSd hso hkN hob;have HT:=hid (put5_blk HN1.out (Value.int .i64 z) (Value.iface x.2.2.1 (.pointer (some x.2.2.2))) (Value.iface T2 (ptrV xo)) (Value.slice ya r.ix.length yc) (Value.bool r.ind));have HTD:=hid (put5_below HD7.out hb1 (Value.int .i64 z) (Value.iface x.2.2.1 (.pointer (some x.2.2.2))) (Value.iface T2 (ptrV xo)) (Value.slice ya r.ix.length yc) (Value.bool r.ind));have HAp:=hid (put5_apart w7 b1 (Value.int .i64 z) (Value.iface x.2.2.1 (.pointer (some x.2.2.2))) (Value.iface T2 (ptrV xo)) (Value.slice ya r.ix.length yc) (Value.bool r.ind));have HRow:=hid (qab hrow HAp.out fun g hg e=>by
    obtain⟨cs,hb⟩:=qaf hrow hg;exact hb.tne HN1.out (by decide) e)
   have HRk:=hid (HR7.out.apart HAp.out hne2);have HTB:=hid (HBw.out.trans (HTD.out.mono HBw.out.size));refine wpI_one (i:=16) (by kernel_rfl) rfl HD7.out (by rfl) (fun K hK => ?_);go_simp;refine hK _ _ ?_;clear hK K HAp hrow;change wpI _ _ _ _ _ _ _ (put5 w7 b1 (Value.int .i64 z) (Value.iface x.2.2.1 (.pointer (some x.2.2.2))) (Value.iface T2 (ptrV xo)) (Value.slice ya r.ix.length yc) (Value.bool r.ind));clear c0 c1 c2 c3 c4 s0 s1 s2 s3 s4 HR7 HN1 HD7
   generalize put5 w7 b1 (Value.int .i64 z) (Value.iface x.2.2.1 (.pointer (some x.2.2.2))) (Value.iface T2 (ptrV xo)) (Value.slice ya r.ix.length yc) (Value.bool r.ind)=w9 at HT HTD HRow HRk HTB ⊢
   refine wpT_on [17] ?_
   iterate 1 (refine wpT_yes rfl (by kernel_rfl) (fun _ _ _ _ h=>h) rfl ?_;apply Exists.intro;refine⟨fun wq hq => ?_,?_⟩;(focus (have hcq:=(qal hq).1;(try simp only[zd,qaa] at hcq);have hkq:=qac.below hq;go_simp;first|done|with_reducible rfl));(try simp only[Act.put,zk,zh,zi,ze,zm,zn]))
   refine wpT_off ?_;refine wpI_done (by kernel_rfl) HTD.out ?_ _;have r0:=HRk.out.cell 0;have r1:=HRk.out.cell 1;have r2:=HRk.out.cell 2;have r3:=HRk.out.cell 3;simp only[zu,zt] at r0 r1 r2 r3;have u0:=HRk.out.soft 0;have u1:=HRk.out.soft 1;have u2:=HRk.out.soft 2;have u3:=HRk.out.soft 3;have HNu:=hid (qr2 (HAm.out.1.keep HTD.out).bt.ok (HAm.out.1.keep HTD.out).cov (HAm.out.1.keep HTD.out).nn HNp.out.1 HNp.out.2.1);rw[HNp.out.2.2] at HNu
   go_wp2_with (first
    | (go_at_call 41;refine(selObj_any HT.out).mono ?_;rintro e w8 ⟨rfl,rfl⟩)
    | (go_at_call 37;refine HNu.out.mono ?_;rintro e w8 ⟨rfl,rfl⟩)
    | (go_at_call 42;refine(selKind_any HT.out).mono ?_;rintro e w8 ⟨rfl,rfl⟩)
    | (go_at_call 43;refine(selIndex_any HT.out).mono ?_;rintro e w8 ⟨rfl,rfl⟩)
    | (go_at_call 44;refine(selInd_any HT.out).mono ?_;rintro e w8 ⟨rfl,rfl⟩))
   have HQ:=hid (qv4 HRk.out (.int .i64 (k)) (.bool (m2)) (Value.slice ya r.ix.length yc) (.bool (r.ind)))
   (try simp only[Exit.inBlock,Exit.then])
   refine bodyPost_ret (results_ct (v := .agg #[.int .i64 (k),.bool (m2),Value.slice ya r.ix.length yc,.bool (r.ind)]) rfl _ _ _ rfl rfl ?_) rfl ?_
   ·have q0:=HQ.out.cell 0;have q1:=HQ.out.cell 1;have q2:=HQ.out.cell 2;have q3:=HQ.out.cell 3;simp only[put4,zu,zt] at q0 q1 q2 q3;go_simp
   ·refine .inr ⟨(k,m2,ya,yc),Hro.out,rfl,hid ⟨qab HRow.out (qrl _ (w.heap.size+1) _ _ _ _) fun g hg e => ?_,qru HTB.out (Nat.le_succ _) _ _ _ _⟩⟩;obtain⟨cs,hb⟩:=qaf HRow.out hg;exact hb.tne HRk.out (by decide) e
