import Derived.Test.YtmfhclggkjjcdaaGreatDoorL04
set_option linter.all false
set_option maxHeartbeats 4000000
namespace Go.Proofs.YtmfhclggkjjcdaaGreatDoor
open Go Go.RowKit Go.Proofs.Tryz
set_option maxRecDepth 100000
def qgw (w:World) (b:Nat) (v0 v1 v2 v3 v4 v5 v6 v7 v8 v9:Value):World:=
 (((((((((w.setCell ⟨b,0,none⟩ v0).setCell ⟨b,1,none⟩ v1).setCell ⟨b,2,none⟩ v2).setCell ⟨b,3,none⟩ v3).setCell ⟨b,4,none⟩ v4).setCell ⟨b,5,none⟩ v5).setCell ⟨b,6,none⟩ v6).setCell ⟨b,7,none⟩ v7).setCell ⟨b,8,none⟩ v8).setCell ⟨b,9,none⟩ v9
theorem qqs {w:World} {b:Nat} {u0 u1 u2 u3 u4 u5 u6 u7 u8 u9:Value} (h:qat w b 0 [u0,u1,u2,u3,u4,u5,u6,u7,u8,u9]) (v0 v1 v2 v3 v4 v5 v6 v7 v8 v9:Value):
  qat (qgw w b v0 v1 v2 v3 v4 v5 v6 v7 v8 v9) b 0 [v0,v1,v2,v3,v4,v5,v6,v7,v8,v9]:=by
 obtain⟨r0,r1,r2,r3,r4,r5,r6,r7,r8,r9⟩:=ten h;simp only[Nat.zero_add] at r0 r1 r2 r3 r4 r5 r6 r7 r8 r9;intro j v hv;unfold qgw
 match j,hv with
 | 0,hv|1,hv|2,hv|3,hv|4,hv|5,hv|6,hv|7,hv|8,hv|9,hv=>simp only[zt,zu,Option.some.injEq] at hv;subst hv;simp[go_sem,r0,r1,r2,r3,r4,r5,r6,r7,r8,r9]
 | j+10,hv=>simp at hv
theorem qg9 {w0 w:World} {B b:Nat} (v0 v1 v2 v3 v4 v5 v6 v7 v8 v9:Value) (h:Below B w0 w) (hb:B≤b):Below B w0 (qgw w b v0 v1 v2 v3 v4 v5 v6 v7 v8 v9):=by
 unfold qgw
 iterate 10 refine Below.setCell ?_ (by simpa using hb) _
 exact h
@[simp] theorem qr8 {w:World} {b:Nat} (v0 v1 v2 v3 v4 v5 v6 v7 v8 v9:Value):(qgw w b v0 v1 v2 v3 v4 v5 v6 v7 v8 v9).heap.size=w.heap.size:=by
 unfold qgw;simp
theorem qkh {w:World} {b:Nat} (v0 v1 v2 v3 v4 v5 v6 v7 v8 v9:Value):(((((((((w.setCell ⟨b,0,none⟩ v0).setCell ⟨b,1,none⟩ v1).setCell ⟨b,2,none⟩ v2).setCell ⟨b,3,none⟩ v3).setCell ⟨b,4,none⟩ v4).setCell ⟨b,5,none⟩ v5).setCell ⟨b,6,none⟩ v6).setCell ⟨b,7,none⟩ v7).setCell ⟨b,8,none⟩ v8).setCell ⟨b,9,none⟩ v9=qgw w b v0 v1 v2 v3 v4 v5 v6 v7 v8 v9:=rfl
structure EmbOk (n:Nat) (t:Ty):Prop where
 clo:t.clo n
 nm:(t.kind=1∧0≤t.num∧t.num<n)∨(t.kind=2∧0<t.elem.length∧0≤t.el0.num∧t.el0.num<n)
theorem qgr {n:Nat}:∀ {l:List Ty} (h:cloT n l) (k:Nat) (hk:k<l.length),l[k].clo n
 | t::r,h,0,_=>by simp only[cloT] at h;exact h.1
 | t::r,h,k+1,hk=>by simp only[cloT] at h;exact qgr h.2 k (by simpa using hk)
theorem qmf {n:Nat}:∀ {l:List Fd} (h:cloF n l) (k:Nat) (hk:k<l.length),l[k].of.clo n
 | .mk _ _ t::r,h,0,_=>by simp only[cloF] at h;exact h.1
 | .mk _ _ t::r,h,k+1,hk=>by simp only[cloF] at h;exact qmf h.2 k (by simpa using hk)
theorem Ty.clo_elem {n:Nat} {t:Ty} (h:t.clo n):cloT n t.elem:=by cases t;simp only[Ty.clo,Ty.elem] at *;exact h.2.1
theorem Ty.clo_fields {n:Nat} {t:Ty} (h:t.clo n):cloF n t.fields:=by cases t;simp only[Ty.clo,Ty.fields] at *;exact h.2.2.1
theorem Ty.clo_embeds {n:Nat} {t:Ty} (h:t.clo n):cloT n t.embeds:=by cases t;simp only[Ty.clo,Ty.embeds] at *;exact h.2.2.2
theorem Ty.clo_el0 {n:Nat} {t:Ty} (h:t.clo n) (he:0<t.elem.length):t.el0.clo n:=by
 have:=qgr (Ty.clo_elem h) 0 he;unfold Ty.el0;simpa[he] using this
def embB (W:Wd) (pkg:Int) (p:Bool) (s:Spot):Bool:=
 ((under W s).of.kind != 2)&&(!p||((under W s).of.kind != 5))&&(((dc W s.of.num.toNat).pkg==pkg)||qay (dc W s.of.num.toNat).name)
def qgg (W:Wd) (pkg:Int) (s:Spot):Bool:=if s.of.kind=2 then embB W pkg true (qaq s) else embB W pkg false s
theorem qsm {W:Wd} {pkg:Int} {s:Spot} (h:qgg W pkg s=true):qdo W pkg s:=by
 unfold qgg at h;unfold qdo;by_cases hk:s.of.kind=2
 ·rw[if_pos hk] at h;simp only[hk,if_true];unfold embB at h;simp only[Bool.and_eq_true,Bool.or_eq_true,bne_iff_ne,Bool.not_true,beq_iff_eq,Bool.false_eq_true,false_or] at h;exact⟨h.1.1,fun _=>h.1.2,h.2⟩
 ·rw[if_neg hk] at h;simp only[hk,if_false];unfold embB at h;simp only[Bool.and_eq_true,Bool.or_eq_true,bne_iff_ne,beq_iff_eq] at h;exact⟨h.1.1,fun hf=>absurd hf (by simp),h.2⟩
theorem qd5 (v0 v1 v2 v3 v4 v5 v6 v7:Value) (w:World):(Instr.field 88 (.agg #[v0,v1,v2,v3,v4,v5,v6,v7]) 0).run prog w = .ok (.agg #[v0,v1,v2,v3,v4,v5]) w:=by kernel_rfl
theorem qde (v0 v1 v2 v3 v4 v5:Value) (w:World):(Instr.field 54 (.agg #[v0,v1,v2,v3,v4,v5]) 0).run prog w = .ok v0 w:=by kernel_rfl
theorem qlj (W:Wd) (a:Option Addr) (c:Nat) (pkg:Int) (s:Spot) (v:Value) (w0 w:World) (k0:qac w0 w) (hW:WOk w0 W a c) (hC:CloW W) (hs:qb6 w0 s v) (he:EmbOk W.length s.of) (hp:i64 pkg):
  Calls prog 59 #[.slice a W.length c,.int .i64 pkg,v] w (qa2 (.bool (qgg W pkg s)) w):=by
 have hl:=qbk W;have hcap:=hW.cap;have hbk:=hW.bulk;obtain⟨x1,d1,x2,d2,x3,d3,x4,d4,rfl,htt⟩:=hs.open;have Hs:=hid hs;clear hs;have HW:=hid hW;clear hW;have hcl:=he.clo;rcases he.nm with ⟨hk,hn0,hn1⟩|⟨hk,hel,hn0,hn1⟩
 ·have hkd:(s.of.kind==2)=false:=by simp[hk]
  have hnl:s.of.num.toNat<W.length:=by omega
  have hnn:s.of.num=(s.of.num.toNat:Int):=by omega
  obtain⟨b,o,p1,g1,p2,g2,p3,g3,p4,g4,p5,g5,rfl,-,-,-,-,-,hdd⟩:=HW.out.row.get s.of.num.toNat hnl;obtain⟨D0,D1,D2,D3,D4,D5,D6,D7,D8,D9⟩:=ten (hdd.keep k0);have hbb:=zj w _ D0;simp only at hbb;have hB:qgg W pkg s=((((under W s).of.kind != 2)&&(true))&&((W[s.of.num.toNat].pkg==pkg)||qay W[s.of.num.toNat].name)):=by
   unfold qgg embB;rw[if_neg (by simp[hk])];simp[qcg hnl]
  have HB:=hid hB;clear hB hdd htt;have Hcl:=hid hcl;clear hcl he
  generalize s.of.num.toNat=nn at *
  go_enter func59,ntmps59
  go_wp2_with fail
  refine Mix.wp_region [0,1,5,6,7,8,9,10] [(2,false),(3,false),(4,false),(11,true),(12,false)] [13] (fun _=>⟨.cells #[.int .i64 0,.int .i64 0,.bool false,.int .i64 0,.int .i64 0,.slice none 0 0,.slice none 0 0,.slice none 0 0,.slice none 0 0,.slice none 0 0] 82,fun b => .pointer (some ⟨b,0,none⟩)⟩) (by kernel_rfl) (by kernel_rfl) (by decide) ?_
  iterate 8 (first|(refine pre_yes rfl rfl ?_;apply Exists.intro;refine⟨fun W1 hW1 => ?_,?_⟩;(focus (have hc1:=(qal hW1).1;(try simp only[zd,qaa] at hc1);have hk1:=qac.below hW1;go_simp;first|exact rfl|fail));simp only[Act.put,zk,zh,zi,ze,zm,zn])|(refine pre_no rfl rfl ?_;simp only[Act.put,zk,zh,zi,ze,zm,zn]))
  refine pre_end ?_ (fun W2 hW2 => ?_)
  ·refine fl_op (fl_op (fl_op (qnd rfl rfl (fun W1 hW1 => ?_) (fl_op fl_nil))));go_simp
  ·have hz2:=zq hW2;(try simp only[zd,qaa] at hz2);have hc2:=(qal hW2).1;(try simp only[zd,qaa] at hc2);have hf2:=(qal hW2).2;(try simp only[zd,qaa] at hf2);refine mid_call hW2 rfl rfl (fun Kp hKp => ?_);go_simp;refine(qb3 W _ c s _ w0 W2 (k0.trans (qac.below hW2).undrew.unalloc) HW.out hC (by simpa only[hk,hnn] using Hs.out) Hcl.out).mono ?_;rintro e W3 ⟨cs,rfl,ht3,hW3⟩;obtain⟨y1,f1,y2,f2,y3,f3,y4,f4,rfl,-⟩:=ht3.open;clear ht3;refine⟨_,rfl,hKp _ _ hW3 fun W4 hW4 => ?_⟩;simp only[Act.put,zk,zh,zi,ze,zm,zn];have hz3:=zq hW3;(try simp only[zd,qaa] at hz3);have hz4:=zq hW4;(try simp only[zd,qaa] at hz4);have hB4:=qa4 hW4 (qbl hW3 hW2 (by first|omega|(simp;done)|(simp;omega)));refine qcf hB4 rfl rfl ?_;apply Exists.intro;refine⟨?_,fun W5 hW5 => ?_⟩
   (focus (go_simp;first|exact rfl|(simp only[qd5];exact⟨rfl,rfl⟩)))
   simp only[Act.put,zk,zh,zi,ze,zm,zn];have hz5:=zq hW5;(try simp only[zd,qaa] at hz5);have hB5:=qa4 hW5 hB4;have hc5:=(qal hW5).1;(try simp only[zd,qaa] at hc5);have hf5:=(qal hW5).2;(try simp only[zd,qaa] at hf5);refine qcf hB5 rfl rfl ?_;apply Exists.intro;refine⟨?_,fun W6 hW6 => ?_⟩
   (focus (go_simp;first|exact rfl|(simp only[qde];exact⟨rfl,rfl⟩)))
   simp only[Act.put,zk,zh,zi,ze,zm,zn];have hz6:=zq hW6;(try simp only[zd,qaa] at hz6);have hB6:=qa4 hW6 hB5;have hc6:=(qal hW6).1;(try simp only[zd,qaa] at hc6);have hf6:=(qal hW6).2;(try simp only[zd,qaa] at hf6);refine qje rfl (fun b7 W7 hW7 hh hb7 hn7 => ?_);simp only[Act.put,zk,zh,zi,ze,zm,zn];have hz7:=zq hW7;(try simp only[zd,qaa] at hz7);have hB7:=qa4 hW7 hB6;have hb70:b7<W7.heap.size:=(zab.1 hh).1;have hc7:=fun j=>cell_of_row W7 b7 j _ _ _ hh;refine qcf hB7 rfl rfl ?_;apply Exists.intro;refine⟨?_,fun W8 hW8 => ?_⟩
   (focus (go_simp;first|exact rfl|fail))
   simp only[Act.put,zk,zh,zi,ze,zm,zn];have hz8:=zq hW8;(try simp only[zd,qaa] at hz8);have hB8:=qa4 hW8 hB7;have hc8:=(qal hW8).1;(try simp only[zd,qaa] at hc8);have hf8:=(qal hW8).2;(try simp only[zd,qaa] at hf8);have hf8':∀ j,W8.frozen? ⟨b7,j,none⟩=false:=fun j=>by rw[hf8 b7 j (by omega)];simp[World.frozen?,hh]
   refine mid_nil (qco rfl ?_);have hb71:b7<W8.heap.size:=by omega
   have hBw:Below w.heap.size w W8:=bel;have hb72:w.heap.size<b7:=Nat.lt_of_succ_le (by simpa using hb7);have hCA:=qa9 hW8 hb70 hh;clear hc2 hf2 hc5 hf5 hc6 hf6 hc7 hc8 hf8 hh hb7 hn7 hW2 hW3 hW4 hW5 hW6 hW7 hW8 hB4 hB5 hB6 hB7 hB8 hKp hz2 hz3 hz4 hz5 hz6 hz7 hz8 D0 D1 D2 D3 D4 D5 D6 D7 D8 D9;have c0:=hCA 0 _ rfl;have c1:=hCA 1 _ rfl;have c2:=hCA 2 _ rfl;have c3:=hCA 3 _ rfl;have c4:=hCA 4 _ rfl;have c5:=hCA 5 _ rfl;have c6:=hCA 6 _ rfl;have c7:=hCA 7 _ rfl;have c8:=hCA 8 _ rfl;have c9:=hCA 9 _ rfl;simp only[Nat.zero_add] at c0 c1 c2 c3 c4 c5 c6 c7 c8 c9
   first|go_guarded|go_step
   rw[qkh];have hS:=qqs hCA (.int .i64 W[nn].name) (.int .i64 W[nn].pkg) (.bool W[nn].alias) (.int .i64 W[nn].of.kind) (.int .i64 W[nn].of.num) (.slice p1 W[nn].of.elem.length g1) (.slice p2 W[nn].of.fields.length g2) (.slice p3 W[nn].of.methods.length g3) (.slice p4 W[nn].of.embeds.length g4) (.slice p5 W[nn].methods.length g5);have hBS:Below w.heap.size w (qgw W8 b7 (.int .i64 W[nn].name) (.int .i64 W[nn].pkg) (.bool W[nn].alias) (.int .i64 W[nn].of.kind) (.int .i64 W[nn].of.num) (.slice p1 W[nn].of.elem.length g1) (.slice p2 W[nn].of.fields.length g2) (.slice p3 W[nn].of.methods.length g3) (.slice p4 W[nn].of.embeds.length g4) (.slice p5 W[nn].methods.length g5)):=qg9 _ _ _ _ _ _ _ _ _ _ hBw (by omega)
   generalize qgw W8 b7 (.int .i64 W[nn].name) (.int .i64 W[nn].pkg) (.bool W[nn].alias) (.int .i64 W[nn].of.kind) (.int .i64 W[nn].of.num) (.slice p1 W[nn].of.elem.length g1) (.slice p2 W[nn].of.fields.length g2) (.slice p3 W[nn].of.methods.length g3) (.slice p4 W[nn].of.embeds.length g4) (.slice p5 W[nn].methods.length g5)=WS at *
   have s0:=hS 0 _ rfl;have s1:=hS 1 _ rfl;simp only[Nat.zero_add] at s0 s1;have hzS:=zq hBS;clear hS hCA c0 c1 c2 c3 c4 c5 c6 c7 c8 c9 hBw hf8' hb70 hb71;cases hq1:((under W s).of.kind != 2) with
   | false=>
    go_wp2_with fail
    go_ret
    exact⟨by rw[HB.out,hq1];rfl,bel⟩
   | true=>
    cases hq2:(W[nn].pkg==pkg) with
    | true=>
     go_wp2_with fail
     go_ret
     exact⟨by rw[HB.out,hq1,hq2];rfl,bel⟩
    | false=>
     go_wp2_with (go_at_call 27;refine(qeu _ _).mono ?_;rintro e w9 ⟨rfl,hb9⟩;have hz9:=zq hb9)
     go_ret
     exact⟨by rw[HB.out,hq1,hq2];rfl,bel⟩
 ·have hkd:(s.of.kind==2)=true:=by simp[hk]
  have hnl:(qaq s).of.num.toNat<W.length:=by show s.of.el0.num.toNat<W.length;omega
  have hnn:(qaq s).of.num=((qaq s).of.num.toNat:Int):=by show s.of.el0.num=(s.of.el0.num.toNat:Int);omega
  obtain⟨b,o,p1,g1,p2,g2,p3,g3,p4,g4,p5,g5,rfl,-,-,-,-,-,hdd⟩:=HW.out.row.get (qaq s).of.num.toNat hnl;have hB:qgg W pkg s=((((under W (qaq s)).of.kind != 2)&&((under W (qaq s)).of.kind != 5))&&((W[(qaq s).of.num.toNat].pkg==pkg)||qay W[(qaq s).of.num.toNat].name)):=by
   unfold qgg embB;rw[if_pos hk];simp[qcg hnl]
  have HB:=hid hB;clear hB htt;have Hcl:=hid (Ty.clo_el0 hcl hel:(qaq s).of.clo W.length);clear hcl he;have Hdd:=hid hdd;clear hdd;have Hel:=hid hel;clear hel hn0 hn1
  generalize (qaq s).of.num.toNat=nn at *
  go_enter func59,ntmps59
  go_wp2_with (go_at_call 60;refine(qhs s _ w0 _ (k0.trans (qac.alloc _ _)) (by simpa only[hk] using Hs.out) Hel.out).mono ?_;rintro e w1 ⟨cs,rfl,ht1,hb1⟩;obtain⟨z1,r1,z2,r2,z3,r3,z4,r4,rfl,-⟩:=ht1.open;have Hs2:Hid (qb6 w0 (qaq s) (.agg #[.int .i64 (qaq s).of.kind,.int .i64 (qaq s).of.num,.slice z1 (qaq s).of.elem.length r1,.slice z2 (qaq s).of.fields.length r2,.slice z3 (qaq s).of.methods.length r3,.slice z4 (qaq s).of.embeds.length r4,.int .i64 (qaq s).at_,.int .i64 (qaq s).pkg])):=hid ⟨_,rfl,ht1⟩;clear ht1;have hz1:=zq hb1;simp only[zd,qaa] at hz1;have hc1:=(qal hb1).1;have hff1:=(qal hb1).2;simp only[zd,qaa] at hc1 hff1)
  rw[qq3];have hcw:=qa9 hb1 (by simp) (qa8 _ _);have hS1:=qtc hcw (.int .i64 (qaq s).of.kind) (.int .i64 nn) (.slice z1 (qaq s).of.elem.length r1) (.slice z2 (qaq s).of.fields.length r2) (.slice z3 (qaq s).of.methods.length r3) (.slice z4 (qaq s).of.embeds.length r4) (.int .i64 (qaq s).at_) (.int .i64 (qaq s).pkg);have hbw1:Below w.heap.size w w1:=bel;have hBS1:Below w.heap.size w (set8 w1 w.heap.size (.int .i64 (qaq s).of.kind) (.int .i64 nn) (.slice z1 (qaq s).of.elem.length r1) (.slice z2 (qaq s).of.fields.length r2) (.slice z3 (qaq s).of.methods.length r3) (.slice z4 (qaq s).of.embeds.length r4) (.int .i64 (qaq s).at_) (.int .i64 (qaq s).pkg)):=qlc _ _ _ _ _ _ _ _ hbw1 (zl _);have hzS:w.heap.size+1≤(set8 w1 w.heap.size (.int .i64 (qaq s).of.kind) (.int .i64 nn) (.slice z1 (qaq s).of.elem.length r1) (.slice z2 (qaq s).of.fields.length r2) (.slice z3 (qaq s).of.methods.length r3) (.slice z4 (qaq s).of.embeds.length r4) (.int .i64 (qaq s).at_) (.int .i64 (qaq s).pkg)).heap.size:=by rw[qoq];omega
  generalize set8 w1 w.heap.size (.int .i64 (qaq s).of.kind) (.int .i64 nn) (.slice z1 (qaq s).of.elem.length r1) (.slice z2 (qaq s).of.fields.length r2) (.slice z3 (qaq s).of.methods.length r3) (.slice z4 (qaq s).of.embeds.length r4) (.int .i64 (qaq s).at_) (.int .i64 (qaq s).pkg)=WS1 at *
  clear hcw hbw1 hb1 hc1 hff1 hz1;obtain⟨E0,E1,E2,E3,E4,E5,E6,E7⟩:=qgv hS1;simp only[Nat.zero_add] at E0 E1 E2 E3 E4 E5 E6 E7;obtain⟨D0,D1,D2,D3,D4,D5,D6,D7,D8,D9⟩:=ten ((Hdd.out.keep k0).keep (qac.below hBS1));have hbb:=zj WS1 _ D0;have hb00:=zj WS1 _ E0;simp only at hbb hb00;clear hS1;refine Mix.wp_region [0,1,5,6,7,8,9,10] [(2,false),(3,false),(4,false),(11,true),(12,false)] [13] (fun _=>⟨.cells #[.int .i64 0,.int .i64 0,.bool false,.int .i64 0,.int .i64 0,.slice none 0 0,.slice none 0 0,.slice none 0 0,.slice none 0 0,.slice none 0 0] 82,fun b => .pointer (some ⟨b,0,none⟩)⟩) (by kernel_rfl) (by kernel_rfl) (by decide) ?_
  iterate 8 (first|(refine pre_yes rfl rfl ?_;apply Exists.intro;refine⟨fun W1 hW1 => ?_,?_⟩;(focus (have hc1:=(qal hW1).1;(try simp only[zd,qaa] at hc1);have hk1:=qac.below hW1;go_simp;first|exact rfl|fail));simp only[Act.put,zk,zh,zi,ze,zm,zn])|(refine pre_no rfl rfl ?_;simp only[Act.put,zk,zh,zi,ze,zm,zn]))
  refine pre_end ?_ (fun W2 hW2 => ?_)
  ·refine fl_op (fl_op (fl_op (qnd rfl rfl (fun W1 hW1 => ?_) (fl_op fl_nil))));go_simp
  ·have hz2:=zq hW2;(try simp only[zd,qaa] at hz2);have hc2:=(qal hW2).1;(try simp only[zd,qaa] at hc2);have hf2:=(qal hW2).2;(try simp only[zd,qaa] at hf2);refine mid_call hW2 rfl rfl (fun Kp hKp => ?_);go_simp;refine(qb3 W _ c (qaq s) _ w0 W2 ((k0.trans (qac.below hBS1)).trans (qac.below hW2).undrew) HW.out hC (by simpa only[hnn] using Hs2.out) Hcl.out).mono ?_;rintro e W3 ⟨cs,rfl,ht3,hW3⟩;obtain⟨y1,f1,y2,f2,y3,f3,y4,f4,rfl,-⟩:=ht3.open;clear ht3;refine⟨_,rfl,hKp _ _ hW3 fun W4 hW4 => ?_⟩;simp only[Act.put,zk,zh,zi,ze,zm,zn];have hz3:=zq hW3;(try simp only[zd,qaa] at hz3);have hz4:=zq hW4;(try simp only[zd,qaa] at hz4);have hB4:=qa4 hW4 (qbl hW3 hW2 (by first|omega|(simp;done)|(simp;omega)));refine qcf hB4 rfl rfl ?_;apply Exists.intro;refine⟨?_,fun W5 hW5 => ?_⟩
   (focus (go_simp;first|exact rfl|(simp only[qd5];exact⟨rfl,rfl⟩)))
   simp only[Act.put,zk,zh,zi,ze,zm,zn];have hz5:=zq hW5;(try simp only[zd,qaa] at hz5);have hB5:=qa4 hW5 hB4;have hc5:=(qal hW5).1;(try simp only[zd,qaa] at hc5);have hf5:=(qal hW5).2;(try simp only[zd,qaa] at hf5);refine qcf hB5 rfl rfl ?_;apply Exists.intro;refine⟨?_,fun W6 hW6 => ?_⟩
   (focus (go_simp;first|exact rfl|(simp only[qde];exact⟨rfl,rfl⟩)))
   simp only[Act.put,zk,zh,zi,ze,zm,zn];have hz6:=zq hW6;(try simp only[zd,qaa] at hz6);have hB6:=qa4 hW6 hB5;have hc6:=(qal hW6).1;(try simp only[zd,qaa] at hc6);have hf6:=(qal hW6).2;(try simp only[zd,qaa] at hf6);refine qje rfl (fun b7 W7 hW7 hh hb7 hn7 => ?_);simp only[Act.put,zk,zh,zi,ze,zm,zn];have hz7:=zq hW7;(try simp only[zd,qaa] at hz7);have hB7:=qa4 hW7 hB6;have hb70:b7<W7.heap.size:=(zab.1 hh).1;have hc7:=fun j=>cell_of_row W7 b7 j _ _ _ hh;refine qcf hB7 rfl rfl ?_;apply Exists.intro;refine⟨?_,fun W8 hW8 => ?_⟩
   (focus (go_simp;first|exact rfl|fail))
   simp only[Act.put,zk,zh,zi,ze,zm,zn];have hz8:=zq hW8;(try simp only[zd,qaa] at hz8);have hB8:=qa4 hW8 hB7;have hc8:=(qal hW8).1;(try simp only[zd,qaa] at hc8);have hf8:=(qal hW8).2;(try simp only[zd,qaa] at hf8);have hf8':∀ j,W8.frozen? ⟨b7,j,none⟩=false:=fun j=>by rw[hf8 b7 j (by omega)];simp[World.frozen?,hh]
   refine mid_nil (qco rfl ?_);have hb71:b7<W8.heap.size:=by omega
   have hBw:Below w.heap.size w W8:=bel;have hb72:w.heap.size<b7:=Nat.lt_of_succ_le (by have:=hzS;simp at hb7;omega);have hCA:=qa9 hW8 hb70 hh;clear hc2 hf2 hc5 hf5 hc6 hf6 hc7 hc8 hf8 hh hb7 hn7 hW2 hW3 hW4 hW5 hW6 hW7 hW8 hB4 hB5 hB6 hB7 hB8 hKp hz2 hz3 hz4 hz5 hz6 hz7 hz8 D0 D1 D2 D3 D4 D5 D6 D7 D8 D9;have c0:=hCA 0 _ rfl;have c1:=hCA 1 _ rfl;have c2:=hCA 2 _ rfl;have c3:=hCA 3 _ rfl;have c4:=hCA 4 _ rfl;have c5:=hCA 5 _ rfl;have c6:=hCA 6 _ rfl;have c7:=hCA 7 _ rfl;have c8:=hCA 8 _ rfl;have c9:=hCA 9 _ rfl;simp only[Nat.zero_add] at c0 c1 c2 c3 c4 c5 c6 c7 c8 c9
   first|go_guarded|go_step
   rw[qkh];have hS:=qqs hCA (.int .i64 W[nn].name) (.int .i64 W[nn].pkg) (.bool W[nn].alias) (.int .i64 W[nn].of.kind) (.int .i64 W[nn].of.num) (.slice p1 W[nn].of.elem.length g1) (.slice p2 W[nn].of.fields.length g2) (.slice p3 W[nn].of.methods.length g3) (.slice p4 W[nn].of.embeds.length g4) (.slice p5 W[nn].methods.length g5);have hBS:Below w.heap.size w (qgw W8 b7 (.int .i64 W[nn].name) (.int .i64 W[nn].pkg) (.bool W[nn].alias) (.int .i64 W[nn].of.kind) (.int .i64 W[nn].of.num) (.slice p1 W[nn].of.elem.length g1) (.slice p2 W[nn].of.fields.length g2) (.slice p3 W[nn].of.methods.length g3) (.slice p4 W[nn].of.embeds.length g4) (.slice p5 W[nn].methods.length g5)):=qg9 _ _ _ _ _ _ _ _ _ _ hBw (by omega)
   generalize qgw W8 b7 (.int .i64 W[nn].name) (.int .i64 W[nn].pkg) (.bool W[nn].alias) (.int .i64 W[nn].of.kind) (.int .i64 W[nn].of.num) (.slice p1 W[nn].of.elem.length g1) (.slice p2 W[nn].of.fields.length g2) (.slice p3 W[nn].of.methods.length g3) (.slice p4 W[nn].of.embeds.length g4) (.slice p5 W[nn].methods.length g5)=WS at *
   have s0:=hS 0 _ rfl;have s1:=hS 1 _ rfl;simp only[Nat.zero_add] at s0 s1;have hzS:=zq hBS;clear hS hCA c0 c1 c2 c3 c4 c5 c6 c7 c8 c9 hBw hf8' hb70 hb71;cases hq1:((under W (qaq s)).of.kind != 2) with
   | false=>
    go_wp2_with fail
    go_ret
    exact⟨by rw[HB.out,hq1];rfl,bel⟩
   | true=>
     cases hq5:((under W (qaq s)).of.kind != 5) with
     | false=>
    go_wp2_with fail
    go_ret
    exact⟨by rw[HB.out,hq1,hq5];rfl,bel⟩
     | true=>
    cases hq2:(W[nn].pkg==pkg) with
    | true=>
     go_wp2_with fail
     go_ret
     exact⟨by rw[HB.out,hq1,hq5,hq2];rfl,bel⟩
    | false=>
     go_wp2_with (go_at_call 27;refine(qeu _ _).mono ?_;rintro e w9 ⟨rfl,hb9⟩;have hz9:=zq hb9)
     go_ret
     exact⟨by rw[HB.out,hq1,hq5,hq2];rfl,bel⟩
