import Derived.Test.YtaibcdkadbemgaaGreatDoorK04
set_option linter.all false
set_option maxHeartbeats 2000000
namespace Go.Proofs.YtaibcdkadbemgaaGreatDoor
open Go Go.RowKit
set_option maxRecDepth 100000
def CloW (W:Wd):Prop:=∀ d,d<W.length→(dc W d).of.clo W.length
theorem Ty.clo_num {n:Nat} {t:Ty} (h:t.clo n) (hk:t.kind=1):0≤t.num∧t.num<n:=by
 cases t;simp only[Ty.clo,Ty.kind,Ty.num] at *;exact h.1 hk
structure WOk (w:World) (W:Wd) (a:Option Addr) (c:Nat):Prop where
 row:WdR w a W
 cap:W.length≤c
 bulk:qbw W≤1048576
theorem WOk.keep {w w':World} {W:Wd} {a:Option Addr} {c:Nat} (h:WOk w W a c) (k:qac w w'):WOk w' W a c:=⟨h.row.keep k,h.cap,h.bulk⟩
def qw8 (w0 w:World) (b:Nat) (s:Spot):Prop:=∃ x1 d1 x2 d2 x3 d3 x4 d4,qat w b 0 [.int .i64 s.of.kind,.int .i64 s.of.num,.slice x1 s.of.elem.length d1,.slice x2 s.of.fields.length d2,.slice x3 s.of.methods.length d3,.slice x4 s.of.embeds.length d4,.int .i64 s.at_,.int .i64 s.pkg]∧TyC w0 s.of [.int .i64 s.of.kind,.int .i64 s.of.num,.slice x1 s.of.elem.length d1,.slice x2 s.of.fields.length d2,.slice x3 s.of.methods.length d3,.slice x4 s.of.embeds.length d4]
abbrev Soft (w:World) (b:Nat):Prop:=∀ j,w.frozen? ⟨b,j,none⟩=false
def Zero8 (w:World) (b:Nat):Prop:=qat w b 0 [.int .i64 0,.int .i64 0,.slice none 0 0,.slice none 0 0,.slice none 0 0,.slice none 0 0,.int .i64 0,.int .i64 0]
def set8 (w:World) (b:Nat) (v0 v1 v2 v3 v4 v5 v6 v7:Value):World:=
 (((((((w.setCell ⟨b,0,none⟩ v0).setCell ⟨b,1,none⟩ v1).setCell ⟨b,2,none⟩ v2).setCell ⟨b,3,none⟩ v3).setCell ⟨b,4,none⟩ v4).setCell ⟨b,5,none⟩ v5).setCell ⟨b,6,none⟩ v6).setCell ⟨b,7,none⟩ v7
theorem qtc {w:World} {b:Nat} {u0 u1 u2 u3 u4 u5 u6 u7:Value} (h:qat w b 0 [u0,u1,u2,u3,u4,u5,u6,u7]) (v0 v1 v2 v3 v4 v5 v6 v7:Value):
  qat (set8 w b v0 v1 v2 v3 v4 v5 v6 v7) b 0 [v0,v1,v2,v3,v4,v5,v6,v7]:=by
 obtain⟨r0,r1,r2,r3,r4,r5,r6,r7⟩:=qgv h;simp only[Nat.zero_add] at r0 r1 r2 r3 r4 r5 r6 r7;intro j v hv;unfold set8
 match j,hv with
 | 0,hv|1,hv|2,hv|3,hv|4,hv|5,hv|6,hv|7,hv=>simp only[zs,zt,Option.some.injEq] at hv;subst hv;simp[go_sem,r0,r1,r2,r3,r4,r5,r6,r7]
 | j+8,hv=>simp at hv
theorem qve {w:World} {b b':Nat} (v0 v1 v2 v3 v4 v5 v6 v7:Value) (hb:b'≠b) (o:Nat):(set8 w b v0 v1 v2 v3 v4 v5 v6 v7).cell? ⟨b',o,none⟩=w.cell? ⟨b',o,none⟩:=by
 unfold set8;have key:∀ (W:World) (i:Nat) (v:Value),(W.setCell ⟨b,i,none⟩ v).cell? ⟨b',o,none⟩=W.cell? ⟨b',o,none⟩:=fun W i v=>World.cell?_setCell_other _ _ _ _ (by intro h;injection h;omega);simp only[key]
theorem qo0 {w:World} {b b':Nat} (v0 v1 v2 v3 v4 v5 v6 v7:Value) (h:Soft w b'):Soft (set8 w b v0 v1 v2 v3 v4 v5 v6 v7) b':=by
 intro j;unfold set8;simp[go_sem];exact h j
theorem qlc {w0 w:World} {B b:Nat} (v0 v1 v2 v3 v4 v5 v6 v7:Value) (h:Below B w0 w) (hb:B≤b):Below B w0 (set8 w b v0 v1 v2 v3 v4 v5 v6 v7):=by
 unfold set8
 iterate 8 refine Below.setCell ?_ (by simpa using hb) _
 exact h
@[simp] theorem qoq {w:World} {b:Nat} (v0 v1 v2 v3 v4 v5 v6 v7:Value):(set8 w b v0 v1 v2 v3 v4 v5 v6 v7).heap.size=w.heap.size:=by
 unfold set8;simp
theorem qq3 {w:World} {b:Nat} (v0 v1 v2 v3 v4 v5 v6 v7:Value):(((((((w.setCell ⟨b,0,none⟩ v0).setCell ⟨b,1,none⟩ v1).setCell ⟨b,2,none⟩ v2).setCell ⟨b,3,none⟩ v3).setCell ⟨b,4,none⟩ v4).setCell ⟨b,5,none⟩ v5).setCell ⟨b,6,none⟩ v6).setCell ⟨b,7,none⟩ v7=set8 w b v0 v1 v2 v3 v4 v5 v6 v7:=rfl
theorem qb3 (W:Wd) (a:Option Addr) (c:Nat) (s:Spot) (v:Value) (w0 w:World) (k0:qac w0 w) (hW:WOk w0 W a c) (hC:CloW W) (hs:qb6 w0 s v) (hcl:s.of.clo W.length):
  Calls Tryz.prog 54 #[.slice a W.length c,v] w (qef w0 (qae W s) w):=by
 have hl:=qbk W;have hcap:=hW.cap;have hbk:=hW.bulk;obtain⟨x1,d1,x2,d2,x3,d3,x4,d4,rfl,htt⟩:=hs.open;clear hs;obtain⟨O,hO⟩:∃ O,O=(Obj.cells #[.int .i64 s.of.kind,.int .i64 s.of.num,.slice x1 s.of.elem.length d1,.slice x2 s.of.fields.length d2,.slice x3 s.of.methods.length d3,.slice x4 s.of.embeds.length d4,.int .i64 s.at_,.int .i64 s.pkg] 90):=⟨_,rfl⟩;obtain⟨O2,hO2⟩:∃ O2,O2=(Obj.cells #[.int .i64 0,.int .i64 0,.slice none 0 0,.slice none 0 0,.slice none 0 0,.slice none 0 0,.int .i64 0,.int .i64 0] 90):=⟨_,rfl⟩;have HW:=hid hW;clear hW;go_enter Tryz.func54,Tryz.ntmps54
 go_wp2_with fail
 rw[← hO,← hO2];have f1:((w.alloc O).alloc O2).heap[w.heap.size]?=some (.cells [.int .i64 s.of.kind,.int .i64 s.of.num,.slice x1 s.of.elem.length d1,.slice x2 s.of.fields.length d2,.slice x3 s.of.methods.length d3,.slice x4 s.of.embeds.length d4,.int .i64 s.at_,.int .i64 s.pkg].toArray 90):=by rw[← hO];exact qtb (qa8 _ _)
 have f2:((w.alloc O).alloc O2).heap[w.heap.size+1]?=some (.cells [.int .i64 0,.int .i64 0,.slice none 0 0,.slice none 0 0,.slice none 0 0,.slice none 0 0,.int .i64 0,.int .i64 0].toArray 90):=by rw[← hO2];have:=qa8 (w.alloc O) O2;simpa using this
 have hbw2:Below w.heap.size w ((w.alloc O).alloc O2):=bel;have hw2:((w.alloc O).alloc O2).heap.size=w.heap.size+2:=by simp
 have g1:qw8 w0 ((w.alloc O).alloc O2) w.heap.size s:=⟨x1,d1,x2,d2,x3,d3,x4,d4,qa9 (zp (w.heap.size+2) _) (by omega) f1,htt⟩;have g2:Zero8 ((w.alloc O).alloc O2) (w.heap.size+1):=qa9 (zp (w.heap.size+2) _) (by omega) f2;have g3:Soft ((w.alloc O).alloc O2) w.heap.size:=qfp (zp (w.heap.size+2) _) (by omega) f1;have g4:Soft ((w.alloc O).alloc O2) (w.heap.size+1):=qfp (zp (w.heap.size+2) _) (by omega) f2
 generalize (w.alloc O).alloc O2=w2 at *
 clear f1 f2 hO hO2 htt
 go_loopw [8] (fun i wr=>∃ (k:Nat) (s':Spot),k≤W.length+1∧i = .int .i64 k∧qb9 W (W.length+1 - k) s'=qae W s∧s'.of.clo W.length∧qw8 w0 wr w.heap.size s'∧Zero8 wr (w.heap.size+1)∧Soft wr w.heap.size∧Soft wr (w.heap.size+1)∧Below w.heap.size w wr∧w.heap.size+2≤wr.heap.size)
  (fun i _=>W.length+1 - (intOf i).toNat)
 case atStart=>exact⟨0,s,by omega,rfl,rfl,hcl,g1,g2,g3,g4,hbw2,by omega⟩
 clear g1 g2 g3 g4 hcl
 case round=>
  obtain⟨k,s',hk,rfl,hu,hcl,hs1,hz8,hf1,hf2,hbel,hsz⟩:=hrel;obtain⟨y1,e1,y2,e2,y3,e3,y4,e4,hcc,htt⟩:=hs1;obtain⟨q0,q1,q2,q3,q4,q5,q6,q7⟩:=qgv hcc;obtain⟨r0,r1,r2,r3,r4,r5,r6,r7⟩:=qgv hz8;simp only[Nat.zero_add] at r0 r1 r2 r3 r4 r5 r6 r7 q0 q1 q2 q3 q4 q5 q6 q7;by_cases hlt:k<W.length+1
  ·by_cases hkd:s'.of.kind=1
   ·obtain⟨hn0,hn1⟩:=Ty.clo_num hcl hkd;have hkd':(s'.of.kind != 1)=false:=by simp[hkd]
    have hu':qb9 W (W.length+1 - (k+1)) (qad W s'.of.num.toNat)=qae W s:=by
     rw[← hu];obtain⟨m,hm⟩:∃ m,W.length+1 - k=m+1:=⟨W.length - k,by omega⟩;rw[hm,show W.length+1 - (k+1)=m by omega];simp[qb9,hkd]
    have Hu:=hid hu';have hc':=hid (hC _ (show s'.of.num.toNat<W.length by omega));have hnn:s'.of.num=(s'.of.num.toNat:Int):=by omega
    generalize s'.of.num.toNat=nn at *
    clear hu hu' hcl hkd;have HK:=hid (k0.trans (qac.below hbel));have ha0:w.heap.size<wr.heap.size:=by omega
    have ha1:w.heap.size+1<wr.heap.size:=by omega
    go_wp2_with (go_at_call 33;refine(qeo W _ c nn w0 wr HK.out HW.out.row (by omega) hcap hbk).mono ?_;rintro e w1 ⟨cs,rfl,ht1,hb1⟩;obtain⟨z1,p1,z2,p2,z3,p3,z4,p4,rfl,-⟩:=ht1.open;have Ht1:=hid ht1;clear ht1;have hz1:=zq hb1;have hc1:=(qal hb1).1;have hff1:=(qal hb1).2)
    rw[qq3]
    go_roundw
    case rel=>
     have k1:=qac.below hb1;have hbw1:Below w.heap.size w w1:=qbl hb1 hbel (by omega);refine⟨k+1,_,by omega,by go_num,Hu.out,hc'.out,⟨z1,p1,z2,p2,z3,p3,z4,p4,qtc (hcc.keep k1) _ _ _ _ _ _ _ _,Ht1.out⟩,?_,?_,?_,?_,?_⟩
     ·intro j v hv;rw[qve _ _ _ _ _ _ _ _ (by omega)];exact(hz8.keep k1) j v hv
     ·exact qo0 _ _ _ _ _ _ _ _ (fun j=>(hff1 _ j ha0).trans (hf1 j))
     ·exact qo0 _ _ _ _ _ _ _ _ (fun j=>(hff1 _ j ha1).trans (hf2 j))
     ·exact qlc _ _ _ _ _ _ _ _ hbw1 (zl _)
     ·rw[qoq];omega
    case measure=>simp[intOf];omega
   ·have hu':s'=qae W s:=by
     rw[← hu];obtain⟨m,hm⟩:∃ m,W.length+1 - k=m+1:=⟨W.length - k,by omega⟩;rw[hm];simp[qb9,hkd]
    have hkd':(s'.of.kind != 1)=true:=by simpa using hkd
    have Hu:=hid hu';clear hu' hu
    go_wp2_with fail
    refine bodyPost_ret (v := .agg #[.int .i64 s'.of.kind,.int .i64 s'.of.num,.slice y1 s'.of.elem.length e1,.slice y2 s'.of.fields.length e2,.slice y3 s'.of.methods.length e3,.slice y4 s'.of.embeds.length e4,.int .i64 s'.at_,.int .i64 s'.pkg]) (by simp[results,Tryz.results54,go_sem,r0,r1,r2,r3,r4,r5,r6,r7]) rfl ⟨[.int .i64 s'.of.kind,.int .i64 s'.of.num,.slice y1 s'.of.elem.length e1,.slice y2 s'.of.fields.length e2,.slice y3 s'.of.methods.length e3,.slice y4 s'.of.embeds.length e4],?_,?_,?_⟩
    ·rw[← Hu.out];simp
    ·rw[← Hu.out];exact htt
    ·exact bel
  ·obtain rfl:k=W.length+1:=by omega
   have hu':s'=qae W s:=by rw[← hu,Nat.sub_self];rfl
   have Hu:=hid hu';clear hu' hu hlt
   go_wp2_with fail
   refine bodyPost_ret (v := .agg #[.int .i64 s'.of.kind,.int .i64 s'.of.num,.slice y1 s'.of.elem.length e1,.slice y2 s'.of.fields.length e2,.slice y3 s'.of.methods.length e3,.slice y4 s'.of.embeds.length e4,.int .i64 s'.at_,.int .i64 s'.pkg]) (by simp[results,Tryz.results54,go_sem,r0,r1,r2,r3,r4,r5,r6,r7]) rfl ⟨[.int .i64 s'.of.kind,.int .i64 s'.of.num,.slice y1 s'.of.elem.length e1,.slice y2 s'.of.fields.length e2,.slice y3 s'.of.methods.length e3,.slice y4 s'.of.embeds.length e4],?_,?_,?_⟩
   ·rw[← Hu.out];simp
   ·rw[← Hu.out];exact htt
   ·exact bel
def qqp (n:Nat) (f:Fd):Prop:=f.embedded=true→if f.of.kind=2 then 0<f.of.elem.length∧0≤f.of.el0.num∧f.of.el0.num<n else 0≤f.of.num∧f.of.num<n
theorem qdc (W:Wd) (a:Option Addr) (c:Nat) (f:Fd) (cs:List Value) (w0 w:World) (k0:qac w0 w) (hW:WOk w0 W a c) (hf:TyC w0 f.of cs) (hn:qqp W.length f) (hi:i64 f.name):
  Calls Tryz.prog 56 #[.slice a W.length c,.agg (.int .i64 f.name :: .bool f.embedded::cs).toArray] w (qa2 (.int .i64 (fname W f)) w):=by
 have hcap:=hW.cap;obtain⟨x1,d1,x2,d2,x3,d3,x4,d4,rfl,⟨hc1,-⟩,-,-,h1,-⟩:=hf.full;have HW:=hid hW;clear hW hf;cases he:f.embedded with
 | false=>
  have hv:fname W f=f.name:=by simp[fname,he]
  rw[hv];clear hv hn;go_enter Tryz.func56,Tryz.ntmps56
  go_wp2_with fail
  go_ret
  exact⟨rfl,bel⟩
 | true=>
  have hn:=hn he;by_cases hk:f.of.kind=2
  ·rw[if_pos hk] at hn;obtain⟨hn0,hn1,hn2⟩:=hn;obtain⟨b,o,cs,rfl,hcc,ht1⟩:=TysR.get h1 0 hn0;obtain⟨y1,g1,y2,g2,y3,g3,y4,g4,rfl,-⟩:=ht1.full;obtain⟨e0,e1,e2,e3,e4,e5⟩:=six (hcc.keep k0);simp only[Nat.zero_add,Nat.zero_mul,Nat.add_zero] at e0 e1 e2 e3 e4 e5;have hel:f.of.el0=f.of.elem[0]:=by unfold Ty.el0;simp[hn0]
   rw[hel] at hn1 hn2;have hkd:(f.of.kind==2)=true:=by simp[hk]
   have hnl:f.of.elem[0].num.toNat<W.length:=by omega
   obtain⟨b2,o2,p1,g1,p2,g2,p3,g3,p4,g4,p5,g5,rfl,-,-,-,-,-,hdd⟩:=HW.out.row.get f.of.elem[0].num.toNat hnl;obtain⟨D0,-⟩:=ten (hdd.keep k0);have hv:fname W f=W[f.of.elem[0].num.toNat].name:=by simp[fname,he,hk,hel,qcg hnl]
   have Hv:=hid hv;have hnn:f.of.elem[0].num=(f.of.elem[0].num.toNat:Int):=by omega
   generalize f.of.elem[0].num.toNat=nn at *
   clear hv hcc hdd ht1 h1 hel hk he;rw[Hv.out];have hb0:=zj w _ e0;have hb2:=zj w _ D0;simp only at hb0 hb2;have hb3:b2<w.heap.size+1:=by omega
   go_enter Tryz.func56,Tryz.ntmps56
   go_wp2_with fail
   go_ret
   exact⟨rfl,bel⟩
  ·rw[if_neg hk] at hn;obtain⟨hn1,hn2⟩:=hn;have hkd:(f.of.kind==2)=false:=by simp[hk]
   have hnl:f.of.num.toNat<W.length:=by omega
   obtain⟨b2,o2,p1,g1,p2,g2,p3,g3,p4,g4,p5,g5,rfl,-,-,-,-,-,hdd⟩:=HW.out.row.get f.of.num.toNat hnl;obtain⟨D0,-⟩:=ten (hdd.keep k0);have hv:fname W f=W[f.of.num.toNat].name:=by simp[fname,he,hk,qcg hnl]
   have Hv:=hid hv;have hnn:f.of.num=(f.of.num.toNat:Int):=by omega
   generalize f.of.num.toNat=nn at *
   clear hv hdd h1 hk he;rw[Hv.out];have hb2:=zj w _ D0;simp only at hb2;have hb3:b2<w.heap.size+1:=by omega
   go_enter Tryz.func56,Tryz.ntmps56
   go_wp2_with fail
   go_ret
   exact⟨rfl,bel⟩
def qrz (w0:World) (s:Spot) (n:Nat) (w:World) (e:Ending) (w':World):Prop:=
 ∃ cs,e = .returned (.tuple #[.agg (cs++[.int .i64 s.at_,.int .i64 s.pkg]).toArray,.int .i64 n])∧TyC w0 s.of cs∧Below w.heap.size w w'
theorem qte (s:Spot) (v:Value) (i:Nat) (w0 w:World) (k0:qac w0 w) (hs:qb6 w0 s v) (hi:i<s.of.fields.length) (hb:s.of.bulk≤1048576) (hat:s.at_≤4194304):
  Calls Tryz.prog 55 #[v,.int .i64 i] w (qrz w0 (qao s i) (s.at_+qar (s.of.fields.take i)) w):=by
 obtain⟨x1,d1,x2,d2,x3,d3,x4,d4,rfl,⟨-,hcp,-⟩,-,-,-,h4,-,-,ht⟩:=hs.full;have hbk:qcm s.of.fields≤s.of.bulk:=by cases s.of;simp only[Ty.bulk,Ty.fields];omega
 have hl3:=qbv s.of.fields;have hs3:=qh6 s.of.fields;have hsi:=qbj s.of.fields i;clear ht hs;obtain⟨O,hO⟩:∃ O,O=(Obj.cells #[.int .i64 s.of.kind,.int .i64 s.of.num,.slice x1 s.of.elem.length d1,.slice x2 s.of.fields.length d2,.slice x3 s.of.methods.length d3,.slice x4 s.of.embeds.length d4,.int .i64 s.at_,.int .i64 s.pkg] 90):=⟨_,rfl⟩;obtain⟨O2,hO2⟩:∃ O2,O2=(Obj.cells #[.int .i64 0,.int .i64 0,.slice none 0 0,.slice none 0 0,.slice none 0 0,.slice none 0 0,.int .i64 0,.int .i64 0] 90):=⟨_,rfl⟩;have f1:((w.alloc O).alloc O2).heap[w.heap.size]?=some (.cells [.int .i64 s.of.kind,.int .i64 s.of.num,.slice x1 s.of.elem.length d1,.slice x2 s.of.fields.length d2,.slice x3 s.of.methods.length d3,.slice x4 s.of.embeds.length d4,.int .i64 s.at_,.int .i64 s.pkg].toArray 90):=by rw[← hO];exact qtb (qa8 _ _)
 have f2:((w.alloc O).alloc O2).heap[w.heap.size+1]?=some (.cells [.int .i64 0,.int .i64 0,.slice none 0 0,.slice none 0 0,.slice none 0 0,.slice none 0 0,.int .i64 0,.int .i64 0].toArray 90):=by rw[← hO2];have:=qa8 (w.alloc O) O2;simpa using this
 have F1:=hid f1;have F2:=hid f2;clear f1 f2;go_enter Tryz.func55,Tryz.ntmps55
 go_wp2_with fail
 rw[← hO,← hO2];clear hO hO2;have kw:qac w ((w.alloc O).alloc O2):=(qac.alloc _ _).trans (qac.alloc _ _);have hw2:((w.alloc O).alloc O2).heap.size=w.heap.size+1+1:=by simp
 have hbw2:Below w.heap.size w ((w.alloc O).alloc O2):=bel
 generalize (w.alloc O).alloc O2=w2 at *
 have Hw0:=hid hw2;clear hw2
 go_loopw [6,17] (fun v j wr=>∃ k:Nat,k≤i∧j = .int .i64 k∧v = .int .i64 (s.at_+qar (s.of.fields.take k))∧Below (w.heap.size+2) w2 wr)
  (fun _ j _=>i - (intOf j).toNat)
 case atStart=>exact⟨0,by omega,rfl,by simp[qar],zp _ _⟩
 case round=>
  obtain⟨k,hk,rfl,rfl,hbel⟩:=hrel;have hK:qac w0 wr:=(k0.trans kw).trans (qac.belowGe hbel (by have:=Hw0.out;omega));have hz:=zq hbel;(try simp only[zd,qaa] at hz);have hts:=qbj s.of.fields k;by_cases hlt:k<i
  ·obtain⟨b,o,cs,rfl,hn1,hc,htt⟩:=FdsR.get h4 k (by omega);have htt:=htt.keep hK;obtain⟨y1,g1,y2,g2,y3,g3,y4,g4,rfl,-⟩:=htt.open;obtain⟨e0,e1,e2,e3,e4,e5,e6,e7⟩:=qhx (hc.keep hK);simp only[Nat.zero_add] at e0 e1 e2 e3 e4 e5 e6 e7;have htk:=qdi s.of.fields k (by omega);have hbk:=qbx s.of.fields k (by omega);have hsk:=qbj s.of.fields (k+1);have hle:qar (s.of.fields.take k)+(1+s.of.fields[k].of.size)≤qcm s.of.fields:=by omega
   have Htk:=hid htk;clear htk;have Htt:=hid htt;clear htt;clear h4 hc hK
   go_wp2_with (go_at_call 28;refine(qmq _ _ _ (by omega) (Htt.out.keep (qac.alloc _ _))).mono ?_;rintro e w1 ⟨rfl,hb1⟩)
   have hz1:=zq hb1;(try simp only[zd,qaa] at hz1);have hz0:w.heap.size+2≤wr.heap.size:=by have:=Hw0.out;omega
   go_roundw
   case rel=>exact⟨k+1,by omega,by go_num,by rw[Htk.out];go_num,bel⟩
   case measure=>simp[intOf];omega
  ·obtain rfl:k=i:=by omega
   obtain⟨b,o,cs,rfl,hn1,hc,htt⟩:=FdsR.get h4 k hi;have hbb:b<w.heap.size:=by
    obtain⟨_,_,_,_,_,_,_,_,rfl,-⟩:=htt.open;exact zj w ⟨b,_,none⟩ ((hc.keep k0) 0 _ rfl)
   have hbw:b<wr.heap.size:=by have:=Hw0.out;omega
   have ha0:w.heap.size<wr.heap.size:=by have:=Hw0.out;omega
   have ha1:w.heap.size+1<wr.heap.size:=by have:=Hw0.out;omega
   have htt0:=htt;obtain⟨y1,g1,y2,g2,y3,g3,y4,g4,rfl,-⟩:=htt.open;obtain⟨e0,e1,e2,e3,e4,e5,e6,e7⟩:=qhx (hc.keep hK);simp only[Nat.zero_add] at e0 e1 e2 e3 e4 e5 e6 e7;obtain⟨q0,q1,q2,q3,q4,q5,q6,q7⟩:=qgv (qa9 hbel (by omega) F1.out);obtain⟨r0,r1,r2,r3,r4,r5,r6,r7⟩:=qgv (qa9 hbel (by omega) F2.out);have rf:=qfp hbel (by omega) F2.out;simp only[Nat.zero_add] at r0 r1 r2 r3 r4 r5 r6 r7 q0 q1 q2 q3 q4 q5 q6 q7;have Htt:=hid htt0;clear htt htt0 h4 hc hK hlt
   go_wp2_with fail
   refine Mix.wp_regionF [12] [0,1,2,3,4,5,6,7,8,9,10,11,12] [] [13,14] (fun _=>default) (by kernel_rfl) (by kernel_rfl) (by decide) ?hq ?_
   case hq=>intro _ c a a' W hd h;simp only[Exit.then,bodyPost] at h ⊢;rw[← hd];exact h
   iterate 13 (first|(refine pre_yes rfl rfl ?_;apply Exists.intro;refine⟨fun W1 hW1 => ?_,?_⟩;(focus (have hc1:=(qal hW1).1;(try simp only[zd,qaa] at hc1);have hk1:=qac.below hW1;go_simp;first|exact rfl|fail));simp only[Act.put,zk,zh,zi,ze,zm,zn])|(refine pre_no rfl rfl ?_;simp only[Act.put,zk,zh,zi,ze,zm,zn]))
   refine qvg fl_nil ?_ (fun W2 hW2=>mid_nil (qnw rfl rfl ?_))
   ·refine free_op (d:=40) (v := .int .i64 ((s.at_:Int)+(qar (s.of.fields.take k):Int))) rfl rfl rfl (by simp) (fun W => ?_);go_simp
   have hz2:=zq hW2;(try simp only[zd,qaa] at hz2);have hc2:=(qal hW2).1;(try simp only[zd,qaa] at hc2);have hf2:=(qal hW2).2;(try simp only[zd,qaa] at hf2)
   go_wp2_with fail
   have hel:s.of.fields.getD k fd0=s.of.fields[k]:=by simp[hi]
   refine bodyPost_ret (v := .tuple #[.agg #[.int .i64 s.of.fields[k].of.kind,.int .i64 s.of.fields[k].of.num,.slice y1 s.of.fields[k].of.elem.length g1,.slice y2 s.of.fields[k].of.fields.length g2,.slice y3 s.of.fields[k].of.methods.length g3,.slice y4 s.of.fields[k].of.embeds.length g4,.int .i64 (s.at_+qar (s.of.fields.take k)+1),.int .i64 s.pkg],.int .i64 (s.at_+qar (s.of.fields.take k))]) (by simp[results,Tryz.results55,go_sem,hc2,ha1,r0,r1,r2,r3,r4,r5,r6,r7]) rfl ⟨[.int .i64 s.of.fields[k].of.kind,.int .i64 s.of.fields[k].of.num,.slice y1 s.of.fields[k].of.elem.length g1,.slice y2 s.of.fields[k].of.fields.length g2,.slice y3 s.of.fields[k].of.methods.length g3,.slice y4 s.of.fields[k].of.embeds.length g4],?_,?_,?_⟩
   ·simp[qao]
   ·simp only[qao,hel];exact Htt.out
   ·exact bel
