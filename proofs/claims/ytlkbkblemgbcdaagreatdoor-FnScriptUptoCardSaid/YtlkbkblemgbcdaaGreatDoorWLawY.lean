import Derived.Test.YtlkbkblemgbcdaaGreatDoorWLawX
set_option linter.all false
set_option maxHeartbeats 8000000
namespace Go.Proofs.YtlkbkblemgbcdaaGreatDoor
open Go Go.RowKit
set_option maxRecDepth 100000
theorem script_walk (W:Wd) (a:Option Addr) (c:Nat) (w:World) (t:Ty) (hbk:qbw W≤1048576) (hT:Tabs w) (htb:t.bulk≤1048576) {x1 x2 x3 x4:Option Addr} {d1 d2 d3 d4:Nat} (l:List Ak) (ka:Option Addr) (kc:Nat) (hk:AkR w ka l) (hl:l.length≤1048576)
  (hF:∀ p n w',Below w.heap.size w w'→Calls Tryz.prog 11 #[.slice a W.length c,.agg #[.int .i64 t.kind,.int .i64 t.num,.slice x1 t.elem.length d1,.slice x2 t.fields.length d2,.slice x3 t.methods.length d3,.slice x4 t.embeds.length d4],.int .i64 p,.int .i64 n] w' (qb8 (Asked W t p n) w'))
  (hL:∀ (k:Ak) w',Below w.heap.size w w'→Asked W t k.pkg k.name→Calls Tryz.prog 12 #[.slice a W.length c,.agg #[.int .i64 t.kind,.int .i64 t.num,.slice x1 t.elem.length d1,.slice x2 t.fields.length d2,.slice x3 t.methods.length d3,.slice x4 t.embeds.length d4],.bool k.ad,.int .i64 k.pkg,.int .i64 k.name] w' (qdq (akR W t k) w'))
  (hLs:∀ w',Below w.heap.size w w'→l≠[]→(∀ k∈l,Asked W t k.pkg k.name)→Calls Tryz.prog 21 #[.slice a W.length c,.agg #[.int .i64 t.kind,.int .i64 t.num,.slice x1 t.elem.length d1,.slice x2 t.fields.length d2,.slice x3 t.methods.length d3,.slice x4 t.embeds.length d4],.slice ka l.length kc] w' (LsPost (l.map (akR W t)) w'))
  (hlen:∀ k:Ak,(akR W t k).ix.length≤4294967296):
  Calls Tryz.prog 6 #[.slice a W.length c,.agg #[.int .i64 t.kind,.int .i64 t.num,.slice x1 t.elem.length d1,.slice x2 t.fields.length d2,.slice x3 t.methods.length d3,.slice x4 t.embeds.length d4],.slice ka l.length kc] w (qa2 (.bool true) w):=by
 have hlw:=qbk W;have HF:=hid hF;have HL:=hid hL;have HLs:=hid hLs;have Hlen:=hid hlen;have HAk:=hid hk;have HWk:=hid fun w' (h:Below w.heap.size w w')=>qtr w' (hT.below h);have HZ:=hid fun w'=>qps t w' (x1:=x1) (x2:=x2) (x3:=x3) (x4:=x4) (d1:=d1) (d2:=d2) (d3:=d3) (d4:=d4) htb;have hlen1:(W.length:Int)≤2147483647:=by omega
 have HB0:Hid (∀ O:Obj,Below w.heap.size w (w.alloc O)):=hid fun O=>(zp _ _).alloc (zl _) O;obtain⟨n,hn⟩:∃ n,n=l.length:=⟨_,rfl⟩;have Hn:=hid hn;have hlen2:(n:Int)≤2147483647:=by omega
 have hmp:(l.map (akR W t)).length=n:=by rw[List.length_map,hn]
 rw[← hn] at HLs ⊢;clear hT htb hbk hlw hF hL hLs hlen hk hl hn;go_enter Tryz.func6,Tryz.ntmps6
 go_wp2_with (go_at_call 10;refine(HZ.out _).mono ?_;rintro e w1 ⟨rfl,hb1⟩;have HX1:=hid hb1;have HB1:=hid ((HB0.out _).trans (hb1.mono (HB0.out _).size));clear hb1)
 go_loopw [27] (fun jv wr=>∃ k:Nat,k≤n∧jv = .int .i64 k∧Hid (Below w1.heap.size w1 wr∧∀ j (hj:j<l.length),j<k→Asked W t l[j].pkg l[j].name)) (fun jv _=>n - (intOf jv).toNat)
 case atStart=>exact⟨0,Nat.zero_le _,rfl,hid ⟨zp _ _,fun j _ hj=>absurd hj (Nat.not_lt_zero _)⟩⟩
 case round=>
  obtain⟨k,hk,rfl,HBr⟩:=hrel;have HBw:=hid (HB1.out.trans (HBr.out.1.mono HB1.out.size));have HXw:=hid (HX1.out.trans (HBr.out.1.mono HX1.out.size));by_cases hlt:k<n
  ·have hlt':(k:Int)<(n:Int):=by omega
   have hkl:k<l.length:=by have:=Hn.out;omega
   refine((HAk.out.keep (qac.below HBw.out)) k hkl).elim fun bb r=>r.elim fun oo r => ?_;have ea:=r.1;have hcc:=r.2;clear r;subst ea;obtain⟨A,hA⟩:∃ A,A=l[k]:=⟨_,rfl⟩;have HAl:=hid hA;rw[← hA] at hcc;clear hA;obtain⟨ad,q,m⟩:=A;have t0:=hcc 0 _ rfl;have t1:=hcc 1 _ rfl;have t2:=hcc 2 _ rfl;simp only[Nat.add_zero] at t0;clear hcc;have q0:=(box6 HXw.out).1;have q1:=(box6 HXw.out).2.1;have q2:=(box6 HXw.out).2.2.1;have q3:=(box6 HXw.out).2.2.2.1;have q4:=(box6 HXw.out).2.2.2.2.1;have q5:=(box6 HXw.out).2.2.2.2.2;have hself:w.heap.size<wr.heap.size:=by have:=HXw.out.size;simp only[zd] at this;omega
   go_wp2_with (go_at_call 11;refine(HF.out _ _ _ (HBw.out.alloc HBw.out.size _)).mono ?_;rintro e w3 ⟨b,rfl,hA,hb3⟩;have HA:=hid hA;have H3:=hid hb3;clear hb3 hA;cases b)
   ·go_ret
    exact⟨rfl,(HBw.out.alloc HBw.out.size _).trans (H3.out.mono (HBw.out.alloc HBw.out.size _).size)⟩
   ·go_roundw
    case rel=>
     refine⟨k+1,hlt,by go_num,hid ⟨(HBr.out.1.alloc HBr.out.1.size _).trans (H3.out.mono (HBr.out.1.alloc HBr.out.1.size _).size),fun j hj hjk => ?_⟩⟩;by_cases h:j<k
     ·exact HBr.out.2 j hj h
     ·obtain rfl:j=k:=by omega
      rw[← HAl.out];exact HA.out (by simp)
    case measure=>simp[intOf];omega
  ·obtain rfl:k=n:=by omega
   have HAll:Hid (∀ k∈l,Asked W t k.pkg k.name):=hid fun x hx=>by
    obtain⟨j,hj,rfl⟩:=List.getElem_of_mem hx;exact HBr.out.2 j hj (by have:=Hn.out;omega)
   by_cases hk0:k=0
   ·subst hk0
    go_wp2_with (go_at_call 13;refine(HWk.out _ HBw.out).mono ?_;rintro e w9 ⟨rfl,hb9⟩;have HB9:=hid (HBw.out.trans (hb9.mono HBw.out.size));clear hb9)
    go_ret
    exact⟨rfl,HB9.out⟩
   ·have hk1:((k:Int)==0)=false:=by
     rw[beq_eq_false_iff_ne];omega
    have q0:=(box6 HXw.out).1;have q1:=(box6 HXw.out).2.1;have q2:=(box6 HXw.out).2.2.1;have q3:=(box6 HXw.out).2.2.2.1;have q4:=(box6 HXw.out).2.2.2.2.1;have q5:=(box6 HXw.out).2.2.2.2.2;have HQ:=hid (HLs.out _ HBw.out (fun e=>hk0 (by have h:=Hn.out;rw[e] at h;exact h)) HAll.out);obtain⟨rs,hrs⟩:∃ rs,rs=l.map (akR W t):=⟨_,rfl⟩;rw[← hrs] at HQ hmp;have Hrs:=hid hrs;have Hmp:=hid hmp;clear hrs hmp
    go_wp2_with (go_at_call 21;refine HQ.out.mono ?_;rintro e w4 ⟨x,xs,rfl,H4⟩;rw[Hmp.out] at H4 ⊢)
    have HBw4:=hid (HBw.out.trans (H4.out.2.2.mono HBw.out.size));have HXw4:=hid (HXw.out.trans (H4.out.2.2.mono HXw.out.size));clear HBw HXw HBr HX1 q0 q1 q2 q3 q4 q5 HQ
    go_loopw [55] (fun jv wr=>∃ k2:Nat,k2≤k∧jv = .int .i64 k2∧Hid (Below w4.heap.size w4 wr)) (fun jv _=>k - (intOf jv).toNat)
    case atStart=>exact⟨0,Nat.zero_le _,rfl,hid (zp _ _)⟩
    case round=>
     obtain⟨k2,hk2,rfl,HBr2⟩:=hrel;have HBw:=hid (HBw4.out.trans (HBr2.out.mono HBw4.out.size));have HXw:=hid (HXw4.out.trans (HBr2.out.mono HXw4.out.size));by_cases hlt:k2<k
     ·have hlt':(k2:Int)<(k:Int):=by omega
      have hkl:k2<l.length:=by have:=Hn.out;omega
      refine((HAk.out.keep (qac.below HBw.out)) k2 hkl).elim fun bb r=>r.elim fun oo r => ?_;have ea:=r.1;have hcc:=r.2;clear r;subst ea;obtain⟨A,hA⟩:∃ A,A=l[k2]:=⟨_,rfl⟩;have HAl:=hid hA;rw[← hA] at hcc;clear hA;obtain⟨ad,q,m⟩:=A;have t0:=hcc 0 _ rfl;have t1:=hcc 1 _ rfl;have t2:=hcc 2 _ rfl;simp only[Nat.add_zero] at t0;clear hcc;have q0:=(box6 HXw.out).1;have q1:=(box6 HXw.out).2.1;have q2:=(box6 HXw.out).2.2.1;have q3:=(box6 HXw.out).2.2.2.1;have q4:=(box6 HXw.out).2.2.2.2.1;have q5:=(box6 HXw.out).2.2.2.2.2;have hself:w.heap.size<wr.heap.size:=by have:=HXw.out.size;simp only[zd] at this;omega
      refine(H4.out.2.1.get k2 (by rw[Hmp.out];exact hlt)).elim fun y hy => ?_;have er:rs[k2]'(by rw[Hmp.out];exact hlt)=akR W t ⟨ad,q,m⟩:=by
       have h:∀ (h:k2<rs.length),rs[k2]=akR W t l[k2]:=by rw[Hrs.out];intro h;exact List.getElem_map _
       rw[h,HAl.out]
      rw[er] at hy;clear er;obtain⟨r,hr⟩:∃ r,r=akR W t ⟨ad,q,m⟩:=⟨_,rfl⟩;rw[← hr] at hy;have HLk:=hid (fun w' h=>HL.out ⟨ad,q,m⟩ w' h (by have h2:=HAll.out l[k2] (z8 _);rw[← HAl.out] at h2;exact h2));have Hlr:Hid (r.ix.length≤4294967296):=hid (by rw[hr];exact Hlen.out _);rw[← hr] at HLk;clear hr;refine(ownsRow_cell H4.out.1 (by omega)).elim fun g hg => ?_;have eg:=hg.1;have s0:=qac.below HBr2.out _ _ (hg.2 _ _ (hy.1 0 _ rfl));have s1:=qac.below HBr2.out _ _ (hg.2 _ _ (hy.1 1 _ rfl));have s2:=qac.below HBr2.out _ _ (hg.2 _ _ (hy.1 2 _ rfl));have s3:=qac.below HBr2.out _ _ (hg.2 _ _ (hy.1 3 _ rfl));simp only[Nat.add_zero] at s0;have lg:=zj wr _ s0;simp only at lg;have Hy2:=hid hy.2;clear hy hg;rw[eg]
      go_wp2_with fail
      refine wpI_region (fun W=>Below wr.heap.size wr W∧Blk W wr.heap.size 51 [.bool ad,.int .i64 q,.int .i64 m]) (by kernel_rfl) ?_;have HID:Hid (Below wr.heap.size wr (wr.alloc (.cells #[.bool ad,.int .i64 q,.int .i64 m] 51)).drew∧Blk (wr.alloc (.cells #[.bool ad,.int .i64 q,.int .i64 m] 51)).drew wr.heap.size 51 [.bool ad,.int .i64 q,.int .i64 m]):=
       hid ⟨((zp _ _).alloc (zl _) _).drew,(Blk.new wr 51 [.bool ad,.int .i64 q,.int .i64 m]).drew⟩
      generalize (wr.alloc (.cells #[.bool ad,.int .i64 q,.int .i64 m] 51)).drew=wD at HID ⊢
      clear t0 t1 t2;refine' wpI_take (i:=0) (v:=_) rfl (by kernel_rfl) (by kernel_rfl) (by kernel_rfl) (fun _ _ _ h=>h) (Or.inl ⟨by rfl,_⟩) _
      rotate_left
      ·(intro wq hq;have hcq:=(qal hq.1).1;(try simp only[zd,qaa] at hcq);have hkq:=qac.below hq.1;have a0:=hq.2.cell 0;have a1:=hq.2.cell 1;have a2:=hq.2.cell 2;(simp only[zu,zt] at a0 a1 a2);go_simp;first|done|with_reducible rfl)
      (try simp only[Act.put,zk,zh,zi,ze,zm,zn])
      refine' wpI_take (i:=1) (v:=_) rfl (by kernel_rfl) (by kernel_rfl) (by kernel_rfl) (fun _ _ _ h=>h) (Or.inl ⟨by rfl,_⟩) _
      rotate_left
      ·(intro wq hq;have hcq:=(qal hq.1).1;(try simp only[zd,qaa] at hcq);have hkq:=qac.below hq.1;have a0:=hq.2.cell 0;have a1:=hq.2.cell 1;have a2:=hq.2.cell 2;(simp only[zu,zt] at a0 a1 a2);go_simp;first|done|with_reducible rfl)
      (try simp only[Act.put,zk,zh,zi,ze,zm,zn])
      refine' wpI_take (i:=2) (v:=_) rfl (by kernel_rfl) (by kernel_rfl) (by kernel_rfl) (fun _ _ _ h=>h) (Or.inl ⟨by rfl,_⟩) _
      rotate_left
      ·(intro wq hq;have hcq:=(qal hq.1).1;(try simp only[zd,qaa] at hcq);have hkq:=qac.below hq.1;have a0:=hq.2.cell 0;have a1:=hq.2.cell 1;have a2:=hq.2.cell 2;(simp only[zu,zt] at a0 a1 a2);go_simp;first|done|with_reducible rfl)
      (try simp only[Act.put,zk,zh,zi,ze,zm,zn])
      refine' wpI_take (i:=3) (v:=_) rfl (by kernel_rfl) (by kernel_rfl) (by kernel_rfl) (fun _ _ _ h=>h) (Or.inl ⟨by rfl,_⟩) _
      rotate_left
      ·(intro wq hq;have hcq:=(qal hq.1).1;(try simp only[zd,qaa] at hcq);have hkq:=qac.below hq.1;have a0:=hq.2.cell 0;have a1:=hq.2.cell 1;have a2:=hq.2.cell 2;(simp only[zu,zt] at a0 a1 a2);go_simp;first|done|with_reducible rfl)
      (try simp only[Act.put,zk,zh,zi,ze,zm,zn])
      refine' wpI_take (i:=4) (v:=_) rfl (by kernel_rfl) (by kernel_rfl) (by kernel_rfl) (fun _ _ _ h=>h) (Or.inl ⟨by rfl,_⟩) _
      rotate_left
      ·(intro wq hq;have hcq:=(qal hq.1).1;(try simp only[zd,qaa] at hcq);have hkq:=qac.below hq.1;have a0:=hq.2.cell 0;have a1:=hq.2.cell 1;have a2:=hq.2.cell 2;(simp only[zu,zt] at a0 a1 a2);go_simp;first|done|with_reducible rfl)
      (try simp only[Act.put,zk,zh,zi,ze,zm,zn])
      refine' wpI_take (i:=5) (v:=_) rfl (by kernel_rfl) (by kernel_rfl) (by kernel_rfl) (fun _ _ _ h=>h) (Or.inl ⟨by rfl,_⟩) _
      rotate_left
      ·(intro wq hq;have hcq:=(qal hq.1).1;(try simp only[zd,qaa] at hcq);have hkq:=qac.below hq.1;have a0:=hq.2.cell 0;have a1:=hq.2.cell 1;have a2:=hq.2.cell 2;(simp only[zu,zt] at a0 a1 a2);go_simp;first|done|with_reducible rfl)
      (try simp only[Act.put,zk,zh,zi,ze,zm,zn])
      refine' wpI_take (i:=6) (v:=_) rfl (by kernel_rfl) (by kernel_rfl) (by kernel_rfl) (fun _ _ _ h=>h) (Or.inl ⟨by rfl,_⟩) _
      rotate_left
      ·(intro wq hq;have hcq:=(qal hq.1).1;(try simp only[zd,qaa] at hcq);have hkq:=qac.below hq.1;have a0:=hq.2.cell 0;have a1:=hq.2.cell 1;have a2:=hq.2.cell 2;(simp only[zu,zt] at a0 a1 a2);go_simp;first|done|with_reducible rfl)
      (try simp only[Act.put,zk,zh,zi,ze,zm,zn])
      refine' wpI_take (i:=7) (v:=_) rfl (by kernel_rfl) (by kernel_rfl) (by kernel_rfl) (fun _ _ _ h=>h) (Or.inl ⟨by rfl,_⟩) _
      rotate_left
      ·(intro wq hq;have hcq:=(qal hq.1).1;(try simp only[zd,qaa] at hcq);have hkq:=qac.below hq.1;have a0:=hq.2.cell 0;have a1:=hq.2.cell 1;have a2:=hq.2.cell 2;(simp only[zu,zt] at a0 a1 a2);go_simp;first|done|with_reducible rfl)
      (try simp only[Act.put,zk,zh,zi,ze,zm,zn])
      refine' wpI_take (i:=8) (v:=_) rfl (by kernel_rfl) (by kernel_rfl) (by kernel_rfl) (fun _ _ _ h=>h) (Or.inl ⟨by rfl,_⟩) _
      rotate_left
      ·(intro wq hq;have hcq:=(qal hq.1).1;(try simp only[zd,qaa] at hcq);have hkq:=qac.below hq.1;have a0:=hq.2.cell 0;have a1:=hq.2.cell 1;have a2:=hq.2.cell 2;(simp only[zu,zt] at a0 a1 a2);go_simp;first|done|with_reducible rfl)
      (try simp only[Act.put,zk,zh,zi,ze,zm,zn])
      refine' wpI_take (i:=9) (v:=_) rfl (by kernel_rfl) (by kernel_rfl) (by kernel_rfl) (fun _ _ _ h=>h) (Or.inl ⟨by rfl,_⟩) _
      rotate_left
      ·(intro wq hq;have hcq:=(qal hq.1).1;(try simp only[zd,qaa] at hcq);have hkq:=qac.below hq.1;have a0:=hq.2.cell 0;have a1:=hq.2.cell 1;have a2:=hq.2.cell 2;(simp only[zu,zt] at a0 a1 a2);go_simp;first|done|with_reducible rfl)
      (try simp only[Act.put,zk,zh,zi,ze,zm,zn])
      refine' wpI_take (i:=10) (v:=_) rfl (by kernel_rfl) (by kernel_rfl) (by kernel_rfl) (fun _ _ _ h=>h) (Or.inl ⟨by rfl,_⟩) _
      rotate_left
      ·(intro wq hq;have hcq:=(qal hq.1).1;(try simp only[zd,qaa] at hcq);have hkq:=qac.below hq.1;have a0:=hq.2.cell 0;have a1:=hq.2.cell 1;have a2:=hq.2.cell 2;(simp only[zu,zt] at a0 a1 a2);go_simp;first|done|with_reducible rfl)
      (try simp only[Act.put,zk,zh,zi,ze,zm,zn])
      refine' wpI_take (i:=11) (v:=_) rfl (by kernel_rfl) (by kernel_rfl) (by kernel_rfl) (fun _ _ _ h=>h) (Or.inl ⟨by rfl,_⟩) _
      rotate_left
      ·(intro wq hq;have hcq:=(qal hq.1).1;(try simp only[zd,qaa] at hcq);have hkq:=qac.below hq.1;have a0:=hq.2.cell 0;have a1:=hq.2.cell 1;have a2:=hq.2.cell 2;(simp only[zu,zt] at a0 a1 a2);go_simp;first|done|with_reducible rfl)
      (try simp only[Act.put,zk,zh,zi,ze,zm,zn])
      refine wpI_one (i:=12) (by kernel_rfl) rfl HID.out (by rfl) (fun K hK => ?_);go_simp
      go_at_call 12
      refine(HLk.out _ (HBw.out.trans (HID.out.1.mono HBw.out.size))).mono ?_;rintro e w5 ⟨x5,rfl,H5⟩;have HI5:Hid (Below wr.heap.size wr w5∧Blk w5 wr.heap.size 51 [.bool ad,.int .i64 q,.int .i64 m]):=hid ⟨HID.out.1.trans (H5.out.2.mono HID.out.1.size),HID.out.2.keep H5.out.2⟩;refine hK _ _ ?_;clear hK K
      (try simp only[Act.put,zk,zh,zi,ze,zm,zn])
      (try simp only[qdz])
      have HRy:=hid (qab (S:=fun _=>False) Hy2.out (qag.keep (HBr2.out.trans (HI5.out.1.mono HBr2.out.size))) fun _ _ h=>h);refine wpI_one (i:=13) (by kernel_rfl) rfl HI5.out (by rfl) (fun K hK => ?_);go_simp
      go_at_call 14
      refine(same_yes (obI r) (obM r) r.ind r.ix Hlr.out y.1 x5.1 y.2 x5.2 w5 HRy.out H5.out.1).mono ?_;rintro e w6 ⟨rfl,hb6⟩;have HI6:Hid (Below wr.heap.size wr w6∧Blk w6 wr.heap.size 51 [.bool ad,.int .i64 q,.int .i64 m]):=hid ⟨HI5.out.1.trans (hb6.mono HI5.out.1.size),HI5.out.2.keep hb6⟩;clear hb6;refine hK _ _ ?_;clear hK K
      (try simp only[Act.put,zk,zh,zi,ze,zm,zn])
      refine' wpI_take (i:=14) (v:=_) rfl (by kernel_rfl) (by kernel_rfl) (by kernel_rfl) (fun _ _ _ h=>h) (Or.inl ⟨by rfl,_⟩) _
      rotate_left
      ·(intro wq hq;have hcq:=(qal hq.1).1;(try simp only[zd,qaa] at hcq);have hkq:=qac.below hq.1;have a0:=hq.2.cell 0;have a1:=hq.2.cell 1;have a2:=hq.2.cell 2;(simp only[zu,zt] at a0 a1 a2);go_simp;first|done|with_reducible rfl)
      (try simp only[Act.put,zk,zh,zi,ze,zm,zn])
      refine wpI_done (by kernel_rfl) HI6.out ?_ _
      go_wp2_with fail
      go_roundw
      case rel=>exact⟨k2+1,hlt,by go_num,hid (HBr2.out.trans (HI6.out.1.mono HBr2.out.size))⟩
      case measure=>simp[intOf];omega
     ·obtain rfl:k2=k:=by omega
      go_wp2_with (go_at_call 13;refine(HWk.out _ HBw.out).mono ?_;rintro e w9 ⟨rfl,hb9⟩;have HB9:=hid (HBw.out.trans (hb9.mono HBw.out.size));clear hb9)
      go_ret
      exact⟨rfl,HB9.out⟩
theorem lawScript (W:Wd) (a:Option Addr) (c:Nat) (w:World) (t:Ty) (hW:WOk w W a c) (hT:Tabs w) (htb:t.bulk≤1048576) (cs:List Value) (ht:TyC w t cs) (l:List Ak) (ka:Option Addr) (kc:Nat) (hk:AkR w ka l) (hl:l.length≤1048576):
  Calls Tryz.prog 6 #[.slice a W.length c,.agg cs.toArray,.slice ka l.length kc] w (qa2 (.bool true) w):=by
 have hlw:=qbk W;have hlk:∀ (k:Ak) w' (h:Below w.heap.size w w'),Asked W t k.pkg k.name→Calls Tryz.prog 12 #[.slice a W.length c,.agg cs.toArray,.bool k.ad,.int .i64 k.pkg,.int .i64 k.name] w' (qdq (akR W t k) w'):=
  fun k w' h hA=>qs2 W a c w' t hA.2.2 (hW.keep (qac.below h)) (hT.below h) htb cs (ht.keep (qac.below h)) k.ad k.pkg k.name hA.1 hA.2.1
 have hfit:=fun p n w' (h:Below w.heap.size w w')=>qvj W a c t cs p n w' (hW.keep (qac.below h)) htb (ht.keep (qac.below h));have hls:∀ w' (h:Below w.heap.size w w'),l≠[]→(∀ k∈l,Asked W t k.pkg k.name)→Calls Tryz.prog 21 #[.slice a W.length c,.agg cs.toArray,.slice ka l.length kc] w' (LsPost (l.map (akR W t)) w'):=fun w' h h0 hA=>by
  obtain⟨k0,hk0⟩:=List.exists_mem_of_ne_nil l h0;obtain⟨hF,P,hS,-⟩:=(hA k0 hk0).2.2;exact implLookups_any W a c w' t hF hF.nm (hW.keep (qac.below h)) (hT.below h) htb P hS cs (ht.keep (qac.below h)) l ka kc (hk.keep (qac.below h)) hl fun x hx=>⟨(hA x hx).1,(hA x hx).2.1⟩
 obtain⟨x1,d1,x2,d2,x3,d3,x4,d4,rfl,-⟩:=ht.full;exact script_walk W a c w t hW.bulk hT htb l ka kc hk hl hfit hlk hls (fun k=>Nat.le_trans (lookM_len ..) (fuelW_le (by have:=hW.bulk;omega)))
