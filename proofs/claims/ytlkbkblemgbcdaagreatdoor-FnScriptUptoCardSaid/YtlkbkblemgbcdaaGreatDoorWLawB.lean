import Derived.Test.YtlkbkblemgbcdaaGreatDoorK47
set_option linter.all false
set_option maxHeartbeats 4000000
namespace Go.Proofs.YtlkbkblemgbcdaaGreatDoor
open Go Go.RowKit
set_option maxRecDepth 100000
theorem qfz.nm {W:Wd} {t:Ty} (h:qfz W t):NmOk W:=fun d hd=>⟨(h.names d hd).1,(h.names d hd).2.1⟩
theorem qs2 (W:Wd) (a:Option Addr) (c:Nat) (w:World) (t:Ty) (hA:qqd W t) (hW:WOk w W a c) (hT:Tabs w) (htb:t.bulk≤1048576) (cs:List Value) (ht:TyC w t cs) (addr:Bool) (q m:Int) (hq:q=0∨q=1) (hm:IsNm m):
  Calls Tryz.prog 12 #[.slice a W.length c,.agg cs.toArray,.bool addr,.int .i64 q,.int .i64 m] w (qdq (qch W (operand W t) addr q m) w):=by
 obtain⟨hF,P,hS,-⟩:=hA;exact qgz W a c w t hF hF.nm hW hT htb P hS cs ht addr q m hq hm
theorem box6 {w wr:World} {v0 v1 v2 v3 v4 v5:Value} {T:TypeId} (h:Below (w.alloc (.cells #[v0,v1,v2,v3,v4,v5] T)).heap.size (w.alloc (.cells #[v0,v1,v2,v3,v4,v5] T)) wr):
  wr.cell? ⟨w.heap.size,0,none⟩=some v0∧wr.cell? ⟨w.heap.size,1,none⟩=some v1∧wr.cell? ⟨w.heap.size,2,none⟩=some v2∧wr.cell? ⟨w.heap.size,3,none⟩=some v3∧wr.cell? ⟨w.heap.size,4,none⟩=some v4∧wr.cell? ⟨w.heap.size,5,none⟩=some v5:=by
 have hb:=(Blk.new w T [v0,v1,v2,v3,v4,v5]).keep h;exact⟨hb.cell 0,hb.cell 1,hb.cell 2,hb.cell 3,hb.cell 4,hb.cell 5⟩
theorem qva (W:Wd) (a:Option Addr) (c:Nat) (w:World) (t:Ty) (hW:WOk w W a c) (hT:Tabs w) (htb:t.bulk≤1048576) (cs:List Value) (ht:TyC w t cs) (addr:Bool) (p:Int):
  Calls Tryz.prog 4 #[.slice a W.length c,.agg cs.toArray,.bool addr,.int .i64 p] w (qa2 (.bool true) w):=by
 have hl:=qbk W;have hbk:=hW.bulk;have HF:=hid fun w' (h:Below w.heap.size w w')=>qvj W a c t cs p 8 w' (hW.keep (qac.below h)) htb (ht.keep (qac.below h));have HL:=hid fun w' (h:Below w.heap.size w w') (hA:qqd W t) (hp:p=0∨p=1)=>qs2 W a c w' t hA (hW.keep (qac.below h)) (hT.below h) htb cs (ht.keep (qac.below h)) addr p 8 hp ⟨by omega,by omega⟩;have HWk:=hid fun w' (h:Below w.heap.size w w')=>qtr w' (hT.below h);obtain⟨x1,d1,x2,d2,x3,d3,x4,d4,rfl,-⟩:=ht.full;have HZ:=hid fun w'=>qps t w' (x1:=x1) (x2:=x2) (x3:=x3) (x4:=x4) (d1:=d1) (d2:=d2) (d3:=d3) (d4:=d4) htb;have hlen:(W.length:Int)≤2147483647:=by omega
 have HB0:Hid (∀ O:Obj,Below w.heap.size w (w.alloc O)):=hid fun O=>(zp _ _).alloc (zl _) O;clear hW hT ht htb hl hbk;go_enter Tryz.func4,Tryz.ntmps4
 go_wp2_with (first
  | (go_at_call 10;refine(HZ.out _).mono ?_;rintro e w1 ⟨rfl,hb1⟩;have HX1:=hid hb1;have HB1:=hid ((HB0.out _).trans (hb1.mono (HB0.out _).size));clear hb1;have q0:=(box6 HX1.out).1;have q1:=(box6 HX1.out).2.1;have q2:=(box6 HX1.out).2.2.1;have q3:=(box6 HX1.out).2.2.2.1;have q4:=(box6 HX1.out).2.2.2.2.1;have q5:=(box6 HX1.out).2.2.2.2.2)
  | (go_at_call 11;refine(HF.out _ HB1.out).mono ?_;rintro e w2 ⟨b,rfl,hA,hb2⟩;have HA:=hid hA;have HX2:=hid (HX1.out.trans (hb2.mono HX1.out.size));have HB2:=hid (HB1.out.trans (hb2.mono HB1.out.size));clear hb2 hA;have p0:=(box6 HX2.out).1;have p1:=(box6 HX2.out).2.1;have p2:=(box6 HX2.out).2.2.1;have p3:=(box6 HX2.out).2.2.2.1;have p4:=(box6 HX2.out).2.2.2.2.1;have p5:=(box6 HX2.out).2.2.2.2.2;cases b)
  | (go_at_call 13;refine(HWk.out _ HB2.out).mono ?_;rintro e w3 ⟨rfl,hb3⟩;have HX3:=hid (HX2.out.trans (hb3.mono HX2.out.size));have HB3:=hid (HB2.out.trans (hb3.mono HB2.out.size));clear hb3;have o0:=(box6 HX3.out).1;have o1:=(box6 HX3.out).2.1;have o2:=(box6 HX3.out).2.2.1;have o3:=(box6 HX3.out).2.2.2.1;have o4:=(box6 HX3.out).2.2.2.2.1;have o5:=(box6 HX3.out).2.2.2.2.2)
  | (go_at_call 12;refine(HL.out _ HB3.out (HA.out (by simp)).2.2 (HA.out (by simp)).1).mono ?_;rw[qp7];rintro e w4 ⟨x,rfl,H4⟩;have HB4:=hid (HB3.out.trans (H4.out.2.mono HB3.out.size));(simp only[qdz,obI,obM,List.length_nil]))
  | (go_at_call 15;refine(qu7 x.1 x.2 _).mono ?_;rintro e w5 ⟨rfl,hb5⟩;have HB5:=hid (HB4.out.trans (hb5.mono HB4.out.size));clear hb5))
 all_goals go_ret
 ·exact⟨rfl,HB2.out⟩
 ·exact⟨rfl,HB5.out⟩
