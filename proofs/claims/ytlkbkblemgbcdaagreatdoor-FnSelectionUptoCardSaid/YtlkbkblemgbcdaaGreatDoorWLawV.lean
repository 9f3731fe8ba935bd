import Derived.Test.YtlkbkblemgbcdaaGreatDoorWLawS
set_option linter.all false
set_option maxHeartbeats 8000000
namespace Go.Proofs.YtlkbkblemgbcdaaGreatDoor
open Go Go.RowKit
set_option maxRecDepth 100000
def AnsOk (o:Int) (m:Bool) (ix:List Nat) (ind ok:Bool) (w:World) (e:Ending) (w':World):Prop:=∃ x:Option Addr×Nat,e = .returned (.tuple #[.agg #[.int .i64 o,.bool m,.slice x.1 ix.length x.2,.bool ind],.bool ok])∧Hid (w'.ownsRow 0 3 1 (.slice x.1 ix.length x.2) ix.length (qbh ix)∧Below w.heap.size w w')
theorem SelAns.nothing {r:Rs} {w w':World} {e:Ending} (h:SelAns r w e w') (hr:r.ob=none):AnsOk (-1) false [] false false w e w':=by
 rcases h with ⟨-,rfl,h3⟩|⟨x,h1,-⟩
 ·exact⟨(none,0),rfl,hid ⟨zdb _ _ _ _,h3.out⟩⟩
 ·rw[hr] at h1;cases h1
theorem SelAns.found {r:Rs} {w w':World} {e:Ending} (h:SelAns r w e w') {k:Nat} {m:Bool} (hr:r.ob=some (k,m)):AnsOk k m r.ix r.ind true w e w':=by
 rcases h with ⟨h1,-⟩|⟨x,h1,rfl,h4⟩
 ·rw[hr] at h1;cases h1
 ·rw[hr] at h1;obtain⟨x1,x2,x3,x4⟩:=x;cases h1;exact⟨(x3,x4),rfl,hid h4.out⟩
theorem sel_walk (W:Wd) (a:Option Addr) (c:Nat) (w:World) (t:Ty) (hbk:qbw W≤1048576) (hT:Tabs w) (htb:t.bulk≤1048576) (addr:Bool) (p n:Int) {x1 x2 x3 x4:Option Addr} {d1 d2 d3 d4:Nat}
  (hF:∀ w',Below w.heap.size w w'→Calls Tryz.prog 11 #[.slice a W.length c,.agg #[.int .i64 t.kind,.int .i64 t.num,.slice x1 t.elem.length d1,.slice x2 t.fields.length d2,.slice x3 t.methods.length d3,.slice x4 t.embeds.length d4],.int .i64 p,.int .i64 n] w' (qb8 (Asked W t p n) w'))
  (o o2:Int) (m i m2 i2 ok:Bool) (ix ix2:List Nat) (hi1:ix.length≤4294967296)
  (hc:(o<0∧ok=false)∨(0≤o∧ok=true∧o2=o∧m2=m∧i2=i∧ix2=ix))
  (h1:∀ w',Below w.heap.size w w'→Asked W t p n→Calls Tryz.prog 12 #[.slice a W.length c,.agg #[.int .i64 t.kind,.int .i64 t.num,.slice x1 t.elem.length d1,.slice x2 t.fields.length d2,.slice x3 t.methods.length d3,.slice x4 t.embeds.length d4],.bool addr,.int .i64 p,.int .i64 n] w' (AnsPost o m ix i w'))
  (h2:∀ w',Below w.heap.size w w'→Asked W t p n→Calls Tryz.prog 22 #[.slice a W.length c,.agg #[.int .i64 t.kind,.int .i64 t.num,.slice x1 t.elem.length d1,.slice x2 t.fields.length d2,.slice x3 t.methods.length d3,.slice x4 t.embeds.length d4],.bool addr,.int .i64 p,.int .i64 n] w' (AnsOk o2 m2 ix2 i2 ok w')):
  Calls Tryz.prog 7 #[.slice a W.length c,.agg #[.int .i64 t.kind,.int .i64 t.num,.slice x1 t.elem.length d1,.slice x2 t.fields.length d2,.slice x3 t.methods.length d3,.slice x4 t.embeds.length d4],.bool addr,.int .i64 p,.int .i64 n] w (qa2 (.bool true) w):=by
 have hl:=qbk W;have HF:=hid hF;have HL1:=hid h1;have HL2:=hid h2;have HWk:=hid fun w' (h:Below w.heap.size w w')=>qtr w' (hT.below h);have HZ:=hid fun w'=>qps t w' (x1:=x1) (x2:=x2) (x3:=x3) (x4:=x4) (d1:=d1) (d2:=d2) (d3:=d3) (d4:=d4) htb;have hlen:(W.length:Int)≤2147483647:=by omega
 have HB0:Hid (∀ O:Obj,Below w.heap.size w (w.alloc O)):=hid fun O=>(zp _ _).alloc (zl _) O;have HC:=hid hc;have Hi1:=hid hi1;clear hT htb hl hbk hF h1 h2 hc hi1;go_enter Tryz.func7,Tryz.ntmps7
 go_wp2_with (first
  | (go_at_call 10;refine(HZ.out _).mono ?_;rintro e w1 ⟨rfl,hb1⟩;have HX1:=hid hb1;have HB1:=hid ((HB0.out _).trans (hb1.mono (HB0.out _).size));clear hb1;have q0:=(box6 HX1.out).1;have q1:=(box6 HX1.out).2.1;have q2:=(box6 HX1.out).2.2.1;have q3:=(box6 HX1.out).2.2.2.1;have q4:=(box6 HX1.out).2.2.2.2.1;have q5:=(box6 HX1.out).2.2.2.2.2)
  | (go_at_call 11;refine(HF.out _ HB1.out).mono ?_;rintro e w2 ⟨b,rfl,hA,hb2⟩;have HA:=hid hA;have HX2:=hid (HX1.out.trans (hb2.mono HX1.out.size));have HB2:=hid (HB1.out.trans (hb2.mono HB1.out.size));clear hb2 hA;have p0:=(box6 HX2.out).1;have p1:=(box6 HX2.out).2.1;have p2:=(box6 HX2.out).2.2.1;have p3:=(box6 HX2.out).2.2.2.1;have p4:=(box6 HX2.out).2.2.2.2.1;have p5:=(box6 HX2.out).2.2.2.2.2;clear q0 q1 q2 q3 q4 q5;cases b)
  | (go_at_call 12;refine(HL1.out _ HB2.out (HA.out (by simp))).mono ?_;rintro e w3 ⟨x,rfl,H3⟩;have HX3:=hid (HX2.out.trans (H3.out.2.mono HX2.out.size));have HB3:=hid (HB2.out.trans (H3.out.2.mono HB2.out.size));clear p0 p1 p2 p3 p4 p5;have p0:=(box6 HX3.out).1;have p1:=(box6 HX3.out).2.1;have p2:=(box6 HX3.out).2.2.1;have p3:=(box6 HX3.out).2.2.2.1;have p4:=(box6 HX3.out).2.2.2.2.1;have p5:=(box6 HX3.out).2.2.2.2.2;have hself:w.heap.size<w3.heap.size:=(by have:=HX3.out.size;simp only[zd] at this;omega);have hne3:w.heap.size≠w3.heap.size:=(by omega))
  | (go_at_call 22;refine(HL2.out _ (HB3.out.alloc HB3.out.size _) (HA.out (by simp))).mono ?_;rintro e w5 ⟨y,rfl,H5⟩;have HB5:=hid ((HB3.out.alloc HB3.out.size _).trans (H5.out.2.mono (HB3.out.alloc HB3.out.size _).size));have HE5:=hid ((Blk.new w3 33 [.int .i64 o,.bool m,.slice x.1 ix.length x.2,.bool i]).keep H5.out.2);have H35:Hid (Below w3.heap.size w3 w5):=hid (((zp _ _).alloc (zl _) _).trans (H5.out.2.mono ((zp _ _).alloc (zl _) _).size)))
  | (go_at_call 13;refine(HWk.out _ (HB5.out.alloc HB5.out.size _)).mono ?_;rintro e w9 ⟨rfl,hb9⟩;have HF9:=hid ((Blk.new w5 33 [.int .i64 o2,.bool m2,.slice y.1 ix2.length y.2,.bool i2]).keep hb9);have H59:Hid (Below w5.heap.size w5 w9):=hid (((zp _ _).alloc (zl _) _).trans (hb9.mono ((zp _ _).alloc (zl _) _).size));clear hb9;have HE9:=hid (HE5.out.keep H59.out);have HB9:=hid (HB5.out.trans (H59.out.mono HB5.out.size));have e0:=HE9.out.cell 0;have e1:=HE9.out.cell 1;have e2:=HE9.out.cell 2;have e3:=HE9.out.cell 3;have f0:=HF9.out.cell 0;have f1:=HF9.out.cell 1;have f2:=HF9.out.cell 2;have f3:=HF9.out.cell 3;(simp only[zu,zt] at e0 e1 e2 e3 f0 f1 f2 f3);rcases HC.out with ⟨k1,k2⟩|⟨k1,k2,k3,k4,k5,k6⟩))
 ·go_ret
  exact⟨rfl,HB2.out⟩
 ·subst k2;have k1':decide (0≤o)=false:=by simpa using k1
  go_wp2_with fail
  go_ret
  exact⟨rfl,HB9.out⟩
 ·subst k2 k3 k4 k5 k6;have k1':decide (0≤o2)=true:=by simpa using k1
  have HSm:=hid (same_yes o2 m2 i2 ix2 Hi1.out y.1 x.1 y.2 x.2 w9 (qab (S:=fun _=>False) H5.out.1 (qag.keep H59.out) fun _ _ h=>h) (qab (S:=fun _=>False) H3.out.1 (qag.keep (H35.out.trans (H59.out.mono H35.out.size))) fun _ _ h=>h))
  go_wp2_with (go_at_call 14;refine HSm.out.mono ?_;rintro e w10 ⟨rfl,hb10⟩;have HB10:=hid (HB9.out.trans (hb10.mono HB9.out.size));clear hb10)
  go_ret
  exact⟨rfl,HB10.out⟩
theorem lawSelection (W:Wd) (a:Option Addr) (c:Nat) (w:World) (t:Ty) (hW:WOk w W a c) (hT:Tabs w) (htb:t.bulk≤1048576) (cs:List Value) (ht:TyC w t cs) (addr:Bool) (p n:Int):
  Calls Tryz.prog 7 #[.slice a W.length c,.agg cs.toArray,.bool addr,.int .i64 p,.int .i64 n] w (qa2 (.bool true) w):=by
 have hlw:=qbk W;have hlk:=fun(hA:Asked W t p n) w' (h:Below w.heap.size w w')=>qs2 W a c w' t hA.2.2 (hW.keep (qac.below h)) (hT.below h) htb cs (ht.keep (qac.below h)) addr p n hA.1 hA.2.1;have hsl:∀ (hA:Asked W t p n) w' (h:Below w.heap.size w w'),Calls Tryz.prog 22 #[.slice a W.length c,.agg cs.toArray,.bool addr,.int .i64 p,.int .i64 n] w' (SelAns (qch W (operand W t) addr p n) w'):=fun hA w' h=>by
  obtain⟨hF,P,hS,-⟩:=hA.2.2;exact implSelect_any W a c w' t hF hF.nm (hW.keep (qac.below h)) (hT.below h) htb P hS cs (ht.keep (qac.below h)) addr p n hA.1 hA.2.1
 have hfit:=fun w' (h:Below w.heap.size w w')=>qvj W a c t cs p n w' (hW.keep (qac.below h)) htb (ht.keep (qac.below h));have hlen:(qch W (operand W t) addr p n).ix.length≤4294967296:=Nat.le_trans (lookM_len ..) (fuelW_le (by have:=hW.bulk;omega));obtain⟨x1,d1,x2,d2,x3,d3,x4,d4,rfl,-⟩:=ht.full;cases ho:(qch W (operand W t) addr p n).ob with
 | none=>
  exact sel_walk W a c w t hW.bulk hT htb addr p n hfit (obI (qch W (operand W t) addr p n)) (-1) (obM (qch W (operand W t) addr p n)) (qch W (operand W t) addr p n).ind false false false (qch W (operand W t) addr p n).ix [] hlen
   (.inl ⟨by rw[obI_none ho];omega,rfl⟩) (fun w' h hA=>(hlk hA w' h).mono fun e w2 h=>h.ans) (fun w' h hA=>(hsl hA w' h).mono fun e w2 h=>h.nothing ho)
 | some x=>
  obtain⟨k,m⟩:=x;exact sel_walk W a c w t hW.bulk hT htb addr p n hfit (obI (qch W (operand W t) addr p n)) k (obM (qch W (operand W t) addr p n)) (qch W (operand W t) addr p n).ind m (qch W (operand W t) addr p n).ind true (qch W (operand W t) addr p n).ix (qch W (operand W t) addr p n).ix hlen
   (.inr ⟨by rw[obI_some ho];omega,rfl,(obI_some ho).symm,(obM_some ho).symm,rfl,rfl⟩) (fun w' h hA=>(hlk hA w' h).mono fun e w2 h=>h.ans) (fun w' h hA=>(hsl hA w' h).mono fun e w2 h=>h.found ho)
