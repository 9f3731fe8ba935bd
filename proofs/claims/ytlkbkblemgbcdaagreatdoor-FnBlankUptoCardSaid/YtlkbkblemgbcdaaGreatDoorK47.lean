import Derived.Test.YtlkbkblemgbcdaaGreatDoorK45
import Derived.Test.YtlkbkblemgbcdaaGreatDoorK42
import Derived.Test.YtlkbkblemgbcdaaGreatDoorK41
import Derived.Test.YtlkbkblemgbcdaaGreatDoorK32
import Derived.Test.YtlkbkblemgbcdaaGreatDoorK46
namespace Go.Proofs.YtlkbkblemgbcdaaGreatDoor
open Go Go.RowKit
set_option linter.unusedVariables false
set_option linter.unusedSimpArgs false
set_option maxRecDepth 100000
theorem qu2 (w:World):TyC w ty0 [.int .i64 0,.int .i64 0,.slice none 0 0,.slice none 0 0,.slice none 0 0,.slice none 0 0]:=by
 unfold ty0
 simp only[TyC]
 refine⟨none,0,none,0,none,0,none,0,rfl,?_,?_,?_,?_,?_,?_,?_⟩ <;> first|exact⟨Nat.le_refl _,Nat.le_refl _,Nat.le_refl _,Nat.le_refl _⟩|exact⟨by omega,by omega⟩|simp only[TysR]|simp only[FdsR]|simp only[MsR]
theorem qfz.zero {W:Wd} {t:Ty} (h:qfz W t):qfz W ty0:=by
 refine⟨h.names,h.distinct,?_,h.valid,h.declared,?_⟩
 ·unfold ty0;simp[qam]
 ·unfold qcj operand ty0;simp[qdp,qc0,qcr,qjv,qb1]
end Go.Proofs.YtlkbkblemgbcdaaGreatDoor
namespace Go.Proofs.YtlkbkblemgbcdaaGreatDoor
open Go Go.RowKit
set_option linter.unusedVariables false
set_option linter.unusedSimpArgs false
theorem qpk (W:Wd) (s:Spot) (addr:Bool) (q:Int):qhf W s addr q 8=⟨none,[],false⟩:=by
 unfold qhf;rw[if_pos rfl]
theorem qp7 (W:Wd) (s:Spot) (addr:Bool) (q:Int):qch W s addr q 8=⟨none,[],false⟩:=by
 unfold qch
 simp only[qpk]
 split <;> rfl
def En.ahead (e:En):En:={ e with ind:=true }
def Hi.ahead (h:Hi):Hi:={ h with ind:=true }
theorem qt8 {W:Wd} {s:Spot} {addr:Bool} {q m:Int} (hm:m≠8) (hp:(plain W s).of.kind≠2):qhf W s addr q m=lvs W addr q m (qj2 W) [⟨pl W s,[],false,false⟩] []:=by
 unfold qhf
 have e:drf W s=(s,false):=by unfold drf;rw[if_neg hp]
 rw[if_neg hm,e,if_neg (by simp)]
structure Pk0 (W:Wd):Prop where
 pk:∀ d,(dc W d).pkg=0
theorem qnk {W:Wd} (h:Pk0 W):∀ (n:Nat) (s:Spot),s.pkg=0→(qb9 W n s).pkg=0
 | 0,s,hs=>hs
 | n+1,s,hs=>by
  simp only[qb9]
  split
  ·exact qnk h n _ (h.pk _)
  ·exact hs
theorem qwh {W:Wd} (h:Pk0 W) {s:Spot} (hs:s.pkg=0):(qae W s).pkg=0:=qnk h _ s hs
theorem MS.pk {W:Wd} (h:Pk0 W) {s:Spot} {l:List Mn} (hl:MS W s l):s.pkg=0→∀ m∈l,m.p=0:=by
 induction hl with
 | mk s ls hl _ ih=>
  intro hs m hm
  rcases qgq (qka hm) with hm|⟨l,h1,h2⟩
  ·rcases qf2 hm with hm|hm
   ·cases hm
   ·unfold expl at hm
    obtain⟨k,-,rfl⟩:=List.mem_map.1 hm
    exact hs
  ·obtain⟨i,hi,rfl⟩:=List.getElem_of_mem h1
   exact ih i hi (qwh h hs) m h2
def HB (L:Nat):Stp (Option Hi)→Prop
 | .ok h=>∀ x,h=some x→x.ix.length≤L
 | .error x=>x.length≤L
def tyA:Ty := .mk 4 0 [] [.mk 4 false ty0] [] []
theorem qp8:qch [] (operand [] tyA) false 0 4=⟨some (0,false),[0],false⟩:=by
 have hk:(operand [] tyA).of.kind=4:=rfl
 have hp:plain [] (operand [] tyA)=operand [] tyA:=qbg (by rw[hk];simp)
 have hu:qae [] (operand [] tyA)=operand [] tyA:=qdu (by rw[hk];simp)
 have hl:pl [] (operand [] tyA)=operand [] tyA:=by unfold pl;rw[hp,qgb (by rw[hk];simp)]
 unfold qch
 rw[if_neg (by rw[hp,hk];simp),qt8 (by decide) (by rw[hp,hk];simp),hl]
 have e1:ents [] 0 4 [⟨operand [] tyA,[],false,false⟩] (none,[]) [] = .ok ((some ⟨0,false,false,[0],false⟩,[]),[]):=by
  simp only[ents,entS,hk]
  rw[if_neg (by simp)]
  simp only[show ¬ ((4:Int)=1) by decide,if_false]
  have e2:typS [] 0 4 ⟨operand [] tyA,[],false,false⟩ (none,[]) = .ok (some ⟨0,false,false,[0],false⟩,[]):=by
   unfold typS
   simp only[hu]
   rw[if_pos hk]
   rfl
  rw[e2]
 show lvs [] false 0 4 (4005+1) _ []=_
 simp only[lvs,e1]
 rfl
end Go.Proofs.YtlkbkblemgbcdaaGreatDoor
namespace Go.Proofs.YtlkbkblemgbcdaaGreatDoor
open Go Go.RowKit
set_option linter.unusedVariables false
set_option linter.unusedSimpArgs false
set_option maxRecDepth 100000
theorem qm4 (s t:ByteArray) (w:World):Calls Tryz.prog 52 #[.string s,.string t] w fun e w'=>
  ∃ b,e = .returned (.pointer (some ⟨b,0,none⟩))∧w'.cell? ⟨b,0,none⟩=some (.string s)∧Below w.heap.size w w':=by
 go_enter Tryz.func52,Tryz.ntmps52
 go_wp2_with fail
 go_ret
 exact⟨_,rfl,by simp,bel⟩
theorem qrc (p n:Int) (w:World) (h:IsNm n) (hp:p=0∨p=1) (hT:Tabs w):
  Calls Tryz.prog 35 #[.int .i64 p,.int .i64 n] w (qa2 (.string (idS p n)) w):=by
 have HT:=hid hT;clear hT
 have Hn:=hid h;clear h
 have hpp:qbo p=⟨#[if p=0 then 112 else 113]⟩:=rfl
 rcases hp with rfl|rfl
 all_goals
  go_enter Tryz.func35,Tryz.ntmps35
  go_wp2_with (first
   | (go_at_call 52;refine(qm4 _ _ _).mono ?_;rintro e w1 ⟨b,rfl,hc,hb⟩;have hz:=Below.size hb;simp only[World.size_alloc,qaa] at hz)
   | (go_at_call 33;refine(qbq _ _ Hn.out).mono ?_;rintro e w2 ⟨rfl,hb2⟩;have hz2:=Below.size hb2;have hc2:=qac.below hb2 _ _ hc)
   | (go_at_call 64;(first|refine(qj5 b 0 _ _ Hn.out (.inl rfl) (by exact HT.out.below bel) (by exact hc2)).mono ?_|refine(qj5 b 1 _ _ Hn.out (.inr rfl) (by exact HT.out.below bel) (by exact hc2)).mono ?_);rintro e w3 ⟨rfl,hb3⟩;have hz3:=Below.size hb3))
  go_ret
  exact⟨rfl,bel⟩
theorem qpi:qfz [] tyA:=by
 refine⟨fun d hd=>absurd hd (Nat.not_lt_zero _),fun d e h1 h2=>absurd h2 (Nat.not_lt_zero _),?_,fun d hd=>absurd hd (Nat.not_lt_zero _),fun d hd=>absurd hd (Nat.not_lt_zero _),?_⟩
 ·unfold tyA ty0;simp[qam,qby,IsNm]
 ·unfold qcj operand tyA ty0;simp[qdp,qc0,qcr,qjv,qb1]
theorem qmo:qdx [] tyA fun _=>1:=
 ⟨fun _=>Nat.le_refl _,fun d hd=>absurd hd (Nat.not_lt_zero _),fun d hd=>absurd hd (Nat.not_lt_zero _),by decide⟩
theorem wOk_nil (w:World):WOk w [] none 0:=⟨fun k hk=>absurd hk (Nat.not_lt_zero _),Nat.le_refl _,by decide⟩
theorem tyA_at {w:World} {b:Nat} (h:qat w b 0 [.int .i64 4,.bool false,.int .i64 0,.int .i64 0,.slice none 0 0,.slice none 0 0,.slice none 0 0,.slice none 0 0]):
  TyC w tyA [.int .i64 4,.int .i64 0,.slice none 0 0,.slice (some ⟨b,0,none⟩) 1 1,.slice none 0 0,.slice none 0 0]:=by
 unfold tyA
 simp only[TyC]
 refine⟨none,0,some ⟨b,0,none⟩,1,none,0,none,0,rfl,⟨Nat.le_refl _,Nat.le_refl _,Nat.le_refl _,Nat.le_refl _⟩,⟨by omega,by omega⟩,⟨by omega,by omega⟩,?_,?_,?_,?_⟩
 ·simp only[TysR]
 ·simp only[FdsR,FdE,and_true]
  exact⟨b,0,_,rfl,⟨by omega,by omega⟩,h,qu2 w⟩
 ·simp only[MsR]
 ·simp only[TysR]
set_option maxHeartbeats 4000000 in
theorem qtr (w:World) (hT:Tabs w):Calls Tryz.prog 13 #[] w (qa2 (.bool true) w):=by
 have hB0:∀ O:Obj,Below w.heap.size w (w.alloc O):=fun O=>(Below.refl _ _).alloc (Nat.le_refl _) O
 have HL:=hid (qgz [] none 0 (w.alloc (.cells #[.int .i64 4,.bool false,.int .i64 0,.int .i64 0,.slice none 0 0,.slice none 0 0,.slice none 0 0,.slice none 0 0] 87)) tyA qpi (fun d hd=>absurd hd (Nat.not_lt_zero _)) (wOk_nil _) (hT.below (hB0 _)) (by decide) _ qmo _ (tyA_at (Blk.new w 87 _).cells) false 0 4 (.inl rfl) ⟨by omega,by omega⟩)
 rw[qp8] at HL
 have HT:=hid hT
 have HB0:=hid hB0
 have Hid4:Hid (∀ w1,Below w.heap.size w w1→Calls Tryz.prog 35 #[.int .i64 0,.int .i64 4] w1 (qa2 (.string ⟨#[65]⟩) w1)):=hid fun w1 hb=>qrc 0 4 w1 ⟨by omega,by omega⟩ (.inl rfl) (hT.below hb)
 clear hT hB0
 go_enter Tryz.func13,Tryz.ntmps13
 go_wp2_with (first
  | (go_at_call 12;refine HL.out.mono ?_;rintro e w2 ⟨x,rfl,H2⟩;(simp only[qdz,obI,obM]);have HB2:=hid ((HB0.out _).trans (H2.out.2.mono (HB0.out _).size));have HA2:Hid (∀ O1 O2:Obj,Below w2.heap.size w2 ((w2.alloc O1).alloc O2)):=hid (fun O1 O2=>((Below.refl _ _).alloc (Nat.le_refl _) O1).alloc (by simp) O2);have HR1:=hid (fun(O1 O2:Obj)=>qab (S:=fun _=>False) H2.out.1 (qag.keep (HA2.out O1 O2)) fun _ _ h=>h);have HR2:Hid (∀ O1:Obj,((w2.alloc O1).alloc (.cells #[.int .i64 0] 3)).ownsRow 0 3 1 (.slice (some ⟨w2.heap.size+1,0,none⟩) 1 1) 1 [.int .i64 0]):=hid (fun O1=>by have h:=World.ownsRow_lit (base:=0) (size:=1) (e:=3) (w2.alloc O1) #[.int .i64 0] 1 (Nat.zero_le _) (by decide) rfl;simpa using h))
  | (go_at_call 34;refine(qv0 [0] (by decide) x.1 _ x.2 1 _ (HR1.out _ _) (HR2.out _)).mono ?_;rintro e w3 ⟨rfl,hb3⟩;have HB3:=hid (HB2.out.trans (((HA2.out _ _).trans (hb3.mono (HA2.out _ _).size)).mono HB2.out.size));clear hb3)
  | (go_at_call 35;refine(Hid4.out _ HB3.out).mono ?_;rintro e w4 ⟨rfl,hb4⟩))
 go_ret
 exact⟨rfl,HB3.out.trans (hb4.mono HB3.out.size)⟩
theorem qfz.nm {W:Wd} {t:Ty} (h:qfz W t):NmOk W:=fun d hd=>⟨(h.names d hd).1,(h.names d hd).2.1⟩
theorem qs2 (W:Wd) (a:Option Addr) (c:Nat) (w:World) (t:Ty) (hA:qqd W t) (hW:WOk w W a c) (hT:Tabs w) (htb:t.bulk≤1048576) (cs:List Value) (ht:TyC w t cs) (addr:Bool) (q m:Int) (hq:q=0∨q=1) (hm:IsNm m):
  Calls Tryz.prog 12 #[.slice a W.length c,.agg cs.toArray,.bool addr,.int .i64 q,.int .i64 m] w (qdq (qch W (operand W t) addr q m) w):=by
 obtain⟨hF,P,hS⟩:=hA
 exact qgz W a c w t hF hF.nm hW hT htb P hS cs ht addr q m hq hm
theorem box6 {w wr:World} {v0 v1 v2 v3 v4 v5:Value} {T:TypeId} (h:Below (w.alloc (.cells #[v0,v1,v2,v3,v4,v5] T)).heap.size (w.alloc (.cells #[v0,v1,v2,v3,v4,v5] T)) wr):
  wr.cell? ⟨w.heap.size,0,none⟩=some v0∧wr.cell? ⟨w.heap.size,1,none⟩=some v1∧wr.cell? ⟨w.heap.size,2,none⟩=some v2∧wr.cell? ⟨w.heap.size,3,none⟩=some v3∧wr.cell? ⟨w.heap.size,4,none⟩=some v4∧wr.cell? ⟨w.heap.size,5,none⟩=some v5:=by
 have hb:=(Blk.new w T [v0,v1,v2,v3,v4,v5]).keep h
 exact⟨hb.cell 0,hb.cell 1,hb.cell 2,hb.cell 3,hb.cell 4,hb.cell 5⟩
set_option maxHeartbeats 4000000 in
theorem qva (W:Wd) (a:Option Addr) (c:Nat) (w:World) (t:Ty) (hW:WOk w W a c) (hT:Tabs w) (htb:t.bulk≤1048576) (cs:List Value) (ht:TyC w t cs) (addr:Bool) (p:Int):
  Calls Tryz.prog 4 #[.slice a W.length c,.agg cs.toArray,.bool addr,.int .i64 p] w (qa2 (.bool true) w):=by
 have hl:=qbk W
 have hbk:=hW.bulk
 have HF:=hid fun w' (h:Below w.heap.size w w')=>qvj W a c t cs p 8 w' (hW.keep (qac.below h)) htb (ht.keep (qac.below h))
 have HL:=hid fun w' (h:Below w.heap.size w w') (hA:qqd W t) (hp:p=0∨p=1)=>qs2 W a c w' t hA (hW.keep (qac.below h)) (hT.below h) htb cs (ht.keep (qac.below h)) addr p 8 hp ⟨by omega,by omega⟩
 have HWk:=hid fun w' (h:Below w.heap.size w w')=>qtr w' (hT.below h)
 obtain⟨x1,d1,x2,d2,x3,d3,x4,d4,rfl,-⟩:=ht.full
 have HZ:=hid fun w'=>qps t w' (x1:=x1) (x2:=x2) (x3:=x3) (x4:=x4) (d1:=d1) (d2:=d2) (d3:=d3) (d4:=d4) htb
 have hlen:(W.length:Int)≤2147483647:=by omega
 have HB0:Hid (∀ O:Obj,Below w.heap.size w (w.alloc O)):=hid fun O=>(Below.refl _ _).alloc (Nat.le_refl _) O
 clear hW hT ht htb hl hbk
 go_enter Tryz.func4,Tryz.ntmps4
 go_wp2_with (first
  | (go_at_call 10;refine(HZ.out _).mono ?_;rintro e w1 ⟨rfl,hb1⟩;have HX1:=hid hb1;have HB1:=hid ((HB0.out _).trans (hb1.mono (HB0.out _).size));clear hb1;have q0:=(box6 HX1.out).1;have q1:=(box6 HX1.out).2.1;have q2:=(box6 HX1.out).2.2.1;have q3:=(box6 HX1.out).2.2.2.1;have q4:=(box6 HX1.out).2.2.2.2.1;have q5:=(box6 HX1.out).2.2.2.2.2)
  | (go_at_call 11;refine(HF.out _ HB1.out).mono ?_;rintro e w2 ⟨b,rfl,hA,hb2⟩;have HA:=hid hA;have HX2:=hid (HX1.out.trans (hb2.mono HX1.out.size));have HB2:=hid (HB1.out.trans (hb2.mono HB1.out.size));clear hb2 hA;have p0:=(box6 HX2.out).1;have p1:=(box6 HX2.out).2.1;have p2:=(box6 HX2.out).2.2.1;have p3:=(box6 HX2.out).2.2.2.1;have p4:=(box6 HX2.out).2.2.2.2.1;have p5:=(box6 HX2.out).2.2.2.2.2;cases b)
  | (go_at_call 13;refine(HWk.out _ HB2.out).mono ?_;rintro e w3 ⟨rfl,hb3⟩;have HX3:=hid (HX2.out.trans (hb3.mono HX2.out.size));have HB3:=hid (HB2.out.trans (hb3.mono HB2.out.size));clear hb3;have o0:=(box6 HX3.out).1;have o1:=(box6 HX3.out).2.1;have o2:=(box6 HX3.out).2.2.1;have o3:=(box6 HX3.out).2.2.2.1;have o4:=(box6 HX3.out).2.2.2.2.1;have o5:=(box6 HX3.out).2.2.2.2.2)
  | (go_at_call 12;refine(HL.out _ HB3.out (HA.out (by simp)).2.2 (HA.out (by simp)).1).mono ?_;rw[qp7];rintro e w4 ⟨x,rfl,H4⟩;have HB4:=hid (HB3.out.trans (H4.out.2.mono HB3.out.size));(simp only[qdz,obI,obM,List.length_nil]))
  | (go_at_call 15;refine(qu7 x.1 x.2 _).mono ?_;rintro e w5 ⟨rfl,hb5⟩;have HB5:=hid (HB4.out.trans (hb5.mono HB4.out.size));clear hb5))
 all_goals go_ret
 ·exact⟨rfl,HB2.out⟩
 ·exact⟨rfl,HB5.out⟩
end Go.Proofs.YtlkbkblemgbcdaaGreatDoor
