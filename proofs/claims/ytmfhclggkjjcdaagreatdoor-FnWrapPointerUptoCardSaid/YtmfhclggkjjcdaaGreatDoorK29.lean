import Derived.Test.YtmfhclggkjjcdaaGreatDoorK21
import Derived.Test.YtmfhclggkjjcdaaGreatDoorK20
import Derived.Test.YtmfhclggkjjcdaaGreatDoorK28
set_option linter.all false
set_option maxHeartbeats 2000000
namespace Go.Proofs.YtmfhclggkjjcdaaGreatDoor
open Go Go.RowKit
set_option maxRecDepth 100000
theorem qfw.keep {w w':World} {x y tx ty:Nat} (h:qfw w x y tx ty) (hb:Below w.heap.size w w'):qfw w' x y tx ty:=by
 obtain⟨⟨cx,hx⟩,⟨cy,hy⟩,⟨dx,htx⟩,⟨dy,hty⟩,hi⟩:=h;exact⟨⟨cx,hx.keep hb⟩,⟨cy,hy.keep hb⟩,⟨dx,htx.keep hb⟩,⟨dy,hty.keep hb⟩,hi⟩
theorem qda (x y tx ty:Nat) (w:World) (h:qfw w x y tx ty):Calls Tryz.prog 99 #[.iface 98 (ptrV x),.iface 98 (ptrV y)] w (qa2 (.bool (x==y)) w):=by
 have HI:=hid (qkr w.heap.size x y tx ty (w.alloc (.cells #[.bool false,.bool false] 256)) (h.keep ((zp _ _).alloc (zl _) _)) (by rw[(Blk.new w 256 [.bool false,.bool false]).cell];rfl) none);clear h;go_enter Tryz.func99,Tryz.ntmps99
 go_wp2_with (go_at_call 125;refine HI.out.mono ?_;rintro e w2 ⟨rfl,hb2⟩;have Hb2:=hid hb2;clear hb2)
 go_ret
 exact⟨rfl,((zp _ _).alloc (zl _) _).trans (Hb2.out.mono (by simp))⟩
def optP (L:List Nat) (k:Nat):Value := .pointer ((L[k]?).map fun b=>⟨b,0,none⟩)
theorem ix3_0 (p0 p1 p2:Value) (w:World):(Instr.index 227 (.agg #[p0,p1,p2]) (.int .i64 0)).run Tryz.prog w = .ok p0 w:=by kernel_rfl
theorem ix3_1 (p0 p1 p2:Value) (w:World):(Instr.index 227 (.agg #[p0,p1,p2]) (.int .i64 1)).run Tryz.prog w = .ok p1 w:=by kernel_rfl
theorem ix3_2 (p0 p1 p2:Value) (w:World):(Instr.index 227 (.agg #[p0,p1,p2]) (.int .i64 2)).run Tryz.prog w = .ok p2 w:=by kernel_rfl
theorem Tryz.infoPN:(Tryz.prog.info? 98).map (fun i=>(i.zero,i.size,i.bytes))=some (some (.pointer none),1,8):=by kernel_rfl
theorem Tryz.zRowN:(Tryz.prog.info? 278).map (·.zero)=some (some (.slice none 0 0)):=by kernel_rfl
def qs9 (L:List Nat) (x:Nat):Value := .pointer (if L.contains x then some ⟨x,0,none⟩ else none)
theorem qf0 {L:List Nat} {x:Nat} (h:x∈L):qs9 L x=ptrV x:=by simp[qs9,h]
theorem qm3 {L:List Nat} {x:Nat} (h:x ∉ L):qs9 L x = .pointer none:=by simp[qs9,h]
structure qeb (B:Nat) (w:World) (sb:Nat) (L:List Nat):Prop where
 ge:B≤sb
 blk:∃ m,Blk w sb 230 [optP L 0,optP L 1,optP L 2,m]∧(L.length≤3∧m = .map none∨3<L.length∧∃ r M,m = .map (some r)∧B≤r∧qgx w r M∧M.map (·.1)=L.drop 3∧∀ e∈M,∃ ra rc,e.2 = .slice ra 1 rc∧w.ownsRow 0 98 1 (.slice ra 1 rc) 1 [ptrV e.1])
theorem qo3 (B sb x tx:Nat) (tn:Nat→Nat) (L:List Nat) (w:World) (h:qeb B w sb L) (hL:∀ y∈L,qfw w x y tx (tn y)):
  Calls Tryz.prog 109 #[ptrV sb,ptrV x] w (qa2 (qs9 L x) w):=by
 obtain⟨m,hb,hm⟩:=h.blk;have H:=hid (And.intro h hL);have Hm:=hid hm;have c0:=hb.cell 0;have c1:=hb.cell 1;have c2:=hb.cell 2;have c3:=hb.cell 3;simp only[zu,zt] at c0 c1 c2 c3;have hbl:=hb.lt;clear h hL hb hm;go_enter Tryz.func109,Tryz.ntmps109;have i0:=fun(p0 p1 p2:Value) (w:World)=>ix3_0 p0 p1 p2 w;have i1:=fun(p0 p1 p2:Value) (w:World)=>ix3_1 p0 p1 p2 w;have i2:=fun(p0 p1 p2:Value) (w:World)=>ix3_2 p0 p1 p2 w
 go_wp2_with fail
 go_loopw [13] (fun j wr=>∃ k:Nat,k≤3∧j = .int .i64 k∧Hid (Below w.heap.size w wr)∧Hid (∀ i,i<k→(hi:i<L.length)→x≠L[i])) (fun j _=>3 - (intOf j).toNat)
 case atStart=>exact⟨0,by omega,rfl,hid (zp _ _),hid fun i hi=>by omega⟩
 case round=>
  obtain⟨k,hk,rfl,hbel,hno⟩:=hrel;have hk3:k=0∨k=1∨k=2∨k=3:=by omega
  rcases hk3 with rfl|rfl|rfl|rfl
  ·skip
   by_cases hlk:0<L.length
   ·have hp:optP L 0=ptrV L[0]:=by simp[optP,zr hlk]
    have HId:=hid (fun w' (hb:Below w.heap.size w w')=>qda x L[0] tx (tn L[0]) w' ((H.out.2 _ (z8 hlk)).keep hb));have Hmem:=hid (z8 hlk);have Hne:=hno;obtain⟨y,hy⟩:∃ y,y=L[0]:=⟨_,rfl⟩;rw[← hy] at hp HId Hmem;have Hy:=hid hy;clear hy;rw[hp];cases hxy:(x==y) with
    | true=>
     rw[hxy] at HId;have hxe:x=y:=by simpa using hxy
     subst hxe;clear hxy
     go_wp2_with (go_at_call 99;refine(HId.out _ hbel.out).mono ?_;rintro e w2 ⟨rfl,hb2⟩;have Hb2:=hid hb2;clear hb2)
     go_ret
     exact⟨by rw[qf0 Hmem.out];rfl,hbel.out.trans (Hb2.out.mono hbel.out.size)⟩
    | false=>
     rw[hxy] at HId;have Hxy:=hid hxy;clear hxy
     go_wp2_with (go_at_call 99;refine(HId.out _ hbel.out).mono ?_;rintro e w2 ⟨rfl,hb2⟩;have Hb2:=hid hb2;clear hb2)
     go_roundw
     case rel=>exact⟨0+1,by omega,rfl,hid (hbel.out.trans (Hb2.out.mono hbel.out.size)),hid fun i hi hil=>by
      by_cases e:i=0
      ·subst e;rw[← Hy.out];simpa using Hxy.out
      ·exact hno.out i (by omega) hil⟩
     case measure=>simp[intOf]
   ·have hp:optP L 0 = .pointer none:=by simp[optP,List.getElem?_eq_none (Nat.le_of_not_lt hlk)]
    rw[hp]
    go_wp2_with fail
    go_roundw
    case rel=>exact⟨0+1,by omega,rfl,hbel,hid fun i hi hil=>hno.out i (by omega) hil⟩
    case measure=>simp[intOf]
  ·skip
   by_cases hlk:1<L.length
   ·have hp:optP L 1=ptrV L[1]:=by simp[optP,zr hlk]
    have HId:=hid (fun w' (hb:Below w.heap.size w w')=>qda x L[1] tx (tn L[1]) w' ((H.out.2 _ (z8 hlk)).keep hb));have Hmem:=hid (z8 hlk);have Hne:=hno;obtain⟨y,hy⟩:∃ y,y=L[1]:=⟨_,rfl⟩;rw[← hy] at hp HId Hmem;have Hy:=hid hy;clear hy;rw[hp];cases hxy:(x==y) with
    | true=>
     rw[hxy] at HId;have hxe:x=y:=by simpa using hxy
     subst hxe;clear hxy
     go_wp2_with (go_at_call 99;refine(HId.out _ hbel.out).mono ?_;rintro e w2 ⟨rfl,hb2⟩;have Hb2:=hid hb2;clear hb2)
     go_ret
     exact⟨by rw[qf0 Hmem.out];rfl,hbel.out.trans (Hb2.out.mono hbel.out.size)⟩
    | false=>
     rw[hxy] at HId;have Hxy:=hid hxy;clear hxy
     go_wp2_with (go_at_call 99;refine(HId.out _ hbel.out).mono ?_;rintro e w2 ⟨rfl,hb2⟩;have Hb2:=hid hb2;clear hb2)
     go_roundw
     case rel=>exact⟨1+1,by omega,rfl,hid (hbel.out.trans (Hb2.out.mono hbel.out.size)),hid fun i hi hil=>by
      by_cases e:i=1
      ·subst e;rw[← Hy.out];simpa using Hxy.out
      ·exact hno.out i (by omega) hil⟩
     case measure=>simp[intOf]
   ·have hp:optP L 1 = .pointer none:=by simp[optP,List.getElem?_eq_none (Nat.le_of_not_lt hlk)]
    rw[hp]
    go_wp2_with fail
    go_roundw
    case rel=>exact⟨1+1,by omega,rfl,hbel,hid fun i hi hil=>hno.out i (by omega) hil⟩
    case measure=>simp[intOf]
  ·skip
   by_cases hlk:2<L.length
   ·have hp:optP L 2=ptrV L[2]:=by simp[optP,zr hlk]
    have HId:=hid (fun w' (hb:Below w.heap.size w w')=>qda x L[2] tx (tn L[2]) w' ((H.out.2 _ (z8 hlk)).keep hb));have Hmem:=hid (z8 hlk);have Hne:=hno;obtain⟨y,hy⟩:∃ y,y=L[2]:=⟨_,rfl⟩;rw[← hy] at hp HId Hmem;have Hy:=hid hy;clear hy;rw[hp];cases hxy:(x==y) with
    | true=>
     rw[hxy] at HId;have hxe:x=y:=by simpa using hxy
     subst hxe;clear hxy
     go_wp2_with (go_at_call 99;refine(HId.out _ hbel.out).mono ?_;rintro e w2 ⟨rfl,hb2⟩;have Hb2:=hid hb2;clear hb2)
     go_ret
     exact⟨by rw[qf0 Hmem.out];rfl,hbel.out.trans (Hb2.out.mono hbel.out.size)⟩
    | false=>
     rw[hxy] at HId;have Hxy:=hid hxy;clear hxy
     go_wp2_with (go_at_call 99;refine(HId.out _ hbel.out).mono ?_;rintro e w2 ⟨rfl,hb2⟩;have Hb2:=hid hb2;clear hb2)
     go_roundw
     case rel=>exact⟨2+1,by omega,rfl,hid (hbel.out.trans (Hb2.out.mono hbel.out.size)),hid fun i hi hil=>by
      by_cases e:i=2
      ·subst e;rw[← Hy.out];simpa using Hxy.out
      ·exact hno.out i (by omega) hil⟩
     case measure=>simp[intOf]
   ·have hp:optP L 2 = .pointer none:=by simp[optP,List.getElem?_eq_none (Nat.le_of_not_lt hlk)]
    rw[hp]
    go_wp2_with fail
    go_roundw
    case rel=>exact⟨2+1,by omega,rfl,hbel,hid fun i hi hil=>hno.out i (by omega) hil⟩
    case measure=>simp[intOf]
  ·have d3:=qac.below hbel.out _ _ c3;have hbl':sb<wr.heap.size:=zj wr _ d3;obtain⟨jn,hjn,hjn2⟩:=zbb.1 Tryz.szNd;rcases Hm.out with ⟨hl3,rfl⟩|⟨hl3,r,M,rfl,-,hM,hMf,hMr⟩
   ·have hlk:=fun w':World=>qhh (P:=Tryz.prog) w' Tryz.underlying228 Tryz.underlying98 Tryz.zRowN x;have hnx:x ∉ L:=fun hx=>by
     obtain⟨i,hi,e⟩:=List.mem_iff_getElem.1 hx;exact hno.out i (by omega) hi e.symm
    go_wp2_with fail
    have Hbel:=hbel;obtain⟨wm,rfl⟩:∃ wm:World,wm=wr:=⟨_,rfl⟩
    go_loopw [34] (fun j wr=>j = .int .i64 ((0:Nat):Int)∧wr=wm) (fun j _=>1)
    case atStart=>exact⟨rfl,rfl⟩
    case round=>
     obtain⟨rfl,rfl⟩:=hrel
     go_wp2_with fail
     go_ret
     exact⟨by rw[qm3 hnx];rfl,Hbel.out⟩
   ·have hg:∀ e∈M,∃ cg tg,wr.heap[e.1]?=some (.cells cg tg (0,0)):=fun e he=>by
     have h1:e.1∈L:=List.mem_of_mem_drop (hMf ▸ zkb.2 ⟨e,he,rfl⟩);obtain⟨-,⟨cs,hcs⟩,-⟩:=(H.out.2 _ h1).keep hbel.out;exact⟨_,_,hcs⟩
    have hLne:∃ y,y∈L:=by
     cases L with
     | nil=>simp at hl3
     | cons y r=>exact⟨y,z6 ..⟩
    obtain⟨y0,hy0⟩:=hLne;obtain⟨⟨cx,hxb⟩,-⟩:=(H.out.2 _ hy0).keep hbel.out;have hMw:qgx wr r M:=hM.apart (S:=fun _=>False) (qag.keep hbel.out) fun h=>h;have hlk:=qex (P:=Tryz.prog) wr Tryz.underlying228 Tryz.underlying98 hjn (by rw[hjn2];decide) Tryz.zRowN hMw x hxb hg;cases hgp:getP M x with
    | none=>
     rw[hgp] at hlk;simp only[Option.getD_none] at hlk;have hnx:x ∉ L:=fun hx=>by
      obtain⟨i,hi,e⟩:=List.mem_iff_getElem.1 hx;by_cases hi3:i<3
      ·exact hno.out i hi3 hi e.symm
      ·have hd:x∈L.drop 3:=by
        rw[← e];exact List.mem_drop_iff_getElem.2 ⟨i - 3,by omega,by congr 1;omega⟩
       rw[← hMf] at hd;obtain⟨e',he',h2⟩:=zkb.1 hd;unfold getP at hgp;rw[Option.map_eq_none_iff,List.find?_eq_none] at hgp;have:=hgp e' he';simp[h2] at this
     clear hg hxb hMw
     go_wp2_with fail
     have Hbel:=hbel;obtain⟨wm,rfl⟩:∃ wm:World,wm=wr:=⟨_,rfl⟩;clear hlk
     go_loopw [34] (fun j wr=>j = .int .i64 ((0:Nat):Int)∧wr=wm) (fun j _=>1)
     case atStart=>exact⟨rfl,rfl⟩
     case round=>
      obtain⟨rfl,rfl⟩:=hrel
      go_wp2_with fail
      go_ret
      exact⟨by rw[qm3 hnx];rfl,Hbel.out⟩
    | some v=>
     rw[hgp] at hlk;simp only[Option.getD_some] at hlk;have hin:∃ ra rc,v = .slice ra 1 rc∧w.ownsRow 0 98 1 (.slice ra 1 rc) 1 [ptrV x]∧x∈L:=by
      unfold getP at hgp;obtain⟨e,h1,h2⟩:=zbb.1 hgp;have hem:=List.mem_of_find?_eq_some h1;have hex:e.1=x:=by have:=List.find?_some h1;simpa using this
      obtain⟨ra,rc,q1,q2⟩:=hMr e hem;rw[hex] at q2;exact⟨ra,rc,h2 ▸ q1,q2,List.mem_of_mem_drop (hMf ▸ zkb.2 ⟨e,hem,hex⟩)⟩
     obtain⟨ra,rc,rfl,hrow,hxL⟩:=hin;obtain⟨gb,o,rfl,hcell⟩:∃ gb o,ra=some ⟨gb,o,none⟩∧w.cell? ⟨gb,o,none⟩=some (ptrV x):=by
      obtain⟨_,_,he,-,h1,h2⟩:=qak hrow;cases he;cases ra with
      | none=>have:=(h2 rfl).1;omega
      | some ad=>obtain⟨g,rfl,-,-,hc⟩:=h1 ad rfl;exact⟨g,0,rfl,by have:=hc 0 _ rfl;simpa using this⟩
     have d4:=qac.below hbel.out _ _ hcell;have hgl:=zj wr _ d4;simp only at hgl;have HId:=hid (qda x x tx (tn x) wr ((H.out.2 _ hxL).keep hbel.out));rw[show(x==x)=true by simp] at HId;have HxL:=hid hxL;clear hg hxb hMw hrow hxL hgp
     go_wp2_with fail
     have Hbel:=hbel;obtain⟨wm,rfl⟩:∃ wm:World,wm=wr:=⟨_,rfl⟩;clear hlk
     go_loopw [34] (fun j wr=>j = .int .i64 ((0:Nat):Int)∧wr=wm) (fun j _=>1)
     case atStart=>exact⟨rfl,rfl⟩
     case round=>
      obtain⟨rfl,rfl⟩:=hrel
      go_wp2_with (go_at_call 99;refine HId.out.mono ?_;rintro e w2 ⟨rfl,hb2⟩;have Hb2:=hid hb2;clear hb2)
      go_ret
      exact⟨by rw[qf0 HxL.out];rfl,Hbel.out.trans (Hb2.out.mono Hbel.out.size)⟩
theorem qqg {P:Program} {a:Act} {o:Oper} {W W':World} {Kp:Value→World→Prop} {v u v':Value} (s x:Operand) (t:TypeId) (ho:o.op = .call { callee := .builtin .append,args:=#[s,x],argTypes:=#[t,t] }) (hs:a.eval s=v) (hx:a.eval x=u) (hr:(Builtin.append_ #[t,t] o.type #[v,u]).run P W = .ok v' W') (hk:Kp v' W'):MixR.Runs P Kp ((execOp a.eval o).run P W):=by
 unfold execOp;simp only[ho,resolve,invoke,builtin,Sem.run_bind,Sem.run_pure,Result.andThen_ok,List.map_toArray,List.map_cons,List.map_nil,hs,hx,hr];exact hk
def qmu (w:World) (b:Nat):Prop:=(∃ cs,Blk w b 230 cs)∨∃ es c,w.heap[b]?=some (.map es c)
theorem qah.one {S:Nat→Prop} {w w1 w2:World} {r:Nat} (h:qah S w w1) (k:qah (fun b=>b=r) w1 w2) (hr:r<w.heap.size→S r):qah S w w2:=
 ⟨k.os.trans h.os,k.tape.trans h.tape,k.output.trans h.output,⟨Nat.le_trans h.apart.size k.apart.size,fun b hb hn=>(k.apart.block b (by have:=h.apart.size;omega) (fun e=>hn (by rw[show b=r from e];exact hr (by rw[← show b=r from e];exact hb)))).trans (h.apart.block b hb hn)⟩⟩
theorem qeb.nil (w:World) (B:Nat) (hB:B≤w.heap.size):qeb B (w.alloc (.cells #[.pointer none,.pointer none,.pointer none,.map none] 230)) w.heap.size []:=
 ⟨hB,.map none,Blk.new _ _ _,.inl ⟨by simp,rfl⟩⟩
theorem qeb.keep {B:Nat} {w w':World} {sb:Nat} {L:List Nat} (h:qeb B w sb L) (hb:Below w.heap.size w w'):qeb B w' sb L:=by
 obtain⟨hg,m,h1,h2⟩:=h;refine⟨hg,m,h1.keep hb,?_⟩;rcases h2 with h2|⟨h2,r,M,q1,q2,q3,q4,q5⟩
 ·exact .inl h2
 ·exact .inr ⟨h2,r,M,q1,q2,q3.apart (S:=fun _=>False) (qag.keep hb) (fun h=>h),q4,fun e he=>by
   obtain⟨ra,rc,g1,g2⟩:=q5 e he;exact⟨ra,rc,g1,qab g2 (qag.keep (S:=fun _=>False) hb) (fun _ _ h=>h)⟩⟩
theorem qm0 {B sb x:Nat} {L:List Nat} {w:World} (hge:B≤sb) (hb:Blk w sb 230 [optP L 0,optP L 1,optP L 2,.map none]) (hl:L.length<3):qeb B (w.setCell ⟨sb,L.length,none⟩ (ptrV x)) sb (L++[x]):=by
 have h:=hb.set L.length (ptrV x);refine⟨hge,.map none,?_,.inl ⟨by simp;omega,rfl⟩⟩
 match L,hl with
 | [],_=>simpa[optP] using h
 | [a],_=>simpa[optP] using h
 | [a,b],_=>simpa[optP] using h
 | a::b::c::r,hl=>simp at hl;omega
theorem qv7 (B sb x:Nat) (L:List Nat) (w:World) (h:qeb B w sb L) (hB:B≤w.heap.size) (hx:∃ cs,Blk w x 140 cs) (hL:∀ y∈L,∃ cs,Blk w y 140 cs) (hn:x ∉ L):Calls Tryz.prog 110 #[ptrV sb,ptrV x] w fun e w'=>e = .returned (.tuple #[])∧Hid (qeb B w' sb (L++[x])∧Below B w w'∧qah (qmu w) w w'):=by
 obtain⟨hge,m,hb,hm⟩:=h;have Hb:=hid hb;have HxB:=hid hx;have HLB:=hid hL;have Hn:=hid hn;clear hx hL hn;have Hm:=hid hm;have c0:=hb.cell 0;have c1:=hb.cell 1;have c2:=hb.cell 2;have c3:=hb.cell 3;have f0:=hb.soft 0;have f1:=hb.soft 1;have f2:=hb.soft 2;have f3:=hb.soft 3;simp only[zu,zt] at c0 c1 c2 c3;have hbl:=hb.lt;have i0:=fun(p0 p1 p2:Value) (w:World)=>ix3_0 p0 p1 p2 w;have i1:=fun(p0 p1 p2:Value) (w:World)=>ix3_1 p0 p1 p2 w;have i2:=fun(p0 p1 p2:Value) (w:World)=>ix3_2 p0 p1 p2 w;clear hb hm;go_enter Tryz.func110,Tryz.ntmps110
 go_wp2_with fail
 go_loopw [11] (fun j wr=>∃ k:Nat,k≤3∧k≤L.length∧j = .int .i64 k∧wr=w) (fun j _=>3 - (intOf j).toNat)
 case atStart=>exact⟨0,by omega,by omega,rfl,rfl⟩
 case round=>
  obtain⟨k,hk,hkl,rfl,rfl⟩:=hrel;have hk3:k=0∨k=1∨k=2∨k=3:=by omega
  rcases hk3 with rfl|rfl|rfl|rfl
  ·skip
   by_cases hlk:0<L.length
   ·have hp:optP L 0=ptrV L[0]:=by simp[optP,zr hlk]
    obtain⟨y,hy⟩:∃ y,y=L[0]:=⟨_,rfl⟩;rw[← hy] at hp;rw[hp]
    go_wp2_with fail
    go_roundw
    case rel=>exact⟨0+1,by omega,by omega,rfl,trivial⟩
    case measure=>simp[intOf]
   ·have hp:optP L 0 = .pointer none:=by simp[optP,List.getElem?_eq_none (Nat.le_of_not_lt hlk)]
    have hle:L.length=0:=by omega
    rw[hp];have hmn:m = .map none:=by
     rcases Hm.out with ⟨-,h⟩|⟨h,-⟩
     ·exact h
     ·omega
    subst hmn
    go_wp2_with fail
    (try simp only[Exit.inBlock,Exit.then])
    refine bodyPost_ret (results_none rfl _ _ _) rfl ?_;have hs:=qm0 (x:=x) hge Hb.out (by omega);rw[hle] at hs;exact⟨rfl,hid ⟨hs,Below.setCell (zp _ _) hge _,qah.one (qah.refl _ _) ⟨rfl,rfl,rfl,⟨by simp,fun b _ hn=>Below.heap_setCell _ _ _ _ (fun e=>hn e)⟩⟩ fun _ => .inl ⟨_,Hb.out⟩⟩⟩
  ·skip
   by_cases hlk:1<L.length
   ·have hp:optP L 1=ptrV L[1]:=by simp[optP,zr hlk]
    obtain⟨y,hy⟩:∃ y,y=L[1]:=⟨_,rfl⟩;rw[← hy] at hp;rw[hp]
    go_wp2_with fail
    go_roundw
    case rel=>exact⟨1+1,by omega,by omega,rfl,trivial⟩
    case measure=>simp[intOf]
   ·have hp:optP L 1 = .pointer none:=by simp[optP,List.getElem?_eq_none (Nat.le_of_not_lt hlk)]
    have hle:L.length=1:=by omega
    rw[hp];have hmn:m = .map none:=by
     rcases Hm.out with ⟨-,h⟩|⟨h,-⟩
     ·exact h
     ·omega
    subst hmn
    go_wp2_with fail
    (try simp only[Exit.inBlock,Exit.then])
    refine bodyPost_ret (results_none rfl _ _ _) rfl ?_;have hs:=qm0 (x:=x) hge Hb.out (by omega);rw[hle] at hs;exact⟨rfl,hid ⟨hs,Below.setCell (zp _ _) hge _,qah.one (qah.refl _ _) ⟨rfl,rfl,rfl,⟨by simp,fun b _ hn=>Below.heap_setCell _ _ _ _ (fun e=>hn e)⟩⟩ fun _ => .inl ⟨_,Hb.out⟩⟩⟩
  ·skip
   by_cases hlk:2<L.length
   ·have hp:optP L 2=ptrV L[2]:=by simp[optP,zr hlk]
    obtain⟨y,hy⟩:∃ y,y=L[2]:=⟨_,rfl⟩;rw[← hy] at hp;rw[hp]
    go_wp2_with fail
    go_roundw
    case rel=>exact⟨2+1,by omega,by omega,rfl,trivial⟩
    case measure=>simp[intOf]
   ·have hp:optP L 2 = .pointer none:=by simp[optP,List.getElem?_eq_none (Nat.le_of_not_lt hlk)]
    have hle:L.length=2:=by omega
    rw[hp];have hmn:m = .map none:=by
     rcases Hm.out with ⟨-,h⟩|⟨h,-⟩
     ·exact h
     ·omega
    subst hmn
    go_wp2_with fail
    (try simp only[Exit.inBlock,Exit.then])
    refine bodyPost_ret (results_none rfl _ _ _) rfl ?_;have hs:=qm0 (x:=x) hge Hb.out (by omega);rw[hle] at hs;exact⟨rfl,hid ⟨hs,Below.setCell (zp _ _) hge _,qah.one (qah.refl _ _) ⟨rfl,rfl,rfl,⟨by simp,fun b _ hn=>Below.heap_setCell _ _ _ _ (fun e=>hn e)⟩⟩ fun _ => .inl ⟨_,Hb.out⟩⟩⟩
  ·obtain⟨jn,hjn,hjn2⟩:=zbb.1 Tryz.szNd;rcases Hm.out with ⟨hl3,rfl⟩|⟨hl3,r,M,rfl,hrB,hM,hMf,hMr⟩
   ·have hle:L.length=3:=by omega
    have qT:∀ (w:World) (r:Option Nat),(binOp .eql 228 (.map r) (.map none)).run Tryz.prog w = .ok (.bool r.isNone) w:=fun w r=>run_eql_map_nil w _ _ _ r Tryz.underlying228;have hmm:=@run_makeMap Tryz.prog;obtain⟨W8,hW8⟩:∃ W8,W8=(wr.setCell ⟨sb,3,none⟩ (.map (some wr.heap.size))).alloc (.map #[] 0):=⟨_,rfl⟩;have hz0:(wr.setCell ⟨sb,3,none⟩ (.map (some wr.heap.size))).heap.size=wr.heap.size:=by simp[World.setCell]
    obtain⟨M,hM0⟩:∃ M:List (Nat×Value),M=[]:=⟨_,rfl⟩;have HM:Hid (qgx W8 wr.heap.size M):=hid (by
     have h:=qgx.new (wr.setCell ⟨sb,3,none⟩ (.map (some wr.heap.size))) 0;rw[hz0] at h;rw[hW8,hM0];exact h)
    have hK:∀ {b:Nat} {cs:List Value},Blk wr b 140 cs→Blk W8 b 140 cs:=fun hb=>by
     rw[hW8];exact(hb.other (by intro e;exact hb.tne Hb.out (by decide) e) _).alloc _
    have Hb8:Hid (Blk W8 sb 230 [optP L 0,optP L 1,optP L 2,.map (some wr.heap.size)]):=hid (by rw[hW8];exact(Hb.out.set 3 _).alloc _);have HLB8:Hid (∀ y∈L,∃ cs,Blk W8 y 140 cs):=hid fun y hy=>by obtain⟨cs,hc⟩:=HLB.out y hy;exact⟨cs,hK hc⟩
    obtain⟨cx,hxb⟩:=HxB.out;have Hxb:=hid (hK hxb);have HB08:Hid (Below B wr W8):=hid (by rw[hW8];exact(Below.setCell (zp _ _) hge _).alloc (by rw[hz0];exact hB) _);have hlk:=qex (P:=Tryz.prog) W8 Tryz.underlying228 Tryz.underlying98 hjn (by rw[hjn2];decide) Tryz.zRowN HM.out x Hxb.out (fun e he=>by rw[hM0] at he;cases he);have Hgp:Hid (getP M x=none):=hid (by rw[hM0];rfl);rw[Hgp.out] at hlk;simp only[Option.getD_none] at hlk;have hrB:B≤wr.heap.size:=hB;have HT08:Hid (qah (qmu wr) wr W8):=hid (by
     rw[hW8];have h1:qah (qmu wr) wr (wr.setCell ⟨sb,3,none⟩ (.map (some wr.heap.size))):=qah.one (qah.refl _ _) ⟨rfl,rfl,rfl,⟨by simp,fun b _ hn=>Below.heap_setCell _ _ _ _ (fun e=>hn e)⟩⟩ fun _ => .inl ⟨_,Hb.out⟩;exact h1.trans (qah.keep ((zp _ _).alloc (zl _) _)))
    have hz8:W8.heap.size=wr.heap.size+1:=by rw[hW8];simp[World.setCell]
    have hB8:B≤W8.heap.size:=by omega
    have c38:W8.cell? ⟨sb,3,none⟩=some (.map (some wr.heap.size)):=Hb8.out.cell 3;have hMf:M.map (·.1)=L.drop 3:=by rw[hM0,List.drop_eq_nil_of_le (by omega)];rfl
    have hMr:∀ e∈M,∃ ra rc,e.2 = .slice ra 1 rc∧W8.ownsRow 0 98 1 (.slice ra 1 rc) 1 [ptrV e.1]:=fun e he=>by rw[hM0] at he;cases he
    rw[hW8] at hlk;clear hxb hK
    go_wp2_with fail
    rw[← hW8];clear hW8 hlk hM0;have hlk:True:=trivial;obtain⟨r,hr0⟩:∃ r,r=wr.heap.size:=⟨_,rfl⟩;rw[← hr0] at HM Hb8 hrB c38 ⊢;have HrS:Hid (r<wr.heap.size→qmu wr r):=hid fun h=>by rw[hr0] at h;exact absurd h (Nat.lt_irrefl _)
    have hbl1:sb<W8.heap.size+1:=by omega
    clear hr0;refine Mix.wp_region [0,1,2,3,4,5,6] [(7,false),(8,false)] [9] (fun _=>default) (by kernel_rfl) (by kernel_rfl) (by decide) ?_
    iterate 7 (first|(refine pre_yes rfl rfl ?_;apply Exists.intro;refine⟨fun W1 hW1 => ?_,?_⟩;(focus (have hc1:=(qal hW1).1;(try simp only[zd,qaa] at hc1);have hk1:=qac.below hW1;go_simp;first|exact rfl|fail));simp only[Act.put,zk,zh,zi,ze,zm,zn])|(refine pre_no rfl rfl ?_;simp only[Act.put,zk,zh,zi,ze,zm,zn]))
    refine pre_end (fl_op (fl_op fl_nil)) (fun W2 hW2 => ?_);have hz2:=zq hW2;(try simp only[zd,qaa] at hz2);refine mid_call hW2 rfl rfl (fun Kp hKp => ?_);go_simp;refine hKp _ _ ((zp _ _).alloc (zl _) _) fun W4 hW4 => ?_;simp only[Act.put,zk,zh,zi,ze,zm,zn];have hz4:=zq hW4;(try simp only[zd,qaa] at hz4);have hB4:=qa4 hW4 (qbl ((zp _ _).alloc (zl _) _) hW2 (by first|omega|(simp;done)|(simp;omega)));have hnb:=(Blk.new W2 98 [ptrV x]).keep hW4;refine mid_call hB4 rfl rfl (fun Kp2 hKp2 => ?_);obtain⟨ii,q1,q2,q3,q4⟩:=info_parts Tryz.infoPN;obtain⟨v5,W5,hr,hrow,hgr,hloc⟩:=qo6 (P:=Tryz.prog) W4 278 278 98 ii _ 1 8 Tryz.underlying278 q1 q2 q3 q4 rfl (by decide) (.slice none 0 0) 0 [] (zdb _ _ _ _) ⟨W2.heap.size,0,none⟩ 1 1 [ptrV x] rfl (fun j u hu=>by
     match j,hu with
     | 0,hu=>rw[Addr.add_lit,hnb.cell];exact hu
     | j+1,hu=>simp at hu) (by simp[Value.oneCell']) (by unfold maxLen;omega) (by omega) (by omega)
    have hB45:Below W4.heap.size W4 W5:=(zp _ _).grown hgr (zl _) (fun k h=>by cases h);refine qqg (.tmp 44) (.tmp 46) 278 rfl rfl rfl hr (hKp2 _ _ hB45 fun W6 hW6 => ?_);simp only[Act.put,zk,zh,zi,ze,zm,zn];have hz6:=zq hW6;(try simp only[zd,qaa] at hz6);have hB6:Below W8.heap.size W8 W6:=((zp _ _).drew).trans ((hB4.mono (by simp)).trans ((hB45.mono (by omega)).trans (hW6.mono (by have:=hB45.size;omega))));have HB6:=hid hB6;obtain⟨ra5,rc5,rfl,-⟩:=qak hrow;have HRow:Hid (W6.ownsRow 0 98 1 (.slice ra5 1 rc5) 1 [ptrV x]):=hid (by have:=qab hrow (qag.keep (S:=fun _=>False) hW6) (fun _ _ h=>h);simpa using this);have hgs6:∀ e∈M,∃ cg tg,W6.heap[e.1]?=some (.cells cg tg (0,0)):=fun e he=>by
     have h1:e.1∈L:=List.mem_of_mem_drop (hMf ▸ zkb.2 ⟨e,he,rfl⟩);obtain⟨cs,hcs⟩:=HLB8.out _ h1;exact⟨_,_,hcs.keep HB6.out⟩
    clear hW2 hW4 hB4 hnb hr hrow hgr hloc hB45 hW6 hB6 hKp hKp2 hlk;refine mid_nil (qco rfl ?_);refine qep W6 rfl (.tmp 42) (.tmp 43) (.tmp 47) rfl Tryz.underlying228 Tryz.underlying98 hjn (by rw[hjn2];decide) (r:=r) (L:=M) rfl (HM.out.apart (S:=fun _=>False) (qag.keep HB6.out) fun h=>h) x rfl _ rfl Hgp.out (Hxb.out.keep HB6.out) hgs6 fun w' hP hT => ?_
    go_wp2_with fail
    go_end0
    have hrm:∀ {b:Nat} {T:TypeId} {cs:List Value},Blk W6 b T cs→¬ b=r:=fun hb e=>by
     subst e;obtain⟨es,c,h1,-⟩:=HM.out;have h2:=HB6.out.block _ (zab.1 h1).1;unfold Blk at hb;rw[h2,h1] at hb;cases hb
    refine⟨rfl,hid ⟨⟨hge,.map (some r),?_,.inr ⟨by simp;omega,r,_,rfl,hrB,hP,?_,fun e he => ?_⟩⟩,(HB08.out.trans (HB6.out.mono hB8)).trans (hT.below (by have:=HB6.out.size;omega) fun b hb=>by rw[hb];exact hrB),(HT08.out.trans (qah.keep HB6.out)).one hT HrS.out⟩⟩
    ·have h1:=(Hb8.out.keep HB6.out).apart hT.apart (hrm (Hb8.out.keep HB6.out));have e:∀ i,i<3→optP (L++[x]) i=optP L i:=fun i hi=>by unfold optP;rw[List.getElem?_append_left (by omega)]
     rw[e 0 (by omega),e 1 (by omega),e 2 (by omega)];exact h1
    ·rw[List.map_append,hMf,List.drop_append_of_le_length (by omega)];rfl
    ·rcases zib.1 he with he|he
     ·obtain⟨ra,rc,g1,g2⟩:=hMr e he;have g3:=qab g2 (qag.keep (S:=fun _=>False) HB6.out) (fun _ _ h=>h);exact⟨ra,rc,g1,qab g3 hT.apart fun g hg=>hrm (qaf g3 hg).choose_spec⟩
     ·rw[zfb.1 he];exact⟨ra5,rc5,rfl,qab HRow.out hT.apart fun g hg=>hrm (qaf HRow.out hg).choose_spec⟩
   ·have hgs:∀ e∈M,∃ cg tg,wr.heap[e.1]?=some (.cells cg tg (0,0)):=fun e he=>by
     have h1:e.1∈L:=List.mem_of_mem_drop (hMf ▸ zkb.2 ⟨e,he,rfl⟩);obtain⟨cs,hcs⟩:=HLB.out _ h1;exact⟨_,_,hcs⟩
    have hgp:getP M x=none:=by
     unfold getP;rw[Option.map_eq_none_iff,List.find?_eq_none];intro e he h;have h1:e.1∈L:=List.mem_of_mem_drop (hMf ▸ zkb.2 ⟨e,he,rfl⟩);have h2:e.1=x:=by simpa using h
     exact Hn.out (h2 ▸ h1)
    obtain⟨cx,hxb⟩:=HxB.out;have hlk:=qex (P:=Tryz.prog) wr Tryz.underlying228 Tryz.underlying98 hjn (by rw[hjn2];decide) Tryz.zRowN hM x hxb hgs;rw[hgp] at hlk;simp only[Option.getD_none] at hlk;have HM:=hid hM;have Hgs:=hid hgs;have Hgp:=hid hgp;have Hxb:=hid hxb;have hrl:=hM.lt;have qT:∀ (w:World) (r:Option Nat),(binOp .eql 228 (.map r) (.map none)).run Tryz.prog w = .ok (.bool r.isNone) w:=fun w r=>run_eql_map_nil w _ _ _ r Tryz.underlying228;clear hM hgs hgp hxb
    go_wp2_with fail
    have hbl1:sb<wr.heap.size+1:=by omega
    have hB8:B≤wr.heap.size:=hB;have HB08:Hid (Below B wr wr):=hid (zp _ _);have HT08:Hid (qah (qmu wr) wr wr):=hid (qah.refl _ _);have HrS:Hid (r<wr.heap.size→qmu wr r):=hid fun _ => .inr (by obtain⟨es,c,h1,-⟩:=HM.out;exact⟨es,c,h1⟩);have Hb8:=Hb;have HLB8:=HLB;obtain⟨W8,rfl⟩:∃ W8:World,W8=wr:=⟨_,rfl⟩;refine Mix.wp_region [0,1,2,3,4,5,6] [(7,false),(8,false)] [9] (fun _=>default) (by kernel_rfl) (by kernel_rfl) (by decide) ?_
    iterate 7 (first|(refine pre_yes rfl rfl ?_;apply Exists.intro;refine⟨fun W1 hW1 => ?_,?_⟩;(focus (have hc1:=(qal hW1).1;(try simp only[zd,qaa] at hc1);have hk1:=qac.below hW1;go_simp;first|exact rfl|fail));simp only[Act.put,zk,zh,zi,ze,zm,zn])|(refine pre_no rfl rfl ?_;simp only[Act.put,zk,zh,zi,ze,zm,zn]))
    refine pre_end (fl_op (fl_op fl_nil)) (fun W2 hW2 => ?_);have hz2:=zq hW2;(try simp only[zd,qaa] at hz2);refine mid_call hW2 rfl rfl (fun Kp hKp => ?_);go_simp;refine hKp _ _ ((zp _ _).alloc (zl _) _) fun W4 hW4 => ?_;simp only[Act.put,zk,zh,zi,ze,zm,zn];have hz4:=zq hW4;(try simp only[zd,qaa] at hz4);have hB4:=qa4 hW4 (qbl ((zp _ _).alloc (zl _) _) hW2 (by first|omega|(simp;done)|(simp;omega)));have hnb:=(Blk.new W2 98 [ptrV x]).keep hW4;refine mid_call hB4 rfl rfl (fun Kp2 hKp2 => ?_);obtain⟨ii,q1,q2,q3,q4⟩:=info_parts Tryz.infoPN;obtain⟨v5,W5,hr,hrow,hgr,hloc⟩:=qo6 (P:=Tryz.prog) W4 278 278 98 ii _ 1 8 Tryz.underlying278 q1 q2 q3 q4 rfl (by decide) (.slice none 0 0) 0 [] (zdb _ _ _ _) ⟨W2.heap.size,0,none⟩ 1 1 [ptrV x] rfl (fun j u hu=>by
     match j,hu with
     | 0,hu=>rw[Addr.add_lit,hnb.cell];exact hu
     | j+1,hu=>simp at hu) (by simp[Value.oneCell']) (by unfold maxLen;omega) (by omega) (by omega)
    have hB45:Below W4.heap.size W4 W5:=(zp _ _).grown hgr (zl _) (fun k h=>by cases h);refine qqg (.tmp 44) (.tmp 46) 278 rfl rfl rfl hr (hKp2 _ _ hB45 fun W6 hW6 => ?_);simp only[Act.put,zk,zh,zi,ze,zm,zn];have hz6:=zq hW6;(try simp only[zd,qaa] at hz6);have hB6:Below W8.heap.size W8 W6:=((zp _ _).drew).trans ((hB4.mono (by simp)).trans ((hB45.mono (by omega)).trans (hW6.mono (by have:=hB45.size;omega))));have HB6:=hid hB6;obtain⟨ra5,rc5,rfl,-⟩:=qak hrow;have HRow:Hid (W6.ownsRow 0 98 1 (.slice ra5 1 rc5) 1 [ptrV x]):=hid (by have:=qab hrow (qag.keep (S:=fun _=>False) hW6) (fun _ _ h=>h);simpa using this);have hgs6:∀ e∈M,∃ cg tg,W6.heap[e.1]?=some (.cells cg tg (0,0)):=fun e he=>by
     have h1:e.1∈L:=List.mem_of_mem_drop (hMf ▸ zkb.2 ⟨e,he,rfl⟩);obtain⟨cs,hcs⟩:=HLB8.out _ h1;exact⟨_,_,hcs.keep HB6.out⟩
    clear hW2 hW4 hB4 hnb hr hrow hgr hloc hB45 hW6 hB6 hKp hKp2 hlk;refine mid_nil (qco rfl ?_);refine qep W6 rfl (.tmp 42) (.tmp 43) (.tmp 47) rfl Tryz.underlying228 Tryz.underlying98 hjn (by rw[hjn2];decide) (r:=r) (L:=M) rfl (HM.out.apart (S:=fun _=>False) (qag.keep HB6.out) fun h=>h) x rfl _ rfl Hgp.out (Hxb.out.keep HB6.out) hgs6 fun w' hP hT => ?_
    go_wp2_with fail
    go_end0
    have hrm:∀ {b:Nat} {T:TypeId} {cs:List Value},Blk W6 b T cs→¬ b=r:=fun hb e=>by
     subst e;obtain⟨es,c,h1,-⟩:=HM.out;have h2:=HB6.out.block _ (zab.1 h1).1;unfold Blk at hb;rw[h2,h1] at hb;cases hb
    refine⟨rfl,hid ⟨⟨hge,.map (some r),?_,.inr ⟨by simp;omega,r,_,rfl,hrB,hP,?_,fun e he => ?_⟩⟩,(HB08.out.trans (HB6.out.mono hB8)).trans (hT.below (by have:=HB6.out.size;omega) fun b hb=>by rw[hb];exact hrB),(HT08.out.trans (qah.keep HB6.out)).one hT HrS.out⟩⟩
    ·have h1:=(Hb8.out.keep HB6.out).apart hT.apart (hrm (Hb8.out.keep HB6.out));have e:∀ i,i<3→optP (L++[x]) i=optP L i:=fun i hi=>by unfold optP;rw[List.getElem?_append_left (by omega)]
     rw[e 0 (by omega),e 1 (by omega),e 2 (by omega)];exact h1
    ·rw[List.map_append,hMf,List.drop_append_of_le_length (by omega)];rfl
    ·rcases zib.1 he with he|he
     ·obtain⟨ra,rc,g1,g2⟩:=hMr e he;have g3:=qab g2 (qag.keep (S:=fun _=>False) HB6.out) (fun _ _ h=>h);exact⟨ra,rc,g1,qab g3 hT.apart fun g hg=>hrm (qaf g3 hg).choose_spec⟩
     ·rw[zfb.1 he];exact⟨ra5,rc5,rfl,qab HRow.out hT.apart fun g hg=>hrm (qaf HRow.out hg).choose_spec⟩
theorem qri (v:Value) (a:Option Addr) (n c:Nat) (hv:v = .slice a n c) (hn:n≤1) (w:World):Calls Tryz.prog 116 #[v] w fun e w'=>e = .returned v∧w'=w:=by
 subst hv;have hn':(n:Int)≤1:=by omega
 go_enter Tryz.func116,Tryz.ntmps116
 go_wp2_with fail
 go_ret
 exact⟨rfl,rfl⟩
theorem qpd (W:Wd) {l:List En} (h:l.length≤1):qbc W l=l:=by
 match l,h with
 | [],_=>rfl
 | [e],_=>simp[qbc,conS]
theorem qou {F:Fix} {P:Nat→Nat} {w0:World} {s:St} {w:World} (A:Amb F P w0 s w) {sp:Spot} {v:Value} (hd:DenW F s w sp v) (hs:SpO F.W P sp):
  ∃ T x,(∀ w',Below w.heap.size w w'→Calls Tryz.prog 108 #[v] w' (fun e w2=>e = .returned (.tuple #[.iface T (.pointer (some x)),.bool (drf F.W sp).2])∧w2=w'))∧DenW F s w (drf F.W sp).1 (.iface T (.pointer (some x)))∧SpO F.W P (drf F.W sp).1∧op P (drf F.W sp).1.of≤op P sp.of:=by
 obtain⟨u,hu⟩:=A.plainv hd hs;obtain⟨sp1,sp2⟩:=hs.toPlain A.wd;have hk1:(pl F.W sp).of.kind=(plain F.W sp).of.kind:=qfn _;unfold drf;split
 next hk=>
  obtain⟨b,z,e,h1,h2⟩:=Den.ptr hu.den (by rw[hk1];exact hk);have e1:pl F.W sp=plain F.W sp:=qgb (by omega);rw[e1] at h2;have hse:=sp1.elem (.inl hk);have hz:=A.plainv h2 hse.1;have hty:∃ T x,z = .iface T (.pointer (some x)):=by
   obtain⟨uz,hz⟩:=hz;obtain⟨⟨T,x,e3,-⟩,h3⟩:=hz.plain;rcases h3 with h3|⟨al,h3,-⟩
   ·exact⟨T,x,by rw[h3,e3]⟩
   ·exact⟨_,_,h3⟩
  obtain⟨T,x,rfl⟩:=hty;exact⟨T,x,fun w' hb=>qn2 v b T (some x) w' (by rw[← e];exact hu.plain.keep hb) (qac.below hb _ _ (qax h1)),h2,hse.1,by show op P (qaq _).of≤_;omega⟩
 next hk=>
  obtain⟨b,e,-⟩:=hu.ty A;have hT:kT (pl F.W sp).of.kind≠145:=fun e2=>by
   have:=qki (b:=2) hu.spo.kinds (by omega) (e2.trans rfl);rw[hk1] at this;exact hk this
  have hp:=hu.plain;rw[e] at hp;have hty:∃ T x,v = .iface T (.pointer (some x)):=by
   obtain⟨-,h3|⟨al,h3,-⟩⟩:=hp
   ·exact⟨_,_,h3⟩
   ·exact⟨_,_,h3⟩
  have hcall:=fun(w':World) (hb:Below w.heap.size w w')=>qqu v (kT (pl F.W sp).of.kind) ⟨b,0,none⟩ w' hT (hp.keep hb);obtain⟨T,x,rfl⟩:=hty;exact⟨T,x,hcall,hd,hs,zl _⟩
theorem PlV.key {F:Fix} {P:Nat→Nat} {w0:World} {s:St} {w:World} (A:Amb F P w0 s w) {sp:Spot} {v u:Value} (h:PlV F P s w sp v u):∃ k,v=tyV k∧TyIn w k:=by
 obtain⟨b,e,hi⟩:=h.ty A;obtain⟨-,h3|⟨al,h3,-⟩⟩:=h.plain
 ·exact⟨_,h3.trans e,hi⟩
 ·obtain⟨a,b,c,hb⟩:=h.alB al h3;exact⟨(103,al),h3,by unfold KeyT;simp,_,_,hb⟩
def nbOf (F:Fix) (d:Nat):Nat:=match F.tb d with
 | some (.iface _ (.pointer (some x)))=>x.block
 | _=>0
theorem qis {F:Fix} {s:St} {w:World} {d b tn:Nat} {U:TypeId} {ux:Addr} {ra:Option Addr} {rc:Nat} {fs:List Nat} (h:qbz F s w d b tn U ux ra rc fs):nbOf F d=b:=by
 unfold nbOf;rw[h.tb]
def NdS (W:Wd) (S:List Nat):Prop:=S.Nodup∧∀ d∈S,d<W.length∧(dc W d).alias=false
theorem qp9 {F:Fix} {P:Nat→Nat} {w0:World} {s:St} {w:World} (A:Amb F P w0 s w) {d e:Nat} (hd:d<F.W.length∧(dc F.W d).alias=false) (he:e<F.W.length∧(dc F.W e).alias=false):∃ tx ty,qfw w (nbOf F d) (nbOf F e) tx ty∧(nbOf F d=nbOf F e↔d=e):=by
 obtain⟨b1,tn1,U1,ux1,ra1,rc1,fs1,q1⟩:=(A.bt.set d hd.1).nd hd.2;obtain⟨b2,tn2,U2,ux2,ra2,rc2,fs2,q2⟩:=(A.bt.set e he.1).nd he.2;rw[qis q1,qis q2];have hbd:b1=b2→d=e:=fun h=>by
  exact A.bt.inj d e _ q1.tb (by rw[h];exact q2.tb)
 refine⟨tn1,tn2,⟨⟨_,q1.blk⟩,⟨_,q2.blk⟩,⟨_,q1.tnB⟩,⟨_,q2.tnB⟩,⟨fun h => ?_,fun h => ?_⟩⟩,hbd,fun h => ?_⟩
 ·have k1:=q1.tnB.cell 3;have k2:=q2.tnB.cell 3;rw[h,k2] at k1;simp only[zu,zt] at k1;cases k1;rfl
 ·have k1:=q1.blk.cell 1;have k2:=q2.blk.cell 1;rw[h,k2] at k1;simp only[zu,zt] at k1;cases k1;rfl
 ·subst h;have t1:=q1.tb;rw[q2.tb] at t1;cases t1;rfl
theorem qw7 {F:Fix} {P:Nat→Nat} {w0:World} {s:St} {w:World} (A:Amb F P w0 s w) {S:List Nat} (hS:NdS F.W S) {d:Nat} (hd:d<F.W.length∧(dc F.W d).alias=false):nbOf F d∈S.map (nbOf F)↔d∈S:=by
 constructor
 ·intro h;obtain⟨e,he,h1⟩:=zkb.1 h;obtain⟨-,-,-,h2⟩:=qp9 A (hS.2 e he) hd;rw[← h2.1 h1];exact he
 ·intro h;exact zkb.2 ⟨d,h,rfl⟩
structure qnz (F:Fix) (P:Nat→Nat) (s:St) (wB w:World) (g:Nat) (es:List En):Prop where
 blk:∃ cs,Blk w g 225 cs
 at_:∀ i (hi:i<es.length),EnAt F P s wB w g (i * 4) es[i]
theorem qnz.apart {F:Fix} {P:Nat→Nat} {s:St} {wB w w':World} {g:Nat} {es:List En} {S:Nat→Prop} (h:qnz F P s wB w g es) (ha:qag S w w') (hg:¬ S g) (hS:∀ b cs,Blk w b 3 cs→¬ S b):qnz F P s wB w' g es:=by
 obtain⟨cs,hc⟩:=h.blk;exact⟨⟨cs,hc.apart ha hg⟩,fun i hi=>(h.at_ i hi).apart ha hg hS⟩
structure NxAt (F:Fix) (P:Nat→Nat) (s:St) (wB w:World) (a:Option Addr) (c:Nat) (es:List En) (cells:List Value):Prop where
 own:w.ownsRow 0 225 4 (.slice a es.length c) es.length cells
 at_:∀ i (hi:i<es.length),∃ g,a=some ⟨g,0,none⟩∧EnAt F P s wB w g (i * 4) es[i]
theorem NxAt.nil (F:Fix) (P:Nat→Nat) (s:St) (wB w:World):NxAt F P s wB w none 0 [] []:=⟨zdb _ _ _ _,fun i hi=>by simp at hi⟩
theorem NxAt.apart {F:Fix} {P:Nat→Nat} {s:St} {wB w w':World} {a:Option Addr} {c:Nat} {es:List En} {cells:List Value} {S:Nat→Prop} (h:NxAt F P s wB w a c es cells) (ha:qag S w w') (hS:∀ b T cs,Blk w b T cs→T=3∨T=225→¬ S b):NxAt F P s wB w' a c es cells:=by
 refine⟨qab h.own ha fun g hg => ?_,fun i hi => ?_⟩
 ·obtain⟨cs,hc⟩:=qaf h.own hg;exact hS g _ cs hc (.inr rfl)
 ·obtain⟨g,e,q⟩:=h.at_ i hi;refine⟨g,e,q.apart ha ?_ fun b cs hb=>hS b _ cs hb (.inl rfl)⟩;subst e;obtain⟨cs,hc⟩:=qaf h.own (g:=g) rfl;exact hS g _ cs hc (.inr rfl)
theorem NxAt.keep {F:Fix} {P:Nat→Nat} {s:St} {wB w w':World} {a:Option Addr} {c:Nat} {es:List En} {cells:List Value} (h:NxAt F P s wB w a c es cells) (hb:Below w.heap.size w w'):NxAt F P s wB w' a c es cells:=
 h.apart (S:=fun _=>False) (qag.keep hb) (fun _ _ _ _ _ h=>h)
theorem qnz.keep {F:Fix} {P:Nat→Nat} {s:St} {wB w w':World} {g:Nat} {es:List En} (h:qnz F P s wB w g es) (hb:Below w.heap.size w w'):qnz F P s wB w' g es:=
 h.apart (S:=fun _=>False) (qag.keep hb) (fun h=>h) (fun _ _ _ h=>h)
end Go.Proofs.YtmfhclggkjjcdaaGreatDoor
namespace Go.Proofs.YtmfhclggkjjcdaaGreatDoor
open Go Go.RowKit
def plD (W:Wd) (d:Nat):Spot:=pl W (ndS d)
theorem pl_nd {W:Wd} {s:Spot} (hk:s.of.kind=1):pl W s=plD W s.of.num.toNat:=by
 unfold plD pl plain qfy;have e1:(ndS s.of.num.toNat).of.kind=1:=rfl;have e2:(ndS s.of.num.toNat).of.num.toNat=s.of.num.toNat:=Int.toNat_natCast _;rw[e1,e2,hk];split
 ·rfl
 ·rw[qly hk,qly e1,e2]
def Emb (W:Wd) (e:En):Prop:=∃ d,d<W.length∧e.to=plD W d
theorem qvp {W:Wd} {P:Nat→Nat} (hW:WdO W P) {s:Spot} (hs:SpO W P s) (h:(plain W s).of.kind=2):(qae W s).of.kind=2:=by
 rw[← qfm hW.by_ hs.numOk,qdu (by omega)];exact h
theorem sub_emb {W:Wd} {P:Nat→Nat} (hW:WdO W P) {e:En} {u:Spot} (hu:SpO W P u) (hk:u.of.kind=4) {i:Nat} (hi:i<u.of.fields.length) (he:(u.of.fields.getD i fd0).embedded=true):Emb W (subE W e u i):=by
 have hok:=hu.embOk hi he;obtain⟨hf,-⟩:=hu.field hk hi;obtain⟨d,val,hfo⟩:=hu.fo;have hg:u.of.fields.getD i fd0=u.of.fields[i]:=by simp[hi]
 have hnm:=((hfo.k4 hk).2.2.2.2.get i hi).2.1 (by rw[← hg];exact he);have e1:(qao u i).of=u.of.fields[i].of:=by simp only[qao,hg]
 unfold subE Emb;unfold qdo at hok;simp only at hok;rcases hnm.2 with hk1|⟨hk2,hl,hk1⟩
 ·have hk1':(qao u i).of.kind=1:=by rw[e1];exact hk1
  rw[if_neg (by omega)] at hok;have h2:¬ (plain W (qao u i)).of.kind=2:=fun h=>hok.1 (qvp hW hf h);refine⟨(qao u i).of.num.toNat,by have:=hf.numOk hk1';omega,?_⟩;simp only[drf,if_neg h2];exact pl_nd hk1'
 ·have hk2':(qao u i).of.kind=2:=by rw[e1];exact hk2
  have hp:plain W (qao u i)=qao u i:=qbg fun e=>by omega
  have hk1':(qaq (qao u i)).of.kind=1:=by
   simp only[qaq,e1];exact hk1
  refine⟨(qaq (qao u i)).of.num.toNat,by have:=(hf.elem (.inl hk2')).1.numOk hk1';omega,?_⟩;simp only[drf,hp,if_pos hk2'];exact pl_nd hk1'
theorem qwr {W:Wd} {acc:List En} {e x:En} (h:x∈conS W acc e):(∃ y∈acc,y.to=x.to∧y.ix=x.ix)∨x=e:=by
 unfold conS at h;split at h
 next i _=>
  obtain⟨j,hj,rfl⟩:=List.mem_iff_getElem.1 h;have hj':j<acc.length:=by simpa using hj
  rw[List.getElem_modify];left;refine⟨acc[j],z8 hj',?_⟩;split <;> exact⟨rfl,rfl⟩
 ·rcases zib.1 h with h|h
  ·exact .inl ⟨x,h,rfl,rfl⟩
  ·exact .inr (zfb.1 h)
theorem qot {W:Wd} {l:List En} {x:En} (h:x∈qbc W l):∃ y∈l,y.to=x.to∧y.ix=x.ix:=by
 have key:∀ (l acc:List En),x∈l.foldl (conS W) acc→(∃ y∈acc,y.to=x.to∧y.ix=x.ix)∨∃ y∈l,y.to=x.to∧y.ix=x.ix:=by
  intro l
  induction l with
  | nil=>intro acc h;exact .inl ⟨x,h,rfl,rfl⟩
  | cons e r ih=>
   intro acc h;rcases ih _ h with ⟨y,h1,h2⟩|⟨y,h1,h2⟩
   ·rcases qwr h1 with ⟨z,q1,q2,q3⟩|q
    ·exact .inl ⟨z,q1,q2.trans h2.1,q3.trans h2.2⟩
    ·exact .inr ⟨e,z6 ..,by rw[← q];exact h2⟩
   ·exact .inr ⟨y,zy _ h1,h2⟩
 rcases key l [] h with ⟨y,h1,-⟩|h
 ·cases h1
 ·exact h
theorem conS_ne {W:Wd} {acc:List En} {e:En} (h:acc.Pairwise fun a b=>can W a.to≠can W b.to):(conS W acc e).Pairwise fun a b=>can W a.to≠can W b.to:=by
 unfold conS;split
 next i _=>
  rw[List.pairwise_iff_getElem] at h ⊢;intro a b ha hb hab;have ha':a<acc.length:=by simpa using ha
  have hb':b<acc.length:=by simpa using hb
  have:=h a b ha' hb' hab;rw[List.getElem_modify,List.getElem_modify];split <;> split <;> exact this
 next hn=>
  rw[List.pairwise_append];refine⟨h,List.pairwise_singleton _ _,fun a ha b hb => ?_⟩;rw[zfb] at hb;subst hb;rw[List.findIdx?_eq_none_iff] at hn;simpa using hn a ha
theorem qwt {W:Wd} (l:List En):(qbc W l).Pairwise fun a b=>can W a.to≠can W b.to:=by
 have key:∀ (l acc:List En),acc.Pairwise (fun a b=>can W a.to≠can W b.to)→(l.foldl (conS W) acc).Pairwise fun a b=>can W a.to≠can W b.to:=by
  intro l
  induction l with
  | nil=>intro acc h;exact h
  | cons e r ih=>intro acc h;exact ih _ (conS_ne h)
 exact key l [] List.Pairwise.nil
theorem qvb {W:Wd} {l:List En} (h:∀ e∈l,Emb W e):(qbc W l).length≤W.length:=by
 have h1:∀ e:En,∃ d:Nat,e∈qbc W l→d<W.length∧e.to=plD W d:=fun e=>by
  by_cases he:e∈qbc W l
  ·obtain⟨y,hy,e1,-⟩:=qot he;obtain⟨d,q1,q2⟩:=h y hy;exact⟨d,fun _=>⟨q1,e1 ▸ q2⟩⟩
  ·exact⟨0,fun h=>absurd h he⟩
 obtain⟨f,hf⟩:=Classical.skolem.1 h1;have:=qfk W.length ((qbc W l).map f) (by
  unfold List.Nodup;rw[List.pairwise_map];refine List.Pairwise.imp_of_mem (fun {a b} ha hb hab e=>hab ?_) (qwt l);rw[(hf a ha).2,(hf b hb).2,e]) fun x hx=>by
   obtain⟨e,he,rfl⟩:=zkb.1 hx;exact(hf e he).1
 simpa using this
theorem qkc {W:Wd} {l:List En} (Q:En→Prop) (hQ:∀ a b:En,a.to=b.to→a.ix=b.ix→Q a→Q b) (h:∀ e∈l,Q e):∀ e∈qbc W l,Q e:=fun e he=>by
 obtain⟨y,hy,e1,e2⟩:=qot he;exact hQ y e e1 e2 (h y hy)
def mxE (P:Nat→Nat):List En→Nat
 | []=>0
 | e::r=>max (op P e.to.of) (mxE P r)
theorem qpu {P:Nat→Nat}:∀ {l:List En} {e:En},e∈l→op P e.to.of≤mxE P l
 | x::r,e,h=>by
  simp only[mxE];rcases zgb.1 h with rfl|h
  ·omega
  ·have:=qpu (P:=P) h;omega
theorem qw3 {P:Nat→Nat} {n:Nat}:∀ {l:List En},(∀ e∈l,op P e.to.of<n)→0<n→mxE P l<n
 | [],_,h=>h
 | e::r,h,h0=>by
  simp only[mxE];have h1:=h e (z6 ..);have h2:=qw3 (l:=r) (fun x hx=>h x (zy _ hx)) h0;omega
theorem qw6 {P:Nat→Nat} {n:Nat}:∀ {l:List En},(∀ e∈l,op P e.to.of≤n)→mxE P l≤n
 | [],_=>Nat.zero_le _
 | e::r,h=>by
  simp only[mxE];have h1:=h e (z6 ..);have h2:=qw6 (l:=r) (fun x hx=>h x (zy _ hx));omega
def qsg (W:Wd) (P:Nat→Nat) (cur:List En) (S:List Nat):Nat:=(W.length - S.length) * 2003+mxE P cur
structure NxOk (W:Wd) (P:Nat→Nat) (cur:List En) (S:List Nat) (nx:List En) (S':List Nat) (lv:Nat):Prop where
 nds:NdS W S'
 len:S.length≤S'.length
 emb:∀ e∈nx,Emb W e
 le:∀ e∈nx,op P e.to.of≤2001
 lt:S.length<S'.length∨∀ e∈nx,op P e.to.of<mxE P cur
 ix:∀ e∈nx,e.ix.length≤lv+1
theorem NxOk.meas {W:Wd} {P:Nat→Nat} {cur:List En} {S:List Nat} {nx:List En} {S':List Nat} {lv:Nat} (h:NxOk W P cur S nx S' lv) (hc:0<mxE P cur):qsg W P (qbc W nx) S'<qsg W P cur S:=by
 have h1:=qfk W.length S' h.nds.1 fun x hx=>(h.nds.2 x hx).1;have h2:=h.len;unfold qsg;rcases h.lt with h3|h3
 ·have h4:mxE P (qbc W nx)≤2001:=qw6 (qkc (fun e=>op P e.to.of≤2001) (fun a b e1 _ h=>by rw[← e1];exact h) h.le);have:(W.length - S'.length)+1≤W.length - S.length:=by omega
  have:=Nat.mul_le_mul_right 2003 this;omega
 ·have h4:mxE P (qbc W nx)<mxE P cur:=qw3 (qkc (fun e=>op P e.to.of<mxE P cur) (fun a b e1 _ h=>by rw[← e1];exact h) h3) hc;have:(W.length - S'.length)≤W.length - S.length:=by omega
  have:=Nat.mul_le_mul_right 2003 this;omega
theorem NxOk.start {W:Wd} {P:Nat→Nat} {cur:List En} {S:List Nat} {lv:Nat} (h:NdS W S):NxOk W P cur S [] S lv:=
 ⟨h,zl _,fun e he=>(by cases he),fun e he=>(by cases he),.inr fun e he=>(by cases he),fun e he=>(by cases he)⟩
theorem NxOk.seen {W:Wd} {P:Nat→Nat} {cur:List En} {S:List Nat} {nx:List En} {S':List Nat} {lv:Nat} (h:NxOk W P cur S nx S' lv) {d:Nat} (hd:d<W.length∧(dc W d).alias=false) (hn:d ∉ S'):NxOk W P cur S nx (S'++[d]) lv∧S.length<(S'++[d]).length:=by
 have hl:S.length<(S'++[d]).length:=by have:=h.len;simp;omega
 refine⟨⟨⟨?_,fun x hx => ?_⟩,by omega,h.emb,h.le,.inl hl,h.ix⟩,hl⟩
 ·rw[List.nodup_append];exact⟨h.nds.1,by simp,fun a ha b hb e=>by rw[zfb] at hb;subst hb;subst e;exact hn ha⟩
 ·rcases zib.1 hx with hx|hx
  ·exact h.nds.2 x hx
  ·rw[zfb.1 hx];exact hd
theorem drf_op {W:Wd} {P:Nat→Nat} (hW:WdO W P) {s:Spot} (hs:SpO W P s):SpO W P (drf W s).1∧op P (drf W s).1.of≤op P s.of:=by
 obtain⟨q1,q2⟩:=hs.toPlain hW;unfold drf;split
 next h=>
  have:=q1.elem (.inl h);exact⟨this.1,by show op P (qaq _).of≤_;omega⟩
 ·exact⟨hs,zl _⟩
theorem NxOk.add {W:Wd} {P:Nat→Nat} (hW:WdO W P) {cur:List En} {S:List Nat} {nx:List En} {S':List Nat} {lv:Nat} (h:NxOk W P cur S nx S' lv) {e:En} (he:e∈cur) (hs:SpO W P e.to) (hk:(qae W e.to).of.kind=4) {i:Nat} (hi:i<(qae W e.to).of.fields.length) (hem:((qae W e.to).of.fields.getD i fd0).embedded=true)
  (hn:e.to.of.kind=1→S.length<S'.length) (hl:e.ix.length≤lv):NxOk W P cur S (nx++[subE W e (qae W e.to) i]) S' lv:=by
 have hu:=hs.toUnder hW;obtain⟨hf,hlt⟩:=hu.field hk hi;obtain⟨q1,q2⟩:=drf_op hW hf;obtain⟨q3,q4⟩:=q1.toPl hW;have hop:op P (subE W e (qae W e.to) i).to.of<op P (qae W e.to).of:=by
  show op P (pl W (drf W (qao (qae W e.to) i)).1).of<_;omega
 refine⟨h.nds,h.len,fun x hx => ?_,fun x hx => ?_,?_,fun x hx => ?_⟩
 ·rcases zib.1 hx with hx|hx
  ·exact h.emb x hx
  ·rw[zfb.1 hx];exact sub_emb hW hu hk hi hem
 ·rcases zib.1 hx with hx|hx
  ·exact h.le x hx
  ·rw[zfb.1 hx];have:=hu.sz;omega
 ·by_cases hk1:e.to.of.kind=1
  ·exact .inl (hn hk1)
  ·rcases h.lt with h3|h3
   ·exact .inl h3
   ·refine .inr fun x hx => ?_;rcases zib.1 hx with hx|hx
    ·exact h3 x hx
    ·rw[zfb.1 hx];have h4:=qpu (P:=P) he;rw[qdu hk1] at hop ⊢;omega
 ·rcases zib.1 hx with hx|hx
  ·exact h.ix x hx
  ·rw[zfb.1 hx];show(e.ix++[i]).length≤_;simp;omega
theorem qpf {W:Wd} {P:Nat→Nat} (hW:WdO W P) {s:Spot} (hs:SpO W P s):s.of.fields.length≤2000:=by
 have h1:=hs.sz;have h2:∀ l:List Fd,l.length≤opF P l:=by
  intro l
  induction l with
  | nil=>exact Nat.zero_le _
  | cons f r ih=>
   obtain⟨n,e,t⟩:=f;have:=qqe P hW.pos t;simp only[opF,List.length_cons];omega
 have h3:=h2 s.of.fields;have h4:opF P s.of.fields+1≤op P s.of:=by
  generalize s.of=t
  obtain⟨k,n,el,fs,ms,em⟩:=t;have hp:=hW.pos n.toNat;simp only[op,Ty.fields];split <;> omega
 omega
def seenN (e:En) (S:List Nat):List Nat:=if e.to.of.kind=1 then S++[e.to.of.num.toNat] else S
theorem qux {W:Wd} {q m:Int} {e:En} {r:List En} {st:Option Hi×List En} {S:List Nat} (hk:e.to.of.kind=1) (hd:e.to.of.num.toNat∈S):ents W q m (e::r) st S=ents W q m r st S:=by
 conv=>lhs;unfold ents
 rw[if_pos ⟨hk,hd⟩]
theorem qsq {W:Wd} {q m:Int} {e:En} {r:List En} {h:Option Hi} {nx:List En} {S:List Nat} (hk:e.to.of.kind=1) (hd:e.to.of.num.toNat ∉ S) {i:Nat} (hi:qey W e.to.of.num.toNat q m=some i):ents W q m (e::r) (h,nx) S=
  match qgu e h i (start W e.to.of.num.toNat+i) true ((dc W e.to.of.num.toNat).methods.getD i ⟨0,false⟩).ptr with
  | .ok h=>ents W q m r (h,nx) (S++[e.to.of.num.toNat])
  | .error x => .error x:=by
 conv=>lhs;unfold ents
 rw[if_neg (fun h=>hd h.2)];unfold entS;rw[if_pos hk,hi];simp only;cases qgu e h i (start W e.to.of.num.toNat+i) true ((dc W e.to.of.num.toNat).methods.getD i ⟨0,false⟩).ptr with
 | ok h=>simp only[if_pos hk]
 | error x=>rfl
theorem qws {W:Wd} {q m:Int} {e:En} {r:List En} {st:Option Hi×List En} {S:List Nat} (hn:e.to.of.kind=1→e.to.of.num.toNat ∉ S∧qey W e.to.of.num.toNat q m=none):ents W q m (e::r) st S=
  match typS W q m e st with
  | .ok st=>ents W q m r st (seenN e S)
  | .error x => .error x:=by
 conv=>lhs;unfold ents
 rw[if_neg (fun h=>(hn h.1).1 h.2)];have h1:(if e.to.of.kind=1 then qey W e.to.of.num.toNat q m else none)=none:=by
  split
  next h=>exact(hn h).2
  ·rfl
 unfold entS;rw[h1];unfold seenN;rfl
theorem qu1 {W:Wd} {q m:Int} {e:En} {st:Option Hi×List En} (hk:(qae W e.to).of.kind=4):typS W q m e st=flds W q m e (qae W e.to) (qae W e.to).of.fields.length 0 st:=by
 unfold typS;rw[if_pos hk]
theorem qvm {W:Wd} {q m:Int} {e:En} {h:Option Hi} {nx:List En} (hk:(qae W e.to).of.kind=5) {i:Nat} (hi:qhz (qih (msL W (qae W e.to))) q m=some i):typS W q m e (h,nx)=
  match qgu e h i ((msL W (qae W e.to)).getD i mn0).k true false with
  | .ok h => .ok (h,nx)
  | .error x => .error x:=by
 unfold typS;rw[if_neg (by omega),if_pos hk,hi];rfl
theorem qsx {W:Wd} {q m:Int} {e:En} {st:Option Hi×List En} (hk:(qae W e.to).of.kind≠4) (hi:(qae W e.to).of.kind=5→qhz (qih (msL W (qae W e.to))) q m=none):typS W q m e st = .ok st:=by
 unfold typS;rw[if_neg hk];split
 next h=>rw[hi h]
 ·rfl
theorem qmx {e:En} {i k:Nat} {met ptr:Bool} (hm:e.mul=false):qgu e none i k met ptr = .ok (some ⟨k,met,ptr,e.ix++[i],e.ind⟩):=by
 simp[qgu,hm]
theorem qe7 {e:En} {h:Option Hi} {i k:Nat} {met ptr:Bool} (hm:h.isSome=true∨e.mul=true):qgu e h i k met ptr = .error (e.ix++[i]):=by
 unfold qgu;rw[if_pos (by rcases hm with h|h <;> simp[h])]
theorem flds_end {W:Wd} {q m:Int} {e:En} {u:Spot} {i:Nat} {st:Option Hi×List En}:flds W q m e u 0 i st = .ok st:=rfl
theorem qv8 {W:Wd} {q m:Int} {e:En} {u:Spot} {n i:Nat} {h:Option Hi} {nx:List En} (hs:qbp u.pkg (fname W (u.of.fields.getD i fd0)) q m=true):flds W q m e u (n+1) i (h,nx)=
  match qgu e h i (qe0 u i) false false with
  | .ok h=>flds W q m e u n (i+1) (h,nx)
  | .error x => .error x:=by
 conv=>lhs;unfold flds fldS
 rw[if_pos hs];simp only;cases qgu e h i (qe0 u i) false false <;> rfl
theorem qwy {W:Wd} {q m:Int} {e:En} {u:Spot} {n i:Nat} {nx:List En} (hs:qbp u.pkg (fname W (u.of.fields.getD i fd0)) q m=false) (he:(u.of.fields.getD i fd0).embedded=true):flds W q m e u (n+1) i (none,nx)=flds W q m e u n (i+1) (none,nx++[subE W e u i]):=by
 conv=>lhs;unfold flds fldS
 rw[if_neg (by rw[hs];decide),if_pos (by rw[he];rfl)]
theorem flds_no {W:Wd} {q m:Int} {e:En} {u:Spot} {n i:Nat} {h:Option Hi} {nx:List En} (hs:qbp u.pkg (fname W (u.of.fields.getD i fd0)) q m=false) (he:h.isSome=true∨(u.of.fields.getD i fd0).embedded=false):flds W q m e u (n+1) i (h,nx)=flds W q m e u n (i+1) (h,nx):=by
 conv=>lhs;unfold flds fldS
 rw[if_neg (by rw[hs];decide),if_neg (by rcases he with he|he <;> cases h <;> simp_all)]
theorem lvs_nil {W:Wd} {addr:Bool} {q m:Int} {n:Nat} {S:List Nat}:lvs W addr q m n [] S=⟨none,[],false⟩:=by
 cases n with
 | zero=>rfl
 | succ n=>unfold lvs;rw[if_pos rfl]
theorem lvs_err {W:Wd} {addr:Bool} {q m:Int} {n:Nat} {cur:List En} {S x:List Nat} (hc:cur≠[]) (h:ents W q m cur (none,[]) S = .error x):lvs W addr q m (n+1) cur S=⟨none,x,false⟩:=by
 unfold lvs;rw[if_neg hc,h]
theorem lvs_hit {W:Wd} {addr:Bool} {q m:Int} {n:Nat} {cur nx:List En} {S S':List Nat} {h:Hi} (hc:cur≠[]) (he:ents W q m cur (none,[]) S = .ok ((some h,nx),S')):lvs W addr q m (n+1) cur S=if(h.met&&h.ptr&&!h.ind&&!addr)=true then⟨none,[],true⟩ else⟨some (h.ob,h.met),h.ix,h.ind⟩:=by
 unfold lvs;rw[if_neg hc,he]
theorem qwo {W:Wd} {addr:Bool} {q m:Int} {n:Nat} {cur nx:List En} {S S':List Nat} (hc:cur≠[]) (he:ents W q m cur (none,[]) S = .ok ((none,nx),S')):lvs W addr q m (n+1) cur S=lvs W addr q m n (qbc W nx) S':=by
 conv=>lhs;unfold lvs
 rw[if_neg hc,he]
structure HitV (F:Fix) (s:St) (wB w:World) (x:Hi) (T:TypeId) (b:Nat) (ia:Option Addr) (ic:Nat):Prop where
 ob:s.ob x.ob=some (x.met,b)
 lt:x.ob<F.N
 ty:T=if x.met=true then 106 else 151
 ix:w.ownsRow 0 3 1 (.slice ia x.ix.length ic) x.ix.length (qbh x.ix)
 fn:x.met=true→∃ pk n,qel (rdT wB) b pk n x.ptr
def HitM (F:Fix) (s:St) (wB w:World) (h:Option Hi) (ov iv dv:Value):Prop:=
 (h=none∧ov = .nilIface∧iv = .slice none 0 0∧dv = .bool false)∨∃ x T b ia ic,h=some x∧ov = .iface T (ptrV b)∧iv = .slice ia x.ix.length ic∧dv = .bool x.ind∧HitV F s wB w x T b ia ic
theorem HitM.apart {F:Fix} {s:St} {wB w w':World} {h:Option Hi} {ov iv dv:Value} {S:Nat→Prop} (k:HitM F s wB w h ov iv dv) (ha:qag S w w') (hS:∀ b cs,Blk w b 3 cs→¬ S b):HitM F s wB w' h ov iv dv:=by
 rcases k with k|⟨x,T,b,ia,ic,e1,e2,e3,e4,q⟩
 ·exact .inl k
 ·exact .inr ⟨x,T,b,ia,ic,e1,e2,e3,e4,q.ob,q.lt,q.ty,qab q.ix ha fun g hg=>by
   obtain⟨cs,hc⟩:=qaf q.ix hg;exact hS g cs hc,q.fn⟩
theorem HitM.keep {F:Fix} {s:St} {wB w w':World} {h:Option Hi} {ov iv dv:Value} (k:HitM F s wB w h ov iv dv) (hb:Below w.heap.size w w'):HitM F s wB w' h ov iv dv:=
 k.apart (S:=fun _=>False) (qag.keep hb) (fun _ _ _ h=>h)
theorem NxAt.app {F:Fix} {P:Nat→Nat} {s:St} {wB w w':World} {a a':Option Addr} {c c':Nat} {es:List En} {cells:List Value} (h:NxAt F P s wB w a c es cells) {e:En} {k:TypeId×Nat} {ia:Option Addr} {ic:Nat} {u:Value} (ht:TyIn wB k) (hp:PlV F P s wB e.to (tyV k) u) (hi:w.ownsRow 0 3 1 (.slice ia e.ix.length ic) e.ix.length (qbh e.ix))
  (ho:w'.ownsRow 0 225 4 (.slice a' (es.length+1) c') (es.length+1) (cells++[tyV k,.slice ia e.ix.length ic,.bool e.ind,.bool e.mul])) (hg:w.grownBy w' (Value.slice a es.length c).ownBlock):
  NxAt F P s wB w' a' c' (es++[e]) (cells++[tyV k,.slice ia e.ix.length ic,.bool e.ind,.bool e.mul]):=by
 have hA:qag (fun b=>(Value.slice a es.length c).ownBlock=some b) w w':=⟨hg.size,fun b hb hn=>hg.block b hb fun e=>hn e.symm⟩;have hI:∀ {ia:Option Addr} {n ic:Nat} {xs:List Value},w.ownsRow 0 3 1 (.slice ia n ic) n xs→w'.ownsRow 0 3 1 (.slice ia n ic) n xs:=fun hx=>qab hx hA fun g hg1 hg2=>by
  obtain⟨cs,hc⟩:=qaf hx hg1;obtain⟨ds,hd⟩:=qaf h.own hg2;exact hc.tne hd (by decide) rfl
 have hlen:cells.length=es.length * 4:=h.own.1;obtain⟨a2,c2,he,-,h1,h2⟩:=qak ho;cases he;have ha':∃ g,a'=some ⟨g,0,none⟩∧qat w' g 0 (cells++[tyV k,.slice ia e.ix.length ic,.bool e.ind,.bool e.mul]):=by
  cases a' with
  | none=>have:=(h2 rfl).1;omega
  | some ad=>
   obtain⟨g,rfl,-,-,q⟩:=h1 ad rfl;exact⟨g,rfl,q⟩
 obtain⟨g,rfl,hC⟩:=ha';refine⟨by simpa using ho,fun i hi' => ?_⟩;by_cases hie:i<es.length
 ·obtain⟨g0,e0,k0,ia0,ic0,u0,q⟩:=h.at_ i hie;subst e0;refine⟨g,rfl,?_⟩;rw[List.getElem_append_left hie];obtain⟨a3,c3,he3,-,h3,-⟩:=qak h.own;cases he3;obtain⟨g3,e3,-,-,hC0⟩:=h3 _ rfl;cases e3;have hcell:∀ j v,j<4→w.cell? ⟨g0,i * 4+j,none⟩=some v→w'.cell? ⟨g,i * 4+j,none⟩=some v:=fun j v hj hv=>by
   have hx:i * 4+j<cells.length:=by omega
   have q1:=hC0 (i * 4+j) _ (zr hx);rw[Nat.zero_add,hv] at q1;have q2:=hC (i * 4+j) _ (by rw[List.getElem?_append_left hx];exact zr hx);rw[Nat.zero_add] at q2;rw[q2,q1]
  exact⟨k0,ia0,ic0,u0,hcell 0 _ (by omega) q.c0,hcell 1 _ (by omega) q.c1,hcell 2 _ (by omega) q.c2,hcell 3 _ (by omega) q.c3,q.ty,q.pl,hI q.ix⟩
 ·have ei:i=es.length:=by simp at hi';omega
  subst ei;refine⟨g,rfl,?_⟩;rw[List.getElem_append_right (zl _)];simp only[Nat.sub_self,zi];have hcell:∀ j v,[tyV k,.slice ia e.ix.length ic,.bool e.ind,.bool e.mul][j]?=some v→w'.cell? ⟨g,es.length * 4+j,none⟩=some v:=fun j v hv=>by
   have q2:=hC (es.length * 4+j) v (by rw[List.getElem?_append_right (by omega),hlen,Nat.add_sub_cancel_left];exact hv);rw[Nat.zero_add] at q2;exact q2
  exact⟨k,ia,ic,u,hcell 0 _ rfl,hcell 1 _ rfl,hcell 2 _ rfl,hcell 3 _ rfl,ht,hp,hI hi⟩
