import Derived.Test.YtmfhclggkjjcdaaGreatDoorK09
import Derived.Test.YtmfhclggkjjcdaaGreatDoorK11
import Derived.Test.YtmfhclggkjjcdaaGreatDoorK04
import Derived.Deep.RegionWith
import Derived.Test.YtmfhclggkjjcdaaGreatDoorProg
import Derived.OwnWalk
import Derived.Test.YtmfhclggkjjcdaaGreatDoorK02
set_option linter.all false
set_option maxHeartbeats 2000000
namespace Go.Proofs.YtmfhclggkjjcdaaGreatDoor
open Go Go.RowKit Go.MuLone
set_option maxRecDepth 100000
theorem qhj (f pk:Nat) (p n:Int) (w:World) (h:IsNm n) (hp:p=0∨p=1) (hT:Tabs w) (h1:w.cell? ⟨f,1,none⟩=some (.pointer (some ⟨pk,0,none⟩))) (h2:w.cell? ⟨f,2,none⟩=some (.string (qas n))) (hc:w.cell? ⟨pk,0,none⟩=some (.string (qbo p))):
  Calls Tryz.prog 156 #[.pointer (some ⟨f,0,none⟩)] w (qa2 (.string (idS p n)) w):=by
 have HT:=hid hT;have Hp:=hid hp;have H:=hid h;have hfl:=zj w _ h1;have hpl:=zj w _ hc;simp only at hfl hpl;clear hT hp h;go_enter Tryz.func156,Tryz.ntmps156
 go_wp2_with fail
 refine Mix.wp_region [0,1,2,3,4,5,6,7,8] [] [9] (fun _=>default) (by kernel_rfl) (by kernel_rfl) (by decide) ?_
 iterate 9 (first|(refine pre_yes rfl rfl ?_;apply Exists.intro;refine⟨fun W1 hW1 => ?_,?_⟩;(focus (have hc1:=(qal hW1).1;(try simp only[zd,qaa] at hc1);have hk1:=qac.below hW1;go_simp;first|exact rfl|(go_at_call 53;exact qj5 pk p n _ H.out Hp.out (HT.out.below ⟨hW1.os,hW1.tape,hW1.output,hW1.size,hW1.block⟩) (hk1 _ _ hc))));simp only[Act.put,zk,zh,zi,ze,zm,zn])|(refine pre_no rfl rfl ?_;simp only[Act.put,zk,zh,zi,ze,zm,zn]))
 refine pre_end fl_nil (fun W2 hW2=>mid_nil (qco rfl ?_))
 go_wp2_with fail
 go_ret
 exact⟨rfl,⟨hW2.os,hW2.tape,hW2.output,hW2.size,hW2.block⟩⟩
theorem quu (a : Addr) (w : World) : (method 511 151 (.pointer (some a)) "Id").run Tryz.prog w = .ok (156, .pointer (some a)) w := by kernel_rfl
theorem qlk (a : Addr) (w : World) : (method 511 106 (.pointer (some a)) "Id").run Tryz.prog w = .ok (156, .pointer (some a)) w := by kernel_rfl
theorem Tryz.zObj:(Tryz.prog.info? 68).map (·.zero)=some (some .nilIface):=by kernel_rfl
theorem qlt (sb f pk:Nat) (p n:Int) (m:Option Nat) (L:List (ByteArray×Value)) (w:World) (h:IsNm n) (hp:p=0∨p=1) (hT:Tabs w) (h1:w.cell? ⟨f,1,none⟩=some (.pointer (some ⟨pk,0,none⟩))) (h2:w.cell? ⟨f,2,none⟩=some (.string (qas n))) (hc:w.cell? ⟨pk,0,none⟩=some (.string (qbo p)))
  (T D:TypeId) (hD:D=151∨D=106) (hs:Blk w sb T [.map m]) (hm:m=none∧L=[]∨∃ r,m=some r∧qct w r L∧r≠sb) (hn:getS L (idS p n)=none):
  Calls Tryz.prog 89 #[.pointer (some ⟨sb,0,none⟩),.iface D (.pointer (some ⟨f,0,none⟩))] w fun e w'=>e = .returned .nilIface∧∃ r,Blk w' sb T [.map (some r)]∧qct w' r (L++[(idS p n,.iface D (.pointer (some ⟨f,0,none⟩)))])∧r≠sb∧
   (m=some r∨w.heap.size≤r)∧qah (fun b=>b=sb∨m=some b) w w':=by
 have HT:=hid hT;have Hp:=hid hp;have H:=hid h;have Hs:=hid hs;have Hn:=hid hn;have c0:=hs.cell 0;have f0:=hs.soft 0;simp only[zt] at c0;have hsl:=hs.lt;have hmv:=quu;have hmf:=qlk;clear hT hp h hs hn;rcases hm with ⟨rfl,rfl⟩|⟨r,rfl,hr,hrs⟩
 ·have hlk:=fun w=>qkm (P:=Tryz.prog) w Tryz.underlying193 Tryz.underlying9 Tryz.zObj (idS p n);have qT:∀ (w:World) (r:Option Nat),(binOp .eql 193 (.map r) (.map none)).run Tryz.prog w = .ok (.bool r.isNone) w:=fun w r=>run_eql_map_nil w _ _ _ r Tryz.underlying193;have hmm:=@run_makeMap Tryz.prog;have Hself:=hid (trivial:True);rcases hD with rfl|rfl
  all_goals
   go_enter Tryz.func89,Tryz.ntmps89
   go_wp2_with (first|(at_mapUpdate;refine qe8 _ rfl (.tmp 26) (.tmp 27) (.tmp 28) rfl Tryz.underlying193 Tryz.underlying9 (r:=w1.heap.size) (L:=[]) rfl ?m1 (idS p n) rfl _ rfl ?q4 ?m2)|(go_at_call 156;refine(qhj f pk p n _ H.out Hp.out HT.out h1 h2 hc).mono ?_;rintro e w1 ⟨rfl,hb1⟩;have Hb1:=hid hb1;have hz1:=zq hb1;have q0:w1.cell? ⟨sb,0,none⟩=some (.map none):=(qac.below hb1) _ _ c0;have qf:w1.frozen? ⟨sb,0,none⟩=false:=(by rw[hb1.frozen (p:=⟨sb,0,none⟩) hsl];exact f0);have hs1:sb<w1.heap.size:=(by omega);have hs2:sb<w1.heap.size+1:=(by omega)))
   case q4=>exact rfl
   case m1=>
    have:=qct.new (w1.setCell ⟨sb,0,none⟩ (.map (some w1.heap.size))) 0
    rwa [show(w1.setCell ⟨sb,0,none⟩ (.map (some w1.heap.size))).heap.size=w1.heap.size by simp[World.setCell]] at this
   case m2=>
    intro w' hmap htu;have Hmap:=hid hmap;have Htu:=hid htu;clear hmap htu
    go_wp2_with fail
    go_ret
    refine⟨rfl,w1.heap.size,?_,Hmap.out,by omega,.inr hz1,?_⟩
    ·exact(((Hs.out.keep Hb1.out).set 0 (.map (some w1.heap.size))).alloc _).apart Htu.out.apart (by show ¬ sb=w1.heap.size;omega)
    ·have t1:qah (fun b=>b=sb∨(none:Option Nat)=some b) w1 (w1.setCell ⟨sb,0,none⟩ (.map (some w1.heap.size))):=qah.setCell _ _ (.inl rfl) _;have t2:qah (fun b=>b=sb∨(none:Option Nat)=some b) (w1.setCell ⟨sb,0,none⟩ (.map (some w1.heap.size))) ((w1.setCell ⟨sb,0,none⟩ (.map (some w1.heap.size))).alloc (.map #[] 0)):=qah.keep ((zp _ _).alloc (zl _) _);have t3:=((qah.keep (S:=fun b=>b=sb∨b=w1.heap.size) Hb1.out).trans (t1.mono fun b _ h=>by rcases h with h|h;exact .inl h;cases h)).trans ((t2.mono fun b _ h=>by rcases h with h|h;exact .inl h;cases h).trans (Htu.out.mono fun b _ h => .inr h));exact t3.mono fun b hb h=>by rcases h with h|h;exact .inl h;omega
 ·have qT:∀ (w:World) (r:Option Nat),(binOp .eql 193 (.map r) (.map none)).run Tryz.prog w = .ok (.bool r.isNone) w:=fun w r=>run_eql_map_nil w _ _ _ r Tryz.underlying193;have Hr:=hid hr;clear hr;rcases hD with rfl|rfl
  all_goals
   go_enter Tryz.func89,Tryz.ntmps89
   go_wp2_with (first|(at_mapUpdate;refine qe8 _ rfl (.tmp 26) (.tmp 27) (.tmp 28) rfl Tryz.underlying193 Tryz.underlying9 (r:=r) (L:=L) rfl ?m1 (idS p n) rfl _ rfl ?q4 ?m2)|(go_at_call 156;refine(qhj f pk p n _ H.out Hp.out HT.out h1 h2 hc).mono ?_;rintro e w1 ⟨rfl,hb1⟩;have Hb1:=hid hb1;have hz1:=zq hb1;have q0:w1.cell? ⟨sb,0,none⟩=some (.map (some r)):=(qac.below hb1) _ _ c0;have Hm1:=hid (Hr.out.apart (S:=fun _=>False) (qag.keep hb1) (fun h=>h));have hlk:=qg4 (P:=Tryz.prog) w1 Tryz.underlying193 Tryz.underlying9 Tryz.zObj Hm1.out (idS p n);rw[Hn.out] at hlk;simp only[Option.getD_none] at hlk;have hs1:sb<w1.heap.size:=(by omega)))
   case m1=>exact Hm1.out
   case q4=>exact Hn.out
   case m2=>
    intro w' hmap htu;have Hmap:=hid hmap;have Htu:=hid htu;clear hmap htu
    go_wp2_with fail
    go_ret
    refine⟨rfl,r,?_,Hmap.out,hrs,.inl rfl,?_⟩
    ·exact(Hs.out.keep Hb1.out).apart Htu.out.apart (by show ¬ sb=r;omega)
    ·exact(qah.keep Hb1.out).trans (Htu.out.mono fun b _ h => .inr (by rw[h]))
end Go.Proofs.YtmfhclggkjjcdaaGreatDoor
namespace Go.Proofs.YtmfhclggkjjcdaaGreatDoor
open Go Go.RowKit
theorem qd0 (v:Value) (n:Nat):madeCells #[v] n=(List.replicate n v).toArray:=by
 apply Array.ext
 ·simp[madeCells]
 ·intro i h1 h2;simp[madeCells,Nat.mod_one]
theorem Tryz.infoInt:(Tryz.prog.info? 3).map (fun i=>(i.zero,i.size,i.bytes))=some (some (.int .i64 0),1,8):=by kernel_rfl
theorem qso (n:Nat) (w:World) (hn:n≤16777216):
  (Instr.makeSlice 33 (.int .i64 (n:Int)) (.int .i64 (n:Int))).run Tryz.prog w = .ok (.slice (some ⟨w.heap.size,0,none⟩) n n) (w.alloc (.cells (qbh (List.replicate n 0)).toArray 3)):=by
 obtain⟨i0,hi,hz0,hz1,hz2⟩:=info_parts Tryz.infoInt;have h:=run_make (P:=Tryz.prog) w 33 3 i0 _ Tryz.underlying33 hi hz0 .i64 .i64 n n (by omega) (by omega) (by rw[hz2];omega) (by omega);rw[h];simp only[Int.toNat_natCast,hz1,Nat.mul_one,Value.cells,qd0,qbh,List.map_replicate];rfl
end Go.Proofs.YtmfhclggkjjcdaaGreatDoor
namespace Go.Proofs.YtmfhclggkjjcdaaGreatDoor
open Go Go.RowKit Go.MuLone
set_option maxRecDepth 100000
theorem qt7 {L:List (ByteArray×Value)} {k:ByteArray} (h:∀ x∈L,x.1≠k):getS L k=none:=by
 unfold getS;rw[Option.map_eq_none_iff,List.find?_eq_none];intro x hx e;exact h x hx ((qtl _ _).1 e)
def qsb (w:World) (f pk:Nat) (p n:Int):Prop:=w.cell? ⟨f,1,none⟩=some (.pointer (some ⟨pk,0,none⟩))∧w.cell? ⟨f,2,none⟩=some (.string (qas n))∧w.cell? ⟨pk,0,none⟩=some (.string (qbo p))
theorem qsb.keep {w W:World} {f pk:Nat} {p n:Int} (h:qsb w f pk p n) (k:qac w W):qsb W f pk p n:=⟨k _ _ h.1,k _ _ h.2.1,k _ _ h.2.2⟩
def ObjSet (w:World) (B sb:Nat) (T:TypeId) (ids:List ByteArray):Prop:=∃ m L,Blk w sb T [.map m]∧(m=none∧L=[]∨∃ r,m=some r∧qct w r L∧r≠sb∧B≤r)∧∀ x∈L,x.1∈ids
theorem qiu (b:Nat) (a:Addr) (n c:Nat) (v:Value) (T:TypeId) (w:World) (h:Blk w b T [.slice (some a) n c,v]):Calls Tryz.prog 90 #[.pointer (some ⟨b,0,none⟩)] w fun e w'=>e = .returned (.tuple #[])∧w'=w:=by
 have c0:=h.cell 0;simp only[zt] at c0;have qs:=fun(w:World) (a:Option Addr) (n c n' c':Nat)=>Lib.run_eql_slice_nil (P:=Tryz.prog) w _ _ a n c n' c' Tryz.underlying149;clear h;go_enter Tryz.func90,Tryz.ntmps90
 go_wp2_with fail
 go_end0
 exact⟨rfl,rfl⟩
theorem Tryz.infoPV:(Tryz.prog.info? 151).map (fun i=>(i.zero,i.size,i.bytes))=some (some (.pointer none),1,8):=by kernel_rfl
theorem qub (w:World):(Instr.makeSlice 149 (.int .i64 0) (.int .i64 0)).run Tryz.prog w = .ok (.slice (some ⟨w.heap.size,0,none⟩) 0 0) (w.alloc (.cells #[] 151)):=by
 obtain⟨i0,hi,hz0,hz1,hz2⟩:=info_parts Tryz.infoPV;have h:=run_make (P:=Tryz.prog) w 149 151 i0 _ Tryz.underlying149 hi hz0 .i64 .i64 0 0 (by omega) (by omega) (by rw[hz2];omega) (by omega);rw[h];have e:∀ z,madeCells z 0=#[]:=fun z=>Array.size_eq_zero_iff.1 (size_madeCells z 0);simp only[Int.toNat_zero,Nat.zero_mul,e]
theorem qid (b:Nat) (n c:Nat) (v:Value) (T:TypeId) (w:World) (h:Blk w b T [.slice none n c,v]):Calls Tryz.prog 90 #[.pointer (some ⟨b,0,none⟩)] w fun e w'=>e = .returned (.tuple #[])∧(∃ a2,Blk w' b T [.slice a2 0 0,v])∧qah (fun k=>k=b) w w':=by
 have c0:=h.cell 0;have f0:=h.soft 0;have hbl:=h.lt;simp only[zt] at c0;have qs:=fun(w:World) (a:Option Addr) (n c n' c':Nat)=>Lib.run_eql_slice_nil (P:=Tryz.prog) w _ _ a n c n' c' Tryz.underlying149;have hmk:=qub;have H:=hid h;clear h;go_enter Tryz.func90,Tryz.ntmps90
 go_wp2_with fail
 go_end0
 refine⟨rfl,?_,?_⟩
 ·exact⟨_,(H.out.set 0 _).alloc _⟩
 ·exact(qah.setCell (fun k=>k=b) w (a:=⟨b,0,none⟩) rfl _).trans (qah.keep ((zp _ _).alloc (zl _) _))
theorem qm1 (a:Option Addr) (c:Nat) (fs:List Nat) (pk:Nat) (p:Int) (ns:List Int) (w:World) (hp:p=0∨p=1) (hT:Tabs w) (hr:qlm w a fs) (hc:fs.length≤c) (hl:fs.length≤1048576)
  (hf:∀ i (hi:i<fs.length),qsb w fs[i] pk p (ns.getD i 0)∧IsNm (ns.getD i 0)∧(ns.getD i 0≠8→∀ j,j<i→idS p (ns.getD i 0)≠idS p (ns.getD j 0))):
  Calls Tryz.prog 69 #[.slice a fs.length c,.slice none 0 0] w fun e w'=>∃ b a' c',e = .returned (.pointer (some ⟨b,0,none⟩))∧Blk w' b 196 [.slice a' fs.length c',.slice none 0 0]∧(0<fs.length→a'=a∧c'=c)∧fs.length≤c'∧w.heap.size≤b∧Below w.heap.size w w':=by
 have HT:=hid hT;have Hp:=hid hp;have Hr:=hid hr;have Hf:=hid hf;clear hT hp hr hf;go_enter Tryz.func69,Tryz.ntmps69
 go_wp2_with fail
 have hB1:Below w.heap.size w (w.alloc (.cells #[.map none] 193)):=(zp _ _).alloc (zl _) _;have HN:=hid (Blk.new w 193 [.map none])
 go_loopw [11] (fun j wr=>∃ k:Nat,k≤fs.length∧j = .int .i64 k∧Below w.heap.size w wr∧Hid (∃ ids,ObjSet wr w.heap.size w.heap.size 193 ids∧∀ s∈ids,∃ i,i<k∧s=idS p (ns.getD i 0)))
  (fun j _=>fs.length - (intOf j).toNat)
 case atStart=>exact⟨0,by omega,rfl,hB1,hid ⟨[],⟨none,[],HN.out,.inl ⟨rfl,rfl⟩,fun x hx=>by cases hx⟩,fun s hs=>by cases hs⟩⟩
 clear hB1 HN
 case round=>
  obtain⟨k,hk,rfl,hbel,hst⟩:=hrel;obtain⟨ids,⟨m,L,hblk,hm,hL⟩,hids⟩:=hst.out;have hz:=zq hbel;have HK:=hid (qac.below hbel);have Hblk:=hid hblk;have Hm:=hid hm;have HL:=hid hL;have Hids:=hid hids;have hbl:=hblk.lt;clear hst hblk hm hL hids;by_cases hlt:k<fs.length
  ·obtain⟨g,o,rfl,hg⟩:=Hr.out k hlt;obtain⟨hv,hnm,hdis⟩:=Hf.out k hlt;have hv:=hv.keep HK.out;have hg:=HK.out _ _ hg;have hv2:=hv.2.1;have Hv:=hid hv;have Hnm:=hid hnm;have Hdis:=hid hdis;clear hv hnm hdis;by_cases h8:ns.getD k 0=8
   ·have hq:((qas (ns.getD k 0)).toList==[95])=true:=by rw[h8];decide +kernel
    have H8:=hid h8;clear h8
    generalize ns.getD k 0=x at hv2 hq
    go_wp2_with fail
    go_roundw
    case rel=>exact⟨k+1,by omega,by go_num,hbel,hid ⟨ids,⟨m,L,Hblk.out,Hm.out,HL.out⟩,fun s hs=>by
     obtain⟨i,hi,e⟩:=Hids.out s hs;exact⟨i,by omega,e⟩⟩⟩
    case measure=>simp[intOf];omega
   ·have hq:((qas (ns.getD k 0)).toList==[95])=false:=qhk Hnm.out h8;have hno:getS L (idS p (ns.getD k 0))=none:=qt7 fun x hx e=>by
     obtain⟨i,hi,e2⟩:=Hids.out _ (HL.out x hx);exact Hdis.out h8 i hi (e ▸ e2)
    have Hno:=hid hno;clear h8 hno;obtain⟨x,hx⟩:∃ x,x=ns.getD k 0:=⟨_,rfl⟩;rw[← hx] at hv2 hq Hnm Hv Hno;have Hx:=hid hx;clear hx
    go_wp2_with (go_at_call 89;refine(qlt w.heap.size fs[k] pk p x m L _ Hnm.out Hp.out (HT.out.below hbel) Hv.out.1 Hv.out.2.1 Hv.out.2.2 193 151 (.inl rfl) Hblk.out (by rcases Hm.out with h|⟨r,h1,h2,h3,h4⟩;exact .inl h;exact .inr ⟨r,h1,h2,h3⟩) Hno.out).mono ?_;rintro e w2 ⟨rfl,r,hb2,hs2,hne2,hr2,ht2⟩;have Hb2:=hid hb2;have Hs2:=hid hs2;have Hne2:=hid hne2;have Hr2:=hid hr2;have Ht2:=hid ht2;clear hb2 hs2 hne2 hr2 ht2)
    have hb3:Below w.heap.size wr w2:=Ht2.out.below hz fun b hb=>by
     rcases hb with h|h
     ·omega
     ·rcases Hm.out with ⟨h1,-⟩|⟨r2,h1,h2,h3,h4⟩
      ·rw[h1] at h;cases h
      ·rw[h1] at h;cases h;exact h4
    have hr3:w.heap.size≤r:=by
     rcases Hr2.out with h|h
     ·rcases Hm.out with ⟨h1,-⟩|⟨r2,h1,h2,h3,h4⟩
      ·rw[h1] at h;cases h
      ·rw[h1] at h;cases h;exact h4
     ·omega
    go_roundw
    case rel=>exact⟨k+1,by omega,by go_num,hbel.trans hb3,hid ⟨idS p x::ids,⟨some r,_,Hb2.out,.inr ⟨r,rfl,Hs2.out,Hne2.out,hr3⟩,fun y hy=>by
      rcases zib.1 hy with hy|hy
      ·exact zy _ (HL.out y hy)
      ·rw[zfb.1 hy];exact z6 ..⟩,fun s hs=>by
      rcases zgb.1 hs with rfl|hs
      ·exact⟨k,by omega,by rw[Hx.out]⟩
      ·obtain⟨i,hi,e⟩:=Hids.out s hs;exact⟨i,by omega,e⟩⟩⟩
    case measure=>simp[intOf];omega
  ·obtain rfl:k=fs.length:=by omega
   have Hn:=hid (Blk.new wr 196 [.slice a fs.length c,.slice none 0 0]);have HB:=hid hbel;cases a with
   | some ad=>
    go_wp2_with (go_at_call 90;refine(qiu wr.heap.size ad fs.length c _ _ _ Hn.out).mono ?_;rintro e w2 ⟨rfl,rfl⟩)
    go_ret
    exact⟨wr.heap.size,_,_,rfl,Hn.out,fun _=>⟨rfl,rfl⟩,hc,hz,HB.out.alloc hz _⟩
   | none=>
    have h0:fs.length=0:=by
     by_cases h:0<fs.length
     ·obtain⟨_,_,h2,-⟩:=Hr.out 0 h;cases h2
     ·omega
    have H0:=hid h0;clear h0
    go_wp2_with (go_at_call 90;refine(qid wr.heap.size fs.length c _ _ _ Hn.out).mono ?_;rintro e w2 ⟨rfl,⟨a2,hb2⟩,ht2⟩;have Hb2:=hid hb2;have Ht2:=hid ht2;clear hb2 ht2)
    go_ret
    refine⟨wr.heap.size,a2,0,rfl,?_,fun h=>by have:=H0.out;omega,by have:=H0.out;omega,hz,?_⟩
    ·rw[H0.out];exact Hb2.out
    ·exact(HB.out.alloc hz _).trans (Ht2.out.below (by simp;omega) fun b hb=>by omega)
end Go.Proofs.YtmfhclggkjjcdaaGreatDoor
namespace Go.Proofs.YtmfhclggkjjcdaaGreatDoor
open Go Go.RowKit
theorem BExt.join {F:Fix} {s s1 s2:St} {w w1 w2:World} {lo mid hi:Nat} (h:BExt F s w s1 w1 mid hi) (k:BExt F s1 w1 s2 w2 lo mid) (h1:lo≤mid) (h2:mid≤hi):BExt F s w s2 w2 lo hi:=by
 have hz:=h.size;have hT:qah (qa1 F s) w w2:=by
  have a:=h.turns.mono (S':=fun b=>qa1 F s b∨w.heap.size≤b) fun b _ hb => .inl hb;have b:=k.turns.mono (S':=fun b=>qa1 F s b∨w.heap.size≤b) fun b _ hb=>by
   rcases hb with hb|hb|hb
   ·exact .inl (.inl hb)
   ·exact .inl (.inr (.inl hb))
   ·rcases h.row b hb with hb|hb
    ·exact .inl (.inr (.inr hb))
    ·exact .inr hb
  exact(a.trans b).mono fun b hb h=>by rcases h with h|h;exact h;omega
 obtain⟨l1,e1,q1⟩:=h.ifs;obtain⟨l2,e2,q2⟩:=k.ifs;refine⟨k.ok,hT,h.rd.trans k.rd,fun g hg => ?_,fun j hj => ?_,fun j x hx=>k.grow j x (h.grow j x hx),fun j j1 j2 => ?_,l1++l2,by rw[e2,e1,List.append_assoc],fun x hx => ?_⟩
 ·rcases k.row g hg with hg|hg
  ·exact h.row g hg
  ·exact .inr (by omega)
 ·rw[k.same j (by omega),h.same j (by omega)]
 ·by_cases hj:j<mid
  ·exact k.full j j1 hj
  ·obtain⟨x,hx⟩:=h.full j (by omega) j2;exact⟨x,k.grow j x hx⟩
 ·rcases zib.1 hx with hx|hx
  ·exact⟨(q1 x hx).1,(q1 x hx).2.turned h.ok k.turns.apart⟩
  ·exact⟨by have:=(q2 x hx).1;omega,(q2 x hx).2⟩
theorem qbe.get {g:G} {p:Int}:∀ {l:List Fd} {at_:Nat} {xs:List Nat},qbe g l at_ p xs→∀ i (hi:i<xs.length),qgd g (l.getD i fd0) (at_+qar (l.take i)) p xs[i]
 | [],at_,xs,h,i,hi=>by simp only[qbe] at h;subst h;simp at hi
 | .mk n e t::r,at_,xs,⟨x,ys,e1,h1,h2⟩,0,hi=>by subst e1;simpa[qar] using h1
 | .mk n e t::r,at_,xs,⟨x,ys,e1,h1,h2⟩,i+1,hi=>by
  subst e1;have:=qbe.get h2 i (by simpa using hi);have e2:at_+qar ((Fd.mk n e t::r).take (i+1))=at_+(1+t.size)+qar (r.take i):=by simp[qar];omega
  rw[e2];simpa[Fd.of] using this
theorem qgd.var {F:Fix} {s:St} {w:World} {B:Nat} {f:Fd} {at_ x:Nat} {p:Int} (h:qgd (gOf F s (rdA B w)) f at_ p x) (hok:BOk F s w) (hp:p=0∨p=1):qsb w x (F.pk p) p (fname F.W f):=by
 obtain⟨-,u,h1,-⟩:=h;exact⟨qax (qc8 (h1 1 _ rfl)).1,qax (qc8 (h1 2 _ rfl)).1,(hok.pkc hp).2⟩
theorem qam.k4 {W:Wd} {d:Int} {val:Bool} {t:Ty} (h:qam W d val t) (hk:t.kind=4):t.num=0∧t.elem=[]∧t.methods=[]∧t.embeds=[]∧qby W d val t.fields:=by
 obtain⟨k,m,el,fs,ms,em⟩:=t;simp only[qam,Ty.kind,Ty.elem,Ty.fields,Ty.methods,Ty.embeds,Ty.num] at *;rcases h with ⟨h,-⟩|⟨h,-⟩|⟨h,-⟩|⟨-,h0,h1,h2,h3,h4⟩|⟨h,-⟩
 ·omega
 ·omega
 ·omega
 ·exact⟨h0,h1,h2,h3,h4⟩
 ·omega
theorem qby.get {W:Wd} {d:Int} {val:Bool}:∀ {l:List Fd},qby W d val l→∀ i (hi:i<l.length),IsNm l[i].name∧(l[i].embedded=true→l[i].name=0∧qdb l[i].of)∧qam W d val l[i].of
 | [],_,i,hi=>by simp at hi
 | .mk n e t::r,h,0,_=>by simp only[qby] at h;exact h.1
 | .mk n e t::r,h,i+1,hi=>by simp only[qby] at h;exact qby.get h.2 i (by simpa using hi)
theorem qcr.get {W:Wd} {p:Int}:∀ {l prev:List Fd} {at_:Nat},qcr W p prev l at_→∀ i (hi:i<l.length),(∀ g∈prev++l.take i,fname W l[i]≠8→fname W l[i]≠fname W g)∧qdp W p l[i].of (at_+qar (l.take i)+1)
 | [],_,_,_,i,hi=>by simp at hi
 | .mk n e t::r,prev,at_,h,0,_=>by
  simp only[qcr] at h;refine⟨fun g hg=>h.1.1 g (by simpa using hg),by simpa[qar,Fd.of] using h.1.2.1⟩
 | .mk n e t::r,prev,at_,h,i+1,hi=>by
  simp only[qcr] at h;obtain⟨h1,h2⟩:=qcr.get h.2 i (by simpa using hi);refine⟨fun g hg => ?_,?_⟩
  ·refine h1 g ?_;simp only[List.take_succ_cons,List.append_assoc,List.cons_append,List.nil_append,zib,zgb] at hg ⊢;exact hg
  ·simp only[zh,List.take_succ_cons,qar] at h2 ⊢;rw[show at_+(1+t.size+qar (r.take i))+1=at_+(1+t.size)+qar (r.take i)+1 by omega];exact h2
theorem qdp.fields {W:Wd} {p:Int} {t:Ty} {at_:Nat} (h:qdp W p t at_):qcr W p [] t.fields at_:=by
 obtain⟨k,m,el,fs,ms,em⟩:=t;simp only[qdp,Ty.fields] at *;exact h.2.2.1
def NmOk (W:Wd):Prop:=∀ d,d<W.length→IsNm (dc W d).name∧(dc W d).name≠8
theorem qam.num1 {W:Wd} {d:Int} {val:Bool} {t:Ty} (h:qam W d val t) (hk:t.kind=1):0≤t.num∧t.num<W.length:=by
 obtain⟨-,-,-,-,h1,h2,-⟩:=h.k1 hk;exact⟨h1,h2⟩
theorem qmr {W:Wd} {d:Int} {val:Bool} {f:Fd} (hN:NmOk W) (h:IsNm f.name∧(f.embedded=true→f.name=0∧qdb f.of)∧qam W d val f.of):IsNm (fname W f):=by
 unfold fname;split
 ·exact h.1
 next he=>
  have he':f.embedded=true:=by simpa using he
  obtain⟨-,hn⟩:=h.2.1 he';split
  next hk=>
   rcases hn with hn|⟨-,hl,hn⟩
   ·omega
   ·obtain⟨-,-,-,-,-,h5⟩:=h.2.2.k23 (.inl hk);obtain⟨q1,q2⟩:=h5.num1 hn;exact(hN _ (by omega)).1
  next hk=>
   rcases hn with hn|⟨hn,-⟩
   ·obtain⟨q1,q2⟩:=h.2.2.num1 hn;exact(hN _ (by omega)).1
   ·exact absurd hn hk
theorem idS_inj:∀ i:Fin 16,∀ j:Fin 16,∀ p:Fin 2,idL (p.val:Nat) (i.val:Nat)=idL (p.val:Nat) (j.val:Nat)→i=j:=by decide +kernel
theorem idS_ne {p n m:Int} (hp:p=0∨p=1) (hn:IsNm n) (hm:IsNm m) (h:n≠m):idS p n≠idS p m:=fun e=>by
 unfold IsNm at hn hm;have e2:idL p n=idL p m:=by unfold idS at e;injection e with e;simpa using e
 have:=idS_inj ⟨n.toNat,by omega⟩ ⟨m.toNat,by omega⟩ ⟨p.toNat,by omega⟩ (by
  simp only[show((p.toNat:Nat):Int)=p by omega,show((n.toNat:Nat):Int)=n by omega,show((m.toNat:Nat):Int)=m by omega];exact e2)
 simp only[Fin.mk.injEq] at this;omega
theorem qrk {F:Fix} {s:St} {B b:Nat} {w:World} {num:Int} {el:List Ty} {fs:List Fd} {ms:List Meth} {em:List Ty} {at_:Nat} {p:Int} {xs:List Nat} {a a':Option Addr} {c c':Nat}
  (hb:Blk w b 196 [.slice a' fs.length c',.slice none 0 0]) (hB:B≤b) (ha:0<fs.length→a'=a∧c'=c) (hc:fs.length≤c') (hf:qbe (gOf F s (rdA B w)) fs at_ p xs)
  (hown:w.ownsRow 0 151 1 (.slice a fs.length c) fs.length (qa7 xs)) (hrB:∀ g,(Value.slice a fs.length c).ownBlock=some g→B≤g):
  Den (gOf F s (rdA B w)) ⟨.mk 4 num el fs ms em,at_,p⟩ (.iface 153 (ptrV b)):=by
 unfold Den DenT;refine .inr (.inr (.inr (.inr (.inl ⟨rfl,b,a',c',rfl,hb.rda hB (by decide) (by decide) (by simp[qcq]),hc,?_⟩))));have hl:=hf.len;by_cases h0:0<fs.length
 ·obtain⟨rfl,rfl⟩:=ha h0;refine hf.den fun j hj => ?_;have:=qtj hown hrB (by decide) (by decide) (qjm _) j (by simpa[qa7] using hj);simp only[qa7,List.getElem_map] at this;exact this
 ·cases fs with
  | nil=>simp only[DenF]
  | cons x r=>simp at h0
theorem BOk.turnedLt {F:Fix} {s:St} {w:World} (h:BOk F s w) {b:Nat} (hb:qa1 F s b):b<w.heap.size:=by
 rcases hb with e|e|e
 ·rw[e];exact h.bld.lt
 ·obtain⟨os,ho,-⟩:=h.obj;rw[e];exact ho.lt
 ·obtain⟨cs,hc⟩:=h.rowT e;exact hc.lt
theorem qni (x:Int) (h1:0≤x) (h2:x≤9223372036854775807):IntKind.i64.wrap x=x:=by
 simp[IntKind.wrap,IntKind.bits,IntKind.signed];omega
def rdX (B:Nat) (R:Option Nat) (w:World) (b j:Nat):Option Value:=if R=some b then none else rdA B w b j
theorem qol (B:Nat) (R:Option Nat) (w:World):RdLe (rdX B R w) (rdA B w):=fun b j v h=>by
 unfold rdX at h;split at h
 ·cases h
 ·exact h
theorem qfo {B:Nat} {R:Option Nat} {w:World} {b j:Nat} {v:Value} (h:rdA B w b j=some v) (hR:R≠some b):rdX B R w b j=some v:=by
 unfold rdX;rw[if_neg hR];exact h
theorem qhp {B:Nat} {R:Option Nat} {w:World} {b j:Nat} {v:Value} (h:rdX B R w b j=some v):rdA B w b j=some v∧R≠some b:=by
 unfold rdX at h;split at h
 ·cases h
 next hR=>exact⟨h,hR⟩
theorem qhi {w w':World} {b j:Nat} {v:Value} (h:rdT w b j=some v) (hb:w'.heap[b]?=w.heap[b]?):rdT w' b j=some v:=by
 obtain⟨cs,T,q1,q2,q3,q4,q5⟩:=qb7 h;exact qc4 (hb.trans q1) q2 q3 q4 q5
theorem qgc {B:Nat} {R R':Option Nat} {wr w8 w9:World} (h:RdLe (rdT wr) (rdT w8)) (hg:w8.grownBy w9 R) (hl:R'=R∨R'=some w8.heap.size):RdLe (rdX B R wr) (rdX B R' w9):=fun b j v hv=>by
 obtain⟨h1,h2⟩:=qhp hv;obtain⟨h3,h4⟩:=qc8 h1;have h5:=h _ _ _ h3;have hlt:=qft h5;have h6:=qhi h5 (hg.block b hlt fun e=>h2 e.symm);exact qfo (qcu h6 h4) fun e=>by
  rcases hl with e2|e2
  ·exact h2 (e2 ▸ e)
  ·rw[e2] at e;cases e;omega
theorem qga {B B2:Nat} {R R':Option Nat} {w1 w8 w9:World} (hB:B≤B2) (h:RdLe (rdT w1) (rdT w8)) (hg:w8.grownBy w9 R) (hR:∀ g,R=some g→g<B2) (hl:R'=R∨R'=some w8.heap.size):RdLe (rdA B2 w1) (rdX B R' w9):=fun b j v hv=>by
 obtain⟨h3,h4⟩:=qc8 hv;have h5:=h _ _ _ h3;have hlt:=qft h5;have hRb:R≠some b:=fun e=>by have:=hR b e;omega
 have h6:=qhi h5 (hg.block b hlt fun e=>hRb e.symm);exact qfo (qcu h6 (by omega)) fun e=>by
  rcases hl with e2|e2
  ·exact hRb (e2 ▸ e)
  ·rw[e2] at e;cases e;omega
theorem BOk.putc {F:Fix} {s:St} {w:World} (h:BOk F s w) {k:Nat} (hk:k<F.N) (hn:s.ob k=none):w.cell? ⟨F.bb,2,none⟩=some (.slice (some ⟨F.ob0,0,none⟩) F.N F.oc)∧w.cell? ⟨F.ob0,k,none⟩=some .nilIface∧w.frozen? ⟨F.ob0,k,none⟩=false:=by
 obtain⟨os,o1,o2⟩:=h.obj;refine⟨?_,by rw[o1.cell,o2 _ hk,hn];rfl,o1.soft _⟩;have:=h.bld.cell 2;simpa using this
section
variable {P:Program} (w:World)
theorem qbu {ops:Array Oper} {rest:List Oper} {o:Oper} {a:Act} {Q:Exit→Act→World→Prop} (hgd:o.guard=none) (s x:Operand) (t:TypeId)
  (ho:o.op = .call { callee := .builtin .append,args:=#[s,x],argTypes:=#[t,t] })
  (e:TypeId) (z:Value) (bytes:Nat) (hi:(P.info? e).map (fun i=>(i.zero,i.size,i.bytes))=some (some z,1,bytes)) (ht:P.underlying t=some (.slice e)) (hzs:z.cells.size=1)
  (ra:Option Addr) (n rc:Nat) (xs:List Value) (hs:a.eval s = .slice ra n rc) (hown:w.ownsRow 0 e 1 (.slice ra n rc) n xs)
  (ad:Addr) (u:Value) (hx:a.eval x = .slice (some ad) 1 1) (hnew:w.cell? ad=some u) (had:ad.spot=none) (h1:u.oneCell'=true)
  (hn:n≤1099511627776) (hb:bytes≤64)
  (h:∀ ra' rc' w',w'.ownsRow 0 e 1 (.slice ra' (n+1) rc') (n+1) (xs++[u])→w.grownBy w' (Value.slice ra n rc).ownBlock→((Value.slice ra' (n+1) rc').ownBlock=(Value.slice ra n rc).ownBlock∨(Value.slice ra' (n+1) rc').ownBlock=some w.heap.size)→wpList P ops Q rest (a.put o.dst (.slice ra' (n+1) rc')) w'):wpList P ops Q (o::rest) a w:=by
 obtain⟨i,q1,q2,q3,q4⟩:=info_parts hi;refine qb2 w hgd s x t ho e i z 1 bytes ht q1 q2 q3 q4 hzs (by decide) (.slice ra n rc) n xs hs hown ad 1 1 [u] hx rfl ?_ (by simpa using h1) (by unfold maxLen;omega) ?_ (by decide) fun v' w' h1 h2 h3 => ?_
 ·intro j v hj
  match j with
  | 0=>
   simp only[zt,Option.some.injEq] at hj;subst hj;obtain⟨b,o,sp⟩:=ad;simp only at had;subst had;rw[Addr.add_lit];simpa using hnew
  | j+1=>simp at hj
 ·calc (n+1) * bytes≤1099511627777 * 64:=Nat.mul_le_mul (by omega) hb
   _≤140737488355328:=by decide
 ·obtain⟨ra',rc',rfl,-,-⟩:=qak h1;exact h ra' rc' w' h1 h2 h3
end
theorem qj1 {F:Fix} {s1 s2 s3:St} {wr w3 w8 w9:World} {B B2:Nat} {R R':Option Nat} {l:List Fd} {f:Fd} {at_ x:Nat} {p:Int} {xs:List Nat} {u:Value} (hB:B≤B2)
  (hfx:qbe (gOf F s1 (rdX B R wr)) l at_ p xs) (hd:Den (gOf F s2 (rdA B2 w3)) ⟨f.of,at_+qar l+1,p⟩ u) (h8:RdLe (rdT wr) (rdT w8)) (h38:RdLe (rdT w3) (rdT w8)) (hg:w8.grownBy w9 R) (hR:∀ g,R=some g→g<B2) (hl:R'=R∨R'=some w8.heap.size)
  (hG:∀ r r',RdLe r r'→G.Le (gOf F s1 r) (gOf F s3 r')) (hG2:∀ r r',RdLe r r'→G.Le (gOf F s2 r) (gOf F s3 r')) (hob:s3.ob (at_+qar l)=some (false,x))
  (hb:Blk w8 x 191 [.int .i64 0,ptrV (F.pk p),.string (qas (fname F.W f)),u,.int .u8 6,.bool f.embedded]) (hx:B≤x) (hu:IsTy u) (hRx:R≠some x):
  qbe (gOf F s3 (rdX B R' w9)) (l++[f]) at_ p (xs++[x]):=by
 refine qbe.snoc (hfx.mono (hG _ _ (qgc h8 hg hl))) ⟨hob,u,?_,Den.mono (hG2 _ _ (qga hB h38 hg hR hl)) hd⟩;obtain⟨T,y,rfl⟩:=hu;intro j v hj;have h1:=hb.rdr (by decide) (by decide) (by simp[qcq]) j v hj;have hlt:=qft h1;refine qfo (qcu (qhi h1 (hg.block x hlt fun e=>hRx e.symm)) hx) fun e => ?_;rcases hl with e2|e2
 ·exact hRx (e2 ▸ e)
 ·rw[e2] at e;cases e;omega
theorem qdl {B:Nat} {R:Option Nat} {w w':World} (h:Below w.heap.size w w'):RdLe (rdX B R w) (rdX B R w'):=fun b j v hv=>by
 obtain⟨h1,h2⟩:=qhp hv;obtain⟨h3,h4⟩:=qc8 h1;exact qfo (qcu (qa0 h _ _ _ h3) h4) h2
theorem qph {F:Fix} {s:St} {w:World} {B:Nat} {R:Option Nat} {l:List Fd} {at_:Nat} {p d:Int} {val:Bool} {xs:List Nat} (hx:qbe (gOf F s (rdX B R w)) l at_ p xs) (hok:BOk F s w) (hp:p=0∨p=1) (hN:NmOk F.W) (hf:qby F.W d val l) (hv:qcr F.W p [] l at_):
  ∀ i (hi:i<xs.length),qsb w xs[i] (F.pk p) p ((l.map (fname F.W)).getD i 0)∧IsNm ((l.map (fname F.W)).getD i 0)∧((l.map (fname F.W)).getD i 0≠8→∀ j,j<i→idS p ((l.map (fname F.W)).getD i 0)≠idS p ((l.map (fname F.W)).getD j 0)):=by
 intro i hi;have hl:=hx.len;have hx':qbe (gOf F s (rdA B w)) l at_ p xs:=hx.mono (show G.Le (gOf F s (rdX B R w)) (gOf F s (rdA B w)) from⟨rfl,rfl,fun _ _ h=>h,fun _ _ h=>h,fun _ h=>h,qol _ _ _⟩);have hil:i<l.length:=by omega
 have e:∀ j,j<l.length→(l.map (fname F.W)).getD j 0=fname F.W (l.getD j fd0):=fun j hj=>by simp[zv,zr hj]
 have e2:∀ j (hj:j<l.length),l.getD j fd0=l[j]:=fun j hj=>by simp[zv,zr hj]
 have h1:=(hx'.get i hi).var hok hp;rw[e i hil];refine⟨h1,?_,fun h8 j hj => ?_⟩
 ·rw[e2 i hil];exact qmr hN (hf.get i hil)
 ·rw[e j (by omega),e2 i hil,e2 j (by omega)];rw[e2 i hil] at h8;refine idS_ne hp (qmr hN (hf.get i hil)) (qmr hN (hf.get j (by omega))) ((hv.get i hil).1 _ ?_ h8);rw[List.nil_append];exact List.mem_take_iff_getElem.2 ⟨j,by omega,rfl⟩
theorem qe2:∀ (l:List Fd) (k:Nat) (hk:k<l.length),qcm (l.take (k+1))=qcm (l.take k)+(1+l[k].of.bulk)
 | .mk _ _ t::r,0,_=>by simp[qcm,Fd.of]
 | .mk _ _ t::r,k+1,hk=>by
  have:=qe2 r k (by simpa using hk);simp only[List.take_succ_cons,zh,qcm,this];omega
theorem qfb:∀ (l:List Fd) (k:Nat),qcm (l.take k)≤qcm l
 | [],k=>by simp
 | .mk _ _ t::r,0=>by simp[qcm]
 | .mk _ _ t::r,k+1=>by have:=qfb r k;simp only[List.take_succ_cons,qcm];omega
theorem ql2:∀ (l:List Ty) (k:Nat) (hk:k<l.length),qbt (l.take (k+1))=qbt (l.take k)+l[k].bulk
 | t::r,0,_=>by simp[qbt]
 | t::r,k+1,hk=>by
  have:=ql2 r k (by simpa using hk);simp only[List.take_succ_cons,zh,qbt,this];omega
theorem qh5:∀ (l:List Ty) (k:Nat),qbt (l.take k)≤qbt l
 | [],k=>by simp
 | t::r,0=>by simp[qbt]
 | t::r,k+1=>by have:=qh5 r k;simp only[List.take_succ_cons,qbt];omega
