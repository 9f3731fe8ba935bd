import Derived.Test.YtmfhclggkjjcdaaGreatDoorK09
import Derived.Test.YtmfhclggkjjcdaaGreatDoorK01
import Derived.Deep.RegionWith
import Derived.Test.YtmfhclggkjjcdaaGreatDoorK04
import Derived.Test.YtmfhclggkjjcdaaGreatDoorK05
set_option linter.all false
set_option maxHeartbeats 4000000
namespace Go.Proofs.YtmfhclggkjjcdaaGreatDoor
open Go Go.RowKit Go.Shelf Go.Lib Go.Sort
set_option maxRecDepth 100000
theorem qmp (a b pa pb:Nat) (p q n m:Int) (w:World) (hT:Tabs w) (ha:qgt w a pa p n) (hb:qgt w b pb q m) (hne:a≠b):
  Calls Tryz.prog 121 #[.pointer (some ⟨a,0,none⟩),.pointer (some ⟨b,0,none⟩)] w fun e w'=>e = .returned (.int .i64 (cmpI (rank p n) (rank q m)))∧qca w w':=by
 have hal:=zj w _ ha.c1;have hbl:=zj w _ hb.c1;simp only at hal hbl;have a1:=ha.c1;have b1:=hb.c1;have HC:Hid (∀ k,Calls Tryz.prog 150 #[.pointer (some ⟨a,0,none⟩),.pointer (some ⟨b,0,none⟩)] (w.drewN k) fun e w'=>e = .returned (.int .i64 (cmpI (rank p n) (rank q m)))∧qca w w'):=hid fun k=>
  (cmp_x a b pa pb p q n m (w.drewN k) ⟨hT.props,hT.utf,hT.upper⟩ ⟨ha.c1,ha.c2,ha.cp,ha.nm,ha.pp,ha.bk⟩ ⟨hb.c1,hb.c2,hb.cp,hb.nm,hb.pp,hb.bk⟩ hne).mono fun e w' h=>⟨h.1,(qca.drew w k).trans h.2⟩
 clear ha hb hT
 generalize cmpI (rank p n) (rank q m)=r at *
 go_enter Tryz.func121,Tryz.ntmps121
 go_wp2_with fail
 go_region_with (go_at_call 150;refine(HC.out ?_).mono ?_;rotate_left;rintro e w' ⟨rfl,hg⟩)
 all_goals
  go_wp2_with fail
  go_ret
  exact⟨rfl,hg⟩
theorem qu8 (a:Nat) (w:World):Calls Tryz.prog 150 #[.pointer (some ⟨a,0,none⟩),.pointer (some ⟨a,0,none⟩)] w fun e w'=>e = .returned (.int .i64 0)∧w'=w:=by
 obtain⟨io,hio,hsz⟩:=zbb.1 Tryz.szObj;have qeq:=fun w=>run_eql_ptr_same (P:=Tryz.prog) w (⟨a,0,none⟩:Addr) Tryz.underlying281 hio;clear hio hsz;go_enter Tryz.func150,Tryz.ntmps150
 go_wp2_with fail
 go_ret
 exact⟨rfl,rfl⟩
theorem qi2 (a:Nat) (w:World) (v:Value) (a1:w.cell? ⟨a,1,none⟩=some v):Calls Tryz.prog 121 #[.pointer (some ⟨a,0,none⟩),.pointer (some ⟨a,0,none⟩)] w fun e w'=>e = .returned (.int .i64 0)∧qca w w':=by
 have hl:=zj w _ a1;simp only at hl;go_enter Tryz.func121,Tryz.ntmps121
 go_wp2_with fail
 go_region_with (go_at_call 150;refine(qu8 a _).mono ?_;rintro e w' ⟨rfl,rfl⟩)
 all_goals
  go_wp2_with fail
  go_ret
  exact⟨rfl,qca.drew w _⟩
section
variable {α:Type} [Inhabited α] {enc:α→Value}
theorem qnn {w:World} {g n:Nat} {os:Array Obj} {cur:Array Value} {e:TypeId} {fr:Nat×Nat} (d:Array α) (hb:w.heap[g]?=some (.cells cur e fr)):
  (sortWorld enc w g 0 n d os).heap[g]?=some (.cells (putCells enc 0 d cur) e fr):=by
 have hg:g<w.heap.size:=(zab.1 hb).1;unfold sortWorld;rw[heap_grow_old _ _ (by simpa using hg)];simp[putRow,mapBlock,Sort.ahead,Array.getElem?_modify,hb,onCells]
theorem qh2 {w:World} {g n:Nat} {os:Array Obj} (d:Array α):qah (fun b=>b=g) w (sortWorld enc w g 0 n d os):=by
 unfold sortWorld;refine⟨rfl,rfl,rfl,⟨by simp,fun k hk hne => ?_⟩⟩;rw[heap_grow_old _ _ (by simpa using hk)];have:g≠k:=fun e=>hne e.symm;simp[putRow,mapBlock,Sort.ahead,Array.getElem?_modify,this]
theorem qkx (cur:Array Value) (d:Array α) (h:d.size≤cur.size):(putCells enc 0 d cur).toList.take d.size=d.toList.map enc:=by
 apply List.ext_getElem?;intro j;by_cases hj:j<d.size
 ·rw[List.getElem?_take_of_lt hj,Array.getElem?_toList];simp[putCells,hj,show j<cur.size by omega]
 ·rw[List.getElem?_take_eq_none (by omega),List.getElem?_eq_none (by simp;omega)]
end
theorem qke {α:Type} (d:Array α) (n:Nat) (h:d.size=n):d.extract 0 n=d:=by subst h;simp
theorem qtt {α:Type} {l:List α} (h:l.Nodup) {i j:Nat} (hi:i<l.length) (hj:j<l.length) (e:l[i]=l[j]):i=j:=by
 have hp:=List.pairwise_iff_getElem.1 h;rcases Nat.lt_trichotomy i j with h1|h1|h1
 ·exact absurd e (hp i j hi hj h1)
 ·exact h1
 ·exact absurd e.symm (hp j i hj hi h1)
theorem qu6 {α:Type} (r:α→Nat):SWO (ltOf fun x y=>cmpI (r x) (r y)):=by
 have e:∀ x y,ltOf (fun x y=>cmpI (r x) (r y)) x y=decide (r x<r y):=fun x y=>by
  unfold ltOf cmpI;by_cases h:r x<r y
  ·simp[h]
  ·by_cases h2:r y<r x <;> simp[h,h2]
 constructor
 ·intro x;rw[e];simp
 ·intro x y z;rw[e,e,e];simp;omega
 ·intro x y z;rw[e,e,e];simp;omega
def Srt (rk:Nat→Nat) (n:Nat) (π:List Nat):Prop:=π.Perm (List.range n)∧π.Pairwise fun i j=>rk i≤rk j
theorem qgt.turns {S:Nat→Prop} {w w':World} {f pk:Nat} {p n:Int} (h:qgt w f pk p n) (k:qah S w w') (hf:¬ S f) (hp:¬ S pk):qgt w' f pk p n:=by
 have l1:=zj w _ h.c1;have l2:=zj w _ h.cp;obtain⟨T,cs,hb⟩:=h.bk;exact⟨(zlb (k.apart.block f l1 hf)).trans h.c1,(zlb (k.apart.block f l1 hf)).trans h.c2,(zlb (k.apart.block pk l2 hp)).trans h.cp,h.nm,h.pp,T,cs,hb.apart k.apart hf⟩
theorem qi0 {α:Type} [Inhabited α] {enc:α→Value} {w:World} {g n:Nat} {os:Array Obj} {d:Array α} {w':World} (h:qca (sortWorld enc w g 0 n d os) w'):∃ q os',w'=grow ((sortWorld enc w g 0 n d os).drewN q) os':=by
 obtain⟨q,os',e⟩:=h;exact⟨q,os',e⟩
theorem Tryz.entersCmp:∀ args w,(callFunc 121 args).run Tryz.prog w = .ok (.enter 121 args) w:=enters_of Tryz.func121 (by kernel_rfl) rfl
theorem ql8 (g c:Nat) (fs:List Nat) (pks:Nat→Nat) (P N:Nat→Int) (w0 w:World) (hT:Tabs w0) (hB:Below w0.heap.size w0 w) (hg:w0.heap.size≤g) (h0:0<fs.length)
  (hown:w.ownsRow 0 106 1 (.slice (some ⟨g,0,none⟩) fs.length c) fs.length (qa7 fs)) (hO:∀ i (hi:i<fs.length),qgt w fs[i] (pks i) (P i) (N i)∧fs[i]≠g∧pks i≠g) (hnd:fs.Nodup) (hl:fs.length≤1048576):
  Calls Tryz.prog 120 #[.slice (some ⟨g,0,none⟩) fs.length c,.func (.func 121) #[] #[]] w fun e w'=>e = .returned (.tuple #[])∧∃ π,Srt (fun i=>rank (P i) (N i)) fs.length π∧qah (fun b=>b=g) w w'∧
   w'.ownsRow 0 106 1 (.slice (some ⟨g,0,none⟩) fs.length c) fs.length (qa7 (π.map fun i=>fs.getD i 0)):=by
 haveI:Inhabited (Fin fs.length):=⟨⟨0,h0⟩⟩
 obtain⟨hlen,⟨he,-⟩|⟨g',cap,cur,he,-,hb,hn1,hn2,hn3,hn4⟩⟩:=hown
 ·cases he
 cases he
 let enc:Fin fs.length→Value:=fun i => .pointer (some ⟨fs[i.val],0,none⟩)
 let rk:Fin fs.length→Nat:=fun i=>rank (P i.val) (N i.val)
 let d0:Array (Fin fs.length):=(List.finRange fs.length).toArray
 have hd0:d0.size=fs.length:=by simp[d0]
 have hgl:g<w.heap.size:=(zab.1 hb).1;have hH:Holds enc w g 0 d0:=by
  intro j hj;have hj':j<fs.length:=by omega
  refine⟨?_,by simp[World.frozen?,hb]⟩;have h1:(cur.toList.take (fs.length * 1))[j]?=(qa7 fs)[j]?:=by rw[hn4]
  rw[Nat.mul_one,List.getElem?_take_of_lt hj'] at h1;simp only[World.cell?,hb,Nat.zero_add];simp only[Option.isSome_none,Bool.false_eq_true,if_false];rw[← Array.getElem?_toList,h1];simp[qa7,enc,d0,hj']
 have hcmp:CmpLays1 Tryz.prog 121 #[] enc (fun x y=>cmpI (rk x) (rk y)) g 0 d0.size w:=by
  intro m os dk hdk x y;have ht:=qh2 (enc:=enc) (w:=w) (g:=g) (n:=m) (os:=os) dk;have hTs:Tabs (sortWorld enc w g 0 m dk os):=hT.below (hB.trans (ht.below hB.size fun b hb=>by subst hb;exact hg));obtain⟨ox,ox1,ox2⟩:=hO x.val x.isLt;obtain⟨oy,oy1,oy2⟩:=hO y.val y.isLt;have ox:=ox.turns ht ox1 ox2;have oy:=oy.turns ht oy1 oy2;by_cases hxy:x=y
  ·subst hxy;refine(qi2 fs[x.val] _ _ ox.c1).mono ?_;rintro e w' ⟨rfl,hgr⟩;exact⟨by simp[cmpI],qi0 hgr⟩
  ·have hne:fs[x.val]≠fs[y.val]:=fun e=>hxy (Fin.ext (qtt hnd _ _ e));refine(qmp fs[x.val] fs[y.val] _ _ _ _ _ _ _ hTs ox oy hne).mono ?_;rintro e w' ⟨rfl,hgr⟩;exact⟨rfl,qi0 hgr⟩
 have h:=Any.slices_SortFunc Tryz.slF6 enc (fun x=>rfl) (fun x y=>cmpI (rk x) (rk y)) (qu6 rk) 121 #[] g 0 c d0 w Tryz.entersCmp hcmp hH hgl (by omega);rw[hd0] at h;refine Calls.mono h ?_;rintro e w' ⟨rfl,d',n,os,hp,hs,rfl⟩;obtain⟨p1,-,p3⟩:=hp;have hsz:d'.size=fs.length:=by omega
 have e1:d'.extract 0 fs.length=d':=qke _ _ hsz;have e2:d0.extract 0 fs.length=d0:=qke _ _ hd0;rw[e1,e2] at p3;refine⟨rfl,d'.toList.map (·.val),⟨?_,?_⟩,qh2 d',by simp[qa7,hsz],.inr ⟨g,c,_,rfl,Nat.zero_le _,qnn d' hb,hn1,hn2,by simp[putCells,hn3],?_⟩⟩
 ·have h1:=p3.map (fun i:Fin fs.length=>i.val);refine h1.trans ?_;rw[show(d0.toList.map fun i=>i.val)=List.range fs.length by
   apply List.ext_getElem
   ·simp[d0]
   ·intro i h1 h2;simp[d0]]
 ·rw[List.pairwise_map,List.pairwise_iff_getElem];intro i j hi hj hij;have hi':i<d'.size:=by simpa using hi
  have hj':j<d'.size:=by simpa using hj
  have:=hs i j (Nat.zero_le _) hij (by omega);rw[getElem!_pos d' j hj',getElem!_pos d' i hi'] at this;simp only[Array.getElem_toList];have h2:¬ (rk d'[j]<rk d'[i]):=by
   intro hlt;simp[ltOf,cmpI,hlt] at this
  show rk d'[i]≤rk d'[j];omega
 ·have h1:=qkx (enc:=enc) cur d' (by omega);rw[hsz] at h1;rw[Nat.mul_one,h1];simp only[qa7,List.map_map];apply List.map_congr_left;intro i _;simp[enc,zv]
theorem qi7 (g c:Nat) (fs:List Nat) (pks:Nat→Nat) (P N:Nat→Int) (w0 w:World) (hT:Tabs w0) (hB:Below w0.heap.size w0 w) (hg:w0.heap.size≤g) (h0:0<fs.length)
  (hown:w.ownsRow 0 106 1 (.slice (some ⟨g,0,none⟩) fs.length c) fs.length (qa7 fs)) (hO:∀ i (hi:i<fs.length),qgt w fs[i] (pks i) (P i) (N i)∧fs[i]≠g∧pks i≠g) (hnd:fs.Nodup) (hl:fs.length≤1048576):
  Calls Tryz.prog 93 #[.slice (some ⟨g,0,none⟩) fs.length c] w fun e w'=>e = .returned (.tuple #[])∧∃ π,Srt (fun i=>rank (P i) (N i)) fs.length π∧qah (fun b=>b=g) w w'∧
   w'.ownsRow 0 106 1 (.slice (some ⟨g,0,none⟩) fs.length c) fs.length (qa7 (π.map fun i=>fs.getD i 0)):=by
 have H:=hid (ql8 g c fs pks P N w0 w hT hB hg h0 hown hO hnd hl);clear hT hB hown hO hnd;go_enter Tryz.func93,Tryz.ntmps93
 go_wp2_with (go_at_call 120;refine H.out.mono ?_;rintro e w' ⟨rfl,h⟩;have Hp:=hid h;clear h)
 go_end0
 exact⟨rfl,Hp.out⟩
theorem qfs (p:Option Addr) (c:Nat) (w:World):Calls Tryz.prog 93 #[.slice p 0 c] w fun e w'=>e = .returned (.tuple #[])∧w'=w:=by
 have H:=AnyF.slices_SortFunc_none (P:=Tryz.prog) (ρ:=Tryz.slF06_ren) Tryz.slF06 p c (.func (.func 121) #[] #[]) w;go_enter Tryz.func93,Tryz.ntmps93
 go_wp2_with (go_at_call 120;refine Calls.mono H ?_;rintro e w' ⟨rfl,rfl⟩)
 go_end0
 exact⟨rfl,rfl⟩
theorem qgi (ra:Option Addr) (c:Nat) (fs:List Nat) (pks:Nat→Nat) (P N:Nat→Int) (w0 w:World) (hT:Tabs w0) (hB:Below w0.heap.size w0 w) (hg:∀ g,(Value.slice ra fs.length c).ownBlock=some g→w0.heap.size≤g)
  (hown:w.ownsRow 0 106 1 (.slice ra fs.length c) fs.length (qa7 fs)) (hO:∀ i (hi:i<fs.length),qgt w fs[i] (pks i) (P i) (N i)∧(Value.slice ra fs.length c).ownBlock≠some fs[i]∧(Value.slice ra fs.length c).ownBlock≠some (pks i)) (hnd:fs.Nodup) (hl:fs.length≤1048576):
  Calls Tryz.prog 93 #[.slice ra fs.length c] w fun e w'=>e = .returned (.tuple #[])∧∃ π,Srt (fun i=>rank (P i) (N i)) fs.length π∧qah (fun b=>(Value.slice ra fs.length c).ownBlock=some b) w w'∧
   w'.ownsRow 0 106 1 (.slice ra fs.length c) fs.length (qa7 (π.map fun i=>fs.getD i 0)):=by
 by_cases h0:0<fs.length
 ·have hs:=qak hown;obtain⟨a',c',he,-,h1,h2⟩:=hs;cases he;cases ra with
  | none=>have:=(h2 rfl).1;omega
  | some ad=>
   obtain⟨g,rfl,-,-,-⟩:=h1 ad rfl;refine(qi7 g c fs pks P N w0 w hT hB (hg g rfl) h0 hown (fun i hi=>⟨(hO i hi).1,fun e=>(hO i hi).2.1 (by rw[e];rfl),fun e=>(hO i hi).2.2 (by rw[e];rfl)⟩) hnd hl).mono ?_;rintro e w' ⟨rfl,π,h3,h4,h5⟩;exact⟨rfl,π,h3,h4.mono fun b _ hb=>by subst hb;rfl,h5⟩
 ·obtain rfl:fs=[]:=by cases fs with|nil=>rfl|cons=>simp at h0
  refine(qfs ra c w).mono ?_;rintro e w' ⟨rfl,rfl⟩;exact⟨rfl,[],⟨by simp,by simp⟩,qah.refl _ _,by simpa using hown⟩
end Go.Proofs.YtmfhclggkjjcdaaGreatDoor
namespace Go.Proofs.YtmfhclggkjjcdaaGreatDoor
open Go Go.RowKit
set_option maxRecDepth 100000
def qt1 (w:World) (b:Nat) (k:Int):Prop:=∃ i s,Blk w b 203 [.int .i64 k,.int .i64 i,.string s]
theorem qbb {w:World} {b:Nat} (h:b=w.heap.size) (T:TypeId) (cs:List Value):Blk (w.alloc (.cells cs.toArray T)) b T cs:=by
 subst h;exact Blk.new w T cs
theorem qjs (k:Int) (hk:k=2∨k=17∨k=1) (w:World):Calls Tryz.prog 71 #[.int .i64 k] w fun e w'=>∃ b,e = .returned (.pointer (some ⟨b,0,none⟩))∧qt1 w' b k∧w.heap.size≤b∧Below w.heap.size w w':=by
 rcases hk with rfl|rfl|rfl
 ·go_enter Tryz.func71,Tryz.ntmps71
  go_wp2_with fail
  go_ret
  refine⟨_,rfl,⟨?i1,?s1,?h1⟩,by omega,?b1⟩
  case h1=>
   iterate 24 refine Blk.alloc ?_ _
   refine qbb ?_ _ _;simp
  case b1=>
   iterate 27 refine Below.alloc ?_ (by simp <;> omega) _
   exact zp _ _
 ·go_enter Tryz.func71,Tryz.ntmps71
  go_wp2_with fail
  go_ret
  refine⟨_,rfl,⟨?i2,?s2,?h2⟩,by omega,?b2⟩
  case h2=>
   iterate 9 refine Blk.alloc ?_ _
   refine qbb ?_ _ _;simp
  case b2=>
   iterate 27 refine Below.alloc ?_ (by simp <;> omega) _
   exact zp _ _
 ·go_enter Tryz.func71,Tryz.ntmps71
  go_wp2_with fail
  go_ret
  refine⟨_,rfl,⟨?i3,?s3,?h3⟩,by omega,?b3⟩
  case h3=>
   iterate 25 refine Blk.alloc ?_ _
   refine qbb ?_ _ _;simp
  case b3=>
   iterate 27 refine Below.alloc ?_ (by simp <;> omega) _
   exact zp _ _
theorem qvn (n:Nat):∀ (t:Ty) (cs:List Value) (w:World),t.bulk≤n→t.bulk≤1048576→TyC w t cs→
  Calls Tryz.prog 40 #[.agg cs.toArray] w (qa2 (.int .i64 t.size) w):=by
 induction n with
 | zero=>
  intro t cs w h;have:=qd3 t;omega
 | succ n ih=>
  intro t cs w h hb ht;obtain⟨k,num,el,fs,ms,em⟩:=t;simp only[TyC] at ht;obtain⟨a1,c1,a2,c2,a3,c3,a4,c4,rfl,-,hk,hn,h1,h2,h3,h4⟩:=ht;simp only[Ty.bulk] at h hb;have hl1:=qa3 el;have hl2:=qbv fs;have hl3:=qa3 em;have hs1:=qem el;have hs2:=qh6 fs;have hs3:=qem em;have IH:=hid ih;clear ih;obtain⟨O,hO⟩:∃ O,O=(Obj.cells #[.int .i64 k,.int .i64 num,.slice a1 el.length c1,.slice a2 fs.length c2,.slice a3 ms.length c3,.slice a4 em.length c4] 29):=⟨_,rfl⟩;have HO:=hid hO;clear hk hn h3;go_enter Tryz.func40,Tryz.ntmps40
  go_wp2_with fail
  rw[← hO];clear hO
  go_loopw [3,16] (fun v i wr=>∃ k':Nat,k'≤fs.length∧i = .int .i64 k'∧v = .int .i64 (ms.length+qar (fs.take k'))∧Below (w.heap.size+1) (w.alloc O) wr)
   (fun _ i _=>fs.length - (intOf i).toNat)
  case atStart=>exact⟨0,by omega,rfl,by simp[qar],zp _ _⟩
  case round=>
   obtain⟨k',hk',rfl,rfl,hbel⟩:=hrel;have hK:qac w wr:=(qac.alloc w O).trans (qac.belowGe hbel (by simp));have hz:=zq hbel;(try simp only[zd,qaa] at hz);have hts:=qbj fs k';by_cases hlt:k'<fs.length
   ·obtain⟨b,o,cs,rfl,hn1,hc,htt⟩:=FdsR.get h2 k' hlt;have htt:=htt.keep hK;obtain⟨x1,d1,x2,d2,x3,d3,x4,d4,rfl,-⟩:=htt.open;obtain⟨e0,e1,e2,e3,e4,e5,e6,e7⟩:=qhx (hc.keep hK);simp only[Nat.zero_add] at e0 e1 e2 e3 e4 e5 e6 e7;have htk:=qdi fs k' hlt;have hbk:=qbx fs k' hlt;have hsk:=qbj fs (k'+1);have hle:qar (fs.take k')+(1+fs[k'].of.size)≤qcm fs:=by omega
    have Htk:=hid htk;clear htk;have Htt:=hid htt;clear htt;clear h2 h4 h1 hc hK hn1
    go_wp2_with (go_at_call 40;refine(IH.out _ _ _ (by omega) (by omega) (Htt.out.keep (qac.alloc _ _))).mono ?_;rintro e w1 ⟨rfl,hb1⟩)
    have hz1:=zq hb1;(try simp only[zd,qaa] at hz1)
    go_roundw
    case rel=>exact⟨k'+1,by omega,by go_num,by rw[Htk.out];go_num,bel⟩
    case measure=>simp[intOf];omega
   ·obtain rfl:k'=fs.length:=by omega
    obtain⟨-,-,q2,-,-,q5⟩:=six (box hbel HO.out);simp only[zeb] at *;clear h2 hlt
    go_wp2_with fail
    go_loopw [3,30] (fun v i wr=>∃ k':Nat,k'≤em.length∧i = .int .i64 k'∧v = .int .i64 (ms.length+qar fs+qau (em.take k'))∧Below (w.heap.size+1) (w.alloc O) wr)
     (fun _ i _=>em.length - (intOf i).toNat)
    case atStart=>exact⟨0,by omega,rfl,by simp[qau],hbel⟩
    clear hbel q2 q5 hK hz
    case round=>
     obtain⟨k',hk',rfl,rfl,hbel⟩:=hrel;have hK:qac w wr:=(qac.alloc w O).trans (qac.belowGe hbel (by simp));have hz:=zq hbel;(try simp only[zd,qaa] at hz);have hts:=qa5 em k';by_cases hlt:k'<em.length
     ·obtain⟨b,o,cs,rfl,hc,htt⟩:=TysR.get h4 k' hlt;have htt:=htt.keep hK;obtain⟨x1,d1,x2,d2,x3,d3,x4,d4,rfl,-⟩:=htt.open;obtain⟨e0,e1,e2,e3,e4,e5⟩:=six (hc.keep hK);simp only[Nat.zero_add] at e0 e1 e2 e3 e4 e5;have htk:=qc1 em k' hlt;have hbk:=qa6 em k' hlt;have hsk:=qa5 em (k'+1);have hle:qau (em.take k')+em[k'].size≤qbt em:=by omega
      have Htk:=hid htk;clear htk;have Htt:=hid htt;clear htt;clear h1 h4 hc hK
      go_wp2_with (go_at_call 40;refine(IH.out _ _ _ (by omega) (by omega) (Htt.out.keep (qac.alloc _ _))).mono ?_;rintro e w1 ⟨rfl,hb1⟩)
      have hz1:=zq hb1;(try simp only[zd,qaa] at hz1)
      go_roundw
      case rel=>exact⟨k'+1,by omega,by go_num,by rw[Htk.out];go_num,bel⟩
      case measure=>simp[intOf];omega
     ·obtain rfl:k'=em.length:=by omega
      obtain⟨-,-,q2,-,-,-⟩:=six (box hbel HO.out);simp only[zeb] at *;clear h4 hlt
      go_wp2_with fail
      go_loopw [3,42] (fun v i wr=>∃ k':Nat,k'≤el.length∧i = .int .i64 k'∧v = .int .i64 (ms.length+qar fs+qau em+qau (el.take k'))∧Below (w.heap.size+1) (w.alloc O) wr)
       (fun _ i _=>el.length - (intOf i).toNat)
      case atStart=>exact⟨0,by omega,rfl,by simp[qau],hbel⟩
      clear hbel q2 hK hz
      case round=>
       obtain⟨k',hk',rfl,rfl,hbel⟩:=hrel;have hK:qac w wr:=(qac.alloc w O).trans (qac.belowGe hbel (by simp));have hz:=zq hbel;(try simp only[zd,qaa] at hz);have hts:=qa5 el k';by_cases hlt:k'<el.length
       ·obtain⟨b,o,cs,rfl,hc,htt⟩:=TysR.get h1 k' hlt;have htt:=htt.keep hK;obtain⟨x1,d1,x2,d2,x3,d3,x4,d4,rfl,-⟩:=htt.open;obtain⟨e0,e1,e2,e3,e4,e5⟩:=six (hc.keep hK);simp only[Nat.zero_add] at e0 e1 e2 e3 e4 e5;have htk:=qc1 el k' hlt;have hbk:=qa6 el k' hlt;have hsk:=qa5 el (k'+1);have hle:qau (el.take k')+el[k'].size≤qbt el:=by omega
        have Htk:=hid htk;clear htk;have Htt:=hid htt;clear htt;clear h1 hc hK
        go_wp2_with (go_at_call 40;refine(IH.out _ _ _ (by omega) (by omega) (Htt.out.keep (qac.alloc _ _))).mono ?_;rintro e w1 ⟨rfl,hb1⟩)
        have hz1:=zq hb1;(try simp only[zd,qaa] at hz1)
        go_roundw
        case rel=>exact⟨k'+1,by omega,by go_num,by rw[Htk.out];go_num,bel⟩
        case measure=>simp[intOf];omega
       ·obtain rfl:k'=el.length:=by omega
        simp only[zeb] at *;clear h1 hlt
        go_wp2_with fail
        go_ret
        exact⟨by simp[Ty.size];omega,(((zp _ _).alloc (zl _) _).trans (hbel.mono (by omega)))⟩
theorem qf1 (t:Ty) (cs:List Value) (w:World) (hb:t.bulk≤1048576) (h:TyC w t cs):
  Calls Tryz.prog 40 #[.agg cs.toArray] w (qa2 (.int .i64 t.size) w):=qvn t.bulk t cs w (zl _) hb h
theorem qmk (bb ob N c k:Nat) (D:TypeId) (x:Option Addr) (v:Value) (w:World) (h:w.cell? ⟨bb,2,none⟩=some (.slice (some ⟨ob,0,none⟩) N c)) (hk:k<N) (hc:w.cell? ⟨ob,k,none⟩=some v) (hf:w.frozen? ⟨ob,k,none⟩=false):
  Calls Tryz.prog 46 #[.pointer (some ⟨bb,0,none⟩),.int .i64 k,.iface D (.pointer x)] w fun e w'=>e = .returned (.tuple #[])∧w'=w.setCell ⟨ob,k,none⟩ (.iface D (.pointer x)):=by
 go_enter Tryz.func46,Tryz.ntmps46
 go_wp2_with fail
 go_end0
 exact⟨rfl,rfl⟩
theorem qlg (W:Wd) (a:Option Addr) (c:Nat) (t:Ty) (cs:List Value) (w0 w:World) (k0:qac w0 w) (hW:WOk w0 W a c) (ht:TyC w0 t cs) (hk:t.kind=1) (hn:0≤t.num∧t.num<W.length) (hnm:IsNm (dc W t.num.toNat).name):
  Calls Tryz.prog 67 #[.slice a W.length c,.agg cs.toArray] w (qa2 (.string (qas (dc W t.num.toNat).name)) w):=by
 obtain⟨x1,d1,x2,d2,x3,d3,x4,d4,rfl,-⟩:=ht.full;have hnl:t.num.toNat<W.length:=by omega
 have hnn:t.num=(t.num.toNat:Int):=by omega
 obtain⟨b,o,p1,g1,p2,g2,p3,g3,p4,g4,p5,g5,rfl,-,-,-,-,-,hdd⟩:=hW.row.get t.num.toNat hnl;obtain⟨D0,-⟩:=ten (hdd.keep k0);have hbb:=zj w _ D0;simp only at hbb;have hkd:(t.kind==2)=false:=by simp[hk]
 have hcap:=hW.cap;rw[qcg hnl] at hnm ⊢;have Hnm:=hid hnm;clear hdd hk hnm ht hW hn
 generalize W[t.num.toNat].name=N at *
 rw[hnn];clear hnn
 generalize t.num.toNat=nn at *
 go_enter Tryz.func67,Tryz.ntmps67
 go_wp2_with (go_at_call 26;refine(qbq _ _ Hnm.out).mono ?_;rintro e w2 ⟨rfl,hb2⟩)
 go_ret
 exact⟨rfl,((zp _ _).alloc (zl _) _).trans (hb2.mono (by simp))⟩
theorem qr3 (W:Wd) (a:Option Addr) (c:Nat) (t:Ty) (cs:List Value) (w0 w:World) (k0:qac w0 w) (hW:WOk w0 W a c) (ht:TyC w0 t cs) (hk:t.kind=2) (he:0<t.elem.length) (hk1:t.el0.kind=1) (hn:0≤t.el0.num∧t.el0.num<W.length) (hnm:IsNm (dc W t.el0.num.toNat).name):
  Calls Tryz.prog 67 #[.slice a W.length c,.agg cs.toArray] w (qa2 (.string (qas (dc W t.el0.num.toNat).name)) w):=by
 obtain⟨x1,d1,x2,d2,x3,d3,x4,d4,rfl,-,-,-,h1,-⟩:=ht.full;obtain⟨b,o,cs1,rfl,hc,ht1⟩:=TysR.get h1 0 he;have e0:t.elem[0]=t.el0:=by simp[Ty.el0,zv,zr he]
 rw[e0] at ht1;have Ht1:=hid ht1;obtain⟨y1,g1,y2,g2,y3,g3,y4,g4,rfl,-⟩:=ht1.open;obtain⟨c0,c1,c2,c3,c4,c5⟩:=six (hc.keep k0);simp only[Nat.zero_add,Nat.zero_mul,Nat.add_zero] at c0 c1 c2 c3 c4 c5;have hbb:=zj w _ c0;simp only at hbb;have hbb1:b<w.heap.size+1:=by omega
 have hkd:(t.kind==2)=true:=by simp[hk]
 have HW:=hid hW;have Hk1:=hid hk1;have Hn:=hid hn;have Hnm:=hid hnm;have K0:=hid k0;clear hc ht1 hk hk1 hn hnm ht hW e0 h1;go_enter Tryz.func67,Tryz.ntmps67
 go_wp2_with (go_at_call 67;refine(qlg W a c t.el0 _ w0 _ (K0.out.trans (qac.alloc _ _)) HW.out Ht1.out Hk1.out Hn.out Hnm.out).mono ?_;rintro e w2 ⟨rfl,hb2⟩)
 go_ret
 exact⟨rfl,((zp _ _).alloc (zl _) _).trans (hb2.mono (by simp))⟩
def qjt (B:Nat) (w:World) (f pk:Nat) (n:Int) (rv:Value):Prop:=∃ sg,Blk w f 167 [.int .i64 0,.pointer (some ⟨pk,0,none⟩),.string (qas n),.iface 162 (.pointer (some ⟨sg,0,none⟩)),.bool false,.bool false]∧
 Blk w sg 199 [rv,.pointer none,.pointer none,.pointer none,.bool false]∧B≤f∧B≤sg∧sg≠f
theorem qr9 (bb pr pn pk:Nat) (p n:Int) (c:Nat) (m:Bool) (w:World) (hn:IsNm n) (hp:p=0∨p=1) (h:w.cell? ⟨bb,0,none⟩=some (.slice (some ⟨pr,0,none⟩) 2 c)) (hk:w.cell? ⟨pr,p.toNat,none⟩=some (.pointer (some ⟨pk,0,none⟩))):
  Calls Tryz.prog 45 #[.pointer (some ⟨bb,0,none⟩),.int .i64 p,.agg #[.int .i64 n,.bool m],.nilIface] w fun e w'=>∃ f,e = .returned (.pointer (some ⟨f,0,none⟩))∧qjt w.heap.size w' f pk n (.pointer none)∧Below w.heap.size w w':=by
 have hpn:p=(p.toNat:Int):=by omega
 have hp2:p.toNat<2:=by omega
 have hbl:=zj w _ h;have hpl:=zj w _ hk;simp only at hbl hpl;have hpl1:pr<w.heap.size+1:=by omega
 have hbl1:bb<w.heap.size+1:=by omega
 have Hn:=hid hn;clear hn hp
 generalize p.toNat=q at *
 subst hpn;have hq2:(q:Int)<2:=by omega
 go_enter Tryz.func45,Tryz.ntmps45
 go_wp2_with fail
 refine Mix.wp_region [0,1,2,3,4,5,6,7,8,9,10] [(11,false),(12,false)] [13] (fun _=>default) (by kernel_rfl) (by kernel_rfl) (by decide) ?_
 iterate 11 (first|(refine pre_yes rfl rfl ?_;apply Exists.intro;refine⟨fun W1 hW1 => ?_,?_⟩;(focus (have hc1:=(qal hW1).1;(try simp only[zd,qaa] at hc1);have hk1:=qac.below hW1;go_simp;first|exact rfl|(go_at_call 26;exact qbq _ _ Hn.out)));simp only[Act.put,zk,zh,zi,ze,zm,zn])|(refine pre_no rfl rfl ?_;simp only[Act.put,zk,zh,zi,ze,zm,zn]))
 refine pre_end (fl_op (fl_op fl_nil)) (fun W2 hW2 => ?_);have hz2:=zq hW2;(try simp only[zd,qaa] at hz2);refine mid_call hW2 rfl rfl (fun Kp hKp => ?_);go_simp;refine(qie _ _).mono ?_;rintro e W3 ⟨rfl,rfl⟩;refine⟨_,rfl,hKp _ _ ((zp _ _).alloc (zl _) _) fun W4 hW4 => ?_⟩;simp only[Act.put,zk,zh,zi,ze,zm,zn];have hz4:=zq hW4;(try simp only[zd,qaa] at hz4);have hB4:=qa4 hW4 (qbl ((zp _ _).alloc (zl _) _) hW2 (by first|omega|(simp;done)|(simp;omega)));refine mid_call hB4 rfl rfl (fun Kp2 hKp2 => ?_);go_simp;refine(qhd _ _ _ _).mono ?_;rintro e W5 ⟨rfl,rfl⟩;refine⟨_,rfl,hKp2 _ _ ((zp _ _).alloc (zl _) _) fun W6 hW6 => ?_⟩;simp only[Act.put,zk,zh,zi,ze,zm,zn];have hz6:=zq hW6;(try simp only[zd,qaa] at hz6);refine mid_nil (qco rfl ?_)
 go_wp2_with fail
 go_ret
 refine⟨_,rfl,⟨W2.heap.size,(Blk.new W4 _ _).keep hW6,(((Blk.new W2 _ _).keep hW4).alloc _).keep hW6,by omega,by omega,by omega⟩,?_⟩;exact(((zp _ _).alloc (zl _) _).drew).trans ((hB4.mono (by simp)).trans (((zp _ _).alloc (by omega) _).trans (hW6.mono (by simp;omega))))
theorem qsj (T:TypeId) (x:Addr) (bb pr pn pk:Nat) (p n:Int) (c:Nat) (w:World) (hn:IsNm n) (hp:p=0∨p=1) (h:w.cell? ⟨bb,0,none⟩=some (.slice (some ⟨pr,0,none⟩) 2 c)) (hk:w.cell? ⟨pr,p.toNat,none⟩=some (.pointer (some ⟨pk,0,none⟩))):
  Calls Tryz.prog 45 #[.pointer (some ⟨bb,0,none⟩),.int .i64 p,.agg #[.int .i64 n,.bool false],.iface T (.pointer (some x))] w fun e w'=>∃ f,e = .returned (.pointer (some ⟨f,0,none⟩))∧(∃ v,qjt w.heap.size w' f pk n (.pointer (some ⟨v,0,none⟩))∧w.heap.size≤v∧Blk w' v 191 [.int .i64 0,.pointer (some ⟨pk,0,none⟩),.string ⟨#[]⟩,.iface T (.pointer (some x)),.int .u8 4,.bool false])∧Below w.heap.size w w':=by
 have hpn:p=(p.toNat:Int):=by omega
 have hp2:p.toNat<2:=by omega
 have hbl:=zj w _ h;have hpl:=zj w _ hk;simp only at hbl hpl;have hpl2:pr<w.heap.size+1+1:=by omega
 have hbl2:bb<w.heap.size+1+1:=by omega
 have hpl1:pr<w.heap.size+1:=by omega
 have hbl1:bb<w.heap.size+1:=by omega
 have Hn:=hid hn;clear hn hp
 generalize p.toNat=q at *
 subst hpn;have hq2:(q:Int)<2:=by omega
 go_enter Tryz.func45,Tryz.ntmps45
 go_wp2_with (go_at_call 72;refine(qix _ _ _ _ _).mono ?_;rintro e w1 ⟨rfl,rfl⟩)
 refine Mix.wp_region [0,1,2,3,4,5,6,7,8,9,10] [(11,false),(12,false)] [13] (fun _=>default) (by kernel_rfl) (by kernel_rfl) (by decide) ?_
 iterate 11 (first|(refine pre_yes rfl rfl ?_;apply Exists.intro;refine⟨fun W1 hW1 => ?_,?_⟩;(focus (have hc1:=(qal hW1).1;(try simp only[zd,qaa] at hc1);have hk1:=qac.below hW1;go_simp;first|exact rfl|(go_at_call 26;exact qbq _ _ Hn.out)));simp only[Act.put,zk,zh,zi,ze,zm,zn])|(refine pre_no rfl rfl ?_;simp only[Act.put,zk,zh,zi,ze,zm,zn]))
 refine pre_end (fl_op (fl_op fl_nil)) (fun W2 hW2 => ?_);have hz2:=zq hW2;(try simp only[zd,qaa] at hz2);refine mid_call hW2 rfl rfl (fun Kp hKp => ?_);go_simp;refine(qie _ _).mono ?_;rintro e W3 ⟨rfl,rfl⟩;refine⟨_,rfl,hKp _ _ ((zp _ _).alloc (zl _) _) fun W4 hW4 => ?_⟩;simp only[Act.put,zk,zh,zi,ze,zm,zn];have hz4:=zq hW4;(try simp only[zd,qaa] at hz4);have hB4:=qa4 hW4 (qbl ((zp _ _).alloc (zl _) _) hW2 (by first|omega|(simp;done)|(simp;omega)));refine mid_call hB4 rfl rfl (fun Kp2 hKp2 => ?_);go_simp;refine(qhd _ _ _ _).mono ?_;rintro e W5 ⟨rfl,rfl⟩;refine⟨_,rfl,hKp2 _ _ ((zp _ _).alloc (zl _) _) fun W6 hW6 => ?_⟩;simp only[Act.put,zk,zh,zi,ze,zm,zn];have hz6:=zq hW6;(try simp only[zd,qaa] at hz6);refine mid_nil (qco rfl ?_)
 go_wp2_with fail
 go_ret
 refine⟨_,rfl,⟨_,⟨W2.heap.size,(Blk.new W4 _ _).keep hW6,(((Blk.new W2 _ _).keep hW4).alloc _).keep hW6,by omega,by omega,by omega⟩,?_,?v⟩,?_⟩
 case v=>
  have h1:=(Blk.new (w.alloc (.cells #[.int .i64 ↑n,.bool false] 84)) 191 [.int .i64 0,.pointer (some ⟨pk,0,none⟩),.string ⟨#[]⟩,.iface T (.pointer (some x)),.int .u8 4,.bool false]);rw[show(w.alloc (.cells #[.int .i64 ↑n,.bool false] 84)).heap.size=w.heap.size+1 by simp] at h1;exact((((h1.drew).keep hW2).alloc _ |>.keep hW4).alloc _).keep hW6
 ·simp
 ·exact((((zp _ _).alloc (zl _) _).alloc (by simp) _).drew).trans ((hB4.mono (by simp;omega)).trans (((zp _ _).alloc (by omega) _).trans (hW6.mono (by simp;omega))))
theorem qsc (T:TypeId) (x:Addr) (bb pr pn pk:Nat) (p n:Int) (c:Nat) (w:World) (hn:IsNm n) (hp:p=0∨p=1) (h:w.cell? ⟨bb,0,none⟩=some (.slice (some ⟨pr,0,none⟩) 2 c)) (hk:w.cell? ⟨pr,p.toNat,none⟩=some (.pointer (some ⟨pk,0,none⟩))):
  Calls Tryz.prog 45 #[.pointer (some ⟨bb,0,none⟩),.int .i64 p,   .agg #[.int .i64 n,.bool true],.iface T (.pointer (some x))] w fun e w'=>∃ f,e = .returned (.pointer (some ⟨f,0,none⟩))∧(∃ v,qjt w.heap.size w' f pk n (.pointer (some ⟨v,0,none⟩))∧w.heap.size≤v∧∃ q,w.heap.size≤q∧Blk w' q 185 [.iface T (.pointer (some x))]∧Blk w' v 191 [.int .i64 0,.pointer (some ⟨pk,0,none⟩),.string ⟨#[]⟩,.iface 145 (.pointer (some ⟨q,0,none⟩)),.int .u8 4,.bool false])∧Below w.heap.size w w':=by
 have hpn:p=(p.toNat:Int):=by omega
 have hp2:p.toNat<2:=by omega
 have hbl:=zj w _ h;have hpl:=zj w _ hk;simp only at hbl hpl;have hpl3:pr<w.heap.size+1+1+1:=by omega
 have hbl3:bb<w.heap.size+1+1+1:=by omega
 have hpl2:pr<w.heap.size+1+1:=by omega
 have hbl2:bb<w.heap.size+1+1:=by omega
 have hpl1:pr<w.heap.size+1:=by omega
 have hbl1:bb<w.heap.size+1:=by omega
 have Hn:=hid hn;clear hn hp
 generalize p.toNat=q at *
 subst hpn;have hq2:(q:Int)<2:=by omega
 go_enter Tryz.func45,Tryz.ntmps45
 go_wp2_with (first|(go_at_call 65;refine(qg1 _ _ _).mono ?_;rintro e w1 ⟨rfl,rfl⟩)|(go_at_call 72;refine(qix _ _ _ _ _).mono ?_;rintro e w1 ⟨rfl,rfl⟩))
 refine Mix.wp_region [0,1,2,3,4,5,6,7,8,9,10] [(11,false),(12,false)] [13] (fun _=>default) (by kernel_rfl) (by kernel_rfl) (by decide) ?_
 iterate 11 (first|(refine pre_yes rfl rfl ?_;apply Exists.intro;refine⟨fun W1 hW1 => ?_,?_⟩;(focus (have hc1:=(qal hW1).1;(try simp only[zd,qaa] at hc1);have hk1:=qac.below hW1;go_simp;first|exact rfl|(go_at_call 26;exact qbq _ _ Hn.out)));simp only[Act.put,zk,zh,zi,ze,zm,zn])|(refine pre_no rfl rfl ?_;simp only[Act.put,zk,zh,zi,ze,zm,zn]))
 refine pre_end (fl_op (fl_op fl_nil)) (fun W2 hW2 => ?_);have hz2:=zq hW2;(try simp only[zd,qaa] at hz2);refine mid_call hW2 rfl rfl (fun Kp hKp => ?_);go_simp;refine(qie _ _).mono ?_;rintro e W3 ⟨rfl,rfl⟩;refine⟨_,rfl,hKp _ _ ((zp _ _).alloc (zl _) _) fun W4 hW4 => ?_⟩;simp only[Act.put,zk,zh,zi,ze,zm,zn];have hz4:=zq hW4;(try simp only[zd,qaa] at hz4);have hB4:=qa4 hW4 (qbl ((zp _ _).alloc (zl _) _) hW2 (by first|omega|(simp;done)|(simp;omega)));refine mid_call hB4 rfl rfl (fun Kp2 hKp2 => ?_);go_simp;refine(qhd _ _ _ _).mono ?_;rintro e W5 ⟨rfl,rfl⟩;refine⟨_,rfl,hKp2 _ _ ((zp _ _).alloc (zl _) _) fun W6 hW6 => ?_⟩;simp only[Act.put,zk,zh,zi,ze,zm,zn];have hz6:=zq hW6;(try simp only[zd,qaa] at hz6);refine mid_nil (qco rfl ?_)
 go_wp2_with fail
 go_ret
 refine⟨_,rfl,⟨_,⟨W2.heap.size,(Blk.new W4 _ _).keep hW6,(((Blk.new W2 _ _).keep hW4).alloc _).keep hW6,by omega,by omega,by omega⟩,?_,w.heap.size+1,by omega,?hpp,?hvv⟩,?_⟩
 case hpp=>
  have h1:=(Blk.new (w.alloc (.cells #[.int .i64 ↑n,.bool true] 84)) 185 [.iface T (.pointer (some x))]);rw[show(w.alloc (.cells #[.int .i64 ↑n,.bool true] 84)).heap.size=w.heap.size+1 by simp] at h1;exact(((((h1.alloc _).drew).keep hW2).alloc _ |>.keep hW4).alloc _).keep hW6
 case hvv=>
  have h1:=(Blk.new ((w.alloc (.cells #[.int .i64 ↑n,.bool true] 84)).alloc (.cells #[.iface T (.pointer (some x))] 185)) 191 [.int .i64 0,.pointer (some ⟨pk,0,none⟩),.string ⟨#[]⟩,.iface 145 (.pointer (some ⟨w.heap.size+1,0,none⟩)),.int .u8 4,.bool false]);rw[show((w.alloc (.cells #[.int .i64 ↑n,.bool true] 84)).alloc (.cells #[.iface T (.pointer (some x))] 185)).heap.size=w.heap.size+1+1 by simp] at h1;exact((((h1.drew).keep hW2).alloc _ |>.keep hW4).alloc _).keep hW6
 ·omega
 ·exact(((((zp _ _).alloc (zl _) _).alloc (by simp) _).alloc (by simp <;> omega) _).drew).trans ((hB4.mono (by simp;omega)).trans (((zp _ _).alloc (by omega) _).trans (hW6.mono (by simp;omega))))
def AllV (w:World) (v:Value):Prop:=∃ tl c te cs,v = .slice (some ⟨tl,0,none⟩) 1 c∧1≤c∧Blk w tl 273 (.pointer (some ⟨te,0,none⟩)::cs)∧Blk w te 275 [.bool false,.nilIface]
theorem qed (w:World):Calls Tryz.prog 119 #[] w fun e w'=>e = .returned (.slice (some ⟨w.heap.size+1,0,none⟩) 1 1)∧w'=(w.alloc (.cells #[.bool false,.nilIface] 275)).alloc (.cells #[.pointer (some ⟨w.heap.size,0,none⟩)] 273):=by
 go_enter Tryz.func119,Tryz.ntmps119
 go_wp2_with fail
 go_ret
 exact⟨by simp,rfl⟩
theorem qkq (w:World):Calls Tryz.prog 91 #[] w fun e w'=>e = .returned (.pointer (some ⟨w.heap.size+2,0,none⟩))∧
  w'=((w.alloc (.cells #[.bool false,.nilIface] 275)).alloc (.cells #[.pointer (some ⟨w.heap.size,0,none⟩)] 273)).alloc (.cells #[.bool false,.slice none 0 0,.slice (some ⟨w.heap.size+1,0,none⟩) 1 1,.bool false] 248):=by
 go_enter Tryz.func91,Tryz.ntmps91
 go_wp2_with (go_at_call 119;refine(qed _).mono ?_;rintro e w' ⟨rfl,rfl⟩)
 go_ret
 exact⟨by simp,rfl⟩
def SetAt (w:World) (ts:Nat) (fs:List Nat):Prop:=∃ a c tv,Blk w ts 248 [.bool false,.slice a fs.length c,tv,.bool false]∧w.ownsRow 0 106 1 (.slice a fs.length c) fs.length (qa7 fs)∧AllV w tv
def qqk (w:World) (ts:Nat):Prop:=∃ tv,Blk w ts 248 [.bool false,.slice none 0 0,tv,.bool false]∧AllV w tv
theorem qqk.set {w:World} {ts:Nat} (h:qqk w ts):SetAt w ts []:=by
 obtain⟨tv,h1,h2⟩:=h;exact⟨none,0,tv,h1,zdb _ _ _ _,h2⟩
def qcd (ra:Option Addr) (n rc:Nat) (ea:Option Addr) (m ec:Nat) (ts:Option Nat):List Value:=[.pointer none,.slice ra n rc,.slice ea m ec,.pointer none,.bool false,.bool true,.pointer (ts.map fun b=>⟨b,0,none⟩)]
theorem qok (a1 a2:Option Addr) (c1 c2:Nat) (w:World):Calls Tryz.prog 70 #[.slice a1 0 c1,.slice a2 0 c2] w fun e w'=>∃ b ts,e = .returned (.pointer (some ⟨b,0,none⟩))∧
  Blk w' b 175 (qcd none 0 0 none 0 0 (some ts))∧qqk w' ts∧w.heap.size≤b∧w.heap.size≤ts∧Below w.heap.size w w':=by
 go_enter Tryz.func70,Tryz.ntmps70
 go_wp2_with (go_at_call 91;refine(qkq _).mono ?_;rintro e w' ⟨rfl,rfl⟩)
 go_ret
 refine⟨_,w.heap.size+2,rfl,qbb ?_ _ _,⟨_,(qbb ?_ _ _).alloc _,w.heap.size+1,1,w.heap.size,[],rfl,zl _,((qbb ?_ _ _).alloc _).alloc _,(((qbb rfl _ _).alloc _).alloc _).alloc _⟩,?_,?_,?_⟩
 iterate 5 · first|omega|(simp;done)|(simp;omega)
 ·iterate 4 refine Below.alloc ?_ (by simp <;> omega) _
  exact zp _ _
theorem ta1_yes {D:TypeId} {e:TypeId} (hu:Tryz.prog.underlying D=some (.pointer e)) (v:Value) (w:World):(Instr.typeAssert (.iface D v) 63 D false).run Tryz.prog w = .ok v w:=by
 simp[Instr.typeAssert,run_underlying hu,go_sem]
theorem qaf {w:World} {T:TypeId} {size n c:Nat} {a:Option Addr} {xs:List Value} (h:w.ownsRow 0 T size (.slice a n c) n xs) {g:Nat} (hg:(Value.slice a n c).ownBlock=some g):∃ cs,Blk w g T cs:=by
 obtain⟨-,⟨he,-⟩|⟨g',cap,cur,he,-,hb,-⟩⟩:=h
 ·cases he;cases hg
 ·cases he;cases hg;exact⟨cur.toList,by unfold Blk;simpa using hb⟩
def FB (w:World) (f sg pk:Nat) (n:Int) (rv:Value):Prop:=Blk w f 167 [.int .i64 0,.pointer (some ⟨pk,0,none⟩),.string (qas n),.iface 162 (.pointer (some ⟨sg,0,none⟩)),.bool false,.bool false]∧
 Blk w sg 199 [rv,.pointer none,.pointer none,.pointer none,.bool false]
def VB (w:World) (v pk ib:Nat):Prop:=Blk w v 191 [.int .i64 0,.pointer (some ⟨pk,0,none⟩),.string ⟨#[]⟩,.iface 112 (.pointer (some ⟨ib,0,none⟩)),.int .u8 3,.bool false]
theorem FB.apart {S:Nat→Prop} {w w':World} {f sg pk:Nat} {n:Int} {rv:Value} (h:FB w f sg pk n rv) (k:qag S w w') (h1:¬ S f) (h2:¬ S sg):FB w' f sg pk n rv:=⟨h.1.apart k h1,h.2.apart k h2⟩
theorem Blk.tne {w:World} {a b:Nat} {T U:TypeId} {cs ds:List Value} (h:Blk w a T cs) (k:Blk w b U ds) (hT:T≠U):a≠b:=fun e=>by
 subst e;unfold Blk at h k;rw[h] at k;injection k with k;injection k with _ k;exact hT k
def qsf (L:Nat) (w:World) (k:Nat) (fs sgs:List Nat) (ns:List Int) (pk ib:Nat):Prop:=∀ i (hi:i<fs.length),(i<k→∃ v,L≤v∧FB w fs[i] (sgs.getD i 0) pk (ns.getD i 0) (.pointer (some ⟨v,0,none⟩))∧VB w v pk ib)∧(k≤i→FB w fs[i] (sgs.getD i 0) pk (ns.getD i 0) (.pointer none))
theorem qmh (ra ea:Option Addr) (rc m ec:Nat) (fs sgs:List Nat) (ns:List Int) (pk:Nat) (p:Int) (w0 w:World) (hT:Tabs w0) (hB:Below w0.heap.size w0 w) (h0:0<fs.length)
  (hown:w.ownsRow 0 106 1 (.slice ra fs.length rc) fs.length (qa7 fs)) (hob:∀ g,(Value.slice ra fs.length rc).ownBlock=some g→w0.heap.size≤g)
  (hf:∀ i (hi:i<fs.length),FB w fs[i] (sgs.getD i 0) pk (ns.getD i 0) (.pointer none)∧IsNm (ns.getD i 0)) (hfn:fs.Nodup) (hsn:∀ i j,i<fs.length→j<fs.length→sgs.getD i 0=sgs.getD j 0→i=j)
  (hpk:w.cell? ⟨pk,0,none⟩=some (.string (qbo p))) (hp:p=0∨p=1) (hpkB:∃ cs,Blk w pk 128 cs) (hsl:∀ i,i<fs.length→w0.heap.size≤sgs.getD i 0) (hl:fs.length≤1048576):
  Calls Tryz.prog 70 #[.slice ra fs.length rc,.slice ea m ec] w fun e w'=>∃ ib π,e = .returned (.pointer (some ⟨ib,0,none⟩))∧w.heap.size≤ib∧
   qah (fun b=>(∃ i,i<fs.length∧b=sgs.getD i 0)∨(Value.slice ra fs.length rc).ownBlock=some b) w w'∧Blk w' ib 175 (qcd ra fs.length rc ea m ec none)∧
   Srt (fun i=>rank p (ns.getD i 0)) fs.length π∧w'.ownsRow 0 106 1 (.slice ra fs.length rc) fs.length (qa7 (π.map fun i=>fs.getD i 0))∧qsf w.heap.size w' fs.length fs sgs ns pk ib:=by
 have HT:=hid hT;have HB:=hid hB;have Hown:=hid hown;have Hob:=hid hob;have Hf:=hid hf;have Hfn:=hid hfn;have Hsn:=hid hsn;have Hpk:=hid hpk;have Hp:=hid hp;have Hpl:=hid hpkB;have Hsl:=hid hsl;have hz0:=hB.size;have hpl2:pk<w.heap.size:=hpkB.choose_spec.lt;clear hT hB hown hob hf hfn hsn hpk hp hpkB hsl;have hne0:((fs.length:Int)==0)=false:=by simp;intro e;subst e;simp at h0
 clear h0;go_enter Tryz.func70,Tryz.ntmps70
 go_wp2_with (go_at_call 92;refine(qfu _).mono ?_;rintro e w' ⟨rfl,rfl⟩)
 have HI:=hid (Blk.new w 175 [.pointer none,.slice none 0 0,.slice none 0 0,.pointer none,.bool false,.bool false,.pointer none]);have H1:Hid (qah (fun b=>∃ i,i<fs.length∧b=sgs.getD i 0) w (w.alloc (.cells #[.pointer none,.slice none 0 0,.slice none 0 0,.pointer none,.bool false,.bool false,.pointer none] 175))):=hid (qah.keep ((zp _ _).alloc (zl _) _));have HR0:Hid (qsf w.heap.size (w.alloc (.cells #[.pointer none,.slice none 0 0,.slice none 0 0,.pointer none,.bool false,.bool false,.pointer none] 175)) 0 fs sgs ns pk w.heap.size):=hid fun i hi=>⟨fun h=>by omega,fun _=>((Hf.out i hi).1).apart (S:=fun _=>False) (qag.keep ((zp _ _).alloc (zl _) _)) (fun h=>h) (fun h=>h)⟩;have HS:Hid (∀ g,(Value.slice ra fs.length rc).ownBlock=some g→¬ ∃ i,i<fs.length∧g=sgs.getD i 0):=hid fun g hg ⟨i,hi,e⟩=>by
  obtain⟨cs,hb⟩:=qaf Hown.out hg;exact hb.tne (Hf.out i hi).1.2 (by decide) e
 have HSf:Hid (∀ j,j<fs.length→¬ ∃ i,i<fs.length∧fs.getD j 0=sgs.getD i 0):=hid fun j hj ⟨i,hi,e⟩=>by
  have h1:=(Hf.out j hj).1.1;rw[zv,zr hj] at e;exact h1.tne (Hf.out i hi).1.2 (by decide) e
 have hib:w.heap.size<w.heap.size+1:=zw _;have hta:=fun v w=>ta1_yes Tryz.underlying162 v w
 go_loopw [23] (fun j wr=>∃ k:Nat,k≤fs.length∧j = .int .i64 k∧w.heap.size+1≤wr.heap.size∧Hid (qah (fun b=>∃ i,i<fs.length∧b=sgs.getD i 0) w wr∧qsf w.heap.size wr k fs sgs ns pk w.heap.size∧
   Blk wr w.heap.size 175 [.pointer none,.slice none 0 0,.slice none 0 0,.pointer none,.bool false,.bool false,.pointer none]))
  (fun j _=>fs.length - (intOf j).toNat)
 case atStart=>exact⟨0,by omega,rfl,by simp,hid ⟨H1.out,HR0.out,HI.out⟩⟩
 clear HI H1 HR0
 case round=>
  obtain⟨k,hk,rfl,hz,hst⟩:=hrel;obtain⟨htu,hrv,hib'⟩:=hst.out;have Htu:=hid htu;have Hrv:=hid hrv;have Hib:=hid hib';have Hown2:=hid (qab Hown.out htu.apart HS.out);clear hst htu hrv hib';by_cases hlt:k<fs.length
  ·obtain⟨g,o,rfl,hg⟩:=qeh Hown2.out k hlt;obtain⟨-,hb2⟩:=Hrv.out k hlt;obtain⟨hbf,hbs⟩:=hb2 (zl _);have f0:=hbf.cell 0;have f1:=hbf.cell 1;have f3:=hbf.cell 3;have s0:=hbs.cell 0;have q0:=hbs.soft 0;simp only[zu,zt] at f0 f1 f3 s0;have Hbf:=hid hbf;have Hbs:=hid hbs;have hlf:=hbf.lt;have hls:=hbs.lt;obtain⟨x,hx⟩:∃ x,x=fs[k]:=⟨_,rfl⟩;obtain⟨y,hy⟩:∃ y,y=sgs.getD k 0:=⟨_,rfl⟩;rw[← hx] at hg f0 f1 f3 hlf;rw[← hy] at f3 s0 q0 hls;have Hx:=hid hx;have Hy:=hid hy;clear hx hy hbf hbs hb2
   go_wp2_with fail
   refine Mix.wp_region [0,1,2,3,4,5,6,7,8,9,10,11,12] [(13,false)] [14,15,16] (fun _=>default) (by kernel_rfl) (by kernel_rfl) (by decide) ?_
   iterate 13 (first|(refine pre_yes rfl rfl ?_;apply Exists.intro;refine⟨fun W1 hW1 => ?_,?_⟩;(focus (have hc1:=(qal hW1).1;(try simp only[zd,qaa] at hc1);have hk1:=qac.below hW1;go_simp;first|exact rfl|fail));simp only[Act.put,zk,zh,zi,ze,zm,zn])|(refine pre_no rfl rfl ?_;simp only[Act.put,zk,zh,zi,ze,zm,zn]))
   refine pre_end (fl_op fl_nil) (fun W2 hW2 => ?_);have hz2:=zq hW2;(try simp only[zd,qaa] at hz2);refine mid_call hW2 rfl rfl (fun Kp hKp => ?_);go_simp;refine(qir _ _ _ _ _ _).mono ?_;rintro e W3 ⟨rfl,rfl⟩;refine⟨_,rfl,hKp _ _ ((zp _ _).alloc (zl _) _) fun W4 hW4 => ?_⟩;simp only[Act.put,zk,zh,zi,ze,zm,zn];have hz4:=zq hW4;(try simp only[zd,qaa] at hz4);have hB4:=qa4 hW4 (qbl ((zp _ _).alloc (zl _) _) hW2 (by first|omega|(simp;done)|(simp;omega)));have hB5:Below wr.heap.size wr W4:=((zp _ _).drew).trans (hB4.mono (by simp));have HB5:=hid hB5;have hv4:=(Blk.new W2 191 [.int .i64 0,.pointer (some ⟨pk,0,none⟩),.string ⟨#[]⟩,.iface 112 (.pointer (some ⟨w.heap.size,0,none⟩)),.int .u8 3,.bool false]).keep hW4;have Hv4:=hid hv4;have hs4:=(qac.below hB5) _ _ s0;have hq4:W4.frozen? ⟨y,0,none⟩=false:=by rw[hB5.frozen (p:=⟨y,0,none⟩) hls];exact q0
   have hly:y<W4.heap.size:=by omega
   clear hB4 hB5 hv4 hKp f0 f1 f3 s0 q0 hg hW2 hW4;refine mid_nil (qqy rfl rfl rfl ?_)
   go_wp2_with fail
   go_roundw
   case rel=>
    have hT5:qah (fun b=>∃ i,i<fs.length∧b=sgs.getD i 0) wr (W4.setCell ⟨y,0,none⟩ (.pointer (some ⟨W2.heap.size,0,none⟩))):=(qah.keep HB5.out).trans (qah.setCell _ _ ⟨k,hlt,Hy.out⟩ _);have hA5:qag (fun b=>b=y) wr (W4.setCell ⟨y,0,none⟩ (.pointer (some ⟨W2.heap.size,0,none⟩))):=(qag.keep HB5.out).trans (qag.setCell (fun b=>b=y) W4 (a:=⟨y,0,none⟩) rfl _);refine⟨k+1,by omega,by go_num,by simp;omega,hid ⟨Htu.out.trans hT5,fun i hi=>⟨fun hik => ?_,fun hik => ?_⟩,?_⟩⟩
    ·by_cases e:i=k
     ·subst e;refine⟨W2.heap.size,by omega,⟨?_,?_⟩,?_⟩
      ·exact(Hbf.out.keep HB5.out).other (fun e2=>by
        have:=HSf.out i hi;rw[zv,zr hi] at this;exact this ⟨i,hi,e2.trans Hy.out⟩) _
      ·rw[← Hy.out];have:=(Hbs.out.keep HB5.out);rw[← Hy.out] at this;exact this.set 0 _
      ·exact Hv4.out.other (by simp;omega) _
     ·obtain⟨v,hvL,h1,h2⟩:=(Hrv.out i hi).1 (by omega);exact⟨v,hvL,h1.apart hA5 (fun e2=>HSf.out i hi ⟨k,hlt,by
       rw[zv,zr hi];exact e2.trans Hy.out⟩) (fun e2=>e (Hsn.out i k hi hlt (e2.trans Hy.out))),h2.apart hA5 (Blk.tne h2 (Hy.out ▸ Hbs.out) (by decide))⟩
    ·exact((Hrv.out i hi).2 (by omega)).apart hA5 (fun e2=>HSf.out i hi ⟨k,hlt,by
       rw[zv,zr hi];exact e2.trans Hy.out⟩) (fun e2=>by have:=Hsn.out i k hi hlt (e2.trans Hy.out);omega)
    ·exact Hib.out.apart hA5 (Blk.tne Hib.out (Hy.out ▸ Hbs.out) (by decide))
   case measure=>simp[intOf];omega
  ·obtain rfl:k=fs.length:=by omega
   have hbw:Below w0.heap.size w0 wr:=HB.out.trans (Htu.out.below hz0 fun b hb=>by obtain⟨i,hi,e⟩:=hb;rw[e];exact Hsl.out i hi);have Hso:=hid (qgi ra rc fs (fun _=>pk) (fun _=>p) (fun i=>ns.getD i 0) w0 wr HT.out hbw Hob.out Hown2.out (fun i hi=>by
    obtain⟨v,-,h1,h2⟩:=(Hrv.out i hi).1 hi;have c1:=h1.1.cell 1;have c2:=h1.1.cell 2;simp only[zu,zt] at c1 c2;refine⟨⟨c1,c2,?_,(Hf.out i hi).2,Hp.out,_,_,h1.1⟩,fun e2 => ?_,fun e2 => ?_⟩
    ·have hpl:=zj w _ Hpk.out;exact(zlb (Htu.out.apart.block pk hpl fun⟨j,hj,e⟩=>Hpl.out.choose_spec.tne (Hf.out j hj).1.2 (by decide) e)).trans Hpk.out
    ·obtain⟨cs,hb⟩:=qaf Hown2.out e2;exact hb.tne h1.1 (by decide) rfl
    ·obtain⟨cs,hb⟩:=qaf Hown2.out e2;have hpb:=Hpl.out.choose_spec.apart Htu.out.apart fun⟨j,hj,e⟩=>Hpl.out.choose_spec.tne (Hf.out j hj).1.2 (by decide) e;exact hb.tne hpb (by decide) rfl) Hfn.out hl)
   clear hbw;have HIr:Hid (∀ g,(Value.slice ra fs.length rc).ownBlock=some g→¬ w.heap.size=g):=hid fun g hg e2=>by
    obtain⟨cs,hb⟩:=qaf Hown2.out hg;exact hb.tne Hib.out (by decide) e2.symm
   go_wp2_with (go_at_call 93;refine Hso.out.mono ?_;rintro e w2 ⟨rfl,π,hp1,hp2,hp3⟩;have hb2:=Hib.out.apart hp2.apart (fun e2=>HIr.out _ e2 rfl);have HP1:=hid hp1;have HP2:=hid hp2;have HP3:=hid hp3;have Hb2:=hid hb2;have c1:=hb2.cell 1;have q1:=hb2.soft 1;have c2:=hb2.cell 2;have q2:=hb2.soft 2;have c5:=hb2.cell 5;have q5:=hb2.soft 5;simp only[zu,zt] at c1 c2 c5;have hl2:=hb2.lt;clear hb2 hp1 hp2 hp3)
   go_ret
   have hb3:=((Hb2.out.set 1 (.slice ra fs.length rc)).set 2 (.slice ea m ec)).set 5 (.bool true);have t:∀ (u:World) (j:Nat) (v:Value),qag (fun b=>b=w.heap.size) u (u.setCell ⟨w.heap.size,j,none⟩ v):=fun u j v=>qag.setCell (fun b=>b=w.heap.size) u (a:=⟨w.heap.size,j,none⟩) rfl v;have hA3:=((t w2 1 (.slice ra fs.length rc)).trans (t _ 2 (.slice ea m ec))).trans (t _ 5 (.bool true));have hAw:qah (fun b=>(Value.slice ra fs.length rc).ownBlock=some b∨b=w.heap.size) wr (((w2.setCell ⟨w.heap.size,1,none⟩ (.slice ra fs.length rc)).setCell ⟨w.heap.size,2,none⟩ (.slice ea m ec)).setCell ⟨w.heap.size,5,none⟩ (.bool true)):=
    (HP2.out.mono fun b _ h => .inl h).trans ⟨rfl,rfl,rfl,hA3.mono fun b _ h => .inr h⟩
   refine⟨w.heap.size,π,rfl,zl _,?_,hb3,HP1.out,?_,fun i hi=>⟨fun _ => ?_,fun h=>by omega⟩⟩
   ·have h1:=(Htu.out.mono (S':=fun b=>((∃ i,i<fs.length∧b=sgs.getD i 0)∨(Value.slice ra fs.length rc).ownBlock=some b)∨b=w.heap.size) fun b _ h => .inl (.inl h)).trans (hAw.mono fun b _ h=>by rcases h with h|h;exact .inl (.inr h);exact .inr h);exact h1.mono fun b hb h=>by rcases h with h|h;exact h;omega
   ·exact qab HP3.out hA3 fun g hg e2=>HIr.out g hg e2.symm
   ·obtain⟨v,hvL,h1,h2⟩:=(Hrv.out i hi).1 hi;have nf:∀ {b:Nat} {T:TypeId} {cs:List Value},Blk wr b T cs→T≠106→T≠175→¬ ((Value.slice ra fs.length rc).ownBlock=some b∨b=w.heap.size):=fun hb hT hU h=>by
     rcases h with h|h
     ·obtain⟨cs,hb2⟩:=qaf Hown2.out h;exact hb2.tne hb (fun e=>hT e.symm) rfl
     ·exact hb.tne Hib.out hU h
    exact⟨v,hvL,h1.apart hAw.apart (nf h1.1 (by decide) (by decide)) (nf h1.2 (by decide) (by decide)),h2.apart hAw.apart (nf h2 (by decide) (by decide))⟩
theorem qog (ra ea:Option Addr) (rc m ec:Nat) (w:World) (h0:0<m):
  Calls Tryz.prog 70 #[.slice ra 0 rc,.slice ea m ec] w fun e w'=>∃ ib,e = .returned (.pointer (some ⟨ib,0,none⟩))∧w.heap.size≤ib∧Below w.heap.size w w'∧Blk w' ib 175 (qcd ra 0 rc ea m ec none):=by
 have hne0:((m:Int)==0)=false:=by simp;omega
 go_enter Tryz.func70,Tryz.ntmps70
 go_wp2_with (go_at_call 92;refine(qfu _).mono ?_;rintro e w' ⟨rfl,rfl⟩)
 have HI:=hid (Blk.new w 175 [.pointer none,.slice none 0 0,.slice none 0 0,.pointer none,.bool false,.bool false,.pointer none]);have HB:Hid (Below w.heap.size w (w.alloc (.cells #[.pointer none,.slice none 0 0,.slice none 0 0,.pointer none,.bool false,.bool false,.pointer none] 175))):=hid ((zp _ _).alloc (zl _) _);have hl:w.heap.size<(w.alloc (.cells #[.pointer none,.slice none 0 0,.slice none 0 0,.pointer none,.bool false,.bool false,.pointer none] 175)).heap.size:=by simp
 generalize (w.alloc (.cells #[.pointer none,.slice none 0 0,.slice none 0 0,.pointer none,.bool false,.bool false,.pointer none] 175))=w1 at *
 go_loopw [23] (fun j wr=>j = .int .i64 0∧wr=w1) (fun j _=>0)
 case atStart=>exact⟨rfl,rfl⟩
 case round=>
  obtain⟨rfl,rfl⟩:=hrel;have c1:=HI.out.cell 1;have q1:=HI.out.soft 1;have c2:=HI.out.cell 2;have q2:=HI.out.soft 2;have c5:=HI.out.cell 5;have q5:=HI.out.soft 5;simp only[zu,zt] at c1 c2 c5
  go_wp2_with (go_at_call 93;refine(qfs _ _ _).mono ?_;rintro e w2 ⟨rfl,rfl⟩)
  go_ret
  exact⟨w.heap.size,rfl,zl _,((HB.out.setCell (zl _) _).setCell (zl _) _).setCell (zl _) _,((HI.out.set 1 _).set 2 _).set 5 _⟩
def qr6 (w:World) (k:Nat) (tso:Option Nat):Prop:=(0<k∧tso=none)∨(k=0∧∃ ts,tso=some ts∧qqk w ts)
theorem qoo (ra ea:Option Addr) (rc m ec:Nat) (fs sgs:List Nat) (ns:List Int) (pk:Nat) (p:Int) (w0 w:World) (hT:Tabs w0) (hB:Below w0.heap.size w0 w)
  (hown:w.ownsRow 0 106 1 (.slice ra fs.length rc) fs.length (qa7 fs)) (hob:∀ g,(Value.slice ra fs.length rc).ownBlock=some g→w0.heap.size≤g)
  (hf:∀ i (hi:i<fs.length),FB w fs[i] (sgs.getD i 0) pk (ns.getD i 0) (.pointer none)∧IsNm (ns.getD i 0)) (hfn:fs.Nodup) (hsn:∀ i j,i<fs.length→j<fs.length→sgs.getD i 0=sgs.getD j 0→i=j)
  (hpk:w.cell? ⟨pk,0,none⟩=some (.string (qbo p))) (hp:p=0∨p=1) (hpkB:∃ cs,Blk w pk 128 cs) (hsl:∀ i,i<fs.length→w0.heap.size≤sgs.getD i 0) (hl:fs.length≤1048576):
  Calls Tryz.prog 70 #[.slice ra fs.length rc,.slice ea m ec] w fun e w'=>∃ ib π ra' rc' ea' ec' tso,e = .returned (.pointer (some ⟨ib,0,none⟩))∧w.heap.size≤ib∧
   qah (fun b=>(∃ i,i<fs.length∧b=sgs.getD i 0)∨(Value.slice ra fs.length rc).ownBlock=some b) w w'∧Blk w' ib 175 (qcd ra' fs.length rc' ea' m ec' tso)∧qr6 w' (fs.length+m) tso∧
   (0<m→ea'=ea∧ec'=ec)∧(ra'=ra∧rc'=rc∨ra'=none)∧
   Srt (fun i=>rank p (ns.getD i 0)) fs.length π∧w'.ownsRow 0 106 1 (.slice ra' fs.length rc') fs.length (qa7 (π.map fun i=>fs.getD i 0))∧qsf w.heap.size w' fs.length fs sgs ns pk ib:=by
 by_cases h0:0<fs.length
 ·refine(qmh ra ea rc m ec fs sgs ns pk p w0 w hT hB h0 hown hob hf hfn hsn hpk hp hpkB hsl hl).mono ?_;rintro e w' ⟨ib,π,rfl,h1,h2,h3,h4,h5,h6⟩;exact⟨ib,π,ra,rc,ea,ec,none,rfl,h1,h2,h3,.inl ⟨by omega,rfl⟩,fun _=>⟨rfl,rfl⟩,.inl ⟨rfl,rfl⟩,h4,h5,h6⟩
 ·obtain rfl:fs=[]:=by cases fs with|nil=>rfl|cons=>simp at h0
  by_cases hm:0<m
  ·refine(qog ra ea rc m ec w hm).mono ?_;rintro e w' ⟨ib,rfl,h1,h2,h3⟩;exact⟨ib,[],ra,rc,ea,ec,none,rfl,h1,qah.keep h2,h3,.inl ⟨by simp;omega,rfl⟩,fun _=>⟨rfl,rfl⟩,.inl ⟨rfl,rfl⟩,⟨by simp,by simp⟩,by
    have:=qab hown (qag.keep (S:=fun _=>False) h2) (fun _ _ h=>h);simpa using this,fun i hi=>by simp at hi⟩
  ·obtain rfl:m=0:=by omega
   refine(qok ra ea rc ec w).mono ?_;rintro e w' ⟨b,ts,rfl,h1,h2,h3,-,h4⟩;exact⟨b,[],none,0,none,0,some ts,rfl,h3,qah.keep h4,h1,.inr ⟨rfl,ts,rfl,h2⟩,fun h=>by omega,.inr rfl,⟨by simp,by simp⟩,by
    simpa[qa7] using zdb w' 0 106 1,fun i hi=>by simp at hi⟩
