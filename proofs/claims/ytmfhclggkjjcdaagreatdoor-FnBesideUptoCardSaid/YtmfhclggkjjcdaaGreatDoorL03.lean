import Derived.Test.YtmfhclggkjjcdaaGreatDoorL02
import Derived.Test.YtmfhclggkjjcdaaGreatDoorProg
import Derived.Test.YtmfhclggkjjcdaaGreatDoorRows
import Derived.OpenShut
import Derived.ChangeArms
import Derived.Deep.Slices
import Derived.Carry
import Derived.Test.YtmfhclggkjjcdaaGreatDoorL01
import Derived.RowKitTokens
import Derived.ProofKit
import Derived.Deep.DeepHandedRow
import Derived.LaidMore
import Derived.Lay
import Derived.Test.YtmfhclggkjjcdaaGreatDoorCards
import Derived.Test.YtmfhclggkjjcdaaGreatDoorTie
import Derived.Lib.LaidTab
import Derived.Lib.LaidU8
import Derived.Lib.LaidRTab
import Derived.SevenTiedAt
import Derived.Stop.Joined
import Derived.Sort.Grow
set_option linter.all false
set_option maxHeartbeats 2000000
namespace Go.Proofs.YtmfhclggkjjcdaaGreatDoor
open Go Go.RowKit
namespace Mix
open MixR (Runs Still Made okB)
variable {P:Program} {ops:Array Oper} {Q:Exit→Act→World→Prop}
def wpPre (P:Program) (ops:Array Oper) (w:World) (K:Act→Prop):List Nat→Act→Prop
 | [],a=>K a
 | i::r,a=>∃ o,ops[i]?=some o∧
   ((Region.wanted o (yielded ops a.tmps)=true∧∃ v,(∀ W,Below w.heap.size w W→Still P W v ((execOp a.eval o).run P W))∧wpPre P ops w K r (a.put o.dst v))∨
     (Region.wanted o (yielded ops a.tmps)=false∧wpPre P ops w K r (a.put o.dst undef)))
def wpMid (P:Program) (ops:Array Oper) (w:World) (M:Nat→Made) (K:Act→World→Prop):List Nat→List (Nat×Bool)→Act→World→Prop
 | _,[],a,W=>K a W
 | us,(i,true)::r,a,W=>∃ o,ops[i]?=some o∧∀ b W',Below W.heap.size W W'→W'.heap[b]?=some (M i).obj→w.heap.size≤b→b ∉ us→
   wpMid P ops w M K (b::us) r (a.put o.dst ((M i).val b)) W'
 | us,(i,false)::r,a,W=>∃ o,ops[i]?=some o∧
   ((Region.wanted o (yielded ops a.tmps)=true∧Runs P (fun v W'=>Below w.heap.size w W'∧(∃ row,W.grownBy W' row∧∀ k,row=some k→k∈us)∧
     ∃ new:List Nat,(∀ k∈new,W.heap.size≤k∧k<W'.heap.size)∧∀ W'',Below W'.heap.size W' W''→wpMid P ops w M K (new++us) r (a.put o.dst v) W'') ((execOp a.eval o).run P W))∨
     (Region.wanted o (yielded ops a.tmps)=false∧wpMid P ops w M K us r (a.put o.dst undef) W))
def flOk (P:Program) (ops:Array Oper) (w:World) (M:Nat→Made) (ap:Act):List (Nat×Bool)→Prop
 | []=>True
 | (f,true)::r=>(∃ o,ops[f]?=some o∧Region.wanted o (yielded ops ap.tmps)=true∧
   ∀ W,Below w.heap.size w W→(execOp ap.eval o).run P W = .ok (.value ((M f).val W.heap.size)) (W.alloc (M f).obj))∧flOk P ops w M ap r
 | (_,false)::r=>flOk P ops w M ap r
def Bel (w W:World):Prop:=Below w.heap.size w W
instance:MixR.RelOk Bel:=⟨fun w W W' h k=>Below.trans h (k.mono (zq h)),fun w W h=>zq h⟩
theorem qvf {w:World} {K K':Act→Prop} (hK:∀ a,K a→K' a):∀ {l:List Nat} {a:Act},wpPre P ops w K l a→MixR.wpPre Bel P ops w K' l a
 | [],a,h=>hK a h
 | i::r,a,⟨o,ho,.inl ⟨hw,v,hs,hk⟩⟩=>⟨o,ho,.inl ⟨hw,v,hs,qvf hK hk⟩⟩
 | i::r,a,⟨o,ho,.inr ⟨hw,hk⟩⟩=>⟨o,ho,.inr ⟨hw,qvf hK hk⟩⟩
theorem qtd {w:World} {M:Nat→Made} {K:Act→World→Prop}:∀ {l:List (Nat×Bool)} {us:List Nat} {a:Act} {W:World},wpMid P ops w M K us l a W→MixR.wpMid Bel P ops w M K us l a W
 | [],us,a,W,h=>h
 | (i,true)::r,us,a,W,⟨o,ho,h⟩=>⟨o,ho,fun b W' h1 h2 h3 h4=>qtd (h b W' h1 h2 h3 h4)⟩
 | (i,false)::r,us,a,W,⟨o,ho,.inl ⟨hw,h⟩⟩=>⟨o,ho,.inl ⟨hw,MixR.Runs.mono (fun v W' ⟨h1,⟨row,hg,hr⟩,new,hn,hk⟩=>
   ⟨h1,⟨hg.size,fun k _ h3 h4=>hg.block k h3 fun e=>h4 (hr k e.symm)⟩,new,hn,fun W'' hW=>qtd (hk W'' hW)⟩) h⟩⟩
 | (i,false)::r,us,a,W,⟨o,ho,.inr ⟨hw,h⟩⟩=>⟨o,ho,.inr ⟨hw,qtd h⟩⟩
theorem toFl {w:World} {M:Nat→Made} {ap:Act}:∀ {l:List (Nat×Bool)},flOk P ops w M ap l→MixR.flOk Bel P ops w M ap l
 | [],_=>trivial
 | (f,true)::r,h=>⟨h.1,toFl h.2⟩
 | (_,false)::r,h=>toFl (l:=r) h
theorem wp_regionF {id:Nat} {a:Act} {w:World} (fr pre:List Nat) (mid:List (Nat×Bool)) (tail:List Nat) (M:Nat→Made) (hm:P.follows .mixedOrders=true)
  (hok:okB ops fr pre mid tail=true) (hsort:pre.Pairwise (·<·)) (hQ:fr≠[]→∀ c (a a':Act) W,a.defers=a'.defers→Q (.panic c) a W→Q (.panic c) a' W)
  (h:wpPre P ops w.drew (fun ap=>flOk P ops w.drew M ap mid∧(∀ f∈fr,∃ o v,ops[f]?=some o∧Region.wanted o (yielded ops ap.tmps)=true∧(∀ d,o.dst=some d→d<ap.tmps.size→ap.tmps[d]?=some v)∧∀ W,(execOp ap.eval o).run P W = .ok (.value v) W)∧∀ W,Below w.drew.heap.size w.drew W→wpMid P ops w.drew M (fun a W=>wpList P ops Q (tail.filterMap fun i=>ops[i]?) a W) [] mid ap W) pre a):
  (Code.region id ops true).wp P Q a w:=
 MixR.wp_regionF (R:=Bel) fr pre mid tail M (zp _ _) hm hok hsort hQ (qvf (fun ap h=>⟨toFl h.1,h.2.1,fun W hW=>qtd (h.2.2 W hW)⟩) h)
theorem wp_region {id:Nat} {a:Act} {w:World} (pre:List Nat) (mid:List (Nat×Bool)) (tail:List Nat) (M:Nat→Made) (hm:P.follows .mixedOrders=true)
  (hok:okB ops [] pre mid tail=true) (hsort:pre.Pairwise (·<·))
  (h:wpPre P ops w.drew (fun ap=>flOk P ops w.drew M ap mid∧∀ W,Below w.drew.heap.size w.drew W→wpMid P ops w.drew M (fun a W=>wpList P ops Q (tail.filterMap fun i=>ops[i]?) a W) [] mid ap W) pre a):
  (Code.region id ops true).wp P Q a w:=
 MixR.wp_region (R:=Bel) pre mid tail M (zp _ _) hm hok hsort (qvf (fun ap h=>⟨toFl h.1,fun W hW=>qtd (h.2 W hW)⟩) h)
end Mix
end Go.Proofs.YtmfhclggkjjcdaaGreatDoor
namespace Go.Proofs.YtmfhclggkjjcdaaGreatDoor
open Go Go.RowKit
@[simp] theorem qaa (w:World):w.drew.heap.size=w.heap.size:=rfl
theorem qa8 (w:World) (O:Obj):(w.alloc O).heap[w.heap.size]?=some O:=by
 show(w.heap.push O)[w.heap.size]?=_;exact Array.getElem?_push_size
theorem qtb {w:World} {O O':Obj} {b:Nat} (h:w.heap[b]?=some O):(w.alloc O').heap[b]?=some O:=
 (Below.heap_alloc w O' b (zab.1 h).1).trans h
theorem qa9 {W0 wr:World} {B b:Nat} {vs:List Value} {T:TypeId} (h:Below B W0 wr) (hb:b<B) (ho:W0.heap[b]?=some (.cells vs.toArray T)):qat wr b 0 vs:=by
 intro j v hv;rw[h.cell (p:=⟨b,0+j,none⟩) hb,cell_of_row W0 b _ _ _ _ ho,Nat.zero_add];simpa using hv
theorem qfp {W0 wr:World} {B b:Nat} {vs:Array Value} {T:TypeId} (h:Below B W0 wr) (hb:b<B) (ho:W0.heap[b]?=some (.cells vs T)):∀ j,wr.frozen? ⟨b,j,none⟩=false:=by
 intro j;rw[h.frozen (p:=⟨b,j,none⟩) hb];simp[World.frozen?,ho]
theorem qgv {w:World} {b o:Nat} {v0 v1 v2 v3 v4 v5 u0 u1:Value} (h:qat w b o [v0,v1,v2,v3,v4,v5,u0,u1]):
  w.cell? ⟨b,o,none⟩=some v0∧w.cell? ⟨b,o+1,none⟩=some v1∧w.cell? ⟨b,o+2,none⟩=some v2∧w.cell? ⟨b,o+3,none⟩=some v3∧w.cell? ⟨b,o+4,none⟩=some v4∧w.cell? ⟨b,o+5,none⟩=some v5∧w.cell? ⟨b,o+6,none⟩=some u0∧w.cell? ⟨b,o+7,none⟩=some u1:=qhx h
theorem qac.undrew {w W:World} (h:qac w.drew W):qac w W:=h
theorem qac.unalloc {w W:World} {o:Obj} (h:qac (w.alloc o) W):qac w W:=(qac.alloc w o).trans h
theorem qal {W w1:World} (hb:Below W.heap.size W w1):(∀ b o,b<W.heap.size→w1.cell? ⟨b,o,none⟩=W.cell? ⟨b,o,none⟩)∧(∀ b o,b<W.heap.size→w1.frozen? ⟨b,o,none⟩=W.frozen? ⟨b,o,none⟩):=
 ⟨fun b o h=>hb.cell (p:=⟨b,o,none⟩) h,fun b o h=>hb.frozen (p:=⟨b,o,none⟩) h⟩
section
variable {P:Program} {ops:Array Oper} {w:World} {K:Act→Prop} {i:Nat} {r:List Nat} {a:Act} {o:Oper}
theorem pre_yes (ho:ops[i]?=some o) (hw:Region.wanted o (yielded ops a.tmps)=true)
  (h:∃ v,(∀ W,Below w.heap.size w W→MixR.Still P W v ((execOp a.eval o).run P W))∧Mix.wpPre P ops w K r (a.put o.dst v)):Mix.wpPre P ops w K (i::r) a:=
 ⟨o,ho,.inl ⟨hw,h⟩⟩
theorem pre_no (ho:ops[i]?=some o) (hw:Region.wanted o (yielded ops a.tmps)=false) (h:Mix.wpPre P ops w K r (a.put o.dst undef)):Mix.wpPre P ops w K (i::r) a:=
 ⟨o,ho,.inr ⟨hw,h⟩⟩
variable {M:Nat→MixR.Made} {K':Act→World→Prop} {us:List Nat} {W:World} {m:List (Nat×Bool)}
theorem mid_nil (h:K' a W):Mix.wpMid P ops w M K' us [] a W:=h
theorem qg5 (ho:ops[i]?=some o) (hw:Region.wanted o (yielded ops a.tmps)=true)
  (h:MixR.Runs P (fun v W'=>Below w.heap.size w W'∧(∃ row,W.grownBy W' row∧∀ k,row=some k→k∈us)∧
     ∃ new:List Nat,(∀ k∈new,W.heap.size≤k∧k<W'.heap.size)∧∀ W'',Below W'.heap.size W' W''→Mix.wpMid P ops w M K' (new++us) m (a.put o.dst v) W'') ((execOp a.eval o).run P W)):
  Mix.wpMid P ops w M K' us ((i,false)::m) a W:=⟨o,ho,.inl ⟨hw,h⟩⟩
theorem mid_no (ho:ops[i]?=some o) (hw:Region.wanted o (yielded ops a.tmps)=false) (h:Mix.wpMid P ops w M K' us m (a.put o.dst undef) W):
  Mix.wpMid P ops w M K' us ((i,false)::m) a W:=⟨o,ho,.inr ⟨hw,h⟩⟩
theorem qje (ho:ops[i]?=some o) (h:∀ b W',Below W.heap.size W W'→W'.heap[b]?=some (M i).obj→w.heap.size≤b→b ∉ us→Mix.wpMid P ops w M K' (b::us) m (a.put o.dst ((M i).val b)) W'):
  Mix.wpMid P ops w M K' us ((i,true)::m) a W:=⟨o,ho,h⟩
theorem qov {v:Value} {W':World} {d:Option Tmp} (hw:Below w.heap.size w W) (hb:Below W.heap.size W W') (h:∀ W'',Below W'.heap.size W' W''→Mix.wpMid P ops w M K' us m (a.put d v) W''):
  Below w.heap.size w W'∧(∃ row,W.grownBy W' row∧∀ k,row=some k→k∈us)∧
   ∃ new:List Nat,(∀ k∈new,W.heap.size≤k∧k<W'.heap.size)∧∀ W'',Below W'.heap.size W' W''→Mix.wpMid P ops w M K' (new++us) m (a.put d v) W'':=
 ⟨hw.trans (hb.mono hw.size),⟨none,⟨hb.os,hb.tape,hb.output,hb.size,fun k hk _=>hb.block k hk⟩,fun k h=>(by cases h)⟩,[],fun k hk=>(by cases hk),h⟩
theorem Still.mid {o:Oper} {v:Value} {r:Result Next} (hw:Below w.heap.size w W) (h:MixR.Still P W v r) (hk:∀ W'',Below W.heap.size W W''→Mix.wpMid P ops w M K' us m (a.put o.dst v) W''):
  MixR.Runs P (fun v W'=>Below w.heap.size w W'∧(∃ row,W.grownBy W' row∧∀ k,row=some k→k∈us)∧
     ∃ new:List Nat,(∀ k∈new,W.heap.size≤k∧k<W'.heap.size)∧∀ W'',Below W'.heap.size W' W''→Mix.wpMid P ops w M K' (new++us) m (a.put o.dst v) W'') r:=
 (MixR.Still.runs h).mono fun u W' ⟨hu,hb⟩=>by subst hu;exact qov hw hb fun W2 h2=>hk W2 (hb.trans (h2.mono hb.size))
theorem qcf (hb:Below w.heap.size w W) (ho:ops[i]?=some o) (hw:Region.wanted o (yielded ops a.tmps)=true)
  (h:∃ v,MixR.Still P W v ((execOp a.eval o).run P W)∧∀ W'',Below W.heap.size W W''→Mix.wpMid P ops w M K' us m (a.put o.dst v) W''):
  Mix.wpMid P ops w M K' us ((i,false)::m) a W:=qg5 ho hw (Still.mid hb h.choose_spec.1 h.choose_spec.2)
theorem mid_call (hb:Below w.heap.size w W) (ho:ops[i]?=some o) (hw:Region.wanted o (yielded ops a.tmps)=true)
  (h:∀ Kp:Value→World→Prop,(∀ v W',Below W.heap.size W W'→(∀ W'',Below W'.heap.size W' W''→Mix.wpMid P ops w M K' us m (a.put o.dst v) W'')→Kp v W')→MixR.Runs P Kp ((execOp a.eval o).run P W)):
  Mix.wpMid P ops w M K' us ((i,false)::m) a W:=qg5 ho hw (h _ fun v W' hb' hk=>qov hb hb' hk)
theorem qnd {f:Nat} (ho:ops[f]?=some o) (hw:Region.wanted o (yielded ops a.tmps)=true)
  (h:∀ W,Below w.heap.size w W→(execOp a.eval o).run P W = .ok (.value ((M f).val W.heap.size)) (W.alloc (M f).obj)) (hr:Mix.flOk P ops w M a m):Mix.flOk P ops w M a ((f,true)::m):=
 ⟨⟨o,ho,hw,h⟩,hr⟩
theorem fl_op {f:Nat} (hr:Mix.flOk P ops w M a m):Mix.flOk P ops w M a ((f,false)::m):=hr
theorem fl_nil:Mix.flOk P ops w M a []:=trivial
theorem pre_end {mids:List (Nat×Bool)} (h1:Mix.flOk P ops w M a mids) (h2:∀ W,Below w.heap.size w W→Mix.wpMid P ops w M K' [] mids a W):
  Mix.wpPre P ops w (fun ap=>Mix.flOk P ops w M ap mids∧∀ W,Below w.heap.size w W→Mix.wpMid P ops w M K' [] mids ap W) [] a:=⟨h1,h2⟩
theorem free_op {f d:Nat} {v:Value} (ho:ops[f]?=some o) (hw:Region.wanted o (yielded ops a.tmps)=true) (hd:o.dst=some d) (hv:a.tmps[d]?=some v) (hr:∀ W,(execOp a.eval o).run P W = .ok (.value v) W):
  ∃ o v,ops[f]?=some o∧Region.wanted o (yielded ops a.tmps)=true∧(∀ d,o.dst=some d→d<a.tmps.size→a.tmps[d]?=some v)∧∀ W,(execOp a.eval o).run P W = .ok (.value v) W:=
 ⟨o,v,ho,hw,fun d' hd' _=>(by rw[hd] at hd';cases hd';exact hv),hr⟩
theorem qvg {mids:List (Nat×Bool)} {f:Nat} (h1:Mix.flOk P ops w M a mids) (hf:∃ o v,ops[f]?=some o∧Region.wanted o (yielded ops a.tmps)=true∧(∀ d,o.dst=some d→d<a.tmps.size→a.tmps[d]?=some v)∧∀ W,(execOp a.eval o).run P W = .ok (.value v) W)
  (h2:∀ W,Below w.heap.size w W→Mix.wpMid P ops w M K' [] mids a W):
  Mix.wpPre P ops w (fun ap=>Mix.flOk P ops w M ap mids∧(∀ f'∈[f],∃ o v,ops[f']?=some o∧Region.wanted o (yielded ops ap.tmps)=true∧(∀ d,o.dst=some d→d<ap.tmps.size→ap.tmps[d]?=some v)∧∀ W,(execOp ap.eval o).run P W = .ok (.value v) W)∧∀ W,Below w.heap.size w W→Mix.wpMid P ops w M K' [] mids ap W) [] a:=
 ⟨h1,fun f' hf'=>(by rw[zfb.1 hf'];exact hf),h2⟩
variable {Q:Exit→Act→World→Prop}
theorem qvi (h:wpList P ops Q [] a W):wpList P ops Q (([]:List Nat).filterMap fun i=>ops[i]?) a W:=h
theorem qco {i0:Nat} {o0:Oper} (h0:ops[i0]?=some o0) (h:wpList P ops Q [o0] a W):wpList P ops Q ([i0].filterMap fun i=>ops[i]?) a W:=by
 rw[List.filterMap_cons_some h0,List.filterMap_nil];exact h
theorem qnw {i0 i1:Nat} {o0 o1:Oper} (h0:ops[i0]?=some o0) (h1:ops[i1]?=some o1) (h:wpList P ops Q [o0,o1] a W):wpList P ops Q ([i0,i1].filterMap fun i=>ops[i]?) a W:=by
 rw[List.filterMap_cons_some h0,List.filterMap_cons_some h1,List.filterMap_nil];exact h
theorem qqy {i0 i1 i2:Nat} {o0 o1 o2:Oper} (h0:ops[i0]?=some o0) (h1:ops[i1]?=some o1) (h2:ops[i2]?=some o2) (h:wpList P ops Q [o0,o1,o2] a W):wpList P ops Q ([i0,i1,i2].filterMap fun i=>ops[i]?) a W:=by
 rw[List.filterMap_cons_some h0,List.filterMap_cons_some h1,List.filterMap_cons_some h2,List.filterMap_nil];exact h
end
theorem qbl {B C:Nat} {w0 X w1:World} (h1:Below C X w1) (h:Below B w0 X) (hB:B≤C):Below B w0 w1:=h.trans (h1.mono hB)
open Go.Proofs.Tryz
set_option maxRecDepth 100000
theorem qaz (n:Int) (w:World) (h:IsNm n):Calls prog 20 #[.int .i64 n] w (qa2 (.bool true) w):=by
 obtain⟨h1,h2⟩:=h;go_enter func20,ntmps20
 go_wp2
 go_ret
 exact⟨rfl,zp _ _⟩
theorem qdt (n:Int) (w:World) (h:¬ IsNm n):Calls prog 20 #[.int .i64 n] w (qa2 (.bool false) w):=by
 unfold IsNm at h;by_cases h1:0≤n
 ·have h2:¬ n<16:=by omega
  clear h;go_enter func20,ntmps20
  go_wp2
  go_ret
  exact⟨rfl,zp _ _⟩
 ·clear h;go_enter func20,ntmps20
  go_wp2
  go_ret
  exact⟨rfl,zp _ _⟩
theorem qeu (n:Int) (w:World):Calls prog 27 #[.int .i64 n] w (qa2 (.bool (qay n)) w):=by
 by_cases h1:4≤n
 ·by_cases h2:n≤7
  ·go_enter func27,ntmps27
   go_wp2
   go_ret
   exact⟨by simp[qay,h1,h2],zp _ _⟩
  ·by_cases h3:n=10
   ·subst h3;go_enter func27,ntmps27
    go_wp2
    go_ret
    exact⟨by simp[qay],zp _ _⟩
   ·have h3':(n==10)=false:=by simpa using h3
    by_cases h4:13≤n
    all_goals
     go_enter func27,ntmps27
     go_wp2
     go_ret
     exact⟨by simp[qay,h1,h2,h3,h4];try omega,zp _ _⟩
 ·have h3':(n==10)=false:=by simp;omega
  go_enter func27,ntmps27
  go_wp2
  go_ret
  exact⟨by simp[qay];omega,zp _ _⟩
def nmV:List Value:=nmB.map fun l => .string ⟨l.toArray⟩
theorem qtw (n:Int) (h:IsNm n):nmV[n.toNat]?=some (.string (qas n)):=by
 obtain⟨h1,h2⟩:=h;have:n.toNat<16:=by omega
 have hl:nmB.length=16:=rfl;simp[nmV,qas,List.getElem?_map,zv];rw[zr (by omega)];simp
theorem qup (w:World):Calls prog 52 #[] w fun e w'=>∃ b,e = .returned (.slice (some ⟨b,0,none⟩) 16 16)∧qat w' b 0 nmV∧Below w.heap.size w w':=by
 go_enter func52,ntmps52
 go_wp2
 go_ret
 refine⟨_,rfl,?_,(zp _ _).alloc (zl _) _⟩;intro j v hv;rw[Nat.zero_add,World.cell?_alloc_new];simp only[List.getElem?_toArray];exact hv
theorem qlf (n:Int) (w:World) (h:IsNm n):Calls prog 28 #[.int .i64 n] w (qa2 (.string (qas n)) w):=by
 have hv:=qtw n h;have HV:=hid hv;clear hv;obtain⟨h1,h2⟩:=h;go_enter func28,ntmps28
 go_wp2_with fail
 refine(qup _).mono ?_;rintro e w1 ⟨b,rfl,hc,hb⟩;have hc':=hc _ _ HV.out;rw[Nat.zero_add] at hc';clear hc
 go_wp2_with fail
 go_ret
 exact⟨rfl,hb⟩
theorem qlh (n:Int) (h:IsNm n):(qas n).size≤6:=by
 obtain⟨h1,h2⟩:=h;have:∀ k,k<16→(nmB.getD k []).length≤6:=by decide
 exact this n.toNat (by omega)
theorem qta (a b:List UInt8):(⟨a.toArray⟩:ByteArray)++⟨b.toArray⟩=⟨(a++b).toArray⟩:=by
 apply ByteArray.ext;simp
theorem qqn (p n:Int) (w:World) (h:IsNm n) (hp:p=0∨p=1):Calls prog 11 #[.int .i64 p,.int .i64 n] w (qa2 (.string (idS p n)) w):=by
 cases he:qay n with
 | true=>
  have Hn:=hid h;have He:=hid he;go_enter func11,ntmps11
  go_wp2_with fail
  refine(qeu _ _).mono ?_;rintro e w1 ⟨rfl,hb⟩;have hz:=zq hb;(try simp only[zd,qaa] at hz)
  go_wp2_with fail
  refine(qlf _ _ Hn.out).mono ?_;rintro e w2 ⟨rfl,hb2⟩
  go_wp2_with fail
  go_ret
  exact⟨by simp[idS,idL,He.out,qas],bel⟩
 | false=>
  have Hn:=hid h;have He:=hid he;have hsz:=qlh n h;clear h;rcases hp with rfl|rfl
  all_goals
   go_enter func11,ntmps11
   go_wp2_with fail
   refine(qeu _ _).mono ?_;rintro e w1 ⟨rfl,hb⟩;have hz:=zq hb;(try simp only[zd,qaa] at hz)
   go_wp2_with fail
   refine Mix.wp_region [1,5,6] [(0,true),(2,false),(3,false),(4,false),(7,false)] [8] (fun _=>⟨.cells #[.string ⟨#[112]⟩,.string ⟨#[113]⟩] 9,fun b => .slice (some ⟨b,0,none⟩) 2 2⟩) (by kernel_rfl) (by kernel_rfl) (by decide) ?_
   iterate 3 (first|(refine pre_yes rfl rfl ?_;apply Exists.intro;refine⟨fun W1 hW1 => ?_,?_⟩;(focus (have hc1:=(qal hW1).1;(try simp only[zd,qaa] at hc1);have hk1:=qac.below hW1;go_simp;first|exact rfl|(go_at_call 28;exact qlf _ _ Hn.out)));simp only[Act.put,zk,zh,zi,ze,zm,zn])|(refine pre_no rfl rfl ?_;simp only[Act.put,zk,zh,zi,ze,zm,zn]))
   refine pre_end ?_ (fun W2 hW2 => ?_)
   ·refine qnd rfl rfl (fun W1 hW1 => ?_) (fl_op (fl_op (fl_op (fl_op fl_nil))));go_simp
   ·refine qje rfl (fun b W3 hW3 hh hb3 hn => ?_);simp only[Act.put,ze,zm,zn];have hz2:=zq hW2;(try simp only[zd,qaa] at hz2);have hz3:=zq hW3;(try simp only[zd,qaa] at hz3);have hb0:b<W3.heap.size:=(zab.1 hh).1;have hc3:=fun j=>cell_of_row W3 b j _ _ _ hh;have hB3:=qa4 hW3 hW2;refine qcf hB3 rfl rfl ?_;apply Exists.intro;refine⟨?_,fun W4 hW4 => ?_⟩
    (focus (go_simp;first|exact rfl|fail))
    simp only[Act.put,zk,zh,zi,ze,zm,zn];have hz4:=zq hW4;(try simp only[zd,qaa] at hz4);have hB4:=qa4 hW4 hB3;have hc4:=(qal hW4).1;(try simp only[zd,qaa] at hc4);have hf4:=(qal hW4).2;(try simp only[zd,qaa] at hf4);have hb4:b<W4.heap.size:=by omega
    refine qcf hB4 rfl rfl ?_;apply Exists.intro;refine⟨?_,fun W5 hW5 => ?_⟩
    (focus (go_simp;first|exact rfl|fail))
    simp only[Act.put,zk,zh,zi,ze,zm,zn];have hz5:=zq hW5;(try simp only[zd,qaa] at hz5);have hB5:=qa4 hW5 hB4;have hc5:=(qal hW5).1;(try simp only[zd,qaa] at hc5);have hf5:=(qal hW5).2;(try simp only[zd,qaa] at hf5);refine qcf hB5 rfl rfl ?_;apply Exists.intro;refine⟨?_,fun W6 hW6 => ?_⟩
    (focus (go_simp;first|exact rfl|fail))
    simp only[Act.put,zk,zh,zi,ze,zm,zn];have hz6:=zq hW6;(try simp only[zd,qaa] at hz6);have hB6:=qa4 hW6 hB5;have hc6:=(qal hW6).1;(try simp only[zd,qaa] at hc6);have hf6:=(qal hW6).2;(try simp only[zd,qaa] at hf6);refine qcf hB6 rfl rfl ?_;apply Exists.intro;refine⟨?_,fun W7 hW7 => ?_⟩
    (focus (go_simp;first|exact rfl|(rw[if_neg (by omega)];exact⟨rfl,rfl⟩)))
    simp only[Act.put,zk,zh,zi,ze,zm,zn];have hz7:=zq hW7;(try simp only[zd,qaa] at hz7);have hB7:=qa4 hW7 hB6;have hc7:=(qal hW7).1;(try simp only[zd,qaa] at hc7);have hf7:=(qal hW7).2;(try simp only[zd,qaa] at hf7);refine mid_nil (qco rfl ?_)
    go_wp2_with fail
    go_ret
    exact⟨by simp[idS,idL,He.out,qas,qta],bel⟩
theorem size_go (n:Nat):∀ (t:Ty) (cs:List Value) (w:World),t.bulk≤n→t.bulk≤1048576→TyC w t cs→
  Calls prog 30 #[.agg cs.toArray] w (qa2 (.int .i64 t.size) w):=by
 induction n with
 | zero=>
  intro t cs w h;have:=qd3 t;omega
 | succ n ih=>
  intro t cs w h hb ht;obtain⟨k,num,el,fs,ms,em⟩:=t;simp only[TyC] at ht;obtain⟨a1,c1,a2,c2,a3,c3,a4,c4,rfl,-,hk,hn,h1,h2,h3,h4⟩:=ht;simp only[Ty.bulk] at h hb;have hl1:=qa3 el;have hl2:=qbv fs;have hl3:=qa3 em;have hs1:=qem el;have hs2:=qh6 fs;have hs3:=qem em;have IH:=hid ih;clear ih;obtain⟨O,hO⟩:∃ O,O=(Obj.cells #[.int .i64 k,.int .i64 num,.slice a1 el.length c1,.slice a2 fs.length c2,.slice a3 ms.length c3,.slice a4 em.length c4] 54):=⟨_,rfl⟩;have HO:=hid hO;clear hk hn h3;go_enter func30,ntmps30
  go_wp2_with fail
  rw[← hO];clear hO
  go_loopw [3,16] (fun v i wr=>∃ k':Nat,k'≤el.length∧i = .int .i64 k'∧v = .int .i64 (ms.length+qau (el.take k'))∧Below (w.heap.size+1) (w.alloc O) wr)
   (fun _ i _=>el.length - (intOf i).toNat)
  case atStart=>exact⟨0,by omega,rfl,by simp[qau],zp _ _⟩
  case round=>
   obtain⟨k',hk',rfl,rfl,hbel⟩:=hrel;have hK:qac w wr:=(qac.alloc w O).trans (qac.belowGe hbel (by simp));have hz:=zq hbel;(try simp only[zd,qaa] at hz);have hts:=qa5 el k';by_cases hlt:k'<el.length
   ·obtain⟨b,o,cs,rfl,hc,htt⟩:=TysR.get h1 k' hlt;have htt:=htt.keep hK;obtain⟨x1,d1,x2,d2,x3,d3,x4,d4,rfl,-⟩:=htt.open;obtain⟨e0,e1,e2,e3,e4,e5⟩:=six (hc.keep hK);simp only[Nat.zero_add] at e0 e1 e2 e3 e4 e5;have htk:=qc1 el k' hlt;have hbk:=qa6 el k' hlt;have hsk:=qa5 el (k'+1);have hle:qau (el.take k')+el[k'].size≤qbt el:=by omega
    have Htk:=hid htk;clear htk;have Htt:=hid htt;clear htt;clear h2 h4 h1 hc hK
    go_wp2_with (go_at_call 30;refine(IH.out _ _ _ (by omega) (by omega) (Htt.out.keep (qac.alloc _ _))).mono ?_;rintro e w1 ⟨rfl,hb1⟩)
    have hz1:=zq hb1;(try simp only[zd,qaa] at hz1)
    go_roundw
    case rel=>exact⟨k'+1,by omega,by go_num,by rw[Htk.out];go_num,bel⟩
    case measure=>simp[intOf];omega
   ·obtain rfl:k'=el.length:=by omega
    obtain⟨-,-,-,q3,-,q5⟩:=six (box hbel HO.out);simp only[zeb] at *;clear h1 hlt
    go_wp2_with fail
    go_loopw [3,28] (fun v i wr=>∃ k':Nat,k'≤fs.length∧i = .int .i64 k'∧v = .int .i64 (ms.length+qau el+qar (fs.take k'))∧Below (w.heap.size+1) (w.alloc O) wr)
     (fun _ i _=>fs.length - (intOf i).toNat)
    case atStart=>exact⟨0,by omega,rfl,by simp[qar],hbel⟩
    clear hbel q3 q5 hK hz
    case round=>
     obtain⟨k',hk',rfl,rfl,hbel⟩:=hrel;have hK:qac w wr:=(qac.alloc w O).trans (qac.belowGe hbel (by simp));have hz:=zq hbel;(try simp only[zd,qaa] at hz);have hts:=qbj fs k';by_cases hlt:k'<fs.length
     ·obtain⟨b,o,cs,rfl,hn1,hc,htt⟩:=FdsR.get h2 k' hlt;have htt:=htt.keep hK;obtain⟨x1,d1,x2,d2,x3,d3,x4,d4,rfl,-⟩:=htt.open;obtain⟨e0,e1,e2,e3,e4,e5,e6,e7⟩:=qhx (hc.keep hK);simp only[Nat.zero_add] at e0 e1 e2 e3 e4 e5 e6 e7;have htk:=qdi fs k' hlt;have hbk:=qbx fs k' hlt;have hsk:=qbj fs (k'+1);have hle:qar (fs.take k')+(1+fs[k'].of.size)≤qcm fs:=by omega
      have Htk:=hid htk;clear htk;have Htt:=hid htt;clear htt;clear h2 h4 hc hK hn1
      go_wp2_with (go_at_call 30;refine(IH.out _ _ _ (by omega) (by omega) (Htt.out.keep (qac.alloc _ _))).mono ?_;rintro e w1 ⟨rfl,hb1⟩)
      have hz1:=zq hb1;(try simp only[zd,qaa] at hz1)
      go_roundw
      case rel=>exact⟨k'+1,by omega,by go_num,by rw[Htk.out];go_num,bel⟩
      case measure=>simp[intOf];omega
     ·obtain rfl:k'=fs.length:=by omega
      obtain⟨-,-,-,-,-,q5⟩:=six (box hbel HO.out);simp only[zeb] at *;clear h2 hlt
      go_wp2_with fail
      go_loopw [3,42] (fun v i wr=>∃ k':Nat,k'≤em.length∧i = .int .i64 k'∧v = .int .i64 (ms.length+qau el+qar fs+qau (em.take k'))∧Below (w.heap.size+1) (w.alloc O) wr)
       (fun _ i _=>em.length - (intOf i).toNat)
      case atStart=>exact⟨0,by omega,rfl,by simp[qau],hbel⟩
      clear hbel q5 hK hz
      case round=>
       obtain⟨k',hk',rfl,rfl,hbel⟩:=hrel;have hK:qac w wr:=(qac.alloc w O).trans (qac.belowGe hbel (by simp));have hz:=zq hbel;(try simp only[zd,qaa] at hz);have hts:=qa5 em k';by_cases hlt:k'<em.length
       ·obtain⟨b,o,cs,rfl,hc,htt⟩:=TysR.get h4 k' hlt;have htt:=htt.keep hK;obtain⟨x1,d1,x2,d2,x3,d3,x4,d4,rfl,-⟩:=htt.open;obtain⟨e0,e1,e2,e3,e4,e5⟩:=six (hc.keep hK);simp only[Nat.zero_add] at e0 e1 e2 e3 e4 e5;have htk:=qc1 em k' hlt;have hbk:=qa6 em k' hlt;have hsk:=qa5 em (k'+1);have hle:qau (em.take k')+em[k'].size≤qbt em:=by omega
        have Htk:=hid htk;clear htk;have Htt:=hid htt;clear htt;clear h4 hc hK
        go_wp2_with (go_at_call 30;refine(IH.out _ _ _ (by omega) (by omega) (Htt.out.keep (qac.alloc _ _))).mono ?_;rintro e w1 ⟨rfl,hb1⟩)
        have hz1:=zq hb1;(try simp only[zd,qaa] at hz1)
        go_roundw
        case rel=>exact⟨k'+1,by omega,by go_num,by rw[Htk.out];go_num,bel⟩
        case measure=>simp[intOf];omega
       ·obtain rfl:k'=em.length:=by omega
        simp only[zeb] at *;clear h4 hlt
        go_wp2_with fail
        go_ret
        exact⟨by simp[Ty.size],(((zp _ _).alloc (zl _) _).trans (hbel.mono (by omega)))⟩
theorem qmq (t:Ty) (cs:List Value) (w:World) (hb:t.bulk≤1048576) (h:TyC w t cs):
  Calls prog 30 #[.agg cs.toArray] w (qa2 (.int .i64 t.size) w):=size_go t.bulk t cs w (zl _) hb h
theorem qoi (W:Wd) (a:Option Addr) (c:Nat) (d:Nat) (w:World) (hW:WdR w a W) (hd:d≤W.length) (hc:W.length≤c) (hb:qbw W≤1048576):
  Calls prog 14 #[.slice a W.length c,.int .i64 d] w (qa2 (.int .i64 (start W d)) w):=by
 have hl:=qbk W;have hs:=qcv W d;go_enter func14,ntmps14
 go_wp2_with fail
 go_loopw [5,12] (fun v i wr=>∃ k:Nat,k≤d∧i = .int .i64 k∧v = .int .i64 (start W k)∧Below w.heap.size w wr)
   (fun _ i _=>d - (intOf i).toNat)
 case atStart=>exact⟨0,by omega,rfl,by simp[start,sumD],zp _ _⟩
 case round=>
  obtain⟨k,hk,rfl,rfl,hbel⟩:=hrel;have hK:qac w wr:=qac.below hbel;have hz:=zq hbel;(try simp only[zd,qaa] at hz);by_cases hlt:k<d
  ·obtain⟨b,o,x1,d1,x2,d2,x3,d3,x4,d4,x5,d5,rfl,-,-,-,-,htt,hcc⟩:=hW.get k (by omega);have htt:=htt.keep hK;obtain⟨e0,e1,e2,e3,e4,e5,e6,e7,e8,e9⟩:=ten (hcc.keep hK);have htk:=qc2 (show k<W.length by omega);rw[qcg (show k<W.length by omega)] at htk;have hle:=qcv W (k+1);have hbk:=qee W k (by omega);have hsz:=qba W[k].of;unfold qi8 at htk;unfold Dc.bulk at hbk;have hle2:start W k+(W[k].methods.length+W[k].of.size)≤qbw W:=by omega
   have Htk:=hid htk;clear htk;have Htt:=hid htt;clear htt;clear hcc hK hW
   go_wp2_with fail
   refine Mix.wp_region [0,1,2,3,4,5,6,7,8] [] [9] (fun _=>default) (by kernel_rfl) (by kernel_rfl) (by decide) ?_
   iterate 9 (first|(refine pre_yes rfl rfl ?_;apply Exists.intro;refine⟨fun W1 hW1 => ?_,?_⟩;(focus (have hc1:=(qal hW1).1;(try simp only[zd,qaa] at hc1);have hk1:=qac.below hW1;go_simp;first|exact rfl|(go_at_call 30;exact qmq _ _ _ (by omega) (Htt.out.keep hk1.undrew.unalloc))));simp only[Act.put,zk,zh,zi,ze,zm,zn])|(refine pre_no rfl rfl ?_;simp only[Act.put,zk,zh,zi,ze,zm,zn]))
   refine pre_end fl_nil (fun W2 hW2=>mid_nil (qco rfl ?_));have hz2:=zq hW2;(try simp only[zd,qaa] at hz2)
   go_wp2_with fail
   go_roundw
   case rel=>exact⟨k+1,by omega,by go_num,by rw[Htk.out];go_num,bel⟩
   case measure=>simp[intOf];omega
  ·obtain rfl:k=d:=by omega
   clear hW
   go_wp2_with fail
   go_ret
   exact⟨rfl,hbel⟩
def qef (w0:World) (s:Spot) (w:World) (e:Ending) (w':World):Prop:=
 ∃ cs,e = .returned (.agg (cs++[.int .i64 s.at_,.int .i64 s.pkg]).toArray)∧TyC w0 s.of cs∧Below w.heap.size w w'
theorem qeo (W:Wd) (a:Option Addr) (c:Nat) (d:Nat) (w0 w:World) (k0:qac w0 w) (hW:WdR w0 a W) (hd:d<W.length) (hc:W.length≤c) (hb:qbw W≤1048576):
  Calls prog 37 #[.slice a W.length c,.int .i64 d] w (qef w0 (qad W d) w):=by
 have hl:=qbk W;have hs:=spot_le hd;obtain⟨b,o,x1,d1,x2,d2,x3,d3,x4,d4,x5,d5,rfl,-,-,-,-,htt,hcc⟩:=hW.get d hd;have hcc:=hcc.keep k0;have hbb:b<w.heap.size:=zj w ⟨b,o+d * 10,none⟩ (by have:=hcc 0 _ rfl;simpa using this);have HW:=hid (hW.keep k0);clear hW;obtain⟨e0,e1,e2,e3,e4,e5,e6,e7,e8,e9⟩:=ten hcc;clear hcc;have Htt:=hid htt;clear htt;rw[qcg hd] at hs;go_enter func37,ntmps37
 go_wp2_with fail
 refine Mix.wp_region [0,1,2,3,4,5,6,7,8,9,10,11,12,13,14,15,16,17,18,19,20] [] [21] (fun _=>default) (by kernel_rfl) (by kernel_rfl) (by decide) ?_
 iterate 21 (first|(refine pre_yes rfl rfl ?_;apply Exists.intro;refine⟨fun W1 hW1 => ?_,?_⟩;(focus (have hc1:=(qal hW1).1;(try simp only[zd,qaa] at hc1);have hk1:=qac.below hW1;go_simp;first|exact rfl|(go_at_call 14;exact qoi W _ _ d _ (HW.out.keep hk1.undrew.unalloc) (by omega) (by omega) (by omega))));simp only[Act.put,zk,zh,zi,ze,zm,zn])|(refine pre_no rfl rfl ?_;simp only[Act.put,zk,zh,zi,ze,zm,zn]))
 refine pre_end fl_nil (fun W2 hW2=>mid_nil (qco rfl ?_));have hz2:=zq hW2;(try simp only[zd,qaa] at hz2);have hc2:=(qal hW2).1;(try simp only[zd,qaa] at hc2);have hf2:=(qal hW2).2;(try simp only[zd,qaa] at hf2)
 go_wp2_with fail
 refine bodyPost_ret (v := .agg #[.int .i64 W[d].of.kind,.int .i64 W[d].of.num,.slice x1 W[d].of.elem.length d1,.slice x2 W[d].of.fields.length d2,.slice x3 W[d].of.methods.length d3,.slice x4 W[d].of.embeds.length d4,.int .i64 (start W d+W[d].methods.length),.int .i64 W[d].pkg]) (by simp[results,results37,go_sem,hc2]) rfl ⟨[.int .i64 W[d].of.kind,.int .i64 W[d].of.num,.slice x1 W[d].of.elem.length d1,.slice x2 W[d].of.fields.length d2,.slice x3 W[d].of.methods.length d3,.slice x4 W[d].of.embeds.length d4],?_,?_,?_⟩
 ·simp[qad,qcg hd]
 ·simp only[qad,qcg hd];exact Htt.out
 ·exact bel
def qb6 (w:World) (s:Spot) (v:Value):Prop:=∃ cs,v = .agg (cs++[.int .i64 s.at_,.int .i64 s.pkg]).toArray∧TyC w s.of cs
theorem qb6.keep {w W:World} (k:qac w W) {s:Spot} {v:Value}:qb6 w s v→qb6 W s v
 | ⟨cs,e,h⟩=>⟨cs,e,h.keep k⟩
theorem qb6.open {w:World} {s:Spot} {v:Value} (h:qb6 w s v):∃ x1 d1 x2 d2 x3 d3 x4 d4,
  v = .agg #[.int .i64 s.of.kind,.int .i64 s.of.num,.slice x1 s.of.elem.length d1,.slice x2 s.of.fields.length d2,.slice x3 s.of.methods.length d3,.slice x4 s.of.embeds.length d4,.int .i64 s.at_,.int .i64 s.pkg]∧TyC w s.of [.int .i64 s.of.kind,.int .i64 s.of.num,.slice x1 s.of.elem.length d1,.slice x2 s.of.fields.length d2,.slice x3 s.of.methods.length d3,.slice x4 s.of.embeds.length d4]:=by
 obtain⟨cs,rfl,ht⟩:=h;have ht':=ht;obtain⟨x1,d1,x2,d2,x3,d3,x4,d4,rfl,-⟩:=ht.open;exact⟨x1,d1,x2,d2,x3,d3,x4,d4,rfl,ht'⟩
theorem qb6.full {w:World} {s:Spot} {v:Value} (h:qb6 w s v):∃ x1 d1 x2 d2 x3 d3 x4 d4,
  v = .agg #[.int .i64 s.of.kind,.int .i64 s.of.num,.slice x1 s.of.elem.length d1,.slice x2 s.of.fields.length d2,.slice x3 s.of.methods.length d3,.slice x4 s.of.embeds.length d4,.int .i64 s.at_,.int .i64 s.pkg]∧(s.of.elem.length≤d1∧s.of.fields.length≤d2∧s.of.methods.length≤d3∧s.of.embeds.length≤d4)∧i64 s.of.kind∧i64 s.of.num∧TysR w x1 0 s.of.elem∧FdsR w x2 0 s.of.fields∧MsR w x3 0 s.of.methods∧TysR w x4 0 s.of.embeds∧TyC w s.of [.int .i64 s.of.kind,.int .i64 s.of.num,.slice x1 s.of.elem.length d1,.slice x2 s.of.fields.length d2,.slice x3 s.of.methods.length d3,.slice x4 s.of.embeds.length d4]:=by
 obtain⟨cs,rfl,ht⟩:=h;obtain⟨x1,d1,x2,d2,x3,d3,x4,d4,rfl,h⟩:=ht.full;exact⟨x1,d1,x2,d2,x3,d3,x4,d4,rfl,h⟩
theorem qef.v {w0:World} {s:Spot} {w:World} {e:Ending} {w':World} (h:qef w0 s w e w'):∃ v,e = .returned v∧qb6 w0 s v∧Below w.heap.size w w':=by
 obtain⟨cs,h1,h2,h3⟩:=h;exact⟨_,h1,⟨cs,rfl,h2⟩,h3⟩
theorem qpr (W:Wd) (a:Option Addr) (c:Nat) (t:Ty) (cs:List Value) (w0 w:World) (k0:qac w0 w) (hW:WdR w0 a W) (ht:TyC w0 t cs) (hc:W.length≤c) (hb:qbw W≤1048576):
  Calls prog 33 #[.slice a W.length c,.agg cs.toArray] w (qef w0 (operand W t) w):=by
 have hl:=qbk W;have HW:=hid (hW.keep k0);clear hW;have ht':=ht;obtain⟨x1,d1,x2,d2,x3,d3,x4,d4,rfl,-⟩:=ht.open;have Htt:=hid ht';clear ht ht';go_enter func33,ntmps33
 go_wp2_with fail
 refine Mix.wp_region [0,1,2,3,4,5] [] [6] (fun _=>default) (by kernel_rfl) (by kernel_rfl) (by decide) ?_
 iterate 6 (first|(refine pre_yes rfl rfl ?_;apply Exists.intro;refine⟨fun W1 hW1 => ?_,?_⟩;(focus (have hc1:=(qal hW1).1;(try simp only[zd,qaa] at hc1);have hk1:=qac.below hW1;go_simp;first|exact rfl|(go_at_call 14;exact qoi W _ _ W.length _ (HW.out.keep hk1.undrew.unalloc.unalloc) (by omega) (by omega) (by omega))));simp only[Act.put,zk,zh,zi,ze,zm,zn])|(refine pre_no rfl rfl ?_;simp only[Act.put,zk,zh,zi,ze,zm,zn]))
 refine pre_end fl_nil (fun W2 hW2=>mid_nil (qco rfl ?_));have hz2:=zq hW2;(try simp only[zd,qaa] at hz2);have hc2:=(qal hW2).1;(try simp only[zd,qaa] at hc2);have hf2:=(qal hW2).2;(try simp only[zd,qaa] at hf2)
 go_wp2_with fail
 refine bodyPost_ret (v := .agg #[.int .i64 t.kind,.int .i64 t.num,.slice x1 t.elem.length d1,.slice x2 t.fields.length d2,.slice x3 t.methods.length d3,.slice x4 t.embeds.length d4,.int .i64 (start W W.length),.int .i64 0]) (by simp[results,results33,go_sem,hc2]) rfl ⟨[.int .i64 t.kind,.int .i64 t.num,.slice x1 t.elem.length d1,.slice x2 t.fields.length d2,.slice x3 t.methods.length d3,.slice x4 t.embeds.length d4],?_,?_,?_⟩
 ·simp[operand]
 ·exact Htt.out
 ·exact bel
theorem qhs (s:Spot) (v:Value) (w0 w:World) (k0:qac w0 w) (hs:qb6 w0 s v) (he:0<s.of.elem.length):
  Calls prog 60 #[v] w (qef w0 (qaq s) w):=by
 obtain⟨x1,d1,x2,d2,x3,d3,x4,d4,rfl,-,-,-,h1,-,-,-,ht⟩:=hs.full;obtain⟨b,o,cs,rfl,hc,ht1⟩:=TysR.get h1 0 he;have hc:=hc.keep k0;have hbb:b<w.heap.size:=by
  obtain⟨_,_,_,_,_,_,_,_,rfl,-⟩:=ht1.open;exact zj w ⟨b,_,none⟩ (hc 0 _ rfl)
 have hbb1:b<w.heap.size+1:=by omega
 have hbb2:b<w.heap.size+1+1:=by omega
 have ht1':=ht1;obtain⟨y1,g1,y2,g2,y3,g3,y4,g4,rfl,-⟩:=ht1.open;obtain⟨e0,e1,e2,e3,e4,e5⟩:=six hc;simp only[Nat.zero_add,Nat.zero_mul,Nat.add_zero] at e0 e1 e2 e3 e4 e5;have Htt:=hid ht1';clear ht1 ht1' h1 ht hc hs;go_enter func60,ntmps60
 go_wp2_with fail
 refine Mix.wp_region [0,1,2,3,4,5,6,7,8,9] [] [10] (fun _=>default) (by kernel_rfl) (by kernel_rfl) (by decide) ?_
 iterate 10 (first|(refine pre_yes rfl rfl ?_;apply Exists.intro;refine⟨fun W1 hW1 => ?_,?_⟩;(focus (have hc1:=(qal hW1).1;(try simp only[zd,qaa] at hc1);have hk1:=qac.below hW1;go_simp;first|exact rfl|fail));simp only[Act.put,zk,zh,zi,ze,zm,zn])|(refine pre_no rfl rfl ?_;simp only[Act.put,zk,zh,zi,ze,zm,zn]))
 refine pre_end fl_nil (fun W2 hW2=>mid_nil (qco rfl ?_));have hz2:=zq hW2;(try simp only[zd,qaa] at hz2);have hc2:=(qal hW2).1;(try simp only[zd,qaa] at hc2);have hf2:=(qal hW2).2;(try simp only[zd,qaa] at hf2)
 go_wp2_with fail
 have hel:s.of.el0=s.of.elem[0]:=by unfold Ty.el0;simp[he]
 refine bodyPost_ret (v := .agg #[.int .i64 s.of.elem[0].kind,.int .i64 s.of.elem[0].num,.slice y1 s.of.elem[0].elem.length g1,.slice y2 s.of.elem[0].fields.length g2,.slice y3 s.of.elem[0].methods.length g3,.slice y4 s.of.elem[0].embeds.length g4,.int .i64 s.at_,.int .i64 s.pkg]) (by simp[results,results60,go_sem,hc2]) rfl ⟨[.int .i64 s.of.elem[0].kind,.int .i64 s.of.elem[0].num,.slice y1 s.of.elem[0].elem.length g1,.slice y2 s.of.elem[0].fields.length g2,.slice y3 s.of.elem[0].methods.length g3,.slice y4 s.of.elem[0].embeds.length g4],?_,?_,?_⟩
 ·simp[qaq]
 ·simp only[qaq,hel];exact Htt.out
 ·exact bel
theorem qnl (s:Spot) (v:Value) (i:Nat) (w0 w:World) (k0:qac w0 w) (hs:qb6 w0 s v) (hi:i<s.of.embeds.length) (hb:s.of.bulk≤1048576) (hat:s.at_≤4194304):
  Calls prog 56 #[v,.int .i64 i] w (qef w0 (qav s i) w):=by
 obtain⟨x1,d1,x2,d2,x3,d3,x4,d4,rfl,⟨-,-,-,hcp⟩,-,-,-,-,-,h4,ht⟩:=hs.full;have hbk:s.of.methods.length+qbt s.of.embeds≤s.of.bulk:=by cases s.of;simp only[Ty.bulk,Ty.methods,Ty.embeds];omega
 have hl3:=qa3 s.of.embeds;have hs3:=qem s.of.embeds;have hsi:=qa5 s.of.embeds i;clear ht hs;obtain⟨O,hO⟩:∃ O,O=(Obj.cells #[.int .i64 s.of.kind,.int .i64 s.of.num,.slice x1 s.of.elem.length d1,.slice x2 s.of.fields.length d2,.slice x3 s.of.methods.length d3,.slice x4 s.of.embeds.length d4,.int .i64 s.at_,.int .i64 s.pkg] 88):=⟨_,rfl⟩;obtain⟨O2,hO2⟩:∃ O2,O2=(Obj.cells #[.int .i64 0,.int .i64 0,.slice none 0 0,.slice none 0 0,.slice none 0 0,.slice none 0 0,.int .i64 0,.int .i64 0] 88):=⟨_,rfl⟩;have f1:((w.alloc O).alloc O2).heap[w.heap.size]?=some (.cells [.int .i64 s.of.kind,.int .i64 s.of.num,.slice x1 s.of.elem.length d1,.slice x2 s.of.fields.length d2,.slice x3 s.of.methods.length d3,.slice x4 s.of.embeds.length d4,.int .i64 s.at_,.int .i64 s.pkg].toArray 88):=by rw[← hO];exact qtb (qa8 _ _)
 have f2:((w.alloc O).alloc O2).heap[w.heap.size+1]?=some (.cells [.int .i64 0,.int .i64 0,.slice none 0 0,.slice none 0 0,.slice none 0 0,.slice none 0 0,.int .i64 0,.int .i64 0].toArray 88):=by rw[← hO2];have:=qa8 (w.alloc O) O2;simpa using this
 have F1:=hid f1;have F2:=hid f2;clear f1 f2;go_enter func56,ntmps56
 go_wp2_with fail
 rw[← hO,← hO2];clear hO hO2;have kw:qac w ((w.alloc O).alloc O2):=(qac.alloc _ _).trans (qac.alloc _ _);have hw2:((w.alloc O).alloc O2).heap.size=w.heap.size+1+1:=by simp
 have hbw2:Below w.heap.size w ((w.alloc O).alloc O2):=bel
 generalize (w.alloc O).alloc O2=w2 at *
 have Hw0:=hid hw2;clear hw2
 go_loopw [5,21] (fun v j wr=>∃ k:Nat,k≤i∧j = .int .i64 k∧v = .int .i64 (s.at_+s.of.methods.length+qau (s.of.embeds.take k))∧Below (w.heap.size+2) w2 wr)
  (fun _ j _=>i - (intOf j).toNat)
 case atStart=>exact⟨0,by omega,rfl,by simp[qau],zp _ _⟩
 case round=>
  obtain⟨k,hk,rfl,rfl,hbel⟩:=hrel;have hK:qac w0 wr:=(k0.trans kw).trans (qac.belowGe hbel (by have:=Hw0.out;omega));have hz:=zq hbel;(try simp only[zd,qaa] at hz);have hts:=qa5 s.of.embeds k;by_cases hlt:k<i
  ·obtain⟨b,o,cs,rfl,hc,htt⟩:=TysR.get h4 k (by omega);have htt:=htt.keep hK;obtain⟨y1,g1,y2,g2,y3,g3,y4,g4,rfl,-⟩:=htt.open;obtain⟨e0,e1,e2,e3,e4,e5⟩:=six (hc.keep hK);simp only[Nat.zero_add] at e0 e1 e2 e3 e4 e5;have htk:=qc1 s.of.embeds k (by omega);have hbk:=qa6 s.of.embeds k (by omega);have hsk:=qa5 s.of.embeds (k+1);have hle:qau (s.of.embeds.take k)+s.of.embeds[k].size≤qbt s.of.embeds:=by omega
   have Htk:=hid htk;clear htk;have Htt:=hid htt;clear htt;clear h4 hc hK
   go_wp2_with (go_at_call 30;refine(qmq _ _ _ (by omega) (Htt.out.keep (qac.alloc _ _))).mono ?_;rintro e w1 ⟨rfl,hb1⟩)
   have hz1:=zq hb1;(try simp only[zd,qaa] at hz1);have hz0:w.heap.size+2≤wr.heap.size:=by have:=Hw0.out;omega
   go_roundw
   case rel=>exact⟨k+1,by omega,by go_num,by rw[Htk.out];go_num,bel⟩
   case measure=>simp[intOf];omega
  ·obtain rfl:k=i:=by omega
   obtain⟨b,o,cs,rfl,hc,htt⟩:=TysR.get h4 k hi;have hbb:b<w.heap.size:=by
    obtain⟨_,_,_,_,_,_,_,_,rfl,-⟩:=htt.open;exact zj w ⟨b,_,none⟩ ((hc.keep k0) 0 _ rfl)
   have hbw:b<wr.heap.size:=by have:=Hw0.out;omega
   have ha0:w.heap.size<wr.heap.size:=by have:=Hw0.out;omega
   have ha1:w.heap.size+1<wr.heap.size:=by have:=Hw0.out;omega
   have htt0:=htt;obtain⟨y1,g1,y2,g2,y3,g3,y4,g4,rfl,-⟩:=htt.open;obtain⟨e0,e1,e2,e3,e4,e5⟩:=six (hc.keep hK);simp only[Nat.zero_add] at e0 e1 e2 e3 e4 e5;obtain⟨q0,q1,q2,q3,q4,q5,q6,q7⟩:=qgv (qa9 hbel (by omega) F1.out);obtain⟨r0,r1,r2,r3,r4,r5,r6,r7⟩:=qgv (qa9 hbel (by omega) F2.out);have rf:=qfp hbel (by omega) F2.out;simp only[Nat.zero_add] at r0 r1 r2 r3 r4 r5 r6 r7 q0 q1 q2 q3 q4 q5 q6 q7;have Htt:=hid htt0;clear htt htt0 h4 hc hK hlt
   go_wp2_with fail
   refine Mix.wp_region [0,1,2,3,4,5,6,7,8,9] [] [10] (fun _=>default) (by kernel_rfl) (by kernel_rfl) (by decide) ?_
   iterate 10 (first|(refine pre_yes rfl rfl ?_;apply Exists.intro;refine⟨fun W1 hW1 => ?_,?_⟩;(focus (have hc1:=(qal hW1).1;(try simp only[zd,qaa] at hc1);have hk1:=qac.below hW1;go_simp;first|exact rfl|fail));simp only[Act.put,zk,zh,zi,ze,zm,zn])|(refine pre_no rfl rfl ?_;simp only[Act.put,zk,zh,zi,ze,zm,zn]))
   refine pre_end fl_nil (fun W2 hW2=>mid_nil (qco rfl ?_));have hz2:=zq hW2;(try simp only[zd,qaa] at hz2);have hc2:=(qal hW2).1;(try simp only[zd,qaa] at hc2);have hf2:=(qal hW2).2;(try simp only[zd,qaa] at hf2)
   go_wp2_with fail
   have hel:s.of.embeds.getD k ty0=s.of.embeds[k]:=by simp[hi]
   refine bodyPost_ret (v := .agg #[.int .i64 s.of.embeds[k].kind,.int .i64 s.of.embeds[k].num,.slice y1 s.of.embeds[k].elem.length g1,.slice y2 s.of.embeds[k].fields.length g2,.slice y3 s.of.embeds[k].methods.length g3,.slice y4 s.of.embeds[k].embeds.length g4,.int .i64 (s.at_+s.of.methods.length+qau (s.of.embeds.take k)),.int .i64 s.pkg]) (by simp[results,results56,go_sem,hc2,ha1,r0,r1,r2,r3,r4,r5,r6,r7]) rfl ⟨[.int .i64 s.of.embeds[k].kind,.int .i64 s.of.embeds[k].num,.slice y1 s.of.embeds[k].elem.length g1,.slice y2 s.of.embeds[k].fields.length g2,.slice y3 s.of.embeds[k].methods.length g3,.slice y4 s.of.embeds[k].embeds.length g4],?_,?_,?_⟩
   ·simp[qav]
   ·simp only[qav,hel];exact Htt.out
   ·exact bel
def CloW (W:Wd):Prop:=∀ d,d<W.length→(dc W d).of.clo W.length
theorem Ty.clo_num {n:Nat} {t:Ty} (h:t.clo n) (hk:t.kind=1):0≤t.num∧t.num<n:=by
 cases t;simp only[Ty.clo,Ty.kind,Ty.num] at *;exact h.1 hk
structure WOk (w:World) (W:Wd) (a:Option Addr) (c:Nat):Prop where
 row:WdR w a W
 cap:W.length≤c
 bulk:qbw W≤1048576
theorem WOk.keep {w w':World} {W:Wd} {a:Option Addr} {c:Nat} (h:WOk w W a c) (k:qac w w'):WOk w' W a c:=⟨h.row.keep k,h.cap,h.bulk⟩
def qw8 (w0 w:World) (b:Nat) (s:Spot):Prop:=∃ x1 d1 x2 d2 x3 d3 x4 d4,qat w b 0 [.int .i64 s.of.kind,.int .i64 s.of.num,.slice x1 s.of.elem.length d1,.slice x2 s.of.fields.length d2,.slice x3 s.of.methods.length d3,.slice x4 s.of.embeds.length d4,.int .i64 s.at_,.int .i64 s.pkg]∧TyC w0 s.of [.int .i64 s.of.kind,.int .i64 s.of.num,.slice x1 s.of.elem.length d1,.slice x2 s.of.fields.length d2,.slice x3 s.of.methods.length d3,.slice x4 s.of.embeds.length d4]
abbrev Soft (w:World) (b:Nat):Prop:=∀ j,w.frozen? ⟨b,j,none⟩=false
def Zero8 (w:World) (b:Nat):Prop:=qat w b 0 [.int .i64 0,.int .i64 0,.slice none 0 0,.slice none 0 0,.slice none 0 0,.slice none 0 0,.int .i64 0,.int .i64 0]
def set8 (w:World) (b:Nat) (v0 v1 v2 v3 v4 v5 v6 v7:Value):World:=
 (((((((w.setCell ⟨b,0,none⟩ v0).setCell ⟨b,1,none⟩ v1).setCell ⟨b,2,none⟩ v2).setCell ⟨b,3,none⟩ v3).setCell ⟨b,4,none⟩ v4).setCell ⟨b,5,none⟩ v5).setCell ⟨b,6,none⟩ v6).setCell ⟨b,7,none⟩ v7
theorem qtc {w:World} {b:Nat} {u0 u1 u2 u3 u4 u5 u6 u7:Value} (h:qat w b 0 [u0,u1,u2,u3,u4,u5,u6,u7]) (v0 v1 v2 v3 v4 v5 v6 v7:Value):
  qat (set8 w b v0 v1 v2 v3 v4 v5 v6 v7) b 0 [v0,v1,v2,v3,v4,v5,v6,v7]:=by
 obtain⟨r0,r1,r2,r3,r4,r5,r6,r7⟩:=qgv h;simp only[Nat.zero_add] at r0 r1 r2 r3 r4 r5 r6 r7;intro j v hv;unfold set8
 match j,hv with
 | 0,hv|1,hv|2,hv|3,hv|4,hv|5,hv|6,hv|7,hv=>simp only[zt,zu,Option.some.injEq] at hv;subst hv;simp[go_sem,r0,r1,r2,r3,r4,r5,r6,r7]
 | j+8,hv=>simp at hv
theorem qve {w:World} {b b':Nat} (v0 v1 v2 v3 v4 v5 v6 v7:Value) (hb:b'≠b) (o:Nat):(set8 w b v0 v1 v2 v3 v4 v5 v6 v7).cell? ⟨b',o,none⟩=w.cell? ⟨b',o,none⟩:=by
 unfold set8;have key:∀ (W:World) (i:Nat) (v:Value),(W.setCell ⟨b,i,none⟩ v).cell? ⟨b',o,none⟩=W.cell? ⟨b',o,none⟩:=fun W i v=>World.cell?_setCell_other _ _ _ _ (by intro h;injection h;omega);simp only[key]
theorem qo0 {w:World} {b b':Nat} (v0 v1 v2 v3 v4 v5 v6 v7:Value) (h:Soft w b'):Soft (set8 w b v0 v1 v2 v3 v4 v5 v6 v7) b':=by
 intro j;unfold set8;simp[go_sem];exact h j
theorem qlc {w0 w:World} {B b:Nat} (v0 v1 v2 v3 v4 v5 v6 v7:Value) (h:Below B w0 w) (hb:B≤b):Below B w0 (set8 w b v0 v1 v2 v3 v4 v5 v6 v7):=by
 unfold set8
 iterate 8 refine Below.setCell ?_ (by simpa using hb) _
 exact h
@[simp] theorem qoq {w:World} {b:Nat} (v0 v1 v2 v3 v4 v5 v6 v7:Value):(set8 w b v0 v1 v2 v3 v4 v5 v6 v7).heap.size=w.heap.size:=by
 unfold set8;simp
theorem qq3 {w:World} {b:Nat} (v0 v1 v2 v3 v4 v5 v6 v7:Value):(((((((w.setCell ⟨b,0,none⟩ v0).setCell ⟨b,1,none⟩ v1).setCell ⟨b,2,none⟩ v2).setCell ⟨b,3,none⟩ v3).setCell ⟨b,4,none⟩ v4).setCell ⟨b,5,none⟩ v5).setCell ⟨b,6,none⟩ v6).setCell ⟨b,7,none⟩ v7=set8 w b v0 v1 v2 v3 v4 v5 v6 v7:=rfl
theorem qb3 (W:Wd) (a:Option Addr) (c:Nat) (s:Spot) (v:Value) (w0 w:World) (k0:qac w0 w) (hW:WOk w0 W a c) (hC:CloW W) (hs:qb6 w0 s v) (hcl:s.of.clo W.length):
  Calls prog 32 #[.slice a W.length c,v] w (qef w0 (under W s) w):=by
 have hl:=qbk W;have hcap:=hW.cap;have hbk:=hW.bulk;obtain⟨x1,d1,x2,d2,x3,d3,x4,d4,rfl,htt⟩:=hs.open;clear hs;obtain⟨O,hO⟩:∃ O,O=(Obj.cells #[.int .i64 s.of.kind,.int .i64 s.of.num,.slice x1 s.of.elem.length d1,.slice x2 s.of.fields.length d2,.slice x3 s.of.methods.length d3,.slice x4 s.of.embeds.length d4,.int .i64 s.at_,.int .i64 s.pkg] 88):=⟨_,rfl⟩;obtain⟨O2,hO2⟩:∃ O2,O2=(Obj.cells #[.int .i64 0,.int .i64 0,.slice none 0 0,.slice none 0 0,.slice none 0 0,.slice none 0 0,.int .i64 0,.int .i64 0] 88):=⟨_,rfl⟩;have HW:=hid hW;clear hW;go_enter func32,ntmps32
 go_wp2_with fail
 rw[← hO,← hO2];have f1:((w.alloc O).alloc O2).heap[w.heap.size]?=some (.cells [.int .i64 s.of.kind,.int .i64 s.of.num,.slice x1 s.of.elem.length d1,.slice x2 s.of.fields.length d2,.slice x3 s.of.methods.length d3,.slice x4 s.of.embeds.length d4,.int .i64 s.at_,.int .i64 s.pkg].toArray 88):=by rw[← hO];exact qtb (qa8 _ _)
 have f2:((w.alloc O).alloc O2).heap[w.heap.size+1]?=some (.cells [.int .i64 0,.int .i64 0,.slice none 0 0,.slice none 0 0,.slice none 0 0,.slice none 0 0,.int .i64 0,.int .i64 0].toArray 88):=by rw[← hO2];have:=qa8 (w.alloc O) O2;simpa using this
 have hbw2:Below w.heap.size w ((w.alloc O).alloc O2):=bel;have hw2:((w.alloc O).alloc O2).heap.size=w.heap.size+2:=by simp
 have g1:qw8 w0 ((w.alloc O).alloc O2) w.heap.size s:=⟨x1,d1,x2,d2,x3,d3,x4,d4,qa9 (zp (w.heap.size+2) _) (by omega) f1,htt⟩;have g2:Zero8 ((w.alloc O).alloc O2) (w.heap.size+1):=qa9 (zp (w.heap.size+2) _) (by omega) f2;have g3:Soft ((w.alloc O).alloc O2) w.heap.size:=qfp (zp (w.heap.size+2) _) (by omega) f1;have g4:Soft ((w.alloc O).alloc O2) (w.heap.size+1):=qfp (zp (w.heap.size+2) _) (by omega) f2
 generalize (w.alloc O).alloc O2=w2 at *
 clear f1 f2 hO hO2 htt
 go_loopw [8] (fun i wr=>∃ (k:Nat) (s':Spot),k≤W.length+1∧i = .int .i64 k∧qb9 W (W.length+1 - k) s'=under W s∧s'.of.clo W.length∧qw8 w0 wr w.heap.size s'∧Zero8 wr (w.heap.size+1)∧Soft wr w.heap.size∧Soft wr (w.heap.size+1)∧Below w.heap.size w wr∧w.heap.size+2≤wr.heap.size)
  (fun i _=>W.length+1 - (intOf i).toNat)
 case atStart=>exact⟨0,s,by omega,rfl,rfl,hcl,g1,g2,g3,g4,hbw2,by omega⟩
 clear g1 g2 g3 g4 hcl
 case round=>
  obtain⟨k,s',hk,rfl,hu,hcl,hs1,hz8,hf1,hf2,hbel,hsz⟩:=hrel;obtain⟨y1,e1,y2,e2,y3,e3,y4,e4,hcc,htt⟩:=hs1;obtain⟨q0,q1,q2,q3,q4,q5,q6,q7⟩:=qgv hcc;obtain⟨r0,r1,r2,r3,r4,r5,r6,r7⟩:=qgv hz8;simp only[Nat.zero_add] at r0 r1 r2 r3 r4 r5 r6 r7 q0 q1 q2 q3 q4 q5 q6 q7;by_cases hlt:k<W.length+1
  ·by_cases hkd:s'.of.kind=1
   ·obtain⟨hn0,hn1⟩:=Ty.clo_num hcl hkd;have hkd':(s'.of.kind != 1)=false:=by simp[hkd]
    have hu':qb9 W (W.length+1 - (k+1)) (qad W s'.of.num.toNat)=under W s:=by
     rw[← hu];obtain⟨m,hm⟩:∃ m,W.length+1 - k=m+1:=⟨W.length - k,by omega⟩;rw[hm,show W.length+1 - (k+1)=m by omega];simp[qb9,hkd]
    have Hu:=hid hu';have hc':=hid (hC _ (show s'.of.num.toNat<W.length by omega));have hnn:s'.of.num=(s'.of.num.toNat:Int):=by omega
    generalize s'.of.num.toNat=nn at *
    clear hu hu' hcl hkd;have HK:=hid (k0.trans (qac.below hbel));have ha0:w.heap.size<wr.heap.size:=by omega
    have ha1:w.heap.size+1<wr.heap.size:=by omega
    go_wp2_with (go_at_call 37;refine(qeo W _ c nn w0 wr HK.out HW.out.row (by omega) hcap hbk).mono ?_;rintro e w1 ⟨cs,rfl,ht1,hb1⟩;obtain⟨z1,p1,z2,p2,z3,p3,z4,p4,rfl,-⟩:=ht1.open;have Ht1:=hid ht1;clear ht1;have hz1:=zq hb1;have hc1:=(qal hb1).1;have hff1:=(qal hb1).2)
    rw[qq3]
    go_roundw
    case rel=>
     have k1:=qac.below hb1;have hbw1:Below w.heap.size w w1:=qbl hb1 hbel (by omega);refine⟨k+1,_,by omega,by go_num,Hu.out,hc'.out,⟨z1,p1,z2,p2,z3,p3,z4,p4,qtc (hcc.keep k1) _ _ _ _ _ _ _ _,Ht1.out⟩,?_,?_,?_,?_,?_⟩
     ·intro j v hv;rw[qve _ _ _ _ _ _ _ _ (by omega)];exact(hz8.keep k1) j v hv
     ·exact qo0 _ _ _ _ _ _ _ _ (fun j=>(hff1 _ j ha0).trans (hf1 j))
     ·exact qo0 _ _ _ _ _ _ _ _ (fun j=>(hff1 _ j ha1).trans (hf2 j))
     ·exact qlc _ _ _ _ _ _ _ _ hbw1 (zl _)
     ·rw[qoq];omega
    case measure=>simp[intOf];omega
   ·have hu':s'=under W s:=by
     rw[← hu];obtain⟨m,hm⟩:∃ m,W.length+1 - k=m+1:=⟨W.length - k,by omega⟩;rw[hm];simp[qb9,hkd]
    have hkd':(s'.of.kind != 1)=true:=by simpa using hkd
    have Hu:=hid hu';clear hu' hu
    go_wp2_with fail
    refine bodyPost_ret (v := .agg #[.int .i64 s'.of.kind,.int .i64 s'.of.num,.slice y1 s'.of.elem.length e1,.slice y2 s'.of.fields.length e2,.slice y3 s'.of.methods.length e3,.slice y4 s'.of.embeds.length e4,.int .i64 s'.at_,.int .i64 s'.pkg]) (by simp[results,results32,go_sem,r0,r1,r2,r3,r4,r5,r6,r7]) rfl ⟨[.int .i64 s'.of.kind,.int .i64 s'.of.num,.slice y1 s'.of.elem.length e1,.slice y2 s'.of.fields.length e2,.slice y3 s'.of.methods.length e3,.slice y4 s'.of.embeds.length e4],?_,?_,?_⟩
    ·rw[← Hu.out];simp
    ·rw[← Hu.out];exact htt
    ·exact bel
  ·obtain rfl:k=W.length+1:=by omega
   have hu':s'=under W s:=by rw[← hu,Nat.sub_self];rfl
   have Hu:=hid hu';clear hu' hu hlt
   go_wp2_with fail
   refine bodyPost_ret (v := .agg #[.int .i64 s'.of.kind,.int .i64 s'.of.num,.slice y1 s'.of.elem.length e1,.slice y2 s'.of.fields.length e2,.slice y3 s'.of.methods.length e3,.slice y4 s'.of.embeds.length e4,.int .i64 s'.at_,.int .i64 s'.pkg]) (by simp[results,results32,go_sem,r0,r1,r2,r3,r4,r5,r6,r7]) rfl ⟨[.int .i64 s'.of.kind,.int .i64 s'.of.num,.slice y1 s'.of.elem.length e1,.slice y2 s'.of.fields.length e2,.slice y3 s'.of.methods.length e3,.slice y4 s'.of.embeds.length e4],?_,?_,?_⟩
   ·rw[← Hu.out];simp
   ·rw[← Hu.out];exact htt
   ·exact bel
open Go.ChangeShapes Go.Deep
section
variable {H:Type} {enc:TypeId×Value→H} {P:Program} {w:World} {base:Nat} {spare:Nat→Bool} {held:Bool}
abbrev DP (H:Type):=DataW H×List MemPlace
theorem st2 {t:TypeId} {f0 f1:Field} {fuel:Nat} {cs:List Value} {x:DP H} (ht:P.underlying t=some (.struct #[f0,f1])) (h:DataW.trod enc P w base spare held fuel t cs=some x):
  ∃ (y0 y1:DP H) (n:Nat),fuel=n+1∧x.1 = .agg [y0.1,y1.1]∧cs.length=P.cellsOf t∧DataW.trod enc P w base spare held n f0.type ((cs.drop f0.offset).take (P.cellsOf f0.type))=some y0∧
   DataW.trod enc P w base spare held n f1.type ((cs.drop f1.offset).take (P.cellsOf f1.type))=some y1:=by
 obtain⟨xs,n,e,rfl,hl,hlen,hf⟩:=DataW.trod_struct ht h
 match xs,hlen with
 | [y0,y1],_=>exact⟨y0,y1,n,e,by simp,hl,by simpa using hf 0 f0 rfl,by simpa using hf 1 f1 rfl⟩
theorem st3 {t:TypeId} {f0 f1 f2:Field} {fuel:Nat} {cs:List Value} {x:DP H} (ht:P.underlying t=some (.struct #[f0,f1,f2])) (h:DataW.trod enc P w base spare held fuel t cs=some x):
  ∃ (y0 y1 y2:DP H) (n:Nat),fuel=n+1∧x.1 = .agg [y0.1,y1.1,y2.1]∧cs.length=P.cellsOf t∧DataW.trod enc P w base spare held n f0.type ((cs.drop f0.offset).take (P.cellsOf f0.type))=some y0∧
   DataW.trod enc P w base spare held n f1.type ((cs.drop f1.offset).take (P.cellsOf f1.type))=some y1∧DataW.trod enc P w base spare held n f2.type ((cs.drop f2.offset).take (P.cellsOf f2.type))=some y2:=by
 obtain⟨xs,n,e,rfl,hl,hlen,hf⟩:=DataW.trod_struct ht h
 match xs,hlen with
 | [y0,y1,y2],_=>exact⟨y0,y1,y2,n,e,by simp,hl,by simpa using hf 0 f0 rfl,by simpa using hf 1 f1 rfl,by simpa using hf 2 f2 rfl⟩
theorem st5 {t:TypeId} {f0 f1 f2 f3 f4:Field} {fuel:Nat} {cs:List Value} {x:DP H} (ht:P.underlying t=some (.struct #[f0,f1,f2,f3,f4])) (h:DataW.trod enc P w base spare held fuel t cs=some x):
  ∃ (y0 y1 y2 y3 y4:DP H) (n:Nat),fuel=n+1∧x.1 = .agg [y0.1,y1.1,y2.1,y3.1,y4.1]∧cs.length=P.cellsOf t∧DataW.trod enc P w base spare held n f0.type ((cs.drop f0.offset).take (P.cellsOf f0.type))=some y0∧
   DataW.trod enc P w base spare held n f1.type ((cs.drop f1.offset).take (P.cellsOf f1.type))=some y1∧DataW.trod enc P w base spare held n f2.type ((cs.drop f2.offset).take (P.cellsOf f2.type))=some y2∧
   DataW.trod enc P w base spare held n f3.type ((cs.drop f3.offset).take (P.cellsOf f3.type))=some y3∧DataW.trod enc P w base spare held n f4.type ((cs.drop f4.offset).take (P.cellsOf f4.type))=some y4:=by
 obtain⟨xs,n,e,rfl,hl,hlen,hf⟩:=DataW.trod_struct ht h
 match xs,hlen with
 | [y0,y1,y2,y3,y4],_=>exact⟨y0,y1,y2,y3,y4,n,e,by simp,hl,by simpa using hf 0 f0 rfl,by simpa using hf 1 f1 rfl,by simpa using hf 2 f2 rfl,by simpa using hf 3 f3 rfl,by simpa using hf 4 f4 rfl⟩
theorem st6 {t:TypeId} {f0 f1 f2 f3 f4 f5:Field} {fuel:Nat} {cs:List Value} {x:DP H} (ht:P.underlying t=some (.struct #[f0,f1,f2,f3,f4,f5])) (h:DataW.trod enc P w base spare held fuel t cs=some x):
  ∃ (y0 y1 y2 y3 y4 y5:DP H) (n:Nat),fuel=n+1∧x.1 = .agg [y0.1,y1.1,y2.1,y3.1,y4.1,y5.1]∧cs.length=P.cellsOf t∧DataW.trod enc P w base spare held n f0.type ((cs.drop f0.offset).take (P.cellsOf f0.type))=some y0∧
   DataW.trod enc P w base spare held n f1.type ((cs.drop f1.offset).take (P.cellsOf f1.type))=some y1∧DataW.trod enc P w base spare held n f2.type ((cs.drop f2.offset).take (P.cellsOf f2.type))=some y2∧
   DataW.trod enc P w base spare held n f3.type ((cs.drop f3.offset).take (P.cellsOf f3.type))=some y3∧DataW.trod enc P w base spare held n f4.type ((cs.drop f4.offset).take (P.cellsOf f4.type))=some y4∧
   DataW.trod enc P w base spare held n f5.type ((cs.drop f5.offset).take (P.cellsOf f5.type))=some y5:=by
 obtain⟨xs,n,e,rfl,hl,hlen,hf⟩:=DataW.trod_struct ht h
 match xs,hlen with
 | [y0,y1,y2,y3,y4,y5],_=>exact⟨y0,y1,y2,y3,y4,y5,n,e,by simp,hl,by simpa using hf 0 f0 rfl,by simpa using hf 1 f1 rfl,by simpa using hf 2 f2 rfl,by simpa using hf 3 f3 rfl,by simpa using hf 4 f4 rfl,by simpa using hf 5 f5 rfl⟩
theorem qjb {t e:TypeId} {n:Nat} {cs:List Value} {x:DP H} (ht:P.underlying t=some (.slice e)) (hc:0<P.cellsOf e) (h:DataW.trod enc P w base spare held n t cs=some x) {α:Type} (R:List Value→α→DataW H→Prop)
  (ih:∀ m cs y,m<n→DataW.trod enc P w base spare held m e cs=some y→∃ u,R cs u y.1):
  ∃ (a:Option Addr) (c:Nat) (l:List α) (ds rs:List (DataW H)),cs=[.slice a l.length c]∧l.length≤c∧(x.1 = .slice ds rs∨x.1 = .nil∧ds=[])∧ds.length=l.length∧
   ∀ (i:Nat) (hi:i<l.length) (hd:i<ds.length),∃ b o cs',a=some ⟨b,o,none⟩∧qat w b (o+i * P.cellsOf e) cs'∧R cs' l[i] ds[i]:=by
 rcases DataW.trod_slice ht h with ⟨rfl,rfl⟩|⟨a,len,cap,elems,rest,m,rfl,rfl,rfl,-,hlc,-,hel,hget,-⟩
 ·exact⟨none,0,[],[],[],rfl,zl _,.inr ⟨rfl,rfl⟩,rfl,fun i hi=>absurd hi (Nat.not_lt_zero _)⟩
 ·have h1:∀ i,∃ u:Option α,i<len→∃ v,u=some v∧∃ (hi:i<elems.length),∃ cs',w.cells? base (a.add (i * P.cellsOf e)) (P.cellsOf e)=some cs'∧R cs' v elems[i].1:=fun i=>by
   by_cases hi:i<len
   ·have h2:=hget i hi;have hi':i<elems.length:=by omega
    rw[zr hi'] at h2;obtain⟨cs',h3,h4⟩:=Option.bind_eq_some_iff.1 h2;obtain⟨u,hu⟩:=ih m cs' elems[i] (zw _) h4;exact⟨some u,fun _=>⟨u,rfl,hi',cs',h3,hu⟩⟩
   ·exact⟨none,fun h=>absurd h hi⟩
  obtain⟨f,hf⟩:=Classical.skolem.1 h1;have h2:∀ k,k≤len→∃ l:List α,l.length=k∧∀ i (hi:i<l.length),f i=some l[i]:=fun k=>by
   induction k with
   | zero=>intro _;exact⟨[],rfl,fun i hi=>absurd hi (Nat.not_lt_zero _)⟩
   | succ k ihk=>
    intro hk;obtain⟨l,h3,h4⟩:=ihk (by omega);obtain⟨v,h5,-⟩:=hf k (by omega);refine⟨l++[v],by simp[h3],fun i hi => ?_⟩;by_cases hik:i<l.length
    ·rw[List.getElem_append_left hik];exact h4 i hik
    ·have:i=k:=by simp at hi;omega
     subst this;rw[List.getElem_append_right (by omega)];simpa[h3] using h5
  obtain⟨l,h3,h4⟩:=h2 len (zl _);refine⟨some a,cap,l,elems.map (·.1),rest.map (·.1),by rw[h3],by omega,.inl rfl,by simp[h3,hel],fun i hi hd => ?_⟩;obtain⟨v,h5,hi',cs',h6,h7⟩:=hf i (by omega);rw[h4 i hi] at h5;cases h5;obtain⟨-,h8,h9⟩:=World.cells?_some h6;have hspot:a.spot=none:=by
   obtain⟨v0,-,-,cs0,h60,-⟩:=hf 0 (by omega);obtain⟨-,h80,h90⟩:=World.cells?_some h60;have h0:∃ u,w.cell? ((a.add (0 * P.cellsOf e)).add 0)=some u:=by
    rw[h90 0 hc];exact⟨cs0[0]'(by omega),zr _⟩
   obtain⟨u,hu⟩:=h0;simpa[Addr.add] using World.cell?_spot hu
  obtain⟨b,o,s⟩:=a;simp only at hspot;subst hspot;refine⟨b,o,cs',rfl,fun j u hj => ?_,by simpa using h7⟩;have hjl:j<P.cellsOf e:=by rw[← h8];exact(zjb.1 hj).1
  have:=h9 j hjl;rw[hj] at this;rw[Addr.add_lit,Addr.add_lit] at this;exact this
theorem ql1 {n:Int} (h:(Lit.int .i64 n).wf=true):i64 n:=by
 simp only[Lit.wf,Bool.and_eq_true,decide_eq_true_eq] at h;unfold i64;obtain⟨h1,h2⟩:=h;constructor
 ·exact h1
 ·exact h2
end
theorem c6:prog.cellsOf 29=6:=by kernel_rfl
theorem c8:prog.cellsOf 60=8:=by kernel_rfl
theorem c2:prog.cellsOf 84=2:=by kernel_rfl
theorem c10:prog.cellsOf 39=10:=by kernel_rfl
theorem ci:prog.cellsOf 3=1:=by kernel_rfl
theorem cb:prog.cellsOf 4=1:=by kernel_rfl
theorem cst:prog.cellsOf 25=1:=by kernel_rfl
theorem csf:prog.cellsOf 26=1:=by kernel_rfl
theorem csm:prog.cellsOf 27=1:=by kernel_rfl
theorem ub_pos {H:Type} (d:DataW H):1≤Rows.uptoBulk d:=by
 cases d with
 | lit l=>cases l <;> simp[Rows.uptoBulk]
 | _=>simp[Rows.uptoBulk]
theorem qxa {H:Type}:∀ l:List (DataW H),l.length≤Rows.uptoBulkAll l
 | []=>Nat.zero_le _
 | d::r=>by have:=qxa r;have:=ub_pos d;simp only[Rows.uptoBulkAll,List.length_cons];omega
theorem qqj {H:Type}:∀ (l:List Ty) (ds:List (DataW H)),ds.length=l.length→(∀ i (hi:i<l.length) (hd:i<ds.length),l[i].bulk≤Rows.uptoBulk ds[i])→qbt l≤Rows.uptoBulkAll ds
 | [],_,_,_=>Nat.zero_le _
 | t::r,d::ds,hl,h=>by
  have h1:=h 0 (by simp) (by simp);have h2:=qqj r ds (by simpa using hl) fun i hi hd=>h (i+1) (by simpa using hi) (by simpa using hd);change t.bulk≤Rows.uptoBulk d at h1;simp only[qbt,Rows.uptoBulkAll];omega
theorem qqf {H:Type}:∀ (l:List Fd) (ds:List (DataW H)),ds.length=l.length→(∀ i (hi:i<l.length) (hd:i<ds.length),1+l[i].of.bulk≤Rows.uptoBulk ds[i])→qcm l≤Rows.uptoBulkAll ds
 | [],_,_,_=>Nat.zero_le _
 | .mk n e t::r,d::ds,hl,h=>by
  have h1:=h 0 (by simp) (by simp);have h2:=qqf r ds (by simpa using hl) fun i hi hd=>h (i+1) (by simpa using hi) (by simpa using hd);change 1+t.bulk≤Rows.uptoBulk d at h1;simp only[qcm,Rows.uptoBulkAll];omega
theorem qq0 {H:Type}:∀ (l:Wd) (ds:List (DataW H)),ds.length=l.length→(∀ i (hi:i<l.length) (hd:i<ds.length),l[i].bulk≤Rows.uptoBulk ds[i])→qbw l≤Rows.uptoBulkAll ds
 | [],_,_,_=>Nat.zero_le _
 | t::r,d::ds,hl,h=>by
  have h1:=h 0 (by simp) (by simp);have h2:=qq0 r ds (by simpa using hl) fun i hi hd=>h (i+1) (by simpa using hi) (by simpa using hd);change t.bulk≤Rows.uptoBulk d at h1;simp only[qbw,Rows.uptoBulkAll];omega
theorem qjd {H:Type} {x:DataW H} {ds rs:List (DataW H)} {n k:Nat} (hx:x = .slice ds rs∨x = .nil∧ds=[]) (hk:k≤Rows.uptoBulkAll ds) (hn:ds=[]→k=0):k≤Rows.uptoBulk x:=by
 rcases hx with rfl|⟨rfl,rfl⟩
 ·simp only[Rows.uptoBulk];omega
 ·rw[hn rfl];exact Nat.zero_le _
theorem MsR.of {w:World} {a:Option Addr}:∀ (l:List Meth) (i:Nat),(∀ k (hk:k<l.length),∃ b o,a=some ⟨b,o,none⟩∧i64 l[k].name∧qat w b (o+(i+k) * 2) [.int .i64 l[k].name,.bool l[k].ptr])→MsR w a i l
 | [],_,_=>trivial
 | m::r,i,h=>⟨h 0 (by simp),MsR.of r (i+1) fun k hk=>by
   have:=h (k+1) (by simpa using hk);rw[show i+(k+1)=i+1+k by omega] at this;exact this⟩
theorem TysR.of {w:World} {a:Option Addr}:∀ (l:List Ty) (i:Nat),(∀ k (hk:k<l.length),∃ b o cs,a=some ⟨b,o,none⟩∧qat w b (o+(i+k) * 6) cs∧TyC w l[k] cs)→TysR w a i l
 | [],_,_=>by simp only[TysR]
 | t::r,i,h=>by
  simp only[TysR];exact⟨h 0 (by simp),TysR.of r (i+1) fun k hk=>by
   have:=h (k+1) (by simpa using hk);rw[show i+(k+1)=i+1+k by omega] at this;exact this⟩
theorem FdsR.of {w:World} {a:Option Addr}:∀ (l:List Fd) (i:Nat),(∀ k (hk:k<l.length),FdE w a (i+k) l[k])→FdsR w a i l
 | [],_,_=>by simp only[FdsR]
 | t::r,i,h=>by
  simp only[FdsR];exact⟨h 0 (by simp),FdsR.of r (i+1) fun k hk=>by
   have:=h (k+1) (by simpa using hk);rw[show i+(k+1)=i+1+k by omega] at this;exact this⟩
section
variable {H:Type} {enc:TypeId×Value→H} {w:World} {base:Nat} {spare:Nat→Bool} {held:Bool}
theorem open_m {n:Nat} {cs:List Value} {y:DP H} (h:DataW.trod enc prog w base spare held n 84 cs=some y):∃ m:Meth,i64 m.name∧cs=[.int .i64 m.name,.bool m.ptr]:=by
 obtain⟨y0,y1,k,rfl,hy,hl,h0,h1⟩:=st2 underlying84 h;rw[c2] at hl
 match cs,hl with
 | [v0,v1],_=>
  simp only[ci,cb,List.drop_zero,List.drop_succ_cons,List.take_succ_cons,List.take_zero] at h0 h1;obtain⟨z,e0,-,hw⟩:=DataW.trod_int underlying3 h0;obtain⟨b,e1,-⟩:=DataW.trod_bool underlying4 h1;cases e0;cases e1;exact⟨⟨z,b⟩,ql1 hw,rfl⟩
theorem qtn {n:Nat} {cs:List Value} {x:DP H} (h:DataW.trod enc prog w base spare held n 27 cs=some x):∃ (a:Option Addr) (c:Nat) (l:List Meth),cs=[.slice a l.length c]∧l.length≤c∧MsR w a 0 l∧l.length≤Rows.uptoBulk x.1:=by
 obtain⟨a,c,l,ds,rs,e,hc,hx,hd,hg⟩:=qjb underlying27 (by rw[c2];decide) h (fun cs (m:Meth) (_:DataW H)=>i64 m.name∧cs=[.int .i64 m.name,.bool m.ptr]) fun m cs y _ hy=>open_m hy;refine⟨a,c,l,e,hc,MsR.of l 0 fun k hk => ?_,?_⟩
 ·obtain⟨b,o,cs',e1,h1,h2,rfl⟩:=hg k hk (by omega);rw[c2] at h1;exact⟨b,o,e1,h2,by rw[Nat.zero_add];exact h1⟩
 ·exact qjd (n:=0) hx (by have:=qxa ds;omega) fun e=>by rw[e] at hd;exact hd.symm
def OpenT (enc:TypeId×Value→H) (w:World) (base:Nat) (spare:Nat→Bool) (held:Bool) (n:Nat):Prop:=∀ cs (x:DP H),DataW.trod enc prog w base spare held n 29 cs=some x→∃ t:Ty,TyC w t cs∧t.bulk≤Rows.uptoBulk x.1
theorem qqh {n:Nat} (ih:∀ m,m<n→OpenT enc w base spare held m) {cs:List Value} {x:DP H} (h:DataW.trod enc prog w base spare held n 25 cs=some x):∃ (a:Option Addr) (c:Nat) (l:List Ty),cs=[.slice a l.length c]∧l.length≤c∧TysR w a 0 l∧qbt l≤Rows.uptoBulk x.1:=by
 obtain⟨a,c,l,ds,rs,e,hc,hx,hd,hg⟩:=qjb underlying25 (by rw[c6];decide) h (fun cs (t:Ty) (d:DataW H)=>TyC w t cs∧t.bulk≤Rows.uptoBulk d) fun m cs y hm hy=>ih m hm cs y hy;refine⟨a,c,l,e,hc,TysR.of l 0 fun k hk => ?_,?_⟩
 ·obtain⟨b,o,cs',e1,h1,h2,-⟩:=hg k hk (by omega);rw[c6] at h1;exact⟨b,o,cs',e1,by rw[Nat.zero_add];exact h1,h2⟩
 ·refine qjd (n:=0) hx (qqj l ds hd fun i hi hd' => ?_) fun e => ?_
  ·obtain⟨b,o,cs',e1,h1,h2,h3⟩:=hg i hi hd';exact h3
  ·rw[e] at hd;rw[List.length_eq_zero_iff.1 hd.symm];rfl
theorem qv3 {n:Nat} (ih:∀ m,m<n→OpenT enc w base spare held m) {cs:List Value} {x:DP H} (h:DataW.trod enc prog w base spare held n 26 cs=some x):∃ (a:Option Addr) (c:Nat) (l:List Fd),cs=[.slice a l.length c]∧l.length≤c∧FdsR w a 0 l∧qcm l≤Rows.uptoBulk x.1:=by
 obtain⟨a,c,l,ds,rs,e,hc,hx,hd,hg⟩:=qjb underlying26 (by rw[c8];decide) h (fun cs (f:Fd) (d:DataW H)=>i64 f.name∧(∃ cs',cs = .int .i64 f.name :: .bool f.embedded::cs'∧TyC w f.of cs')∧1+f.of.bulk≤Rows.uptoBulk d) fun m cs y hm hy=>by
  obtain⟨y0,y1,y2,k,rfl,hy2,hl,h0,h1,h2⟩:=st3 underlying60 hy;rw[c8] at hl
  match cs,hl with
  | [v0,v1,u0,u1,u2,u3,u4,u5],_=>
   simp only[ci,cb,c6,List.drop_zero,List.drop_succ_cons,List.take_succ_cons,List.take_zero] at h0 h1 h2;obtain⟨z,e0,-,hw⟩:=DataW.trod_int underlying3 h0;obtain⟨b,e1,-⟩:=DataW.trod_bool underlying4 h1;obtain⟨t,h3,h4⟩:=ih k (by omega) _ _ h2;cases e0;cases e1;refine⟨.mk z b t,ql1 hw,⟨_,rfl,h3⟩,?_⟩;rw[hy2];simp only[Rows.uptoBulk,Rows.uptoBulkAll,Fd.of];omega
 refine⟨a,c,l,e,hc,FdsR.of l 0 fun k hk => ?_,?_⟩
 ·obtain⟨b,o,cs',e1,h1,h2,⟨cs2,rfl,h3⟩,-⟩:=hg k hk (by omega);rw[c8] at h1;rw[Nat.zero_add]
  generalize l[k]=f at h1 h2 h3
  obtain⟨z,b',t⟩:=f;simp only[FdE];exact⟨b,o,cs2,e1,h2,h1,h3⟩
 ·refine qjd (n:=0) hx (qqf l ds hd fun i hi hd' => ?_) fun e => ?_
  ·obtain⟨b,o,cs',e1,h1,h2,h3,h4⟩:=hg i hi hd';exact h4
  ·rw[e] at hd;rw[List.length_eq_zero_iff.1 hd.symm];rfl
theorem qsy (n:Nat):OpenT enc w base spare held n:=by
 induction n using Nat.strongRecOn with
 | ind n ih=>
  intro cs x h;obtain⟨y0,y1,y2,y3,y4,y5,k,rfl,hx,hl,h0,h1,h2,h3,h4,h5⟩:=st6 underlying29 h;rw[c6] at hl
  match cs,hl with
  | [v0,v1,v2,v3,v4,v5],_=>
   simp only[ci,cst,csf,csm,List.drop_zero,List.drop_succ_cons,List.take_succ_cons,List.take_zero] at h0 h1 h2 h3 h4 h5;obtain⟨z0,e0,-,hw0⟩:=DataW.trod_int underlying3 h0;obtain⟨z1,e1,-,hw1⟩:=DataW.trod_int underlying3 h1;obtain⟨a2,c2,l2,e2,hc2,hr2,hb2⟩:=qqh (fun m hm=>ih m (by omega)) h2;obtain⟨a3,c3,l3,e3,hc3,hr3,hb3⟩:=qv3 (fun m hm=>ih m (by omega)) h3;obtain⟨a4,c4,l4,e4,hc4,hr4,hb4⟩:=qtn h4;obtain⟨a5,c5,l5,e5,hc5,hr5,hb5⟩:=qqh (fun m hm=>ih m (by omega)) h5;cases e0;cases e1;cases e2;cases e3;cases e4;cases e5;refine⟨.mk z0 z1 l2 l3 l4 l5,?_,?_⟩
   ·simp only[TyC];exact⟨a2,c2,a3,c3,a4,c4,a5,c5,rfl,⟨hc2,hc3,hc4,hc5⟩,ql1 hw0,ql1 hw1,hr2,hr3,hr4,hr5⟩
   ·rw[hx];simp only[Rows.uptoBulk,Rows.uptoBulkAll,Ty.bulk];omega
theorem open_wd {n:Nat} {cs:List Value} {x:DP H} (h:DataW.trod enc prog w base spare held n 23 cs=some x):∃ (a:Option Addr) (c:Nat) (W:Wd),cs=[.slice a W.length c]∧W.length≤c∧WdR w a W∧qbw W≤Rows.uptoBulk x.1:=by
 obtain⟨a,c,l,ds,rs,e,hc,hx,hd,hg⟩:=qjb underlying23 (by rw[c10];decide) h (fun cs (d:Dc) (u:DataW H)=>DcC w d cs∧d.bulk≤Rows.uptoBulk u) fun m cs y hm hy=>by
  obtain⟨y0,y1,y2,y3,y4,k,rfl,hy2,hl,h0,h1,h2,h3,h4⟩:=st5 underlying39 hy;rw[c10] at hl
  match cs,hl with
  | [v0,v1,v2,u0,u1,u2,u3,u4,u5,v4],_=>
   simp only[ci,cb,c6,csm,List.drop_zero,List.drop_succ_cons,List.take_succ_cons,List.take_zero] at h0 h1 h2 h3 h4;obtain⟨z0,e0,-,hw0⟩:=DataW.trod_int underlying3 h0;obtain⟨z1,e1,-,hw1⟩:=DataW.trod_int underlying3 h1;obtain⟨b,e2,-⟩:=DataW.trod_bool underlying4 h2;obtain⟨t,h5,h6⟩:=qsy k _ _ h3;obtain⟨a4,c4,l4,e4,hc4,hr4,hb4⟩:=qtn h4;cases e0;cases e1;cases e2;cases e4;refine⟨⟨z0,z1,b,t,l4⟩,⟨_,a4,c4,rfl,hc4,ql1 hw0,ql1 hw1,h5,hr4⟩,?_⟩;rw[hy2];simp only[Rows.uptoBulk,Rows.uptoBulkAll,Dc.bulk];omega
 refine⟨a,c,l,e,hc,fun k hk => ?_,?_⟩
 ·obtain⟨b,o,cs',e1,h1,h2,h3⟩:=hg k hk (by omega);rw[c10] at h1;exact⟨b,o,cs',e1,h1,h2⟩
 ·refine qjd (n:=0) hx (qq0 l ds hd fun i hi hd' => ?_) fun e => ?_
  ·obtain⟨b,o,cs',e1,h1,h2,h3⟩:=hg i hi hd';exact h3
  ·rw[e] at hd;rw[List.length_eq_zero_iff.1 hd.symm];rfl
end
open Go.Shelf
structure Tabs (w:World):Prop where
 props : Lib.TabIs prog w "unicode.properties" .u8 Lib.propertiesTab
 utf:Lib.Utf8Tabs 5 6 w
 upper:Lib.RVar 1 Lib.upperT w
theorem qxb : prog.globalNamed "unicode.properties" = some 0 := by kernel_rfl
theorem Tabs.below {w W:World} (h:Tabs w) (hb:Below w.heap.size w W):Tabs W:=
 ⟨TabIs_below qxb h.props hb,Utf8Tabs_below h.utf hb,RVar_below h.upper hb⟩
theorem qt4:∀ k,k<16 → -2147483648≤(((Lib.decodeGo ⟨(nmB.getD k []).toArray⟩).1:Nat):Int)∧(((Lib.decodeGo ⟨(nmB.getD k []).toArray⟩).1:Nat):Int)≤2147483647∧Lib.isUpperU (((Lib.decodeGo ⟨(nmB.getD k []).toArray⟩).1:Nat):Int)=qay (k:Int):=by
 decide +kernel
theorem qcb (n:Int) (w:World) (h:IsNm n) (hT:Tabs w):Calls prog 85 #[.string (qas n)] w (qa2 (.bool (qay n)) w):=by
 obtain⟨h1,h2⟩:=h;obtain⟨k,rfl⟩:∃ k:Nat,n=k:=⟨n.toNat,by omega⟩;obtain⟨d1,d2,d3⟩:=qt4 k (by omega);have D3:=hid d3;clear d3;have HT:=hid hT;clear hT;have hn:qas (k:Int)=⟨(nmB.getD k []).toArray⟩:=by simp[qas]
 rw[hn]
 generalize (⟨(nmB.getD k []).toArray⟩:ByteArray)=s at *
 go_enter func85,ntmps85
 go_wp2_with (go_at_call 117;refine(Tryz.utf8_DecodeRuneInString _ _ HT.out.utf).mono ?_;rintro e w1 ⟨rfl,hb⟩)
 have hz:=zq hb;(try simp only[zd,qaa] at hz)
 go_wp2_with (go_at_call 118;refine(Tryz.unicode_IsUpper_all _ _ d1 d2 (HT.out.below hb).props (HT.out.below hb).upper).mono ?_;rintro e w2 ⟨rfl,hb2⟩)
 go_ret
 exact⟨by rw[D3.out];rfl,bel⟩
theorem qbq (n:Int) (w:World) (h:IsNm n):Calls prog 26 #[.int .i64 n] w (qa2 (.string (qas n)) w):=by
 have hv:=qtw n h;have HV:=hid hv;clear hv;obtain⟨h1,h2⟩:=h;go_enter func26,ntmps26
 go_wp2_with fail
 go_ret
 obtain⟨_,e⟩:=zjb.1 HV.out;exact⟨congrArg Ending.returned e,bel⟩
def qbo (p:Int):ByteArray:=⟨#[if p=0 then 112 else 113]⟩
theorem qj5 (b:Nat) (p n:Int) (w:World) (h:IsNm n) (hp:p=0∨p=1) (hT:Tabs w) (hc:w.cell? ⟨b,0,none⟩=some (.string (qbo p))):
  Calls prog 53 #[.pointer (some ⟨b,0,none⟩),.string (qas n)] w (qa2 (.string (idS p n)) w):=by
 have HT:=hid hT;clear hT;have Hn:=hid h;clear h;have hsz:=qlh n Hn.out;have hpz:(qbo p).size=1:=rfl;have hbb:=zj w _ hc;simp only at hbb;cases he:qay n with
 | true=>
  have He:=hid he;clear he;go_enter func53,ntmps53
  go_wp2_with (go_at_call 85;refine(qcb _ _ Hn.out HT.out).mono ?_;rintro e w1 ⟨rfl,hb⟩;rw[He.out])
  have hz:=zq hb;(try simp only[zd,qaa] at hz)
  go_wp2_with fail
  go_ret
  exact⟨by simp[idS,idL,He.out,qas],bel⟩
 | false=>
  have He:=hid he;clear he;have hne:(qbo p).toList.isEmpty=false:=by rcases hp with rfl|rfl <;> decide +kernel
  go_enter func53,ntmps53
  go_wp2_with (go_at_call 85;refine(qcb _ _ Hn.out HT.out).mono ?_;rintro e w1 ⟨rfl,hb⟩;rw[He.out];have hc1:=qac.below hb _ _ hc)
  go_ret
  exact⟨by rcases hp with rfl|rfl <;> simp[idS,idL,He.out,qas,qta,qbo,ByteArray.ext_iff],bel⟩
open Go.WideShapes Go.ChangeAt
theorem qmj {H:Type} {enc:TypeId×Value→H} {P:Program} {f:Func} {s:ChangeSpec} {apart fresh handsOn again:Bool} {W W':World} {args:Array Value} {v:Value} {ds gs:List (DataW H)} {before pa pv:List MemPlace}
  (hW:DataW.Whole enc P f.params.toList s.vars apart W args.toList ds gs before)
  (hres:∀ (b:Nat) (sp:Nat→Bool) (hd:Bool),DataW.TrodAll enc P W' b sp hd f.resultTypes.toList (v.resultList f.resultTypes.size) (s.fn H (ds++gs)).results [])
  (hargs:∀ sp:Nat→Bool,(∀ p∈before,sp p.block=true)→DataW.TrodAll enc P W' 0 sp true f.params.toList args.toList (s.fn H (ds++gs)).args pa)
  (hvars:∀ sp:Nat→Bool,(∀ p∈before,sp p.block=true)→DataW.TrodVars enc P W' sp s.vars (s.fn H (ds++gs)).vars pv)
  (hps:before=pa++pv) (hb:Below W.heap.size W W')
  (hok:∀ (j:Nat) (t:TypeId) (r:Value),f.resultTypes[j]?=some t→(v.resultList f.resultTypes.size)[j]?=some r→Value.okWide P W' .any 0 t r):
  s.post enc P f apart fresh handsOn again W args v W':=by
 have hold:∀ p∈before,(fun b=>decide (b<W.heap.size)) p.block=true:=fun p hp=>by simpa using hW.lt p hp
 have hlt:=hW.lt;refine⟨ds,gs,before,[],pa,pv,hW,hres _ _ _,hargs _ hold,hvars _ hold,World.keptBut_mono (fun p hp=>⟨hp,?_⟩) (hb.frame (·∈before)),fun _ => ?_⟩
 ·rw[hps,zib] at hp;exact Or.inr hp
 ·obtain⟨_,_,_,_,_,hz,hn⟩:=hW;refine⟨hok,_,_,([]++pa)++pv,⟨[]++pa,pv,trodAll_append (hargs _ (fun _ _=>rfl)) (hres _ _ _),hvars _ (fun _ _=>rfl),rfl,?_,?_⟩,?_⟩
  ·intro b off hp;have hm:MemPlace.cell b off∈before:=by rw[hps];simpa using hp
   rw[hb.frozen (p:=⟨b,off,none⟩) (hlt _ hm)];exact hz b off hm
  ·intro ha;have:=hn ha;rw[hps] at this;simpa using this
  ·intro p hp _;rw[hps];simpa using hp
theorem qpt {H:Type} {enc:TypeId×Value→H} {C:Checked} {os:Os} {f:FuncId} {fn:Func} {s:OpenSpec} {conds:List PathCond} {apart:Bool} {laid:List (String×DataW Unit)} (modest:Bool) (w0:World) (args:Array Value) (hos:w0.os=os)
  (hv:(w0.forCall (fun _ _=>0) ⟨#[],args,[]⟩).variablesZipB C.prog=true)
  (hr:((w0.forCall (fun _ _=>0) ⟨#[],args,[]⟩).heap.toList.drop C.prog.globals.size).take ((begin C.prog (fun _ _=>0) default).world.heap.size - C.prog.globals.size)=
   (begin C.prog (fun _ _=>0) default).world.heap.toList.drop C.prog.globals.size)
  (hok:Input.okWideB C.prog (w0.forCall (fun _ _=>0) ⟨#[],args,[]⟩) f ⟨#[],args,[]⟩=true)
  (hrow:s.preRow enc C.prog fn conds apart laid (w0.forCall (fun _ _=>0) ⟨#[],args,[]⟩).memory args):
  ∃ (w:World) (tape:Tape) (i:Input),w.os=os∧(w.forCall tape i).Shaped C.prog∧i.vars=[]∧Input.okWide C.prog (w.forCall tape i) .any w.heap.size f i∧
   s.preRow enc C.prog fn conds apart laid (w.forCall tape i).memory i.args∧({ modest:=modest }:Assume).holds C.prog (lone (Frame.enter C.prog f i.args .normal) [] (w.forCall tape i)):=
 ⟨w0,fun _ _=>0,⟨#[],args,[]⟩,hos,World.shaped_of_ZipB hv hr,(Input.okWide_of_okWideB (base:=0) hok).1,(Input.okWide_of_okWideB hok).2,hrow,by
  simp only[Assume.holds];exact⟨by simp,by simp,fun _=>Modest.zero,by simp,by simp⟩⟩
theorem own:ownKnob Tryz.prog.godebug=none:=by kernel_rfl
theorem Tryz.laidOutP:laidOutB Tryz.prog=true:=by kernel_rfl
theorem cl5:laidOutB Tryz.pinned.checked.prog=true:=by kernel_rfl
theorem cl6:mapsRowed Tryz.pinned.checked.prog=true:=by kernel_rfl
theorem qky {P:Program} {W:World} {name:String} {k:IntKind} {zs:List Int} {g:Nat} {t e:TypeId} {n:Nat}
  (hg:P.globalNamed name=some g) (hty:(P.globals[g]?).map (·.type)=some t) (ht:P.underlying t=some (.array n e)) (he:P.underlying e=some (.int k)) (hce:P.cellsOf e=1) (hct:P.cellsOf t=n)
  (h:Lib.VarReads P W name (Lib.tabData k zs)):Lib.TabIs P W name k zs:=by
 obtain⟨g',t',cs,fuel,p,hg',ht',hvar,hd⟩:=h;obtain rfl:=Option.some.inj (hg.symm.trans hg');obtain rfl:=Option.some.inj (hty.symm.trans ht');unfold Lib.TabIs;rw[hvar,← Lib.cells_of_tab ht he hce hct hd]
theorem qht {H:Type} {enc:TypeId×Value→H} {P:Program} (hl:laidOutB P=true) {W W':World} {sp':Nat→Bool}:∀ {ts:List TypeId} {vs:List Value} {ds:List (DataW H)} {ps:List MemPlace},
  (∀ t∈ts,P.readableRec t=true∧t<P.types.size)→DataW.TrodAll enc P W 0 (fun _=>true) true ts vs ds ps→(∀ p∈ps,W.sameAt W' p)→(∀ p∈ps,sp' p.block=true)→DataW.TrodAll enc P W' 0 sp' true ts vs ds ps
 | [],[],[],_,_,h,_,_=>h
 | t::ts,v::vs,d::ds,ps,ht,⟨p,q,h1,h2,e⟩,hs,hsp=>
  ⟨p,q,WideElems.Trod_stays hl (ht t (.head _)).1 (ht t (.head _)).2 h1 (fun x hx=>hs x (by rw[e];exact z7 _ hx)) (fun x hx=>hsp x (by rw[e];exact z7 _ hx)),
   qht hl (fun t h=>ht t (.tail _ h)) h2 (fun x hx=>hs x (by rw[e];exact zx _ hx)) (fun x hx=>hsp x (by rw[e];exact zx _ hx)),e⟩
section
variable {H:Type} {enc:TypeId×Value→H} {W:World} {base:Nat}
theorem argW {v:Value} {d:DataW H} {p:List MemPlace} (hv:Value.okWide Tryz.prog W .any base 23 v) (h:DataW.Trod enc Tryz.prog W 0 (fun _=>true) true 23 v d p):
  ∃ (a:Option Addr) (c:Nat) (Ws:Wd),v = .slice a Ws.length c∧Ws.length≤c∧WdR W a Ws∧qbw Ws≤Rows.uptoBulk d:=by
 obtain⟨a,l,c,rfl⟩:=okWide_slice Tryz.underlying23 hv;obtain⟨n,hn⟩:=h;obtain⟨a',c',Ws,e,h1,h2,h3⟩:=open_wd hn;have e':[Value.slice a l c]=[.slice a' Ws.length c']:=e;cases e';exact⟨_,_,Ws,rfl,h1,h2,h3⟩
end
theorem readT:Tryz.prog.readableRec 29=true∧29<Tryz.prog.types.size:=⟨by kernel_rfl,of_decide_eq_true (by kernel_rfl)⟩
theorem readW:Tryz.prog.readableRec 23=true∧23<Tryz.prog.types.size:=⟨by kernel_rfl,of_decide_eq_true (by kernel_rfl)⟩
theorem readI:Tryz.prog.readableRec 3=true∧3<Tryz.prog.types.size:=⟨by kernel_rfl,of_decide_eq_true (by kernel_rfl)⟩
theorem readB:Tryz.prog.readableRec 4=true∧4<Tryz.prog.types.size:=⟨by kernel_rfl,of_decide_eq_true (by kernel_rfl)⟩
theorem qr5 {W : World} (h1 : Lib.VarReads Tryz.prog W "unicode/utf8.acceptRanges" Lib.acceptData) (h2 : Lib.VarReads Tryz.prog W "unicode.properties" (Lib.tabData .u8 Lib.propertiesTab)) (h3 : Lib.VarReads Tryz.prog W "unicode.Upper" (Lib.rtabData Lib.upperT)) (h4 : Lib.VarReads Tryz.prog W "unicode/utf8.first" Lib.firstData) : Tabs W := by
 refine⟨qky qxb (t:=287) (e:=5) (n:=256) (by kernel_rfl) (by kernel_rfl) (by kernel_rfl) (by kernel_rfl) (by kernel_rfl) h2,?_,?_⟩
 ·exact utf8Tabs_of_reads Tryz.lays260 ⟨by kernel_rfl,by kernel_rfl,by kernel_rfl,by kernel_rfl,by kernel_rfl,by kernel_rfl,by kernel_rfl⟩ h4 h1
 ·exact rvar_of_reads Tryz.lays261 ⟨by kernel_rfl,by kernel_rfl,by kernel_rfl,by kernel_rfl,by kernel_rfl,by kernel_rfl,by kernel_rfl,by kernel_rfl⟩ (by kernel_rfl) (by kernel_rfl) h3
open Go.Lib
def qca (w w':World):Prop:=∃ q os,w'=Sort.grow (w.drewN q) os
theorem qca.drew (w:World) (q:Nat):qca w (w.drewN q):=⟨q,#[],by rw[Sort.grow_empty]⟩
theorem qca.refl (w:World):qca w w:=qca.drew w 0
theorem qca.trans {a b c:World} (h:qca a b) (k:qca b c):qca a c:=by
 obtain⟨q,os,rfl⟩:=h;obtain⟨q',os',rfl⟩:=k;refine⟨q+q',os++os',?_⟩;simp[Sort.grow,World.drewN,Nat.add_assoc]
theorem qca.alloc (w:World) (o:Obj):qca w (w.alloc o):=⟨0,#[o],by rw[Sort.alloc_eq_grow];rfl⟩
theorem qca.below {w w':World} (h:qca w w'):Below w.heap.size w w':=by
 obtain⟨q,os,rfl⟩:=h;exact⟨rfl,rfl,rfl,by simp[Sort.grow,World.drewN],fun k hk=>Sort.heap_grow_old (w.drewN q) os hk⟩
theorem slow2 (s:ByteArray) (x0 x1:UInt8) (hs:s.size=2) (h0:s[0]'(by omega)=x0) (h1:s[1]'(by omega)=x1) (hx:x0=195∧x1=169∨x0=195∧x1=137∨x0=199∧x1=133) (w:World) (hT:Lib.Utf8Tabs 5 6 w):
  Calls prog 146 #[.string s] w fun e w'=>e = .returned (.tuple #[.int .i32 ((x0.toNat % 32 * 64+x1.toNat % 64:Nat)),.int .i64 2])∧qca w w':=by
 have ha0:=(hT.2 0 (by omega)).1;have ha1:=(hT.2 0 (by omega)).2;have hz:(s.size:Int)=2:=by omega
 have hc0:=hT.1 x0.toNat x0.toNat_lt;clear hT;rcases hx with ⟨rfl,rfl⟩|⟨rfl,rfl⟩|⟨rfl,rfl⟩
 all_goals
  simp[Lib.firstT,Lib.accLo,Lib.accHi] at hc0 ha0 ha1;go_enter func146,ntmps146
  go_wp2
  go_ret2
  exact⟨rfl,qca.alloc _ _⟩
theorem slow3 (s:ByteArray) (hs:s.size=3) (h0:s[0]'(by omega)=228) (h1:s[1]'(by omega)=184) (h2:s[2]'(by omega)=150) (w:World) (hT:Lib.Utf8Tabs 5 6 w):
  Calls prog 146 #[.string s] w fun e w'=>e = .returned (.tuple #[.int .i32 19990,.int .i64 3])∧qca w w':=by
 have ha0:=(hT.2 0 (by omega)).1;have ha1:=(hT.2 0 (by omega)).2;have hz:(s.size:Int)=3:=by omega
 have hc0:=hT.1 228 (by omega);clear hT;simp[Lib.firstT,Lib.accLo,Lib.accHi] at hc0 ha0 ha1;go_enter func146,ntmps146
 go_wp2
 go_ret2
 exact⟨rfl,qca.alloc _ _⟩
theorem excl_x (Tb oT:Nat) (r:Int) (w:World) (hr:256≤r∧r≤65000) (hA:RTabAt Tb oT upperT w):
  Calls prog 147 #[.pointer (some ⟨Tb,oT,none⟩),.int .i32 r] w fun e w'=>e = .returned (.bool (exclGo upperT r))∧∃ q,w'=w.drewN q:=by
 obtain⟨a16,a32,R16,o16,c16,R32,o32,c32,k0,k1,k2,ha16,ha32,hT16,hT32,hc16⟩:=hA;obtain⟨ok16,ok32,hn16,hn32,hL32,hoff⟩:=upperT_ok;have hw16:=wrap16_of r;unfold exclGo;obtain⟨U,hU⟩:∃ U,u32Of r=U:=⟨_,rfl⟩;have hUz:r % 4294967296=(U:Int):=by rw[← hU];unfold u32Of;omega
 have hUle:U≤65000:=by omega
 rw[hU] at hw16 ⊢;have hs:upperT.off<upperT.r16.size:=of_decide_eq_true (by kernel_rfl);obtain⟨HL,hHL⟩:∃ HL,(upperT.r16.getD (upperT.r16.size - 1) (0,0,0)).2.1=HL:=⟨_,rfl⟩;have hHLv:65000≤HL:=by rw[← hHL];exact of_decide_eq_true (by kernel_rfl)
 rw[hHL,if_pos ⟨hs,by omega⟩]
 generalize upperT=T at *
 obtain rfl:=ha16 (by omega);have hz1:(T.off:Int)<(T.r16.size:Int):=by omega
 obtain⟨-,cH,-⟩:=hT16 (T.r16.size - 1) (by omega);have hHLb:=(ok16 (T.r16.size - 1) (by omega)).2.1;rw[hHL] at cH hHLb;have hHLz:(HL:Int) % 4294967296=(HL:Int):=by omega
 have hlez:(U:Int)≤(HL:Int):=by omega
 have hsz:(T.r16.extract T.off T.r16.size).size=T.r16.size - T.off:=by simp[Array.size_extract]
 have c16c:=Tryz.unicode_is16_any (T.r16.extract T.off T.r16.size) R16 (o16+T.off * 3) (c16 - T.off) (U % 65536) w (by omega) (RgTab_extract hT16 T.off (by omega)) (RgOk_extract ok16 T.off) (by omega);rw[hsz] at c16c;go_enter func147,ntmps147
 go_wp2_with (go_at_call 172;refine c16c.mono ?_;rintro e w' ⟨rfl,q,rfl⟩)
 all_goals (go_ret;exact⟨rfl,_,rfl⟩)
theorem upper_x (r:Int) (w:World) (hr:0≤r∧r≤65000) (hT:Tabs w):Calls prog 118 #[.int .i32 r] w fun e w'=>e = .returned (.bool (isUpperU r))∧∃ q,w'=w.drewN q:=by
 by_cases h:r≤255
 ·obtain⟨k,rfl⟩:∃ k:Nat,r=k:=⟨r.toNat,by omega⟩;refine(Tryz.unicode_IsUpper k w (by omega) hT.props).mono ?_;rintro e w' ⟨rfl,rfl⟩;exact⟨by simp[isUpperU,latin1,hr.1,h],0,rfl⟩
 ·obtain⟨Tb,oT,h1,h2⟩:=hT.upper;have H2:=hid h2;clear h2 hT;have hn:¬ (r % 4294967296≤255):=by omega
  have he:isUpperU r=exclGo upperT r:=by
   unfold isUpperU;rw[if_neg];simp[latin1];omega
  rw[he];clear he;go_enter func118,ntmps118
  go_wp2_with (go_at_call 147;refine(excl_x Tb oT r _ ⟨by omega,hr.2⟩ H2.out).mono ?_;rintro e w' ⟨rfl,q,rfl⟩)
  go_ret
  exact⟨rfl,_,rfl⟩
def Blk (w:World) (b:Nat) (T:TypeId) (cs:List Value):Prop:=w.heap[b]?=some (.cells cs.toArray T)
theorem Blk.lt {w:World} {b:Nat} {T:TypeId} {cs:List Value} (h:Blk w b T cs):b<w.heap.size:=(zab.1 h).1
theorem Blk.cell {w:World} {b:Nat} {T:TypeId} {cs:List Value} (h:Blk w b T cs) (j:Nat):w.cell? ⟨b,j,none⟩=cs[j]?:=by
 unfold Blk at h;simp[World.cell?,h]
theorem Blk.soft {w:World} {b:Nat} {T:TypeId} {cs:List Value} (h:Blk w b T cs) (j:Nat):w.frozen? ⟨b,j,none⟩=false:=by
 unfold Blk at h;simp[World.frozen?,h]
theorem Blk.cells {w:World} {b:Nat} {T:TypeId} {cs:List Value} (h:Blk w b T cs):qat w b 0 cs:=by
 intro j v hv;rw[Nat.zero_add,h.cell];exact hv
theorem Blk.set {w:World} {b:Nat} {T:TypeId} {cs:List Value} (h:Blk w b T cs) (j:Nat) (v:Value):Blk (w.setCell ⟨b,j,none⟩ v) b T (cs.set j v):=by
 unfold Blk at *;simp only[World.setCell,Array.getElem?_modify,if_true,h];simp
theorem Blk.other {w:World} {b:Nat} {T:TypeId} {cs:List Value} (h:Blk w b T cs) {a:Addr} (ha:b≠a.block) (v:Value):Blk (w.setCell a v) b T cs:=by
 unfold Blk at *;rw[Below.heap_setCell _ _ _ _ ha];exact h
theorem Blk.alloc {w:World} {b:Nat} {T:TypeId} {cs:List Value} (h:Blk w b T cs) (O:Obj):Blk (w.alloc O) b T cs:=by
 have hl:=h.lt;unfold Blk at *;rw[Below.heap_alloc _ _ _ hl];exact h
theorem Blk.new (w:World) (T:TypeId) (cs:List Value):Blk (w.alloc (.cells cs.toArray T)) w.heap.size T cs:=by
 unfold Blk;show(w.heap.push _)[w.heap.size]?=_;exact Array.getElem?_push_size
theorem Blk.drew {w:World} {b:Nat} {T:TypeId} {cs:List Value} (h:Blk w b T cs):Blk w.drew b T cs:=h
theorem Blk.below {w w':World} {B b:Nat} {T:TypeId} {cs:List Value} (h:Blk w b T cs) (hb:Below B w w') (hB:b<B):Blk w' b T cs:=by
 unfold Blk at *;rw[hb.block b hB];exact h
theorem Blk.keep {w w':World} {b:Nat} {T:TypeId} {cs:List Value} (h:Blk w b T cs) (hb:Below w.heap.size w w'):Blk w' b T cs:=h.below hb h.lt
def qbh (l:List Nat):List Value:=l.map fun(n:Nat)=>Value.int .i64 (n:Int)
theorem quc (l:List Nat):(qbh l).length=l.length:=by simp[qbh]
theorem qh3 (l:List Nat) (j:Nat):(qbh l)[j]?=l[j]?.map fun(n:Nat)=>Value.int .i64 (n:Int):=by simp[qbh]
theorem qoa (l:List Nat) (j n:Nat):(qbh l).set j (.int .i64 n)=qbh (l.set j n):=by simp[qbh,List.map_set]
mutual
theorem qbn (W:Wd) (e:Int):∀ (val:Bool) (t:Ty),qam W e val t→t.clo W.length
 | val,.mk k n el fs ms em,hf=>by
  simp only[qam] at hf;rcases hf with ⟨rfl,rfl,rfl,rfl,rfl,-⟩|⟨rfl,rfl,rfl,rfl,rfl,h0,h1,h2⟩|⟨hk,rfl,rfl,rfl,rfl,h1⟩|⟨rfl,rfl,rfl,rfl,rfl,h1⟩|⟨rfl,rfl,rfl,rfl,-,h1⟩
  ·simp[Ty.clo,cloT,cloF]
  ·simp only[Ty.clo,cloT,cloF,and_true];exact fun _=>⟨h0,h1⟩
  ·simp only[Ty.clo,cloF,cloT,and_true];exact⟨fun hk1=>by omega,qp2 W e el h1⟩
  ·simp only[Ty.clo,cloT,and_true,true_and];exact⟨fun hk1=>by omega,qjk W e val fs h1⟩
  ·simp only[Ty.clo,cloT,cloF,true_and];exact⟨fun hk1=>by omega,qjl W e em h1⟩
theorem qp2 (W:Wd) (e:Int):∀ (l:List Ty),qc5 W e l→cloT W.length l
 | [],hf=>by simp[cloT]
 | t::r,hf=>by
  simp only[qc5] at hf;obtain⟨rfl,hf⟩:=hf;simp only[cloT,and_true];exact qbn W e false t hf
theorem qjk (W:Wd) (e:Int):∀ (val:Bool) (l:List Fd),qby W e val l→cloF W.length l
 | val,[],hf=>by simp[cloF]
 | val,.mk n em t::r,hf=>by
  simp only[qby] at hf;simp only[cloF];exact⟨qbn W e val t hf.1.2.2,qjk W e val r hf.2⟩
theorem qjl (W:Wd) (e:Int):∀ (l:List Ty),qbi W e l→cloT W.length l
 | [],hf=>by simp[cloT]
 | t::r,hf=>by
  simp only[qbi] at hf;simp only[cloT];exact⟨qbn W e true t hf.1.2,qjl W e r hf.2⟩
end
