import Derived.Test.YtmfhclggkjjcdaaGreatDoorL01
import Derived.Orders
set_option linter.all false
namespace Go.Proofs.YtmfhclggkjjcdaaGreatDoor
open Go Go.RowKit
namespace MixR
class RelOk (R:World→World→Prop):Prop where
 keep:∀ w W W',R w W→Below W.heap.size W W'→R w W'
 size:∀ w W,R w W→w.heap.size≤W.heap.size
variable {R:World→World→Prop} [RelOk R] {P:Program} {ops:Array Oper} {Q:Exit→Act→World→Prop}
def Runs (P:Program) (post:Value→World→Prop):Result Next→Prop
 | .ok (.value v) w=>post v w
 | .ok .skip w=>post undef w
 | .ok (.enter f args) w=>Calls P f args w fun e w'=>∃ v,e = .returned v∧post v w'
 | .ok (.row row args) w=>Rows P row args w post
 | _=>False
def Still (P:Program) (W:World) (v:Value):Result Next→Prop
 | .ok (.value u) w=>u=v∧w=W
 | .ok .skip w=>v=undef∧w=W
 | .ok (.enter f args) w=>w=W∧Calls P f args w fun e w'=>e = .returned v∧Below W.heap.size W w'
 | _=>False
attribute [go_sem] Runs Still
theorem Runs.mono {p q:Value→World→Prop} (h:∀ v w,p v w→q v w) {r:Result Next} (hr:Runs P p r):Runs P q r:=by
 cases r with
 | ok n w=>cases n <;> simp only[Runs] at hr ⊢ <;> first
  | exact h _ _ hr
  | exact Calls.mono hr fun e w' ⟨v,he,hp⟩=>⟨v,he,h _ _ hp⟩
  | exact Rows.mono hr h
 | halt x w=>simp only[Runs] at hr
theorem Still.runs {W:World} {v:Value} {r:Result Next} (h:Still P W v r):Runs P (fun u w=>u=v∧Below W.heap.size W w) r:=by
 cases r with
 | ok n w=>
  cases n <;> simp only[Still] at h <;> simp only[Runs]
  case value u=>exact⟨h.1,h.2 ▸ zp _ _⟩
  case skip=>exact⟨h.1.symm,h.2 ▸ zp _ _⟩
  case enter f args=>exact h.2.mono fun e w' ⟨he,hb⟩=>⟨v,he,rfl,hb⟩
 | halt x w=>simp only[Still] at h
theorem qof {o:Oper} {a:Act} {next:Act→World→Prop} {r:Result Next} (h:Runs P (fun v w=>next (a.put o.dst v) w) r):o.upon P a next Q r:=by
 cases r with
 | ok n w=>
  cases n <;> simp only[Runs] at h <;> simp only[Oper.upon]
  case value u=>exact h
  case skip=>exact h
  case enter f args=>exact h.mono fun e w' ⟨v,he,hb⟩=>by subst he;exact hb
  case row row args=>exact h
 | halt x w=>simp only[Runs] at h
def wpPre (R:World→World→Prop) (P:Program) (ops:Array Oper) (w:World) (K:Act→Prop):List Nat→Act→Prop
 | [],a=>K a
 | i::r,a=>∃ o,ops[i]?=some o∧
   ((Region.wanted o (yielded ops a.tmps)=true∧∃ v,(∀ W,R w W→Still P W v ((execOp a.eval o).run P W))∧wpPre R P ops w K r (a.put o.dst v))∨
     (Region.wanted o (yielded ops a.tmps)=false∧wpPre R P ops w K r (a.put o.dst undef)))
structure Made where
 obj:Obj
 val:Nat→Value
 deriving Inhabited
def wpMid (R:World→World→Prop) (P:Program) (ops:Array Oper) (w:World) (M:Nat→Made) (K:Act→World→Prop):List Nat→List (Nat×Bool)→Act→World→Prop
 | _,[],a,W=>K a W
 | us,(i,true)::r,a,W=>∃ o,ops[i]?=some o∧∀ b W',Below W.heap.size W W'→W'.heap[b]?=some (M i).obj→w.heap.size≤b→b ∉ us→
   wpMid R P ops w M K (b::us) r (a.put o.dst ((M i).val b)) W'
 | us,(i,false)::r,a,W=>∃ o,ops[i]?=some o∧
   ((Region.wanted o (yielded ops a.tmps)=true∧Runs P (fun v W'=>R w W'∧(W.heap.size≤W'.heap.size∧∀ k,w.heap.size≤k→k<W.heap.size→k ∉ us→W'.heap[k]?=W.heap[k]?)∧
     ∃ new:List Nat,(∀ k∈new,W.heap.size≤k∧k<W'.heap.size)∧∀ W'',Below W'.heap.size W' W''→wpMid R P ops w M K (new++us) r (a.put o.dst v) W'') ((execOp a.eval o).run P W))∨
     (Region.wanted o (yielded ops a.tmps)=false∧wpMid R P ops w M K us r (a.put o.dst undef) W))
def edg (ops:Array Oper) (i:Nat):List Nat:=
 match ops[i]? with
 | some o=>(o.after.toList.filter (Region.binds .any)).map (·.on)
 | none=>[]
def cloE (ops:Array Oper):Nat→Nat→List Nat
 | 0,i=>edg ops i
 | n+1,i=>edg ops i++(edg ops i).flatMap (cloE ops n)
def qfq (ops:Array Oper) (pre:List Nat):Option Nat→List Nat→List Nat→List (Nat×Bool)→Bool
 | _,_,_,[]=>true
 | prev,fl,seen,(f,true)::r=>qfq ops pre prev (f::fl) (f::seen) r
 | prev,fl,seen,(c,false)::r=>
  (edg ops c).all (fun e=>pre.contains e||seen.contains e)&&prev.all (fun p=>(edg ops c).contains p)&&fl.all (fun f=>(edg ops c).contains f)&&
   qfq ops pre (some c) [] (c::seen) r
def qi4 (ops:Array Oper):List Nat→List Nat→List Nat→Bool
 | _,_,[]=>true
 | fr,before,t::r=>before.all (fun e=>fr.contains e||(cloE ops 3 t).contains e)&&(edg ops t).all (fun e=>before.contains e)&&qi4 ops [] (before++[t]) r
def qdy (ops:Array Oper) (i:Nat):Option Tmp:=(ops[i]?).bind (·.dst)
def qej (ops:Array Oper) (i:Nat):List Tmp:=match ops[i]? with|some o=>o.looksAt ops|none=>[]
def qfx:List Nat→Bool
 | []=>true
 | a::r=>!r.contains a&&qfx r
def okB (ops:Array Oper) (fr:List Nat) (pre:List Nat) (mid:List (Nat×Bool)) (tail:List Nat):Bool:=
 let all:=pre++(mid.map Prod.fst++tail)
 decide (fr.length≤1)&&fr.all (fun f=>pre.contains f)&&(fr.isEmpty||tail.head?.all fun t=>(qdy ops t).isNone)&&
 qfx all&&all.all (fun i=>decide (i<ops.size))&&(List.range ops.size).all (fun i=>all.contains i)&&
 pre.all (fun i=>(edg ops i).all fun e=>pre.contains e&&decide (e<i))&&
 mid.all (fun x=>!x.2||(edg ops x.1).all fun e=>pre.contains e)&&
 qfq ops pre none [] [] mid&&qi4 ops fr (pre++mid.map Prod.fst) tail&&
 all.all (fun i=>all.all fun j=>i==j||!(match qdy ops i with|some d=>qdy ops j==some d|none=>false))&&
 all.all (fun i=>all.all fun j=>match qdy ops j with
  | some d=>!(qej ops i).contains d||(!(i==j)&&((edg ops i).contains j||(edg ops j).contains i))
  | none=>true)&&
 all.all (fun i=>!(pre.contains i||mid.contains (i,true))||pre.all fun j=>match qdy ops j with
  | some d=>!(qej ops i).contains d||(edg ops i).contains j
  | none=>true)&&
 ops.all (fun o=>match o.op with | .select ..=>false|_=>true)
structure Ok (ops:Array Oper) (fr:List Nat) (pre:List Nat) (mid:List (Nat×Bool)) (tail:List Nat):Prop where
 frL:fr.length≤1
 frP:∀ f∈fr,f∈pre
 frT:fr≠[]→∀ t r,tail=t::r→qdy ops t=none
 nd:qfx (pre++(mid.map Prod.fst++tail))=true
 inR:∀ i∈pre++(mid.map Prod.fst++tail),i<ops.size
 cover:∀ i,i<ops.size→i∈pre++(mid.map Prod.fst++tail)
 preE:∀ i∈pre,∀ e∈edg ops i,e∈pre∧e<i
 flE:∀ i,(i,true)∈mid→∀ e∈edg ops i,e∈pre
 chain:qfq ops pre none [] [] mid=true
 tailE:qi4 ops fr (pre++mid.map Prod.fst) tail=true
 dsts:∀ i j d,i<ops.size→j<ops.size→qdy ops i=some d→qdy ops j=some d→i=j
 looks:∀ i j d,i<ops.size→j<ops.size→d∈qej ops i→qdy ops j=some d→i≠j∧(j∈edg ops i∨i∈edg ops j)
 looksP:∀ i j d,(i∈pre∨(i,true)∈mid)→j∈pre→d∈qej ops i→qdy ops j=some d→j∈edg ops i
 noSel:∀ (i:Nat) (o:Oper) cs b,ops[i]?=some o→o.op ≠ .select cs b
theorem ok_of {fr pre:List Nat} {mid:List (Nat×Bool)} {tail:List Nat} (h:okB ops fr pre mid tail=true):Ok ops fr pre mid tail:=by
 unfold okB at h;simp only[Bool.and_eq_true] at h;obtain⟨⟨⟨⟨⟨⟨⟨⟨⟨⟨⟨⟨⟨hd0,hf0⟩,ht0⟩,h1⟩,h2⟩,h3⟩,h4⟩,h5⟩,h6⟩,h7⟩,h8⟩,h9⟩,h10⟩,h11⟩:=h;have inR:∀ i∈pre++(mid.map Prod.fst++tail),i<ops.size:=fun i hi=>by simpa using zhb.1 h2 i hi
 have cover:∀ i,i<ops.size→i∈pre++(mid.map Prod.fst++tail):=fun i hi=>by
  have:=zhb.1 h3 i (List.mem_range.2 hi);exact List.contains_iff_mem.1 this
 refine⟨of_decide_eq_true hd0,fun f hf=>List.contains_iff_mem.1 (zhb.1 hf0 f hf),fun hne t r ht => ?_,h1,inR,cover,?_,?_,h6,h7,?_,?_,?_,?_⟩
 ·subst ht;simp only[Bool.or_eq_true,List.isEmpty_iff,List.head?_cons,Option.all_some,Option.isNone_iff_eq_none] at ht0;exact ht0.resolve_left hne
 ·intro i hi e he;have:=zhb.1 (zhb.1 h4 i hi) e he;simp only[Bool.and_eq_true,decide_eq_true_eq,List.contains_iff_mem] at this;exact this
 ·intro i hi e he;have:=zhb.1 h5 (i,true) hi;simp only[Bool.not_true,Bool.false_or] at this;exact List.contains_iff_mem.1 (zhb.1 this e he)
 ·intro i j d hi hj hdi hdj;have:=zhb.1 (zhb.1 h8 i (cover i hi)) j (cover j hj);simp only[hdi,hdj,beq_self_eq_true,Bool.not_true,Bool.or_false,beq_iff_eq] at this;exact this
 ·intro i j d hi hj hl hd;have:=zhb.1 (zhb.1 h9 i (cover i hi)) j (cover j hj);simp only[hd] at this;have hc:(qej ops i).contains d=true:=List.contains_iff_mem.2 hl;simp only[hc,Bool.not_true,Bool.false_or,Bool.and_eq_true,Bool.not_eq_true',beq_eq_false_iff_ne,Bool.or_eq_true,List.contains_iff_mem] at this;exact this
 ·intro i j d hi hj hl hd;have hin:i<ops.size:=by
   rcases hi with hi|hi
   ·exact inR i (z7 _ hi)
   ·exact inR i (zx _ (z7 _ (zkb.2 ⟨_,hi,rfl⟩)))
  have:=zhb.1 h10 i (cover i hin);have hc:(pre.contains i||mid.contains (i,true))=true:=by
   rcases hi with hi|hi
   ·rw[Bool.or_eq_true];exact .inl (List.contains_iff_mem.2 hi)
   ·rw[Bool.or_eq_true];exact .inr (List.contains_iff_mem.2 hi)
  simp only[hc,Bool.not_true,Bool.false_or] at this;have:=zhb.1 this j hj;simp only[hd] at this;have hc:(qej ops i).contains d=true:=List.contains_iff_mem.2 hl;simp only[hc,Bool.not_true,Bool.false_or,List.contains_iff_mem] at this;exact this
 ·intro i o cs b ho hsel;have hlt:=(zab.1 ho).1;have:=(Array.all_eq_true.1 h11) i hlt;rw[(zab.1 ho).2,hsel] at this;simp at this
theorem qhu {o:Oper} {a a':Act} (hs:∀ cs b,o.op ≠ .select cs b) (h:∀ s∈o.looksAt ops,a.tmps[s]?=a'.tmps[s]?):
  execOp a.eval o=execOp a'.eval o∧Region.wanted o (yielded ops a.tmps)=Region.wanted o (yielded ops a'.tmps):=by
 constructor
 ·refine execOp_congr o hs fun x hx => ?_;cases x with
  | tmp t=>
   have:=h t (z7 _ (List.mem_filterMap.2 ⟨.tmp t,by simpa using hx,rfl⟩));simp only[Act.eval,Array.getD_eq_getD_getElem?,this]
  | _=>rfl
 ·unfold Region.wanted;cases hg:o.guard with
  | none=>rfl
  | some g=>
   obtain⟨j,want⟩:=g;have:yielded ops a.tmps j=yielded ops a'.tmps j:=by
    unfold yielded;cases hj:(ops[j]?).bind (·.dst) with
    | none=>rfl
    | some d=>
     have:=h d (zx _ (by simp[hg,hj]));simp only[Option.bind_some,this]
   simp only[this]
theorem qcx (a:Act) (dst:Option Tmp) (v:Value) (s:Nat):(a.put dst v).tmps[s]?=if dst=some s then(if s<a.tmps.size then some v else none) else a.tmps[s]?:=by
 cases dst with
 | none=>simp[Act.put]
 | some d=>
  by_cases h:d=s
  ·subst h;simp[Act.put,Array.getElem?_setIfInBounds]
  ·have:(some d=some s)=False:=by simp[h]
   simp only[this,if_false,Act.put,Array.getElem?_setIfInBounds_ne h]
theorem qcw (a:Act) (dst:Option Tmp) (v:Value):(a.put dst v).tmps.size=a.tmps.size:=by cases dst <;> simp[Act.put]
theorem qdj (a:Act) (dst:Option Tmp) (v:Value):(a.put dst v).defers=a.defers:=by cases dst <;> rfl
structure Flat (R:World→World→Prop) (P:Program) (ops:Array Oper) (w:World) (ap:Act) (i:Nat) (o:Oper) (v:Value):Prop where
 at_:∀ d,o.dst=some d→d<ap.tmps.size→ap.tmps[d]?=some v
 run:(Region.wanted o (yielded ops ap.tmps)=true∧∀ W,R w W→Still P W v ((execOp ap.eval o).run P W))∨(Region.wanted o (yielded ops ap.tmps)=false∧v=undef)
theorem qdm {i:Nat} {o:Oper} (h:ops[i]?=some o):qdy ops i=o.dst:=by simp[qdy,h]
theorem qgs {i:Nat} {o:Oper} (h:ops[i]?=some o):qej ops i=o.looksAt ops:=by simp[qej,h]
theorem lt_of {i:Nat} {o:Oper} (h:ops[i]?=some o):i<ops.size:=(zab.1 h).1
theorem qtp {fr pre:List Nat} {mid:List (Nat×Bool)} {tail:List Nat} (ok:Ok ops fr pre mid tail) {w:World} {K:Act→Prop}:
  ∀ (l:List Nat) (a:Act),(∀ i∈l,i∈pre)→qfx l=true→(∀ i∈l,∀ e∈edg ops i,e∈l→e<i)→l.Pairwise (·<·)→wpPre R P ops w K l a→
  ∃ ap,K ap∧ap.tmps.size=a.tmps.size∧ap.defers=a.defers∧(∀ s,(∀ j∈l,qdy ops j≠some s)→ap.tmps[s]?=a.tmps[s]?)∧
   ∀ i∈l,∃ o v,ops[i]?=some o∧Flat R P ops w ap i o v
 | [],a,_,_,_,_,h=>⟨a,h,rfl,rfl,fun _ _=>rfl,fun i hi=>by cases hi⟩
 | i::r,a,hpre,hnd,hlt,hsort,h=>by
  obtain⟨o,ho,h⟩:=h;have hnd':i ∉ r∧qfx r=true:=by
   simp only[qfx,Bool.and_eq_true,Bool.not_eq_true'] at hnd;exact⟨fun hc=>by rw[List.contains_iff_mem.2 hc] at hnd;exact absurd hnd.1 (by decide),hnd.2⟩
  have hsort':=List.pairwise_cons.1 hsort;have key:∀ v,wpPre R P ops w K r (a.put o.dst v)→((Region.wanted o (yielded ops a.tmps)=true∧∀ W,R w W→Still P W v ((execOp a.eval o).run P W))∨(Region.wanted o (yielded ops a.tmps)=false∧v=undef))→
    ∃ ap,K ap∧ap.tmps.size=a.tmps.size∧ap.defers=a.defers∧(∀ s,(∀ j∈i::r,qdy ops j≠some s)→ap.tmps[s]?=a.tmps[s]?)∧
     ∀ k∈i::r,∃ o v,ops[k]?=some o∧Flat R P ops w ap k o v:=by
   intro v hw hrun;obtain⟨ap,hK,hsz,hdf,hkeep,hflat⟩:=qtp ok r (a.put o.dst v) (fun j hj=>hpre j (zy _ hj)) hnd'.2
    (fun j hj e he hel=>hlt j (zy _ hj) e he (zy _ hel)) hsort'.2 hw
   rw[qcw] at hsz;rw[qdj] at hdf;refine⟨ap,hK,hsz,hdf,fun s hs => ?_,fun k hk => ?_⟩
   ·rw[hkeep s (fun j hj=>hs j (zy _ hj)),qcx,if_neg];have:=hs i (z6 ..)
    rwa [qdm ho] at this
   ·rcases zgb.1 hk with rfl|hk
    ·refine⟨o,v,ho,?_,?_⟩
     ·intro d hd hdl;rw[hkeep d ?_,qcx,if_pos hd,if_pos (by rw[← hsz];exact hdl)];intro j hj hjd;have:=ok.dsts k j d (lt_of ho) (ok.inR j (z7 _ (hpre j (zy _ hj)))) (by rw[qdm ho];exact hd) hjd;subst this;exact hnd'.1 hj
     ·have hlook:∀ s∈o.looksAt ops,ap.tmps[s]?=a.tmps[s]?:=by
       intro s hs;have hno:∀ j∈k::r,qdy ops j≠some s:=by
        intro j hj hjd;have hjp:=hpre j hj;have hl:s∈qej ops k:=by rw[qgs ho];exact hs
        have he:=ok.looksP k j s (.inl (hpre k (z6 ..))) hjp hl hjd;have hne:=(ok.looks k j s (lt_of ho) (ok.inR j (z7 _ hjp)) hl hjd).1;have hlt':=hlt k (z6 ..) j he hj;rcases zgb.1 hj with rfl|hj
        ·exact hne rfl
        ·have:=hsort'.1 j hj;omega
       rw[hkeep s (fun j hj=>hno j (zy _ hj)),qcx,if_neg];have:=hno k (z6 ..)
       rwa [qdm ho] at this
      obtain⟨e1,e2⟩:=qhu (ok.noSel k o · · ho) hlook;rw[e1,e2];exact hrun
    ·exact hflat k hk
  rcases h with ⟨hw,v,hs,h⟩|⟨hw,h⟩
  ·exact key v h (.inl ⟨hw,hs⟩)
  ·exact key undef h (.inr ⟨hw,rfl⟩)
theorem qc6 {listed:Array Bool} {i:Nat} (h:listed.getD i true=false):listed.getD i false=false:=by
 rcases Nat.lt_or_ge i listed.size with h'|h'
 ·simp[h'] at h ⊢;exact h
 ·simp[Array.getElem?_eq_none h'] at h
theorem qpn {listed:Array Bool} {i:Nat} (hi:i<listed.size) (h:listed.getD i false=false):listed.getD i true=false:=by
 simp[hi] at h ⊢;exact h
def left (n:Nat) (listed:Array Bool):Nat:=(List.range n).countP fun i=>!listed.getD i false
theorem ql9 {n i:Nat} {listed:Array Bool} (hn:listed.size=n) (hi:i<n) (hu:listed.getD i true=false):left n (listed.setIfInBounds i true)+1=left n listed:=by
 have gen:∀ m,(m≤i→(List.range m).countP (fun k=>!(listed.setIfInBounds i true).getD k false)=(List.range m).countP fun k=>!listed.getD k false)∧
   (i<m→(List.range m).countP (fun k=>!(listed.setIfInBounds i true).getD k false)+1=(List.range m).countP fun k=>!listed.getD k false):=by
  intro m
  induction m with
  | zero=>exact⟨fun _=>rfl,fun h=>by omega⟩
  | succ m ih=>
   simp only[List.range_succ,List.countP_append,List.countP_cons,List.countP_nil,Nat.zero_add];refine⟨fun h => ?_,fun h => ?_⟩
   ·rw[ih.1 (by omega),getD_set_ne false (by omega)]
   ·by_cases him:i=m
    ·subst him;rw[ih.1 (zl _)];have h1:(listed.setIfInBounds i true).getD i false=true:=by simp[hn,hi]
     have h2:listed.getD i false=false:=qc6 hu;simp[h1,h2]
    ·rw[getD_set_ne false him];have:=ih.2 (by omega);omega
 exact(gen n).2 hi
theorem quk {n:Nat} {listed:Array Bool} (h:left n listed=0):∀ i,i<n→listed.getD i false=true:=by
 intro i hi;have:=(List.countP_eq_zero.1 h) i (List.mem_range.2 hi);simpa using this
theorem qs7 {i e:Nat} {o:Oper} (ho:ops[i]?=some o):e∈edg ops i↔∃ x∈o.after,Region.binds .any x=true∧x.on=e:=by
 simp[edg,ho,and_assoc]
def qlv (ops:Array Oper) (listed:Array Bool):Prop:=∀ j,j<ops.size→listed.getD j false=true→∀ e∈edg ops j,listed.getD e false=true
theorem qcs {i:Nat} {listed:Array Bool} (h:i∈Region.ready .any ops listed):i<ops.size∧listed.getD i true=false∧∀ e∈edg ops i,listed.getD e false=true:=by
 obtain⟨h0,o,ho,hall⟩:=mem_ready.1 h;refine⟨lt_of ho,h0,fun e he => ?_⟩;obtain⟨x,hx,hb,rfl⟩:=(qs7 ho).1 he;exact hall x hx hb
theorem qek {listed:Array Bool} (hcl:qlv ops listed) (hn:listed.size=ops.size):∀ (n:Nat) {i:Nat},(∀ e∈edg ops i,listed.getD e false=true)→∀ e∈cloE ops n i,listed.getD e false=true
 | 0,i,h,e,he=>h e he
 | n+1,i,h,e,he=>by
  simp only[cloE,zib,List.mem_flatMap] at he;rcases he with he|⟨j,hj,he⟩
  ·exact h e he
  ·have hl:=h j hj;have hlt:j<ops.size:=by
    rcases Nat.lt_or_ge j ops.size with hx|hx
    ·exact hx
    ·rw[Array.getD_eq_getD_getElem?,Array.getElem?_eq_none (by omega)] at hl;cases hl
   exact qek hcl hn n (hcl j hlt hl) e he
theorem qeg {i:Nat} {listed:Array Bool} (hi:i<ops.size) (hn:listed.size=ops.size) (hu:listed.getD i false=false) (h:∀ e∈edg ops i,listed.getD e false=true):i∈Region.ready .any ops listed:=by
 have ho:ops[i]?=some ops[i]:=Array.getElem?_eq_getElem hi;exact mem_ready.2 ⟨qpn (by omega) hu,ops[i],ho,fun x hx hb=>h x.on ((qs7 ho).2 ⟨x,hx,hb,rfl⟩)⟩
theorem qdf {i:Nat} {listed:Array Bool} (h:qlv ops listed) (hi:i∈Region.ready .any ops listed):qlv ops (listed.setIfInBounds i true):=by
 intro j hj hl e he;by_cases hij:i=j
 ·subst hij;exact getD_set_true ((qcs hi).2.2 e he)
 ·rw[getD_set_ne false hij] at hl;exact getD_set_true (h j hj hl e he)
theorem qi9:∀ (tail:List Nat) (fr before:List Nat) (fuel:Nat) (listed:Array Bool) (a:Act) (W:World),
  qlv ops listed→qi4 ops fr before tail=true→listed.size=ops.size→(∀ i,i<ops.size→listed.getD i false=true∨i∈tail)→(∀ i∈tail,i<ops.size∧listed.getD i false=false)→qfx tail=true→
  (∀ i∈before,listed.getD i false=true)→left ops.size listed≤fuel→wpList P ops Q (tail.filterMap fun i=>ops[i]?) a W→wpAny P .any ops Q fuel listed a W
 | [],fr,before,fuel,listed,a,W,_,_,hn,hall,_,_,_,_,h=>by
  have hr:Region.ready .any ops listed=[]:=by
   rw[List.eq_nil_iff_forall_not_mem];intro i hi;obtain⟨hlt,hu,-⟩:=qcs hi;rcases hall i hlt with hl|hl
   ·rw[qc6 hu] at hl;cases hl
   ·cases hl
  cases fuel with
  | zero=>exact⟨hr,h⟩
  | succ fuel=>exact⟨fun _=>h,fun i hi=>(by rw[hr] at hi;cases hi)⟩
 | t::r,fr,before,fuel,listed,a,W,hcl,hB,hn,hall,hun,hnd,hbef,hfuel,h=>by
  simp only[qi4,Bool.and_eq_true] at hB;obtain⟨⟨hB1,hB2⟩,hB3⟩:=hB;have htl:=(hun t (z6 ..)).1;have htu:=(hun t (z6 ..)).2;have hed:∀ e∈edg ops t,listed.getD e false=true:=fun e he=>hbef e (List.contains_iff_mem.1 (zhb.1 hB2 e he));have hrt:=qeg htl hn htu hed;have hnd':t ∉ r∧qfx r=true:=by
   simp only[qfx,Bool.and_eq_true,Bool.not_eq_true'] at hnd;exact⟨fun hc=>by rw[List.contains_iff_mem.2 hc] at hnd;exact absurd hnd.1 (by decide),hnd.2⟩
  have ho:ops[t]?=some ops[t]:=Array.getElem?_eq_getElem htl;have hlc:=ql9 hn htl (qpn (by omega) htu);obtain⟨f,rfl⟩:∃ f,fuel=f+1:=⟨fuel - 1,by omega⟩;refine⟨fun hr=>(by rw[hr] at hrt;cases hrt),fun i hi => ?_⟩;have hit:i=t:=by
   obtain⟨hlt,hu,hedi⟩:=qcs hi;rcases hall i hlt with hl|hl
   ·rw[qc6 hu] at hl;cases hl
   ·rcases zgb.1 hl with rfl|hl
    ·rfl
    ·exfalso;have:∀ (r:List Nat) (bef:List Nat),t∈bef→qi4 ops [] bef r=true→i∈r→t∈cloE ops 3 i:=by
      intro r
      induction r with
      | nil=>intro bef _ _ h;cases h
      | cons x r ih=>
       intro bef hb hT hx;simp only[qi4,Bool.and_eq_true] at hT;rcases zgb.1 hx with rfl|hx
       ·exact List.contains_iff_mem.1 (by simpa using zhb.1 hT.1.1 t hb)
       ·exact ih (bef++[x]) (z7 _ hb) hT.2 hx
     have:=qek hcl hn 3 hedi t (this r (before++[t]) (zx _ (zfb.2 rfl)) hB3 hl);rw[htu] at this;cases this
  subst hit;have hset:∀ a' W',wpList P ops Q (r.filterMap fun i=>ops[i]?) a' W'→wpAny P .any ops Q f (listed.setIfInBounds i true) a' W':=fun a' W' h'=>
   qi9 r [] (before++[i]) f (listed.setIfInBounds i true) a' W' (qdf hcl hrt) hB3 (by simp[hn])
    (fun k hk=>by
     by_cases hik:i=k
     ·subst hik;exact .inl (by simp[hn,hk])
     ·rw[getD_set_ne false hik];rcases hall k hk with h|h
      ·exact .inl h
      ·exact .inr ((zgb.1 h).resolve_left (fun e=>hik e.symm)))
    (fun k hk=>⟨(hun k (zy _ hk)).1,by
     rw[getD_set_ne false (fun e:i=k=>hnd'.1 (by rw[e];exact hk))];exact(hun k (zy _ hk)).2⟩) hnd'.2
    (fun k hk=>by
     rcases zib.1 hk with hk|hk
     ·exact getD_set_true (hbef k hk)
     ·rw[zfb.1 hk];simp[hn,htl]) (by omega) h'
  unfold wpOp;simp only[ho];rw[List.filterMap_cons_some ho] at h;unfold wpList at h;split
  ·rename_i hw;rw[if_pos hw] at h;exact h.imp (Oper.wp_mono hset) id
  ·rename_i hw;rw[if_neg hw] at h;exact hset _ _ h
theorem qhq {i:Nat} {o:Oper} {Kx:Act→World→Prop} {a:Act} {W:World} (ho:ops[i]?=some o) (hw:Region.wanted o (yielded ops a.tmps)=true)
  (h:Runs P (fun v W'=>Kx (a.put o.dst v) W') ((execOp a.eval o).run P W)):wpOp P ops Q i Kx a W:=by
 unfold wpOp;simp only[ho,hw,if_true];exact .inl (qof h)
theorem qn4 {i:Nat} {o:Oper} {Kx:Act→World→Prop} {a:Act} {W:World} (ho:ops[i]?=some o) (hw:Region.wanted o (yielded ops a.tmps)=false)
  (h:Kx (a.put o.dst undef) W):wpOp P ops Q i Kx a W:=by
 unfold wpOp;simp only[ho,hw];exact h
theorem qe4 {pre:List Nat}:∀ (l1 l2:List (Nat×Bool)) (prev:Option Nat) (fl seen:List Nat),qfq ops pre prev fl seen (l1++l2)=true→
  ∃ prev' fl' seen',qfq ops pre prev' fl' seen' l2=true∧∀ e∈seen',e∈seen∨e∈l1.map Prod.fst
 | [],l2,prev,fl,seen,h=>⟨prev,fl,seen,h,fun e he => .inl he⟩
 | (f,true)::l1,l2,prev,fl,seen,h=>by
  obtain⟨p',f',s',hc,hs⟩:=qe4 l1 l2 _ _ _ (by simpa only[List.cons_append,qfq] using h);refine⟨p',f',s',hc,fun e he => ?_⟩;rcases hs e he with h|h
  ·rcases zgb.1 h with rfl|h
   ·exact .inr (by simp)
   ·exact .inl h
  ·exact .inr (by simp only[List.map_cons];exact zy _ h)
 | (c,false)::l1,l2,prev,fl,seen,h=>by
  simp only[List.cons_append,qfq,Bool.and_eq_true] at h;obtain⟨p',f',s',hc,hs⟩:=qe4 l1 l2 _ _ _ h.2;refine⟨p',f',s',hc,fun e he => ?_⟩;rcases hs e he with h|h
  ·rcases zgb.1 h with rfl|h
   ·exact .inr (by simp)
   ·exact .inl h
  ·exact .inr (by simp only[List.map_cons];exact zy _ h)
theorem qf6 {pre:List Nat} {listed:Array Bool} (hcl:qlv ops listed) {i:Nat} (hed:∀ e∈edg ops i,listed.getD e false=true):
  ∀ (l:List (Nat×Bool)) (prev:Option Nat) (fl seen:List Nat),qfq ops pre prev fl seen l=true→(∀ x∈l,x.1<ops.size)→(i,false)∈l→
  ∃ l1 l2,l=l1++(i,false)::l2∧(∀ x∈l1,listed.getD x.1 false=true)∧(∀ p,prev=some p→listed.getD p false=true)∧∀ f∈fl,listed.getD f false=true
 | [],_,_,_,_,_,h=>by cases h
 | (f,true)::l,prev,fl,seen,hc,hlt,hi=>by
  obtain⟨l1,l2,rfl,h1,h2,h3⟩:=qf6 hcl hed l prev (f::fl) (f::seen) hc (fun x hx=>hlt x (zy _ hx)) (by simpa using hi);exact⟨(f,true)::l1,l2,rfl,fun x hx=>by
   rcases zgb.1 hx with rfl|hx
   ·exact h3 f (z6 ..)
   ·exact h1 x hx,h2,fun g hg=>h3 g (zy _ hg)⟩
 | (c,false)::l,prev,fl,seen,hc,hlt,hi=>by
  simp only[qfq,Bool.and_eq_true] at hc;obtain⟨⟨⟨hc1,hc2⟩,hc3⟩,hc4⟩:=hc;have fin:(∀ e∈edg ops c,listed.getD e false=true)→(∀ p,prev=some p→listed.getD p false=true)∧∀ f∈fl,listed.getD f false=true:=fun hce=>
   ⟨fun p hp=>hce p (by subst hp;exact List.contains_iff_mem.1 (by simpa using hc2)),fun f hf=>hce f (List.contains_iff_mem.1 (zhb.1 hc3 f hf))⟩
  by_cases hic:i=c
  ·subst hic;exact⟨[],l,rfl,fun x hx=>(by cases hx),(fin hed).1,(fin hed).2⟩
  ·have hil:(i,false)∈l:=by simpa[hic] using hi
   obtain⟨l1,l2,rfl,h1,h2,h3⟩:=qf6 hcl hed l (some c) [] (c::seen) hc4 (fun x hx=>hlt x (zy _ hx)) hil;have hcl':=h2 c rfl;have hce:=hcl c (hlt (c,false) (z6 ..)) hcl';exact⟨(c,false)::l1,l2,rfl,fun x hx=>by
    rcases zgb.1 hx with rfl|hx
    ·exact hcl'
    ·exact h1 x hx,(fin hce).1,(fin hce).2⟩
theorem qbm:∀ (l:List Nat),qfx l=true↔l.Nodup
 | []=>by simp[qfx]
 | a::r=>by
  simp only[qfx,Bool.and_eq_true,Bool.not_eq_true',List.nodup_cons,qbm r];rw[← Bool.not_eq_true,List.contains_iff_mem]
structure Inv (R:World→World→Prop) (P:Program) (ops:Array Oper) (pre:List Nat) (mid:List (Nat×Bool)) (tail:List Nat) (w:World) (M:Nat→Made) (K:Act→World→Prop) (ap:Act)
  (listed:Array Bool) (a:Act) (W:World) (doneL rest:List (Nat×Bool)) (us:List Nat) (ac:Act) (eb:Nat→Nat):Prop where
 size:listed.size=ops.size
 closed:qlv ops listed
 split:doneL++rest=mid
 doneT:∀ x∈doneL,listed.getD x.1 false=true
 restU:∀ c,(c,false)∈rest→listed.getD c false=false
 tailU:∀ t∈tail,listed.getD t false=false
 below:R w W
 asz:a.tmps.size=ac.tmps.size
 adf:a.defers=ac.defers
 csz:ac.tmps.size=ap.tmps.size
 agree:∀ s,(∀ i∈pre,listed.getD i false=false→qdy ops i≠some s)→(∀ f,(f,true)∈rest→listed.getD f false=true→qdy ops f≠some s)→a.tmps[s]?=ac.tmps[s]?
 canon:∀ s,(∀ x∈doneL,qdy ops x.1≠some s)→ac.tmps[s]?=ap.tmps[s]?
 early:∀ f,(f,true)∈rest→listed.getD f false=true→(∀ d,qdy ops f=some d→d<a.tmps.size→a.tmps[d]?=some ((M f).val (eb f)))∧W.heap[eb f]?=some (M f).obj∧w.heap.size≤eb f∧eb f ∉ us
 inj:∀ f g,(f,true)∈rest→(g,true)∈rest→listed.getD f false=true→listed.getD g false=true→eb f=eb g→f=g
 usLt:∀ k∈us,k<W.heap.size
 mid_:∀ W',Below W.heap.size W W'→wpMid R P ops w M K us rest ac W'
section sim
variable {fr pre:List Nat} {mid:List (Nat×Bool)} {tail:List Nat} {w:World} {M:Nat→Made} {K:Act→World→Prop} {ap:Act}
theorem Ok.midLt (ok:Ok ops fr pre mid tail) {x:Nat×Bool} (h:x∈mid):x.1<ops.size:=
 ok.inR _ (zx _ (z7 _ (zkb.2 ⟨x,h,rfl⟩)))
theorem Ok.preLt (ok:Ok ops fr pre mid tail) {i:Nat} (h:i∈pre):i<ops.size:=ok.inR _ (z7 _ h)
theorem Ok.midNd (ok:Ok ops fr pre mid tail):(mid.map Prod.fst).Nodup:=(List.nodup_append.1 (List.nodup_append.1 ((qbm _).1 ok.nd)).2.1).1
theorem Ok.preMid (ok:Ok ops fr pre mid tail) {i:Nat} (h:i∈pre) {x:Nat×Bool} (hx:x∈mid):i≠x.1:=
 (List.nodup_append.1 ((qbm _).1 ok.nd)).2.2 i h x.1 (z7 _ (zkb.2 ⟨x,hx,rfl⟩))
theorem Ok.midTail (ok:Ok ops fr pre mid tail) {x:Nat×Bool} (hx:x∈mid) {t:Nat} (ht:t∈tail):x.1≠t:=
 (List.nodup_append.1 (List.nodup_append.1 ((qbm _).1 ok.nd)).2.1).2.2 x.1 (zkb.2 ⟨x,hx,rfl⟩) t ht
theorem Ok.preTail (ok:Ok ops fr pre mid tail) {i:Nat} (h:i∈pre) {t:Nat} (ht:t∈tail):i≠t:=
 (List.nodup_append.1 ((qbm _).1 ok.nd)).2.2 i h t (zx _ ht)
theorem Ok.same (ok:Ok ops fr pre mid tail) {x y:Nat×Bool} (hx:x∈mid) (hy:y∈mid) (h:x.1=y.1):x=y:=by
 have nd:=ok.midNd;have:∀ (l:List (Nat×Bool)),(l.map Prod.fst).Nodup→x∈l→y∈l→x=y:=by
  intro l
  induction l with
  | nil=>intro _ h;cases h
  | cons z l ih=>
   intro hnd hx hy;simp only[List.map_cons,List.nodup_cons,zkb,not_exists,not_and] at hnd;rcases zgb.1 hx with hx'|hx'
   ·rcases zgb.1 hy with hy'|hy'
    ·rw[hx',hy']
    ·exact absurd (by rw[← h,hx']) (hnd.1 y hy')
   ·rcases zgb.1 hy with hy'|hy'
    ·exact absurd (by rw[h,hy']) (hnd.1 x hx')
    ·exact ih hnd.2 hx' hy'
 exact this mid nd hx hy
theorem qo7 (ok:Ok ops fr pre mid tail) {listed:Array Bool} {a:Act} {W:World} {eb:Nat→Nat}:
  ∀ (rest doneL:List (Nat×Bool)) (us:List Nat) (ac:Act),Inv R P ops pre mid tail w M K ap listed a W doneL rest us ac eb→
  ∃ doneL' rest' us' ac',Inv R P ops pre mid tail w M K ap listed a W doneL' rest' us' ac' eb∧∀ f r,rest'=(f,true)::r→listed.getD f false=false
 | [],doneL,us,ac,h=>⟨doneL,[],us,ac,h,fun f r e=>by cases e⟩
 | (c,false)::r,doneL,us,ac,h=>⟨doneL,_,us,ac,h,fun f r e=>by cases e⟩
 | (f,true)::r,doneL,us,ac,h=>by
  cases hl:listed.getD f false with
  | false=>exact⟨doneL,_,us,ac,h,fun g r' e=>by cases e;exact hl⟩
  | true=>
   obtain⟨e1,e2,e3,e4⟩:=h.early f (z6 ..) hl;obtain⟨o,ho,hm⟩:=h.mid_ W (zp _ _);have hfm:(f,true)∈mid:=by rw[← h.split];exact zx _ (z6 ..)
   have hd:qdy ops f=o.dst:=qdm ho;have hrn:∀ x∈r,x.1≠f:=by
    intro x hx he;have nd:=ok.midNd;rw[← h.split,List.map_append,List.map_cons] at nd;have:=(List.nodup_cons.1 (List.nodup_append.1 nd).2.1).1;exact this (zkb.2 ⟨x,hx,he⟩)
   refine qo7 ok r (doneL++[(f,true)]) (eb f::us) (ac.put o.dst ((M f).val (eb f))) ?_;constructor
   ·exact h.size
   ·exact h.closed
   ·rw[← h.split,List.append_assoc];rfl
   ·intro x hx;rcases zib.1 hx with hx|hx
    ·exact h.doneT x hx
    ·rw[zfb.1 hx];exact hl
   ·exact fun c hc=>h.restU c (zy _ hc)
   ·exact h.tailU
   ·exact h.below
   ·rw[qcw];exact h.asz
   ·rw[qdj];exact h.adf
   ·rw[qcw];exact h.csz
   ·intro s hs1 hs2;rw[qcx];by_cases hds:o.dst=some s
    ·rw[if_pos hds];by_cases hlt:s<ac.tmps.size
     ·rw[if_pos hlt];exact e1 s (by rw[hd];exact hds) (by rw[h.asz];exact hlt)
     ·rw[if_neg hlt];have hle:a.tmps.size≤s:=by rw[h.asz];exact Nat.not_lt.1 hlt
      exact Array.getElem?_eq_none hle
    ·rw[if_neg hds];refine h.agree s hs1 fun g hg hgl => ?_;rcases zgb.1 hg with hg|hg
     ·cases hg;rw[hd];exact hds
     ·exact hs2 g hg hgl
   ·intro s hs;rw[qcx,if_neg]
    ·exact h.canon s fun x hx=>hs x (z7 _ hx)
    ·have:=hs (f,true) (zx _ (zfb.2 rfl))
     rwa [hd] at this
   ·intro g hg hgl;obtain⟨g1,g2,g3,g4⟩:=h.early g (zy _ hg) hgl;refine⟨g1,g2,g3,fun hc => ?_⟩;rcases zgb.1 hc with hc|hc
    ·have:=h.inj g f (zy _ hg) (z6 ..) hgl hl hc;exact hrn (g,true) hg this
    ·exact g4 hc
   ·exact fun g g' hg hg'=>h.inj g g' (zy _ hg) (zy _ hg')
   ·intro k hk;rcases zgb.1 hk with rfl|hk
    ·exact(zab.1 e2).1
    ·exact h.usLt k hk
   ·exact fun W' hW'=>hm (eb f) W' hW' ((hW'.block _ (zab.1 e2).1).trans e2) e3 e4
theorem qnf (ok:Ok ops fr pre mid tail) {listed:Array Bool} {a:Act} {W:World} {doneL rest:List (Nat×Bool)} {us:List Nat} {ac:Act} {eb:Nat→Nat}
  (h:Inv R P ops pre mid tail w M K ap listed a W doneL rest us ac eb) {i:Nat} {o:Oper} (ho:ops[i]?=some o) (hi:i∈pre∨(i,true)∈mid) (hr:i∈Region.ready .any ops listed):
  execOp a.eval o=execOp ap.eval o∧Region.wanted o (yielded ops a.tmps)=Region.wanted o (yielded ops ap.tmps):=by
 obtain⟨hlt,hu,hed⟩:=qcs hr;refine qhu (ok.noSel i o · · ho) fun s hs => ?_;have hl:s∈qej ops i:=by rw[qgs ho];exact hs
 have hpe:∀ e∈edg ops i,e∈pre:=by
  rcases hi with hi|hi
  ·exact fun e he=>(ok.preE i hi e he).1
  ·exact ok.flE i hi
 have cas:∀ j,j<ops.size→qdy ops j=some s→(j∈pre∧listed.getD j false=true)∨(j ∉ pre∧listed.getD j false=false):=by
  intro j hj hd;by_cases hjp:j∈pre
  ·exact .inl ⟨hjp,hed j (ok.looksP i j s hi hjp hl hd)⟩
  ·refine .inr ⟨hjp,?_⟩;rcases (ok.looks i j s hlt hj hl hd).2 with h1|h1
   ·exact absurd (hpe j h1) hjp
   ·cases hjl:listed.getD j false with
    | false=>rfl
    | true=>
     have:=h.closed j hj hjl i h1;rw[qc6 hu] at this;cases this
 rw[h.agree s,h.canon s]
 ·intro x hx hd;have hxm:x∈mid:=by rw[← h.split];exact z7 _ hx
  rcases cas x.1 (ok.midLt hxm) hd with ⟨h1,-⟩|⟨-,h2⟩
  ·exact ok.preMid h1 hxm rfl
  ·rw[h.doneT x hx] at h2;cases h2
 ·intro j hj hju hd;rcases cas j (ok.preLt hj) hd with ⟨-,h2⟩|⟨h1,-⟩
  ·rw[hju] at h2;cases h2
  ·exact h1 hj
 ·intro f hf hfl hd;have hfm:(f,true)∈mid:=by rw[← h.split];exact zx _ hf
  rcases cas f (ok.midLt hfm) hd with ⟨h1,-⟩|⟨-,h2⟩
  ·exact ok.preMid h1 hfm rfl
  ·rw[hfl] at h2;cases h2
theorem qr0 (ok:Ok ops fr pre mid tail) {listed:Array Bool} {a:Act} {W:World} {doneL r:List (Nat×Bool)} {us:List Nat} {ac:Act} {eb:Nat→Nat} {c:Nat}
  (h:Inv R P ops pre mid tail w M K ap listed a W doneL ((c,false)::r) us ac eb) {o:Oper} (ho:ops[c]?=some o) (hr:c∈Region.ready .any ops listed):
  execOp a.eval o=execOp ac.eval o∧Region.wanted o (yielded ops a.tmps)=Region.wanted o (yielded ops ac.tmps):=by
 obtain⟨hlt,hu,hed⟩:=qcs hr;have hcm:(c,false)∈mid:=by rw[← h.split];exact zx _ (z6 ..)
 refine qhu (ok.noSel c o · · ho) fun s hs => ?_;have hl:s∈qej ops c:=by rw[qgs ho];exact hs
 refine h.agree s (fun j hj hju hd => ?_) fun f hf hfl hd => ?_
 ·rcases (ok.looks c j s hlt (ok.preLt hj) hl hd).2 with h1|h1
  ·rw[hed j h1] at hju;cases hju
  ·exact ok.preMid ((ok.preE j hj c h1).1) hcm rfl
 ·have hfm:(f,true)∈mid:=by rw[← h.split];exact zx _ hf
  rcases (ok.looks c f s hlt (ok.midLt hfm) hl hd).2 with h1|h1
  ·
   have hch:=ok.chain;rw[← h.split] at hch;obtain⟨p',f',s',hc,hs'⟩:=qe4 doneL _ _ _ _ hch;simp only[qfq,Bool.and_eq_true] at hc;have:=zhb.1 hc.1.1.1 f h1;simp only[Bool.or_eq_true,List.contains_iff_mem] at this;rcases this with h2|h2
   ·exact ok.preMid h2 hfm rfl
   ·rcases hs' f h2 with h3|h3
    ·cases h3
    ·obtain⟨y,hy,hyf⟩:=zkb.1 h3;have nd:=ok.midNd;rw[← h.split,List.map_append] at nd;exact(List.nodup_append.1 nd).2.2 f h3 f (zkb.2 ⟨_,hf,rfl⟩) rfl
  ·have:=h.closed f (ok.midLt hfm) hfl c h1;rw[qc6 hu] at this;cases this
theorem setT {listed:Array Bool} {i:Nat} (hi:i<listed.size):(listed.setIfInBounds i true).getD i false=true:=by simp[hi]
theorem qq2 (ok:Ok ops fr pre mid tail) {listed:Array Bool} {a:Act} {W W':World} {doneL rest:List (Nat×Bool)} {us:List Nat} {ac:Act} {eb:Nat→Nat}
  (h:Inv R P ops pre mid tail w M K ap listed a W doneL rest us ac eb) {i:Nat} {o:Oper} {v:Value} (ho:ops[i]?=some o) (hi:i∈pre) (hr:i∈Region.ready .any ops listed)
  (hv:∀ d,o.dst=some d→d<ap.tmps.size→ap.tmps[d]?=some v) (hb:Below W.heap.size W W'):
  Inv R P ops pre mid tail w M K ap (listed.setIfInBounds i true) (a.put o.dst v) W' doneL rest us ac eb:=by
 obtain⟨hlt,hu,hed⟩:=qcs hr;have hd:qdy ops i=o.dst:=qdm ho;have hBW:R w W':=RelOk.keep _ _ _ h.below hb;constructor
 ·simp[h.size]
 ·exact qdf h.closed hr
 ·exact h.split
 ·exact fun x hx=>getD_set_true (h.doneT x hx)
 ·intro c hc;have hcm:(c,false)∈mid:=by rw[← h.split];exact zx _ hc
  rw[getD_set_ne false (ok.preMid hi hcm)];exact h.restU c hc
 ·intro t ht;rw[getD_set_ne false (ok.preTail hi ht)];exact h.tailU t ht
 ·exact hBW
 ·rw[qcw];exact h.asz
 ·rw[qdj];exact h.adf
 ·exact h.csz
 ·intro s hs1 hs2;rw[qcx];by_cases hds:o.dst=some s
  ·rw[if_pos hds];have hcan:ac.tmps[s]?=ap.tmps[s]?:=h.canon s fun x hx hdx=>by
    have hxm:x∈mid:=by rw[← h.split];exact z7 _ hx
    exact ok.preMid hi hxm (ok.dsts i x.1 s hlt (ok.midLt hxm) (by rw[hd];exact hds) hdx)
   by_cases hl:s<a.tmps.size
   ·rw[if_pos hl,hcan,hv s hds (by rw[← h.csz,← h.asz];exact hl)]
   ·rw[if_neg hl];have:ac.tmps.size≤s:=by rw[← h.asz];exact Nat.not_lt.1 hl
    exact(Array.getElem?_eq_none this).symm
  ·rw[if_neg hds];refine h.agree s (fun j hj hju => ?_) fun f hf hfl=>hs2 f hf (getD_set_true hfl);by_cases hij:i=j
   ·subst hij;rw[hd];exact hds
   ·exact hs1 j hj (by rw[getD_set_ne false hij];exact hju)
 ·exact h.canon
 ·intro f hf hfl;have hfm:(f,true)∈mid:=by rw[← h.split];exact zx _ hf
  rw[getD_set_ne false (ok.preMid hi hfm)] at hfl;obtain⟨e1,e2,e3,e4⟩:=h.early f hf hfl;refine⟨fun d hdf hdl => ?_,?_,e3,e4⟩
  ·rw[qcx,if_neg]
   ·rw[qcw] at hdl;exact e1 d hdf hdl
   ·intro hc;exact ok.preMid hi hfm (ok.dsts i f d hlt (ok.midLt hfm) (by rw[hd];exact hc) hdf)
  ·rw[hb.block _ (zab.1 e2).1];exact e2
 ·intro f g hf hg hfl hgl;have hfm:(f,true)∈mid:=by rw[← h.split];exact zx _ hf
  have hgm:(g,true)∈mid:=by rw[← h.split];exact zx _ hg
  rw[getD_set_ne false (ok.preMid hi hfm)] at hfl;rw[getD_set_ne false (ok.preMid hi hgm)] at hgl;exact h.inj f g hf hg hfl hgl
 ·exact fun k hk=>Nat.lt_of_lt_of_le (h.usLt k hk) hb.size
 ·exact fun W2 h2=>h.mid_ W2 (hb.trans (h2.mono hb.size))
theorem qra (ok:Ok ops fr pre mid tail) {listed:Array Bool} {a:Act} {W:World} {doneL rest:List (Nat×Bool)} {us:List Nat} {ac:Act} {eb:Nat→Nat}
  (h:Inv R P ops pre mid tail w M K ap listed a W doneL rest us ac eb) {f:Nat} {o:Oper} (ho:ops[f]?=some o) (hf:(f,true)∈rest) (hr:f∈Region.ready .any ops listed):
  Inv R P ops pre mid tail w M K ap (listed.setIfInBounds f true) (a.put o.dst ((M f).val W.heap.size)) (W.alloc (M f).obj) doneL rest us ac (fun g=>if g=f then W.heap.size else eb g):=by
 obtain⟨hlt,hu,hed⟩:=qcs hr;have hd:qdy ops f=o.dst:=qdm ho;have hfm:(f,true)∈mid:=by rw[← h.split];exact zx _ hf
 have hb:Below W.heap.size W (W.alloc (M f).obj):=(zp _ _).alloc (zl _) _;have hfd:∀ x∈doneL,x.1≠f:=by
  intro x hx he;have nd:=ok.midNd;rw[← h.split,List.map_append] at nd;exact(List.nodup_append.1 nd).2.2 x.1 (zkb.2 ⟨x,hx,rfl⟩) f (zkb.2 ⟨_,hf,rfl⟩) he
 constructor
 ·simp[h.size]
 ·exact qdf h.closed hr
 ·exact h.split
 ·exact fun x hx=>getD_set_true (h.doneT x hx)
 ·intro c hc;have hcm:(c,false)∈mid:=by rw[← h.split];exact zx _ hc
  rw[getD_set_ne false (fun e:f=c=>by have:=ok.same hfm hcm e;cases this)];exact h.restU c hc
 ·intro t ht;rw[getD_set_ne false (ok.midTail hfm ht)];exact h.tailU t ht
 ·exact RelOk.keep _ _ _ h.below ((zp _ _).alloc (zl _) _)
 ·rw[qcw];exact h.asz
 ·rw[qdj];exact h.adf
 ·exact h.csz
 ·intro s hs1 hs2;have hfs:o.dst≠some s:=by
   have:=hs2 f hf (setT (by rw[h.size];exact hlt))
   rwa [hd] at this
  rw[qcx,if_neg hfs];exact h.agree s (fun j hj hju=>hs1 j hj (by rw[getD_set_ne false (fun e:f=j=>ok.preMid hj hfm e.symm)];exact hju)) fun g hg hgl=>hs2 g hg (getD_set_true hgl)
 ·exact h.canon
 ·intro g hg hgl;have hgm:(g,true)∈mid:=by rw[← h.split];exact zx _ hg
  by_cases hgf:g=f
  ·subst hgf;simp only[if_true];refine⟨fun d hdg hdl => ?_,?_,RelOk.size _ _ h.below,fun hc=>absurd (h.usLt _ hc) (Nat.lt_irrefl _)⟩
   ·rw[qcw] at hdl;rw[qcx,if_pos (by rw[← hd];exact hdg),if_pos hdl]
   ·show(W.heap.push _)[W.heap.size]?=_;exact Array.getElem?_push_size
  ·rw[getD_set_ne false (fun e:f=g=>hgf e.symm)] at hgl;obtain⟨e1,e2,e3,e4⟩:=h.early g hg hgl;simp only[if_neg hgf];refine⟨fun d hdg hdl => ?_,?_,e3,e4⟩
   ·rw[qcw] at hdl;rw[qcx,if_neg]
    ·exact e1 d hdg hdl
    ·intro hc;exact hgf (ok.dsts g f d (ok.midLt hgm) hlt hdg (by rw[hd];exact hc))
   ·rw[hb.block _ (zab.1 e2).1];exact e2
 ·intro g g' hg hg' hgl hgl' he;have key:∀ k,(k,true)∈rest→k≠f→(listed.setIfInBounds f true).getD k false=true→eb k<W.heap.size:=by
   intro k hk hkf hkl;rw[getD_set_ne false (fun e:f=k=>hkf e.symm)] at hkl;exact(zab.1 (h.early k hk hkl).2.1).1
  by_cases h1:g=f <;> by_cases h2:g'=f
  ·rw[h1,h2]
  ·simp only[if_pos h1,if_neg h2] at he;have:=key g' hg' h2 hgl';omega
  ·simp only[if_neg h1,if_pos h2] at he;have:=key g hg h1 hgl;omega
  ·simp only[if_neg h1,if_neg h2] at he;rw[getD_set_ne false (fun e:f=g=>h1 e.symm)] at hgl;rw[getD_set_ne false (fun e:f=g'=>h2 e.symm)] at hgl';exact h.inj g g' hg hg' hgl hgl' he
 ·exact fun k hk=>Nat.lt_of_lt_of_le (h.usLt k hk) hb.size
 ·exact fun W2 h2=>h.mid_ W2 (hb.trans (h2.mono hb.size))
theorem ql0 (ok:Ok ops fr pre mid tail) {listed:Array Bool} {a:Act} {W W':World} {doneL r:List (Nat×Bool)} {us new:List Nat} {ac:Act} {eb:Nat→Nat} {c:Nat}
  (h:Inv R P ops pre mid tail w M K ap listed a W doneL ((c,false)::r) us ac eb) {o:Oper} {v:Value} (ho:ops[c]?=some o) (hr:c∈Region.ready .any ops listed)
  (hB:R w W') (hsz:W.heap.size≤W'.heap.size) (hkeep:∀ k,w.heap.size≤k→k<W.heap.size→k ∉ us→W'.heap[k]?=W.heap[k]?)
  (hnew:∀ k∈new,W.heap.size≤k∧k<W'.heap.size) (hm:∀ W'',Below W'.heap.size W' W''→wpMid R P ops w M K (new++us) r (ac.put o.dst v) W''):
  Inv R P ops pre mid tail w M K ap (listed.setIfInBounds c true) (a.put o.dst v) W' (doneL++[(c,false)]) r (new++us) (ac.put o.dst v) eb:=by
 obtain⟨hlt,hu,hed⟩:=qcs hr;have hd:qdy ops c=o.dst:=qdm ho;have hcm:(c,false)∈mid:=by rw[← h.split];exact zx _ (z6 ..)
 have hcr:∀ x∈r,x.1≠c:=by
  intro x hx he;have nd:=ok.midNd;rw[← h.split,List.map_append,List.map_cons] at nd;exact(List.nodup_cons.1 (List.nodup_append.1 nd).2.1).1 (zkb.2 ⟨x,hx,he⟩)
 have rm:∀ x∈r,x∈mid:=fun x hx=>by rw[← h.split];exact zx _ (zy _ hx)
 constructor
 ·simp[h.size]
 ·exact qdf h.closed hr
 ·rw[← h.split,List.append_assoc];rfl
 ·intro x hx;rcases zib.1 hx with hx|hx
  ·exact getD_set_true (h.doneT x hx)
  ·rw[zfb.1 hx];exact setT (by rw[h.size];exact hlt)
 ·intro c' hc';rw[getD_set_ne false (fun e:c=c'=>hcr _ hc' e.symm)];exact h.restU c' (zy _ hc')
 ·intro t ht;rw[getD_set_ne false (ok.midTail hcm ht)];exact h.tailU t ht
 ·exact hB
 ·rw[qcw,qcw];exact h.asz
 ·rw[qdj,qdj];exact h.adf
 ·rw[qcw];exact h.csz
 ·intro s hs1 hs2;rw[qcx,qcx,h.asz];split
  ·rfl
  ·refine h.agree s (fun j hj hju=>hs1 j hj (by rw[getD_set_ne false (fun e:c=j=>ok.preMid hj hcm e.symm)];exact hju)) fun g hg hgl => ?_;rcases zgb.1 hg with hg|hg
   ·cases hg
   ·exact hs2 g hg (getD_set_true hgl)
 ·intro s hs;rw[qcx,if_neg]
  ·exact h.canon s fun x hx=>hs x (z7 _ hx)
  ·have:=hs (c,false) (zx _ (zfb.2 rfl))
   rwa [hd] at this
 ·intro f hf hfl;rw[getD_set_ne false (fun e:c=f=>hcr _ hf e.symm)] at hfl;obtain⟨e1,e2,e3,e4⟩:=h.early f (zy _ hf) hfl;have hlt':=(zab.1 e2).1;refine⟨fun d hdf hdl => ?_,?_,e3,fun hc => ?_⟩
  ·rw[qcw] at hdl;rw[qcx,if_neg]
   ·exact e1 d hdf hdl
   ·intro hc;exact hcr _ hf (ok.dsts f c d (ok.midLt (rm _ hf)) hlt hdf (by rw[hd];exact hc))
  ·rw[hkeep _ e3 hlt' e4];exact e2
  ·rcases zib.1 hc with hc|hc
   ·have:=(hnew _ hc).1;omega
   ·exact e4 hc
 ·intro f g hf hg hfl hgl;rw[getD_set_ne false (fun e:c=f=>hcr _ hf e.symm)] at hfl;rw[getD_set_ne false (fun e:c=g=>hcr _ hg e.symm)] at hgl;exact h.inj f g (zy _ hf) (zy _ hg) hfl hgl
 ·intro k hk;rcases zib.1 hk with hk|hk
  ·exact(hnew k hk).2
  ·exact Nat.lt_of_lt_of_le (h.usLt k hk) hsz
 ·exact hm
theorem sim (ok:Ok ops fr pre mid tail) (hK:∀ a W,K a W→wpList P ops Q (tail.filterMap fun i=>ops[i]?) a W)
  (hflat:∀ i∈pre,∃ o v,ops[i]?=some o∧Flat R P ops w ap i o v)
  (hfl:∀ f,(f,true)∈mid→∃ o,ops[f]?=some o∧Region.wanted o (yielded ops ap.tmps)=true∧∀ W,R w W→(execOp ap.eval o).run P W = .ok (.value ((M f).val W.heap.size)) (W.alloc (M f).obj))
  (hfree:∀ f∈fr,∃ o v,ops[f]?=some o∧Region.wanted o (yielded ops ap.tmps)=true∧(∀ d,o.dst=some d→d<ap.tmps.size→ap.tmps[d]?=some v)∧∀ W,(execOp ap.eval o).run P W = .ok (.value v) W)
  (hQ:fr≠[]→∀ c (a a':Act) W,a.defers=a'.defers→Q (.panic c) a W→Q (.panic c) a' W):
  ∀ (fuel:Nat) (listed:Array Bool) (a:Act) (W:World) (doneL rest:List (Nat×Bool)) (us:List Nat) (ac:Act) (eb:Nat→Nat),
   Inv R P ops pre mid tail w M K ap listed a W doneL rest us ac eb→left ops.size listed≤fuel→wpAny P .any ops Q fuel listed a W:=by
 intro fuel
 induction fuel with
 | zero=>
  intro listed a W doneL rest us ac eb h hf;obtain⟨doneL,rest,us,ac,h,hadv⟩:=qo7 ok rest doneL us ac h;have hall:=quk (Nat.le_zero.1 hf);have hrest:rest=[]:=by
   cases rest with
   | nil=>rfl
   | cons x r=>
    obtain⟨c,b⟩:=x;have hcm:(c,b)∈mid:=by rw[← h.split];exact zx _ (z6 ..)
    have hc:=hall c (ok.midLt hcm);cases b with
    | true=>rw[hadv c r rfl] at hc;cases hc
    | false=>rw[h.restU c (z6 ..)] at hc;cases hc
  subst hrest;have hpre:∀ i∈pre,listed.getD i false=true:=fun i hi=>hall i (ok.preLt hi);have ha:a=ac:=by
   have:a.tmps=ac.tmps:=Array.ext_getElem? fun s=>h.agree s (fun i hi hu=>by rw[hpre i hi] at hu;cases hu) fun f hf=>by cases hf
   cases a;cases ac;simp only at this;have:=h.adf;simp_all
  subst ha;exact qi9 tail fr (pre++mid.map Prod.fst) 0 listed a W h.closed ok.tailE h.size (fun i hi => .inl (hall i hi))
   (fun i hi=>⟨ok.inR i (zx _ (zx _ hi)),h.tailU i hi⟩)
   ((qbm _).2 (List.nodup_append.1 (List.nodup_append.1 ((qbm _).1 ok.nd)).2.1).2.1)
   (fun i hi=>by
    rcases zib.1 hi with hi|hi
    ·exact hpre i hi
    ·obtain⟨x,hx,rfl⟩:=zkb.1 hi;exact hall _ (ok.midLt hx)) hf (hK _ _ (h.mid_ W (zp _ _)))
 | succ fuel ih=>
  intro listed a W doneL rest us ac eb h hf;obtain⟨doneL,rest,us,ac,h,hadv⟩:=qo7 ok rest doneL us ac h;by_cases hdone:(∀ i∈pre,listed.getD i false=true)∧rest=[]
  ·obtain⟨hpre,rfl⟩:=hdone;have hmid:∀ x∈mid,listed.getD x.1 false=true:=fun x hx=>h.doneT x (by rw[← h.split,List.append_nil] at hx;exact hx);have ha:a=ac:=by
    have:a.tmps=ac.tmps:=Array.ext_getElem? fun s=>h.agree s (fun i hi hu=>by rw[hpre i hi] at hu;cases hu) fun f hf=>by cases hf
    cases a;cases ac;simp only at this;have:=h.adf;simp_all
   subst ha;exact qi9 tail fr (pre++mid.map Prod.fst) (fuel+1) listed a W h.closed ok.tailE h.size
    (fun i hi=>by
     rcases zib.1 (ok.cover i hi) with h1|h1
     ·exact .inl (hpre i h1)
     ·rcases zib.1 h1 with h1|h1
      ·obtain⟨x,hx,rfl⟩:=zkb.1 h1;exact .inl (hmid x hx)
      ·exact .inr h1)
    (fun i hi=>⟨ok.inR i (zx _ (zx _ hi)),h.tailU i hi⟩)
    ((qbm _).2 (List.nodup_append.1 (List.nodup_append.1 ((qbm _).1 ok.nd)).2.1).2.1)
    (fun i hi=>by
     rcases zib.1 hi with hi|hi
     ·exact hpre i hi
     ·obtain⟨x,hx,rfl⟩:=zkb.1 hi;exact hmid x hx) hf (hK _ _ (h.mid_ W (zp _ _)))
  ·
   have hex:∃ i,i∈Region.ready .any ops listed:=by
    by_cases hp:∃ i,i∈pre∧listed.getD i false=false
    ·obtain⟨i,hi,hu⟩:=hp;have:∀ n i,i≤n→i∈pre→listed.getD i false=false→∃ k,k∈Region.ready .any ops listed:=by
      intro n
      induction n with
      | zero=>
       intro i hin hi hu;exact⟨i,qeg (ok.preLt hi) h.size hu fun e he=>by have:=(ok.preE i hi e he).2;omega⟩
      | succ n ihn=>
       intro i hin hi hu;by_cases hall:∀ e∈edg ops i,listed.getD e false=true
       ·exact⟨i,qeg (ok.preLt hi) h.size hu hall⟩
       ·have ⟨e,he⟩:=Classical.not_forall.1 hall;have ⟨he1,he2⟩:=Classical.not_imp.1 he;obtain⟨hep,hel⟩:=ok.preE i hi e he1;exact ihn e (by omega) hep (by simpa using he2)
     exact this i i (zl _) hi hu
    ·have hpre:∀ i∈pre,listed.getD i false=true:=fun i hi=>by
      cases hl:listed.getD i false with
      | true=>rfl
      | false=>exact absurd ⟨i,hi,hl⟩ hp
     cases rest with
     | nil=>exact absurd ⟨hpre,rfl⟩ hdone
     | cons x r=>
      obtain⟨c,b⟩:=x;have hcm:(c,b)∈mid:=by rw[← h.split];exact zx _ (z6 ..)
      cases b with
      | true=>exact⟨c,qeg (ok.midLt hcm) h.size (hadv c r rfl) fun e he=>hpre e (ok.flE c hcm e he)⟩
      | false=>
       refine⟨c,qeg (ok.midLt hcm) h.size (h.restU c (z6 ..)) fun e he => ?_⟩;have hch:=ok.chain;rw[← h.split] at hch;obtain⟨p',f',s',hc,hs'⟩:=qe4 doneL _ _ _ _ hch;simp only[qfq,Bool.and_eq_true] at hc;have:=zhb.1 hc.1.1.1 e he;simp only[Bool.or_eq_true,List.contains_iff_mem] at this;rcases this with h2|h2
       ·exact hpre e h2
       ·rcases hs' e h2 with h3|h3
        ·cases h3
        ·obtain⟨y,hy,rfl⟩:=zkb.1 h3;exact h.doneT y hy
   refine⟨fun hr=>(by obtain⟨i,hi⟩:=hex;rw[hr] at hi;cases hi),fun i hi => ?_⟩;obtain⟨hlt,hu,hed⟩:=qcs hi;have hset:left ops.size (listed.setIfInBounds i true)≤fuel:=by have:=ql9 h.size hlt hu;omega
   rcases zib.1 (ok.cover i hlt) with hip|hip
   ·
    obtain⟨o,v,ho,hF⟩:=hflat i hip;obtain⟨e1,e2⟩:=qnf ok h ho (.inl hip) hi;rcases hF.run with ⟨hw,hrun⟩|⟨hw,rfl⟩
    ·refine qhq ho (by rw[e2];exact hw) ?_;rw[e1];exact(Still.runs (hrun W h.below)).mono fun u W' ⟨hu',hb⟩=>by
      subst hu';exact ih _ _ _ _ _ _ _ _ (qq2 ok h ho hip hi hF.at_ hb) hset
    ·exact qn4 ho (by rw[e2];exact hw) (ih _ _ _ _ _ _ _ _ (qq2 ok h ho hip hi hF.at_ (zp _ _)) hset)
   rcases zib.1 hip with him|hit
   ·obtain⟨⟨c,b⟩,hx,rfl⟩:=zkb.1 him;have hxr:(c,b)∈rest:=by
     rw[← h.split] at hx;rcases zib.1 hx with hx'|hx'
     ·have:=h.doneT _ hx';rw[qc6 hu] at this;cases this
     ·exact hx'
    cases b with
    | true=>
     obtain⟨o,ho,hw,hrun⟩:=hfl c hx;obtain⟨e1,e2⟩:=qnf ok h ho (.inr hx) hi;refine qhq ho (by rw[e2];exact hw) ?_;rw[e1,hrun W h.below];exact ih _ _ _ _ _ _ _ _ (qra ok h ho hxr hi) hset
    | false=>
     have hch:=ok.chain;rw[← h.split] at hch;obtain⟨p',f',s',hc,-⟩:=qe4 doneL _ _ _ _ hch;obtain⟨l1,l2,hl,h1,-,-⟩:=qf6 h.closed hed rest p' f' s' hc (fun x hx=>ok.midLt (by rw[← h.split];exact zx _ hx)) hxr;have hl1:l1=[]:=by
      cases l1 with
      | nil=>rfl
      | cons x l=>
       obtain⟨d,b⟩:=x;have hxl:=h1 (d,b) (z6 ..);cases b with
       | true=>rw[hadv d _ (by rw[hl];rfl)] at hxl;cases hxl
       | false=>rw[h.restU d (by rw[hl];exact z6 ..)] at hxl;cases hxl
     subst hl1;rw[List.nil_append] at hl;subst hl;obtain⟨o,ho,hm⟩:=h.mid_ W (zp _ _);obtain⟨e1,e2⟩:=qr0 ok h ho hi;rcases hm with ⟨hw,hrun⟩|⟨hw,hm⟩
     ·refine qhq ho (by rw[e2];exact hw) ?_;rw[e1];exact hrun.mono fun v W' ⟨hB,⟨hsz,hkp⟩,new,hnew,hm⟩=>
       ih _ _ _ _ _ _ _ _ (ql0 ok h ho hi hB hsz hkp hnew hm) hset
     ·refine qn4 ho (by rw[e2];exact hw) (ih _ _ _ _ _ _ _ _ (ql0 (new:=[]) ok h ho hi h.below (zl _) (fun _ _ _ _=>rfl) (fun k hk=>by cases hk) fun W2 h2 => ?_) hset);obtain⟨o',ho',hm'⟩:=h.mid_ W2 h2;obtain rfl:o=o':=Option.some.inj (ho.symm.trans ho');rcases hm' with ⟨hw',-⟩|⟨-,hm'⟩
      ·rw[hw] at hw';cases hw'
      ·exact hm'
   ·
    have hall:∀ (r:List Nat) (bef:List Nat),qi4 ops [] bef r=true→i∈r→∀ e∈bef,e∈cloE ops 3 i:=by
     intro r
     induction r with
     | nil=>intro bef _ h;cases h
     | cons x r ihr=>
      intro bef hT hx e he;simp only[qi4,Bool.and_eq_true] at hT;rcases zgb.1 hx with rfl|hx
      ·exact List.contains_iff_mem.1 (by simpa using zhb.1 hT.1.1 e he)
      ·exact ihr (bef++[x]) hT.2 hx e (z7 _ he)
    obtain⟨t,r,rfl⟩:∃ t r,tail=t::r:=by
     cases tail with
     | nil=>cases hit
     | cons t r=>exact⟨t,r,rfl⟩
    have htE:=ok.tailE;simp only[qi4,Bool.and_eq_true] at htE;obtain⟨⟨hT1,-⟩,hT3⟩:=htE;have htu:=h.tailU t (z6 ..);have hit':i=t:=by
     rcases zgb.1 hit with h1|h1
     ·exact h1
     ·have:=qek h.closed h.size 3 hed t (hall r _ hT3 h1 t (zx _ (zfb.2 rfl)));rw[htu] at this;cases this
    subst hit';have hwait:∀ e∈pre++mid.map Prod.fst,e ∉ fr→listed.getD e false=true:=fun e he hf=>qek h.closed h.size 3 hed e (by
     have:=zhb.1 hT1 e he;simp only[Bool.or_eq_true,List.contains_iff_mem] at this;exact this.resolve_left hf)
    have hmidfr:∀ x∈mid,x.1 ∉ fr:=fun x hx hf=>ok.preMid (ok.frP _ hf) hx rfl;have hrest:rest=[]:=by
     cases rest with
     | nil=>rfl
     | cons x r=>
      obtain⟨c,b⟩:=x;have hcm:(c,b)∈mid:=by rw[← h.split];exact zx _ (z6 ..)
      have hc:=hwait c (zx _ (zkb.2 ⟨_,hcm,rfl⟩)) (hmidfr _ hcm);cases b with
      | true=>rw[hadv c r rfl] at hc;cases hc
      | false=>rw[h.restU c (z6 ..)] at hc;cases hc
    subst hrest;obtain⟨f,hfp,hfu⟩:∃ f,f∈pre∧listed.getD f false=false:=by
     by_cases hx:∃ f,f∈pre∧listed.getD f false=false
     ·exact hx
     ·exact absurd ⟨fun i hi=>by
       cases hl:listed.getD i false with
       | true=>rfl
       | false=>exact absurd ⟨i,hi,hl⟩ hx,rfl⟩ hdone
    have hff:f∈fr:=Classical.byContradiction fun hn=>by
     have:=hwait f (z7 _ hfp) hn;rw[hfu] at this;cases this
    have hfr:fr=[f]:=by
     have:=ok.frL
     match fr,hff,this with
     | [g],hff,_=>rw[zfb.1 hff]
    subst hfr;obtain⟨of_,v,hof,hofw,hatf,hofr⟩:=hfree f (zfb.2 rfl);have hdt:=ok.frT (by simp) i r rfl;have hoi:ops[i]?=some ops[i]:=Array.getElem?_eq_getElem hlt;rw[qdm hoi] at hdt;have hagree:∀ s,qdy ops f≠some s→a.tmps[s]?=ac.tmps[s]?:=fun s hs=>h.agree s (fun k hk hku=>by
     by_cases hkf:k=f
     ·subst hkf;exact hs
     ·have:=hwait k (z7 _ hk) (by simpa using hkf);rw[hku] at this;cases this) (fun g hg=>by cases hg)
    have hnofe:f ∉ edg ops i:=fun he=>by have:=hed f he;rw[hfu] at this;cases this
    obtain⟨e1,e2⟩:=qhu (ok.noSel i _ · · hoi) (a:=a) (a':=ac) (fun s hs=>hagree s fun hd=>by
     rcases (ok.looks i f s hlt (ok.preLt hfp) (by rw[qgs hoi];exact hs) hd).2 with h1|h1
     ·exact hnofe h1
     ·exact ok.preTail ((ok.preE f hfp i h1).1) (z6 ..) rfl)
    have hput:∀ D,(Act.mk a.tmps D).put of_.dst v=Act.mk ac.tmps D:=by
     intro D;have hsz:=h.asz;have ht:((Act.mk a.tmps D).put of_.dst v).tmps=ac.tmps:=Array.ext_getElem? fun s=>by
      rw[qcx];show(if of_.dst=some s then(if s<a.tmps.size then some v else none) else a.tmps[s]?)=_;by_cases hd:of_.dst=some s
      ·rw[if_pos hd];by_cases hls:s<a.tmps.size
       ·rw[if_pos hls,h.canon s (fun x hx hd'=>ok.preMid hfp (by rw[← h.split];exact z7 _ hx) (ok.dsts f x.1 s (ok.preLt hfp) (ok.midLt (by rw[← h.split];exact z7 _ hx)) (by rw[qdm hof];exact hd) hd')),hatf s hd (by rw[← h.csz,← hsz];exact hls)]
       ·rw[if_neg hls,Array.getElem?_eq_none (by rw[← hsz];omega)]
      ·rw[if_neg hd];exact hagree s (by rw[qdm hof];exact hd)
     have hd:((Act.mk a.tmps D).put of_.dst v).defers=D:=qdj _ of_.dst v;revert ht hd;cases (Act.mk a.tmps D).put of_.dst v;intro ht hd;simp only at ht hd;rw[ht,hd]
    have hfrd:f∈Region.ready .any ops listed:=qeg (ok.preLt hfp) h.size hfu fun e he=>hwait e (z7 _ (ok.preE f hfp e he).1) (by
     have:=(ok.preE f hfp e he).2;simp;omega)
    obtain⟨e3,e4⟩:=qnf ok h hof (.inl hfp) hfrd;have hcont:∀ D W',wpList P ops Q (r.filterMap fun i=>ops[i]?) (Act.mk ac.tmps D) W'→wpAny P .any ops Q fuel (listed.setIfInBounds i true) (Act.mk a.tmps D) W':=by
     intro D W' hl';have hfl:(listed.setIfInBounds i true).getD f false=false:=by
      rw[getD_set_ne false (fun e:i=f=>by subst e;exact hnofe (by exfalso;exact ok.preTail hfp (z6 ..) rfl))];exact hfu
     have hsz':(listed.setIfInBounds i true).size=ops.size:=by simp[h.size]
     have hfr':f∈Region.ready .any ops (listed.setIfInBounds i true):=qeg (ok.preLt hfp) hsz' hfl fun e he=>getD_set_true (hwait e (z7 _ (ok.preE f hfp e he).1) (by
      have:=(ok.preE f hfp e he).2;simp;omega))
     have hlt2:=ql9 hsz' (ok.preLt hfp) (qpn (by rw[hsz'];exact ok.preLt hfp) hfl);obtain⟨n,rfl⟩:∃ n,fuel=n+1:=⟨fuel - 1,by omega⟩;refine⟨fun hr=>(by rw[hr] at hfr';cases hfr'),fun j hj => ?_⟩;obtain⟨hjlt,hju,hjed⟩:=qcs hj;have hjf:j=f:=by
      rcases zib.1 (ok.cover j hjlt) with h1|h1
      ·by_cases hjf:j=f
       ·exact hjf
       ·have:(listed.setIfInBounds i true).getD j false=true:=getD_set_true (hwait j (z7 _ h1) (by simpa using hjf));rw[qc6 hju] at this;cases this
      ·rcases zib.1 h1 with h1|h1
       ·have hm:=hwait j (zx _ h1) (by
         obtain⟨x,hx,rfl⟩:=zkb.1 h1;exact hmidfr x hx)
        have:(listed.setIfInBounds i true).getD j false=true:=getD_set_true hm;rw[qc6 hju] at this;cases this
       ·rcases zgb.1 h1 with rfl|h1
        ·have:(listed.setIfInBounds j true).getD j false=true:=by simp[h.size,hlt]
         rw[qc6 hju] at this;cases this
        ·have hall2:∀ (r:List Nat) (bef:List Nat),qi4 ops [] bef r=true→j∈r→∀ e∈bef,e∈cloE ops 3 j:=by
          intro r
          induction r with
          | nil=>intro bef _ h;cases h
          | cons x r ihr=>
           intro bef hT hx e he;simp only[qi4,Bool.and_eq_true] at hT;rcases zgb.1 hx with rfl|hx
           ·exact List.contains_iff_mem.1 (by simpa using zhb.1 hT.1.1 e he)
           ·exact ihr (bef++[x]) hT.2 hx e (z7 _ he)
         have:=qek (qdf h.closed hi) hsz' 3 hjed f (hall2 r _ hT3 h1 f (z7 _ (z7 _ hfp)));rw[hfl] at this;cases this
     subst hjf;refine qhq hof (by rw[e4];exact hofw) ?_;rw[show execOp (Act.mk a.tmps D).eval of_=execOp a.eval of_ from rfl,e3,hofr W'];show wpAny P .any ops Q n _ ((Act.mk a.tmps D).put of_.dst v) W';rw[hput];refine qi9 r [] ((pre++mid.map Prod.fst)++[i]) n _ _ W' (qdf (qdf h.closed hi) hfr') hT3 (by simp[h.size]) (fun k hk => ?_) (fun k hk => ?_) ?_ (fun k hk => ?_) (by omega) hl'
     ·rcases zib.1 (ok.cover k hk) with h1|h1
      ·by_cases hkf:k=j
       ·subst hkf;exact .inl (by simp[h.size,hk])
       ·exact .inl (getD_set_true (getD_set_true (hwait k (z7 _ h1) (by simpa using hkf))))
      ·rcases zib.1 h1 with h1|h1
       ·exact .inl (getD_set_true (getD_set_true (hwait k (zx _ h1) (by
         obtain⟨x,hx,rfl⟩:=zkb.1 h1;exact hmidfr x hx))))
       ·rcases zgb.1 h1 with rfl|h1
        ·exact .inl (getD_set_true (by simp[h.size,hk]))
        ·exact .inr h1
     ·have hnd:=(List.nodup_append.1 (List.nodup_append.1 ((qbm _).1 ok.nd)).2.1).2.1;have hki:i≠k:=fun e=>(List.nodup_cons.1 hnd).1 (by rw[e];exact hk);have hkj:j≠k:=ok.preTail hfp (zy _ hk);refine⟨ok.inR k (zx _ (zx _ (zy _ hk))),?_⟩;rw[getD_set_ne false hkj,getD_set_ne false hki];exact h.tailU k (zy _ hk)
     ·exact(qbm _).2 (List.nodup_cons.1 ((List.nodup_append.1 (List.nodup_append.1 ((qbm _).1 ok.nd)).2.1).2.1)).2
     ·rcases zib.1 hk with hk|hk
      ·by_cases hkf:k=j
       ·subst hkf;simp[h.size,ok.preLt hfp]
       ·rcases zib.1 hk with hk|hk
        ·exact getD_set_true (getD_set_true (hwait k (z7 _ hk) (by simpa using hkf)))
        ·exact getD_set_true (getD_set_true (hwait k (zx _ hk) (by
          obtain⟨x,hx,rfl⟩:=zkb.1 hk;exact hmidfr x hx)))
      ·rw[zfb.1 hk];exact getD_set_true (by simp[h.size,hlt])
    have hl:=hK _ _ (h.mid_ W (zp _ _));rw[List.filterMap_cons_some hoi] at hl;unfold wpList at hl;unfold wpOp;simp only[hoi];rw[e2];have hQ':=hQ (by simp);split
    ·rename_i hw;rw[if_pos hw] at hl;refine hl.imp (fun hl => ?_) (fun hl => ?_)
     ·unfold Oper.wp at hl ⊢;rw[e1];revert hl
      generalize (execOp ac.eval ops[i]).run P W=res
      have hp:∀ (b:Act) (u:Value),b.put ops[i].dst u=b:=fun b u=>by rw[hdt];rfl
      cases res with
      | ok nx W'=>
       cases nx <;> simp only[Oper.upon,hp] <;> intro hl
       all_goals first
        | (have:=hcont ac.defers _ hl;rw[← h.adf] at this;exact this)
        | (refine Calls.mono hl fun e w'' he => ?_;cases e <;> simp only at he ⊢ <;> first|exact he|exact hQ' _ _ _ _ h.adf.symm he|(have:=hcont ac.defers _ he;rw[← h.adf] at this;exact this))
        | (refine Rows.mono hl fun e w'' he => ?_;have:=hcont ac.defers _ he;rw[← h.adf] at this;exact this)
        | (have:=hcont _ _ hl;rw[← h.adf] at this;exact this)
        | exact hl
      | halt hh W'=>cases hh <;> simp only[Oper.upon] <;> intro hl <;> first|exact hQ' _ _ _ _ h.adf.symm hl|exact hl
     ·unfold Oper.asks at hl ⊢;rw[e1];exact hl
    ·rename_i hw;rw[if_neg hw] at hl;rw[hdt];rw[hdt] at hl;have:=hcont ac.defers _ hl;rw[← h.adf] at this;exact this
def flOk (R:World→World→Prop) (P:Program) (ops:Array Oper) (w:World) (M:Nat→Made) (ap:Act):List (Nat×Bool)→Prop
 | []=>True
 | (f,true)::r=>(∃ o,ops[f]?=some o∧Region.wanted o (yielded ops ap.tmps)=true∧
   ∀ W,R w W→(execOp ap.eval o).run P W = .ok (.value ((M f).val W.heap.size)) (W.alloc (M f).obj))∧flOk R P ops w M ap r
 | (_,false)::r=>flOk R P ops w M ap r
theorem qu9 {l:List (Nat×Bool)} (h:flOk R P ops w M ap l):∀ f,(f,true)∈l→∃ o,ops[f]?=some o∧Region.wanted o (yielded ops ap.tmps)=true∧
   ∀ W,R w W→(execOp ap.eval o).run P W = .ok (.value ((M f).val W.heap.size)) (W.alloc (M f).obj):=by
 induction l with
 | nil=>intro f hf;cases hf
 | cons x r ih=>
  obtain⟨g,b⟩:=x;intro f hf;cases b with
  | true=>
   rcases zgb.1 hf with hf|hf
   ·cases hf;exact h.1
   ·exact ih h.2 f hf
  | false=>
   rcases zgb.1 hf with hf|hf
   ·cases hf
   ·exact ih h f hf
theorem qil {w:World} {K K':Act→Prop} (h:∀ a,K a→K' a):∀ {l:List Nat} {a:Act},wpPre R P ops w K l a→wpPre R P ops w K' l a
 | [],a,hk=>h a hk
 | i::r,a,⟨o,ho,.inl ⟨hw,v,hs,hk⟩⟩=>⟨o,ho,.inl ⟨hw,v,hs,qil h hk⟩⟩
 | i::r,a,⟨o,ho,.inr ⟨hw,hk⟩⟩=>⟨o,ho,.inr ⟨hw,qil h hk⟩⟩
theorem wp_regionF {id:Nat} {a:Act} {w:World} (fr pre:List Nat) (mid:List (Nat×Bool)) (tail:List Nat) (M:Nat→Made) (h0:R w.drew w.drew) (hm:P.follows .mixedOrders=true)
  (hok:okB ops fr pre mid tail=true) (hsort:pre.Pairwise (·<·)) (hQ:fr≠[]→∀ c (a a':Act) W,a.defers=a'.defers→Q (.panic c) a W→Q (.panic c) a' W)
  (h:wpPre R P ops w.drew (fun ap=>flOk R P ops w.drew M ap mid∧(∀ f∈fr,∃ o v,ops[f]?=some o∧Region.wanted o (yielded ops ap.tmps)=true∧(∀ d,o.dst=some d→d<ap.tmps.size→ap.tmps[d]?=some v)∧∀ W,(execOp ap.eval o).run P W = .ok (.value v) W)∧∀ W,Below w.drew.heap.size w.drew W→wpMid R P ops w.drew M (fun a W=>wpList P ops Q (tail.filterMap fun i=>ops[i]?) a W) [] mid ap W) pre a):
  (Code.region id ops true).wp P Q a w:=by
 have ok:=ok_of hok;obtain⟨ap,⟨hfl,hfree,hmid⟩,hsz,hdf,hkeep,hflat⟩:=qtp ok pre a (fun i hi=>hi) ((qbm _).2 (List.nodup_append.1 ((qbm _).1 ok.nd)).1)
  (fun i hi e he _=>(ok.preE i hi e he).2) hsort h
 refine wp_region_any hm ?_;have hun:∀ j,(Array.replicate ops.size false).getD j false=false:=fun j=>by
  rcases Nat.lt_or_ge j ops.size with h|h
  ·simp[h]
  ·simp[h]
 refine sim (w:=w.drew) (M:=M) ok (fun a W h=>h) hflat (qu9 hfl) hfree hQ ops.size _ a w.drew [] mid [] ap (fun _=>0) ?_ ?_
 ·constructor
  ·simp
  ·intro j hj hl;rw[hun] at hl;cases hl
  ·rfl
  ·intro x hx;cases hx
  ·exact fun c _=>hun c
  ·exact fun t _=>hun t
  ·exact h0
  ·exact hsz.symm
  ·exact hdf.symm
  ·rfl
  ·intro s hs _;exact(hkeep s fun j hj=>hs j hj (hun j)).symm
  ·exact fun s _=>rfl
  ·intro f _ hl;rw[hun] at hl;cases hl
  ·intro f g _ _ hl;rw[hun] at hl;cases hl
  ·intro k hk;cases hk
  ·exact hmid
 ·unfold left;exact Nat.le_trans (List.countP_le_length ..) (by simp)
theorem wp_region {id:Nat} {a:Act} {w:World} (pre:List Nat) (mid:List (Nat×Bool)) (tail:List Nat) (M:Nat→Made) (h0:R w.drew w.drew) (hm:P.follows .mixedOrders=true)
  (hok:okB ops [] pre mid tail=true) (hsort:pre.Pairwise (·<·))
  (h:wpPre R P ops w.drew (fun ap=>flOk R P ops w.drew M ap mid∧∀ W,Below w.drew.heap.size w.drew W→wpMid R P ops w.drew M (fun a W=>wpList P ops Q (tail.filterMap fun i=>ops[i]?) a W) [] mid ap W) pre a):
  (Code.region id ops true).wp P Q a w:=
 wp_regionF [] pre mid tail M h0 hm hok hsort (fun h=>absurd rfl h) (qil (fun ap h=>⟨h.1,fun f hf=>(by cases hf),h.2⟩) h)
end sim
section
variable {P:Program} {ops:Array Oper} {w:World} {K:Act→Prop} {i:Nat} {r:List Nat} {a:Act} {o:Oper}
theorem pre_yes (ho:ops[i]?=some o) (hw:Region.wanted o (yielded ops a.tmps)=true)
  (h:∃ v,(∀ W,R w W→Still P W v ((execOp a.eval o).run P W))∧wpPre R P ops w K r (a.put o.dst v)):wpPre R P ops w K (i::r) a:=
 ⟨o,ho,.inl ⟨hw,h⟩⟩
theorem pre_no (ho:ops[i]?=some o) (hw:Region.wanted o (yielded ops a.tmps)=false) (h:wpPre R P ops w K r (a.put o.dst undef)):wpPre R P ops w K (i::r) a:=
 ⟨o,ho,.inr ⟨hw,h⟩⟩
variable {M:Nat→Made} {K':Act→World→Prop} {us:List Nat} {W:World} {m:List (Nat×Bool)}
theorem mid_nil (h:K' a W):wpMid R P ops w M K' us [] a W:=h
theorem qg5 (ho:ops[i]?=some o) (hw:Region.wanted o (yielded ops a.tmps)=true)
  (h:Runs P (fun v W'=>R w W'∧(W.heap.size≤W'.heap.size∧∀ k,w.heap.size≤k→k<W.heap.size→k ∉ us→W'.heap[k]?=W.heap[k]?)∧
     ∃ new:List Nat,(∀ k∈new,W.heap.size≤k∧k<W'.heap.size)∧∀ W'',Below W'.heap.size W' W''→wpMid R P ops w M K' (new++us) m (a.put o.dst v) W'') ((execOp a.eval o).run P W)):
  wpMid R P ops w M K' us ((i,false)::m) a W:=⟨o,ho,.inl ⟨hw,h⟩⟩
theorem mid_turn (ho:ops[i]?=some o) (hw:Region.wanted o (yielded ops a.tmps)=true)
  (h:∀ Kp:Value→World→Prop,(∀ v W',R w W'→W.heap.size≤W'.heap.size→(∀ k,w.heap.size≤k→k<W.heap.size→W'.heap[k]?=W.heap[k]?)→(∀ W'',Below W'.heap.size W' W''→wpMid R P ops w M K' us m (a.put o.dst v) W'')→Kp v W')→Runs P Kp ((execOp a.eval o).run P W)):
  wpMid R P ops w M K' us ((i,false)::m) a W:=qg5 ho hw (h _ fun v W' h1 h2 h3 hk=>⟨h1,⟨h2,fun k q1 q2 _=>h3 k q1 q2⟩,[],fun k hk=>(by cases hk),hk⟩)
theorem mid_call (hb:R w W) (ho:ops[i]?=some o) (hw:Region.wanted o (yielded ops a.tmps)=true)
  (h:∀ Kp:Value→World→Prop,(∀ v W',Below W.heap.size W W'→(∀ W'',Below W'.heap.size W' W''→wpMid R P ops w M K' us m (a.put o.dst v) W'')→Kp v W')→Runs P Kp ((execOp a.eval o).run P W)):
  wpMid R P ops w M K' us ((i,false)::m) a W:=qg5 ho hw (h _ fun v W' hb' hk=>⟨RelOk.keep _ _ _ hb hb',⟨hb'.size,fun k _ h2 _=>hb'.block k h2⟩,[],fun k hk=>(by cases hk),hk⟩)
theorem fl_op {f:Nat} (hr:flOk R P ops w M a m):flOk R P ops w M a ((f,false)::m):=hr
theorem fl_nil:flOk R P ops w M a []:=trivial
theorem pre_end {mids:List (Nat×Bool)} (h1:flOk R P ops w M a mids) (h2:∀ W,Below w.heap.size w W→wpMid R P ops w M K' [] mids a W):
  wpPre R P ops w (fun ap=>flOk R P ops w M ap mids∧∀ W,Below w.heap.size w W→wpMid R P ops w M K' [] mids ap W) [] a:=⟨h1,h2⟩
end
end MixR
theorem qaj {α:Type} (a0 a1 a2 a3 a4 a5 a6 a7 a8 a9 a10 a11 a12 a13 a14 a15:α) (l:List α) (k:Nat) (v:α):List.set (a0::a1::a2::a3::a4::a5::a6::a7::a8::a9::a10::a11::a12::a13::a14::a15::l) (k+16) v=a0::a1::a2::a3::a4::a5::a6::a7::a8::a9::a10::a11::a12::a13::a14::a15::l.set k v:=rfl
theorem qai {α:Type} (a0 a1 a2 a3 a4 a5 a6 a7 a8 a9 a10 a11 a12 a13 a14 a15 a16 a17 a18 a19 a20 a21 a22 a23 a24 a25 a26 a27 a28 a29 a30 a31 a32 a33 a34 a35 a36 a37 a38 a39 a40 a41 a42 a43 a44 a45 a46 a47 a48 a49 a50 a51 a52 a53 a54 a55 a56 a57 a58 a59 a60 a61 a62 a63:α) (l:List α) (k:Nat) (v:α):List.set (a0::a1::a2::a3::a4::a5::a6::a7::a8::a9::a10::a11::a12::a13::a14::a15::a16::a17::a18::a19::a20::a21::a22::a23::a24::a25::a26::a27::a28::a29::a30::a31::a32::a33::a34::a35::a36::a37::a38::a39::a40::a41::a42::a43::a44::a45::a46::a47::a48::a49::a50::a51::a52::a53::a54::a55::a56::a57::a58::a59::a60::a61::a62::a63::l) (k+64) v=a0::a1::a2::a3::a4::a5::a6::a7::a8::a9::a10::a11::a12::a13::a14::a15::a16::a17::a18::a19::a20::a21::a22::a23::a24::a25::a26::a27::a28::a29::a30::a31::a32::a33::a34::a35::a36::a37::a38::a39::a40::a41::a42::a43::a44::a45::a46::a47::a48::a49::a50::a51::a52::a53::a54::a55::a56::a57::a58::a59::a60::a61::a62::a63::l.set k v:=rfl
