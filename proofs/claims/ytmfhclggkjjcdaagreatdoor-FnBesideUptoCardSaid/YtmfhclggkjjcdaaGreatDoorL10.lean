import Derived.Test.YtmfhclggkjjcdaaGreatDoorL09
import Derived.Test.YtmfhclggkjjcdaaGreatDoorL02
set_option linter.all false
namespace Go.Proofs.YtmfhclggkjjcdaaGreatDoor
open Go Go.RowKit
theorem BExt.join {F:Fix} {s s1 s2:St} {w w1 w2:World} {lo mid hi:Nat} (h:BExt F s w s1 w1 mid hi) (k:BExt F s1 w1 s2 w2 lo mid) (h1:lo≤mid) (h2:mid≤hi):BExt F s w s2 w2 lo hi:=by
 have hz:=h.size;have hT:qah (qa1 F s) w w2:=by
  have a:=h.turns.mono (S':=fun b=>qa1 F s b∨w.heap.size≤b) fun b _ hb => .inl hb;have b:=k.turns.mono (S':=fun b=>qa1 F s b∨w.heap.size≤b) fun b _ hb=>by
   rcases hb with hb|hb|hb
   ·exact .inl (.inl hb)
   ·exact .inl (.inr (.inl hb))
   ·rcases h.row b hb with hb|hb
    ·exact .inl (.inr (.inr hb))
    ·exact .inr hb
  exact(a.trans b).mono fun b hb h=>by rcases h with h|h;exact h;omega
 obtain⟨l1,e1,q1⟩:=h.ifs;obtain⟨l2,e2,q2⟩:=k.ifs;refine⟨k.ok,hT,h.rd.trans k.rd,fun g hg => ?_,fun j hj => ?_,fun j x hx=>k.grow j x (h.grow j x hx),fun j j1 j2 => ?_,l1++l2,by rw[e2,e1,List.append_assoc],fun x hx => ?_⟩
 ·rcases k.row g hg with hg|hg
  ·exact h.row g hg
  ·exact .inr (by omega)
 ·rw[k.same j (by omega),h.same j (by omega)]
 ·by_cases hj:j<mid
  ·exact k.full j j1 hj
  ·obtain⟨x,hx⟩:=h.full j (by omega) j2;exact⟨x,k.grow j x hx⟩
 ·rcases zib.1 hx with hx|hx
  ·exact⟨(q1 x hx).1,(q1 x hx).2.turned h.ok k.turns.apart⟩
  ·exact⟨by have:=(q2 x hx).1;omega,(q2 x hx).2⟩
theorem qbe.get {g:G} {p:Int}:∀ {l:List Fd} {at_:Nat} {xs:List Nat},qbe g l at_ p xs→∀ i (hi:i<xs.length),qgd g (l.getD i fd0) (at_+qar (l.take i)) p xs[i]
 | [],at_,xs,h,i,hi=>by simp only[qbe] at h;subst h;simp at hi
 | .mk n e t::r,at_,xs,⟨x,ys,e1,h1,h2⟩,0,hi=>by subst e1;simpa[qar] using h1
 | .mk n e t::r,at_,xs,⟨x,ys,e1,h1,h2⟩,i+1,hi=>by
  subst e1;have:=qbe.get h2 i (by simpa using hi);have e2:at_+qar ((Fd.mk n e t::r).take (i+1))=at_+(1+t.size)+qar (r.take i):=by simp[qar];omega
  rw[e2];simpa[Fd.of] using this
theorem qgd.var {F:Fix} {s:St} {w:World} {B:Nat} {f:Fd} {at_ x:Nat} {p:Int} (h:qgd (gOf F s (rdA B w)) f at_ p x) (hok:BOk F s w) (hp:p=0∨p=1):qsb w x (F.pk p) p (fname F.W f):=by
 obtain⟨-,u,h1,-⟩:=h;exact⟨qax (qc8 (h1 1 _ rfl)).1,qax (qc8 (h1 2 _ rfl)).1,(hok.pkc hp).2⟩
theorem qam.k4 {W:Wd} {d:Int} {val:Bool} {t:Ty} (h:qam W d val t) (hk:t.kind=4):t.num=0∧t.elem=[]∧t.methods=[]∧t.embeds=[]∧qby W d val t.fields:=by
 obtain⟨k,m,el,fs,ms,em⟩:=t;simp only[qam,Ty.kind,Ty.elem,Ty.fields,Ty.methods,Ty.embeds,Ty.num] at *;rcases h with ⟨h,-⟩|⟨h,-⟩|⟨h,-⟩|⟨-,h0,h1,h2,h3,h4⟩|⟨h,-⟩
 ·omega
 ·omega
 ·omega
 ·exact⟨h0,h1,h2,h3,h4⟩
 ·omega
theorem qby.get {W:Wd} {d:Int} {val:Bool}:∀ {l:List Fd},qby W d val l→∀ i (hi:i<l.length),IsNm l[i].name∧(l[i].embedded=true→l[i].name=0∧qdb l[i].of)∧qam W d val l[i].of
 | [],_,i,hi=>by simp at hi
 | .mk n e t::r,h,0,_=>by simp only[qby] at h;exact h.1
 | .mk n e t::r,h,i+1,hi=>by simp only[qby] at h;exact qby.get h.2 i (by simpa using hi)
theorem qcr.get {W:Wd} {p:Int}:∀ {l prev:List Fd} {at_:Nat},qcr W p prev l at_→∀ i (hi:i<l.length),(∀ g∈prev++l.take i,fname W l[i]≠8→fname W l[i]≠fname W g)∧qdp W p l[i].of (at_+qar (l.take i)+1)
 | [],_,_,_,i,hi=>by simp at hi
 | .mk n e t::r,prev,at_,h,0,_=>by
  simp only[qcr] at h;refine⟨fun g hg=>h.1.1 g (by simpa using hg),by simpa[qar,Fd.of] using h.1.2.1⟩
 | .mk n e t::r,prev,at_,h,i+1,hi=>by
  simp only[qcr] at h;obtain⟨h1,h2⟩:=qcr.get h.2 i (by simpa using hi);refine⟨fun g hg => ?_,?_⟩
  ·refine h1 g ?_;simp only[List.take_succ_cons,List.append_assoc,List.cons_append,List.nil_append,zib,zgb] at hg ⊢;exact hg
  ·simp only[zh,List.take_succ_cons,qar] at h2 ⊢;rw[show at_+(1+t.size+qar (r.take i))+1=at_+(1+t.size)+qar (r.take i)+1 by omega];exact h2
theorem qdp.fields {W:Wd} {p:Int} {t:Ty} {at_:Nat} (h:qdp W p t at_):qcr W p [] t.fields at_:=by
 obtain⟨k,m,el,fs,ms,em⟩:=t;simp only[qdp,Ty.fields] at *;exact h.2.2.1
def NmOk (W:Wd):Prop:=∀ d,d<W.length→IsNm (dc W d).name∧(dc W d).name≠8
theorem qam.num1 {W:Wd} {d:Int} {val:Bool} {t:Ty} (h:qam W d val t) (hk:t.kind=1):0≤t.num∧t.num<W.length:=by
 obtain⟨-,-,-,-,h1,h2,-⟩:=h.k1 hk;exact⟨h1,h2⟩
theorem qmr {W:Wd} {d:Int} {val:Bool} {f:Fd} (hN:NmOk W) (h:IsNm f.name∧(f.embedded=true→f.name=0∧qdb f.of)∧qam W d val f.of):IsNm (fname W f):=by
 unfold fname;split
 ·exact h.1
 next he=>
  have he':f.embedded=true:=by simpa using he
  obtain⟨-,hn⟩:=h.2.1 he';split
  next hk=>
   rcases hn with hn|⟨-,hl,hn⟩
   ·omega
   ·obtain⟨-,-,-,-,-,h5⟩:=h.2.2.k23 (.inl hk);obtain⟨q1,q2⟩:=h5.num1 hn;exact(hN _ (by omega)).1
  next hk=>
   rcases hn with hn|⟨hn,-⟩
   ·obtain⟨q1,q2⟩:=h.2.2.num1 hn;exact(hN _ (by omega)).1
   ·exact absurd hn hk
theorem idS_inj:∀ i:Fin 16,∀ j:Fin 16,∀ p:Fin 2,idL (p.val:Nat) (i.val:Nat)=idL (p.val:Nat) (j.val:Nat)→i=j:=by decide +kernel
theorem idS_ne {p n m:Int} (hp:p=0∨p=1) (hn:IsNm n) (hm:IsNm m) (h:n≠m):idS p n≠idS p m:=fun e=>by
 unfold IsNm at hn hm;have e2:idL p n=idL p m:=by unfold idS at e;injection e with e;simpa using e
 have:=idS_inj ⟨n.toNat,by omega⟩ ⟨m.toNat,by omega⟩ ⟨p.toNat,by omega⟩ (by
  simp only[show((p.toNat:Nat):Int)=p by omega,show((n.toNat:Nat):Int)=n by omega,show((m.toNat:Nat):Int)=m by omega];exact e2)
 simp only[Fin.mk.injEq] at this;omega
theorem qrk {F:Fix} {s:St} {B b:Nat} {w:World} {num:Int} {el:List Ty} {fs:List Fd} {ms:List Meth} {em:List Ty} {at_:Nat} {p:Int} {xs:List Nat} {a a':Option Addr} {c c':Nat}
  (hb:Blk w b 196 [.slice a' fs.length c',.slice none 0 0]) (hB:B≤b) (ha:0<fs.length→a'=a∧c'=c) (hc:fs.length≤c') (hf:qbe (gOf F s (rdA B w)) fs at_ p xs)
  (hown:w.ownsRow 0 151 1 (.slice a fs.length c) fs.length (qa7 xs)) (hrB:∀ g,(Value.slice a fs.length c).ownBlock=some g→B≤g):
  Den (gOf F s (rdA B w)) ⟨.mk 4 num el fs ms em,at_,p⟩ (.iface 153 (ptrV b)):=by
 unfold Den DenT;refine .inr (.inr (.inr (.inr (.inl ⟨rfl,b,a',c',rfl,hb.rda hB (by decide) (by decide) (by simp[qcq]),hc,?_⟩))));have hl:=hf.len;by_cases h0:0<fs.length
 ·obtain⟨rfl,rfl⟩:=ha h0;refine hf.den fun j hj => ?_;have:=qtj hown hrB (by decide) (by decide) (qjm _) j (by simpa[qa7] using hj);simp only[qa7,List.getElem_map] at this;exact this
 ·cases fs with
  | nil=>simp only[DenF]
  | cons x r=>simp at h0
theorem BOk.turnedLt {F:Fix} {s:St} {w:World} (h:BOk F s w) {b:Nat} (hb:qa1 F s b):b<w.heap.size:=by
 rcases hb with e|e|e
 ·rw[e];exact h.bld.lt
 ·obtain⟨os,ho,-⟩:=h.obj;rw[e];exact ho.lt
 ·obtain⟨cs,hc⟩:=h.rowT e;exact hc.lt
theorem qni (x:Int) (h1:0≤x) (h2:x≤9223372036854775807):IntKind.i64.wrap x=x:=by
 simp[IntKind.wrap,IntKind.bits,IntKind.signed];omega
def rdX (B:Nat) (R:Option Nat) (w:World) (b j:Nat):Option Value:=if R=some b then none else rdA B w b j
theorem qol (B:Nat) (R:Option Nat) (w:World):RdLe (rdX B R w) (rdA B w):=fun b j v h=>by
 unfold rdX at h;split at h
 ·cases h
 ·exact h
theorem qfo {B:Nat} {R:Option Nat} {w:World} {b j:Nat} {v:Value} (h:rdA B w b j=some v) (hR:R≠some b):rdX B R w b j=some v:=by
 unfold rdX;rw[if_neg hR];exact h
theorem qhp {B:Nat} {R:Option Nat} {w:World} {b j:Nat} {v:Value} (h:rdX B R w b j=some v):rdA B w b j=some v∧R≠some b:=by
 unfold rdX at h;split at h
 ·cases h
 next hR=>exact⟨h,hR⟩
theorem qhi {w w':World} {b j:Nat} {v:Value} (h:rdT w b j=some v) (hb:w'.heap[b]?=w.heap[b]?):rdT w' b j=some v:=by
 obtain⟨cs,T,q1,q2,q3,q4,q5⟩:=qb7 h;exact qc4 (hb.trans q1) q2 q3 q4 q5
theorem qgc {B:Nat} {R R':Option Nat} {wr w8 w9:World} (h:RdLe (rdT wr) (rdT w8)) (hg:w8.grownBy w9 R) (hl:R'=R∨R'=some w8.heap.size):RdLe (rdX B R wr) (rdX B R' w9):=fun b j v hv=>by
 obtain⟨h1,h2⟩:=qhp hv;obtain⟨h3,h4⟩:=qc8 h1;have h5:=h _ _ _ h3;have hlt:=qft h5;have h6:=qhi h5 (hg.block b hlt fun e=>h2 e.symm);exact qfo (qcu h6 h4) fun e=>by
  rcases hl with e2|e2
  ·exact h2 (e2 ▸ e)
  ·rw[e2] at e;cases e;omega
theorem qga {B B2:Nat} {R R':Option Nat} {w1 w8 w9:World} (hB:B≤B2) (h:RdLe (rdT w1) (rdT w8)) (hg:w8.grownBy w9 R) (hR:∀ g,R=some g→g<B2) (hl:R'=R∨R'=some w8.heap.size):RdLe (rdA B2 w1) (rdX B R' w9):=fun b j v hv=>by
 obtain⟨h3,h4⟩:=qc8 hv;have h5:=h _ _ _ h3;have hlt:=qft h5;have hRb:R≠some b:=fun e=>by have:=hR b e;omega
 have h6:=qhi h5 (hg.block b hlt fun e=>hRb e.symm);exact qfo (qcu h6 (by omega)) fun e=>by
  rcases hl with e2|e2
  ·exact hRb (e2 ▸ e)
  ·rw[e2] at e;cases e;omega
theorem BOk.putc {F:Fix} {s:St} {w:World} (h:BOk F s w) {k:Nat} (hk:k<F.N) (hn:s.ob k=none):w.cell? ⟨F.bb,2,none⟩=some (.slice (some ⟨F.ob0,0,none⟩) F.N F.oc)∧w.cell? ⟨F.ob0,k,none⟩=some .nilIface∧w.frozen? ⟨F.ob0,k,none⟩=false:=by
 obtain⟨os,o1,o2⟩:=h.obj;refine⟨?_,by rw[o1.cell,o2 _ hk,hn];rfl,o1.soft _⟩;have:=h.bld.cell 2;simpa using this
section
variable {P:Program} (w:World)
theorem qbu {ops:Array Oper} {rest:List Oper} {o:Oper} {a:Act} {Q:Exit→Act→World→Prop} (hgd:o.guard=none) (s x:Operand) (t:TypeId)
  (ho:o.op = .call { callee := .builtin .append,args:=#[s,x],argTypes:=#[t,t] })
  (e:TypeId) (z:Value) (bytes:Nat) (hi:(P.info? e).map (fun i=>(i.zero,i.size,i.bytes))=some (some z,1,bytes)) (ht:P.underlying t=some (.slice e)) (hzs:z.cells.size=1)
  (ra:Option Addr) (n rc:Nat) (xs:List Value) (hs:a.eval s = .slice ra n rc) (hown:w.ownsRow 0 e 1 (.slice ra n rc) n xs)
  (ad:Addr) (u:Value) (hx:a.eval x = .slice (some ad) 1 1) (hnew:w.cell? ad=some u) (had:ad.spot=none) (h1:u.oneCell'=true)
  (hn:n≤1099511627776) (hb:bytes≤64)
  (h:∀ ra' rc' w',w'.ownsRow 0 e 1 (.slice ra' (n+1) rc') (n+1) (xs++[u])→w.grownBy w' (Value.slice ra n rc).ownBlock→((Value.slice ra' (n+1) rc').ownBlock=(Value.slice ra n rc).ownBlock∨(Value.slice ra' (n+1) rc').ownBlock=some w.heap.size)→wpList P ops Q rest (a.put o.dst (.slice ra' (n+1) rc')) w'):wpList P ops Q (o::rest) a w:=by
 obtain⟨i,q1,q2,q3,q4⟩:=info_parts hi;refine qb2 w hgd s x t ho e i z 1 bytes ht q1 q2 q3 q4 hzs (by decide) (.slice ra n rc) n xs hs hown ad 1 1 [u] hx rfl ?_ (by simpa using h1) (by unfold maxLen;omega) ?_ (by decide) fun v' w' h1 h2 h3 => ?_
 ·intro j v hj
  match j with
  | 0=>
   simp only[zt,Option.some.injEq] at hj;subst hj;obtain⟨b,o,sp⟩:=ad;simp only at had;subst had;rw[Addr.add_lit];simpa using hnew
  | j+1=>simp at hj
 ·calc (n+1) * bytes≤1099511627777 * 64:=Nat.mul_le_mul (by omega) hb
   _≤140737488355328:=by decide
 ·obtain⟨ra',rc',rfl,-,-⟩:=qak h1;exact h ra' rc' w' h1 h2 h3
end
theorem qj1 {F:Fix} {s1 s2 s3:St} {wr w3 w8 w9:World} {B B2:Nat} {R R':Option Nat} {l:List Fd} {f:Fd} {at_ x:Nat} {p:Int} {xs:List Nat} {u:Value} (hB:B≤B2)
  (hfx:qbe (gOf F s1 (rdX B R wr)) l at_ p xs) (hd:Den (gOf F s2 (rdA B2 w3)) ⟨f.of,at_+qar l+1,p⟩ u) (h8:RdLe (rdT wr) (rdT w8)) (h38:RdLe (rdT w3) (rdT w8)) (hg:w8.grownBy w9 R) (hR:∀ g,R=some g→g<B2) (hl:R'=R∨R'=some w8.heap.size)
  (hG:∀ r r',RdLe r r'→G.Le (gOf F s1 r) (gOf F s3 r')) (hG2:∀ r r',RdLe r r'→G.Le (gOf F s2 r) (gOf F s3 r')) (hob:s3.ob (at_+qar l)=some (false,x))
  (hb:Blk w8 x 191 [.int .i64 0,ptrV (F.pk p),.string (qas (fname F.W f)),u,.int .u8 6,.bool f.embedded]) (hx:B≤x) (hu:IsTy u) (hRx:R≠some x):
  qbe (gOf F s3 (rdX B R' w9)) (l++[f]) at_ p (xs++[x]):=by
 refine qbe.snoc (hfx.mono (hG _ _ (qgc h8 hg hl))) ⟨hob,u,?_,Den.mono (hG2 _ _ (qga hB h38 hg hR hl)) hd⟩;obtain⟨T,y,rfl⟩:=hu;intro j v hj;have h1:=hb.rdr (by decide) (by decide) (by simp[qcq]) j v hj;have hlt:=qft h1;refine qfo (qcu (qhi h1 (hg.block x hlt fun e=>hRx e.symm)) hx) fun e => ?_;rcases hl with e2|e2
 ·exact hRx (e2 ▸ e)
 ·rw[e2] at e;cases e;omega
theorem qdl {B:Nat} {R:Option Nat} {w w':World} (h:Below w.heap.size w w'):RdLe (rdX B R w) (rdX B R w'):=fun b j v hv=>by
 obtain⟨h1,h2⟩:=qhp hv;obtain⟨h3,h4⟩:=qc8 h1;exact qfo (qcu (qa0 h _ _ _ h3) h4) h2
theorem qph {F:Fix} {s:St} {w:World} {B:Nat} {R:Option Nat} {l:List Fd} {at_:Nat} {p d:Int} {val:Bool} {xs:List Nat} (hx:qbe (gOf F s (rdX B R w)) l at_ p xs) (hok:BOk F s w) (hp:p=0∨p=1) (hN:NmOk F.W) (hf:qby F.W d val l) (hv:qcr F.W p [] l at_):
  ∀ i (hi:i<xs.length),qsb w xs[i] (F.pk p) p ((l.map (fname F.W)).getD i 0)∧IsNm ((l.map (fname F.W)).getD i 0)∧((l.map (fname F.W)).getD i 0≠8→∀ j,j<i→idS p ((l.map (fname F.W)).getD i 0)≠idS p ((l.map (fname F.W)).getD j 0)):=by
 intro i hi;have hl:=hx.len;have hx':qbe (gOf F s (rdA B w)) l at_ p xs:=hx.mono (show G.Le (gOf F s (rdX B R w)) (gOf F s (rdA B w)) from⟨rfl,rfl,fun _ _ h=>h,fun _ _ h=>h,fun _ h=>h,qol _ _ _⟩);have hil:i<l.length:=by omega
 have e:∀ j,j<l.length→(l.map (fname F.W)).getD j 0=fname F.W (l.getD j fd0):=fun j hj=>by simp[zv,zr hj]
 have e2:∀ j (hj:j<l.length),l.getD j fd0=l[j]:=fun j hj=>by simp[zv,zr hj]
 have h1:=(hx'.get i hi).var hok hp;rw[e i hil];refine⟨h1,?_,fun h8 j hj => ?_⟩
 ·rw[e2 i hil];exact qmr hN (hf.get i hil)
 ·rw[e j (by omega),e2 i hil,e2 j (by omega)];rw[e2 i hil] at h8;refine idS_ne hp (qmr hN (hf.get i hil)) (qmr hN (hf.get j (by omega))) ((hv.get i hil).1 _ ?_ h8);rw[List.nil_append];exact List.mem_take_iff_getElem.2 ⟨j,by omega,rfl⟩
theorem qe2:∀ (l:List Fd) (k:Nat) (hk:k<l.length),qcm (l.take (k+1))=qcm (l.take k)+(1+l[k].of.bulk)
 | .mk _ _ t::r,0,_=>by simp[qcm,Fd.of]
 | .mk _ _ t::r,k+1,hk=>by
  have:=qe2 r k (by simpa using hk);simp only[List.take_succ_cons,zh,qcm,this];omega
theorem qfb:∀ (l:List Fd) (k:Nat),qcm (l.take k)≤qcm l
 | [],k=>by simp
 | .mk _ _ t::r,0=>by simp[qcm]
 | .mk _ _ t::r,k+1=>by have:=qfb r k;simp only[List.take_succ_cons,qcm];omega
theorem ql2:∀ (l:List Ty) (k:Nat) (hk:k<l.length),qbt (l.take (k+1))=qbt (l.take k)+l[k].bulk
 | t::r,0,_=>by simp[qbt]
 | t::r,k+1,hk=>by
  have:=ql2 r k (by simpa using hk);simp only[List.take_succ_cons,zh,qbt,this];omega
theorem qh5:∀ (l:List Ty) (k:Nat),qbt (l.take k)≤qbt l
 | [],k=>by simp
 | t::r,0=>by simp[qbt]
 | t::r,k+1=>by have:=qh5 r k;simp only[List.take_succ_cons,qbt];omega
