import Derived.Test.YtmfhclggkjjcdaaGreatDoorL15
import Derived.Test.YtmfhclggkjjcdaaGreatDoorL14
import Derived.Test.YtmfhclggkjjcdaaGreatDoorL08
import Derived.Test.YtmfhclggkjjcdaaGreatDoorL01
set_option linter.all false
set_option maxHeartbeats 1000000
namespace Go.Proofs.YtmfhclggkjjcdaaGreatDoor
open Go Go.RowKit Go.Proofs.Tryz
variable {F F':Fix} {st:Int} {μ:Spot→Nat} {b d tn rc k x lo hi B j:Nat} {w0 w w' wS:World} {s s' sS:St} {W:Wd} {u:Value} {b0 raw raw' set' P:Nat→Prop} {U:TypeId} {ux:Addr} {ra:Option Addr} {fs:List Nat} {ocs:List Value} {R:Option Nat}
theorem qqx (F:Fix) (st:St) (μ:Spot→Nat) (w0:World):∀ (n:Nat) (b:Nat) (s:Spot) (w:World) (G:Nat→Prop),μ s<n→(b,s)∈st.ifs→CI F st μ w0 w→(∀ g,G g→g<w.heap.size)→IfS F st μ G w (μ s+1)→
  Calls prog 105 #[.pointer none,.int .i64 0,.pointer (some ⟨b,0,none⟩)] w (qmm F st μ G w0 w b s)
 | 0,_,s,_,_,h,_,_,_,_=>absurd h (Nat.not_lt_zero _)
 | n+1,b,s,w,G,hn,hm,hC,hG,hI=>by
  have ih:=qqx F st μ w0 n;obtain⟨ra,rc,ea,ec,tso,hb,h|⟨ts,l,h,hs⟩⟩:=hI b s hm (zw _)
  ·subst h;exact qu3 F st μ w0 w b s hm hC G hG hI ra rc ea ec hb fun b' s' w G hm' hμ hC hG hI=>ih b' s' w G (by omega) hm' hC hG hI
  ·subst h;refine(qoj b ts w (by rw[hb.cell];rfl)).mono ?_;rintro e w' ⟨rfl,rfl⟩;exact⟨⟨ts,l,G⟩,rfl,hid ⟨⟨ra,rc,ea,ec,hb,hs⟩,CExt.refl _ _ _ _ _,hC,hI,fun _ h=>h,fun _ h => .inl h,hG⟩⟩
theorem qvo (F:Fix) (st:St) (μ:Spot→Nat) (w0:World) (b:Nat) (s:Spot) (w:World) (G:Nat→Prop) (hm:(b,s)∈st.ifs) (hC:CI F st μ w0 w) (hG:∀ g,G g→g<w.heap.size) (hI:IfS F st μ G w (μ s+1)):
  Calls prog 105 #[.pointer none,.int .i64 0,.pointer (some ⟨b,0,none⟩)] w (qmm F st μ G w0 w b s):=qqx F st μ w0 _ b s w G (zw _) hm hC hG hI
theorem qp1 (F:Fix) (st:St) (μ:Spot→Nat) (w0:World) (b:Nat) (s:Spot) (w:World) (G:Nat→Prop) (hm:(b,s)∈st.ifs) (hC:CI F st μ w0 w) (hG:∀ g,G g→g<w.heap.size) (hI:IfS F st μ G w (μ s+1)):
  Calls prog 82 #[.pointer (some ⟨b,0,none⟩)] w (qmm F st μ G w0 w b s):=by
 have HR:=hid (qvo F st μ w0 b s w G hm hC hG hI);obtain⟨ra,rc,ea,ec,tso,hb,-⟩:=hI b s hm (zw _);have c0:=(qbr hb).2.2.2.2.2;have hl:=hb.lt;clear hC hG hI hb;go_enter func82,ntmps82
 go_wp2_with (go_at_call 105;refine HR.out.mono ?_;rintro e w2 ⟨x,rfl,hx⟩;have Hx:=hid hx.out;clear hx)
 go_ret
 unfold qmm;exact⟨x,rfl,hid Hx.out⟩
theorem qob (F:Fix) (st:St) (μ:Spot→Nat) (w0:World) (b:Nat) (s:Spot) (w:World) (G:Nat→Prop) (hm:(b,s)∈st.ifs) (hC:CI F st μ w0 w) (hG:∀ g,G g→g<w.heap.size) (hI:IfS F st μ G w (μ s+1)):
  Calls prog 49 #[.pointer (some ⟨b,0,none⟩)] w fun e w'=>e = .returned (.pointer (some ⟨b,0,none⟩))∧∃ x:Nat×List Mn×(Nat→Prop),Hid (qlp F st x.2.2 w' b s x.1 x.2.1∧CExt F st μ (μ s+1) w w'∧CI F st μ w0 w'∧IfS F st μ x.2.2 w' (μ s+1)∧(∀ g,G g→x.2.2 g)∧(∀ g,x.2.2 g→G g∨w.heap.size≤g)∧∀ g,x.2.2 g→g<w'.heap.size):=by
 have HR:=hid (qp1 F st μ w0 b s w G hm hC hG hI);obtain⟨ra,rc,ea,ec,tso,hb,-⟩:=hI b s hm (zw _);have c5:=(qbr hb).2.2.2.1;have hl:=hb.lt;clear hC hG hI hb;go_enter func49,ntmps49
 go_wp2_with (go_at_call 82;refine HR.out.mono ?_;rintro e w2 ⟨x,rfl,hx⟩;have Hx:=hid hx.out;clear hx)
 go_ret
 exact⟨rfl,x,hid Hx.out⟩
structure Comp (F:Fix) (st:St) (μ:Spot→Nat) (w0 w:World) (G:Nat→Prop) (n:Nat):Prop where
 ci:CI F st μ w0 w
 lt:∀ g,G g→g<w.heap.size
 ok:∀ b s,(b,s)∈st.ifs→IfOk F st G w b s
 done:∀ i (hi:i<st.ifs.length),i<n→∃ ts,w.cell? ⟨st.ifs[i].1,6,none⟩=some (ptrV ts)
def CX (F:Fix) (st:St) (μ:Spot→Nat) (w w':World):Prop:=∃ k,CExt F st μ k w w'
theorem CX.refl (F:Fix) (st:St) (μ:Spot→Nat) (w:World):CX F st μ w w:=⟨0,CExt.refl _ _ _ _ _⟩
theorem CX.trans {st:St} {a b c:World} (h:CX F st μ a b) (h':CX F st μ b c):CX F st μ a c:=by
 obtain⟨k,h⟩:=h;obtain⟨k',h'⟩:=h';exact⟨max k k',(h.mono (Nat.le_max_left _ _)).trans (h'.mono (Nat.le_max_right _ _))⟩
theorem Comp.all {st:St} {G:Nat→Prop} (h:Comp F st μ w0 w G st.ifs.length) {b:Nat} {s:Spot} (hm:(b,s)∈st.ifs):∃ ts l,qlp F st G w b s ts l:=by
 obtain⟨i,hi,he⟩:=List.mem_iff_getElem.1 hm;obtain⟨ts,hc⟩:=h.done i hi hi;rw[he] at hc;obtain⟨ra,rc,ea,ec,tso,hb,h1|⟨ts',l,h1,h2⟩⟩:=h.ok b s hm
 ·subst h1;rw[(qbr hb).2.2.1] at hc;cases hc
 ·subst h1;exact⟨ts',l,ra,rc,ea,ec,hb,h2⟩
theorem Comp.call {st:St} {G:Nat→Prop} {i:Nat} (h:Comp F st μ w0 w G i) (hi:i<st.ifs.length):
  Calls prog 49 #[.pointer (some ⟨st.ifs[i].1,0,none⟩)] w fun e w'=>e = .returned (.pointer (some ⟨st.ifs[i].1,0,none⟩))∧Hid (CX F st μ w w'∧∃ G',Comp F st μ w0 w' G' (i+1)):=by
 obtain⟨b,s,he⟩:∃ b s,st.ifs[i]=(b,s):=⟨_,_,rfl⟩;have hm:(b,s)∈st.ifs:=he ▸ z8 hi;rw[he];refine(qob F st μ w0 b s w G hm h.ci h.lt fun b' s' hm' _=>h.ok b' s' hm').mono ?_;rintro e w' ⟨rfl,x,hx⟩;obtain⟨q1,q2,q3,q4,q5,q6,q7⟩:=hx.out;refine⟨rfl,hid ⟨⟨_,q2⟩,x.2.2,q3,q7,fun b' s' hm' => ?_,fun j hj hji => ?_⟩⟩
 ·by_cases hl:μ s'<μ s+1
  ·exact q4 b' s' hm' hl
  ·obtain⟨ra,rc,ea,ec,tso,hb,h1⟩:=h.ok b' s' hm';refine⟨ra,rc,ea,ec,tso,hb.apart q2.turns.apart fun⟨s'',g1,g2⟩ => ?_,?_⟩
   ·rw[h.ci.inj b' s'' s' g1 hm'] at g2;exact hl g2
   ·rcases h1 with h1|⟨ts,l,h1,h2⟩
    ·exact .inl h1
    ·exact .inr ⟨ts,l,h1,h2.ext h.ci q2 q5⟩
 ·by_cases e:j=i
  ·subst e;rw[he];obtain⟨ra,rc,ea,ec,hb,-⟩:=q1;exact⟨x.1,(qbr hb).2.2.1⟩
  ·obtain⟨ts,hc⟩:=h.done j hj (by omega);exact⟨ts,q2.six _ st.ifs[j].2 ts (z8 hj) hc⟩
def Fix.put (F:Fix) (d:Nat) (v:Value):Fix:={ F with tb:=fun k=>if k=d then some v else F.tb k }
theorem BOk.setTb (h:BOk F s w) {d:Nat} (hd:d<F.W.length) (hn:F.tb d=none) {v:Value} (hv:IsTy v):
  BOk (F.put d v) s (w.setCell ⟨F.tr,d,none⟩ v)∧RdLe (rdT w) (rdT (w.setCell ⟨F.tr,d,none⟩ v))∧qah (fun b=>b=F.tr) w (w.setCell ⟨F.tr,d,none⟩ v):=by
 obtain⟨ts,ht,hts⟩:=h.typ;have hk:ts[d]?=some .nilIface:=by rw[hts d hd,hn];rfl
 have hT:qah (fun b=>b=F.tr) w (w.setCell ⟨F.tr,d,none⟩ v):=qah.setCell (fun b=>b=F.tr) w (a:=⟨F.tr,d,none⟩) rfl v;have ha:=hT.apart;have hA:∀ {b:Nat} {T:TypeId} {cs:List Value},Blk w b T cs→T≠63→Blk (w.setCell ⟨F.tr,d,none⟩ v) b T cs:=fun hb hne=>hb.apart ha (hb.tne ht hne);have hsz:(w.setCell ⟨F.tr,d,none⟩ v).heap.size=w.heap.size:=by simp[World.setCell]
 refine⟨⟨hA h.bld (by decide),hA h.prB (by decide),hA h.pk0B (by decide),hA h.pk1B (by decide),⟨ts.set d v,ht.set d v,fun k hk' => ?_⟩,?_,qab h.ifr ha fun g hg e=>(h.rowT hg).choose_spec.tne ht (by decide) e,fun k f x e=>by rw[hsz];exact h.lt k f x e,h.inj,fun k u e => ?_,h.nd,fun x hx=>by rw[hsz];exact h.il x hx⟩,qqa ht hk v,hT⟩
 ·rw[List.getElem?_set];by_cases e:d=k
  ·subst e;have:d<ts.length:=(zjb.1 hk).1;simp[Fix.put,this]
  ·rw[if_neg e,hts k hk'];simp[Fix.put,Ne.symm e]
 ·obtain⟨os,q1,q2⟩:=h.obj;exact⟨os,hA q1 (by decide),q2⟩
 ·simp only[Fix.put] at e;split at e
  ·cases e;exact hv
  ·exact h.tbl k u e
theorem qs1 (W:Wd) (w2:World) (bb pr pk0 pk1 n:Nat) (hb:Blk w2 bb 77 [.slice (some ⟨pr,0,none⟩) 2 2,.slice none 0 0,.slice none 0 0,.slice none 0 0]) (hp:Blk w2 pr 71 [ptrV pk0,ptrV pk1]) (h0:Blk w2 pk0 128 [.string (qbo 0),.string (qbo 0)]) (h1:Blk w2 pk1 128 [.string (qbo 1),.string (qbo 1)]):
  BOk ⟨W,bb,pr,2,pk0,pk1,w2.heap.size+1,W.length,w2.heap.size,n,n,fun _=>none⟩ ⟨fun _=>none,none,0,[]⟩ ((((w2.setCell ⟨bb,2,none⟩ (.slice (some ⟨w2.heap.size,0,none⟩) n n)).setCell ⟨bb,1,none⟩ (.slice (some ⟨w2.heap.size+1,0,none⟩) W.length W.length)).alloc (.cells (Array.replicate n .nilIface) 68)).alloc (.cells (Array.replicate W.length .nilIface) 63)):=by
 have hA:∀ {k:Nat} {T:TypeId} {cs:List Value},Blk w2 k T cs→T≠77→Blk ((((w2.setCell ⟨bb,2,none⟩ (.slice (some ⟨w2.heap.size,0,none⟩) n n)).setCell ⟨bb,1,none⟩ (.slice (some ⟨w2.heap.size+1,0,none⟩) W.length W.length)).alloc (.cells (Array.replicate n .nilIface) 68)).alloc (.cells (Array.replicate W.length .nilIface) 63)) k T cs:=fun h hT=>
  (((h.apart (qag.setCell (fun b=>b=bb) w2 (a:=⟨bb,2,none⟩) rfl _) (h.tne hb hT)).apart (qag.setCell (fun b=>b=bb) _ (a:=⟨bb,1,none⟩) rfl _) (h.tne hb hT)).alloc _).alloc _
 refine⟨((((hb.set 2 _).set 1 _).alloc _).alloc _),hA hp (by decide),hA h0 (by decide),hA h1 (by decide),⟨List.replicate W.length .nilIface,?_,fun d hd=>by simp[hd]⟩,⟨List.replicate n .nilIface,?_,fun k hk=>by simp[hk,objV]⟩,zdb _ _ _ _,fun k f x e=>(by cases e),fun j k x y e=>(by cases e),fun d v e=>(by cases e),List.nodup_nil,fun x hx=>(by cases hx)⟩
 ·have:=qbb (w:=(((w2.setCell ⟨bb,2,none⟩ (.slice (some ⟨w2.heap.size,0,none⟩) n n)).setCell ⟨bb,1,none⟩ (.slice (some ⟨w2.heap.size+1,0,none⟩) W.length W.length)).alloc (.cells (Array.replicate n .nilIface) 68))) (b:=w2.heap.size+1) (by simp[World.setCell]) 63 (List.replicate W.length .nilIface);simpa using this
 ·have:=(qbb (w:=((w2.setCell ⟨bb,2,none⟩ (.slice (some ⟨w2.heap.size,0,none⟩) n n)).setCell ⟨bb,1,none⟩ (.slice (some ⟨w2.heap.size+1,0,none⟩) W.length W.length))) (b:=w2.heap.size) (by simp[World.setCell]) 68 (List.replicate n .nilIface)).alloc (.cells (Array.replicate W.length .nilIface) 63);simpa using this
def qcp (W:Wd):Prop:=∀ d,d<W.length→qam W d true (dc W d).of
theorem qcp.get (h:qcp W) {d:Nat} (hd:d<W.length) (hk:(dc W d).of.kind=1):0≤(dc W d).of.num∧(dc W d).of.num<W.length∧d<(dc W d).of.num:=by
 obtain⟨-,-,-,-,h1,h2,h3⟩:=(h d hd).k1 hk;rcases h3 with h3|⟨h3,-⟩
 ·exact⟨h1,h2,h3⟩
 ·cases h3
def qdw (W:Wd) (s:Spot):Prop:=s.of.kind=1→0≤s.of.num∧s.of.num<W.length
theorem qjp (h:qcp W):∀ (j f f':Nat) (s:Spot),(s.of.kind=1→0≤s.of.num∧s.of.num<W.length∧W.length - s.of.num.toNat≤j)→j≤f→j≤f'→qb9 W f s=qb9 W f' s
 | 0,f,f',s,hs,_,_=>by
  have hk:¬ s.of.kind=1:=fun hk=>by have:=hs hk;omega
  have e:∀ f,qb9 W f s=s:=fun f=>by
   cases f with
   | zero=>rfl
   | succ f=>simp only[qb9];rw[if_neg hk]
  rw[e,e]
 | j+1,f+1,f'+1,s,hs,h1,h2=>by
  simp only[qb9];by_cases hk:s.of.kind=1
  ·rw[if_pos hk,if_pos hk];obtain⟨q1,q2,q3⟩:=hs hk;refine qjp h j f f' _ (fun hk' => ?_) (by omega) (by omega);obtain⟨r1,r2,r3⟩:=h.get (by omega:s.of.num.toNat<W.length) hk';exact⟨r1,r2,by simp only[qad];omega⟩
  ·rw[if_neg hk,if_neg hk]
theorem qdu {s:Spot} (hk:s.of.kind≠1):under W s=s:=by
 unfold under;simp only[qb9];rw[if_neg hk]
theorem qdg (h:qcp W) {s:Spot} (hk:s.of.kind=1) (hs:qdw W s):under W s=under W (qad W s.of.num.toNat):=by
 obtain⟨q1,q2⟩:=hs hk;unfold under;rw[show qb9 W (W.length+1) s=qb9 W W.length (qad W s.of.num.toNat) by simp only[qb9];rw[if_pos hk]];refine qjp h W.length _ _ _ (fun hk' => ?_) (zl _) (Nat.le_succ _);obtain⟨r1,r2,r3⟩:=h.get (by omega:s.of.num.toNat<W.length) hk';exact⟨r1,r2,by omega⟩
theorem qd9 (h:qcp W) {d:Nat} (hd:d<W.length):qdw W (qad W d):=fun hk=>by
 obtain⟨r1,r2,-⟩:=h.get hd hk;exact⟨r1,r2⟩
theorem qj6 (h:qcp W):∀ (j f:Nat) (s:Spot),(s.of.kind=1→0≤s.of.num∧s.of.num<W.length∧W.length - s.of.num.toNat≤j)→j≤f→(qb9 W f s).of.kind≠1
 | 0,f,s,hs,_=>by
  have hk:¬ s.of.kind=1:=fun hk=>by have:=hs hk;omega
  cases f with
  | zero=>exact hk
  | succ f=>simp only[qb9];rw[if_neg hk];exact hk
 | j+1,f+1,s,hs,h1=>by
  simp only[qb9];by_cases hk:s.of.kind=1
  ·rw[if_pos hk];obtain⟨q1,q2,q3⟩:=hs hk;refine qj6 h j f _ (fun hk' => ?_) (by omega);obtain⟨r1,r2,r3⟩:=h.get (by omega:s.of.num.toNat<W.length) hk';exact⟨r1,r2,by simp only[qad];omega⟩
  ·rw[if_neg hk];exact hk
theorem qit (h:qcp W) {s:Spot} (hs:qdw W s):(under W s).of.kind≠1:=by
 refine qj6 h (W.length+1) _ _ (fun hk => ?_) (zl _);obtain⟨q1,q2⟩:=hs hk;exact⟨q1,q2,by omega⟩
theorem qj8 (h:qcp W):∀ (j f f':Nat) (s:Spot),(s.of.kind=1→0≤s.of.num∧s.of.num<W.length∧W.length - s.of.num.toNat≤j)→j≤f→j≤f'→qfy W f s=qfy W f' s
 | 0,f,f',s,hs,_,_=>by
  have hk:¬ (s.of.kind=1∧(dc W s.of.num.toNat).alias=true):=fun hk=>by have:=hs hk.1;omega
  have e:∀ f,qfy W f s=s:=fun f=>by
   cases f with
   | zero=>rfl
   | succ f=>simp only[qfy];rw[if_neg hk]
  rw[e,e]
 | j+1,f+1,f'+1,s,hs,h1,h2=>by
  simp only[qfy];by_cases hk:s.of.kind=1∧(dc W s.of.num.toNat).alias=true
  ·rw[if_pos hk,if_pos hk];obtain⟨q1,q2,q3⟩:=hs hk.1;refine qj8 h j f f' _ (fun hk' => ?_) (by omega) (by omega);obtain⟨r1,r2,r3⟩:=h.get (by omega:s.of.num.toNat<W.length) hk';exact⟨r1,r2,by simp only[qad];omega⟩
  ·rw[if_neg hk,if_neg hk]
theorem qbg {s:Spot} (hk:¬ (s.of.kind=1∧(dc W s.of.num.toNat).alias=true)):plain W s=s:=by
 unfold plain;simp only[qfy];rw[if_neg hk]
theorem qea (h:qcp W) {s:Spot} (hk:s.of.kind=1) (ha:(dc W s.of.num.toNat).alias=true) (hs:qdw W s):plain W s=plain W (qad W s.of.num.toNat):=by
 obtain⟨q1,q2⟩:=hs hk;unfold plain;rw[show qfy W (W.length+1) s=qfy W W.length (qad W s.of.num.toNat) by simp only[qfy];rw[if_pos ⟨hk,ha⟩]];refine qj8 h W.length _ _ _ (fun hk' => ?_) (zl _) (Nat.le_succ _);obtain⟨r1,r2,r3⟩:=h.get (by omega:s.of.num.toNat<W.length) hk';exact⟨r1,r2,by omega⟩
theorem qnp (h:qcp W) (P:Spot→Prop) (h0:∀ s,s.of.kind≠1→P s) (h1:∀ s,s.of.kind=1→qdw W s→P (qad W s.of.num.toNat)→P s):∀ (n:Nat) (s:Spot),qdw W s→(s.of.kind=1→W.length - s.of.num.toNat≤n)→P s
 | 0,s,hs,hn=>by
  by_cases hk:s.of.kind=1
  ·have:=hn hk;have:=hs hk;omega
  ·exact h0 s hk
 | n+1,s,hs,hn=>by
  by_cases hk:s.of.kind=1
  ·obtain⟨q1,q2⟩:=hs hk;have q3:=hn hk;refine h1 s hk hs (qnp h P h0 h1 n _ (qd9 h (by omega)) fun hk' => ?_);obtain⟨r1,r2,r3⟩:=h.get (by omega:s.of.num.toNat<W.length) hk';simp only[qad];omega
  ·exact h0 s hk
theorem byval_ind' (h:qcp W) (P:Spot→Prop) (h0:∀ s,s.of.kind≠1→P s) (h1:∀ s,s.of.kind=1→qdw W s→P (qad W s.of.num.toNat)→P s) (s:Spot) (hs:qdw W s):P s:=
 qnp h P h0 h1 W.length s hs fun hk=>by have:=hs hk;omega
theorem qjj (h:qcp W) {s:Spot} (hs:qdw W s):qdw W (plain W s)∧((plain W s).of.kind=1→(dc W (plain W s).of.num.toNat).alias=false):=by
 refine byval_ind' h (fun s=>qdw W (plain W s)∧((plain W s).of.kind=1→(dc W (plain W s).of.num.toNat).alias=false)) (fun s hk => ?_) (fun s hk hs ih => ?_) s hs
 ·rw[qbg (fun e=>hk e.1)];exact⟨fun e=>absurd e hk,fun e=>absurd e hk⟩
 ·cases ha:(dc W s.of.num.toNat).alias with
  | true=>rw[qea h hk ha hs];exact ih
  | false=>rw[qbg (fun e=>by rw[ha] at e;cases e.2)];exact⟨hs,fun _=>ha⟩
theorem qfm (h:qcp W) {s:Spot} (hs:qdw W s):under W (plain W s)=under W s:=by
 refine byval_ind' h (fun s=>under W (plain W s)=under W s) (fun s hk => ?_) (fun s hk hs ih => ?_) s hs
 ·rw[qbg (fun e=>hk e.1)]
 ·cases ha:(dc W s.of.num.toNat).alias with
  | true=>rw[qea h hk ha hs,qdg h hk hs];exact ih
  | false=>rw[qbg (fun e=>by rw[ha] at e;cases e.2)]
mutual
def oe (P:Nat→Nat):Ty→Nat
 | .mk k n _ _ _ em=>if k=1 then P n.toNat else 1+oeT P em
def oeT (P:Nat→Nat):List Ty→Nat
 | []=>0
 | t::r=>oe P t+oeT P r
end
theorem qsn (P:Nat→Nat):∀ (l:List Ty) (i:Nat) (hi:i<l.length),oe P l[i]≤oeT P l
 | t::r,0,_=>by simp[oeT]
 | t::r,i+1,hi=>by
  have:=qsn P r i (by simpa using hi);simp only[zh,oeT];omega
def PN (W:Wd):Nat→Nat→Nat
 | 0,_=>0
 | f+1,d=>oe (PN W f) (dc W d).of
mutual
theorem qj7 (e:Int) (P Q:Nat→Nat) (h:∀ n:Nat,n<W.length→e<n→P n=Q n):∀ (t:Ty),qam W e true t→oe P t=oe Q t
 | .mk k n el fs ms em,hf=>by
  simp only[oe];by_cases hk:k=1
  ·rw[if_pos hk,if_pos hk];obtain⟨-,-,-,-,h1,h2,h3⟩:=hf.k1 hk;simp only[Ty.num] at h1 h2 h3;rcases h3 with h3|⟨h3,-⟩
   ·exact h _ (by omega) (by omega)
   ·cases h3
  ·rw[if_neg hk,if_neg hk];by_cases h5:k=5
   ·obtain⟨-,-,-,-,h6⟩:=hf.k5 h5;rw[qll e P Q h em h6]
   ·have hem:em=[]:=by
     simp only[qam] at hf;rcases hf with ⟨_,_,_,_,h,_⟩|⟨h,_⟩|⟨_,_,_,_,h,_⟩|⟨_,_,_,_,h,_⟩|⟨h,_⟩
     ·exact h
     ·exact absurd h hk
     ·exact h
     ·exact h
     ·exact absurd h h5
    rw[hem];simp[oeT]
theorem qll (e:Int) (P Q:Nat→Nat) (h:∀ n:Nat,n<W.length→e<n→P n=Q n):∀ (l:List Ty),qbi W e l→oeT P l=oeT Q l
 | [],_=>by simp[oeT]
 | t::r,hf=>by
  simp only[qbi] at hf;simp only[oeT];rw[qj7 e P Q h t hf.1.2,qll e P Q h r hf.2]
end
theorem qua (h:qcp W):∀ (j f f' d:Nat),d<W.length→W.length - d≤j→j≤f→j≤f'→PN W f d=PN W f' d
 | 0,_,_,d,hd,hj,_,_=>by omega
 | j+1,f+1,f'+1,d,hd,hj,h1,h2=>by
  simp only[PN];exact qj7 d _ _ (fun n hn hdn=>qua h j f f' n hn (by omega) (by omega) (by omega)) _ (h d hd)
def dep (W:Wd) (d:Nat):Nat:=PN W (W.length+1) d
theorem dep_eq (h:qcp W) {d:Nat} (hd:d<W.length):dep W d=oe (dep W) (dc W d).of:=by
 unfold dep;rw[show PN W (W.length+1) d=oe (PN W W.length) (dc W d).of by simp only[PN]];refine qj7 d _ _ (fun n hn hdn => ?_) _ (h d hd);exact qua h (W.length) _ _ n hn (by omega) (zl _) (Nat.le_succ _)
def muI (W:Wd) (s:Spot):Nat:=oe (dep W) s.of
theorem qvk (h:qcp W) {s:Spot} (hs:qdw W s):muI W (under W s)=muI W s:=by
 refine byval_ind' h (fun s=>muI W (under W s)=muI W s) (fun s hk=>by rw[qdu hk]) (fun s hk hs ih => ?_) s hs;obtain⟨q1,q2⟩:=hs hk;rw[qdg h hk hs,ih];have e1:muI W s=dep W s.of.num.toNat:=by
  obtain⟨⟨k,n,el,fs,ms,em⟩,at_,p⟩:=s;simp only[Ty.kind,Ty.num] at *;simp only[muI,oe];rw[if_pos hk]
 rw[e1,dep_eq h (by omega)];rfl
theorem qbi.get2 {d:Int}:∀ {l:List Ty},qbi W d l→∀ i (hi:i<l.length),(l[i].kind=1∨l[i].kind=5)∧qam W d true l[i]
 | [],_,i,hi=>by simp at hi
 | t::r,h,0,_=>by simp only[qbi] at h;exact h.1
 | t::r,h,i+1,hi=>by simp only[qbi] at h;exact qbi.get2 h.2 i (by simpa using hi)
theorem qam.numOk {d:Int} {val:Bool} {s:Spot} (h:qam W d val s.of):qdw W s:=fun hk=>h.num1 hk
theorem qwv (h:qcp W) {s:Spot} {d:Int} (hk:s.of.kind=5) (hf:qbi W d s.of.embeds) {i:Nat} (hi:i<s.of.embeds.length):muI W (under W (qav s i))<muI W s:=by
 have e1:(qav s i).of=s.of.embeds[i]:=by simp[qav,zv,zr hi]
 have h1:=(hf.get2 i hi).2;rw[qvk h (s:=qav s i) (by rw[← e1] at h1;exact h1.numOk)];unfold muI;rw[e1];have h2:=qsn (dep W) s.of.embeds i hi;obtain⟨⟨k,n,el,fs,ms,em⟩,at_,p⟩:=s;simp only[Ty.kind,Ty.embeds] at *;simp only[oe];rw[if_neg (by omega)];omega
def Fix.with (F:Fix) (tb:Nat→Option Value):Fix:=⟨F.W,F.bb,F.pr,F.pc,F.pk0,F.pk1,F.tr,F.tc,F.ob0,F.oc,F.N,tb⟩
def tbPut (tb:Nat→Option Value) (d:Nat) (v:Value):Nat→Option Value:=fun k=>if k=d then some v else tb k
def fix0 (W:Wd) (bb pr pk0 pk1 tr ob0 n:Nat):Fix:=⟨W,bb,pr,2,pk0,pk1,tr,W.length,ob0,n,n,fun _=>none⟩
theorem Fix.with_put (F:Fix) (tb:Nat→Option Value) (d:Nat) (v:Value):(F.with tb).put d v=F.with (tbPut tb d v):=rfl
abbrev qdr (b:Nat):Value := .iface 98 (ptrV b)
abbrev qjx (b:Nat):Value := .iface 103 (ptrV b)
structure qp0 (F:Fix) (w:World) (d b tn:Nat):Prop where
 tb:F.tb d=some (qdr b)
 tnB:Blk w tn 144 [.int .i64 0,ptrV (F.pk (dc F.W d).pkg),.string (qas (dc F.W d).name),qdr b]
 blk:Blk w b 140 (qhb tn true 0 .nilIface .nilIface (.slice none 0 0))
def qto (F:Fix) (s:St) (r:Nat→Nat→Option Value) (d j x:Nat):Prop:=s.ob (start F.W d+j)=some (true,x)∧qel r x (F.pk (dc F.W d).pkg) ((dc F.W d).methods.getD j ⟨0,false⟩).name ((dc F.W d).methods.getD j ⟨0,false⟩).ptr
structure qbz (F:Fix) (s:St) (w:World) (d b tn:Nat) (U:TypeId) (ux:Addr) (ra:Option Addr) (rc:Nat) (fs:List Nat):Prop where
 tb:F.tb d=some (qdr b)
 tnB:Blk w tn 144 [.int .i64 0,ptrV (F.pk (dc F.W d).pkg),.string (qas (dc F.W d).name),qdr b]
 blk:Blk w b 140 [.pointer none,ptrV tn,.bool false,.int .i32 0,.int .u32 0,.int .u32 15,.iface U (.pointer (some ux)),.iface U (.pointer (some ux)),.bool false,.slice ra (dc F.W d).methods.length rc]
 lit:qi6 (.iface U (.pointer (some ux)))
 den:Den (gOf F s (rdT w)) (under F.W (qad F.W d)) (.iface U (.pointer (some ux)))
 len:fs.length=(dc F.W d).methods.length
 row:w.ownsRow 0 106 1 (.slice ra (dc F.W d).methods.length rc) (dc F.W d).methods.length (qa7 fs)
 ms:∀ j (hj:j<fs.length),qto F s (rdT w) d j fs[j]
def qev (w:World) (u:Value):Nat→Value→Prop
 | 0,v=>v=u
 | n+1,v=>∃ (al:Nat) (v' a b z:Value),v=qjx al∧Blk w al 182 [a,b,v',z]∧qev w u n v'
theorem qev.chain {u:Value}:∀ {n:Nat} {v:Value},qev w u n v→qjh w u n v
 | 0,_,h=>h
 | n+1,v,⟨al,v',a,b,z,e,h1,h2⟩=>⟨al,v',e,by rw[h1.cell];rfl,qev.chain h2⟩
theorem qev.apart {S:Nat→Prop} (ha:qag S w w') (hS:∀ b cs,Blk w b 182 cs→¬ S b):∀ {n:Nat} {v:Value},qev w u n v→qev w' u n v
 | 0,_,h=>h
 | n+1,v,⟨al,v',a,b,z,e,h1,h2⟩=>⟨al,v',a,b,z,e,h1.apart ha (hS _ _ h1),qev.apart ha hS h2⟩
structure qkf (F:Fix) (s:St) (w:World) (d al tn:Nat) (rhs u:Value) (n:Nat):Prop where
 tb:F.tb d=some (qjx al)
 blk:Blk w al 182 [ptrV tn,ptrV al,rhs,u]
 nal:qgl u
 chain:qev w u n (qjx al)
 den:Den (gOf F s (rdT w)) (plain F.W (qad F.W d)) u
def DeclT (T:TypeId):Prop:=T=144∨T=140∨T=182∨T=106∨T=248∨T=273∨T=275∨T=175
structure Nxt (F F':Fix) (s s':St) (w w':World) (b0:Nat→Prop):Prop where
 W:F'.W=F.W
 pk:F'.pk=F.pk
 tb:∀ d v,F.tb d=some v→F'.tb d=some v
 le:G.Le (gOf F s (rdT w)) (gOf F' s' (rdT w'))
 ap:∃ S,qag S w w'∧∀ b T cs,Blk w b T cs→DeclT T→¬ b0 b→¬ S b
theorem qp0.next (h:qp0 F w d b tn) (n:Nxt F F' s s' w w' b0) (hb:¬ b0 b) (ht:¬ b0 tn):qp0 F' w' d b tn:=by
 obtain⟨S,ha,hS⟩:=n.ap;exact⟨n.tb _ _ h.tb,by rw[n.W,n.pk];exact h.tnB.apart ha (hS _ _ _ h.tnB (.inl rfl) ht),h.blk.apart ha (hS _ _ _ h.blk (.inr (.inl rfl)) hb)⟩
theorem qbz.next (h:qbz F s w d b tn U ux ra rc fs) (n:Nxt F F' s s' w w' b0) (hb:∀ x T cs,Blk w x T cs→DeclT T→b0 x→x≠b∧x≠tn∧T≠106):qbz F' s' w' d b tn U ux ra rc fs:=by
 obtain⟨S,ha,hS⟩:=n.ap;refine⟨n.tb _ _ h.tb,?_,?_,h.lit,?_,?_,?_,fun j hj => ?_⟩
 ·rw[n.W,n.pk];exact h.tnB.apart ha (hS _ _ _ h.tnB (.inl rfl) fun e=>(hb _ _ _ h.tnB (.inl rfl) e).2.1 rfl)
 ·rw[n.W];exact h.blk.apart ha (hS _ _ _ h.blk (.inr (.inl rfl)) fun e=>(hb _ _ _ h.blk (.inr (.inl rfl)) e).1 rfl)
 ·rw[n.W];exact Den.mono n.le h.den
 ·rw[n.W];exact h.len
 ·rw[n.W];refine qab h.row ha fun g hg => ?_;obtain⟨cs,hc⟩:=qaf h.row hg;exact hS _ _ _ hc (.inr (.inr (.inr (.inl rfl)))) fun e=>(hb _ _ _ hc (.inr (.inr (.inr (.inl rfl)))) e).2.2 rfl
 ·obtain⟨q1,q2⟩:=h.ms j hj;unfold qto;rw[n.W,n.pk];exact⟨n.le.ob _ _ q1,q2.mono n.le.rd⟩
theorem qkf.next {d al tn:Nat} {rhs u:Value} (h:qkf F s w d al tn rhs u k) (n:Nxt F F' s s' w w' b0) (hb:∀ x cs,Blk w x 182 cs→¬ b0 x):qkf F' s' w' d al tn rhs u k:=by
 obtain⟨S,ha,hS⟩:=n.ap;exact⟨n.tb _ _ h.tb,h.blk.apart ha (hS _ _ _ h.blk (.inr (.inr (.inl rfl))) (hb _ _ h.blk)),h.nal,h.chain.apart ha fun b cs hc=>hS _ _ _ hc (.inr (.inr (.inl rfl))) (hb _ _ hc),by rw[n.W];exact Den.mono n.le h.den⟩
theorem qg8.next (h:qg8 w x) (n:Nxt F F' s s' w w' b0) (hb:∀ b T cs,Blk w b T cs→T≠140→¬ b0 b):qg8 w' x:=by
 obtain⟨S,ha,hS⟩:=n.ap;exact h.apart ha fun b T cs hc hT=>hS b T cs hc (.inr (.inr (.inr (.inr hT)))) (hb b T cs hc (by rcases hT with rfl|rfl|rfl|rfl <;> decide))
def qe5 (F:Fix) (s:St) (w:World) (d:Nat):Prop:=if(dc F.W d).alias=true then ∃ al tn rhs u n,qkf F s w d al tn rhs u n else ∃ b tn U ux ra rc fs,qbz F s w d b tn U ux ra rc fs
structure LM (F:Fix) (w0:World) (raw set:Nat→Prop) (s:St) (w:World):Prop where
 ok:BOk F s w
 base:Base F w0 s w
 tr:w0.heap.size≤F.tr
 lt:∀ d T x,F.tb d=some (.iface T (.pointer (some x)))→x.block<w.heap.size
 ge:∀ d T x,F.tb d=some (.iface T (.pointer (some x)))→w0.heap.size≤x.block
 inj:∀ d e v,F.tb d=some v→F.tb e=some v→d=e
 rawOk:∀ d,d<F.W.length→raw d→(dc F.W d).alias=false∧∃ b tn,qp0 F w d b tn
 setOk:∀ d,d<F.W.length→set d→qe5 F s w d
 big:∀ d v,F.tb d=some v→d<F.W.length
 mem:Mems (gOf F s (rdT w)) []
 raws:∀ x∈s.ifs,w0.heap.size≤x.1∧qg8 w x.1
structure LL (F:Fix) (w0:World) (raw set:Nat→Prop) (s:St) (w:World):Prop extends LM F w0 raw set s w where
 non:∀ d,¬ raw d→¬ set d→F.tb d=none
theorem qe5.next (h:qe5 F s w d) (n:Nxt F F' s s' w w' fun _=>False):qe5 F' s' w' d:=by
 unfold qe5 at *;rw[n.W];split at h
 next ha=>obtain⟨al,tn,rhs,u,k,h⟩:=h;rw[if_pos ha];exact⟨al,tn,rhs,u,k,h.next n fun _ _ _ h=>h⟩
 next ha=>obtain⟨b,tn,U,ux,ra,rc,fs,h⟩:=h;rw[if_neg ha];exact⟨b,tn,U,ux,ra,rc,fs,h.next n fun _ _ _ _ _ h=>h.elim⟩
theorem Nxt.ext (hok:BOk F s w) (h:BExt F s w s' w' lo hi):Nxt F F s s' w w' fun _=>False:=
 ⟨rfl,rfl,fun _ _ h=>h,h.le h.rd,_,h.turns.apart,fun b T cs hb hT _=>hok.notTurned hb (by rcases hT with rfl|rfl|rfl|rfl|rfl|rfl|rfl|rfl <;> decide) (by rcases hT with rfl|rfl|rfl|rfl|rfl|rfl|rfl|rfl <;> decide) (by rcases hT with rfl|rfl|rfl|rfl|rfl|rfl|rfl|rfl <;> decide)⟩
theorem LM.ext {raw set:Nat→Prop} (h:LM F w0 raw set s w) (k:BExt F s w s' w' lo hi) (hm:Mems (gOf F s' (rdT w')) s.ifs):LM F w0 raw set s' w':=by
 have n:=Nxt.ext h.ok k;refine⟨k.ok,h.base.ext k,h.tr,fun d T x e=>by have:=h.lt d T x e;have:=k.size;omega,h.ge,h.inj,fun d hd hr => ?_,fun d hd hs=>(h.setOk d hd hs).next n,h.big,?_,fun x hx => ?_⟩
 ·obtain⟨ha,b,tn,q⟩:=h.rawOk d hd hr;exact⟨ha,b,tn,q.next n (fun h=>h) (fun h=>h)⟩
 ·exact Mems.next h.mem hm n.le (G.Le.refl _) rfl
 ·obtain⟨l,e,q⟩:=k.ifs;rw[e] at hx;rcases zib.1 hx with hx|hx
  ·exact⟨(h.raws x hx).1,(h.raws x hx).2.turned h.ok k.turns.apart⟩
  ·exact⟨by have:=(q x hx).1;have:=h.base.below.size;omega,(q x hx).2⟩
theorem LL.ext {raw set:Nat→Prop} (h:LL F w0 raw set s w) (k:BExt F s w s' w' lo hi) (hm:Mems (gOf F s' (rdT w')) s.ifs):LL F w0 raw set s' w':=⟨h.toLM.ext k hm,h.non⟩
theorem LL.keep {raw set:Nat→Prop} (h:LL F w0 raw set s w) (hb:Below w.heap.size w w'):LL F w0 raw set s w':=
 h.ext (BExt.keep h.ok hb 0) fun x hx => .inl hx
theorem LL.imp {raw set raw' set':Nat→Prop} (h:LL F w0 raw set s w) (h1:∀ d,d<F.W.length→raw' d→raw d) (h2:∀ d,d<F.W.length→set' d→set d) (h3:∀ d,d<F.W.length→raw d∨set d→raw' d∨set' d):LL F w0 raw' set' s w:=
 ⟨⟨h.ok,h.base,h.tr,h.lt,h.ge,h.inj,fun d hd hr=>h.rawOk d hd (h1 d hd hr),fun d hd hs=>h.setOk d hd (h2 d hd hs),h.big,h.mem,h.raws⟩,fun d hr hs=>(by
  cases e:F.tb d with
  | none=>rfl
  | some v=>
   have hd:=h.big d v e;rw[h.non d (fun hq=>by rcases h3 d hd (.inl hq) with q|q;exact hr q;exact hs q) (fun hq=>by rcases h3 d hd (.inr hq) with q|q;exact hr q;exact hs q)] at e;cases e)⟩
theorem BOk.typc (h:BOk F s w) {d:Nat} (hd:d<F.W.length) (hn:F.tb d=none):w.cell? ⟨F.tr,d,none⟩=some .nilIface∧w.frozen? ⟨F.tr,d,none⟩=false:=by
 obtain⟨ts,t1,t2⟩:=h.typ;exact⟨by rw[t1.cell,t2 d hd,hn];rfl,t1.soft d⟩
theorem BOk.typv (h:BOk F s w) {d:Nat} (hd:d<F.W.length) {v:Value} (hn:F.tb d=some v):w.cell? ⟨F.tr,d,none⟩=some v:=by
 obtain⟨ts,t1,t2⟩:=h.typ;rw[t1.cell,t2 d hd,hn];rfl
theorem nxt_put (hok:BOk F s w) {d:Nat} (hn:F.tb d=none) {v:Value} (hr:RdLe (rdT w) (rdT (w.setCell ⟨F.tr,d,none⟩ v))):Nxt F (F.put d v) s s w (w.setCell ⟨F.tr,d,none⟩ v) fun _=>False:=by
 obtain⟨ts,t1,-⟩:=hok.typ;refine⟨rfl,rfl,fun e u he => ?_,⟨rfl,rfl,fun e u he => ?_,fun _ _ h=>h,fun _ h=>h,hr⟩,_,qag.setCell (fun b=>b=F.tr) w (a:=⟨F.tr,d,none⟩) rfl _,fun b T cs hb hT _ e => ?_⟩
 ·show(if e=d then some v else F.tb e)=some u;rw[if_neg (by rintro rfl;rw[hn] at he;cases he)];exact he
 ·show(if e=d then some v else F.tb e)=some u;rw[if_neg (by rintro rfl;change F.tb _=_ at he;rw[hn] at he;cases he)];exact he
 ·exact hb.tne t1 (by rcases hT with rfl|rfl|rfl|rfl|rfl|rfl|rfl|rfl <;> decide) e
theorem LL.put {raw set raw' set':Nat→Prop} (h:LL F w0 raw set s w) {d:Nat} (hd:d<F.W.length) (hr:¬ raw d) (hs:¬ set d) (T:TypeId) (x:Nat) (hx:x<w.heap.size) (hge:w0.heap.size≤x) (hnew:∀ e T y,F.tb e=some (.iface T (.pointer (some y)))→y.block≠x)
  (hraw:∀ e,e<F.W.length→raw' e→raw e∨e=d∧(dc F.W d).alias=false∧T=98∧∃ tn,Blk w tn 144 [.int .i64 0,ptrV (F.pk (dc F.W d).pkg),.string (qas (dc F.W d).name),qdr x]∧Blk w x 140 (qhb tn true 0 .nilIface .nilIface (.slice none 0 0)))
  (hset:∀ e,e<F.W.length→set' e→set e∨e=d∧∀ (F':Fix) (w':World),F'.tb d=some (.iface T (ptrV x))→Nxt F F' s s w w' (fun _=>False)→qe5 F' s w' d)
  (hcov:∀ e,e<F.W.length→raw e∨set e∨e=d→raw' e∨set' e):
  LL (F.put d (.iface T (ptrV x))) w0 raw' set' s (w.setCell ⟨F.tr,d,none⟩ (.iface T (ptrV x))):=by
 have hn:=h.non d hr hs;obtain⟨q1,q2,q3⟩:=h.ok.setTb hd hn (v := .iface T (ptrV x)) ⟨T,_,rfl⟩;have n:=nxt_put h.ok hn q2;have htb:∀ e,(F.put d (.iface T (ptrV x))).tb e=if e=d then some (.iface T (ptrV x)) else F.tb e:=fun _=>rfl
 have hsz:(w.setCell ⟨F.tr,d,none⟩ (.iface T (ptrV x))).heap.size=w.heap.size:=by simp[World.setCell]
 obtain⟨ts,t1,-⟩:=h.ok.typ;refine⟨⟨q1,⟨h.base.below.trans (q3.below h.base.below.size fun b e => ?_),h.base.bb,h.base.ob,h.base.row⟩,h.tr,fun e U y he => ?_,fun e U y he => ?_,fun e f v he hf => ?_,fun e he hr' => ?_,fun e he hs' => ?_,fun e v he => ?_,h.mem.mono n.le rfl,fun x hx=>⟨(h.raws x hx).1,(h.raws x hx).2.next n fun _ _ _ _ _ h=>h⟩⟩,fun e hr' hs' => ?_⟩
 ·rw[e];exact h.tr
 ·rw[htb] at he;rw[hsz];split at he
  ·cases he;exact hx
  ·exact h.lt e U y he
 ·rw[htb] at he;split at he
  ·cases he;exact hge
  ·exact h.ge e U y he
 ·rw[htb] at he hf;split at he <;> split at hf
  ·omega
  ·cases he;exact absurd rfl (hnew _ _ _ hf)
  ·cases hf;exact absurd rfl (hnew _ _ _ he)
  ·exact h.inj e f v he hf
 ·rcases hraw e he hr' with hq|⟨rfl,ha,rfl,tn,b1,b2⟩
  ·obtain⟨ha,b,tn,q⟩:=h.rawOk e he hq;exact⟨ha,b,tn,q.next n (fun h=>h) (fun h=>h)⟩
  ·obtain⟨S,hA,hS⟩:=n.ap;exact⟨ha,x,tn,by rw[htb,if_pos rfl],b1.apart hA (hS _ _ _ b1 (.inl rfl) fun h=>h),b2.apart hA (hS _ _ _ b2 (.inr (.inl rfl)) fun h=>h)⟩
 ·rcases hset e he hs' with hq|⟨rfl,hq⟩
  ·exact(h.setOk e he hq).next n
  ·exact hq _ _ (by rw[htb,if_pos rfl]) n
 ·rw[htb] at he;split at he
  next e2=>subst e2;exact hd
  ·exact h.big e v he
 ·rw[htb];by_cases hed:e=d
  ·subst hed;rcases hcov e hd (.inr (.inr rfl)) with q|q
   ·exact absurd q hr'
   ·exact absurd q hs'
  ·rw[if_neg hed];cases e2:F.tb e with
   | none=>rfl
   | some v=>
    have hl:=h.big e v e2;rw[h.non e (fun q=>by rcases hcov e hl (.inl q) with q|q;exact hr' q;exact hs' q) (fun q=>by rcases hcov e hl (.inr (.inl q)) with q|q;exact hr' q;exact hs' q)] at e2;cases e2
def Side (W:Wd) (ra:Option Addr) (rc ob:Nat) (ocs:List Value) (w:World):Prop:=w.ownsRow 0 3 1 (.slice ra W.length rc) W.length (qbh ((List.range W.length).map (start W)))∧Blk w ob 29 ocs
theorem Side.apart {rc ob:Nat} {S:Nat→Prop} (h:Side W ra rc ob ocs w) (ha:qag S w w') (hS:∀ b T cs,Blk w b T cs→T=3∨T=29→¬ S b):Side W ra rc ob ocs w':=
 ⟨qab h.1 ha fun g hg=>by obtain⟨cs,hc⟩:=qaf h.1 hg;exact hS _ _ _ hc (.inl rfl),h.2.apart ha (hS _ _ _ h.2 (.inr rfl))⟩
theorem Side.keep {rc ob:Nat} (h:Side W ra rc ob ocs w) (hb:Below w.heap.size w w'):Side W ra rc ob ocs w':=h.apart (S:=fun _=>False) (qag.keep hb) fun _ _ _ _ _ h=>h
theorem Side.turned {rc ob:Nat} (h:Side W ra rc ob ocs w) (hok:BOk F s w) (ha:qag (qa1 F s) w w'):Side W ra rc ob ocs w':=
 h.apart ha fun b T cs hb hT=>hok.notTurned hb (by rcases hT with rfl|rfl <;> decide) (by rcases hT with rfl|rfl <;> decide) (by rcases hT with rfl|rfl <;> decide)
theorem Side.row {rc ob:Nat} (h:Side W ra rc ob ocs w) (hl:0<W.length):∃ g,ra=some ⟨g,0,none⟩:=by
 obtain⟨a,c,he,-,h1,h2⟩:=qak h.1;cases he;cases ra with
 | none=>have:=(h2 rfl).1;omega
 | some ad=>obtain⟨g,rfl,-⟩:=h1 ad rfl;exact⟨g,rfl⟩
theorem Side.get {g rc ob:Nat} (h:Side W (some ⟨g,0,none⟩) rc ob ocs w) {j:Nat} (hj:j<W.length):w.cell? ⟨g,j,none⟩=some (.int .i64 ((start W j:Nat):Int)):=by
 obtain⟨a,c,he,-,h1,h2⟩:=qak h.1;cases he;obtain⟨g',e,-,-,hc⟩:=h1 _ rfl;cases e;have h3:=hc j (.int .i64 ((start W j:Nat):Int)) (by rw[qh3];simp[hj]);simpa using h3
def Dom (W:Wd) (s:St) (P:Nat→Prop):Prop:=∀ k x,s.ob k=some x→∃ d,d<W.length∧P d∧start W d≤k∧k<start W (d+1)
theorem Dom.free (h:Dom W s P) {i:Nat} (hi:i<W.length) (hP:¬ P i) {k:Nat} (h1:start W i≤k) (h2:k<start W (i+1)):s.ob k=none:=by
 cases e:s.ob k with
 | none=>rfl
 | some x=>
  obtain⟨d,q1,q2,q3,q4⟩:=h k x e;have:d=i:=by
   rcases Nat.lt_trichotomy d i with hd|hd|hd
   ·have:=qdk W (show d+1≤i from hd);omega
   ·exact hd
   ·have:=qdk W (show i+1≤d from hd);omega
  subst this;exact absurd q2 hP
theorem Dom.ext {P P':Nat→Prop} (h:Dom W s P) {i:Nat} (hi:i<W.length) (hP:∀ d,P d→P' d) (hi':P' i) {lo hi2:Nat} (h1:start W i≤lo) (h2:hi2≤start W (i+1)) (hs:∀ k,k<lo∨hi2≤k→s'.ob k=s.ob k):Dom W s' P':=fun k x e=>by
 by_cases hk:lo≤k∧k<hi2
 ·exact⟨i,hi,hi',by omega,by omega⟩
 ·rw[hs k (by omega)] at e;obtain⟨d,q1,q2,q3,q4⟩:=h k x e;exact⟨d,q1,hP _ q2,q3,q4⟩
theorem Dom.beyond (h:Dom W s P) {k:Nat} (hk:start W W.length≤k):s.ob k=none:=by
 cases e:s.ob k with
 | none=>rfl
 | some x=>
  obtain⟨d,q1,q2,q3,q4⟩:=h k x e;have:=qdk W (show d+1≤W.length from q1);omega
theorem qe3:∀ (l:Wd) (k:Nat) (hk:k<l.length),qbw (l.drop k)=l[k].bulk+qbw (l.drop (k+1))
 | d::r,0,_=>by simp[qbw]
 | d::r,k+1,hk=>by
  have:=qe3 r k (by simpa using hk);simpa using this
theorem qfa:∀ (l:Wd) (k:Nat),qbw (l.drop k)≤qbw l
 | [],k=>by simp
 | d::r,0=>by simp
 | d::r,k+1=>by have:=qfa r k;simp only[List.drop_succ_cons,qbw];omega
theorem qgl.lit {v:Value} (h:qi6 v):qgl v:=by
 obtain⟨T,x,rfl,hT⟩:=h;exact⟨T,x,rfl,by rcases hT with rfl|rfl|rfl|rfl|rfl <;> decide⟩
theorem Den.lit {g:G} {s:Spot} {v:Value} (h:Den g s v) (hk:s.of.kind≠1):qi6 v:=by
 obtain⟨⟨k,m,el,fs,ms,em⟩,at_,p⟩:=s;simp only[Den,DenT,Ty.kind] at *;rcases h with ⟨h,-⟩|⟨-,b,i,s,rfl,-⟩|⟨-,b,u,rfl,-⟩|⟨-,b,u,rfl,-⟩|⟨-,b,a,c,rfl,-⟩|⟨-,b,a,c,a',c',rfl,-⟩
 ·exact absurd h hk
 ·exact⟨_,_,rfl,.inl rfl⟩
 ·exact⟨_,_,rfl,.inr (.inl rfl)⟩
 ·exact⟨_,_,rfl,.inr (.inr (.inl rfl))⟩
 ·exact⟨_,_,rfl,.inr (.inr (.inr (.inl rfl)))⟩
 ·exact⟨_,_,rfl,.inr (.inr (.inr (.inr rfl)))⟩
theorem qe5.al (h:qe5 F s w d) (ha:(dc F.W d).alias=true):∃ al tn rhs u n,qkf F s w d al tn rhs u n:=by
 unfold qe5 at h;rwa [if_pos ha] at h
theorem qe5.nd (h:qe5 F s w d) (ha:(dc F.W d).alias=false):∃ b tn U ux ra rc fs,qbz F s w d b tn U ux ra rc fs:=by
 unfold qe5 at h;rwa [if_neg (by rw[ha];decide)] at h
theorem LM.plainv {raw set:Nat→Prop} (h:LM F w0 raw set s w) (hB:qcp F.W) {sp:Spot} (hs:qdw F.W sp) {v:Value} (hv:Den (gOf F s (rdT w)) sp v)
  (ha:∀ d,sp.of.kind=1→d=sp.of.num.toNat→((dc F.W d).alias=true→set d)∧((dc F.W d).alias=false→raw d∨set d)):∃ u n,qgl u∧qev w u n v∧Den (gOf F s (rdT w)) (plain F.W sp) u:=by
 by_cases hk:sp.of.kind=1
 ·have htb:F.tb sp.of.num.toNat=some v:=hv.named hk;have hl:=h.big _ _ htb;obtain⟨a1,a2⟩:=ha _ hk rfl;cases hal:(dc F.W sp.of.num.toNat).alias with
  | true=>
   obtain⟨al,tn,rhs,u,n,q⟩:=(h.setOk _ hl (a1 hal)).al hal;have e:=q.tb;rw[htb] at e;cases e;exact⟨u,n,q.nal,q.chain,by rw[qea hB hk hal hs];exact q.den⟩
  | false=>
   have hn:∃ b,v=qdr b:=by
    rcases a2 hal with hr|hr
    ·obtain⟨-,b,tn,q⟩:=h.rawOk _ hl hr;have e:=q.tb;rw[htb] at e;cases e;exact⟨b,rfl⟩
    ·obtain⟨b,tn,U,ux,ra,rc,fs,q⟩:=(h.setOk _ hl hr).nd hal;have e:=q.tb;rw[htb] at e;cases e;exact⟨b,rfl⟩
   obtain⟨b,rfl⟩:=hn;exact⟨_,0,⟨_,_,rfl,by decide⟩,rfl,by rw[qbg (fun e=>by rw[hal] at e;cases e.2)];exact hv⟩
 ·exact⟨v,0,qgl.lit (hv.lit hk),rfl,by rw[qbg (fun e=>hk e.1)];exact hv⟩
theorem qss {d al tn:Nat} {rhs u:Value} {n:Nat} (ha:(dc F.W d).alias=true) (hb:Blk w al 182 [ptrV tn,ptrV al,rhs,u]) (hu:qgl u) (hc:qev w u n rhs) (hd:Den (gOf F s (rdT w)) (plain F.W (qad F.W d)) u):
  ∀ (F':Fix) (w':World),F'.tb d=some (qjx al)→Nxt F F' s s w w' (fun _=>False)→qe5 F' s w' d:=fun F' w' ht n'=>by
 obtain⟨S,hA,hS⟩:=n'.ap;unfold qe5;rw[n'.W,if_pos ha];have hb':=hb.apart hA (hS _ _ _ hb (.inr (.inr (.inl rfl))) fun h=>h);refine⟨al,tn,rhs,u,n+1,ht,hb',hu,⟨al,rhs,_,_,_,rfl,hb',hc.apart hA fun b cs hc=>hS _ _ _ hc (.inr (.inr (.inl rfl))) fun h=>h⟩,?_⟩;rw[n'.W];exact Den.mono n'.le hd
def BPk (F:Fix) (s:St) (w:World) (t:Ty) (at_:Nat) (p:Int) (e:Ending) (w':World):Prop:=∃ x:TypeId×Addr×St,e = .returned (.iface x.1 (.pointer (some x.2.1)))∧Hid (BExt F s w x.2.2 w' at_ (at_+t.size)∧Den (gOf F x.2.2 (rdA w.heap.size w')) ⟨t,at_,p⟩ (.iface x.1 (.pointer (some x.2.1)))∧x.2.2.ifs.length≤s.ifs.length+t.bulk∧Mems (gOf F x.2.2 (rdA w.heap.size w')) s.ifs)
theorem qh4.pk {t:Ty} {at_:Nat} {p:Int} {e:Ending} (h:qh4 F s w t at_ p e w'):BPk F s w t at_ p e w':=by
 obtain⟨v,s',rfl,⟨T,x,rfl⟩,h1,h2,h3,h4⟩:=h;exact⟨⟨T,x,s'⟩,rfl,hid ⟨h1,h2,h3,h4⟩⟩
def AlPk (F:Fix) (s:St) (sp:Spot) (w:World) (tn:Nat) (v:Value) (e:Ending) (w':World):Prop:=∃ y:Value×Nat,e = .returned (ptrV w.heap.size)∧Hid (qgl y.1∧qev w y.1 y.2 v∧Den (gOf F s (rdT w)) (plain F.W sp) y.1∧qah (fun b=>b=tn) w w'∧Blk w' w.heap.size 182 [ptrV tn,ptrV w.heap.size,v,y.1]∧RdLe (rdT w) (rdT w')∧w.grownBy w' (some tn))
theorem qpy {raw set:Nat→Prop} (h:LL F w0 raw set s w) (hB:qcp F.W) {sp:Spot} (hs:qdw F.W sp) {T:TypeId} {rx:Addr} (hv:Den (gOf F s (rdT w)) sp (.iface T (.pointer (some rx))))
  (ha:∀ d,sp.of.kind=1→d=sp.of.num.toNat→((dc F.W d).alias=true→set d)∧((dc F.W d).alias=false→raw d∨set d)) {tn:Nat} {a b c:Value} (ht:Blk w tn 144 [a,b,c,.nilIface]):
  Calls prog 43 #[.pointer (some ⟨tn,0,none⟩),.iface T (.pointer (some rx))] w (AlPk F s sp w tn (.iface T (.pointer (some rx)))):=by
 obtain⟨u,n,hu,hc,hd⟩:=h.plainv hB hs hv ha;refine(qor tn w _ T (some rx) _ _ _ u n hu ht hc.chain).mono ?_;rintro e w' ⟨rfl,rfl⟩;have hT:qah (fun b=>b=tn) w ((w.setCell ⟨tn,3,none⟩ (.iface 103 (.pointer (some ⟨w.heap.size,0,none⟩)))).alloc (.cells #[.pointer (some ⟨tn,0,none⟩),.pointer (some ⟨w.heap.size,0,none⟩),.iface T (.pointer (some rx)),u] 182)):=
  (qah.setCell (fun b=>b=tn) w (a:=⟨tn,3,none⟩) rfl _).trans (qah.keep ((zp _ _).alloc (zl _) _))
 refine⟨⟨u,n⟩,rfl,hid ⟨hu,hc,hd,hT,?_,?_,hT.os,hT.tape,hT.output,hT.apart.size,fun j hj hne=>hT.apart.block j hj fun e=>hne (by rw[e])⟩⟩
 ·have:=Blk.new (w.setCell ⟨tn,3,none⟩ (.iface 103 (.pointer (some ⟨w.heap.size,0,none⟩)))) 182 [ptrV tn,ptrV w.heap.size,.iface T (.pointer (some rx)),u];rw[show(w.setCell ⟨tn,3,none⟩ (.iface 103 (.pointer (some ⟨w.heap.size,0,none⟩)))).heap.size=w.heap.size by simp[World.setCell]] at this;exact this
 ·exact(qqa ht rfl _).trans (qa0 ((zp _ _).alloc (zl _) _))
theorem LM.underv {raw set:Nat→Prop} (h:LM F w0 raw set s w) (hB:qcp F.W) {sp:Spot} (hs:qdw F.W sp) {v:Value} (hv:Den (gOf F s (rdT w)) sp v)
  (ha:sp.of.kind=1→∀ d,d<F.W.length→sp.of.num.toNat≤d→set d):∃ u,qf7 w v u∧qi6 u∧Den (gOf F s (rdT w)) (under F.W sp) u:=by
 have key:∀ (sp:Spot) (v:Value),qdw F.W sp→Den (gOf F s (rdT w)) sp v→(sp.of.kind=1→∀ d,d<F.W.length→sp.of.num.toNat≤d→set d)→(sp.of.kind=1→(dc F.W sp.of.num.toNat).alias=false)→∃ u,qg3 w v u∧qi6 u∧Den (gOf F s (rdT w)) (under F.W sp) u:=by
  intro sp v hs hv ha hn;by_cases hk:sp.of.kind=1
  ·have htb:F.tb sp.of.num.toNat=some v:=hv.named hk;have hl:=h.big _ _ htb;obtain⟨b,tn,U,ux,ra,rc,fs,q⟩:=(h.setOk _ hl (ha hk _ hl (zl _))).nd (hn hk);have e:=q.tb;rw[htb] at e;cases e;exact⟨_,.inr ⟨b,_,_,_,_,_,_,_,_,_,rfl,rfl,q.blk⟩,q.lit,by rw[qdg hB hk hs];exact q.den⟩
  ·have hl:=hv.lit hk;exact⟨v,.inl ⟨hl,rfl⟩,hl,by rw[qdu hk];exact hv⟩
 by_cases hal:sp.of.kind=1∧(dc F.W sp.of.num.toNat).alias=true
 ·obtain⟨hk,hal⟩:=hal;have htb:F.tb sp.of.num.toNat=some v:=hv.named hk;have hl:=h.big _ _ htb;obtain⟨al,tn,rhs,u,n,q⟩:=(h.setOk _ hl (ha hk _ hl (zl _))).al hal;have e:=q.tb;rw[htb] at e;cases e;have hp:qdw F.W (plain F.W (qad F.W sp.of.num.toNat))∧_:=qjj hB (qd9 hB hl);have hge:(plain F.W (qad F.W sp.of.num.toNat)).of.kind=1→sp.of.num.toNat≤(plain F.W (qad F.W sp.of.num.toNat)).of.num.toNat:=by
   have hq:∀ s:Spot,qdw F.W s→∀ m,(s.of.kind=1→m≤s.of.num.toNat)→(plain F.W s).of.kind=1→m≤(plain F.W s).of.num.toNat:=fun s hs'=>byval_ind' hB (fun s=>∀ m,(s.of.kind=1→m≤s.of.num.toNat)→(plain F.W s).of.kind=1→m≤(plain F.W s).of.num.toNat) (fun s hk m _ h=>by rw[qbg (fun e=>hk e.1)] at h;exact absurd h hk) (fun s hk hs' ih m hm h=>by
    cases hal:(dc F.W s.of.num.toNat).alias with
    | true=>
     rw[qea hB hk hal hs'] at h ⊢;refine ih m (fun hk' => ?_) h;have:=hm hk;obtain⟨r1,r2,r3⟩:=hB.get (show s.of.num.toNat<F.W.length by have:=hs' hk;omega) hk';simp only[qad];omega
    | false=>rw[qbg (fun e=>by rw[hal] at e;cases e.2)] at h ⊢;exact hm h) s hs'
   refine hq _ (qd9 hB hl) _ fun hk' => ?_;obtain⟨r1,r2,r3⟩:=hB.get hl hk';simp only[qad];omega
  obtain⟨u',k1,k2,k3⟩:=key _ u hp.1 q.den (fun hk' d hd hd2=>ha hk d hd (by have:=hge hk';omega)) hp.2;exact⟨u',.inr ⟨al,u,_,_,_,rfl,q.blk,k1⟩,k2,by rw[qdg hB hk hs,← qfm hB (qd9 hB hl)];exact k3⟩
 ·obtain⟨u,k1,k2,k3⟩:=key sp v hs hv ha fun hk=>by
   cases e:(dc F.W sp.of.num.toNat).alias with
   | true=>exact absurd ⟨hk,e⟩ hal
   | false=>rfl
  exact⟨u,.inl k1,k2,k3⟩
theorem qjt.rd {w w':World} {f pk:Nat} {n:Int} {v:Nat} {T:TypeId} {a:Addr} {ptr:Bool} (h:qjt B w f pk n (.pointer (some ⟨v,0,none⟩))) (hb:Blk w v 191 [.int .i64 0,ptrV pk,.string ⟨#[]⟩,.iface T (.pointer (some a)),.int .u8 4,.bool false]) (hv:B≤v) (hT:T≠103)
  (h1:ptr=true→T=145∧a.off=0∧a.spot=none∧∃ T' x',rdA B w a.block 0=some (.iface T' (.pointer (some x')))) (h2:ptr=false→T≠145):qel (rdA B w) f pk n ptr:=by
 obtain⟨sg,q1,q2,q3,q4,-⟩:=h;exact⟨sg,v,T,a,q1.rda q3 (by decide) (by decide) (by simp[qcq]),q2.rda q4 (by decide) (by decide) (by simp[qcq]),(hb.rda hv (by decide) (by decide) (by simp[qcq])) 3 _ rfl,hT,h1,h2⟩
theorem qn1 (b bb pr pk:Nat) (p n:Int) (c:Nat) (ptr:Bool) (w:World) (hn:IsNm n) (hp:p=0∨p=1) (h:w.cell? ⟨bb,0,none⟩=some (.slice (some ⟨pr,0,none⟩) 2 c)) (hk:w.cell? ⟨pr,p.toNat,none⟩=some (.pointer (some ⟨pk,0,none⟩))):
  Calls prog 45 #[.pointer (some ⟨bb,0,none⟩),.int .i64 p,.agg #[.int .i64 n,.bool ptr],qdr b] w fun e w'=>∃ f,e = .returned (ptrV f)∧Hid (w.heap.size≤f∧f<w'.heap.size∧qel (rdA w.heap.size w') f pk n ptr∧Below w.heap.size w w'):=by
 cases ptr with
 | false=>
  refine(qsj 98 ⟨b,0,none⟩ bb pr 0 pk p n c w hn hp h hk).mono ?_;rintro e w' ⟨f,rfl,⟨v,h1,h2,h3⟩,h4⟩;have hf:=h1;obtain⟨sg,q1,q2,q3,q4,-⟩:=hf;exact⟨f,rfl,hid ⟨q3,q1.lt,h1.rd (w':=w') h3 h2 (by decide) (fun e=>by cases e) (fun _=>by decide),h4⟩⟩
 | true=>
  refine(qsc 98 ⟨b,0,none⟩ bb pr 0 pk p n c w hn hp h hk).mono ?_;rintro e w' ⟨f,rfl,⟨v,h1,h2,q,g1,g2,h3⟩,h4⟩;have hf:=h1;obtain⟨sg,q1,q2,q3,q4,-⟩:=hf;refine⟨f,rfl,hid ⟨q3,q1.lt,h1.rd (w':=w') h3 h2 (by decide) (fun _=>⟨rfl,rfl,rfl,98,⟨b,0,none⟩,?_⟩) (fun e=>by cases e),h4⟩⟩;exact(g2.rda g1 (by decide) (by decide) (by simp[qcq])) 0 _ rfl
structure InM (F:Fix) (w0 wS:World) (sS:St) (k b tn j jo:Nat) (s:St) (ra:Option Addr) (rc:Nat) (fs:List Nat) (st:Int) (w:World):Prop where
 ok:BOk F s w
 base:Base F w0 s w
 turns:qah (fun x=>x=b∨qa1 F sS x) wS w
 rd:RdLe (rdT wS) (rdT w)
 ifs:s.ifs=sS.ifs
 row:s.row=sS.row
 same:∀ n,n<start F.W k∨start F.W k+jo≤n→s.ob n=sS.ob n
 grow:∀ n x,sS.ob n=some x→s.ob n=some x
 sts:st=0∨st=7
 blt:b<wS.heap.size∧tn<wS.heap.size∧tn≠b
 bge:w0.heap.size≤b∧w0.heap.size≤wS.heap.size
 blk:Blk w b 140 [.pointer none,ptrV tn,.bool true,.int .i32 0,.int .u32 0,.int .u32 st,.nilIface,.nilIface,.bool false,.slice ra j rc]
 tnB:Blk w tn 144 [.int .i64 0,ptrV (F.pk (dc F.W k).pkg),.string (qas (dc F.W k).name),qdr b]
 len:fs.length=j
 own:w.ownsRow 0 106 1 (.slice ra j rc) j (qa7 fs)
 new:∀ g,(Value.slice ra j rc).ownBlock=some g→wS.heap.size≤g
 ms:∀ i (hi:i<fs.length),s.ob (start F.W k+i)=some (true,fs[i])∧wS.heap.size≤fs[i]∧qel (rdX wS.heap.size (Value.slice ra j rc).ownBlock w) fs[i] (F.pk (dc F.W k).pkg) ((dc F.W k).methods.getD i ⟨0,false⟩).name ((dc F.W k).methods.getD i ⟨0,false⟩).ptr
theorem InM.first {raw set:Nat→Prop} (h:LL F w0 raw set s wS) (hr:qp0 F wS k b tn):InM F w0 wS s k b tn 0 0 s none 0 [] 0 wS:=
 ⟨h.ok,h.base,qah.refl _ _,RdLe.refl _,rfl,rfl,fun _ _=>rfl,fun _ _ h=>h,.inl rfl,⟨hr.blk.lt,hr.tnB.lt,fun e=>hr.tnB.tne hr.blk (by decide) e⟩,⟨h.ge _ _ _ hr.tb,h.base.below.size⟩,hr.blk,hr.tnB,rfl,zdb _ _ _ _,fun g hg=>(by cases hg),fun i hi=>by simp at hi⟩
theorem InM.keep {k b tn j jo:Nat} (h:InM F w0 wS sS k b tn j jo s ra rc fs st w) (hb:Below w.heap.size w w'):InM F w0 wS sS k b tn j jo s ra rc fs st w':=by
 have E:=BExt.keep h.ok hb 0;exact⟨E.ok,h.base.ext E,h.turns.trans (qah.keep hb),h.rd.trans (qa0 hb),h.ifs,h.row,h.same,h.grow,h.sts,h.blt,h.bge,h.blk.keep hb,h.tnB.keep hb,h.len,qab h.own (qag.keep (S:=fun _=>False) hb) (fun _ _ h=>h),h.new,fun i hi=>⟨(h.ms i hi).1,(h.ms i hi).2.1,(h.ms i hi).2.2.mono (qdl hb)⟩⟩
theorem InM.put (h:InM F w0 wS sS k b tn j j s ra rc fs st w) (hN:start F.W k+j<F.N) (hn:sS.ob (start F.W k+j)=none) {f:Nat} (hf:f<w.heap.size) (hnew:∀ i y,s.ob i=some y→y.2≠f):
  InM F w0 wS sS k b tn j (j+1) (qd6 s (start F.W k+j) (true,f)) ra rc fs st (w.setCell ⟨F.ob0,start F.W k+j,none⟩ (objV (some (true,f)))):=by
 have hn':s.ob (start F.W k+j)=none:=by rw[h.same _ (.inr (zl _))];exact hn
 have E:=BExt.put h.ok hN hn' true f hf hnew;have hnt:∀ {x:Nat} {T:TypeId} {cs:List Value},Blk w x T cs→T=140∨T=144∨T=106→¬ qa1 F s x:=fun hb hT=>h.ok.notTurned hb (by rcases hT with rfl|rfl|rfl <;> decide) (by rcases hT with rfl|rfl|rfl <;> decide) (by rcases hT with rfl|rfl|rfl <;> decide);have hrow:∀ g,(Value.slice ra j rc).ownBlock=some g→¬ qa1 F s g:=fun g hg=>hnt (qaf h.own hg).choose_spec (.inr (.inr rfl));refine⟨E.ok,h.base.ext E,h.turns.trans (E.turns.mono fun x _ hx => .inr ?_),h.rd.trans E.rd,h.ifs,h.row,fun n hn2 => ?_,fun n x hx=>E.grow n x (h.grow n x hx),h.sts,h.blt,h.bge,h.blk.apart E.turns.apart (hnt h.blk (.inl rfl)),h.tnB.apart E.turns.apart (hnt h.tnB (.inr (.inl rfl))),h.len,qab h.own E.turns.apart hrow,h.new,fun i hi => ?_⟩
 ·rcases hx with e|e|e
  ·exact .inl e
  ·exact .inr (.inl e)
  ·exact .inr (.inr (h.row ▸ e))
 ·rw[E.same n (by omega),h.same n (by omega)]
 ·obtain⟨q1,q2,q3⟩:=h.ms i hi;refine⟨E.grow _ _ q1,q2,q3.mono fun x y v hv => ?_⟩;obtain⟨r1,r2⟩:=qhp hv;obtain⟨r3,r4⟩:=qc8 r1;exact qfo (qcu (E.rd _ _ _ r3) r4) r2
theorem qu0 {R R':Option Nat} {cs:List Value} (hb:Blk w b 140 cs) (ht:qag (fun k=>k=b∨R=some k) w w') (hl:R'=R∨∃ g,R'=some g∧w.heap.size≤g):RdLe (rdX B R w) (rdX B R' w'):=fun x j v hv=>by
 obtain⟨h1,h2⟩:=qhp hv;obtain⟨h3,h4⟩:=qc8 h1;have hlt:=qft h3;have hxb:x≠b:=fun e=>by
  subst e;obtain⟨cs',T,q1,q2,-⟩:=qb7 h3;unfold Blk at hb;rw[hb] at q1;injection q1 with q1;injection q1 with _ q1;subst q1;cases q2
 refine qfo (qcu (qhi h3 (ht.block x hlt fun e => ?_)) h4) fun e => ?_
 ·rcases e with e|e
  ·exact hxb e
  ·exact h2 e
 ·rcases hl with e2|⟨g,e2,e3⟩
  ·exact h2 (e2 ▸ e)
  ·rw[e2] at e;cases e;omega
theorem rdA_rdX {B B2:Nat} (hB:B≤B2) (h:RdLe (rdT w) (rdT w')) (hR:∀ g,R=some g→g<B2):RdLe (rdA B2 w) (rdX B R w'):=fun x j v hv=>by
 obtain⟨h1,h2⟩:=qc8 hv;exact qfo (qcu (h _ _ _ h1) (by omega)) fun e=>by have:=hR x e;omega
theorem InM.side {k b tn j jo:Nat} (h:InM F w0 wS sS k b tn j jo s ra rc fs st w) (hok:BOk F sS wS) {x:Nat} {T:TypeId} {cs csn:List Value} (hn:Blk wS b 140 csn) (hb:Blk wS x T cs) (hT:T=3∨T=29∨T=39):¬ (x=b∨qa1 F sS x):=fun e=>by
 rcases e with e|e
 ·exact hb.tne hn (by rcases hT with rfl|rfl|rfl <;> decide) e
 ·exact hok.notTurned hb (by rcases hT with rfl|rfl|rfl <;> decide) (by rcases hT with rfl|rfl|rfl <;> decide) (by rcases hT with rfl|rfl|rfl <;> decide) e
theorem qel.cells {r:Nat→Nat→Option Value} {x pk:Nat} {n:Int} {ptr:Bool} (h:qel r x pk n ptr):r x 1=some (ptrV pk)∧r x 2=some (.string (qas n)):=by
 obtain⟨sg,v,T,a,h1,-⟩:=h;exact⟨h1 1 _ rfl,h1 2 _ rfl⟩
theorem qng {v:Value} (h:rdX B R w x j=some v):w.cell? ⟨x,j,none⟩=some v:=qax (qc8 (qhp h).1).1
theorem InM.add (h:InM F w0 wS sS k b tn j (j+1) s ra rc fs st w) (hp:(dc F.W k).pkg=0∨(dc F.W k).pkg=1) (hj:j<(dc F.W k).methods.length) (hl:(dc F.W k).methods.length≤1048576)
  (hnm:∀ m∈(dc F.W k).methods,IsNm m.name∧m.name≠8) (hd:qb1 ((dc F.W k).methods.map Meth.name)) {f:Nat} (hf:s.ob (start F.W k+j)=some (true,f)) (hfB:wS.heap.size≤f) (hfR:qel (rdX wS.heap.size (Value.slice ra j rc).ownBlock w) f (F.pk (dc F.W k).pkg) ((dc F.W k).methods.getD j ⟨0,false⟩).name ((dc F.W k).methods.getD j ⟨0,false⟩).ptr):
  Calls prog 47 #[ptrV b,ptrV f] w fun e w'=>∃ y:Option Addr×Nat,e = .returned (.tuple #[])∧Hid (InM F w0 wS sS k b tn (j+1) (j+1) s y.1 y.2 (fs++[f]) 7 w'∧w.heap.size≤w'.heap.size):=by
 have hlen:=h.len;subst hlen;have hbz:=h.turns.apart.size;have hgd:∀ i,i<(dc F.W k).methods.length→(dc F.W k).methods.getD i ⟨0,false⟩∈(dc F.W k).methods:=fun i hi=>by
  rw[zv,zr hi];exact z8 hi
 have hpk:=(h.ok.pkc hp).2;have hq:=qmc b tn (F.pk (dc F.W k).pkg) f ra rc fs ((dc F.W k).methods.map Meth.name) ((dc F.W k).methods.getD fs.length ⟨0,false⟩).name st h.sts w _ _ _ _ _ _ _ h.blk (h.tnB.cell 1) hpk (qng hfR.cells.1) (qng hfR.cells.2) h.own
  (fun g hg e=>by have:=h.new g hg;have:=h.blt.1;omega) (fun i hi => ?_) (hnm _ (hgd _ hj)).1 (hnm _ (hgd _ hj)).2 (by omega) ⟨h.blt.2.2,fun e => ?_,fun e => ?_⟩
 ·refine hq.mono ?_;rintro e w' ⟨rfl,ra',rc',hT,hB,hO,hN⟩;refine⟨⟨ra',rc'⟩,rfl,hid ⟨?_,hT.apart.size⟩⟩;have hS:∀ {x:Nat} {T:TypeId} {cs:List Value},Blk w x T cs→T≠140→T≠106→¬ (x=b∨(Value.slice ra fs.length rc).ownBlock=some x):=fun hb h1 h2 e=>by
   rcases e with e|e
   ·exact hb.tne h.blk h1 e
   ·obtain⟨cs',hc⟩:=qaf h.own e;exact hc.tne hb (fun e=>h2 e.symm) rfl
  have hR:RdLe (rdX wS.heap.size (Value.slice ra fs.length rc).ownBlock w) (rdX wS.heap.size (Value.slice ra' (fs.length+1) rc').ownBlock w'):=qu0 h.blk hT.apart hN;have hok:BOk F s w':=h.ok.apart hT.apart fun x T cs hb hT=>hS hb (by rcases hT with rfl|rfl|rfl|⟨rfl,-⟩|rfl|rfl <;> decide) (by rcases hT with rfl|rfl|rfl|⟨rfl,-⟩|rfl|rfl <;> decide);refine⟨hok,⟨h.base.below.trans (hT.below h.base.below.size fun x hx => ?_),h.base.bb,h.base.ob,h.base.row⟩,?_,fun x i v hv => ?_,h.ifs,h.row,h.same,h.grow,.inr rfl,h.blt,h.bge,hB,h.tnB.apart hT.apart (hS h.tnB (by decide) (by decide)),by simp,by simpa using hO,fun g hg => ?_,fun i hi => ?_⟩
  ·rcases hx with e|e
   ·rw[e];exact h.bge.1
   ·have:=h.new x e;have:=h.bge.2;omega
  ·exact(h.turns.mono (S':=fun x=>(x=b∨qa1 F sS x)∨wS.heap.size≤x) fun x _ hx => .inl hx).trans (hT.mono fun x _ hx=>by
    rcases hx with e|e
    ·exact .inl (.inl e)
    ·exact .inr (h.new x e)) |>.mono fun x hb hx=>by rcases hx with e|e;exact e;omega
  ·have h1:=h.rd _ _ _ hv;refine qhi h1 (hT.apart.block x (qft h1) fun e => ?_);rcases e with e|e
   ·subst e;obtain⟨cs',T,q1,q2,-⟩:=qb7 h1;have:=h.blk;unfold Blk at this;rw[this] at q1;injection q1 with q1;injection q1 with _ q1;subst q1;cases q2
   ·have:=h.new x e;have:=qft hv;omega
  ·rcases hN with e|⟨g',e,e2⟩
   ·exact h.new g (e ▸ hg)
   ·rw[e] at hg;cases hg;omega
  ·by_cases hi2:i<fs.length
   ·have:=h.ms i hi2;rw[List.getElem_append_left hi2];exact⟨this.1,this.2.1,this.2.2.mono hR⟩
   ·have hie:i=fs.length:=by simp at hi;omega
    subst hie;rw[List.getElem_append_right (zl _)];simp only[Nat.sub_self,zi];exact⟨hf,hfB,hfR.mono hR⟩
 ·obtain⟨q1,q2,q3⟩:=h.ms i hi;have e1:((dc F.W k).methods.map Meth.name).getD i 0=((dc F.W k).methods.getD i ⟨0,false⟩).name:=by
   simp[zv,zr (show i<(dc F.W k).methods.length by omega)]
  rw[e1];refine⟨qng q3.cells.2,fun e=>by have:=h.blt.1;omega,(hnm _ (hgd i (by omega))).1,fun e => ?_⟩;have:=hd.get i fs.length (by simp;omega) (by simp;omega) (by
   simp only[List.getElem_map];simpa[zv,zr (show i<(dc F.W k).methods.length by omega),zr hj] using e)
  omega
 ·have h1:=h.blk;have h2:=h.ok.pk0B;have h3:=h.ok.pk1B;rcases hp with e2|e2 <;> rw[e2] at e
  ·exact h2.tne h1 (by decide) e
  ·exact h3.tne h1 (by decide) e
 ·have:=h.blt.1;omega
open Go.Shelf
theorem ta_one {D:TypeId} {e:TypeId} (hu:prog.underlying D=some (.pointer e)) (v:Value) (w:World):(Instr.typeAssert (.iface D v) 63 D false).run prog w = .ok v w:=by
 simp[Instr.typeAssert,run_underlying hu,go_sem]
theorem LM.step {raw set:Nat→Prop} {cs:List Value} (h:LM F w0 raw set s w) (hb:Blk w b 140 cs) (ht:F.tb k=some (qdr b)) (hr:¬ raw k) (hs:¬ set k) (hok:BOk F s' w') (hba:Base F w0 s' w') (hz:w.heap.size≤w'.heap.size)
  (hrd:RdLe (rdT w) (rdT w')) (hob:∀ n x,s.ob n=some x→s'.ob n=some x) (hif:s'.ifs=s.ifs) {S:Nat→Prop} (ha:qag S w w') (hS:∀ x T cs,Blk w x T cs→DeclT T→x≠b→¬ S x):LM F w0 raw set s' w':=by
 have n:Nxt F F s s' w w' fun x=>x=b:=⟨rfl,rfl,fun _ _ h=>h,⟨rfl,rfl,fun _ _ h=>h,hob,fun x hx=>by show x∈s'.ifs;rw[hif];exact hx,hrd⟩,S,ha,hS⟩;have hk:=h.big _ _ ht;have hne:∀ d b' ,F.tb d=some (qdr b')→d≠k→b'≠b:=fun d b' e hd e2=>by subst e2;exact hd (h.inj _ _ _ e ht)
 refine⟨hok,hba,h.tr,fun d T x e=>by have:=h.lt d T x e;omega,h.ge,h.inj,fun d hd hr' => ?_,fun d hd hs' => ?_,h.big,h.mem.mono n.le hif,fun x hx=>by rw[hif] at hx;exact⟨(h.raws x hx).1,(h.raws x hx).2.next n fun b' T cs hc hT e=>hc.tne hb hT e⟩⟩
 ·obtain⟨hal,b',tn,q⟩:=h.rawOk d hd hr';have hdk:d≠k:=fun e=>hr (e ▸ hr');exact⟨hal,b',tn,q.next n (hne _ _ q.tb hdk) fun e=>q.tnB.tne hb (by decide) e⟩
 ·have hdk:d≠k:=fun e=>hs (e ▸ hs');have h1:=h.setOk d hd hs';unfold qe5 at h1 ⊢;split at h1
  next hal=>
   obtain⟨al,tn,rhs,u,m,q⟩:=h1;rw[if_pos hal];exact⟨al,tn,rhs,u,m,q.next n fun x cs hc e=>hc.tne hb (by decide) e⟩
  next hal=>
   obtain⟨b',tn,U,ux,ra,rc,fs,q⟩:=h1;rw[if_neg hal];refine⟨b',tn,U,ux,ra,rc,fs,q.next n fun x T cs hc hT e => ?_⟩;subst e;exact⟨fun e=>hne _ _ q.tb hdk e.symm,fun e=>q.tnB.tne hb (by decide) e.symm,fun e=>by subst e;exact hc.tne hb (by decide) rfl⟩
theorem num_gt (hB:qcp W) {k:Nat} (hlt:k<W.length) (hk:(qad W k).of.kind=1) {d:Nat} (hd:(qad W k).of.num.toNat≤d):k+1≤d:=by
 have h3:=(hB.get hlt hk).2.2;have h4:(dc W k).of.num.toNat≤d:=hd;omega
theorem LM.sub {raw set raw' set':Nat→Prop} (h:LM F w0 raw set s w) (h1:∀ d,d<F.W.length→raw' d→raw d) (h2:∀ d,d<F.W.length→set' d→set d):LM F w0 raw' set' s w:=
 ⟨h.ok,h.base,h.tr,h.lt,h.ge,h.inj,fun d hd hr=>h.rawOk d hd (h1 d hd hr),fun d hd hs=>h.setOk d hd (h2 d hd hs),h.big,h.mem,h.raws⟩
theorem InM.lm {raw set:Nat→Prop} (h:InM F w0 wS sS k b tn j j s ra rc fs st w) (hL:LM F w0 raw set sS wS) (hr:qp0 F wS k b tn) (hnr:¬ raw k) (hns:¬ set k):LM F w0 raw set s w:=
 hL.step hr.blk hr.tb hnr hns h.ok h.base h.turns.apart.size h.rd h.grow h.ifs h.turns.apart fun x T cs hb hT hx e=>by
  rcases e with e|e
  ·exact hx e
  ·exact hL.ok.notTurned hb (by rcases hT with rfl|rfl|rfl|rfl|rfl|rfl|rfl|rfl <;> decide) (by rcases hT with rfl|rfl|rfl|rfl|rfl|rfl|rfl|rfl <;> decide) (by rcases hT with rfl|rfl|rfl|rfl|rfl|rfl|rfl|rfl <;> decide) e
structure InU (F:Fix) (s:St) (k b tn:Nat) (ra:Option Addr) (rc:Nat) (fs:List Nat) (st:Int) (w:World):Prop where
 sts:st=0∨st=7
 tb:F.tb k=some (qdr b)
 blk:Blk w b 140 [.pointer none,ptrV tn,.bool true,.int .i32 0,.int .u32 0,.int .u32 st,.nilIface,.nilIface,.bool false,.slice ra (dc F.W k).methods.length rc]
 tnB:Blk w tn 144 [.int .i64 0,ptrV (F.pk (dc F.W k).pkg),.string (qas (dc F.W k).name),qdr b]
 len:fs.length=(dc F.W k).methods.length
 own:w.ownsRow 0 106 1 (.slice ra (dc F.W k).methods.length rc) (dc F.W k).methods.length (qa7 fs)
 ms:∀ j (hj:j<fs.length),qto F s (rdT w) k j fs[j]
theorem InM.inU (h:InM F w0 wS sS k b tn (dc F.W k).methods.length (dc F.W k).methods.length s ra rc fs st w) (ht:F.tb k=some (qdr b)):InU F s k b tn ra rc fs st w:=
 ⟨h.sts,ht,h.blk,h.tnB,h.len,h.own,fun j hj=>⟨(h.ms j hj).1,(h.ms j hj).2.2.mono ((qol _ _ _).trans (qnx _ _))⟩⟩
theorem InU.ext (h:InU F s k b tn ra rc fs st w) (hok:BOk F s w) (E:BExt F s w s' w' lo hi):InU F s' k b tn ra rc fs st w':=by
 have hnt:∀ {x:Nat} {T:TypeId} {cs:List Value},Blk w x T cs→T=140∨T=144∨T=106→¬ qa1 F s x:=fun hb hT=>hok.notTurned hb (by rcases hT with rfl|rfl|rfl <;> decide) (by rcases hT with rfl|rfl|rfl <;> decide) (by rcases hT with rfl|rfl|rfl <;> decide);exact⟨h.sts,h.tb,h.blk.apart E.turns.apart (hnt h.blk (.inl rfl)),h.tnB.apart E.turns.apart (hnt h.tnB (.inr (.inl rfl))),h.len,qab h.own E.turns.apart fun g hg=>hnt (qaf h.own hg).choose_spec (.inr (.inr rfl)),fun j hj=>⟨E.grow _ _ (h.ms j hj).1,(h.ms j hj).2.mono E.rd⟩⟩
theorem LM.upk {raw set:Nat→Prop} (h:LM F w0 raw set s w) (hB:qcp F.W) {sp:Spot} (hs:qdw F.W sp) {T:TypeId} {x:Addr} (hv:Den (gOf F s (rdT w)) sp (.iface T (.pointer (some x)))) (ha:sp.of.kind=1→∀ d,d<F.W.length→sp.of.num.toNat≤d→set d):
  ∃ z : FuncId × TypeId × Addr, (∀ w, (method 511 T (.pointer (some x)) "Underlying").run prog w = .ok (z.1, .pointer (some x)) w) ∧ (∀ args w, (callFunc z.1 args).run prog w = .ok (.enter z.1 args) w) ∧
   Hid (Calls prog z.1 #[.pointer (some x)] w (fun e w'=>e = .returned (.iface z.2.1 (.pointer (some z.2.2)))∧w'=w)∧qi6 (.iface z.2.1 (.pointer (some z.2.2)))∧Den (gOf F s (rdT w)) (under F.W sp) (.iface z.2.1 (.pointer (some z.2.2)))):=by
 obtain⟨u,h1,h2,h3⟩:=h.underv hB hs hv ha;obtain⟨T',x',f,e,q1,q2,q3⟩:=qf9 w _ u h1;cases e;obtain⟨U,ux,rfl,hU⟩:=h2;exact⟨⟨f,U,ux⟩,q1,q2,hid ⟨q3,⟨U,ux,rfl,hU⟩,h3⟩⟩
theorem qwu {raw set:Nat→Prop} (h:LM F w0 raw set s w) {k b tn:Nat} {ra:Option Addr} {rc:Nat} {fs:List Nat} {st:Int} (hu:InU F s k b tn ra rc fs st w) (hr:¬ raw k) (hs:¬ set k) (hal:(dc F.W k).alias=false) {U:TypeId} {ux:Addr} (hl:qi6 (.iface U (.pointer (some ux))))
  (hd:Den (gOf F s (rdT w)) (under F.W (qad F.W k)) (.iface U (.pointer (some ux)))):
  Calls prog 48 #[ptrV b,.iface U (.pointer (some ux))] w fun e w'=>e = .returned (.tuple #[])∧Hid (qah (fun x=>x=b) w w'∧w'.heap.size=w.heap.size∧LM F w0 raw (fun d=>set d∨d=k) s w'):=by
 have hUU:U≠103∧U≠98:=by
  obtain⟨U',x',e,hU⟩:=hl;cases e;rcases hU with rfl|rfl|rfl|rfl|rfl <;> exact⟨by decide,by decide⟩
 refine(qoe b w _ _ _ _ _ _ _ _ st hu.sts U ux hUU.1 hUU.2 hu.blk).mono ?_;rintro e w' ⟨rfl,hz,hT,hB⟩;refine⟨rfl,hid ⟨hT,hz,?_⟩⟩;have hne:∀ {x:Nat} {T:TypeId} {cs:List Value},Blk w x T cs→T≠140→¬ x=b:=fun hb hT e=>hb.tne hu.blk hT e;have hrd:RdLe (rdT w) (rdT w'):=qjy hT.apart fun x cs T hx hc=>by
  subst hx;have:=hu.blk;unfold Blk at this;rw[this] at hc;injection hc with hc;injection hc with _ hc;subst hc;decide
 have hok:BOk F s w':=h.ok.apart hT.apart fun x T cs hb hT=>hne hb (by rcases hT with rfl|rfl|rfl|⟨rfl,-⟩|rfl|rfl <;> decide);have hge:=h.ge _ _ _ hu.tb;have hba:Base F w0 s w':=⟨h.base.below.trans (hT.below h.base.below.size fun x hx=>by rw[hx];exact hge),h.base.bb,h.base.ob,h.base.row⟩;have hL:=h.step hu.blk hu.tb hr hs hok hba (by omega) hrd (fun _ _ h=>h) rfl hT.apart fun x T cs _ _ hx=>hx;refine⟨hL.ok,hL.base,hL.tr,hL.lt,hL.ge,hL.inj,hL.rawOk,fun d hd hs' => ?_,hL.big,hL.mem,hL.raws⟩;rcases hs' with hs'|rfl
 ·exact hL.setOk d hd hs'
 ·unfold qe5;rw[if_neg (by rw[hal];decide)];have hle:G.Le (gOf F s (rdT w)) (gOf F s (rdT w')):=⟨rfl,rfl,fun _ _ h=>h,fun _ _ h=>h,fun _ h=>h,hrd⟩;exact⟨b,tn,U,ux,ra,rc,fs,hu.tb,hu.tnB.apart hT.apart (hne hu.tnB (by decide)),hB,hl,Den.mono hle hd,hu.len,qab hu.own hT.apart fun g hg=>hne (qaf hu.own hg).choose_spec (by decide),fun j hj=>⟨(hu.ms j hj).1,(hu.ms j hj).2.mono hrd⟩⟩
theorem setU_at {raw set:Nat→Prop} {w w8:World} (h:LM F w0 raw set s w) {k b tn:Nat} {ra:Option Addr} {rc:Nat} {fs:List Nat} {st:Int} (hu:InU F s k b tn ra rc fs st w) (hb:Below w.heap.size w w8) {W:Wd} (hW:F.W=W) {D:Dc} (hD:D=dc W k) (hr:¬ raw k) (hs:set k→D.alias=true) (hal:D.alias=false) {U:TypeId} {ux:Addr} (hl:qi6 (.iface U (.pointer (some ux))))
  (hd:Den (gOf F s (rdT w)) (under F.W (qad W k)) (.iface U (.pointer (some ux)))):
  Calls prog 48 #[ptrV b,.iface U (.pointer (some ux))] w8 fun e w'=>e = .returned (.tuple #[])∧Hid (qah (fun x=>x=b) w8 w'∧w'.heap.size=w8.heap.size∧LM F w0 raw (fun d=>set d∨d=k) s w'):=by
 subst hW hD;exact qwu (h.ext (BExt.keep h.ok hb 0) fun x hx => .inl hx) (hu.ext h.ok (BExt.keep h.ok hb 0)) hr (fun h=>by rw[hs h] at hal;cases hal) hal hl
  (Den.mono (show G.Le (gOf F s (rdT w)) (gOf F s (rdT w8)) from⟨rfl,rfl,fun _ _ h=>h,fun _ _ h=>h,fun _ h=>h,qa0 hb⟩) hd)
theorem LM.done {w9 w:World} (h:LM F w0 (fun d=>(dc W d).alias=false∧d<k) (fun d=>((dc W d).alias=true∨k+1≤d)∨d=k) s w9) (hb:Below w9.heap.size w9 w):LL F w0 (fun d=>(dc W d).alias=false∧d<k) (fun d=>(dc W d).alias=true∨k≤d) s w:=
 ⟨(h.ext (BExt.keep h.ok hb 0) fun x hx => .inl hx).sub (fun _ _ h=>h) fun d hd h=>by
  rcases h with h|h
  ·exact .inl (.inl h)
  ·by_cases e:d=k
   ·exact .inr e
   ·exact .inl (.inr (by omega)),fun d h1 h2=>by
  cases ha:(dc W d).alias with
  | true=>exact absurd (.inl ha) h2
  | false=>
   by_cases hd:d<k
   ·exact absurd ⟨ha,hd⟩ h1
   ·exact absurd (.inr (by omega)) h2⟩
theorem Dom.done {s1 s2 s3:St} {k m z:Nat} (h:Dom W s1 (fun d=>(dc W d).alias=true∨k+1≤d)) (hk:k<W.length) (hm:start W (k+1)=start W k+(m+z)) (h1:∀ n,n<start W k∨start W k+m≤n→s2.ob n=s1.ob n) (h2:∀ n,n<start W k+m∨start W k+m+z≤n→s3.ob n=s2.ob n):
  Dom W s3 (fun d=>(dc W d).alias=true∨k≤d):=
 h.ext hk (fun d h=>h.imp id fun h=>by omega) (.inr (zl _)) (zl _) (hi2:=start W k+(m+z)) (by omega) fun n hn=>by rw[h2 n (by omega),h1 n (by omega)]
theorem qvd (k:Nat):(intOf (.int .i64 ((k:Int) - 1))+1).toNat<(intOf (.int .i64 (k:Int))+1).toNat:=by simp only[intOf];omega
theorem ni_done {k a b z:Nat} (hk:k<W.length) (h1:a≤b+z) (h2:b≤qbw W+qbw (W.drop (k+1))) (h3:z+1≤W[k].bulk):a≤qbw W+qbw (W.drop k):=by
 have:=qe3 W k hk;omega
theorem qc0.under5 {p:Int}:∀ {l:List Ty} {at_:Nat},qc0 W p l at_→∀ i (hi:i<l.length),(under W ⟨l[i],at_+qau (l.take i),p⟩).of.kind=5
 | [],_,_,i,hi=>by simp at hi
 | t::r,at_,h,0,_=>by simp only[qc0] at h;simpa[qau] using h.1.1
 | t::r,at_,h,i+1,hi=>by
  simp only[qc0] at h;have:=qc0.under5 h.2 i (by simpa using hi);simp only[zh,List.take_succ_cons,qau];rw[show at_+(t.size+qau (r.take i))=at_+t.size+qau (r.take i) by omega];exact this
theorem qjz:∀ {l:List (Nat×Spot)},(l.map (·.1)).Nodup→∀ b s s',(b,s)∈l→(b,s')∈l→s=s'
 | [],_,b,s,s',h,_=>by cases h
 | x::r,hn,b,s,s',h,h'=>by
  rw[List.map_cons,List.nodup_cons] at hn;rcases zgb.1 h with rfl|h <;> rcases zgb.1 h' with e|h'
  ·cases e;rfl
  ·exact absurd (zkb.2 ⟨_,h',rfl⟩) hn.1
  ·exact absurd (zkb.2 ⟨(b,s),h,by rw[← e]⟩) hn.1
  ·exact qjz hn.2 b s s' h h'
theorem LM.memOk {raw set:Nat→Prop} (h:LM F w0 raw set s w) {b:Nat} {sp:Spot} (hm:(b,sp)∈s.ifs):qk6 (gOf F s (rdT w)) (b,sp):=by
 rcases h.mem _ hm with q|q
 ·cases q
 ·exact q
theorem qk6.parts {g:G} {sp:Spot} (h:qk6 g (b,sp)):∃ a c a' c',BlkR g.rd b [.pointer none,.slice a sp.of.methods.length c,.slice a' sp.of.embeds.length c',.pointer none,.bool false,.bool true]∧sp.of.methods.length≤c∧sp.of.embeds.length≤c'∧qqc g sp.of.methods sp.at_ sp.pkg a∧
  ∀ j,j<sp.of.embeds.length→∃ gb o u,a'=some ⟨gb,o,none⟩∧g.rd gb (o+j)=some u∧Den g (qav sp j) u:=by
 obtain⟨b',a,c,a',c',e,-,h1,h2,h3,h4,h5⟩:=Den.iface h.1 h.2.1;cases e;exact⟨a,c,a',c',h1,h2,h3,h4,h5⟩
theorem LM.ci {raw set:Nat→Prop} (h:LM F w0 raw set s w) (hs:∀ d,set d) (hT:Tabs w0) (hB:qcp F.W):CI F s (muI F.W) w0 w:=by
 refine⟨hT,h.base.below,fun b sp hm=>(h.raws _ hm).1,h.ok.pk0B,h.ok.pk1B,fun b sp hm => ?_,fun b sp hm => ?_,fun b sp hm => ?_,fun b sp hm => ?_,fun b sp i hm hi => ?_,fun b sp sp' h1 h2=>qjz h.ok.nd b sp sp' h1 h2,h.ok.inj⟩
 ·obtain⟨ra,n,rc,ea,m,ec,tso,hb,-⟩:=(h.raws _ hm).2;exact⟨_,hb⟩
 ·obtain⟨a,c,a',c',h1,h2,h3,h4,h5⟩:=(h.memOk hm).parts;exact⟨a,c,h1 1 _ rfl,h2,h4⟩
 ·obtain⟨a,c,a',c',h1,h2,h3,h4,h5⟩:=(h.memOk hm).parts;obtain⟨hk,hp,hbk,hv,d,val,hf⟩:=(h.memOk hm).2;refine⟨a',c',h1 2 _ rfl,h3,fun i hi => ?_⟩;obtain⟨gb,o,u,e,q1,q2⟩:=h5 i hi;have he:=(hf.k5 hk).2.2.2.2;have e1:(qav sp i).of=sp.of.embeds[i]:=by simp[qav,zv,zr hi]
  have hnum:qdw F.W (qav sp i):=qam.numOk (W:=F.W) (d:=d) (val:=true) (by rw[e1];exact(he.get2 i hi).2);obtain⟨u',k1,k2,k3⟩:=h.underv hB hnum q2 fun _ d _ _=>hs d;have hk5:(under F.W (qav sp i)).of.kind=5:=by
   have:=qc0.under5 hv.iface.2 i hi;have e2:qav sp i=⟨sp.of.embeds[i],sp.at_+sp.of.methods.length+qau (sp.of.embeds.take i),sp.pkg⟩:=by simp[qav,zv,zr hi]
   rw[e2];exact this
  obtain⟨b',a1,c1,a2,c2,rfl,hin,-⟩:=Den.iface k3 hk5;exact⟨gb,o,u,b',e,q1,k1,hin⟩
 ·obtain⟨hk,hp,hbk,hv,d,val,hf⟩:=(h.memOk hm).2;have hbe:=qbd sp.of;change sp.of.bulk≤1048576 at hbk;have:=qa3 sp.of.embeds;exact⟨hp,fun m hm=>((hf.k5 hk).2.2.2.1 m hm).1,hv.iface.1,by omega,by omega⟩
 ·obtain⟨hk,hp,hbk,hv,d,val,hf⟩:=(h.memOk hm).2;exact qwv hB hk (hf.k5 hk).2.2.2.2 hi
theorem LM.comp0 {raw set:Nat→Prop} (h:LM F w0 raw set s w) (hs:∀ d,set d) (hT:Tabs w0) (hB:qcp F.W):Comp F s (muI F.W) w0 w (fun g=>g<w.heap.size) 0:=by
 refine⟨h.ci hs hT hB,fun g h=>h,fun b sp hm => ?_,fun i hi h=>absurd h (Nat.not_lt_zero _)⟩;obtain⟨ra,n,rc,ea,m,ec,tso,hb,htso⟩:=(h.raws _ hm).2;obtain⟨a,c,a',c',h1,h2,h3,h4,h5⟩:=(h.memOk hm).parts;have e1:=qax (h1 1 _ rfl);have e2:=qax (h1 2 _ rfl);rw[hb.cell] at e1 e2;cases e1;cases e2;refine⟨_,_,_,_,tso,hb,?_⟩;rcases htso with ⟨-,rfl⟩|⟨h0,ts,rfl,tv,k1,k2⟩
 ·exact .inl rfl
 ·have hm0:sp.of.methods=[]:=List.length_eq_zero_iff.1 (by omega);have he0:sp.of.embeds=[]:=List.length_eq_zero_iff.1 (by omega);refine .inr ⟨ts,[],rfl,?_,⟨none,0,tv,k1,zdb _ _ _ _,k2,fun g hg=>(by cases hg),k1.lt⟩,fun m hm=>(by cases hm),List.Pairwise.nil⟩;have:=MS.mk (W:=F.W) sp [] (by rw[he0];rfl) (fun i hi=>absurd hi (Nat.not_lt_zero _));have e3:expl sp=[]:=by unfold expl ordM;rw[hm0];simp
  rw[e3] at this;have e4:qff []=[]:=by unfold qff ordN;simp
  simp only[List.foldl_nil] at this;rw[e4] at this;exact this
theorem BOk.ifc (h:BOk F s w) {n:Nat} (hn:n<s.ifs.length):∃ gb o,s.ia=some ⟨gb,o,none⟩∧w.cell? ⟨gb,o+n,none⟩=some (ptrV s.ifs[n].1):=by
 have h1:=h.ifr;have e:s.ifs.length=(s.ifs.map (·.1)).length:=by simp
 unfold St.row at h1;rw[e] at h1;obtain⟨gb,o,q1,q2⟩:=qeh h1 n (by simpa using hn);refine⟨gb,o,q1,?_⟩;rw[q2];simp
structure qm6 (F:Fix) (w0:World) (s:St) (w:World):Prop where
 ok:BOk F s w
 lt:∀ d T x,F.tb d=some (.iface T (.pointer (some x)))→x.block<w.heap.size
 inj:∀ d e v,F.tb d=some v→F.tb e=some v→d=e
 set:∀ d,d<F.W.length→qe5 F s w d
 big:∀ d v,F.tb d=some v→d<F.W.length
 mem:∀ b sp,(b,sp)∈s.ifs→qk6 (gOf F s (rdT w)) (b,sp)
 comp:∃ G,Comp F s (muI F.W) w0 w G s.ifs.length
theorem CX.parts (hC:CI F s (muI F.W) w0 w) (h:CX F s (muI F.W) w w'):∃ S,qah S w w'∧RdLe (rdT w) (rdT w')∧∀ x T cs,Blk w x T cs→T≠175→¬ S x:=by
 obtain⟨k,h⟩:=h;exact⟨_,h.turns,h.rd,fun x T cs hb hT=>hC.notIf hb hT⟩
theorem LM.ok_cx {raw set:Nat→Prop} (h:LM F w0 raw set s w) (hC:CI F s (muI F.W) w0 w) (hx:CX F s (muI F.W) w w'):BOk F s w':=by
 obtain⟨S,hT,hr,hS⟩:=CX.parts hC hx;exact h.ok.apart hT.apart fun x T cs hb hT=>hS x T cs hb (by rcases hT with rfl|rfl|rfl|⟨rfl,-⟩|rfl|rfl <;> decide)
theorem LM.built {raw set:Nat→Prop} (h:LM F w0 raw set s w) (hs:∀ d,set d) (hC:CI F s (muI F.W) w0 w) (hx:CX F s (muI F.W) w w') {G:Nat→Prop} (hcomp:Comp F s (muI F.W) w0 w' G s.ifs.length):qm6 F w0 s w':=by
 have hok:=h.ok_cx hC hx;obtain⟨S,hT,hr,hS⟩:=CX.parts hC hx;have n:Nxt F F s s w w' fun x=>∃ cs,Blk w x 175 cs:=⟨rfl,rfl,fun _ _ h=>h,⟨rfl,rfl,fun _ _ h=>h,fun _ _ h=>h,fun _ h=>h,hr⟩,S,hT.apart,fun x T cs hb _ hn=>hS x T cs hb fun e=>hn ⟨cs,e ▸ hb⟩⟩;refine⟨hok,fun d T x e=>by have:=h.lt d T x e;have:=hT.apart.size;omega,h.inj,fun d hd => ?_,h.big,fun b sp hm=>(h.memOk hm).mono n.le,G,hcomp⟩;have h1:=h.setOk d hd (hs d);have key:∀ {x y:Nat} {T T':TypeId} {cs cs':List Value},Blk w x T cs→Blk w y T' cs'→T≠T'→x≠y:=fun h1 h2 h3=>h1.tne h2 h3;unfold qe5 at h1 ⊢;split at h1
 next hal=>
  obtain⟨al,tn,rhs,u,m,q⟩:=h1;rw[if_pos hal];exact⟨al,tn,rhs,u,m,q.next n fun x cs hc e=>by
   obtain⟨cs',he⟩:=e;exact hc.tne he (by decide) rfl⟩
 next hal=>
  obtain⟨b',tn,U,ux,ra,rc,fs,q⟩:=h1;rw[if_neg hal];refine⟨b',tn,U,ux,ra,rc,fs,q.next n fun x T cs hc hT e => ?_⟩;obtain⟨cs',he⟩:=e;exact⟨he.tne q.blk (by decide),he.tne q.tnB (by decide),fun e=>by subst e;exact hc.tne he (by decide) rfl⟩
def BuiltPk (W:Wd) (t:Ty) (w:World) (e:Ending) (w':World):Prop:=∃ x:Fix×St×TypeId×Addr,e = .returned (.tuple #[ptrV x.1.bb,.iface x.2.2.1 (.pointer (some x.2.2.2))])∧Hid (x.1.W=W∧x.1.N=start W W.length+t.size∧qm6 x.1 w x.2.1 w'∧Den (gOf x.1 x.2.1 (rdT w')) (operand W t) (.iface x.2.2.1 (.pointer (some x.2.2.2)))∧Below w.heap.size w w')
set_option maxRecDepth 100000
def qf3 (W:Wd) (d:Nat):List Int:=(dc W d).methods.map Meth.name
def qey (W:Wd) (d:Nat) (q m:Int):Option Nat:=if((dc W d).pkg==q||qay m)=true then qj9 (qf3 W d) m else none
theorem qbz.names (h:qbz F s w d b tn U ux ra rc fs) (hn:∀ m∈(dc F.W d).methods,IsNm m.name):∀ i (hi:i<fs.length) (hk:i<(qf3 F.W d).length),w.cell? ⟨fs[i],2,none⟩=some (.string (qas (qf3 F.W d)[i]))∧IsNm (qf3 F.W d)[i]:=by
 intro i hi hk;have h1:=(h.ms i hi).2.cells.2;unfold qf3 at hk ⊢;simp only[List.length_map] at hk;simp only[List.getElem_map];have e:(dc F.W d).methods.getD i ⟨0,false⟩=(dc F.W d).methods[i]:=by simp[zv,zr hk]
 rw[e] at h1;exact⟨qax h1,hn _ (z8 _)⟩
theorem qbz.prow (h:qbz F s w d b tn U ux ra rc fs):qlm w ra fs∧fs.length≤rc:=by
 have h1:=h.row;rw[← h.len] at h1;exact⟨qeh h1,by obtain⟨_,_,he,hle,-⟩:=qak h1;cases he;exact hle⟩
theorem qkg (h:qbz F s w d b tn U ux ra rc fs) {i:Nat} (hi:i<fs.length):
  Calls prog 142 #[ptrV b,.int .i64 i] w fun e w'=>e = .returned (ptrV fs[i])∧w'=w:=by
 have c5:=h.blk.cell 5;have c9:=h.blk.cell 9;simp only[zu,zt] at c5 c9;obtain⟨gb,o,rfl,hc⟩:=h.prow.1 i hi;have hl:=h.len;have hi':(i:Int)<((dc F.W d).methods.length:Int):=by omega
 clear h;go_enter func142,ntmps142
 go_wp2_with (first
  | (go_at_call 77;refine(qci b 15 (.inr rfl) _ c5).mono ?_;rintro e w' ⟨rfl,rfl⟩)
  | (go_at_call 100;refine(qcz b 15 4 (.inr (.inr rfl)) (.inr (.inl rfl)) _ c5).mono ?_;rintro e w' ⟨rfl,rfl⟩;rw[show stB 15 4=true from rfl]))
 go_ret
 exact⟨rfl,rfl⟩
theorem qfv (h:qbz F s w d b tn U ux ra rc fs) (hok:BOk F s w) (hT:Tabs w) (hn:∀ m∈(dc F.W d).methods,IsNm m.name) (hp:(dc F.W d).pkg=0∨(dc F.W d).pkg=1) (hl:(dc F.W d).methods.length≤1048576)
  {q m:Int} (hq:q=0∨q=1) (hm:IsNm m) (h8:m≠8):
  Calls prog 111 #[ptrV b,ptrV (F.pk q),.string (qas m),.bool false] w (qa2 (idxV (qey F.W d q m) fs) w):=by
 have c5:=h.blk.cell 5;have c9:=h.blk.cell 9;have c1:=h.blk.cell 1;have t1:=h.tnB.cell 1;simp only[zu,zt] at c5 c9 c1 t1;have hlen:=h.len;have hnl:(qf3 F.W d).length=fs.length:=by unfold qf3;rw[List.length_map];exact hlen.symm
 have H:=hid h;have HT:=hid hT;have Hm:=hid hm;have HS:=hid (qjr (F.pk (dc F.W d).pkg) (F.pk q) _ _ hp hq w (hok.pkc hp).2 (hok.pkc hq).2);rw[← hlen] at c9;have HI:=fun w' (c:w'.cell? ⟨b,9,none⟩=some (.slice ra fs.length rc)) (k:qac w w')=>qnq b ra rc fs (qf3 F.W d) m w' c hnl.symm (fun i hi=>by obtain⟨bb,o,e,hc⟩:=h.prow.1 i hi;exact⟨bb,o,e,k _ _ hc⟩) h.prow.2 (by omega) (fun i hi hk=>⟨k _ _ (h.names hn i hi hk).1,(h.names hn i hi hk).2⟩) hm h8;have HI':=hid HI;have HMe:=hid (fun w' (hb:Below w.heap.size w w') (i:Nat) (hi:i<fs.length)=>qkg (F:=F) (s:=s) (w:=w') (d:=d) (b:=b) (tn:=tn) (U:=U) (ux:=ux) (ra:=ra) (rc:=rc) (fs:=fs) ⟨h.tb,h.tnB.keep hb,h.blk.keep hb,h.lit,Den.mono (show G.Le (gOf F s (rdT w)) (gOf F s (rdT w')) from⟨rfl,rfl,fun _ _ h=>h,fun _ _ h=>h,fun _ h=>h,qa0 hb⟩) h.den,h.len,qab h.row (qag.keep (S:=fun _=>False) hb) (fun _ _ h=>h),fun j hj=>⟨(h.ms j hj).1,(h.ms j hj).2.mono (qa0 hb)⟩⟩ hi);have hbl:=h.blk.lt;have htl:=h.tnB.lt;clear HI h hok hT hn hp hq hm h8;unfold qey;cases hpq:((dc F.W d).pkg==q) with
 | true=>
  have Hpq:=hid hpq;clear hpq;rw[if_pos (by simp)];cases hx:qj9 (qf3 F.W d) m with
  | none=>
   have Hx:=hid hx;clear hx;go_enter func111,ntmps111
   go_wp2_with (first
    | (go_at_call 77;refine(qci b 15 (.inr rfl) _ c5).mono ?_;rintro e w' ⟨rfl,rfl⟩)
    | (go_at_call 76;refine HS.out.mono ?_;rintro e w2 ⟨rfl,hb2⟩;have Hb2:=hid hb2;clear hb2;rw[Hpq.out])
    | (go_at_call 78;refine(HI'.out _ (qac.below Hb2.out _ _ c9) (qac.below Hb2.out)).mono ?_;rintro e w3 ⟨rfl,rfl⟩;rw[Hx.out,show qst none = -1 from rfl]))
   go_ret2
   exact⟨rfl,Hb2.out⟩
  | some i=>
   have hi:i<fs.length:=by
    unfold qj9 at hx;rw[List.findIdx?_eq_some_iff_getElem] at hx;obtain⟨hi,-⟩:=hx;omega
   have Hx:=hid hx;clear hx;go_enter func111,ntmps111
   go_wp2_with (first
    | (go_at_call 77;refine(qci b 15 (.inr rfl) _ c5).mono ?_;rintro e w' ⟨rfl,rfl⟩)
    | (go_at_call 76;refine HS.out.mono ?_;rintro e w2 ⟨rfl,hb2⟩;have Hb2:=hid hb2;clear hb2;rw[Hpq.out])
    | (go_at_call 78;refine(HI'.out _ (qac.below Hb2.out _ _ c9) (qac.below Hb2.out)).mono ?_;rintro e w3 ⟨rfl,rfl⟩;rw[Hx.out,show qst (some i)=(i:Int) from rfl])
    | (go_at_call 142;refine(HMe.out _ Hb2.out i hi).mono ?_;rintro e w4 ⟨rfl,rfl⟩))
   go_ret2
   refine⟨?_,Hb2.out⟩;simp[idxV,zv,zr hi]
 | false=>
  have Hpq:=hid hpq;clear hpq;cases hex:qay m with
  | false=>
   have Hex:=hid hex;clear hex;rw[if_neg (by simp)];go_enter func111,ntmps111
   go_wp2_with (first
    | (go_at_call 77;refine(qci b 15 (.inr rfl) _ c5).mono ?_;rintro e w' ⟨rfl,rfl⟩)
    | (go_at_call 76;refine HS.out.mono ?_;rintro e w2 ⟨rfl,hb2⟩;have Hb2:=hid hb2;clear hb2;rw[Hpq.out])
    | (go_at_call 85;refine(qcb m _ Hm.out (HT.out.below Hb2.out)).mono ?_;rintro e w3 ⟨rfl,hb3⟩;have Hb3:=hid hb3;clear hb3;rw[Hex.out]))
   go_ret2
   exact⟨rfl,Hb2.out.trans (Hb3.out.mono Hb2.out.size)⟩
  | true=>
   have Hex:=hid hex;clear hex;rw[if_pos (by simp)];cases hx:qj9 (qf3 F.W d) m with
   | none=>
    have Hx:=hid hx;clear hx;go_enter func111,ntmps111
    go_wp2_with (first
     | (go_at_call 77;refine(qci b 15 (.inr rfl) _ c5).mono ?_;rintro e w' ⟨rfl,rfl⟩)
     | (go_at_call 76;refine HS.out.mono ?_;rintro e w2 ⟨rfl,hb2⟩;have Hb2:=hid hb2;clear hb2;rw[Hpq.out])
     | (go_at_call 85;refine(qcb m _ Hm.out (HT.out.below Hb2.out)).mono ?_;rintro e w3 ⟨rfl,hb3⟩;have Hb3:=bel_ Hb2 hb3;clear hb3;rw[Hex.out])
     | (go_at_call 78;refine(HI'.out _ (qac.below Hb3.out _ _ c9) (qac.below Hb3.out)).mono ?_;rintro e w3 ⟨rfl,rfl⟩;rw[Hx.out,show qst none = -1 from rfl]))
    go_ret2
    exact⟨rfl,Hb3.out⟩
   | some i=>
    have hi:i<fs.length:=by
     unfold qj9 at hx;rw[List.findIdx?_eq_some_iff_getElem] at hx;obtain⟨hi,-⟩:=hx;omega
    have Hx:=hid hx;clear hx;go_enter func111,ntmps111
    go_wp2_with (first
     | (go_at_call 77;refine(qci b 15 (.inr rfl) _ c5).mono ?_;rintro e w' ⟨rfl,rfl⟩)
     | (go_at_call 76;refine HS.out.mono ?_;rintro e w2 ⟨rfl,hb2⟩;have Hb2:=hid hb2;clear hb2;rw[Hpq.out])
     | (go_at_call 85;refine(qcb m _ Hm.out (HT.out.below Hb2.out)).mono ?_;rintro e w3 ⟨rfl,hb3⟩;have Hb3:=bel_ Hb2 hb3;clear hb3;rw[Hex.out])
     | (go_at_call 78;refine(HI'.out _ (qac.below Hb3.out _ _ c9) (qac.below Hb3.out)).mono ?_;rintro e w3 ⟨rfl,rfl⟩;rw[Hx.out,show qst (some i)=(i:Int) from rfl])
     | (go_at_call 142;refine(HMe.out _ Hb3.out i hi).mono ?_;rintro e w4 ⟨rfl,rfl⟩))
    go_ret2
    refine⟨?_,Hb3.out⟩;simp[idxV,zv,zr hi]
theorem qel.obAt (hok:BOk F s w) {x:Nat} {p n:Int} {ptr:Bool} (h:qel (rdT w) x (F.pk p) n ptr) (hn:IsNm n) (hp:p=0∨p=1):qgt w x (F.pk p) p n:=by
 obtain⟨h1,h2⟩:=h.cells;obtain⟨cs,T,q1,-⟩:=qb7 h1;exact⟨qax h1,qax h2,(hok.pkc hp).2,hn,hp,T,cs.toList,by unfold Blk;simpa using q1⟩
def qih (l:List Mn):List (Int×Int):=l.map fun m=>(m.p,m.n)
theorem qmn {st:St} {G:Nat→Prop} {s:Spot} {ts:Nat} {l:List Mn} (h:qo8 F st G w b s ts l) (hok:BOk F st w) (hT:Tabs w) {q m:Int} (hq:q=0∨q=1) (hm:IsNm m) (h8:m≠8):
  Calls prog 114 #[ptrV ts,ptrV (F.pk q),.string (qas m),.bool false] w (qa2 (idxV (qhz (qih l) q m) (l.map fun m=>qbf st m.k)) w):=by
 obtain⟨a,c,tv,h1,h2,-⟩:=h.set;have c1:=h1.cell 1;simp only[zu,zt] at c1;have hl1:=h1.lt;have hlen:(l.map fun m=>qbf st m.k).length=l.length:=by simp
 have hle:=qjf h.dis fun m hm=>(h.ok m hm).1;have hrow:=qeh h2;have hcap:(l.map fun m=>qbf st m.k).length≤c:=by obtain⟨_,_,he,hle,-⟩:=qak h2;cases he;exact hle
 have HM:=hid (qmb a c (l.map fun m=>qbf st m.k) (qih l) F.pk q m w hT (by simp[qih]) hrow hcap (by rw[hlen];omega) (fun i hi hk=>by
  simp only[qih,List.length_map] at hk;simp only[qih,List.getElem_map];have h3:=h.ok l[i] (z8 hk);exact h3.2.obAt hok h3.1.1 h3.1.2) hm h8 hq (hok.pkc hq).2)
 obtain⟨fs,hfs⟩:∃ fs,fs=l.map fun m=>qbf st m.k:=⟨_,rfl⟩;rw[← hfs] at HM c1 ⊢;clear h h1 h2 hrow hcap hlen hfs hok hT;obtain⟨r,hr⟩:∃ r,r=idxV (qhz (qih l) q m) fs:=⟨_,rfl⟩;have htup:∃ i p,r = .tuple #[.int .i64 i,.pointer p]:=by
  rw[hr];unfold idxV;split
  ·exact⟨_,_,rfl⟩
  ·exact⟨_,_,rfl⟩
 rw[← hr] at HM ⊢;clear hr;obtain⟨i,p,rfl⟩:=htup;go_enter func114,ntmps114
 go_wp2_with (go_at_call 144;refine HM.out.mono ?_;rintro e w2 ⟨rfl,hb2⟩;have Hb2:=hid hb2;clear hb2)
 go_ret2
 exact⟨rfl,Hb2.out⟩
mutual
def op (P:Nat→Nat):Ty→Nat
 | .mk k n el fs _ em=>(if k=1 then P n.toNat else 1)+opT P el+opF P fs+opT P em
def opT (P:Nat→Nat):List Ty→Nat
 | []=>0
 | t::r=>op P t+opT P r
def opF (P:Nat→Nat):List Fd→Nat
 | []=>0
 | .mk _ _ t::r=>op P t+opF P r
end
def cap1 (n:Nat):Nat:=min n 2001
theorem qcy (n:Nat):cap1 n≤2001:=by unfold cap1;omega
def qw1 (W:Wd) (e:Int) (P Q:Nat→Nat):Prop:=∀ n:Nat,n<W.length→(e<n∨(dc W n).alias=false)→P n=Q n
mutual
theorem qhm (W:Wd) (e:Nat) (P Q:Nat→Nat) (hal:(dc W e).alias=true) (h:qw1 W e P Q):∀ (val:Bool) (t:Ty),qam W e val t→op P t=op Q t
 | val,.mk k n el fs ms em,hf=>by
  simp only[qam] at hf;rcases hf with ⟨rfl,rfl,rfl,rfl,rfl,-⟩|⟨rfl,rfl,rfl,rfl,rfl,h0,h1,h2⟩|⟨hk,rfl,rfl,rfl,rfl,h1⟩|⟨rfl,rfl,rfl,rfl,rfl,h1⟩|⟨rfl,rfl,rfl,rfl,-,h1⟩
  ·simp[op,opT,opF]
  ·simp only[op,opT,opF,if_true,Nat.add_zero];refine h n.toNat (by omega) ?_;rcases h2 with h2|⟨-,h2|h2|h2⟩
   ·left;omega
   ·omega
   ·simp only[Int.toNat_natCast] at h2;rw[hal] at h2;cases h2
   ·right;exact h2
  ·have hk1:¬ k=1:=by omega
   simp only[op,opT,opF,if_neg hk1,Nat.add_zero,qsh W e P Q hal h el h1]
  ·simp[op,opT,qle W e P Q hal h val fs h1]
  ·simp[op,opT,opF,qls W e P Q hal h em h1]
theorem qsh (W:Wd) (e:Nat) (P Q:Nat→Nat) (hal:(dc W e).alias=true) (h:qw1 W e P Q):∀ (l:List Ty),qc5 W e l→opT P l=opT Q l
 | [],hf=>by simp[opT]
 | t::r,hf=>by
  simp only[qc5] at hf;obtain⟨rfl,hf⟩:=hf;simp only[opT,qhm W e P Q hal h false t hf]
theorem qle (W:Wd) (e:Nat) (P Q:Nat→Nat) (hal:(dc W e).alias=true) (h:qw1 W e P Q):∀ (val:Bool) (l:List Fd),qby W e val l→opF P l=opF Q l
 | val,[],hf=>by simp[opF]
 | val,.mk n em t::r,hf=>by
  simp only[qby] at hf;simp only[opF,qhm W e P Q hal h val t hf.1.2.2,qle W e P Q hal h val r hf.2]
theorem qls (W:Wd) (e:Nat) (P Q:Nat→Nat) (hal:(dc W e).alias=true) (h:qw1 W e P Q):∀ (l:List Ty),qbi W e l→opT P l=opT Q l
 | [],hf=>by simp[opT]
 | t::r,hf=>by
  simp only[qbi] at hf;simp only[opT,qhm W e P Q hal h true t hf.1.2,qls W e P Q hal h r hf.2]
end
theorem qh1 (P:Nat→Nat):∀ (l:List Ty) (k:Nat) (hk:k<l.length),opT P (l.take (k+1))=opT P (l.take k)+op P l[k]
 | t::r,0,_=>by simp[opT]
 | t::r,k+1,hk=>by
  have:=qh1 P r k (by simpa using hk);simp only[List.take_succ_cons,zh,opT,this];omega
theorem qnb (P:Nat→Nat):∀ (l:List Fd) (k:Nat) (hk:k<l.length),opF P (l.take (k+1))=opF P (l.take k)+op P l[k].of
 | .mk _ _ t::r,0,_=>by simp[opF,Fd.of]
 | .mk _ _ t::r,k+1,hk=>by
  have:=qnb P r k (by simpa using hk);simp only[List.take_succ_cons,zh,opF,this];omega
theorem qqe (P:Nat→Nat) (hP:∀ n,1≤P n) (t:Ty):1≤op P t:=by
 cases t;simp only[op];split
 ·have:=hP ‹Int›.toNat;omega
 ·omega
structure qdx (W:Wd) (t:Ty) (P:Nat→Nat):Prop where
 pos:∀ n,1≤P n
 alias:∀ d,d<W.length→(dc W d).alias=true→op P (dc W d).of≤P d
 decl:∀ d,d<W.length→op P (dc W d).of≤2000
 operand:op P t≤2001
