import Derived.Test.YtmfhclggkjjcdaaGreatDoorL24
import Derived.Test.YtmfhclggkjjcdaaGreatDoorL17
set_option linter.all false
namespace Go.Proofs.YtmfhclggkjjcdaaGreatDoor
open Go Go.RowKit Go.Proofs.Tryz
theorem qbz.keep {F:Fix} {s:St} {w w':World} {d b tn:Nat} {U:TypeId} {ux:Addr} {ra:Option Addr} {rc:Nat} {fs:List Nat} (h:qbz F s w d b tn U ux ra rc fs) (hb:Below w.heap.size w w'):qbz F s w' d b tn U ux ra rc fs:=
 ⟨h.tb,h.tnB.keep hb,h.blk.keep hb,h.lit,Den.mono (show G.Le (gOf F s (rdT w)) (gOf F s (rdT w')) from⟨rfl,rfl,fun _ _ h=>h,fun _ _ h=>h,fun _ h=>h,qa0 hb⟩) h.den,h.len,qab h.row (qag.keep (S:=fun _=>False) hb) (fun _ _ h=>h),fun j hj=>⟨(h.ms j hj).1,(h.ms j hj).2.mono (qa0 hb)⟩⟩
theorem qn3 (b:Nat) (p q:Operand) (w:World):(eqGuard .neq 98 p q (ptrV b) (.pointer none)).run prog w = .ok () w∧(binOp .neq 98 (ptrV b) (.pointer none)).run prog w = .ok (.bool true) w:=by
 constructor
 ·go_simp
 ·go_simp
theorem qop (p q:Operand) (w:World):(eqGuard .neq 98 p q (.pointer none) (.pointer none)).run prog w = .ok () w∧(binOp .neq 98 (.pointer none) (.pointer none)).run prog w = .ok (.bool false) w:=by
 constructor
 ·go_simp
 ·go_simp
structure St1 (F:Fix) (P:Nat→Nat) (s:St) (wB:World) (sb g:Nat) (cur:List En) (S:List Nat) (lv:Nat) (h:Option Hi) (nx:List En) (S':List Nat) (ov iv dv:Value) (na:Option Addr) (nc:Nat) (cells:List Value) (w:World):Prop where
 bel:Below wB.heap.size wB w
 seen:qeb wB.heap.size w sb (S'.map (nbOf F))
 hit:HitM F s wB w h ov iv dv
 nxa:NxAt F P s wB w na nc nx cells
 own:∀ b,(Value.slice na nx.length nc).ownBlock=some b→b≠g∧wB.heap.size≤b
 cura:qnz F P s wB w g cur
 ok:NxOk F.W P cur S nx S' lv
 gge:wB.heap.size≤g
variable {F:Fix} {P:Nat→Nat} {s:St} {wB:World} {sb g:Nat} {cur:List En} {S:List Nat} {lv:Nat} {h:Option Hi} {nx:List En} {S':List Nat} {ov iv dv:Value} {na:Option Addr} {nc:Nat} {cells:List Value} {w w':World}
theorem St1.keep (H:St1 F P s wB sb g cur S lv h nx S' ov iv dv na nc cells w) (hb:Below w.heap.size w w'):St1 F P s wB sb g cur S lv h nx S' ov iv dv na nc cells w':=
 ⟨H.bel.trans (hb.mono H.bel.size),H.seen.keep hb,H.hit.keep hb,H.nxa.keep hb,H.own,H.cura.keep hb,H.ok,H.gge⟩
theorem qdv {w:World} {b:Nat} {T:TypeId} {cs:List Value} (hb:Blk w b T cs) (hT:T≠230):¬ qmu w b:=fun h=>by
 rcases h with ⟨cs',h⟩|⟨es,c,h⟩
 ·exact hb.tne h hT rfl
 ·unfold Blk at hb;rw[hb] at h;cases h
theorem St1.see (H:St1 F P s wB sb g cur S lv h nx S' ov iv dv na nc cells w) {d:Nat} (hd:d<F.W.length∧(dc F.W d).alias=false) (hn:d ∉ S') (hs:qeb wB.heap.size w' sb (S'.map (nbOf F)++[nbOf F d])) (hb:Below wB.heap.size w w') (ht:qah (qmu w) w w'):
  St1 F P s wB sb g cur S lv h nx (S'++[d]) ov iv dv na nc cells w'∧S.length<(S'++[d]).length:=by
 obtain⟨q1,q2⟩:=H.ok.seen hd hn;obtain⟨cs,hc⟩:=H.cura.blk;exact⟨⟨H.bel.trans hb,by rw[List.map_append];exact hs,H.hit.apart ht.apart fun b cs hb=>qdv hb (by decide),H.nxa.apart ht.apart fun b T cs hb hT=>qdv hb (by rcases hT with rfl|rfl <;> decide),H.own,H.cura.apart ht.apart (qdv hc (by decide)) fun b cs hb=>qdv hb (by decide),q1,H.gge⟩,q2⟩
theorem St1.found (H:St1 F P s wB sb g cur S lv h nx S' ov iv dv na nc cells w) {h':Option Hi} {ov' iv' dv':Value} (hh:HitM F s wB w h' ov' iv' dv'):St1 F P s wB sb g cur S lv h' nx S' ov' iv' dv' na nc cells w:=
 ⟨H.bel,H.seen,hh,H.nxa,H.own,H.cura,H.ok,H.gge⟩
theorem St1.grow (H:St1 F P s wB sb g cur S lv h nx S' ov iv dv na nc cells w) {e:En} {k:TypeId×Nat} {ia:Option Addr} {ic:Nat} {u:Value} {na':Option Addr} {nc':Nat} (ht:TyIn wB k) (hp:PlV F P s wB e.to (tyV k) u) (hi:w.ownsRow 0 3 1 (.slice ia e.ix.length ic) e.ix.length (qbh e.ix))
  (ho:w'.ownsRow 0 225 4 (.slice na' (nx.length+1) nc') (nx.length+1) (cells++[tyV k,.slice ia e.ix.length ic,.bool e.ind,.bool e.mul])) (hg:w.grownBy w' (Value.slice na nx.length nc).ownBlock)
  (hl:(Value.slice na' (nx.length+1) nc').ownBlock=(Value.slice na nx.length nc).ownBlock∨(Value.slice na' (nx.length+1) nc').ownBlock=some w.heap.size) (hok:NxOk F.W P cur S (nx++[e]) S' lv):
  St1 F P s wB sb g cur S lv h (nx++[e]) S' ov iv dv na' nc' (cells++[tyV k,.slice ia e.ix.length ic,.bool e.ind,.bool e.mul]) w':=by
 have hA:qag (fun b=>(Value.slice na nx.length nc).ownBlock=some b) w w':=⟨hg.size,fun b hb hn=>hg.block b hb fun e=>hn e.symm⟩;have hno:∀ {b:Nat} {T:TypeId} {cs:List Value},Blk w b T cs→T≠225→¬ (Value.slice na nx.length nc).ownBlock=some b:=fun hb hT hx=>by
  obtain⟨cs',hc⟩:=qaf H.nxa.own hx;exact hb.tne hc hT rfl
 have hgl:g<w.heap.size:=by obtain⟨cs,hc⟩:=H.cura.blk;exact hc.lt
 have hmap:∀ {r:Nat} {es:Array MapEntry} {c:Nat},w.heap[r]?=some (.map es c)→¬ (Value.slice na nx.length nc).ownBlock=some r:=fun h hx=>by
  obtain⟨cs',hc⟩:=qaf H.nxa.own hx;unfold Blk at hc;rw[hc] at h;cases h
 refine⟨H.bel.trans ⟨hg.os,hg.tape,hg.output,hg.size,fun b hb=>hg.block b (Nat.lt_of_lt_of_le hb H.bel.size) fun e => ?_⟩,?_,H.hit.apart hA fun b cs hb=>hno hb (by decide),H.nxa.app ht hp hi ho hg,fun b hb => ?_,H.cura.apart hA (fun e=>(H.own g e).1 rfl) fun b cs hb=>hno hb (by decide),hok,H.gge⟩
 ·exact absurd (H.own b e.symm).2 (by omega)
 ·obtain⟨hge,m,hb,hm⟩:=H.seen;refine⟨hge,m,hb.apart hA (hno hb (by decide)),?_⟩;rcases hm with hm|⟨h1,r,M,q1,q2,q3,q4,q5⟩
  ·exact .inl hm
  ·refine .inr ⟨h1,r,M,q1,q2,q3.apart hA ?_,q4,fun e he => ?_⟩
   ·obtain⟨es,c,hr,-⟩:=q3;exact hmap hr
   ·obtain⟨ra,rc,g1,g2⟩:=q5 e he;refine⟨ra,rc,g1,qab g2 hA fun b hb => ?_⟩;obtain⟨cs',hc⟩:=qaf g2 hb;exact hno hc (by decide)
 ·have e:(nx++[‹En›]).length=nx.length+1:=by simp
  rw[e] at hb;rcases hl with hl|hl
  ·rw[hl] at hb;exact H.own b hb
  ·rw[hl] at hb;cases hb;exact⟨by omega,H.bel.size⟩
theorem St1.get (H:St1 F P s wB sb g cur S lv h nx S' ov iv dv na nc cells w) {k:Nat} (hk:k<cur.length):∃ x:En×(TypeId×Nat)×Option Addr×Nat×Value,cur.drop k=x.1::cur.drop (k+1)∧x.1∈cur∧EnC F P s wB w g (k * 4) x.1 x.2.1 x.2.2.1 x.2.2.2.1 x.2.2.2.2:=by
 obtain⟨key,ia,ic,u,hE⟩:=H.cura.at_ k hk;exact⟨(cur[k],key,ia,ic,u),List.drop_eq_getElem_cons hk,z8 hk,hE⟩
def qim (W:Wd) (q m:Int) (e:En) (h:Option Hi) (nx r:List En) (Sn:List Nat) (E0:Stp ((Option Hi×List En)×List Nat)):Prop:=(match typS W q m e (h,nx) with
 | .ok st=>ents W q m r st Sn
 | .error x => .error x)=E0
theorem qim.of {W:Wd} {q m:Int} {e:En} {h:Option Hi} {nx r:List En} {S:List Nat} {E0:Stp ((Option Hi×List En)×List Nat)} (hn:e.to.of.kind=1→e.to.of.num.toNat ∉ S∧qey W e.to.of.num.toNat q m=none) (he:ents W q m (e::r) (h,nx) S=E0):qim W q m e h nx r (seenN e S) E0:=by
 unfold qim;rw[qws hn] at he;exact he
theorem nd_all {F:Fix} {P:Nat→Nat} {w0:World} {s:St} {w:World} (A:Amb F P w0 s w) {S:List Nat} (hS:NdS F.W S) {d b tn:Nat} {U:TypeId} {ux:Addr} {ra:Option Addr} {rc:Nat} {fs:List Nat} (hd:d<F.W.length∧(dc F.W d).alias=false) (h:qbz F s w d b tn U ux ra rc fs):∃ f:Nat→Nat,∀ y∈S.map (nbOf F),qfw w b y tn (f y):=by
 have h1:∀ y:Nat,∃ ty:Nat,y∈S.map (nbOf F)→qfw w b y tn ty:=fun y=>by
  by_cases hy:y∈S.map (nbOf F)
  ·obtain⟨e,he,rfl⟩:=zkb.1 hy;obtain⟨tx,ty,hp,-⟩:=qp9 A hd (hS.2 e he);rw[qis h] at hp;have:tx=tn:=by
    obtain⟨cs,hc⟩:=hp.bx;have k1:=hc.cell 1;rw[h.blk.cell] at k1;simp only[zu,zt] at k1;cases k1;rfl
   exact⟨ty,fun _=>this ▸ hp⟩
  ·exact⟨0,fun h=>absurd h hy⟩
 exact Classical.skolem.1 h1
structure St2 (F:Fix) (P:Nat→Nat) (s:St) (wB:World) (sb g cb:Nat) (q m:Int) (cur:List En) (S:List Nat) (lv:Nat) (h:Option Hi) (nx:List En) (S':List Nat) (e:En) (r:List En) (ov iv dv:Value) (na:Option Addr) (nc:Nat) (cells:List Value) (key:TypeId×Nat) (ia:Option Addr) (ic:Nat) (E0:Stp ((Option Hi×List En)×List Nat)) (w:World):Prop where
 st:St1 F P s wB sb g cur S lv h nx (seenN e S') ov iv dv na nc cells w
 gr:e.to.of.kind=1→S.length<(seenN e S').length
 eq:qim F.W q m e h nx r (seenN e S') E0
 cop:Blk w cb 225 [tyV key,.slice ia e.ix.length ic,.bool e.ind,.bool e.mul]
 ix:w.ownsRow 0 3 1 (.slice ia e.ix.length ic) e.ix.length (qbh e.ix)
theorem Amb.undv {P:Nat→Nat} {w0:World} (A:Amb F P w0 s w) {sp:Spot} {v u:Value} (hv:PlV F P s w sp v u):∃ zb,qf7 w v (tyV (kT (under F.W sp).of.kind,zb))∧PlV F P s w (under F.W sp) (tyV (kT (under F.W sp).of.kind,zb)) (tyV (kT (under F.W sp).of.kind,zb)):=by
 obtain⟨z,h1,-,h3,h4,h5⟩:=A.underv hv;have hk1:=qit A.wd.by_ hv.spo.numOk;have hna:qgl z:=A.notAl h4 fun h=>absurd h hk1;have hp:PlV F P s w (under F.W sp) z z:=⟨⟨hna,.inl rfl⟩,h4,h5,fun h=>absurd h hk1,fun al e=>by
  obtain⟨T,x,e2,hT⟩:=hna;rw[e] at e2;cases e2;exact absurd rfl hT⟩
 obtain⟨b,e,-⟩:=hp.ty A;subst e;exact⟨b,h1,hp⟩
theorem meth_ob {P:Nat→Nat} {w0:World} (A:Amb F P w0 s w) {d b tn:Nat} {U:TypeId} {ux:Addr} {ra:Option Addr} {rc:Nat} {fs:List Nat} (hd:d<F.W.length) (h:qbz F s w d b tn U ux ra rc fs) {q m:Int} {i:Nat} (hi:qey F.W d q m=some i):
  i<fs.length∧s.ob (start F.W d+i)=some (true,fs.getD i 0)∧start F.W d+i<F.N∧∃ pk n,qel (rdT w) (fs.getD i 0) pk n ((dc F.W d).methods.getD i ⟨0,false⟩).ptr:=by
 have hil:i<fs.length:=by
  unfold qey at hi;split at hi
  ·unfold qj9 at hi;have:=(List.findIdx?_eq_some_iff_getElem.1 hi).1;rw[h.len];simpa[qf3] using this
  ·cases hi
 have e:fs.getD i 0=fs[i]:=by simp[hil]
 obtain⟨q1,q2⟩:=h.ms i hil;rw[e];refine⟨hil,q1,?_,_,_,q2⟩;have h1:=(A.wd.sp d hd).nn;have h2:=A.N;have h3:=h.len;simp only[qad] at h1;omega
theorem St1.look {P':Nat→Nat} {w0:World} (A:Amb F P' w0 s w) (H:St1 F P s wB sb g cur S lv h nx S' ov iv dv na nc cells w) {d b tn:Nat} {U:TypeId} {ux:Addr} {ra:Option Addr} {rc:Nat} {fs:List Nat} (hd:d<F.W.length∧(dc F.W d).alias=false) (hN:qbz F s w d b tn U ux ra rc fs):
  Calls prog 109 #[ptrV sb,ptrV b] w (qa2 (if d∈S' then ptrV b else .pointer none) w):=by
 obtain⟨f,hf⟩:=nd_all A H.ok.nds hd hN;have:=qo3 wB.heap.size sb b tn f _ w H.seen hf;have hm:=qw7 A H.ok.nds hd;rw[qis hN] at hm;by_cases h1:d∈S'
 ·rw[if_pos h1];rw[qf0 (hm.2 h1)] at this;exact this
 ·rw[if_neg h1];rw[qm3 (fun h2=>h1 (hm.1 h2))] at this;exact this
theorem St1.addS {P':Nat→Nat} {w0:World} (A:Amb F P' w0 s w) (H:St1 F P s wB sb g cur S lv h nx S' ov iv dv na nc cells w) {d b tn:Nat} {U:TypeId} {ux:Addr} {ra:Option Addr} {rc:Nat} {fs:List Nat} (hd:d<F.W.length∧(dc F.W d).alias=false) (hN:qbz F s w d b tn U ux ra rc fs) (hn:d ∉ S'):
  Calls prog 110 #[ptrV sb,ptrV b] w fun e w'=>e = .returned (.tuple #[])∧Hid (St1 F P s wB sb g cur S lv h nx (S'++[d]) ov iv dv na nc cells w'∧S.length<(S'++[d]).length∧Below wB.heap.size w w'∧qah (qmu w) w w'):=by
 have hm:=qw7 A H.ok.nds hd;rw[qis hN] at hm;refine(qv7 wB.heap.size sb b _ w H.seen H.bel.size ⟨_,hN.blk⟩ (fun y hy => ?_) (fun h2=>hn (hm.1 h2))).mono ?_
 ·obtain⟨e,he,rfl⟩:=zkb.1 hy;obtain⟨_,_,hp,-⟩:=qp9 A hd (H.ok.nds.2 e he);exact hp.by_.elim fun cs h=>⟨_,h⟩
 ·rintro e w' ⟨rfl,hq⟩;have hs:=hq.out.1;rw[← qis hN] at hs;obtain⟨h1,h2⟩:=H.see hd hn hs hq.out.2.1 hq.out.2.2;exact⟨rfl,hid ⟨h1,h2,hq.out.2.1,hq.out.2.2⟩⟩
set_option maxRecDepth 100000
theorem quq (P:Nat→Nat):∀ (l:List Ty) (i:Nat) (hi:i<l.length),op P l[i]≤opT P l
 | t::r,0,_=>by simp only[opT,zi];omega
 | t::r,i+1,hi=>by
  have:=quq P r i (by simpa using hi);simp only[opT,zh];omega
theorem SpO.embed {W:Wd} {P:Nat→Nat} {s:Spot} (h:SpO W P s) (hk:s.of.kind=5) {i:Nat} (hi:i<s.of.embeds.length):SpO W P (qav s i):=by
 obtain⟨d,val,hf⟩:=h.fo;obtain⟨e1,e2,e3,e4,e5⟩:=hf.k5 hk;have hg:s.of.embeds.getD i ty0=s.of.embeds[i]:=by simp[hi]
 have h1:=h.sz;have h2:=h.bk;have h3:=h.nn;have hb:=qbd s.of;have hb2:=qa6 s.of.embeds i hi;have h4:=qc1 s.of.embeds i hi;have h5:=qa5 s.of.embeds (i+1);have h6:=qkt s.of;have h7:op P s.of.embeds[i]≤op P s.of:=by
  have:=quq P s.of.embeds i hi;refine Nat.le_trans this ?_
  generalize s.of=t
  cases t;simp only[op,Ty.embeds];omega
 refine⟨h.pp,?_,?_,⟨d,true,?_⟩,?_,?_⟩
 ·simp only[qav,hg];omega
 ·simp only[qav,hg];exact h.va.iface.2.get i hi
 ·simp only[qav,hg];exact e5.get i hi
 ·simp only[qav,hg];omega
 ·simp only[qav,hg];omega
theorem MS.ob {F:Fix} {P:Nat→Nat} {st:St} {μ:Spot→Nat} {w0 w:World} (C:CI F st μ w0 w) (hW:WdO F.W P) (hN:P F.W.length=F.N+1) (hk:∀ b s,(b,s)∈st.ifs→s.of.kind=5) {s:Spot} {l:List Mn} (h:MS F.W s l):∀ b,(b,s)∈st.ifs→SpO F.W P s→∀ m∈l,(∃ x,st.ob m.k=some (true,x))∧m.k<F.N:=by
 induction h with
 | mk s ls hl hms ih=>
  intro b hm hs m hx;rcases qgq (qka hx) with hx|⟨l,hl1,hx⟩
  ·rcases qf2 hx with hx|hx
   ·cases hx
   ·unfold expl at hx;obtain⟨k,hk1,rfl⟩:=zkb.1 hx;have hk2:=quf hk1;obtain⟨i,hi⟩:=List.mem_iff_getElem?.1 hk1;obtain⟨a,c,-,-,hM⟩:=C.meth b s hm;obtain⟨gb,o,x,-,-,ho,-⟩:=hM i k hi;refine⟨⟨x,ho⟩,?_⟩;have h1:=hs.nn;have h2:=qkt s.of;simp only;omega
  ·obtain⟨i,hi,rfl⟩:=List.mem_iff_getElem.1 hl1;obtain⟨ea,ec,-,-,hE⟩:=C.emb b s hm;obtain⟨gb,o,v,b',-,-,-,hm'⟩:=hE i (by omega);exact ih i hi b' hm' ((hs.embed (hk b s hm) (by omega)).toUnder hW) m hx
variable {F:Fix} {P:Nat→Nat} {w0:World} {s:St} {w:World}
theorem qqm (A:Amb F P w0 s w) {sp:Spot} {v:Value} {zb:Nat} (h:PlV F P s w sp v (.iface 112 (ptrV zb))) (hk:sp.of.kind=5) (q m:Int) (hq:q=0∨q=1) (hm:IsNm m) (h8:m≠8):
  ∃ ts,w.cell? ⟨zb,0,none⟩=some (.pointer none)∧w.cell? ⟨zb,6,none⟩=some (ptrV ts)∧
   Calls prog 114 #[ptrV ts,ptrV (F.pk q),.string (qas m),.bool false] w (qa2 (idxV (qhz (qih (msL F.W sp)) q m) ((msL F.W sp).map fun m=>qbf s m.k)) w)∧
   ∀ i,qhz (qih (msL F.W sp)) q m=some i→∃ b sg,((msL F.W sp).map fun m=>qbf s m.k).getD i 0=b∧s.ob ((msL F.W sp).getD i mn0).k=some (true,b)∧((msL F.W sp).getD i mn0).k<F.N∧(∃ pk n,qel (rdT w) b pk n false)∧w.cell? ⟨b,3,none⟩=some (.iface 162 (ptrV sg)):=by
 obtain⟨b',a',c',a2,c2,e,hmem,-⟩:=Den.iface h.den hk;cases e;obtain⟨G,hG⟩:=A.bt.comp;obtain⟨ts,l,ra,rc,ea,ec,hB,hS⟩:=hG.all hmem;have hl:msL F.W sp=l:=qug hS.ms;rw[hl];refine⟨ts,(qbr hB).2.2.2.2.2,(qbr hB).2.2.1,qmn hS A.bt.ok A.tabs hq hm h8,fun i hi => ?_⟩;have hil:i<l.length:=by
  unfold qhz at hi;have:=(List.findIdx?_eq_some_iff_getElem.1 hi).1;simpa[qih] using this
 have e1:l.getD i mn0=l[i]:=by simp[hil]
 have e2:(l.map fun m=>qbf s m.k).getD i 0=qbf s l[i].k:=by simp[hil]
 rw[e1,e2];obtain⟨⟨x,hx⟩,hlt⟩:=MS.ob hG.ci A.wd A.N (fun b s hm=>(A.bt.mem b s hm).2.1) hS.ms _ hmem h.spo _ (z8 hil);have hF:=(hS.ok l[i] (z8 hil)).2;rw[qms hx] at hF ⊢;have hF2:=hF;obtain⟨sg,v',T,aa,f1,-⟩:=hF2;exact⟨x,sg,rfl,hx,hlt,⟨_,_,hF⟩,qax (f1 3 _ rfl)⟩
def qez (W:Wd) (q m:Int) (e:En) (u:Spot) (n i:Nat) (h:Option Hi) (nx r:List En) (Sn:List Nat) (E0:Stp ((Option Hi×List En)×List Nat)):Prop:=(match flds W q m e u n i (h,nx) with
 | .ok st=>ents W q m r st Sn
 | .error x => .error x)=E0
theorem qim.str {W:Wd} {q m:Int} {e:En} {h:Option Hi} {nx r:List En} {Sn:List Nat} {E0:Stp ((Option Hi×List En)×List Nat)} (hr:qim W q m e h nx r Sn E0) (hk:(under W e.to).of.kind=4):qez W q m e (under W e.to) (under W e.to).of.fields.length 0 h nx r Sn E0:=by
 unfold qim at hr;rw[qu1 hk] at hr;exact hr
section
variable {W:Wd} {q m:Int} {e:En} {u:Spot} {n i:Nat} {h:Option Hi} {nx r:List En} {Sn:List Nat} {E0:Stp ((Option Hi×List En)×List Nat)}
theorem qez.fin (hr:qez W q m e u 0 i h nx r Sn E0):ents W q m r (h,nx) Sn=E0:=hr
theorem qez.hit (hr:qez W q m e u (n+1) i h nx r Sn E0) (hs:qbp u.pkg (fname W (u.of.fields.getD i fd0)) q m=true):(∀ h',qgu e h i (qe0 u i) false false = .ok h'→qez W q m e u n (i+1) h' nx r Sn E0)∧∀ x,qgu e h i (qe0 u i) false false = .error x→E0 = .error x:=by
 unfold qez at hr;rw[qv8 hs] at hr;constructor
 ·intro h' e1;rw[e1] at hr;exact hr
 ·intro x e1;rw[e1] at hr;exact hr.symm
theorem qez.sub {nx:List En} (hr:qez W q m e u (n+1) i none nx r Sn E0) (hs:qbp u.pkg (fname W (u.of.fields.getD i fd0)) q m=false) (he:(u.of.fields.getD i fd0).embedded=true):qez W q m e u n (i+1) none (nx++[subE W e u i]) r Sn E0:=by
 unfold qez at hr ⊢;rw[qwy hs he] at hr;exact hr
theorem qez.no (hr:qez W q m e u (n+1) i h nx r Sn E0) (hs:qbp u.pkg (fname W (u.of.fields.getD i fd0)) q m=false) (he:h.isSome=true∨(u.of.fields.getD i fd0).embedded=false):qez W q m e u n (i+1) h nx r Sn E0:=by
 unfold qez at hr ⊢;rw[flds_no hs he] at hr;exact hr
end
structure St3 (F:Fix) (P:Nat→Nat) (s:St) (wB:World) (sb g cb:Nat) (q m:Int) (cur:List En) (S:List Nat) (lv:Nat) (h:Option Hi) (nx:List En) (S':List Nat) (e:En) (u:Spot) (n i k:Nat) (r:List En) (ov iv dv:Value) (na:Option Addr) (nc:Nat) (cells:List Value) (key:TypeId×Nat) (ia:Option Addr) (ic:Nat) (E0:Stp ((Option Hi×List En)×List Nat)) (w:World):Prop where
 st:St1 F P s wB sb g cur S lv h nx S' ov iv dv na nc cells w
 eq:qez F.W q m e u n i h nx r S' E0
 cop:Blk w cb 225 [tyV key,.slice ia e.ix.length ic,.bool e.ind,.bool e.mul]
 ix:w.ownsRow 0 3 1 (.slice ia e.ix.length ic) e.ix.length (qbh e.ix)
 len:nx.length≤k * 2000+i
 ne:∀ b,(Value.slice na nx.length nc).ownBlock=some b→b≠cb
theorem quv {o o':Option Nat} {z cb:Nat} (hl:o'=o∨o'=some z) (hne:∀ b,o=some b→b≠cb) (hc:cb<z):∀ b,o'=some b→b≠cb:=fun b hb=>by
 rcases hl with hl|hl
 ·rw[hl] at hb;exact hne b hb
 ·rw[hl] at hb;cases hb;omega
theorem qrn {B sb g:Nat} {L:List Nat} {w w':World} {cs:List Value} (H:qeb B w sb L) (ha:qag (fun b=>b=g) w w') (hg:Blk w g 225 cs):qeb B w' sb L:=by
 obtain⟨hge,m,hb,hm⟩:=H;refine⟨hge,m,hb.apart ha (hb.tne hg (by decide)),?_⟩;rcases hm with hm|⟨h1,r,M,q1,q2,q3,q4,q5⟩
 ·exact .inl hm
 ·refine .inr ⟨h1,r,M,q1,q2,q3.apart ha fun e => ?_,q4,fun e he => ?_⟩
  ·have e':r=g:=e;subst e';obtain⟨es,c,hr,-⟩:=q3;unfold Blk at hg;rw[hg] at hr;cases hr
  ·obtain⟨ra,rc,g1,g2⟩:=q5 e he;refine⟨ra,rc,g1,qab g2 ha fun b hb => ?_⟩;obtain⟨cs',hc⟩:=qaf g2 hb;exact hc.tne hg (by decide)
theorem qut (A:Amb F P w0 s w) {sp:Spot} {v:Value} (hd:DenW F s w sp v) (hs:SpO F.W P sp):
  ∃ k u,(∀ w',Below w.heap.size w w'→Calls prog 108 #[v] w' (fun e w2=>e = .returned (.tuple #[tyV k,.bool (drf F.W sp).2])∧w2=w'))∧PlV F P s w (pl F.W (drf F.W sp).1) (tyV k) u∧TyIn w k:=by
 obtain⟨T,x,h1,h2,h3,h4⟩:=qou A hd hs;obtain⟨u,hu⟩:=A.plainv h2 h3;obtain⟨k,hk,hi⟩:=hu.key A;exact⟨k,u,fun w' hb=>by rw[← hk];exact h1 w' hb,hk ▸ hu,hi⟩
theorem qo4 {D:TypeId} {e:TypeId} (hu:prog.underlying D=some (.pointer e)) (v:Value) (w:World):(Instr.typeAssert (.iface D v) 68 D true).run prog w = .ok (.tuple #[v,.bool true]) w:=by
 simp[Instr.typeAssert,run_underlying hu,go_sem]
theorem qsv {T D:TypeId} {e:TypeId} (hu:prog.underlying D=some (.pointer e)) (hz:(prog.info? D).map (·.zero)=some (some (.pointer none))) (hT:T≠D) (v:Value) (w:World):(Instr.typeAssert (.iface T v) 68 D true).run prog w = .ok (.tuple #[.pointer none,.bool false]) w:=by
 obtain⟨j,hj,hz'⟩:=zbb.1 hz;simp[Instr.typeAssert,run_underlying hu,go_sem,typeInfo,zeroValue,hj,hz',hT]
theorem Tryz.zFunc:(prog.info? 106).map (·.zero)=some (some (.pointer none)):=by kernel_rfl
theorem qd1 {fn:Func} {a:Tmp} {t:TypeId} (h:fn.results=#[.cell a t]) (tmps:Array Value) (P:Program) (w:World) {ad:Addr} (ha:tmps.getD a undef = .pointer (some ad)) {v:Value} (hl:(loadVar t ad).run P w = .ok v w):
  (results fn tmps).run P w = .ok v w:=by
 simp only[Array.getD_eq_getD_getElem?] at ha;simp[results,h,hl,ha,asAddr]
def qdz (o:Int) (m:Bool) (a:Option Addr) (n c:Nat) (ind:Bool):Value := .agg #[.int .i64 o,.bool m,.slice a n c,.bool ind]
theorem qty (bb:Nat) (a:Option Addr) (n c:Nat) (ind:Bool) (w:World):Calls prog 24 #[ptrV bb,.nilIface,.slice a n c,.bool ind] w (qa2 (qdz (-1) false a n c ind) w):=by
 go_enter func24,ntmps24
 go_wp2_with fail
 (try simp only[Exit.inBlock,Exit.then])
 refine bodyPost_ret (qd1 (v:=qdz (-1) false a n c ind) rfl _ _ _ rfl ?_) rfl ?_
 ·unfold qdz;go_simp
 ·exact⟨rfl,(zp _ _).alloc (zl _) _⟩
theorem qrx {F:Fix} {s:St} {w:World} (hok:BOk F s w) (hc:Cov F s w) (hN:F.N≤4194304) {k0:Nat} (hk:k0<F.N) {m:Bool} {x:Nat} (ho:s.ob k0=some (m,x)) (a:Option Addr) (n c:Nat) (ind:Bool):
  Calls prog 24 #[ptrV F.bb,objV (some (m,x)),.slice a n c,.bool ind] w (qa2 (qdz k0 m a n c ind) w):=by
 have hA:Below w.heap.size w (w.alloc (.cells #[.int .i64 0,.bool false,.slice none 0 0,.bool false] 35)):=(zp _ _).alloc (zl _) _;have HN:=hid (qr2 (BExt.keep hok hA 0).ok (hc.keep hA) hN hk ho);clear hok hc ho hN hA;cases m with
 | true=>
  have hta:=fun v w=>qo4 underlying106 v w;simp only[objV] at HN ⊢;go_enter func24,ntmps24
  go_wp2_with (go_at_call 50;refine HN.out.mono ?_;rintro e w2 ⟨rfl,rfl⟩)
  (try simp only[Exit.inBlock,Exit.then])
  refine bodyPost_ret (qd1 (v:=qdz k0 true a n c ind) rfl _ _ _ rfl ?_) rfl ?_
  ·unfold qdz;go_simp
  ·exact⟨rfl,(zp _ _).alloc (zl _) _⟩
 | false=>
  have hta:=fun v w=>qsv (T:=151) underlying106 Tryz.zFunc (by decide) v w;simp only[objV] at HN ⊢;go_enter func24,ntmps24
  go_wp2_with (go_at_call 50;refine HN.out.mono ?_;rintro e w2 ⟨rfl,rfl⟩)
  (try simp only[Exit.inBlock,Exit.then])
  refine bodyPost_ret (qd1 (v:=qdz k0 false a n c ind) rfl _ _ _ rfl ?_) rfl ?_
  ·unfold qdz;go_simp
  ·exact⟨rfl,(zp _ _).alloc (zl _) _⟩
