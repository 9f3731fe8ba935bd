import Derived.Test.YtmfhclggkjjcdaaGreatDoorK16
set_option linter.all false
namespace Go.Proofs.YtmfhclggkjjcdaaGreatDoor
open Go Go.RowKit
set_option maxRecDepth 100000
theorem Acc.apart {w w':World} {S:Nat→Prop} {B sb ab mb c rm:Nat} {es:List Ent} {m:Option Nat} {a:Option Addr} (h:Acc w B sb ab mb es m a c rm) (ha:qag S w w') (hT:∀ g T cs,Blk w g T cs→T≠175→¬ S g) (hM:∀ g es k,w.heap[g]?=some (.map es k)→¬ S g):Acc w' B sb ab mb es m a c rm:=by
 refine⟨h.sbB.apart ha (hT _ _ _ h.sbB (by decide)),?_,h.abB.apart ha (hT _ _ _ h.abB (by decide)),qab h.own ha fun g hg => ?_,h.row,h.mbB.apart ha (hT _ _ _ h.mbB (by decide)),h.pm.apart ha ?_,h.ge⟩
 ·rcases h.mm with h1|⟨r,h1,h2,h3⟩
  ·exact .inl h1
  ·refine .inr ⟨r,h1,h2.apart ha ?_,h3⟩;obtain⟨es,k,hr,-⟩:=h2;exact hM _ _ _ hr
 ·obtain⟨cs,hb⟩:=qaf h.own hg;exact hT _ _ _ hb (by decide)
 ·obtain⟨es,k,hr,-⟩:=h.pm;exact hM _ _ _ hr
def AccS (sb ab mb c rm n:Nat) (m:Option Nat) (a:Option Addr) (g:Nat):Prop:=g=sb∨m=some g∨g=ab∨(Value.slice a n c).ownBlock=some g∨g=mb∨g=rm
theorem Acc.notS {w:World} {B sb ab mb c rm:Nat} {es:List Ent} {m:Option Nat} {a:Option Addr} (h:Acc w B sb ab mb es m a c rm) {g:Nat} {T:TypeId} {cs:List Value} (hb:Blk w g T cs) (h1:T≠193) (h2:T≠129) (h3:T≠268) (h4:(Value.slice a es.length c).ownBlock≠some g):¬ AccS sb ab mb c rm es.length m a g:=fun hS=>by
 rcases hS with e|e|e|e|e|e
 ·exact hb.tne h.sbB h1 e
 ·rcases h.mm with ⟨e1,-⟩|⟨r,e1,e2,-⟩
  ·rw[e1] at e;cases e
  ·rw[e1] at e;cases e;exact e2.ne hb rfl
 ·exact hb.tne h.abB h2 e
 ·exact h4 e
 ·exact hb.tne h.mbB h3 e
 ·exact h.pm.ne hb e
structure Mid (F:Fix) (st:St) (μ:Spot→Nat) (w0 w:World) (b:Nat) (s:Spot) (ra:Option Addr) (rc:Nat) (ea:Option Addr) (ec:Nat) (G:Nat→Prop) (wr:World) (es:List Mn):Prop where
 mem:(b,s)∈st.ifs
 c0:CI F st μ w0 w
 ci:CI F st μ w0 wr
 ce:CExt F st μ (μ s+1) w wr
 sz:w.heap.size+8≤wr.heap.size
 lt:b<w.heap.size
 ib:Blk wr b 175 (qcd ra s.of.methods.length rc ea s.of.embeds.length ec (some (w.heap.size+1+1)))
 tb:Blk wr (w.heap.size+1+1) 248 [.bool false,.slice none 0 0,.slice (some ⟨w.heap.size+1,0,none⟩) 1 1,.bool false]
 av:AllV wr (.slice (some ⟨w.heap.size+1,0,none⟩) 1 1)
 ok:∀ m∈es,MnOk F st (rdT w) m
 dis:DisN es
 ifs:∀ b' s',(b',s')∈st.ifs→μ s'<μ s+1→b'≠b→IfOk F st G wr b' s'
 Glt:∀ g,G g→g<wr.heap.size
 nts:¬ G (w.heap.size+1+1)
 acc:∃ m a c,Acc wr (w.heap.size+1+1+1+1) (w.heap.size+1+1+1+1) (w.heap.size+1+1+1+1+1) (w.heap.size+1+1+1+1+1+1+1) (es.map (Mn.ent (qbf st))) m a c (w.heap.size+1+1+1+1+1+1)∧∀ g,(Value.slice a (es.map (Mn.ent (qbf st))).length c).ownBlock=some g→¬ G g
section
variable {F:Fix} {st:St} {μ:Spot→Nat} {w0 w wr w':World} {b:Nat} {s:Spot} {ra:Option Addr} {rc:Nat} {ea:Option Addr} {ec:Nat} {G G':Nat→Prop} {es:List Mn}
theorem CI.ifBelow (h:CI F st μ w0 w) (hr:CI F st μ w0 wr) {B:Nat} (hB:w.heap.size≤B) (hb:Below B wr w'):∀ b s,(b,s)∈st.ifs→∃ cs,Blk w' b 175 cs:=fun b s hm=>by
 obtain⟨cs,hc⟩:=hr.ifT b s hm;obtain⟨cs',hc'⟩:=h.ifT b s hm;exact⟨cs,hc.below hb (Nat.lt_of_lt_of_le hc'.lt hB)⟩
theorem Mid.add (h:Mid F st μ w0 w b s ra rc ea ec G wr es) {x:Mn} (hx:MnOk F st (rdT w) x) {m m':Option Nat} {a a':Option Addr} {c c':Nat}
  (hA:Acc wr (w.heap.size+1+1+1+1) (w.heap.size+1+1+1+1) (w.heap.size+1+1+1+1+1) (w.heap.size+1+1+1+1+1+1+1) (es.map (Mn.ent (qbf st))) m a c (w.heap.size+1+1+1+1+1+1)) (hrow:∀ g,(Value.slice a (es.map (Mn.ent (qbf st))).length c).ownBlock=some g→¬ G g)
  (hA':Acc w' (w.heap.size+1+1+1+1) (w.heap.size+1+1+1+1) (w.heap.size+1+1+1+1+1) (w.heap.size+1+1+1+1+1+1+1) ((addN es x).map (Mn.ent (qbf st))) m' a' c' (w.heap.size+1+1+1+1+1+1))
  (hB:Below (w.heap.size+1+1+1+1) wr w') (hTu:qah (AccS (w.heap.size+1+1+1+1) (w.heap.size+1+1+1+1+1) (w.heap.size+1+1+1+1+1+1+1) c (w.heap.size+1+1+1+1+1+1) (es.map (Mn.ent (qbf st))).length m a) wr w')
  (hrow':(Value.slice a' ((addN es x).map (Mn.ent (qbf st))).length c').ownBlock=(Value.slice a (es.map (Mn.ent (qbf st))).length c).ownBlock∨∀ g,(Value.slice a' ((addN es x).map (Mn.ent (qbf st))).length c').ownBlock=some g→wr.heap.size≤g):
  Mid F st μ w0 w b s ra rc ea ec G w' (addN es x):=by
 have hB0:=hB.mono (B':=w.heap.size) (by omega);have hce:=h.ce.below hB0;have hci:CI F st μ w0 w':=h.c0.ext hce (h.c0.ifBelow h.ci (zl _) hB0);have hav:=h.av.apart hTu.apart fun b T cs hb hT=>hA.notS hb (by rcases hT with rfl|rfl <;> decide) (by rcases hT with rfl|rfl <;> decide) (by rcases hT with rfl|rfl <;> decide) fun e=>by
  obtain⟨cs',hc⟩:=qaf hA.own e;exact hb.tne hc (by rcases hT with rfl|rfl <;> decide) rfl
 refine⟨h.mem,h.c0,hci,hce,Nat.le_trans h.sz hB.size,h.lt,h.ib.below hB (by have:=h.lt;omega),h.tb.below hB (by omega),hav,fun m hm => ?_,qqt h.dis,fun b' s' hm hμ hne => ?_,fun g hg=>Nat.lt_of_lt_of_le (h.Glt g hg) hB.size,h.nts,m',a',c',hA',fun g hg hG => ?_⟩
 ·rcases qqr hm with hm|rfl
  ·exact h.ok m hm
  ·exact hx
 ·obtain⟨ra',rc',ea',ec',tso,q1,q2⟩:=h.ifs b' s' hm hμ hne;obtain⟨cs',hc'⟩:=h.c0.ifT b' s' hm;refine⟨ra',rc',ea',ec',tso,q1.below hB0 hc'.lt,?_⟩;rcases q2 with q2|⟨ts,l,q2,q3⟩
  ·exact .inl q2
  ·refine .inr ⟨ts,l,q2,q3.ms,q3.set.apart hTu.apart (fun b T cs hb hT=>hA.notS hb (by rcases hT with rfl|rfl|rfl <;> decide) (by rcases hT with rfl|rfl|rfl <;> decide) (by rcases hT with rfl|rfl|rfl <;> decide) fun e => ?_) (fun g cs hg hb=>hA.notS hb (by decide) (by decide) (by decide) fun e=>hrow g e hg) (fun g h=>h),hci.msOk q3.ms b' hm,q3.dis⟩;obtain⟨cs',hc⟩:=qaf hA.own e;exact hb.tne hc (by rcases hT with rfl|rfl|rfl <;> decide) rfl
 ·rcases hrow' with e|e
  ·exact hrow g (e ▸ hg) hG
  ·have:=e g hg;have:=h.Glt g hG;omega
theorem Mid.turn (h:Mid F st μ w0 w b s ra rc ea ec G wr es) {k:Nat} (hk:k≤μ s) (he:CExt F st μ k wr w') (hci:CI F st μ w0 w') (hI:IfS F st μ G' w' k) (hGG:∀ g,G g→G' g) (hG':∀ g,G' g→G g∨wr.heap.size≤g) (hlt:∀ g,G' g→g<w'.heap.size):Mid F st μ w0 w b s ra rc ea ec G' w' es:=by
 have hno:∀ b' s',(b',s')∈st.ifs→k≤μ s'→¬ ∃ s'',(b',s'')∈st.ifs∧μ s''<k:=fun b' s' hm hl ⟨s'',h1,h2⟩=>by
  rw[h.c0.inj b' s'' s' h1 hm] at h2;omega
 refine⟨h.mem,h.c0,hci,h.ce.trans (he.mono (by omega)),Nat.le_trans h.sz he.turns.apart.size,h.lt,h.ib.apart he.turns.apart (hno b s h.mem hk),h.tb.apart he.turns.apart (h.ci.notIf h.tb (by decide)),h.av.apart he.turns.apart fun b T cs hb hT=>h.ci.notIf hb (by rcases hT with rfl|rfl <;> decide),h.ok,h.dis,fun b' s' hm hμ hne => ?_,hlt,fun hg=>by
  rcases hG' _ hg with h1|h1
  ·exact h.nts h1
  ·have:=h.sz;omega,?_⟩
 ·by_cases hl:μ s'<k
  ·exact hI b' s' hm hl
  ·obtain⟨ra',rc',ea',ec',tso,q1,q2⟩:=h.ifs b' s' hm hμ hne;refine⟨ra',rc',ea',ec',tso,q1.apart he.turns.apart (hno b' s' hm (by omega)),?_⟩;rcases q2 with q2|⟨ts,l,q2,q3⟩
   ·exact .inl q2
   ·exact .inr ⟨ts,l,q2,q3.ext h.ci he hGG⟩
 ·obtain⟨m,a,c,hA,hr⟩:=h.acc;refine⟨m,a,c,hA.apart he.turns.apart (fun g T cs hb hT=>h.ci.notIf hb hT) (fun g es k hm=>fun⟨s',h1,h2⟩ => ?_),fun g hg hG => ?_⟩
  ·obtain⟨cs,hc⟩:=h.ci.ifT g s' h1;exact hc.ne_map hm rfl
  ·rcases hG' g hG with h1|h1
   ·exact hr g hg h1
   ·obtain⟨cs,hc⟩:=qaf hA.own hg;have:=hc.lt;omega
theorem Mid.keep (h:Mid F st μ w0 w b s ra rc ea ec G wr es) (hB:Below wr.heap.size wr w'):Mid F st μ w0 w b s ra rc ea ec G w' es:=
 h.turn (k:=0) (Nat.zero_le _) (CExt.keep hB) (h.ci.ext (CExt.keep (k:=0) hB) fun b s hm=>by
  obtain⟨cs,hc⟩:=h.ci.ifT b s hm;exact⟨cs,hc.keep hB⟩) (fun _ _ _ h=>absurd h (Nat.not_lt_zero _)) (fun _ h=>h) (fun _ h => .inl h) fun g hg=>Nat.lt_of_lt_of_le (h.Glt g hg) hB.size
end
theorem qpl {w:World} {T:TypeId} {a:Option Addr} {c:Nat} {fs:List Nat} (h:w.ownsRow 0 T 1 (.slice a fs.length c) fs.length (qa7 fs)) {i:Nat} (hi:i<fs.length):∃ g,a=some ⟨g,0,none⟩∧w.cell? ⟨g,i,none⟩=some (ptrV fs[i]):=by
 obtain⟨-,⟨he,hn⟩|⟨g,cap,cur,he,-,hb,h1,h2,h3,h4⟩⟩:=h
 ·omega
 ·cases he;refine⟨g,rfl,?_⟩;have hB:Blk w g T cur.toList:=by simpa[Blk] using hb
  rw[hB.cell];have:=congrArg (fun l=>l[i]?) h4;simp only[Nat.mul_one,List.getElem?_take,hi,if_true] at this;rw[this];simp[qa7,hi]
theorem qlp.get {F:Fix} {st:St} {G:Nat→Prop} {w:World} {b:Nat} {s:Spot} {ts:Nat} {l:List Mn} (h:qlp F st G w b s ts l):∃ a c tv,Blk w ts 248 [.bool false,.slice a l.length c,tv,.bool false]∧w.ownsRow 0 106 1 (.slice a l.length c) l.length (qa7 (l.map fun m=>qbf st m.k))∧AllV w tv∧(∀ g,(Value.slice a l.length c).ownBlock=some g→G g)∧MS F.W s l:=by
 obtain⟨ra,rc,ea,ec,h1,h2⟩:=h;obtain⟨a,c,tv,q1,q2,q3,q4,-⟩:=h2.set;simp only[List.length_map] at q1 q2 q4;exact⟨a,c,tv,q1,q2,q3,q4,h2.ms⟩
theorem Mid.done {F:Fix} {st:St} {μ:Spot→Nat} {w0 w wr w':World} {b:Nat} {s:Spot} {ra:Option Addr} {rc:Nat} {ea:Option Addr} {ec:Nat} {G:Nat→Prop} {es:List Mn} (h:Mid F st μ w0 w b s ra rc ea ec G wr es) {a:Option Addr} {c:Nat} {tv:Value}
  (hrB:∀ g,(Value.slice a es.length c).ownBlock=some g→w.heap.size+1+1+1+1≤g) {xs:List Value} (hown0:wr.ownsRow 0 106 1 (.slice a es.length c) es.length xs) (hrow:∀ g,(Value.slice a es.length c).ownBlock=some g→¬ G g)
  (hV:AllV wr tv) (hMS:MS F.W s (qff es)) (hTu:qah (fun g=>g=w.heap.size+1+1∨(Value.slice a es.length c).ownBlock=some g) wr w') (htb:Blk w' (w.heap.size+1+1) 248 [.bool false,.slice a es.length c,tv,.bool false])
  (hown:w'.ownsRow 0 106 1 (.slice a es.length c) es.length (qa7 ((qff es).map fun m=>qbf st m.k))):
  ∃ G'':Nat→Prop,qlp F st G'' w' b s (w.heap.size+1+1) (qff es)∧CExt F st μ (μ s+1) w w'∧CI F st μ w0 w'∧IfS F st μ G'' w' (μ s+1)∧(∀ g,G g→G'' g)∧(∀ g,G'' g→G g∨w.heap.size≤g)∧∀ g,G'' g→g<w'.heap.size:=by
 have hB:Below (w.heap.size+1+1) wr w':=hTu.below (by have:=h.sz;omega) fun g hg=>by
  rcases hg with rfl|hg
  ·exact zl _
  ·have:=hrB g hg;omega
 have hB0:=hB.mono (B':=w.heap.size) (by omega);have hce:=h.ce.below hB0;have hci:CI F st μ w0 w':=h.c0.ext hce (h.c0.ifBelow h.ci (zl _) hB0);have hlen:(qff es).length=es.length:=(qip es).length_eq;have hnS:∀ k T cs,Blk wr k T cs→k≠w.heap.size+1+1→T≠106→¬ (k=w.heap.size+1+1∨(Value.slice a es.length c).ownBlock=some k):=fun k T cs hb hk hT e=>by
  rcases e with e|e
  ·exact hk e
  ·obtain⟨cs',hc⟩:=qaf hown0 e;exact hb.tne hc hT rfl
 have hterm:∀ v,AllV wr v→AllV w' v:=fun v hv=>hv.apart hTu.apart fun k T cs hb hT=>hnS k T cs hb (fun e=>(e ▸ hb).tne h.tb (by rcases hT with rfl|rfl <;> decide) rfl) (by rcases hT with rfl|rfl <;> decide);have hset:qo8 F st (fun g=>G g∨g=w.heap.size+1+1∨(Value.slice a es.length c).ownBlock=some g) w' b s (w.heap.size+1+1) (qff es):=
  ⟨hMS,⟨a,c,tv,by simpa[hlen] using htb,by simpa[hlen] using hown,hterm tv hV,fun g hg => .inr (.inr (by simpa[hlen] using hg)),.inr (.inl rfl)⟩,hci.msOk hMS b h.mem,qn8 h.dis⟩
 have hib:=h.ib.below hB (by have:=h.lt;omega);refine⟨fun g=>G g∨g=w.heap.size+1+1∨(Value.slice a es.length c).ownBlock=some g,⟨ra,rc,ea,ec,hib,hset⟩,hce,hci,fun b' s' hm hμ => ?_,fun g h => .inl h,fun g hg => ?_,fun g hg => ?_⟩
 ·by_cases hne:b'=b
  ·subst hne;have e:=h.c0.inj _ _ _ hm h.mem;subst e;exact⟨ra,rc,ea,ec,some _,hib,.inr ⟨_,_,rfl,hset⟩⟩
  ·obtain⟨ra',rc',ea',ec',tso,q1,q2⟩:=h.ifs b' s' hm hμ hne;obtain⟨cs',hc'⟩:=h.c0.ifT b' s' hm;refine⟨ra',rc',ea',ec',tso,q1.below hB0 hc'.lt,?_⟩;rcases q2 with q2|⟨ts,l,q2,q3⟩
   ·exact .inl q2
   ·refine .inr ⟨ts,l,q2,q3.ms,?_,hci.msOk q3.ms b' hm,q3.dis⟩;obtain⟨a3,c3,tv3,z1,z2,z3,z4,z5⟩:=q3.set;refine⟨a3,c3,tv3,z1.apart hTu.apart (hnS _ _ _ z1 (fun e=>h.nts (e ▸ z5)) (by decide)),qab z2 hTu.apart fun g hg e => ?_,hterm _ z3,fun g hg => .inl (z4 g hg),.inl z5⟩;rcases e with e|e
    ·exact h.nts (e ▸ z4 g hg)
    ·exact hrow g e (z4 g hg)
 ·rcases hg with hg|rfl|hg
  ·exact .inl hg
  ·exact .inr (by omega)
  ·have:=hrB g hg;exact .inr (by omega)
 ·rcases hg with hg|rfl|hg
  ·exact Nat.lt_of_lt_of_le (h.Glt g hg) hTu.apart.size
  ·exact htb.lt
  ·obtain⟨cs,hc⟩:=qaf hown0 hg;exact Nat.lt_of_lt_of_le hc.lt hTu.apart.size
theorem Mid.sort {F:Fix} {st:St} {μ:Spot→Nat} {w0 w wr wx:World} {b:Nat} {s:Spot} {ra:Option Addr} {rc:Nat} {ea:Option Addr} {ec:Nat} {G:Nat→Prop} {es:List Mn} (h:Mid F st μ w0 w b s ra rc ea ec G wr es) {m:Option Nat} {a:Option Addr} {c:Nat}
  (hA:Acc wr (w.heap.size+1+1+1+1) (w.heap.size+1+1+1+1) (w.heap.size+1+1+1+1+1) (w.heap.size+1+1+1+1+1+1+1) (es.map (Mn.ent (qbf st))) m a c (w.heap.size+1+1+1+1+1+1)) (hwx:wx=wr.setCell ⟨w.heap.size+1+1,3,none⟩ (.bool false)):
  Calls Tryz.prog 93 #[.slice a es.length c] wx fun e w'=>e = .returned (.tuple #[])∧Hid (qah (fun g=>(Value.slice a es.length c).ownBlock=some g) wx w'∧w'.ownsRow 0 106 1 (.slice a es.length c) es.length (qa7 ((qff es).map fun m=>qbf st m.k))∧Blk w' b 175 (qcd ra s.of.methods.length rc ea s.of.embeds.length ec (some (w.heap.size+1+1)))∧Blk w' (w.heap.size+1+1) 248 [.bool false,.slice none 0 0,.slice (some ⟨w.heap.size+1,0,none⟩) 1 1,.bool false]∧Blk w' (w.heap.size+1+1+1+1+1) 129 [.slice a es.length c]):=by
 have hrB:∀ g,(Value.slice a es.length c).ownBlock=some g→w.heap.size+1+1+1+1≤g:=by simpa using hA.row
 have hTx:qah (fun g=>g=w.heap.size+1+1) wr wx:=hwx ▸ qah.setCell (fun g=>g=w.heap.size+1+1) wr (a:=⟨w.heap.size+1+1,3,none⟩) rfl _;have hown0:wr.ownsRow 0 106 1 (.slice a es.length c) es.length (qa7 (es.map fun m=>qbf st m.k)):=by simpa[Function.comp_def,Mn.ent] using hA.own
 have hownx:=qab hown0 hTx.apart fun g hg e=>by have:=hrB g hg;omega
 have hBx:Below (w.heap.size+1+1) wr wx:=hTx.below (by have:=h.sz;omega) fun g hg=>by omega
 have hB0:=hBx.mono (B':=w.heap.size) (by omega);have hce:=h.ce.below hB0;have hci:CI F st μ w0 wx:=h.c0.ext hce (h.c0.ifBelow h.ci (zl _) hB0);have hw0:w0.heap.size≤w.heap.size:=h.c0.below.size;obtain⟨fs,hfs⟩:∃ fs,fs=es.map fun m=>qbf st m.k:=⟨_,rfl⟩;have hfl:fs.length=es.length:=by rw[hfs];simp
 have hget:∀ i (hi:i<fs.length),∃ hi':i<es.length,fs[i]=qbf st es[i].k:=fun i hi=>⟨by omega,by simp[hfs]⟩;have hO:∀ i (hi:i<fs.length),qgt wx fs[i] (F.pk (es.getD i mn0).p) (es.getD i mn0).p (es.getD i mn0).n∧(Value.slice a es.length c).ownBlock≠some fs[i]∧(Value.slice a es.length c).ownBlock≠some (F.pk (es.getD i mn0).p):=fun i hi=>by
  obtain⟨hi',e⟩:=hget i hi;have e2:es.getD i mn0=es[i]:=by simp[zv,zr hi']
  have ho:=h.ok _ (z8 hi');have hox:=ho.mono hce.rd;rw[e,e2];refine⟨⟨hox.cells.1,hox.cells.2.1,Fix.pk_at hci ho.1.2,ho.1.1,ho.1.2,hox.cells.2.2.1⟩,fun hg => ?_,fun hg => ?_⟩
  ·have:=hrB _ hg;have:=ho.cells.2.2.2;omega
  ·have:=hrB _ hg;have:=zj w _ (Fix.pk_at h.c0 ho.1.2);simp only at this;omega
 have hnd:fs.Nodup:=by
  rw[hfs];unfold List.Nodup;rw[List.pairwise_map];exact h.dis.imp_of_mem fun {x y} hx hy hxy e=>hxy (MnOk.id_eq h.c0 (h.ok x hx) (h.ok y hy) e)
 have hl32:=qjf h.dis fun m hm=>(h.ok m hm).1;rw[← hfs] at hown0 hownx;have HS:=qgi a c fs (fun i=>F.pk (es.getD i mn0).p) (fun i=>(es.getD i mn0).p) (fun i=>(es.getD i mn0).n) w0 wx h.ci.tabs hci.below (fun g hg=>by have:=hrB g (by rw[← hfl];exact hg);omega) (by rw[hfl];exact hownx) (fun i hi=>by rw[hfl];exact hO i hi) hnd (by omega);rw[hfl] at HS;refine HS.mono ?_;rintro e w' ⟨rfl,π,q1,q2,q3⟩;have hnr:∀ k T cs,Blk wx k T cs→T≠106→¬ (Value.slice a es.length c).ownBlock=some k:=fun k T cs hb hT e=>by
  obtain⟨cs',hc⟩:=qaf hownx e;exact hb.tne hc hT rfl
 have hib:=h.ib.apart hTx.apart (show ¬ b=w.heap.size+1+1 by have:=h.lt;omega);have htb:Blk wx (w.heap.size+1+1) 248 [.bool false,.slice none 0 0,.slice (some ⟨w.heap.size+1,0,none⟩) 1 1,.bool false]:=by
  rw[hwx];exact h.tb.set 3 (.bool false)
 have hab:=hA.abB.apart hTx.apart (show ¬ w.heap.size+1+1+1+1+1=w.heap.size+1+1 by omega);refine⟨rfl,hid ⟨q2,?_,hib.apart q2.apart (hnr _ _ _ hib (by decide)),htb.apart q2.apart (hnr _ _ _ htb (by decide)),by simpa using hab.apart q2.apart (hnr _ _ _ hab (by decide))⟩⟩;have hπ:=ordN_of h.dis (fun m hm=>(h.ok m hm).1) q1;rw[hπ] at q3;have:((qff es).map fun m=>qbf st m.k)=(ordN es).map fun i=>fs.getD i 0:=by
  unfold qff;rw[List.map_map,hfs];apply List.map_congr_left;intro i hi;have hi':=List.mem_range.1 ((qm9 es).1.mem_iff.1 hi);simp[zv,zr hi']
 rw[this];exact q3
theorem Mid.call {F:Fix} {st:St} {μ:Spot→Nat} {w0 w wr:World} {b:Nat} {s:Spot} {ra:Option Addr} {rc:Nat} {ea:Option Addr} {ec:Nat} {G:Nat→Prop} {es:List Mn} (h:Mid F st μ w0 w b s ra rc ea ec G wr es) {x:Mn} (hx:MnOk F st (rdT w) x) (ex:Bool):
  Calls Tryz.prog 136 #[.int .i64 0,ptrV (qbf st x.k),.bool ex,ptrV (w.heap.size+1+1+1+1),ptrV (w.heap.size+1+1+1+1+1),ptrV (w.heap.size+1+1+1+1+1+1+1)] wr fun z w'=>z = .returned (.tuple #[])∧Hid (Mid F st μ w0 w b s ra rc ea ec G w' (addN es x)∧wr.heap.size≤w'.heap.size∧(∀ v,AllV wr v→AllV w' v)∧(∀ ts cs,Blk wr ts 248 cs→Blk w' ts 248 cs)∧∀ a c n xs,wr.ownsRow 0 106 1 (.slice a n c) n xs→(∀ g,(Value.slice a n c).ownBlock=some g→G g)→w'.ownsRow 0 106 1 (.slice a n c) n xs):=by
 obtain⟨m,a,c,hA,hrow⟩:=h.acc;have hT:Tabs wr:=h.ci.tabs.below h.ci.below;have hx':MnOk F st (rdT wr) x:=hx.mono h.ce.rd;obtain⟨x1,x2,⟨T,cs,xb⟩,xl⟩:=hx'.cells;have hl32:=qjf h.dis fun m hm=>(h.ok m hm).1;have he:=ents_ok h.c0 (w':=wr) (fun k T cs hb hl => ?_) h.ok hx
 ·refine(qwm (w.heap.size+1+1+1+1) (w.heap.size+1+1+1+1) (w.heap.size+1+1+1+1+1) (w.heap.size+1+1+1+1+1+1+1) (F.pk x.p) (w.heap.size+1+1+1+1+1+1) c (es.map (Mn.ent (qbf st))) (x.ent (qbf st)) m a ex wr hT hA (by have:=h.sz;omega) hx.1.1 hx.1.2 x1 x2 (Fix.pk_at h.ci hx.1.2) T cs xb (by have:=hx.cells.2.2.2;simp only[Mn.ent];omega) (fun y hy=>⟨⟨(he y hy).1.1,by have:=(he y hy).1.2;omega⟩,(he y hy).2⟩) (by simp;omega)).mono ?_;rintro z w' ⟨rfl,m',a',c',hq⟩;obtain⟨q1,q2,q3,q4⟩:=hq.out;rw[← qwq] at q1 q4;have hS:∀ b T cs,Blk wr b T cs→T=248∨T=273∨T=275→¬ AccS (w.heap.size+1+1+1+1) (w.heap.size+1+1+1+1+1) (w.heap.size+1+1+1+1+1+1+1) c (w.heap.size+1+1+1+1+1+1) (es.map (Mn.ent (qbf st))).length m a b:=fun b T cs hb hT=>hA.notS hb (by rcases hT with rfl|rfl|rfl <;> decide) (by rcases hT with rfl|rfl|rfl <;> decide) (by rcases hT with rfl|rfl|rfl <;> decide) fun e=>by
   obtain⟨cs',hc⟩:=qaf hA.own e;exact hb.tne hc (by rcases hT with rfl|rfl|rfl <;> decide) rfl
  exact⟨rfl,hid ⟨h.add hx hA hrow q1 q2 q3 q4,q2.size,fun v hv=>hv.apart q3.apart fun b T cs hb hT=>hS b T cs hb (.inr hT),fun ts cs hs=>hs.apart q3.apart (hS _ _ _ hs (.inl rfl)),fun a' c' n xs hs hg=>qab hs q3.apart fun g e=>hA.notS (qaf hs e).choose_spec (by decide) (by decide) (by decide) fun e2=>hrow g e2 (hg g e)⟩⟩
 ·by_cases e:∃ s',(k,s')∈st.ifs∧μ s'<μ s+1
  ·obtain⟨s',h1,-⟩:=e;obtain⟨cs,hc⟩:=h.ci.ifT k s' h1;exact⟨_,cs,hc⟩
  ·exact⟨T,cs,hb.apart h.ce.turns.apart e⟩
