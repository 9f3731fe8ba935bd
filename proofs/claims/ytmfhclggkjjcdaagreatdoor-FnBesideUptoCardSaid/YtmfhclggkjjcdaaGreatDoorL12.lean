import Derived.Test.YtmfhclggkjjcdaaGreatDoorL10
set_option linter.all false
namespace Go.Proofs.YtmfhclggkjjcdaaGreatDoor
open Go Go.RowKit Go.Proofs.Tryz
variable {F:Fix} {s2 s:St} {wr w8 w9 w wN:World} {B at_ hi:Nat} {t:Ty} {p:Int} {W:Wd} {ms:List Meth} {fs sgs:List Nat}
theorem qt5 {F:Fix} {s1 s2 s3:St} {wr w3 w8 w9:World} {B B2:Nat} {R R':Option Nat} {l:List Ty} {t:Ty} {at_:Nat} {p:Int} {us:List Value} {u:Value} (hB:B≤B2)
  (hfx:qd4 (gOf F s1 (rdX B R wr)) l at_ p us) (hd:Den (gOf F s2 (rdA B2 w3)) ⟨t,at_+qau l,p⟩ u) (h8:RdLe (rdT wr) (rdT w8)) (h38:RdLe (rdT w3) (rdT w8)) (hg:w8.grownBy w9 R) (hR:∀ g,R=some g→g<B2) (hl:R'=R∨R'=some w8.heap.size)
  (hG:∀ r r',RdLe r r'→G.Le (gOf F s1 r) (gOf F s3 r')) (hG2:∀ r r',RdLe r r'→G.Le (gOf F s2 r) (gOf F s3 r')):
  qd4 (gOf F s3 (rdX B R' w9)) (l++[t]) at_ p (us++[u]):=
 qd4.snoc (hfx.mono (hG _ _ (qgc h8 hg hl))) (Den.mono (hG2 _ _ (qga hB h38 hg hR hl)) hd)
def qhg (s:St) (ia:Option Addr) (ic ib:Nat) (sp:Spot):St:={ s with ia:=ia,ic:=ic,ifs:=s.ifs++[(ib,sp)] }
theorem BExt.reg {s s1:St} {lo hi:Nat} (h:BExt F s w s1 wN lo hi) {ia:Option Addr} {ic ib:Nat} {sp:Spot} (h8:Below wN.heap.size wN w8) (h9:w9.ownsRow 0 112 1 (.slice ia (s1.ifs.length+1) ic) (s1.ifs.length+1) (qa7 (s1.ifs.map (·.1))++[ptrV ib]))
  (hg:w8.grownBy w9 s1.row.ownBlock) (hl:(Value.slice ia (s1.ifs.length+1) ic).ownBlock=s1.row.ownBlock∨(Value.slice ia (s1.ifs.length+1) ic).ownBlock=some w8.heap.size) (hib:w.heap.size≤ib) (hnew:∀ x∈s1.ifs,x.1<ib) (hraw:qg8 wN ib):
  BExt F s w (qhg s1 ia ic ib sp) (w9.setCell ⟨F.bb,3,none⟩ (.slice ia (s1.ifs.length+1) ic)) lo hi∧qag (fun b=>b=F.bb∨s1.row.ownBlock=some b) wN (w9.setCell ⟨F.bb,3,none⟩ (.slice ia (s1.ifs.length+1) ic))∧
   RdLe (rdT wN) (rdT (w9.setCell ⟨F.bb,3,none⟩ (.slice ia (s1.ifs.length+1) ic))):=by
 have hT:qah (fun b=>b=F.bb∨s1.row.ownBlock=some b) wN (w9.setCell ⟨F.bb,3,none⟩ (.slice ia (s1.ifs.length+1) ic)):=
  ((qah.keep h8).trans (qah.grown hg fun b h _ => .inr h)).trans (qah.setCell (fun b=>b=F.bb∨s1.row.ownBlock=some b) w9 (a:=⟨F.bb,3,none⟩) (.inl rfl) _)
 have hA:=hT.apart;have hsz:=h.size;have h8z:=h8.size;have hne:∀ {b:Nat} {T:TypeId} {cs:List Value},Blk wN b T cs→T≠77→T≠112→¬ (b=F.bb∨s1.row.ownBlock=some b):=fun hb h1 h2 e=>by
  rcases e with e|e
  ·exact hb.tne h.ok.bld h1 e
  ·obtain⟨cs,hc⟩:=h.ok.rowT e;exact hc.tne hb (fun e=>h2 e.symm) rfl
 have hrow:∀ g,(Value.slice ia (s1.ifs.length+1) ic).ownBlock=some g→g≠F.bb:=fun g hg2 e=>by
  have hbb:=h.ok.bld;rcases hl with e2|e2
  ·rw[e2] at hg2;obtain⟨cs,hc⟩:=h.ok.rowT hg2;exact hc.tne hbb (by decide) e
  ·rw[e2] at hg2;cases hg2;have:=hbb.lt;omega
 have hbb9:Blk w9 F.bb 77 [.slice (some ⟨F.pr,0,none⟩) 2 F.pc,.slice (some ⟨F.tr,0,none⟩) F.W.length F.tc,.slice (some ⟨F.ob0,0,none⟩) F.N F.oc,s1.row]:=
  (h.ok.bld.keep h8).apart (S:=fun b=>s1.row.ownBlock=some b) (qag.grown hg fun b h _=>h) fun e=>by
   obtain⟨cs,hc⟩:=h.ok.rowT e;exact hc.tne h.ok.bld (by decide) rfl
 obtain⟨ts,t1,t2⟩:=h.ok.typ;obtain⟨os,o1,o2⟩:=h.ok.obj;obtain⟨l,e,q⟩:=h.ifs;have hrd:RdLe (rdT wN) (rdT (w9.setCell ⟨F.bb,3,none⟩ (.slice ia (s1.ifs.length+1) ic))):=qjy hA fun b cs T hb hc=>by
  rcases hb with rfl|hb
  ·have:=h.ok.bld;unfold Blk at this;rw[this] at hc;injection hc with hc;injection hc with _ hc;subst hc;decide
  ·obtain⟨cs',hc'⟩:=h.ok.rowT hb;unfold Blk at hc';rw[hc'] at hc;injection hc with hc;injection hc with _ hc;subst hc;decide
 refine⟨⟨⟨by have:=hbb9.set 3 (.slice ia (s1.ifs.length+1) ic);simpa[qhg,St.row] using this,h.ok.prB.apart hA (hne h.ok.prB (by decide) (by decide)),h.ok.pk0B.apart hA (hne h.ok.pk0B (by decide) (by decide)),h.ok.pk1B.apart hA (hne h.ok.pk1B (by decide) (by decide)),⟨ts,t1.apart hA (hne t1 (by decide) (by decide)),t2⟩,
   ⟨os,o1.apart hA (hne o1 (by decide) (by decide)),o2⟩,?_,fun k f x e => ?_,h.ok.inj,h.ok.tbl,?nd,?il⟩,?_,h.rd.trans hrd,fun g hg2 => ?_,h.same,h.grow,h.full,l++[(ib,sp)],by simp[qhg,e],fun x hx => ?_⟩,hA,hrd⟩
 case nd=>
  simp only[qhg,List.map_append,List.map_cons,List.map_nil];rw[List.nodup_append];refine⟨h.ok.nd,by simp,fun a ha b hb => ?_⟩;simp only[zfb] at hb;obtain⟨x,hx,rfl⟩:=zkb.1 ha;have:=hnew x hx;omega
 case il=>
  intro x hx;have hz9:=hA.size;rcases zib.1 hx with hx|hx
  ·have:=h.ok.il x hx;omega
  ·rw[zfb.1 hx];obtain⟨_,_,_,_,_,_,_,hb,_⟩:=hraw;have:=hb.lt;simp only;omega
 ·have:=qab h9 (qag.setCell (fun b=>b=F.bb) w9 (a:=⟨F.bb,3,none⟩) rfl (.slice ia (s1.ifs.length+1) ic)) hrow;simpa[qhg,St.row,qa7] using this
 ·have:=h.ok.lt k f x e;have:=hA.size;omega
 ·have h1:=h.turns.mono (S':=fun b=>qa1 F s b∨w.heap.size≤b) fun b _ hb => .inl hb;have h2:=hT.mono (S':=fun b=>qa1 F s b∨w.heap.size≤b) fun b _ hb=>by
   rcases hb with hb|hb
   ·exact .inl (.inl hb)
   ·rcases h.row b hb with hb|hb
    ·exact .inl (.inr (.inr hb))
    ·exact .inr hb
  exact(h1.trans h2).mono fun b hb hx=>by rcases hx with hx|hx;exact hx;omega
 ·have hg3:(Value.slice ia (s1.ifs.length+1) ic).ownBlock=some g:=by simpa[qhg,St.row] using hg2
  rcases hl with e2|e2
  ·exact h.row g (e2 ▸ hg3)
  ·rw[e2] at hg3;cases hg3;right;omega
 ·have hk:∀ b,qg8 wN b→qg8 (w9.setCell ⟨F.bb,3,none⟩ (.slice ia (s1.ifs.length+1) ic)) b:=fun b hb=>hb.apart hA fun b T cs hb hT=>hne hb (by rcases hT with rfl|rfl|rfl|rfl <;> decide) (by rcases hT with rfl|rfl|rfl|rfl <;> decide);rcases zib.1 hx with hx|hx
  ·exact⟨(q x hx).1,hk _ (q x hx).2⟩
  ·rw[zfb.1 hx];exact⟨hib,hk _ hraw⟩
theorem qam.k5 {d:Int} {val:Bool} (h:qam W d val t) (hk:t.kind=5):t.num=0∧t.elem=[]∧t.fields=[]∧(∀ m∈t.methods,IsNm m.name∧m.name≠8∧m.ptr=false)∧qbi W d t.embeds:=by
 obtain⟨k,m,el,fs,ms,em⟩:=t;simp only[qam,Ty.kind,Ty.elem,Ty.fields,Ty.methods,Ty.embeds,Ty.num] at *;rcases h with ⟨h,-⟩|⟨h,-⟩|⟨h,-⟩|⟨h,-⟩|⟨-,h0,h1,h2,h3,h4⟩
 ·omega
 ·omega
 ·omega
 ·omega
 ·exact⟨h0,h1,h2,h3,h4⟩
theorem qbi.get {d:Int}:∀ {l:List Ty},qbi W d l→∀ i (hi:i<l.length),qam W d true l[i]
 | [],_,i,hi=>by simp at hi
 | t::r,h,0,_=>by simp only[qbi] at h;exact h.1.2
 | t::r,h,i+1,hi=>by simp only[qbi] at h;exact qbi.get h.2 i (by simpa using hi)
theorem qc0.get {p:Int}:∀ {l:List Ty} {at_:Nat},qc0 W p l at_→∀ i (hi:i<l.length),qdp W p l[i] (at_+qau (l.take i))
 | [],_,_,i,hi=>by simp at hi
 | t::r,at_,h,0,_=>by simp only[qc0] at h;simpa[qau] using h.1.2
 | t::r,at_,h,i+1,hi=>by
  simp only[qc0] at h;have:=qc0.get h.2 i (by simpa using hi);simp only[zh,List.take_succ_cons,qau] at this ⊢;rw[← Nat.add_assoc];exact this
theorem qdp.iface (h:qdp W p t at_):qb1 (t.methods.map Meth.name)∧qc0 W p t.embeds (at_+t.methods.length):=by
 obtain⟨k,m,el,fs,ms,em⟩:=t;simp only[qdp,Ty.methods,Ty.embeds] at *;exact⟨h.1,h.2.1⟩
theorem qrh {B C:Nat} {ob:Nat→Option (Bool×Nat)} {at_ pk:Nat} (h:MsAt B w ob ms ms.length at_ pk fs sgs) (hn:∀ m∈ms,IsNm m.name∧m.name≠8∧m.ptr=false) (hC:C≤B):
  (∀ i (hi:i<fs.length),FB w fs[i] (sgs.getD i 0) pk ((ms.map Meth.name).getD i 0) (.pointer none)∧IsNm ((ms.map Meth.name).getD i 0))∧(∀ i j,i<fs.length→j<fs.length→sgs.getD i 0=sgs.getD j 0→i=j)∧∀ i,i<fs.length→C≤sgs.getD i 0:=by
 have hl:=h.lf;refine⟨fun i hi => ?_,fun i j hi hj e=>h.ns i j (by omega) (by omega) e,fun i hi=>by have:=(h.fb i (by omega)).2.2.1;omega⟩;have him:i<ms.length:=by omega
 have e1:(ms.map Meth.name).getD i 0=(ms.getD i m0).name:=by simp[zv,zr him]
 have e2:fs.getD i 0=fs[i]:=by simp[zv,zr hi]
 have h1:=(h.fb i him).1;rw[e2] at h1;rw[e1];refine⟨h1,?_⟩;rw[show ms.getD i m0=ms[i] by simp[zv,zr him]];exact(hn _ (z8 _)).1
structure NewI (F:Fix) (wv wN:World) (p:Int) (ms:List Meth) (m ec rc:Nat) (fs sgs:List Nat) (ra ea:Option Addr) (ib:Nat) (π:List Nat) (ra':Option Addr) (rc':Nat) (ea':Option Addr) (ec':Nat) (tso:Option Nat):Prop where
 le:wv.heap.size≤ib
 turns:qah (fun b=>(∃ i,i<fs.length∧b=sgs.getD i 0)∨(Value.slice ra ms.length rc).ownBlock=some b) wv wN
 blk:Blk wN ib 175 (qcd ra' ms.length rc' ea' m ec' tso)
 tso:qr6 wN (ms.length+m) tso
 emb:0<m→ea'=ea∧ec'=ec
 mth:ra'=ra∧rc'=rc∨ra'=none
 srt:Srt (fun i=>rank p ((ms.map Meth.name).getD i 0)) ms.length π
 own:wN.ownsRow 0 106 1 (.slice ra' ms.length rc') ms.length (qa7 (π.map fun i=>fs.getD i 0))
 rcv:qsf wv.heap.size wN fs.length fs sgs (ms.map Meth.name) (F.pk p) ib
theorem qvy (F:Fix) (s:St) (p:Int) (hp:p=0∨p=1) (ra ea:Option Addr) (rc m ec B at_:Nat) (ms:List Meth) (fs sgs:List Nat) (w0 wv:World) (hT:Tabs w0) (hok:BOk F s wv) (hB:Below w0.heap.size w0 wv) (hC:w0.heap.size≤B)
  (hown:wv.ownsRow 0 106 1 (.slice ra ms.length rc) ms.length (qa7 fs)) (hob:∀ g,(Value.slice ra ms.length rc).ownBlock=some g→B≤g) (hm:MsAt B wv s.ob ms ms.length at_ (F.pk p) fs sgs) (hn:∀ m∈ms,IsNm m.name∧m.name≠8∧m.ptr=false) (hl:ms.length≤1048576):
  Calls prog 70 #[.slice ra ms.length rc,.slice ea m ec] wv fun e wN=>∃ x:Nat×List Nat×Option Addr×Nat×Option Addr×Nat×Option Nat,e = .returned (.pointer (some ⟨x.1,0,none⟩))∧
   Hid (NewI F wv wN p ms m ec rc fs sgs ra ea x.1 x.2.1 x.2.2.1 x.2.2.2.1 x.2.2.2.2.1 x.2.2.2.2.2.1 x.2.2.2.2.2.2):=by
 obtain⟨q1,q2,q3⟩:=qrh hm hn hC;have hl2:=hm.lf;have hown2:=hown;have hpkB:∃ cs,Blk wv (F.pk p) 128 cs:=by
  rcases hp with rfl|rfl
  ·exact⟨_,hok.pk0B⟩
  ·exact⟨_,hok.pk1B⟩
 rw[← hl2] at hown2;have h:=qoo ra ea rc m ec fs sgs (ms.map Meth.name) (F.pk p) p w0 wv hT hB hown2 (fun g hg=>Nat.le_trans hC (hob g (by rw[← hl2];exact hg))) q1 hm.nf q2 (hok.pkc hp).2 hp hpkB q3 (by omega);rw[hl2] at h;refine h.mono ?_;rintro e wN ⟨ib,π,ra',rc',ea',ec',tso,rfl,h1,h2,h3,h4,h5,h6,h7,h8,h9⟩;exact⟨⟨ib,π,ra',rc',ea',ec',tso⟩,rfl,hid ⟨h1,by rw[hl2];exact h2,h3,h4,h5,h6,h7,h8,by rw[hl2];exact h9⟩⟩
theorem qlb {F:Fix} {wr wN:World} {B at_ pk:Nat} {ob:Nat→Option (Bool×Nat)} {ra:Option Addr} {rc:Nat} (hm:MsAt B wr ob ms ms.length at_ pk fs sgs) (hown:wr.ownsRow 0 106 1 (.slice ra ms.length rc) ms.length (qa7 fs)) {b:Nat} {T:TypeId} {cs:List Value} (hb:Blk wr b T cs) (h1:T≠199) (h2:T≠106):
  ¬ ((∃ i,i<fs.length∧b=sgs.getD i 0)∨(Value.slice ra ms.length rc).ownBlock=some b):=fun h=>by
 rcases h with ⟨i,hi,rfl⟩|h
 ·exact hb.tne (hm.fb i (by rw[← hm.lf];exact hi)).1.2 h1 rfl
 ·obtain⟨cs',hc⟩:=qaf hown h;exact hc.tne hb (fun e=>h2 e.symm) rfl
theorem BExt.newI {w wr wN:World} {lo hi at_ pk:Nat} (h:BExt F s w s2 wr lo hi) {ms:List Meth} {fs sgs:List Nat} {ra:Option Addr} {rc:Nat} (hm:MsAt w.heap.size wr s2.ob ms ms.length at_ pk fs sgs) (hown:wr.ownsRow 0 106 1 (.slice ra ms.length rc) ms.length (qa7 fs))
  (hrB:∀ g,(Value.slice ra ms.length rc).ownBlock=some g→w.heap.size≤g) (ht:qah (fun b=>(∃ i,i<fs.length∧b=sgs.getD i 0)∨(Value.slice ra ms.length rc).ownBlock=some b) wr wN):BExt F s w s2 wN lo hi:=
 h.later ht (fun b hb=>by
  rcases hb with ⟨i,hi,rfl⟩|hb
  ·exact(hm.fb i (by rw[← hm.lf];exact hi)).2.2.1
  ·exact hrB b hb) fun b T cs hb hT=>qlb (F:=F) (wN:=wN) hm hown hb (by rcases hT with rfl|rfl|rfl|⟨rfl,-⟩|rfl|rfl|rfl|rfl|rfl|rfl <;> decide) (by rcases hT with rfl|rfl|rfl|⟨rfl,-⟩|rfl|rfl|rfl|rfl|rfl|rfl <;> decide)
theorem qt6 {F:Fix} {s s2:St} {w wm wr wN w8 w9:World} {hi at_ rc ec ib rc' ec' ic':Nat} {num:Int} {el:List Ty} {fl:List Fd} {ms:List Meth} {em:List Ty} {p:Int} {fs sgs π:List Nat} {us:List Value} {ra ea ra' ea' ia':Option Addr} {tso:Option Nat}
  (hp:p=0∨p=1) (hn:∀ m∈ms,IsNm m.name∧m.name≠8∧m.ptr=false) (hd:qb1 (ms.map Meth.name)) (hok2:BOk F s2 wr) (EN:BExt F s w s2 wN at_ hi) (hm:MsAt w.heap.size wr s2.ob ms ms.length at_ (F.pk p) fs sgs) (hown:wr.ownsRow 0 106 1 (.slice ra ms.length rc) ms.length (qa7 fs))
  (hrB:∀ g,(Value.slice ra ms.length rc).ownBlock=some g→w.heap.size≤g) (hx:NewI F wr wN p ms em.length ec rc fs sgs ra ea ib π ra' rc' ea' ec' tso) (z1:w.heap.size≤wm.heap.size) (z2:wm.heap.size≤wr.heap.size) (hsg:∀ i,i<ms.length→sgs.getD i 0<wm.heap.size) (hrl:∀ g,(Value.slice ra ms.length rc).ownBlock=some g→g<wm.heap.size)
  (hemb:qd4 (gOf F s2 (rdX wm.heap.size (Value.slice ea em.length ec).ownBlock wr)) em (at_+ms.length) p us) (hownE:wr.ownsRow 0 63 1 (.slice ea em.length ec) em.length us) (hrB2:∀ g,(Value.slice ea em.length ec).ownBlock=some g→wm.heap.size≤g) (hus:∀ u∈us,IsTy u)
  (h8:Below wN.heap.size wN w8) (h9:w9.ownsRow 0 112 1 (.slice ia' (s2.ifs.length+1) ic') (s2.ifs.length+1) (qa7 (s2.ifs.map (·.1))++[ptrV ib]))
  (hg:w8.grownBy w9 s2.row.ownBlock) (hl:(Value.slice ia' (s2.ifs.length+1) ic').ownBlock=s2.row.ownBlock∨(Value.slice ia' (s2.ifs.length+1) ic').ownBlock=some w8.heap.size)
  {old:List (Nat×Spot)} (hmem:Mems (gOf F s2 (rdX wm.heap.size (Value.slice ea em.length ec).ownBlock wr)) old) (hsp:SpOk F.W ⟨.mk 5 num el fl ms em,at_,p⟩):
  BExt F s w (qhg s2 ia' ic' ib ⟨.mk 5 num el fl ms em,at_,p⟩) (w9.setCell ⟨F.bb,3,none⟩ (.slice ia' (s2.ifs.length+1) ic')) at_ hi∧
   Den (gOf F (qhg s2 ia' ic' ib ⟨.mk 5 num el fl ms em,at_,p⟩) (rdA w.heap.size (w9.setCell ⟨F.bb,3,none⟩ (.slice ia' (s2.ifs.length+1) ic')))) ⟨.mk 5 num el fl ms em,at_,p⟩ (.iface 112 (ptrV ib))∧
   Mems (gOf F (qhg s2 ia' ic' ib ⟨.mk 5 num el fl ms em,at_,p⟩) (rdA w.heap.size (w9.setCell ⟨F.bb,3,none⟩ (.slice ia' (s2.ifs.length+1) ic')))) old:=by
 have hraw:qg8 wN ib:=⟨ra',ms.length,rc',ea',em.length,ec',tso,hx.blk,hx.tso⟩;have hle:=hx.le;obtain⟨r1,r2,r3⟩:=EN.reg (sp:=⟨.mk 5 num el fl ms em,at_,p⟩) h8 h9 hg hl (by omega) (fun x hx=>by have:=hok2.il x hx;omega) hraw;refine⟨r1,?_⟩;have hLe:G.Le (gOf F s2 (rdX wm.heap.size (Value.slice ea em.length ec).ownBlock wr)) (gOf F (qhg s2 ia' ic' ib ⟨.mk 5 num el fl ms em,at_,p⟩) (rdA w.heap.size wN)):=⟨rfl,rfl,fun _ _ h=>h,fun _ _ h=>h,fun x h=>z7 _ h,
  (qol _ _ _).trans (quh z1 hx.turns.apart fun b hb=>by
   rcases hb with ⟨i,hi,rfl⟩|hb
   ·exact hsg i (by rw[← hm.lf];exact hi)
   ·exact hrl b hb)⟩
 have hG:G.Le (gOf F (qhg s2 ia' ic' ib ⟨.mk 5 num el fl ms em,at_,p⟩) (rdA w.heap.size wN)) (gOf F (qhg s2 ia' ic' ib ⟨.mk 5 num el fl ms em,at_,p⟩) (rdA w.heap.size (w9.setCell ⟨F.bb,3,none⟩ (.slice ia' (s2.ifs.length+1) ic')))):=
  ⟨rfl,rfl,fun _ _ h=>h,fun _ _ h=>h,fun _ h=>h,qfd (zl _) r3⟩
 suffices hq:Den (gOf F (qhg s2 ia' ic' ib ⟨.mk 5 num el fl ms em,at_,p⟩) (rdA w.heap.size wN)) ⟨.mk 5 num el fl ms em,at_,p⟩ (.iface 112 (ptrV ib)) by
  refine⟨Den.mono hG hq,fun y hy => ?_⟩;rcases zib.1 hy with hy|hy
  ·exact(hmem y hy).imp id fun h=>(h.mono hLe).mono hG
  ·rw[zfb.1 hy];exact .inr ⟨Den.mono hG hq,hsp⟩
 have hem2:qd4 (gOf F (qhg s2 ia' ic' ib ⟨.mk 5 num el fl ms em,at_,p⟩) (rdA w.heap.size wN)) em (at_+ms.length) p us:=hemb.mono hLe;have hownN:wN.ownsRow 0 63 1 (.slice ea em.length ec) em.length us:=qab hownE hx.turns.apart fun g hg=>by
  obtain⟨cs,hc⟩:=qaf hownE hg;exact qlb (F:=F) (wN:=wN) hm hown hc (by decide) (by decide)
 refine qtk (m:=0) (w1:=wr) (gs:=fs) (sgs:=sgs) (π:=π) (us:=us) (tso:=tso) hp (fun x hxm=>(hn x hxm).1) hd (by omega) hx.le hm hx.blk hx.srt hx.own (fun g hg => ?_) hx.rcv hem2 ?_ (fun h => ?_) (fun h g hg => ?_) hus (zx _ (zfb.2 rfl))
 ·
  rcases hx.mth with ⟨e1,e2⟩|e1
  ·rw[e1,e2] at hg;exact hrB g hg
  ·rw[e1] at hg;cases hg
 ·by_cases h:0<em.length
  ·obtain⟨-,e⟩:=hx.emb h;rw[e];obtain⟨_,_,he,hle,-⟩:=qak hownE;cases he;exact hle
  ·omega
 ·obtain⟨e1,e2⟩:=hx.emb h;rw[e1,e2];exact hownN
 ·obtain⟨e1,e2⟩:=hx.emb h;rw[e1,e2] at hg;have:=hrB2 g hg;omega
