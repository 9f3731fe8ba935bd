import Derived.Test.YtaibcdkadbemgaaGreatDoorK19
import Derived.Test.YtaibcdkadbemgaaGreatDoorK09
set_option linter.all false
namespace Go.Proofs.YtaibcdkadbemgaaGreatDoor
open Go Go.RowKit Go.Shelf
theorem ta_one {D:TypeId} {e:TypeId} (hu:Tryz.prog.underlying D=some (.pointer e)) (v:Value) (w:World):(Instr.typeAssert (.iface D v) 62 D false).run Tryz.prog w = .ok v w:=by
 simp[Instr.typeAssert,run_underlying hu,go_sem]
theorem LM.step {F:Fix} {w0:World} {raw set:Nat→Prop} {s s':St} {w w':World} {k b:Nat} {cs:List Value} (h:LM F w0 raw set s w) (hb:Blk w b 140 cs) (ht:F.tb k=some (qdr b)) (hr:¬ raw k) (hs:¬ set k) (hok:BOk F s' w') (hba:Base F w0 s' w') (hz:w.heap.size≤w'.heap.size)
  (hrd:RdLe (rdT w) (rdT w')) (hob:∀ n x,s.ob n=some x→s'.ob n=some x) (hif:s'.ifs=s.ifs) {S:Nat→Prop} (ha:qag S w w') (hS:∀ x T cs,Blk w x T cs→DeclT T→x≠b→¬ S x):LM F w0 raw set s' w':=by
 have n:Nxt F F s s' w w' fun x=>x=b:=⟨rfl,rfl,fun _ _ h=>h,⟨rfl,rfl,fun _ _ h=>h,hob,fun x hx=>by show x∈s'.ifs;rw[hif];exact hx,hrd⟩,S,ha,hS⟩;have hk:=h.big _ _ ht;have hne:∀ d b' ,F.tb d=some (qdr b')→d≠k→b'≠b:=fun d b' e hd e2=>by subst e2;exact hd (h.inj _ _ _ e ht)
 refine⟨hok,hba,h.tr,fun d T x e=>by have:=h.lt d T x e;omega,h.ge,h.inj,fun d hd hr' => ?_,fun d hd hs' => ?_,h.big,h.mem.mono n.le hif,fun x hx=>by rw[hif] at hx;exact⟨(h.raws x hx).1,(h.raws x hx).2.next n fun b' T cs hc hT e=>hc.tne hb hT e⟩⟩
 ·obtain⟨hal,b',tn,q⟩:=h.rawOk d hd hr';have hdk:d≠k:=fun e=>hr (e ▸ hr');exact⟨hal,b',tn,q.next n (hne _ _ q.tb hdk) fun e=>q.tnB.tne hb (by decide) e⟩
 ·have hdk:d≠k:=fun e=>hs (e ▸ hs');have h1:=h.setOk d hd hs';unfold qe5 at h1 ⊢;split at h1
  next hal=>
   obtain⟨al,tn,rhs,u,m,q⟩:=h1;rw[if_pos hal];exact⟨al,tn,rhs,u,m,q.next n fun x cs hc e=>hc.tne hb (by decide) e⟩
  next hal=>
   obtain⟨b',tn,U,ux,ra,rc,fs,q⟩:=h1;rw[if_neg hal];refine⟨b',tn,U,ux,ra,rc,fs,q.next n fun x T cs hc hT e => ?_⟩;subst e;exact⟨fun e=>hne _ _ q.tb hdk e.symm,fun e=>q.tnB.tne hb (by decide) e.symm,fun e=>by subst e;exact hc.tne hb (by decide) rfl⟩
theorem num_gt {W:Wd} (hB:qcp W) {k:Nat} (hlt:k<W.length) (hk:(qad W k).of.kind=1) {d:Nat} (hd:(qad W k).of.num.toNat≤d):k+1≤d:=by
 have h3:=(hB.get hlt hk).2.2;have h4:(dc W k).of.num.toNat≤d:=hd;omega
theorem LM.sub {F:Fix} {w0:World} {raw set raw' set':Nat→Prop} {s:St} {w:World} (h:LM F w0 raw set s w) (h1:∀ d,d<F.W.length→raw' d→raw d) (h2:∀ d,d<F.W.length→set' d→set d):LM F w0 raw' set' s w:=
 ⟨h.ok,h.base,h.tr,h.lt,h.ge,h.inj,fun d hd hr=>h.rawOk d hd (h1 d hd hr),fun d hd hs=>h.setOk d hd (h2 d hd hs),h.big,h.mem,h.raws⟩
theorem InM.lm {F:Fix} {w0 wS:World} {raw set:Nat→Prop} {sS:St} {k b tn j:Nat} {s:St} {ra:Option Addr} {rc:Nat} {fs:List Nat} {st:Int} {w:World} (h:InM F w0 wS sS k b tn j j s ra rc fs st w) (hL:LM F w0 raw set sS wS) (hr:qp0 F wS k b tn) (hnr:¬ raw k) (hns:¬ set k):LM F w0 raw set s w:=
 hL.step hr.blk hr.tb hnr hns h.ok h.base h.turns.apart.size h.rd h.grow h.ifs h.turns.apart fun x T cs hb hT hx e=>by
  rcases e with e|e
  ·exact hx e
  ·exact hL.ok.notTurned hb (by rcases hT with rfl|rfl|rfl|rfl|rfl|rfl|rfl|rfl <;> decide) (by rcases hT with rfl|rfl|rfl|rfl|rfl|rfl|rfl|rfl <;> decide) (by rcases hT with rfl|rfl|rfl|rfl|rfl|rfl|rfl|rfl <;> decide) e
structure InU (F:Fix) (s:St) (k b tn:Nat) (ra:Option Addr) (rc:Nat) (fs:List Nat) (st:Int) (w:World):Prop where
 sts:st=0∨st=7
 tb:F.tb k=some (qdr b)
 blk:Blk w b 140 [.pointer none,ptrV tn,.bool true,.int .i32 0,.int .u32 0,.int .u32 st,.nilIface,.nilIface,.bool false,.slice ra (dc F.W k).methods.length rc]
 tnB:Blk w tn 144 [.int .i64 0,ptrV (F.pk (dc F.W k).pkg),.string (qas (dc F.W k).name),qdr b]
 len:fs.length=(dc F.W k).methods.length
 own:w.ownsRow 0 105 1 (.slice ra (dc F.W k).methods.length rc) (dc F.W k).methods.length (qa7 fs)
 ms:∀ j (hj:j<fs.length),qto F s (rdT w) k j fs[j]
theorem InM.inU {F:Fix} {w0 wS:World} {sS:St} {k b tn:Nat} {s:St} {ra:Option Addr} {rc:Nat} {fs:List Nat} {st:Int} {w:World} (h:InM F w0 wS sS k b tn (dc F.W k).methods.length (dc F.W k).methods.length s ra rc fs st w) (ht:F.tb k=some (qdr b)):InU F s k b tn ra rc fs st w:=
 ⟨h.sts,ht,h.blk,h.tnB,h.len,h.own,fun j hj=>⟨(h.ms j hj).1,(h.ms j hj).2.2.mono ((qol _ _ _).trans (qnx _ _))⟩⟩
theorem InU.ext {F:Fix} {s s':St} {k b tn:Nat} {ra:Option Addr} {rc:Nat} {fs:List Nat} {st:Int} {w w':World} {lo hi:Nat} (h:InU F s k b tn ra rc fs st w) (hok:BOk F s w) (E:BExt F s w s' w' lo hi):InU F s' k b tn ra rc fs st w':=by
 have hnt:∀ {x:Nat} {T:TypeId} {cs:List Value},Blk w x T cs→T=140∨T=144∨T=105→¬ qa1 F s x:=fun hb hT=>hok.notTurned hb (by rcases hT with rfl|rfl|rfl <;> decide) (by rcases hT with rfl|rfl|rfl <;> decide) (by rcases hT with rfl|rfl|rfl <;> decide);exact⟨h.sts,h.tb,h.blk.apart E.turns.apart (hnt h.blk (.inl rfl)),h.tnB.apart E.turns.apart (hnt h.tnB (.inr (.inl rfl))),h.len,qab h.own E.turns.apart fun g hg=>hnt (qaf h.own hg).choose_spec (.inr (.inr rfl)),fun j hj=>⟨E.grow _ _ (h.ms j hj).1,(h.ms j hj).2.mono E.rd⟩⟩
theorem LM.upk {F:Fix} {w0:World} {raw set:Nat→Prop} {s:St} {w:World} (h:LM F w0 raw set s w) (hB:qcp F.W) {sp:Spot} (hs:qdw F.W sp) {T:TypeId} {x:Addr} (hv:Den (gOf F s (rdT w)) sp (.iface T (.pointer (some x)))) (ha:sp.of.kind=1→∀ d,d<F.W.length→sp.of.num.toNat≤d→set d):
  ∃ z : FuncId × TypeId × Addr, (∀ w, (method 511 T (.pointer (some x)) "Underlying").run Tryz.prog w = .ok (z.1, .pointer (some x)) w) ∧ (∀ args w, (callFunc z.1 args).run Tryz.prog w = .ok (.enter z.1 args) w) ∧
   Hid (Calls Tryz.prog z.1 #[.pointer (some x)] w (fun e w'=>e = .returned (.iface z.2.1 (.pointer (some z.2.2)))∧w'=w)∧qi6 (.iface z.2.1 (.pointer (some z.2.2)))∧Den (gOf F s (rdT w)) (qae F.W sp) (.iface z.2.1 (.pointer (some z.2.2)))):=by
 obtain⟨u,h1,h2,h3⟩:=h.underv hB hs hv ha;obtain⟨T',x',f,e,q1,q2,q3⟩:=qf9 w _ u h1;cases e;obtain⟨U,ux,rfl,hU⟩:=h2;exact⟨⟨f,U,ux⟩,q1,q2,hid ⟨q3,⟨U,ux,rfl,hU⟩,h3⟩⟩
theorem qwu {F:Fix} {w0:World} {raw set:Nat→Prop} {s:St} {w:World} (h:LM F w0 raw set s w) {k b tn:Nat} {ra:Option Addr} {rc:Nat} {fs:List Nat} {st:Int} (hu:InU F s k b tn ra rc fs st w) (hr:¬ raw k) (hs:¬ set k) (hal:(dc F.W k).alias=false) {U:TypeId} {ux:Addr} (hl:qi6 (.iface U (.pointer (some ux))))
  (hd:Den (gOf F s (rdT w)) (qae F.W (qad F.W k)) (.iface U (.pointer (some ux)))):
  Calls Tryz.prog 45 #[ptrV b,.iface U (.pointer (some ux))] w fun e w'=>e = .returned (.tuple #[])∧Hid (qah (fun x=>x=b) w w'∧w'.heap.size=w.heap.size∧LM F w0 raw (fun d=>set d∨d=k) s w'):=by
 have hUU:U≠102∧U≠97:=by
  obtain⟨U',x',e,hU⟩:=hl;cases e;rcases hU with rfl|rfl|rfl|rfl|rfl <;> exact⟨by decide,by decide⟩
 refine(qoe b w _ _ _ _ _ _ _ _ st hu.sts U ux hUU.1 hUU.2 hu.blk).mono ?_;rintro e w' ⟨rfl,hz,hT,hB⟩;refine⟨rfl,hid ⟨hT,hz,?_⟩⟩;have hne:∀ {x:Nat} {T:TypeId} {cs:List Value},Blk w x T cs→T≠140→¬ x=b:=fun hb hT e=>hb.tne hu.blk hT e;have hrd:RdLe (rdT w) (rdT w'):=qjy hT.apart fun x cs T hx hc=>by
  subst hx;have:=hu.blk;unfold Blk at this;rw[this] at hc;injection hc with hc;injection hc with _ hc;subst hc;decide
 have hok:BOk F s w':=h.ok.apart hT.apart fun x T cs hb hT=>hne hb (by rcases hT with rfl|rfl|rfl|⟨rfl,-⟩|rfl|rfl <;> decide);have hge:=h.ge _ _ _ hu.tb;have hba:Base F w0 s w':=⟨h.base.below.trans (hT.below h.base.below.size fun x hx=>by rw[hx];exact hge),h.base.bb,h.base.ob,h.base.row⟩;have hL:=h.step hu.blk hu.tb hr hs hok hba (by omega) hrd (fun _ _ h=>h) rfl hT.apart fun x T cs _ _ hx=>hx;refine⟨hL.ok,hL.base,hL.tr,hL.lt,hL.ge,hL.inj,hL.rawOk,fun d hd hs' => ?_,hL.big,hL.mem,hL.raws⟩;rcases hs' with hs'|rfl
 ·exact hL.setOk d hd hs'
 ·unfold qe5;rw[if_neg (by rw[hal];decide)];have hle:G.Le (gOf F s (rdT w)) (gOf F s (rdT w')):=⟨rfl,rfl,fun _ _ h=>h,fun _ _ h=>h,fun _ h=>h,hrd⟩;exact⟨b,tn,U,ux,ra,rc,fs,hu.tb,hu.tnB.apart hT.apart (hne hu.tnB (by decide)),hB,hl,Den.mono hle hd,hu.len,qab hu.own hT.apart fun g hg=>hne (qaf hu.own hg).choose_spec (by decide),fun j hj=>⟨(hu.ms j hj).1,(hu.ms j hj).2.mono hrd⟩⟩
theorem setU_at {F:Fix} {w0:World} {raw set:Nat→Prop} {s:St} {w w8:World} (h:LM F w0 raw set s w) {k b tn:Nat} {ra:Option Addr} {rc:Nat} {fs:List Nat} {st:Int} (hu:InU F s k b tn ra rc fs st w) (hb:Below w.heap.size w w8) {W:Wd} (hW:F.W=W) {D:Dc} (hD:D=dc W k) (hr:¬ raw k) (hs:set k→D.alias=true) (hal:D.alias=false) {U:TypeId} {ux:Addr} (hl:qi6 (.iface U (.pointer (some ux))))
  (hd:Den (gOf F s (rdT w)) (qae F.W (qad W k)) (.iface U (.pointer (some ux)))):
  Calls Tryz.prog 45 #[ptrV b,.iface U (.pointer (some ux))] w8 fun e w'=>e = .returned (.tuple #[])∧Hid (qah (fun x=>x=b) w8 w'∧w'.heap.size=w8.heap.size∧LM F w0 raw (fun d=>set d∨d=k) s w'):=by
 subst hW hD;exact qwu (h.ext (BExt.keep h.ok hb 0) fun x hx => .inl hx) (hu.ext h.ok (BExt.keep h.ok hb 0)) hr (fun h=>by rw[hs h] at hal;cases hal) hal hl
  (Den.mono (show G.Le (gOf F s (rdT w)) (gOf F s (rdT w8)) from⟨rfl,rfl,fun _ _ h=>h,fun _ _ h=>h,fun _ h=>h,qa0 hb⟩) hd)
theorem LM.done {F:Fix} {w0:World} {W:Wd} {s:St} {w9 w:World} {k:Nat} (h:LM F w0 (fun d=>(dc W d).alias=false∧d<k) (fun d=>((dc W d).alias=true∨k+1≤d)∨d=k) s w9) (hb:Below w9.heap.size w9 w):LL F w0 (fun d=>(dc W d).alias=false∧d<k) (fun d=>(dc W d).alias=true∨k≤d) s w:=
 ⟨(h.ext (BExt.keep h.ok hb 0) fun x hx => .inl hx).sub (fun _ _ h=>h) fun d hd h=>by
  rcases h with h|h
  ·exact .inl (.inl h)
  ·by_cases e:d=k
   ·exact .inr e
   ·exact .inl (.inr (by omega)),fun d h1 h2=>by
  cases ha:(dc W d).alias with
  | true=>exact absurd (.inl ha) h2
  | false=>
   by_cases hd:d<k
   ·exact absurd ⟨ha,hd⟩ h1
   ·exact absurd (.inr (by omega)) h2⟩
theorem Dom.done {W:Wd} {s1 s2 s3:St} {k m z:Nat} (h:Dom W s1 (fun d=>(dc W d).alias=true∨k+1≤d)) (hk:k<W.length) (hm:start W (k+1)=start W k+(m+z)) (h1:∀ n,n<start W k∨start W k+m≤n→s2.ob n=s1.ob n) (h2:∀ n,n<start W k+m∨start W k+m+z≤n→s3.ob n=s2.ob n):
  Dom W s3 (fun d=>(dc W d).alias=true∨k≤d):=
 h.ext hk (fun d h=>h.imp id fun h=>by omega) (.inr (zl _)) (zl _) (hi2:=start W k+(m+z)) (by omega) fun n hn=>by rw[h2 n (by omega),h1 n (by omega)]
theorem qvd (k:Nat):(intOf (.int .i64 ((k:Int) - 1))+1).toNat<(intOf (.int .i64 (k:Int))+1).toNat:=by simp only[intOf];omega
theorem ni_done {W:Wd} {k a b z:Nat} (hk:k<W.length) (h1:a≤b+z) (h2:b≤qbw W+qbw (W.drop (k+1))) (h3:z+1≤W[k].bulk):a≤qbw W+qbw (W.drop k):=by
 have:=qe3 W k hk;omega
end Go.Proofs.YtaibcdkadbemgaaGreatDoor
namespace Go.Proofs.YtaibcdkadbemgaaGreatDoor
open Go Go.RowKit
theorem qc0.under5 {W:Wd} {p:Int}:∀ {l:List Ty} {at_:Nat},qc0 W p l at_→∀ i (hi:i<l.length),(qae W ⟨l[i],at_+qau (l.take i),p⟩).of.kind=5
 | [],_,_,i,hi=>by simp at hi
 | t::r,at_,h,0,_=>by simp only[qc0] at h;simpa[qau] using h.1.1
 | t::r,at_,h,i+1,hi=>by
  simp only[qc0] at h;have:=qc0.under5 h.2 i (by simpa using hi);simp only[zh,List.take_succ_cons,qau];rw[show at_+(t.size+qau (r.take i))=at_+t.size+qau (r.take i) by omega];exact this
theorem qjz:∀ {l:List (Nat×Spot)},(l.map (·.1)).Nodup→∀ b s s',(b,s)∈l→(b,s')∈l→s=s'
 | [],_,b,s,s',h,_=>by cases h
 | x::r,hn,b,s,s',h,h'=>by
  rw[List.map_cons,List.nodup_cons] at hn;rcases zfb.1 h with rfl|h <;> rcases zfb.1 h' with e|h'
  ·cases e;rfl
  ·exact absurd (zjb.2 ⟨_,h',rfl⟩) hn.1
  ·exact absurd (zjb.2 ⟨(b,s),h,by rw[← e]⟩) hn.1
  ·exact qjz hn.2 b s s' h h'
theorem LM.memOk {F:Fix} {w0:World} {raw set:Nat→Prop} {s:St} {w:World} (h:LM F w0 raw set s w) {b:Nat} {sp:Spot} (hm:(b,sp)∈s.ifs):qk6 (gOf F s (rdT w)) (b,sp):=by
 rcases h.mem _ hm with q|q
 ·cases q
 ·exact q
theorem qk6.parts {g:G} {b:Nat} {sp:Spot} (h:qk6 g (b,sp)):∃ a c a' c',BlkR g.rd b [.pointer none,.slice a sp.of.methods.length c,.slice a' sp.of.embeds.length c',.pointer none,.bool false,.bool true]∧sp.of.methods.length≤c∧sp.of.embeds.length≤c'∧qqc g sp.of.methods sp.at_ sp.pkg a∧
  ∀ j,j<sp.of.embeds.length→∃ gb o u,a'=some ⟨gb,o,none⟩∧g.rd gb (o+j)=some u∧Den g (qav sp j) u:=by
 obtain⟨b',a,c,a',c',e,-,h1,h2,h3,h4,h5⟩:=Den.iface h.1 h.2.1;cases e;exact⟨a,c,a',c',h1,h2,h3,h4,h5⟩
theorem LM.ci {F:Fix} {w0:World} {raw set:Nat→Prop} {s:St} {w:World} (h:LM F w0 raw set s w) (hs:∀ d,set d) (hT:Tabs w0) (hB:qcp F.W):CI F s (muI F.W) w0 w:=by
 refine⟨hT,h.base.below,fun b sp hm=>(h.raws _ hm).1,h.ok.pk0B,h.ok.pk1B,fun b sp hm => ?_,fun b sp hm => ?_,fun b sp hm => ?_,fun b sp hm => ?_,fun b sp i hm hi => ?_,fun b sp sp' h1 h2=>qjz h.ok.nd b sp sp' h1 h2,h.ok.inj⟩
 ·obtain⟨ra,n,rc,ea,m,ec,tso,hb,-⟩:=(h.raws _ hm).2;exact⟨_,hb⟩
 ·obtain⟨a,c,a',c',h1,h2,h3,h4,h5⟩:=(h.memOk hm).parts;exact⟨a,c,h1 1 _ rfl,h2,h4⟩
 ·obtain⟨a,c,a',c',h1,h2,h3,h4,h5⟩:=(h.memOk hm).parts;obtain⟨hk,hp,hbk,hv,d,val,hf⟩:=(h.memOk hm).2;refine⟨a',c',h1 2 _ rfl,h3,fun i hi => ?_⟩;obtain⟨gb,o,u,e,q1,q2⟩:=h5 i hi;have he:=(hf.k5 hk).2.2.2.2;have e1:(qav sp i).of=sp.of.embeds[i]:=by simp[qav,zu,zr hi]
  have hnum:qdw F.W (qav sp i):=qam.numOk (W:=F.W) (d:=d) (val:=true) (by rw[e1];exact(he.get2 i hi).2);obtain⟨u',k1,k2,k3⟩:=h.underv hB hnum q2 fun _ d _ _=>hs d;have hk5:(qae F.W (qav sp i)).of.kind=5:=by
   have:=qc0.under5 hv.iface.2 i hi;have e2:qav sp i=⟨sp.of.embeds[i],sp.at_+sp.of.methods.length+qau (sp.of.embeds.take i),sp.pkg⟩:=by simp[qav,zu,zr hi]
   rw[e2];exact this
  obtain⟨b',a1,c1,a2,c2,rfl,hin,-⟩:=Den.iface k3 hk5;exact⟨gb,o,u,b',e,q1,k1,hin⟩
 ·obtain⟨hk,hp,hbk,hv,d,val,hf⟩:=(h.memOk hm).2;have hbe:=qbd sp.of;change sp.of.bulk≤1048576 at hbk;have:=qa3 sp.of.embeds;exact⟨hp,fun m hm=>((hf.k5 hk).2.2.2.1 m hm).1,hv.iface.1,by omega,by omega⟩
 ·obtain⟨hk,hp,hbk,hv,d,val,hf⟩:=(h.memOk hm).2;exact qwv hB hk (hf.k5 hk).2.2.2.2 hi
theorem LM.comp0 {F:Fix} {w0:World} {raw set:Nat→Prop} {s:St} {w:World} (h:LM F w0 raw set s w) (hs:∀ d,set d) (hT:Tabs w0) (hB:qcp F.W):Comp F s (muI F.W) w0 w (fun g=>g<w.heap.size) 0:=by
 refine⟨h.ci hs hT hB,fun g h=>h,fun b sp hm => ?_,fun i hi h=>absurd h (Nat.not_lt_zero _)⟩;obtain⟨ra,n,rc,ea,m,ec,tso,hb,htso⟩:=(h.raws _ hm).2;obtain⟨a,c,a',c',h1,h2,h3,h4,h5⟩:=(h.memOk hm).parts;have e1:=qax (h1 1 _ rfl);have e2:=qax (h1 2 _ rfl);rw[hb.cell] at e1 e2;cases e1;cases e2;refine⟨_,_,_,_,tso,hb,?_⟩;rcases htso with ⟨-,rfl⟩|⟨h0,ts,rfl,tv,k1,k2⟩
 ·exact .inl rfl
 ·have hm0:sp.of.methods=[]:=List.length_eq_zero_iff.1 (by omega);have he0:sp.of.embeds=[]:=List.length_eq_zero_iff.1 (by omega);refine .inr ⟨ts,[],rfl,?_,⟨none,0,tv,k1,zcb _ _ _ _,k2,fun g hg=>(by cases hg),k1.lt⟩,fun m hm=>(by cases hm),List.Pairwise.nil⟩;have:=MS.mk (W:=F.W) sp [] (by rw[he0];rfl) (fun i hi=>absurd hi (Nat.not_lt_zero _));have e3:expl sp=[]:=by unfold expl ordM;rw[hm0];simp
  rw[e3] at this;have e4:qff []=[]:=by unfold qff ordN;simp
  simp only[List.foldl_nil] at this;rw[e4] at this;exact this
theorem BOk.ifc {F:Fix} {s:St} {w:World} (h:BOk F s w) {n:Nat} (hn:n<s.ifs.length):∃ gb o,s.ia=some ⟨gb,o,none⟩∧w.cell? ⟨gb,o+n,none⟩=some (ptrV s.ifs[n].1):=by
 have h1:=h.ifr;have e:s.ifs.length=(s.ifs.map (·.1)).length:=by simp
 unfold St.row at h1;rw[e] at h1;obtain⟨gb,o,q1,q2⟩:=qeh h1 n (by simpa using hn);refine⟨gb,o,q1,?_⟩;rw[q2];simp
structure qm6 (F:Fix) (w0:World) (s:St) (w:World):Prop where
 ok:BOk F s w
 lt:∀ d T x,F.tb d=some (.iface T (.pointer (some x)))→x.block<w.heap.size
 inj:∀ d e v,F.tb d=some v→F.tb e=some v→d=e
 set:∀ d,d<F.W.length→qe5 F s w d
 big:∀ d v,F.tb d=some v→d<F.W.length
 mem:∀ b sp,(b,sp)∈s.ifs→qk6 (gOf F s (rdT w)) (b,sp)
 comp:∃ G,Comp F s (muI F.W) w0 w G s.ifs.length
theorem CX.parts {F:Fix} {s:St} {w0 w w':World} (hC:CI F s (muI F.W) w0 w) (h:CX F s (muI F.W) w w'):∃ S,qah S w w'∧RdLe (rdT w) (rdT w')∧∀ x T cs,Blk w x T cs→T≠175→¬ S x:=by
 obtain⟨k,h⟩:=h;exact⟨_,h.turns,h.rd,fun x T cs hb hT=>hC.notIf hb hT⟩
theorem LM.ok_cx {F:Fix} {w0:World} {raw set:Nat→Prop} {s:St} {w w':World} (h:LM F w0 raw set s w) (hC:CI F s (muI F.W) w0 w) (hx:CX F s (muI F.W) w w'):BOk F s w':=by
 obtain⟨S,hT,hr,hS⟩:=CX.parts hC hx;exact h.ok.apart hT.apart fun x T cs hb hT=>hS x T cs hb (by rcases hT with rfl|rfl|rfl|⟨rfl,-⟩|rfl|rfl <;> decide)
theorem LM.built {F:Fix} {w0:World} {raw set:Nat→Prop} {s:St} {w w':World} (h:LM F w0 raw set s w) (hs:∀ d,set d) (hC:CI F s (muI F.W) w0 w) (hx:CX F s (muI F.W) w w') {G:Nat→Prop} (hcomp:Comp F s (muI F.W) w0 w' G s.ifs.length):qm6 F w0 s w':=by
 have hok:=h.ok_cx hC hx;obtain⟨S,hT,hr,hS⟩:=CX.parts hC hx;have n:Nxt F F s s w w' fun x=>∃ cs,Blk w x 175 cs:=⟨rfl,rfl,fun _ _ h=>h,⟨rfl,rfl,fun _ _ h=>h,fun _ _ h=>h,fun _ h=>h,hr⟩,S,hT.apart,fun x T cs hb _ hn=>hS x T cs hb fun e=>hn ⟨cs,e ▸ hb⟩⟩;refine⟨hok,fun d T x e=>by have:=h.lt d T x e;have:=hT.apart.size;omega,h.inj,fun d hd => ?_,h.big,fun b sp hm=>(h.memOk hm).mono n.le,G,hcomp⟩;have h1:=h.setOk d hd (hs d);have key:∀ {x y:Nat} {T T':TypeId} {cs cs':List Value},Blk w x T cs→Blk w y T' cs'→T≠T'→x≠y:=fun h1 h2 h3=>h1.tne h2 h3;unfold qe5 at h1 ⊢;split at h1
 next hal=>
  obtain⟨al,tn,rhs,u,m,q⟩:=h1;rw[if_pos hal];exact⟨al,tn,rhs,u,m,q.next n fun x cs hc e=>by
   obtain⟨cs',he⟩:=e;exact hc.tne he (by decide) rfl⟩
 next hal=>
  obtain⟨b',tn,U,ux,ra,rc,fs,q⟩:=h1;rw[if_neg hal];refine⟨b',tn,U,ux,ra,rc,fs,q.next n fun x T cs hc hT e => ?_⟩;obtain⟨cs',he⟩:=e;exact⟨he.tne q.blk (by decide),he.tne q.tnB (by decide),fun e=>by subst e;exact hc.tne he (by decide) rfl⟩
def BuiltPk (W:Wd) (t:Ty) (w:World) (e:Ending) (w':World):Prop:=∃ x:Fix×St×TypeId×Addr,e = .returned (.tuple #[ptrV x.1.bb,.iface x.2.2.1 (.pointer (some x.2.2.2))])∧Hid (x.1.W=W∧x.1.N=start W W.length+t.size∧qm6 x.1 w x.2.1 w'∧Den (gOf x.1 x.2.1 (rdT w')) (operand W t) (.iface x.2.2.1 (.pointer (some x.2.2.2)))∧Below w.heap.size w w')
end Go.Proofs.YtaibcdkadbemgaaGreatDoor
namespace Go.Proofs.YtaibcdkadbemgaaGreatDoor
open Go Go.RowKit
set_option maxRecDepth 100000
theorem Tryz.zPtr:(Tryz.prog.info? 145).map (·.zero)=some (some (.pointer none)):=by kernel_rfl
theorem qn2 (v:Value) (b:Nat) (T:TypeId) (x:Option Addr) (w:World) (h:qbs w v (.iface 145 (ptrV b))) (hb:w.cell? ⟨b,0,none⟩=some (.iface T (.pointer x))):
  Calls Tryz.prog 106 #[v] w fun e w'=>e = .returned (.tuple #[.iface T (.pointer x),.bool true])∧w'=w:=by
 have h1:=fun v w=>qb5 Tryz.underlying145 v w;have H:=hid h;clear h;go_enter Tryz.func106,Tryz.ntmps106
 go_wp2_with (go_at_call 84;refine(qan _ _ _ H.out).mono ?_;rintro e w' ⟨rfl,rfl⟩)
 go_ret2
 exact⟨rfl,rfl⟩
theorem qqu (v:Value) (T:TypeId) (x:Addr) (w:World) (hT:T≠145) (h:qbs w v (.iface T (.pointer (some x)))):
  Calls Tryz.prog 106 #[v] w fun e w'=>e = .returned (.tuple #[v,.bool false])∧w'=w:=by
 have h1:=fun v w=>qaw (T:=T) Tryz.underlying145 Tryz.zPtr hT v w;have H:=hid h;clear h;go_enter Tryz.func106,Tryz.ntmps106
 go_wp2_with (go_at_call 84;refine(qan _ _ _ H.out).mono ?_;rintro e w' ⟨rfl,rfl⟩)
 go_ret2
 exact⟨rfl,rfl⟩
theorem qkv (x pk:Nat) (n:Int) (ptr:Bool) (w:World) (h:qel (rdT w) x pk n ptr):Calls Tryz.prog 113 #[ptrV x] w fun e w'=>e = .returned (.bool ptr)∧w'=w:=by
 obtain⟨sg,v,T,a,h1,h2,h3,h4,h5,h6⟩:=h;have c3:=qax (h1 3 _ rfl);have s0:=qax (h2 0 _ rfl);have v3:=qax h3;have hta:=fun v w=>qb5 Tryz.underlying162 v w;clear h1 h2 h3;cases ptr with
 | true=>
  obtain⟨rfl,ho,hsp,T',x',h7⟩:=h5 rfl;obtain⟨ab,ao,asp⟩:=a;simp only at ho hsp h7;subst ho hsp;have HD:=hid (qn2 (.iface 145 (ptrV ab)) ab T' (some x') w ⟨⟨_,_,rfl,by decide⟩,.inl rfl⟩ (qax h7));clear h4 h5 h6 h7;go_enter Tryz.func113,Tryz.ntmps113
  go_wp2_with (go_at_call 106;refine HD.out.mono ?_;rintro e w' ⟨rfl,rfl⟩)
  go_ret
  exact⟨rfl,rfl⟩
 | false=>
  have HD:=hid (qqu (.iface T (.pointer (some a))) T a w (h6 rfl) ⟨⟨_,_,rfl,h4⟩,.inl rfl⟩);clear h4 h5 h6;go_enter Tryz.func113,Tryz.ntmps113
  go_wp2_with (go_at_call 106;refine HD.out.mono ?_;rintro e w' ⟨rfl,rfl⟩)
  go_ret
  exact⟨rfl,rfl⟩
def IxAt (w:World) (v:Value) (l:List Nat):Prop:=∃ a c,v = .slice a l.length c∧w.ownsRow 0 3 1 (.slice a l.length c) l.length (qbh l)
section
variable {P:Program}
theorem qo5 (w:World) (t ty e:TypeId) (i:TypeInfo) (ht:P.underlying t=some (.slice e)) (hi:P.info? e=some i) (a:Option Addr) (c:Nat):(Builtin.append_ #[t,t] ty #[.slice none 0 0,.slice a 0 c]).run P w = .ok (.slice none 0 0) w:=by
 cases a <;> simp[Builtin.append_,run_underlying ht,sizeOf,typeInfo,hi,Builtin.lenOf,Builtin.firstCells,loadCells,loadCellsFrom]
theorem qk2 (w:World) {ops:Array Oper} {rest:List Oper} {o:Oper} {a:Act} {Q:Exit→Act→World→Prop} (hgd:o.guard=none) (s x:Operand) (t:TypeId)
  (ho:o.op = .call { callee := .builtin .append,args:=#[s,x],argTypes:=#[t,t] }) (e:TypeId) (i:TypeInfo) (ht:P.underlying t=some (.slice e)) (hi:P.info? e=some i) (hs:a.eval s = .slice none 0 0) (p:Option Addr) (c:Nat) (hx:a.eval x = .slice p 0 c)
  (h:wpList P ops Q rest (a.put o.dst (.slice none 0 0)) w):wpList P ops Q (o::rest) a w:=by
 refine wpList_plain hgd fun _ hK => ?_;have hr:=qo5 (P:=P) w t o.type e i ht hi p c;unfold Oper.wp execOp;simp only[ho,resolve,invoke,builtin,Sem.run_bind,Sem.run_pure,Result.andThen_ok,List.map_toArray,List.map_cons,List.map_nil,hs,hx,hr];exact hK _ _ h
end
theorem Tryz.infoInt2:∃ i,Tryz.prog.info? 3=some i:=by
 obtain⟨i,h,-⟩:=zab.1 Tryz.infoInt;exact⟨i,h⟩
theorem qe9 (v:Value) (l:List Nat) (i:Nat) (w:World) (h:IxAt w v l) (hl:l.length≤1099511627775):Calls Tryz.prog 110 #[v,.int .i64 i] w fun e w'=>∃ x:Option Addr×Nat,e = .returned (.slice x.1 (l.length+1) x.2)∧Hid (w'.ownsRow 0 3 1 (.slice x.1 (l.length+1) x.2) (l.length+1) (qbh (l++[i]))∧Below w.heap.size w w'):=by
 obtain⟨a,c,rfl,hown⟩:=h;obtain⟨ii,hii⟩:=Tryz.infoInt2;by_cases h0:l=[]
 ·subst h0;go_enter Tryz.func110,Tryz.ntmps110
  go_wp2_with (first
   | (at_builtin;go_loud (refine qk2 _ rfl _ _ 32 rfl 3 ii Tryz.underlying32 hii rfl a c rfl ?_))
   | (at_builtin;go_loud (refine qbu _ rfl _ _ 32 rfl 3 _ 8 Tryz.infoInt Tryz.underlying32 rfl none 0 0 [] rfl (zcb _ _ _ _) ⟨w.heap.size,0,none⟩ (.int .i64 i) rfl (cell_of_row _ _ _ _ _ _ (qa8 _ _)) rfl rfl (by omega) (by decide) fun ra' rc' w9 hown' hgrow hloc => ?_);have Hg:=hid hgrow;have Ho9:=hid hown';have Hl9:=hid hloc;clear hgrow hown' hloc))
  go_ret
  exact⟨⟨ra',rc'⟩,rfl,hid ⟨by simpa[qbh] using Ho9.out,((zp _ _).alloc (zl _) _).grown Hg.out (by simp) (fun k h=>by cases h)⟩⟩
 ·have hpos:0<l.length:=List.length_pos_iff.2 h0;obtain⟨_,_,he,hcap,h1,h2⟩:=qak hown;cases he;cases a with
  | none=>have:=(h2 rfl).1;omega
  | some ad=>
   obtain⟨g,rfl,-,-,hc⟩:=h1 ad rfl;obtain⟨i0,q1,q2,q3,q4⟩:=info_parts Tryz.infoInt;have Hnews:Hid (∀ j u,(qbh l)[j]?=some u→w.cell? ((⟨g,0,none⟩:Addr).add j)=some u):=hid fun j u hu=>by rw[Addr.add_lit];exact hc j u hu
   have H1:Hid (∀ u∈qbh l,u.oneCell'=true):=hid fun u hu=>by
    obtain⟨n,-,rfl⟩:=zjb.1 hu;rfl
   have hlv:(qbh l).length=l.length * 1:=by rw[quc,Nat.mul_one]
   clear hown h1 h2 hc;go_enter Tryz.func110,Tryz.ntmps110;have tok:True:=trivial
   go_wp2_with (first
    | (at_builtin;have _t:=tok;clear _t tok;go_loud (refine qb2 _ rfl _ _ 32 rfl 3 i0 _ 1 8 Tryz.underlying32 q1 q2 q3 q4 rfl (by decide) (.slice none 0 0) 0 [] rfl (zcb _ _ _ _) ⟨g,0,none⟩ l.length c (qbh l) rfl hlv Hnews.out H1.out (by unfold maxLen;omega) (by omega) hpos fun v9 w9 hown' hgrow hloc => ?_);have Hg:=hid hgrow;have Ho9:=hid hown';have Hl9:=hid hloc;clear hgrow hown' hloc;obtain⟨ra1,rc1,rfl,-⟩:=qak Ho9.out)
    | (at_builtin;go_loud (refine qbu _ rfl _ _ 32 rfl 3 _ 8 Tryz.infoInt Tryz.underlying32 rfl ra1 l.length rc1 (qbh l) rfl (by have:=qab Ho9.out (qag.keep (S:=fun _=>False) ((zp w9.heap.size w9).alloc (zl _) (.cells #[.int .i64 i] 3))) (fun _ _ h=>h);simpa using this) ⟨w9.heap.size,0,none⟩ (.int .i64 i) rfl (cell_of_row _ _ _ _ _ _ (qa8 _ _)) rfl rfl (by omega) (by decide) fun ra' rc' w8 hown' hgrow hloc => ?_);have Hg8:=hid hgrow;have Ho8:=hid hown';have Hl8:=hid hloc;clear hgrow hown' hloc))
   go_ret
   have hB9:Below w.heap.size w w9:=(zp _ _).grown Hg.out (zl _) (fun k h=>by cases h);have hb:∀ k,(Value.slice ra1 l.length rc1).ownBlock=some k→w.heap.size≤k:=fun k hk=>by
    have h:=Hl9.out;rw[Nat.zero_add] at h;rcases h with e|e
    ·rw[e] at hk;cases hk
    ·rw[e] at hk;cases hk;exact zl _
   have hz:=hB9.size;exact⟨⟨ra',rc'⟩,rfl,hid ⟨by simpa[qbh] using Ho8.out,(hB9.alloc (by omega) _).grown Hg8.out (by simp;omega) hb⟩⟩
