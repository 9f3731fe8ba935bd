import Derived.Test.YtmfhclggkjjcdaaGreatDoorK19
import Derived.Test.YtmfhclggkjjcdaaGreatDoorK09
import Derived.Test.YtmfhclggkjjcdaaGreatDoorK01
import Derived.LaidEqlPtr
set_option linter.all false
namespace Go.Proofs.YtmfhclggkjjcdaaGreatDoor
open Go Go.RowKit Go.Shelf
theorem ta_one {D:TypeId} {e:TypeId} (hu:Tryz.prog.underlying D=some (.pointer e)) (v:Value) (w:World):(Instr.typeAssert (.iface D v) 63 D false).run Tryz.prog w = .ok v w:=by
 simp[Instr.typeAssert,run_underlying hu,go_sem]
theorem LM.step {F:Fix} {w0:World} {raw set:Nat→Prop} {s s':St} {w w':World} {k b:Nat} {cs:List Value} (h:LM F w0 raw set s w) (hb:Blk w b 140 cs) (ht:F.tb k=some (qdr b)) (hr:¬ raw k) (hs:¬ set k) (hok:BOk F s' w') (hba:Base F w0 s' w') (hz:w.heap.size≤w'.heap.size)
  (hrd:RdLe (rdT w) (rdT w')) (hob:∀ n x,s.ob n=some x→s'.ob n=some x) (hif:s'.ifs=s.ifs) {S:Nat→Prop} (ha:qag S w w') (hS:∀ x T cs,Blk w x T cs→DeclT T→x≠b→¬ S x):LM F w0 raw set s' w':=by
 have n:Nxt F F s s' w w' fun x=>x=b:=⟨rfl,rfl,fun _ _ h=>h,⟨rfl,rfl,fun _ _ h=>h,hob,fun x hx=>by show x∈s'.ifs;rw[hif];exact hx,hrd⟩,S,ha,hS⟩;have hk:=h.big _ _ ht;have hne:∀ d b' ,F.tb d=some (qdr b')→d≠k→b'≠b:=fun d b' e hd e2=>by subst e2;exact hd (h.inj _ _ _ e ht)
 refine⟨hok,hba,h.tr,fun d T x e=>by have:=h.lt d T x e;omega,h.ge,h.inj,fun d hd hr' => ?_,fun d hd hs' => ?_,h.big,h.mem.mono n.le hif,fun x hx=>by rw[hif] at hx;exact⟨(h.raws x hx).1,(h.raws x hx).2.next n fun b' T cs hc hT e=>hc.tne hb hT e⟩⟩
 ·obtain⟨hal,b',tn,q⟩:=h.rawOk d hd hr';have hdk:d≠k:=fun e=>hr (e ▸ hr');exact⟨hal,b',tn,q.next n (hne _ _ q.tb hdk) fun e=>q.tnB.tne hb (by decide) e⟩
 ·have hdk:d≠k:=fun e=>hs (e ▸ hs');have h1:=h.setOk d hd hs';unfold qe5 at h1 ⊢;split at h1
  next hal=>
   obtain⟨al,tn,rhs,u,m,q⟩:=h1;rw[if_pos hal];exact⟨al,tn,rhs,u,m,q.next n fun x cs hc e=>hc.tne hb (by decide) e⟩
  next hal=>
   obtain⟨b',tn,U,ux,ra,rc,fs,q⟩:=h1;rw[if_neg hal];refine⟨b',tn,U,ux,ra,rc,fs,q.next n fun x T cs hc hT e => ?_⟩;subst e;exact⟨fun e=>hne _ _ q.tb hdk e.symm,fun e=>q.tnB.tne hb (by decide) e.symm,fun e=>by subst e;exact hc.tne hb (by decide) rfl⟩
theorem num_gt {W:Wd} (hB:qcp W) {k:Nat} (hlt:k<W.length) (hk:(qad W k).of.kind=1) {d:Nat} (hd:(qad W k).of.num.toNat≤d):k+1≤d:=by
 have h3:=(hB.get hlt hk).2.2;have h4:(dc W k).of.num.toNat≤d:=hd;omega
theorem LM.sub {F:Fix} {w0:World} {raw set raw' set':Nat→Prop} {s:St} {w:World} (h:LM F w0 raw set s w) (h1:∀ d,d<F.W.length→raw' d→raw d) (h2:∀ d,d<F.W.length→set' d→set d):LM F w0 raw' set' s w:=
 ⟨h.ok,h.base,h.tr,h.lt,h.ge,h.inj,fun d hd hr=>h.rawOk d hd (h1 d hd hr),fun d hd hs=>h.setOk d hd (h2 d hd hs),h.big,h.mem,h.raws⟩
theorem InM.lm {F:Fix} {w0 wS:World} {raw set:Nat→Prop} {sS:St} {k b tn j:Nat} {s:St} {ra:Option Addr} {rc:Nat} {fs:List Nat} {st:Int} {w:World} (h:InM F w0 wS sS k b tn j j s ra rc fs st w) (hL:LM F w0 raw set sS wS) (hr:qp0 F wS k b tn) (hnr:¬ raw k) (hns:¬ set k):LM F w0 raw set s w:=
 hL.step hr.blk hr.tb hnr hns h.ok h.base h.turns.apart.size h.rd h.grow h.ifs h.turns.apart fun x T cs hb hT hx e=>by
  rcases e with e|e
  ·exact hx e
  ·exact hL.ok.notTurned hb (by rcases hT with rfl|rfl|rfl|rfl|rfl|rfl|rfl|rfl <;> decide) (by rcases hT with rfl|rfl|rfl|rfl|rfl|rfl|rfl|rfl <;> decide) (by rcases hT with rfl|rfl|rfl|rfl|rfl|rfl|rfl|rfl <;> decide) e
structure InU (F:Fix) (s:St) (k b tn:Nat) (ra:Option Addr) (rc:Nat) (fs:List Nat) (st:Int) (w:World):Prop where
 sts:st=0∨st=7
 tb:F.tb k=some (qdr b)
 blk:Blk w b 140 [.pointer none,ptrV tn,.bool true,.int .i32 0,.int .u32 0,.int .u32 st,.nilIface,.nilIface,.bool false,.slice ra (dc F.W k).methods.length rc]
 tnB:Blk w tn 144 [.int .i64 0,ptrV (F.pk (dc F.W k).pkg),.string (qas (dc F.W k).name),qdr b]
 len:fs.length=(dc F.W k).methods.length
 own:w.ownsRow 0 106 1 (.slice ra (dc F.W k).methods.length rc) (dc F.W k).methods.length (qa7 fs)
 ms:∀ j (hj:j<fs.length),qto F s (rdT w) k j fs[j]
theorem InM.inU {F:Fix} {w0 wS:World} {sS:St} {k b tn:Nat} {s:St} {ra:Option Addr} {rc:Nat} {fs:List Nat} {st:Int} {w:World} (h:InM F w0 wS sS k b tn (dc F.W k).methods.length (dc F.W k).methods.length s ra rc fs st w) (ht:F.tb k=some (qdr b)):InU F s k b tn ra rc fs st w:=
 ⟨h.sts,ht,h.blk,h.tnB,h.len,h.own,fun j hj=>⟨(h.ms j hj).1,(h.ms j hj).2.2.mono ((qol _ _ _).trans (qnx _ _))⟩⟩
theorem InU.ext {F:Fix} {s s':St} {k b tn:Nat} {ra:Option Addr} {rc:Nat} {fs:List Nat} {st:Int} {w w':World} {lo hi:Nat} (h:InU F s k b tn ra rc fs st w) (hok:BOk F s w) (E:BExt F s w s' w' lo hi):InU F s' k b tn ra rc fs st w':=by
 have hnt:∀ {x:Nat} {T:TypeId} {cs:List Value},Blk w x T cs→T=140∨T=144∨T=106→¬ qa1 F s x:=fun hb hT=>hok.notTurned hb (by rcases hT with rfl|rfl|rfl <;> decide) (by rcases hT with rfl|rfl|rfl <;> decide) (by rcases hT with rfl|rfl|rfl <;> decide);exact⟨h.sts,h.tb,h.blk.apart E.turns.apart (hnt h.blk (.inl rfl)),h.tnB.apart E.turns.apart (hnt h.tnB (.inr (.inl rfl))),h.len,qab h.own E.turns.apart fun g hg=>hnt (qaf h.own hg).choose_spec (.inr (.inr rfl)),fun j hj=>⟨E.grow _ _ (h.ms j hj).1,(h.ms j hj).2.mono E.rd⟩⟩
theorem LM.upk {F:Fix} {w0:World} {raw set:Nat→Prop} {s:St} {w:World} (h:LM F w0 raw set s w) (hB:qcp F.W) {sp:Spot} (hs:qdw F.W sp) {T:TypeId} {x:Addr} (hv:Den (gOf F s (rdT w)) sp (.iface T (.pointer (some x)))) (ha:sp.of.kind=1→∀ d,d<F.W.length→sp.of.num.toNat≤d→set d):
  ∃ z : FuncId × TypeId × Addr, (∀ w, (method 511 T (.pointer (some x)) "Underlying").run Tryz.prog w = .ok (z.1, .pointer (some x)) w) ∧ (∀ args w, (callFunc z.1 args).run Tryz.prog w = .ok (.enter z.1 args) w) ∧
   Hid (Calls Tryz.prog z.1 #[.pointer (some x)] w (fun e w'=>e = .returned (.iface z.2.1 (.pointer (some z.2.2)))∧w'=w)∧qi6 (.iface z.2.1 (.pointer (some z.2.2)))∧Den (gOf F s (rdT w)) (qae F.W sp) (.iface z.2.1 (.pointer (some z.2.2)))):=by
 obtain⟨u,h1,h2,h3⟩:=h.underv hB hs hv ha;obtain⟨T',x',f,e,q1,q2,q3⟩:=qf9 w _ u h1;cases e;obtain⟨U,ux,rfl,hU⟩:=h2;exact⟨⟨f,U,ux⟩,q1,q2,hid ⟨q3,⟨U,ux,rfl,hU⟩,h3⟩⟩
theorem qwu {F:Fix} {w0:World} {raw set:Nat→Prop} {s:St} {w:World} (h:LM F w0 raw set s w) {k b tn:Nat} {ra:Option Addr} {rc:Nat} {fs:List Nat} {st:Int} (hu:InU F s k b tn ra rc fs st w) (hr:¬ raw k) (hs:¬ set k) (hal:(dc F.W k).alias=false) {U:TypeId} {ux:Addr} (hl:qi6 (.iface U (.pointer (some ux))))
  (hd:Den (gOf F s (rdT w)) (qae F.W (qad F.W k)) (.iface U (.pointer (some ux)))):
  Calls Tryz.prog 48 #[ptrV b,.iface U (.pointer (some ux))] w fun e w'=>e = .returned (.tuple #[])∧Hid (qah (fun x=>x=b) w w'∧w'.heap.size=w.heap.size∧LM F w0 raw (fun d=>set d∨d=k) s w'):=by
 have hUU:U≠103∧U≠98:=by
  obtain⟨U',x',e,hU⟩:=hl;cases e;rcases hU with rfl|rfl|rfl|rfl|rfl <;> exact⟨by decide,by decide⟩
 refine(qoe b w _ _ _ _ _ _ _ _ st hu.sts U ux hUU.1 hUU.2 hu.blk).mono ?_;rintro e w' ⟨rfl,hz,hT,hB⟩;refine⟨rfl,hid ⟨hT,hz,?_⟩⟩;have hne:∀ {x:Nat} {T:TypeId} {cs:List Value},Blk w x T cs→T≠140→¬ x=b:=fun hb hT e=>hb.tne hu.blk hT e;have hrd:RdLe (rdT w) (rdT w'):=qjy hT.apart fun x cs T hx hc=>by
  subst hx;have:=hu.blk;unfold Blk at this;rw[this] at hc;injection hc with hc;injection hc with _ hc;subst hc;decide
 have hok:BOk F s w':=h.ok.apart hT.apart fun x T cs hb hT=>hne hb (by rcases hT with rfl|rfl|rfl|⟨rfl,-⟩|rfl|rfl <;> decide);have hge:=h.ge _ _ _ hu.tb;have hba:Base F w0 s w':=⟨h.base.below.trans (hT.below h.base.below.size fun x hx=>by rw[hx];exact hge),h.base.bb,h.base.ob,h.base.row⟩;have hL:=h.step hu.blk hu.tb hr hs hok hba (by omega) hrd (fun _ _ h=>h) rfl hT.apart fun x T cs _ _ hx=>hx;refine⟨hL.ok,hL.base,hL.tr,hL.lt,hL.ge,hL.inj,hL.rawOk,fun d hd hs' => ?_,hL.big,hL.mem,hL.raws⟩;rcases hs' with hs'|rfl
 ·exact hL.setOk d hd hs'
 ·unfold qe5;rw[if_neg (by rw[hal];decide)];have hle:G.Le (gOf F s (rdT w)) (gOf F s (rdT w')):=⟨rfl,rfl,fun _ _ h=>h,fun _ _ h=>h,fun _ h=>h,hrd⟩;exact⟨b,tn,U,ux,ra,rc,fs,hu.tb,hu.tnB.apart hT.apart (hne hu.tnB (by decide)),hB,hl,Den.mono hle hd,hu.len,qab hu.own hT.apart fun g hg=>hne (qaf hu.own hg).choose_spec (by decide),fun j hj=>⟨(hu.ms j hj).1,(hu.ms j hj).2.mono hrd⟩⟩
theorem setU_at {F:Fix} {w0:World} {raw set:Nat→Prop} {s:St} {w w8:World} (h:LM F w0 raw set s w) {k b tn:Nat} {ra:Option Addr} {rc:Nat} {fs:List Nat} {st:Int} (hu:InU F s k b tn ra rc fs st w) (hb:Below w.heap.size w w8) {W:Wd} (hW:F.W=W) {D:Dc} (hD:D=dc W k) (hr:¬ raw k) (hs:set k→D.alias=true) (hal:D.alias=false) {U:TypeId} {ux:Addr} (hl:qi6 (.iface U (.pointer (some ux))))
  (hd:Den (gOf F s (rdT w)) (qae F.W (qad W k)) (.iface U (.pointer (some ux)))):
  Calls Tryz.prog 48 #[ptrV b,.iface U (.pointer (some ux))] w8 fun e w'=>e = .returned (.tuple #[])∧Hid (qah (fun x=>x=b) w8 w'∧w'.heap.size=w8.heap.size∧LM F w0 raw (fun d=>set d∨d=k) s w'):=by
 subst hW hD;exact qwu (h.ext (BExt.keep h.ok hb 0) fun x hx => .inl hx) (hu.ext h.ok (BExt.keep h.ok hb 0)) hr (fun h=>by rw[hs h] at hal;cases hal) hal hl
  (Den.mono (show G.Le (gOf F s (rdT w)) (gOf F s (rdT w8)) from⟨rfl,rfl,fun _ _ h=>h,fun _ _ h=>h,fun _ h=>h,qa0 hb⟩) hd)
theorem LM.done {F:Fix} {w0:World} {W:Wd} {s:St} {w9 w:World} {k:Nat} (h:LM F w0 (fun d=>(dc W d).alias=false∧d<k) (fun d=>((dc W d).alias=true∨k+1≤d)∨d=k) s w9) (hb:Below w9.heap.size w9 w):LL F w0 (fun d=>(dc W d).alias=false∧d<k) (fun d=>(dc W d).alias=true∨k≤d) s w:=
 ⟨(h.ext (BExt.keep h.ok hb 0) fun x hx => .inl hx).sub (fun _ _ h=>h) fun d hd h=>by
  rcases h with h|h
  ·exact .inl (.inl h)
  ·by_cases e:d=k
   ·exact .inr e
   ·exact .inl (.inr (by omega)),fun d h1 h2=>by
  cases ha:(dc W d).alias with
  | true=>exact absurd (.inl ha) h2
  | false=>
   by_cases hd:d<k
   ·exact absurd ⟨ha,hd⟩ h1
   ·exact absurd (.inr (by omega)) h2⟩
theorem Dom.done {W:Wd} {s1 s2 s3:St} {k m z:Nat} (h:Dom W s1 (fun d=>(dc W d).alias=true∨k+1≤d)) (hk:k<W.length) (hm:start W (k+1)=start W k+(m+z)) (h1:∀ n,n<start W k∨start W k+m≤n→s2.ob n=s1.ob n) (h2:∀ n,n<start W k+m∨start W k+m+z≤n→s3.ob n=s2.ob n):
  Dom W s3 (fun d=>(dc W d).alias=true∨k≤d):=
 h.ext hk (fun d h=>h.imp id fun h=>by omega) (.inr (zl _)) (zl _) (hi2:=start W k+(m+z)) (by omega) fun n hn=>by rw[h2 n (by omega),h1 n (by omega)]
theorem qvd (k:Nat):(intOf (.int .i64 ((k:Int) - 1))+1).toNat<(intOf (.int .i64 (k:Int))+1).toNat:=by simp only[intOf];omega
theorem ni_done {W:Wd} {k a b z:Nat} (hk:k<W.length) (h1:a≤b+z) (h2:b≤qbw W+qbw (W.drop (k+1))) (h3:z+1≤W[k].bulk):a≤qbw W+qbw (W.drop k):=by
 have:=qe3 W k hk;omega
end Go.Proofs.YtmfhclggkjjcdaaGreatDoor
namespace Go.Proofs.YtmfhclggkjjcdaaGreatDoor
open Go Go.RowKit
theorem qc0.under5 {W:Wd} {p:Int}:∀ {l:List Ty} {at_:Nat},qc0 W p l at_→∀ i (hi:i<l.length),(qae W ⟨l[i],at_+qau (l.take i),p⟩).of.kind=5
 | [],_,_,i,hi=>by simp at hi
 | t::r,at_,h,0,_=>by simp only[qc0] at h;simpa[qau] using h.1.1
 | t::r,at_,h,i+1,hi=>by
  simp only[qc0] at h;have:=qc0.under5 h.2 i (by simpa using hi);simp only[zh,List.take_succ_cons,qau];rw[show at_+(t.size+qau (r.take i))=at_+t.size+qau (r.take i) by omega];exact this
theorem qjz:∀ {l:List (Nat×Spot)},(l.map (·.1)).Nodup→∀ b s s',(b,s)∈l→(b,s')∈l→s=s'
 | [],_,b,s,s',h,_=>by cases h
 | x::r,hn,b,s,s',h,h'=>by
  rw[List.map_cons,List.nodup_cons] at hn;rcases zgb.1 h with rfl|h <;> rcases zgb.1 h' with e|h'
  ·cases e;rfl
  ·exact absurd (zkb.2 ⟨_,h',rfl⟩) hn.1
  ·exact absurd (zkb.2 ⟨(b,s),h,by rw[← e]⟩) hn.1
  ·exact qjz hn.2 b s s' h h'
theorem LM.memOk {F:Fix} {w0:World} {raw set:Nat→Prop} {s:St} {w:World} (h:LM F w0 raw set s w) {b:Nat} {sp:Spot} (hm:(b,sp)∈s.ifs):qk6 (gOf F s (rdT w)) (b,sp):=by
 rcases h.mem _ hm with q|q
 ·cases q
 ·exact q
theorem qk6.parts {g:G} {b:Nat} {sp:Spot} (h:qk6 g (b,sp)):∃ a c a' c',BlkR g.rd b [.pointer none,.slice a sp.of.methods.length c,.slice a' sp.of.embeds.length c',.pointer none,.bool false,.bool true]∧sp.of.methods.length≤c∧sp.of.embeds.length≤c'∧qqc g sp.of.methods sp.at_ sp.pkg a∧
  ∀ j,j<sp.of.embeds.length→∃ gb o u,a'=some ⟨gb,o,none⟩∧g.rd gb (o+j)=some u∧Den g (qav sp j) u:=by
 obtain⟨b',a,c,a',c',e,-,h1,h2,h3,h4,h5⟩:=Den.iface h.1 h.2.1;cases e;exact⟨a,c,a',c',h1,h2,h3,h4,h5⟩
theorem LM.ci {F:Fix} {w0:World} {raw set:Nat→Prop} {s:St} {w:World} (h:LM F w0 raw set s w) (hs:∀ d,set d) (hT:Tabs w0) (hB:qcp F.W):CI F s (muI F.W) w0 w:=by
 refine⟨hT,h.base.below,fun b sp hm=>(h.raws _ hm).1,h.ok.pk0B,h.ok.pk1B,fun b sp hm => ?_,fun b sp hm => ?_,fun b sp hm => ?_,fun b sp hm => ?_,fun b sp i hm hi => ?_,fun b sp sp' h1 h2=>qjz h.ok.nd b sp sp' h1 h2,h.ok.inj⟩
 ·obtain⟨ra,n,rc,ea,m,ec,tso,hb,-⟩:=(h.raws _ hm).2;exact⟨_,hb⟩
 ·obtain⟨a,c,a',c',h1,h2,h3,h4,h5⟩:=(h.memOk hm).parts;exact⟨a,c,h1 1 _ rfl,h2,h4⟩
 ·obtain⟨a,c,a',c',h1,h2,h3,h4,h5⟩:=(h.memOk hm).parts;obtain⟨hk,hp,hbk,hv,d,val,hf⟩:=(h.memOk hm).2;refine⟨a',c',h1 2 _ rfl,h3,fun i hi => ?_⟩;obtain⟨gb,o,u,e,q1,q2⟩:=h5 i hi;have he:=(hf.k5 hk).2.2.2.2;have e1:(qav sp i).of=sp.of.embeds[i]:=by simp[qav,zv,zr hi]
  have hnum:qdw F.W (qav sp i):=qam.numOk (W:=F.W) (d:=d) (val:=true) (by rw[e1];exact(he.get2 i hi).2);obtain⟨u',k1,k2,k3⟩:=h.underv hB hnum q2 fun _ d _ _=>hs d;have hk5:(qae F.W (qav sp i)).of.kind=5:=by
   have:=qc0.under5 hv.iface.2 i hi;have e2:qav sp i=⟨sp.of.embeds[i],sp.at_+sp.of.methods.length+qau (sp.of.embeds.take i),sp.pkg⟩:=by simp[qav,zv,zr hi]
   rw[e2];exact this
  obtain⟨b',a1,c1,a2,c2,rfl,hin,-⟩:=Den.iface k3 hk5;exact⟨gb,o,u,b',e,q1,k1,hin⟩
 ·obtain⟨hk,hp,hbk,hv,d,val,hf⟩:=(h.memOk hm).2;have hbe:=qbd sp.of;change sp.of.bulk≤1048576 at hbk;have:=qa3 sp.of.embeds;exact⟨hp,fun m hm=>((hf.k5 hk).2.2.2.1 m hm).1,hv.iface.1,by omega,by omega⟩
 ·obtain⟨hk,hp,hbk,hv,d,val,hf⟩:=(h.memOk hm).2;exact qwv hB hk (hf.k5 hk).2.2.2.2 hi
theorem LM.comp0 {F:Fix} {w0:World} {raw set:Nat→Prop} {s:St} {w:World} (h:LM F w0 raw set s w) (hs:∀ d,set d) (hT:Tabs w0) (hB:qcp F.W):Comp F s (muI F.W) w0 w (fun g=>g<w.heap.size) 0:=by
 refine⟨h.ci hs hT hB,fun g h=>h,fun b sp hm => ?_,fun i hi h=>absurd h (Nat.not_lt_zero _)⟩;obtain⟨ra,n,rc,ea,m,ec,tso,hb,htso⟩:=(h.raws _ hm).2;obtain⟨a,c,a',c',h1,h2,h3,h4,h5⟩:=(h.memOk hm).parts;have e1:=qax (h1 1 _ rfl);have e2:=qax (h1 2 _ rfl);rw[hb.cell] at e1 e2;cases e1;cases e2;refine⟨_,_,_,_,tso,hb,?_⟩;rcases htso with ⟨-,rfl⟩|⟨h0,ts,rfl,tv,k1,k2⟩
 ·exact .inl rfl
 ·have hm0:sp.of.methods=[]:=List.length_eq_zero_iff.1 (by omega);have he0:sp.of.embeds=[]:=List.length_eq_zero_iff.1 (by omega);refine .inr ⟨ts,[],rfl,?_,⟨none,0,tv,k1,zdb _ _ _ _,k2,fun g hg=>(by cases hg),k1.lt⟩,fun m hm=>(by cases hm),List.Pairwise.nil⟩;have:=MS.mk (W:=F.W) sp [] (by rw[he0];rfl) (fun i hi=>absurd hi (Nat.not_lt_zero _));have e3:expl sp=[]:=by unfold expl ordM;rw[hm0];simp
  rw[e3] at this;have e4:qff []=[]:=by unfold qff ordN;simp
  simp only[List.foldl_nil] at this;rw[e4] at this;exact this
theorem BOk.ifc {F:Fix} {s:St} {w:World} (h:BOk F s w) {n:Nat} (hn:n<s.ifs.length):∃ gb o,s.ia=some ⟨gb,o,none⟩∧w.cell? ⟨gb,o+n,none⟩=some (ptrV s.ifs[n].1):=by
 have h1:=h.ifr;have e:s.ifs.length=(s.ifs.map (·.1)).length:=by simp
 unfold St.row at h1;rw[e] at h1;obtain⟨gb,o,q1,q2⟩:=qeh h1 n (by simpa using hn);refine⟨gb,o,q1,?_⟩;rw[q2];simp
structure qm6 (F:Fix) (w0:World) (s:St) (w:World):Prop where
 ok:BOk F s w
 lt:∀ d T x,F.tb d=some (.iface T (.pointer (some x)))→x.block<w.heap.size
 inj:∀ d e v,F.tb d=some v→F.tb e=some v→d=e
 set:∀ d,d<F.W.length→qe5 F s w d
 big:∀ d v,F.tb d=some v→d<F.W.length
 mem:∀ b sp,(b,sp)∈s.ifs→qk6 (gOf F s (rdT w)) (b,sp)
 comp:∃ G,Comp F s (muI F.W) w0 w G s.ifs.length
theorem CX.parts {F:Fix} {s:St} {w0 w w':World} (hC:CI F s (muI F.W) w0 w) (h:CX F s (muI F.W) w w'):∃ S,qah S w w'∧RdLe (rdT w) (rdT w')∧∀ x T cs,Blk w x T cs→T≠175→¬ S x:=by
 obtain⟨k,h⟩:=h;exact⟨_,h.turns,h.rd,fun x T cs hb hT=>hC.notIf hb hT⟩
theorem LM.ok_cx {F:Fix} {w0:World} {raw set:Nat→Prop} {s:St} {w w':World} (h:LM F w0 raw set s w) (hC:CI F s (muI F.W) w0 w) (hx:CX F s (muI F.W) w w'):BOk F s w':=by
 obtain⟨S,hT,hr,hS⟩:=CX.parts hC hx;exact h.ok.apart hT.apart fun x T cs hb hT=>hS x T cs hb (by rcases hT with rfl|rfl|rfl|⟨rfl,-⟩|rfl|rfl <;> decide)
theorem LM.built {F:Fix} {w0:World} {raw set:Nat→Prop} {s:St} {w w':World} (h:LM F w0 raw set s w) (hs:∀ d,set d) (hC:CI F s (muI F.W) w0 w) (hx:CX F s (muI F.W) w w') {G:Nat→Prop} (hcomp:Comp F s (muI F.W) w0 w' G s.ifs.length):qm6 F w0 s w':=by
 have hok:=h.ok_cx hC hx;obtain⟨S,hT,hr,hS⟩:=CX.parts hC hx;have n:Nxt F F s s w w' fun x=>∃ cs,Blk w x 175 cs:=⟨rfl,rfl,fun _ _ h=>h,⟨rfl,rfl,fun _ _ h=>h,fun _ _ h=>h,fun _ h=>h,hr⟩,S,hT.apart,fun x T cs hb _ hn=>hS x T cs hb fun e=>hn ⟨cs,e ▸ hb⟩⟩;refine⟨hok,fun d T x e=>by have:=h.lt d T x e;have:=hT.apart.size;omega,h.inj,fun d hd => ?_,h.big,fun b sp hm=>(h.memOk hm).mono n.le,G,hcomp⟩;have h1:=h.setOk d hd (hs d);have key:∀ {x y:Nat} {T T':TypeId} {cs cs':List Value},Blk w x T cs→Blk w y T' cs'→T≠T'→x≠y:=fun h1 h2 h3=>h1.tne h2 h3;unfold qe5 at h1 ⊢;split at h1
 next hal=>
  obtain⟨al,tn,rhs,u,m,q⟩:=h1;rw[if_pos hal];exact⟨al,tn,rhs,u,m,q.next n fun x cs hc e=>by
   obtain⟨cs',he⟩:=e;exact hc.tne he (by decide) rfl⟩
 next hal=>
  obtain⟨b',tn,U,ux,ra,rc,fs,q⟩:=h1;rw[if_neg hal];refine⟨b',tn,U,ux,ra,rc,fs,q.next n fun x T cs hc hT e => ?_⟩;obtain⟨cs',he⟩:=e;exact⟨he.tne q.blk (by decide),he.tne q.tnB (by decide),fun e=>by subst e;exact hc.tne he (by decide) rfl⟩
def BuiltPk (W:Wd) (t:Ty) (w:World) (e:Ending) (w':World):Prop:=∃ x:Fix×St×TypeId×Addr,e = .returned (.tuple #[ptrV x.1.bb,.iface x.2.2.1 (.pointer (some x.2.2.2))])∧Hid (x.1.W=W∧x.1.N=start W W.length+t.size∧qm6 x.1 w x.2.1 w'∧Den (gOf x.1 x.2.1 (rdT w')) (operand W t) (.iface x.2.2.1 (.pointer (some x.2.2.2)))∧Below w.heap.size w w')
end Go.Proofs.YtmfhclggkjjcdaaGreatDoor
namespace Go.Proofs.YtmfhclggkjjcdaaGreatDoor
open Go Go.RowKit
set_option maxRecDepth 100000
def qf3 (W:Wd) (d:Nat):List Int:=(dc W d).methods.map Meth.name
def qey (W:Wd) (d:Nat) (q m:Int):Option Nat:=if((dc W d).pkg==q||qay m)=true then qj9 (qf3 W d) m else none
theorem qbz.names {F:Fix} {s:St} {w:World} {d b tn:Nat} {U:TypeId} {ux:Addr} {ra:Option Addr} {rc:Nat} {fs:List Nat} (h:qbz F s w d b tn U ux ra rc fs) (hn:∀ m∈(dc F.W d).methods,IsNm m.name):∀ i (hi:i<fs.length) (hk:i<(qf3 F.W d).length),w.cell? ⟨fs[i],2,none⟩=some (.string (qas (qf3 F.W d)[i]))∧IsNm (qf3 F.W d)[i]:=by
 intro i hi hk;have h1:=(h.ms i hi).2.cells.2;unfold qf3 at hk ⊢;simp only[List.length_map] at hk;simp only[List.getElem_map];have e:(dc F.W d).methods.getD i ⟨0,false⟩=(dc F.W d).methods[i]:=by simp[zv,zr hk]
 rw[e] at h1;exact⟨qax h1,hn _ (z8 _)⟩
theorem qbz.prow {F:Fix} {s:St} {w:World} {d b tn:Nat} {U:TypeId} {ux:Addr} {ra:Option Addr} {rc:Nat} {fs:List Nat} (h:qbz F s w d b tn U ux ra rc fs):qlm w ra fs∧fs.length≤rc:=by
 have h1:=h.row;rw[← h.len] at h1;exact⟨qeh h1,by obtain⟨_,_,he,hle,-⟩:=qak h1;cases he;exact hle⟩
theorem qkg {F:Fix} {s:St} {w:World} {d b tn:Nat} {U:TypeId} {ux:Addr} {ra:Option Addr} {rc:Nat} {fs:List Nat} (h:qbz F s w d b tn U ux ra rc fs) {i:Nat} (hi:i<fs.length):
  Calls Tryz.prog 142 #[ptrV b,.int .i64 i] w fun e w'=>e = .returned (ptrV fs[i])∧w'=w:=by
 have c5:=h.blk.cell 5;have c9:=h.blk.cell 9;simp only[zu,zt] at c5 c9;obtain⟨gb,o,rfl,hc⟩:=h.prow.1 i hi;have hl:=h.len;have hi':(i:Int)<((dc F.W d).methods.length:Int):=by omega
 clear h;go_enter Tryz.func142,Tryz.ntmps142
 go_wp2_with (first
  | (go_at_call 77;refine(qci b 15 (.inr rfl) _ c5).mono ?_;rintro e w' ⟨rfl,rfl⟩)
  | (go_at_call 100;refine(qcz b 15 4 (.inr (.inr rfl)) (.inr (.inl rfl)) _ c5).mono ?_;rintro e w' ⟨rfl,rfl⟩;rw[show stB 15 4=true from rfl]))
 go_ret
 exact⟨rfl,rfl⟩
theorem qfv {F:Fix} {s:St} {w:World} {d b tn:Nat} {U:TypeId} {ux:Addr} {ra:Option Addr} {rc:Nat} {fs:List Nat} (h:qbz F s w d b tn U ux ra rc fs) (hok:BOk F s w) (hT:Tabs w) (hn:∀ m∈(dc F.W d).methods,IsNm m.name) (hp:(dc F.W d).pkg=0∨(dc F.W d).pkg=1) (hl:(dc F.W d).methods.length≤1048576)
  {q m:Int} (hq:q=0∨q=1) (hm:IsNm m) (h8:m≠8):
  Calls Tryz.prog 111 #[ptrV b,ptrV (F.pk q),.string (qas m),.bool false] w (qa2 (idxV (qey F.W d q m) fs) w):=by
 have c5:=h.blk.cell 5;have c9:=h.blk.cell 9;have c1:=h.blk.cell 1;have t1:=h.tnB.cell 1;simp only[zu,zt] at c5 c9 c1 t1;have hlen:=h.len;have hnl:(qf3 F.W d).length=fs.length:=by unfold qf3;rw[List.length_map];exact hlen.symm
 have H:=hid h;have HT:=hid hT;have Hm:=hid hm;have HS:=hid (qjr (F.pk (dc F.W d).pkg) (F.pk q) _ _ hp hq w (hok.pkc hp).2 (hok.pkc hq).2);rw[← hlen] at c9;have HI:=fun w' (c:w'.cell? ⟨b,9,none⟩=some (.slice ra fs.length rc)) (k:qac w w')=>qnq b ra rc fs (qf3 F.W d) m w' c hnl.symm (fun i hi=>by obtain⟨bb,o,e,hc⟩:=h.prow.1 i hi;exact⟨bb,o,e,k _ _ hc⟩) h.prow.2 (by omega) (fun i hi hk=>⟨k _ _ (h.names hn i hi hk).1,(h.names hn i hi hk).2⟩) hm h8;have HI':=hid HI;have HMe:=hid (fun w' (hb:Below w.heap.size w w') (i:Nat) (hi:i<fs.length)=>qkg (F:=F) (s:=s) (w:=w') (d:=d) (b:=b) (tn:=tn) (U:=U) (ux:=ux) (ra:=ra) (rc:=rc) (fs:=fs) ⟨h.tb,h.tnB.keep hb,h.blk.keep hb,h.lit,Den.mono (show G.Le (gOf F s (rdT w)) (gOf F s (rdT w')) from⟨rfl,rfl,fun _ _ h=>h,fun _ _ h=>h,fun _ h=>h,qa0 hb⟩) h.den,h.len,qab h.row (qag.keep (S:=fun _=>False) hb) (fun _ _ h=>h),fun j hj=>⟨(h.ms j hj).1,(h.ms j hj).2.mono (qa0 hb)⟩⟩ hi);have hbl:=h.blk.lt;have htl:=h.tnB.lt;clear HI h hok hT hn hp hq hm h8;unfold qey;cases hpq:((dc F.W d).pkg==q) with
 | true=>
  have Hpq:=hid hpq;clear hpq;rw[if_pos (by simp)];cases hx:qj9 (qf3 F.W d) m with
  | none=>
   have Hx:=hid hx;clear hx;go_enter Tryz.func111,Tryz.ntmps111
   go_wp2_with (first
    | (go_at_call 77;refine(qci b 15 (.inr rfl) _ c5).mono ?_;rintro e w' ⟨rfl,rfl⟩)
    | (go_at_call 76;refine HS.out.mono ?_;rintro e w2 ⟨rfl,hb2⟩;have Hb2:=hid hb2;clear hb2;rw[Hpq.out])
    | (go_at_call 78;refine(HI'.out _ (qac.below Hb2.out _ _ c9) (qac.below Hb2.out)).mono ?_;rintro e w3 ⟨rfl,rfl⟩;rw[Hx.out,show qst none = -1 from rfl]))
   go_ret2
   exact⟨rfl,Hb2.out⟩
  | some i=>
   have hi:i<fs.length:=by
    unfold qj9 at hx;rw[List.findIdx?_eq_some_iff_getElem] at hx;obtain⟨hi,-⟩:=hx;omega
   have Hx:=hid hx;clear hx;go_enter Tryz.func111,Tryz.ntmps111
   go_wp2_with (first
    | (go_at_call 77;refine(qci b 15 (.inr rfl) _ c5).mono ?_;rintro e w' ⟨rfl,rfl⟩)
    | (go_at_call 76;refine HS.out.mono ?_;rintro e w2 ⟨rfl,hb2⟩;have Hb2:=hid hb2;clear hb2;rw[Hpq.out])
    | (go_at_call 78;refine(HI'.out _ (qac.below Hb2.out _ _ c9) (qac.below Hb2.out)).mono ?_;rintro e w3 ⟨rfl,rfl⟩;rw[Hx.out,show qst (some i)=(i:Int) from rfl])
    | (go_at_call 142;refine(HMe.out _ Hb2.out i hi).mono ?_;rintro e w4 ⟨rfl,rfl⟩))
   go_ret2
   refine⟨?_,Hb2.out⟩;simp[idxV,zv,zr hi]
 | false=>
  have Hpq:=hid hpq;clear hpq;cases hex:qay m with
  | false=>
   have Hex:=hid hex;clear hex;rw[if_neg (by simp)];go_enter Tryz.func111,Tryz.ntmps111
   go_wp2_with (first
    | (go_at_call 77;refine(qci b 15 (.inr rfl) _ c5).mono ?_;rintro e w' ⟨rfl,rfl⟩)
    | (go_at_call 76;refine HS.out.mono ?_;rintro e w2 ⟨rfl,hb2⟩;have Hb2:=hid hb2;clear hb2;rw[Hpq.out])
    | (go_at_call 85;refine(qcb m _ Hm.out (HT.out.below Hb2.out)).mono ?_;rintro e w3 ⟨rfl,hb3⟩;have Hb3:=hid hb3;clear hb3;rw[Hex.out]))
   go_ret2
   exact⟨rfl,Hb2.out.trans (Hb3.out.mono Hb2.out.size)⟩
  | true=>
   have Hex:=hid hex;clear hex;rw[if_pos (by simp)];cases hx:qj9 (qf3 F.W d) m with
   | none=>
    have Hx:=hid hx;clear hx;go_enter Tryz.func111,Tryz.ntmps111
    go_wp2_with (first
     | (go_at_call 77;refine(qci b 15 (.inr rfl) _ c5).mono ?_;rintro e w' ⟨rfl,rfl⟩)
     | (go_at_call 76;refine HS.out.mono ?_;rintro e w2 ⟨rfl,hb2⟩;have Hb2:=hid hb2;clear hb2;rw[Hpq.out])
     | (go_at_call 85;refine(qcb m _ Hm.out (HT.out.below Hb2.out)).mono ?_;rintro e w3 ⟨rfl,hb3⟩;have Hb3:=hid (Hb2.out.trans (hb3.mono Hb2.out.size));clear hb3;rw[Hex.out])
     | (go_at_call 78;refine(HI'.out _ (qac.below Hb3.out _ _ c9) (qac.below Hb3.out)).mono ?_;rintro e w3 ⟨rfl,rfl⟩;rw[Hx.out,show qst none = -1 from rfl]))
    go_ret2
    exact⟨rfl,Hb3.out⟩
   | some i=>
    have hi:i<fs.length:=by
     unfold qj9 at hx;rw[List.findIdx?_eq_some_iff_getElem] at hx;obtain⟨hi,-⟩:=hx;omega
    have Hx:=hid hx;clear hx;go_enter Tryz.func111,Tryz.ntmps111
    go_wp2_with (first
     | (go_at_call 77;refine(qci b 15 (.inr rfl) _ c5).mono ?_;rintro e w' ⟨rfl,rfl⟩)
     | (go_at_call 76;refine HS.out.mono ?_;rintro e w2 ⟨rfl,hb2⟩;have Hb2:=hid hb2;clear hb2;rw[Hpq.out])
     | (go_at_call 85;refine(qcb m _ Hm.out (HT.out.below Hb2.out)).mono ?_;rintro e w3 ⟨rfl,hb3⟩;have Hb3:=hid (Hb2.out.trans (hb3.mono Hb2.out.size));clear hb3;rw[Hex.out])
     | (go_at_call 78;refine(HI'.out _ (qac.below Hb3.out _ _ c9) (qac.below Hb3.out)).mono ?_;rintro e w3 ⟨rfl,rfl⟩;rw[Hx.out,show qst (some i)=(i:Int) from rfl])
     | (go_at_call 142;refine(HMe.out _ Hb3.out i hi).mono ?_;rintro e w4 ⟨rfl,rfl⟩))
    go_ret2
    refine⟨?_,Hb3.out⟩;simp[idxV,zv,zr hi]
theorem qel.obAt {F:Fix} {s:St} {w:World} (hok:BOk F s w) {x:Nat} {p n:Int} {ptr:Bool} (h:qel (rdT w) x (F.pk p) n ptr) (hn:IsNm n) (hp:p=0∨p=1):qgt w x (F.pk p) p n:=by
 obtain⟨h1,h2⟩:=h.cells;obtain⟨cs,T,q1,-⟩:=qb7 h1;exact⟨qax h1,qax h2,(hok.pkc hp).2,hn,hp,T,cs.toList,by unfold Blk;simpa using q1⟩
def qih (l:List Mn):List (Int×Int):=l.map fun m=>(m.p,m.n)
theorem qmn {F:Fix} {st:St} {G:Nat→Prop} {w:World} {b:Nat} {s:Spot} {ts:Nat} {l:List Mn} (h:qo8 F st G w b s ts l) (hok:BOk F st w) (hT:Tabs w) {q m:Int} (hq:q=0∨q=1) (hm:IsNm m) (h8:m≠8):
  Calls Tryz.prog 114 #[ptrV ts,ptrV (F.pk q),.string (qas m),.bool false] w (qa2 (idxV (qhz (qih l) q m) (l.map fun m=>qbf st m.k)) w):=by
 obtain⟨a,c,tv,h1,h2,-⟩:=h.set;have c1:=h1.cell 1;simp only[zu,zt] at c1;have hl1:=h1.lt;have hlen:(l.map fun m=>qbf st m.k).length=l.length:=by simp
 have hle:=qjf h.dis fun m hm=>(h.ok m hm).1;have hrow:=qeh h2;have hcap:(l.map fun m=>qbf st m.k).length≤c:=by obtain⟨_,_,he,hle,-⟩:=qak h2;cases he;exact hle
 have HM:=hid (qmb a c (l.map fun m=>qbf st m.k) (qih l) F.pk q m w hT (by simp[qih]) hrow hcap (by rw[hlen];omega) (fun i hi hk=>by
  simp only[qih,List.length_map] at hk;simp only[qih,List.getElem_map];have h3:=h.ok l[i] (z8 hk);exact h3.2.obAt hok h3.1.1 h3.1.2) hm h8 hq (hok.pkc hq).2)
 obtain⟨fs,hfs⟩:∃ fs,fs=l.map fun m=>qbf st m.k:=⟨_,rfl⟩;rw[← hfs] at HM c1 ⊢;clear h h1 h2 hrow hcap hlen hfs hok hT;obtain⟨r,hr⟩:∃ r,r=idxV (qhz (qih l) q m) fs:=⟨_,rfl⟩;have htup:∃ i p,r = .tuple #[.int .i64 i,.pointer p]:=by
  rw[hr];unfold idxV;split
  ·exact⟨_,_,rfl⟩
  ·exact⟨_,_,rfl⟩
 rw[← hr] at HM ⊢;clear hr;obtain⟨i,p,rfl⟩:=htup;go_enter Tryz.func114,Tryz.ntmps114
 go_wp2_with (go_at_call 144;refine HM.out.mono ?_;rintro e w2 ⟨rfl,hb2⟩;have Hb2:=hid hb2;clear hb2)
 go_ret2
 exact⟨rfl,Hb2.out⟩
end Go.Proofs.YtmfhclggkjjcdaaGreatDoor
namespace Go.Proofs.YtmfhclggkjjcdaaGreatDoor
open Go Go.RowKit
mutual
def op (P:Nat→Nat):Ty→Nat
 | .mk k n el fs _ em=>(if k=1 then P n.toNat else 1)+opT P el+opF P fs+opT P em
def opT (P:Nat→Nat):List Ty→Nat
 | []=>0
 | t::r=>op P t+opT P r
def opF (P:Nat→Nat):List Fd→Nat
 | []=>0
 | .mk _ _ t::r=>op P t+opF P r
end
def cap1 (n:Nat):Nat:=min n 2001
theorem qcy (n:Nat):cap1 n≤2001:=by unfold cap1;omega
def qw1 (W:Wd) (e:Int) (P Q:Nat→Nat):Prop:=∀ n:Nat,n<W.length→(e<n∨(dc W n).alias=false)→P n=Q n
mutual
theorem qhm (W:Wd) (e:Nat) (P Q:Nat→Nat) (hal:(dc W e).alias=true) (h:qw1 W e P Q):∀ (val:Bool) (t:Ty),qam W e val t→op P t=op Q t
 | val,.mk k n el fs ms em,hf=>by
  simp only[qam] at hf;rcases hf with ⟨rfl,rfl,rfl,rfl,rfl,-⟩|⟨rfl,rfl,rfl,rfl,rfl,h0,h1,h2⟩|⟨hk,rfl,rfl,rfl,rfl,h1⟩|⟨rfl,rfl,rfl,rfl,rfl,h1⟩|⟨rfl,rfl,rfl,rfl,-,h1⟩
  ·simp[op,opT,opF]
  ·simp only[op,opT,opF,if_true,Nat.add_zero];refine h n.toNat (by omega) ?_;rcases h2 with h2|⟨-,h2|h2|h2⟩
   ·left;omega
   ·omega
   ·simp only[Int.toNat_natCast] at h2;rw[hal] at h2;cases h2
   ·right;exact h2
  ·have hk1:¬ k=1:=by omega
   simp only[op,opT,opF,if_neg hk1,Nat.add_zero,qsh W e P Q hal h el h1]
  ·simp[op,opT,qle W e P Q hal h val fs h1]
  ·simp[op,opT,opF,qls W e P Q hal h em h1]
theorem qsh (W:Wd) (e:Nat) (P Q:Nat→Nat) (hal:(dc W e).alias=true) (h:qw1 W e P Q):∀ (l:List Ty),qc5 W e l→opT P l=opT Q l
 | [],hf=>by simp[opT]
 | t::r,hf=>by
  simp only[qc5] at hf;obtain⟨rfl,hf⟩:=hf;simp only[opT,qhm W e P Q hal h false t hf]
theorem qle (W:Wd) (e:Nat) (P Q:Nat→Nat) (hal:(dc W e).alias=true) (h:qw1 W e P Q):∀ (val:Bool) (l:List Fd),qby W e val l→opF P l=opF Q l
 | val,[],hf=>by simp[opF]
 | val,.mk n em t::r,hf=>by
  simp only[qby] at hf;simp only[opF,qhm W e P Q hal h val t hf.1.2.2,qle W e P Q hal h val r hf.2]
theorem qls (W:Wd) (e:Nat) (P Q:Nat→Nat) (hal:(dc W e).alias=true) (h:qw1 W e P Q):∀ (l:List Ty),qbi W e l→opT P l=opT Q l
 | [],hf=>by simp[opT]
 | t::r,hf=>by
  simp only[qbi] at hf;simp only[opT,qhm W e P Q hal h true t hf.1.2,qls W e P Q hal h r hf.2]
end
theorem qh1 (P:Nat→Nat):∀ (l:List Ty) (k:Nat) (hk:k<l.length),opT P (l.take (k+1))=opT P (l.take k)+op P l[k]
 | t::r,0,_=>by simp[opT]
 | t::r,k+1,hk=>by
  have:=qh1 P r k (by simpa using hk);simp only[List.take_succ_cons,zh,opT,this];omega
theorem qnb (P:Nat→Nat):∀ (l:List Fd) (k:Nat) (hk:k<l.length),opF P (l.take (k+1))=opF P (l.take k)+op P l[k].of
 | .mk _ _ t::r,0,_=>by simp[opF,Fd.of]
 | .mk _ _ t::r,k+1,hk=>by
  have:=qnb P r k (by simpa using hk);simp only[List.take_succ_cons,zh,opF,this];omega
theorem qqe (P:Nat→Nat) (hP:∀ n,1≤P n) (t:Ty):1≤op P t:=by
 cases t;simp only[op];split
 ·have:=hP ‹Int›.toNat;omega
 ·omega
structure qdx (W:Wd) (t:Ty) (P:Nat→Nat):Prop where
 pos:∀ n,1≤P n
 alias:∀ d,d<W.length→(dc W d).alias=true→op P (dc W d).of≤P d
 decl:∀ d,d<W.length→op P (dc W d).of≤2000
 operand:op P t≤2001
def ndS (d:Nat):Spot:=⟨.mk 1 d [] [] [] [],0,0⟩
def nrm (s:Spot):Spot:=if s.of.kind=1 then ndS s.of.num.toNat else s
def pl (W:Wd) (s:Spot):Spot:=nrm (plain W s)
theorem qgb {s:Spot} (h:s.of.kind≠1):nrm s=s:=if_neg h
theorem qly {s:Spot} (h:s.of.kind=1):nrm s=ndS s.of.num.toNat:=if_pos h
theorem qfn (s:Spot):(nrm s).of.kind=s.of.kind:=by
 by_cases h:s.of.kind=1
 ·rw[qly h,h];rfl
 ·rw[qgb h]
theorem qmd {s:Spot}:(nrm s).of.num.toNat=s.of.num.toNat:=by
 by_cases h:s.of.kind=1
 ·rw[qly h];exact Int.toNat_natCast _
 ·rw[qgb h]
theorem den_nd {g:G} {s:Spot} {v:Value} (hk:s.of.kind=1) (h:g.tb s.of.num.toNat=some v):Den g s v:=by
 obtain⟨⟨k,m,el,fs,ms,em⟩,at_,p⟩:=s;simp only[Den,DenT,Ty.kind,Ty.num] at *;exact .inl ⟨hk,h⟩
theorem Den.nrm {g:G} {s:Spot} {v:Value} (h:Den g s v):Den g (nrm s) v:=by
 by_cases hk:s.of.kind=1
 ·refine den_nd (by rw[qfn,hk]) ?_;rw[qmd];exact h.named hk
 ·rw[qgb hk];exact h
theorem qn6 (W:Wd) (s:Spot):qae W (nrm s)=qae W s:=by
 by_cases hk:s.of.kind=1
 ·unfold qae qb9;rw[if_pos (by rw[qfn];exact hk),if_pos hk,qmd]
 ·rw[qgb hk]
inductive CT where
 | leaf (l:List (Int×Int))
 | node (l:List (Int×Int)) (a b:CT)
def cid (p n:Int):Int×Int:=(if qay n=true then 0 else p,n)
theorem qkd (p n q m:Int):qbp p n q m=true↔cid p n=cid q m:=by
 unfold qbp cid;simp only[Bool.and_eq_true,Bool.or_eq_true,beq_iff_eq,Prod.mk.injEq];constructor
 ·rintro⟨rfl,h⟩;refine⟨?_,rfl⟩;rcases h with h|h
  ·simp[h]
  ·rw[h]
 ·rintro⟨h1,rfl⟩;refine⟨rfl,?_⟩;by_cases h:qay n=true
  ·exact .inl h
  ·simp only[h] at h1;exact .inr h1
open Classical in
noncomputable def msL (W:Wd) (s:Spot):List Mn:=if h:∃ l,MS W s l then h.choose else []
theorem qug {W:Wd} {s:Spot} {l:List Mn} (h:MS W s l):msL W s=l:=by
 unfold msL;rw[dif_pos ⟨l,h⟩];exact(Exists.choose_spec (⟨l,h⟩:∃ l,MS W s l)).unique h
def qjg (W:Wd) (x:Spot) (i:Nat):List (Int×Int):=[(if(x.of.fields.getD i fd0).embedded=true then 1 else 0,0),cid x.pkg (fname W (x.of.fields.getD i fd0))]
noncomputable def cano (W:Wd):Nat→Spot→CT
 | 0,_ => .leaf [(-1,0)]
 | n+1,s=>
  if(plain W s).of.kind=1 then .leaf [(1,(plain W s).of.num)]
  else if(plain W s).of.kind=0 then .leaf [(0,(plain W s).of.num)]
  else if(plain W s).of.kind=4 then .node [(4,(plain W s).of.fields.length)] ((List.range (plain W s).of.fields.length).foldr (fun i t => .node (qjg W (plain W s) i) (cano W n (qao (plain W s) i)) t) (.leaf [])) (.leaf [])
  else if(plain W s).of.kind=5 then .leaf ((5,0)::(msL W (plain W s)).map fun m=>cid m.p m.n)
  else .node [((plain W s).of.kind,0)] (cano W n (qaq (plain W s))) (.leaf [])
theorem qla {l:List Nat} {a a':Nat→List (Int×Int)} {b b':Nat→CT} {z:CT}:l.foldr (fun i t=>CT.node (a i) (b i) t) z=l.foldr (fun i t=>CT.node (a' i) (b' i) t) z↔∀ i∈l,a i=a' i∧b i=b' i:=by
 induction l with
 | nil=>simp
 | cons i r ih=>
  simp only[List.foldr_cons,CT.node.injEq,ih,zgb,forall_eq_or_imp];constructor
  ·rintro⟨h1,h2,h3⟩;exact⟨⟨h1,h2⟩,h3⟩
  ·rintro⟨⟨h1,h2⟩,h3⟩;exact⟨h1,h2,h3⟩
noncomputable def can (W:Wd) (s:Spot):CT:=cano W 2002 s
def drf (W:Wd) (s:Spot):Spot×Bool:=if(plain W s).of.kind=2 then(qaq (plain W s),true) else(s,false)
structure En where
 to:Spot
 ix:List Nat
 ind:Bool
 mul:Bool
structure Hi where
 ob:Nat
 met:Bool
 ptr:Bool
 ix:List Nat
 ind:Bool
abbrev Stp (α:Type):=Except (List Nat) α
def qgu (e:En) (h:Option Hi) (i k:Nat) (met ptr:Bool):Stp (Option Hi):=if(h.isSome||e.mul)=true then .error (e.ix++[i]) else .ok (some ⟨k,met,ptr,e.ix++[i],e.ind⟩)
def subE (W:Wd) (e:En) (u:Spot) (i:Nat):En:=⟨pl W (drf W (qao u i)).1,e.ix++[i],e.ind||(drf W (qao u i)).2,e.mul⟩
def fldS (W:Wd) (q m:Int) (e:En) (u:Spot) (i:Nat) (st:Option Hi×List En):Stp (Option Hi×List En):=
 if qbp u.pkg (fname W (u.of.fields.getD i fd0)) q m=true then
  match qgu e st.1 i (qe0 u i) false false with
  | .ok h => .ok (h,st.2)
  | .error x => .error x
 else if(st.1.isNone&&(u.of.fields.getD i fd0).embedded)=true then .ok (st.1,st.2++[subE W e u i])
 else .ok st
def flds (W:Wd) (q m:Int) (e:En) (u:Spot):Nat→Nat→Option Hi×List En→Stp (Option Hi×List En)
 | 0,_,st => .ok st
 | n+1,i,st=>match fldS W q m e u i st with
  | .ok st=>flds W q m e u n (i+1) st
  | .error x => .error x
noncomputable def typS (W:Wd) (q m:Int) (e:En) (st:Option Hi×List En):Stp (Option Hi×List En):=
 if(qae W e.to).of.kind=4 then flds W q m e (qae W e.to) (qae W e.to).of.fields.length 0 st
 else if(qae W e.to).of.kind=5 then
  match qhz (qih (msL W (qae W e.to))) q m with
  | some i=>match qgu e st.1 i ((msL W (qae W e.to)).getD i mn0).k true false with
   | .ok h => .ok (h,st.2)
   | .error x => .error x
  | none => .ok st
 else .ok st
noncomputable def entS (W:Wd) (q m:Int) (e:En) (st:Option Hi×List En):Stp (Option Hi×List En):=
 match if e.to.of.kind=1 then qey W e.to.of.num.toNat q m else none with
 | some i=>match qgu e st.1 i (start W e.to.of.num.toNat+i) true ((dc W e.to.of.num.toNat).methods.getD i ⟨0,false⟩).ptr with
  | .ok h => .ok (h,st.2)
  | .error x => .error x
 | none=>typS W q m e st
noncomputable def ents (W:Wd) (q m:Int):List En→(Option Hi×List En)→List Nat→Stp ((Option Hi×List En)×List Nat)
 | [],st,S => .ok (st,S)
 | e::r,st,S=>
  if e.to.of.kind=1∧e.to.of.num.toNat∈S then ents W q m r st S
  else match entS W q m e st with
   | .ok st=>ents W q m r st (if e.to.of.kind=1 then S++[e.to.of.num.toNat] else S)
   | .error x => .error x
open Classical in
noncomputable def conS (W:Wd) (acc:List En) (e:En):List En:=match acc.findIdx? fun a=>decide (can W a.to=can W e.to) with
 | some i=>acc.modify i fun a=>{ a with mul:=true }
 | none=>acc++[e]
noncomputable def qbc (W:Wd) (l:List En):List En:=l.foldl (conS W) []
structure Rs where
 ob:Option (Nat×Bool)
 ix:List Nat
 ind:Bool
noncomputable def lvs (W:Wd) (addr:Bool) (q m:Int):Nat→List En→List Nat→Rs
 | 0,_,_=>⟨none,[],false⟩
 | n+1,cur,S=>
  if cur=[] then⟨none,[],false⟩
  else match ents W q m cur (none,[]) S with
   | .error x=>⟨none,x,false⟩
   | .ok ((some h,_),_)=>if(h.met&&h.ptr&&!h.ind&&!addr)=true then⟨none,[],true⟩ else⟨some (h.ob,h.met),h.ix,h.ind⟩
   | .ok ((none,nx),S')=>lvs W addr q m n (qbc W nx) S'
def qj2 (W:Wd):Nat:=(W.length+1) * 2003+2003
noncomputable def qhf (W:Wd) (s:Spot) (addr:Bool) (q m:Int):Rs:=
 if m=8 then⟨none,[],false⟩
 else if(drf W s).2=true∧(qae W (drf W s).1).of.kind=5 then⟨none,[],false⟩
 else lvs W addr q m (qj2 W) [⟨pl W (drf W s).1,[],(drf W s).2,false⟩] []
noncomputable def qch (W:Wd) (s:Spot) (addr:Bool) (q m:Int):Rs:=
 if(plain W s).of.kind=1∧(qae W s).of.kind=2 then
  match (qhf W (qae W s) false q m).ob with
  | some (_,true)=>⟨none,[],false⟩
  | _=>qhf W (qae W s) false q m
 else qhf W s addr q m
theorem qlw:∀ (l:List Fd) (k:Nat),k<qar l→∃ j,j<l.length∧qar (l.take j)≤k∧k<qar (l.take j)+1+(l.getD j fd0).of.size
 | [],k,h=>by simp[qar] at h
 | .mk n e t::r,k,h=>by
  by_cases h1:k<1+t.size
  ·exact⟨0,by simp,by simp[qar],by simp[qar,Fd.of];omega⟩
  ·simp only[qar] at h;obtain⟨j,q1,q2,q3⟩:=qlw r (k - (1+t.size)) (by omega);exact⟨j+1,by simpa using q1,by simp only[List.take_succ_cons,qar];omega,by simp only[List.take_succ_cons,qar,List.getD_cons_succ];omega⟩
theorem qln:∀ (l:List Ty) (k:Nat),k<qau l→∃ j,j<l.length∧qau (l.take j)≤k∧k<qau (l.take j)+(l.getD j ty0).size
 | [],k,h=>by simp[qau] at h
 | t::r,k,h=>by
  by_cases h1:k<t.size
  ·exact⟨0,by simp,by simp[qau],by simp[qau];omega⟩
  ·simp only[qau] at h;obtain⟨j,q1,q2,q3⟩:=qln r (k - t.size) (by omega);exact⟨j+1,by simpa using q1,by simp only[List.take_succ_cons,qau];omega,by simp only[List.take_succ_cons,qau,List.getD_cons_succ];omega⟩
def ObIn (g:G) (k:Nat):Prop:=∃ m x u,g.ob k=some (m,x)∧g.rd x 0=some u
theorem qfc {g:G} {W:Wd} {d:Int}:∀ (n:Nat) (val:Bool) (s:Spot) (v:Value),s.of.bulk≤n→qam W d val s.of→Den g s v→∀ k,s.at_≤k→k<s.at_+s.of.size→ObIn g k
 | 0,_,s,_,hn,_,_,_,_,_=>by have:=qd3 s.of;omega
 | n+1,val,s,v,hn,hf,hd,k,h1,h2=>by
  have hbe:=qbd s.of;have hsz:=qkt s.of;rcases hf.kinds with hk|hk|hk|hk|hk|hk
  ·obtain⟨e1,e2,e3,e4,-⟩:=hf.k0 hk;rw[e1,e2,e3,e4] at hsz;simp[qau,qar] at hsz;omega
  ·obtain⟨e1,e2,e3,e4,-⟩:=hf.k1 hk;rw[e1,e2,e3,e4] at hsz;simp[qau,qar] at hsz;omega
  ·obtain⟨en,e2,e3,e4,el,ef⟩:=hf.k23 (.inl hk);obtain⟨b,u,-,-,h3⟩:=hd.ptr hk;have he:s.of.elem=[s.of.el0]:=by
    cases hel:s.of.elem with
    | nil=>rw[hel] at el;simp at el
    | cons x r=>rw[hel] at el;cases r with
     | nil=>simp[Ty.el0,hel]
     | cons=>simp at el
   rw[e2,e3,e4,he] at hsz;simp[qau,qar] at hsz;rw[he] at hbe;simp[qbt] at hbe;exact qfc n false (qaq s) u (by simp only[qaq];omega) ef h3 k h1 (by simp only[qaq];omega)
  ·obtain⟨en,e2,e3,e4,el,ef⟩:=hf.k23 (.inr hk);obtain⟨b,u,-,-,h3⟩:=hd.slice hk;have he:s.of.elem=[s.of.el0]:=by
    cases hel:s.of.elem with
    | nil=>rw[hel] at el;simp at el
    | cons x r=>rw[hel] at el;cases r with
     | nil=>simp[Ty.el0,hel]
     | cons=>simp at el
   rw[e2,e3,e4,he] at hsz;simp[qau,qar] at hsz;rw[he] at hbe;simp[qbt] at hbe;exact qfc n false (qaq s) u (by simp only[qaq];omega) ef h3 k h1 (by simp only[qaq];omega)
  ·obtain⟨-,e2,e3,e4,ef⟩:=hf.k4 hk;rw[e2,e3,e4] at hsz;simp[qau] at hsz;obtain⟨b,a,c,-,-,-,h5⟩:=hd.struct hk;obtain⟨j,q1,q2,q3⟩:=qlw s.of.fields (k - s.at_) (by omega);obtain⟨gb,o,x,u,-,-,r3,r4,r5⟩:=h5 j q1;by_cases hkj:k=qe0 s j
   ·exact⟨false,x,_,hkj ▸ r3,r4 0 _ rfl⟩
   ·have hg:s.of.fields.getD j fd0=s.of.fields[j]:=by simp[zv,zr q1]
    have hb:=qbx s.of.fields j q1;unfold qe0 at hkj;refine qfc (W:=W) (d:=d) n val (qao s j) u ?_ ?_ r5 k ?_ ?_
    ·simp only[qao,hg];omega
    ·simp only[qao,hg];exact(ef.get j q1).2.2
    ·simp only[qao];omega
    ·simp only[qao];omega
  ·obtain⟨-,e2,e3,e4,ef⟩:=hf.k5 hk;rw[e2,e3] at hsz;simp[qau,qar] at hsz;obtain⟨b,a,c,a',c',-,-,-,-,-,h4,h5⟩:=hd.iface hk;by_cases hkm:k<s.at_+s.of.methods.length
   ·have hm:(k - s.at_)∈ordM s.pkg s.of.methods:=((qjc s.pkg s.of.methods).1.mem_iff).2 (List.mem_range.2 (by omega));obtain⟨i,hi⟩:=List.mem_iff_getElem?.1 hm;obtain⟨gb,o,x,-,-,r3,r4⟩:=h4 i _ hi;obtain⟨sg,v',T,aa,f1,-⟩:=r4;exact⟨true,x,_,by rw[← r3];congr 1;omega,f1 0 _ rfl⟩
   ·obtain⟨j,q1,q2,q3⟩:=qln s.of.embeds (k - s.at_ - s.of.methods.length) (by omega);obtain⟨gb,o,u,-,-,r3⟩:=h5 j q1;have hg:s.of.embeds.getD j ty0=s.of.embeds[j]:=by simp[zv,zr q1]
    have hb:=qa6 s.of.embeds j q1;refine qfc (W:=W) (d:=d) n true (qav s j) u ?_ ?_ r3 k ?_ ?_
    ·simp only[qav,hg];omega
    ·simp only[qav,hg];exact ef.get j q1
    ·simp only[qav];omega
    ·simp only[qav];omega
theorem qld (W:Wd):∀ (n:Nat),n≤W.length→∀ k,k<start W n→∃ d,d<n∧start W d≤k∧k<start W (d+1)
 | 0,_,k,h=>by simp[start,sumD] at h
 | n+1,hn,k,h=>by
  by_cases h1:k<start W n
  ·obtain⟨d,q1,q2,q3⟩:=qld W n (by omega) k h1;exact⟨d,by omega,q2,q3⟩
  ·exact⟨n,by omega,by omega,h⟩
theorem qh0 {W:Wd} {d:Nat} (hd:d<W.length) (hB:qcp W) (h:0<(dc W d).of.size):(dc W d).of.kind≠1:=fun hk=>by
 obtain⟨e1,e2,e3,e4,-⟩:=(hB d hd).k1 hk;have:=qkt (dc W d).of;rw[e1,e2,e3,e4] at this;simp[qau,qar] at this;omega
theorem qm6.cover {F:Fix} {w0:World} {s:St} {w:World} (h:qm6 F w0 s w) {t:Ty} (hFit:qfz F.W t) {v:Value} (hd:Den (gOf F s (rdT w)) (operand F.W t) v) {k:Nat} (hk:k<start F.W F.W.length+t.size):∃ m x T cs,s.ob k=some (m,x)∧Blk w x T cs:=by
 have hB:qcp F.W:=fun d hd=>(hFit.names d hd).2.2.2.1;have key:ObIn (gOf F s (rdT w)) k:=by
  by_cases h1:k<start F.W F.W.length
  ·obtain⟨d,hdl,q2,q3⟩:=qld F.W _ (zl _) k h1;have hst:=qc2 hdl;unfold qi8 at hst;have hset:=h.set d hdl;unfold qe5 at hset;split at hset
   next hal=>
    obtain⟨al,tn,rhs,u,m,q⟩:=hset;have hm0:=(hFit.names d hdl).2.2.2.2 hal;rw[hm0] at hst;simp only[List.length_nil] at hst;have hkd:=qh0 hdl hB (by omega);have hden:=q.den;rw[qbg (fun e=>hkd e.1)] at hden;exact qfc _ true (qad F.W d) u (zl _) (hB d hdl) hden k (by simp only[qad,hm0,List.length_nil];omega) (by simp only[qad,hm0,List.length_nil];omega)
   next hal=>
    obtain⟨b',tn,U,ux,ra,rc,fs,q⟩:=hset;by_cases hkm:k<start F.W d+(dc F.W d).methods.length
    ·obtain⟨r1,sg,v',T,aa,f1,-⟩:=q.ms (k - start F.W d) (by rw[q.len];omega);exact⟨true,_,_,by rw[← r1];show s.ob k=s.ob _;congr 1;omega,f1 0 _ rfl⟩
    ·have hkd:=qh0 hdl hB (by omega);have hden:=q.den;rw[qdu (s:=qad F.W d) hkd] at hden;exact qfc _ true (qad F.W d) _ (zl _) (hB d hdl) hden k (by simp only[qad];omega) (by simp only[qad];omega)
  ·exact qfc _ true (operand F.W t) v (zl _) hFit.formed hd k (by simp only[operand];omega) (by simp only[operand];omega)
 obtain⟨m,x,u,h1,h2⟩:=key;obtain⟨cs,T,q1,-⟩:=qb7 h2;exact⟨m,x,T,cs.toList,h1,by unfold Blk;simpa using q1⟩
theorem Tryz.szFn:(Tryz.prog.info? 167).map (·.size)=some 6:=by kernel_rfl
theorem Tryz.szVr:(Tryz.prog.info? 191).map (·.size)=some 6:=by kernel_rfl
section
variable {P:Program} {t:TypeId}
theorem qfi (w:World) {m} (ht:P.underlying t=some (.interface m)) {T U:TypeId} (h:T≠U) (v u:Value):(binOp .eql t (.iface T v) (.iface U u)).run P w = .ok (.bool false) w:=by
 have h':∀ d:Nat,(Op.equalIn (d+1) t (.iface T v) (.iface U u)).run P w = .ok false w:=fun d=>by
  simp[Op.equalIn,run_underlying ht,h]
 simp only[binOp];simp[Op.equal,Op.maxDepth,h' 9999]
theorem qd2 (w:World) {m} (ht:P.underlying t=some (.interface m)) {T te:TypeId} {j:TypeInfo} (hp:P.underlying T=some (.pointer te)) (hte:P.info? te=some j) {i:TypeInfo} (hT:P.info? T=some i) (hc:i.comparable=true) (a:Addr):(binOp .eql t (.iface T (.pointer (some a))) (.iface T (.pointer (some a)))).run P w = .ok (.bool true) w:=by
 have h1:∀ d:Nat,(Op.equalIn (d+1) T (.pointer (some a)) (.pointer (some a))).run P w = .ok true w:=fun d=>by
  simp[Op.equalIn,run_underlying hp,sizeOf,typeInfo,hte,run_sameAddr_same]
 have h':∀ d:Nat,(Op.equalIn (d+2) t (.iface T (.pointer (some a))) (.iface T (.pointer (some a)))).run P w = .ok true w:=fun d=>by
  rw[show d+2=(d+1)+1 from rfl]
  conv=>lhs;unfold Op.equalIn
  simp[run_underlying ht,h1,typeInfo,hT,hc]
 simp only[binOp];simp[Op.equal,Op.maxDepth,h' 9998]
theorem qdn (w:World) {m} (ht:P.underlying t=some (.interface m)) {T te:TypeId} {j:TypeInfo} (hp:P.underlying T=some (.pointer te)) (hte:P.info? te=some j) (hsz:j.size≠0) {i:TypeInfo} (hT:P.info? T=some i) (hc:i.comparable=true) {a b:Addr} {ca cb:Array Value} {ta tb:TypeId} (hne:a≠b) (ha:w.heap[a.block]?=some (.cells ca ta (0,0))) (hb:w.heap[b.block]?=some (.cells cb tb (0,0))):(binOp .eql t (.iface T (.pointer (some a))) (.iface T (.pointer (some b)))).run P w = .ok (.bool false) w:=by
 have h1:∀ d:Nat,(Op.equalIn (d+1) T (.pointer (some a)) (.pointer (some b))).run P w = .ok false w:=fun d=>by
  simp[Op.equalIn,run_underlying hp,sizeOf,typeInfo,hte,hsz,run_sameAddr_other w hne ha hb]
 have h':∀ d:Nat,(Op.equalIn (d+2) t (.iface T (.pointer (some a))) (.iface T (.pointer (some b)))).run P w = .ok false w:=fun d=>by
  rw[show d+2=(d+1)+1 from rfl]
  conv=>lhs;unfold Op.equalIn
  simp[run_underlying ht,h1,typeInfo,hT,hc]
 simp only[binOp];simp[Op.equal,Op.maxDepth,h' 9998]
end
theorem Tryz.cmpF:(Tryz.prog.info? 106).map (·.comparable)=some true:=by kernel_rfl
theorem Tryz.cmpV:(Tryz.prog.info? 151).map (·.comparable)=some true:=by kernel_rfl
theorem eq_obj (w:World) (m n:Bool) (x y:Nat) {T U:TypeId} {cs ds:List Value} (hx:Blk w x T cs) (hy:Blk w y U ds):(binOp .eql 68 (objV (some (m,x))) (objV (some (n,y)))).run Tryz.prog w = .ok (.bool (m==n&&x==y)) w:=by
 obtain⟨jf,hjf,hjf2⟩:=zbb.1 Tryz.szFn;obtain⟨jv,hjv,hjv2⟩:=zbb.1 Tryz.szVr;obtain⟨cf,hcf,hcf2⟩:=zbb.1 Tryz.cmpF;obtain⟨cv,hcv,hcv2⟩:=zbb.1 Tryz.cmpV;have hne:x≠y→(⟨x,0,none⟩:Addr)≠⟨y,0,none⟩:=fun h e=>h (by cases e;rfl);by_cases hxy:x=y
 ·subst hxy;cases m <;> cases n
  ·exact(qd2 w Tryz.underlying68 Tryz.underlying151 hjv hcv hcv2 _).trans (by simp)
  ·exact(qfi w Tryz.underlying68 (by decide) _ _).trans (by simp)
  ·exact(qfi w Tryz.underlying68 (by decide) _ _).trans (by simp)
  ·exact(qd2 w Tryz.underlying68 Tryz.underlying106 hjf hcf hcf2 _).trans (by simp)
 ·cases m <;> cases n
  ·exact(qdn w Tryz.underlying68 Tryz.underlying151 hjv (by rw[hjv2];decide) hcv hcv2 (hne hxy) hx hy).trans (by simp[hxy])
  ·exact(qfi w Tryz.underlying68 (by decide) _ _).trans (by simp)
  ·exact(qfi w Tryz.underlying68 (by decide) _ _).trans (by simp)
  ·exact(qdn w Tryz.underlying68 Tryz.underlying106 hjf (by rw[hjf2];decide) hcf hcf2 (hne hxy) hx hy).trans (by simp[hxy])
theorem eqg_obj (m n:Bool) (x y:Nat) (t:TypeId) (p q:Operand) (w:World):(eqGuard .eql t p q (objV (some (m,x))) (objV (some (n,y)))).run Tryz.prog w = .ok () w:=by
 cases m <;> cases n <;> rfl
end Go.Proofs.YtmfhclggkjjcdaaGreatDoor
namespace Go.Proofs.YtmfhclggkjjcdaaGreatDoor
open Go Go.RowKit
set_option maxRecDepth 100000
def Cov (F:Fix) (s:St) (w:World):Prop:=∀ k,k<F.N→∃ m x T cs,s.ob k=some (m,x)∧Blk w x T cs
theorem Cov.keep {F:Fix} {s:St} {w w':World} (h:Cov F s w) (hb:Below w.heap.size w w'):Cov F s w':=fun k hk=>by
 obtain⟨m,x,T,cs,h1,h2⟩:=h k hk;exact⟨m,x,T,cs,h1,h2.keep hb⟩
theorem qr2 {F:Fix} {s:St} {w:World} (hok:BOk F s w) (hc:Cov F s w) (hN:F.N≤4194304) {k0:Nat} (hk:k0<F.N) {m:Bool} {x:Nat} (ho:s.ob k0=some (m,x)):
  Calls Tryz.prog 50 #[ptrV F.bb,objV (some (m,x))] w fun e w'=>e = .returned (.int .i64 k0)∧w'=w:=by
 have b2:=hok.bld.cell 2;simp only[zu,zt] at b2;have HR:=hid (fun i (hi:i<F.N)=>(show w.cell? ⟨F.ob0,i,none⟩=some (objV (s.ob i)) by
  obtain⟨os,o1,o2⟩:=hok.obj;rw[o1.cell];exact o2 i hi))
 have Hinj:=hid hok.inj;have Hc:=hid hc;have Ho:=hid ho;have hbl:=hok.bld.lt;have hol:F.ob0<w.heap.size:=by obtain⟨os,o1,-⟩:=hok.obj;exact o1.lt
 clear hok hc ho;obtain⟨v,hv⟩:∃ v,v=objV (some (m,x)):=⟨_,rfl⟩;have Hv:=hid hv;rw[← hv];clear hv;go_enter Tryz.func50,Tryz.ntmps50
 go_wp2_with fail
 go_loop [12] (fun j=>∃ i:Nat,i≤k0∧j = .int .i64 i) (fun j=>k0 - (intOf j).toNat)
 case atStart=>exact⟨0,Nat.zero_le _,rfl⟩
 case round=>
  obtain⟨i,hi,rfl⟩:=hrel;have hiN:i<F.N:=by omega
  have hiN':(i:Int)<(F.N:Int):=by omega
  have hc:=HR.out i hiN;obtain⟨m',x',T,cs,h1,h2⟩:=Hc.out i hiN;obtain⟨m0,x0,T0,cs0,g1,g2⟩:=Hc.out k0 hk;rw[Ho.out] at g1;cases g1;have hq:=eq_obj w m' m x' x h2 g2;have hg:=eqg_obj m' m x' x 68 (.tmp 17) (.tmp 18) w;rw[h1] at hc;rw[← Hv.out] at hq hg;obtain⟨u,hu⟩:∃ u,u=objV (some (m',x')):=⟨_,rfl⟩;rw[← hu] at hc hq hg;by_cases he:i=k0
  ·subst he;rw[Ho.out] at h1;cases h1;simp only[BEq.rfl,Bool.and_self] at hq;clear h2 g2 hu
   go_wp2_with fail
   go_ret
   exact⟨rfl,rfl⟩
  ·have hxx:x'≠x:=fun e=>he (Hinj.out i k0 _ _ h1 Ho.out e);have hb:(m'==m&&x'==x)=false:=by simp[hxx]
   rw[hb] at hq;clear h2 g2 hu h1 hb
   go_wp2_with fail
   go_round
   case rel=>exact⟨i+1,by omega,by go_num⟩
   case measure=>simp[intOf];omega
