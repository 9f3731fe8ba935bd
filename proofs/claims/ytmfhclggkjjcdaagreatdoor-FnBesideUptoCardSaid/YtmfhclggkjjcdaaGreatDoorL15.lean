import Derived.Test.YtmfhclggkjjcdaaGreatDoorL14
import Derived.Test.YtmfhclggkjjcdaaGreatDoorL08
set_option linter.all false
set_option maxHeartbeats 4000000
namespace Go.Proofs.YtmfhclggkjjcdaaGreatDoor
open Go Go.RowKit Go.Shelf Go.Proofs.Tryz
set_option maxRecDepth 100000
theorem qoj (b ts:Nat) (w:World) (h6:w.cell? ⟨b,6,none⟩=some (.pointer (some ⟨ts,0,none⟩))):Calls prog 105 #[.pointer none,.int .i64 0,.pointer (some ⟨b,0,none⟩)] w fun e w'=>e = .returned (.pointer (some ⟨ts,0,none⟩))∧w'=w:=by
 go_enter func105,ntmps105
 go_wp2_with fail
 go_ret
 exact⟨rfl,rfl⟩
theorem Tryz.zTP:(prog.info? 294).map (·.zero)=some (some (.pointer none)):=by kernel_rfl
theorem qkz (v u:Value) (w:World) (h:qf7 w v u):Calls prog 137 #[v] w fun e w'=>e = .returned (.bool false)∧w'=w:=by
 have hp:∃ (T:TypeId) (x:Addr),qbs w v (.iface T (.pointer (some x)))∧T≠294:=by
  have h1:∀ v,qg3 w v u→∃ (T:TypeId) (x:Addr),v = .iface T (.pointer (some x))∧T≠103∧T≠294:=fun v h=>by
   rcases h with ⟨⟨T,x,rfl,hT⟩,-⟩|⟨b,a0,a1,a2,a8,a9,R,U,rx,ux,rfl,-,-⟩
   ·exact⟨T,x,rfl,by rcases hT with rfl|rfl|rfl|rfl|rfl <;> decide,by rcases hT with rfl|rfl|rfl|rfl|rfl <;> decide⟩
   ·exact⟨_,_,rfl,by decide,by decide⟩
  rcases h with h|⟨al,v',a0,a1,a2,rfl,hb,h⟩
  ·obtain⟨T,x,rfl,q1,q2⟩:=h1 v h;exact⟨T,x,⟨⟨T,x,rfl,q1⟩,.inl rfl⟩,q2⟩
  ·obtain⟨T,x,rfl,q1,q2⟩:=h1 v' h;exact⟨T,x,⟨⟨T,x,rfl,q1⟩,.inr ⟨al,rfl,by rw[hb.cell];rfl⟩⟩,q2⟩
 obtain⟨T,x,hp,hT⟩:=hp;have hta:=fun v w=>qaw (T:=T) underlying294 Tryz.zTP hT v w;have Hp:=hid hp;clear h hp;go_enter func137,ntmps137
 go_wp2_with (go_at_call 86;refine(qan _ _ _ Hp.out).mono ?_;rintro e w1 ⟨rfl,hw1⟩;subst w1)
 go_ret
 exact⟨rfl,rfl⟩
theorem qrm (w:World) (b:Nat) (ra:Option Addr) (n rc:Nat) (ea:Option Addr) (m ec:Nat) (hb:Blk w b 175 (qcd ra n rc ea m ec none)) (W1:World)
  (hW:W1=(((((((((w.setCell ⟨b,6,none⟩ (.pointer (some ⟨w.heap.size+1+1,0,none⟩))).alloc (.cells #[.bool false,.nilIface] 275)).alloc (.cells #[.pointer (some ⟨w.heap.size,0,none⟩)] 273)).alloc (.cells #[.bool false,.slice none 0 0,.slice (some ⟨w.heap.size+1,0,none⟩) 1 1,.bool false] 248)).alloc (.map #[] 0)).alloc
   (.cells #[.map none] 193)).alloc (.cells #[.slice none 0 0] 129)).alloc (.map #[] 0)).alloc (.cells #[.map (some (w.heap.size+1+1+1+1+1+1))] 268))):
  Blk W1 b 175 (qcd ra n rc ea m ec (some (w.heap.size+1+1)))∧Blk W1 (w.heap.size+1+1) 248 [.bool false,.slice none 0 0,.slice (some ⟨w.heap.size+1,0,none⟩) 1 1,.bool false]∧AllV W1 (.slice (some ⟨w.heap.size+1,0,none⟩) 1 1)∧
   Acc W1 (w.heap.size+1+1+1+1) (w.heap.size+1+1+1+1) (w.heap.size+1+1+1+1+1) (w.heap.size+1+1+1+1+1+1+1) [] none none 0 (w.heap.size+1+1+1+1+1+1)∧qah (fun k=>k=b) w W1∧RdLe (rdT w) (rdT W1)∧w.heap.size+8≤W1.heap.size:=by
 subst hW;have h0:=hb.set 6 (.pointer (some ⟨w.heap.size+1+1,0,none⟩));have hz:(w.setCell ⟨b,6,none⟩ (.pointer (some ⟨w.heap.size+1+1,0,none⟩))).heap.size=w.heap.size:=by simp[World.setCell]
 have hK:∀ {k:Nat} {T:TypeId} {cs:List Value} {u:World} {O:Obj},Blk u k T cs→Blk (u.alloc O) k T cs:=fun h=>h.alloc _;refine⟨hK (hK (hK (hK (hK (hK (hK (hK h0))))))),hK (hK (hK (hK (hK (qbb (by simp[World.setCell]) _ _))))),⟨_,_,w.heap.size,[],rfl,zl _,hK (hK (hK (hK (hK (hK (qbb (by simp[World.setCell]) _ _)))))),hK (hK (hK (hK (hK (hK (hK (qbb (by simp[World.setCell]) _ _)))))))⟩,⟨hK (hK (hK (qbb (by simp[World.setCell]) _ _))),.inl ⟨rfl,rfl⟩,hK (hK (qbb (by simp[World.setCell]) _ _)),zdb _ _ _ _,fun g h=>(by cases h),qbb (by simp[World.setCell]) _ _,?_,⟨by omega,by omega,by omega,by omega⟩⟩,?_,?_,?_⟩
 ·refine PMap.apart (S:=fun _=>False) (w:=((((((((w.setCell ⟨b,6,none⟩ (.pointer (some ⟨w.heap.size+1+1,0,none⟩))).alloc (.cells #[.bool false,.nilIface] 275)).alloc (.cells #[.pointer (some ⟨w.heap.size,0,none⟩)] 273)).alloc (.cells #[.bool false,.slice none 0 0,.slice (some ⟨w.heap.size+1,0,none⟩) 1 1,.bool false] 248)).alloc (.map #[] 0)).alloc
   (.cells #[.map none] 193)).alloc (.cells #[.slice none 0 0] 129)).alloc (.map #[] 0))) ?_ (qag.keep ((zp _ _).alloc (zl _) _)) (fun h=>h)
  have:=PMap.new (((((((w.setCell ⟨b,6,none⟩ (.pointer (some ⟨w.heap.size+1+1,0,none⟩))).alloc (.cells #[.bool false,.nilIface] 275)).alloc (.cells #[.pointer (some ⟨w.heap.size,0,none⟩)] 273)).alloc (.cells #[.bool false,.slice none 0 0,.slice (some ⟨w.heap.size+1,0,none⟩) 1 1,.bool false] 248)).alloc (.map #[] 0)).alloc
   (.cells #[.map none] 193)).alloc (.cells #[.slice none 0 0] 129)) 0
  simpa[World.setCell] using this
 ·refine(qah.setCell (fun k=>k=b) w (a:=⟨b,6,none⟩) rfl (.pointer (some ⟨w.heap.size+1+1,0,none⟩))).trans (qah.keep ?_)
  iterate 8 refine Below.alloc ?_ (by simp <;> omega) _
  exact zp _ _
 ·refine(qvc hb (.pointer (some ⟨w.heap.size+1+1,0,none⟩))).trans (qa0 ?_)
  iterate 8 refine Below.alloc ?_ (by simp <;> omega) _
  exact zp _ _
 ·simp[World.setCell]
def qmm (F:Fix) (st:St) (μ:Spot→Nat) (G:Nat→Prop) (w0 w:World) (b:Nat) (s:Spot):Ending→World→Prop:=fun e w'=>∃ x:Nat×List Mn×(Nat→Prop),e = .returned (.pointer (some ⟨x.1,0,none⟩))∧Hid (qlp F st x.2.2 w' b s x.1 x.2.1∧CExt F st μ (μ s+1) w w'∧CI F st μ w0 w'∧IfS F st μ x.2.2 w' (μ s+1)∧(∀ g,G g→x.2.2 g)∧(∀ g,x.2.2 g→G g∨w.heap.size≤g)∧∀ g,x.2.2 g→g<w'.heap.size)
theorem qts {F:Fix} {st:St} {μ:Spot→Nat} {G:Nat→Prop} {w0 w W1:World} {b:Nat} {s:Spot} {ra:Option Addr} {rc:Nat} {ea:Option Addr} {ec:Nat} (hm:(b,s)∈st.ifs) (hC:CI F st μ w0 w) (hS:IfS F st μ G w (μ s+1)) (hG:∀ g,G g→g<w.heap.size) (hb:Blk w b 175 (qcd ra s.of.methods.length rc ea s.of.embeds.length ec none))
  (h:Blk W1 b 175 (qcd ra s.of.methods.length rc ea s.of.embeds.length ec (some (w.heap.size+1+1)))∧Blk W1 (w.heap.size+1+1) 248 [.bool false,.slice none 0 0,.slice (some ⟨w.heap.size+1,0,none⟩) 1 1,.bool false]∧AllV W1 (.slice (some ⟨w.heap.size+1,0,none⟩) 1 1)∧
   Acc W1 (w.heap.size+1+1+1+1) (w.heap.size+1+1+1+1) (w.heap.size+1+1+1+1+1) (w.heap.size+1+1+1+1+1+1+1) [] none none 0 (w.heap.size+1+1+1+1+1+1)∧qah (fun k=>k=b) w W1∧RdLe (rdT w) (rdT W1)∧w.heap.size+8≤W1.heap.size):Mid F st μ w0 w b s ra rc ea ec G W1 []:=by
 obtain⟨h1,h2,h3,h4,h5,h6,h7⟩:=h;have hce:CExt F st μ (μ s+1) w W1:=⟨h5.mono fun k _ h=>⟨s,h ▸ hm,zw _⟩,h6,fun b' s' ts hm' hc=>by
  by_cases e:b'=b
  ·subst e;rw[(qbr hb).2.2.1] at hc;cases hc
  ·exact(zlb (h5.apart.block b' (zj w _ hc) e)).trans hc⟩
 refine⟨hm,hC,hC.ext hce fun b' s' h' => ?_,hce,h7,hb.lt,h1,h2,h3,fun m h=>(by cases h),List.Pairwise.nil,fun b' s' hm' hμ hne => ?_,fun g hg=>Nat.lt_of_lt_of_le (hG g hg) h5.apart.size,fun hg=>by have:=hG _ hg;omega,none,none,0,h4,fun g hg=>by cases hg⟩
 ·by_cases e:b'=b
  ·exact⟨_,e ▸ h1⟩
  ·obtain⟨cs,hc⟩:=hC.ifT b' s' h';exact⟨cs,hc.apart h5.apart e⟩
 ·obtain⟨ra',rc',ea',ec',tso,q1,q2⟩:=hS b' s' hm' (by omega);refine⟨ra',rc',ea',ec',tso,q1.apart h5.apart hne,?_⟩;rcases q2 with q2|⟨ts,l,q2,q3⟩
  ·exact .inl q2
  ·exact .inr ⟨ts,l,q2,q3.ext hC hce fun _ h=>h⟩
theorem qu3 (F:Fix) (st:St) (μ:Spot→Nat) (w0 w:World) (b:Nat) (s:Spot) (hm:(b,s)∈st.ifs) (hC:CI F st μ w0 w) (G:Nat→Prop) (hG:∀ g,G g→g<w.heap.size) (hS:IfS F st μ G w (μ s+1)) (ra:Option Addr) (rc:Nat) (ea:Option Addr) (ec:Nat) (hb:Blk w b 175 (qcd ra s.of.methods.length rc ea s.of.embeds.length ec none))
  (ih:∀ b' s' w G,(b',s')∈st.ifs→μ s'<μ s→CI F st μ w0 w→(∀ g,G g→g<w.heap.size)→IfS F st μ G w (μ s'+1)→Calls prog 105 #[.pointer none,.int .i64 0,.pointer (some ⟨b',0,none⟩)] w (qmm F st μ G w0 w b' s')):
  Calls prog 105 #[.pointer none,.int .i64 0,.pointer (some ⟨b,0,none⟩)] w (qmm F st μ G w0 w b s):=by
 obtain⟨-,-,c6,c5,c3,c0⟩:=qbr hb;have c1:w.cell? ⟨b,1,none⟩=some (.slice ra s.of.methods.length rc):=by rw[hb.cell];rfl
 have c2:w.cell? ⟨b,2,none⟩=some (.slice ea s.of.embeds.length ec):=by rw[hb.cell];rfl
 simp only[Option.map_none] at c6;have f6:=hb.soft 6;have hl:=hb.lt;have hl1:b<w.heap.size+1:=by omega
 have hl2:b<w.heap.size+1+1:=by omega
 have hl3:b<w.heap.size+1+1+1:=by omega
 have hl4:b<w.heap.size+1+1+1+1:=by omega
 have hl5:b<w.heap.size+1+1+1+1+1:=by omega
 have hl6:b<w.heap.size+1+1+1+1+1+1:=by omega
 have hl7:b<w.heap.size+1+1+1+1+1+1+1:=by omega
 have hl8:b<w.heap.size+1+1+1+1+1+1+1+1:=by omega
 have hl9:b<w.heap.size+1+1+1+1+1+1+1+1+1:=by omega
 have HB:=hid hb;have HC:=hid hC;have HS:=hid hS;have HI:=hid ih;have Hm:=hid hm;have HG:=hid hG;clear hb hC hS ih hm hG;have hmm:=@run_makeMap prog;go_enter func105,ntmps105
 go_wp2_with (go_at_call 119;refine(qed _).mono ?_;rintro e w1 ⟨rfl,hw1⟩;subst w1)
 obtain⟨W1,hW1⟩:∃ W1,W1=(((((((((w.setCell ⟨b,6,none⟩ (.pointer (some ⟨w.heap.size+1+1,0,none⟩))).alloc (.cells #[.bool false,.nilIface] 275)).alloc (.cells #[.pointer (some ⟨w.heap.size,0,none⟩)] 273)).alloc (.cells #[.bool false,.slice none 0 0,.slice (some ⟨w.heap.size+1,0,none⟩) 1 1,.bool false] 248)).alloc (.map #[] 0)).alloc
   (.cells #[.map none] 193)).alloc (.cells #[.slice none 0 0] 129)).alloc (.map #[] 0)).alloc (.cells #[.map (some (w.heap.size+1+1+1+1+1+1))] 268)):=⟨_,rfl⟩
 have HSt:=hid (qrm w b _ _ _ _ _ _ HB.out W1 hW1);rw[← hW1];clear hW1 c0 c1 c2 c3 c5 c6 f6;obtain⟨B,hBe⟩:∃ B,B=w.heap.size:=⟨_,rfl⟩;have HMid:Hid (Mid F st μ w0 w b s ra rc ea ec G W1 []):=hid (qts Hm.out HC.out HS.out HG.out HB.out HSt.out);have HMe:=hid (HC.out.meth b s Hm.out);have HSp:=hid (HC.out.sp b s Hm.out);have hra:Hid (∀ i k,(ordM s.pkg s.of.methods)[i]?=some k→∃ gb o x,ra=some ⟨gb,o,none⟩∧rdT w gb (o+i)=some (ptrV x)∧st.ob (s.at_+k)=some (true,x)∧qel (rdT w) x (F.pk s.pkg) (s.of.methods.getD k ⟨0,false⟩).name false):=hid (by
  obtain⟨a,c,h1,h2,h3⟩:=HMe.out;have h4:=(qbr HB.out).1;rw[h1] at h4;cases h4;exact h3)
 have hrc:s.of.methods.length≤rc:=by
  obtain⟨a,c,h1,h2,h3⟩:=HMe.out;have h4:=(qbr HB.out).1;rw[h1] at h4;cases h4;exact h2
 have hml:=HSp.out.2.2.2.1;have hel:=HSp.out.2.2.2.2;have c1:W1.cell? ⟨b,1,none⟩=some (.slice ra s.of.methods.length rc):=by rw[HSt.out.1.cell];rfl
 have lW1:=HSt.out.1.lt;clear HMe
 go_wp2_with fail
 clear c1
 go_loopw [57] (fun j wr=>∃ k:Nat,k≤s.of.methods.length∧j = .int .i64 k∧W1.heap.size≤wr.heap.size∧Hid (Mid F st μ w0 w b s ra rc ea ec G wr (((expl s).take k).foldl addN [])))
  (fun j _=>s.of.methods.length - (intOf j).toNat)
 case atStart=>exact⟨0,by omega,rfl,zl _,hid (by simpa using HMid.out)⟩
 clear HMid
 case round=>
  obtain⟨k,hk,rfl,hz,hst⟩:=hrel;by_cases hlt:k<s.of.methods.length
  ·have hlt':(k:Int)<(s.of.methods.length:Int):=by omega
   have hkl:k<(ordM s.pkg s.of.methods).length:=by rw[qj3];exact hlt
   obtain⟨gb,o,x,rfl,hq1,hq2,hq3⟩:=hra.out k _ (zr hkl);have hxk:k<(expl s).length:=by rw[qju];exact hlt
   have hmn:(expl s)[k]=⟨s.at_+(ordM s.pkg s.of.methods)[k],s.pkg,(s.of.methods.getD (ordM s.pkg s.of.methods)[k] ⟨0,false⟩).name⟩:=by simp[expl]
   have hbx:qbf st (expl s)[k].k=x:=by rw[hmn];exact qms hq2
   have HCall:=hid (hst.out.call (HC.out.expl Hm.out _ (z8 hxk)) true);rw[hbx] at HCall;have hgc:=qax (hst.out.ce.rd _ _ _ hq1);have hgl:=zj wr _ hgc;simp only at hgl;have hxl:x<w.heap.size:=by have:=(HC.out.expl Hm.out _ (z8 hxk)).cells.2.2.2;rw[hbx] at this;exact this
   have hx1:x<wr.heap.size:=by have:=hst.out.sz;omega
   have hx0:wr.cell? ⟨x,0,none⟩=some (.int .i64 0):=by
    have:=((HC.out.expl Hm.out _ (z8 hxk)).mono hst.out.ce.rd).cell0;rw[hbx] at this;exact this
   clear hq1 hq2 hq3 hst
   go_wp2_with (go_at_call 136;refine HCall.out.mono ?_;rintro e w2 ⟨rfl,hw2⟩;have Hw2:=hid hw2.out;have hw2s:=hw2.out.2.1;clear hw2)
   have hz2:=hw2s
   go_roundw
   case rel=>exact⟨k+1,by omega,by go_num,by omega,hid (by
    rw[← List.take_append_getElem hxk,List.foldl_append];exact Hw2.out.1)⟩
   case measure=>simp[intOf];omega
  ·have hlt':¬ ((k:Int)<(s.of.methods.length:Int)):=by omega
   have hke:k=s.of.methods.length:=by omega
   have HMd:Hid (Mid F st μ w0 w b s ra rc ea ec G wr ((expl s).foldl addN [])):=hid (by
    have:=hst.out
    rwa [hke,← qju,zeb] at this)
   have c2:wr.cell? ⟨b,2,none⟩=some (.slice ea s.of.embeds.length ec):=by rw[HMd.out.ib.cell];rfl
   have lwr:=HMd.out.ib.lt;have lwr1:b<wr.heap.size+1:=by omega
   have lwr2:b<wr.heap.size+1+1:=by omega
   clear hst hke hra HSt
   go_wp2_with (go_at_call 119;refine(qed _).mono ?_;rintro e w1 ⟨rfl,hw1⟩;subst w1)
   obtain⟨wm,rfl⟩:∃ wm:World,wm=wr:=⟨_,rfl⟩;obtain⟨W2,hW2⟩:∃ W2,W2=(wm.alloc (.cells #[.bool false,.nilIface] 275)).alloc (.cells #[.pointer (some ⟨wm.heap.size,0,none⟩)] 273):=⟨_,rfl⟩;have HM2:Hid (Mid F st μ w0 w b s ra rc ea ec G W2 ((expl s).foldl addN [])):=hid (HMd.out.keep (by rw[hW2];exact((zp _ _).alloc (zl _) _).alloc (by simp) _));have HV2:Hid (AllV W2 (.slice (some ⟨wm.heap.size+1,0,none⟩) 1 1)):=hid (by rw[hW2];exact⟨_,_,wm.heap.size,[],rfl,zl _,(qbb (by simp) _ _),(Blk.alloc (qbb rfl _ _) _)⟩);rw[← hW2];clear hW2 c2
   go_loopw [14,15,76] (fun tv bv j wr=>∃ k:Nat,k≤s.of.embeds.length∧j = .int .i64 k∧bv = .bool false∧W2.heap.size≤wr.heap.size∧Hid (∃ (ls:List (List Mn)) (G':Nat→Prop),Mid F st μ w0 w b s ra rc ea ec G' wr (ls.foldl (fun es l=>l.foldl addN es) ((expl s).foldl addN []))∧ls.length=k∧(∀ i (hi:i<ls.length),MS F.W (under F.W (qav s i)) ls[i])∧AllV wr tv∧(∀ g,G g→G' g)∧∀ g,G' g→G g∨w.heap.size≤g))
    (fun _ _ j _=>s.of.embeds.length - (intOf j).toNat)
   case atStart=>exact⟨0,by omega,rfl,rfl,zl _,hid ⟨[],G,HM2.out,rfl,fun i hi=>absurd hi (Nat.not_lt_zero _),HV2.out,fun _ h=>h,fun _ h => .inl h⟩⟩
   clear HM2 HV2 HMd
   case round=>
    obtain⟨k2,hk2,rfl,rfl,hz2,hst⟩:=hrel;obtain⟨ls,G',hmid,hls,hMS,hav,hGG,hG'⟩:=hst.out;have HMid:=hid hmid;have HMS:=hid hMS;have HAv:=hid hav;have HGG:=hid hGG;have HG':=hid hG';have lwr3:=hmid.ib.lt;have c3:wr.cell? ⟨b,3,none⟩=some (.pointer none):=by rw[hmid.ib.cell];rfl
    clear hst hmid hMS hav hGG hG';by_cases hlt2:k2<s.of.embeds.length
    ·have hlt2':(k2:Int)<(s.of.embeds.length:Int):=by omega
     obtain⟨gb,o,v,b',rfl,hq1,hq2,hq3⟩:∃ gb o v b',ea=some ⟨gb,o,none⟩∧rdT wr gb (o+k2)=some v∧qf7 wr v (.iface 112 (ptrV b'))∧(b',under F.W (qav s k2))∈st.ifs:=by
      obtain⟨ea',ec',e1,e2,e3⟩:=HMid.out.ci.emb b s Hm.out;have:=(qbr HMid.out.ib).2.1;rw[e1] at this;cases this;exact e3 k2 hlt2
     obtain⟨T,xv,fn,rfl,hme,hen,hca⟩:=qf9 _ _ _ hq2;have HCa:=hid hca;have HU:=hid hq2;have hgc:=qax hq1;have hgl:=qft hq1;have hmu:μ (under F.W (qav s k2))<μ s:=HC.out.mu b s k2 Hm.out hlt2;have HRec:Hid (Calls prog 105 #[.pointer none,.int .i64 0,.pointer (some ⟨b',0,none⟩)] wr (qmm F st μ G' w0 wr b' (under F.W (qav s k2)))):=hid (HI.out b' _ wr G' hq3 hmu HMid.out.ci HMid.out.Glt fun b2 s2 hm2 hμ2=>HMid.out.ifs b2 s2 hm2 (by omega) fun e=>by
      subst e;rw[HC.out.inj _ _ _ hm2 Hm.out] at hμ2;omega)
     have hta:=fun v w=>qb5 underlying112 v w;clear hq1 hq2 hca
     go_wp2_with (first
      | (go_at_fn fn;refine HCa.out.mono ?_;rintro e w2 ⟨rfl,hw2⟩;subst w2)
      | (go_at_call 137;refine(qkz _ _ _ HU.out).mono ?_;rintro e w2 ⟨rfl,hw2⟩;subst w2)
      | (go_at_call 75;refine(qd8 _).mono ?_;rintro e w2 ⟨rfl,hw2⟩;subst w2)
      | (go_at_call 105;refine HRec.out.mono ?_;rintro e w2 ⟨x,rfl,hx⟩;have HMid2:=hid (HMid.out.turn (k:=μ (under F.W (qav s k2))+1) hmu hx.out.2.1 hx.out.2.2.1 hx.out.2.2.2.1 hx.out.2.2.2.2.1 hx.out.2.2.2.2.2.1 hx.out.2.2.2.2.2.2);have HAv2:=hid (HAv.out.apart hx.out.2.1.turns.apart fun b T cs hb hT=>HMid.out.ci.notIf hb (by rcases hT with rfl|rfl <;> decide));obtain⟨a2,cc2,tv2,z1,z2,z3,z4,z5⟩:=hx.out.1.get;have y3:w2.cell? ⟨x.1,3,none⟩=some (.bool false):=(by rw[z1.cell];rfl);have y1:w2.cell? ⟨x.1,1,none⟩=some (.slice a2 x.2.1.length cc2):=(by rw[z1.cell];rfl);have lx:=z1.lt;have hsz2:=hx.out.2.1.turns.apart.size;have Hz1:=hid z1;have Hz2:=hid z2;have Hz3:=hid z3;have Hz4:=hid z4;have Hz5:=hid z5;have HG1:=hid hx.out.2.2.2.2.1;have HG2:=hid hx.out.2.2.2.2.2.1;clear hx z1 z2 z3 z4 z5))
     have HOk:Hid (∀ m∈x.2.1,MnOk F st (rdT w) m):=hid (HC.out.msOk Hz5.out b' hq3);have hl32:x.2.1.length≤32:=qjf Hz5.out.dis fun m hm=>(HOk.out m hm).1;obtain⟨wq,rfl⟩:∃ wq:World,wq=wr:=⟨_,rfl⟩;clear y3 y1 hgc hgl hme hen HCa HU HRec c3
     go_loopw [124] (fun j wr=>∃ k:Nat,k≤x.2.1.length∧j = .int .i64 k∧w2.heap.size≤wr.heap.size∧Hid (Mid F st μ w0 w b s ra rc (some ⟨gb,o,none⟩) ec x.2.2 wr ((x.2.1.take k).foldl addN (ls.foldl (fun es l=>l.foldl addN es) ((expl s).foldl addN [])))∧AllV wr u14∧AllV wr tv2∧Blk wr x.1 248 [.bool false,.slice a2 x.2.1.length cc2,tv2,.bool false]∧wr.ownsRow 0 106 1 (.slice a2 x.2.1.length cc2) x.2.1.length (qa7 (x.2.1.map fun m=>qbf st m.k))))
      (fun j _=>x.2.1.length - (intOf j).toNat)
     case atStart=>exact⟨0,by omega,rfl,zl _,hid ⟨HMid2.out,HAv2.out,Hz3.out,Hz1.out,Hz2.out⟩⟩
     clear HMid2 HAv2 Hz1 Hz2 Hz3
     case round=>
      obtain⟨k3,hk3,rfl,hz3,hst3⟩:=hrel;by_cases hlt3:k3<x.2.1.length
      ·have hlt3':(k3:Int)<(x.2.1.length:Int):=by omega
       have hrw:Hid (∃ g,a2=some ⟨g,0,none⟩∧wr.cell? ⟨g,k3,none⟩=some (ptrV (qbf st x.2.1[k3].k))):=hid (by
        have h1:=hst3.out.2.2.2.2;have h2:=qpl (fs:=x.2.1.map fun m=>qbf st m.k) (i:=k3) (by simpa using h1) (by simpa using hlt3);simpa using h2)
       obtain⟨g,rfl,hgc⟩:=hrw.out;have hgl:=zj wr _ hgc;simp only at hgl;have HCall:=hid (hst3.out.1.call (HOk.out _ (z8 hlt3)) false);have Hst3:=hid hst3.out;have hx0:wr.cell? ⟨qbf st x.2.1[k3].k,0,none⟩=some (.int .i64 0):=((HOk.out _ (z8 hlt3)).mono hst3.out.1.ce.rd).cell0;have hx1:qbf st x.2.1[k3].k<wr.heap.size:=((HOk.out _ (z8 hlt3)).mono hst3.out.1.ce.rd).cells.2.2.2
       generalize hgen:qbf st x.2.1[k3].k=xk at hgc hx0 hx1 HCall
       clear hst3 hrw hgen
       go_wp2_with (go_at_call 136;refine HCall.out.mono ?_;rintro e w3 ⟨rfl,hw3⟩;have Hw3:=hid hw3.out;have hw3s:=hw3.out.2.1;clear hw3)
       go_roundw
       case rel=>exact⟨k3+1,by omega,by go_num,by omega,hid ⟨by
        rw[← List.take_append_getElem hlt3,List.foldl_append];exact Hw3.out.1,Hw3.out.2.2.1 _ Hst3.out.2.1,Hw3.out.2.2.1 _ Hst3.out.2.2.1,Hw3.out.2.2.2.1 _ _ Hst3.out.2.2.2.1,Hw3.out.2.2.2.2 _ _ _ _ Hst3.out.2.2.2.2 fun g' e=>Hz4.out g' e⟩⟩
       case measure=>simp[intOf];omega
      ·have hlt3':¬ ((k3:Int)<(x.2.1.length:Int)):=by omega
       have hke:k3=x.2.1.length:=by omega
       have HM3:Hid (Mid F st μ w0 w b s ra rc (some ⟨gb,o,none⟩) ec x.2.2 wr (x.2.1.foldl addN (ls.foldl (fun es l=>l.foldl addN es) ((expl s).foldl addN [])))):=hid (by
        have:=hst3.out.1
        rwa [hke,zeb] at this)
       have HI3:=hid (qrt u14 tv2 wr hst3.out.2.1 hst3.out.2.2.1);have y2:wr.cell? ⟨x.1,2,none⟩=some tv2:=by rw[hst3.out.2.2.2.1.cell];rfl
       have lx3:=hst3.out.2.2.2.1.lt;clear hst3 hke
       go_wp2_with (go_at_call 140;refine HI3.out.mono ?_;rintro e w3 ⟨v3,rfl,hv3,hb3⟩;have Hv3:=hid hv3;have Hb3:=hid hb3;have hb3s:=hb3.size;clear hv3 hb3)
       go_roundw
       case rel=>exact⟨k2+1,by omega,by go_num,rfl,by omega,hid ⟨ls++[x.2.1],x.2.2,by
         rw[List.foldl_append];exact HM3.out.keep Hb3.out,by simp[hls],fun i hi=>by
         by_cases h:i<ls.length
         ·rw[List.getElem_append_left h];exact HMS.out i h
         ·have:i=k2:=by simp at hi;omega
          subst this;rw[List.getElem_append_right (by omega)];simpa using Hz5.out,Hv3.out,fun g hg=>HG1.out g (HGG.out g hg),fun g hg=>by
         rcases HG2.out g hg with h|h
         ·exact HG'.out g h
         ·have:=HMid.out.sz;exact .inr (by omega)⟩⟩
       case measure=>simp[intOf];omega
    ·have hlt2':¬ ((k2:Int)<(s.of.embeds.length:Int)):=by omega
     have hke:ls.length=s.of.embeds.length:=by omega
     obtain⟨es,hes⟩:∃ es,es=ls.foldl (fun es l=>l.foldl addN es) ((expl s).foldl addN []):=⟨_,rfl⟩;rw[← hes] at HMid;have HMSet:Hid (MS F.W s (qff es)):=hid (by rw[hes];exact .mk s ls hke HMS.out);have HEs:Hid (DisN es):=hid HMid.out.dis;have c6:wr.cell? ⟨b,6,none⟩=some (.pointer (some ⟨w.heap.size+1+1,0,none⟩)):=by rw[HMid.out.ib.cell];rfl
     have t3:wr.cell? ⟨w.heap.size+1+1,3,none⟩=some (.bool false):=by rw[HMid.out.tb.cell];rfl
     have t2:wr.cell? ⟨w.heap.size+1+1,2,none⟩=some (.slice (some ⟨w.heap.size+1,0,none⟩) 1 1):=by rw[HMid.out.tb.cell];rfl
     have ltt:=HMid.out.tb.lt;have hbt:b≠w.heap.size+1+1:=by omega
     have f3:=HMid.out.tb.soft 3;have f1:=HMid.out.tb.soft 1;have f2:=HMid.out.tb.soft 2;obtain⟨m9,a9,c9,HA9⟩:∃ m a c,Hid (Acc wr (w.heap.size+1+1+1+1) (w.heap.size+1+1+1+1) (w.heap.size+1+1+1+1+1) (w.heap.size+1+1+1+1+1+1+1) (es.map (Mn.ent (qbf st))) m a c (w.heap.size+1+1+1+1+1+1)∧∀ g,(Value.slice a (es.map (Mn.ent (qbf st))).length c).ownBlock=some g→¬ G' g):=by
      obtain⟨m,a,c,h⟩:=HMid.out.acc;exact⟨m,a,c,hid h⟩
     have cab:wr.cell? ⟨w.heap.size+1+1+1+1+1,0,none⟩=some (.slice a9 es.length c9):=by rw[HA9.out.1.abB.cell];simp
     have lab:=HA9.out.1.abB.lt;clear hes hke HMS;have HSrt:=hid (HMid.out.sort HA9.out.1 rfl);obtain⟨tl,ctl,hte⟩:∃ tl ctl,u14 = .slice (some ⟨tl,0,none⟩) 1 ctl:=by
      obtain⟨tl,c,te,cs,e,-⟩:=HAv.out;exact⟨tl,c,e⟩
     subst hte
     go_wp2_with (go_at_call 93;refine HSrt.out.mono ?_;rintro e w3 ⟨rfl,hq⟩;have Hq:=hid hq.out;have cb6:w3.cell? ⟨b,6,none⟩=some (.pointer (some ⟨w.heap.size+1+1,0,none⟩)):=(by rw[hq.out.2.2.1.cell];rfl);have cb9:w3.cell? ⟨w.heap.size+1+1+1+1+1,0,none⟩=some (.slice a9 es.length c9):=(by rw[hq.out.2.2.2.2.cell];rfl);have l39:=hq.out.2.2.2.2.lt;have l3b:=hq.out.2.2.1.lt;have l3t:=hq.out.2.2.2.1.lt;clear hq)
     ·refine Mix.wp_region [0,1,2,3,4,5,6] [] [7] (fun _=>default) (by kernel_rfl) (by kernel_rfl) (by decide) ?_
      iterate 7 (first|(refine pre_yes rfl rfl ?_;apply Exists.intro;refine⟨fun W1 hW1 => ?_,?_⟩;(focus (have hc1:=(qal hW1).1;(try simp only[zd,qaa] at hc1);have hk1:=qac.below hW1;go_simp;first|exact rfl|fail));simp only[Act.put,zk,zh,zi,ze,zm,zn])|(refine pre_no rfl rfl ?_;simp only[Act.put,zk,zh,zi,ze,zm,zn]))
      refine pre_end fl_nil (fun W3 hW3=>mid_nil (qco rfl ?_));have hz9:=zq hW3;(try simp only[zd,qaa] at hz9);have hB3:Below w3.heap.size w3 W3:=⟨hW3.os,hW3.tape,hW3.output,hW3.size,hW3.block⟩;have tb3:=Hq.out.2.2.2.1.keep hB3;have ib3:=Hq.out.2.2.1.keep hB3;have d6:W3.cell? ⟨b,6,none⟩=some (.pointer (some ⟨w.heap.size+1+1,0,none⟩)):=by rw[ib3.cell];rfl
      have d1:W3.cell? ⟨w.heap.size+1+1,1,none⟩=some (.slice none 0 0):=by rw[tb3.cell];rfl
      have d2:W3.cell? ⟨w.heap.size+1+1,2,none⟩=some (.slice (some ⟨w.heap.size+1,0,none⟩) 1 1):=by rw[tb3.cell];rfl
      have g1:=tb3.soft 1;have g2:=tb3.soft 2;have l4t:=tb3.lt;have l4b:=ib3.lt;have HB3:=hid hB3;have Htb3:=hid tb3;clear hW3 hB3 tb3 ib3 cb6 cb9
      go_wp2_with fail
      go_ret
      have hrB:∀ g,(Value.slice a9 es.length c9).ownBlock=some g→w.heap.size+1+1+1+1≤g:=by simpa using HA9.out.1.row
      have hTu:qah (fun g=>g=w.heap.size+1+1∨(Value.slice a9 es.length c9).ownBlock=some g) wr ((W3.setCell ⟨w.heap.size+1+1,1,none⟩ (.slice a9 es.length c9)).setCell ⟨w.heap.size+1+1,2,none⟩ (.slice (some ⟨tl,0,none⟩) 1 ctl)):=
       (((((qah.setCell (fun g=>g=w.heap.size+1+1∨(Value.slice a9 es.length c9).ownBlock=some g) wr (a:=⟨w.heap.size+1+1,3,none⟩) (.inl rfl) (.bool false)).trans (Hq.out.1.mono fun _ _ h => .inr h)).trans (qah.keep HB3.out)).trans (qah.setCell _ _ (a:=⟨w.heap.size+1+1,1,none⟩) (.inl rfl) _)).trans (qah.setCell _ _ (a:=⟨w.heap.size+1+1,2,none⟩) (.inl rfl) _))
      have hown:=qab (qab (qab Hq.out.2.1 (qag.keep (S:=fun _=>False) HB3.out) (fun _ _ h=>h)) (qag.setCell (fun g=>g=w.heap.size+1+1) W3 (a:=⟨w.heap.size+1+1,1,none⟩) rfl (.slice a9 es.length c9)) (fun g hg e=>by have:=hrB g hg;omega)) (qag.setCell (fun g=>g=w.heap.size+1+1) _ (a:=⟨w.heap.size+1+1,2,none⟩) rfl (.slice (some ⟨tl,0,none⟩) 1 ctl)) (fun g hg e=>by have:=hrB g hg;omega);have hown0:wr.ownsRow 0 106 1 (.slice a9 es.length c9) es.length (qa7 ((es.map (Mn.ent (qbf st))).map Ent.f)):=by simpa using HA9.out.1.own
      have hrow:∀ g,(Value.slice a9 es.length c9).ownBlock=some g→¬ G' g:=by simpa using HA9.out.2
      obtain⟨G'',q⟩:=HMid.out.done hrB hown0 hrow HAv.out HMSet.out hTu ((Htb3.out.set 1 (.slice a9 es.length c9)).set 2 (.slice (some ⟨tl,0,none⟩) 1 ctl)) hown;unfold qmm;exact⟨⟨w.heap.size+1+1,qff es,G''⟩,rfl,hid ⟨q.1,q.2.1,q.2.2.1,q.2.2.2.1,fun g h=>q.2.2.2.2.1 g (HGG.out g h),fun g h=>(q.2.2.2.2.2.1 g h).elim (HG'.out g) .inr,q.2.2.2.2.2.2⟩⟩
     ·rename_i hemp;have he:es=[]:=List.eq_nil_of_length_eq_zero (by
       have:((es.length:Int) != 0)=false:=by assumption
       simpa using this)
      go_ret
      clear HSrt HA9 cab;subst he;have hTu:qah (fun g=>g=w.heap.size+1+1∨(Value.slice none ([]:List Mn).length 0).ownBlock=some g) wr ((wr.setCell ⟨w.heap.size+1+1,3,none⟩ (.bool false)).setCell ⟨w.heap.size+1+1,2,none⟩ (.slice (some ⟨tl,0,none⟩) 1 ctl)):=
       (qah.setCell (fun g=>g=w.heap.size+1+1∨(Value.slice none ([]:List Mn).length 0).ownBlock=some g) wr (a:=⟨w.heap.size+1+1,3,none⟩) (.inl rfl) (.bool false)).trans (qah.setCell _ _ (a:=⟨w.heap.size+1+1,2,none⟩) (.inl rfl) _)
      obtain⟨G'',q⟩:=HMid.out.done (a:=none) (c:=0) (xs:=[]) (fun g hg=>by cases hg) (zdb _ _ _ _) (fun g hg=>by cases hg) HAv.out HMSet.out hTu ((HMid.out.tb.set 3 (.bool false)).set 2 (.slice (some ⟨tl,0,none⟩) 1 ctl)) (by
       have:qff []=[]:=by simp[qff,ordN]
       rw[this];exact zdb _ _ _ _)
      unfold qmm;exact⟨⟨w.heap.size+1+1,qff [],G''⟩,rfl,hid ⟨q.1,q.2.1,q.2.2.1,q.2.2.2.1,fun g h=>q.2.2.2.2.1 g (HGG.out g h),fun g h=>(q.2.2.2.2.2.1 g h).elim (HG'.out g) .inr,q.2.2.2.2.2.2⟩⟩
