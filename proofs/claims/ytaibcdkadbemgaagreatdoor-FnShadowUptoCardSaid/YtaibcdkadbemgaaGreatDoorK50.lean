import Derived.Test.YtaibcdkadbemgaaGreatDoorK41
import Derived.Test.YtaibcdkadbemgaaGreatDoorK47
import Derived.Test.YtaibcdkadbemgaaGreatDoorK43
import Derived.Test.YtaibcdkadbemgaaGreatDoorK28
import Derived.Test.YtaibcdkadbemgaaGreatDoorK04
import Derived.RegionTactic
import Derived.Test.YtaibcdkadbemgaaGreatDoorRows
import Derived.Test.YtaibcdkadbemgaaGreatDoorK05
import Derived.OpenShut
import Derived.ChangeArms
import Derived.Deep.Slices
import Derived.Carry
import Derived.Test.YtaibcdkadbemgaaGreatDoorK01
import Derived.RowKitTokens
import Derived.ProofKit
import Derived.Deep.DeepHandedRow
import Derived.LaidMore
import Derived.Lay
import Derived.Test.YtaibcdkadbemgaaGreatDoorCards
import Derived.Test.YtaibcdkadbemgaaGreatDoorTie
import Derived.Lib.LaidTab
import Derived.Lib.LaidU8
import Derived.Lib.LaidRTab
import Derived.SevenTiedAt
import Derived.Stop.Joined
set_option linter.all false
namespace Go.Proofs.YtaibcdkadbemgaaGreatDoor
open Go Go.RowKit
def EnT (W:Wd) (P:Nat→Nat) (e:En):Prop:=SpO W P e.to∧(e.to.of.kind=1→e.to.of.num.toNat<W.length∧(dc W e.to.of.num.toNat).alias=false)
theorem EnT.pl {W:Wd} {P:Nat→Nat} (hW:WdO W P) {s:Spot} (hs:SpO W P s) {e:En} (he:e.to=Go.Proofs.YtaibcdkadbemgaaGreatDoor.pl W s):EnT W P e:=by
 have h1:=(hs.toPl hW).1;obtain⟨q1,q2⟩:=qjj hW.by_ hs.numOk;refine⟨he ▸ h1,fun hk => ?_⟩;rw[he] at hk ⊢;unfold Go.Proofs.YtaibcdkadbemgaaGreatDoor.pl at hk ⊢;rw[qfn] at hk;rw[qmd];have:=q1 hk;exact⟨by omega,q2 hk⟩
structure NxT (W:Wd) (P:Nat→Nat) (cur:List En) (S:List Nat) (nx:List En) (S':List Nat) (lv:Nat):Prop where
 ok:NxOk W P cur S nx S' lv
 ty:∀ e∈nx,EnT W P e
theorem NxT.add {W:Wd} {P:Nat→Nat} (hW:WdO W P) {cur:List En} {S:List Nat} {nx:List En} {S':List Nat} {lv:Nat} (h:NxT W P cur S nx S' lv) {e:En} (he:e∈cur) (hs:EnT W P e) (hk:(qae W e.to).of.kind=4) {i:Nat} (hi:i<(qae W e.to).of.fields.length) (hem:((qae W e.to).of.fields.getD i fd0).embedded=true)
  (hn:e.to.of.kind=1→S.length<S'.length) (hl:e.ix.length≤lv):NxT W P cur S (nx++[subE W e (qae W e.to) i]) S' lv:=by
 refine⟨h.ok.add hW he hs.1 hk hi hem hn hl,fun x hx => ?_⟩;rcases zhb.1 hx with hx|hx
 ·exact h.ty x hx
 ·rw[zeb.1 hx];obtain⟨hf,-⟩:=(hs.1.toUnder hW).field hk hi;exact EnT.pl hW (drf_op hW hf).1 rfl
theorem flds_nx {W:Wd} {P:Nat→Nat} (hW:WdO W P) {q m:Int} {cur:List En} {S S':List Nat} {lv:Nat} {e:En} (he:e∈cur) (hs:EnT W P e) (hk:(qae W e.to).of.kind=4) (hn:e.to.of.kind=1→S.length<S'.length) (hl:e.ix.length≤lv):
  ∀ (n i:Nat) (h h':Option Hi) (nx nx':List En),n+i=(qae W e.to).of.fields.length→NxT W P cur S nx S' lv→flds W q m e (qae W e.to) n i (h,nx) = .ok (h',nx')→NxT W P cur S nx' S' lv
 | 0,i,h,h',nx,nx',_,hx,heq=>by rw[flds_end] at heq;cases heq;exact hx
 | n+1,i,h,h',nx,nx',hi,hx,heq=>by
  cases hsm:qbp (qae W e.to).pkg (fname W ((qae W e.to).of.fields.getD i fd0)) q m with
  | true=>
   rw[qv8 hsm] at heq;cases hg:qgu e h i (qe0 (qae W e.to) i) false false with
   | ok h2=>rw[hg] at heq;exact flds_nx hW he hs hk hn hl n (i+1) h2 h' nx nx' (by omega) hx heq
   | error x=>rw[hg] at heq;cases heq
  | false=>
   cases h with
   | some y=>rw[flds_no hsm (.inl rfl)] at heq;exact flds_nx hW he hs hk hn hl n (i+1) _ h' nx nx' (by omega) hx heq
   | none=>
    cases hem:((qae W e.to).of.fields.getD i fd0).embedded with
    | false=>rw[flds_no hsm (.inr hem)] at heq;exact flds_nx hW he hs hk hn hl n (i+1) _ h' nx nx' (by omega) hx heq
    | true=>rw[qwy hsm hem] at heq;exact flds_nx hW he hs hk hn hl n (i+1) _ h' _ nx' (by omega) (hx.add hW he hs hk (by omega) hem hn hl) heq
theorem typS_nx {W:Wd} {P:Nat→Nat} (hW:WdO W P) {q m:Int} {cur:List En} {S S':List Nat} {lv:Nat} {e:En} (he:e∈cur) (hs:EnT W P e) (hn:e.to.of.kind=1→S.length<S'.length) (hl:e.ix.length≤lv) {h h':Option Hi} {nx nx':List En} (hx:NxT W P cur S nx S' lv) (heq:typS W q m e (h,nx) = .ok (h',nx')):NxT W P cur S nx' S' lv:=by
 by_cases hk:(qae W e.to).of.kind=4
 ·rw[qu1 hk] at heq;exact flds_nx hW he hs hk hn hl _ 0 h h' nx nx' rfl hx heq
 ·by_cases h5:(qae W e.to).of.kind=5
  ·cases hi:qhz (qih (msL W (qae W e.to))) q m with
   | none=>rw[qsx hk (fun _=>hi)] at heq;cases heq;exact hx
   | some i=>
    rw[qvm h5 hi] at heq;cases hg:qgu e h i ((msL W (qae W e.to)).getD i mn0).k true false with
    | ok h2=>rw[hg] at heq;cases heq;exact hx
    | error x=>rw[hg] at heq;cases heq
  ·rw[qsx hk (fun h=>absurd h h5)] at heq;cases heq;exact hx
theorem NxT.seenN {W:Wd} {P:Nat→Nat} {cur:List En} {S:List Nat} {nx:List En} {S':List Nat} {lv:Nat} (h:NxT W P cur S nx S' lv) {e:En} (hs:EnT W P e) (hn:e.to.of.kind=1→e.to.of.num.toNat ∉ S'):NxT W P cur S nx (seenN e S') lv∧(e.to.of.kind=1→S.length<(seenN e S').length):=by
 unfold Go.Proofs.YtaibcdkadbemgaaGreatDoor.seenN;by_cases hk:e.to.of.kind=1
 ·rw[if_pos hk];obtain⟨h1,h2⟩:=h.ok.seen (hs.2 hk) (hn hk);exact⟨⟨h1,h.ty⟩,fun _=>h2⟩
 ·rw[if_neg hk];exact⟨h,fun e=>absurd e hk⟩
theorem ents_nx {W:Wd} {P:Nat→Nat} (hW:WdO W P) {q m:Int} {cur:List En} {S:List Nat} {lv:Nat}:∀ (l:List En),(∀ e∈l,e∈cur∧EnT W P e∧e.ix.length≤lv)→∀ (h h':Option Hi) (nx nx':List En) (S1 S':List Nat),NxT W P cur S nx S1 lv→ents W q m l (h,nx) S1 = .ok ((h',nx'),S')→NxT W P cur S nx' S' lv
 | [],_,h,h',nx,nx',S1,S',hx,heq=>by simp only[ents] at heq;cases heq;exact hx
 | e::r,hl,h,h',nx,nx',S1,S',hx,heq=>by
  obtain⟨he,hs,hle⟩:=hl e (zy ..);have hr:=fun x hx=>hl x (zx _ hx);by_cases hsk:e.to.of.kind=1∧e.to.of.num.toNat∈S1
  ·rw[qux hsk.1 hsk.2] at heq;exact ents_nx hW r hr h h' nx nx' S1 S' hx heq
  ·have hno:e.to.of.kind=1→e.to.of.num.toNat ∉ S1:=fun h1 h2=>hsk ⟨h1,h2⟩;obtain⟨hx2,hn2⟩:=hx.seenN hs hno;by_cases hd:∃ i,e.to.of.kind=1∧qey W e.to.of.num.toNat q m=some i
   ·obtain⟨i,hk,hi⟩:=hd;rw[qsq hk (hno hk) hi] at heq;have e1:Go.Proofs.YtaibcdkadbemgaaGreatDoor.seenN e S1=S1++[e.to.of.num.toNat]:=if_pos hk;rw[← e1] at heq;cases hg:qgu e h i (start W e.to.of.num.toNat+i) true ((dc W e.to.of.num.toNat).methods.getD i ⟨0,false⟩).ptr with
    | ok h2=>rw[hg] at heq;exact ents_nx hW r hr h2 h' nx nx' _ S' hx2 heq
    | error x=>rw[hg] at heq;cases heq
   ·rw[qws (fun hk=>⟨hno hk,by
     cases hi:qey W e.to.of.num.toNat q m with
     | none=>rfl
     | some i=>exact absurd ⟨i,hk,hi⟩ hd⟩)] at heq
    cases ht:typS W q m e (h,nx) with
    | error x=>rw[ht] at heq;cases heq
    | ok st=>
     obtain⟨h2,nx2⟩:=st;rw[ht] at heq;exact ents_nx hW r hr h2 h' nx2 nx' _ S' (typS_nx hW he hs hn2 hle hx2 ht) heq
theorem lvs_more {W:Wd} {P:Nat→Nat} (hW:WdO W P) {addr:Bool} {q m:Int} (n:Nat):∀ (lv:Nat) (cur:List En) (S:List Nat),(∀ e∈cur,EnT W P e∧e.ix.length≤lv)→NdS W S→qsg W P cur S<n→lvs W addr q m (n+1) cur S=lvs W addr q m n cur S:=by
 induction n with
 | zero=>exact fun _ _ _ _ _ h=>absurd h (Nat.not_lt_zero _)
 | succ n ih=>
  intro lv cur S hc hS hm;by_cases h0:cur=[]
  ·subst h0;rw[lvs_nil,lvs_nil]
  ·cases he:ents W q m cur (none,[]) S with
   | error x=>rw[lvs_err h0 he,lvs_err h0 he]
   | ok r=>
    obtain⟨⟨h,nx⟩,S'⟩:=r;cases h with
    | some y=>rw[lvs_hit h0 he,lvs_hit h0 he]
    | none=>
     rw[qwo h0 he,qwo h0 he];have hx:=ents_nx hW cur (fun e h=>⟨h,(hc e h).1,(hc e h).2⟩) none none [] nx S S' ⟨NxOk.start hS,fun e he=>by cases he⟩ he;have hp:0<mxE P cur:=by
      cases cur with
      | nil=>exact absurd rfl h0
      | cons e r=>have:=qqe P hW.pos e.to.of;simp only[mxE];omega
     have:=hx.ok.meas hp;refine ih (lv+1) (qbc W nx) S' (fun e he => ?_) hx.ok.nds (by omega);obtain⟨y,hy,e1,e2⟩:=qot he;have h1:=hx.ty y hy;have h2:=hx.ok.ix y hy;unfold EnT at h1 ⊢;rw[← e1,← e2];exact⟨h1,h2⟩
theorem lvs_fuel {W:Wd} {P:Nat→Nat} (hW:WdO W P) {addr:Bool} {q m:Int} {e:En} (he:EnT W P e) (hx:e.ix=[]) {n:Nat} (hn:qj2 W=n+1):lvs W addr q m (qj2 W) [e] []=lvs W addr q m n [e] []:=by
 rw[hn];refine lvs_more hW n 0 [e] [] (fun x hx2=>by rw[zeb.1 hx2,hx];exact⟨he,zl _⟩) ⟨List.nodup_nil,fun d hd=>by cases hd⟩ ?_;have h1:=he.1.sz;unfold qj2 at hn;unfold qsg;simp only[mxE,List.length_nil,Nat.sub_zero];have:(W.length+1) * 2003=W.length * 2003+2003:=Nat.succ_mul _ _;omega
def NeS {α:Type} (f:α→Option Hi) (r:Stp α):Prop:=match r with
 | .error x=>x≠[]
 | .ok a=>∀ y,f a=some y→y.ix≠[]
theorem sgHit_ne (e:En) (h:Option Hi) (i k:Nat) (met ptr:Bool):NeS id (qgu e h i k met ptr):=by
 unfold qgu;split
 ·simp[NeS]
 ·intro y hy;cases hy;simp
theorem flds_ne (W:Wd) (q m:Int) (e:En) (u:Spot):∀ (n i:Nat) (h:Option Hi) (nx:List En),(∀ y,h=some y→y.ix≠[])→NeS Prod.fst (flds W q m e u n i (h,nx))
 | 0,i,h,nx,hh=>by rw[flds_end];exact hh
 | n+1,i,h,nx,hh=>by
  cases hsm:qbp u.pkg (fname W (u.of.fields.getD i fd0)) q m with
  | true=>
   rw[qv8 hsm];have h1:=sgHit_ne e h i (qe0 u i) false false;cases hg:qgu e h i (qe0 u i) false false with
   | ok h2=>rw[hg] at h1;exact flds_ne W q m e u n (i+1) h2 nx h1
   | error x=>rw[hg] at h1;exact h1
  | false=>
   cases h with
   | some y=>rw[flds_no hsm (.inl rfl)];exact flds_ne W q m e u n (i+1) _ nx hh
   | none=>
    cases hem:(u.of.fields.getD i fd0).embedded with
    | false=>rw[flds_no hsm (.inr hem)];exact flds_ne W q m e u n (i+1) _ nx hh
    | true=>rw[qwy hsm hem];exact flds_ne W q m e u n (i+1) _ _ hh
theorem typS_ne (W:Wd) (q m:Int) (e:En) (h:Option Hi) (nx:List En) (hh:∀ y,h=some y→y.ix≠[]):NeS Prod.fst (typS W q m e (h,nx)):=by
 by_cases hk:(qae W e.to).of.kind=4
 ·rw[qu1 hk];exact flds_ne W q m e _ _ 0 h nx hh
 ·by_cases h5:(qae W e.to).of.kind=5
  ·cases hi:qhz (qih (msL W (qae W e.to))) q m with
   | none=>rw[qsx hk (fun _=>hi)];exact hh
   | some i=>
    rw[qvm h5 hi];have h1:=sgHit_ne e h i ((msL W (qae W e.to)).getD i mn0).k true false;cases hg:qgu e h i ((msL W (qae W e.to)).getD i mn0).k true false with
    | ok h2=>rw[hg] at h1;exact h1
    | error x=>rw[hg] at h1;exact h1
  ·rw[qsx hk (fun h=>absurd h h5)];exact hh
theorem ents_ne (W:Wd) (q m:Int):∀ (l:List En) (h:Option Hi) (nx:List En) (S:List Nat),(∀ y,h=some y→y.ix≠[])→NeS (fun x=>x.1.1) (ents W q m l (h,nx) S)
 | [],h,nx,S,hh=>by simp only[ents];exact hh
 | e::r,h,nx,S,hh=>by
  by_cases hsk:e.to.of.kind=1∧e.to.of.num.toNat∈S
  ·rw[qux hsk.1 hsk.2];exact ents_ne W q m r h nx S hh
  ·have hno:e.to.of.kind=1→e.to.of.num.toNat ∉ S:=fun h1 h2=>hsk ⟨h1,h2⟩;by_cases hd:∃ i,e.to.of.kind=1∧qey W e.to.of.num.toNat q m=some i
   ·obtain⟨i,hk,hi⟩:=hd;rw[qsq hk (hno hk) hi];have h1:=sgHit_ne e h i (start W e.to.of.num.toNat+i) true ((dc W e.to.of.num.toNat).methods.getD i ⟨0,false⟩).ptr;cases hg:qgu e h i (start W e.to.of.num.toNat+i) true ((dc W e.to.of.num.toNat).methods.getD i ⟨0,false⟩).ptr with
    | ok h2=>rw[hg] at h1;exact ents_ne W q m r h2 nx _ h1
    | error x=>rw[hg] at h1;exact h1
   ·rw[qws (fun hk=>⟨hno hk,by
     cases hi:qey W e.to.of.num.toNat q m with
     | none=>rfl
     | some i=>exact absurd ⟨i,hk,hi⟩ hd⟩)]
    have h1:=typS_ne W q m e h nx hh;cases ht:typS W q m e (h,nx) with
    | error x=>rw[ht] at h1;exact h1
    | ok st=>rw[ht] at h1;exact ents_ne W q m r st.1 st.2 _ h1
def pre (j:Nat) (e:En):En:={ e with ix:=j::e.ix }
def preH (j:Nat) (h:Hi):Hi:={ h with ix:=j::h.ix }
def up {α:Type} (j:Nat) (f:α→α):Stp α→Stp α
 | .ok a => .ok (f a)
 | .error x => .error (j::x)
def preS (j:Nat) (st:Option Hi×List En):Option Hi×List En:=(st.1.map (preH j),st.2.map (pre j))
theorem sgHit_pre (j:Nat) (e:En) (h:Option Hi) (i k:Nat) (met ptr:Bool):qgu (pre j e) (h.map (preH j)) i k met ptr=up j (Option.map (preH j)) (qgu e h i k met ptr):=by
 unfold qgu;cases h <;> cases hm:e.mul <;> simp[pre,hm,up,preH]
theorem subE_pre (W:Wd) (j:Nat) (e:En) (u:Spot) (i:Nat):subE W (pre j e) u i=pre j (subE W e u i):=by simp[subE,pre]
theorem fldS_pre (W:Wd) (q m:Int) (j:Nat) (e:En) (u:Spot) (i:Nat) (st:Option Hi×List En):fldS W q m (pre j e) u i (preS j st)=up j (preS j) (fldS W q m e u i st):=by
 unfold fldS;split
 ·simp only[preS,sgHit_pre];cases qgu e st.1 i (qe0 u i) false false <;> rfl
 ·have e1:(preS j st).1.isNone=st.1.isNone:=by simp[preS]
  rw[e1];split
  ·simp[preS,up,subE_pre]
  ·rfl
theorem flds_pre (W:Wd) (q m:Int) (j:Nat) (e:En) (u:Spot):∀ (n i:Nat) (st:Option Hi×List En),flds W q m (pre j e) u n i (preS j st)=up j (preS j) (flds W q m e u n i st)
 | 0,_,_=>rfl
 | n+1,i,st=>by
  simp only[flds,fldS_pre];cases fldS W q m e u i st with
  | ok st=>exact flds_pre W q m j e u n (i+1) st
  | error x=>rfl
theorem typS_pre (W:Wd) (q m:Int) (j:Nat) (e:En) (st:Option Hi×List En):typS W q m (pre j e) (preS j st)=up j (preS j) (typS W q m e st):=by
 unfold typS;have e1:(pre j e).to=e.to:=rfl;rw[e1];split
 ·exact flds_pre W q m j e _ _ 0 st
 ·split
  ·cases qhz (qih (msL W (qae W e.to))) q m with
   | none=>rfl
   | some i=>
    simp only[preS,sgHit_pre];cases qgu e st.1 i ((msL W (qae W e.to)).getD i mn0).k true false <;> rfl
  ·rfl
theorem entS_pre (W:Wd) (q m:Int) (j:Nat) (e:En) (st:Option Hi×List En):entS W q m (pre j e) (preS j st)=up j (preS j) (entS W q m e st):=by
 unfold entS;have e1:(pre j e).to=e.to:=rfl;rw[e1,typS_pre];cases (if e.to.of.kind=1 then qey W e.to.of.num.toNat q m else none) with
 | none=>rfl
 | some i=>
  simp only[preS,sgHit_pre];cases qgu e st.1 i (start W e.to.of.num.toNat+i) true ((dc W e.to.of.num.toNat).methods.getD i ⟨0,false⟩).ptr <;> rfl
theorem ents_pre (W:Wd) (q m:Int) (j:Nat):∀ (l:List En) (st:Option Hi×List En) (S:List Nat),ents W q m (l.map (pre j)) (preS j st) S=up j (fun x=>(preS j x.1,x.2)) (ents W q m l st S)
 | [],_,_=>rfl
 | e::r,st,S=>by
  simp only[List.map_cons,ents,entS_pre];have e1:(pre j e).to=e.to:=rfl;rw[e1];split
  ·exact ents_pre W q m j r st S
  ·cases entS W q m e st with
   | ok st=>exact ents_pre W q m j r st _
   | error x=>rfl
theorem conS_pre (W:Wd) (j:Nat) (acc:List En) (e:En):conS W (acc.map (pre j)) (pre j e)=(conS W acc e).map (pre j):=by
 unfold conS;rw[List.findIdx?_map];show(match acc.findIdx? fun a=>@decide (can W a.to=can W e.to) (Classical.propDecidable _) with
  | some i=>(acc.map (pre j)).modify i fun a=>{ a with mul:=true }
  | none=>acc.map (pre j)++[pre j e])=_
 cases acc.findIdx? fun a=>@decide (can W a.to=can W e.to) (Classical.propDecidable _) with
 | none=>simp
 | some i=>exact modify_map (pre j) (fun a=>{ a with mul:=true }) (fun a=>{ a with mul:=true }) (fun a=>rfl) acc i
theorem foldl_pre (W:Wd) (j:Nat):∀ (l acc:List En),(l.map (pre j)).foldl (conS W) (acc.map (pre j))=(l.foldl (conS W) acc).map (pre j)
 | [],acc=>rfl
 | e::r,acc=>by
  simp only[List.map_cons,List.foldl_cons,conS_pre];exact foldl_pre W j r _
theorem consM_pre (W:Wd) (j:Nat) (l:List En):qbc W (l.map (pre j))=(qbc W l).map (pre j):=foldl_pre W j l []
def preR (j:Nat) (r:Rs):Rs:=⟨r.ob,if r.ix=[] then [] else j::r.ix,r.ind⟩
theorem lvs_pre (W:Wd) (addr:Bool) (q m:Int) (j:Nat):∀ (n:Nat) (cur:List En) (S:List Nat),lvs W addr q m n (cur.map (pre j)) S=preR j (lvs W addr q m n cur S)
 | 0,_,_=>rfl
 | n+1,cur,S=>by
  by_cases hc:cur=[]
  ·subst hc;rw[List.map_nil,lvs_nil];rfl
  ·have hc':cur.map (pre j)≠[]:=by simpa using hc
   have e1:=ents_pre W q m j cur (none,[]) S;rw[show preS j (none,[])=(none,[]) from rfl] at e1;have e2:=ents_ne W q m cur none [] S (fun y hy=>by cases hy);cases he:ents W q m cur (none,[]) S with
   | error x=>
    rw[he] at e1 e2;rw[lvs_err hc he,lvs_err hc' e1];simp only[NeS] at e2;simp[preR,e2]
   | ok r=>
    obtain⟨⟨h,nx⟩,S'⟩:=r;rw[he] at e1 e2;cases h with
    | none=>
     simp only[up,preS,Option.map_none] at e1;rw[qwo hc he,qwo hc' e1,consM_pre];exact lvs_pre W addr q m j n _ _
    | some h=>
     simp only[up,preS,Option.map_some] at e1;rw[lvs_hit hc he,lvs_hit hc' e1];have h1:h.ix≠[]:=e2 h rfl;obtain⟨k,met,ptr,ix,ind⟩:=h;simp only at h1;show(if(met&&ptr&&!ind&&!addr)=true then(⟨none,[],true⟩:Rs) else⟨some (k,met),j::ix,ind⟩)=preR j (if(met&&ptr&&!ind&&!addr)=true then⟨none,[],true⟩ else⟨some (k,met),ix,ind⟩);cases (met&&ptr&&!ind&&!addr) <;> simp[preR,h1]
theorem lvs_one {W:Wd} {addr:Bool} {q m:Int} {n:Nat} {s:Spot} {k:Nat} (hk:s.of.kind=4) (hl:s.of.fields.length=k):lvs W addr q m (n+1) [⟨s,[],false,false⟩] []=match flds W q m ⟨s,[],false,false⟩ s k 0 (none,[]) with
  | .error x=>⟨none,x,false⟩
  | .ok (some h,_)=>if(h.met&&h.ptr&&!h.ind&&!addr)=true then⟨none,[],true⟩ else⟨some (h.ob,h.met),h.ix,h.ind⟩
  | .ok (none,nx)=>lvs W addr q m n (qbc W nx) []:=by
 subst hl;have hu:qae W s=s:=qdu (by omega);have h1:ents W q m [⟨s,[],false,false⟩] (none,[]) []=match flds W q m ⟨s,[],false,false⟩ s s.of.fields.length 0 (none,[]) with
   | .ok st => .ok (st,[])
   | .error x => .error x:=by
  rw[qws (fun h=>absurd h (by show s.of.kind≠1;omega))];have h2:typS W q m ⟨s,[],false,false⟩ (none,[])=flds W q m ⟨s,[],false,false⟩ s s.of.fields.length 0 (none,[]):=by
   rw[qu1 (by show(qae W s).of.kind=4;rw[hu];exact hk)];show flds W q m _ (qae W s) (qae W s).of.fields.length 0 _=_;rw[hu]
  rw[h2];have h3:seenN (⟨s,[],false,false⟩:En) []=[]:=if_neg (by show ¬ s.of.kind=1;omega);rw[h3];cases flds W q m ⟨s,[],false,false⟩ s s.of.fields.length 0 (none,[]) <;> rfl
 cases hf:flds W q m ⟨s,[],false,false⟩ s s.of.fields.length 0 (none,[]) with
 | error x=>rw[hf] at h1;exact lvs_err (by simp) h1
 | ok st=>
  obtain⟨h,nx⟩:=st;rw[hf] at h1;cases h with
  | none=>exact qwo (by simp) h1
  | some h=>exact lvs_hit (by simp) h1
def ndT (d:Nat):Ty := .mk 1 d [] [] [] []
def stT (l:List Fd):Ty := .mk 4 0 [] l [] []
theorem lookM_struct {W:Wd} {addr:Bool} {q m:Int} {n:Nat} {l:List Fd} (hm:m≠8) (hn:qj2 W=n+1):qch W (operand W (stT l)) addr q m=lvs W addr q m (n+1) [⟨operand W (stT l),[],false,false⟩] []:=by
 have hk:(operand W (stT l)).of.kind=4:=rfl;have hp:plain W (operand W (stT l))=operand W (stT l):=qbg (fun h=>by rw[hk] at h;omega);have hpl:pl W (operand W (stT l))=operand W (stT l):=by unfold pl;rw[hp,qgb (by omega)]
 unfold qch;rw[if_neg (fun h=>by rw[hp,hk] at h;omega),qt8 hm (by rw[hp,hk];omega),hpl,hn]
theorem consM_one (W:Wd) (e:En):qbc W [e]=[e]:=by simp[qbc,conS]
def entE (W:Wd) (s:Spot):En:=⟨pl W (drf W s).1,[],(drf W s).2,false⟩
theorem subE_one (W:Wd) (s:Spot) (i:Nat):subE W ⟨s,[],false,false⟩ s i=pre i (entE W (qao s i)):=by simp[subE,pre,entE]
theorem wrap_hit {W:Wd} {addr:Bool} {q m:Int} {t:Ty} (hm:m≠8) (hs:qbp 0 (fname W (.mk 0 true t)) q m=true):qch W (operand W (stT [.mk 0 true t])) addr q m=⟨some (start W W.length,false),[0],false⟩:=by
 obtain⟨n,hn⟩:∃ n,qj2 W=n+1:=⟨qj2 W - 1,by unfold qj2;omega⟩;rw[lookM_struct hm hn,lvs_one (k:=1) rfl rfl];have h1:flds W q m ⟨operand W (stT [.mk 0 true t]),[],false,false⟩ (operand W (stT [.mk 0 true t])) 1 0 (none,[]) = .ok (some ⟨start W W.length,false,false,[0],false⟩,[]):=by
  rw[qv8 (by exact hs),qmx rfl];simp only[flds_end];rfl
 rw[h1];simp
theorem wrap_in {W:Wd} {addr:Bool} {q m:Int} {t:Ty} {n:Nat} (hm:m≠8) (hn:qj2 W=n+1) (hs:qbp 0 (fname W (.mk 0 true t)) q m=false):
  qch W (operand W (stT [.mk 0 true t])) addr q m=preR 0 (lvs W addr q m n [entE W (qao (operand W (stT [.mk 0 true t])) 0)] []):=by
 rw[lookM_struct hm hn,lvs_one (k:=1) rfl rfl];have h1:flds W q m ⟨operand W (stT [.mk 0 true t]),[],false,false⟩ (operand W (stT [.mk 0 true t])) 1 0 (none,[]) = .ok (none,[pre 0 (entE W (qao (operand W (stT [.mk 0 true t])) 0))]):=by
  rw[qwy (by exact hs) rfl,flds_end,subE_one];rfl
 rw[h1];simp only[consM_one];exact lvs_pre W addr q m 0 n [entE W (qao (operand W (stT [.mk 0 true t])) 0)] []
theorem under_of {W:Wd} (hB:qcp W) {s s':Spot} (he:s.of=s'.of) (hk:s.of.kind=1) (hs:qdw W s):qae W s=qae W s':=by
 have hs':qdw W s':=fun h=>by rw[← he] at h ⊢;exact hs h
 rw[qdg hB hk hs,qdg hB (he ▸ hk) hs',he]
theorem pl_of {W:Wd} {s s':Spot} (he:s.of=s'.of) (hk:s.of.kind=1):pl W s=pl W s':=by rw[pl_nd hk,pl_nd (he ▸ hk),he]
theorem want_nd {W:Wd} {P:Nat→Nat} (hW:WdO W P) {sf:Spot} {d:Nat} (hf:sf.of=ndT d) (hs:SpO W P sf) (h2:(qae W sf).of.kind≠2) {m:Int} (hm:m≠8) {n:Nat} (hn:qj2 W=n+1) (addr:Bool) (q:Int):
  lvs W addr q m n [entE W sf] []=qch W (operand W (ndT d)) addr q m:=by
 have hk:sf.of.kind=1:=by rw[hf];rfl
 have hp:(plain W sf).of.kind≠2:=kind_plain hW.by_ hs.numOk h2;have he:entE W sf=⟨pl W sf,[],false,false⟩:=by unfold entE drf;rw[if_neg hp]
 have e1:(operand W (ndT d)).of=sf.of:=hf.symm;have hs':qdw W (operand W (ndT d)):=fun h=>by rw[e1] at h ⊢;exact hs.numOk h
 have hu:qae W (operand W (ndT d))=qae W sf:=under_of hW.by_ e1 (by rw[e1];exact hk) hs';have hl:qch W (operand W (ndT d)) addr q m=qhf W (operand W (ndT d)) addr q m:=by
  unfold qch;rw[if_neg (fun h=>h2 (by rw[← hu];exact h.2))]
 rw[hl,qt8 hm (kind_plain hW.by_ hs' (by rw[hu];exact h2)),pl_of e1 (by rw[e1];exact hk),← he];exact(lvs_fuel hW (by rw[he];exact EnT.pl hW hs rfl) (by rw[he]) hn).symm
theorem want_ptr {W:Wd} {P:Nat→Nat} (hW:WdO W P) {sf:Spot} {d:Nat} (hf:sf.of=ptrT (ndT d)) (hs:SpO W P sf) (h5:(qae W (qaq sf)).of.kind≠5) {m:Int} (hm:m≠8) {n:Nat} (hn:qj2 W=n+1) (addr:Bool) (q:Int):
  lvs W addr q m n [entE W sf] []=qch W (operand W (ptrT (ndT d))) addr q m:=by
 have hk:sf.of.kind=2:=by rw[hf];rfl
 have hp:plain W sf=sf:=qbg (fun h=>by omega);have hel:(qaq sf).of=ndT d:=by unfold qaq;rw[hf];rfl
 have hek:(qaq sf).of.kind=1:=by rw[hel];rfl
 have hse:SpO W P (qaq sf):=(hs.elem (.inl hk)).1;have he:entE W sf=⟨pl W (qaq sf),[],true,false⟩:=by unfold entE drf;rw[hp,if_pos hk]
 have e1:(qaq (operand W (ptrT (ndT d)))).of=(qaq sf).of:=by rw[hel];rfl
 have hs':qdw W (qaq (operand W (ptrT (ndT d)))):=fun h=>by rw[e1] at h ⊢;exact hse.numOk h
 have hu:qae W (qaq (operand W (ptrT (ndT d))))=qae W (qaq sf):=under_of hW.by_ e1 (by rw[e1];exact hek) hs';have hk2:(operand W (ptrT (ndT d))).of.kind=2:=rfl;have hp2:plain W (operand W (ptrT (ndT d)))=operand W (ptrT (ndT d)):=qbg (fun h=>by omega);have hl:qch W (operand W (ptrT (ndT d))) addr q m=lvs W addr q m (qj2 W) [⟨pl W (qaq (operand W (ptrT (ndT d)))),[],true,false⟩] []:=by
  have e:drf W (operand W (ptrT (ndT d)))=(qaq (operand W (ptrT (ndT d))),true):=by unfold drf;rw[hp2,if_pos hk2]
  unfold qch;rw[if_neg (fun h=>by rw[hp2,hk2] at h;omega)];unfold qhf;rw[if_neg hm,e,if_neg (fun h=>h5 (by rw[← hu];exact h.2))]
 rw[hl,pl_of e1 (by rw[e1];exact hek),← he];exact(lvs_fuel hW (by rw[he];exact EnT.pl hW hse rfl) (by rw[he]) hn).symm
theorem fit_spo {W:Wd} {t:Ty} {P:Nat→Nat} (hF:qfz W t) (hS:qdx W t P) (hb:qbw W≤1048576) (ht:t.bulk≤1048576):∃ P',WdO W P'∧SpO W P' (operand W t):=by
 refine⟨setN W P (start W W.length+t.size),?_,?_⟩
 ·refine WdO.of hF (hS.setN hF _) hb ?_;unfold setN;rw[if_pos rfl];omega
 ·refine SpO.operand hF (hS.setN hF _) ht ?_;unfold setN;rw[if_pos rfl];omega
theorem wrap_nd {W:Wd} {d:Nat} (hA:qqd W (stT [.mk 0 true (ndT d)])) (hb:qbw W≤1048576) {m:Int} (hm:m≠8) (q:Int) (addr:Bool):
  (qbp 0 (dc W d).name q m=true∧qch W (operand W (stT [.mk 0 true (ndT d)])) addr q m=⟨some (start W W.length,false),[0],false⟩)∨
  (qbp 0 (dc W d).name q m=false∧qch W (operand W (stT [.mk 0 true (ndT d)])) addr q m=preR 0 (qch W (operand W (ndT d)) addr q m)):=by
 obtain⟨hF,P,hS,-⟩:=hA;obtain⟨P',hW,hs⟩:=fit_spo hF hS hb (by simp[stT,ndT,Ty.bulk,qbt,qcm]);have hnm:fname W (.mk 0 true (ndT d))=(dc W d).name:=by unfold fname;simp[Fd.embedded,Fd.of,ndT,Ty.kind,Ty.num]
 cases hsm:qbp 0 (dc W d).name q m with
 | true=>exact .inl ⟨rfl,wrap_hit hm (by rw[hnm];exact hsm)⟩
 | false=>
  obtain⟨n,hn⟩:∃ n,qj2 W=n+1:=⟨qj2 W - 1,by unfold qj2;omega⟩;refine .inr ⟨rfl,?_⟩;rw[wrap_in hm hn (by rw[hnm];exact hsm)];have hok:=hs.embOk (i:=0) (zv 0) rfl;have hfl:=(hs.field rfl (i:=0) (zv 0)).1;rw[want_nd hW rfl hfl hok.1 hm hn]
theorem wrap_ptr {W:Wd} {d:Nat} (hA:qqd W (stT [.mk 0 true (ptrT (ndT d))])) (hb:qbw W≤1048576) {m:Int} (hm:m≠8) (q:Int) (addr:Bool):
  (qbp 0 (dc W d).name q m=true∧qch W (operand W (stT [.mk 0 true (ptrT (ndT d))])) addr q m=⟨some (start W W.length,false),[0],false⟩)∨
  (qbp 0 (dc W d).name q m=false∧qch W (operand W (stT [.mk 0 true (ptrT (ndT d))])) addr q m=preR 0 (qch W (operand W (ptrT (ndT d))) addr q m)):=by
 obtain⟨hF,P,hS,-⟩:=hA;obtain⟨P',hW,hs⟩:=fit_spo hF hS hb (by simp[stT,ndT,ptrT,Ty.bulk,qbt,qcm]);have hnm:fname W (.mk 0 true (ptrT (ndT d)))=(dc W d).name:=by unfold fname;simp[Fd.embedded,Fd.of,ndT,ptrT,Ty.kind,Ty.num,Ty.el0,Ty.elem]
 cases hsm:qbp 0 (dc W d).name q m with
 | true=>exact .inl ⟨rfl,wrap_hit hm (by rw[hnm];exact hsm)⟩
 | false=>
  obtain⟨n,hn⟩:∃ n,qj2 W=n+1:=⟨qj2 W - 1,by unfold qj2;omega⟩;refine .inr ⟨rfl,?_⟩;rw[wrap_in hm hn (by rw[hnm];exact hsm)];have hok:=hs.embOk (i:=0) (zv 0) rfl;have hfl:=(hs.field rfl (i:=0) (zv 0)).1;rw[want_ptr hW rfl hfl (hok.2.1 rfl) hm hn]
theorem shadow_nd {W:Wd} {d:Nat} {f:Int} (hA:qqd W (stT [.mk f false ty0,.mk 0 true (ndT d)])) (hb:qbw W≤1048576) {m:Int} (hm:m≠8) (q:Int) (addr:Bool) (hno:qbp 0 (dc W d).name q m=false):
  (qbp 0 f q m=true∧qch W (operand W (stT [.mk f false ty0,.mk 0 true (ndT d)])) addr q m=⟨some (start W W.length,false),[0],false⟩)∨
  (qbp 0 f q m=false∧qch W (operand W (stT [.mk f false ty0,.mk 0 true (ndT d)])) addr q m=preR 1 (qch W (operand W (ndT d)) addr q m)):=by
 obtain⟨hF,P,hS,-⟩:=hA;obtain⟨P',hW,hs⟩:=fit_spo hF hS hb (by simp[stT,ndT,ty0,Ty.bulk,qbt,qcm]);have hnm:fname W (.mk 0 true (ndT d))=(dc W d).name:=by unfold fname;simp[Fd.embedded,Fd.of,ndT,Ty.kind,Ty.num]
 have hnf:fname W (.mk f false ty0)=f:=by unfold fname;simp[Fd.embedded,Fd.name]
 obtain⟨n,hn⟩:∃ n,qj2 W=n+1:=⟨qj2 W - 1,by unfold qj2;omega⟩;rw[lookM_struct hm hn,lvs_one (k:=2) rfl rfl];cases hsm:qbp 0 f q m with
 | true=>
  refine .inl ⟨rfl,?_⟩;have h1:flds W q m ⟨operand W (stT [.mk f false ty0,.mk 0 true (ndT d)]),[],false,false⟩ (operand W (stT [.mk f false ty0,.mk 0 true (ndT d)])) 2 0 (none,[]) = .ok (some ⟨start W W.length,false,false,[0],false⟩,[]):=by
   rw[qv8 (by show qbp 0 (fname W (.mk f false ty0)) q m=true;rw[hnf];exact hsm),qmx rfl];simp only;rw[flds_no (by show qbp 0 (fname W (.mk 0 true (ndT d))) q m=false;rw[hnm];exact hno) (.inl rfl),flds_end];rfl
  rw[h1];simp
 | false=>
  refine .inr ⟨rfl,?_⟩;have h1:flds W q m ⟨operand W (stT [.mk f false ty0,.mk 0 true (ndT d)]),[],false,false⟩ (operand W (stT [.mk f false ty0,.mk 0 true (ndT d)])) 2 0 (none,[]) = .ok (none,[pre 1 (entE W (qao (operand W (stT [.mk f false ty0,.mk 0 true (ndT d)])) 1))]):=by
   rw[flds_no (by show qbp 0 (fname W (.mk f false ty0)) q m=false;rw[hnf];exact hsm) (.inr rfl),qwy (by show qbp 0 (fname W (.mk 0 true (ndT d))) q m=false;rw[hnm];exact hno) rfl,flds_end,subE_one];rfl
  rw[h1];simp only[consM_one];have hok:=hs.embOk (i:=1) (zv 1) rfl;have hfl:=(hs.field rfl (i:=1) (zv 1)).1;rw[← want_nd hW rfl hfl hok.1 hm hn];exact lvs_pre W addr q m 1 n [entE W (qao (operand W (stT [.mk f false ty0,.mk 0 true (ndT d)])) 1)] []
section
variable {I:World→Prop} {P:Program} {ops:Array Oper} {Q:Exit→Act→World→Prop}
def wpI (I:World→Prop) (P:Program) (ops:Array Oper) (Q:Exit→Act→World→Prop):Nat→Array Bool→Act→World→Prop
 | 0,l,a,w=>I w∧Region.ready .any ops l=[]∧Q .normal a w
 | n+1,l,a,w=>I w∧(Region.ready .any ops l=[]→Q .normal a w)∧∀ i∈Region.ready .any ops l,wpOp P ops Q i (wpI I P ops Q n (l.setIfInBounds i true)) a w
theorem wpI.any:∀ (n:Nat) (l:Array Bool) (a:Act) (w:World),wpI I P ops Q n l a w→wpAny P .any ops Q n l a w
 | 0,_,_,_,h=>h.2
 | n+1,_,_,_,h=>⟨h.2.1,fun i hi=>wpOp_mono (fun a w=>wpI.any n _ a w) (h.2.2 i hi)⟩
theorem wpI.here {n:Nat} {l:Array Bool} {a:Act} {w:World} (h:wpI I P ops Q n l a w):I w:=by cases n <;> exact h.1
def Reads (I:World→Prop) (P:Program) (ops:Array Oper) (o:Oper) (v:Value) (a:Act):Prop:=
 (Region.wanted o (yielded ops a.tmps)=true∧∀ w,I w→(execOp a.eval o).run P w = .ok (.value v) w)∨(Region.wanted o (yielded ops a.tmps)=false∧v=undef)
theorem Reads.step {i:Nat} {o:Oper} {v:Value} {a:Act} (hi:ops[i]?=some o) (hy:Reads I P ops o v a) {K:Act→World→Prop} {w:World} (hw:I w) (h:K (a.put o.dst v) w):wpOp P ops Q i K a w:=by
 unfold wpOp;rw[hi];rcases hy with ⟨h1,h2⟩|⟨h1,rfl⟩
 ·simp only[h1,if_true];refine .inl ?_;unfold Oper.wp;rw[h2 w hw];exact h
 ·simp only[h1];exact h
theorem Reads.of_same {o:Oper} {v:Value} {a a':Act} (hy:Reads I P ops o v a) (he:execOp a'.eval o=execOp a.eval o) (hw:Region.wanted o (yielded ops a'.tmps)=Region.wanted o (yielded ops a.tmps)):Reads I P ops o v a':=by
 unfold Reads;rw[he,hw];exact hy
theorem Reads.past {j:Nat} {oi oj:Oper} {v:Value} (hj:ops[j]?=some oj) (hap:oi.apart ops oj=true) (hsi:∀ cs b,oi.op ≠ .select cs b) (hsj:∀ cs b,oj.op ≠ .select cs b)
  (hQ:∀ c a w,Q (.panic c) (a.put oi.dst v) w→Q (.panic c) a w) {K:Act→World→Prop} {a:Act} {w:World} (hy:Reads I P ops oi v a) (h:wpOp P ops Q j K (a.put oi.dst v) w):
  wpOp P ops Q j (fun a' w'=>Reads I P ops oi v a'∧K (a'.put oi.dst v) w') a w:=by
 obtain⟨p1,p2,p3⟩:=Oper.apart_spec hap;have kp:∀ (b:Act) u,Reads I P ops oi v b→Reads I P ops oi v (b.put oj.dst u):=fun b u hb=>hb.of_same (execOp_put oi hsi b oj.dst u p3) (wanted_put oi b oj.dst u p3);have ee:=execOp_put oj hsj a oi.dst v p1;have sw:∀ (b:Act) u,(b.put oi.dst v).put oj.dst u=(b.put oj.dst u).put oi.dst v:=fun b u=>Act.put_comm b v u p2;unfold wpOp at h ⊢;rw[hj] at h ⊢;simp only[wanted_put oj a oi.dst v p1] at h ⊢;by_cases hw:Region.wanted oj (yielded ops a.tmps)=true
 ·simp only[hw,if_true] at h ⊢;rcases h with h|⟨h1,h2⟩
  ·refine .inl ?_;unfold Oper.wp at h ⊢;rw[ee] at h;rcases hr:(execOp a.eval oj).run P w with ⟨n,w'⟩|⟨x,w'⟩
   ·rw[hr] at h;cases n
    case value u=>exact⟨kp a u hy,(sw a u) ▸ h⟩
    case skip=>exact⟨kp a undef hy,(sw a undef) ▸ h⟩
    case defer d=>
     simp only[Oper.upon] at h ⊢;refine⟨kp _ undef (hy.of_same rfl rfl),?_⟩;have hd:({ a.put oi.dst v with defers:=d::(a.put oi.dst v).defers }:Act)=({ a with defers:=d::a.defers }:Act).put oi.dst v:=by cases oi.dst <;> rfl
     rw[← sw,← hd];exact h
    case enter f args=>
     simp only[Oper.upon] at h ⊢;refine Calls.mono h fun e w2 he => ?_;cases e
     case returned u=>exact⟨kp a u hy,(sw a u) ▸ he⟩
     case panicked c=>exact hQ _ _ _ he
     case outgrown=>exact he
    case row rw args=>
     simp only[Oper.upon] at h ⊢;exact Rows.mono h fun u w2 he=>⟨kp a u hy,(sw a u) ▸ he⟩
    all_goals exact h
   ·rw[hr] at h;cases x
    case panic u=>exact hQ _ _ _ h
    all_goals exact h
  ·refine .inr ⟨?_,h2⟩;unfold Oper.asks at h1 ⊢;rw[ee] at h1;exact h1
 ·simp only[hw] at h ⊢;exact⟨kp a undef hy,(sw a undef) ▸ h⟩
theorem wpI_first {i:Nat} {oi:Oper} {v:Value} (hi:ops[i]?=some oi) (hs:∀ (j:Nat) (o:Oper) cs b,ops[j]?=some o→o.op ≠ .select cs b) (hQ:∀ c a w,Q (.panic c) (a.put oi.dst v) w→Q (.panic c) a w):
  ∀ (n:Nat) (l:Array Bool) (a:Act) (w:World),(∀ j oj,ops[j]?=some oj→j≠i→l.getD j true=false→(∀ e∈oj.after,Region.binds .any e=true→e.on≠i)→oi.apart ops oj=true)→
   i∈Region.ready .any ops l→Reads I P ops oi v a→wpI I P ops Q n (l.setIfInBounds i true) (a.put oi.dst v) w→wpI I P ops Q (n+1) l a w
 | 0,l,a,w,_,hr,hy,H=>⟨H.1,fun h=>(by rw[h] at hr;cases hr),fun j hj=>by
  by_cases hji:j=i
  ·subst hji;exact hy.step hi H.1 H
  ·have h1:=ready_mono hj hji;rw[H.2.1] at h1;cases h1⟩
 | n+1,l,a,w,hf,hr,hy,H=>⟨H.1,fun h=>(by rw[h] at hr;cases hr),fun j hj=>by
  by_cases hji:j=i
  ·subst hji;exact hy.step hi H.1 H
  ·obtain⟨hu,oj,hoj,hall⟩:=mem_ready.1 hj;have hno:∀ e∈oj.after,Region.binds .any e=true→e.on≠i:=fun e he hb q=>by
    have q1:=hall e he hb;have q2:=(mem_ready.1 hr).1;rw[q] at q1;by_cases hl:i<l.size
    ·simp[hl] at q1 q2;rw[q2] at q1;cases q1
    ·simp[hl] at q1
   have h2:=Reads.past hoj (hf j oj hoj hji hu hno) (fun cs b=>hs i oi cs b hi) (fun cs b=>hs j oj cs b hoj) hQ hy (H.2.2 j (ready_mono hj hji));refine wpOp_mono (fun a' w' q=>wpI_first hi hs hQ n (l.setIfInBounds j true) a' w' (fun k ok hk hki hku hkn=>hf k ok hk hki ?_ hkn) (ready_mono hr (Ne.symm hji)) q.1 ?_) h2
   ·by_cases hjk:j=k
    ·subst hjk;exact hu
    ·rwa [getD_set_ne true hjk] at hku
   ·rw[Array.setIfInBounds_comm _ _ hji];exact q.2⟩
theorem wpI_region {id:Nat} {a:Act} {w:World} (I:World→Prop) (hm:P.follows .mixedOrders=true) (h:wpI I P ops Q ops.size (Array.replicate ops.size false) a w.drew):(Code.region id ops true).wp P Q a w:=wp_region_any hm (wpI.any _ _ _ _ h)
theorem wpI_take {i:Nat} {oi:Oper} {v:Value} {n:Nat} {l:Array Bool} {a:Act} {w:World} (hi:ops[i]?=some oi) (hs:Region.noSelect ops=true) (hf:Region.free .any ops l i=true) (hr:(Region.ready .any ops l).contains i=true)
  (hQ:∀ c a w,Q (.panic c) (a.put oi.dst v) w→Q (.panic c) a w) (hy:Reads I P ops oi v a) (h:wpI I P ops Q n (l.setIfInBounds i true) (a.put oi.dst v) w):wpI I P ops Q (n+1) l a w:=
 wpI_first hi (Region.noSelect_spec hs) hQ n l a w (Region.free_spec hi hf) (by simpa using hr) hy h
theorem wpI_step {i:Nat} {o:Oper} {n:Nat} {l:Array Bool} {a:Act} {w:World} (ho:ops[i]?=some o) (hw:Region.wanted o (yielded ops a.tmps)=true)
  (h:∀ K:Act→World→Prop,(∀ a w,wpI I P ops Q n (l.setIfInBounds i true) a w→K a w)→o.wp P a w K Q):wpOp P ops Q i (wpI I P ops Q n (l.setIfInBounds i true)) a w:=by
 unfold wpOp;rw[ho];simp only[hw,if_true];exact .inl (h _ fun _ _ h=>h)
theorem wpI_one {i:Nat} {o:Oper} {n:Nat} {l:Array Bool} {a:Act} {w:World} (hr:Region.ready .any ops l=[i]) (ho:ops[i]?=some o) (hI:I w) (hw:Region.wanted o (yielded ops a.tmps)=true)
  (h:∀ K:Act→World→Prop,(∀ a w,wpI I P ops Q n (l.setIfInBounds i true) a w→K a w)→o.wp P a w K Q):wpI I P ops Q (n+1) l a w:=
 ⟨hI,fun e=>(by rw[hr] at e;cases e),fun j hj=>by
  rw[hr] at hj;obtain rfl:=zeb.1 hj;exact wpI_step ho hw h⟩
theorem wpI_two {i j:Nat} {o u:Oper} {n:Nat} {l:Array Bool} {a:Act} {w:World} (hr:Region.ready .any ops l=[i,j]) (ho:ops[i]?=some o) (hu:ops[j]?=some u) (hI:I w) (hw:Region.wanted o (yielded ops a.tmps)=true) (hv:Region.wanted u (yielded ops a.tmps)=true)
  (h:∀ K:Act→World→Prop,(∀ a w,wpI I P ops Q n (l.setIfInBounds i true) a w→K a w)→o.wp P a w K Q) (h2:∀ K:Act→World→Prop,(∀ a w,wpI I P ops Q n (l.setIfInBounds j true) a w→K a w)→u.wp P a w K Q):wpI I P ops Q (n+1) l a w:=
 ⟨hI,fun e=>(by rw[hr] at e;cases e),fun k hk=>by
  rw[hr] at hk;rcases zfb.1 hk with rfl|hk
  ·exact wpI_step ho hw h
  ·obtain rfl:=zeb.1 hk;exact wpI_step hu hv h2⟩
theorem wpI_done {l:Array Bool} {a:Act} {w:World} (hr:Region.ready .any ops l=[]) (hI:I w) (h:Q .normal a w):∀ n,wpI I P ops Q n l a w
 | 0=>⟨hI,hr,h⟩
 | _+1=>⟨hI,fun _=>h,by rw[hr];simp⟩
end
end Go.Proofs.YtaibcdkadbemgaaGreatDoor
namespace Go.Proofs.YtaibcdkadbemgaaGreatDoor
open Go Go.RowKit
open Go.ChangeShapes Go.Deep
set_option maxRecDepth 100000
section
variable {H:Type} {enc:TypeId×Value→H} {P:Program} {w:World} {base:Nat} {spare:Nat→Bool} {held:Bool}
abbrev DP (H:Type):=DataW H×List MemPlace
theorem st2 {t:TypeId} {f0 f1:Field} {fuel:Nat} {cs:List Value} {x:DP H} (ht:P.underlying t=some (.struct #[f0,f1])) (h:DataW.trod enc P w base spare held fuel t cs=some x):
  ∃ (y0 y1:DP H) (n:Nat),fuel=n+1∧x.1 = .agg [y0.1,y1.1]∧cs.length=P.cellsOf t∧DataW.trod enc P w base spare held n f0.type ((cs.drop f0.offset).take (P.cellsOf f0.type))=some y0∧
   DataW.trod enc P w base spare held n f1.type ((cs.drop f1.offset).take (P.cellsOf f1.type))=some y1:=by
 obtain⟨xs,n,e,rfl,hl,hlen,hf⟩:=DataW.trod_struct ht h
 match xs,hlen with
 | [y0,y1],_=>exact⟨y0,y1,n,e,by simp,hl,by simpa using hf 0 f0 rfl,by simpa using hf 1 f1 rfl⟩
theorem st3 {t:TypeId} {f0 f1 f2:Field} {fuel:Nat} {cs:List Value} {x:DP H} (ht:P.underlying t=some (.struct #[f0,f1,f2])) (h:DataW.trod enc P w base spare held fuel t cs=some x):
  ∃ (y0 y1 y2:DP H) (n:Nat),fuel=n+1∧x.1 = .agg [y0.1,y1.1,y2.1]∧cs.length=P.cellsOf t∧DataW.trod enc P w base spare held n f0.type ((cs.drop f0.offset).take (P.cellsOf f0.type))=some y0∧
   DataW.trod enc P w base spare held n f1.type ((cs.drop f1.offset).take (P.cellsOf f1.type))=some y1∧DataW.trod enc P w base spare held n f2.type ((cs.drop f2.offset).take (P.cellsOf f2.type))=some y2:=by
 obtain⟨xs,n,e,rfl,hl,hlen,hf⟩:=DataW.trod_struct ht h
 match xs,hlen with
 | [y0,y1,y2],_=>exact⟨y0,y1,y2,n,e,by simp,hl,by simpa using hf 0 f0 rfl,by simpa using hf 1 f1 rfl,by simpa using hf 2 f2 rfl⟩
theorem st5 {t:TypeId} {f0 f1 f2 f3 f4:Field} {fuel:Nat} {cs:List Value} {x:DP H} (ht:P.underlying t=some (.struct #[f0,f1,f2,f3,f4])) (h:DataW.trod enc P w base spare held fuel t cs=some x):
  ∃ (y0 y1 y2 y3 y4:DP H) (n:Nat),fuel=n+1∧x.1 = .agg [y0.1,y1.1,y2.1,y3.1,y4.1]∧cs.length=P.cellsOf t∧DataW.trod enc P w base spare held n f0.type ((cs.drop f0.offset).take (P.cellsOf f0.type))=some y0∧
   DataW.trod enc P w base spare held n f1.type ((cs.drop f1.offset).take (P.cellsOf f1.type))=some y1∧DataW.trod enc P w base spare held n f2.type ((cs.drop f2.offset).take (P.cellsOf f2.type))=some y2∧
   DataW.trod enc P w base spare held n f3.type ((cs.drop f3.offset).take (P.cellsOf f3.type))=some y3∧DataW.trod enc P w base spare held n f4.type ((cs.drop f4.offset).take (P.cellsOf f4.type))=some y4:=by
 obtain⟨xs,n,e,rfl,hl,hlen,hf⟩:=DataW.trod_struct ht h
 match xs,hlen with
 | [y0,y1,y2,y3,y4],_=>exact⟨y0,y1,y2,y3,y4,n,e,by simp,hl,by simpa using hf 0 f0 rfl,by simpa using hf 1 f1 rfl,by simpa using hf 2 f2 rfl,by simpa using hf 3 f3 rfl,by simpa using hf 4 f4 rfl⟩
theorem st6 {t:TypeId} {f0 f1 f2 f3 f4 f5:Field} {fuel:Nat} {cs:List Value} {x:DP H} (ht:P.underlying t=some (.struct #[f0,f1,f2,f3,f4,f5])) (h:DataW.trod enc P w base spare held fuel t cs=some x):
  ∃ (y0 y1 y2 y3 y4 y5:DP H) (n:Nat),fuel=n+1∧x.1 = .agg [y0.1,y1.1,y2.1,y3.1,y4.1,y5.1]∧cs.length=P.cellsOf t∧DataW.trod enc P w base spare held n f0.type ((cs.drop f0.offset).take (P.cellsOf f0.type))=some y0∧
   DataW.trod enc P w base spare held n f1.type ((cs.drop f1.offset).take (P.cellsOf f1.type))=some y1∧DataW.trod enc P w base spare held n f2.type ((cs.drop f2.offset).take (P.cellsOf f2.type))=some y2∧
   DataW.trod enc P w base spare held n f3.type ((cs.drop f3.offset).take (P.cellsOf f3.type))=some y3∧DataW.trod enc P w base spare held n f4.type ((cs.drop f4.offset).take (P.cellsOf f4.type))=some y4∧
   DataW.trod enc P w base spare held n f5.type ((cs.drop f5.offset).take (P.cellsOf f5.type))=some y5:=by
 obtain⟨xs,n,e,rfl,hl,hlen,hf⟩:=DataW.trod_struct ht h
 match xs,hlen with
 | [y0,y1,y2,y3,y4,y5],_=>exact⟨y0,y1,y2,y3,y4,y5,n,e,by simp,hl,by simpa using hf 0 f0 rfl,by simpa using hf 1 f1 rfl,by simpa using hf 2 f2 rfl,by simpa using hf 3 f3 rfl,by simpa using hf 4 f4 rfl,by simpa using hf 5 f5 rfl⟩
theorem qjb {t e:TypeId} {n:Nat} {cs:List Value} {x:DP H} (ht:P.underlying t=some (.slice e)) (hc:0<P.cellsOf e) (h:DataW.trod enc P w base spare held n t cs=some x) {α:Type} (R:List Value→α→DataW H→Prop)
  (ih:∀ m cs y,m<n→DataW.trod enc P w base spare held m e cs=some y→∃ u,R cs u y.1):
  ∃ (a:Option Addr) (c:Nat) (l:List α) (ds rs:List (DataW H)),cs=[.slice a l.length c]∧l.length≤c∧(x.1 = .slice ds rs∨x.1 = .nil∧ds=[])∧ds.length=l.length∧
   ∀ (i:Nat) (hi:i<l.length) (hd:i<ds.length),∃ b o cs',a=some ⟨b,o,none⟩∧qat w b (o+i * P.cellsOf e) cs'∧R cs' l[i] ds[i]:=by
 rcases DataW.trod_slice ht h with ⟨rfl,rfl⟩|⟨a,len,cap,elems,rest,m,rfl,rfl,rfl,-,hlc,-,hel,hget,-⟩
 ·exact⟨none,0,[],[],[],rfl,zl _,.inr ⟨rfl,rfl⟩,rfl,fun i hi=>absurd hi (Nat.not_lt_zero _)⟩
 ·have h1:∀ i,∃ u:Option α,i<len→∃ v,u=some v∧∃ (hi:i<elems.length),∃ cs',w.cells? base (a.add (i * P.cellsOf e)) (P.cellsOf e)=some cs'∧R cs' v elems[i].1:=fun i=>by
   by_cases hi:i<len
   ·have h2:=hget i hi;have hi':i<elems.length:=by omega
    rw[zr hi'] at h2;obtain⟨cs',h3,h4⟩:=Option.bind_eq_some_iff.1 h2;obtain⟨u,hu⟩:=ih m cs' elems[i] (zv _) h4;exact⟨some u,fun _=>⟨u,rfl,hi',cs',h3,hu⟩⟩
   ·exact⟨none,fun h=>absurd h hi⟩
  obtain⟨f,hf⟩:=Classical.skolem.1 h1;have h2:∀ k,k≤len→∃ l:List α,l.length=k∧∀ i (hi:i<l.length),f i=some l[i]:=fun k=>by
   induction k with
   | zero=>intro _;exact⟨[],rfl,fun i hi=>absurd hi (Nat.not_lt_zero _)⟩
   | succ k ihk=>
    intro hk;obtain⟨l,h3,h4⟩:=ihk (by omega);obtain⟨v,h5,-⟩:=hf k (by omega);refine⟨l++[v],by simp[h3],fun i hi => ?_⟩;by_cases hik:i<l.length
    ·rw[List.getElem_append_left hik];exact h4 i hik
    ·have:i=k:=by simp at hi;omega
     subst this;rw[List.getElem_append_right (by omega)];simpa[h3] using h5
  obtain⟨l,h3,h4⟩:=h2 len (zl _);refine⟨some a,cap,l,elems.map (·.1),rest.map (·.1),by rw[h3],by omega,.inl rfl,by simp[h3,hel],fun i hi hd => ?_⟩;obtain⟨v,h5,hi',cs',h6,h7⟩:=hf i (by omega);rw[h4 i hi] at h5;cases h5;obtain⟨-,h8,h9⟩:=World.cells?_some h6;have hspot:a.spot=none:=by
   obtain⟨v0,-,-,cs0,h60,-⟩:=hf 0 (by omega);obtain⟨-,h80,h90⟩:=World.cells?_some h60;have h0:∃ u,w.cell? ((a.add (0 * P.cellsOf e)).add 0)=some u:=by
    rw[h90 0 hc];exact⟨cs0[0]'(by omega),zr _⟩
   obtain⟨u,hu⟩:=h0;simpa[Addr.add] using World.cell?_spot hu
  obtain⟨b,o,s⟩:=a;simp only at hspot;subst hspot;refine⟨b,o,cs',rfl,fun j u hj => ?_,by simpa using h7⟩;have hjl:j<P.cellsOf e:=by rw[← h8];exact(zib.1 hj).1
  have:=h9 j hjl;rw[hj] at this;rw[Addr.add_lit,Addr.add_lit] at this;exact this
theorem ql1 {n:Int} (h:(Lit.int .i64 n).wf=true):i64 n:=by
 simp only[Lit.wf,Bool.and_eq_true,decide_eq_true_eq] at h;unfold i64;obtain⟨h1,h2⟩:=h;constructor
 ·exact h1
 ·exact h2
end
theorem c6:Tryz.prog.cellsOf 29=6:=by kernel_rfl
theorem c8:Tryz.prog.cellsOf 51=8:=by kernel_rfl
theorem c2:Tryz.prog.cellsOf 83=2:=by kernel_rfl
theorem c10:Tryz.prog.cellsOf 38=10:=by kernel_rfl
theorem ci:Tryz.prog.cellsOf 3=1:=by kernel_rfl
theorem cb:Tryz.prog.cellsOf 4=1:=by kernel_rfl
theorem cst:Tryz.prog.cellsOf 25=1:=by kernel_rfl
theorem csf:Tryz.prog.cellsOf 26=1:=by kernel_rfl
theorem csm:Tryz.prog.cellsOf 27=1:=by kernel_rfl
theorem ub_pos {H:Type} (d:DataW H):1≤Rows.uptoBulk d:=by
 cases d with
 | lit l=>cases l <;> simp[Rows.uptoBulk]
 | _=>simp[Rows.uptoBulk]
theorem qxa {H:Type}:∀ l:List (DataW H),l.length≤Rows.uptoBulkAll l
 | []=>Nat.zero_le _
 | d::r=>by have:=qxa r;have:=ub_pos d;simp only[Rows.uptoBulkAll,List.length_cons];omega
theorem qqj {H:Type}:∀ (l:List Ty) (ds:List (DataW H)),ds.length=l.length→(∀ i (hi:i<l.length) (hd:i<ds.length),l[i].bulk≤Rows.uptoBulk ds[i])→qbt l≤Rows.uptoBulkAll ds
 | [],_,_,_=>Nat.zero_le _
 | t::r,d::ds,hl,h=>by
  have h1:=h 0 (by simp) (by simp);have h2:=qqj r ds (by simpa using hl) fun i hi hd=>h (i+1) (by simpa using hi) (by simpa using hd);change t.bulk≤Rows.uptoBulk d at h1;simp only[qbt,Rows.uptoBulkAll];omega
theorem qqf {H:Type}:∀ (l:List Fd) (ds:List (DataW H)),ds.length=l.length→(∀ i (hi:i<l.length) (hd:i<ds.length),1+l[i].of.bulk≤Rows.uptoBulk ds[i])→qcm l≤Rows.uptoBulkAll ds
 | [],_,_,_=>Nat.zero_le _
 | .mk n e t::r,d::ds,hl,h=>by
  have h1:=h 0 (by simp) (by simp);have h2:=qqf r ds (by simpa using hl) fun i hi hd=>h (i+1) (by simpa using hi) (by simpa using hd);change 1+t.bulk≤Rows.uptoBulk d at h1;simp only[qcm,Rows.uptoBulkAll];omega
theorem qq0 {H:Type}:∀ (l:Wd) (ds:List (DataW H)),ds.length=l.length→(∀ i (hi:i<l.length) (hd:i<ds.length),l[i].bulk≤Rows.uptoBulk ds[i])→qbw l≤Rows.uptoBulkAll ds
 | [],_,_,_=>Nat.zero_le _
 | t::r,d::ds,hl,h=>by
  have h1:=h 0 (by simp) (by simp);have h2:=qq0 r ds (by simpa using hl) fun i hi hd=>h (i+1) (by simpa using hi) (by simpa using hd);change t.bulk≤Rows.uptoBulk d at h1;simp only[qbw,Rows.uptoBulkAll];omega
theorem qjd {H:Type} {x:DataW H} {ds rs:List (DataW H)} {n k:Nat} (hx:x = .slice ds rs∨x = .nil∧ds=[]) (hk:k≤Rows.uptoBulkAll ds) (hn:ds=[]→k=0):k≤Rows.uptoBulk x:=by
 rcases hx with rfl|⟨rfl,rfl⟩
 ·simp only[Rows.uptoBulk];omega
 ·rw[hn rfl];exact Nat.zero_le _
theorem MsR.of {w:World} {a:Option Addr}:∀ (l:List Meth) (i:Nat),(∀ k (hk:k<l.length),∃ b o,a=some ⟨b,o,none⟩∧i64 l[k].name∧qat w b (o+(i+k) * 2) [.int .i64 l[k].name,.bool l[k].ptr])→MsR w a i l
 | [],_,_=>trivial
 | m::r,i,h=>⟨h 0 (by simp),MsR.of r (i+1) fun k hk=>by
   have:=h (k+1) (by simpa using hk);rw[show i+(k+1)=i+1+k by omega] at this;exact this⟩
theorem TysR.of {w:World} {a:Option Addr}:∀ (l:List Ty) (i:Nat),(∀ k (hk:k<l.length),∃ b o cs,a=some ⟨b,o,none⟩∧qat w b (o+(i+k) * 6) cs∧TyC w l[k] cs)→TysR w a i l
 | [],_,_=>by simp only[TysR]
 | t::r,i,h=>by
  simp only[TysR];exact⟨h 0 (by simp),TysR.of r (i+1) fun k hk=>by
   have:=h (k+1) (by simpa using hk);rw[show i+(k+1)=i+1+k by omega] at this;exact this⟩
theorem FdsR.of {w:World} {a:Option Addr}:∀ (l:List Fd) (i:Nat),(∀ k (hk:k<l.length),FdE w a (i+k) l[k])→FdsR w a i l
 | [],_,_=>by simp only[FdsR]
 | t::r,i,h=>by
  simp only[FdsR];exact⟨h 0 (by simp),FdsR.of r (i+1) fun k hk=>by
   have:=h (k+1) (by simpa using hk);rw[show i+(k+1)=i+1+k by omega] at this;exact this⟩
section
variable {H:Type} {enc:TypeId×Value→H} {w:World} {base:Nat} {spare:Nat→Bool} {held:Bool}
theorem open_m {n:Nat} {cs:List Value} {y:DP H} (h:DataW.trod enc Tryz.prog w base spare held n 83 cs=some y):∃ m:Meth,i64 m.name∧cs=[.int .i64 m.name,.bool m.ptr]:=by
 obtain⟨y0,y1,k,rfl,hy,hl,h0,h1⟩:=st2 Tryz.underlying83 h;rw[c2] at hl
 match cs,hl with
 | [v0,v1],_=>
  simp only[ci,cb,List.drop_zero,List.drop_succ_cons,List.take_succ_cons,List.take_zero] at h0 h1;obtain⟨z,e0,-,hw⟩:=DataW.trod_int Tryz.underlying3 h0;obtain⟨b,e1,-⟩:=DataW.trod_bool Tryz.underlying4 h1;cases e0;cases e1;exact⟨⟨z,b⟩,ql1 hw,rfl⟩
theorem qtn {n:Nat} {cs:List Value} {x:DP H} (h:DataW.trod enc Tryz.prog w base spare held n 27 cs=some x):∃ (a:Option Addr) (c:Nat) (l:List Meth),cs=[.slice a l.length c]∧l.length≤c∧MsR w a 0 l∧l.length≤Rows.uptoBulk x.1:=by
 obtain⟨a,c,l,ds,rs,e,hc,hx,hd,hg⟩:=qjb Tryz.underlying27 (by rw[c2];decide) h (fun cs (m:Meth) (_:DataW H)=>i64 m.name∧cs=[.int .i64 m.name,.bool m.ptr]) fun m cs y _ hy=>open_m hy;refine⟨a,c,l,e,hc,MsR.of l 0 fun k hk => ?_,?_⟩
 ·obtain⟨b,o,cs',e1,h1,h2,rfl⟩:=hg k hk (by omega);rw[c2] at h1;exact⟨b,o,e1,h2,by rw[Nat.zero_add];exact h1⟩
 ·exact qjd (n:=0) hx (by have:=qxa ds;omega) fun e=>by rw[e] at hd;exact hd.symm
def OpenT (enc:TypeId×Value→H) (w:World) (base:Nat) (spare:Nat→Bool) (held:Bool) (n:Nat):Prop:=∀ cs (x:DP H),DataW.trod enc Tryz.prog w base spare held n 29 cs=some x→∃ t:Ty,TyC w t cs∧t.bulk≤Rows.uptoBulk x.1
theorem qqh {n:Nat} (ih:∀ m,m<n→OpenT enc w base spare held m) {cs:List Value} {x:DP H} (h:DataW.trod enc Tryz.prog w base spare held n 25 cs=some x):∃ (a:Option Addr) (c:Nat) (l:List Ty),cs=[.slice a l.length c]∧l.length≤c∧TysR w a 0 l∧qbt l≤Rows.uptoBulk x.1:=by
 obtain⟨a,c,l,ds,rs,e,hc,hx,hd,hg⟩:=qjb Tryz.underlying25 (by rw[c6];decide) h (fun cs (t:Ty) (d:DataW H)=>TyC w t cs∧t.bulk≤Rows.uptoBulk d) fun m cs y hm hy=>ih m hm cs y hy;refine⟨a,c,l,e,hc,TysR.of l 0 fun k hk => ?_,?_⟩
 ·obtain⟨b,o,cs',e1,h1,h2,-⟩:=hg k hk (by omega);rw[c6] at h1;exact⟨b,o,cs',e1,by rw[Nat.zero_add];exact h1,h2⟩
 ·refine qjd (n:=0) hx (qqj l ds hd fun i hi hd' => ?_) fun e => ?_
  ·obtain⟨b,o,cs',e1,h1,h2,h3⟩:=hg i hi hd';exact h3
  ·rw[e] at hd;rw[List.length_eq_zero_iff.1 hd.symm];rfl
theorem qv3 {n:Nat} (ih:∀ m,m<n→OpenT enc w base spare held m) {cs:List Value} {x:DP H} (h:DataW.trod enc Tryz.prog w base spare held n 26 cs=some x):∃ (a:Option Addr) (c:Nat) (l:List Fd),cs=[.slice a l.length c]∧l.length≤c∧FdsR w a 0 l∧qcm l≤Rows.uptoBulk x.1:=by
 obtain⟨a,c,l,ds,rs,e,hc,hx,hd,hg⟩:=qjb Tryz.underlying26 (by rw[c8];decide) h (fun cs (f:Fd) (d:DataW H)=>i64 f.name∧(∃ cs',cs = .int .i64 f.name :: .bool f.embedded::cs'∧TyC w f.of cs')∧1+f.of.bulk≤Rows.uptoBulk d) fun m cs y hm hy=>by
  obtain⟨y0,y1,y2,k,rfl,hy2,hl,h0,h1,h2⟩:=st3 Tryz.underlying51 hy;rw[c8] at hl
  match cs,hl with
  | [v0,v1,u0,u1,u2,u3,u4,u5],_=>
   simp only[ci,cb,c6,List.drop_zero,List.drop_succ_cons,List.take_succ_cons,List.take_zero] at h0 h1 h2;obtain⟨z,e0,-,hw⟩:=DataW.trod_int Tryz.underlying3 h0;obtain⟨b,e1,-⟩:=DataW.trod_bool Tryz.underlying4 h1;obtain⟨t,h3,h4⟩:=ih k (by omega) _ _ h2;cases e0;cases e1;refine⟨.mk z b t,ql1 hw,⟨_,rfl,h3⟩,?_⟩;rw[hy2];simp only[Rows.uptoBulk,Rows.uptoBulkAll,Fd.of];omega
 refine⟨a,c,l,e,hc,FdsR.of l 0 fun k hk => ?_,?_⟩
 ·obtain⟨b,o,cs',e1,h1,h2,⟨cs2,rfl,h3⟩,-⟩:=hg k hk (by omega);rw[c8] at h1;rw[Nat.zero_add]
  generalize l[k]=f at h1 h2 h3
  obtain⟨z,b',t⟩:=f;simp only[FdE];exact⟨b,o,cs2,e1,h2,h1,h3⟩
 ·refine qjd (n:=0) hx (qqf l ds hd fun i hi hd' => ?_) fun e => ?_
  ·obtain⟨b,o,cs',e1,h1,h2,h3,h4⟩:=hg i hi hd';exact h4
  ·rw[e] at hd;rw[List.length_eq_zero_iff.1 hd.symm];rfl
theorem qsy (n:Nat):OpenT enc w base spare held n:=by
 induction n using Nat.strongRecOn with
 | ind n ih=>
  intro cs x h;obtain⟨y0,y1,y2,y3,y4,y5,k,rfl,hx,hl,h0,h1,h2,h3,h4,h5⟩:=st6 Tryz.underlying29 h;rw[c6] at hl
  match cs,hl with
  | [v0,v1,v2,v3,v4,v5],_=>
   simp only[ci,cst,csf,csm,List.drop_zero,List.drop_succ_cons,List.take_succ_cons,List.take_zero] at h0 h1 h2 h3 h4 h5;obtain⟨z0,e0,-,hw0⟩:=DataW.trod_int Tryz.underlying3 h0;obtain⟨z1,e1,-,hw1⟩:=DataW.trod_int Tryz.underlying3 h1;obtain⟨a2,c2,l2,e2,hc2,hr2,hb2⟩:=qqh (fun m hm=>ih m (by omega)) h2;obtain⟨a3,c3,l3,e3,hc3,hr3,hb3⟩:=qv3 (fun m hm=>ih m (by omega)) h3;obtain⟨a4,c4,l4,e4,hc4,hr4,hb4⟩:=qtn h4;obtain⟨a5,c5,l5,e5,hc5,hr5,hb5⟩:=qqh (fun m hm=>ih m (by omega)) h5;cases e0;cases e1;cases e2;cases e3;cases e4;cases e5;refine⟨.mk z0 z1 l2 l3 l4 l5,?_,?_⟩
   ·simp only[TyC];exact⟨a2,c2,a3,c3,a4,c4,a5,c5,rfl,⟨hc2,hc3,hc4,hc5⟩,ql1 hw0,ql1 hw1,hr2,hr3,hr4,hr5⟩
   ·rw[hx];simp only[Rows.uptoBulk,Rows.uptoBulkAll,Ty.bulk];omega
theorem open_wd {n:Nat} {cs:List Value} {x:DP H} (h:DataW.trod enc Tryz.prog w base spare held n 23 cs=some x):∃ (a:Option Addr) (c:Nat) (W:Wd),cs=[.slice a W.length c]∧W.length≤c∧WdR w a W∧qbw W≤Rows.uptoBulk x.1:=by
 obtain⟨a,c,l,ds,rs,e,hc,hx,hd,hg⟩:=qjb Tryz.underlying23 (by rw[c10];decide) h (fun cs (d:Dc) (u:DataW H)=>DcC w d cs∧d.bulk≤Rows.uptoBulk u) fun m cs y hm hy=>by
  obtain⟨y0,y1,y2,y3,y4,k,rfl,hy2,hl,h0,h1,h2,h3,h4⟩:=st5 Tryz.underlying38 hy;rw[c10] at hl
  match cs,hl with
  | [v0,v1,v2,u0,u1,u2,u3,u4,u5,v4],_=>
   simp only[ci,cb,c6,csm,List.drop_zero,List.drop_succ_cons,List.take_succ_cons,List.take_zero] at h0 h1 h2 h3 h4;obtain⟨z0,e0,-,hw0⟩:=DataW.trod_int Tryz.underlying3 h0;obtain⟨z1,e1,-,hw1⟩:=DataW.trod_int Tryz.underlying3 h1;obtain⟨b,e2,-⟩:=DataW.trod_bool Tryz.underlying4 h2;obtain⟨t,h5,h6⟩:=qsy k _ _ h3;obtain⟨a4,c4,l4,e4,hc4,hr4,hb4⟩:=qtn h4;cases e0;cases e1;cases e2;cases e4;refine⟨⟨z0,z1,b,t,l4⟩,⟨_,a4,c4,rfl,hc4,ql1 hw0,ql1 hw1,h5,hr4⟩,?_⟩;rw[hy2];simp only[Rows.uptoBulk,Rows.uptoBulkAll,Dc.bulk];omega
 refine⟨a,c,l,e,hc,fun k hk => ?_,?_⟩
 ·obtain⟨b,o,cs',e1,h1,h2,h3⟩:=hg k hk (by omega);rw[c10] at h1;exact⟨b,o,cs',e1,h1,h2⟩
 ·refine qjd (n:=0) hx (qq0 l ds hd fun i hi hd' => ?_) fun e => ?_
  ·obtain⟨b,o,cs',e1,h1,h2,h3⟩:=hg i hi hd';exact h3
  ·rw[e] at hd;rw[List.length_eq_zero_iff.1 hd.symm];rfl
end
end Go.Proofs.YtaibcdkadbemgaaGreatDoor
namespace Go.Proofs.YtaibcdkadbemgaaGreatDoor
open Go Go.RowKit
open Go.ChangeShapes Go.WideShapes Go.ChangeAt
theorem qmj {H:Type} {enc:TypeId×Value→H} {P:Program} {f:Func} {s:ChangeSpec} {apart fresh handsOn again:Bool} {W W':World} {args:Array Value} {v:Value} {ds gs:List (DataW H)} {before pa pv:List MemPlace}
  (hW:DataW.Whole enc P f.params.toList s.vars apart W args.toList ds gs before)
  (hres:∀ (b:Nat) (sp:Nat→Bool) (hd:Bool),DataW.TrodAll enc P W' b sp hd f.resultTypes.toList (v.resultList f.resultTypes.size) (s.fn H (ds++gs)).results [])
  (hargs:∀ sp:Nat→Bool,(∀ p∈before,sp p.block=true)→DataW.TrodAll enc P W' 0 sp true f.params.toList args.toList (s.fn H (ds++gs)).args pa)
  (hvars:∀ sp:Nat→Bool,(∀ p∈before,sp p.block=true)→DataW.TrodVars enc P W' sp s.vars (s.fn H (ds++gs)).vars pv)
  (hps:before=pa++pv) (hb:Below W.heap.size W W')
  (hok:∀ (j:Nat) (t:TypeId) (r:Value),f.resultTypes[j]?=some t→(v.resultList f.resultTypes.size)[j]?=some r→Value.okWide P W' .any 0 t r):
  s.post enc P f apart fresh handsOn again W args v W':=by
 have hold:∀ p∈before,(fun b=>decide (b<W.heap.size)) p.block=true:=fun p hp=>by simpa using hW.lt p hp
 have hlt:=hW.lt;refine⟨ds,gs,before,[],pa,pv,hW,hres _ _ _,hargs _ hold,hvars _ hold,World.keptBut_mono (fun p hp=>⟨hp,?_⟩) (hb.frame (·∈before)),fun _ => ?_⟩
 ·rw[hps,zhb] at hp;exact Or.inr hp
 ·obtain⟨_,_,_,_,_,hz,hn⟩:=hW;refine⟨hok,_,_,([]++pa)++pv,⟨[]++pa,pv,trodAll_append (hargs _ (fun _ _=>rfl)) (hres _ _ _),hvars _ (fun _ _=>rfl),rfl,?_,?_⟩,?_⟩
  ·intro b off hp;have hm:MemPlace.cell b off∈before:=by rw[hps];simpa using hp
   rw[hb.frozen (p:=⟨b,off,none⟩) (hlt _ hm)];exact hz b off hm
  ·intro ha;have:=hn ha;rw[hps] at this;simpa using this
  ·intro p hp _;rw[hps];simpa using hp
theorem qpt {H:Type} {enc:TypeId×Value→H} {C:Checked} {os:Os} {f:FuncId} {fn:Func} {s:OpenSpec} {conds:List PathCond} {apart:Bool} {laid:List (String×DataW Unit)} (modest:Bool) (w0:World) (args:Array Value) (hos:w0.os=os)
  (hv:(w0.forCall (fun _ _=>0) ⟨#[],args,[]⟩).variablesZipB C.prog=true)
  (hr:((w0.forCall (fun _ _=>0) ⟨#[],args,[]⟩).heap.toList.drop C.prog.globals.size).take ((begin C.prog (fun _ _=>0) default).world.heap.size - C.prog.globals.size)=
   (begin C.prog (fun _ _=>0) default).world.heap.toList.drop C.prog.globals.size)
  (hok:Input.okWideB C.prog (w0.forCall (fun _ _=>0) ⟨#[],args,[]⟩) f ⟨#[],args,[]⟩=true)
  (hrow:s.preRow enc C.prog fn conds apart laid (w0.forCall (fun _ _=>0) ⟨#[],args,[]⟩).memory args):
  ∃ (w:World) (tape:Tape) (i:Input),w.os=os∧(w.forCall tape i).Shaped C.prog∧i.vars=[]∧Input.okWide C.prog (w.forCall tape i) .any w.heap.size f i∧
   s.preRow enc C.prog fn conds apart laid (w.forCall tape i).memory i.args∧({ modest:=modest }:Assume).holds C.prog (lone (Frame.enter C.prog f i.args .normal) [] (w.forCall tape i)):=
 ⟨w0,fun _ _=>0,⟨#[],args,[]⟩,hos,World.shaped_of_ZipB hv hr,(Input.okWide_of_okWideB (base:=0) hok).1,(Input.okWide_of_okWideB hok).2,hrow,by
  simp only[Assume.holds];exact⟨by simp,by simp,fun _=>Modest.zero,by simp,by simp⟩⟩
end Go.Proofs.YtaibcdkadbemgaaGreatDoor
namespace Go.Proofs.YtaibcdkadbemgaaGreatDoor
open Go Go.RowKit Go.Shelf
open Go.ChangeShapes Go.WideShapes Go.ChangeAt
set_option maxRecDepth 100000
theorem own:ownKnob Tryz.prog.godebug=none:=by kernel_rfl
theorem Tryz.laidOutP:laidOutB Tryz.prog=true:=by kernel_rfl
theorem cl5:laidOutB Tryz.pinned.checked.prog=true:=by kernel_rfl
theorem cl6:mapsRowed Tryz.pinned.checked.prog=true:=by kernel_rfl
theorem qky {P:Program} {W:World} {name:String} {k:IntKind} {zs:List Int} {g:Nat} {t e:TypeId} {n:Nat}
  (hg:P.globalNamed name=some g) (hty:(P.globals[g]?).map (·.type)=some t) (ht:P.underlying t=some (.array n e)) (he:P.underlying e=some (.int k)) (hce:P.cellsOf e=1) (hct:P.cellsOf t=n)
  (h:Lib.VarReads P W name (Lib.tabData k zs)):Lib.TabIs P W name k zs:=by
 obtain⟨g',t',cs,fuel,p,hg',ht',hvar,hd⟩:=h;obtain rfl:=Option.some.inj (hg.symm.trans hg');obtain rfl:=Option.some.inj (hty.symm.trans ht');unfold Lib.TabIs;rw[hvar,← Lib.cells_of_tab ht he hce hct hd]
theorem qht {H:Type} {enc:TypeId×Value→H} {P:Program} (hl:laidOutB P=true) {W W':World} {sp':Nat→Bool}:∀ {ts:List TypeId} {vs:List Value} {ds:List (DataW H)} {ps:List MemPlace},
  (∀ t∈ts,P.readableRec t=true∧t<P.types.size)→DataW.TrodAll enc P W 0 (fun _=>true) true ts vs ds ps→(∀ p∈ps,W.sameAt W' p)→(∀ p∈ps,sp' p.block=true)→DataW.TrodAll enc P W' 0 sp' true ts vs ds ps
 | [],[],[],_,_,h,_,_=>h
 | t::ts,v::vs,d::ds,ps,ht,⟨p,q,h1,h2,e⟩,hs,hsp=>
  ⟨p,q,WideElems.Trod_stays hl (ht t (.head _)).1 (ht t (.head _)).2 h1 (fun x hx=>hs x (by rw[e];exact z6 _ hx)) (fun x hx=>hsp x (by rw[e];exact z6 _ hx)),
   qht hl (fun t h=>ht t (.tail _ h)) h2 (fun x hx=>hs x (by rw[e];exact zw _ hx)) (fun x hx=>hsp x (by rw[e];exact zw _ hx)),e⟩
section
variable {H:Type} {enc:TypeId×Value→H} {W:World} {base:Nat}
theorem argW {v:Value} {d:DataW H} {p:List MemPlace} (hv:Value.okWide Tryz.prog W .any base 23 v) (h:DataW.Trod enc Tryz.prog W 0 (fun _=>true) true 23 v d p):
  ∃ (a:Option Addr) (c:Nat) (Ws:Wd),v = .slice a Ws.length c∧Ws.length≤c∧WdR W a Ws∧qbw Ws≤Rows.uptoBulk d:=by
 obtain⟨a,l,c,rfl⟩:=okWide_slice Tryz.underlying23 hv;obtain⟨n,hn⟩:=h;obtain⟨a',c',Ws,e,h1,h2,h3⟩:=open_wd hn;have e':[Value.slice a l c]=[.slice a' Ws.length c']:=e;cases e';exact⟨_,_,Ws,rfl,h1,h2,h3⟩
end
theorem readT:Tryz.prog.readableRec 29=true∧29<Tryz.prog.types.size:=⟨by kernel_rfl,of_decide_eq_true (by kernel_rfl)⟩
theorem readW:Tryz.prog.readableRec 23=true∧23<Tryz.prog.types.size:=⟨by kernel_rfl,of_decide_eq_true (by kernel_rfl)⟩
theorem readI:Tryz.prog.readableRec 3=true∧3<Tryz.prog.types.size:=⟨by kernel_rfl,of_decide_eq_true (by kernel_rfl)⟩
theorem readB:Tryz.prog.readableRec 4=true∧4<Tryz.prog.types.size:=⟨by kernel_rfl,of_decide_eq_true (by kernel_rfl)⟩
theorem qr5 {W : World} (h1 : Lib.VarReads Tryz.prog W "unicode/utf8.acceptRanges" Lib.acceptData) (h2 : Lib.VarReads Tryz.prog W "unicode.properties" (Lib.tabData .u8 Lib.propertiesTab)) (h3 : Lib.VarReads Tryz.prog W "unicode.Upper" (Lib.rtabData Lib.upperT)) (h4 : Lib.VarReads Tryz.prog W "unicode/utf8.first" Lib.firstData) : Tabs W := by
 refine⟨qky qxb (t:=287) (e:=5) (n:=256) (by kernel_rfl) (by kernel_rfl) (by kernel_rfl) (by kernel_rfl) (by kernel_rfl) h2,?_,?_⟩
 ·exact utf8Tabs_of_reads Tryz.lays260 ⟨by kernel_rfl,by kernel_rfl,by kernel_rfl,by kernel_rfl,by kernel_rfl,by kernel_rfl,by kernel_rfl⟩ h4 h1
 ·exact rvar_of_reads Tryz.lays261 ⟨by kernel_rfl,by kernel_rfl,by kernel_rfl,by kernel_rfl,by kernel_rfl,by kernel_rfl,by kernel_rfl,by kernel_rfl⟩ (by kernel_rfl) (by kernel_rfl) h3
