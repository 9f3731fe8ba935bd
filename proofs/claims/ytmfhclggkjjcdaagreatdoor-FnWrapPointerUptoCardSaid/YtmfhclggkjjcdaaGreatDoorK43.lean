import Derived.Test.YtmfhclggkjjcdaaGreatDoorK29
import Derived.Test.YtmfhclggkjjcdaaGreatDoorK35
import Derived.Test.YtmfhclggkjjcdaaGreatDoorK32
import Derived.Test.YtmfhclggkjjcdaaGreatDoorK42
set_option linter.all false
namespace Go.Proofs.YtmfhclggkjjcdaaGreatDoor
open Go Go.RowKit
def EnT (W:Wd) (P:Nat→Nat) (e:En):Prop:=SpO W P e.to∧(e.to.of.kind=1→e.to.of.num.toNat<W.length∧(dc W e.to.of.num.toNat).alias=false)
theorem EnT.pl {W:Wd} {P:Nat→Nat} (hW:WdO W P) {s:Spot} (hs:SpO W P s) {e:En} (he:e.to=Go.Proofs.YtmfhclggkjjcdaaGreatDoor.pl W s):EnT W P e:=by
 have h1:=(hs.toPl hW).1;obtain⟨q1,q2⟩:=qjj hW.by_ hs.numOk;refine⟨he ▸ h1,fun hk => ?_⟩;rw[he] at hk ⊢;unfold Go.Proofs.YtmfhclggkjjcdaaGreatDoor.pl at hk ⊢;rw[qfn] at hk;rw[qmd];have:=q1 hk;exact⟨by omega,q2 hk⟩
structure NxT (W:Wd) (P:Nat→Nat) (cur:List En) (S:List Nat) (nx:List En) (S':List Nat) (lv:Nat):Prop where
 ok:NxOk W P cur S nx S' lv
 ty:∀ e∈nx,EnT W P e
theorem NxT.add {W:Wd} {P:Nat→Nat} (hW:WdO W P) {cur:List En} {S:List Nat} {nx:List En} {S':List Nat} {lv:Nat} (h:NxT W P cur S nx S' lv) {e:En} (he:e∈cur) (hs:EnT W P e) (hk:(qae W e.to).of.kind=4) {i:Nat} (hi:i<(qae W e.to).of.fields.length) (hem:((qae W e.to).of.fields.getD i fd0).embedded=true)
  (hn:e.to.of.kind=1→S.length<S'.length) (hl:e.ix.length≤lv):NxT W P cur S (nx++[subE W e (qae W e.to) i]) S' lv:=by
 refine⟨h.ok.add hW he hs.1 hk hi hem hn hl,fun x hx => ?_⟩;rcases zib.1 hx with hx|hx
 ·exact h.ty x hx
 ·rw[zfb.1 hx];obtain⟨hf,-⟩:=(hs.1.toUnder hW).field hk hi;exact EnT.pl hW (drf_op hW hf).1 rfl
theorem flds_nx {W:Wd} {P:Nat→Nat} (hW:WdO W P) {q m:Int} {cur:List En} {S S':List Nat} {lv:Nat} {e:En} (he:e∈cur) (hs:EnT W P e) (hk:(qae W e.to).of.kind=4) (hn:e.to.of.kind=1→S.length<S'.length) (hl:e.ix.length≤lv):
  ∀ (n i:Nat) (h h':Option Hi) (nx nx':List En),n+i=(qae W e.to).of.fields.length→NxT W P cur S nx S' lv→flds W q m e (qae W e.to) n i (h,nx) = .ok (h',nx')→NxT W P cur S nx' S' lv
 | 0,i,h,h',nx,nx',_,hx,heq=>by rw[flds_end] at heq;cases heq;exact hx
 | n+1,i,h,h',nx,nx',hi,hx,heq=>by
  cases hsm:qbp (qae W e.to).pkg (fname W ((qae W e.to).of.fields.getD i fd0)) q m with
  | true=>
   rw[qv8 hsm] at heq;cases hg:qgu e h i (qe0 (qae W e.to) i) false false with
   | ok h2=>rw[hg] at heq;exact flds_nx hW he hs hk hn hl n (i+1) h2 h' nx nx' (by omega) hx heq
   | error x=>rw[hg] at heq;cases heq
  | false=>
   cases h with
   | some y=>rw[flds_no hsm (.inl rfl)] at heq;exact flds_nx hW he hs hk hn hl n (i+1) _ h' nx nx' (by omega) hx heq
   | none=>
    cases hem:((qae W e.to).of.fields.getD i fd0).embedded with
    | false=>rw[flds_no hsm (.inr hem)] at heq;exact flds_nx hW he hs hk hn hl n (i+1) _ h' nx nx' (by omega) hx heq
    | true=>rw[qwy hsm hem] at heq;exact flds_nx hW he hs hk hn hl n (i+1) _ h' _ nx' (by omega) (hx.add hW he hs hk (by omega) hem hn hl) heq
theorem typS_nx {W:Wd} {P:Nat→Nat} (hW:WdO W P) {q m:Int} {cur:List En} {S S':List Nat} {lv:Nat} {e:En} (he:e∈cur) (hs:EnT W P e) (hn:e.to.of.kind=1→S.length<S'.length) (hl:e.ix.length≤lv) {h h':Option Hi} {nx nx':List En} (hx:NxT W P cur S nx S' lv) (heq:typS W q m e (h,nx) = .ok (h',nx')):NxT W P cur S nx' S' lv:=by
 by_cases hk:(qae W e.to).of.kind=4
 ·rw[qu1 hk] at heq;exact flds_nx hW he hs hk hn hl _ 0 h h' nx nx' rfl hx heq
 ·by_cases h5:(qae W e.to).of.kind=5
  ·cases hi:qhz (qih (msL W (qae W e.to))) q m with
   | none=>rw[qsx hk (fun _=>hi)] at heq;cases heq;exact hx
   | some i=>
    rw[qvm h5 hi] at heq;cases hg:qgu e h i ((msL W (qae W e.to)).getD i mn0).k true false with
    | ok h2=>rw[hg] at heq;cases heq;exact hx
    | error x=>rw[hg] at heq;cases heq
  ·rw[qsx hk (fun h=>absurd h h5)] at heq;cases heq;exact hx
theorem NxT.seenN {W:Wd} {P:Nat→Nat} {cur:List En} {S:List Nat} {nx:List En} {S':List Nat} {lv:Nat} (h:NxT W P cur S nx S' lv) {e:En} (hs:EnT W P e) (hn:e.to.of.kind=1→e.to.of.num.toNat ∉ S'):NxT W P cur S nx (seenN e S') lv∧(e.to.of.kind=1→S.length<(seenN e S').length):=by
 unfold Go.Proofs.YtmfhclggkjjcdaaGreatDoor.seenN;by_cases hk:e.to.of.kind=1
 ·rw[if_pos hk];obtain⟨h1,h2⟩:=h.ok.seen (hs.2 hk) (hn hk);exact⟨⟨h1,h.ty⟩,fun _=>h2⟩
 ·rw[if_neg hk];exact⟨h,fun e=>absurd e hk⟩
theorem ents_nx {W:Wd} {P:Nat→Nat} (hW:WdO W P) {q m:Int} {cur:List En} {S:List Nat} {lv:Nat}:∀ (l:List En),(∀ e∈l,e∈cur∧EnT W P e∧e.ix.length≤lv)→∀ (h h':Option Hi) (nx nx':List En) (S1 S':List Nat),NxT W P cur S nx S1 lv→ents W q m l (h,nx) S1 = .ok ((h',nx'),S')→NxT W P cur S nx' S' lv
 | [],_,h,h',nx,nx',S1,S',hx,heq=>by simp only[ents] at heq;cases heq;exact hx
 | e::r,hl,h,h',nx,nx',S1,S',hx,heq=>by
  obtain⟨he,hs,hle⟩:=hl e (z6 ..);have hr:=fun x hx=>hl x (zy _ hx);by_cases hsk:e.to.of.kind=1∧e.to.of.num.toNat∈S1
  ·rw[qux hsk.1 hsk.2] at heq;exact ents_nx hW r hr h h' nx nx' S1 S' hx heq
  ·have hno:e.to.of.kind=1→e.to.of.num.toNat ∉ S1:=fun h1 h2=>hsk ⟨h1,h2⟩;obtain⟨hx2,hn2⟩:=hx.seenN hs hno;by_cases hd:∃ i,e.to.of.kind=1∧qey W e.to.of.num.toNat q m=some i
   ·obtain⟨i,hk,hi⟩:=hd;rw[qsq hk (hno hk) hi] at heq;have e1:Go.Proofs.YtmfhclggkjjcdaaGreatDoor.seenN e S1=S1++[e.to.of.num.toNat]:=if_pos hk;rw[← e1] at heq;cases hg:qgu e h i (start W e.to.of.num.toNat+i) true ((dc W e.to.of.num.toNat).methods.getD i ⟨0,false⟩).ptr with
    | ok h2=>rw[hg] at heq;exact ents_nx hW r hr h2 h' nx nx' _ S' hx2 heq
    | error x=>rw[hg] at heq;cases heq
   ·rw[qws (fun hk=>⟨hno hk,by
     cases hi:qey W e.to.of.num.toNat q m with
     | none=>rfl
     | some i=>exact absurd ⟨i,hk,hi⟩ hd⟩)] at heq
    cases ht:typS W q m e (h,nx) with
    | error x=>rw[ht] at heq;cases heq
    | ok st=>
     obtain⟨h2,nx2⟩:=st;rw[ht] at heq;exact ents_nx hW r hr h2 h' nx2 nx' _ S' (typS_nx hW he hs hn2 hle hx2 ht) heq
theorem lvs_more {W:Wd} {P:Nat→Nat} (hW:WdO W P) {addr:Bool} {q m:Int} (n:Nat):∀ (lv:Nat) (cur:List En) (S:List Nat),(∀ e∈cur,EnT W P e∧e.ix.length≤lv)→NdS W S→qsg W P cur S<n→lvs W addr q m (n+1) cur S=lvs W addr q m n cur S:=by
 induction n with
 | zero=>exact fun _ _ _ _ _ h=>absurd h (Nat.not_lt_zero _)
 | succ n ih=>
  intro lv cur S hc hS hm;by_cases h0:cur=[]
  ·subst h0;rw[lvs_nil,lvs_nil]
  ·cases he:ents W q m cur (none,[]) S with
   | error x=>rw[lvs_err h0 he,lvs_err h0 he]
   | ok r=>
    obtain⟨⟨h,nx⟩,S'⟩:=r;cases h with
    | some y=>rw[lvs_hit h0 he,lvs_hit h0 he]
    | none=>
     rw[qwo h0 he,qwo h0 he];have hx:=ents_nx hW cur (fun e h=>⟨h,(hc e h).1,(hc e h).2⟩) none none [] nx S S' ⟨NxOk.start hS,fun e he=>by cases he⟩ he;have hp:0<mxE P cur:=by
      cases cur with
      | nil=>exact absurd rfl h0
      | cons e r=>have:=qqe P hW.pos e.to.of;simp only[mxE];omega
     have:=hx.ok.meas hp;refine ih (lv+1) (qbc W nx) S' (fun e he => ?_) hx.ok.nds (by omega);obtain⟨y,hy,e1,e2⟩:=qot he;have h1:=hx.ty y hy;have h2:=hx.ok.ix y hy;unfold EnT at h1 ⊢;rw[← e1,← e2];exact⟨h1,h2⟩
theorem lvs_fuel {W:Wd} {P:Nat→Nat} (hW:WdO W P) {addr:Bool} {q m:Int} {e:En} (he:EnT W P e) (hx:e.ix=[]) {n:Nat} (hn:qj2 W=n+1):lvs W addr q m (qj2 W) [e] []=lvs W addr q m n [e] []:=by
 rw[hn];refine lvs_more hW n 0 [e] [] (fun x hx2=>by rw[zfb.1 hx2,hx];exact⟨he,zl _⟩) ⟨List.nodup_nil,fun d hd=>by cases hd⟩ ?_;have h1:=he.1.sz;unfold qj2 at hn;unfold qsg;simp only[mxE,List.length_nil,Nat.sub_zero];have:(W.length+1) * 2003=W.length * 2003+2003:=Nat.succ_mul _ _;omega
def NeS {α:Type} (f:α→Option Hi) (r:Stp α):Prop:=match r with
 | .error x=>x≠[]
 | .ok a=>∀ y,f a=some y→y.ix≠[]
theorem sgHit_ne (e:En) (h:Option Hi) (i k:Nat) (met ptr:Bool):NeS id (qgu e h i k met ptr):=by
 unfold qgu;split
 ·simp[NeS]
 ·intro y hy;cases hy;simp
theorem flds_ne (W:Wd) (q m:Int) (e:En) (u:Spot):∀ (n i:Nat) (h:Option Hi) (nx:List En),(∀ y,h=some y→y.ix≠[])→NeS Prod.fst (flds W q m e u n i (h,nx))
 | 0,i,h,nx,hh=>by rw[flds_end];exact hh
 | n+1,i,h,nx,hh=>by
  cases hsm:qbp u.pkg (fname W (u.of.fields.getD i fd0)) q m with
  | true=>
   rw[qv8 hsm];have h1:=sgHit_ne e h i (qe0 u i) false false;cases hg:qgu e h i (qe0 u i) false false with
   | ok h2=>rw[hg] at h1;exact flds_ne W q m e u n (i+1) h2 nx h1
   | error x=>rw[hg] at h1;exact h1
  | false=>
   cases h with
   | some y=>rw[flds_no hsm (.inl rfl)];exact flds_ne W q m e u n (i+1) _ nx hh
   | none=>
    cases hem:(u.of.fields.getD i fd0).embedded with
    | false=>rw[flds_no hsm (.inr hem)];exact flds_ne W q m e u n (i+1) _ nx hh
    | true=>rw[qwy hsm hem];exact flds_ne W q m e u n (i+1) _ _ hh
theorem typS_ne (W:Wd) (q m:Int) (e:En) (h:Option Hi) (nx:List En) (hh:∀ y,h=some y→y.ix≠[]):NeS Prod.fst (typS W q m e (h,nx)):=by
 by_cases hk:(qae W e.to).of.kind=4
 ·rw[qu1 hk];exact flds_ne W q m e _ _ 0 h nx hh
 ·by_cases h5:(qae W e.to).of.kind=5
  ·cases hi:qhz (qih (msL W (qae W e.to))) q m with
   | none=>rw[qsx hk (fun _=>hi)];exact hh
   | some i=>
    rw[qvm h5 hi];have h1:=sgHit_ne e h i ((msL W (qae W e.to)).getD i mn0).k true false;cases hg:qgu e h i ((msL W (qae W e.to)).getD i mn0).k true false with
    | ok h2=>rw[hg] at h1;exact h1
    | error x=>rw[hg] at h1;exact h1
  ·rw[qsx hk (fun h=>absurd h h5)];exact hh
theorem ents_ne (W:Wd) (q m:Int):∀ (l:List En) (h:Option Hi) (nx:List En) (S:List Nat),(∀ y,h=some y→y.ix≠[])→NeS (fun x=>x.1.1) (ents W q m l (h,nx) S)
 | [],h,nx,S,hh=>by simp only[ents];exact hh
 | e::r,h,nx,S,hh=>by
  by_cases hsk:e.to.of.kind=1∧e.to.of.num.toNat∈S
  ·rw[qux hsk.1 hsk.2];exact ents_ne W q m r h nx S hh
  ·have hno:e.to.of.kind=1→e.to.of.num.toNat ∉ S:=fun h1 h2=>hsk ⟨h1,h2⟩;by_cases hd:∃ i,e.to.of.kind=1∧qey W e.to.of.num.toNat q m=some i
   ·obtain⟨i,hk,hi⟩:=hd;rw[qsq hk (hno hk) hi];have h1:=sgHit_ne e h i (start W e.to.of.num.toNat+i) true ((dc W e.to.of.num.toNat).methods.getD i ⟨0,false⟩).ptr;cases hg:qgu e h i (start W e.to.of.num.toNat+i) true ((dc W e.to.of.num.toNat).methods.getD i ⟨0,false⟩).ptr with
    | ok h2=>rw[hg] at h1;exact ents_ne W q m r h2 nx _ h1
    | error x=>rw[hg] at h1;exact h1
   ·rw[qws (fun hk=>⟨hno hk,by
     cases hi:qey W e.to.of.num.toNat q m with
     | none=>rfl
     | some i=>exact absurd ⟨i,hk,hi⟩ hd⟩)]
    have h1:=typS_ne W q m e h nx hh;cases ht:typS W q m e (h,nx) with
    | error x=>rw[ht] at h1;exact h1
    | ok st=>rw[ht] at h1;exact ents_ne W q m r st.1 st.2 _ h1
def pre (j:Nat) (e:En):En:={ e with ix:=j::e.ix }
def preH (j:Nat) (h:Hi):Hi:={ h with ix:=j::h.ix }
def up {α:Type} (j:Nat) (f:α→α):Stp α→Stp α
 | .ok a => .ok (f a)
 | .error x => .error (j::x)
def preS (j:Nat) (st:Option Hi×List En):Option Hi×List En:=(st.1.map (preH j),st.2.map (pre j))
theorem sgHit_pre (j:Nat) (e:En) (h:Option Hi) (i k:Nat) (met ptr:Bool):qgu (pre j e) (h.map (preH j)) i k met ptr=up j (Option.map (preH j)) (qgu e h i k met ptr):=by
 unfold qgu;cases h <;> cases hm:e.mul <;> simp[pre,hm,up,preH]
theorem subE_pre (W:Wd) (j:Nat) (e:En) (u:Spot) (i:Nat):subE W (pre j e) u i=pre j (subE W e u i):=by simp[subE,pre]
theorem fldS_pre (W:Wd) (q m:Int) (j:Nat) (e:En) (u:Spot) (i:Nat) (st:Option Hi×List En):fldS W q m (pre j e) u i (preS j st)=up j (preS j) (fldS W q m e u i st):=by
 unfold fldS;split
 ·simp only[preS,sgHit_pre];cases qgu e st.1 i (qe0 u i) false false <;> rfl
 ·have e1:(preS j st).1.isNone=st.1.isNone:=by simp[preS]
  rw[e1];split
  ·simp[preS,up,subE_pre]
  ·rfl
theorem flds_pre (W:Wd) (q m:Int) (j:Nat) (e:En) (u:Spot):∀ (n i:Nat) (st:Option Hi×List En),flds W q m (pre j e) u n i (preS j st)=up j (preS j) (flds W q m e u n i st)
 | 0,_,_=>rfl
 | n+1,i,st=>by
  simp only[flds,fldS_pre];cases fldS W q m e u i st with
  | ok st=>exact flds_pre W q m j e u n (i+1) st
  | error x=>rfl
theorem typS_pre (W:Wd) (q m:Int) (j:Nat) (e:En) (st:Option Hi×List En):typS W q m (pre j e) (preS j st)=up j (preS j) (typS W q m e st):=by
 unfold typS;have e1:(pre j e).to=e.to:=rfl;rw[e1];split
 ·exact flds_pre W q m j e _ _ 0 st
 ·split
  ·cases qhz (qih (msL W (qae W e.to))) q m with
   | none=>rfl
   | some i=>
    simp only[preS,sgHit_pre];cases qgu e st.1 i ((msL W (qae W e.to)).getD i mn0).k true false <;> rfl
  ·rfl
theorem entS_pre (W:Wd) (q m:Int) (j:Nat) (e:En) (st:Option Hi×List En):entS W q m (pre j e) (preS j st)=up j (preS j) (entS W q m e st):=by
 unfold entS;have e1:(pre j e).to=e.to:=rfl;rw[e1,typS_pre];cases (if e.to.of.kind=1 then qey W e.to.of.num.toNat q m else none) with
 | none=>rfl
 | some i=>
  simp only[preS,sgHit_pre];cases qgu e st.1 i (start W e.to.of.num.toNat+i) true ((dc W e.to.of.num.toNat).methods.getD i ⟨0,false⟩).ptr <;> rfl
theorem ents_pre (W:Wd) (q m:Int) (j:Nat):∀ (l:List En) (st:Option Hi×List En) (S:List Nat),ents W q m (l.map (pre j)) (preS j st) S=up j (fun x=>(preS j x.1,x.2)) (ents W q m l st S)
 | [],_,_=>rfl
 | e::r,st,S=>by
  simp only[List.map_cons,ents,entS_pre];have e1:(pre j e).to=e.to:=rfl;rw[e1];split
  ·exact ents_pre W q m j r st S
  ·cases entS W q m e st with
   | ok st=>exact ents_pre W q m j r st _
   | error x=>rfl
theorem conS_pre (W:Wd) (j:Nat) (acc:List En) (e:En):conS W (acc.map (pre j)) (pre j e)=(conS W acc e).map (pre j):=by
 unfold conS;rw[List.findIdx?_map];show(match acc.findIdx? fun a=>@decide (can W a.to=can W e.to) (Classical.propDecidable _) with
  | some i=>(acc.map (pre j)).modify i fun a=>{ a with mul:=true }
  | none=>acc.map (pre j)++[pre j e])=_
 cases acc.findIdx? fun a=>@decide (can W a.to=can W e.to) (Classical.propDecidable _) with
 | none=>simp
 | some i=>exact modify_map (pre j) (fun a=>{ a with mul:=true }) (fun a=>{ a with mul:=true }) (fun a=>rfl) acc i
theorem foldl_pre (W:Wd) (j:Nat):∀ (l acc:List En),(l.map (pre j)).foldl (conS W) (acc.map (pre j))=(l.foldl (conS W) acc).map (pre j)
 | [],acc=>rfl
 | e::r,acc=>by
  simp only[List.map_cons,List.foldl_cons,conS_pre];exact foldl_pre W j r _
theorem consM_pre (W:Wd) (j:Nat) (l:List En):qbc W (l.map (pre j))=(qbc W l).map (pre j):=foldl_pre W j l []
def preR (j:Nat) (r:Rs):Rs:=⟨r.ob,if r.ix=[] then [] else j::r.ix,r.ind⟩
theorem lvs_pre (W:Wd) (addr:Bool) (q m:Int) (j:Nat):∀ (n:Nat) (cur:List En) (S:List Nat),lvs W addr q m n (cur.map (pre j)) S=preR j (lvs W addr q m n cur S)
 | 0,_,_=>rfl
 | n+1,cur,S=>by
  by_cases hc:cur=[]
  ·subst hc;rw[List.map_nil,lvs_nil];rfl
  ·have hc':cur.map (pre j)≠[]:=by simpa using hc
   have e1:=ents_pre W q m j cur (none,[]) S;rw[show preS j (none,[])=(none,[]) from rfl] at e1;have e2:=ents_ne W q m cur none [] S (fun y hy=>by cases hy);cases he:ents W q m cur (none,[]) S with
   | error x=>
    rw[he] at e1 e2;rw[lvs_err hc he,lvs_err hc' e1];simp only[NeS] at e2;simp[preR,e2]
   | ok r=>
    obtain⟨⟨h,nx⟩,S'⟩:=r;rw[he] at e1 e2;cases h with
    | none=>
     simp only[up,preS,Option.map_none] at e1;rw[qwo hc he,qwo hc' e1,consM_pre];exact lvs_pre W addr q m j n _ _
    | some h=>
     simp only[up,preS,Option.map_some] at e1;rw[lvs_hit hc he,lvs_hit hc' e1];have h1:h.ix≠[]:=e2 h rfl;obtain⟨k,met,ptr,ix,ind⟩:=h;simp only at h1;show(if(met&&ptr&&!ind&&!addr)=true then(⟨none,[],true⟩:Rs) else⟨some (k,met),j::ix,ind⟩)=preR j (if(met&&ptr&&!ind&&!addr)=true then⟨none,[],true⟩ else⟨some (k,met),ix,ind⟩);cases (met&&ptr&&!ind&&!addr) <;> simp[preR,h1]
theorem lvs_one {W:Wd} {addr:Bool} {q m:Int} {n:Nat} {s:Spot} {k:Nat} (hk:s.of.kind=4) (hl:s.of.fields.length=k):lvs W addr q m (n+1) [⟨s,[],false,false⟩] []=match flds W q m ⟨s,[],false,false⟩ s k 0 (none,[]) with
  | .error x=>⟨none,x,false⟩
  | .ok (some h,_)=>if(h.met&&h.ptr&&!h.ind&&!addr)=true then⟨none,[],true⟩ else⟨some (h.ob,h.met),h.ix,h.ind⟩
  | .ok (none,nx)=>lvs W addr q m n (qbc W nx) []:=by
 subst hl;have hu:qae W s=s:=qdu (by omega);have h1:ents W q m [⟨s,[],false,false⟩] (none,[]) []=match flds W q m ⟨s,[],false,false⟩ s s.of.fields.length 0 (none,[]) with
   | .ok st => .ok (st,[])
   | .error x => .error x:=by
  rw[qws (fun h=>absurd h (by show s.of.kind≠1;omega))];have h2:typS W q m ⟨s,[],false,false⟩ (none,[])=flds W q m ⟨s,[],false,false⟩ s s.of.fields.length 0 (none,[]):=by
   rw[qu1 (by show(qae W s).of.kind=4;rw[hu];exact hk)];show flds W q m _ (qae W s) (qae W s).of.fields.length 0 _=_;rw[hu]
  rw[h2];have h3:seenN (⟨s,[],false,false⟩:En) []=[]:=if_neg (by show ¬ s.of.kind=1;omega);rw[h3];cases flds W q m ⟨s,[],false,false⟩ s s.of.fields.length 0 (none,[]) <;> rfl
 cases hf:flds W q m ⟨s,[],false,false⟩ s s.of.fields.length 0 (none,[]) with
 | error x=>rw[hf] at h1;exact lvs_err (by simp) h1
 | ok st=>
  obtain⟨h,nx⟩:=st;rw[hf] at h1;cases h with
  | none=>exact qwo (by simp) h1
  | some h=>exact lvs_hit (by simp) h1
def ndT (d:Nat):Ty := .mk 1 d [] [] [] []
def stT (l:List Fd):Ty := .mk 4 0 [] l [] []
theorem lookM_struct {W:Wd} {addr:Bool} {q m:Int} {n:Nat} {l:List Fd} (hm:m≠8) (hn:qj2 W=n+1):qch W (operand W (stT l)) addr q m=lvs W addr q m (n+1) [⟨operand W (stT l),[],false,false⟩] []:=by
 have hk:(operand W (stT l)).of.kind=4:=rfl;have hp:plain W (operand W (stT l))=operand W (stT l):=qbg (fun h=>by rw[hk] at h;omega);have hpl:pl W (operand W (stT l))=operand W (stT l):=by unfold pl;rw[hp,qgb (by omega)]
 unfold qch;rw[if_neg (fun h=>by rw[hp,hk] at h;omega),qt8 hm (by rw[hp,hk];omega),hpl,hn]
theorem consM_one (W:Wd) (e:En):qbc W [e]=[e]:=by simp[qbc,conS]
def entE (W:Wd) (s:Spot):En:=⟨pl W (drf W s).1,[],(drf W s).2,false⟩
theorem subE_one (W:Wd) (s:Spot) (i:Nat):subE W ⟨s,[],false,false⟩ s i=pre i (entE W (qao s i)):=by simp[subE,pre,entE]
theorem wrap_hit {W:Wd} {addr:Bool} {q m:Int} {t:Ty} (hm:m≠8) (hs:qbp 0 (fname W (.mk 0 true t)) q m=true):qch W (operand W (stT [.mk 0 true t])) addr q m=⟨some (start W W.length,false),[0],false⟩:=by
 obtain⟨n,hn⟩:∃ n,qj2 W=n+1:=⟨qj2 W - 1,by unfold qj2;omega⟩;rw[lookM_struct hm hn,lvs_one (k:=1) rfl rfl];have h1:flds W q m ⟨operand W (stT [.mk 0 true t]),[],false,false⟩ (operand W (stT [.mk 0 true t])) 1 0 (none,[]) = .ok (some ⟨start W W.length,false,false,[0],false⟩,[]):=by
  rw[qv8 (by exact hs),qmx rfl];simp only[flds_end];rfl
 rw[h1];simp
theorem wrap_in {W:Wd} {addr:Bool} {q m:Int} {t:Ty} {n:Nat} (hm:m≠8) (hn:qj2 W=n+1) (hs:qbp 0 (fname W (.mk 0 true t)) q m=false):
  qch W (operand W (stT [.mk 0 true t])) addr q m=preR 0 (lvs W addr q m n [entE W (qao (operand W (stT [.mk 0 true t])) 0)] []):=by
 rw[lookM_struct hm hn,lvs_one (k:=1) rfl rfl];have h1:flds W q m ⟨operand W (stT [.mk 0 true t]),[],false,false⟩ (operand W (stT [.mk 0 true t])) 1 0 (none,[]) = .ok (none,[pre 0 (entE W (qao (operand W (stT [.mk 0 true t])) 0))]):=by
  rw[qwy (by exact hs) rfl,flds_end,subE_one];rfl
 rw[h1];simp only[consM_one];exact lvs_pre W addr q m 0 n [entE W (qao (operand W (stT [.mk 0 true t])) 0)] []
theorem under_of {W:Wd} (hB:qcp W) {s s':Spot} (he:s.of=s'.of) (hk:s.of.kind=1) (hs:qdw W s):qae W s=qae W s':=by
 have hs':qdw W s':=fun h=>by rw[← he] at h ⊢;exact hs h
 rw[qdg hB hk hs,qdg hB (he ▸ hk) hs',he]
theorem pl_of {W:Wd} {s s':Spot} (he:s.of=s'.of) (hk:s.of.kind=1):pl W s=pl W s':=by rw[pl_nd hk,pl_nd (he ▸ hk),he]
theorem want_ptr {W:Wd} {P:Nat→Nat} (hW:WdO W P) {sf:Spot} {d:Nat} (hf:sf.of=ptrT (ndT d)) (hs:SpO W P sf) (h5:(qae W (qaq sf)).of.kind≠5) {m:Int} (hm:m≠8) {n:Nat} (hn:qj2 W=n+1) (addr:Bool) (q:Int):
  lvs W addr q m n [entE W sf] []=qch W (operand W (ptrT (ndT d))) addr q m:=by
 have hk:sf.of.kind=2:=by rw[hf];rfl
 have hp:plain W sf=sf:=qbg (fun h=>by omega);have hel:(qaq sf).of=ndT d:=by unfold qaq;rw[hf];rfl
 have hek:(qaq sf).of.kind=1:=by rw[hel];rfl
 have hse:SpO W P (qaq sf):=(hs.elem (.inl hk)).1;have he:entE W sf=⟨pl W (qaq sf),[],true,false⟩:=by unfold entE drf;rw[hp,if_pos hk]
 have e1:(qaq (operand W (ptrT (ndT d)))).of=(qaq sf).of:=by rw[hel];rfl
 have hs':qdw W (qaq (operand W (ptrT (ndT d)))):=fun h=>by rw[e1] at h ⊢;exact hse.numOk h
 have hu:qae W (qaq (operand W (ptrT (ndT d))))=qae W (qaq sf):=under_of hW.by_ e1 (by rw[e1];exact hek) hs';have hk2:(operand W (ptrT (ndT d))).of.kind=2:=rfl;have hp2:plain W (operand W (ptrT (ndT d)))=operand W (ptrT (ndT d)):=qbg (fun h=>by omega);have hl:qch W (operand W (ptrT (ndT d))) addr q m=lvs W addr q m (qj2 W) [⟨pl W (qaq (operand W (ptrT (ndT d)))),[],true,false⟩] []:=by
  have e:drf W (operand W (ptrT (ndT d)))=(qaq (operand W (ptrT (ndT d))),true):=by unfold drf;rw[hp2,if_pos hk2]
  unfold qch;rw[if_neg (fun h=>by rw[hp2,hk2] at h;omega)];unfold qhf;rw[if_neg hm,e,if_neg (fun h=>h5 (by rw[← hu];exact h.2))]
 rw[hl,pl_of e1 (by rw[e1];exact hek),← he];exact(lvs_fuel hW (by rw[he];exact EnT.pl hW hse rfl) (by rw[he]) hn).symm
theorem fit_spo {W:Wd} {t:Ty} {P:Nat→Nat} (hF:qfz W t) (hS:qdx W t P) (hb:qbw W≤1048576) (ht:t.bulk≤1048576):∃ P',WdO W P'∧SpO W P' (operand W t):=by
 refine⟨setN W P (start W W.length+t.size),?_,?_⟩
 ·refine WdO.of hF (hS.setN hF _) hb ?_;unfold setN;rw[if_pos rfl];omega
 ·refine SpO.operand hF (hS.setN hF _) ht ?_;unfold setN;rw[if_pos rfl];omega
theorem wrap_ptr {W:Wd} {d:Nat} (hA:qqd W (stT [.mk 0 true (ptrT (ndT d))])) (hb:qbw W≤1048576) {m:Int} (hm:m≠8) (q:Int) (addr:Bool):
  (qbp 0 (dc W d).name q m=true∧qch W (operand W (stT [.mk 0 true (ptrT (ndT d))])) addr q m=⟨some (start W W.length,false),[0],false⟩)∨
  (qbp 0 (dc W d).name q m=false∧qch W (operand W (stT [.mk 0 true (ptrT (ndT d))])) addr q m=preR 0 (qch W (operand W (ptrT (ndT d))) addr q m)):=by
 obtain⟨hF,P,hS,-⟩:=hA;obtain⟨P',hW,hs⟩:=fit_spo hF hS hb (by simp[stT,ndT,ptrT,Ty.bulk,qbt,qcm]);have hnm:fname W (.mk 0 true (ptrT (ndT d)))=(dc W d).name:=by unfold fname;simp[Fd.embedded,Fd.of,ndT,ptrT,Ty.kind,Ty.num,Ty.el0,Ty.elem]
 cases hsm:qbp 0 (dc W d).name q m with
 | true=>exact .inl ⟨rfl,wrap_hit hm (by rw[hnm];exact hsm)⟩
 | false=>
  obtain⟨n,hn⟩:∃ n,qj2 W=n+1:=⟨qj2 W - 1,by unfold qj2;omega⟩;refine .inr ⟨rfl,?_⟩;rw[wrap_in hm hn (by rw[hnm];exact hsm)];have hok:=hs.embOk (i:=0) (zw 0) rfl;have hfl:=(hs.field rfl (i:=0) (zw 0)).1;rw[want_ptr hW rfl hfl (hok.2.1 rfl) hm hn]
