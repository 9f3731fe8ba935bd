import Derived.Test.YtmfhclggkjjcdaaGreatDoorL24
import Derived.Test.YtmfhclggkjjcdaaGreatDoorL30
import Derived.Test.YtmfhclggkjjcdaaGreatDoorL27
import Derived.Test.YtmfhclggkjjcdaaGreatDoorL35
set_option linter.all false
namespace Go.Proofs.YtmfhclggkjjcdaaGreatDoor
open Go Go.RowKit
variable {W:Wd} {P:Nat→Nat}
def EnT (W:Wd) (P:Nat→Nat) (e:En):Prop:=SpO W P e.to∧(e.to.of.kind=1→e.to.of.num.toNat<W.length∧(dc W e.to.of.num.toNat).alias=false)
theorem EnT.pl (hW:WdO W P) {s:Spot} (hs:SpO W P s) {e:En} (he:e.to=Go.Proofs.YtmfhclggkjjcdaaGreatDoor.pl W s):EnT W P e:=by
 have h1:=(hs.toPl hW).1;obtain⟨q1,q2⟩:=qjj hW.by_ hs.numOk;refine⟨he ▸ h1,fun hk => ?_⟩;rw[he] at hk ⊢;unfold Go.Proofs.YtmfhclggkjjcdaaGreatDoor.pl at hk ⊢;rw[qfn] at hk;rw[qmd];have:=q1 hk;exact⟨by omega,q2 hk⟩
structure NxT (W:Wd) (P:Nat→Nat) (cur:List En) (S:List Nat) (nx:List En) (S':List Nat) (lv:Nat):Prop where
 ok:NxOk W P cur S nx S' lv
 ty:∀ e∈nx,EnT W P e
theorem NxT.add (hW:WdO W P) {cur:List En} {S:List Nat} {nx:List En} {S':List Nat} {lv:Nat} (h:NxT W P cur S nx S' lv) {e:En} (he:e∈cur) (hs:EnT W P e) (hk:(under W e.to).of.kind=4) {i:Nat} (hi:i<(under W e.to).of.fields.length) (hem:((under W e.to).of.fields.getD i fd0).embedded=true)
  (hn:e.to.of.kind=1→S.length<S'.length) (hl:e.ix.length≤lv):NxT W P cur S (nx++[subE W e (under W e.to) i]) S' lv:=by
 refine⟨h.ok.add hW he hs.1 hk hi hem hn hl,fun x hx => ?_⟩;rcases zib.1 hx with hx|hx
 ·exact h.ty x hx
 ·rw[zfb.1 hx];obtain⟨hf,-⟩:=(hs.1.toUnder hW).field hk hi;exact EnT.pl hW (drf_op hW hf).1 rfl
theorem flds_nx (hW:WdO W P) {q m:Int} {cur:List En} {S S':List Nat} {lv:Nat} {e:En} (he:e∈cur) (hs:EnT W P e) (hk:(under W e.to).of.kind=4) (hn:e.to.of.kind=1→S.length<S'.length) (hl:e.ix.length≤lv):
  ∀ (n i:Nat) (h h':Option Hi) (nx nx':List En),n+i=(under W e.to).of.fields.length→NxT W P cur S nx S' lv→flds W q m e (under W e.to) n i (h,nx) = .ok (h',nx')→NxT W P cur S nx' S' lv
 | 0,i,h,h',nx,nx',_,hx,heq=>by rw[flds_end] at heq;cases heq;exact hx
 | n+1,i,h,h',nx,nx',hi,hx,heq=>by
  cases hsm:qbp (under W e.to).pkg (fname W ((under W e.to).of.fields.getD i fd0)) q m with
  | true=>
   rw[qv8 hsm] at heq;cases hg:qgu e h i (qe0 (under W e.to) i) false false with
   | ok h2=>rw[hg] at heq;exact flds_nx hW he hs hk hn hl n (i+1) h2 h' nx nx' (by omega) hx heq
   | error x=>rw[hg] at heq;cases heq
  | false=>
   cases h with
   | some y=>rw[flds_no hsm (.inl rfl)] at heq;exact flds_nx hW he hs hk hn hl n (i+1) _ h' nx nx' (by omega) hx heq
   | none=>
    cases hem:((under W e.to).of.fields.getD i fd0).embedded with
    | false=>rw[flds_no hsm (.inr hem)] at heq;exact flds_nx hW he hs hk hn hl n (i+1) _ h' nx nx' (by omega) hx heq
    | true=>rw[qwy hsm hem] at heq;exact flds_nx hW he hs hk hn hl n (i+1) _ h' _ nx' (by omega) (hx.add hW he hs hk (by omega) hem hn hl) heq
theorem typS_nx (hW:WdO W P) {q m:Int} {cur:List En} {S S':List Nat} {lv:Nat} {e:En} (he:e∈cur) (hs:EnT W P e) (hn:e.to.of.kind=1→S.length<S'.length) (hl:e.ix.length≤lv) {h h':Option Hi} {nx nx':List En} (hx:NxT W P cur S nx S' lv) (heq:typS W q m e (h,nx) = .ok (h',nx')):NxT W P cur S nx' S' lv:=by
 by_cases hk:(under W e.to).of.kind=4
 ·rw[qu1 hk] at heq;exact flds_nx hW he hs hk hn hl _ 0 h h' nx nx' rfl hx heq
 ·by_cases h5:(under W e.to).of.kind=5
  ·cases hi:qhz (qih (msL W (under W e.to))) q m with
   | none=>rw[qsx hk (fun _=>hi)] at heq;cases heq;exact hx
   | some i=>
    rw[qvm h5 hi] at heq;cases hg:qgu e h i ((msL W (under W e.to)).getD i mn0).k true false with
    | ok h2=>rw[hg] at heq;cases heq;exact hx
    | error x=>rw[hg] at heq;cases heq
  ·rw[qsx hk (fun h=>absurd h h5)] at heq;cases heq;exact hx
theorem NxT.seenN {cur:List En} {S:List Nat} {nx:List En} {S':List Nat} {lv:Nat} (h:NxT W P cur S nx S' lv) {e:En} (hs:EnT W P e) (hn:e.to.of.kind=1→e.to.of.num.toNat ∉ S'):NxT W P cur S nx (seenN e S') lv∧(e.to.of.kind=1→S.length<(seenN e S').length):=by
 unfold Go.Proofs.YtmfhclggkjjcdaaGreatDoor.seenN;by_cases hk:e.to.of.kind=1
 ·rw[if_pos hk];obtain⟨h1,h2⟩:=h.ok.seen (hs.2 hk) (hn hk);exact⟨⟨h1,h.ty⟩,fun _=>h2⟩
 ·rw[if_neg hk];exact⟨h,fun e=>absurd e hk⟩
theorem ents_nx (hW:WdO W P) {q m:Int} {cur:List En} {S:List Nat} {lv:Nat}:∀ (l:List En),(∀ e∈l,e∈cur∧EnT W P e∧e.ix.length≤lv)→∀ (h h':Option Hi) (nx nx':List En) (S1 S':List Nat),NxT W P cur S nx S1 lv→ents W q m l (h,nx) S1 = .ok ((h',nx'),S')→NxT W P cur S nx' S' lv
 | [],_,h,h',nx,nx',S1,S',hx,heq=>by simp only[ents] at heq;cases heq;exact hx
 | e::r,hl,h,h',nx,nx',S1,S',hx,heq=>by
  obtain⟨he,hs,hle⟩:=hl e (z6 ..);have hr:=fun x hx=>hl x (zy _ hx);by_cases hsk:e.to.of.kind=1∧e.to.of.num.toNat∈S1
  ·rw[qux hsk.1 hsk.2] at heq;exact ents_nx hW r hr h h' nx nx' S1 S' hx heq
  ·have hno:e.to.of.kind=1→e.to.of.num.toNat ∉ S1:=fun h1 h2=>hsk ⟨h1,h2⟩;obtain⟨hx2,hn2⟩:=hx.seenN hs hno;by_cases hd:∃ i,e.to.of.kind=1∧qey W e.to.of.num.toNat q m=some i
   ·obtain⟨i,hk,hi⟩:=hd;rw[qsq hk (hno hk) hi] at heq;have e1:Go.Proofs.YtmfhclggkjjcdaaGreatDoor.seenN e S1=S1++[e.to.of.num.toNat]:=if_pos hk;rw[← e1] at heq;cases hg:qgu e h i (start W e.to.of.num.toNat+i) true ((dc W e.to.of.num.toNat).methods.getD i ⟨0,false⟩).ptr with
    | ok h2=>rw[hg] at heq;exact ents_nx hW r hr h2 h' nx nx' _ S' hx2 heq
    | error x=>rw[hg] at heq;cases heq
   ·rw[qws (fun hk=>⟨hno hk,by
     cases hi:qey W e.to.of.num.toNat q m with
     | none=>rfl
     | some i=>exact absurd ⟨i,hk,hi⟩ hd⟩)] at heq
    cases ht:typS W q m e (h,nx) with
    | error x=>rw[ht] at heq;cases heq
    | ok st=>
     obtain⟨h2,nx2⟩:=st;rw[ht] at heq;exact ents_nx hW r hr h2 h' nx2 nx' _ S' (typS_nx hW he hs hn2 hle hx2 ht) heq
def pre (j:Nat) (e:En):En:={ e with ix:=j::e.ix }
def up {α:Type} (j:Nat) (f:α→α):Stp α→Stp α
 | .ok a => .ok (f a)
 | .error x => .error (j::x)
def preR (j:Nat) (r:Rs):Rs:=⟨r.ob,if r.ix=[] then [] else j::r.ix,r.ind⟩
theorem lvs_one {addr:Bool} {q m:Int} {n:Nat} {s:Spot} {k:Nat} (hk:s.of.kind=4) (hl:s.of.fields.length=k):lvs W addr q m (n+1) [⟨s,[],false,false⟩] []=match flds W q m ⟨s,[],false,false⟩ s k 0 (none,[]) with
  | .error x=>⟨none,x,false⟩
  | .ok (some h,_)=>if(h.met&&h.ptr&&!h.ind&&!addr)=true then⟨none,[],true⟩ else⟨some (h.ob,h.met),h.ix,h.ind⟩
  | .ok (none,nx)=>lvs W addr q m n (qbc W nx) []:=by
 subst hl;have hu:under W s=s:=qdu (by omega);have h1:ents W q m [⟨s,[],false,false⟩] (none,[]) []=match flds W q m ⟨s,[],false,false⟩ s s.of.fields.length 0 (none,[]) with
   | .ok st => .ok (st,[])
   | .error x => .error x:=by
  rw[qws (fun h=>absurd h (by show s.of.kind≠1;omega))];have h2:typS W q m ⟨s,[],false,false⟩ (none,[])=flds W q m ⟨s,[],false,false⟩ s s.of.fields.length 0 (none,[]):=by
   rw[qu1 (by show(under W s).of.kind=4;rw[hu];exact hk)];show flds W q m _ (under W s) (under W s).of.fields.length 0 _=_;rw[hu]
  rw[h2];have h3:seenN (⟨s,[],false,false⟩:En) []=[]:=if_neg (by show ¬ s.of.kind=1;omega);rw[h3];cases flds W q m ⟨s,[],false,false⟩ s s.of.fields.length 0 (none,[]) <;> rfl
 cases hf:flds W q m ⟨s,[],false,false⟩ s s.of.fields.length 0 (none,[]) with
 | error x=>rw[hf] at h1;exact lvs_err (by simp) h1
 | ok st=>
  obtain⟨h,nx⟩:=st;rw[hf] at h1;cases h with
  | none=>exact qwo (by simp) h1
  | some h=>exact lvs_hit (by simp) h1
def ndT (d:Nat):Ty := .mk 1 d [] [] [] []
def stT (l:List Fd):Ty := .mk 4 0 [] l [] []
theorem lookM_struct {addr:Bool} {q m:Int} {n:Nat} {l:List Fd} (hm:m≠8) (hn:qj2 W=n+1):qch W (operand W (stT l)) addr q m=lvs W addr q m (n+1) [⟨operand W (stT l),[],false,false⟩] []:=by
 have hk:(operand W (stT l)).of.kind=4:=rfl;have hp:plain W (operand W (stT l))=operand W (stT l):=qbg (fun h=>by rw[hk] at h;omega);have hpl:pl W (operand W (stT l))=operand W (stT l):=by unfold pl;rw[hp,qgb (by omega)]
 unfold qch;rw[if_neg (fun h=>by rw[hp,hk] at h;omega),qt8 hm (by rw[hp,hk];omega),hpl,hn]
theorem under_of (hB:qcp W) {s s':Spot} (he:s.of=s'.of) (hk:s.of.kind=1) (hs:qdw W s):under W s=under W s':=by
 have hs':qdw W s':=fun h=>by rw[← he] at h ⊢;exact hs h
 rw[qdg hB hk hs,qdg hB (he ▸ hk) hs',he]
theorem fit_spo {t:Ty} (hF:qfz W t) (hS:qdx W t P) (hb:qbw W≤1048576) (ht:t.bulk≤1048576):∃ P',WdO W P'∧SpO W P' (operand W t):=by
 refine⟨setN W P (start W W.length+t.size),?_,?_⟩
 ·refine WdO.of hF (hS.setN hF _) hb ?_;unfold setN;rw[if_pos rfl];omega
 ·refine SpO.operand hF (hS.setN hF _) ht ?_;unfold setN;rw[if_pos rfl];omega
