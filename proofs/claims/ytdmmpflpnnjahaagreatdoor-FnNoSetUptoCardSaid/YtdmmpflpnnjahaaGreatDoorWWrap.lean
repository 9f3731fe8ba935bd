import Derived.Test.YtdmmpflpnnjahaaGreatDoorK24
import Derived.Test.YtdmmpflpnnjahaaGreatDoorK32
import Derived.Test.YtdmmpflpnnjahaaGreatDoorK27
import Derived.Test.YtdmmpflpnnjahaaGreatDoorK37
set_option linter.all false
namespace Go.Proofs.YtdmmpflpnnjahaaGreatDoor
open Go Go.RowKit
variable {W:Wd} {P:Nat→Nat}
def EnT (W:Wd) (P:Nat→Nat) (e:En):Prop:=SpO W P e.to∧(e.to.of.kind=1→e.to.of.num.toNat<W.length∧(dc W e.to.of.num.toNat).alias=false)
theorem EnT.pl (hW:WdO W P) {s:Spot} (hs:SpO W P s) {e:En} (he:e.to=Go.Proofs.YtdmmpflpnnjahaaGreatDoor.pl W s):EnT W P e:=by
 have h1:=(hs.toPl hW).1;obtain⟨q1,q2⟩:=qjj hW.by_ hs.numOk;refine⟨he ▸ h1,fun hk => ?_⟩;rw[he] at hk ⊢;unfold Go.Proofs.YtdmmpflpnnjahaaGreatDoor.pl at hk ⊢;rw[qfn] at hk;rw[qmd];have:=q1 hk;exact⟨by omega,q2 hk⟩
structure NxT (W:Wd) (P:Nat→Nat) (cur:List En) (S:List Nat) (nx:List En) (S':List Nat) (lv:Nat):Prop where
 ok:NxOk W P cur S nx S' lv
 ty:∀ e∈nx,EnT W P e
theorem NxT.add (hW:WdO W P) {cur:List En} {S:List Nat} {nx:List En} {S':List Nat} {lv:Nat} (h:NxT W P cur S nx S' lv) {e:En} (he:e∈cur) (hs:EnT W P e) (hk:(qae W e.to).of.kind=4) {i:Nat} (hi:i<(qae W e.to).of.fields.length) (hem:((qae W e.to).of.fields.getD i fd0).embedded=true)
  (hn:e.to.of.kind=1→S.length<S'.length) (hl:e.ix.length≤lv):NxT W P cur S (nx++[subE W e (qae W e.to) i]) S' lv:=by
 refine⟨h.ok.add hW he hs.1 hk hi hem hn hl,fun x hx => ?_⟩;rcases zib.1 hx with hx|hx
 ·exact h.ty x hx
 ·rw[zfb.1 hx];obtain⟨hf,-⟩:=(hs.1.toUnder hW).field hk hi;exact EnT.pl hW (drf_op hW hf).1 rfl
theorem NxT.seenN {cur:List En} {S:List Nat} {nx:List En} {S':List Nat} {lv:Nat} (h:NxT W P cur S nx S' lv) {e:En} (hs:EnT W P e) (hn:e.to.of.kind=1→e.to.of.num.toNat ∉ S'):NxT W P cur S nx (seenN e S') lv∧(e.to.of.kind=1→S.length<(seenN e S').length):=by
 unfold Go.Proofs.YtdmmpflpnnjahaaGreatDoor.seenN;by_cases hk:e.to.of.kind=1
 ·rw[if_pos hk];obtain⟨h1,h2⟩:=h.ok.seen (hs.2 hk) (hn hk);exact⟨⟨h1,h.ty⟩,fun _=>h2⟩
 ·rw[if_neg hk];exact⟨h,fun e=>absurd e hk⟩
def pre (j:Nat) (e:En):En:={ e with ix:=j::e.ix }
def ndT (d:Nat):Ty := .mk 1 d [] [] [] []
