import Derived.Test.YtmfhclggkjjcdaaGreatDoorL03
import Derived.RegionTactic
set_option linter.all false
namespace Go.Proofs.YtmfhclggkjjcdaaGreatDoor
open Go Go.RowKit
section
variable {I:World→Prop} {P:Program} {ops:Array Oper} {Q:Exit→Act→World→Prop}
def wpI (I:World→Prop) (P:Program) (ops:Array Oper) (Q:Exit→Act→World→Prop):Nat→Array Bool→Act→World→Prop
 | 0,l,a,w=>I w∧Region.ready .any ops l=[]∧Q .normal a w
 | n+1,l,a,w=>I w∧(Region.ready .any ops l=[]→Q .normal a w)∧∀ i∈Region.ready .any ops l,wpOp P ops Q i (wpI I P ops Q n (l.setIfInBounds i true)) a w
theorem wpI.any:∀ (n:Nat) (l:Array Bool) (a:Act) (w:World),wpI I P ops Q n l a w→wpAny P .any ops Q n l a w
 | 0,_,_,_,h=>h.2
 | n+1,_,_,_,h=>⟨h.2.1,fun i hi=>wpOp_mono (fun a w=>wpI.any n _ a w) (h.2.2 i hi)⟩
def Reads (I:World→Prop) (P:Program) (ops:Array Oper) (o:Oper) (v:Value) (a:Act):Prop:=
 (Region.wanted o (yielded ops a.tmps)=true∧∀ w,I w→(execOp a.eval o).run P w = .ok (.value v) w)∨(Region.wanted o (yielded ops a.tmps)=false∧v=undef)
theorem Reads.step {i:Nat} {o:Oper} {v:Value} {a:Act} (hi:ops[i]?=some o) (hy:Reads I P ops o v a) {K:Act→World→Prop} {w:World} (hw:I w) (h:K (a.put o.dst v) w):wpOp P ops Q i K a w:=by
 unfold wpOp;rw[hi];rcases hy with ⟨h1,h2⟩|⟨h1,rfl⟩
 ·simp only[h1,if_true];refine .inl ?_;unfold Oper.wp;rw[h2 w hw];exact h
 ·simp only[h1];exact h
theorem Reads.of_same {o:Oper} {v:Value} {a a':Act} (hy:Reads I P ops o v a) (he:execOp a'.eval o=execOp a.eval o) (hw:Region.wanted o (yielded ops a'.tmps)=Region.wanted o (yielded ops a.tmps)):Reads I P ops o v a':=by
 unfold Reads;rw[he,hw];exact hy
theorem Reads.past {j:Nat} {oi oj:Oper} {v:Value} (hj:ops[j]?=some oj) (hap:oi.apart ops oj=true) (hsi:∀ cs b,oi.op ≠ .select cs b) (hsj:∀ cs b,oj.op ≠ .select cs b)
  (hQ:∀ c a w,Q (.panic c) (a.put oi.dst v) w→Q (.panic c) a w) {K:Act→World→Prop} {a:Act} {w:World} (hy:Reads I P ops oi v a) (h:wpOp P ops Q j K (a.put oi.dst v) w):
  wpOp P ops Q j (fun a' w'=>Reads I P ops oi v a'∧K (a'.put oi.dst v) w') a w:=by
 obtain⟨p1,p2,p3⟩:=Oper.apart_spec hap;have kp:∀ (b:Act) u,Reads I P ops oi v b→Reads I P ops oi v (b.put oj.dst u):=fun b u hb=>hb.of_same (execOp_put oi hsi b oj.dst u p3) (wanted_put oi b oj.dst u p3);have ee:=execOp_put oj hsj a oi.dst v p1;have sw:∀ (b:Act) u,(b.put oi.dst v).put oj.dst u=(b.put oj.dst u).put oi.dst v:=fun b u=>Act.put_comm b v u p2;unfold wpOp at h ⊢;rw[hj] at h ⊢;simp only[wanted_put oj a oi.dst v p1] at h ⊢;by_cases hw:Region.wanted oj (yielded ops a.tmps)=true
 ·simp only[hw,if_true] at h ⊢;rcases h with h|⟨h1,h2⟩
  ·refine .inl ?_;unfold Oper.wp at h ⊢;rw[ee] at h;rcases hr:(execOp a.eval oj).run P w with ⟨n,w'⟩|⟨x,w'⟩
   ·rw[hr] at h;cases n
    case value u=>exact⟨kp a u hy,(sw a u) ▸ h⟩
    case skip=>exact⟨kp a undef hy,(sw a undef) ▸ h⟩
    case defer d=>
     simp only[Oper.upon] at h ⊢;refine⟨kp _ undef (hy.of_same rfl rfl),?_⟩;have hd:({ a.put oi.dst v with defers:=d::(a.put oi.dst v).defers }:Act)=({ a with defers:=d::a.defers }:Act).put oi.dst v:=by cases oi.dst <;> rfl
     rw[← sw,← hd];exact h
    case enter f args=>
     simp only[Oper.upon] at h ⊢;refine Calls.mono h fun e w2 he => ?_;cases e
     case returned u=>exact⟨kp a u hy,(sw a u) ▸ he⟩
     case panicked c=>exact hQ _ _ _ he
     case outgrown=>exact he
    case row rw args=>
     simp only[Oper.upon] at h ⊢;exact Rows.mono h fun u w2 he=>⟨kp a u hy,(sw a u) ▸ he⟩
    all_goals exact h
   ·rw[hr] at h;cases x
    case panic u=>exact hQ _ _ _ h
    all_goals exact h
  ·refine .inr ⟨?_,h2⟩;unfold Oper.asks at h1 ⊢;rw[ee] at h1;exact h1
 ·simp only[hw] at h ⊢;exact⟨kp a undef hy,(sw a undef) ▸ h⟩
theorem wpI_first {i:Nat} {oi:Oper} {v:Value} (hi:ops[i]?=some oi) (hs:∀ (j:Nat) (o:Oper) cs b,ops[j]?=some o→o.op ≠ .select cs b) (hQ:∀ c a w,Q (.panic c) (a.put oi.dst v) w→Q (.panic c) a w):
  ∀ (n:Nat) (l:Array Bool) (a:Act) (w:World),(∀ j oj,ops[j]?=some oj→j≠i→l.getD j true=false→(∀ e∈oj.after,Region.binds .any e=true→e.on≠i)→oi.apart ops oj=true)→
   i∈Region.ready .any ops l→Reads I P ops oi v a→wpI I P ops Q n (l.setIfInBounds i true) (a.put oi.dst v) w→wpI I P ops Q (n+1) l a w
 | 0,l,a,w,_,hr,hy,H=>⟨H.1,fun h=>(by rw[h] at hr;cases hr),fun j hj=>by
  by_cases hji:j=i
  ·subst hji;exact hy.step hi H.1 H
  ·have h1:=ready_mono hj hji;rw[H.2.1] at h1;cases h1⟩
 | n+1,l,a,w,hf,hr,hy,H=>⟨H.1,fun h=>(by rw[h] at hr;cases hr),fun j hj=>by
  by_cases hji:j=i
  ·subst hji;exact hy.step hi H.1 H
  ·obtain⟨hu,oj,hoj,hall⟩:=mem_ready.1 hj;have hno:∀ e∈oj.after,Region.binds .any e=true→e.on≠i:=fun e he hb q=>by
    have q1:=hall e he hb;have q2:=(mem_ready.1 hr).1;rw[q] at q1;by_cases hl:i<l.size
    ·simp[hl] at q1 q2;rw[q2] at q1;cases q1
    ·simp[hl] at q1
   have h2:=Reads.past hoj (hf j oj hoj hji hu hno) (fun cs b=>hs i oi cs b hi) (fun cs b=>hs j oj cs b hoj) hQ hy (H.2.2 j (ready_mono hj hji));refine wpOp_mono (fun a' w' q=>wpI_first hi hs hQ n (l.setIfInBounds j true) a' w' (fun k ok hk hki hku hkn=>hf k ok hk hki ?_ hkn) (ready_mono hr (Ne.symm hji)) q.1 ?_) h2
   ·by_cases hjk:j=k
    ·subst hjk;exact hu
    ·rwa [getD_set_ne true hjk] at hku
   ·rw[Array.setIfInBounds_comm _ _ hji];exact q.2⟩
theorem wpI_region {id:Nat} {a:Act} {w:World} (I:World→Prop) (hm:P.follows .mixedOrders=true) (h:wpI I P ops Q ops.size (Array.replicate ops.size false) a w.drew):(Code.region id ops true).wp P Q a w:=wp_region_any hm (wpI.any _ _ _ _ h)
theorem wpI_take {i:Nat} {oi:Oper} {v:Value} {n:Nat} {l:Array Bool} {a:Act} {w:World} (hi:ops[i]?=some oi) (hs:Region.noSelect ops=true) (hf:Region.free .any ops l i=true) (hr:(Region.ready .any ops l).contains i=true)
  (hQ:∀ c a w,Q (.panic c) (a.put oi.dst v) w→Q (.panic c) a w) (hy:Reads I P ops oi v a) (h:wpI I P ops Q n (l.setIfInBounds i true) (a.put oi.dst v) w):wpI I P ops Q (n+1) l a w:=
 wpI_first hi (Region.noSelect_spec hs) hQ n l a w (Region.free_spec hi hf) (by simpa using hr) hy h
theorem wpI_step {i:Nat} {o:Oper} {n:Nat} {l:Array Bool} {a:Act} {w:World} (ho:ops[i]?=some o) (hw:Region.wanted o (yielded ops a.tmps)=true)
  (h:∀ K:Act→World→Prop,(∀ a w,wpI I P ops Q n (l.setIfInBounds i true) a w→K a w)→o.wp P a w K Q):wpOp P ops Q i (wpI I P ops Q n (l.setIfInBounds i true)) a w:=by
 unfold wpOp;rw[ho];simp only[hw,if_true];exact .inl (h _ fun _ _ h=>h)
theorem wpI_one {i:Nat} {o:Oper} {n:Nat} {l:Array Bool} {a:Act} {w:World} (hr:Region.ready .any ops l=[i]) (ho:ops[i]?=some o) (hI:I w) (hw:Region.wanted o (yielded ops a.tmps)=true)
  (h:∀ K:Act→World→Prop,(∀ a w,wpI I P ops Q n (l.setIfInBounds i true) a w→K a w)→o.wp P a w K Q):wpI I P ops Q (n+1) l a w:=
 ⟨hI,fun e=>(by rw[hr] at e;cases e),fun j hj=>by
  rw[hr] at hj;obtain rfl:=zfb.1 hj;exact wpI_step ho hw h⟩
theorem wpI_done {l:Array Bool} {a:Act} {w:World} (hr:Region.ready .any ops l=[]) (hI:I w) (h:Q .normal a w):∀ n,wpI I P ops Q n l a w
 | 0=>⟨hI,hr,h⟩
 | _+1=>⟨hI,fun _=>h,by rw[hr];simp⟩
end
