import Derived.Test.YtdmmpflpnnjahaaGreatDoorK24
import Derived.Test.YtdmmpflpnnjahaaGreatDoorK42
import Derived.Deep.QuietTactic
import Derived.BigQuiet
import Derived.Test.YtdmmpflpnnjahaaGreatDoorK28
import Derived.Test.YtdmmpflpnnjahaaGreatDoorK25
import Derived.Test.YtdmmpflpnnjahaaGreatDoorK29
import Derived.Test.YtdmmpflpnnjahaaGreatDoorK32
import Derived.Test.YtdmmpflpnnjahaaGreatDoorK03
import Derived.RegionTactic
set_option linter.all false
set_option maxHeartbeats 4000000
namespace Go.Proofs.YtdmmpflpnnjahaaGreatDoor
open Go Go.RowKit Go.Proofs.Tryz
set_option maxRecDepth 100000
theorem qqi {w:World} {a:Option Addr} {c:Nat} {l:List Nat} (h:w.ownsRow 0 3 1 (.slice a l.length c) l.length (qbh l)) {k:Nat} (hk:k<l.length):
  ∃ g,a=some ⟨g,0,none⟩∧∀ wr,Below w.heap.size w wr→wr.cell? ⟨g,k,none⟩=some (.int .i64 (l.getD k 0:Nat)):=by
 obtain⟨_,_,he,hcap,h1,h2⟩:=qak h;cases he;cases a with
 | none=>have:=(h2 rfl).1;omega
 | some ad=>
  obtain⟨g,rfl,hg,-,hc⟩:=h1 ad rfl;refine⟨g,rfl,fun wr hb => ?_⟩;have:=hc k (.int .i64 (l.getD k 0:Nat)) (by simp[qbh,zv,zr hk]);rw[Nat.zero_add] at this;exact qac.below hb _ _ this
theorem qv0 (l:List Nat) (hl:l.length≤4294967296) (a a':Option Addr) (c c':Nat) (w:World) (h1:w.ownsRow 0 3 1 (.slice a l.length c) l.length (qbh l)) (h2:w.ownsRow 0 3 1 (.slice a' l.length c') l.length (qbh l)):
  Calls prog 21 #[.slice a l.length c,.slice a' l.length c'] w (qa2 (.bool true) w):=by
 have HG1:=hid fun k hk=>qqi h1 (k:=k) hk;have HG2:=hid fun k hk=>qqi h2 (k:=k) hk;obtain⟨n,hn⟩:∃ n,n=l.length:=⟨_,rfl⟩;rw[← hn] at hl HG1 HG2 ⊢;clear h1 h2 hn;go_enter func21,ntmps21
 go_wp2_with fail
 go_loopw [13] (fun jv wr=>∃ k:Nat,k≤n∧jv = .int .i64 k∧Hid (Below w.heap.size w wr)) (fun jv _=>n - (intOf jv).toNat)
 case atStart=>exact⟨0,Nat.zero_le _,rfl,hid (zp _ _)⟩
 case round=>
  obtain⟨k,hk,rfl,HB⟩:=hrel;by_cases hlt:k<n
  ·have hlt':(k:Int)<(n:Int):=by omega
   refine(HG1.out k hlt).elim fun g r1=>(HG2.out k hlt).elim fun g' r2 => ?_;have e1:=r1.1;have e2:=r2.1;have c1:=r1.2 _ HB.out;have c2:=r2.2 _ HB.out;clear r1 r2 HG1 HG2;subst e1 e2
   go_wp2_with fail
   go_quiet (fail)
   go_wp2_with fail
   go_roundw
   case rel=>exact⟨k+1,hlt,by go_num,hid (qqv HB.out)⟩
   case measure=>simp[intOf];omega
  ·obtain rfl:k=n:=by omega
   go_wp2_with fail
   go_ret
   exact⟨rfl,HB.out⟩
theorem qps (t:Ty) (w:World) {x1 x2 x3 x4:Option Addr} {d1 d2 d3 d4:Nat} (h:t.bulk≤1048576):Calls prog 7 #[.agg #[.int .i64 t.kind,.int .i64 t.num,.slice x1 t.elem.length d1,.slice x2 t.fields.length d2,.slice x3 t.methods.length d3,.slice x4 t.embeds.length d4]] w (qa2 (.bool true) w):=by
 have hb:=qbd t;have h1:=qa3 t.elem;have h2:=qbv t.fields;have h4:=qa3 t.embeds;have l1:t.elem.length≤1048576:=by omega
 have l2:t.fields.length≤1048576:=by omega
 have l3:t.methods.length≤1048576:=by omega
 have l4:t.embeds.length≤1048576:=by omega
 clear hb h1 h2 h4;go_enter func7,ntmps7
 go_wp2_with fail
 go_ret
 exact⟨rfl,(zp _ _).alloc (zl _) _⟩
theorem qu2 (w:World):TyC w ty0 [.int .i64 0,.int .i64 0,.slice none 0 0,.slice none 0 0,.slice none 0 0,.slice none 0 0]:=by
 unfold ty0;simp only[TyC];refine⟨none,0,none,0,none,0,none,0,rfl,?_,?_,?_,?_,?_,?_,?_⟩ <;> first|exact⟨zl _,zl _,zl _,zl _⟩|exact⟨by omega,by omega⟩|simp only[TysR]|simp only[FdsR]|simp only[MsR]
theorem qfz.zero {W:Wd} {t:Ty} (h:qfz W t):qfz W ty0:=by
 refine⟨h.names,h.distinct,?_,h.valid,h.declared,?_⟩
 ·unfold ty0;simp[qam]
 ·unfold qcj operand ty0;simp[qdp,qc0,qcr,qjv,qb1]
theorem qm4 (s t:ByteArray) (w:World):Calls prog 58 #[.string s,.string t] w fun e w'=>
  ∃ b,e = .returned (.pointer (some ⟨b,0,none⟩))∧w'.cell? ⟨b,0,none⟩=some (.string s)∧Below w.heap.size w w':=by
 go_enter func58,ntmps58
 go_wp2_with fail
 go_ret
 exact⟨_,rfl,by simp,bel⟩
theorem qrc (p n:Int) (w:World) (h:IsNm n) (hp:p=0∨p=1) (hT:Tabs w):
  Calls prog 32 #[.int .i64 p,.int .i64 n] w (qa2 (.string (idS p n)) w):=by
 have HT:=hid hT;clear hT;have Hn:=hid h;clear h;have hpp:qbo p=⟨#[if p=0 then 112 else 113]⟩:=rfl;rcases hp with rfl|rfl
 all_goals
  go_enter func32,ntmps32
  go_wp2_with (first
   | (go_at_call 58;refine(qm4 _ _ _).mono ?_;rintro e w1 ⟨b,rfl,hc,hb⟩;have hz:=zq hb;simp only[zd,qaa] at hz)
   | (go_at_call 39;refine(qbq _ _ Hn.out).mono ?_;rintro e w2 ⟨rfl,hb2⟩;have hz2:=zq hb2;have hc2:=qac.below hb2 _ _ hc)
   | (go_at_call 57;(first|refine(qj5 b 0 _ _ Hn.out (.inl rfl) (by exact HT.out.below bel) (by exact hc2)).mono ?_|refine(qj5 b 1 _ _ Hn.out (.inr rfl) (by exact HT.out.below bel) (by exact hc2)).mono ?_);rintro e w3 ⟨rfl,hb3⟩;have hz3:=zq hb3))
  go_ret
  exact⟨rfl,bel⟩
theorem qpi:qfz [] tyA:=by
 refine⟨fun d hd=>absurd hd (Nat.not_lt_zero _),fun d e h1 h2=>absurd h2 (Nat.not_lt_zero _),?_,fun d hd=>absurd hd (Nat.not_lt_zero _),fun d hd=>absurd hd (Nat.not_lt_zero _),?_⟩
 ·unfold tyA ty0;simp[qam,qby,IsNm]
 ·unfold qcj operand tyA ty0;simp[qdp,qc0,qcr,qjv,qb1]
theorem qmo:qdx [] tyA fun _=>1:=
 ⟨fun _=>zl _,fun d hd=>absurd hd (Nat.not_lt_zero _),fun d hd=>absurd hd (Nat.not_lt_zero _),by decide⟩
theorem wOk_nil (w:World):WOk w [] none 0:=⟨fun k hk=>absurd hk (Nat.not_lt_zero _),zl _,by decide⟩
theorem tyA_at {w:World} {b:Nat} (h:qat w b 0 [.int .i64 4,.bool false,.int .i64 0,.int .i64 0,.slice none 0 0,.slice none 0 0,.slice none 0 0,.slice none 0 0]):
  TyC w tyA [.int .i64 4,.int .i64 0,.slice none 0 0,.slice (some ⟨b,0,none⟩) 1 1,.slice none 0 0,.slice none 0 0]:=by
 unfold tyA;simp only[TyC];refine⟨none,0,some ⟨b,0,none⟩,1,none,0,none,0,rfl,⟨zl _,zl _,zl _,zl _⟩,⟨by omega,by omega⟩,⟨by omega,by omega⟩,?_,?_,?_,?_⟩
 ·simp only[TysR]
 ·simp only[FdsR,FdE,and_true];exact⟨b,0,_,rfl,⟨by omega,by omega⟩,h,qu2 w⟩
 ·simp only[MsR]
 ·simp only[TysR]
theorem qtr (w:World) (hT:Tabs w):Calls prog 14 #[] w (qa2 (.bool true) w):=by
 have hB0:∀ O:Obj,Below w.heap.size w (w.alloc O):=fun O=>(zp _ _).alloc (zl _) O;have HL:=hid (qgz [] none 0 (w.alloc (.cells #[.int .i64 4,.bool false,.int .i64 0,.int .i64 0,.slice none 0 0,.slice none 0 0,.slice none 0 0,.slice none 0 0] 80)) tyA qpi (fun d hd=>absurd hd (Nat.not_lt_zero _)) (wOk_nil _) (hT.below (hB0 _)) (by decide) _ qmo _ (tyA_at (Blk.new w 80 _).cells) false 0 4 (.inl rfl) ⟨by omega,by omega⟩);rw[qp8] at HL;have HT:=hid hT;have HB0:=hid hB0;have Hid4:Hid (∀ w1,Below w.heap.size w w1→Calls prog 32 #[.int .i64 0,.int .i64 4] w1 (qa2 (.string ⟨#[65]⟩) w1)):=hid fun w1 hb=>qrc 0 4 w1 ⟨by omega,by omega⟩ (.inl rfl) (hT.below hb);clear hT hB0;go_enter func14,ntmps14
 go_wp2_with (first
  | (go_at_call 31;refine HL.out.mono ?_;rintro e w2 ⟨x,rfl,H2⟩;(simp only[qdz,obI,obM]);have HB2:=hid ((HB0.out _).trans (H2.out.2.mono (HB0.out _).size));have HA2:Hid (∀ O1 O2:Obj,Below w2.heap.size w2 ((w2.alloc O1).alloc O2)):=hid (fun O1 O2=>((zp _ _).alloc (zl _) O1).alloc (by simp) O2);have HR1:=hid (fun(O1 O2:Obj)=>qab (S:=fun _=>False) H2.out.1 (qag.keep (HA2.out O1 O2)) fun _ _ h=>h);have HR2:Hid (∀ O1:Obj,((w2.alloc O1).alloc (.cells #[.int .i64 0] 3)).ownsRow 0 3 1 (.slice (some ⟨w2.heap.size+1,0,none⟩) 1 1) 1 [.int .i64 0]):=hid (fun O1=>by have h:=World.ownsRow_lit (base:=0) (size:=1) (e:=3) (w2.alloc O1) #[.int .i64 0] 1 (Nat.zero_le _) (by decide) rfl;simpa using h))
  | (go_at_call 21;refine(qv0 [0] (by decide) x.1 _ x.2 1 _ (HR1.out _ _) (HR2.out _)).mono ?_;rintro e w3 ⟨rfl,hb3⟩;have HB3:=hid (HB2.out.trans (((HA2.out _ _).trans (hb3.mono (HA2.out _ _).size)).mono HB2.out.size));clear hb3)
  | (go_at_call 32;refine(Hid4.out _ HB3.out).mono ?_;rintro e w4 ⟨rfl,hb4⟩))
 go_ret
 exact⟨rfl,HB3.out.trans (hb4.mono HB3.out.size)⟩
theorem qfz.nm {W:Wd} {t:Ty} (h:qfz W t):NmOk W:=fun d hd=>⟨(h.names d hd).1,(h.names d hd).2.1⟩
theorem box6 {w wr:World} {v0 v1 v2 v3 v4 v5:Value} {T:TypeId} (h:Below (w.alloc (.cells #[v0,v1,v2,v3,v4,v5] T)).heap.size (w.alloc (.cells #[v0,v1,v2,v3,v4,v5] T)) wr):
  wr.cell? ⟨w.heap.size,0,none⟩=some v0∧wr.cell? ⟨w.heap.size,1,none⟩=some v1∧wr.cell? ⟨w.heap.size,2,none⟩=some v2∧wr.cell? ⟨w.heap.size,3,none⟩=some v3∧wr.cell? ⟨w.heap.size,4,none⟩=some v4∧wr.cell? ⟨w.heap.size,5,none⟩=some v5:=by
 have hb:=(Blk.new w T [v0,v1,v2,v3,v4,v5]).keep h;exact⟨hb.cell 0,hb.cell 1,hb.cell 2,hb.cell 3,hb.cell 4,hb.cell 5⟩
section
variable {I:World→Prop} {P:Program} {ops:Array Oper} {Q:Exit→Act→World→Prop}
def wpI (I:World→Prop) (P:Program) (ops:Array Oper) (Q:Exit→Act→World→Prop):Nat→Array Bool→Act→World→Prop
 | 0,l,a,w=>I w∧Region.ready .any ops l=[]∧Q .normal a w
 | n+1,l,a,w=>I w∧(Region.ready .any ops l=[]→Q .normal a w)∧∀ i∈Region.ready .any ops l,wpOp P ops Q i (wpI I P ops Q n (l.setIfInBounds i true)) a w
theorem wpI.any:∀ (n:Nat) (l:Array Bool) (a:Act) (w:World),wpI I P ops Q n l a w→wpAny P .any ops Q n l a w
 | 0,_,_,_,h=>h.2
 | n+1,_,_,_,h=>⟨h.2.1,fun i hi=>wpOp_mono (fun a w=>wpI.any n _ a w) (h.2.2 i hi)⟩
def Reads (I:World→Prop) (P:Program) (ops:Array Oper) (o:Oper) (v:Value) (a:Act):Prop:=
 (Region.wanted o (yielded ops a.tmps)=true∧∀ w,I w→(execOp a.eval o).run P w = .ok (.value v) w)∨(Region.wanted o (yielded ops a.tmps)=false∧v=undef)
theorem Reads.step {i:Nat} {o:Oper} {v:Value} {a:Act} (hi:ops[i]?=some o) (hy:Reads I P ops o v a) {K:Act→World→Prop} {w:World} (hw:I w) (h:K (a.put o.dst v) w):wpOp P ops Q i K a w:=by
 unfold wpOp;rw[hi];rcases hy with ⟨h1,h2⟩|⟨h1,rfl⟩
 ·simp only[h1,if_true];refine .inl ?_;unfold Oper.wp;rw[h2 w hw];exact h
 ·simp only[h1];exact h
theorem Reads.of_same {o:Oper} {v:Value} {a a':Act} (hy:Reads I P ops o v a) (he:execOp a'.eval o=execOp a.eval o) (hw:Region.wanted o (yielded ops a'.tmps)=Region.wanted o (yielded ops a.tmps)):Reads I P ops o v a':=by
 unfold Reads;rw[he,hw];exact hy
theorem Reads.past {j:Nat} {oi oj:Oper} {v:Value} (hj:ops[j]?=some oj) (hap:oi.apart ops oj=true) (hsi:∀ cs b,oi.op ≠ .select cs b) (hsj:∀ cs b,oj.op ≠ .select cs b)
  (hQ:∀ c a w,Q (.panic c) (a.put oi.dst v) w→Q (.panic c) a w) {K:Act→World→Prop} {a:Act} {w:World} (hy:Reads I P ops oi v a) (h:wpOp P ops Q j K (a.put oi.dst v) w):
  wpOp P ops Q j (fun a' w'=>Reads I P ops oi v a'∧K (a'.put oi.dst v) w') a w:=by
 obtain⟨p1,p2,p3⟩:=Oper.apart_spec hap;have kp:∀ (b:Act) u,Reads I P ops oi v b→Reads I P ops oi v (b.put oj.dst u):=fun b u hb=>hb.of_same (execOp_put oi hsi b oj.dst u p3) (wanted_put oi b oj.dst u p3);have ee:=execOp_put oj hsj a oi.dst v p1;have sw:∀ (b:Act) u,(b.put oi.dst v).put oj.dst u=(b.put oj.dst u).put oi.dst v:=fun b u=>Act.put_comm b v u p2;unfold wpOp at h ⊢;rw[hj] at h ⊢;simp only[wanted_put oj a oi.dst v p1] at h ⊢;by_cases hw:Region.wanted oj (yielded ops a.tmps)=true
 ·simp only[hw,if_true] at h ⊢;rcases h with h|⟨h1,h2⟩
  ·refine .inl ?_;unfold Oper.wp at h ⊢;rw[ee] at h;rcases hr:(execOp a.eval oj).run P w with ⟨n,w'⟩|⟨x,w'⟩
   ·rw[hr] at h;cases n
    case value u=>exact⟨kp a u hy,(sw a u) ▸ h⟩
    case skip=>exact⟨kp a undef hy,(sw a undef) ▸ h⟩
    case defer d=>
     simp only[Oper.upon] at h ⊢;refine⟨kp _ undef (hy.of_same rfl rfl),?_⟩;have hd:({ a.put oi.dst v with defers:=d::(a.put oi.dst v).defers }:Act)=({ a with defers:=d::a.defers }:Act).put oi.dst v:=by cases oi.dst <;> rfl
     rw[← sw,← hd];exact h
    case enter f args=>
     simp only[Oper.upon] at h ⊢;refine Calls.mono h fun e w2 he => ?_;cases e
     case returned u=>exact⟨kp a u hy,(sw a u) ▸ he⟩
     case panicked c=>exact hQ _ _ _ he
     case outgrown=>exact he
    case row rw args=>
     simp only[Oper.upon] at h ⊢;exact Rows.mono h fun u w2 he=>⟨kp a u hy,(sw a u) ▸ he⟩
    all_goals exact h
   ·rw[hr] at h;cases x
    case panic u=>exact hQ _ _ _ h
    all_goals exact h
  ·refine .inr ⟨?_,h2⟩;unfold Oper.asks at h1 ⊢;rw[ee] at h1;exact h1
 ·simp only[hw] at h ⊢;exact⟨kp a undef hy,(sw a undef) ▸ h⟩
theorem wpI_first {i:Nat} {oi:Oper} {v:Value} (hi:ops[i]?=some oi) (hs:∀ (j:Nat) (o:Oper) cs b,ops[j]?=some o→o.op ≠ .select cs b) (hQ:∀ c a w,Q (.panic c) (a.put oi.dst v) w→Q (.panic c) a w):
  ∀ (n:Nat) (l:Array Bool) (a:Act) (w:World),(∀ j oj,ops[j]?=some oj→j≠i→l.getD j true=false→(∀ e∈oj.after,Region.binds .any e=true→e.on≠i)→oi.apart ops oj=true)→
   i∈Region.ready .any ops l→Reads I P ops oi v a→wpI I P ops Q n (l.setIfInBounds i true) (a.put oi.dst v) w→wpI I P ops Q (n+1) l a w
 | 0,l,a,w,_,hr,hy,H=>⟨H.1,fun h=>(by rw[h] at hr;cases hr),fun j hj=>by
  by_cases hji:j=i
  ·subst hji;exact hy.step hi H.1 H
  ·have h1:=ready_mono hj hji;rw[H.2.1] at h1;cases h1⟩
 | n+1,l,a,w,hf,hr,hy,H=>⟨H.1,fun h=>(by rw[h] at hr;cases hr),fun j hj=>by
  by_cases hji:j=i
  ·subst hji;exact hy.step hi H.1 H
  ·obtain⟨hu,oj,hoj,hall⟩:=mem_ready.1 hj;have hno:∀ e∈oj.after,Region.binds .any e=true→e.on≠i:=fun e he hb q=>by
    have q1:=hall e he hb;have q2:=(mem_ready.1 hr).1;rw[q] at q1;by_cases hl:i<l.size
    ·simp[hl] at q1 q2;rw[q2] at q1;cases q1
    ·simp[hl] at q1
   have h2:=Reads.past hoj (hf j oj hoj hji hu hno) (fun cs b=>hs i oi cs b hi) (fun cs b=>hs j oj cs b hoj) hQ hy (H.2.2 j (ready_mono hj hji));refine wpOp_mono (fun a' w' q=>wpI_first hi hs hQ n (l.setIfInBounds j true) a' w' (fun k ok hk hki hku hkn=>hf k ok hk hki ?_ hkn) (ready_mono hr (Ne.symm hji)) q.1 ?_) h2
   ·by_cases hjk:j=k
    ·subst hjk;exact hu
    ·rwa [getD_set_ne true hjk] at hku
   ·rw[Array.setIfInBounds_comm _ _ hji];exact q.2⟩
theorem wpI_region {id:Nat} {a:Act} {w:World} (I:World→Prop) (hm:P.follows .mixedOrders=true) (h:wpI I P ops Q ops.size (Array.replicate ops.size false) a w.drew):(Code.region id ops true).wp P Q a w:=wp_region_any hm (wpI.any _ _ _ _ h)
theorem wpI_take {i:Nat} {oi:Oper} {v:Value} {n:Nat} {l:Array Bool} {a:Act} {w:World} (hi:ops[i]?=some oi) (hs:Region.noSelect ops=true) (hf:Region.free .any ops l i=true) (hr:(Region.ready .any ops l).contains i=true)
  (hQ:∀ c a w,Q (.panic c) (a.put oi.dst v) w→Q (.panic c) a w) (hy:Reads I P ops oi v a) (h:wpI I P ops Q n (l.setIfInBounds i true) (a.put oi.dst v) w):wpI I P ops Q (n+1) l a w:=
 wpI_first hi (Region.noSelect_spec hs) hQ n l a w (Region.free_spec hi hf) (by simpa using hr) hy h
theorem wpI_step {i:Nat} {o:Oper} {n:Nat} {l:Array Bool} {a:Act} {w:World} (ho:ops[i]?=some o) (hw:Region.wanted o (yielded ops a.tmps)=true)
  (h:∀ K:Act→World→Prop,(∀ a w,wpI I P ops Q n (l.setIfInBounds i true) a w→K a w)→o.wp P a w K Q):wpOp P ops Q i (wpI I P ops Q n (l.setIfInBounds i true)) a w:=by
 unfold wpOp;rw[ho];simp only[hw,if_true];exact .inl (h _ fun _ _ h=>h)
theorem wpI_one {i:Nat} {o:Oper} {n:Nat} {l:Array Bool} {a:Act} {w:World} (hr:Region.ready .any ops l=[i]) (ho:ops[i]?=some o) (hI:I w) (hw:Region.wanted o (yielded ops a.tmps)=true)
  (h:∀ K:Act→World→Prop,(∀ a w,wpI I P ops Q n (l.setIfInBounds i true) a w→K a w)→o.wp P a w K Q):wpI I P ops Q (n+1) l a w:=
 ⟨hI,fun e=>(by rw[hr] at e;cases e),fun j hj=>by
  rw[hr] at hj;obtain rfl:=zfb.1 hj;exact wpI_step ho hw h⟩
theorem wpI_done {l:Array Bool} {a:Act} {w:World} (hr:Region.ready .any ops l=[]) (hI:I w) (h:Q .normal a w):∀ n,wpI I P ops Q n l a w
 | 0=>⟨hI,hr,h⟩
 | _+1=>⟨hI,fun _=>h,by rw[hr];simp⟩
end
