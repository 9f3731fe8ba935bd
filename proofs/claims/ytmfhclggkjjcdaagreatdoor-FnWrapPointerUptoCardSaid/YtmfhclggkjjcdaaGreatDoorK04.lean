import Derived.Test.YtmfhclggkjjcdaaGreatDoorRows
import Derived.Test.YtmfhclggkjjcdaaGreatDoorK03
import Derived.OpenShut
import Derived.ChangeArms
import Derived.Deep.Slices
import Derived.Carry
import Derived.Test.YtmfhclggkjjcdaaGreatDoorK01
import Derived.RowKitTokens
import Derived.ProofKit
import Derived.Deep.DeepHandedRow
import Derived.LaidMore
import Derived.Lay
import Derived.Test.YtmfhclggkjjcdaaGreatDoorCards
import Derived.Test.YtmfhclggkjjcdaaGreatDoorTie
import Derived.Lib.LaidTab
import Derived.Lib.LaidU8
import Derived.Lib.LaidRTab
import Derived.SevenTiedAt
import Derived.Stop.Joined
import Derived.Sort.Grow
import Derived.OwnWalk
set_option linter.all false
namespace Go.Proofs.YtmfhclggkjjcdaaGreatDoor
open Go Go.RowKit
open Go.ChangeShapes Go.Deep
set_option maxRecDepth 100000
section
variable {H:Type} {enc:TypeId×Value→H} {P:Program} {w:World} {base:Nat} {spare:Nat→Bool} {held:Bool}
abbrev DP (H:Type):=DataW H×List MemPlace
theorem st2 {t:TypeId} {f0 f1:Field} {fuel:Nat} {cs:List Value} {x:DP H} (ht:P.underlying t=some (.struct #[f0,f1])) (h:DataW.trod enc P w base spare held fuel t cs=some x):
  ∃ (y0 y1:DP H) (n:Nat),fuel=n+1∧x.1 = .agg [y0.1,y1.1]∧cs.length=P.cellsOf t∧DataW.trod enc P w base spare held n f0.type ((cs.drop f0.offset).take (P.cellsOf f0.type))=some y0∧
   DataW.trod enc P w base spare held n f1.type ((cs.drop f1.offset).take (P.cellsOf f1.type))=some y1:=by
 obtain⟨xs,n,e,rfl,hl,hlen,hf⟩:=DataW.trod_struct ht h
 match xs,hlen with
 | [y0,y1],_=>exact⟨y0,y1,n,e,by simp,hl,by simpa using hf 0 f0 rfl,by simpa using hf 1 f1 rfl⟩
theorem st3 {t:TypeId} {f0 f1 f2:Field} {fuel:Nat} {cs:List Value} {x:DP H} (ht:P.underlying t=some (.struct #[f0,f1,f2])) (h:DataW.trod enc P w base spare held fuel t cs=some x):
  ∃ (y0 y1 y2:DP H) (n:Nat),fuel=n+1∧x.1 = .agg [y0.1,y1.1,y2.1]∧cs.length=P.cellsOf t∧DataW.trod enc P w base spare held n f0.type ((cs.drop f0.offset).take (P.cellsOf f0.type))=some y0∧
   DataW.trod enc P w base spare held n f1.type ((cs.drop f1.offset).take (P.cellsOf f1.type))=some y1∧DataW.trod enc P w base spare held n f2.type ((cs.drop f2.offset).take (P.cellsOf f2.type))=some y2:=by
 obtain⟨xs,n,e,rfl,hl,hlen,hf⟩:=DataW.trod_struct ht h
 match xs,hlen with
 | [y0,y1,y2],_=>exact⟨y0,y1,y2,n,e,by simp,hl,by simpa using hf 0 f0 rfl,by simpa using hf 1 f1 rfl,by simpa using hf 2 f2 rfl⟩
theorem st5 {t:TypeId} {f0 f1 f2 f3 f4:Field} {fuel:Nat} {cs:List Value} {x:DP H} (ht:P.underlying t=some (.struct #[f0,f1,f2,f3,f4])) (h:DataW.trod enc P w base spare held fuel t cs=some x):
  ∃ (y0 y1 y2 y3 y4:DP H) (n:Nat),fuel=n+1∧x.1 = .agg [y0.1,y1.1,y2.1,y3.1,y4.1]∧cs.length=P.cellsOf t∧DataW.trod enc P w base spare held n f0.type ((cs.drop f0.offset).take (P.cellsOf f0.type))=some y0∧
   DataW.trod enc P w base spare held n f1.type ((cs.drop f1.offset).take (P.cellsOf f1.type))=some y1∧DataW.trod enc P w base spare held n f2.type ((cs.drop f2.offset).take (P.cellsOf f2.type))=some y2∧
   DataW.trod enc P w base spare held n f3.type ((cs.drop f3.offset).take (P.cellsOf f3.type))=some y3∧DataW.trod enc P w base spare held n f4.type ((cs.drop f4.offset).take (P.cellsOf f4.type))=some y4:=by
 obtain⟨xs,n,e,rfl,hl,hlen,hf⟩:=DataW.trod_struct ht h
 match xs,hlen with
 | [y0,y1,y2,y3,y4],_=>exact⟨y0,y1,y2,y3,y4,n,e,by simp,hl,by simpa using hf 0 f0 rfl,by simpa using hf 1 f1 rfl,by simpa using hf 2 f2 rfl,by simpa using hf 3 f3 rfl,by simpa using hf 4 f4 rfl⟩
theorem st6 {t:TypeId} {f0 f1 f2 f3 f4 f5:Field} {fuel:Nat} {cs:List Value} {x:DP H} (ht:P.underlying t=some (.struct #[f0,f1,f2,f3,f4,f5])) (h:DataW.trod enc P w base spare held fuel t cs=some x):
  ∃ (y0 y1 y2 y3 y4 y5:DP H) (n:Nat),fuel=n+1∧x.1 = .agg [y0.1,y1.1,y2.1,y3.1,y4.1,y5.1]∧cs.length=P.cellsOf t∧DataW.trod enc P w base spare held n f0.type ((cs.drop f0.offset).take (P.cellsOf f0.type))=some y0∧
   DataW.trod enc P w base spare held n f1.type ((cs.drop f1.offset).take (P.cellsOf f1.type))=some y1∧DataW.trod enc P w base spare held n f2.type ((cs.drop f2.offset).take (P.cellsOf f2.type))=some y2∧
   DataW.trod enc P w base spare held n f3.type ((cs.drop f3.offset).take (P.cellsOf f3.type))=some y3∧DataW.trod enc P w base spare held n f4.type ((cs.drop f4.offset).take (P.cellsOf f4.type))=some y4∧
   DataW.trod enc P w base spare held n f5.type ((cs.drop f5.offset).take (P.cellsOf f5.type))=some y5:=by
 obtain⟨xs,n,e,rfl,hl,hlen,hf⟩:=DataW.trod_struct ht h
 match xs,hlen with
 | [y0,y1,y2,y3,y4,y5],_=>exact⟨y0,y1,y2,y3,y4,y5,n,e,by simp,hl,by simpa using hf 0 f0 rfl,by simpa using hf 1 f1 rfl,by simpa using hf 2 f2 rfl,by simpa using hf 3 f3 rfl,by simpa using hf 4 f4 rfl,by simpa using hf 5 f5 rfl⟩
theorem qjb {t e:TypeId} {n:Nat} {cs:List Value} {x:DP H} (ht:P.underlying t=some (.slice e)) (hc:0<P.cellsOf e) (h:DataW.trod enc P w base spare held n t cs=some x) {α:Type} (R:List Value→α→DataW H→Prop)
  (ih:∀ m cs y,m<n→DataW.trod enc P w base spare held m e cs=some y→∃ u,R cs u y.1):
  ∃ (a:Option Addr) (c:Nat) (l:List α) (ds rs:List (DataW H)),cs=[.slice a l.length c]∧l.length≤c∧(x.1 = .slice ds rs∨x.1 = .nil∧ds=[])∧ds.length=l.length∧
   ∀ (i:Nat) (hi:i<l.length) (hd:i<ds.length),∃ b o cs',a=some ⟨b,o,none⟩∧qat w b (o+i * P.cellsOf e) cs'∧R cs' l[i] ds[i]:=by
 rcases DataW.trod_slice ht h with ⟨rfl,rfl⟩|⟨a,len,cap,elems,rest,m,rfl,rfl,rfl,-,hlc,-,hel,hget,-⟩
 ·exact⟨none,0,[],[],[],rfl,zl _,.inr ⟨rfl,rfl⟩,rfl,fun i hi=>absurd hi (Nat.not_lt_zero _)⟩
 ·have h1:∀ i,∃ u:Option α,i<len→∃ v,u=some v∧∃ (hi:i<elems.length),∃ cs',w.cells? base (a.add (i * P.cellsOf e)) (P.cellsOf e)=some cs'∧R cs' v elems[i].1:=fun i=>by
   by_cases hi:i<len
   ·have h2:=hget i hi;have hi':i<elems.length:=by omega
    rw[zr hi'] at h2;obtain⟨cs',h3,h4⟩:=Option.bind_eq_some_iff.1 h2;obtain⟨u,hu⟩:=ih m cs' elems[i] (zw _) h4;exact⟨some u,fun _=>⟨u,rfl,hi',cs',h3,hu⟩⟩
   ·exact⟨none,fun h=>absurd h hi⟩
  obtain⟨f,hf⟩:=Classical.skolem.1 h1;have h2:∀ k,k≤len→∃ l:List α,l.length=k∧∀ i (hi:i<l.length),f i=some l[i]:=fun k=>by
   induction k with
   | zero=>intro _;exact⟨[],rfl,fun i hi=>absurd hi (Nat.not_lt_zero _)⟩
   | succ k ihk=>
    intro hk;obtain⟨l,h3,h4⟩:=ihk (by omega);obtain⟨v,h5,-⟩:=hf k (by omega);refine⟨l++[v],by simp[h3],fun i hi => ?_⟩;by_cases hik:i<l.length
    ·rw[List.getElem_append_left hik];exact h4 i hik
    ·have:i=k:=by simp at hi;omega
     subst this;rw[List.getElem_append_right (by omega)];simpa[h3] using h5
  obtain⟨l,h3,h4⟩:=h2 len (zl _);refine⟨some a,cap,l,elems.map (·.1),rest.map (·.1),by rw[h3],by omega,.inl rfl,by simp[h3,hel],fun i hi hd => ?_⟩;obtain⟨v,h5,hi',cs',h6,h7⟩:=hf i (by omega);rw[h4 i hi] at h5;cases h5;obtain⟨-,h8,h9⟩:=World.cells?_some h6;have hspot:a.spot=none:=by
   obtain⟨v0,-,-,cs0,h60,-⟩:=hf 0 (by omega);obtain⟨-,h80,h90⟩:=World.cells?_some h60;have h0:∃ u,w.cell? ((a.add (0 * P.cellsOf e)).add 0)=some u:=by
    rw[h90 0 hc];exact⟨cs0[0]'(by omega),zr _⟩
   obtain⟨u,hu⟩:=h0;simpa[Addr.add] using World.cell?_spot hu
  obtain⟨b,o,s⟩:=a;simp only at hspot;subst hspot;refine⟨b,o,cs',rfl,fun j u hj => ?_,by simpa using h7⟩;have hjl:j<P.cellsOf e:=by rw[← h8];exact(zjb.1 hj).1
  have:=h9 j hjl;rw[hj] at this;rw[Addr.add_lit,Addr.add_lit] at this;exact this
theorem ql1 {n:Int} (h:(Lit.int .i64 n).wf=true):i64 n:=by
 simp only[Lit.wf,Bool.and_eq_true,decide_eq_true_eq] at h;unfold i64;obtain⟨h1,h2⟩:=h;constructor
 ·exact h1
 ·exact h2
end
theorem c6:Tryz.prog.cellsOf 29=6:=by kernel_rfl
theorem c8:Tryz.prog.cellsOf 60=8:=by kernel_rfl
theorem c2:Tryz.prog.cellsOf 84=2:=by kernel_rfl
theorem c10:Tryz.prog.cellsOf 39=10:=by kernel_rfl
theorem ci:Tryz.prog.cellsOf 3=1:=by kernel_rfl
theorem cb:Tryz.prog.cellsOf 4=1:=by kernel_rfl
theorem cst:Tryz.prog.cellsOf 25=1:=by kernel_rfl
theorem csf:Tryz.prog.cellsOf 26=1:=by kernel_rfl
theorem csm:Tryz.prog.cellsOf 27=1:=by kernel_rfl
theorem ub_pos {H:Type} (d:DataW H):1≤Rows.uptoBulk d:=by
 cases d with
 | lit l=>cases l <;> simp[Rows.uptoBulk]
 | _=>simp[Rows.uptoBulk]
theorem qxa {H:Type}:∀ l:List (DataW H),l.length≤Rows.uptoBulkAll l
 | []=>Nat.zero_le _
 | d::r=>by have:=qxa r;have:=ub_pos d;simp only[Rows.uptoBulkAll,List.length_cons];omega
theorem qqj {H:Type}:∀ (l:List Ty) (ds:List (DataW H)),ds.length=l.length→(∀ i (hi:i<l.length) (hd:i<ds.length),l[i].bulk≤Rows.uptoBulk ds[i])→qbt l≤Rows.uptoBulkAll ds
 | [],_,_,_=>Nat.zero_le _
 | t::r,d::ds,hl,h=>by
  have h1:=h 0 (by simp) (by simp);have h2:=qqj r ds (by simpa using hl) fun i hi hd=>h (i+1) (by simpa using hi) (by simpa using hd);change t.bulk≤Rows.uptoBulk d at h1;simp only[qbt,Rows.uptoBulkAll];omega
theorem qqf {H:Type}:∀ (l:List Fd) (ds:List (DataW H)),ds.length=l.length→(∀ i (hi:i<l.length) (hd:i<ds.length),1+l[i].of.bulk≤Rows.uptoBulk ds[i])→qcm l≤Rows.uptoBulkAll ds
 | [],_,_,_=>Nat.zero_le _
 | .mk n e t::r,d::ds,hl,h=>by
  have h1:=h 0 (by simp) (by simp);have h2:=qqf r ds (by simpa using hl) fun i hi hd=>h (i+1) (by simpa using hi) (by simpa using hd);change 1+t.bulk≤Rows.uptoBulk d at h1;simp only[qcm,Rows.uptoBulkAll];omega
theorem qq0 {H:Type}:∀ (l:Wd) (ds:List (DataW H)),ds.length=l.length→(∀ i (hi:i<l.length) (hd:i<ds.length),l[i].bulk≤Rows.uptoBulk ds[i])→qbw l≤Rows.uptoBulkAll ds
 | [],_,_,_=>Nat.zero_le _
 | t::r,d::ds,hl,h=>by
  have h1:=h 0 (by simp) (by simp);have h2:=qq0 r ds (by simpa using hl) fun i hi hd=>h (i+1) (by simpa using hi) (by simpa using hd);change t.bulk≤Rows.uptoBulk d at h1;simp only[qbw,Rows.uptoBulkAll];omega
theorem qjd {H:Type} {x:DataW H} {ds rs:List (DataW H)} {n k:Nat} (hx:x = .slice ds rs∨x = .nil∧ds=[]) (hk:k≤Rows.uptoBulkAll ds) (hn:ds=[]→k=0):k≤Rows.uptoBulk x:=by
 rcases hx with rfl|⟨rfl,rfl⟩
 ·simp only[Rows.uptoBulk];omega
 ·rw[hn rfl];exact Nat.zero_le _
theorem MsR.of {w:World} {a:Option Addr}:∀ (l:List Meth) (i:Nat),(∀ k (hk:k<l.length),∃ b o,a=some ⟨b,o,none⟩∧i64 l[k].name∧qat w b (o+(i+k) * 2) [.int .i64 l[k].name,.bool l[k].ptr])→MsR w a i l
 | [],_,_=>trivial
 | m::r,i,h=>⟨h 0 (by simp),MsR.of r (i+1) fun k hk=>by
   have:=h (k+1) (by simpa using hk);rw[show i+(k+1)=i+1+k by omega] at this;exact this⟩
theorem TysR.of {w:World} {a:Option Addr}:∀ (l:List Ty) (i:Nat),(∀ k (hk:k<l.length),∃ b o cs,a=some ⟨b,o,none⟩∧qat w b (o+(i+k) * 6) cs∧TyC w l[k] cs)→TysR w a i l
 | [],_,_=>by simp only[TysR]
 | t::r,i,h=>by
  simp only[TysR];exact⟨h 0 (by simp),TysR.of r (i+1) fun k hk=>by
   have:=h (k+1) (by simpa using hk);rw[show i+(k+1)=i+1+k by omega] at this;exact this⟩
theorem FdsR.of {w:World} {a:Option Addr}:∀ (l:List Fd) (i:Nat),(∀ k (hk:k<l.length),FdE w a (i+k) l[k])→FdsR w a i l
 | [],_,_=>by simp only[FdsR]
 | t::r,i,h=>by
  simp only[FdsR];exact⟨h 0 (by simp),FdsR.of r (i+1) fun k hk=>by
   have:=h (k+1) (by simpa using hk);rw[show i+(k+1)=i+1+k by omega] at this;exact this⟩
section
variable {H:Type} {enc:TypeId×Value→H} {w:World} {base:Nat} {spare:Nat→Bool} {held:Bool}
theorem open_m {n:Nat} {cs:List Value} {y:DP H} (h:DataW.trod enc Tryz.prog w base spare held n 84 cs=some y):∃ m:Meth,i64 m.name∧cs=[.int .i64 m.name,.bool m.ptr]:=by
 obtain⟨y0,y1,k,rfl,hy,hl,h0,h1⟩:=st2 Tryz.underlying84 h;rw[c2] at hl
 match cs,hl with
 | [v0,v1],_=>
  simp only[ci,cb,List.drop_zero,List.drop_succ_cons,List.take_succ_cons,List.take_zero] at h0 h1;obtain⟨z,e0,-,hw⟩:=DataW.trod_int Tryz.underlying3 h0;obtain⟨b,e1,-⟩:=DataW.trod_bool Tryz.underlying4 h1;cases e0;cases e1;exact⟨⟨z,b⟩,ql1 hw,rfl⟩
theorem qtn {n:Nat} {cs:List Value} {x:DP H} (h:DataW.trod enc Tryz.prog w base spare held n 27 cs=some x):∃ (a:Option Addr) (c:Nat) (l:List Meth),cs=[.slice a l.length c]∧l.length≤c∧MsR w a 0 l∧l.length≤Rows.uptoBulk x.1:=by
 obtain⟨a,c,l,ds,rs,e,hc,hx,hd,hg⟩:=qjb Tryz.underlying27 (by rw[c2];decide) h (fun cs (m:Meth) (_:DataW H)=>i64 m.name∧cs=[.int .i64 m.name,.bool m.ptr]) fun m cs y _ hy=>open_m hy;refine⟨a,c,l,e,hc,MsR.of l 0 fun k hk => ?_,?_⟩
 ·obtain⟨b,o,cs',e1,h1,h2,rfl⟩:=hg k hk (by omega);rw[c2] at h1;exact⟨b,o,e1,h2,by rw[Nat.zero_add];exact h1⟩
 ·exact qjd (n:=0) hx (by have:=qxa ds;omega) fun e=>by rw[e] at hd;exact hd.symm
def OpenT (enc:TypeId×Value→H) (w:World) (base:Nat) (spare:Nat→Bool) (held:Bool) (n:Nat):Prop:=∀ cs (x:DP H),DataW.trod enc Tryz.prog w base spare held n 29 cs=some x→∃ t:Ty,TyC w t cs∧t.bulk≤Rows.uptoBulk x.1
theorem qqh {n:Nat} (ih:∀ m,m<n→OpenT enc w base spare held m) {cs:List Value} {x:DP H} (h:DataW.trod enc Tryz.prog w base spare held n 25 cs=some x):∃ (a:Option Addr) (c:Nat) (l:List Ty),cs=[.slice a l.length c]∧l.length≤c∧TysR w a 0 l∧qbt l≤Rows.uptoBulk x.1:=by
 obtain⟨a,c,l,ds,rs,e,hc,hx,hd,hg⟩:=qjb Tryz.underlying25 (by rw[c6];decide) h (fun cs (t:Ty) (d:DataW H)=>TyC w t cs∧t.bulk≤Rows.uptoBulk d) fun m cs y hm hy=>ih m hm cs y hy;refine⟨a,c,l,e,hc,TysR.of l 0 fun k hk => ?_,?_⟩
 ·obtain⟨b,o,cs',e1,h1,h2,-⟩:=hg k hk (by omega);rw[c6] at h1;exact⟨b,o,cs',e1,by rw[Nat.zero_add];exact h1,h2⟩
 ·refine qjd (n:=0) hx (qqj l ds hd fun i hi hd' => ?_) fun e => ?_
  ·obtain⟨b,o,cs',e1,h1,h2,h3⟩:=hg i hi hd';exact h3
  ·rw[e] at hd;rw[List.length_eq_zero_iff.1 hd.symm];rfl
theorem qv3 {n:Nat} (ih:∀ m,m<n→OpenT enc w base spare held m) {cs:List Value} {x:DP H} (h:DataW.trod enc Tryz.prog w base spare held n 26 cs=some x):∃ (a:Option Addr) (c:Nat) (l:List Fd),cs=[.slice a l.length c]∧l.length≤c∧FdsR w a 0 l∧qcm l≤Rows.uptoBulk x.1:=by
 obtain⟨a,c,l,ds,rs,e,hc,hx,hd,hg⟩:=qjb Tryz.underlying26 (by rw[c8];decide) h (fun cs (f:Fd) (d:DataW H)=>i64 f.name∧(∃ cs',cs = .int .i64 f.name :: .bool f.embedded::cs'∧TyC w f.of cs')∧1+f.of.bulk≤Rows.uptoBulk d) fun m cs y hm hy=>by
  obtain⟨y0,y1,y2,k,rfl,hy2,hl,h0,h1,h2⟩:=st3 Tryz.underlying60 hy;rw[c8] at hl
  match cs,hl with
  | [v0,v1,u0,u1,u2,u3,u4,u5],_=>
   simp only[ci,cb,c6,List.drop_zero,List.drop_succ_cons,List.take_succ_cons,List.take_zero] at h0 h1 h2;obtain⟨z,e0,-,hw⟩:=DataW.trod_int Tryz.underlying3 h0;obtain⟨b,e1,-⟩:=DataW.trod_bool Tryz.underlying4 h1;obtain⟨t,h3,h4⟩:=ih k (by omega) _ _ h2;cases e0;cases e1;refine⟨.mk z b t,ql1 hw,⟨_,rfl,h3⟩,?_⟩;rw[hy2];simp only[Rows.uptoBulk,Rows.uptoBulkAll,Fd.of];omega
 refine⟨a,c,l,e,hc,FdsR.of l 0 fun k hk => ?_,?_⟩
 ·obtain⟨b,o,cs',e1,h1,h2,⟨cs2,rfl,h3⟩,-⟩:=hg k hk (by omega);rw[c8] at h1;rw[Nat.zero_add]
  generalize l[k]=f at h1 h2 h3
  obtain⟨z,b',t⟩:=f;simp only[FdE];exact⟨b,o,cs2,e1,h2,h1,h3⟩
 ·refine qjd (n:=0) hx (qqf l ds hd fun i hi hd' => ?_) fun e => ?_
  ·obtain⟨b,o,cs',e1,h1,h2,h3,h4⟩:=hg i hi hd';exact h4
  ·rw[e] at hd;rw[List.length_eq_zero_iff.1 hd.symm];rfl
theorem qsy (n:Nat):OpenT enc w base spare held n:=by
 induction n using Nat.strongRecOn with
 | ind n ih=>
  intro cs x h;obtain⟨y0,y1,y2,y3,y4,y5,k,rfl,hx,hl,h0,h1,h2,h3,h4,h5⟩:=st6 Tryz.underlying29 h;rw[c6] at hl
  match cs,hl with
  | [v0,v1,v2,v3,v4,v5],_=>
   simp only[ci,cst,csf,csm,List.drop_zero,List.drop_succ_cons,List.take_succ_cons,List.take_zero] at h0 h1 h2 h3 h4 h5;obtain⟨z0,e0,-,hw0⟩:=DataW.trod_int Tryz.underlying3 h0;obtain⟨z1,e1,-,hw1⟩:=DataW.trod_int Tryz.underlying3 h1;obtain⟨a2,c2,l2,e2,hc2,hr2,hb2⟩:=qqh (fun m hm=>ih m (by omega)) h2;obtain⟨a3,c3,l3,e3,hc3,hr3,hb3⟩:=qv3 (fun m hm=>ih m (by omega)) h3;obtain⟨a4,c4,l4,e4,hc4,hr4,hb4⟩:=qtn h4;obtain⟨a5,c5,l5,e5,hc5,hr5,hb5⟩:=qqh (fun m hm=>ih m (by omega)) h5;cases e0;cases e1;cases e2;cases e3;cases e4;cases e5;refine⟨.mk z0 z1 l2 l3 l4 l5,?_,?_⟩
   ·simp only[TyC];exact⟨a2,c2,a3,c3,a4,c4,a5,c5,rfl,⟨hc2,hc3,hc4,hc5⟩,ql1 hw0,ql1 hw1,hr2,hr3,hr4,hr5⟩
   ·rw[hx];simp only[Rows.uptoBulk,Rows.uptoBulkAll,Ty.bulk];omega
theorem open_wd {n:Nat} {cs:List Value} {x:DP H} (h:DataW.trod enc Tryz.prog w base spare held n 23 cs=some x):∃ (a:Option Addr) (c:Nat) (W:Wd),cs=[.slice a W.length c]∧W.length≤c∧WdR w a W∧qbw W≤Rows.uptoBulk x.1:=by
 obtain⟨a,c,l,ds,rs,e,hc,hx,hd,hg⟩:=qjb Tryz.underlying23 (by rw[c10];decide) h (fun cs (d:Dc) (u:DataW H)=>DcC w d cs∧d.bulk≤Rows.uptoBulk u) fun m cs y hm hy=>by
  obtain⟨y0,y1,y2,y3,y4,k,rfl,hy2,hl,h0,h1,h2,h3,h4⟩:=st5 Tryz.underlying39 hy;rw[c10] at hl
  match cs,hl with
  | [v0,v1,v2,u0,u1,u2,u3,u4,u5,v4],_=>
   simp only[ci,cb,c6,csm,List.drop_zero,List.drop_succ_cons,List.take_succ_cons,List.take_zero] at h0 h1 h2 h3 h4;obtain⟨z0,e0,-,hw0⟩:=DataW.trod_int Tryz.underlying3 h0;obtain⟨z1,e1,-,hw1⟩:=DataW.trod_int Tryz.underlying3 h1;obtain⟨b,e2,-⟩:=DataW.trod_bool Tryz.underlying4 h2;obtain⟨t,h5,h6⟩:=qsy k _ _ h3;obtain⟨a4,c4,l4,e4,hc4,hr4,hb4⟩:=qtn h4;cases e0;cases e1;cases e2;cases e4;refine⟨⟨z0,z1,b,t,l4⟩,⟨_,a4,c4,rfl,hc4,ql1 hw0,ql1 hw1,h5,hr4⟩,?_⟩;rw[hy2];simp only[Rows.uptoBulk,Rows.uptoBulkAll,Dc.bulk];omega
 refine⟨a,c,l,e,hc,fun k hk => ?_,?_⟩
 ·obtain⟨b,o,cs',e1,h1,h2,h3⟩:=hg k hk (by omega);rw[c10] at h1;exact⟨b,o,cs',e1,h1,h2⟩
 ·refine qjd (n:=0) hx (qq0 l ds hd fun i hi hd' => ?_) fun e => ?_
  ·obtain⟨b,o,cs',e1,h1,h2,h3⟩:=hg i hi hd';exact h3
  ·rw[e] at hd;rw[List.length_eq_zero_iff.1 hd.symm];rfl
end
end Go.Proofs.YtmfhclggkjjcdaaGreatDoor
namespace Go.Proofs.YtmfhclggkjjcdaaGreatDoor
open Go Go.RowKit Go.Shelf
set_option maxRecDepth 100000
structure Tabs (w:World):Prop where
 props : Lib.TabIs Tryz.prog w "unicode.properties" .u8 Lib.propertiesTab
 utf:Lib.Utf8Tabs 5 6 w
 upper:Lib.RVar 1 Lib.upperT w
theorem qxb : Tryz.prog.globalNamed "unicode.properties" = some 0 := by kernel_rfl
theorem Tabs.below {w W:World} (h:Tabs w) (hb:Below w.heap.size w W):Tabs W:=
 ⟨TabIs_below qxb h.props hb,Utf8Tabs_below h.utf hb,RVar_below h.upper hb⟩
theorem qt4:∀ k,k<16 → -2147483648≤(((Lib.decodeGo ⟨(nmB.getD k []).toArray⟩).1:Nat):Int)∧(((Lib.decodeGo ⟨(nmB.getD k []).toArray⟩).1:Nat):Int)≤2147483647∧Lib.isUpperU (((Lib.decodeGo ⟨(nmB.getD k []).toArray⟩).1:Nat):Int)=qay (k:Int):=by
 decide +kernel
theorem qcb (n:Int) (w:World) (h:IsNm n) (hT:Tabs w):Calls Tryz.prog 85 #[.string (qas n)] w (qa2 (.bool (qay n)) w):=by
 obtain⟨h1,h2⟩:=h;obtain⟨k,rfl⟩:∃ k:Nat,n=k:=⟨n.toNat,by omega⟩;obtain⟨d1,d2,d3⟩:=qt4 k (by omega);have D3:=hid d3;clear d3;have HT:=hid hT;clear hT;have hn:qas (k:Int)=⟨(nmB.getD k []).toArray⟩:=by simp[qas]
 rw[hn]
 generalize (⟨(nmB.getD k []).toArray⟩:ByteArray)=s at *
 go_enter Tryz.func85,Tryz.ntmps85
 go_wp2_with (go_at_call 117;refine(Tryz.utf8_DecodeRuneInString _ _ HT.out.utf).mono ?_;rintro e w1 ⟨rfl,hb⟩)
 have hz:=zq hb;(try simp only[zd,qaa] at hz)
 go_wp2_with (go_at_call 118;refine(Tryz.unicode_IsUpper_all _ _ d1 d2 (HT.out.below hb).props (HT.out.below hb).upper).mono ?_;rintro e w2 ⟨rfl,hb2⟩)
 go_ret
 exact⟨by rw[D3.out];rfl,bel⟩
theorem qbq (n:Int) (w:World) (h:IsNm n):Calls Tryz.prog 26 #[.int .i64 n] w (qa2 (.string (qas n)) w):=by
 have hv:=qtw n h;have HV:=hid hv;clear hv;obtain⟨h1,h2⟩:=h;go_enter Tryz.func26,Tryz.ntmps26
 go_wp2_with fail
 go_ret
 obtain⟨_,e⟩:=zjb.1 HV.out;exact⟨congrArg Ending.returned e,bel⟩
def qbo (p:Int):ByteArray:=⟨#[if p=0 then 112 else 113]⟩
theorem qj5 (b:Nat) (p n:Int) (w:World) (h:IsNm n) (hp:p=0∨p=1) (hT:Tabs w) (hc:w.cell? ⟨b,0,none⟩=some (.string (qbo p))):
  Calls Tryz.prog 53 #[.pointer (some ⟨b,0,none⟩),.string (qas n)] w (qa2 (.string (idS p n)) w):=by
 have HT:=hid hT;clear hT;have Hn:=hid h;clear h;have hsz:=qlh n Hn.out;have hpz:(qbo p).size=1:=rfl;have hbb:=zj w _ hc;simp only at hbb;cases he:qay n with
 | true=>
  have He:=hid he;clear he;go_enter Tryz.func53,Tryz.ntmps53
  go_wp2_with (go_at_call 85;refine(qcb _ _ Hn.out HT.out).mono ?_;rintro e w1 ⟨rfl,hb⟩;rw[He.out])
  have hz:=zq hb;(try simp only[zd,qaa] at hz)
  go_wp2_with fail
  go_ret
  exact⟨by simp[idS,idL,He.out,qas],bel⟩
 | false=>
  have He:=hid he;clear he;have hne:(qbo p).toList.isEmpty=false:=by rcases hp with rfl|rfl <;> decide +kernel
  go_enter Tryz.func53,Tryz.ntmps53
  go_wp2_with (go_at_call 85;refine(qcb _ _ Hn.out HT.out).mono ?_;rintro e w1 ⟨rfl,hb⟩;rw[He.out];have hc1:=qac.below hb _ _ hc)
  go_ret
  exact⟨by rcases hp with rfl|rfl <;> simp[idS,idL,He.out,qas,qta,qbo,ByteArray.ext_iff],bel⟩
end Go.Proofs.YtmfhclggkjjcdaaGreatDoor
namespace Go.Proofs.YtmfhclggkjjcdaaGreatDoor
open Go Go.RowKit
open Go.ChangeShapes Go.WideShapes Go.ChangeAt
theorem qmj {H:Type} {enc:TypeId×Value→H} {P:Program} {f:Func} {s:ChangeSpec} {apart fresh handsOn again:Bool} {W W':World} {args:Array Value} {v:Value} {ds gs:List (DataW H)} {before pa pv:List MemPlace}
  (hW:DataW.Whole enc P f.params.toList s.vars apart W args.toList ds gs before)
  (hres:∀ (b:Nat) (sp:Nat→Bool) (hd:Bool),DataW.TrodAll enc P W' b sp hd f.resultTypes.toList (v.resultList f.resultTypes.size) (s.fn H (ds++gs)).results [])
  (hargs:∀ sp:Nat→Bool,(∀ p∈before,sp p.block=true)→DataW.TrodAll enc P W' 0 sp true f.params.toList args.toList (s.fn H (ds++gs)).args pa)
  (hvars:∀ sp:Nat→Bool,(∀ p∈before,sp p.block=true)→DataW.TrodVars enc P W' sp s.vars (s.fn H (ds++gs)).vars pv)
  (hps:before=pa++pv) (hb:Below W.heap.size W W')
  (hok:∀ (j:Nat) (t:TypeId) (r:Value),f.resultTypes[j]?=some t→(v.resultList f.resultTypes.size)[j]?=some r→Value.okWide P W' .any 0 t r):
  s.post enc P f apart fresh handsOn again W args v W':=by
 have hold:∀ p∈before,(fun b=>decide (b<W.heap.size)) p.block=true:=fun p hp=>by simpa using hW.lt p hp
 have hlt:=hW.lt;refine⟨ds,gs,before,[],pa,pv,hW,hres _ _ _,hargs _ hold,hvars _ hold,World.keptBut_mono (fun p hp=>⟨hp,?_⟩) (hb.frame (·∈before)),fun _ => ?_⟩
 ·rw[hps,zib] at hp;exact Or.inr hp
 ·obtain⟨_,_,_,_,_,hz,hn⟩:=hW;refine⟨hok,_,_,([]++pa)++pv,⟨[]++pa,pv,trodAll_append (hargs _ (fun _ _=>rfl)) (hres _ _ _),hvars _ (fun _ _=>rfl),rfl,?_,?_⟩,?_⟩
  ·intro b off hp;have hm:MemPlace.cell b off∈before:=by rw[hps];simpa using hp
   rw[hb.frozen (p:=⟨b,off,none⟩) (hlt _ hm)];exact hz b off hm
  ·intro ha;have:=hn ha;rw[hps] at this;simpa using this
  ·intro p hp _;rw[hps];simpa using hp
theorem qpt {H:Type} {enc:TypeId×Value→H} {C:Checked} {os:Os} {f:FuncId} {fn:Func} {s:OpenSpec} {conds:List PathCond} {apart:Bool} {laid:List (String×DataW Unit)} (modest:Bool) (w0:World) (args:Array Value) (hos:w0.os=os)
  (hv:(w0.forCall (fun _ _=>0) ⟨#[],args,[]⟩).variablesZipB C.prog=true)
  (hr:((w0.forCall (fun _ _=>0) ⟨#[],args,[]⟩).heap.toList.drop C.prog.globals.size).take ((begin C.prog (fun _ _=>0) default).world.heap.size - C.prog.globals.size)=
   (begin C.prog (fun _ _=>0) default).world.heap.toList.drop C.prog.globals.size)
  (hok:Input.okWideB C.prog (w0.forCall (fun _ _=>0) ⟨#[],args,[]⟩) f ⟨#[],args,[]⟩=true)
  (hrow:s.preRow enc C.prog fn conds apart laid (w0.forCall (fun _ _=>0) ⟨#[],args,[]⟩).memory args):
  ∃ (w:World) (tape:Tape) (i:Input),w.os=os∧(w.forCall tape i).Shaped C.prog∧i.vars=[]∧Input.okWide C.prog (w.forCall tape i) .any w.heap.size f i∧
   s.preRow enc C.prog fn conds apart laid (w.forCall tape i).memory i.args∧({ modest:=modest }:Assume).holds C.prog (lone (Frame.enter C.prog f i.args .normal) [] (w.forCall tape i)):=
 ⟨w0,fun _ _=>0,⟨#[],args,[]⟩,hos,World.shaped_of_ZipB hv hr,(Input.okWide_of_okWideB (base:=0) hok).1,(Input.okWide_of_okWideB hok).2,hrow,by
  simp only[Assume.holds];exact⟨by simp,by simp,fun _=>Modest.zero,by simp,by simp⟩⟩
end Go.Proofs.YtmfhclggkjjcdaaGreatDoor
namespace Go.Proofs.YtmfhclggkjjcdaaGreatDoor
open Go Go.RowKit Go.Shelf
open Go.ChangeShapes Go.WideShapes Go.ChangeAt
set_option maxRecDepth 100000
theorem own:ownKnob Tryz.prog.godebug=none:=by kernel_rfl
theorem Tryz.laidOutP:laidOutB Tryz.prog=true:=by kernel_rfl
theorem cl5:laidOutB Tryz.pinned.checked.prog=true:=by kernel_rfl
theorem cl6:mapsRowed Tryz.pinned.checked.prog=true:=by kernel_rfl
theorem qky {P:Program} {W:World} {name:String} {k:IntKind} {zs:List Int} {g:Nat} {t e:TypeId} {n:Nat}
  (hg:P.globalNamed name=some g) (hty:(P.globals[g]?).map (·.type)=some t) (ht:P.underlying t=some (.array n e)) (he:P.underlying e=some (.int k)) (hce:P.cellsOf e=1) (hct:P.cellsOf t=n)
  (h:Lib.VarReads P W name (Lib.tabData k zs)):Lib.TabIs P W name k zs:=by
 obtain⟨g',t',cs,fuel,p,hg',ht',hvar,hd⟩:=h;obtain rfl:=Option.some.inj (hg.symm.trans hg');obtain rfl:=Option.some.inj (hty.symm.trans ht');unfold Lib.TabIs;rw[hvar,← Lib.cells_of_tab ht he hce hct hd]
theorem qht {H:Type} {enc:TypeId×Value→H} {P:Program} (hl:laidOutB P=true) {W W':World} {sp':Nat→Bool}:∀ {ts:List TypeId} {vs:List Value} {ds:List (DataW H)} {ps:List MemPlace},
  (∀ t∈ts,P.readableRec t=true∧t<P.types.size)→DataW.TrodAll enc P W 0 (fun _=>true) true ts vs ds ps→(∀ p∈ps,W.sameAt W' p)→(∀ p∈ps,sp' p.block=true)→DataW.TrodAll enc P W' 0 sp' true ts vs ds ps
 | [],[],[],_,_,h,_,_=>h
 | t::ts,v::vs,d::ds,ps,ht,⟨p,q,h1,h2,e⟩,hs,hsp=>
  ⟨p,q,WideElems.Trod_stays hl (ht t (.head _)).1 (ht t (.head _)).2 h1 (fun x hx=>hs x (by rw[e];exact z7 _ hx)) (fun x hx=>hsp x (by rw[e];exact z7 _ hx)),
   qht hl (fun t h=>ht t (.tail _ h)) h2 (fun x hx=>hs x (by rw[e];exact zx _ hx)) (fun x hx=>hsp x (by rw[e];exact zx _ hx)),e⟩
section
variable {H:Type} {enc:TypeId×Value→H} {W:World} {base:Nat}
theorem argW {v:Value} {d:DataW H} {p:List MemPlace} (hv:Value.okWide Tryz.prog W .any base 23 v) (h:DataW.Trod enc Tryz.prog W 0 (fun _=>true) true 23 v d p):
  ∃ (a:Option Addr) (c:Nat) (Ws:Wd),v = .slice a Ws.length c∧Ws.length≤c∧WdR W a Ws∧qbw Ws≤Rows.uptoBulk d:=by
 obtain⟨a,l,c,rfl⟩:=okWide_slice Tryz.underlying23 hv;obtain⟨n,hn⟩:=h;obtain⟨a',c',Ws,e,h1,h2,h3⟩:=open_wd hn;have e':[Value.slice a l c]=[.slice a' Ws.length c']:=e;cases e';exact⟨_,_,Ws,rfl,h1,h2,h3⟩
end
theorem readT:Tryz.prog.readableRec 29=true∧29<Tryz.prog.types.size:=⟨by kernel_rfl,of_decide_eq_true (by kernel_rfl)⟩
theorem readW:Tryz.prog.readableRec 23=true∧23<Tryz.prog.types.size:=⟨by kernel_rfl,of_decide_eq_true (by kernel_rfl)⟩
theorem readI:Tryz.prog.readableRec 3=true∧3<Tryz.prog.types.size:=⟨by kernel_rfl,of_decide_eq_true (by kernel_rfl)⟩
theorem readB:Tryz.prog.readableRec 4=true∧4<Tryz.prog.types.size:=⟨by kernel_rfl,of_decide_eq_true (by kernel_rfl)⟩
theorem qr5 {W : World} (h1 : Lib.VarReads Tryz.prog W "unicode/utf8.acceptRanges" Lib.acceptData) (h2 : Lib.VarReads Tryz.prog W "unicode.properties" (Lib.tabData .u8 Lib.propertiesTab)) (h3 : Lib.VarReads Tryz.prog W "unicode.Upper" (Lib.rtabData Lib.upperT)) (h4 : Lib.VarReads Tryz.prog W "unicode/utf8.first" Lib.firstData) : Tabs W := by
 refine⟨qky qxb (t:=287) (e:=5) (n:=256) (by kernel_rfl) (by kernel_rfl) (by kernel_rfl) (by kernel_rfl) (by kernel_rfl) h2,?_,?_⟩
 ·exact utf8Tabs_of_reads Tryz.lays260 ⟨by kernel_rfl,by kernel_rfl,by kernel_rfl,by kernel_rfl,by kernel_rfl,by kernel_rfl,by kernel_rfl⟩ h4 h1
 ·exact rvar_of_reads Tryz.lays261 ⟨by kernel_rfl,by kernel_rfl,by kernel_rfl,by kernel_rfl,by kernel_rfl,by kernel_rfl,by kernel_rfl,by kernel_rfl⟩ (by kernel_rfl) (by kernel_rfl) h3
end Go.Proofs.YtmfhclggkjjcdaaGreatDoor
namespace Go.Proofs.YtmfhclggkjjcdaaGreatDoor
open Go Go.RowKit Go.Shelf Go.Lib
set_option maxRecDepth 100000
def qca (w w':World):Prop:=∃ q os,w'=Sort.grow (w.drewN q) os
theorem qca.drew (w:World) (q:Nat):qca w (w.drewN q):=⟨q,#[],by rw[Sort.grow_empty]⟩
theorem qca.refl (w:World):qca w w:=qca.drew w 0
theorem qca.trans {a b c:World} (h:qca a b) (k:qca b c):qca a c:=by
 obtain⟨q,os,rfl⟩:=h;obtain⟨q',os',rfl⟩:=k;refine⟨q+q',os++os',?_⟩;simp[Sort.grow,World.drewN,Nat.add_assoc]
theorem qca.alloc (w:World) (o:Obj):qca w (w.alloc o):=⟨0,#[o],by rw[Sort.alloc_eq_grow];rfl⟩
theorem qca.below {w w':World} (h:qca w w'):Below w.heap.size w w':=by
 obtain⟨q,os,rfl⟩:=h;exact⟨rfl,rfl,rfl,by simp[Sort.grow,World.drewN],fun k hk=>Sort.heap_grow_old (w.drewN q) os hk⟩
theorem slow2 (s:ByteArray) (x0 x1:UInt8) (hs:s.size=2) (h0:s[0]'(by omega)=x0) (h1:s[1]'(by omega)=x1) (hx:x0=195∧x1=169∨x0=195∧x1=137∨x0=199∧x1=133) (w:World) (hT:Lib.Utf8Tabs 5 6 w):
  Calls Tryz.prog 146 #[.string s] w fun e w'=>e = .returned (.tuple #[.int .i32 ((x0.toNat % 32 * 64+x1.toNat % 64:Nat)),.int .i64 2])∧qca w w':=by
 have ha0:=(hT.2 0 (by omega)).1;have ha1:=(hT.2 0 (by omega)).2;have hz:(s.size:Int)=2:=by omega
 have hc0:=hT.1 x0.toNat x0.toNat_lt;clear hT;rcases hx with ⟨rfl,rfl⟩|⟨rfl,rfl⟩|⟨rfl,rfl⟩
 all_goals
  simp[Lib.firstT,Lib.accLo,Lib.accHi] at hc0 ha0 ha1;go_enter Tryz.func146,Tryz.ntmps146
  go_wp2
  go_ret2
  exact⟨rfl,qca.alloc _ _⟩
theorem slow3 (s:ByteArray) (hs:s.size=3) (h0:s[0]'(by omega)=228) (h1:s[1]'(by omega)=184) (h2:s[2]'(by omega)=150) (w:World) (hT:Lib.Utf8Tabs 5 6 w):
  Calls Tryz.prog 146 #[.string s] w fun e w'=>e = .returned (.tuple #[.int .i32 19990,.int .i64 3])∧qca w w':=by
 have ha0:=(hT.2 0 (by omega)).1;have ha1:=(hT.2 0 (by omega)).2;have hz:(s.size:Int)=3:=by omega
 have hc0:=hT.1 228 (by omega);clear hT;simp[Lib.firstT,Lib.accLo,Lib.accHi] at hc0 ha0 ha1;go_enter Tryz.func146,Tryz.ntmps146
 go_wp2
 go_ret2
 exact⟨rfl,qca.alloc _ _⟩
theorem excl_x (Tb oT:Nat) (r:Int) (w:World) (hr:256≤r∧r≤65000) (hA:RTabAt Tb oT upperT w):
  Calls Tryz.prog 147 #[.pointer (some ⟨Tb,oT,none⟩),.int .i32 r] w fun e w'=>e = .returned (.bool (exclGo upperT r))∧∃ q,w'=w.drewN q:=by
 obtain⟨a16,a32,R16,o16,c16,R32,o32,c32,k0,k1,k2,ha16,ha32,hT16,hT32,hc16⟩:=hA;obtain⟨ok16,ok32,hn16,hn32,hL32,hoff⟩:=upperT_ok;have hw16:=wrap16_of r;unfold exclGo;obtain⟨U,hU⟩:∃ U,u32Of r=U:=⟨_,rfl⟩;have hUz:r % 4294967296=(U:Int):=by rw[← hU];unfold u32Of;omega
 have hUle:U≤65000:=by omega
 rw[hU] at hw16 ⊢;have hs:upperT.off<upperT.r16.size:=of_decide_eq_true (by kernel_rfl);obtain⟨HL,hHL⟩:∃ HL,(upperT.r16.getD (upperT.r16.size - 1) (0,0,0)).2.1=HL:=⟨_,rfl⟩;have hHLv:65000≤HL:=by rw[← hHL];exact of_decide_eq_true (by kernel_rfl)
 rw[hHL,if_pos ⟨hs,by omega⟩]
 generalize upperT=T at *
 obtain rfl:=ha16 (by omega);have hz1:(T.off:Int)<(T.r16.size:Int):=by omega
 obtain⟨-,cH,-⟩:=hT16 (T.r16.size - 1) (by omega);have hHLb:=(ok16 (T.r16.size - 1) (by omega)).2.1;rw[hHL] at cH hHLb;have hHLz:(HL:Int) % 4294967296=(HL:Int):=by omega
 have hlez:(U:Int)≤(HL:Int):=by omega
 have hsz:(T.r16.extract T.off T.r16.size).size=T.r16.size - T.off:=by simp[Array.size_extract]
 have c16c:=Tryz.unicode_is16_any (T.r16.extract T.off T.r16.size) R16 (o16+T.off * 3) (c16 - T.off) (U % 65536) w (by omega) (RgTab_extract hT16 T.off (by omega)) (RgOk_extract ok16 T.off) (by omega);rw[hsz] at c16c;go_enter Tryz.func147,Tryz.ntmps147
 go_wp2_with (go_at_call 172;refine c16c.mono ?_;rintro e w' ⟨rfl,q,rfl⟩)
 all_goals (go_ret;exact⟨rfl,_,rfl⟩)
theorem upper_x (r:Int) (w:World) (hr:0≤r∧r≤65000) (hT:Tabs w):Calls Tryz.prog 118 #[.int .i32 r] w fun e w'=>e = .returned (.bool (isUpperU r))∧∃ q,w'=w.drewN q:=by
 by_cases h:r≤255
 ·obtain⟨k,rfl⟩:∃ k:Nat,r=k:=⟨r.toNat,by omega⟩;refine(Tryz.unicode_IsUpper k w (by omega) hT.props).mono ?_;rintro e w' ⟨rfl,rfl⟩;exact⟨by simp[isUpperU,latin1,hr.1,h],0,rfl⟩
 ·obtain⟨Tb,oT,h1,h2⟩:=hT.upper;have H2:=hid h2;clear h2 hT;have hn:¬ (r % 4294967296≤255):=by omega
  have he:isUpperU r=exclGo upperT r:=by
   unfold isUpperU;rw[if_neg];simp[latin1];omega
  rw[he];clear he;go_enter Tryz.func118,Tryz.ntmps118
  go_wp2_with (go_at_call 147;refine(excl_x Tb oT r _ ⟨by omega,hr.2⟩ H2.out).mono ?_;rintro e w' ⟨rfl,q,rfl⟩)
  go_ret
  exact⟨rfl,_,rfl⟩
end Go.Proofs.YtmfhclggkjjcdaaGreatDoor
namespace Go.Proofs.YtmfhclggkjjcdaaGreatDoor
open Go Go.RowKit
def Blk (w:World) (b:Nat) (T:TypeId) (cs:List Value):Prop:=w.heap[b]?=some (.cells cs.toArray T)
theorem Blk.lt {w:World} {b:Nat} {T:TypeId} {cs:List Value} (h:Blk w b T cs):b<w.heap.size:=(zab.1 h).1
theorem Blk.cell {w:World} {b:Nat} {T:TypeId} {cs:List Value} (h:Blk w b T cs) (j:Nat):w.cell? ⟨b,j,none⟩=cs[j]?:=by
 unfold Blk at h;simp[World.cell?,h]
theorem Blk.soft {w:World} {b:Nat} {T:TypeId} {cs:List Value} (h:Blk w b T cs) (j:Nat):w.frozen? ⟨b,j,none⟩=false:=by
 unfold Blk at h;simp[World.frozen?,h]
theorem Blk.cells {w:World} {b:Nat} {T:TypeId} {cs:List Value} (h:Blk w b T cs):qat w b 0 cs:=by
 intro j v hv;rw[Nat.zero_add,h.cell];exact hv
theorem Blk.set {w:World} {b:Nat} {T:TypeId} {cs:List Value} (h:Blk w b T cs) (j:Nat) (v:Value):Blk (w.setCell ⟨b,j,none⟩ v) b T (cs.set j v):=by
 unfold Blk at *;simp only[World.setCell,Array.getElem?_modify,if_true,h];simp
theorem Blk.other {w:World} {b:Nat} {T:TypeId} {cs:List Value} (h:Blk w b T cs) {a:Addr} (ha:b≠a.block) (v:Value):Blk (w.setCell a v) b T cs:=by
 unfold Blk at *;rw[Below.heap_setCell _ _ _ _ ha];exact h
theorem Blk.alloc {w:World} {b:Nat} {T:TypeId} {cs:List Value} (h:Blk w b T cs) (O:Obj):Blk (w.alloc O) b T cs:=by
 have hl:=h.lt;unfold Blk at *;rw[Below.heap_alloc _ _ _ hl];exact h
theorem Blk.new (w:World) (T:TypeId) (cs:List Value):Blk (w.alloc (.cells cs.toArray T)) w.heap.size T cs:=by
 unfold Blk;show(w.heap.push _)[w.heap.size]?=_;exact Array.getElem?_push_size
theorem Blk.drew {w:World} {b:Nat} {T:TypeId} {cs:List Value} (h:Blk w b T cs):Blk w.drew b T cs:=h
theorem Blk.below {w w':World} {B b:Nat} {T:TypeId} {cs:List Value} (h:Blk w b T cs) (hb:Below B w w') (hB:b<B):Blk w' b T cs:=by
 unfold Blk at *;rw[hb.block b hB];exact h
theorem Blk.keep {w w':World} {b:Nat} {T:TypeId} {cs:List Value} (h:Blk w b T cs) (hb:Below w.heap.size w w'):Blk w' b T cs:=h.below hb h.lt
def qbh (l:List Nat):List Value:=l.map fun(n:Nat)=>Value.int .i64 (n:Int)
theorem quc (l:List Nat):(qbh l).length=l.length:=by simp[qbh]
theorem qh3 (l:List Nat) (j:Nat):(qbh l)[j]?=l[j]?.map fun(n:Nat)=>Value.int .i64 (n:Int):=by simp[qbh]
theorem qoa (l:List Nat) (j n:Nat):(qbh l).set j (.int .i64 n)=qbh (l.set j n):=by simp[qbh,List.map_set]
mutual
theorem qbn (W:Wd) (e:Int):∀ (val:Bool) (t:Ty),qam W e val t→t.clo W.length
 | val,.mk k n el fs ms em,hf=>by
  simp only[qam] at hf;rcases hf with ⟨rfl,rfl,rfl,rfl,rfl,-⟩|⟨rfl,rfl,rfl,rfl,rfl,h0,h1,h2⟩|⟨hk,rfl,rfl,rfl,rfl,h1⟩|⟨rfl,rfl,rfl,rfl,rfl,h1⟩|⟨rfl,rfl,rfl,rfl,-,h1⟩
  ·simp[Ty.clo,cloT,cloF]
  ·simp only[Ty.clo,cloT,cloF,and_true];exact fun _=>⟨h0,h1⟩
  ·simp only[Ty.clo,cloF,cloT,and_true];exact⟨fun hk1=>by omega,qp2 W e el h1⟩
  ·simp only[Ty.clo,cloT,and_true,true_and];exact⟨fun hk1=>by omega,qjk W e val fs h1⟩
  ·simp only[Ty.clo,cloT,cloF,true_and];exact⟨fun hk1=>by omega,qjl W e em h1⟩
theorem qp2 (W:Wd) (e:Int):∀ (l:List Ty),qc5 W e l→cloT W.length l
 | [],hf=>by simp[cloT]
 | t::r,hf=>by
  simp only[qc5] at hf;obtain⟨rfl,hf⟩:=hf;simp only[cloT,and_true];exact qbn W e false t hf
theorem qjk (W:Wd) (e:Int):∀ (val:Bool) (l:List Fd),qby W e val l→cloF W.length l
 | val,[],hf=>by simp[cloF]
 | val,.mk n em t::r,hf=>by
  simp only[qby] at hf;simp only[cloF];exact⟨qbn W e val t hf.1.2.2,qjk W e val r hf.2⟩
theorem qjl (W:Wd) (e:Int):∀ (l:List Ty),qbi W e l→cloT W.length l
 | [],hf=>by simp[cloT]
 | t::r,hf=>by
  simp only[qbi] at hf;simp only[cloT];exact⟨qbn W e true t hf.1.2,qjl W e r hf.2⟩
end
structure qag (S:Nat→Prop) (w w':World):Prop where
 size:w.heap.size≤w'.heap.size
 block:∀ b,b<w.heap.size→¬ S b→w'.heap[b]?=w.heap[b]?
theorem qag.refl (S:Nat→Prop) (w:World):qag S w w:=⟨zl _,fun _ _ _=>rfl⟩
theorem qag.trans {S:Nat→Prop} {a b c:World} (h:qag S a b) (k:qag S b c):qag S a c:=
 ⟨Nat.le_trans h.size k.size,fun i hi hs=>(k.block i (Nat.lt_of_lt_of_le hi h.size) hs).trans (h.block i hi hs)⟩
theorem qag.mono {S S':Nat→Prop} {w w':World} (h:qag S w w') (hs:∀ b,b<w.heap.size→S b→S' b):qag S' w w':=
 ⟨h.size,fun b hb hn=>h.block b hb fun hS=>hn (hs b hb hS)⟩
theorem qag.below {B:Nat} {w w':World} (h:Below B w w'):qag (fun b=>B≤b) w w':=⟨h.size,fun b _ hn=>h.block b (by omega)⟩
theorem qag.keep {S:Nat→Prop} {w w':World} (h:Below w.heap.size w w'):qag S w w':=⟨h.size,fun b hb _=>h.block b hb⟩
theorem qag.setCell (S:Nat→Prop) (w:World) {a:Addr} (ha:S a.block) (v:Value):qag S w (w.setCell a v):=
 ⟨by simp[World.setCell],fun b hb hn=>Below.heap_setCell _ _ _ _ fun e=>hn (e ▸ ha)⟩
theorem qag.grown {S:Nat→Prop} {w w':World} {row:Option Nat} (h:w.grownBy w' row) (hr:∀ b,row=some b→b<w.heap.size→S b):qag S w w':=
 ⟨h.size,fun b hb hn=>h.block b hb fun e=>hn (hr b e.symm hb)⟩
open Classical in
noncomputable def hide (S:Nat→Prop) (w:World):World:={ w with heap:=w.heap.mapIdx fun i o=>if S i then .cells #[] 0 else o }
theorem qh7 {S:Nat→Prop} {w:World} {ad:Addr} {v:Value}:(hide S w).cell? ad=some v↔¬ S ad.block∧w.cell? ad=some v:=by
 unfold hide World.cell?;simp only[Array.getElem?_mapIdx];cases h:w.heap[ad.block]? with
 | none=>simp
 | some o=>
  by_cases hs:S ad.block
  ·simp[hs]
  ·simp[hs]
theorem qac.show(S:Nat→Prop) (w:World):qac (hide S w) w:=fun ad v h=>(qh7.1 h).2
theorem qac.hide {S S':Nat→Prop} {w w':World} (h:qag S w w') (hs:∀ b,b<w.heap.size→S' b→S b):qac (hide S w) (hide S' w'):=fun ad v hc=>by
 obtain⟨hn,hv⟩:=qh7.1 hc;have hlt:=zj w ad hv;refine qh7.2 ⟨fun hS=>hn (hs _ hlt hS),?_⟩;rw[← hv];exact zlb (h.block _ hlt hn)
theorem qat.hide {S:Nat→Prop} {w:World} {b o:Nat} {cs:List Value} (h:qat w b o cs) (hb:¬ S b):qat (hide S w) b o cs:=fun j v hv=>qh7.2 ⟨hb,h j v hv⟩
section
variable {P:Program} (w:World)
theorem qo6 (t ty e:TypeId) (i:TypeInfo) (z:Value) (size bytes:Nat) (ht:P.underlying t=some (.slice e)) (hi:P.info? e=some i) (hz:i.zero=some z)
  (hsize:i.size=size) (hby:i.bytes=bytes) (hzs:z.cells.size=size) (hsz:0<size)
  (v:Value) (n:Nat) (xs:List Value) (hown:w.ownsRow 0 e size v n xs)
  (a:Addr) (m c:Nat) (news:List Value) (hl:news.length=m * size) (hnews:∀ j u,news[j]?=some u→w.cell? (a.add j)=some u) (h1:∀ u∈news,u.oneCell'=true)
  (h63:n+m≤maxLen) (hbytes:(n+m) * bytes≤140737488355328) (hm:0<m):
  ∃ v' w',(Builtin.append_ #[t,t] ty #[v,.slice (some a) m c]).run P w = .ok v' w'∧w'.ownsRow 0 e size v' (n+m) (xs++news)∧w.grownBy w' v.ownBlock∧
   (v'.ownBlock=v.ownBlock∨v'.ownBlock=some w.heap.size):=by
 obtain⟨v',w',hr,h2,h3,-⟩:=run_append_own (P:=P) w 0 t ty e i z size bytes ht hi hz hsize hby hzs hsz v n xs hown a m c news hl hnews h1 h63 hbytes (Nat.zero_le _);refine⟨v',w',hr,h2,h3,?_⟩;subst hsize hby;have h63':n+m≤9223372036854775807:=by simp only[maxLen] at h63;omega
 rcases hown.2 with ⟨rfl,rfl⟩|⟨g,cap,cur,rfl,-,hg,hnc,hcm,hcs,htake⟩
 ·have e:=run_append_nil (P:=P) w t ty e i z ht hi hz a m c news hl hnews hm (by omega) (by have hb:=hbytes;simp only[Nat.zero_add] at hb;omega);rw[hr] at e;injection e with e1 e2;right;rw[e1];rfl
 ·by_cases hroom:n+m≤cap
  ·have hfit:n * i.size+news.length≤cur.size:=by rw[hl,hcs,← Nat.add_mul];exact Nat.mul_le_mul_right _ hroom
   have e:=run_append_room (P:=P) w t ty e i ht hi g n cap cur hg a m c news hl hnews h1 hroom hfit;rw[hr] at e;injection e with e1 e2;left;rw[e1];rfl
  ·have holds:∀ j u,xs[j]?=some u→w.cell? ((⟨g,0,none⟩:Addr).add j)=some u:=hown.cells (g:=g) rfl;have e:=run_append_grow (P:=P) w t ty e i z ht hi hz ⟨g,0,none⟩ n cap xs hown.1 holds a m c news hl hnews (by omega) (by omega) (growslice_fits (by omega) hbytes);rw[hr] at e;injection e with e1 e2;right;rw[e1];rfl
theorem qb2 {ops:Array Oper} {rest:List Oper} {o:Oper} {a:Act} {Q:Exit→Act→World→Prop} (hgd:o.guard=none) (s x:Operand) (t:TypeId)
  (ho:o.op = .call { callee := .builtin .append,args:=#[s,x],argTypes:=#[t,t] })
  (e:TypeId) (i:TypeInfo) (z:Value) (size bytes:Nat) (ht:P.underlying t=some (.slice e)) (hi:P.info? e=some i) (hz:i.zero=some z)
  (hsize:i.size=size) (hby:i.bytes=bytes) (hzs:z.cells.size=size) (hsz:0<size)
  (v:Value) (n:Nat) (xs:List Value) (hs:a.eval s=v) (hown:w.ownsRow 0 e size v n xs)
  (ad:Addr) (m c:Nat) (news:List Value) (hx:a.eval x = .slice (some ad) m c) (hl:news.length=m * size) (hnews:∀ j u,news[j]?=some u→w.cell? (ad.add j)=some u) (h1:∀ u∈news,u.oneCell'=true)
  (h63:n+m≤maxLen) (hbytes:(n+m) * bytes≤140737488355328) (hm:0<m)
  (h:∀ v' w',w'.ownsRow 0 e size v' (n+m) (xs++news)→w.grownBy w' v.ownBlock→(v'.ownBlock=v.ownBlock∨v'.ownBlock=some w.heap.size)→wpList P ops Q rest (a.put o.dst v') w'):wpList P ops Q (o::rest) a w:=by
 refine wpList_plain hgd fun _ hK => ?_;obtain⟨v',w',hr,h2,h3,h4⟩:=qo6 (P:=P) w t o.type e i z size bytes ht hi hz hsize hby hzs hsz v n xs hown ad m c news hl hnews h1 h63 hbytes hm;unfold Oper.wp execOp;simp only[ho,resolve,invoke,builtin,Sem.run_bind,Sem.run_pure,Result.andThen_ok,List.map_toArray,List.map_cons,List.map_nil,hs,hx,hr];exact hK _ _ (h v' w' h2 h3 h4)
end
theorem qak {w:World} {e:TypeId} {size n:Nat} {v:Value} {xs:List Value} (h:w.ownsRow 0 e size v n xs):
  ∃ a c,v = .slice a n c∧n≤c∧(∀ ad,a=some ad→∃ g,ad=⟨g,0,none⟩∧g<w.heap.size∧v.ownBlock=some g∧qat w g 0 xs)∧(a=none→n=0∧v.ownBlock=none):=by
 obtain⟨hl,⟨rfl,rfl⟩|⟨g,cap,cur,rfl,-,hg,hnc,-,hcs,htake⟩⟩:=h
 ·exact⟨none,0,rfl,zl _,(fun ad h=>by cases h),fun _=>⟨rfl,rfl⟩⟩
 ·refine⟨_,cap,rfl,hnc,fun ad h => ?_,fun h=>by cases h⟩;cases h;refine⟨g,rfl,(zab.1 hg).1,rfl,fun j v hv => ?_⟩;subst htake;rw[Nat.zero_add];simp only[World.cell?,hg];rw[List.getElem?_take] at hv;split at hv
  ·simpa using hv
  ·cases hv
theorem qab {S:Nat→Prop} {w w':World} {e:TypeId} {size n:Nat} {v:Value} {xs:List Value} (h:w.ownsRow 0 e size v n xs) (ha:qag S w w') (hs:∀ g,v.ownBlock=some g→¬ S g):w'.ownsRow 0 e size v n xs:=by
 obtain⟨hl,⟨rfl,rfl⟩|⟨g,cap,cur,rfl,h0,hg,hr⟩⟩:=h
 ·exact⟨hl,.inl ⟨rfl,rfl⟩⟩
 ·exact⟨hl,.inr ⟨g,cap,cur,rfl,h0,(ha.block g (zab.1 hg).1 (hs g rfl)).trans hg,hr⟩⟩
def TysX (w:World):List Ty→List Value→Prop
 | [],xs=>xs=[]
 | t::r,xs=>∃ cs ys,xs=cs++ys∧TyC w t cs∧TysX w r ys
def FdsX (w:World):List Fd→List Value→Prop
 | [],xs=>xs=[]
 | f::r,xs=>∃ cs ys,xs=(.int .i64 f.name :: .bool f.embedded::cs)++ys∧i64 f.name∧TyC w f.of cs∧FdsX w r ys
def MsX:List Meth→List Value→Prop
 | [],xs=>xs=[]
 | m::r,xs=>∃ ys,xs=[.int .i64 m.name,.bool m.ptr]++ys∧i64 m.name∧MsX r ys
theorem TysX.snoc {w:World} {t:Ty} {cs:List Value} (ht:TyC w t cs):∀ {l:List Ty} {xs:List Value},TysX w l xs→TysX w (l++[t]) (xs++cs)
 | [],xs,h=>by simp only[TysX] at h;subst h;exact⟨cs,[],by simp,ht,rfl⟩
 | u::r,xs,⟨cs',ys,e,h1,h2⟩=>by subst e;exact⟨cs',ys++cs,by simp,h1,TysX.snoc ht h2⟩
theorem FdsX.snoc {w:World} {f:Fd} {cs:List Value} (hi:i64 f.name) (ht:TyC w f.of cs):∀ {l:List Fd} {xs:List Value},FdsX w l xs→FdsX w (l++[f]) (xs++(.int .i64 f.name :: .bool f.embedded::cs))
 | [],xs,h=>by simp only[FdsX] at h;subst h;exact⟨cs,[],by simp,hi,ht,rfl⟩
 | u::r,xs,⟨cs',ys,e,h0,h1,h2⟩=>by subst e;exact⟨cs',ys++(.int .i64 f.name :: .bool f.embedded::cs),by simp,h0,h1,FdsX.snoc hi ht h2⟩
theorem MsX.snoc {m:Meth} (hi:i64 m.name):∀ {l:List Meth} {xs:List Value},MsX l xs→MsX (l++[m]) (xs++[.int .i64 m.name,.bool m.ptr])
 | [],xs,h=>by simp only[MsX] at h;subst h;exact⟨[],by simp,hi,rfl⟩
 | u::r,xs,⟨ys,e,h0,h2⟩=>by subst e;exact⟨ys++[.int .i64 m.name,.bool m.ptr],by simp,h0,MsX.snoc hi h2⟩
theorem TysX.keep {w W:World} (k:qac w W):∀ {l:List Ty} {xs:List Value},TysX w l xs→TysX W l xs
 | [],xs,h=>h
 | u::r,xs,⟨cs',ys,e,h1,h2⟩=>⟨cs',ys,e,TyC.keep k h1,TysX.keep k h2⟩
theorem FdsX.keep {w W:World} (k:qac w W):∀ {l:List Fd} {xs:List Value},FdsX w l xs→FdsX W l xs
 | [],xs,h=>h
 | u::r,xs,⟨cs',ys,e,h0,h1,h2⟩=>⟨cs',ys,e,h0,TyC.keep k h1,FdsX.keep k h2⟩
theorem TyC.len {w:World} {t:Ty} {cs:List Value} (h:TyC w t cs):cs.length=6:=by
 obtain⟨x1,d1,x2,d2,x3,d3,x4,d4,rfl,-⟩:=h.open;rfl
theorem qat.split {w:World} {b o:Nat} {cs ys:List Value} (h:qat w b o (cs++ys)):qat w b o cs∧qat w b (o+cs.length) ys:=by
 refine⟨fun j v hv=>h j v ?_,fun j v hv => ?_⟩
 ·rw[List.getElem?_append_left (zjb.1 hv).1];exact hv
 ·have:=h (cs.length+j) v (by rw[List.getElem?_append_right (by omega),show cs.length+j - cs.length=j by omega];exact hv);rw[Nat.add_assoc];exact this
theorem TysX.row {w:World} {a:Option Addr}:∀ {l:List Ty} {xs:List Value} (i:Nat),TysX w l xs→(l≠[]→∃ g,a=some ⟨g,0,none⟩∧qat w g (0+i * 6) xs)→TysR w a i l
 | [],xs,i,h,hc=>by simp[TysR]
 | u::r,xs,i,⟨cs,ys,e,h1,h2⟩,hc=>by
  obtain⟨g,ha,hg⟩:=hc (by simp);subst e;obtain⟨hs1,hs2⟩:=hg.split;simp only[TysR];refine⟨⟨g,0,cs,ha,hs1,h1⟩,TysX.row (i+1) h2 fun _=>⟨g,ha,?_⟩⟩;rw[h1.len] at hs2;have e:0+(i+1) * 6=0+i * 6+6:=by omega
  rw[e];exact hs2
theorem FdsX.row {w:World} {a:Option Addr}:∀ {l:List Fd} {xs:List Value} (i:Nat),FdsX w l xs→(l≠[]→∃ g,a=some ⟨g,0,none⟩∧qat w g (0+i * 8) xs)→FdsR w a i l
 | [],xs,i,h,hc=>by simp[FdsR]
 | .mk n em t::r,xs,i,⟨cs,ys,e,h0,h1,h2⟩,hc=>by
  obtain⟨g,ha,hg⟩:=hc (by simp);subst e;obtain⟨hs1,hs2⟩:=hg.split;simp only[FdsR,FdE];refine⟨⟨g,0,cs,ha,h0,hs1,h1⟩,FdsX.row (i+1) h2 fun _=>⟨g,ha,?_⟩⟩;simp only[List.length_cons,h1.len] at hs2;have e:0+(i+1) * 8=0+i * 8+(6+1+1):=by omega
  rw[e];exact hs2
theorem MsX.row {w:World} {a:Option Addr}:∀ {l:List Meth} {xs:List Value} (i:Nat),MsX l xs→(l≠[]→∃ g,a=some ⟨g,0,none⟩∧qat w g (0+i * 2) xs)→MsR w a i l
 | [],xs,i,h,hc=>by simp[MsR]
 | m::r,xs,i,⟨ys,e,h0,h2⟩,hc=>by
  obtain⟨g,ha,hg⟩:=hc (by simp);subst e;obtain⟨hs1,hs2⟩:=hg.split;refine⟨⟨g,0,ha,h0,hs1⟩,MsX.row (i+1) h2 fun _=>⟨g,ha,?_⟩⟩;have e:0+(i+1) * 2=0+i * 2+2:=by omega
  rw[e];exact hs2
theorem qdd {α:Type} (l:List α) (k:Nat) (hk:k<l.length):l.take (k+1)=l.take k++[l[k]]:=by
 rw[List.take_succ_eq_append_getElem hk]
abbrev HidR (B:Nat) (v:Value):Nat→Prop:=fun b=>b<B∨v.ownBlock=some b
theorem qgj {B n m:Nat} {T:TypeId} {size:Nat} {wr wc w5 w6:World} {v v':Value} {xs ys:List Value} {a:Addr} {u:Value} (ha:a.block<B) (hsz:B≤wr.heap.size)
  (hb:Below wr.heap.size wr wc) (hown:wr.ownsRow 0 T size v n xs) (hv:∀ g,v.ownBlock=some g→B≤g) (h5:w5.ownsRow 0 T size v' m ys) (hg:wc.grownBy w5 v.ownBlock)
  (hl:v'.ownBlock=v.ownBlock∨v'.ownBlock=some wc.heap.size) (h6:w6=w5.setCell a u):
  qac (hide (HidR B v) wr) (hide (HidR B v') w6)∧qac (hide (fun b=>b<wr.heap.size) wc) (hide (HidR B v') w6)∧w6.ownsRow 0 T size v' m ys∧(∀ g,v'.ownBlock=some g→B≤g)∧
   qag (HidR B v) wr w6:=by
 have hlt:∀ g,v.ownBlock=some g→g<wr.heap.size:=fun g hg=>(hown.lt g hg).2;have hz:=hb.size;have hv':∀ g,v'.ownBlock=some g→B≤g:=fun g hg=>by
  rcases hl with e|e
  ·exact hv g (e ▸ hg)
  ·rw[e] at hg;cases hg;omega
 have hA1:qag (HidR B v) wr w6:=by
  subst h6;refine(qag.keep hb).trans ((qag.grown hg fun b h _=>Or.inr h).trans (qag.setCell _ _ (Or.inl ha) _))
 have hA2:qag (fun b=>b<wr.heap.size) wc w6:=by
  subst h6;exact(qag.grown hg fun b h _=>hlt b h).trans (qag.setCell _ _ (by show a.block<_;omega) _)
 refine⟨qac.hide hA1 fun b hb' hS => ?_,qac.hide hA2 fun b hb' hS => ?_,?_,hv',hA1⟩
 ·rcases hS with hS|hS
  ·exact .inl hS
  ·rcases hl with e|e
   ·exact .inr (e ▸ hS)
   ·rw[e] at hS;cases hS;omega
 ·rcases hS with hS|hS
  ·show b<_;omega
  ·rcases hl with e|e
   ·exact hlt b (e ▸ hS)
   ·rw[e] at hS;cases hS;omega
 ·subst h6;exact qab h5 (qag.setCell (fun b=>b=a.block) _ rfl _) fun g hg e=>by
   have:=hv' g hg;omega
theorem Blk.grown {w w':World} {b:Nat} {T:TypeId} {cs:List Value} {row:Option Nat} (h:Blk w b T cs) (hg:w.grownBy w' row) (hne:∀ g,row=some g→b<g):Blk w' b T cs:=by
 have hl:=h.lt;unfold Blk at *;rw[hg.block b hl fun e=>by have:=hne b e.symm;omega];exact h
theorem qd7 {w w':World} {row:Option Nat} (hg:w.grownBy w' row):w.heap.size≤w'.heap.size:=hg.size
theorem qck {w:World} {b:Nat} {T:TypeId} {cs:List Value} (h:Blk w b T cs):∀ j u,cs[j]?=some u→w.cell? ((⟨b,0,none⟩:Addr).add j)=some u:=fun j u hu=>by
 have:=h.cells j u hu;rw[Nat.zero_add] at this;rw[Addr.add_lit,Nat.zero_add];exact this
theorem qjw {B:Nat} {wA wr wc w5 w6:World} {own:Option Nat} {a:Addr} {u:Value} (h:qag (fun b=>b<B∨wA.heap.size≤b) wA wr) (hb:Below wr.heap.size wr wc) (hg:wc.grownBy w5 own) (hv:∀ g,own=some g→wA.heap.size≤g)
  (ha:a.block<B) (h6:w6=w5.setCell a u):qag (fun b=>b<B∨wA.heap.size≤b) wA w6:=by
 subst h6;exact h.trans ((qag.keep hb).trans ((qag.grown hg fun b h _ => .inr (hv b h)).trans (qag.setCell _ _ (.inl ha) _)))
theorem qag.old {B:Nat} {wA wr:World} (h:qag (fun b=>b<B∨wA.heap.size≤b) wA wr):qag (fun b=>b<B) wA wr:=h.mono fun b hb hs=>by
 rcases hs with hs|hs
 ·exact hs
 ·omega
theorem qec {B C:Nat} (h:B≤C) (w:World):qac (hide (fun b=>b<C) w) (hide (fun b=>b<B) w):=
 qac.hide (qag.refl _ _) fun b _ hb=>Nat.lt_of_lt_of_le hb h
theorem qj0 {B:Nat} {w W:World} (h:qag (fun b=>b<B) w W):qac (hide (fun b=>b<B) w) (hide (fun b=>b<B) W):=
 qac.hide h fun b _ hb=>hb
theorem qb4 {S:Nat→Prop} {w W:World} (h:Below w.heap.size w W):qac (hide S w) (hide S W):=qac.hide (qag.keep h) fun b _ hb=>hb
theorem qii {S:Nat→Prop} (w:World) (O:Obj):qac (hide S w) (hide S (w.alloc O)):=qb4 ((zp _ _).alloc (zl _) _)
theorem oc6 (a b:Int) (x1 x2 x3 x4:Option Addr) (n1 n2 n3 n4 c1 c2 c3 c4:Nat):∀ u∈[Value.int .i64 a,.int .i64 b,.slice x1 n1 c1,.slice x2 n2 c2,.slice x3 n3 c3,.slice x4 n4 c4],u.oneCell'=true:=by simp[Value.oneCell']
theorem oc8 (a b d:Int) (e:Bool) (x1 x2 x3 x4:Option Addr) (n1 n2 n3 n4 c1 c2 c3 c4:Nat):∀ u∈[Value.int .i64 d,.bool e,.int .i64 a,.int .i64 b,.slice x1 n1 c1,.slice x2 n2 c2,.slice x3 n3 c3,.slice x4 n4 c4],u.oneCell'=true:=by simp[Value.oneCell']
theorem oc2 (a:Int) (e:Bool):∀ u∈[Value.int .i64 a,.bool e],u.oneCell'=true:=by simp[Value.oneCell']
theorem qr1 (S:Nat→Prop) (w:World) (b:Nat) (hb:S b) (v0 v1 v2 v3 v4 v5:Value):
  qag S w ((((((w.setCell ⟨b,0,none⟩ v0).setCell ⟨b,1,none⟩ v1).setCell ⟨b,2,none⟩ v2).setCell ⟨b,3,none⟩ v3).setCell ⟨b,4,none⟩ v4).setCell ⟨b,5,none⟩ v5):=
 ((((((qag.setCell S _ hb _).trans (qag.setCell S _ hb _)).trans (qag.setCell S _ hb _)).trans (qag.setCell S _ hb _)).trans (qag.setCell S _ hb _)).trans (qag.setCell S _ hb _))
theorem qq8 {S:Nat→Prop} {wA wr wc w5 w6:World} {own:Option Nat} {a:Addr} {u:Value} (h:qag S wA wr) (hb:Below wr.heap.size wr wc) (hg:wc.grownBy w5 own) (hv:∀ g,own=some g→S g)
  (ha:S a.block) (h6:w6=w5.setCell a u):qag S wA w6:=by
 subst h6;exact h.trans ((qag.keep hb).trans ((qag.grown hg fun b h _=>hv b h).trans (qag.setCell _ _ ha _)))
theorem Blk.apart {S:Nat→Prop} {w w':World} {b:Nat} {T:TypeId} {cs:List Value} (h:Blk w b T cs) (ha:qag S w w') (hb:¬ S b):Blk w' b T cs:=by
 have hl:=h.lt;unfold Blk at *;rw[ha.block b hl hb];exact h
theorem qio {B n:Nat} {T:TypeId} {size:Nat} {w:World} {a:Option Addr} {c:Nat} {xs:List Value} (hown:w.ownsRow 0 T size (.slice a n c) n xs) (hv:∀ g,(Value.slice a n c).ownBlock=some g→B≤g):
  qac (hide (HidR B (.slice a n c)) w) (hide (fun b=>b<B) w)∧(0<n→∃ g,a=some ⟨g,0,none⟩∧qat (hide (fun b=>b<B) w) g (0+0 * size) xs):=by
 refine⟨qac.hide (qag.refl _ _) fun b _ h => .inl h,fun h0 => ?_⟩;obtain⟨a',c',he,-,h1,h2⟩:=qak hown;cases he;cases a with
 | none=>have:=(h2 rfl).1;omega
 | some ad=>
  obtain⟨g,rfl,hg,ho,hc⟩:=h1 ad rfl;refine⟨g,rfl,?_⟩;rw[Nat.zero_mul];exact hc.hide (by have:=hv g ho;omega)
