import Derived.Test.YtmfhclggkjjcdaaGreatDoorK27
import Derived.Test.YtmfhclggkjjcdaaGreatDoorK20
import Derived.Test.YtmfhclggkjjcdaaGreatDoorK09
set_option linter.all false
set_option maxHeartbeats 4000000
namespace Go.Proofs.YtmfhclggkjjcdaaGreatDoor
open Go Go.RowKit
open Go.ChangeMaps (setBlock)
set_option maxRecDepth 100000
theorem qnh (w:World) (r:Nat) (o:Obj) {b:Nat} (h:b≠r):(setBlock w r o).heap[b]?=w.heap[b]?:=by
 simp only[setBlock];rw[Array.getElem?_setIfInBounds,if_neg (fun e=>h e.symm)]
theorem qpq (w:World) (r:Nat) (o:Obj) (h:r<w.heap.size):(setBlock w r o).heap[r]?=some o:=by
 simp only[setBlock];rw[Array.getElem?_setIfInBounds,if_pos rfl,if_pos h]
theorem qhy (w:World) (r:Nat) (o:Obj):(setBlock w r o).heap.size=w.heap.size:=by simp[setBlock]
theorem qk1 {B:Nat} {w w':World} (h:Below B w w') (r:Nat) (o:Obj) (hr:B≤r):Below B w (setBlock w' r o):=
 ⟨h.os,h.tape,h.output,by rw[qhy];exact h.size,fun b hb=>by rw[qnh _ _ _ (by omega)];exact h.block b hb⟩
structure qhl (F:Fix) (P:Nat→Nat) (s:St) (w:World) (acc:List Spot) (L:List ((TypeId×Nat)×Nat)):Prop where
 len:L.length=acc.length
 at_:∀ i (hi:i<L.length) (hj:i<acc.length),L[i].2=i∧TyIn w L[i].1∧∃ u,PlV F P s w acc[i] (tyV L[i].1) u
 ne:acc.Pairwise fun a b=>can F.W a≠can F.W b
theorem qhl.keep {F:Fix} {P:Nat→Nat} {s:St} {w w':World} {acc:List Spot} {L:List ((TypeId×Nat)×Nat)} (h:qhl F P s w acc L) (hb:Below w.heap.size w w'):qhl F P s w' acc L:=
 ⟨h.len,fun i hi hj=>by
  obtain⟨q1,q2,u,q3⟩:=h.at_ i hi hj;exact⟨q1,q2.keep hb,u,q3.keep hb⟩,h.ne⟩
open Classical in
noncomputable def qc7 (W:Wd) (acc:List Spot) (p:Spot):Option Nat:=acc.findIdx? fun a=>decide (can W a=can W p)
theorem qfj {W:Wd} {acc:List Spot} {p:Spot} (hne:acc.Pairwise fun a b=>can W a≠can W b) {i:Nat} (hi:i<acc.length) (h:can W acc[i]=can W p):qc7 W acc p=some i:=by
 unfold qc7;rw[List.findIdx?_eq_some_iff_getElem];refine⟨hi,by simpa using h,fun j hj => ?_⟩;have:=List.pairwise_iff_getElem.1 hne j i (by omega) hi hj;simp only[decide_eq_true_eq];intro e;exact this (e.trans h.symm)
theorem qpc {W:Wd} {acc:List Spot} {p:Spot} (h:∀ i (hi:i<acc.length),can W acc[i]≠can W p):qc7 W acc p=none:=by
 unfold qc7;rw[List.findIdx?_eq_none_iff];intro x hx;obtain⟨i,hi,rfl⟩:=List.mem_iff_getElem.1 hx;simpa using h i hi
theorem PlV.same {F:Fix} {P:Nat→Nat} {w0:World} {s:St} {w:World} (A:Amb F P w0 s w) {p q:Spot} {v u u':Value} (h:PlV F P s w p v u) (h':PlV F P s w q v u'):can F.W p=can F.W q:=by
 have e:=h.plain.unique h'.plain;subst e;exact qib A 2002 p q u h.spo h'.spo h.den h'.den
theorem qk5 {F:Fix} {P:Nat→Nat} {w0:World} {s:St} {w:World} (A:Amb F P w0 s w) {r:Nat} {L:List ((TypeId×Nat)×Nat)} {acc:List Spot} (hM:IMap w r L) (hK:qhl F P s w acc L) (k:TypeId×Nat) (p:Spot) (u:Value) (hp:PlV F P s w p (tyV k) u) (hk:TyIn w k):
  Calls Tryz.prog 145 #[.map (some r),tyV k] w (qa2 (lkT (qc7 F.W acc p)) w):=by
 have hg:∀ x∈L,TyIn w x.1:=fun x hx=>by
  obtain⟨i,hi,rfl⟩:=List.mem_iff_getElem.1 hx;exact(hK.at_ i hi (by rw[← hK.len];exact hi)).2.1
 have hlk:=qmy w hM k hk hg;cases hgt:getT L k with
 | some v=>
  rw[hgt] at hlk;have hv:qc7 F.W acc p=some v:=by
   unfold getT at hgt;obtain⟨x,h1,h2⟩:=zbb.1 hgt;obtain⟨i,hi,rfl⟩:=List.mem_iff_getElem.1 (List.mem_of_find?_eq_some h1);have h3:=List.find?_some h1;simp only[beq_iff_eq] at h3;obtain⟨q1,q2,u',q3⟩:=hK.at_ i hi (by rw[← hK.len];exact hi);rw[h3] at q3;rw[q1] at h2;subst h2;exact qfj hK.ne (by rw[← hK.len];exact hi) (q3.same A hp)
  rw[hv];simp only[lkT,Option.getD_some,Option.isSome_some] at hlk ⊢;clear A hM hK hp hk hg hgt hv;go_enter Tryz.func145,Tryz.ntmps145
  go_wp2_with fail
  go_ret2
  exact⟨rfl,zp _ _⟩
 | none=>
  rw[hgt] at hlk;simp only[lkT,Option.getD_none,Option.isSome_none] at hlk;obtain⟨es,clock,hes,hL,hbo,hnd⟩:=hM.ex;have hrg:=run_range_map (P:=Tryz.prog) w 284 _ _ r es clock Tryz.underlying284 hes;have hrl:r<w.heap.size:=(zab.1 hes).1;have HA:=hid A;have HK:=hid hK;have Hp:=hid hp;have Hk:=hid hk;have Hes:=hid (And.intro hes (And.intro hL (And.intro hbo hnd)));have Hgt:=hid hgt;clear hM hK hk hg hgt hes hL hbo hnd;go_enter Tryz.func145,Tryz.ntmps145
  go_wp2_with fail
  go_loopw [8] (fun v wr=>∃ seen c0,Hid (Below w.heap.size w wr∧clock≤c0∧wr.heap[w.heap.size]?=some (.mapIter (some r) clock seen c0)∧∀ e∈es.toList,seen.contains e.born=true→∀ i (hi:i<L.length) (hj:i<acc.length),e.key=tyV L[i].1→can F.W acc[i]≠can F.W p))
   (fun _ wr=>(leftOf es (wr.iterSeen w.heap.size)).size)
  case atStart=>exact⟨#[],clock,hid ⟨(zp _ _).alloc (zl _) _,zl _,heap_alloc_new _ _,fun e he h=>by simp at h⟩⟩
  case round=>
   refine hrel.elim fun seen hrel=>hrel.elim fun c0 hrel => ?_;have hAw:=A.keep hrel.out.1;have key:∀ e∈es.toList,∃ i,∃ (hi:i<L.length) (hj:i<acc.length),e.key=tyV L[i].1∧e.val = .int .i64 i:=fun e he=>by
    obtain⟨i,hi,rfl⟩:=List.mem_iff_getElem.1 he;have h1:=congrArg (fun l=>l[i]?) Hes.out.2.1;have hi2:i<L.length:=by
     have:=congrArg List.length Hes.out.2.1;simp only[List.length_map] at this;omega
    have hi3:i<acc.length:=by rw[← HK.out.len];exact hi2
    simp only[List.getElem?_map,zr hi,zr hi2,Option.map_some,Option.some.injEq,Prod.mk.injEq] at h1;exact⟨i,hi2,hi3,h1.1,by rw[h1.2,(HK.out.at_ i hi2 hi3).1]⟩
   rcases run_next_at (P:=Tryz.prog) wr 0 w.heap.size r clock c0 seen es clock hrel.out.2.2.1 ((hrel.out.1.block r hrl).trans Hes.out.1) Hes.out.2.2.1 hrel.out.2.1 with ⟨h0,hnx⟩|⟨e,he,w1,hw1,hnx⟩
   ·have hn:qc7 F.W acc p=none:=qpc fun i hi e=>by
     have hi2:i<L.length:=by rw[HK.out.len];exact hi
     have hi3:i<es.toList.length:=by
      have:=congrArg List.length Hes.out.2.1;simp only[List.length_map] at this;omega
     have hm:=z8 hi3;obtain⟨i',h1,h2,h3,h4⟩:=key _ hm;have h5:=congrArg (fun l=>l[i]?) Hes.out.2.1;simp only[List.getElem?_map,zr hi3,zr hi2,Option.map_some,Option.some.injEq,Prod.mk.injEq] at h5;exact hrel.out.2.2.2 _ hm (all_seen es seen h0 _ hm) i hi2 hi h5.1 e
    have Hn:=hid hn;have Hbel:=hid hrel.out.1;clear hn hrel key h0 hAw
    go_wp2_with fail
    go_ret2
    exact⟨by rw[Hn.out];rfl,Hbel.out⟩
   ·obtain⟨hem,hns⟩:=mem_left he;obtain⟨i,hi,hj,h1,h2⟩:=key e hem;obtain⟨q1,q2,u',q3⟩:=HK.out.at_ i hi hj;obtain⟨W1,hW1⟩:∃ W1,W1=setBlock w1 w.heap.size (.mapIter (some r) clock (seen.push e.born) clock):=⟨_,rfl⟩;have hb1:Below w.heap.size w w1:=by
     rcases hw1 with rfl|rfl
     ·exact hrel.out.1
     ·exact hrel.out.1.drew
    have hsz1:w.heap.size<w1.heap.size:=by
     have h3:=(zab.1 hrel.out.2.2.1).1;rcases hw1 with rfl|rfl
     ·exact h3
     ·exact h3
    have hB1:Below w.heap.size w W1:=by rw[hW1];exact qk1 hb1 _ _ (zl _)
    have hit:W1.heap[w.heap.size]?=some (.mapIter (some r) clock (seen.push e.born) clock):=by rw[hW1];exact qpq _ _ _ hsz1
    have hen:=run_entry_at (P:=Tryz.prog) W1 w.heap.size r clock seen es clock e hit ((hB1.block r hrl).trans Hes.out.1) hem Hes.out.2.2.2;rw[← hW1] at hnx;rw[h1,h2] at hnx hen;have HI:=hid (qmg (A.keep hB1) (q3.keep hB1) (hp.keep hB1));have HB1:=hid hB1;have Hit:=hid hit;have Hrel:=hid hrel.out;have Hem:=hid (And.intro he (And.intro hem (And.intro hns h1)));have Hw1:=hid hsz1;have Hsz:Hid (w.heap.size<W1.heap.size):=hid (by rw[hW1,qhy];exact hsz1);clear hrel key hAw he hem hns h1 h2 q1 q2 q3 hW1 hw1 hb1 hsz1 hB1 hit;by_cases hc:can F.W acc[i]=can F.W p
    ·rw[@decide_eq_true _ (Classical.propDecidable _) hc] at HI;have Hv:Hid (qc7 F.W acc p=some i):=hid (qfj HK.out.ne hj hc);clear hc
     go_wp2_with (go_at_call 99;refine HI.out.mono ?_;rintro e' W2 ⟨rfl,hb2⟩;have Hb2:=hid hb2;clear hb2)
     go_ret2
     exact⟨by rw[Hv.out];rfl,HB1.out.trans (Hb2.out.mono HB1.out.size)⟩
    ·rw[@decide_eq_false _ (Classical.propDecidable _) hc] at HI;have Hc:=hid hc;clear hc
     go_wp2_with (go_at_call 99;refine HI.out.mono ?_;rintro e' W2 ⟨rfl,hb2⟩;have Hb2:=hid hb2;clear hb2)
     go_roundw
     case rel=>exact⟨seen.push e.born,clock,hid ⟨HB1.out.trans (Hb2.out.mono HB1.out.size),zl _,(Hb2.out.block _ Hsz.out).trans Hit.out,fun e2 he2 hs2 i2 hi2 hj2 hk2 hcan=>by
      by_cases e12:e2.born=e.born
      ·have:e2=e:=by
        have f1:=find_born e2 es.toList Hes.out.2.2.2 he2;have f2:=find_born e es.toList Hes.out.2.2.2 Hem.out.2.1;rw[e12,f2] at f1;exact(Option.some.inj f1).symm
       subst this;rw[Hem.out.2.2.2] at hk2;have hpl:=HK.out.at_ i2 hi2 hj2;obtain⟨-,-,ua,pa⟩:=hpl;obtain⟨-,-,ub,pb⟩:=HK.out.at_ i hi hj;rw[← hk2] at pa;exact Hc.out ((pb.same HA.out pa).trans hcan)
      ·refine Hrel.out.2.2.2 e2 he2 ?_ i2 hi2 hj2 hk2 hcan;simp only[Array.contains_push,Bool.or_eq_true,beq_iff_eq] at hs2;rcases hs2 with hs2|hs2
       ·exact hs2
       ·exact absurd hs2 e12⟩⟩
     case measure=>
      have e1:W2.iterSeen w.heap.size=seen.push e.born:=by
       unfold World.iterSeen;rw[(Hb2.out.block _ Hsz.out).trans Hit.out]
      have e2:wr.iterSeen w.heap.size=seen:=by
       unfold World.iterSeen;rw[Hrel.out.2.2.1]
      rw[e1,e2];exact left_shrinks es seen e Hem.out.1
end Go.Proofs.YtmfhclggkjjcdaaGreatDoor
namespace Go.Proofs.YtmfhclggkjjcdaaGreatDoor
open Go Go.RowKit
set_option maxRecDepth 100000
theorem Tryz.zPtr:(Tryz.prog.info? 145).map (·.zero)=some (some (.pointer none)):=by kernel_rfl
theorem qn2 (v:Value) (b:Nat) (T:TypeId) (x:Option Addr) (w:World) (h:qbs w v (.iface 145 (ptrV b))) (hb:w.cell? ⟨b,0,none⟩=some (.iface T (.pointer x))):
  Calls Tryz.prog 108 #[v] w fun e w'=>e = .returned (.tuple #[.iface T (.pointer x),.bool true])∧w'=w:=by
 have h1:=fun v w=>qb5 Tryz.underlying145 v w;have H:=hid h;clear h;go_enter Tryz.func108,Tryz.ntmps108
 go_wp2_with (go_at_call 86;refine(qan _ _ _ H.out).mono ?_;rintro e w' ⟨rfl,rfl⟩)
 go_ret2
 exact⟨rfl,rfl⟩
theorem qqu (v:Value) (T:TypeId) (x:Addr) (w:World) (hT:T≠145) (h:qbs w v (.iface T (.pointer (some x)))):
  Calls Tryz.prog 108 #[v] w fun e w'=>e = .returned (.tuple #[v,.bool false])∧w'=w:=by
 have h1:=fun v w=>qaw (T:=T) Tryz.underlying145 Tryz.zPtr hT v w;have H:=hid h;clear h;go_enter Tryz.func108,Tryz.ntmps108
 go_wp2_with (go_at_call 86;refine(qan _ _ _ H.out).mono ?_;rintro e w' ⟨rfl,rfl⟩)
 go_ret2
 exact⟨rfl,rfl⟩
theorem qkv (x pk:Nat) (n:Int) (ptr:Bool) (w:World) (h:qel (rdT w) x pk n ptr):Calls Tryz.prog 115 #[ptrV x] w fun e w'=>e = .returned (.bool ptr)∧w'=w:=by
 obtain⟨sg,v,T,a,h1,h2,h3,h4,h5,h6⟩:=h;have c3:=qax (h1 3 _ rfl);have s0:=qax (h2 0 _ rfl);have v3:=qax h3;have hta:=fun v w=>qb5 Tryz.underlying162 v w;clear h1 h2 h3;cases ptr with
 | true=>
  obtain⟨rfl,ho,hsp,T',x',h7⟩:=h5 rfl;obtain⟨ab,ao,asp⟩:=a;simp only at ho hsp h7;subst ho hsp;have HD:=hid (qn2 (.iface 145 (ptrV ab)) ab T' (some x') w ⟨⟨_,_,rfl,by decide⟩,.inl rfl⟩ (qax h7));clear h4 h5 h6 h7;go_enter Tryz.func115,Tryz.ntmps115
  go_wp2_with (go_at_call 108;refine HD.out.mono ?_;rintro e w' ⟨rfl,rfl⟩)
  go_ret
  exact⟨rfl,rfl⟩
 | false=>
  have HD:=hid (qqu (.iface T (.pointer (some a))) T a w (h6 rfl) ⟨⟨_,_,rfl,h4⟩,.inl rfl⟩);clear h4 h5 h6;go_enter Tryz.func115,Tryz.ntmps115
  go_wp2_with (go_at_call 108;refine HD.out.mono ?_;rintro e w' ⟨rfl,rfl⟩)
  go_ret
  exact⟨rfl,rfl⟩
def IxAt (w:World) (v:Value) (l:List Nat):Prop:=∃ a c,v = .slice a l.length c∧w.ownsRow 0 3 1 (.slice a l.length c) l.length (qbh l)
section
variable {P:Program}
theorem qo5 (w:World) (t ty e:TypeId) (i:TypeInfo) (ht:P.underlying t=some (.slice e)) (hi:P.info? e=some i) (a:Option Addr) (c:Nat):(Builtin.append_ #[t,t] ty #[.slice none 0 0,.slice a 0 c]).run P w = .ok (.slice none 0 0) w:=by
 cases a <;> simp[Builtin.append_,run_underlying ht,sizeOf,typeInfo,hi,Builtin.lenOf,Builtin.firstCells,loadCells,loadCellsFrom]
theorem qk2 (w:World) {ops:Array Oper} {rest:List Oper} {o:Oper} {a:Act} {Q:Exit→Act→World→Prop} (hgd:o.guard=none) (s x:Operand) (t:TypeId)
  (ho:o.op = .call { callee := .builtin .append,args:=#[s,x],argTypes:=#[t,t] }) (e:TypeId) (i:TypeInfo) (ht:P.underlying t=some (.slice e)) (hi:P.info? e=some i) (hs:a.eval s = .slice none 0 0) (p:Option Addr) (c:Nat) (hx:a.eval x = .slice p 0 c)
  (h:wpList P ops Q rest (a.put o.dst (.slice none 0 0)) w):wpList P ops Q (o::rest) a w:=by
 refine wpList_plain hgd fun _ hK => ?_;have hr:=qo5 (P:=P) w t o.type e i ht hi p c;unfold Oper.wp execOp;simp only[ho,resolve,invoke,builtin,Sem.run_bind,Sem.run_pure,Result.andThen_ok,List.map_toArray,List.map_cons,List.map_nil,hs,hx,hr];exact hK _ _ h
end
theorem Tryz.infoInt2:∃ i,Tryz.prog.info? 3=some i:=by
 obtain⟨i,h,-⟩:=zbb.1 Tryz.infoInt;exact⟨i,h⟩
theorem qe9 (v:Value) (l:List Nat) (i:Nat) (w:World) (h:IxAt w v l) (hl:l.length≤1099511627775):Calls Tryz.prog 112 #[v,.int .i64 i] w fun e w'=>∃ x:Option Addr×Nat,e = .returned (.slice x.1 (l.length+1) x.2)∧Hid (w'.ownsRow 0 3 1 (.slice x.1 (l.length+1) x.2) (l.length+1) (qbh (l++[i]))∧Below w.heap.size w w'):=by
 obtain⟨a,c,rfl,hown⟩:=h;obtain⟨ii,hii⟩:=Tryz.infoInt2;by_cases h0:l=[]
 ·subst h0;go_enter Tryz.func112,Tryz.ntmps112
  go_wp2_with (first
   | (at_builtin;go_loud (refine qk2 _ rfl _ _ 33 rfl 3 ii Tryz.underlying33 hii rfl a c rfl ?_))
   | (at_builtin;go_loud (refine qbu _ rfl _ _ 33 rfl 3 _ 8 Tryz.infoInt Tryz.underlying33 rfl none 0 0 [] rfl (zdb _ _ _ _) ⟨w.heap.size,0,none⟩ (.int .i64 i) rfl (cell_of_row _ _ _ _ _ _ (qa8 _ _)) rfl rfl (by omega) (by decide) fun ra' rc' w9 hown' hgrow hloc => ?_);have Hg:=hid hgrow;have Ho9:=hid hown';have Hl9:=hid hloc;clear hgrow hown' hloc))
  go_ret
  exact⟨⟨ra',rc'⟩,rfl,hid ⟨by simpa[qbh] using Ho9.out,((zp _ _).alloc (zl _) _).grown Hg.out (by simp) (fun k h=>by cases h)⟩⟩
 ·have hpos:0<l.length:=List.length_pos_iff.2 h0;obtain⟨_,_,he,hcap,h1,h2⟩:=qak hown;cases he;cases a with
  | none=>have:=(h2 rfl).1;omega
  | some ad=>
   obtain⟨g,rfl,-,-,hc⟩:=h1 ad rfl;obtain⟨i0,q1,q2,q3,q4⟩:=info_parts Tryz.infoInt;have Hnews:Hid (∀ j u,(qbh l)[j]?=some u→w.cell? ((⟨g,0,none⟩:Addr).add j)=some u):=hid fun j u hu=>by rw[Addr.add_lit];exact hc j u hu
   have H1:Hid (∀ u∈qbh l,u.oneCell'=true):=hid fun u hu=>by
    obtain⟨n,-,rfl⟩:=zkb.1 hu;rfl
   have hlv:(qbh l).length=l.length * 1:=by rw[quc,Nat.mul_one]
   clear hown h1 h2 hc;go_enter Tryz.func112,Tryz.ntmps112;have tok:True:=trivial
   go_wp2_with (first
    | (at_builtin;have _t:=tok;clear _t tok;go_loud (refine qb2 _ rfl _ _ 33 rfl 3 i0 _ 1 8 Tryz.underlying33 q1 q2 q3 q4 rfl (by decide) (.slice none 0 0) 0 [] rfl (zdb _ _ _ _) ⟨g,0,none⟩ l.length c (qbh l) rfl hlv Hnews.out H1.out (by unfold maxLen;omega) (by omega) hpos fun v9 w9 hown' hgrow hloc => ?_);have Hg:=hid hgrow;have Ho9:=hid hown';have Hl9:=hid hloc;clear hgrow hown' hloc;obtain⟨ra1,rc1,rfl,-⟩:=qak Ho9.out)
    | (at_builtin;go_loud (refine qbu _ rfl _ _ 33 rfl 3 _ 8 Tryz.infoInt Tryz.underlying33 rfl ra1 l.length rc1 (qbh l) rfl (by have:=qab Ho9.out (qag.keep (S:=fun _=>False) ((zp w9.heap.size w9).alloc (zl _) (.cells #[.int .i64 i] 3))) (fun _ _ h=>h);simpa using this) ⟨w9.heap.size,0,none⟩ (.int .i64 i) rfl (cell_of_row _ _ _ _ _ _ (qa8 _ _)) rfl rfl (by omega) (by decide) fun ra' rc' w8 hown' hgrow hloc => ?_);have Hg8:=hid hgrow;have Ho8:=hid hown';have Hl8:=hid hloc;clear hgrow hown' hloc))
   go_ret
   have hB9:Below w.heap.size w w9:=(zp _ _).grown Hg.out (zl _) (fun k h=>by cases h);have hb:∀ k,(Value.slice ra1 l.length rc1).ownBlock=some k→w.heap.size≤k:=fun k hk=>by
    have h:=Hl9.out;rw[Nat.zero_add] at h;rcases h with e|e
    ·rw[e] at hk;cases hk
    ·rw[e] at hk;cases hk;exact zl _
   have hz:=hB9.size;exact⟨⟨ra',rc'⟩,rfl,hid ⟨by simpa[qbh] using Ho8.out,(hB9.alloc (by omega) _).grown Hg8.out (by simp;omega) hb⟩⟩
structure EnC (F:Fix) (P:Nat→Nat) (s:St) (wB w:World) (g o:Nat) (e:En) (k:TypeId×Nat) (ia:Option Addr) (ic:Nat) (u:Value):Prop where
 c0:w.cell? ⟨g,o,none⟩=some (tyV k)
 c1:w.cell? ⟨g,o+1,none⟩=some (.slice ia e.ix.length ic)
 c2:w.cell? ⟨g,o+2,none⟩=some (.bool e.ind)
 c3:w.cell? ⟨g,o+3,none⟩=some (.bool e.mul)
 ty:TyIn wB k
 pl:PlV F P s wB e.to (tyV k) u
 ix:w.ownsRow 0 3 1 (.slice ia e.ix.length ic) e.ix.length (qbh e.ix)
theorem EnC.keep {F:Fix} {P:Nat→Nat} {s:St} {wB w w':World} {g o:Nat} {e:En} {k:TypeId×Nat} {ia:Option Addr} {ic:Nat} {u:Value} (h:EnC F P s wB w g o e k ia ic u) (hb:Below w.heap.size w w'):EnC F P s wB w' g o e k ia ic u:=
 ⟨qac.below hb _ _ h.c0,qac.below hb _ _ h.c1,qac.below hb _ _ h.c2,qac.below hb _ _ h.c3,h.ty,h.pl,qab (S:=fun _=>False) h.ix (qag.keep hb) fun _ _ h=>h⟩
def EnAt (F:Fix) (P:Nat→Nat) (s:St) (wB w:World) (g o:Nat) (e:En):Prop:=∃ k ia ic u,EnC F P s wB w g o e k ia ic u
theorem EnAt.apart {F:Fix} {P:Nat→Nat} {s:St} {wB w w':World} {g o:Nat} {e:En} {S:Nat→Prop} (h:EnAt F P s wB w g o e) (ha:qag S w w') (hg:¬ S g) (hS:∀ b cs,Blk w b 3 cs→¬ S b):EnAt F P s wB w' g o e:=by
 obtain⟨k,ia,ic,u,h⟩:=h;have hb:=zj w _ h.c0;have hc:∀ j,w'.cell? ⟨g,j,none⟩=w.cell? ⟨g,j,none⟩:=fun j=>zlb (ha.block g hb hg);exact⟨k,ia,ic,u,(hc _).trans h.c0,(hc _).trans h.c1,(hc _).trans h.c2,(hc _).trans h.c3,h.ty,h.pl,qab h.ix ha fun b hb'=>by
  obtain⟨cs,hcs⟩:=qaf h.ix hb';exact hS b cs hcs⟩
theorem EnAt.keep {F:Fix} {P:Nat→Nat} {s:St} {wB w w':World} {g o:Nat} {e:En} (h:EnAt F P s wB w g o e) (hb:Below w.heap.size w w'):EnAt F P s wB w' g o e:=
 h.apart (S:=fun _=>False) (qag.keep hb) (fun h=>h) (fun _ _ _ h=>h)
theorem EnAt.set {F:Fix} {P:Nat→Nat} {s:St} {wB w:World} {g o:Nat} {e:En} {cs:List Value} (h:EnAt F P s wB w g o e) (hB:Blk w g 225 cs) (j:Nat) (v:Value) (hj:j<o∨o+4≤j):EnAt F P s wB (w.setCell ⟨g,j,none⟩ v) g o e:=by
 obtain⟨k,ia,ic,u,h⟩:=h;have hB':=hB.set j v;have hc:∀ i,i≠j→(w.setCell ⟨g,j,none⟩ v).cell? ⟨g,i,none⟩=w.cell? ⟨g,i,none⟩:=fun i hi=>by
  rw[hB'.cell,hB.cell,List.getElem?_set,if_neg (fun e=>hi e.symm)]
 refine⟨k,ia,ic,u,(hc _ (by omega)).trans h.c0,(hc _ (by omega)).trans h.c1,(hc _ (by omega)).trans h.c2,(hc _ (by omega)).trans h.c3,h.ty,h.pl,?_⟩;refine qab (S:=fun b=>b=g) h.ix ⟨by simp,fun b hb hn=>Below.heap_setCell _ _ _ _ (fun e=>hn e)⟩ fun b hb e => ?_;subst e;obtain⟨cs',hcs⟩:=qaf h.ix hb;exact hcs.tne hB (by decide) rfl
theorem ql4 {W:Wd} {acc:List En} {e:En} {i:Nat} (h:qc7 W (acc.map (·.to)) e.to=some i):i<acc.length∧conS W acc e=acc.modify i fun a=>{ a with mul:=true }:=by
 unfold qc7 at h;rw[List.findIdx?_map] at h;unfold conS;have h':acc.findIdx? (fun a=>@decide (can W a.to=can W e.to) (Classical.propDecidable _))=some i:=h;rw[h'];exact⟨by have:=List.findIdx?_eq_some_iff_getElem.1 h';exact this.1,rfl⟩
theorem qli {W:Wd} {acc:List En} {e:En} (h:qc7 W (acc.map (·.to)) e.to=none):conS W acc e=acc++[e]:=by
 unfold qc7 at h;rw[List.findIdx?_map] at h;unfold conS;have h':acc.findIdx? (fun a=>@decide (can W a.to=can W e.to) (Classical.propDecidable _))=none:=h;rw[h']
theorem qud {W:Wd} {acc:List En} {e:En}:(conS W acc e).length≤acc.length+1:=by
 unfold conS;split
 ·simp
 ·simp
theorem qcc {W:Wd} {l:List En} {k:Nat} (hk:k<l.length):qbc W (l.take (k+1))=conS W (qbc W (l.take k)) l[k]:=by
 unfold qbc;rw[List.take_succ_eq_append_getElem hk,List.foldl_append];rfl
theorem qsz {W:Wd} {l:List En} {k:Nat} (hk:k<l.length) (hi:qc7 W ((qbc W (l.take k)).map (·.to)) l[k].to=none):(qbc W (l.take (k+1))).length=(qbc W (l.take k)).length+1:=by
 have h2:=qli hi;rw[qcc hk,h2];simp
theorem qgk {W:Wd} {l:List En}:∀ k,(qbc W (l.take k)).length≤k:=fun k=>by
 induction k with
 | zero=>simp[qbc]
 | succ k ih=>
  by_cases hk:k<l.length
  ·rw[qcc hk];have:=qud (W:=W) (acc:=qbc W (l.take k)) (e:=l[k]);omega
  ·rw[List.take_of_length_le (by omega)];rw[List.take_of_length_le (by omega)] at ih;omega
theorem qtq {F:Fix} {P:Nat→Nat} {s:St} {w0 w:World} (A:Amb F P w0 s w) {acc:List Spot} {L:List ((TypeId×Nat)×Nat)} (hK:qhl F P s w acc L) {k:TypeId×Nat} {p:Spot} {u:Value} (hp:PlV F P s w p (tyV k) u) (hn:qc7 F.W acc p=none):getT L k=none:=by
 unfold getT;rw[Option.map_eq_none_iff,List.find?_eq_none];intro x hx e;obtain⟨i,hi,rfl⟩:=List.mem_iff_getElem.1 hx;have hj:i<acc.length:=by rw[← hK.len];exact hi
 obtain⟨-,-,u',q⟩:=hK.at_ i hi hj;rw[beq_iff_eq.1 e] at q;rw[qfj hK.ne hj (q.same A hp)] at hn;cases hn
theorem qhl.add {F:Fix} {P:Nat→Nat} {s:St} {w:World} {acc:List Spot} {L:List ((TypeId×Nat)×Nat)} (hK:qhl F P s w acc L) {k:TypeId×Nat} {p:Spot} {u:Value} (hk:TyIn w k) (hp:PlV F P s w p (tyV k) u) (hn:qc7 F.W acc p=none):qhl F P s w (acc++[p]) (L++[(k,acc.length)]):=by
 refine⟨by simp[hK.len],fun i hi hj => ?_,?_⟩
 ·by_cases h:i<L.length
  ·rw[List.getElem_append_left h,List.getElem_append_left (by rw[← hK.len];exact h)];exact hK.at_ i h (by rw[← hK.len];exact h)
  ·have e:i=L.length:=by simp at hi;omega
   subst e;rw[List.getElem_append_right (zl _),List.getElem_append_right (by rw[hK.len];exact zl _)];simp only[Nat.sub_self,zi,hK.len];exact⟨trivial,hk,u,hp⟩
 ·rw[List.pairwise_append];refine⟨hK.ne,List.pairwise_singleton _ _,fun a ha b hb e => ?_⟩;rw[zfb] at hb;subst hb;obtain⟨i,hi,rfl⟩:=List.mem_iff_getElem.1 ha;rw[qfj hK.ne hi e] at hn;cases hn
structure CoSt (F:Fix) (P:Nat→Nat) (s:St) (wB w wr:World) (g rm:Nat) (l:List En) (k:Nat) (L:List ((TypeId×Nat)×Nat)):Prop where
 turns:qah (fun b=>b=g) w wr
 blk:∃ cs,Blk wr g 225 cs
 map:IMap wr rm L
 keys:qhl F P s wB ((qbc F.W (l.take k)).map (·.to)) L
 acc:∀ i (hi:i<(qbc F.W (l.take k)).length),EnAt F P s wB wr g (i * 4) (qbc F.W (l.take k))[i]
 rest:∀ i (hi:i<l.length),k≤i→EnAt F P s wB wr g (i * 4) l[i]
theorem CoSt.keep {F:Fix} {P:Nat→Nat} {s:St} {wB w wr w':World} {g rm:Nat} {l:List En} {k:Nat} {L:List ((TypeId×Nat)×Nat)} (h:CoSt F P s wB w wr g rm l k L) (hb:Below wr.heap.size wr w'):CoSt F P s wB w w' g rm l k L:=by
 obtain⟨cs,hc⟩:=h.blk;exact⟨h.turns.trans (qah.keep hb),⟨cs,hc.keep hb⟩,h.map.apart (S:=fun _=>False) (qag.keep hb) fun h=>h,h.keys,fun i hi=>(h.acc i hi).keep hb,fun i hi hk=>(h.rest i hi hk).keep hb⟩
theorem qe6 (w:World) (g j:Nat) (v:Value):qah (fun b=>b=g) w (w.setCell ⟨g,j,none⟩ v):=⟨rfl,rfl,rfl,⟨by simp,fun b _ hn=>Below.heap_setCell _ _ _ _ (fun e=>hn e)⟩⟩
theorem EnAt.mark {F:Fix} {P:Nat→Nat} {s:St} {wB w:World} {g o:Nat} {e:En} {cs:List Value} (h:EnAt F P s wB w g o e) (hB:Blk w g 225 cs):EnAt F P s wB (w.setCell ⟨g,o+3,none⟩ (.bool true)) g o { e with mul:=true }:=by
 obtain⟨k,ia,ic,u,h⟩:=h;have hB':=hB.set (o+3) (.bool true);have hl:o+3<cs.length:=by
  have:=h.c3;rw[hB.cell] at this;exact(zjb.1 this).1
 have hc:∀ i,i≠o+3→(w.setCell ⟨g,o+3,none⟩ (.bool true)).cell? ⟨g,i,none⟩=w.cell? ⟨g,i,none⟩:=fun i hi=>by
  rw[hB'.cell,hB.cell,List.getElem?_set,if_neg (fun e=>hi e.symm)]
 refine⟨k,ia,ic,u,(hc _ (by omega)).trans h.c0,(hc _ (by omega)).trans h.c1,(hc _ (by omega)).trans h.c2,by rw[hB'.cell,List.getElem?_set,if_pos rfl,if_pos hl],h.ty,h.pl,?_⟩;refine qab (S:=fun b=>b=g) h.ix (qe6 _ _ _ _).apart fun b hb e => ?_;subst e;obtain⟨cs',hcs⟩:=qaf h.ix hb;exact hcs.tne hB (by decide) rfl
theorem CoSt.found {F:Fix} {P:Nat→Nat} {s:St} {wB w wr:World} {g rm:Nat} {l:List En} {k i:Nat} {L:List ((TypeId×Nat)×Nat)} (h:CoSt F P s wB w wr g rm l k L) (hk:k<l.length) (hrm:rm≠g) (hi:qc7 F.W ((qbc F.W (l.take k)).map (·.to)) l[k].to=some i):
  (qbc F.W (l.take (k+1))).length=(qbc F.W (l.take k)).length∧CoSt F P s wB w (wr.setCell ⟨g,i * 4+3,none⟩ (.bool true)) g rm l (k+1) L:=by
 obtain⟨h1,h2⟩:=ql4 hi;have h3:=qgk (W:=F.W) (l:=l) k;obtain⟨cs,hc⟩:=h.blk;have ht:=qe6 wr g (i * 4+3) (.bool true);rw[qcc hk,h2];refine⟨by simp,h.turns.trans ht,⟨_,hc.set _ _⟩,h.map.apart ht.apart hrm,?_,?_,fun j hj hkj=>(h.rest j hj (by omega)).set hc _ _ (by omega)⟩
 ·rw[qcc hk,h2];have e:((qbc F.W (l.take k)).modify i fun a=>{ a with mul:=true }).map (·.to)=(qbc F.W (l.take k)).map (·.to):=by
   apply List.ext_getElem (by simp);intro j hj1 hj2;simp only[List.getElem_map,List.getElem_modify];split <;> rfl
  rw[e];exact h.keys
 ·intro j hj;have hj0:=hj;rw[qcc hk,h2] at hj;have hj':j<(qbc F.W (l.take k)).length:=by simpa using hj
  have e:(qbc F.W (l.take (k+1)))[j]=((qbc F.W (l.take k)).modify i fun a=>{ a with mul:=true })[j]'hj:=by
   simp only[qcc hk,h2]
  rw[e,List.getElem_modify];by_cases hij:i=j
  ·subst hij;rw[if_pos rfl];exact(h.acc i hj').mark hc
  ·rw[if_neg hij];exact(h.acc j hj').set hc _ _ (by omega)
theorem CoSt.new {F:Fix} {P:Nat→Nat} {s:St} {wB w wr w7:World} {g rm:Nat} {l:List En} {k:Nat} {L:List ((TypeId×Nat)×Nat)} (h:CoSt F P s wB w wr g rm l k L) (hk:k<l.length) (hrm:rm≠g) (hrg:w.heap.size≤rm) (hi:qc7 F.W ((qbc F.W (l.take k)).map (·.to)) l[k].to=none)
  {key:TypeId×Nat} {ia:Option Addr} {ic:Nat} {u:Value} (hE:EnC F P s wB wr g (k * 4) l[k] key ia ic u) (ht:qah (fun b=>b=rm) wr w7) (hM:IMap w7 rm (L++[(key,(qbc F.W (l.take k)).length)])) (hni:∀ cs,¬ Blk wr rm 3 cs):
  (qbc F.W (l.take (k+1))).length=(qbc F.W (l.take k)).length+1∧
  CoSt F P s wB w ((((w7.setCell ⟨g,(qbc F.W (l.take k)).length * 4,none⟩ (tyV key)).setCell ⟨g,(qbc F.W (l.take k)).length * 4+1,none⟩ (.slice ia l[k].ix.length ic)).setCell ⟨g,(qbc F.W (l.take k)).length * 4+2,none⟩ (.bool l[k].ind)).setCell ⟨g,(qbc F.W (l.take k)).length * 4+3,none⟩ (.bool l[k].mul)) g rm l (k+1) (L++[(key,(qbc F.W (l.take k)).length)]):=by
 have h2:=qli hi;have h3:=qgk (W:=F.W) (l:=l) k;obtain⟨m,hm⟩:∃ m,m=(qbc F.W (l.take k)).length:=⟨_,rfl⟩;rw[← hm] at h3 hM ⊢;obtain⟨cs,hc⟩:=h.blk;have hc7:Blk w7 g 225 cs:=hc.apart ht.apart (fun e=>hrm e.symm);have b1:=hc7.set (m * 4) (tyV key);have b2:=b1.set (m * 4+1) (.slice ia l[k].ix.length ic);have b3:=b2.set (m * 4+2) (.bool l[k].ind);have b4:=b3.set (m * 4+3) (.bool l[k].mul);have hlen:k * 4+3<cs.length:=by
  have:=hE.c3;rw[hc.cell] at this;exact(zjb.1 this).1
 have t1:=qe6 w7 g (m * 4) (tyV key);have t2:=t1.trans (qe6 _ g (m * 4+1) (.slice ia l[k].ix.length ic));have t3:=t2.trans (qe6 _ g (m * 4+2) (.bool l[k].ind));have t4:=t3.trans (qe6 _ g (m * 4+3) (.bool l[k].mul));have tg:qah (fun b=>b=g) w w7:=⟨ht.os.trans h.turns.os,ht.tape.trans h.turns.tape,ht.output.trans h.turns.output,⟨Nat.le_trans h.turns.apart.size ht.apart.size,fun b hb hn=>(ht.apart.block b (by have:=h.turns.apart.size;omega) (by omega)).trans (h.turns.apart.block b hb hn)⟩⟩;have k7:∀ {o:Nat} {e:En},EnAt F P s wB wr g o e→EnAt F P s wB w7 g o e:=fun hq=>hq.apart ht.apart (fun e=>hrm e.symm) fun b cs hb e=>hni cs (by rw[← e];exact hb);have kset:∀ {o:Nat} {e:En},EnAt F P s wB w7 g o e→(o+4≤m * 4∨m * 4+4≤o)→EnAt F P s wB ((((w7.setCell ⟨g,m * 4,none⟩ (tyV key)).setCell ⟨g,m * 4+1,none⟩ (.slice ia l[k].ix.length ic)).setCell ⟨g,m * 4+2,none⟩ (.bool l[k].ind)).setCell ⟨g,m * 4+3,none⟩ (.bool l[k].mul)) g o e:=fun hq ho=>
  (((hq.set hc7 _ _ (by omega)).set b1 _ _ (by omega)).set b2 _ _ (by omega)).set b3 _ _ (by omega)
 rw[qcc hk,h2];refine⟨by simp[hm],tg.trans t4,⟨_,b4⟩,hM.apart t4.apart hrm,?_,?_,fun j hj hkj=>kset (k7 (h.rest j hj (by omega))) (by omega)⟩
 ·rw[qcc hk,h2,List.map_append];have:=h.keys.add hE.ty hE.pl hi;rw[List.length_map,← hm] at this;exact this
 ·intro j hj;have hj0:=hj;rw[qcc hk,h2] at hj;have e:(qbc F.W (l.take (k+1)))[j]=((qbc F.W (l.take k))++[l[k]])[j]'hj:=by simp only[qcc hk,h2]
  rw[e];by_cases hjm:j<m
  ·rw[List.getElem_append_left (by omega)];exact kset (k7 (h.acc j (by omega))) (by omega)
  ·have ej:j=m:=by simp at hj;omega
   subst ej;rw[List.getElem_append_right (by omega)];simp only[hm,Nat.sub_self,zi];rw[← hm];refine⟨key,ia,ic,u,?_,?_,?_,?_,hE.ty,hE.pl,?_⟩
   ·rw[b4.cell];simp[List.getElem?_set];omega
   ·rw[b4.cell];simp[List.getElem?_set];omega
   ·rw[b4.cell];simp[List.getElem?_set];omega
   ·rw[b4.cell];simp[List.getElem?_set];omega
   ·refine qab (S:=fun b=>b=g) (qab hE.ix ht.apart fun b hb e => ?_) t4.apart fun b hb e => ?_
    ·obtain⟨cs',hcs⟩:=qaf hE.ix hb;exact hni cs' (by rw[← e];exact hcs)
    ·obtain⟨cs',hcs⟩:=qaf hE.ix hb;subst e;exact hcs.tne hc (by decide) rfl
theorem qv1 {F:Fix} {P:Nat→Nat} {w0:World} {s:St} {wB w:World} (A:Amb F P w0 s wB) (hBw:Below wB.heap.size wB w) {g c:Nat} (hg:wB.heap.size≤g) {cs:List Value} (hB:Blk w g 225 cs) (l:List En) (hl:l.length≤c) (h2:2≤l.length) (hbd:l.length≤1099511627776) (hE:∀ i (hi:i<l.length),EnAt F P s wB w g (i * 4) l[i]):
  Calls Tryz.prog 116 #[.slice (some ⟨g,0,none⟩) l.length c] w fun e w'=>e = .returned (.slice (some ⟨g,0,none⟩) (qbc F.W l).length c)∧qah (fun b=>b=g) w w'∧(∃ cs,Blk w' g 225 cs)∧∀ i (hi:i<(qbc F.W l).length),EnAt F P s wB w' g (i * 4) (qbc F.W l)[i]:=by
 have HE:=hid hE;have HB:=hid hB;have HA:=hid A;have HBw:=hid hBw;have hgl:=hB.lt;have h2':¬ ((l.length:Int)≤1):=by omega
 have hBw':=hBw.size;have hmm:=@run_makeMap Tryz.prog;clear hE hB A hBw;go_enter Tryz.func116,Tryz.ntmps116
 go_wp2_with fail
 go_loopw [3,16] (fun nv jv wr=>∃ (k:Nat) (L:List ((TypeId×Nat)×Nat)),k≤l.length∧jv = .int .i64 k∧nv = .int .i64 (qbc F.W (l.take k)).length∧Hid (CoSt F P s wB w wr g w.heap.size l k L)) (fun _ jv _=>l.length - (intOf jv).toNat)
 case atStart=>exact⟨0,[],Nat.zero_le _,rfl,rfl,hid ⟨qah.keep ((zp _ _).alloc (zl _) _),⟨cs,HB.out.keep ((zp _ _).alloc (zl _) _)⟩,IMap.new _ _,⟨rfl,fun i hi=>by simp at hi,List.Pairwise.nil⟩,fun i hi=>by simp[qbc] at hi,fun i hi _=>(HE.out i hi).keep ((zp _ _).alloc (zl _) _)⟩⟩
 case round=>
  refine hrel.elim fun k hrel=>hrel.elim fun L hrel => ?_;obtain⟨hk,rfl,rfl,hS⟩:=hrel;by_cases hlt:k<l.length
  ·have hlt':(k:Int)<(l.length:Int):=by omega
   have hk':¬ (k:Int)<0:=by omega
   have HKn:Hid (k+1≤l.length):=hid hlt;have hBw:=HBw.out.trans (hS.out.turns.below (B:=wB.heap.size) hBw' fun b hb=>by subst hb;exact hg);have hEk:=hS.out.rest k hlt (zl _);refine hEk.elim fun key hEk=>hEk.elim fun ia hEk=>hEk.elim fun ic hEk=>hEk.elim fun u hEk => ?_;have c0:=hEk.c0;have c1:=hEk.c1;have c2:=hEk.c2;have c3:=hEk.c3;have hgr:g<wr.heap.size:=zj wr _ c0;have hcl:=qgk (W:=F.W) (l:=l) k;obtain⟨m,hm⟩:∃ m,m=(qbc F.W (l.take k)).length:=⟨_,rfl⟩;rw[← hm] at hcl;have Hm:=hid hm;have hmc:m<c:=by omega
   have hmb:m≤1099511627776:=by omega
   have hrl:w.heap.size<wr.heap.size:=hS.out.map.lt;have Hrl:=hid hrl;have hni:∀ cs,¬ Blk wr w.heap.size 3 cs:=fun cs hc=>by
    obtain⟨es,c,h1,-⟩:=hS.out.map.ex;unfold Blk at hc;rw[h1] at hc;cases hc
   have hrm:w.heap.size≠g:=by omega
   have HL:Hid (∀ O:Obj,Calls Tryz.prog 145 #[.map (some w.heap.size),.iface key.1 (ptrV key.2)] (wr.alloc O) (qa2 (lkT (qc7 F.W ((qbc F.W (l.take k)).map (·.to)) l[k].to)) (wr.alloc O))):=hid fun O=>by
    have hO:Below wr.heap.size wr (wr.alloc O):=(zp _ _).alloc (zl _) _;have hBO:Below wB.heap.size wB (wr.alloc O):=hBw.trans (hO.mono hBw.size);exact qk5 (HA.out.keep hBO) ((hS.out.map).apart (S:=fun _=>False) (qag.keep hO) fun h=>h) (hS.out.keys.keep hBO) key _ u (hEk.pl.keep hBO) (hEk.ty.keep hBO)
   have HEk:=hid hEk;have HBw2:=hid hBw;have Hni:=hid hni;cases hci:qc7 F.W ((qbc F.W (l.take k)).map (·.to)) l[k].to with
   | some i=>
    obtain⟨F1,F2⟩:=hS.out.found hlt hrm hci;have him:=(ql4 hci).1;rw[← hm] at him;have Hfo:Hid (∀ w6,Below wr.heap.size wr w6→CoSt F P s wB w (w6.setCell ⟨g,i * 4+3,none⟩ (.bool true)) g w.heap.size l (k+1) L):=hid fun w6 hb=>((hS.out.keep hb).found hlt hrm hci).2;have Hst:Hid (∀ w6,Below wr.heap.size wr w6→(∃ v,w6.cell? ⟨g,i * 4+3,none⟩=some v)∧w6.frozen? ⟨g,i * 4+3,none⟩=false):=hid fun w6 hb=>by
     obtain⟨cs6,hcs6⟩:=hS.out.blk;obtain⟨_,_,_,_,h6⟩:=(hS.out.acc i (by rw[← hm];exact him)).keep hb;exact⟨⟨_,h6.c3⟩,(hcs6.keep hb).soft _⟩
    rw[hci] at HL;simp only[lkT,Option.getD_some,Option.isSome_some] at HL;have hlen:=F1;rw[← hm] at hlen ⊢;have Hlen:=hid hlen;clear hci F1 F2 hS hEk hBw hni hlen hm;have hic:i<c:=by omega
    have him2:(i:Int)<(l.length:Int):=by omega
    go_wp2_with (go_at_call 145;refine(HL.out _).mono ?_;rintro e w6 ⟨rfl,hb6⟩;have Hb6:=hid (((zp _ _).alloc (zl _) _:Below wr.heap.size wr _).trans (hb6.mono (by simp)));clear hb6;obtain⟨vx,hx3⟩:=(Hst.out _ Hb6.out).1;have hfr:=(Hst.out _ Hb6.out).2;have hg6:g<w6.heap.size:=by have:=Hb6.out.size;omega)
    go_roundw
    case rel=>exact⟨k+1,L,HKn.out,by go_num,by rw[Hlen.out],hid (Hfo.out _ Hb6.out)⟩
    case measure=>have hkn:=HKn.out;simp[intOf];omega
   | none=>
    have hgt:=hid (fun(w6:World) (hb:Below wr.heap.size wr w6)=>qtq (HA.out.keep (hBw.trans (hb.mono hBw.size))) (hS.out.keys.keep (hBw.trans (hb.mono hBw.size))) (hEk.pl.keep (hBw.trans (hb.mono hBw.size))) hci);have Hlen:Hid ((qbc F.W (l.take (k+1))).length=m+1):=hid (by rw[qsz hlt hci,← hm]);have Hnew:Hid (∀ (w6 w7:World),Below wr.heap.size wr w6→qah (fun b=>b=w.heap.size) w6 w7→IMap w7 w.heap.size (L++[(key,m)])→CoSt F P s wB w ((((w7.setCell ⟨g,m * 4,none⟩ (tyV key)).setCell ⟨g,m * 4+1,none⟩ (.slice ia l[k].ix.length ic)).setCell ⟨g,m * 4+2,none⟩ (.bool l[k].ind)).setCell ⟨g,m * 4+3,none⟩ (.bool l[k].mul)) g w.heap.size l (k+1) (L++[(key,m)])):=hid fun w6 w7 hb ht hM=>by
     have hE6:=(EnC.keep hEk hb);have:=((hS.out.keep hb).new hlt hrm (zl _) hci hE6 ht (by rw[← hm];exact hM) fun cs hc=>by
      obtain⟨es,c,h1,-⟩:=(hS.out.keep hb).map.ex;unfold Blk at hc;rw[h1] at hc;cases hc).2
     rw[← hm] at this;exact this
    rw[hci] at HL;simp only[lkT,Option.getD_none,Option.isSome_none] at HL;have HcS:=hS;have Hci:=hid hci;rw[← hm];clear hci hEk hBw hni hm
    go_wp2_with (first|(go_at_call 145;refine(HL.out _).mono ?_;rintro e w6 ⟨rfl,hb6⟩;have hc6:=(qal hb6).1;(try simp only[zd,qaa] at hc6);have Hb6:=hid (((zp _ _).alloc (zl _) _:Below wr.heap.size wr _).trans (hb6.mono (by simp)));have Hz6:Hid (wr.heap.size+1≤w6.heap.size):=hid (by have:=hb6.size;simpa using this);clear hb6)|(at_mapUpdate;refine qi5 _ rfl (.tmp 32) (.tmp 34) (.tmp 35) rfl (r:=w.heap.size) (L:=L) rfl ?mm key rfl m rfl ?mg ?mk ?mh ?mK))
    case mm=>exact HcS.out.map.apart (S:=fun _=>False) (qag.keep Hb6.out) fun h=>h
    case mg=>exact hgt.out _ Hb6.out
    case mk=>exact HEk.out.ty.keep (HBw2.out.trans (Hb6.out.mono HBw2.out.size))
    case mh=>
     intro x hx;obtain⟨i,hi,rfl⟩:=List.mem_iff_getElem.1 hx;exact(HcS.out.keys.at_ i hi (by rw[← HcS.out.keys.len];exact hi)).2.1.keep (HBw2.out.trans (Hb6.out.mono HBw2.out.size))
    case mK=>
    refine fun w7 hM7 hT7 => ?_;have Hold:Hid (∀ w7,qah (fun b=>b=w.heap.size) w6 w7→(∃ cs7,Blk w7 g 225 cs7∧k * 4+3<cs7.length)∧∀ j,w7.cell? ⟨wr.heap.size,j,none⟩=w6.cell? ⟨wr.heap.size,j,none⟩):=hid fun w7 ht=>by
     obtain⟨cs6,hcs6⟩:=HcS.out.blk;refine⟨⟨cs6,(hcs6.keep Hb6.out).apart ht.apart (fun e=>by omega),?_⟩,fun j=>zlb (ht.apart.block _ (show wr.heap.size<w6.heap.size by have:=Hz6.out;omega) (fun e=>by have h1:=Hrl.out;have h2:wr.heap.size=w.heap.size:=e;omega))⟩
     ·have:=HEk.out.c3;rw[hcs6.cell] at this;exact(zjb.1 this).1
    have Hco:=hid (Hnew.out w6 w7 Hb6.out hT7 hM7);have hc7:=(Hold.out w7 hT7).2;refine(Hold.out w7 hT7).1.elim fun cs7 hcs7 => ?_;have hb7:=hcs7.1;have hl7:=hcs7.2;clear hcs7 hM7 hT7 Hold;have hg7:=hb7.lt;have hs7:=hb7.soft;have hd0:w7.cell? ⟨g,m * 4,none⟩=some (cs7[m * 4]'(by omega)):=by rw[hb7.cell];exact zr _
    have hd1:w7.cell? ⟨g,m * 4+1,none⟩=some (cs7[m * 4+1]'(by omega)):=by rw[hb7.cell];exact zr _
    have hd2:w7.cell? ⟨g,m * 4+2,none⟩=some (cs7[m * 4+2]'(by omega)):=by rw[hb7.cell];exact zr _
    have hd3:w7.cell? ⟨g,m * 4+3,none⟩=some (cs7[m * 4+3]'(by omega)):=by rw[hb7.cell];exact zr _
    clear hb7
    go_wp2_with fail
    go_roundw
    case rel=>exact⟨k+1,L++[(key,m)],HKn.out,by go_num,by rw[Hlen.out];go_num,hid Hco.out⟩
    case measure=>have hkn:=HKn.out;simp[intOf];omega
  ·obtain rfl:k=l.length:=by omega
   have hcl:=qgk (W:=F.W) (l:=l) l.length;rw[zeb] at hcl;have hc1:((qbc F.W l).length:Int)≤(c:Int):=by omega
   have hS':=hid (by have h:=hS.out;exact And.intro h.turns (And.intro h.blk h.acc));rw[zeb] at hS'
   go_wp2_with fail
   go_ret
   exact⟨rfl,hS'.out⟩
