import Derived.Test.YtmfhclggkjjcdaaGreatDoorL23
import Derived.Test.YtmfhclggkjjcdaaGreatDoorL16
import Derived.Test.YtmfhclggkjjcdaaGreatDoorL08
import Derived.Test.YtmfhclggkjjcdaaGreatDoorL17
set_option linter.all false
set_option maxHeartbeats 4000000
namespace Go.Proofs.YtmfhclggkjjcdaaGreatDoor
open Go Go.RowKit Go.Proofs.Tryz
open Go.ChangeMaps (setBlock)
set_option maxRecDepth 100000
theorem qnh (w:World) (r:Nat) (o:Obj) {b:Nat} (h:b≠r):(setBlock w r o).heap[b]?=w.heap[b]?:=by
 simp only[setBlock];rw[Array.getElem?_setIfInBounds,if_neg (fun e=>h e.symm)]
theorem qpq (w:World) (r:Nat) (o:Obj) (h:r<w.heap.size):(setBlock w r o).heap[r]?=some o:=by
 simp only[setBlock];rw[Array.getElem?_setIfInBounds,if_pos rfl,if_pos h]
theorem qhy (w:World) (r:Nat) (o:Obj):(setBlock w r o).heap.size=w.heap.size:=by simp[setBlock]
theorem qk1 {B:Nat} {w w':World} (h:Below B w w') (r:Nat) (o:Obj) (hr:B≤r):Below B w (setBlock w' r o):=
 ⟨h.os,h.tape,h.output,by rw[qhy];exact h.size,fun b hb=>by rw[qnh _ _ _ (by omega)];exact h.block b hb⟩
structure qhl (F:Fix) (P:Nat→Nat) (s:St) (w:World) (acc:List Spot) (L:List ((TypeId×Nat)×Nat)):Prop where
 len:L.length=acc.length
 at_:∀ i (hi:i<L.length) (hj:i<acc.length),L[i].2=i∧TyIn w L[i].1∧∃ u,PlV F P s w acc[i] (tyV L[i].1) u
 ne:acc.Pairwise fun a b=>can F.W a≠can F.W b
theorem qhl.keep {F:Fix} {P:Nat→Nat} {s:St} {w w':World} {acc:List Spot} {L:List ((TypeId×Nat)×Nat)} (h:qhl F P s w acc L) (hb:Below w.heap.size w w'):qhl F P s w' acc L:=
 ⟨h.len,fun i hi hj=>by
  obtain⟨q1,q2,u,q3⟩:=h.at_ i hi hj;exact⟨q1,q2.keep hb,u,q3.keep hb⟩,h.ne⟩
open Classical in
noncomputable def qc7 (W:Wd) (acc:List Spot) (p:Spot):Option Nat:=acc.findIdx? fun a=>decide (can W a=can W p)
theorem qfj {W:Wd} {acc:List Spot} {p:Spot} (hne:acc.Pairwise fun a b=>can W a≠can W b) {i:Nat} (hi:i<acc.length) (h:can W acc[i]=can W p):qc7 W acc p=some i:=by
 unfold qc7;rw[List.findIdx?_eq_some_iff_getElem];refine⟨hi,by simpa using h,fun j hj => ?_⟩;have:=List.pairwise_iff_getElem.1 hne j i (by omega) hi hj;simp only[decide_eq_true_eq];intro e;exact this (e.trans h.symm)
theorem qpc {W:Wd} {acc:List Spot} {p:Spot} (h:∀ i (hi:i<acc.length),can W acc[i]≠can W p):qc7 W acc p=none:=by
 unfold qc7;rw[List.findIdx?_eq_none_iff];intro x hx;obtain⟨i,hi,rfl⟩:=List.mem_iff_getElem.1 hx;simpa using h i hi
theorem PlV.same {F:Fix} {P:Nat→Nat} {w0:World} {s:St} {w:World} (A:Amb F P w0 s w) {p q:Spot} {v u u':Value} (h:PlV F P s w p v u) (h':PlV F P s w q v u'):can F.W p=can F.W q:=by
 have e:=h.plain.unique h'.plain;subst e;exact qib A 2002 p q u h.spo h'.spo h.den h'.den
theorem qk5 {F:Fix} {P:Nat→Nat} {w0:World} {s:St} {w:World} (A:Amb F P w0 s w) {r:Nat} {L:List ((TypeId×Nat)×Nat)} {acc:List Spot} (hM:IMap w r L) (hK:qhl F P s w acc L) (k:TypeId×Nat) (p:Spot) (u:Value) (hp:PlV F P s w p (tyV k) u) (hk:TyIn w k):
  Calls prog 145 #[.map (some r),tyV k] w (qa2 (lkT (qc7 F.W acc p)) w):=by
 have hg:∀ x∈L,TyIn w x.1:=fun x hx=>by
  obtain⟨i,hi,rfl⟩:=List.mem_iff_getElem.1 hx;exact(hK.at_ i hi (by rw[← hK.len];exact hi)).2.1
 have hlk:=qmy w hM k hk hg;cases hgt:getT L k with
 | some v=>
  rw[hgt] at hlk;have hv:qc7 F.W acc p=some v:=by
   unfold getT at hgt;obtain⟨x,h1,h2⟩:=zbb.1 hgt;obtain⟨i,hi,rfl⟩:=List.mem_iff_getElem.1 (List.mem_of_find?_eq_some h1);have h3:=List.find?_some h1;simp only[beq_iff_eq] at h3;obtain⟨q1,q2,u',q3⟩:=hK.at_ i hi (by rw[← hK.len];exact hi);rw[h3] at q3;rw[q1] at h2;subst h2;exact qfj hK.ne (by rw[← hK.len];exact hi) (q3.same A hp)
  rw[hv];simp only[lkT,Option.getD_some,Option.isSome_some] at hlk ⊢;clear A hM hK hp hk hg hgt hv;go_enter func145,ntmps145
  go_wp2_with fail
  go_ret2
  exact⟨rfl,zp _ _⟩
 | none=>
  rw[hgt] at hlk;simp only[lkT,Option.getD_none,Option.isSome_none] at hlk;obtain⟨es,clock,hes,hL,hbo,hnd⟩:=hM.ex;have hrg:=run_range_map (P:=prog) w 284 _ _ r es clock underlying284 hes;have hrl:r<w.heap.size:=(zab.1 hes).1;have HA:=hid A;have HK:=hid hK;have Hp:=hid hp;have Hk:=hid hk;have Hes:=hid (And.intro hes (And.intro hL (And.intro hbo hnd)));have Hgt:=hid hgt;clear hM hK hk hg hgt hes hL hbo hnd;go_enter func145,ntmps145
  go_wp2_with fail
  go_loopw [8] (fun v wr=>∃ seen c0,Hid (Below w.heap.size w wr∧clock≤c0∧wr.heap[w.heap.size]?=some (.mapIter (some r) clock seen c0)∧∀ e∈es.toList,seen.contains e.born=true→∀ i (hi:i<L.length) (hj:i<acc.length),e.key=tyV L[i].1→can F.W acc[i]≠can F.W p))
   (fun _ wr=>(leftOf es (wr.iterSeen w.heap.size)).size)
  case atStart=>exact⟨#[],clock,hid ⟨(zp _ _).alloc (zl _) _,zl _,heap_alloc_new _ _,fun e he h=>by simp at h⟩⟩
  case round=>
   refine hrel.elim fun seen hrel=>hrel.elim fun c0 hrel => ?_;have hAw:=A.keep hrel.out.1;have key:∀ e∈es.toList,∃ i,∃ (hi:i<L.length) (hj:i<acc.length),e.key=tyV L[i].1∧e.val = .int .i64 i:=fun e he=>by
    obtain⟨i,hi,rfl⟩:=List.mem_iff_getElem.1 he;have h1:=congrArg (fun l=>l[i]?) Hes.out.2.1;have hi2:i<L.length:=by
     have:=congrArg List.length Hes.out.2.1;simp only[List.length_map] at this;omega
    have hi3:i<acc.length:=by rw[← HK.out.len];exact hi2
    simp only[List.getElem?_map,zr hi,zr hi2,Option.map_some,Option.some.injEq,Prod.mk.injEq] at h1;exact⟨i,hi2,hi3,h1.1,by rw[h1.2,(HK.out.at_ i hi2 hi3).1]⟩
   rcases run_next_at (P:=prog) wr 0 w.heap.size r clock c0 seen es clock hrel.out.2.2.1 ((hrel.out.1.block r hrl).trans Hes.out.1) Hes.out.2.2.1 hrel.out.2.1 with ⟨h0,hnx⟩|⟨e,he,w1,hw1,hnx⟩
   ·have hn:qc7 F.W acc p=none:=qpc fun i hi e=>by
     have hi2:i<L.length:=by rw[HK.out.len];exact hi
     have hi3:i<es.toList.length:=by
      have:=congrArg List.length Hes.out.2.1;simp only[List.length_map] at this;omega
     have hm:=z8 hi3;obtain⟨i',h1,h2,h3,h4⟩:=key _ hm;have h5:=congrArg (fun l=>l[i]?) Hes.out.2.1;simp only[List.getElem?_map,zr hi3,zr hi2,Option.map_some,Option.some.injEq,Prod.mk.injEq] at h5;exact hrel.out.2.2.2 _ hm (all_seen es seen h0 _ hm) i hi2 hi h5.1 e
    have Hn:=hid hn;have Hbel:=hid hrel.out.1;clear hn hrel key h0 hAw
    go_wp2_with fail
    go_ret2
    exact⟨by rw[Hn.out];rfl,Hbel.out⟩
   ·obtain⟨hem,hns⟩:=mem_left he;obtain⟨i,hi,hj,h1,h2⟩:=key e hem;obtain⟨q1,q2,u',q3⟩:=HK.out.at_ i hi hj;obtain⟨W1,hW1⟩:∃ W1,W1=setBlock w1 w.heap.size (.mapIter (some r) clock (seen.push e.born) clock):=⟨_,rfl⟩;have hb1:Below w.heap.size w w1:=by
     rcases hw1 with rfl|rfl
     ·exact hrel.out.1
     ·exact hrel.out.1.drew
    have hsz1:w.heap.size<w1.heap.size:=by
     have h3:=(zab.1 hrel.out.2.2.1).1;rcases hw1 with rfl|rfl
     ·exact h3
     ·exact h3
    have hB1:Below w.heap.size w W1:=by rw[hW1];exact qk1 hb1 _ _ (zl _)
    have hit:W1.heap[w.heap.size]?=some (.mapIter (some r) clock (seen.push e.born) clock):=by rw[hW1];exact qpq _ _ _ hsz1
    have hen:=run_entry_at (P:=prog) W1 w.heap.size r clock seen es clock e hit ((hB1.block r hrl).trans Hes.out.1) hem Hes.out.2.2.2;rw[← hW1] at hnx;rw[h1,h2] at hnx hen;have HI:=hid (qmg (A.keep hB1) (q3.keep hB1) (hp.keep hB1));have HB1:=hid hB1;have Hit:=hid hit;have Hrel:=hid hrel.out;have Hem:=hid (And.intro he (And.intro hem (And.intro hns h1)));have Hw1:=hid hsz1;have Hsz:Hid (w.heap.size<W1.heap.size):=hid (by rw[hW1,qhy];exact hsz1);clear hrel key hAw he hem hns h1 h2 q1 q2 q3 hW1 hw1 hb1 hsz1 hB1 hit;by_cases hc:can F.W acc[i]=can F.W p
    ·rw[@decide_eq_true _ (Classical.propDecidable _) hc] at HI;have Hv:Hid (qc7 F.W acc p=some i):=hid (qfj HK.out.ne hj hc);clear hc
     go_wp2_with (go_at_call 99;refine HI.out.mono ?_;rintro e' W2 ⟨rfl,hb2⟩;have Hb2:=hid hb2;clear hb2)
     go_ret2
     exact⟨by rw[Hv.out];rfl,HB1.out.trans (Hb2.out.mono HB1.out.size)⟩
    ·rw[@decide_eq_false _ (Classical.propDecidable _) hc] at HI;have Hc:=hid hc;clear hc
     go_wp2_with (go_at_call 99;refine HI.out.mono ?_;rintro e' W2 ⟨rfl,hb2⟩;have Hb2:=hid hb2;clear hb2)
     go_roundw
     case rel=>exact⟨seen.push e.born,clock,hid ⟨HB1.out.trans (Hb2.out.mono HB1.out.size),zl _,(Hb2.out.block _ Hsz.out).trans Hit.out,fun e2 he2 hs2 i2 hi2 hj2 hk2 hcan=>by
      by_cases e12:e2.born=e.born
      ·have:e2=e:=by
        have f1:=find_born e2 es.toList Hes.out.2.2.2 he2;have f2:=find_born e es.toList Hes.out.2.2.2 Hem.out.2.1;rw[e12,f2] at f1;exact(Option.some.inj f1).symm
       subst this;rw[Hem.out.2.2.2] at hk2;have hpl:=HK.out.at_ i2 hi2 hj2;obtain⟨-,-,ua,pa⟩:=hpl;obtain⟨-,-,ub,pb⟩:=HK.out.at_ i hi hj;rw[← hk2] at pa;exact Hc.out ((pb.same HA.out pa).trans hcan)
      ·refine Hrel.out.2.2.2 e2 he2 ?_ i2 hi2 hj2 hk2 hcan;simp only[Array.contains_push,Bool.or_eq_true,beq_iff_eq] at hs2;rcases hs2 with hs2|hs2
       ·exact hs2
       ·exact absurd hs2 e12⟩⟩
     case measure=>
      have e1:W2.iterSeen w.heap.size=seen.push e.born:=by
       unfold World.iterSeen;rw[(Hb2.out.block _ Hsz.out).trans Hit.out]
      have e2:wr.iterSeen w.heap.size=seen:=by
       unfold World.iterSeen;rw[Hrel.out.2.2.1]
      rw[e1,e2];exact left_shrinks es seen e Hem.out.1
end Go.Proofs.YtmfhclggkjjcdaaGreatDoor
namespace Go.Proofs.YtmfhclggkjjcdaaGreatDoor
open Go Go.RowKit Go.Proofs.Tryz
set_option maxRecDepth 100000
theorem Tryz.zPtr:(prog.info? 145).map (·.zero)=some (some (.pointer none)):=by kernel_rfl
theorem qn2 (v:Value) (b:Nat) (T:TypeId) (x:Option Addr) (w:World) (h:qbs w v (.iface 145 (ptrV b))) (hb:w.cell? ⟨b,0,none⟩=some (.iface T (.pointer x))):
  Calls prog 108 #[v] w fun e w'=>e = .returned (.tuple #[.iface T (.pointer x),.bool true])∧w'=w:=by
 have h1:=fun v w=>qb5 underlying145 v w;have H:=hid h;clear h;go_enter func108,ntmps108
 go_wp2_with (go_at_call 86;refine(qan _ _ _ H.out).mono ?_;rintro e w' ⟨rfl,rfl⟩)
 go_ret2
 exact⟨rfl,rfl⟩
theorem qqu (v:Value) (T:TypeId) (x:Addr) (w:World) (hT:T≠145) (h:qbs w v (.iface T (.pointer (some x)))):
  Calls prog 108 #[v] w fun e w'=>e = .returned (.tuple #[v,.bool false])∧w'=w:=by
 have h1:=fun v w=>qaw (T:=T) underlying145 Tryz.zPtr hT v w;have H:=hid h;clear h;go_enter func108,ntmps108
 go_wp2_with (go_at_call 86;refine(qan _ _ _ H.out).mono ?_;rintro e w' ⟨rfl,rfl⟩)
 go_ret2
 exact⟨rfl,rfl⟩
theorem qkv (x pk:Nat) (n:Int) (ptr:Bool) (w:World) (h:qel (rdT w) x pk n ptr):Calls prog 115 #[ptrV x] w fun e w'=>e = .returned (.bool ptr)∧w'=w:=by
 obtain⟨sg,v,T,a,h1,h2,h3,h4,h5,h6⟩:=h;have c3:=qax (h1 3 _ rfl);have s0:=qax (h2 0 _ rfl);have v3:=qax h3;have hta:=fun v w=>qb5 underlying162 v w;clear h1 h2 h3;cases ptr with
 | true=>
  obtain⟨rfl,ho,hsp,T',x',h7⟩:=h5 rfl;obtain⟨ab,ao,asp⟩:=a;simp only at ho hsp h7;subst ho hsp;have HD:=hid (qn2 (.iface 145 (ptrV ab)) ab T' (some x') w ⟨⟨_,_,rfl,by decide⟩,.inl rfl⟩ (qax h7));clear h4 h5 h6 h7;go_enter func115,ntmps115
  go_wp2_with (go_at_call 108;refine HD.out.mono ?_;rintro e w' ⟨rfl,rfl⟩)
  go_ret
  exact⟨rfl,rfl⟩
 | false=>
  have HD:=hid (qqu (.iface T (.pointer (some a))) T a w (h6 rfl) ⟨⟨_,_,rfl,h4⟩,.inl rfl⟩);clear h4 h5 h6;go_enter func115,ntmps115
  go_wp2_with (go_at_call 108;refine HD.out.mono ?_;rintro e w' ⟨rfl,rfl⟩)
  go_ret
  exact⟨rfl,rfl⟩
def IxAt (w:World) (v:Value) (l:List Nat):Prop:=∃ a c,v = .slice a l.length c∧w.ownsRow 0 3 1 (.slice a l.length c) l.length (qbh l)
section
variable {P:Program}
theorem qo5 (w:World) (t ty e:TypeId) (i:TypeInfo) (ht:P.underlying t=some (.slice e)) (hi:P.info? e=some i) (a:Option Addr) (c:Nat):(Builtin.append_ #[t,t] ty #[.slice none 0 0,.slice a 0 c]).run P w = .ok (.slice none 0 0) w:=by
 cases a <;> simp[Builtin.append_,run_underlying ht,sizeOf,typeInfo,hi,Builtin.lenOf,Builtin.firstCells,loadCells,loadCellsFrom]
theorem qk2 (w:World) {ops:Array Oper} {rest:List Oper} {o:Oper} {a:Act} {Q:Exit→Act→World→Prop} (hgd:o.guard=none) (s x:Operand) (t:TypeId)
  (ho:o.op = .call { callee := .builtin .append,args:=#[s,x],argTypes:=#[t,t] }) (e:TypeId) (i:TypeInfo) (ht:P.underlying t=some (.slice e)) (hi:P.info? e=some i) (hs:a.eval s = .slice none 0 0) (p:Option Addr) (c:Nat) (hx:a.eval x = .slice p 0 c)
  (h:wpList P ops Q rest (a.put o.dst (.slice none 0 0)) w):wpList P ops Q (o::rest) a w:=by
 refine wpList_plain hgd fun _ hK => ?_;have hr:=qo5 (P:=P) w t o.type e i ht hi p c;unfold Oper.wp execOp;simp only[ho,resolve,invoke,builtin,Sem.run_bind,Sem.run_pure,Result.andThen_ok,List.map_toArray,List.map_cons,List.map_nil,hs,hx,hr];exact hK _ _ h
end
theorem Tryz.infoInt2:∃ i,prog.info? 3=some i:=by
 obtain⟨i,h,-⟩:=zbb.1 Tryz.infoInt;exact⟨i,h⟩
theorem qe9 (v:Value) (l:List Nat) (i:Nat) (w:World) (h:IxAt w v l) (hl:l.length≤1099511627775):Calls prog 112 #[v,.int .i64 i] w fun e w'=>∃ x:Option Addr×Nat,e = .returned (.slice x.1 (l.length+1) x.2)∧Hid (w'.ownsRow 0 3 1 (.slice x.1 (l.length+1) x.2) (l.length+1) (qbh (l++[i]))∧Below w.heap.size w w'):=by
 obtain⟨a,c,rfl,hown⟩:=h;obtain⟨ii,hii⟩:=Tryz.infoInt2;by_cases h0:l=[]
 ·subst h0;go_enter func112,ntmps112
  go_wp2_with (first
   | (at_builtin;go_loud (refine qk2 _ rfl _ _ 33 rfl 3 ii underlying33 hii rfl a c rfl ?_))
   | (at_builtin;go_loud (refine qbu _ rfl _ _ 33 rfl 3 _ 8 Tryz.infoInt underlying33 rfl none 0 0 [] rfl (zdb _ _ _ _) ⟨w.heap.size,0,none⟩ (.int .i64 i) rfl (cell_of_row _ _ _ _ _ _ (qa8 _ _)) rfl rfl (by omega) (by decide) fun ra' rc' w9 hown' hgrow hloc => ?_);have Hg:=hid hgrow;have Ho9:=hid hown';have Hl9:=hid hloc;clear hgrow hown' hloc))
  go_ret
  exact⟨⟨ra',rc'⟩,rfl,hid ⟨by simpa[qbh] using Ho9.out,((zp _ _).alloc (zl _) _).grown Hg.out (by simp) (fun k h=>by cases h)⟩⟩
 ·have hpos:0<l.length:=List.length_pos_iff.2 h0;obtain⟨_,_,he,hcap,h1,h2⟩:=qak hown;cases he;cases a with
  | none=>have:=(h2 rfl).1;omega
  | some ad=>
   obtain⟨g,rfl,-,-,hc⟩:=h1 ad rfl;obtain⟨i0,q1,q2,q3,q4⟩:=info_parts Tryz.infoInt;have Hnews:Hid (∀ j u,(qbh l)[j]?=some u→w.cell? ((⟨g,0,none⟩:Addr).add j)=some u):=hid fun j u hu=>by rw[Addr.add_lit];exact hc j u hu
   have H1:Hid (∀ u∈qbh l,u.oneCell'=true):=hid fun u hu=>by
    obtain⟨n,-,rfl⟩:=zkb.1 hu;rfl
   have hlv:(qbh l).length=l.length * 1:=by rw[quc,Nat.mul_one]
   clear hown h1 h2 hc;go_enter func112,ntmps112;have tok:True:=trivial
   go_wp2_with (first
    | (at_builtin;have _t:=tok;clear _t tok;go_loud (refine qb2 _ rfl _ _ 33 rfl 3 i0 _ 1 8 underlying33 q1 q2 q3 q4 rfl (by decide) (.slice none 0 0) 0 [] rfl (zdb _ _ _ _) ⟨g,0,none⟩ l.length c (qbh l) rfl hlv Hnews.out H1.out (by unfold maxLen;omega) (by omega) hpos fun v9 w9 hown' hgrow hloc => ?_);have Hg:=hid hgrow;have Ho9:=hid hown';have Hl9:=hid hloc;clear hgrow hown' hloc;obtain⟨ra1,rc1,rfl,-⟩:=qak Ho9.out)
    | (at_builtin;go_loud (refine qbu _ rfl _ _ 33 rfl 3 _ 8 Tryz.infoInt underlying33 rfl ra1 l.length rc1 (qbh l) rfl (by have:=qab Ho9.out (qag.keep (S:=fun _=>False) ((zp w9.heap.size w9).alloc (zl _) (.cells #[.int .i64 i] 3))) (fun _ _ h=>h);simpa using this) ⟨w9.heap.size,0,none⟩ (.int .i64 i) rfl (cell_of_row _ _ _ _ _ _ (qa8 _ _)) rfl rfl (by omega) (by decide) fun ra' rc' w8 hown' hgrow hloc => ?_);have Hg8:=hid hgrow;have Ho8:=hid hown';have Hl8:=hid hloc;clear hgrow hown' hloc))
   go_ret
   have hB9:Below w.heap.size w w9:=(zp _ _).grown Hg.out (zl _) (fun k h=>by cases h);have hb:∀ k,(Value.slice ra1 l.length rc1).ownBlock=some k→w.heap.size≤k:=fun k hk=>by
    have h:=Hl9.out;rw[Nat.zero_add] at h;rcases h with e|e
    ·rw[e] at hk;cases hk
    ·rw[e] at hk;cases hk;exact zl _
   have hz:=hB9.size;exact⟨⟨ra',rc'⟩,rfl,hid ⟨by simpa[qbh] using Ho8.out,(hB9.alloc (by omega) _).grown Hg8.out (by simp;omega) hb⟩⟩
structure EnC (F:Fix) (P:Nat→Nat) (s:St) (wB w:World) (g o:Nat) (e:En) (k:TypeId×Nat) (ia:Option Addr) (ic:Nat) (u:Value):Prop where
 c0:w.cell? ⟨g,o,none⟩=some (tyV k)
 c1:w.cell? ⟨g,o+1,none⟩=some (.slice ia e.ix.length ic)
 c2:w.cell? ⟨g,o+2,none⟩=some (.bool e.ind)
 c3:w.cell? ⟨g,o+3,none⟩=some (.bool e.mul)
 ty:TyIn wB k
 pl:PlV F P s wB e.to (tyV k) u
 ix:w.ownsRow 0 3 1 (.slice ia e.ix.length ic) e.ix.length (qbh e.ix)
theorem EnC.keep {F:Fix} {P:Nat→Nat} {s:St} {wB w w':World} {g o:Nat} {e:En} {k:TypeId×Nat} {ia:Option Addr} {ic:Nat} {u:Value} (h:EnC F P s wB w g o e k ia ic u) (hb:Below w.heap.size w w'):EnC F P s wB w' g o e k ia ic u:=
 ⟨qac.below hb _ _ h.c0,qac.below hb _ _ h.c1,qac.below hb _ _ h.c2,qac.below hb _ _ h.c3,h.ty,h.pl,qab (S:=fun _=>False) h.ix (qag.keep hb) fun _ _ h=>h⟩
def EnAt (F:Fix) (P:Nat→Nat) (s:St) (wB w:World) (g o:Nat) (e:En):Prop:=∃ k ia ic u,EnC F P s wB w g o e k ia ic u
theorem EnAt.apart {F:Fix} {P:Nat→Nat} {s:St} {wB w w':World} {g o:Nat} {e:En} {S:Nat→Prop} (h:EnAt F P s wB w g o e) (ha:qag S w w') (hg:¬ S g) (hS:∀ b cs,Blk w b 3 cs→¬ S b):EnAt F P s wB w' g o e:=by
 obtain⟨k,ia,ic,u,h⟩:=h;have hb:=zj w _ h.c0;have hc:∀ j,w'.cell? ⟨g,j,none⟩=w.cell? ⟨g,j,none⟩:=fun j=>zlb (ha.block g hb hg);exact⟨k,ia,ic,u,(hc _).trans h.c0,(hc _).trans h.c1,(hc _).trans h.c2,(hc _).trans h.c3,h.ty,h.pl,qab h.ix ha fun b hb'=>by
  obtain⟨cs,hcs⟩:=qaf h.ix hb';exact hS b cs hcs⟩
theorem EnAt.keep {F:Fix} {P:Nat→Nat} {s:St} {wB w w':World} {g o:Nat} {e:En} (h:EnAt F P s wB w g o e) (hb:Below w.heap.size w w'):EnAt F P s wB w' g o e:=
 h.apart (S:=fun _=>False) (qag.keep hb) (fun h=>h) (fun _ _ _ h=>h)
theorem EnAt.set {F:Fix} {P:Nat→Nat} {s:St} {wB w:World} {g o:Nat} {e:En} {cs:List Value} (h:EnAt F P s wB w g o e) (hB:Blk w g 225 cs) (j:Nat) (v:Value) (hj:j<o∨o+4≤j):EnAt F P s wB (w.setCell ⟨g,j,none⟩ v) g o e:=by
 obtain⟨k,ia,ic,u,h⟩:=h;have hB':=hB.set j v;have hc:∀ i,i≠j→(w.setCell ⟨g,j,none⟩ v).cell? ⟨g,i,none⟩=w.cell? ⟨g,i,none⟩:=fun i hi=>by
  rw[hB'.cell,hB.cell,List.getElem?_set,if_neg (fun e=>hi e.symm)]
 refine⟨k,ia,ic,u,(hc _ (by omega)).trans h.c0,(hc _ (by omega)).trans h.c1,(hc _ (by omega)).trans h.c2,(hc _ (by omega)).trans h.c3,h.ty,h.pl,?_⟩;refine qab (S:=fun b=>b=g) h.ix ⟨by simp,fun b hb hn=>Below.heap_setCell _ _ _ _ (fun e=>hn e)⟩ fun b hb e => ?_;subst e;obtain⟨cs',hcs⟩:=qaf h.ix hb;exact hcs.tne hB (by decide) rfl
theorem ql4 {W:Wd} {acc:List En} {e:En} {i:Nat} (h:qc7 W (acc.map (·.to)) e.to=some i):i<acc.length∧conS W acc e=acc.modify i fun a=>{ a with mul:=true }:=by
 unfold qc7 at h;rw[List.findIdx?_map] at h;unfold conS;have h':acc.findIdx? (fun a=>@decide (can W a.to=can W e.to) (Classical.propDecidable _))=some i:=h;rw[h'];exact⟨by have:=List.findIdx?_eq_some_iff_getElem.1 h';exact this.1,rfl⟩
theorem qli {W:Wd} {acc:List En} {e:En} (h:qc7 W (acc.map (·.to)) e.to=none):conS W acc e=acc++[e]:=by
 unfold qc7 at h;rw[List.findIdx?_map] at h;unfold conS;have h':acc.findIdx? (fun a=>@decide (can W a.to=can W e.to) (Classical.propDecidable _))=none:=h;rw[h']
theorem qud {W:Wd} {acc:List En} {e:En}:(conS W acc e).length≤acc.length+1:=by
 unfold conS;split
 ·simp
 ·simp
theorem qcc {W:Wd} {l:List En} {k:Nat} (hk:k<l.length):qbc W (l.take (k+1))=conS W (qbc W (l.take k)) l[k]:=by
 unfold qbc;rw[List.take_succ_eq_append_getElem hk,List.foldl_append];rfl
theorem qsz {W:Wd} {l:List En} {k:Nat} (hk:k<l.length) (hi:qc7 W ((qbc W (l.take k)).map (·.to)) l[k].to=none):(qbc W (l.take (k+1))).length=(qbc W (l.take k)).length+1:=by
 have h2:=qli hi;rw[qcc hk,h2];simp
theorem qgk {W:Wd} {l:List En}:∀ k,(qbc W (l.take k)).length≤k:=fun k=>by
 induction k with
 | zero=>simp[qbc]
 | succ k ih=>
  by_cases hk:k<l.length
  ·rw[qcc hk];have:=qud (W:=W) (acc:=qbc W (l.take k)) (e:=l[k]);omega
  ·rw[List.take_of_length_le (by omega)];rw[List.take_of_length_le (by omega)] at ih;omega
theorem qtq {F:Fix} {P:Nat→Nat} {s:St} {w0 w:World} (A:Amb F P w0 s w) {acc:List Spot} {L:List ((TypeId×Nat)×Nat)} (hK:qhl F P s w acc L) {k:TypeId×Nat} {p:Spot} {u:Value} (hp:PlV F P s w p (tyV k) u) (hn:qc7 F.W acc p=none):getT L k=none:=by
 unfold getT;rw[Option.map_eq_none_iff,List.find?_eq_none];intro x hx e;obtain⟨i,hi,rfl⟩:=List.mem_iff_getElem.1 hx;have hj:i<acc.length:=by rw[← hK.len];exact hi
 obtain⟨-,-,u',q⟩:=hK.at_ i hi hj;rw[beq_iff_eq.1 e] at q;rw[qfj hK.ne hj (q.same A hp)] at hn;cases hn
theorem qhl.add {F:Fix} {P:Nat→Nat} {s:St} {w:World} {acc:List Spot} {L:List ((TypeId×Nat)×Nat)} (hK:qhl F P s w acc L) {k:TypeId×Nat} {p:Spot} {u:Value} (hk:TyIn w k) (hp:PlV F P s w p (tyV k) u) (hn:qc7 F.W acc p=none):qhl F P s w (acc++[p]) (L++[(k,acc.length)]):=by
 refine⟨by simp[hK.len],fun i hi hj => ?_,?_⟩
 ·by_cases h:i<L.length
  ·rw[List.getElem_append_left h,List.getElem_append_left (by rw[← hK.len];exact h)];exact hK.at_ i h (by rw[← hK.len];exact h)
  ·have e:i=L.length:=by simp at hi;omega
   subst e;rw[List.getElem_append_right (zl _),List.getElem_append_right (by rw[hK.len];exact zl _)];simp only[Nat.sub_self,zi,hK.len];exact⟨trivial,hk,u,hp⟩
 ·rw[List.pairwise_append];refine⟨hK.ne,List.pairwise_singleton _ _,fun a ha b hb e => ?_⟩;rw[zfb] at hb;subst hb;obtain⟨i,hi,rfl⟩:=List.mem_iff_getElem.1 ha;rw[qfj hK.ne hi e] at hn;cases hn
structure CoSt (F:Fix) (P:Nat→Nat) (s:St) (wB w wr:World) (g rm:Nat) (l:List En) (k:Nat) (L:List ((TypeId×Nat)×Nat)):Prop where
 turns:qah (fun b=>b=g) w wr
 blk:∃ cs,Blk wr g 225 cs
 map:IMap wr rm L
 keys:qhl F P s wB ((qbc F.W (l.take k)).map (·.to)) L
 acc:∀ i (hi:i<(qbc F.W (l.take k)).length),EnAt F P s wB wr g (i * 4) (qbc F.W (l.take k))[i]
 rest:∀ i (hi:i<l.length),k≤i→EnAt F P s wB wr g (i * 4) l[i]
theorem CoSt.keep {F:Fix} {P:Nat→Nat} {s:St} {wB w wr w':World} {g rm:Nat} {l:List En} {k:Nat} {L:List ((TypeId×Nat)×Nat)} (h:CoSt F P s wB w wr g rm l k L) (hb:Below wr.heap.size wr w'):CoSt F P s wB w w' g rm l k L:=by
 obtain⟨cs,hc⟩:=h.blk;exact⟨h.turns.trans (qah.keep hb),⟨cs,hc.keep hb⟩,h.map.apart (S:=fun _=>False) (qag.keep hb) fun h=>h,h.keys,fun i hi=>(h.acc i hi).keep hb,fun i hi hk=>(h.rest i hi hk).keep hb⟩
theorem qe6 (w:World) (g j:Nat) (v:Value):qah (fun b=>b=g) w (w.setCell ⟨g,j,none⟩ v):=⟨rfl,rfl,rfl,⟨by simp,fun b _ hn=>Below.heap_setCell _ _ _ _ (fun e=>hn e)⟩⟩
theorem EnAt.mark {F:Fix} {P:Nat→Nat} {s:St} {wB w:World} {g o:Nat} {e:En} {cs:List Value} (h:EnAt F P s wB w g o e) (hB:Blk w g 225 cs):EnAt F P s wB (w.setCell ⟨g,o+3,none⟩ (.bool true)) g o { e with mul:=true }:=by
 obtain⟨k,ia,ic,u,h⟩:=h;have hB':=hB.set (o+3) (.bool true);have hl:o+3<cs.length:=by
  have:=h.c3;rw[hB.cell] at this;exact(zjb.1 this).1
 have hc:∀ i,i≠o+3→(w.setCell ⟨g,o+3,none⟩ (.bool true)).cell? ⟨g,i,none⟩=w.cell? ⟨g,i,none⟩:=fun i hi=>by
  rw[hB'.cell,hB.cell,List.getElem?_set,if_neg (fun e=>hi e.symm)]
 refine⟨k,ia,ic,u,(hc _ (by omega)).trans h.c0,(hc _ (by omega)).trans h.c1,(hc _ (by omega)).trans h.c2,by rw[hB'.cell,List.getElem?_set,if_pos rfl,if_pos hl],h.ty,h.pl,?_⟩;refine qab (S:=fun b=>b=g) h.ix (qe6 _ _ _ _).apart fun b hb e => ?_;subst e;obtain⟨cs',hcs⟩:=qaf h.ix hb;exact hcs.tne hB (by decide) rfl
theorem CoSt.found {F:Fix} {P:Nat→Nat} {s:St} {wB w wr:World} {g rm:Nat} {l:List En} {k i:Nat} {L:List ((TypeId×Nat)×Nat)} (h:CoSt F P s wB w wr g rm l k L) (hk:k<l.length) (hrm:rm≠g) (hi:qc7 F.W ((qbc F.W (l.take k)).map (·.to)) l[k].to=some i):
  (qbc F.W (l.take (k+1))).length=(qbc F.W (l.take k)).length∧CoSt F P s wB w (wr.setCell ⟨g,i * 4+3,none⟩ (.bool true)) g rm l (k+1) L:=by
 obtain⟨h1,h2⟩:=ql4 hi;have h3:=qgk (W:=F.W) (l:=l) k;obtain⟨cs,hc⟩:=h.blk;have ht:=qe6 wr g (i * 4+3) (.bool true);rw[qcc hk,h2];refine⟨by simp,h.turns.trans ht,⟨_,hc.set _ _⟩,h.map.apart ht.apart hrm,?_,?_,fun j hj hkj=>(h.rest j hj (by omega)).set hc _ _ (by omega)⟩
 ·rw[qcc hk,h2];have e:((qbc F.W (l.take k)).modify i fun a=>{ a with mul:=true }).map (·.to)=(qbc F.W (l.take k)).map (·.to):=by
   apply List.ext_getElem (by simp);intro j hj1 hj2;simp only[List.getElem_map,List.getElem_modify];split <;> rfl
  rw[e];exact h.keys
 ·intro j hj;have hj0:=hj;rw[qcc hk,h2] at hj;have hj':j<(qbc F.W (l.take k)).length:=by simpa using hj
  have e:(qbc F.W (l.take (k+1)))[j]=((qbc F.W (l.take k)).modify i fun a=>{ a with mul:=true })[j]'hj:=by
   simp only[qcc hk,h2]
  rw[e,List.getElem_modify];by_cases hij:i=j
  ·subst hij;rw[if_pos rfl];exact(h.acc i hj').mark hc
  ·rw[if_neg hij];exact(h.acc j hj').set hc _ _ (by omega)
theorem CoSt.new {F:Fix} {P:Nat→Nat} {s:St} {wB w wr w7:World} {g rm:Nat} {l:List En} {k:Nat} {L:List ((TypeId×Nat)×Nat)} (h:CoSt F P s wB w wr g rm l k L) (hk:k<l.length) (hrm:rm≠g) (hrg:w.heap.size≤rm) (hi:qc7 F.W ((qbc F.W (l.take k)).map (·.to)) l[k].to=none)
  {key:TypeId×Nat} {ia:Option Addr} {ic:Nat} {u:Value} (hE:EnC F P s wB wr g (k * 4) l[k] key ia ic u) (ht:qah (fun b=>b=rm) wr w7) (hM:IMap w7 rm (L++[(key,(qbc F.W (l.take k)).length)])) (hni:∀ cs,¬ Blk wr rm 3 cs):
  (qbc F.W (l.take (k+1))).length=(qbc F.W (l.take k)).length+1∧
  CoSt F P s wB w ((((w7.setCell ⟨g,(qbc F.W (l.take k)).length * 4,none⟩ (tyV key)).setCell ⟨g,(qbc F.W (l.take k)).length * 4+1,none⟩ (.slice ia l[k].ix.length ic)).setCell ⟨g,(qbc F.W (l.take k)).length * 4+2,none⟩ (.bool l[k].ind)).setCell ⟨g,(qbc F.W (l.take k)).length * 4+3,none⟩ (.bool l[k].mul)) g rm l (k+1) (L++[(key,(qbc F.W (l.take k)).length)]):=by
 have h2:=qli hi;have h3:=qgk (W:=F.W) (l:=l) k;obtain⟨m,hm⟩:∃ m,m=(qbc F.W (l.take k)).length:=⟨_,rfl⟩;rw[← hm] at h3 hM ⊢;obtain⟨cs,hc⟩:=h.blk;have hc7:Blk w7 g 225 cs:=hc.apart ht.apart (fun e=>hrm e.symm);have b1:=hc7.set (m * 4) (tyV key);have b2:=b1.set (m * 4+1) (.slice ia l[k].ix.length ic);have b3:=b2.set (m * 4+2) (.bool l[k].ind);have b4:=b3.set (m * 4+3) (.bool l[k].mul);have hlen:k * 4+3<cs.length:=by
  have:=hE.c3;rw[hc.cell] at this;exact(zjb.1 this).1
 have t1:=qe6 w7 g (m * 4) (tyV key);have t2:=t1.trans (qe6 _ g (m * 4+1) (.slice ia l[k].ix.length ic));have t3:=t2.trans (qe6 _ g (m * 4+2) (.bool l[k].ind));have t4:=t3.trans (qe6 _ g (m * 4+3) (.bool l[k].mul));have tg:qah (fun b=>b=g) w w7:=⟨ht.os.trans h.turns.os,ht.tape.trans h.turns.tape,ht.output.trans h.turns.output,⟨Nat.le_trans h.turns.apart.size ht.apart.size,fun b hb hn=>(ht.apart.block b (by have:=h.turns.apart.size;omega) (by omega)).trans (h.turns.apart.block b hb hn)⟩⟩;have k7:∀ {o:Nat} {e:En},EnAt F P s wB wr g o e→EnAt F P s wB w7 g o e:=fun hq=>hq.apart ht.apart (fun e=>hrm e.symm) fun b cs hb e=>hni cs (by rw[← e];exact hb);have kset:∀ {o:Nat} {e:En},EnAt F P s wB w7 g o e→(o+4≤m * 4∨m * 4+4≤o)→EnAt F P s wB ((((w7.setCell ⟨g,m * 4,none⟩ (tyV key)).setCell ⟨g,m * 4+1,none⟩ (.slice ia l[k].ix.length ic)).setCell ⟨g,m * 4+2,none⟩ (.bool l[k].ind)).setCell ⟨g,m * 4+3,none⟩ (.bool l[k].mul)) g o e:=fun hq ho=>
  (((hq.set hc7 _ _ (by omega)).set b1 _ _ (by omega)).set b2 _ _ (by omega)).set b3 _ _ (by omega)
 rw[qcc hk,h2];refine⟨by simp[hm],tg.trans t4,⟨_,b4⟩,hM.apart t4.apart hrm,?_,?_,fun j hj hkj=>kset (k7 (h.rest j hj (by omega))) (by omega)⟩
 ·rw[qcc hk,h2,List.map_append];have:=h.keys.add hE.ty hE.pl hi;rw[List.length_map,← hm] at this;exact this
 ·intro j hj;have hj0:=hj;rw[qcc hk,h2] at hj;have e:(qbc F.W (l.take (k+1)))[j]=((qbc F.W (l.take k))++[l[k]])[j]'hj:=by simp only[qcc hk,h2]
  rw[e];by_cases hjm:j<m
  ·rw[List.getElem_append_left (by omega)];exact kset (k7 (h.acc j (by omega))) (by omega)
  ·have ej:j=m:=by simp at hj;omega
   subst ej;rw[List.getElem_append_right (by omega)];simp only[hm,Nat.sub_self,zi];rw[← hm];refine⟨key,ia,ic,u,?_,?_,?_,?_,hE.ty,hE.pl,?_⟩
   ·rw[b4.cell];simp[List.getElem?_set];omega
   ·rw[b4.cell];simp[List.getElem?_set];omega
   ·rw[b4.cell];simp[List.getElem?_set];omega
   ·rw[b4.cell];simp[List.getElem?_set];omega
   ·refine qab (S:=fun b=>b=g) (qab hE.ix ht.apart fun b hb e => ?_) t4.apart fun b hb e => ?_
    ·obtain⟨cs',hcs⟩:=qaf hE.ix hb;exact hni cs' (by rw[← e];exact hcs)
    ·obtain⟨cs',hcs⟩:=qaf hE.ix hb;subst e;exact hcs.tne hc (by decide) rfl
theorem qv1 {F:Fix} {P:Nat→Nat} {w0:World} {s:St} {wB w:World} (A:Amb F P w0 s wB) (hBw:Below wB.heap.size wB w) {g c:Nat} (hg:wB.heap.size≤g) {cs:List Value} (hB:Blk w g 225 cs) (l:List En) (hl:l.length≤c) (h2:2≤l.length) (hbd:l.length≤1099511627776) (hE:∀ i (hi:i<l.length),EnAt F P s wB w g (i * 4) l[i]):
  Calls prog 116 #[.slice (some ⟨g,0,none⟩) l.length c] w fun e w'=>e = .returned (.slice (some ⟨g,0,none⟩) (qbc F.W l).length c)∧qah (fun b=>b=g) w w'∧(∃ cs,Blk w' g 225 cs)∧∀ i (hi:i<(qbc F.W l).length),EnAt F P s wB w' g (i * 4) (qbc F.W l)[i]:=by
 have HE:=hid hE;have HB:=hid hB;have HA:=hid A;have HBw:=hid hBw;have hgl:=hB.lt;have h2':¬ ((l.length:Int)≤1):=by omega
 have hBw':=hBw.size;have hmm:=@run_makeMap prog;clear hE hB A hBw;go_enter func116,ntmps116
 go_wp2_with fail
 go_loopw [3,16] (fun nv jv wr=>∃ (k:Nat) (L:List ((TypeId×Nat)×Nat)),k≤l.length∧jv = .int .i64 k∧nv = .int .i64 (qbc F.W (l.take k)).length∧Hid (CoSt F P s wB w wr g w.heap.size l k L)) (fun _ jv _=>l.length - (intOf jv).toNat)
 case atStart=>exact⟨0,[],Nat.zero_le _,rfl,rfl,hid ⟨qah.keep ((zp _ _).alloc (zl _) _),⟨cs,HB.out.keep ((zp _ _).alloc (zl _) _)⟩,IMap.new _ _,⟨rfl,fun i hi=>by simp at hi,List.Pairwise.nil⟩,fun i hi=>by simp[qbc] at hi,fun i hi _=>(HE.out i hi).keep ((zp _ _).alloc (zl _) _)⟩⟩
 case round=>
  refine hrel.elim fun k hrel=>hrel.elim fun L hrel => ?_;obtain⟨hk,rfl,rfl,hS⟩:=hrel;by_cases hlt:k<l.length
  ·have hlt':(k:Int)<(l.length:Int):=by omega
   have hk':¬ (k:Int)<0:=by omega
   have HKn:Hid (k+1≤l.length):=hid hlt;have hBw:=HBw.out.trans (hS.out.turns.below (B:=wB.heap.size) hBw' fun b hb=>by subst hb;exact hg);have hEk:=hS.out.rest k hlt (zl _);refine hEk.elim fun key hEk=>hEk.elim fun ia hEk=>hEk.elim fun ic hEk=>hEk.elim fun u hEk => ?_;have c0:=hEk.c0;have c1:=hEk.c1;have c2:=hEk.c2;have c3:=hEk.c3;have hgr:g<wr.heap.size:=zj wr _ c0;have hcl:=qgk (W:=F.W) (l:=l) k;obtain⟨m,hm⟩:∃ m,m=(qbc F.W (l.take k)).length:=⟨_,rfl⟩;rw[← hm] at hcl;have Hm:=hid hm;have hmc:m<c:=by omega
   have hmb:m≤1099511627776:=by omega
   have hrl:w.heap.size<wr.heap.size:=hS.out.map.lt;have Hrl:=hid hrl;have hni:∀ cs,¬ Blk wr w.heap.size 3 cs:=fun cs hc=>by
    obtain⟨es,c,h1,-⟩:=hS.out.map.ex;unfold Blk at hc;rw[h1] at hc;cases hc
   have hrm:w.heap.size≠g:=by omega
   have HL:Hid (∀ O:Obj,Calls prog 145 #[.map (some w.heap.size),.iface key.1 (ptrV key.2)] (wr.alloc O) (qa2 (lkT (qc7 F.W ((qbc F.W (l.take k)).map (·.to)) l[k].to)) (wr.alloc O))):=hid fun O=>by
    have hO:Below wr.heap.size wr (wr.alloc O):=(zp _ _).alloc (zl _) _;have hBO:Below wB.heap.size wB (wr.alloc O):=hBw.trans (hO.mono hBw.size);exact qk5 (HA.out.keep hBO) ((hS.out.map).apart (S:=fun _=>False) (qag.keep hO) fun h=>h) (hS.out.keys.keep hBO) key _ u (hEk.pl.keep hBO) (hEk.ty.keep hBO)
   have HEk:=hid hEk;have HBw2:=hid hBw;have Hni:=hid hni;cases hci:qc7 F.W ((qbc F.W (l.take k)).map (·.to)) l[k].to with
   | some i=>
    obtain⟨F1,F2⟩:=hS.out.found hlt hrm hci;have him:=(ql4 hci).1;rw[← hm] at him;have Hfo:Hid (∀ w6,Below wr.heap.size wr w6→CoSt F P s wB w (w6.setCell ⟨g,i * 4+3,none⟩ (.bool true)) g w.heap.size l (k+1) L):=hid fun w6 hb=>((hS.out.keep hb).found hlt hrm hci).2;have Hst:Hid (∀ w6,Below wr.heap.size wr w6→(∃ v,w6.cell? ⟨g,i * 4+3,none⟩=some v)∧w6.frozen? ⟨g,i * 4+3,none⟩=false):=hid fun w6 hb=>by
     obtain⟨cs6,hcs6⟩:=hS.out.blk;obtain⟨_,_,_,_,h6⟩:=(hS.out.acc i (by rw[← hm];exact him)).keep hb;exact⟨⟨_,h6.c3⟩,(hcs6.keep hb).soft _⟩
    rw[hci] at HL;simp only[lkT,Option.getD_some,Option.isSome_some] at HL;have hlen:=F1;rw[← hm] at hlen ⊢;have Hlen:=hid hlen;clear hci F1 F2 hS hEk hBw hni hlen hm;have hic:i<c:=by omega
    have him2:(i:Int)<(l.length:Int):=by omega
    go_wp2_with (go_at_call 145;refine(HL.out _).mono ?_;rintro e w6 ⟨rfl,hb6⟩;have Hb6:=hid (((zp _ _).alloc (zl _) _:Below wr.heap.size wr _).trans (hb6.mono (by simp)));clear hb6;obtain⟨vx,hx3⟩:=(Hst.out _ Hb6.out).1;have hfr:=(Hst.out _ Hb6.out).2;have hg6:g<w6.heap.size:=by have:=Hb6.out.size;omega)
    go_roundw
    case rel=>exact⟨k+1,L,HKn.out,by go_num,by rw[Hlen.out],hid (Hfo.out _ Hb6.out)⟩
    case measure=>have hkn:=HKn.out;simp[intOf];omega
   | none=>
    have hgt:=hid (fun(w6:World) (hb:Below wr.heap.size wr w6)=>qtq (HA.out.keep (hBw.trans (hb.mono hBw.size))) (hS.out.keys.keep (hBw.trans (hb.mono hBw.size))) (hEk.pl.keep (hBw.trans (hb.mono hBw.size))) hci);have Hlen:Hid ((qbc F.W (l.take (k+1))).length=m+1):=hid (by rw[qsz hlt hci,← hm]);have Hnew:Hid (∀ (w6 w7:World),Below wr.heap.size wr w6→qah (fun b=>b=w.heap.size) w6 w7→IMap w7 w.heap.size (L++[(key,m)])→CoSt F P s wB w ((((w7.setCell ⟨g,m * 4,none⟩ (tyV key)).setCell ⟨g,m * 4+1,none⟩ (.slice ia l[k].ix.length ic)).setCell ⟨g,m * 4+2,none⟩ (.bool l[k].ind)).setCell ⟨g,m * 4+3,none⟩ (.bool l[k].mul)) g w.heap.size l (k+1) (L++[(key,m)])):=hid fun w6 w7 hb ht hM=>by
     have hE6:=(EnC.keep hEk hb);have:=((hS.out.keep hb).new hlt hrm (zl _) hci hE6 ht (by rw[← hm];exact hM) fun cs hc=>by
      obtain⟨es,c,h1,-⟩:=(hS.out.keep hb).map.ex;unfold Blk at hc;rw[h1] at hc;cases hc).2
     rw[← hm] at this;exact this
    rw[hci] at HL;simp only[lkT,Option.getD_none,Option.isSome_none] at HL;have HcS:=hS;have Hci:=hid hci;rw[← hm];clear hci hEk hBw hni hm
    go_wp2_with (first|(go_at_call 145;refine(HL.out _).mono ?_;rintro e w6 ⟨rfl,hb6⟩;have hc6:=(qal hb6).1;(try simp only[zd,qaa] at hc6);have Hb6:=hid (((zp _ _).alloc (zl _) _:Below wr.heap.size wr _).trans (hb6.mono (by simp)));have Hz6:Hid (wr.heap.size+1≤w6.heap.size):=hid (by have:=hb6.size;simpa using this);clear hb6)|(at_mapUpdate;refine qi5 _ rfl (.tmp 32) (.tmp 34) (.tmp 35) rfl (r:=w.heap.size) (L:=L) rfl ?mm key rfl m rfl ?mg ?mk ?mh ?mK))
    case mm=>exact HcS.out.map.apart (S:=fun _=>False) (qag.keep Hb6.out) fun h=>h
    case mg=>exact hgt.out _ Hb6.out
    case mk=>exact HEk.out.ty.keep (HBw2.out.trans (Hb6.out.mono HBw2.out.size))
    case mh=>
     intro x hx;obtain⟨i,hi,rfl⟩:=List.mem_iff_getElem.1 hx;exact(HcS.out.keys.at_ i hi (by rw[← HcS.out.keys.len];exact hi)).2.1.keep (HBw2.out.trans (Hb6.out.mono HBw2.out.size))
    case mK=>
    refine fun w7 hM7 hT7 => ?_;have Hold:Hid (∀ w7,qah (fun b=>b=w.heap.size) w6 w7→(∃ cs7,Blk w7 g 225 cs7∧k * 4+3<cs7.length)∧∀ j,w7.cell? ⟨wr.heap.size,j,none⟩=w6.cell? ⟨wr.heap.size,j,none⟩):=hid fun w7 ht=>by
     obtain⟨cs6,hcs6⟩:=HcS.out.blk;refine⟨⟨cs6,(hcs6.keep Hb6.out).apart ht.apart (fun e=>by omega),?_⟩,fun j=>zlb (ht.apart.block _ (show wr.heap.size<w6.heap.size by have:=Hz6.out;omega) (fun e=>by have h1:=Hrl.out;have h2:wr.heap.size=w.heap.size:=e;omega))⟩
     ·have:=HEk.out.c3;rw[hcs6.cell] at this;exact(zjb.1 this).1
    have Hco:=hid (Hnew.out w6 w7 Hb6.out hT7 hM7);have hc7:=(Hold.out w7 hT7).2;refine(Hold.out w7 hT7).1.elim fun cs7 hcs7 => ?_;have hb7:=hcs7.1;have hl7:=hcs7.2;clear hcs7 hM7 hT7 Hold;have hg7:=hb7.lt;have hs7:=hb7.soft;have hd0:w7.cell? ⟨g,m * 4,none⟩=some (cs7[m * 4]'(by omega)):=by rw[hb7.cell];exact zr _
    have hd1:w7.cell? ⟨g,m * 4+1,none⟩=some (cs7[m * 4+1]'(by omega)):=by rw[hb7.cell];exact zr _
    have hd2:w7.cell? ⟨g,m * 4+2,none⟩=some (cs7[m * 4+2]'(by omega)):=by rw[hb7.cell];exact zr _
    have hd3:w7.cell? ⟨g,m * 4+3,none⟩=some (cs7[m * 4+3]'(by omega)):=by rw[hb7.cell];exact zr _
    clear hb7
    go_wp2_with fail
    go_roundw
    case rel=>exact⟨k+1,L++[(key,m)],HKn.out,by go_num,by rw[Hlen.out];go_num,hid Hco.out⟩
    case measure=>have hkn:=HKn.out;simp[intOf];omega
  ·obtain rfl:k=l.length:=by omega
   have hcl:=qgk (W:=F.W) (l:=l) l.length;rw[zeb] at hcl;have hc1:((qbc F.W l).length:Int)≤(c:Int):=by omega
   have hS':=hid (by have h:=hS.out;exact And.intro h.turns (And.intro h.blk h.acc));rw[zeb] at hS'
   go_wp2_with fail
   go_ret
   exact⟨rfl,hS'.out⟩
theorem qfw.keep {w w':World} {x y tx ty:Nat} (h:qfw w x y tx ty) (hb:Below w.heap.size w w'):qfw w' x y tx ty:=by
 obtain⟨⟨cx,hx⟩,⟨cy,hy⟩,⟨dx,htx⟩,⟨dy,hty⟩,hi⟩:=h;exact⟨⟨cx,hx.keep hb⟩,⟨cy,hy.keep hb⟩,⟨dx,htx.keep hb⟩,⟨dy,hty.keep hb⟩,hi⟩
theorem qda (x y tx ty:Nat) (w:World) (h:qfw w x y tx ty):Calls prog 99 #[.iface 98 (ptrV x),.iface 98 (ptrV y)] w (qa2 (.bool (x==y)) w):=by
 have HI:=hid (qkr w.heap.size x y tx ty (w.alloc (.cells #[.bool false,.bool false] 256)) (h.keep ((zp _ _).alloc (zl _) _)) (by rw[(Blk.new w 256 [.bool false,.bool false]).cell];rfl) none);clear h;go_enter func99,ntmps99
 go_wp2_with (go_at_call 125;refine HI.out.mono ?_;rintro e w2 ⟨rfl,hb2⟩;have Hb2:=hid hb2;clear hb2)
 go_ret
 exact⟨rfl,((zp _ _).alloc (zl _) _).trans (Hb2.out.mono (by simp))⟩
def optP (L:List Nat) (k:Nat):Value := .pointer ((L[k]?).map fun b=>⟨b,0,none⟩)
theorem ix3_0 (p0 p1 p2:Value) (w:World):(Instr.index 227 (.agg #[p0,p1,p2]) (.int .i64 0)).run prog w = .ok p0 w:=by kernel_rfl
theorem ix3_1 (p0 p1 p2:Value) (w:World):(Instr.index 227 (.agg #[p0,p1,p2]) (.int .i64 1)).run prog w = .ok p1 w:=by kernel_rfl
theorem ix3_2 (p0 p1 p2:Value) (w:World):(Instr.index 227 (.agg #[p0,p1,p2]) (.int .i64 2)).run prog w = .ok p2 w:=by kernel_rfl
theorem Tryz.infoPN:(prog.info? 98).map (fun i=>(i.zero,i.size,i.bytes))=some (some (.pointer none),1,8):=by kernel_rfl
theorem Tryz.zRowN:(prog.info? 278).map (·.zero)=some (some (.slice none 0 0)):=by kernel_rfl
def qs9 (L:List Nat) (x:Nat):Value := .pointer (if L.contains x then some ⟨x,0,none⟩ else none)
theorem qf0 {L:List Nat} {x:Nat} (h:x∈L):qs9 L x=ptrV x:=by simp[qs9,h]
theorem qm3 {L:List Nat} {x:Nat} (h:x ∉ L):qs9 L x = .pointer none:=by simp[qs9,h]
structure qeb (B:Nat) (w:World) (sb:Nat) (L:List Nat):Prop where
 ge:B≤sb
 blk:∃ m,Blk w sb 230 [optP L 0,optP L 1,optP L 2,m]∧(L.length≤3∧m = .map none∨3<L.length∧∃ r M,m = .map (some r)∧B≤r∧qgx w r M∧M.map (·.1)=L.drop 3∧∀ e∈M,∃ ra rc,e.2 = .slice ra 1 rc∧w.ownsRow 0 98 1 (.slice ra 1 rc) 1 [ptrV e.1])
theorem qo3 (B sb x tx:Nat) (tn:Nat→Nat) (L:List Nat) (w:World) (h:qeb B w sb L) (hL:∀ y∈L,qfw w x y tx (tn y)):
  Calls prog 109 #[ptrV sb,ptrV x] w (qa2 (qs9 L x) w):=by
 obtain⟨m,hb,hm⟩:=h.blk;have H:=hid (And.intro h hL);have Hm:=hid hm;have c0:=hb.cell 0;have c1:=hb.cell 1;have c2:=hb.cell 2;have c3:=hb.cell 3;simp only[zu,zt] at c0 c1 c2 c3;have hbl:=hb.lt;clear h hL hb hm;go_enter func109,ntmps109;have i0:=fun(p0 p1 p2:Value) (w:World)=>ix3_0 p0 p1 p2 w;have i1:=fun(p0 p1 p2:Value) (w:World)=>ix3_1 p0 p1 p2 w;have i2:=fun(p0 p1 p2:Value) (w:World)=>ix3_2 p0 p1 p2 w
 go_wp2_with fail
 go_loopw [13] (fun j wr=>∃ k:Nat,k≤3∧j = .int .i64 k∧Hid (Below w.heap.size w wr)∧Hid (∀ i,i<k→(hi:i<L.length)→x≠L[i])) (fun j _=>3 - (intOf j).toNat)
 case atStart=>exact⟨0,by omega,rfl,hid (zp _ _),hid fun i hi=>by omega⟩
 case round=>
  obtain⟨k,hk,rfl,hbel,hno⟩:=hrel;have hk3:k=0∨k=1∨k=2∨k=3:=by omega
  rcases hk3 with rfl|rfl|rfl|rfl
  ·skip
   by_cases hlk:0<L.length
   ·have hp:optP L 0=ptrV L[0]:=by simp[optP,zr hlk]
    have HId:=hid (fun w' (hb:Below w.heap.size w w')=>qda x L[0] tx (tn L[0]) w' ((H.out.2 _ (z8 hlk)).keep hb));have Hmem:=hid (z8 hlk);have Hne:=hno;obtain⟨y,hy⟩:∃ y,y=L[0]:=⟨_,rfl⟩;rw[← hy] at hp HId Hmem;have Hy:=hid hy;clear hy;rw[hp];cases hxy:(x==y) with
    | true=>
     rw[hxy] at HId;have hxe:x=y:=by simpa using hxy
     subst hxe;clear hxy
     go_wp2_with (go_at_call 99;refine(HId.out _ hbel.out).mono ?_;rintro e w2 ⟨rfl,hb2⟩;have Hb2:=hid hb2;clear hb2)
     go_ret
     exact⟨by rw[qf0 Hmem.out];rfl,hbel.out.trans (Hb2.out.mono hbel.out.size)⟩
    | false=>
     rw[hxy] at HId;have Hxy:=hid hxy;clear hxy
     go_wp2_with (go_at_call 99;refine(HId.out _ hbel.out).mono ?_;rintro e w2 ⟨rfl,hb2⟩;have Hb2:=hid hb2;clear hb2)
     go_roundw
     case rel=>exact⟨0+1,by omega,rfl,bel_ hbel Hb2.out,hid fun i hi hil=>by
      by_cases e:i=0
      ·subst e;rw[← Hy.out];simpa using Hxy.out
      ·exact hno.out i (by omega) hil⟩
     case measure=>simp[intOf]
   ·have hp:optP L 0 = .pointer none:=by simp[optP,List.getElem?_eq_none (Nat.le_of_not_lt hlk)]
    rw[hp]
    go_wp2_with fail
    go_roundw
    case rel=>exact⟨0+1,by omega,rfl,hbel,hid fun i hi hil=>hno.out i (by omega) hil⟩
    case measure=>simp[intOf]
  ·skip
   by_cases hlk:1<L.length
   ·have hp:optP L 1=ptrV L[1]:=by simp[optP,zr hlk]
    have HId:=hid (fun w' (hb:Below w.heap.size w w')=>qda x L[1] tx (tn L[1]) w' ((H.out.2 _ (z8 hlk)).keep hb));have Hmem:=hid (z8 hlk);have Hne:=hno;obtain⟨y,hy⟩:∃ y,y=L[1]:=⟨_,rfl⟩;rw[← hy] at hp HId Hmem;have Hy:=hid hy;clear hy;rw[hp];cases hxy:(x==y) with
    | true=>
     rw[hxy] at HId;have hxe:x=y:=by simpa using hxy
     subst hxe;clear hxy
     go_wp2_with (go_at_call 99;refine(HId.out _ hbel.out).mono ?_;rintro e w2 ⟨rfl,hb2⟩;have Hb2:=hid hb2;clear hb2)
     go_ret
     exact⟨by rw[qf0 Hmem.out];rfl,hbel.out.trans (Hb2.out.mono hbel.out.size)⟩
    | false=>
     rw[hxy] at HId;have Hxy:=hid hxy;clear hxy
     go_wp2_with (go_at_call 99;refine(HId.out _ hbel.out).mono ?_;rintro e w2 ⟨rfl,hb2⟩;have Hb2:=hid hb2;clear hb2)
     go_roundw
     case rel=>exact⟨1+1,by omega,rfl,bel_ hbel Hb2.out,hid fun i hi hil=>by
      by_cases e:i=1
      ·subst e;rw[← Hy.out];simpa using Hxy.out
      ·exact hno.out i (by omega) hil⟩
     case measure=>simp[intOf]
   ·have hp:optP L 1 = .pointer none:=by simp[optP,List.getElem?_eq_none (Nat.le_of_not_lt hlk)]
    rw[hp]
    go_wp2_with fail
    go_roundw
    case rel=>exact⟨1+1,by omega,rfl,hbel,hid fun i hi hil=>hno.out i (by omega) hil⟩
    case measure=>simp[intOf]
  ·skip
   by_cases hlk:2<L.length
   ·have hp:optP L 2=ptrV L[2]:=by simp[optP,zr hlk]
    have HId:=hid (fun w' (hb:Below w.heap.size w w')=>qda x L[2] tx (tn L[2]) w' ((H.out.2 _ (z8 hlk)).keep hb));have Hmem:=hid (z8 hlk);have Hne:=hno;obtain⟨y,hy⟩:∃ y,y=L[2]:=⟨_,rfl⟩;rw[← hy] at hp HId Hmem;have Hy:=hid hy;clear hy;rw[hp];cases hxy:(x==y) with
    | true=>
     rw[hxy] at HId;have hxe:x=y:=by simpa using hxy
     subst hxe;clear hxy
     go_wp2_with (go_at_call 99;refine(HId.out _ hbel.out).mono ?_;rintro e w2 ⟨rfl,hb2⟩;have Hb2:=hid hb2;clear hb2)
     go_ret
     exact⟨by rw[qf0 Hmem.out];rfl,hbel.out.trans (Hb2.out.mono hbel.out.size)⟩
    | false=>
     rw[hxy] at HId;have Hxy:=hid hxy;clear hxy
     go_wp2_with (go_at_call 99;refine(HId.out _ hbel.out).mono ?_;rintro e w2 ⟨rfl,hb2⟩;have Hb2:=hid hb2;clear hb2)
     go_roundw
     case rel=>exact⟨2+1,by omega,rfl,bel_ hbel Hb2.out,hid fun i hi hil=>by
      by_cases e:i=2
      ·subst e;rw[← Hy.out];simpa using Hxy.out
      ·exact hno.out i (by omega) hil⟩
     case measure=>simp[intOf]
   ·have hp:optP L 2 = .pointer none:=by simp[optP,List.getElem?_eq_none (Nat.le_of_not_lt hlk)]
    rw[hp]
    go_wp2_with fail
    go_roundw
    case rel=>exact⟨2+1,by omega,rfl,hbel,hid fun i hi hil=>hno.out i (by omega) hil⟩
    case measure=>simp[intOf]
  ·have d3:=qac.below hbel.out _ _ c3;have hbl':sb<wr.heap.size:=zj wr _ d3;obtain⟨jn,hjn,hjn2⟩:=zbb.1 Tryz.szNd;rcases Hm.out with ⟨hl3,rfl⟩|⟨hl3,r,M,rfl,-,hM,hMf,hMr⟩
   ·have hlk:=fun w':World=>qhh (P:=prog) w' underlying228 underlying98 Tryz.zRowN x;have hnx:x ∉ L:=fun hx=>by
     obtain⟨i,hi,e⟩:=List.mem_iff_getElem.1 hx;exact hno.out i (by omega) hi e.symm
    go_wp2_with fail
    have Hbel:=hbel;obtain⟨wm,rfl⟩:∃ wm:World,wm=wr:=⟨_,rfl⟩
    go_loopw [34] (fun j wr=>j = .int .i64 ((0:Nat):Int)∧wr=wm) (fun j _=>1)
    case atStart=>exact⟨rfl,rfl⟩
    case round=>
     obtain⟨rfl,rfl⟩:=hrel
     go_wp2_with fail
     go_ret
     exact⟨by rw[qm3 hnx];rfl,Hbel.out⟩
   ·have hg:∀ e∈M,∃ cg tg,wr.heap[e.1]?=some (.cells cg tg (0,0)):=fun e he=>by
     have h1:e.1∈L:=List.mem_of_mem_drop (hMf ▸ zkb.2 ⟨e,he,rfl⟩);obtain⟨-,⟨cs,hcs⟩,-⟩:=(H.out.2 _ h1).keep hbel.out;exact⟨_,_,hcs⟩
    have hLne:∃ y,y∈L:=by
     cases L with
     | nil=>simp at hl3
     | cons y r=>exact⟨y,z6 ..⟩
    obtain⟨y0,hy0⟩:=hLne;obtain⟨⟨cx,hxb⟩,-⟩:=(H.out.2 _ hy0).keep hbel.out;have hMw:qgx wr r M:=hM.apart (S:=fun _=>False) (qag.keep hbel.out) fun h=>h;have hlk:=qex (P:=prog) wr underlying228 underlying98 hjn (by rw[hjn2];decide) Tryz.zRowN hMw x hxb hg;cases hgp:getP M x with
    | none=>
     rw[hgp] at hlk;simp only[Option.getD_none] at hlk;have hnx:x ∉ L:=fun hx=>by
      obtain⟨i,hi,e⟩:=List.mem_iff_getElem.1 hx;by_cases hi3:i<3
      ·exact hno.out i hi3 hi e.symm
      ·have hd:x∈L.drop 3:=by
        rw[← e];exact List.mem_drop_iff_getElem.2 ⟨i - 3,by omega,by congr 1;omega⟩
       rw[← hMf] at hd;obtain⟨e',he',h2⟩:=zkb.1 hd;unfold getP at hgp;rw[Option.map_eq_none_iff,List.find?_eq_none] at hgp;have:=hgp e' he';simp[h2] at this
     clear hg hxb hMw
     go_wp2_with fail
     have Hbel:=hbel;obtain⟨wm,rfl⟩:∃ wm:World,wm=wr:=⟨_,rfl⟩;clear hlk
     go_loopw [34] (fun j wr=>j = .int .i64 ((0:Nat):Int)∧wr=wm) (fun j _=>1)
     case atStart=>exact⟨rfl,rfl⟩
     case round=>
      obtain⟨rfl,rfl⟩:=hrel
      go_wp2_with fail
      go_ret
      exact⟨by rw[qm3 hnx];rfl,Hbel.out⟩
    | some v=>
     rw[hgp] at hlk;simp only[Option.getD_some] at hlk;have hin:∃ ra rc,v = .slice ra 1 rc∧w.ownsRow 0 98 1 (.slice ra 1 rc) 1 [ptrV x]∧x∈L:=by
      unfold getP at hgp;obtain⟨e,h1,h2⟩:=zbb.1 hgp;have hem:=List.mem_of_find?_eq_some h1;have hex:e.1=x:=by have:=List.find?_some h1;simpa using this
      obtain⟨ra,rc,q1,q2⟩:=hMr e hem;rw[hex] at q2;exact⟨ra,rc,h2 ▸ q1,q2,List.mem_of_mem_drop (hMf ▸ zkb.2 ⟨e,hem,hex⟩)⟩
     obtain⟨ra,rc,rfl,hrow,hxL⟩:=hin;obtain⟨gb,o,rfl,hcell⟩:∃ gb o,ra=some ⟨gb,o,none⟩∧w.cell? ⟨gb,o,none⟩=some (ptrV x):=by
      obtain⟨_,_,he,-,h1,h2⟩:=qak hrow;cases he;cases ra with
      | none=>have:=(h2 rfl).1;omega
      | some ad=>obtain⟨g,rfl,-,-,hc⟩:=h1 ad rfl;exact⟨g,0,rfl,by have:=hc 0 _ rfl;simpa using this⟩
     have d4:=qac.below hbel.out _ _ hcell;have hgl:=zj wr _ d4;simp only at hgl;have HId:=hid (qda x x tx (tn x) wr ((H.out.2 _ hxL).keep hbel.out));rw[show(x==x)=true by simp] at HId;have HxL:=hid hxL;clear hg hxb hMw hrow hxL hgp
     go_wp2_with fail
     have Hbel:=hbel;obtain⟨wm,rfl⟩:∃ wm:World,wm=wr:=⟨_,rfl⟩;clear hlk
     go_loopw [34] (fun j wr=>j = .int .i64 ((0:Nat):Int)∧wr=wm) (fun j _=>1)
     case atStart=>exact⟨rfl,rfl⟩
     case round=>
      obtain⟨rfl,rfl⟩:=hrel
      go_wp2_with (go_at_call 99;refine HId.out.mono ?_;rintro e w2 ⟨rfl,hb2⟩;have Hb2:=hid hb2;clear hb2)
      go_ret
      exact⟨by rw[qf0 HxL.out];rfl,Hbel.out.trans (Hb2.out.mono Hbel.out.size)⟩
theorem qqg {P:Program} {a:Act} {o:Oper} {W W':World} {Kp:Value→World→Prop} {v u v':Value} (s x:Operand) (t:TypeId) (ho:o.op = .call { callee := .builtin .append,args:=#[s,x],argTypes:=#[t,t] }) (hs:a.eval s=v) (hx:a.eval x=u) (hr:(Builtin.append_ #[t,t] o.type #[v,u]).run P W = .ok v' W') (hk:Kp v' W'):MixR.Runs P Kp ((execOp a.eval o).run P W):=by
 unfold execOp;simp only[ho,resolve,invoke,builtin,Sem.run_bind,Sem.run_pure,Result.andThen_ok,List.map_toArray,List.map_cons,List.map_nil,hs,hx,hr];exact hk
def qmu (w:World) (b:Nat):Prop:=(∃ cs,Blk w b 230 cs)∨∃ es c,w.heap[b]?=some (.map es c)
theorem qah.one {S:Nat→Prop} {w w1 w2:World} {r:Nat} (h:qah S w w1) (k:qah (fun b=>b=r) w1 w2) (hr:r<w.heap.size→S r):qah S w w2:=
 ⟨k.os.trans h.os,k.tape.trans h.tape,k.output.trans h.output,⟨Nat.le_trans h.apart.size k.apart.size,fun b hb hn=>(k.apart.block b (by have:=h.apart.size;omega) (fun e=>hn (by rw[show b=r from e];exact hr (by rw[← show b=r from e];exact hb)))).trans (h.apart.block b hb hn)⟩⟩
theorem qeb.nil (w:World) (B:Nat) (hB:B≤w.heap.size):qeb B (w.alloc (.cells #[.pointer none,.pointer none,.pointer none,.map none] 230)) w.heap.size []:=
 ⟨hB,.map none,Blk.new _ _ _,.inl ⟨by simp,rfl⟩⟩
theorem qeb.keep {B:Nat} {w w':World} {sb:Nat} {L:List Nat} (h:qeb B w sb L) (hb:Below w.heap.size w w'):qeb B w' sb L:=by
 obtain⟨hg,m,h1,h2⟩:=h;refine⟨hg,m,h1.keep hb,?_⟩;rcases h2 with h2|⟨h2,r,M,q1,q2,q3,q4,q5⟩
 ·exact .inl h2
 ·exact .inr ⟨h2,r,M,q1,q2,q3.apart (S:=fun _=>False) (qag.keep hb) (fun h=>h),q4,fun e he=>by
   obtain⟨ra,rc,g1,g2⟩:=q5 e he;exact⟨ra,rc,g1,qab g2 (qag.keep (S:=fun _=>False) hb) (fun _ _ h=>h)⟩⟩
theorem qm0 {B sb x:Nat} {L:List Nat} {w:World} (hge:B≤sb) (hb:Blk w sb 230 [optP L 0,optP L 1,optP L 2,.map none]) (hl:L.length<3):qeb B (w.setCell ⟨sb,L.length,none⟩ (ptrV x)) sb (L++[x]):=by
 have h:=hb.set L.length (ptrV x);refine⟨hge,.map none,?_,.inl ⟨by simp;omega,rfl⟩⟩
 match L,hl with
 | [],_=>simpa[optP] using h
 | [a],_=>simpa[optP] using h
 | [a,b],_=>simpa[optP] using h
 | a::b::c::r,hl=>simp at hl;omega
theorem qv7 (B sb x:Nat) (L:List Nat) (w:World) (h:qeb B w sb L) (hB:B≤w.heap.size) (hx:∃ cs,Blk w x 140 cs) (hL:∀ y∈L,∃ cs,Blk w y 140 cs) (hn:x ∉ L):Calls prog 110 #[ptrV sb,ptrV x] w fun e w'=>e = .returned (.tuple #[])∧Hid (qeb B w' sb (L++[x])∧Below B w w'∧qah (qmu w) w w'):=by
 obtain⟨hge,m,hb,hm⟩:=h;have Hb:=hid hb;have HxB:=hid hx;have HLB:=hid hL;have Hn:=hid hn;clear hx hL hn;have Hm:=hid hm;have c0:=hb.cell 0;have c1:=hb.cell 1;have c2:=hb.cell 2;have c3:=hb.cell 3;have f0:=hb.soft 0;have f1:=hb.soft 1;have f2:=hb.soft 2;have f3:=hb.soft 3;simp only[zu,zt] at c0 c1 c2 c3;have hbl:=hb.lt;have i0:=fun(p0 p1 p2:Value) (w:World)=>ix3_0 p0 p1 p2 w;have i1:=fun(p0 p1 p2:Value) (w:World)=>ix3_1 p0 p1 p2 w;have i2:=fun(p0 p1 p2:Value) (w:World)=>ix3_2 p0 p1 p2 w;clear hb hm;go_enter func110,ntmps110
 go_wp2_with fail
 go_loopw [11] (fun j wr=>∃ k:Nat,k≤3∧k≤L.length∧j = .int .i64 k∧wr=w) (fun j _=>3 - (intOf j).toNat)
 case atStart=>exact⟨0,by omega,by omega,rfl,rfl⟩
 case round=>
  obtain⟨k,hk,hkl,rfl,rfl⟩:=hrel;have hk3:k=0∨k=1∨k=2∨k=3:=by omega
  rcases hk3 with rfl|rfl|rfl|rfl
  ·skip
   by_cases hlk:0<L.length
   ·have hp:optP L 0=ptrV L[0]:=by simp[optP,zr hlk]
    obtain⟨y,hy⟩:∃ y,y=L[0]:=⟨_,rfl⟩;rw[← hy] at hp;rw[hp]
    go_wp2_with fail
    go_roundw
    case rel=>exact⟨0+1,by omega,by omega,rfl,trivial⟩
    case measure=>simp[intOf]
   ·have hp:optP L 0 = .pointer none:=by simp[optP,List.getElem?_eq_none (Nat.le_of_not_lt hlk)]
    have hle:L.length=0:=by omega
    rw[hp];have hmn:m = .map none:=by
     rcases Hm.out with ⟨-,h⟩|⟨h,-⟩
     ·exact h
     ·omega
    subst hmn
    go_wp2_with fail
    (try simp only[Exit.inBlock,Exit.then])
    refine bodyPost_ret (results_none rfl _ _ _) rfl ?_;have hs:=qm0 (x:=x) hge Hb.out (by omega);rw[hle] at hs;exact⟨rfl,hid ⟨hs,Below.setCell (zp _ _) hge _,qah.one (qah.refl _ _) ⟨rfl,rfl,rfl,⟨by simp,fun b _ hn=>Below.heap_setCell _ _ _ _ (fun e=>hn e)⟩⟩ fun _ => .inl ⟨_,Hb.out⟩⟩⟩
  ·skip
   by_cases hlk:1<L.length
   ·have hp:optP L 1=ptrV L[1]:=by simp[optP,zr hlk]
    obtain⟨y,hy⟩:∃ y,y=L[1]:=⟨_,rfl⟩;rw[← hy] at hp;rw[hp]
    go_wp2_with fail
    go_roundw
    case rel=>exact⟨1+1,by omega,by omega,rfl,trivial⟩
    case measure=>simp[intOf]
   ·have hp:optP L 1 = .pointer none:=by simp[optP,List.getElem?_eq_none (Nat.le_of_not_lt hlk)]
    have hle:L.length=1:=by omega
    rw[hp];have hmn:m = .map none:=by
     rcases Hm.out with ⟨-,h⟩|⟨h,-⟩
     ·exact h
     ·omega
    subst hmn
    go_wp2_with fail
    (try simp only[Exit.inBlock,Exit.then])
    refine bodyPost_ret (results_none rfl _ _ _) rfl ?_;have hs:=qm0 (x:=x) hge Hb.out (by omega);rw[hle] at hs;exact⟨rfl,hid ⟨hs,Below.setCell (zp _ _) hge _,qah.one (qah.refl _ _) ⟨rfl,rfl,rfl,⟨by simp,fun b _ hn=>Below.heap_setCell _ _ _ _ (fun e=>hn e)⟩⟩ fun _ => .inl ⟨_,Hb.out⟩⟩⟩
  ·skip
   by_cases hlk:2<L.length
   ·have hp:optP L 2=ptrV L[2]:=by simp[optP,zr hlk]
    obtain⟨y,hy⟩:∃ y,y=L[2]:=⟨_,rfl⟩;rw[← hy] at hp;rw[hp]
    go_wp2_with fail
    go_roundw
    case rel=>exact⟨2+1,by omega,by omega,rfl,trivial⟩
    case measure=>simp[intOf]
   ·have hp:optP L 2 = .pointer none:=by simp[optP,List.getElem?_eq_none (Nat.le_of_not_lt hlk)]
    have hle:L.length=2:=by omega
    rw[hp];have hmn:m = .map none:=by
     rcases Hm.out with ⟨-,h⟩|⟨h,-⟩
     ·exact h
     ·omega
    subst hmn
    go_wp2_with fail
    (try simp only[Exit.inBlock,Exit.then])
    refine bodyPost_ret (results_none rfl _ _ _) rfl ?_;have hs:=qm0 (x:=x) hge Hb.out (by omega);rw[hle] at hs;exact⟨rfl,hid ⟨hs,Below.setCell (zp _ _) hge _,qah.one (qah.refl _ _) ⟨rfl,rfl,rfl,⟨by simp,fun b _ hn=>Below.heap_setCell _ _ _ _ (fun e=>hn e)⟩⟩ fun _ => .inl ⟨_,Hb.out⟩⟩⟩
  ·obtain⟨jn,hjn,hjn2⟩:=zbb.1 Tryz.szNd;rcases Hm.out with ⟨hl3,rfl⟩|⟨hl3,r,M,rfl,hrB,hM,hMf,hMr⟩
   ·have hle:L.length=3:=by omega
    have qT:∀ (w:World) (r:Option Nat),(binOp .eql 228 (.map r) (.map none)).run prog w = .ok (.bool r.isNone) w:=fun w r=>run_eql_map_nil w _ _ _ r underlying228;have hmm:=@run_makeMap prog;obtain⟨W8,hW8⟩:∃ W8,W8=(wr.setCell ⟨sb,3,none⟩ (.map (some wr.heap.size))).alloc (.map #[] 0):=⟨_,rfl⟩;have hz0:(wr.setCell ⟨sb,3,none⟩ (.map (some wr.heap.size))).heap.size=wr.heap.size:=by simp[World.setCell]
    obtain⟨M,hM0⟩:∃ M:List (Nat×Value),M=[]:=⟨_,rfl⟩;have HM:Hid (qgx W8 wr.heap.size M):=hid (by
     have h:=qgx.new (wr.setCell ⟨sb,3,none⟩ (.map (some wr.heap.size))) 0;rw[hz0] at h;rw[hW8,hM0];exact h)
    have hK:∀ {b:Nat} {cs:List Value},Blk wr b 140 cs→Blk W8 b 140 cs:=fun hb=>by
     rw[hW8];exact(hb.other (by intro e;exact hb.tne Hb.out (by decide) e) _).alloc _
    have Hb8:Hid (Blk W8 sb 230 [optP L 0,optP L 1,optP L 2,.map (some wr.heap.size)]):=hid (by rw[hW8];exact(Hb.out.set 3 _).alloc _);have HLB8:Hid (∀ y∈L,∃ cs,Blk W8 y 140 cs):=hid fun y hy=>by obtain⟨cs,hc⟩:=HLB.out y hy;exact⟨cs,hK hc⟩
    obtain⟨cx,hxb⟩:=HxB.out;have Hxb:=hid (hK hxb);have HB08:Hid (Below B wr W8):=hid (by rw[hW8];exact(Below.setCell (zp _ _) hge _).alloc (by rw[hz0];exact hB) _);have hlk:=qex (P:=prog) W8 underlying228 underlying98 hjn (by rw[hjn2];decide) Tryz.zRowN HM.out x Hxb.out (fun e he=>by rw[hM0] at he;cases he);have Hgp:Hid (getP M x=none):=hid (by rw[hM0];rfl);rw[Hgp.out] at hlk;simp only[Option.getD_none] at hlk;have hrB:B≤wr.heap.size:=hB;have HT08:Hid (qah (qmu wr) wr W8):=hid (by
     rw[hW8];have h1:qah (qmu wr) wr (wr.setCell ⟨sb,3,none⟩ (.map (some wr.heap.size))):=qah.one (qah.refl _ _) ⟨rfl,rfl,rfl,⟨by simp,fun b _ hn=>Below.heap_setCell _ _ _ _ (fun e=>hn e)⟩⟩ fun _ => .inl ⟨_,Hb.out⟩;exact h1.trans (qah.keep ((zp _ _).alloc (zl _) _)))
    have hz8:W8.heap.size=wr.heap.size+1:=by rw[hW8];simp[World.setCell]
    have hB8:B≤W8.heap.size:=by omega
    have c38:W8.cell? ⟨sb,3,none⟩=some (.map (some wr.heap.size)):=Hb8.out.cell 3;have hMf:M.map (·.1)=L.drop 3:=by rw[hM0,List.drop_eq_nil_of_le (by omega)];rfl
    have hMr:∀ e∈M,∃ ra rc,e.2 = .slice ra 1 rc∧W8.ownsRow 0 98 1 (.slice ra 1 rc) 1 [ptrV e.1]:=fun e he=>by rw[hM0] at he;cases he
    rw[hW8] at hlk;clear hxb hK
    go_wp2_with fail
    rw[← hW8];clear hW8 hlk hM0;have hlk:True:=trivial;obtain⟨r,hr0⟩:∃ r,r=wr.heap.size:=⟨_,rfl⟩;rw[← hr0] at HM Hb8 hrB c38 ⊢;have HrS:Hid (r<wr.heap.size→qmu wr r):=hid fun h=>by rw[hr0] at h;exact absurd h (Nat.lt_irrefl _)
    have hbl1:sb<W8.heap.size+1:=by omega
    clear hr0;refine Mix.wp_region [0,1,2,3,4,5,6] [(7,false),(8,false)] [9] (fun _=>default) (by kernel_rfl) (by kernel_rfl) (by decide) ?_
    iterate 7 (first|(refine pre_yes rfl rfl ?_;apply Exists.intro;refine⟨fun W1 hW1 => ?_,?_⟩;(focus (have hc1:=(qal hW1).1;(try simp only[zd,qaa] at hc1);have hk1:=qac.below hW1;go_simp;first|exact rfl|fail));simp only[Act.put,zk,zh,zi,ze,zm,zn])|(refine pre_no rfl rfl ?_;simp only[Act.put,zk,zh,zi,ze,zm,zn]))
    refine pre_end (fl_op (fl_op fl_nil)) (fun W2 hW2 => ?_);have hz2:=zq hW2;(try simp only[zd,qaa] at hz2);refine mid_call hW2 rfl rfl (fun Kp hKp => ?_);go_simp;refine hKp _ _ ((zp _ _).alloc (zl _) _) fun W4 hW4 => ?_;simp only[Act.put,zk,zh,zi,ze,zm,zn];have hz4:=zq hW4;(try simp only[zd,qaa] at hz4);have hB4:=qa4 hW4 (qbl ((zp _ _).alloc (zl _) _) hW2 (by first|omega|(simp;done)|(simp;omega)));have hnb:=(Blk.new W2 98 [ptrV x]).keep hW4;refine mid_call hB4 rfl rfl (fun Kp2 hKp2 => ?_);obtain⟨ii,q1,q2,q3,q4⟩:=info_parts Tryz.infoPN;obtain⟨v5,W5,hr,hrow,hgr,hloc⟩:=qo6 (P:=prog) W4 278 278 98 ii _ 1 8 underlying278 q1 q2 q3 q4 rfl (by decide) (.slice none 0 0) 0 [] (zdb _ _ _ _) ⟨W2.heap.size,0,none⟩ 1 1 [ptrV x] rfl (fun j u hu=>by
     match j,hu with
     | 0,hu=>rw[Addr.add_lit,hnb.cell];exact hu
     | j+1,hu=>simp at hu) (by simp[Value.oneCell']) (by unfold maxLen;omega) (by omega) (by omega)
    have hB45:Below W4.heap.size W4 W5:=(zp _ _).grown hgr (zl _) (fun k h=>by cases h);refine qqg (.tmp 44) (.tmp 46) 278 rfl rfl rfl hr (hKp2 _ _ hB45 fun W6 hW6 => ?_);simp only[Act.put,zk,zh,zi,ze,zm,zn];have hz6:=zq hW6;(try simp only[zd,qaa] at hz6);have hB6:Below W8.heap.size W8 W6:=((zp _ _).drew).trans ((hB4.mono (by simp)).trans ((hB45.mono (by omega)).trans (hW6.mono (by have:=hB45.size;omega))));have HB6:=hid hB6;obtain⟨ra5,rc5,rfl,-⟩:=qak hrow;have HRow:Hid (W6.ownsRow 0 98 1 (.slice ra5 1 rc5) 1 [ptrV x]):=hid (by have:=qab hrow (qag.keep (S:=fun _=>False) hW6) (fun _ _ h=>h);simpa using this);have hgs6:∀ e∈M,∃ cg tg,W6.heap[e.1]?=some (.cells cg tg (0,0)):=fun e he=>by
     have h1:e.1∈L:=List.mem_of_mem_drop (hMf ▸ zkb.2 ⟨e,he,rfl⟩);obtain⟨cs,hcs⟩:=HLB8.out _ h1;exact⟨_,_,hcs.keep HB6.out⟩
    clear hW2 hW4 hB4 hnb hr hrow hgr hloc hB45 hW6 hB6 hKp hKp2 hlk;refine mid_nil (qco rfl ?_);refine qep W6 rfl (.tmp 42) (.tmp 43) (.tmp 47) rfl underlying228 underlying98 hjn (by rw[hjn2];decide) (r:=r) (L:=M) rfl (HM.out.apart (S:=fun _=>False) (qag.keep HB6.out) fun h=>h) x rfl _ rfl Hgp.out (Hxb.out.keep HB6.out) hgs6 fun w' hP hT => ?_
    go_wp2_with fail
    go_end0
    have hrm:∀ {b:Nat} {T:TypeId} {cs:List Value},Blk W6 b T cs→¬ b=r:=fun hb e=>by
     subst e;obtain⟨es,c,h1,-⟩:=HM.out;have h2:=HB6.out.block _ (zab.1 h1).1;unfold Blk at hb;rw[h2,h1] at hb;cases hb
    refine⟨rfl,hid ⟨⟨hge,.map (some r),?_,.inr ⟨by simp;omega,r,_,rfl,hrB,hP,?_,fun e he => ?_⟩⟩,(HB08.out.trans (HB6.out.mono hB8)).trans (hT.below (by have:=HB6.out.size;omega) fun b hb=>by rw[hb];exact hrB),(HT08.out.trans (qah.keep HB6.out)).one hT HrS.out⟩⟩
    ·have h1:=(Hb8.out.keep HB6.out).apart hT.apart (hrm (Hb8.out.keep HB6.out));have e:∀ i,i<3→optP (L++[x]) i=optP L i:=fun i hi=>by unfold optP;rw[List.getElem?_append_left (by omega)]
     rw[e 0 (by omega),e 1 (by omega),e 2 (by omega)];exact h1
    ·rw[List.map_append,hMf,List.drop_append_of_le_length (by omega)];rfl
    ·rcases zib.1 he with he|he
     ·obtain⟨ra,rc,g1,g2⟩:=hMr e he;have g3:=qab g2 (qag.keep (S:=fun _=>False) HB6.out) (fun _ _ h=>h);exact⟨ra,rc,g1,qab g3 hT.apart fun g hg=>hrm (qaf g3 hg).choose_spec⟩
     ·rw[zfb.1 he];exact⟨ra5,rc5,rfl,qab HRow.out hT.apart fun g hg=>hrm (qaf HRow.out hg).choose_spec⟩
   ·have hgs:∀ e∈M,∃ cg tg,wr.heap[e.1]?=some (.cells cg tg (0,0)):=fun e he=>by
     have h1:e.1∈L:=List.mem_of_mem_drop (hMf ▸ zkb.2 ⟨e,he,rfl⟩);obtain⟨cs,hcs⟩:=HLB.out _ h1;exact⟨_,_,hcs⟩
    have hgp:getP M x=none:=by
     unfold getP;rw[Option.map_eq_none_iff,List.find?_eq_none];intro e he h;have h1:e.1∈L:=List.mem_of_mem_drop (hMf ▸ zkb.2 ⟨e,he,rfl⟩);have h2:e.1=x:=by simpa using h
     exact Hn.out (h2 ▸ h1)
    obtain⟨cx,hxb⟩:=HxB.out;have hlk:=qex (P:=prog) wr underlying228 underlying98 hjn (by rw[hjn2];decide) Tryz.zRowN hM x hxb hgs;rw[hgp] at hlk;simp only[Option.getD_none] at hlk;have HM:=hid hM;have Hgs:=hid hgs;have Hgp:=hid hgp;have Hxb:=hid hxb;have hrl:=hM.lt;have qT:∀ (w:World) (r:Option Nat),(binOp .eql 228 (.map r) (.map none)).run prog w = .ok (.bool r.isNone) w:=fun w r=>run_eql_map_nil w _ _ _ r underlying228;clear hM hgs hgp hxb
    go_wp2_with fail
    have hbl1:sb<wr.heap.size+1:=by omega
    have hB8:B≤wr.heap.size:=hB;have HB08:Hid (Below B wr wr):=hid (zp _ _);have HT08:Hid (qah (qmu wr) wr wr):=hid (qah.refl _ _);have HrS:Hid (r<wr.heap.size→qmu wr r):=hid fun _ => .inr (by obtain⟨es,c,h1,-⟩:=HM.out;exact⟨es,c,h1⟩);have Hb8:=Hb;have HLB8:=HLB;obtain⟨W8,rfl⟩:∃ W8:World,W8=wr:=⟨_,rfl⟩;refine Mix.wp_region [0,1,2,3,4,5,6] [(7,false),(8,false)] [9] (fun _=>default) (by kernel_rfl) (by kernel_rfl) (by decide) ?_
    iterate 7 (first|(refine pre_yes rfl rfl ?_;apply Exists.intro;refine⟨fun W1 hW1 => ?_,?_⟩;(focus (have hc1:=(qal hW1).1;(try simp only[zd,qaa] at hc1);have hk1:=qac.below hW1;go_simp;first|exact rfl|fail));simp only[Act.put,zk,zh,zi,ze,zm,zn])|(refine pre_no rfl rfl ?_;simp only[Act.put,zk,zh,zi,ze,zm,zn]))
    refine pre_end (fl_op (fl_op fl_nil)) (fun W2 hW2 => ?_);have hz2:=zq hW2;(try simp only[zd,qaa] at hz2);refine mid_call hW2 rfl rfl (fun Kp hKp => ?_);go_simp;refine hKp _ _ ((zp _ _).alloc (zl _) _) fun W4 hW4 => ?_;simp only[Act.put,zk,zh,zi,ze,zm,zn];have hz4:=zq hW4;(try simp only[zd,qaa] at hz4);have hB4:=qa4 hW4 (qbl ((zp _ _).alloc (zl _) _) hW2 (by first|omega|(simp;done)|(simp;omega)));have hnb:=(Blk.new W2 98 [ptrV x]).keep hW4;refine mid_call hB4 rfl rfl (fun Kp2 hKp2 => ?_);obtain⟨ii,q1,q2,q3,q4⟩:=info_parts Tryz.infoPN;obtain⟨v5,W5,hr,hrow,hgr,hloc⟩:=qo6 (P:=prog) W4 278 278 98 ii _ 1 8 underlying278 q1 q2 q3 q4 rfl (by decide) (.slice none 0 0) 0 [] (zdb _ _ _ _) ⟨W2.heap.size,0,none⟩ 1 1 [ptrV x] rfl (fun j u hu=>by
     match j,hu with
     | 0,hu=>rw[Addr.add_lit,hnb.cell];exact hu
     | j+1,hu=>simp at hu) (by simp[Value.oneCell']) (by unfold maxLen;omega) (by omega) (by omega)
    have hB45:Below W4.heap.size W4 W5:=(zp _ _).grown hgr (zl _) (fun k h=>by cases h);refine qqg (.tmp 44) (.tmp 46) 278 rfl rfl rfl hr (hKp2 _ _ hB45 fun W6 hW6 => ?_);simp only[Act.put,zk,zh,zi,ze,zm,zn];have hz6:=zq hW6;(try simp only[zd,qaa] at hz6);have hB6:Below W8.heap.size W8 W6:=((zp _ _).drew).trans ((hB4.mono (by simp)).trans ((hB45.mono (by omega)).trans (hW6.mono (by have:=hB45.size;omega))));have HB6:=hid hB6;obtain⟨ra5,rc5,rfl,-⟩:=qak hrow;have HRow:Hid (W6.ownsRow 0 98 1 (.slice ra5 1 rc5) 1 [ptrV x]):=hid (by have:=qab hrow (qag.keep (S:=fun _=>False) hW6) (fun _ _ h=>h);simpa using this);have hgs6:∀ e∈M,∃ cg tg,W6.heap[e.1]?=some (.cells cg tg (0,0)):=fun e he=>by
     have h1:e.1∈L:=List.mem_of_mem_drop (hMf ▸ zkb.2 ⟨e,he,rfl⟩);obtain⟨cs,hcs⟩:=HLB8.out _ h1;exact⟨_,_,hcs.keep HB6.out⟩
    clear hW2 hW4 hB4 hnb hr hrow hgr hloc hB45 hW6 hB6 hKp hKp2 hlk;refine mid_nil (qco rfl ?_);refine qep W6 rfl (.tmp 42) (.tmp 43) (.tmp 47) rfl underlying228 underlying98 hjn (by rw[hjn2];decide) (r:=r) (L:=M) rfl (HM.out.apart (S:=fun _=>False) (qag.keep HB6.out) fun h=>h) x rfl _ rfl Hgp.out (Hxb.out.keep HB6.out) hgs6 fun w' hP hT => ?_
    go_wp2_with fail
    go_end0
    have hrm:∀ {b:Nat} {T:TypeId} {cs:List Value},Blk W6 b T cs→¬ b=r:=fun hb e=>by
     subst e;obtain⟨es,c,h1,-⟩:=HM.out;have h2:=HB6.out.block _ (zab.1 h1).1;unfold Blk at hb;rw[h2,h1] at hb;cases hb
    refine⟨rfl,hid ⟨⟨hge,.map (some r),?_,.inr ⟨by simp;omega,r,_,rfl,hrB,hP,?_,fun e he => ?_⟩⟩,(HB08.out.trans (HB6.out.mono hB8)).trans (hT.below (by have:=HB6.out.size;omega) fun b hb=>by rw[hb];exact hrB),(HT08.out.trans (qah.keep HB6.out)).one hT HrS.out⟩⟩
    ·have h1:=(Hb8.out.keep HB6.out).apart hT.apart (hrm (Hb8.out.keep HB6.out));have e:∀ i,i<3→optP (L++[x]) i=optP L i:=fun i hi=>by unfold optP;rw[List.getElem?_append_left (by omega)]
     rw[e 0 (by omega),e 1 (by omega),e 2 (by omega)];exact h1
    ·rw[List.map_append,hMf,List.drop_append_of_le_length (by omega)];rfl
    ·rcases zib.1 he with he|he
     ·obtain⟨ra,rc,g1,g2⟩:=hMr e he;have g3:=qab g2 (qag.keep (S:=fun _=>False) HB6.out) (fun _ _ h=>h);exact⟨ra,rc,g1,qab g3 hT.apart fun g hg=>hrm (qaf g3 hg).choose_spec⟩
     ·rw[zfb.1 he];exact⟨ra5,rc5,rfl,qab HRow.out hT.apart fun g hg=>hrm (qaf HRow.out hg).choose_spec⟩
theorem qri (v:Value) (a:Option Addr) (n c:Nat) (hv:v = .slice a n c) (hn:n≤1) (w:World):Calls prog 116 #[v] w fun e w'=>e = .returned v∧w'=w:=by
 subst hv;have hn':(n:Int)≤1:=by omega
 go_enter func116,ntmps116
 go_wp2_with fail
 go_ret
 exact⟨rfl,rfl⟩
theorem qpd (W:Wd) {l:List En} (h:l.length≤1):qbc W l=l:=by
 match l,h with
 | [],_=>rfl
 | [e],_=>simp[qbc,conS]
theorem qou {F:Fix} {P:Nat→Nat} {w0:World} {s:St} {w:World} (A:Amb F P w0 s w) {sp:Spot} {v:Value} (hd:DenW F s w sp v) (hs:SpO F.W P sp):
  ∃ T x,(∀ w',Below w.heap.size w w'→Calls prog 108 #[v] w' (fun e w2=>e = .returned (.tuple #[.iface T (.pointer (some x)),.bool (drf F.W sp).2])∧w2=w'))∧DenW F s w (drf F.W sp).1 (.iface T (.pointer (some x)))∧SpO F.W P (drf F.W sp).1∧op P (drf F.W sp).1.of≤op P sp.of:=by
 obtain⟨u,hu⟩:=A.plainv hd hs;obtain⟨sp1,sp2⟩:=hs.toPlain A.wd;have hk1:(pl F.W sp).of.kind=(plain F.W sp).of.kind:=qfn _;unfold drf;split
 next hk=>
  obtain⟨b,z,e,h1,h2⟩:=Den.ptr hu.den (by rw[hk1];exact hk);have e1:pl F.W sp=plain F.W sp:=qgb (by omega);rw[e1] at h2;have hse:=sp1.elem (.inl hk);have hz:=A.plainv h2 hse.1;have hty:∃ T x,z = .iface T (.pointer (some x)):=by
   obtain⟨uz,hz⟩:=hz;obtain⟨⟨T,x,e3,-⟩,h3⟩:=hz.plain;rcases h3 with h3|⟨al,h3,-⟩
   ·exact⟨T,x,by rw[h3,e3]⟩
   ·exact⟨_,_,h3⟩
  obtain⟨T,x,rfl⟩:=hty;exact⟨T,x,fun w' hb=>qn2 v b T (some x) w' (by rw[← e];exact hu.plain.keep hb) (qac.below hb _ _ (qax h1)),h2,hse.1,by show op P (qaq _).of≤_;omega⟩
 next hk=>
  obtain⟨b,e,-⟩:=hu.ty A;have hT:kT (pl F.W sp).of.kind≠145:=fun e2=>by
   have:=qki (b:=2) hu.spo.kinds (by omega) (e2.trans rfl);rw[hk1] at this;exact hk this
  have hp:=hu.plain;rw[e] at hp;have hty:∃ T x,v = .iface T (.pointer (some x)):=by
   obtain⟨-,h3|⟨al,h3,-⟩⟩:=hp
   ·exact⟨_,_,h3⟩
   ·exact⟨_,_,h3⟩
  have hcall:=fun(w':World) (hb:Below w.heap.size w w')=>qqu v (kT (pl F.W sp).of.kind) ⟨b,0,none⟩ w' hT (hp.keep hb);obtain⟨T,x,rfl⟩:=hty;exact⟨T,x,hcall,hd,hs,zl _⟩
theorem PlV.key {F:Fix} {P:Nat→Nat} {w0:World} {s:St} {w:World} (A:Amb F P w0 s w) {sp:Spot} {v u:Value} (h:PlV F P s w sp v u):∃ k,v=tyV k∧TyIn w k:=by
 obtain⟨b,e,hi⟩:=h.ty A;obtain⟨-,h3|⟨al,h3,-⟩⟩:=h.plain
 ·exact⟨_,h3.trans e,hi⟩
 ·obtain⟨a,b,c,hb⟩:=h.alB al h3;exact⟨(103,al),h3,by unfold KeyT;simp,_,_,hb⟩
def nbOf (F:Fix) (d:Nat):Nat:=match F.tb d with
 | some (.iface _ (.pointer (some x)))=>x.block
 | _=>0
theorem qis {F:Fix} {s:St} {w:World} {d b tn:Nat} {U:TypeId} {ux:Addr} {ra:Option Addr} {rc:Nat} {fs:List Nat} (h:qbz F s w d b tn U ux ra rc fs):nbOf F d=b:=by
 unfold nbOf;rw[h.tb]
def NdS (W:Wd) (S:List Nat):Prop:=S.Nodup∧∀ d∈S,d<W.length∧(dc W d).alias=false
theorem qp9 {F:Fix} {P:Nat→Nat} {w0:World} {s:St} {w:World} (A:Amb F P w0 s w) {d e:Nat} (hd:d<F.W.length∧(dc F.W d).alias=false) (he:e<F.W.length∧(dc F.W e).alias=false):∃ tx ty,qfw w (nbOf F d) (nbOf F e) tx ty∧(nbOf F d=nbOf F e↔d=e):=by
 obtain⟨b1,tn1,U1,ux1,ra1,rc1,fs1,q1⟩:=(A.bt.set d hd.1).nd hd.2;obtain⟨b2,tn2,U2,ux2,ra2,rc2,fs2,q2⟩:=(A.bt.set e he.1).nd he.2;rw[qis q1,qis q2];have hbd:b1=b2→d=e:=fun h=>by
  exact A.bt.inj d e _ q1.tb (by rw[h];exact q2.tb)
 refine⟨tn1,tn2,⟨⟨_,q1.blk⟩,⟨_,q2.blk⟩,⟨_,q1.tnB⟩,⟨_,q2.tnB⟩,⟨fun h => ?_,fun h => ?_⟩⟩,hbd,fun h => ?_⟩
 ·have k1:=q1.tnB.cell 3;have k2:=q2.tnB.cell 3;rw[h,k2] at k1;simp only[zu,zt] at k1;cases k1;rfl
 ·have k1:=q1.blk.cell 1;have k2:=q2.blk.cell 1;rw[h,k2] at k1;simp only[zu,zt] at k1;cases k1;rfl
 ·subst h;have t1:=q1.tb;rw[q2.tb] at t1;cases t1;rfl
theorem qw7 {F:Fix} {P:Nat→Nat} {w0:World} {s:St} {w:World} (A:Amb F P w0 s w) {S:List Nat} (hS:NdS F.W S) {d:Nat} (hd:d<F.W.length∧(dc F.W d).alias=false):nbOf F d∈S.map (nbOf F)↔d∈S:=by
 constructor
 ·intro h;obtain⟨e,he,h1⟩:=zkb.1 h;obtain⟨-,-,-,h2⟩:=qp9 A (hS.2 e he) hd;rw[← h2.1 h1];exact he
 ·intro h;exact zkb.2 ⟨d,h,rfl⟩
structure qnz (F:Fix) (P:Nat→Nat) (s:St) (wB w:World) (g:Nat) (es:List En):Prop where
 blk:∃ cs,Blk w g 225 cs
 at_:∀ i (hi:i<es.length),EnAt F P s wB w g (i * 4) es[i]
theorem qnz.apart {F:Fix} {P:Nat→Nat} {s:St} {wB w w':World} {g:Nat} {es:List En} {S:Nat→Prop} (h:qnz F P s wB w g es) (ha:qag S w w') (hg:¬ S g) (hS:∀ b cs,Blk w b 3 cs→¬ S b):qnz F P s wB w' g es:=by
 obtain⟨cs,hc⟩:=h.blk;exact⟨⟨cs,hc.apart ha hg⟩,fun i hi=>(h.at_ i hi).apart ha hg hS⟩
structure NxAt (F:Fix) (P:Nat→Nat) (s:St) (wB w:World) (a:Option Addr) (c:Nat) (es:List En) (cells:List Value):Prop where
 own:w.ownsRow 0 225 4 (.slice a es.length c) es.length cells
 at_:∀ i (hi:i<es.length),∃ g,a=some ⟨g,0,none⟩∧EnAt F P s wB w g (i * 4) es[i]
theorem NxAt.nil (F:Fix) (P:Nat→Nat) (s:St) (wB w:World):NxAt F P s wB w none 0 [] []:=⟨zdb _ _ _ _,fun i hi=>by simp at hi⟩
theorem NxAt.apart {F:Fix} {P:Nat→Nat} {s:St} {wB w w':World} {a:Option Addr} {c:Nat} {es:List En} {cells:List Value} {S:Nat→Prop} (h:NxAt F P s wB w a c es cells) (ha:qag S w w') (hS:∀ b T cs,Blk w b T cs→T=3∨T=225→¬ S b):NxAt F P s wB w' a c es cells:=by
 refine⟨qab h.own ha fun g hg => ?_,fun i hi => ?_⟩
 ·obtain⟨cs,hc⟩:=qaf h.own hg;exact hS g _ cs hc (.inr rfl)
 ·obtain⟨g,e,q⟩:=h.at_ i hi;refine⟨g,e,q.apart ha ?_ fun b cs hb=>hS b _ cs hb (.inl rfl)⟩;subst e;obtain⟨cs,hc⟩:=qaf h.own (g:=g) rfl;exact hS g _ cs hc (.inr rfl)
theorem NxAt.keep {F:Fix} {P:Nat→Nat} {s:St} {wB w w':World} {a:Option Addr} {c:Nat} {es:List En} {cells:List Value} (h:NxAt F P s wB w a c es cells) (hb:Below w.heap.size w w'):NxAt F P s wB w' a c es cells:=
 h.apart (S:=fun _=>False) (qag.keep hb) (fun _ _ _ _ _ h=>h)
theorem qnz.keep {F:Fix} {P:Nat→Nat} {s:St} {wB w w':World} {g:Nat} {es:List En} (h:qnz F P s wB w g es) (hb:Below w.heap.size w w'):qnz F P s wB w' g es:=
 h.apart (S:=fun _=>False) (qag.keep hb) (fun h=>h) (fun _ _ _ h=>h)
def plD (W:Wd) (d:Nat):Spot:=pl W (ndS d)
theorem pl_nd {W:Wd} {s:Spot} (hk:s.of.kind=1):pl W s=plD W s.of.num.toNat:=by
 unfold plD pl plain qfy;have e1:(ndS s.of.num.toNat).of.kind=1:=rfl;have e2:(ndS s.of.num.toNat).of.num.toNat=s.of.num.toNat:=Int.toNat_natCast _;rw[e1,e2,hk];split
 ·rfl
 ·rw[qly hk,qly e1,e2]
def Emb (W:Wd) (e:En):Prop:=∃ d,d<W.length∧e.to=plD W d
theorem qvp {W:Wd} {P:Nat→Nat} (hW:WdO W P) {s:Spot} (hs:SpO W P s) (h:(plain W s).of.kind=2):(under W s).of.kind=2:=by
 rw[← qfm hW.by_ hs.numOk,qdu (by omega)];exact h
theorem sub_emb {W:Wd} {P:Nat→Nat} (hW:WdO W P) {e:En} {u:Spot} (hu:SpO W P u) (hk:u.of.kind=4) {i:Nat} (hi:i<u.of.fields.length) (he:(u.of.fields.getD i fd0).embedded=true):Emb W (subE W e u i):=by
 have hok:=hu.embOk hi he;obtain⟨hf,-⟩:=hu.field hk hi;obtain⟨d,val,hfo⟩:=hu.fo;have hg:u.of.fields.getD i fd0=u.of.fields[i]:=by simp[hi]
 have hnm:=((hfo.k4 hk).2.2.2.2.get i hi).2.1 (by rw[← hg];exact he);have e1:(qao u i).of=u.of.fields[i].of:=by simp only[qao,hg]
 unfold subE Emb;unfold qdo at hok;simp only at hok;rcases hnm.2 with hk1|⟨hk2,hl,hk1⟩
 ·have hk1':(qao u i).of.kind=1:=by rw[e1];exact hk1
  rw[if_neg (by omega)] at hok;have h2:¬ (plain W (qao u i)).of.kind=2:=fun h=>hok.1 (qvp hW hf h);refine⟨(qao u i).of.num.toNat,by have:=hf.numOk hk1';omega,?_⟩;simp only[drf,if_neg h2];exact pl_nd hk1'
 ·have hk2':(qao u i).of.kind=2:=by rw[e1];exact hk2
  have hp:plain W (qao u i)=qao u i:=qbg fun e=>by omega
  have hk1':(qaq (qao u i)).of.kind=1:=by
   simp only[qaq,e1];exact hk1
  refine⟨(qaq (qao u i)).of.num.toNat,by have:=(hf.elem (.inl hk2')).1.numOk hk1';omega,?_⟩;simp only[drf,hp,if_pos hk2'];exact pl_nd hk1'
theorem qwr {W:Wd} {acc:List En} {e x:En} (h:x∈conS W acc e):(∃ y∈acc,y.to=x.to∧y.ix=x.ix)∨x=e:=by
 unfold conS at h;split at h
 next i _=>
  obtain⟨j,hj,rfl⟩:=List.mem_iff_getElem.1 h;have hj':j<acc.length:=by simpa using hj
  rw[List.getElem_modify];left;refine⟨acc[j],z8 hj',?_⟩;split <;> exact⟨rfl,rfl⟩
 ·rcases zib.1 h with h|h
  ·exact .inl ⟨x,h,rfl,rfl⟩
  ·exact .inr (zfb.1 h)
theorem qot {W:Wd} {l:List En} {x:En} (h:x∈qbc W l):∃ y∈l,y.to=x.to∧y.ix=x.ix:=by
 have key:∀ (l acc:List En),x∈l.foldl (conS W) acc→(∃ y∈acc,y.to=x.to∧y.ix=x.ix)∨∃ y∈l,y.to=x.to∧y.ix=x.ix:=by
  intro l
  induction l with
  | nil=>intro acc h;exact .inl ⟨x,h,rfl,rfl⟩
  | cons e r ih=>
   intro acc h;rcases ih _ h with ⟨y,h1,h2⟩|⟨y,h1,h2⟩
   ·rcases qwr h1 with ⟨z,q1,q2,q3⟩|q
    ·exact .inl ⟨z,q1,q2.trans h2.1,q3.trans h2.2⟩
    ·exact .inr ⟨e,z6 ..,by rw[← q];exact h2⟩
   ·exact .inr ⟨y,zy _ h1,h2⟩
 rcases key l [] h with ⟨y,h1,-⟩|h
 ·cases h1
 ·exact h
theorem conS_ne {W:Wd} {acc:List En} {e:En} (h:acc.Pairwise fun a b=>can W a.to≠can W b.to):(conS W acc e).Pairwise fun a b=>can W a.to≠can W b.to:=by
 unfold conS;split
 next i _=>
  rw[List.pairwise_iff_getElem] at h ⊢;intro a b ha hb hab;have ha':a<acc.length:=by simpa using ha
  have hb':b<acc.length:=by simpa using hb
  have:=h a b ha' hb' hab;rw[List.getElem_modify,List.getElem_modify];split <;> split <;> exact this
 next hn=>
  rw[List.pairwise_append];refine⟨h,List.pairwise_singleton _ _,fun a ha b hb => ?_⟩;rw[zfb] at hb;subst hb;rw[List.findIdx?_eq_none_iff] at hn;simpa using hn a ha
theorem qwt {W:Wd} (l:List En):(qbc W l).Pairwise fun a b=>can W a.to≠can W b.to:=by
 have key:∀ (l acc:List En),acc.Pairwise (fun a b=>can W a.to≠can W b.to)→(l.foldl (conS W) acc).Pairwise fun a b=>can W a.to≠can W b.to:=by
  intro l
  induction l with
  | nil=>intro acc h;exact h
  | cons e r ih=>intro acc h;exact ih _ (conS_ne h)
 exact key l [] List.Pairwise.nil
theorem qvb {W:Wd} {l:List En} (h:∀ e∈l,Emb W e):(qbc W l).length≤W.length:=by
 have h1:∀ e:En,∃ d:Nat,e∈qbc W l→d<W.length∧e.to=plD W d:=fun e=>by
  by_cases he:e∈qbc W l
  ·obtain⟨y,hy,e1,-⟩:=qot he;obtain⟨d,q1,q2⟩:=h y hy;exact⟨d,fun _=>⟨q1,e1 ▸ q2⟩⟩
  ·exact⟨0,fun h=>absurd h he⟩
 obtain⟨f,hf⟩:=Classical.skolem.1 h1;have:=qfk W.length ((qbc W l).map f) (by
  unfold List.Nodup;rw[List.pairwise_map];refine List.Pairwise.imp_of_mem (fun {a b} ha hb hab e=>hab ?_) (qwt l);rw[(hf a ha).2,(hf b hb).2,e]) fun x hx=>by
   obtain⟨e,he,rfl⟩:=zkb.1 hx;exact(hf e he).1
 simpa using this
theorem qkc {W:Wd} {l:List En} (Q:En→Prop) (hQ:∀ a b:En,a.to=b.to→a.ix=b.ix→Q a→Q b) (h:∀ e∈l,Q e):∀ e∈qbc W l,Q e:=fun e he=>by
 obtain⟨y,hy,e1,e2⟩:=qot he;exact hQ y e e1 e2 (h y hy)
def mxE (P:Nat→Nat):List En→Nat
 | []=>0
 | e::r=>max (op P e.to.of) (mxE P r)
theorem qpu {P:Nat→Nat}:∀ {l:List En} {e:En},e∈l→op P e.to.of≤mxE P l
 | x::r,e,h=>by
  simp only[mxE];rcases zgb.1 h with rfl|h
  ·omega
  ·have:=qpu (P:=P) h;omega
theorem qw3 {P:Nat→Nat} {n:Nat}:∀ {l:List En},(∀ e∈l,op P e.to.of<n)→0<n→mxE P l<n
 | [],_,h=>h
 | e::r,h,h0=>by
  simp only[mxE];have h1:=h e (z6 ..);have h2:=qw3 (l:=r) (fun x hx=>h x (zy _ hx)) h0;omega
theorem qw6 {P:Nat→Nat} {n:Nat}:∀ {l:List En},(∀ e∈l,op P e.to.of≤n)→mxE P l≤n
 | [],_=>Nat.zero_le _
 | e::r,h=>by
  simp only[mxE];have h1:=h e (z6 ..);have h2:=qw6 (l:=r) (fun x hx=>h x (zy _ hx));omega
def qsg (W:Wd) (P:Nat→Nat) (cur:List En) (S:List Nat):Nat:=(W.length - S.length) * 2003+mxE P cur
structure NxOk (W:Wd) (P:Nat→Nat) (cur:List En) (S:List Nat) (nx:List En) (S':List Nat) (lv:Nat):Prop where
 nds:NdS W S'
 len:S.length≤S'.length
 emb:∀ e∈nx,Emb W e
 le:∀ e∈nx,op P e.to.of≤2001
 lt:S.length<S'.length∨∀ e∈nx,op P e.to.of<mxE P cur
 ix:∀ e∈nx,e.ix.length≤lv+1
theorem NxOk.meas {W:Wd} {P:Nat→Nat} {cur:List En} {S:List Nat} {nx:List En} {S':List Nat} {lv:Nat} (h:NxOk W P cur S nx S' lv) (hc:0<mxE P cur):qsg W P (qbc W nx) S'<qsg W P cur S:=by
 have h1:=qfk W.length S' h.nds.1 fun x hx=>(h.nds.2 x hx).1;have h2:=h.len;unfold qsg;rcases h.lt with h3|h3
 ·have h4:mxE P (qbc W nx)≤2001:=qw6 (qkc (fun e=>op P e.to.of≤2001) (fun a b e1 _ h=>by rw[← e1];exact h) h.le);have:(W.length - S'.length)+1≤W.length - S.length:=by omega
  have:=Nat.mul_le_mul_right 2003 this;omega
 ·have h4:mxE P (qbc W nx)<mxE P cur:=qw3 (qkc (fun e=>op P e.to.of<mxE P cur) (fun a b e1 _ h=>by rw[← e1];exact h) h3) hc;have:(W.length - S'.length)≤W.length - S.length:=by omega
  have:=Nat.mul_le_mul_right 2003 this;omega
theorem NxOk.start {W:Wd} {P:Nat→Nat} {cur:List En} {S:List Nat} {lv:Nat} (h:NdS W S):NxOk W P cur S [] S lv:=
 ⟨h,zl _,fun e he=>(by cases he),fun e he=>(by cases he),.inr fun e he=>(by cases he),fun e he=>(by cases he)⟩
theorem NxOk.seen {W:Wd} {P:Nat→Nat} {cur:List En} {S:List Nat} {nx:List En} {S':List Nat} {lv:Nat} (h:NxOk W P cur S nx S' lv) {d:Nat} (hd:d<W.length∧(dc W d).alias=false) (hn:d ∉ S'):NxOk W P cur S nx (S'++[d]) lv∧S.length<(S'++[d]).length:=by
 have hl:S.length<(S'++[d]).length:=by have:=h.len;simp;omega
 refine⟨⟨⟨?_,fun x hx => ?_⟩,by omega,h.emb,h.le,.inl hl,h.ix⟩,hl⟩
 ·rw[List.nodup_append];exact⟨h.nds.1,by simp,fun a ha b hb e=>by rw[zfb] at hb;subst hb;subst e;exact hn ha⟩
 ·rcases zib.1 hx with hx|hx
  ·exact h.nds.2 x hx
  ·rw[zfb.1 hx];exact hd
theorem drf_op {W:Wd} {P:Nat→Nat} (hW:WdO W P) {s:Spot} (hs:SpO W P s):SpO W P (drf W s).1∧op P (drf W s).1.of≤op P s.of:=by
 obtain⟨q1,q2⟩:=hs.toPlain hW;unfold drf;split
 next h=>
  have:=q1.elem (.inl h);exact⟨this.1,by show op P (qaq _).of≤_;omega⟩
 ·exact⟨hs,zl _⟩
theorem NxOk.add {W:Wd} {P:Nat→Nat} (hW:WdO W P) {cur:List En} {S:List Nat} {nx:List En} {S':List Nat} {lv:Nat} (h:NxOk W P cur S nx S' lv) {e:En} (he:e∈cur) (hs:SpO W P e.to) (hk:(under W e.to).of.kind=4) {i:Nat} (hi:i<(under W e.to).of.fields.length) (hem:((under W e.to).of.fields.getD i fd0).embedded=true)
  (hn:e.to.of.kind=1→S.length<S'.length) (hl:e.ix.length≤lv):NxOk W P cur S (nx++[subE W e (under W e.to) i]) S' lv:=by
 have hu:=hs.toUnder hW;obtain⟨hf,hlt⟩:=hu.field hk hi;obtain⟨q1,q2⟩:=drf_op hW hf;obtain⟨q3,q4⟩:=q1.toPl hW;have hop:op P (subE W e (under W e.to) i).to.of<op P (under W e.to).of:=by
  show op P (pl W (drf W (qao (under W e.to) i)).1).of<_;omega
 refine⟨h.nds,h.len,fun x hx => ?_,fun x hx => ?_,?_,fun x hx => ?_⟩
 ·rcases zib.1 hx with hx|hx
  ·exact h.emb x hx
  ·rw[zfb.1 hx];exact sub_emb hW hu hk hi hem
 ·rcases zib.1 hx with hx|hx
  ·exact h.le x hx
  ·rw[zfb.1 hx];have:=hu.sz;omega
 ·by_cases hk1:e.to.of.kind=1
  ·exact .inl (hn hk1)
  ·rcases h.lt with h3|h3
   ·exact .inl h3
   ·refine .inr fun x hx => ?_;rcases zib.1 hx with hx|hx
    ·exact h3 x hx
    ·rw[zfb.1 hx];have h4:=qpu (P:=P) he;rw[qdu hk1] at hop ⊢;omega
 ·rcases zib.1 hx with hx|hx
  ·exact h.ix x hx
  ·rw[zfb.1 hx];show(e.ix++[i]).length≤_;simp;omega
theorem qpf {W:Wd} {P:Nat→Nat} (hW:WdO W P) {s:Spot} (hs:SpO W P s):s.of.fields.length≤2000:=by
 have h1:=hs.sz;have h2:∀ l:List Fd,l.length≤opF P l:=by
  intro l
  induction l with
  | nil=>exact Nat.zero_le _
  | cons f r ih=>
   obtain⟨n,e,t⟩:=f;have:=qqe P hW.pos t;simp only[opF,List.length_cons];omega
 have h3:=h2 s.of.fields;have h4:opF P s.of.fields+1≤op P s.of:=by
  generalize s.of=t
  obtain⟨k,n,el,fs,ms,em⟩:=t;have hp:=hW.pos n.toNat;simp only[op,Ty.fields];split <;> omega
 omega
def seenN (e:En) (S:List Nat):List Nat:=if e.to.of.kind=1 then S++[e.to.of.num.toNat] else S
theorem qux {W:Wd} {q m:Int} {e:En} {r:List En} {st:Option Hi×List En} {S:List Nat} (hk:e.to.of.kind=1) (hd:e.to.of.num.toNat∈S):ents W q m (e::r) st S=ents W q m r st S:=by
 conv=>lhs;unfold ents
 rw[if_pos ⟨hk,hd⟩]
theorem qsq {W:Wd} {q m:Int} {e:En} {r:List En} {h:Option Hi} {nx:List En} {S:List Nat} (hk:e.to.of.kind=1) (hd:e.to.of.num.toNat ∉ S) {i:Nat} (hi:qey W e.to.of.num.toNat q m=some i):ents W q m (e::r) (h,nx) S=
  match qgu e h i (start W e.to.of.num.toNat+i) true ((dc W e.to.of.num.toNat).methods.getD i ⟨0,false⟩).ptr with
  | .ok h=>ents W q m r (h,nx) (S++[e.to.of.num.toNat])
  | .error x => .error x:=by
 conv=>lhs;unfold ents
 rw[if_neg (fun h=>hd h.2)];unfold entS;rw[if_pos hk,hi];simp only;cases qgu e h i (start W e.to.of.num.toNat+i) true ((dc W e.to.of.num.toNat).methods.getD i ⟨0,false⟩).ptr with
 | ok h=>simp only[if_pos hk]
 | error x=>rfl
theorem qws {W:Wd} {q m:Int} {e:En} {r:List En} {st:Option Hi×List En} {S:List Nat} (hn:e.to.of.kind=1→e.to.of.num.toNat ∉ S∧qey W e.to.of.num.toNat q m=none):ents W q m (e::r) st S=
  match typS W q m e st with
  | .ok st=>ents W q m r st (seenN e S)
  | .error x => .error x:=by
 conv=>lhs;unfold ents
 rw[if_neg (fun h=>(hn h.1).1 h.2)];have h1:(if e.to.of.kind=1 then qey W e.to.of.num.toNat q m else none)=none:=by
  split
  next h=>exact(hn h).2
  ·rfl
 unfold entS;rw[h1];unfold seenN;rfl
theorem qu1 {W:Wd} {q m:Int} {e:En} {st:Option Hi×List En} (hk:(under W e.to).of.kind=4):typS W q m e st=flds W q m e (under W e.to) (under W e.to).of.fields.length 0 st:=by
 unfold typS;rw[if_pos hk]
theorem qvm {W:Wd} {q m:Int} {e:En} {h:Option Hi} {nx:List En} (hk:(under W e.to).of.kind=5) {i:Nat} (hi:qhz (qih (msL W (under W e.to))) q m=some i):typS W q m e (h,nx)=
  match qgu e h i ((msL W (under W e.to)).getD i mn0).k true false with
  | .ok h => .ok (h,nx)
  | .error x => .error x:=by
 unfold typS;rw[if_neg (by omega),if_pos hk,hi];rfl
theorem qsx {W:Wd} {q m:Int} {e:En} {st:Option Hi×List En} (hk:(under W e.to).of.kind≠4) (hi:(under W e.to).of.kind=5→qhz (qih (msL W (under W e.to))) q m=none):typS W q m e st = .ok st:=by
 unfold typS;rw[if_neg hk];split
 next h=>rw[hi h]
 ·rfl
theorem qmx {e:En} {i k:Nat} {met ptr:Bool} (hm:e.mul=false):qgu e none i k met ptr = .ok (some ⟨k,met,ptr,e.ix++[i],e.ind⟩):=by
 simp[qgu,hm]
theorem qe7 {e:En} {h:Option Hi} {i k:Nat} {met ptr:Bool} (hm:h.isSome=true∨e.mul=true):qgu e h i k met ptr = .error (e.ix++[i]):=by
 unfold qgu;rw[if_pos (by rcases hm with h|h <;> simp[h])]
theorem flds_end {W:Wd} {q m:Int} {e:En} {u:Spot} {i:Nat} {st:Option Hi×List En}:flds W q m e u 0 i st = .ok st:=rfl
theorem qv8 {W:Wd} {q m:Int} {e:En} {u:Spot} {n i:Nat} {h:Option Hi} {nx:List En} (hs:qbp u.pkg (fname W (u.of.fields.getD i fd0)) q m=true):flds W q m e u (n+1) i (h,nx)=
  match qgu e h i (qe0 u i) false false with
  | .ok h=>flds W q m e u n (i+1) (h,nx)
  | .error x => .error x:=by
 conv=>lhs;unfold flds fldS
 rw[if_pos hs];simp only;cases qgu e h i (qe0 u i) false false <;> rfl
theorem qwy {W:Wd} {q m:Int} {e:En} {u:Spot} {n i:Nat} {nx:List En} (hs:qbp u.pkg (fname W (u.of.fields.getD i fd0)) q m=false) (he:(u.of.fields.getD i fd0).embedded=true):flds W q m e u (n+1) i (none,nx)=flds W q m e u n (i+1) (none,nx++[subE W e u i]):=by
 conv=>lhs;unfold flds fldS
 rw[if_neg (by rw[hs];decide),if_pos (by rw[he];rfl)]
theorem flds_no {W:Wd} {q m:Int} {e:En} {u:Spot} {n i:Nat} {h:Option Hi} {nx:List En} (hs:qbp u.pkg (fname W (u.of.fields.getD i fd0)) q m=false) (he:h.isSome=true∨(u.of.fields.getD i fd0).embedded=false):flds W q m e u (n+1) i (h,nx)=flds W q m e u n (i+1) (h,nx):=by
 conv=>lhs;unfold flds fldS
 rw[if_neg (by rw[hs];decide),if_neg (by rcases he with he|he <;> cases h <;> simp_all)]
theorem lvs_nil {W:Wd} {addr:Bool} {q m:Int} {n:Nat} {S:List Nat}:lvs W addr q m n [] S=⟨none,[],false⟩:=by
 cases n with
 | zero=>rfl
 | succ n=>unfold lvs;rw[if_pos rfl]
theorem lvs_err {W:Wd} {addr:Bool} {q m:Int} {n:Nat} {cur:List En} {S x:List Nat} (hc:cur≠[]) (h:ents W q m cur (none,[]) S = .error x):lvs W addr q m (n+1) cur S=⟨none,x,false⟩:=by
 unfold lvs;rw[if_neg hc,h]
theorem lvs_hit {W:Wd} {addr:Bool} {q m:Int} {n:Nat} {cur nx:List En} {S S':List Nat} {h:Hi} (hc:cur≠[]) (he:ents W q m cur (none,[]) S = .ok ((some h,nx),S')):lvs W addr q m (n+1) cur S=if(h.met&&h.ptr&&!h.ind&&!addr)=true then⟨none,[],true⟩ else⟨some (h.ob,h.met),h.ix,h.ind⟩:=by
 unfold lvs;rw[if_neg hc,he]
theorem qwo {W:Wd} {addr:Bool} {q m:Int} {n:Nat} {cur nx:List En} {S S':List Nat} (hc:cur≠[]) (he:ents W q m cur (none,[]) S = .ok ((none,nx),S')):lvs W addr q m (n+1) cur S=lvs W addr q m n (qbc W nx) S':=by
 conv=>lhs;unfold lvs
 rw[if_neg hc,he]
structure HitV (F:Fix) (s:St) (wB w:World) (x:Hi) (T:TypeId) (b:Nat) (ia:Option Addr) (ic:Nat):Prop where
 ob:s.ob x.ob=some (x.met,b)
 lt:x.ob<F.N
 ty:T=if x.met=true then 106 else 151
 ix:w.ownsRow 0 3 1 (.slice ia x.ix.length ic) x.ix.length (qbh x.ix)
 fn:x.met=true→∃ pk n,qel (rdT wB) b pk n x.ptr
def HitM (F:Fix) (s:St) (wB w:World) (h:Option Hi) (ov iv dv:Value):Prop:=
 (h=none∧ov = .nilIface∧iv = .slice none 0 0∧dv = .bool false)∨∃ x T b ia ic,h=some x∧ov = .iface T (ptrV b)∧iv = .slice ia x.ix.length ic∧dv = .bool x.ind∧HitV F s wB w x T b ia ic
theorem HitM.apart {F:Fix} {s:St} {wB w w':World} {h:Option Hi} {ov iv dv:Value} {S:Nat→Prop} (k:HitM F s wB w h ov iv dv) (ha:qag S w w') (hS:∀ b cs,Blk w b 3 cs→¬ S b):HitM F s wB w' h ov iv dv:=by
 rcases k with k|⟨x,T,b,ia,ic,e1,e2,e3,e4,q⟩
 ·exact .inl k
 ·exact .inr ⟨x,T,b,ia,ic,e1,e2,e3,e4,q.ob,q.lt,q.ty,qab q.ix ha fun g hg=>by
   obtain⟨cs,hc⟩:=qaf q.ix hg;exact hS g cs hc,q.fn⟩
theorem HitM.keep {F:Fix} {s:St} {wB w w':World} {h:Option Hi} {ov iv dv:Value} (k:HitM F s wB w h ov iv dv) (hb:Below w.heap.size w w'):HitM F s wB w' h ov iv dv:=
 k.apart (S:=fun _=>False) (qag.keep hb) (fun _ _ _ h=>h)
theorem NxAt.app {F:Fix} {P:Nat→Nat} {s:St} {wB w w':World} {a a':Option Addr} {c c':Nat} {es:List En} {cells:List Value} (h:NxAt F P s wB w a c es cells) {e:En} {k:TypeId×Nat} {ia:Option Addr} {ic:Nat} {u:Value} (ht:TyIn wB k) (hp:PlV F P s wB e.to (tyV k) u) (hi:w.ownsRow 0 3 1 (.slice ia e.ix.length ic) e.ix.length (qbh e.ix))
  (ho:w'.ownsRow 0 225 4 (.slice a' (es.length+1) c') (es.length+1) (cells++[tyV k,.slice ia e.ix.length ic,.bool e.ind,.bool e.mul])) (hg:w.grownBy w' (Value.slice a es.length c).ownBlock):
  NxAt F P s wB w' a' c' (es++[e]) (cells++[tyV k,.slice ia e.ix.length ic,.bool e.ind,.bool e.mul]):=by
 have hA:qag (fun b=>(Value.slice a es.length c).ownBlock=some b) w w':=⟨hg.size,fun b hb hn=>hg.block b hb fun e=>hn e.symm⟩;have hI:∀ {ia:Option Addr} {n ic:Nat} {xs:List Value},w.ownsRow 0 3 1 (.slice ia n ic) n xs→w'.ownsRow 0 3 1 (.slice ia n ic) n xs:=fun hx=>qab hx hA fun g hg1 hg2=>by
  obtain⟨cs,hc⟩:=qaf hx hg1;obtain⟨ds,hd⟩:=qaf h.own hg2;exact hc.tne hd (by decide) rfl
 have hlen:cells.length=es.length * 4:=h.own.1;obtain⟨a2,c2,he,-,h1,h2⟩:=qak ho;cases he;have ha':∃ g,a'=some ⟨g,0,none⟩∧qat w' g 0 (cells++[tyV k,.slice ia e.ix.length ic,.bool e.ind,.bool e.mul]):=by
  cases a' with
  | none=>have:=(h2 rfl).1;omega
  | some ad=>
   obtain⟨g,rfl,-,-,q⟩:=h1 ad rfl;exact⟨g,rfl,q⟩
 obtain⟨g,rfl,hC⟩:=ha';refine⟨by simpa using ho,fun i hi' => ?_⟩;by_cases hie:i<es.length
 ·obtain⟨g0,e0,k0,ia0,ic0,u0,q⟩:=h.at_ i hie;subst e0;refine⟨g,rfl,?_⟩;rw[List.getElem_append_left hie];obtain⟨a3,c3,he3,-,h3,-⟩:=qak h.own;cases he3;obtain⟨g3,e3,-,-,hC0⟩:=h3 _ rfl;cases e3;have hcell:∀ j v,j<4→w.cell? ⟨g0,i * 4+j,none⟩=some v→w'.cell? ⟨g,i * 4+j,none⟩=some v:=fun j v hj hv=>by
   have hx:i * 4+j<cells.length:=by omega
   have q1:=hC0 (i * 4+j) _ (zr hx);rw[Nat.zero_add,hv] at q1;have q2:=hC (i * 4+j) _ (by rw[List.getElem?_append_left hx];exact zr hx);rw[Nat.zero_add] at q2;rw[q2,q1]
  exact⟨k0,ia0,ic0,u0,hcell 0 _ (by omega) q.c0,hcell 1 _ (by omega) q.c1,hcell 2 _ (by omega) q.c2,hcell 3 _ (by omega) q.c3,q.ty,q.pl,hI q.ix⟩
 ·have ei:i=es.length:=by simp at hi';omega
  subst ei;refine⟨g,rfl,?_⟩;rw[List.getElem_append_right (zl _)];simp only[Nat.sub_self,zi];have hcell:∀ j v,[tyV k,.slice ia e.ix.length ic,.bool e.ind,.bool e.mul][j]?=some v→w'.cell? ⟨g,es.length * 4+j,none⟩=some v:=fun j v hv=>by
   have q2:=hC (es.length * 4+j) v (by rw[List.getElem?_append_right (by omega),hlen,Nat.add_sub_cancel_left];exact hv);rw[Nat.zero_add] at q2;exact q2
  exact⟨k,ia,ic,u,hcell 0 _ rfl,hcell 1 _ rfl,hcell 2 _ rfl,hcell 3 _ rfl,ht,hp,hI hi⟩
