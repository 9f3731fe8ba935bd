import Derived.Test.YtaibcdkadbemgaaGreatDoorK20
import Derived.Test.YtaibcdkadbemgaaGreatDoorK31
import Derived.Deep.QuietTactic
import Derived.BigQuiet
import Derived.Test.YtaibcdkadbemgaaGreatDoorK09
import Derived.Test.YtaibcdkadbemgaaGreatDoorK25
import Derived.LaidEqlPtr
set_option linter.all false
set_option maxHeartbeats 2000000
namespace Go.Proofs.YtaibcdkadbemgaaGreatDoor
open Go Go.RowKit
set_option maxRecDepth 100000
theorem qqi {w:World} {a:Option Addr} {c:Nat} {l:List Nat} (h:w.ownsRow 0 3 1 (.slice a l.length c) l.length (qbh l)) {k:Nat} (hk:k<l.length):
  ∃ g,a=some ⟨g,0,none⟩∧∀ wr,Below w.heap.size w wr→wr.cell? ⟨g,k,none⟩=some (.int .i64 (l.getD k 0:Nat)):=by
 obtain⟨_,_,he,hcap,h1,h2⟩:=qak h;cases he;cases a with
 | none=>have:=(h2 rfl).1;omega
 | some ad=>
  obtain⟨g,rfl,hg,-,hc⟩:=h1 ad rfl;refine⟨g,rfl,fun wr hb => ?_⟩;have:=hc k (.int .i64 (l.getD k 0:Nat)) (by simp[qbh,zu,zr hk]);rw[Nat.zero_add] at this;exact qac.below hb _ _ this
theorem qv0 (l:List Nat) (hl:l.length≤4294967296) (a a':Option Addr) (c c':Nat) (w:World) (h1:w.ownsRow 0 3 1 (.slice a l.length c) l.length (qbh l)) (h2:w.ownsRow 0 3 1 (.slice a' l.length c') l.length (qbh l)):
  Calls Tryz.prog 27 #[.slice a l.length c,.slice a' l.length c'] w (qa2 (.bool true) w):=by
 have HG1:=hid fun k hk=>qqi h1 (k:=k) hk;have HG2:=hid fun k hk=>qqi h2 (k:=k) hk;obtain⟨n,hn⟩:∃ n,n=l.length:=⟨_,rfl⟩;rw[← hn] at hl HG1 HG2 ⊢;clear h1 h2 hn;go_enter Tryz.func27,Tryz.ntmps27
 go_wp2_with fail
 go_loopw [13] (fun jv wr=>∃ k:Nat,k≤n∧jv = .int .i64 k∧Hid (Below w.heap.size w wr)) (fun jv _=>n - (intOf jv).toNat)
 case atStart=>exact⟨0,Nat.zero_le _,rfl,hid (zp _ _)⟩
 case round=>
  obtain⟨k,hk,rfl,HB⟩:=hrel;by_cases hlt:k<n
  ·have hlt':(k:Int)<(n:Int):=by omega
   refine(HG1.out k hlt).elim fun g r1=>(HG2.out k hlt).elim fun g' r2 => ?_;have e1:=r1.1;have e2:=r2.1;have c1:=r1.2 _ HB.out;have c2:=r2.2 _ HB.out;clear r1 r2 HG1 HG2;subst e1 e2
   go_wp2_with fail
   go_quiet (fail)
   go_wp2_with fail
   go_roundw
   case rel=>exact⟨k+1,hlt,by go_num,hid (qqv HB.out)⟩
   case measure=>simp[intOf];omega
  ·obtain rfl:k=n:=by omega
   go_wp2_with fail
   go_ret
   exact⟨rfl,HB.out⟩
def ansV (o:Int) (m:Bool) (a:Option Addr) (n c:Nat) (ind:Bool):Value := .agg #[.int .i64 o,.bool m,.slice a n c,.bool ind]
theorem same_yes (o:Int) (m ind:Bool) (l:List Nat) (hl:l.length≤4294967296) (a a':Option Addr) (c c':Nat) (w:World) (h1:w.ownsRow 0 3 1 (.slice a l.length c) l.length (qbh l)) (h2:w.ownsRow 0 3 1 (.slice a' l.length c') l.length (qbh l)):
  Calls Tryz.prog 11 #[ansV o m a l.length c ind,ansV o m a' l.length c' ind] w (qa2 (.bool true) w):=by
 have HI:Hid (∀ w',Below w.heap.size w w'→Calls Tryz.prog 27 #[.slice a l.length c,.slice a' l.length c'] w' (qa2 (.bool true) w')):=hid fun w' hb=>
  qv0 l hl a a' c c' w' (qab (S:=fun _=>False) h1 (qag.keep hb) fun _ _ h=>h) (qab (S:=fun _=>False) h2 (qag.keep hb) fun _ _ h=>h)
 clear h1 h2;unfold ansV;go_enter Tryz.func11,Tryz.ntmps11
 go_wp2_with (go_at_call 27;refine(HI.out _ (((zp _ _).alloc (zl _) _).alloc (by simp) _)).mono ?_;rintro e w2 ⟨rfl,hb2⟩)
 go_ret
 exact⟨rfl,(((zp _ _).alloc (zl _) _).alloc (by simp) _).trans (hb2.mono (by simp;omega))⟩
def qbp (opkg oname pkg name:Int):Bool:=oname==name&&(qay oname||opkg==pkg)
theorem qun {p q:Int} (hp:p=0∨p=1) (hq:q=0∨q=1):((qbo p).toList==(qbo q).toList)=(p==q):=by
 rcases hp with rfl|rfl <;> rcases hq with rfl|rfl <;> decide +kernel
theorem qjr (a b:Nat) (p q:Int) (hp:p=0∨p=1) (hq:q=0∨q=1) (w:World) (ha:w.cell? ⟨a,0,none⟩=some (.string (qbo p))) (hb:w.cell? ⟨b,0,none⟩=some (.string (qbo q))):
  Calls Tryz.prog 74 #[.pointer (some ⟨a,0,none⟩),.pointer (some ⟨b,0,none⟩)] w (qa2 (.bool (p==q)) w):=by
 have he:=qun hp hq;obtain⟨s,hs⟩:∃ s,s=qbo p:=⟨_,rfl⟩;obtain⟨t,ht⟩:∃ t,t=qbo q:=⟨_,rfl⟩;rw[← hs] at ha he;rw[← ht] at hb he;clear hs ht;cases hpq:(p==q) <;> rw[hpq] at he <;> clear hpq
 ·go_enter Tryz.func74,Tryz.ntmps74
  go_wp2_with fail
  go_quiet (fail)
  go_wp2_with fail
  go_ret
  exact⟨by simp[*],⟨rfl,rfl,rfl,zl _,fun _ _=>rfl⟩⟩
 ·go_enter Tryz.func74,Tryz.ntmps74
  go_wp2_with fail
  go_quiet (fail)
  go_wp2_with fail
  go_ret
  exact⟨by simp[*],⟨rfl,rfl,rfl,zl _,fun _ _=>rfl⟩⟩
theorem ql6 {n m:Int} (hn:IsNm n) (hm:IsNm m):((qas n).toList==(qas m).toList)=(n==m):=by
 by_cases h:n=m
 ·subst h;simp
 ·rw[qia hn hm h];simp[h]
theorem qge (x:Nat) (n:Int) (w:World) (hn:IsNm n) (hT:Tabs w) (h:w.cell? ⟨x,2,none⟩=some (.string (qas n))):
  Calls Tryz.prog 141 #[.pointer (some ⟨x,0,none⟩)] w (qa2 (.bool (qay n)) w):=by
 have Hn:=hid hn;have HT:=hid hT;have hl:=zj w _ h;clear hn hT;go_enter Tryz.func141,Tryz.ntmps141
 go_wp2_with (go_at_call 83;refine(qcb n _ Hn.out HT.out).mono ?_;rintro e w2 ⟨rfl,hb2⟩;have Hb2:=hid hb2;clear hb2)
 go_ret
 exact⟨rfl,Hb2.out⟩
theorem qik (x pk pk2:Nat) (p n q m:Int) (w:World) (hn:IsNm n) (hm:IsNm m) (hp:p=0∨p=1) (hq:q=0∨q=1) (hT:Tabs w) (h1:w.cell? ⟨x,1,none⟩=some (.pointer (some ⟨pk,0,none⟩))) (h2:w.cell? ⟨x,2,none⟩=some (.string (qas n)))
  (h3:w.cell? ⟨pk,0,none⟩=some (.string (qbo p))) (h4:w.cell? ⟨pk2,0,none⟩=some (.string (qbo q))):
  Calls Tryz.prog 111 #[.pointer (some ⟨x,0,none⟩),.pointer (some ⟨pk2,0,none⟩),.string (qas m),.bool false] w (qa2 (.bool (qbp p n q m)) w):=by
 have hne:=ql6 hn hm;have Hn:=hid hn;have HT:=hid hT;have H2:=hid h2;have H3:=hid h3;have H4:=hid h4;have Hp:=hid hp;have Hq:=hid hq;have hl:=zj w _ h1;clear hn hm hp hq hT h3 h4;unfold qbp;cases hnm:(n==m) with
 | false=>
  rw[hnm] at hne;clear hnm;go_enter Tryz.func111,Tryz.ntmps111
  go_wp2_with fail
  go_ret
  exact⟨by simp,zp _ _⟩
 | true=>
  rw[hnm] at hne;clear hnm;cases hx:qay n with
  | true=>
   have Hx:=hid hx;clear hx;go_enter Tryz.func111,Tryz.ntmps111
   go_wp2_with (go_at_call 141;refine(qge x n _ Hn.out HT.out H2.out).mono ?_;rintro e w2 ⟨rfl,hb2⟩;have Hb2:=hid hb2;clear hb2;rw[Hx.out])
   go_ret
   exact⟨by simp,Hb2.out⟩
  | false=>
   have Hx:=hid hx;clear hx;go_enter Tryz.func111,Tryz.ntmps111
   go_wp2_with (first
    | (go_at_call 141;refine(qge x n _ Hn.out HT.out H2.out).mono ?_;rintro e w2 ⟨rfl,hb2⟩;have Hb2:=hid hb2;have hk1:=qac.below hb2 _ _ h1;have hz2:=hb2.size;clear hb2;rw[Hx.out])
    | (go_at_call 74;refine(qjr pk pk2 p q Hp.out Hq.out _ (qac.below Hb2.out _ _ H3.out) (qac.below Hb2.out _ _ H4.out)).mono ?_;rintro e w3 ⟨rfl,hb3⟩;have Hb3:=hid hb3;clear hb3))
   go_ret
   exact⟨by simp,Hb2.out.trans (Hb3.out.mono Hb2.out.size)⟩
def qhz (ids:List (Int×Int)) (q m:Int):Option Nat:=ids.findIdx? fun x=>qbp x.1 x.2 q m
theorem qrg {ids:List (Int×Int)} {q m:Int} {k:Nat} (hk:k<ids.length) (h:qbp ids[k].1 ids[k].2 q m=true) (hb:∀ j (hj:j<k),qbp (ids[j]'(by omega)).1 (ids[j]'(by omega)).2 q m=false):qhz ids q m=some k:=by
 unfold qhz;rw[List.findIdx?_eq_some_iff_getElem];exact⟨hk,h,fun j hj=>by rw[hb j hj];decide⟩
theorem qsd {ids:List (Int×Int)} {q m:Int} (hb:∀ j (hj:j<ids.length),qbp ids[j].1 ids[j].2 q m=false):qhz ids q m=none:=by
 unfold qhz;rw[List.findIdx?_eq_none_iff];intro x hx;obtain⟨j,hj,rfl⟩:=List.mem_iff_getElem.1 hx;exact hb j hj
def idxV (o:Option Nat) (fs:List Nat):Value:=match o with
 | some i => .tuple #[.int .i64 (i:Int),.pointer (some ⟨fs.getD i 0,0,none⟩)]
 | none => .tuple #[.int .i64 (-1),.pointer none]
theorem qmb (ra:Option Addr) (rc:Nat) (fs:List Nat) (ids:List (Int×Int)) (pkb:Int→Nat) (q m:Int) (w:World) (hT:Tabs w) (hl:fs.length=ids.length) (hr:qlm w ra fs) (hrc:fs.length≤rc) (hbd:fs.length≤1048576)
  (ho:∀ i (hi:i<fs.length) (hk:i<ids.length),qgt w fs[i] (pkb ids[i].1) ids[i].1 ids[i].2) (hm:IsNm m) (h8:m≠8) (hq:q=0∨q=1) (hq2:w.cell? ⟨pkb q,0,none⟩=some (.string (qbo q))):
  Calls Tryz.prog 142 #[.slice ra fs.length rc,.pointer (some ⟨pkb q,0,none⟩),.string (qas m),.bool false] w (qa2 (idxV (qhz ids q m) fs) w):=by
 have hbl:=qhk hm h8;have Hr:=hid hr;have Ho:=hid ho;have Hm:=hid hm;have Hq:=hid hq;have Hq2:=hid hq2;have HT:=hid hT;have Hl:=hid hl;clear hr ho hm hq hq2 hT hl h8;go_enter Tryz.func142,Tryz.ntmps142
 go_wp2_with fail
 go_loopw [16] (fun j wr=>∃ k:Nat,k≤fs.length∧j = .int .i64 k∧w.heap.size≤wr.heap.size∧Hid (Below w.heap.size w wr∧∀ i (hi:i<k) (hk:i<ids.length),qbp ids[i].1 ids[i].2 q m=false)) (fun j _=>fs.length - (intOf j).toNat)
 case atStart=>exact⟨0,by omega,rfl,zl _,hid ⟨zp _ _,fun i hi=>by omega⟩⟩
 case round=>
  obtain⟨k,hk,rfl,hz,hst⟩:=hrel;by_cases hlt:k<fs.length
  ·obtain⟨b,o,rfl,hc⟩:=Hr.out k hlt;have hlt':(k:Int)<(fs.length:Int):=by omega
   have hki:k<ids.length:=by have:=Hl.out;omega
   have e0:=qac.below hst.out.1 _ _ hc;have hbb:=zj wr _ e0;simp only at hbb;have HOb:=hid ((Ho.out k hlt hki).below hst.out.1);have hobl:=zj wr _ HOb.out.c1;simp only at hobl;have HS:=hid (qik fs[k] (pkb ids[k].1) (pkb q) ids[k].1 ids[k].2 q m wr HOb.out.nm Hm.out HOb.out.pp Hq.out (HT.out.below hst.out.1) HOb.out.c1 HOb.out.c2 HOb.out.cp (qac.below hst.out.1 _ _ Hq2.out));clear hc;cases hs:qbp ids[k].1 ids[k].2 q m with
   | true=>
    have Hs:=hid hs;clear hs
    go_wp2_with (go_at_call 111;refine HS.out.mono ?_;rintro e w2 ⟨rfl,hb2⟩;have Hb2:=hid hb2;clear hb2;rw[Hs.out])
    go_ret2
    rw[qrg hki Hs.out fun j hj=>hst.out.2 j hj (by omega)];refine⟨?_,hst.out.1.trans (Hb2.out.mono hz)⟩;simp[idxV,zu,zr hlt]
   | false=>
    have Hs:=hid hs;clear hs
    go_wp2_with (go_at_call 111;refine HS.out.mono ?_;rintro e w2 ⟨rfl,hb2⟩;have Hb2:=hid hb2;have hz2:=hb2.size;clear hb2;rw[Hs.out])
    go_roundw
    case rel=>exact⟨k+1,by omega,by go_num,by omega,hid ⟨hst.out.1.trans (Hb2.out.mono hz),fun i hi hil=>by
     by_cases e:i=k
     ·subst e;exact Hs.out
     ·exact hst.out.2 i (by omega) hil⟩⟩
    case measure=>simp[intOf];omega
  ·obtain rfl:k=fs.length:=by omega
   go_wp2_with fail
   go_ret2
   rw[qsd fun j hj=>hst.out.2 j (by have:=Hl.out;omega) hj];exact⟨rfl,hst.out.1⟩
def qst (o:Option Nat):Int:=match o with
 | some i=>i
 | none => -1
def qj9 (ns:List Int) (m:Int):Option Nat:=ns.findIdx? fun x=>x==m
theorem qnq (b:Nat) (ra:Option Addr) (rc:Nat) (fs:List Nat) (ns:List Int) (m:Int) (w:World) (h:w.cell? ⟨b,9,none⟩=some (.slice ra fs.length rc)) (hl:fs.length=ns.length) (hr:qlm w ra fs) (hrc:fs.length≤rc) (hbd:fs.length≤1048576)
  (ho:∀ i (hi:i<fs.length) (hk:i<ns.length),w.cell? ⟨fs[i],2,none⟩=some (.string (qas ns[i]))∧IsNm ns[i]) (hm:IsNm m) (h8:m≠8):
  Calls Tryz.prog 76 #[.pointer (some ⟨b,0,none⟩),.string (qas m),.bool false] w fun e w'=>e = .returned (.int .i64 (qst (qj9 ns m)))∧w'=w:=by
 have hbl:=qhk hm h8;have Hr:=hid hr;have Ho:=hid ho;have Hm:=hid hm;have Hl:=hid hl;clear hr ho hm hl h8;go_enter Tryz.func76,Tryz.ntmps76
 go_wp2_with fail
 go_loop [38] (fun j=>∃ k:Nat,k≤fs.length∧j = .int .i64 k∧Hid (∀ i (hi:i<k) (hk:i<ns.length),(ns[i]==m)=false)) (fun j=>fs.length - (intOf j).toNat)
 case atStart=>exact⟨0,by omega,rfl,hid fun i hi=>by omega⟩
 case round=>
  obtain⟨k,hk,rfl,hst⟩:=hrel;by_cases hlt:k<fs.length
  ·obtain⟨b1,o1,rfl,hc⟩:=Hr.out k hlt;have hlt':(k:Int)<(fs.length:Int):=by omega
   have hki:k<ns.length:=by have:=Hl.out;omega
   have e2:=(Ho.out k hlt hki).1;have hne:=ql6 (Ho.out k hlt hki).2 Hm.out;cases hs:(ns[k]==m) with
   | true=>
    rw[hs] at hne;have Hs:=hid hs;clear hs
    go_wp2_with fail
    go_ret
    refine⟨?_,rfl⟩;have:qj9 ns m=some k:=by
     unfold qj9;rw[List.findIdx?_eq_some_iff_getElem];exact⟨hki,Hs.out,fun j hj=>by rw[hst.out j hj (by omega)];decide⟩
    rw[this];rfl
   | false=>
    rw[hs] at hne;have Hs:=hid hs;clear hs
    go_wp2_with fail
    go_round
    case rel=>exact⟨k+1,by omega,by go_num,hid fun i hi hil=>by
     by_cases e:i=k
     ·subst e;exact Hs.out
     ·exact hst.out i (by omega) hil⟩
    case measure=>simp[intOf];omega
  ·obtain rfl:k=fs.length:=by omega
   go_wp2_with fail
   go_ret
   have:qj9 ns m=none:=by
    unfold qj9;rw[List.findIdx?_eq_none_iff];intro x hx;obtain⟨j,hj,rfl⟩:=List.mem_iff_getElem.1 hx;exact hst.out j (by have:=Hl.out;omega) hj
   rw[this];exact⟨rfl,rfl⟩
def qf3 (W:Wd) (d:Nat):List Int:=(dc W d).methods.map Meth.name
def qey (W:Wd) (d:Nat) (q m:Int):Option Nat:=if((dc W d).pkg==q||qay m)=true then qj9 (qf3 W d) m else none
theorem qbz.names {F:Fix} {s:St} {w:World} {d b tn:Nat} {U:TypeId} {ux:Addr} {ra:Option Addr} {rc:Nat} {fs:List Nat} (h:qbz F s w d b tn U ux ra rc fs) (hn:∀ m∈(dc F.W d).methods,IsNm m.name):∀ i (hi:i<fs.length) (hk:i<(qf3 F.W d).length),w.cell? ⟨fs[i],2,none⟩=some (.string (qas (qf3 F.W d)[i]))∧IsNm (qf3 F.W d)[i]:=by
 intro i hi hk;have h1:=(h.ms i hi).2.cells.2;unfold qf3 at hk ⊢;simp only[List.length_map] at hk;simp only[List.getElem_map];have e:(dc F.W d).methods.getD i ⟨0,false⟩=(dc F.W d).methods[i]:=by simp[zu,zr hk]
 rw[e] at h1;exact⟨qax h1,hn _ (z7 _)⟩
theorem qbz.prow {F:Fix} {s:St} {w:World} {d b tn:Nat} {U:TypeId} {ux:Addr} {ra:Option Addr} {rc:Nat} {fs:List Nat} (h:qbz F s w d b tn U ux ra rc fs):qlm w ra fs∧fs.length≤rc:=by
 have h1:=h.row;rw[← h.len] at h1;exact⟨qeh h1,by obtain⟨_,_,he,hle,-⟩:=qak h1;cases he;exact hle⟩
theorem qkg {F:Fix} {s:St} {w:World} {d b tn:Nat} {U:TypeId} {ux:Addr} {ra:Option Addr} {rc:Nat} {fs:List Nat} (h:qbz F s w d b tn U ux ra rc fs) {i:Nat} (hi:i<fs.length):
  Calls Tryz.prog 140 #[ptrV b,.int .i64 i] w fun e w'=>e = .returned (ptrV fs[i])∧w'=w:=by
 have c5:=h.blk.cell 5;have c9:=h.blk.cell 9;simp only[zt,zs] at c5 c9;obtain⟨gb,o,rfl,hc⟩:=h.prow.1 i hi;have hl:=h.len;have hi':(i:Int)<((dc F.W d).methods.length:Int):=by omega
 clear h;go_enter Tryz.func140,Tryz.ntmps140
 go_wp2_with (first
  | (go_at_call 75;refine(qci b 15 (.inr rfl) _ c5).mono ?_;rintro e w' ⟨rfl,rfl⟩)
  | (go_at_call 98;refine(qcz b 15 4 (.inr (.inr rfl)) (.inr (.inl rfl)) _ c5).mono ?_;rintro e w' ⟨rfl,rfl⟩;rw[show stB 15 4=true from rfl]))
 go_ret
 exact⟨rfl,rfl⟩
theorem qfv {F:Fix} {s:St} {w:World} {d b tn:Nat} {U:TypeId} {ux:Addr} {ra:Option Addr} {rc:Nat} {fs:List Nat} (h:qbz F s w d b tn U ux ra rc fs) (hok:BOk F s w) (hT:Tabs w) (hn:∀ m∈(dc F.W d).methods,IsNm m.name) (hp:(dc F.W d).pkg=0∨(dc F.W d).pkg=1) (hl:(dc F.W d).methods.length≤1048576)
  {q m:Int} (hq:q=0∨q=1) (hm:IsNm m) (h8:m≠8):
  Calls Tryz.prog 109 #[ptrV b,ptrV (F.pk q),.string (qas m),.bool false] w (qa2 (idxV (qey F.W d q m) fs) w):=by
 have c5:=h.blk.cell 5;have c9:=h.blk.cell 9;have c1:=h.blk.cell 1;have t1:=h.tnB.cell 1;simp only[zt,zs] at c5 c9 c1 t1;have hlen:=h.len;have hnl:(qf3 F.W d).length=fs.length:=by unfold qf3;rw[List.length_map];exact hlen.symm
 have H:=hid h;have HT:=hid hT;have Hm:=hid hm;have HS:=hid (qjr (F.pk (dc F.W d).pkg) (F.pk q) _ _ hp hq w (hok.pkc hp).2 (hok.pkc hq).2);rw[← hlen] at c9;have HI:=fun w' (c:w'.cell? ⟨b,9,none⟩=some (.slice ra fs.length rc)) (k:qac w w')=>qnq b ra rc fs (qf3 F.W d) m w' c hnl.symm (fun i hi=>by obtain⟨bb,o,e,hc⟩:=h.prow.1 i hi;exact⟨bb,o,e,k _ _ hc⟩) h.prow.2 (by omega) (fun i hi hk=>⟨k _ _ (h.names hn i hi hk).1,(h.names hn i hi hk).2⟩) hm h8;have HI':=hid HI;have HMe:=hid (fun w' (hb:Below w.heap.size w w') (i:Nat) (hi:i<fs.length)=>qkg (F:=F) (s:=s) (w:=w') (d:=d) (b:=b) (tn:=tn) (U:=U) (ux:=ux) (ra:=ra) (rc:=rc) (fs:=fs) ⟨h.tb,h.tnB.keep hb,h.blk.keep hb,h.lit,Den.mono (show G.Le (gOf F s (rdT w)) (gOf F s (rdT w')) from⟨rfl,rfl,fun _ _ h=>h,fun _ _ h=>h,fun _ h=>h,qa0 hb⟩) h.den,h.len,qab h.row (qag.keep (S:=fun _=>False) hb) (fun _ _ h=>h),fun j hj=>⟨(h.ms j hj).1,(h.ms j hj).2.mono (qa0 hb)⟩⟩ hi);have hbl:=h.blk.lt;have htl:=h.tnB.lt;clear HI h hok hT hn hp hq hm h8;unfold qey;cases hpq:((dc F.W d).pkg==q) with
 | true=>
  have Hpq:=hid hpq;clear hpq;rw[if_pos (by simp)];cases hx:qj9 (qf3 F.W d) m with
  | none=>
   have Hx:=hid hx;clear hx;go_enter Tryz.func109,Tryz.ntmps109
   go_wp2_with (first
    | (go_at_call 75;refine(qci b 15 (.inr rfl) _ c5).mono ?_;rintro e w' ⟨rfl,rfl⟩)
    | (go_at_call 74;refine HS.out.mono ?_;rintro e w2 ⟨rfl,hb2⟩;have Hb2:=hid hb2;clear hb2;rw[Hpq.out])
    | (go_at_call 76;refine(HI'.out _ (qac.below Hb2.out _ _ c9) (qac.below Hb2.out)).mono ?_;rintro e w3 ⟨rfl,rfl⟩;rw[Hx.out,show qst none = -1 from rfl]))
   go_ret2
   exact⟨rfl,Hb2.out⟩
  | some i=>
   have hi:i<fs.length:=by
    unfold qj9 at hx;rw[List.findIdx?_eq_some_iff_getElem] at hx;obtain⟨hi,-⟩:=hx;omega
   have Hx:=hid hx;clear hx;go_enter Tryz.func109,Tryz.ntmps109
   go_wp2_with (first
    | (go_at_call 75;refine(qci b 15 (.inr rfl) _ c5).mono ?_;rintro e w' ⟨rfl,rfl⟩)
    | (go_at_call 74;refine HS.out.mono ?_;rintro e w2 ⟨rfl,hb2⟩;have Hb2:=hid hb2;clear hb2;rw[Hpq.out])
    | (go_at_call 76;refine(HI'.out _ (qac.below Hb2.out _ _ c9) (qac.below Hb2.out)).mono ?_;rintro e w3 ⟨rfl,rfl⟩;rw[Hx.out,show qst (some i)=(i:Int) from rfl])
    | (go_at_call 140;refine(HMe.out _ Hb2.out i hi).mono ?_;rintro e w4 ⟨rfl,rfl⟩))
   go_ret2
   refine⟨?_,Hb2.out⟩;simp[idxV,zu,zr hi]
 | false=>
  have Hpq:=hid hpq;clear hpq;cases hex:qay m with
  | false=>
   have Hex:=hid hex;clear hex;rw[if_neg (by simp)];go_enter Tryz.func109,Tryz.ntmps109
   go_wp2_with (first
    | (go_at_call 75;refine(qci b 15 (.inr rfl) _ c5).mono ?_;rintro e w' ⟨rfl,rfl⟩)
    | (go_at_call 74;refine HS.out.mono ?_;rintro e w2 ⟨rfl,hb2⟩;have Hb2:=hid hb2;clear hb2;rw[Hpq.out])
    | (go_at_call 83;refine(qcb m _ Hm.out (HT.out.below Hb2.out)).mono ?_;rintro e w3 ⟨rfl,hb3⟩;have Hb3:=hid hb3;clear hb3;rw[Hex.out]))
   go_ret2
   exact⟨rfl,Hb2.out.trans (Hb3.out.mono Hb2.out.size)⟩
  | true=>
   have Hex:=hid hex;clear hex;rw[if_pos (by simp)];cases hx:qj9 (qf3 F.W d) m with
   | none=>
    have Hx:=hid hx;clear hx;go_enter Tryz.func109,Tryz.ntmps109
    go_wp2_with (first
     | (go_at_call 75;refine(qci b 15 (.inr rfl) _ c5).mono ?_;rintro e w' ⟨rfl,rfl⟩)
     | (go_at_call 74;refine HS.out.mono ?_;rintro e w2 ⟨rfl,hb2⟩;have Hb2:=hid hb2;clear hb2;rw[Hpq.out])
     | (go_at_call 83;refine(qcb m _ Hm.out (HT.out.below Hb2.out)).mono ?_;rintro e w3 ⟨rfl,hb3⟩;have Hb3:=hid (Hb2.out.trans (hb3.mono Hb2.out.size));clear hb3;rw[Hex.out])
     | (go_at_call 76;refine(HI'.out _ (qac.below Hb3.out _ _ c9) (qac.below Hb3.out)).mono ?_;rintro e w3 ⟨rfl,rfl⟩;rw[Hx.out,show qst none = -1 from rfl]))
    go_ret2
    exact⟨rfl,Hb3.out⟩
   | some i=>
    have hi:i<fs.length:=by
     unfold qj9 at hx;rw[List.findIdx?_eq_some_iff_getElem] at hx;obtain⟨hi,-⟩:=hx;omega
    have Hx:=hid hx;clear hx;go_enter Tryz.func109,Tryz.ntmps109
    go_wp2_with (first
     | (go_at_call 75;refine(qci b 15 (.inr rfl) _ c5).mono ?_;rintro e w' ⟨rfl,rfl⟩)
     | (go_at_call 74;refine HS.out.mono ?_;rintro e w2 ⟨rfl,hb2⟩;have Hb2:=hid hb2;clear hb2;rw[Hpq.out])
     | (go_at_call 83;refine(qcb m _ Hm.out (HT.out.below Hb2.out)).mono ?_;rintro e w3 ⟨rfl,hb3⟩;have Hb3:=hid (Hb2.out.trans (hb3.mono Hb2.out.size));clear hb3;rw[Hex.out])
     | (go_at_call 76;refine(HI'.out _ (qac.below Hb3.out _ _ c9) (qac.below Hb3.out)).mono ?_;rintro e w3 ⟨rfl,rfl⟩;rw[Hx.out,show qst (some i)=(i:Int) from rfl])
     | (go_at_call 140;refine(HMe.out _ Hb3.out i hi).mono ?_;rintro e w4 ⟨rfl,rfl⟩))
    go_ret2
    refine⟨?_,Hb3.out⟩;simp[idxV,zu,zr hi]
theorem qel.obAt {F:Fix} {s:St} {w:World} (hok:BOk F s w) {x:Nat} {p n:Int} {ptr:Bool} (h:qel (rdT w) x (F.pk p) n ptr) (hn:IsNm n) (hp:p=0∨p=1):qgt w x (F.pk p) p n:=by
 obtain⟨h1,h2⟩:=h.cells;obtain⟨cs,T,q1,-⟩:=qb7 h1;exact⟨qax h1,qax h2,(hok.pkc hp).2,hn,hp,T,cs.toList,by unfold Blk;simpa using q1⟩
def qih (l:List Mn):List (Int×Int):=l.map fun m=>(m.p,m.n)
theorem qmn {F:Fix} {st:St} {G:Nat→Prop} {w:World} {b:Nat} {s:Spot} {ts:Nat} {l:List Mn} (h:qo8 F st G w b s ts l) (hok:BOk F st w) (hT:Tabs w) {q m:Int} (hq:q=0∨q=1) (hm:IsNm m) (h8:m≠8):
  Calls Tryz.prog 112 #[ptrV ts,ptrV (F.pk q),.string (qas m),.bool false] w (qa2 (idxV (qhz (qih l) q m) (l.map fun m=>qbf st m.k)) w):=by
 obtain⟨a,c,tv,h1,h2,-⟩:=h.set;have c1:=h1.cell 1;simp only[zt,zs] at c1;have hl1:=h1.lt;have hlen:(l.map fun m=>qbf st m.k).length=l.length:=by simp
 have hle:=qjf h.dis fun m hm=>(h.ok m hm).1;have hrow:=qeh h2;have hcap:(l.map fun m=>qbf st m.k).length≤c:=by obtain⟨_,_,he,hle,-⟩:=qak h2;cases he;exact hle
 have HM:=hid (qmb a c (l.map fun m=>qbf st m.k) (qih l) F.pk q m w hT (by simp[qih]) hrow hcap (by rw[hlen];omega) (fun i hi hk=>by
  simp only[qih,List.length_map] at hk;simp only[qih,List.getElem_map];have h3:=h.ok l[i] (z7 hk);exact h3.2.obAt hok h3.1.1 h3.1.2) hm h8 hq (hok.pkc hq).2)
 obtain⟨fs,hfs⟩:∃ fs,fs=l.map fun m=>qbf st m.k:=⟨_,rfl⟩;rw[← hfs] at HM c1 ⊢;clear h h1 h2 hrow hcap hlen hfs hok hT;obtain⟨r,hr⟩:∃ r,r=idxV (qhz (qih l) q m) fs:=⟨_,rfl⟩;have htup:∃ i p,r = .tuple #[.int .i64 i,.pointer p]:=by
  rw[hr];unfold idxV;split
  ·exact⟨_,_,rfl⟩
  ·exact⟨_,_,rfl⟩
 rw[← hr] at HM ⊢;clear hr;obtain⟨i,p,rfl⟩:=htup;go_enter Tryz.func112,Tryz.ntmps112
 go_wp2_with (go_at_call 142;refine HM.out.mono ?_;rintro e w2 ⟨rfl,hb2⟩;have Hb2:=hid hb2;clear hb2)
 go_ret2
 exact⟨rfl,Hb2.out⟩
end Go.Proofs.YtaibcdkadbemgaaGreatDoor
namespace Go.Proofs.YtaibcdkadbemgaaGreatDoor
open Go Go.RowKit
def ndS (d:Nat):Spot:=⟨.mk 1 d [] [] [] [],0,0⟩
def nrm (s:Spot):Spot:=if s.of.kind=1 then ndS s.of.num.toNat else s
def pl (W:Wd) (s:Spot):Spot:=nrm (plain W s)
theorem qgb {s:Spot} (h:s.of.kind≠1):nrm s=s:=if_neg h
theorem qly {s:Spot} (h:s.of.kind=1):nrm s=ndS s.of.num.toNat:=if_pos h
theorem qfn (s:Spot):(nrm s).of.kind=s.of.kind:=by
 by_cases h:s.of.kind=1
 ·rw[qly h,h];rfl
 ·rw[qgb h]
theorem qmd {s:Spot}:(nrm s).of.num.toNat=s.of.num.toNat:=by
 by_cases h:s.of.kind=1
 ·rw[qly h];exact Int.toNat_natCast _
 ·rw[qgb h]
theorem den_nd {g:G} {s:Spot} {v:Value} (hk:s.of.kind=1) (h:g.tb s.of.num.toNat=some v):Den g s v:=by
 obtain⟨⟨k,m,el,fs,ms,em⟩,at_,p⟩:=s;simp only[Den,DenT,Ty.kind,Ty.num] at *;exact .inl ⟨hk,h⟩
theorem Den.nrm {g:G} {s:Spot} {v:Value} (h:Den g s v):Den g (nrm s) v:=by
 by_cases hk:s.of.kind=1
 ·refine den_nd (by rw[qfn,hk]) ?_;rw[qmd];exact h.named hk
 ·rw[qgb hk];exact h
theorem qn6 (W:Wd) (s:Spot):qae W (nrm s)=qae W s:=by
 by_cases hk:s.of.kind=1
 ·unfold qae qb9;rw[if_pos (by rw[qfn];exact hk),if_pos hk,qmd]
 ·rw[qgb hk]
inductive CT where
 | leaf (l:List (Int×Int))
 | node (l:List (Int×Int)) (a b:CT)
def cid (p n:Int):Int×Int:=(if qay n=true then 0 else p,n)
theorem qkd (p n q m:Int):qbp p n q m=true↔cid p n=cid q m:=by
 unfold qbp cid;simp only[Bool.and_eq_true,Bool.or_eq_true,beq_iff_eq,Prod.mk.injEq];constructor
 ·rintro⟨rfl,h⟩;refine⟨?_,rfl⟩;rcases h with h|h
  ·simp[h]
  ·rw[h]
 ·rintro⟨h1,rfl⟩;refine⟨rfl,?_⟩;by_cases h:qay n=true
  ·exact .inl h
  ·simp only[h] at h1;exact .inr h1
open Classical in
noncomputable def msL (W:Wd) (s:Spot):List Mn:=if h:∃ l,MS W s l then h.choose else []
theorem qug {W:Wd} {s:Spot} {l:List Mn} (h:MS W s l):msL W s=l:=by
 unfold msL;rw[dif_pos ⟨l,h⟩];exact(Exists.choose_spec (⟨l,h⟩:∃ l,MS W s l)).unique h
def qjg (W:Wd) (x:Spot) (i:Nat):List (Int×Int):=[(if(x.of.fields.getD i fd0).embedded=true then 1 else 0,0),cid x.pkg (fname W (x.of.fields.getD i fd0))]
noncomputable def cano (W:Wd):Nat→Spot→CT
 | 0,_ => .leaf [(-1,0)]
 | n+1,s=>
  if(plain W s).of.kind=1 then .leaf [(1,(plain W s).of.num)]
  else if(plain W s).of.kind=0 then .leaf [(0,(plain W s).of.num)]
  else if(plain W s).of.kind=4 then .node [(4,(plain W s).of.fields.length)] ((List.range (plain W s).of.fields.length).foldr (fun i t => .node (qjg W (plain W s) i) (cano W n (qao (plain W s) i)) t) (.leaf [])) (.leaf [])
  else if(plain W s).of.kind=5 then .leaf ((5,0)::(msL W (plain W s)).map fun m=>cid m.p m.n)
  else .node [((plain W s).of.kind,0)] (cano W n (qaq (plain W s))) (.leaf [])
theorem qla {l:List Nat} {a a':Nat→List (Int×Int)} {b b':Nat→CT} {z:CT}:l.foldr (fun i t=>CT.node (a i) (b i) t) z=l.foldr (fun i t=>CT.node (a' i) (b' i) t) z↔∀ i∈l,a i=a' i∧b i=b' i:=by
 induction l with
 | nil=>simp
 | cons i r ih=>
  simp only[List.foldr_cons,CT.node.injEq,ih,zfb,forall_eq_or_imp];constructor
  ·rintro⟨h1,h2,h3⟩;exact⟨⟨h1,h2⟩,h3⟩
  ·rintro⟨⟨h1,h2⟩,h3⟩;exact⟨h1,h2,h3⟩
noncomputable def can (W:Wd) (s:Spot):CT:=cano W 2002 s
def drf (W:Wd) (s:Spot):Spot×Bool:=if(plain W s).of.kind=2 then(qaq (plain W s),true) else(s,false)
structure En where
 to:Spot
 ix:List Nat
 ind:Bool
 mul:Bool
structure Hi where
 ob:Nat
 met:Bool
 ptr:Bool
 ix:List Nat
 ind:Bool
abbrev Stp (α:Type):=Except (List Nat) α
def qgu (e:En) (h:Option Hi) (i k:Nat) (met ptr:Bool):Stp (Option Hi):=if(h.isSome||e.mul)=true then .error (e.ix++[i]) else .ok (some ⟨k,met,ptr,e.ix++[i],e.ind⟩)
def subE (W:Wd) (e:En) (u:Spot) (i:Nat):En:=⟨pl W (drf W (qao u i)).1,e.ix++[i],e.ind||(drf W (qao u i)).2,e.mul⟩
def fldS (W:Wd) (q m:Int) (e:En) (u:Spot) (i:Nat) (st:Option Hi×List En):Stp (Option Hi×List En):=
 if qbp u.pkg (fname W (u.of.fields.getD i fd0)) q m=true then
  match qgu e st.1 i (qe0 u i) false false with
  | .ok h => .ok (h,st.2)
  | .error x => .error x
 else if(st.1.isNone&&(u.of.fields.getD i fd0).embedded)=true then .ok (st.1,st.2++[subE W e u i])
 else .ok st
def flds (W:Wd) (q m:Int) (e:En) (u:Spot):Nat→Nat→Option Hi×List En→Stp (Option Hi×List En)
 | 0,_,st => .ok st
 | n+1,i,st=>match fldS W q m e u i st with
  | .ok st=>flds W q m e u n (i+1) st
  | .error x => .error x
noncomputable def typS (W:Wd) (q m:Int) (e:En) (st:Option Hi×List En):Stp (Option Hi×List En):=
 if(qae W e.to).of.kind=4 then flds W q m e (qae W e.to) (qae W e.to).of.fields.length 0 st
 else if(qae W e.to).of.kind=5 then
  match qhz (qih (msL W (qae W e.to))) q m with
  | some i=>match qgu e st.1 i ((msL W (qae W e.to)).getD i mn0).k true false with
   | .ok h => .ok (h,st.2)
   | .error x => .error x
  | none => .ok st
 else .ok st
noncomputable def entS (W:Wd) (q m:Int) (e:En) (st:Option Hi×List En):Stp (Option Hi×List En):=
 match if e.to.of.kind=1 then qey W e.to.of.num.toNat q m else none with
 | some i=>match qgu e st.1 i (start W e.to.of.num.toNat+i) true ((dc W e.to.of.num.toNat).methods.getD i ⟨0,false⟩).ptr with
  | .ok h => .ok (h,st.2)
  | .error x => .error x
 | none=>typS W q m e st
noncomputable def ents (W:Wd) (q m:Int):List En→(Option Hi×List En)→List Nat→Stp ((Option Hi×List En)×List Nat)
 | [],st,S => .ok (st,S)
 | e::r,st,S=>
  if e.to.of.kind=1∧e.to.of.num.toNat∈S then ents W q m r st S
  else match entS W q m e st with
   | .ok st=>ents W q m r st (if e.to.of.kind=1 then S++[e.to.of.num.toNat] else S)
   | .error x => .error x
open Classical in
noncomputable def conS (W:Wd) (acc:List En) (e:En):List En:=match acc.findIdx? fun a=>decide (can W a.to=can W e.to) with
 | some i=>acc.modify i fun a=>{ a with mul:=true }
 | none=>acc++[e]
noncomputable def qbc (W:Wd) (l:List En):List En:=l.foldl (conS W) []
structure Rs where
 ob:Option (Nat×Bool)
 ix:List Nat
 ind:Bool
noncomputable def lvs (W:Wd) (addr:Bool) (q m:Int):Nat→List En→List Nat→Rs
 | 0,_,_=>⟨none,[],false⟩
 | n+1,cur,S=>
  if cur=[] then⟨none,[],false⟩
  else match ents W q m cur (none,[]) S with
   | .error x=>⟨none,x,false⟩
   | .ok ((some h,_),_)=>if(h.met&&h.ptr&&!h.ind&&!addr)=true then⟨none,[],true⟩ else⟨some (h.ob,h.met),h.ix,h.ind⟩
   | .ok ((none,nx),S')=>lvs W addr q m n (qbc W nx) S'
def qj2 (W:Wd):Nat:=(W.length+1) * 2003+2003
noncomputable def qhf (W:Wd) (s:Spot) (addr:Bool) (q m:Int):Rs:=
 if m=8 then⟨none,[],false⟩
 else if(drf W s).2=true∧(qae W (drf W s).1).of.kind=5 then⟨none,[],false⟩
 else lvs W addr q m (qj2 W) [⟨pl W (drf W s).1,[],(drf W s).2,false⟩] []
noncomputable def qch (W:Wd) (s:Spot) (addr:Bool) (q m:Int):Rs:=
 if(plain W s).of.kind=1∧(qae W s).of.kind=2 then
  match (qhf W (qae W s) false q m).ob with
  | some (_,true)=>⟨none,[],false⟩
  | _=>qhf W (qae W s) false q m
 else qhf W s addr q m
theorem qlw:∀ (l:List Fd) (k:Nat),k<qar l→∃ j,j<l.length∧qar (l.take j)≤k∧k<qar (l.take j)+1+(l.getD j fd0).of.size
 | [],k,h=>by simp[qar] at h
 | .mk n e t::r,k,h=>by
  by_cases h1:k<1+t.size
  ·exact⟨0,by simp,by simp[qar],by simp[qar,Fd.of];omega⟩
  ·simp only[qar] at h;obtain⟨j,q1,q2,q3⟩:=qlw r (k - (1+t.size)) (by omega);exact⟨j+1,by simpa using q1,by simp only[List.take_succ_cons,qar];omega,by simp only[List.take_succ_cons,qar,List.getD_cons_succ];omega⟩
theorem qln:∀ (l:List Ty) (k:Nat),k<qau l→∃ j,j<l.length∧qau (l.take j)≤k∧k<qau (l.take j)+(l.getD j ty0).size
 | [],k,h=>by simp[qau] at h
 | t::r,k,h=>by
  by_cases h1:k<t.size
  ·exact⟨0,by simp,by simp[qau],by simp[qau];omega⟩
  ·simp only[qau] at h;obtain⟨j,q1,q2,q3⟩:=qln r (k - t.size) (by omega);exact⟨j+1,by simpa using q1,by simp only[List.take_succ_cons,qau];omega,by simp only[List.take_succ_cons,qau,List.getD_cons_succ];omega⟩
def ObIn (g:G) (k:Nat):Prop:=∃ m x u,g.ob k=some (m,x)∧g.rd x 0=some u
theorem qfc {g:G} {W:Wd} {d:Int}:∀ (n:Nat) (val:Bool) (s:Spot) (v:Value),s.of.bulk≤n→qam W d val s.of→Den g s v→∀ k,s.at_≤k→k<s.at_+s.of.size→ObIn g k
 | 0,_,s,_,hn,_,_,_,_,_=>by have:=qd3 s.of;omega
 | n+1,val,s,v,hn,hf,hd,k,h1,h2=>by
  have hbe:=qbd s.of;have hsz:=qkt s.of;rcases hf.kinds with hk|hk|hk|hk|hk|hk
  ·obtain⟨e1,e2,e3,e4,-⟩:=hf.k0 hk;rw[e1,e2,e3,e4] at hsz;simp[qau,qar] at hsz;omega
  ·obtain⟨e1,e2,e3,e4,-⟩:=hf.k1 hk;rw[e1,e2,e3,e4] at hsz;simp[qau,qar] at hsz;omega
  ·obtain⟨en,e2,e3,e4,el,ef⟩:=hf.k23 (.inl hk);obtain⟨b,u,-,-,h3⟩:=hd.ptr hk;have he:s.of.elem=[s.of.el0]:=by
    cases hel:s.of.elem with
    | nil=>rw[hel] at el;simp at el
    | cons x r=>rw[hel] at el;cases r with
     | nil=>simp[Ty.el0,hel]
     | cons=>simp at el
   rw[e2,e3,e4,he] at hsz;simp[qau,qar] at hsz;rw[he] at hbe;simp[qbt] at hbe;exact qfc n false (qaq s) u (by simp only[qaq];omega) ef h3 k h1 (by simp only[qaq];omega)
  ·obtain⟨en,e2,e3,e4,el,ef⟩:=hf.k23 (.inr hk);obtain⟨b,u,-,-,h3⟩:=hd.slice hk;have he:s.of.elem=[s.of.el0]:=by
    cases hel:s.of.elem with
    | nil=>rw[hel] at el;simp at el
    | cons x r=>rw[hel] at el;cases r with
     | nil=>simp[Ty.el0,hel]
     | cons=>simp at el
   rw[e2,e3,e4,he] at hsz;simp[qau,qar] at hsz;rw[he] at hbe;simp[qbt] at hbe;exact qfc n false (qaq s) u (by simp only[qaq];omega) ef h3 k h1 (by simp only[qaq];omega)
  ·obtain⟨-,e2,e3,e4,ef⟩:=hf.k4 hk;rw[e2,e3,e4] at hsz;simp[qau] at hsz;obtain⟨b,a,c,-,-,-,h5⟩:=hd.struct hk;obtain⟨j,q1,q2,q3⟩:=qlw s.of.fields (k - s.at_) (by omega);obtain⟨gb,o,x,u,-,-,r3,r4,r5⟩:=h5 j q1;by_cases hkj:k=qe0 s j
   ·exact⟨false,x,_,hkj ▸ r3,r4 0 _ rfl⟩
   ·have hg:s.of.fields.getD j fd0=s.of.fields[j]:=by simp[zu,zr q1]
    have hb:=qbx s.of.fields j q1;unfold qe0 at hkj;refine qfc (W:=W) (d:=d) n val (qao s j) u ?_ ?_ r5 k ?_ ?_
    ·simp only[qao,hg];omega
    ·simp only[qao,hg];exact(ef.get j q1).2.2
    ·simp only[qao];omega
    ·simp only[qao];omega
  ·obtain⟨-,e2,e3,e4,ef⟩:=hf.k5 hk;rw[e2,e3] at hsz;simp[qau,qar] at hsz;obtain⟨b,a,c,a',c',-,-,-,-,-,h4,h5⟩:=hd.iface hk;by_cases hkm:k<s.at_+s.of.methods.length
   ·have hm:(k - s.at_)∈ordM s.pkg s.of.methods:=((qjc s.pkg s.of.methods).1.mem_iff).2 (List.mem_range.2 (by omega));obtain⟨i,hi⟩:=List.mem_iff_getElem?.1 hm;obtain⟨gb,o,x,-,-,r3,r4⟩:=h4 i _ hi;obtain⟨sg,v',T,aa,f1,-⟩:=r4;exact⟨true,x,_,by rw[← r3];congr 1;omega,f1 0 _ rfl⟩
   ·obtain⟨j,q1,q2,q3⟩:=qln s.of.embeds (k - s.at_ - s.of.methods.length) (by omega);obtain⟨gb,o,u,-,-,r3⟩:=h5 j q1;have hg:s.of.embeds.getD j ty0=s.of.embeds[j]:=by simp[zu,zr q1]
    have hb:=qa6 s.of.embeds j q1;refine qfc (W:=W) (d:=d) n true (qav s j) u ?_ ?_ r3 k ?_ ?_
    ·simp only[qav,hg];omega
    ·simp only[qav,hg];exact ef.get j q1
    ·simp only[qav];omega
    ·simp only[qav];omega
theorem qld (W:Wd):∀ (n:Nat),n≤W.length→∀ k,k<start W n→∃ d,d<n∧start W d≤k∧k<start W (d+1)
 | 0,_,k,h=>by simp[start,sumD] at h
 | n+1,hn,k,h=>by
  by_cases h1:k<start W n
  ·obtain⟨d,q1,q2,q3⟩:=qld W n (by omega) k h1;exact⟨d,by omega,q2,q3⟩
  ·exact⟨n,by omega,by omega,h⟩
theorem qh0 {W:Wd} {d:Nat} (hd:d<W.length) (hB:qcp W) (h:0<(dc W d).of.size):(dc W d).of.kind≠1:=fun hk=>by
 obtain⟨e1,e2,e3,e4,-⟩:=(hB d hd).k1 hk;have:=qkt (dc W d).of;rw[e1,e2,e3,e4] at this;simp[qau,qar] at this;omega
theorem qm6.cover {F:Fix} {w0:World} {s:St} {w:World} (h:qm6 F w0 s w) {t:Ty} (hFit:qfz F.W t) {v:Value} (hd:Den (gOf F s (rdT w)) (operand F.W t) v) {k:Nat} (hk:k<start F.W F.W.length+t.size):∃ m x T cs,s.ob k=some (m,x)∧Blk w x T cs:=by
 have hB:qcp F.W:=fun d hd=>(hFit.names d hd).2.2.2.1;have key:ObIn (gOf F s (rdT w)) k:=by
  by_cases h1:k<start F.W F.W.length
  ·obtain⟨d,hdl,q2,q3⟩:=qld F.W _ (zl _) k h1;have hst:=qc2 hdl;unfold qi8 at hst;have hset:=h.set d hdl;unfold qe5 at hset;split at hset
   next hal=>
    obtain⟨al,tn,rhs,u,m,q⟩:=hset;have hm0:=(hFit.names d hdl).2.2.2.2 hal;rw[hm0] at hst;simp only[List.length_nil] at hst;have hkd:=qh0 hdl hB (by omega);have hden:=q.den;rw[qbg (fun e=>hkd e.1)] at hden;exact qfc _ true (qad F.W d) u (zl _) (hB d hdl) hden k (by simp only[qad,hm0,List.length_nil];omega) (by simp only[qad,hm0,List.length_nil];omega)
   next hal=>
    obtain⟨b',tn,U,ux,ra,rc,fs,q⟩:=hset;by_cases hkm:k<start F.W d+(dc F.W d).methods.length
    ·obtain⟨r1,sg,v',T,aa,f1,-⟩:=q.ms (k - start F.W d) (by rw[q.len];omega);exact⟨true,_,_,by rw[← r1];show s.ob k=s.ob _;congr 1;omega,f1 0 _ rfl⟩
    ·have hkd:=qh0 hdl hB (by omega);have hden:=q.den;rw[qdu (s:=qad F.W d) hkd] at hden;exact qfc _ true (qad F.W d) _ (zl _) (hB d hdl) hden k (by simp only[qad];omega) (by simp only[qad];omega)
  ·exact qfc _ true (operand F.W t) v (zl _) hFit.formed hd k (by simp only[operand];omega) (by simp only[operand];omega)
 obtain⟨m,x,u,h1,h2⟩:=key;obtain⟨cs,T,q1,-⟩:=qb7 h2;exact⟨m,x,T,cs.toList,h1,by unfold Blk;simpa using q1⟩
theorem Tryz.szFn:(Tryz.prog.info? 167).map (·.size)=some 6:=by kernel_rfl
theorem Tryz.szVr:(Tryz.prog.info? 191).map (·.size)=some 6:=by kernel_rfl
section
variable {P:Program} {t:TypeId}
theorem qfi (w:World) {m} (ht:P.underlying t=some (.interface m)) {T U:TypeId} (h:T≠U) (v u:Value):(binOp .eql t (.iface T v) (.iface U u)).run P w = .ok (.bool false) w:=by
 have h':∀ d:Nat,(Op.equalIn (d+1) t (.iface T v) (.iface U u)).run P w = .ok false w:=fun d=>by
  simp[Op.equalIn,run_underlying ht,h]
 simp only[binOp];simp[Op.equal,Op.maxDepth,h' 9999]
theorem qd2 (w:World) {m} (ht:P.underlying t=some (.interface m)) {T te:TypeId} {j:TypeInfo} (hp:P.underlying T=some (.pointer te)) (hte:P.info? te=some j) {i:TypeInfo} (hT:P.info? T=some i) (hc:i.comparable=true) (a:Addr):(binOp .eql t (.iface T (.pointer (some a))) (.iface T (.pointer (some a)))).run P w = .ok (.bool true) w:=by
 have h1:∀ d:Nat,(Op.equalIn (d+1) T (.pointer (some a)) (.pointer (some a))).run P w = .ok true w:=fun d=>by
  simp[Op.equalIn,run_underlying hp,sizeOf,typeInfo,hte,run_sameAddr_same]
 have h':∀ d:Nat,(Op.equalIn (d+2) t (.iface T (.pointer (some a))) (.iface T (.pointer (some a)))).run P w = .ok true w:=fun d=>by
  rw[show d+2=(d+1)+1 from rfl]
  conv=>lhs;unfold Op.equalIn
  simp[run_underlying ht,h1,typeInfo,hT,hc]
 simp only[binOp];simp[Op.equal,Op.maxDepth,h' 9998]
theorem qdn (w:World) {m} (ht:P.underlying t=some (.interface m)) {T te:TypeId} {j:TypeInfo} (hp:P.underlying T=some (.pointer te)) (hte:P.info? te=some j) (hsz:j.size≠0) {i:TypeInfo} (hT:P.info? T=some i) (hc:i.comparable=true) {a b:Addr} {ca cb:Array Value} {ta tb:TypeId} (hne:a≠b) (ha:w.heap[a.block]?=some (.cells ca ta (0,0))) (hb:w.heap[b.block]?=some (.cells cb tb (0,0))):(binOp .eql t (.iface T (.pointer (some a))) (.iface T (.pointer (some b)))).run P w = .ok (.bool false) w:=by
 have h1:∀ d:Nat,(Op.equalIn (d+1) T (.pointer (some a)) (.pointer (some b))).run P w = .ok false w:=fun d=>by
  simp[Op.equalIn,run_underlying hp,sizeOf,typeInfo,hte,hsz,run_sameAddr_other w hne ha hb]
 have h':∀ d:Nat,(Op.equalIn (d+2) t (.iface T (.pointer (some a))) (.iface T (.pointer (some b)))).run P w = .ok false w:=fun d=>by
  rw[show d+2=(d+1)+1 from rfl]
  conv=>lhs;unfold Op.equalIn
  simp[run_underlying ht,h1,typeInfo,hT,hc]
 simp only[binOp];simp[Op.equal,Op.maxDepth,h' 9998]
end
theorem Tryz.cmpF:(Tryz.prog.info? 105).map (·.comparable)=some true:=by kernel_rfl
theorem Tryz.cmpV:(Tryz.prog.info? 151).map (·.comparable)=some true:=by kernel_rfl
theorem eq_obj (w:World) (m n:Bool) (x y:Nat) {T U:TypeId} {cs ds:List Value} (hx:Blk w x T cs) (hy:Blk w y U ds):(binOp .eql 67 (objV (some (m,x))) (objV (some (n,y)))).run Tryz.prog w = .ok (.bool (m==n&&x==y)) w:=by
 obtain⟨jf,hjf,hjf2⟩:=zab.1 Tryz.szFn;obtain⟨jv,hjv,hjv2⟩:=zab.1 Tryz.szVr;obtain⟨cf,hcf,hcf2⟩:=zab.1 Tryz.cmpF;obtain⟨cv,hcv,hcv2⟩:=zab.1 Tryz.cmpV;have hne:x≠y→(⟨x,0,none⟩:Addr)≠⟨y,0,none⟩:=fun h e=>h (by cases e;rfl);by_cases hxy:x=y
 ·subst hxy;cases m <;> cases n
  ·exact(qd2 w Tryz.underlying67 Tryz.underlying151 hjv hcv hcv2 _).trans (by simp)
  ·exact(qfi w Tryz.underlying67 (by decide) _ _).trans (by simp)
  ·exact(qfi w Tryz.underlying67 (by decide) _ _).trans (by simp)
  ·exact(qd2 w Tryz.underlying67 Tryz.underlying105 hjf hcf hcf2 _).trans (by simp)
 ·cases m <;> cases n
  ·exact(qdn w Tryz.underlying67 Tryz.underlying151 hjv (by rw[hjv2];decide) hcv hcv2 (hne hxy) hx hy).trans (by simp[hxy])
  ·exact(qfi w Tryz.underlying67 (by decide) _ _).trans (by simp)
  ·exact(qfi w Tryz.underlying67 (by decide) _ _).trans (by simp)
  ·exact(qdn w Tryz.underlying67 Tryz.underlying105 hjf (by rw[hjf2];decide) hcf hcf2 (hne hxy) hx hy).trans (by simp[hxy])
theorem eqg_obj (m n:Bool) (x y:Nat) (t:TypeId) (p q:Operand) (w:World):(eqGuard .eql t p q (objV (some (m,x))) (objV (some (n,y)))).run Tryz.prog w = .ok () w:=by
 cases m <;> cases n <;> rfl
end Go.Proofs.YtaibcdkadbemgaaGreatDoor
namespace Go.Proofs.YtaibcdkadbemgaaGreatDoor
open Go Go.RowKit
set_option maxRecDepth 100000
def Cov (F:Fix) (s:St) (w:World):Prop:=∀ k,k<F.N→∃ m x T cs,s.ob k=some (m,x)∧Blk w x T cs
theorem Cov.keep {F:Fix} {s:St} {w w':World} (h:Cov F s w) (hb:Below w.heap.size w w'):Cov F s w':=fun k hk=>by
 obtain⟨m,x,T,cs,h1,h2⟩:=h k hk;exact⟨m,x,T,cs,h1,h2.keep hb⟩
theorem qr2 {F:Fix} {s:St} {w:World} (hok:BOk F s w) (hc:Cov F s w) (hN:F.N≤4194304) {k0:Nat} (hk:k0<F.N) {m:Bool} {x:Nat} (ho:s.ob k0=some (m,x)):
  Calls Tryz.prog 47 #[ptrV F.bb,objV (some (m,x))] w fun e w'=>e = .returned (.int .i64 k0)∧w'=w:=by
 have b2:=hok.bld.cell 2;simp only[zt,zs] at b2;have HR:=hid (fun i (hi:i<F.N)=>(show w.cell? ⟨F.ob0,i,none⟩=some (objV (s.ob i)) by
  obtain⟨os,o1,o2⟩:=hok.obj;rw[o1.cell];exact o2 i hi))
 have Hinj:=hid hok.inj;have Hc:=hid hc;have Ho:=hid ho;have hbl:=hok.bld.lt;have hol:F.ob0<w.heap.size:=by obtain⟨os,o1,-⟩:=hok.obj;exact o1.lt
 clear hok hc ho;obtain⟨v,hv⟩:∃ v,v=objV (some (m,x)):=⟨_,rfl⟩;have Hv:=hid hv;rw[← hv];clear hv;go_enter Tryz.func47,Tryz.ntmps47
 go_wp2_with fail
 go_loop [12] (fun j=>∃ i:Nat,i≤k0∧j = .int .i64 i) (fun j=>k0 - (intOf j).toNat)
 case atStart=>exact⟨0,Nat.zero_le _,rfl⟩
 case round=>
  obtain⟨i,hi,rfl⟩:=hrel;have hiN:i<F.N:=by omega
  have hiN':(i:Int)<(F.N:Int):=by omega
  have hc:=HR.out i hiN;obtain⟨m',x',T,cs,h1,h2⟩:=Hc.out i hiN;obtain⟨m0,x0,T0,cs0,g1,g2⟩:=Hc.out k0 hk;rw[Ho.out] at g1;cases g1;have hq:=eq_obj w m' m x' x h2 g2;have hg:=eqg_obj m' m x' x 67 (.tmp 17) (.tmp 18) w;rw[h1] at hc;rw[← Hv.out] at hq hg;obtain⟨u,hu⟩:∃ u,u=objV (some (m',x')):=⟨_,rfl⟩;rw[← hu] at hc hq hg;by_cases he:i=k0
  ·subst he;rw[Ho.out] at h1;cases h1;simp only[BEq.rfl,Bool.and_self] at hq;clear h2 g2 hu
   go_wp2_with fail
   go_ret
   exact⟨rfl,rfl⟩
  ·have hxx:x'≠x:=fun e=>he (Hinj.out i k0 _ _ h1 Ho.out e);have hb:(m'==m&&x'==x)=false:=by simp[hxx]
   rw[hb] at hq;clear h2 g2 hu h1 hb
   go_wp2_with fail
   go_round
   case rel=>exact⟨i+1,by omega,by go_num⟩
   case measure=>simp[intOf];omega
end Go.Proofs.YtaibcdkadbemgaaGreatDoor
namespace Go.Proofs.YtaibcdkadbemgaaGreatDoor
open Go Go.RowKit
structure SpO (W:Wd) (P:Nat→Nat) (s:Spot):Prop where
 pp:s.pkg=0∨s.pkg=1
 bk:s.of.bulk≤1048576
 va:qdp W s.pkg s.of s.at_
 fo:∃ d val,qam W d val s.of
 sz:op P s.of≤2001
 nn:s.at_+s.of.size<P W.length
theorem SpO.numOk {W:Wd} {P:Nat→Nat} {s:Spot} (h:SpO W P s):qdw W s:=by
 obtain⟨d,val,hf⟩:=h.fo;exact hf.numOk
theorem SpO.decl {W:Wd} {P:Nat→Nat} {t:Ty} (hf:qfz W t) (hs:qdx W t P) (hb:qbw W≤1048576) (hN:start W W.length<P W.length) {d:Nat} (hd:d<W.length):SpO W P (qad W d):=by
 obtain⟨-,-,q1,q2,-⟩:=hf.names d hd;have h1:=qfe hd;refine⟨q1,?_,hf.valid d hd,⟨_,_,q2⟩,Nat.le_succ_of_le (hs.decl d hd),?_⟩
 ·unfold Dc.bulk at h1;simp only[qad];omega
 ·have h2:=qc2 hd;have h3:=qdk W (show d+1≤W.length from hd);unfold qi8 at h2;simp only[qad];omega
theorem SpO.operand {W:Wd} {P:Nat→Nat} {t:Ty} (hf:qfz W t) (hs:qdx W t P) (hb:t.bulk≤1048576) (hN:start W W.length+t.size<P W.length):SpO W P (operand W t):=
 ⟨.inl rfl,hb,hf.validT,⟨_,_,hf.formed⟩,hs.operand,hN⟩
theorem op_nd {P:Nat→Nat} {t:Ty} (hk:t.kind=1):P t.num.toNat≤op P t:=by
 cases t;simp only[op,Ty.kind,Ty.num] at *;rw[if_pos hk];omega
theorem qw9 (P:Nat→Nat) (d:Nat):op P (ndS d).of=P d:=by simp[ndS,op,opT,opF]
theorem op_elem {P:Nat→Nat} {t:Ty} (hk:t.kind≠1) (h:t.elem.length=1):op P t.el0<op P t:=by
 cases t;simp only[op,Ty.kind,Ty.elem,Ty.el0] at *;rename_i k m el fs ms em
 match el,h with
 | [x],_=>
  simp only[opT,if_neg hk,List.getD_cons_zero];omega
theorem quw (P:Nat→Nat):∀ (l:List Fd) (i:Nat) (hi:i<l.length),op P l[i].of≤opF P l
 | .mk _ _ t::r,0,_=>by simp only[opF,zi,Fd.of];omega
 | .mk _ _ t::r,i+1,hi=>by
  have:=quw P r i (by simpa using hi);simp only[opF,zh];omega
theorem qwe {P:Nat→Nat} {t:Ty} (hk:t.kind≠1) (i:Nat) (hi:i<t.fields.length):op P (t.fields.getD i fd0).of<op P t:=by
 have e:t.fields.getD i fd0=t.fields[i]:=by simp[hi]
 rw[e];have h1:=quw P t.fields i hi;cases t;simp only[op,Ty.kind,Ty.fields] at *;rw[if_neg hk];omega
theorem SpO.nds {W:Wd} {P:Nat→Nat} {d:Nat} (hd:d<W.length) (ho:P d≤2001) (hN:0<P W.length):SpO W P (ndS d):=by
 refine⟨.inl rfl,by simp[ndS,Ty.bulk,qbt,qcm],by simp[ndS,qdp,qb1,qc0,qcr,qjv],⟨-1,false,?_⟩,by rw[qw9];exact ho,by simpa[ndS,Ty.size,qau,qar] using hN⟩;simp only[ndS,qam];exact .inr (.inl (by refine⟨by trivial,by trivial,by trivial,by trivial,by trivial,by omega,by omega,.inr ⟨by trivial,.inl (by omega)⟩⟩))
theorem SpO.toNrm {W:Wd} {P:Nat→Nat} {s:Spot} (h:SpO W P s):SpO W P (nrm s)∧op P (nrm s).of≤op P s.of:=by
 by_cases hk:s.of.kind=1
 ·have h1:=h.numOk hk;have h2:=op_nd (P:=P) hk;rw[qly hk];refine⟨SpO.nds (by omega) (by have:=h.sz;omega) (by have:=h.nn;omega),?_⟩;rw[qw9];exact h2
 ·rw[qgb hk];exact⟨h,zl _⟩
structure WdO (W:Wd) (P:Nat→Nat):Prop where
 by_:qcp W
 nm:∀ d,d<W.length→IsNm (dc W d).name∧(dc W d).name≠8∧((dc W d).pkg=0∨(dc W d).pkg=1)∧((dc W d).alias=true→(dc W d).methods=[])
 sp:∀ d,d<W.length→SpO W P (qad W d)
 al:∀ d,d<W.length→(dc W d).alias=true→op P (dc W d).of≤P d
 pos:∀ n,1≤P n
 de:∀ d,d<W.length→qen W d
 len:W.length≤1048576
 bulk:qbw W≤1048576
theorem WdO.of {W:Wd} {P:Nat→Nat} {t:Ty} (hf:qfz W t) (hs:qdx W t P) (hb:qbw W≤1048576) (hN:start W W.length<P W.length):WdO W P:=
 ⟨fun d hd=>(hf.names d hd).2.2.2.1,fun d hd=>⟨(hf.names d hd).1,(hf.names d hd).2.1,(hf.names d hd).2.2.1,(hf.names d hd).2.2.2.2⟩,fun d hd=>SpO.decl hf hs hb hN hd,hs.alias,hs.pos,hf.declared,by have:=qbk W;omega,hb⟩
theorem SpO.toPlain {W:Wd} {P:Nat→Nat} (hW:WdO W P) {s:Spot} (h:SpO W P s):SpO W P (plain W s)∧op P (plain W s).of≤op P s.of:=by
 refine byval_ind' hW.by_ (fun s=>SpO W P s→SpO W P (plain W s)∧op P (plain W s).of≤op P s.of) (fun s hk h => ?_) (fun s hk hn ih h => ?_) s h.numOk h
 ·rw[qbg (fun e=>hk e.1)];exact⟨h,zl _⟩
 ·have hl:s.of.num.toNat<W.length:=by have:=hn hk;omega
  cases ha:(dc W s.of.num.toNat).alias with
  | false=>rw[qbg (fun e=>by rw[ha] at e;cases e.2)];exact⟨h,zl _⟩
  | true=>
   rw[qea hW.by_ hk ha hn];obtain⟨q1,q2⟩:=ih (hW.sp _ hl);have h1:=hW.al _ hl ha;have h2:=op_nd (P:=P) hk;simp only[qad] at q2;exact⟨q1,by simp only[qad];omega⟩
theorem SpO.toUnder {W:Wd} {P:Nat→Nat} (hW:WdO W P) {s:Spot} (h:SpO W P s):SpO W P (qae W s):=by
 refine byval_ind' hW.by_ (fun s=>SpO W P s→SpO W P (qae W s)) (fun s hk h => ?_) (fun s hk hn ih h => ?_) s h.numOk h
 ·rw[qdu hk];exact h
 ·rw[qdg hW.by_ hk hn];exact ih (hW.sp _ (by have:=hn hk;omega))
theorem SpO.toPl {W:Wd} {P:Nat→Nat} (hW:WdO W P) {s:Spot} (h:SpO W P s):SpO W P (pl W s)∧op P (pl W s).of≤op P s.of:=by
 obtain⟨q1,q2⟩:=h.toPlain hW;obtain⟨q3,q4⟩:=q1.toNrm;exact⟨q3,Nat.le_trans q4 q2⟩
theorem SpO.elem {W:Wd} {P:Nat→Nat} {s:Spot} (h:SpO W P s) (hk:s.of.kind=2∨s.of.kind=3):SpO W P (qaq s)∧op P (qaq s).of<op P s.of:=by
 obtain⟨d,val,hf⟩:=h.fo;obtain⟨e1,e2,e3,e4,e5,e6⟩:=hf.k23 hk;have hop:=op_elem (P:=P) (t:=s.of) (by omega) e5;have h1:=h.sz;have h2:=h.bk;have h3:s.of.el0.bulk≤s.of.bulk:=by
  have hb:=qbd s.of;have hg:=qa6 s.of.elem 0 (by omega);have e:s.of.el0=s.of.elem[0]:=by simp[Ty.el0,e5]
  rw[e];omega
 have h4:s.of.el0.size≤s.of.size:=by
  have e:s.of.elem=[s.of.el0]:=by
   cases hel:s.of.elem with
   | nil=>rw[hel] at e5;simp at e5
   | cons x r=>rw[hel] at e5;cases r with
    | nil=>simp[Ty.el0,hel]
    | cons=>simp at e5
  have:=qkt s.of;rw[e] at this;simp[qau] at this;omega
 have h5:=h.nn;exact⟨⟨h.pp,by simp only[qaq];omega,h.va.elem e5,⟨d,false,e6⟩,by simp only[qaq];omega,by simp only[qaq];omega⟩,hop⟩
theorem SpO.field {W:Wd} {P:Nat→Nat} {s:Spot} (h:SpO W P s) (hk:s.of.kind=4) {i:Nat} (hi:i<s.of.fields.length):SpO W P (qao s i)∧op P (qao s i).of<op P s.of:=by
 obtain⟨d,val,hf⟩:=h.fo;obtain⟨e1,e2,e3,e4,e5⟩:=hf.k4 hk;have hop:=qwe (P:=P) (t:=s.of) (by omega) i hi;have h1:=h.sz;have h2:=h.bk;have hg:s.of.fields.getD i fd0=s.of.fields[i]:=by simp[hi]
 have hb:=qbd s.of;have hb2:=qbx s.of.fields i hi;have hv:=(h.va.fields.get i hi).2;have hff:=(e5.get i hi).2.2;have h4:=qdi s.of.fields i hi;have h5:=qbj s.of.fields (i+1);have h6:=qkt s.of;have h7:=h.nn;refine⟨⟨h.pp,?_,?_,⟨d,val,?_⟩,?_,?_⟩,hop⟩
 ·simp only[qao,hg];omega
 ·simp only[qao,hg];exact hv
 ·simp only[qao,hg];exact hff
 ·simp only[qao];omega
 ·simp only[qao,hg];omega
theorem qcr.emb {W:Wd} {p:Int}:∀ {l prev:List Fd} {at_:Nat},qcr W p prev l at_→∀ i (hi:i<l.length),l[i].embedded=true→qdo W p ⟨l[i].of,at_+qar (l.take i)+1,p⟩
 | [],_,_,_,i,hi,_=>by simp at hi
 | .mk n e t::r,prev,at_,h,0,_,he=>by
  simp only[qcr] at h;simpa[qar,Fd.of] using h.1.2.2 he
 | .mk n e t::r,prev,at_,h,i+1,hi,he=>by
  simp only[qcr] at h;have:=qcr.emb h.2 i (by simpa using hi) he;simp only[zh,List.take_succ_cons,qar];rw[show at_+(1+t.size+qar (r.take i))+1=at_+(1+t.size)+qar (r.take i)+1 by omega];exact this
theorem SpO.embOk {W:Wd} {P:Nat→Nat} {s:Spot} (h:SpO W P s) {i:Nat} (hi:i<s.of.fields.length) (he:(s.of.fields.getD i fd0).embedded=true):qdo W s.pkg (qao s i):=by
 have hg:s.of.fields.getD i fd0=s.of.fields[i]:=by simp[hi]
 rw[hg] at he;have:=h.va.fields.emb i hi he;simp only[qao,hg];exact this
theorem SpO.fnm {W:Wd} {P:Nat→Nat} (hW:WdO W P) {s:Spot} (h:SpO W P s) (hk:s.of.kind=4) {i:Nat} (hi:i<s.of.fields.length):IsNm (fname W (s.of.fields.getD i fd0)):=by
 obtain⟨d,val,hf⟩:=h.fo;obtain⟨e1,e2,e3,e4,e5⟩:=hf.k4 hk;have hg:s.of.fields.getD i fd0=s.of.fields[i]:=by simp[hi]
 obtain⟨q1,q2,q3⟩:=e5.get i hi;rw[hg];unfold Go.Proofs.YtaibcdkadbemgaaGreatDoor.fname;split
 ·exact q1
 next he=>
  obtain⟨-,q4⟩:=q2 (by simpa using he);rcases q4 with q4|⟨q4,q5,q6⟩
  ·rw[if_neg (by omega)];have:=q3.num1 q4;exact(hW.nm _ (by omega)).1
  ·rw[if_pos q4];have:=(q3.k23 (.inl q4)).2.2.2.2.2.num1 q6;exact(hW.nm _ (by omega)).1
theorem SpO.kinds {W:Wd} {P:Nat→Nat} {s:Spot} (h:SpO W P s):s.of.kind=0∨s.of.kind=1∨s.of.kind=2∨s.of.kind=3∨s.of.kind=4∨s.of.kind=5:=by
 obtain⟨d,val,hf⟩:=h.fo;exact hf.kinds
theorem Below.nxt {F:Fix} {s:St} {w w':World} (hb:Below w.heap.size w w'):Nxt F F s s w w' fun _=>False:=
 ⟨rfl,rfl,fun _ _ h=>h,⟨rfl,rfl,fun _ _ h=>h,fun _ _ h=>h,fun _ h=>h,qa0 hb⟩,fun _=>False,qag.keep hb,fun _ _ _ _ _ _ h=>h⟩
theorem Comp.keep {F:Fix} {st:St} {μ:Spot→Nat} {w0 w w':World} {G:Nat→Prop} {n:Nat} (h:Comp F st μ w0 w G n) (hb:Below w.heap.size w w'):Comp F st μ w0 w' G n:=by
 have hx:CExt F st μ 0 w w':=CExt.keep hb;refine⟨h.ci.ext hx fun b s hm => ?_,fun g hg=>Nat.lt_of_lt_of_le (h.lt g hg) hb.size,fun b s hm => ?_,fun i hi hn => ?_⟩
 ·obtain⟨cs,hc⟩:=h.ci.ifT b s hm;exact⟨cs,hc.keep hb⟩
 ·obtain⟨ra,rc,ea,ec,tso,q1,q2⟩:=h.ok b s hm;refine⟨ra,rc,ea,ec,tso,q1.keep hb,q2.imp id fun⟨ts,l,e,q⟩=>⟨ts,l,e,q.ext h.ci hx fun _ h=>h⟩⟩
 ·obtain⟨ts,hc⟩:=h.done i hi hn;exact⟨ts,(zkb (hb.block _ (zj w _ hc))).trans hc⟩
theorem qm6.keep {F:Fix} {w0:World} {s:St} {w w':World} (h:qm6 F w0 s w) (hb:Below w.heap.size w w'):qm6 F w0 s w':=by
 have n:=Below.nxt (F:=F) (s:=s) hb;obtain⟨G,hG⟩:=h.comp;exact⟨(BExt.keep h.ok hb 0).ok,fun d T x e=>by have:=h.lt d T x e;have:=hb.size;omega,h.inj,fun d hd=>(h.set d hd).next n,h.big,fun b sp hm=>(h.mem b sp hm).mono n.le,G,hG.keep hb⟩
structure Amb (F:Fix) (P:Nat→Nat) (w0:World) (s:St) (w:World):Prop where
 bt:qm6 F w0 s w
 wd:WdO F.W P
 tabs:Tabs w
 nn:F.N≤4194304
 cov:Cov F s w
 N:P F.W.length=F.N+1
theorem Tabs.keep {w w':World} (h:Tabs w) (hb:Below w.heap.size w w'):Tabs w':=Tabs.below h hb
theorem Amb.keep {F:Fix} {P:Nat→Nat} {w0:World} {s:St} {w w':World} (h:Amb F P w0 s w) (hb:Below w.heap.size w w'):Amb F P w0 s w':=
 ⟨h.bt.keep hb,h.wd,h.tabs.keep hb,h.nn,h.cov.keep hb,h.N⟩
abbrev DenW (F:Fix) (s:St) (w:World) (sp:Spot) (v:Value):Prop:=Den (gOf F s (rdT w)) sp v
theorem DenW.keep {F:Fix} {s:St} {w w':World} {sp:Spot} {v:Value} (h:DenW F s w sp v) (hb:Below w.heap.size w w'):DenW F s w' sp v:=Den.mono (Below.nxt (F:=F) (s:=s) hb).le h
structure PlV (F:Fix) (P:Nat→Nat) (s:St) (w:World) (sp:Spot) (v u:Value):Prop where
 plain:qbs w v u
 den:DenW F s w sp u
 spo:SpO F.W P sp
 nal:sp.of.kind=1→(dc F.W sp.of.num.toNat).alias=false
 alB:∀ al,v=qjx al→∃ a b c,Blk w al 182 [a,b,c,u]
theorem qbs.keep {w w':World} {v u:Value} (h:qbs w v u) (hb:Below w.heap.size w w'):qbs w' v u:=by
 obtain⟨h1,h2|⟨al,h2,h3⟩⟩:=h
 ·exact⟨h1,.inl h2⟩
 ·exact⟨h1,.inr ⟨al,h2,(zkb (hb.block _ (zj w _ h3))).trans h3⟩⟩
theorem PlV.keep {F:Fix} {P:Nat→Nat} {s:St} {w w':World} {sp:Spot} {v u:Value} (h:PlV F P s w sp v u) (hb:Below w.heap.size w w'):PlV F P s w' sp v u:=⟨h.plain.keep hb,h.den.keep hb,h.spo,h.nal,fun al e=>(h.alB al e).imp fun a h=>h.imp fun b h=>h.imp fun c h=>h.keep hb⟩
theorem Amb.nd {F:Fix} {P:Nat→Nat} {w0:World} {s:St} {w:World} (h:Amb F P w0 s w) {sp:Spot} {v:Value} (hd:DenW F s w sp v) (hk:sp.of.kind=1) (ha:(dc F.W sp.of.num.toNat).alias=false):
  sp.of.num.toNat<F.W.length∧∃ b tn U ux ra rc fs,v=qdr b∧qbz F s w sp.of.num.toNat b tn U ux ra rc fs:=by
 have htb:F.tb sp.of.num.toNat=some v:=hd.named hk;have hl:=h.bt.big _ _ htb;obtain⟨b,tn,U,ux,ra,rc,fs,q⟩:=(h.bt.set _ hl).nd ha;have e:=q.tb;rw[htb] at e;cases e;exact⟨hl,b,tn,U,ux,ra,rc,fs,rfl,q⟩
theorem Amb.notAl {F:Fix} {P:Nat→Nat} {w0:World} {s:St} {w:World} (h:Amb F P w0 s w) {sp:Spot} {v:Value} (hd:DenW F s w sp v) (ha:sp.of.kind=1→(dc F.W sp.of.num.toNat).alias=false):qgl v:=by
 by_cases hk:sp.of.kind=1
 ·obtain⟨-,b,tn,U,ux,ra,rc,fs,rfl,-⟩:=h.nd hd hk (ha hk);exact⟨_,_,rfl,by decide⟩
 ·obtain⟨T,x,rfl,hT⟩:=Den.lit hd hk;exact⟨T,x,rfl,by rcases hT with rfl|rfl|rfl|rfl|rfl <;> decide⟩
theorem Amb.plainv {F:Fix} {P:Nat→Nat} {w0:World} {s:St} {w:World} (h:Amb F P w0 s w) {sp:Spot} {v:Value} (hd:DenW F s w sp v) (hs:SpO F.W P sp):∃ u,PlV F P s w (pl F.W sp) v u:=by
 have hB:=h.wd.by_;have key:∃ u,qbs w v u∧DenW F s w (plain F.W sp) u∧∀ al,v=qjx al→∃ a b c,Blk w al 182 [a,b,c,u]:=by
  by_cases hal:sp.of.kind=1∧(dc F.W sp.of.num.toNat).alias=true
  ·obtain⟨hk,hal⟩:=hal;have htb:F.tb sp.of.num.toNat=some v:=hd.named hk;have hl:=h.bt.big _ _ htb;obtain⟨al,tn,rhs,u,n,q⟩:=(h.bt.set _ hl).al hal;have e:=q.tb;rw[htb] at e;cases e;refine⟨u,⟨q.nal,.inr ⟨al,rfl,by rw[q.blk.cell];rfl⟩⟩,?_,fun al' e=>by cases e;exact⟨_,_,_,q.blk⟩⟩;rw[qea hB hk hal hs.numOk];exact q.den
  ·have hna:sp.of.kind=1→(dc F.W sp.of.num.toNat).alias=false:=fun hk=>by
    cases e:(dc F.W sp.of.num.toNat).alias with
    | true=>exact absurd ⟨hk,e⟩ hal
    | false=>rfl
   refine⟨v,⟨h.notAl hd hna,.inl rfl⟩,?_,fun al' e => ?_⟩
   ·rw[qbg hal];exact hd
   ·obtain⟨T,x,e2,hT⟩:=h.notAl hd hna;rw[e] at e2;cases e2;exact absurd rfl hT
 obtain⟨u,h1,h2,h3⟩:=key;refine⟨u,h1,Den.nrm h2,(hs.toPl h.wd).1,fun hk => ?_,h3⟩;have hp:=qjj hB hs.numOk;unfold pl at hk ⊢;rw[qmd];exact hp.2 (by rwa [qfn] at hk)
theorem Amb.underv {F:Fix} {P:Nat→Nat} {w0:World} {s:St} {w:World} (h:Amb F P w0 s w) {sp:Spot} {v u:Value} (hv:PlV F P s w sp v u):∃ z,qf7 w v z∧qf7 w u z∧qi6 z∧DenW F s w (qae F.W sp) z∧SpO F.W P (qae F.W sp):=by
 have hB:=h.wd.by_;have key:∃ z,qg3 w u z∧qi6 z∧DenW F s w (qae F.W sp) z:=by
  by_cases hk:sp.of.kind=1
  ·obtain⟨hl,b,tn,U,ux,ra,rc,fs,rfl,q⟩:=h.nd hv.den hk (hv.nal hk);exact⟨_,.inr ⟨b,_,_,_,_,_,_,_,_,_,rfl,rfl,q.blk⟩,q.lit,by rw[qdg hB hk hv.spo.numOk];exact q.den⟩
  ·have hl:=Den.lit hv.den hk;exact⟨u,.inl ⟨hl,rfl⟩,hl,by rw[qdu hk];exact hv.den⟩
 obtain⟨z,h1,h2,h3⟩:=key;refine⟨z,?_,.inl h1,h2,h3,hv.spo.toUnder h.wd⟩;obtain⟨hn,rfl|⟨al,rfl,hc⟩⟩:=hv.plain
 ·exact .inl h1
 ·obtain⟨a,b,c,hal⟩:=hv.alB al rfl;exact .inr ⟨al,u,a,b,c,rfl,hal,h1⟩
