import Derived.Test.YtmfhclggkjjcdaaGreatDoorL26
import Derived.Test.YtmfhclggkjjcdaaGreatDoorL17
import Derived.Test.YtmfhclggkjjcdaaGreatDoorL09
import Derived.Test.YtmfhclggkjjcdaaGreatDoorL03
import Derived.Test.YtmfhclggkjjcdaaGreatDoorL02
set_option linter.all false
set_option maxHeartbeats 2000000
namespace Go.Proofs.YtmfhclggkjjcdaaGreatDoor
open Go Go.RowKit Go.Proofs.Tryz
set_option maxRecDepth 100000
theorem tao_nil {D:TypeId} {e:TypeId} (hu:prog.underlying D=some (.pointer e)) (hz:(prog.info? D).map (·.zero)=some (some (.pointer none))) (w:World):(Instr.typeAssert .nilIface 68 D true).run prog w = .ok (.tuple #[.pointer none,.bool false]) w:=by
 obtain⟨j,hj,hz'⟩:=zbb.1 hz;simp[Instr.typeAssert,run_underlying hu,go_sem,typeInfo,zeroValue,hj,hz']
theorem qb0.ob {F:Fix} {s:St} {w w':World} {r:Rs} {e:Ending} (h:qb0 F s w r e w'):(r.ob=none∧obV s r.ob = .nilIface)∨(∃ k x,r.ob=some (k,true)∧obV s r.ob = .iface 106 (ptrV x))∨∃ k x,r.ob=some (k,false)∧obV s r.ob = .iface 151 (ptrV x):=by
 obtain⟨x,-,h⟩:=h;cases ho:r.ob with
 | none=>exact .inl ⟨rfl,rfl⟩
 | some p=>
  obtain⟨k,met⟩:=p;obtain⟨b,hb,-⟩:=h.out.2.2 k met ho;cases met with
  | true=>exact .inr (.inl ⟨k,b,rfl,by simp only[obV,hb,objV]⟩)
  | false=>exact .inr (.inr ⟨k,b,rfl,by simp only[obV,hb,objV]⟩)
theorem qb0.from {F:Fix} {s:St} {w w1 w':World} {r:Rs} {e:Ending} (h:qb0 F s w1 r e w') (hb:Below w.heap.size w w1):qb0 F s w r e w':=by
 obtain⟨x,h1,h2⟩:=h;exact⟨x,h1,hid ⟨h2.out.1,hb.trans (h2.out.2.1.mono hb.size),h2.out.2.2⟩⟩
theorem qsw {F:Fix} {P:Nat→Nat} {w0:World} {s:St} {w:World} (A:Amb F P w0 s w) {sp:Spot} {v:Value} (hd:DenW F s w sp v) (hs:SpO F.W P sp) (addr:Bool) (q m:Int) (hq:q=0∨q=1) (hm:IsNm m):
  Calls prog 51 #[v,.bool addr,ptrV (F.pk q),.string (qas m),.bool false] w (qb0 F s w (qch F.W sp addr q m)):=by
 obtain⟨u,hu⟩:=A.plainv hd hs;have hk1:(pl F.W sp).of.kind=(plain F.W sp).of.kind:=qfn _;have hun:under F.W (pl F.W sp)=under F.W sp:=by unfold pl;rw[qn6,qfm A.wd.by_ hs.numOk]
 have HI:=hid (qqz A hd hs addr q m hq hm);by_cases hk:(plain F.W sp).of.kind=1
 ·obtain⟨hl,b,tn,U,ux,ra,rc,fs,e1,qn⟩:=A.nd hu.den (by rw[hk1];exact hk) (hu.nal (by rw[hk1];exact hk));subst e1;have HAs:=hid (qfg v ⟨b,0,none⟩ w hu.plain);have HUn:=hid (qg2 b w _ _ _ _ _ _ _ _ _ _ qn.blk);have hdu:=qn.den;rw[← qdg A.wd.by_ (by rw[hk1];exact hk) hu.spo.numOk,hun] at hdu;have hlit:=qn.lit;by_cases hk2:(under F.W sp).of.kind=2
  ·obtain⟨zb,zz,ez,-⟩:=Den.ptr hdu hk2;rw[ez] at HUn;have HL:=hid (qqz A (show DenW F s w (under F.W sp) (.iface 145 (ptrV zb)) from ez ▸ hdu) (hs.toUnder A.wd) false q m hq hm);have tp:=fun v w=>qb5 underlying145 v w;obtain⟨r,hr⟩:∃ r,r=qhf F.W (under F.W sp) false q m:=⟨_,rfl⟩;have HR:Hid (qch F.W sp addr q m=match r.ob with|some (_,true)=>⟨none,[],false⟩|_=>r):=hid (by
    unfold qch;rw[if_pos ⟨hk,hk2⟩,hr];rfl)
   rw[← hr] at HL;have tf1:=fun v w=>qo4 underlying106 v w;have tf2:=fun v w=>qsv (T:=151) underlying106 Tryz.zFunc (by decide) v w;have tf3:=fun w=>tao_nil underlying106 Tryz.zFunc w;clear hd hs hu hk1 hun qn hdu hlit ez hr hk hk2 A HI;go_enter func51,ntmps51
   go_wp2_with (first
    | (go_at_call 61;refine qap HAs.out ?_)
    | (go_at_call 83;refine qap HUn.out ?_)
    | (go_at_call 84;refine HL.out.mono ?_;rintro e w2 hP;have HOb:=hid hP.ob;obtain⟨x,rfl,h2⟩:=hP;obtain⟨ov,hov⟩:∃ ov,ov=obV s r.ob:=⟨_,rfl⟩;rw[← hov] at HOb ⊢;have Hov:=hid hov;clear hov))
   have H2:=hid h2.out;clear h2;rcases HOb.out with ⟨hr,e1⟩|⟨k,y,hr,e1⟩|⟨k,y,hr,e1⟩
   ·have Hr:=hid hr;subst e1;clear hr;go_simp
    go_wp2_with fail
    go_ret3
    rw[show qch F.W sp addr q m=r by rw[HR.out,Hr.out]];exact⟨x,by rw[← Hov.out];rfl,hid H2.out⟩
   ·have Hr:=hid hr;subst e1;clear hr;go_simp
    go_wp2_with fail
    go_ret3
    rw[show qch F.W sp addr q m=⟨none,[],false⟩ by rw[HR.out,Hr.out]];exact qb0.nothing rfl H2.out.2.1
   ·have Hr:=hid hr;subst e1;clear hr;go_simp
    go_wp2_with fail
    go_ret3
    rw[show qch F.W sp addr q m=r by rw[HR.out,Hr.out]];exact⟨x,by rw[← Hov.out];rfl,hid H2.out⟩
  ·have hne:U≠145:=fun e=>by
    subst e;have hk5:=(hs.toUnder A.wd).kinds;have hk6:=qit A.wd.by_ hs.numOk;have hne2:∀ {T:TypeId},(∃ b:Nat,∃ y:Addr,Value.iface 145 (.pointer (some ux)) = .iface T (.pointer (some y)))→T=145:=fun⟨_,_,h⟩=>by injection h with h;exact h.symm
    rcases hk5 with h|h|h|h|h|h
    ·obtain⟨b,i,st,e,-⟩:=Den.basic hdu h;exact absurd (hne2 ⟨0,_,e⟩) (by decide)
    ·exact hk6 h
    ·exact hk2 h
    ·obtain⟨b,z,e,-⟩:=Den.slice hdu h;exact absurd (hne2 ⟨0,_,e⟩) (by decide)
    ·obtain⟨b,a,c,e,-⟩:=Den.struct hdu h;exact absurd (hne2 ⟨0,_,e⟩) (by decide)
    ·obtain⟨b,a,c,a',c',e,-⟩:=Den.iface hdu h;exact absurd (hne2 ⟨0,_,e⟩) (by decide)
   have tp:=fun v w=>qaw (T:=U) underlying145 Tryz.zsPt hne v w;have HR:Hid (qch F.W sp addr q m=qhf F.W sp addr q m):=hid (by
    unfold qch;rw[if_neg (fun h=>hk2 h.2)])
   rw[HR.out];clear hd hs hu hk1 hun qn hdu hlit hk hk2 A hne HR;go_enter func51,ntmps51
   go_wp2_with (first
    | (go_at_call 61;refine qap HAs.out ?_)
    | (go_at_call 83;refine qap HUn.out ?_)
    | (go_at_call 84;refine HI.out.mono ?_;rintro e w2 hP;obtain⟨x,rfl,h2⟩:=hP;have H2:=hid h2.out;clear h2))
   go_ret3
   exact⟨x,rfl,hid H2.out⟩
 ·obtain⟨b,e1,-⟩:=hu.ty A;have hp:=hu.plain;rw[e1] at hp;have HAs:=hid (qgm v _ _ w (fun h=>hk (by
   have:=qki (b:=1) hu.spo.kinds (by omega) (h.trans rfl);rw[hk1] at this;exact this)) hp)
  have HR:Hid (qch F.W sp addr q m=qhf F.W sp addr q m):=hid (by
   unfold qch;rw[if_neg (fun h=>hk h.1)])
  rw[HR.out];clear hd hs hu hk1 hun hp e1 hk A HR;go_enter func51,ntmps51
  go_wp2_with (first
   | (go_at_call 61;refine qap HAs.out ?_)
   | (go_at_call 84;refine HI.out.mono ?_;rintro e w2 hP;obtain⟨x,rfl,h2⟩:=hP;have H2:=hid h2.out;clear h2))
  go_ret3
  exact⟨x,rfl,hid H2.out⟩
theorem qs3 {F:Fix} {P:Nat→Nat} {w0:World} {s:St} {w:World} (A:Amb F P w0 s w) {sp:Spot} {T:TypeId} {y:Addr} (hd:DenW F s w sp (.iface T (.pointer (some y)))) (hs:SpO F.W P sp) (addr:Bool) (q m:Int) (hq:q=0∨q=1) (hm:IsNm m):
  Calls prog 25 #[.iface T (.pointer (some y)),.bool addr,ptrV (F.pk q),.string (qas m)] w (qb0 F s w (qch F.W sp addr q m)):=by
 have HI:=hid (qsw A hd hs addr q m hq hm);clear A hd hs;go_enter func25,ntmps25
 go_wp2_with (go_at_call 51;refine HI.out.mono ?_;rintro e w2 hP;obtain⟨x,rfl,h2⟩:=hP;have H2:=hid h2.out;clear h2)
 go_ret3
 exact⟨x,rfl,hid H2.out⟩
mutual
theorem qrb (W:Wd) (e:Int) (P Q:Nat→Nat) (h:∀ n,n<W.length→P n=Q n):∀ (val:Bool) (t:Ty),qam W e val t→op P t=op Q t
 | val,.mk k n el fs ms em,hf=>by
  simp only[qam] at hf;rcases hf with ⟨rfl,rfl,rfl,rfl,rfl,-⟩|⟨rfl,rfl,rfl,rfl,rfl,h0,h1,h2⟩|⟨hk,rfl,rfl,rfl,rfl,h1⟩|⟨rfl,rfl,rfl,rfl,rfl,h1⟩|⟨rfl,rfl,rfl,rfl,-,h1⟩
  ·simp[op,opT,opF]
  ·simp only[op,opT,opF,if_true,Nat.add_zero];exact h n.toNat (by omega)
  ·have hk1:¬ k=1:=by omega
   simp only[op,opT,opF,if_neg hk1,Nat.add_zero,op_cg1 W e P Q h el h1]
  ·simp[op,opT,qxd W e P Q h val fs h1]
  ·simp[op,opT,opF,qw5 W e P Q h em h1]
theorem op_cg1 (W:Wd) (e:Int) (P Q:Nat→Nat) (h:∀ n,n<W.length→P n=Q n):∀ (l:List Ty),qc5 W e l→opT P l=opT Q l
 | [],hf=>by simp[opT]
 | t::r,hf=>by
  simp only[qc5] at hf;obtain⟨rfl,hf⟩:=hf;simp only[opT,qrb W e P Q h false t hf]
theorem qxd (W:Wd) (e:Int) (P Q:Nat→Nat) (h:∀ n,n<W.length→P n=Q n):∀ (val:Bool) (l:List Fd),qby W e val l→opF P l=opF Q l
 | val,[],hf=>by simp[opF]
 | val,.mk n em t::r,hf=>by
  simp only[qby] at hf;simp only[opF,qrb W e P Q h val t hf.1.2.2,qxd W e P Q h val r hf.2]
theorem qw5 (W:Wd) (e:Int) (P Q:Nat→Nat) (h:∀ n,n<W.length→P n=Q n):∀ (l:List Ty),qbi W e l→opT P l=opT Q l
 | [],hf=>by simp[opT]
 | t::r,hf=>by
  simp only[qbi] at hf;simp only[opT,qrb W e P Q h true t hf.1.2,qw5 W e P Q h r hf.2]
end
def setN (W:Wd) (P:Nat→Nat) (N:Nat):Nat→Nat:=fun n=>if n=W.length then N+1 else P n
theorem qdx.setN {W:Wd} {t:Ty} {P:Nat→Nat} (h:qdx W t P) (hf:qfz W t) (N:Nat):qdx W t (setN W P N):=by
 have hc:∀ n,n<W.length→Go.Proofs.YtmfhclggkjjcdaaGreatDoor.setN W P N n=P n:=fun n hn=>by
  unfold Go.Proofs.YtmfhclggkjjcdaaGreatDoor.setN;rw[if_neg (by omega)]
 refine⟨fun n => ?_,fun d hd ha => ?_,fun d hd => ?_,?_⟩
 ·unfold Go.Proofs.YtmfhclggkjjcdaaGreatDoor.setN;split
  ·omega
  ·exact h.pos n
 ·rw[qrb W d _ _ hc true _ (hf.names d hd).2.2.2.1,hc d hd];exact h.alias d hd ha
 ·rw[qrb W d _ _ hc true _ (hf.names d hd).2.2.2.1];exact h.decl d hd
 ·rw[qrb W (-1) _ _ hc true _ hf.formed];exact h.operand
theorem Amb.of {F:Fix} {w0:World} {s:St} {w:World} {t:Ty} {P:Nat→Nat} (hB:qm6 F w0 s w) (hf:qfz F.W t) (hs:qdx F.W t P) (hb:qbw F.W≤1048576) (htb:t.bulk≤1048576) (hN:F.N=start F.W F.W.length+t.size) (hT:Tabs w) {v:Value} (hd:DenW F s w (operand F.W t) v):
  Amb F (setN F.W P F.N) w0 s w∧SpO F.W (setN F.W P F.N) (operand F.W t):=by
 have hs':=hs.setN hf F.N;have hP:setN F.W P F.N F.W.length=F.N+1:=by unfold setN;rw[if_pos rfl]
 have h1:=qcv F.W F.W.length;have h2:=qba t;refine⟨⟨hB,WdO.of hf hs' hb (by rw[hP];omega),hT,by omega,fun k hk=>hB.cover hf hd (by rw[← hN];exact hk),hP⟩,SpO.operand hf hs' htb (by rw[hP];omega)⟩
theorem Tryz.infoOb:(prog.info? 68).map (fun i=>(i.zero,i.size,i.bytes))=some (some .nilIface,1,16):=by kernel_rfl
theorem Tryz.infoTy:(prog.info? 63).map (fun i=>(i.zero,i.size,i.bytes))=some (some .nilIface,1,16):=by kernel_rfl
theorem qv6 (n:Nat) (w:World) (hn:n≤16777216):
  (Instr.makeSlice 74 (.int .i64 (n:Int)) (.int .i64 (n:Int))).run prog w = .ok (.slice (some ⟨w.heap.size,0,none⟩) n n) (w.alloc (.cells (List.replicate n Value.nilIface).toArray 68)):=by
 obtain⟨i0,hi,hz0,hz1,hz2⟩:=info_parts Tryz.infoOb;have h:=run_make (P:=prog) w 74 68 i0 _ underlying74 hi hz0 .i64 .i64 n n (by omega) (by omega) (by rw[hz2];omega) (by omega);rw[h];simp only[Int.toNat_natCast,hz1,Nat.mul_one,Value.cells,qd0]
theorem qv2 (n:Nat) (w:World) (hn:n≤16777216):
  (Instr.makeSlice 73 (.int .i64 (n:Int)) (.int .i64 (n:Int))).run prog w = .ok (.slice (some ⟨w.heap.size,0,none⟩) n n) (w.alloc (.cells (List.replicate n Value.nilIface).toArray 63)):=by
 obtain⟨i0,hi,hz0,hz1,hz2⟩:=info_parts Tryz.infoTy;have h:=run_make (P:=prog) w 73 63 i0 _ underlying73 hi hz0 .i64 .i64 n n (by omega) (by omega) (by rw[hz2];omega) (by omega);rw[h];simp only[Int.toNat_natCast,hz1,Nat.mul_one,Value.cells,qd0]
variable {P:Program} {ops:Array Oper} {w:World} {i:Nat} {a:Act} {o:Oper} {M:Nat→MixR.Made} {K':Act→World→Prop} {us:List Nat} {W:World} {m:List (Nat×Bool)}
theorem mid_make (hb:Below w.heap.size w W) (ho:ops[i]?=some o) (hw:Region.wanted o (yielded ops a.tmps)=true)
  (h:∀ Kp:Value→World→Prop,(∀ v W',Below W.heap.size W W'→(∀ W'',Below W'.heap.size W' W''→Mix.wpMid P ops w M K' (List.range' W.heap.size (W'.heap.size - W.heap.size)++us) m (a.put o.dst v) W'')→Kp v W')→MixR.Runs P Kp ((execOp a.eval o).run P W)):
  Mix.wpMid P ops w M K' us ((i,false)::m) a W:=qg5 ho hw (h _ fun v W' hb' hk=>
 ⟨hb.trans (hb'.mono hb.size),⟨none,⟨hb'.os,hb'.tape,hb'.output,hb'.size,fun k hk _=>hb'.block k hk⟩,fun k h=>(by cases h)⟩,List.range' W.heap.size (W'.heap.size - W.heap.size),
  fun k hk=>by rw[List.mem_range'_1] at hk;have:=hb'.size;omega,hk⟩)
theorem mid_own (r:Nat) (hr:r∈us) (hge:w.heap.size≤r) (hb:Below w.heap.size w W) (ho:ops[i]?=some o) (hw:Region.wanted o (yielded ops a.tmps)=true)
  (h:∀ Kp:Value→World→Prop,(∀ v W',W.grownBy W' (some r)→(∀ W'',Below W'.heap.size W' W''→Mix.wpMid P ops w M K' us m (a.put o.dst v) W'')→Kp v W')→MixR.Runs P Kp ((execOp a.eval o).run P W)):
  Mix.wpMid P ops w M K' us ((i,false)::m) a W:=qg5 ho hw (h _ fun v W' hg hk=>
 ⟨hb.grown hg hb.size (fun k hk=>by cases hk;exact hge),⟨some r,hg,fun k h=>(by cases h;exact hr)⟩,[],fun k hk=>(by cases hk),hk⟩)
namespace MixR
variable {R:World→World→Prop} [RelOk R] {M:Nat→Made}
theorem mid_make (hb:R w W) (ho:ops[i]?=some o) (hw:Region.wanted o (yielded ops a.tmps)=true)
  (h:∀ Kp:Value→World→Prop,(∀ v W',Below W.heap.size W W'→(∀ W'',Below W'.heap.size W' W''→wpMid R P ops w M K' (List.range' W.heap.size (W'.heap.size - W.heap.size)++us) m (a.put o.dst v) W'')→Kp v W')→Runs P Kp ((execOp a.eval o).run P W)):
  wpMid R P ops w M K' us ((i,false)::m) a W:=qg5 ho hw (h _ fun v W' hb' hk=>
 ⟨RelOk.keep _ _ _ hb hb',⟨hb'.size,fun k _ h2 _=>hb'.block k h2⟩,List.range' W.heap.size (W'.heap.size - W.heap.size),fun k hk=>by rw[List.mem_range'_1] at hk;have:=hb'.size;omega,hk⟩)
theorem mid_own (r:Nat) (hr:r∈us) (ho:ops[i]?=some o) (hw:Region.wanted o (yielded ops a.tmps)=true)
  (h:∀ Kp:Value→World→Prop,(∀ v W',R w W'→W.grownBy W' (some r)→(∀ W'',Below W'.heap.size W' W''→wpMid R P ops w M K' us m (a.put o.dst v) W'')→Kp v W')→Runs P Kp ((execOp a.eval o).run P W)):
  wpMid R P ops w M K' us ((i,false)::m) a W:=qg5 ho hw (h _ fun v W' hr' hg hk=>
 ⟨hr',⟨hg.size,fun k _ h2 h3=>hg.block k h2 fun e=>h3 (by cases e;exact hr)⟩,[],fun k hk=>(by cases hk),hk⟩)
end MixR
