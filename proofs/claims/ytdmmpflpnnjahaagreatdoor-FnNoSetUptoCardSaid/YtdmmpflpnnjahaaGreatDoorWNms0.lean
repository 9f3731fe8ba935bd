import Derived.Test.YtdmmpflpnnjahaaGreatDoorK29
set_option linter.all false
set_option maxHeartbeats 8000000
namespace Go.Proofs.YtdmmpflpnnjahaaGreatDoor
open Go Go.RowKit Go.Proofs.Tryz
set_option maxRecDepth 100000
variable {w w0:World} {x:Addr} {F:Fix} {P:Nat→Nat} {s:St}
theorem isPtr_yes {v:Value} (h:qus w v (.iface 221 (.pointer (some x)))):Calls prog 70 #[v] w fun e w'=>e = .returned (.bool true)∧w'=w:=by
 obtain⟨T,y,f,rfl,hm,he,hc⟩:=h;have ti:=fun v w=>qb5 underlying221 v w;have Hc:=hid hc;clear hc;go_enter func70,ntmps70
 go_wp2_with (go_at_fn f;refine qap Hc.out ?_)
 go_ret
 exact⟨rfl,rfl⟩
theorem isIfc_yes {v:Value} (h:qus w v (.iface 110 (.pointer (some x)))):Calls prog 72 #[v] w fun e w'=>e = .returned (.bool true)∧w'=w:=by
 obtain⟨T,y,f,rfl,hm,he,hc⟩:=h;have ti:=fun v w=>qb5 underlying110 v w;have Hc:=hid hc;clear hc;go_enter func72,ntmps72
 go_wp2_with (go_at_fn f;refine qap Hc.out ?_)
 go_ret
 exact⟨rfl,rfl⟩
theorem isIfc_no {v:Value} {U:TypeId} (hU:U≠110) (h:qus w v (.iface U (.pointer (some x)))):Calls prog 72 #[v] w fun e w'=>e = .returned (.bool false)∧w'=w:=by
 obtain⟨T,y,f,rfl,hm,he,hc⟩:=h;have ti:=fun v w=>qaw (T:=U) underlying110 Tryz.zsIf hU v w;have Hc:=hid hc;clear hc;go_enter func72,ntmps72
 go_wp2_with (go_at_fn f;refine qap Hc.out ?_)
 go_ret
 exact⟨rfl,rfl⟩
theorem ptr_calls (A:Amb F P w0 s w) {sp:Spot} {v u:Value} (hu:PlV F P s w sp v u) (hk:(qae F.W sp).of.kind=2):∃ y,qus w v (.iface 221 (.pointer (some y))):=by
 obtain⟨z,hz1,-,-,hz4,-⟩:=A.underv hu;obtain⟨pb,pv,ez,-⟩:=Den.ptr hz4 hk;subst ez;exact⟨_,qf9 w _ _ hz1⟩
def NoSet (w:World) (e:Ending) (w':World):Prop:=∃ b,e = .returned (.pointer (some ⟨b,0,none⟩))∧Hid (Blk w' b 145 [.slice none 0 0]∧Below w.heap.size w w')
theorem nms_named (A:Amb F P w0 s w) {sp:Spot} {v:Value} (hd:DenW F s w sp v) (hs:SpO F.W P sp) (hk:(plain F.W sp).of.kind=1) (hk2:(qae F.W sp).of.kind=2):
  Calls prog 34 #[v] w (NoSet w):=by
 obtain⟨u,hu⟩:=A.plainv hd hs;have hk1:(pl F.W sp).of.kind=(plain F.W sp).of.kind:=qfn _;have hun:qae F.W (pl F.W sp)=qae F.W sp:=by unfold pl;rw[qn6,qfm A.wd.by_ hs.numOk]
 obtain⟨hl,b,tn,U,ux,ra,rc,fs,e1,qn⟩:=A.nd hu.den (by rw[hk1];exact hk) (hu.nal (by rw[hk1];exact hk));subst e1;have HAs:=hid (qfg v ⟨b,0,none⟩ w hu.plain);obtain⟨z,hz1,hz2,hz3,hz4,hz5⟩:=A.underv hu;obtain⟨pb,pv,ez,-⟩:=Den.ptr hz4 (by rw[hun];exact hk2);subst ez;have HI:=hid (isPtr_yes (qf9 w _ _ hz2));clear A hd hs hk hk2 hu hk1 hun qn hz1 hz2 hz3 hz4 hz5 hl;go_enter func34,ntmps34
 go_wp2_with (first
  | (go_at_call 69;refine qap HAs.out ?_)
  | (go_at_call 70;refine qap HI.out ?_))
 go_ret
 exact⟨_,rfl,hid ⟨Blk.new w 145 [.slice none 0 0],(zp _ _).alloc (zl _) _⟩⟩
theorem nms_ifc (A:Amb F P w0 s w) {sp:Spot} {v:Value} (hd:DenW F s w sp v) (hs:SpO F.W P sp) (hk:(plain F.W sp).of.kind=2) (hk2:(qae F.W (qaq (plain F.W sp))).of.kind=5):
  Calls prog 34 #[v] w (NoSet w):=by
 obtain⟨u,hu⟩:=A.plainv hd hs;have hk1:(pl F.W sp).of.kind=(plain F.W sp).of.kind:=qfn _;obtain⟨b,e1,-⟩:=hu.ty A;have hp:=hu.plain;rw[e1] at hp;have HAs:=hid (qgm v _ _ w (fun h=>by
  have:=qki (b:=1) hu.spo.kinds (by omega) (h.trans rfl);omega) hp)
 obtain⟨T,x,hcd,hd2,hs2,-⟩:=qou A hd hs;have e2:drf F.W sp=(qaq (plain F.W sp),true):=by unfold drf;rw[if_pos hk]
 rw[e2] at hcd hd2 hs2;have HD:=hid (hcd w (zp _ _));obtain⟨u2,hu2⟩:=A.plainv hd2 hs2;obtain⟨z,hz1,hz2,hz3,hz4,hz5⟩:=A.underv hu2;have hun:qae F.W (pl F.W (qaq (plain F.W sp)))=qae F.W (qaq (plain F.W sp)):=by unfold pl;rw[qn6,qfm A.wd.by_ hs2.numOk]
 obtain⟨ib,a1,c1,a2,c2,ez,-⟩:=Den.iface hz4 (by rw[hun];exact hk2);subst ez;have HI:=hid (isIfc_yes (qf9 w _ _ hz1));clear A hd hs hk hk2 hu hk1 hun hz1 hz2 hz3 hz4 hz5 hp e1 hcd hd2 hs2 e2 hu2;go_enter func34,ntmps34
 go_wp2_with (first
  | (go_at_call 69;refine qap HAs.out ?_)
  | (go_at_call 71;refine qap HD.out ?_)
  | (go_at_call 72;refine qap HI.out ?_))
 go_ret
 exact⟨_,rfl,hid ⟨Blk.new w 145 [.slice none 0 0],(zp _ _).alloc (zl _) _⟩⟩
theorem nms_ptr (A:Amb F P w0 s w) {sp:Spot} {v:Value} (hd:DenW F s w sp v) (hs:SpO F.W P sp) (hk:(plain F.W sp).of.kind=2) (hk2:(qae F.W (qaq (plain F.W sp))).of.kind=2):
  Calls prog 34 #[v] w (NoSet w):=by
 obtain⟨u,hu⟩:=A.plainv hd hs;have hk1:(pl F.W sp).of.kind=(plain F.W sp).of.kind:=qfn _;obtain⟨b,e1,-⟩:=hu.ty A;have hp:=hu.plain;rw[e1] at hp;have HAs:=hid (qgm v _ _ w (fun h=>by
  have:=qki (b:=1) hu.spo.kinds (by omega) (h.trans rfl);omega) hp)
 obtain⟨T,x,hcd,hd2,hs2,-⟩:=qou A hd hs;have e2:drf F.W sp=(qaq (plain F.W sp),true):=by unfold drf;rw[if_pos hk]
 rw[e2] at hcd hd2 hs2;have HD:=hid (hcd w (zp _ _));obtain⟨u2,hu2⟩:=A.plainv hd2 hs2;obtain⟨z,hz1,hz2,hz3,hz4,hz5⟩:=A.underv hu2;have hun:qae F.W (pl F.W (qaq (plain F.W sp)))=qae F.W (qaq (plain F.W sp)):=by unfold pl;rw[qn6,qfm A.wd.by_ hs2.numOk]
 obtain⟨pb,pv,ez,-⟩:=Den.ptr hz4 (by rw[hun];exact hk2);subst ez;have HI:=hid (isIfc_no (by decide) (qf9 w _ _ hz1));have HA:=hid A;have HU:=hid hu2;have HK2:=hid (show(qae F.W (pl F.W (qaq (plain F.W sp)))).of.kind=2 by rw[hun];exact hk2);clear A hd hs hk hk2 hu hk1 hun hz1 hz2 hz3 hz4 hz5 hp e1 hcd hd2 hs2 e2 hu2;go_enter func34,ntmps34
 go_wp2_with (first
  | (go_at_call 69;refine qap HAs.out ?_)
  | (go_at_call 71;refine qap HD.out ?_)
  | (go_at_call 72;refine qap HI.out ?_))
 have HB1:Hid (Below w.heap.size w ((w.alloc (.cells #[.iface T (.pointer (some x)),.slice none 0 0,.bool true,.bool false] 151)).alloc (.cells #[.pointer none,.pointer none,.pointer none,.map none] 156))):=hid (((zp _ _).alloc (zl _) _).alloc (by simp) _);have HE1:Hid (Blk ((w.alloc (.cells #[.iface T (.pointer (some x)),.slice none 0 0,.bool true,.bool false] 151)).alloc (.cells #[.pointer none,.pointer none,.pointer none,.map none] 156)) w.heap.size 151 [.iface T (.pointer (some x)),.slice none 0 0,.bool true,.bool false]):=hid ((Blk.new w 151 [.iface T (.pointer (some x)),.slice none 0 0,.bool true,.bool false]).alloc _);have HS1:Hid (qeb w.heap.size ((w.alloc (.cells #[.iface T (.pointer (some x)),.slice none 0 0,.bool true,.bool false] 151)).alloc (.cells #[.pointer none,.pointer none,.pointer none,.map none] 156)) (w.heap.size+1) []):=hid (by
  have:=qeb.nil (w.alloc (.cells #[.iface T (.pointer (some x)),.slice none 0 0,.bool true,.bool false] 151)) w.heap.size (by simp);simpa using this)
 generalize ((w.alloc (.cells #[.iface T (.pointer (some x)),.slice none 0 0,.bool true,.bool false] 151)).alloc (.cells #[.pointer none,.pointer none,.pointer none,.map none] 156))=wB at HB1 HE1 HS1 ⊢
 have HdS:Hid (Blk wB w.heap.size 151 [.iface T (.pointer (some x)),.slice none 0 0,.bool true,.bool false]):=HE1
 go_loopw [4,7] (fun mv cv wr=>mv = .map none∧((cv = .slice (some ⟨w.heap.size,0,none⟩) 1 1∧wr=wB)∨(cv = .slice none 0 0∧Hid (Below w.heap.size w wr)))) (fun _ cv _=>match cv with | .slice _ n _=>n|_=>0)
 case atStart=>exact⟨rfl,.inl ⟨rfl,rfl⟩⟩
 case round=>
  obtain⟨rfl,hrel⟩:=hrel;rcases hrel with ⟨rfl,rfl⟩|⟨rfl,HX⟩
  ·go_wp2_with fail
   go_loopw [9,10,11,64] (fun nv fv mv jv wi=>nv = .slice none 0 0∧fv = .map none∧mv = .map none∧((jv = .int .i64 0∧wi=wr)∨(jv = .int .i64 1∧Hid (Below w.heap.size w wi)))) (fun _ _ _ jv _=>1 - (intOf jv).toNat)
   case atStart=>exact⟨rfl,rfl,rfl,.inl ⟨rfl,rfl⟩⟩
   case round=>
    obtain⟨rfl,rfl,rfl,hrel⟩:=hrel;rcases hrel with ⟨rfl,rfl⟩|⟨rfl,HX⟩
    ·have c0:=HE1.out.cell 0;have c1:=HE1.out.cell 1;have c2:=HE1.out.cell 2;have c3:=HE1.out.cell 3;simp only[zu,zt] at c0 c1 c2 c3;have HW1:Hid (Below w.heap.size w (wr.alloc (.cells #[.iface T (.pointer (some x)),.slice none 0 0,.bool true,.bool false] 151))):=hid (HB1.out.alloc HB1.out.size _);have HE2:=hid (Blk.new wr 151 [.iface T (.pointer (some x)),.slice none 0 0,.bool true,.bool false]);have ts:=fun v w=>qaw (T:=221) underlying162 Tryz.zsSt (by decide) v w;have ti:=fun v w=>qaw (T:=221) underlying110 Tryz.zsIf (by decide) v w;by_cases hk1:(pl F.W (qaq (plain F.W sp))).of.kind=1
     ·obtain⟨hl,bn,tn,U,ux,ra,rc,fs,e1,qn⟩:=HA.out.nd HU.out.den hk1 (HU.out.nal hk1);have hpl:=(HU.out.keep HW1.out).plain;rw[e1] at hpl;have HAn:=hid (qfg _ ⟨bn,0,none⟩ _ hpl);have HLk:=hid (qo3 w.heap.size (w.heap.size+1) bn tn (fun _=>0) [] _ (HS1.out.keep ((zp wr.heap.size wr).alloc (zl _) (.cells #[.iface T (.pointer (some x)),.slice none 0 0,.bool true,.bool false] 151))) (fun y hy=>by cases hy));rw[qm3 (by simp)] at HLk;have hm0:(dc F.W (pl F.W (qaq (plain F.W sp))).of.num.toNat).methods.length=0:=by
       cases hm:(dc F.W (pl F.W (qaq (plain F.W sp))).of.num.toNat).methods with
       | nil=>rfl
       | cons m r=>
        have h1:=((HA.out.wd.de _ hl).2.1 (by rw[hm];simp)).1;have h2:=HK2.out;rw[qdg HA.out.wd.by_ hk1 HU.out.spo.numOk] at h2;exact absurd h2 h1
      have HN:=hid fun W2 (h:Below w.heap.size w W2)=>numMethods_any (qn.keep h);rw[hm0] at HN;have HQn:=hid qn;clear hm0 qn hpl hk1 e1 hl ts ti
      go_wp2_with (first
       | (go_at_call 69;refine qap HAn.out ?_)
       | (go_at_call 73;refine HLk.out.mono ?_;rintro e w1 ⟨rfl,hb1⟩;have HB2:=bel_ HW1 hb1;have HS2:=hid ((HS1.out.keep ((zp wr.heap.size wr).alloc (zl _) (.cells #[.iface T (.pointer (some x)),.slice none 0 0,.bool true,.bool false] 151))).keep hb1);clear hb1))
      have HAd:=hid (qv7 w.heap.size (w.heap.size+1) bn [] w1 HS2.out HB2.out.size ⟨_,(HQn.out.keep HB2.out).blk⟩ (fun y hy=>by cases hy) (by simp))
      go_wp2_with (go_at_call 74;refine HAd.out.mono ?_;rintro e w2 ⟨rfl,H2⟩;have HB3:=hid (HB2.out.trans H2.out.2.1);clear H2)
      go_loopw [11,17] (fun mv kv wi=>mv = .map none∧kv = .int .i64 0∧wi=w2) (fun _ _ _=>0)
      case atStart=>exact⟨rfl,rfl,rfl⟩
      case round=>
       obtain⟨rfl,rfl,rfl⟩:=hrel;obtain⟨y,T1,x1,f1,e1,hm1,he1,hc1⟩:=ptr_calls (HA.out.keep HB3.out) (HU.out.keep HB3.out) HK2.out;cases e1;have Hc1:=hid hc1;have HN3:=hid (HN.out _ HB3.out);have ts:=fun v w=>qaw (T:=221) underlying162 Tryz.zsSt (by decide) v w;have ti:=fun v w=>qaw (T:=221) underlying110 Tryz.zsIf (by decide) v w;clear hc1
       go_wp2_with (first
        | (go_at_call 75;refine qap HN3.out ?_)
        | (go_at_fn f1;refine qap Hc1.out ?_))
       go_roundw
       case rel=>exact⟨rfl,rfl,rfl,.inr ⟨by go_num,HB3⟩⟩
       case measure=>simp[intOf]
     ·obtain⟨bn,e1,-⟩:=(HU.out.keep HW1.out).ty (HA.out.keep HW1.out);have hpl:=(HU.out.keep HW1.out).plain;rw[e1] at hpl;have HAn:=hid (qgm _ _ _ _ (fun h=>hk1 (qki (b:=1) HU.out.spo.kinds (by omega) (h.trans rfl))) hpl);obtain⟨y,T1,x1,f1,e1,hm1,he1,hc1⟩:=ptr_calls (HA.out.keep HW1.out) (HU.out.keep HW1.out) HK2.out;cases e1;have Hc1:=hid hc1;clear hc1 hpl hk1 e1
      go_wp2_with (first
       | (go_at_call 69;refine qap HAn.out ?_)
       | (go_at_fn f1;refine qap Hc1.out ?_))
      go_roundw
      case rel=>exact⟨rfl,rfl,rfl,.inr ⟨by go_num,HW1⟩⟩
      case measure=>simp[intOf]
    ·obtain⟨wi,hwi⟩:∃ wi,wi=wr:=⟨_,rfl⟩;subst hwi;have hg1:=fun w=>run_range_nilMap (P:=prog) w 147 _ _ underlying147;have hg2:=fun w=>run_range_nilMap (P:=prog) w 157 _ _ underlying157;have hn1:=fun w ty a b s=>run_next_nilMap (P:=prog) w ty a b s;have hn2:∀ ty,(Instr.next (.pointer (some ⟨wi.heap.size+1,0,none⟩)) false ty).run prog ((wi.alloc (.mapIter none 0 #[] 0)).alloc (.mapIter none 0 #[] 0)) = .ok (.tuple #[.bool false]) ((wi.alloc (.mapIter none 0 #[] 0)).alloc (.mapIter none 0 #[] 0)):=fun ty=>by
      have h:=run_next_nilMap (P:=prog) (wi.alloc (.mapIter none 0 #[] 0)) ty 0 0 #[];rw[zd] at h;exact h
     have HY1:Hid (Below w.heap.size w (wi.alloc (.mapIter none 0 #[] 0))):=hid (HX.out.alloc HX.out.size _);have HY2:Hid (Below w.heap.size w ((wi.alloc (.mapIter none 0 #[] 0)).alloc (.mapIter none 0 #[] 0))):=hid (HY1.out.alloc HY1.out.size _)
     go_wp2_with fail
     go_loopw [4] (fun mv wj=>mv = .map none∧wj=wi.alloc (.mapIter none 0 #[] 0)) (fun _ _=>0)
     case atStart=>exact⟨rfl,rfl⟩
     case round=>
      obtain⟨rfl,rfl⟩:=hrel
      go_wp2_with fail
      go_loopw [4] (fun mv wj=>mv = .map none∧wj=(wi.alloc (.mapIter none 0 #[] 0)).alloc (.mapIter none 0 #[] 0)) (fun _ _=>0)
      case atStart=>exact⟨rfl,rfl⟩
      case round=>
       obtain⟨rfl,rfl⟩:=hrel
       go_wp2_with (go_at_call 82;refine qap (qri _ none 0 0 rfl (by omega) _) ?_)
       go_roundw
       case rel=>exact⟨rfl,.inr ⟨rfl,HY2⟩⟩
       case measure=>exact Nat.zero_lt_one
  ·go_wp2_with fail
   go_ret
   exact⟨_,rfl,hid ⟨Blk.new wr 145 [.slice none 0 0],HX.out.alloc HX.out.size _⟩⟩
