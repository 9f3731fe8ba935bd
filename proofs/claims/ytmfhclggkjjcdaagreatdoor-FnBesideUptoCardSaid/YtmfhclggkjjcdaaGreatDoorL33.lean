import Derived.Test.YtmfhclggkjjcdaaGreatDoorL07
import Derived.Test.YtmfhclggkjjcdaaGreatDoorL09
set_option linter.all false
set_option maxHeartbeats 16000000
namespace Go.Proofs.YtmfhclggkjjcdaaGreatDoor
open Go Go.RowKit Go.Proofs.Tryz
set_option maxRecDepth 100000
theorem qkj {n:Nat} {f:Fd} (hc:f.of.clo n) (hn:f.embedded=true→qdb f.of):qqp n f:=by
 intro he;rcases hn he with h1|⟨h1,h2,h3⟩
 ·rw[if_neg (by omega)];exact Ty.clo_num hc h1
 ·rw[if_pos h1];have:=Ty.clo_num (Ty.clo_el0 hc (by omega)) h3;exact⟨by omega,this.1,this.2⟩
theorem qwg {n:Nat} {t:Ty} (hc:t.clo n) (hn:qdb t):EmbOk n t:=by
 refine⟨hc,?_⟩;rcases hn with h1|⟨h1,h2,h3⟩
 ·exact .inl ⟨h1,Ty.clo_num hc h1⟩
 ·exact .inr ⟨h1,by omega,Ty.clo_num (Ty.clo_el0 hc (by omega)) h3⟩
theorem qse (W:Wd) (a:Option Addr) (c:Nat) (w0:World) (hW:WOk w0 W a c) (hC:CloW W) (s:Spot) (v:Value) (w:World) (hb:s.of.bulk≤1048576) (hat:s.at_+s.of.bulk≤4194304)
  (hF:∃ d val,qam W d val s.of) (hpk:i64 s.pkg) (hs:qb6 w0 s v) (k0:qac w0 w)
  (ih:∀ (u:Spot) (v:Value) (w:World),u.of.bulk<s.of.bulk→u.at_+u.of.bulk≤4194304→(∃ d val,qam W d val u.of)→i64 u.pkg→qb6 w0 u v→qac w0 w→
   Calls prog 36 #[.slice a W.length c,v] w (qb8 (qcj W u) w)):
  Calls prog 36 #[.slice a W.length c,v] w (qb8 (qcj W s) w):=by
 have IH:=hid ih;obtain⟨x1,d1,x2,d2,x3,d3,x4,d4,rfl,⟨q1,q2,q3,q4⟩,hik,hin,h1,h2,h3,h4,htt⟩:=hs.full;have Hs:=hid hs;have Hpk:=hid hpk;have HW:=hid hW;have HC:=hid hC;have HF:=hid hF;have K0:=hid k0;have hsz:s.of.elem.length≤1048576∧s.of.fields.length≤1048576∧s.of.methods.length≤1048576∧s.of.embeds.length≤1048576:=by
  have:=qa3 s.of.elem;have:=qbv s.of.fields;have:=qa3 s.of.embeds;have h:s.of.bulk=1+qbt s.of.elem+qcm s.of.fields+s.of.methods.length+qbt s.of.embeds:=by cases s.of;rfl
  omega
 obtain⟨z1,z2,z3,z4⟩:=hsz;have H1:=hid h1;have H2:=hid h2;have H4:=hid h4;clear ih hs hW hC hF hpk h1 h2 h4 htt hik hin;obtain⟨O,hO⟩:∃ O,O=(Obj.cells #[.int .i64 s.of.kind,.int .i64 s.of.num,.slice x1 s.of.elem.length d1,.slice x2 s.of.fields.length d2,.slice x3 s.of.methods.length d3,.slice x4 s.of.embeds.length d4,.int .i64 s.at_,.int .i64 s.pkg] 88):=⟨_,rfl⟩;have hbox:qat (w.alloc O) w.heap.size 0 [.int .i64 s.of.kind,.int .i64 s.of.num,.slice x1 s.of.elem.length d1,.slice x2 s.of.fields.length d2,.slice x3 s.of.methods.length d3,.slice x4 s.of.embeds.length d4,.int .i64 s.at_,.int .i64 s.pkg]:=qa9 (zp (w.heap.size+1) _) (zw _) (by rw[hO];exact qa8 _ _);have kb:Below w.heap.size w (w.alloc O):=(zp _ _).alloc (zl _) _;have hws:(w.alloc O).heap.size≤w.heap.size+1:=by simp
 have hws':w.heap.size+1≤(w.alloc O).heap.size:=by simp
 have Hb:=hid hbox;have Hkb:=hid kb;obtain⟨c0,c1,c2,c3,c4,c5,c6,c7⟩:=qgv hbox;simp only[Nat.zero_add] at c0 c1 c2 c3 c4 c5 c6 c7;clear hbox kb;go_enter func36,ntmps36
 go_wp2_with fail
 rw[← hO];clear hO
 generalize w.alloc O=w2 at *
 go_loopw [22] (fun j wr=>∃ k:Nat,k≤s.of.methods.length∧j = .int .i64 k∧Below (w.heap.size+1) w2 wr∧Hid (∀ i (hi:i<s.of.methods.length) j (hj:j<i),i<k→s.of.methods[i].name≠s.of.methods[j].name))
  (fun j _=>s.of.methods.length - (intOf j).toNat)
 case atStart=>exact⟨0,by omega,rfl,zp _ _,hid fun i hi j hj hk=>by omega⟩
 clear c0 c1 c2 c3 c4 c5 c6 c7
 case round=>
  obtain⟨k,hk,rfl,hbel,hok⟩:=hrel;obtain⟨wo,rfl⟩:∃ wo:World,wo=wr:=⟨_,rfl⟩;have hK:qac w0 wo:=K0.out.trans ((qac.below Hkb.out).trans (qac.belowGe hbel (by omega)));have hz:=zq hbel;obtain⟨c0,c1,c2,c3,c4,c5,c6,c7⟩:=qgv (Hb.out.keep (qac.belowGe hbel (by omega)));simp only[Nat.zero_add] at c0 c1 c2 c3 c4 c5 c6 c7;have HK:=hid hK;clear hK;by_cases hlt:k<s.of.methods.length
  ·obtain⟨b,o,rfl,hn1,hc⟩:=MsR.get h3 k hlt;have e0:=(hc.keep HK.out) 0 _ rfl;have e1:=(hc.keep HK.out) 1 _ rfl;simp only[Nat.zero_add,Nat.add_zero] at e0 e1;have hbr:=zj wo _ e0;simp only at hbr;have hbr1:b<wo.heap.size+1:=by omega
   have hw1:w.heap.size<wo.heap.size:=by omega
   have hw2:w.heap.size<wo.heap.size+1:=by omega
   have hkc:k≤d3:=by omega
   clear hc
   go_wp2_with fail
   have hnb:Blk (wo.alloc (.cells [.int .i64 s.of.methods[k].name,.bool s.of.methods[k].ptr].toArray 85)) wo.heap.size 85 [.int .i64 s.of.methods[k].name,.bool s.of.methods[k].ptr]:=Blk.new _ _ _;have kb2:Below wo.heap.size wo (wo.alloc (.cells [.int .i64 s.of.methods[k].name,.bool s.of.methods[k].ptr].toArray 85)):=(zp _ _).alloc (zl _) _;have hz2:(wo.alloc (.cells [.int .i64 s.of.methods[k].name,.bool s.of.methods[k].ptr].toArray 85)).heap.size=wo.heap.size+1:=by simp
   have Hz2:=hid hz2;have Hnb:=hid hnb;have Hkb2:=hid kb2;clear hz2 hnb
   generalize wo.alloc (.cells [.int .i64 s.of.methods[k].name,.bool s.of.methods[k].ptr].toArray 85)=w3 at *
   have hz3:wo.heap.size+1≤w3.heap.size:=by have:=Hz2.out;omega
   clear e0 e1 c0 c1 c2 c3 c4 c5 c6 c7
   go_loopw [33] (fun j wr=>∃ i:Nat,i≤k∧j = .int .i64 i∧Below (wo.heap.size+1) w3 wr∧Hid (∀ j (hj:j<k),j<i→s.of.methods[k].name≠s.of.methods[j].name))
    (fun j _=>k - (intOf j).toNat)
   case atStart=>exact⟨0,by omega,rfl,zp _ _,hid fun i hi hj=>by omega⟩
   case round=>
    obtain⟨i,hi,rfl,hbel2,hok2⟩:=hrel;have hK:qac w0 wr:=HK.out.trans ((qac.below Hkb2.out).trans (qac.belowGe hbel2 (by have:=Hz2.out;omega)));have hz4:=zq hbel2;have e0:=(Hnb.out.below hbel2 (by omega)).cell 0;simp only[zt] at e0;by_cases hlt2:i<k
    ·obtain⟨b2,o2,hbo,hn2,hc2⟩:=MsR.get h3 i (by omega);cases hbo;have f0:=(hc2.keep hK) 0 _ rfl;have f1:=(hc2.keep hK) 1 _ rfl;simp only[Nat.zero_add,Nat.add_zero] at f0 f1;have hbr2:=zj wr _ f0;simp only at hbr2;have hbr3:b<wr.heap.size+1:=by omega
     have hwo1:wo.heap.size<wr.heap.size:=by omega
     have hwo2:wo.heap.size<wr.heap.size+1:=by omega
     clear hc2 hK;cases heq:(s.of.methods[k].name==s.of.methods[i].name) with
     | true=>
      go_wp2_with fail
      go_ret
      exact⟨_,rfl,fun hx=>by simp at hx,(Hkb.out.trans (hbel.mono (by omega))).trans ((Hkb2.out.mono (by omega)).trans ((hbel2.mono (by omega)).alloc (by omega) _))⟩
     | false=>
      go_wp2_with fail
      go_roundw
      case rel=>exact⟨i+1,by omega,by go_num,bel,hid fun j hj hji=>by
       by_cases hje:j=i
       ·subst hje;simpa using heq
       ·exact hok2.out j hj (by omega)⟩
      case measure=>simp[intOf];omega
    ·obtain rfl:i=k:=by omega
     go_wp2_with fail
     go_roundw
     case rel=>exact⟨i+1,by omega,by go_num,(hbel.trans (Hkb2.out.mono (by omega))).trans (hbel2.mono (by omega)),hid fun i2 hi2 j hj hik=>by
      by_cases hie:i2=i
      ·subst hie;exact hok2.out j hj (by omega)
      ·exact hok.out i2 hi2 j hj (by omega)⟩
     case measure=>simp[intOf];omega
  ·obtain rfl:k=s.of.methods.length:=by omega
   have Hok1:=hid (fun i (hi:i<s.of.methods.length) j (hj:j<i)=>hok.out i hi j hj hi);clear h3 hok hlt hk hz
   go_wp2_with fail
   go_loopw [48] (fun j wr=>∃ k:Nat,k≤s.of.embeds.length∧j = .int .i64 k∧Below (w.heap.size+1) w2 wr∧Hid (∀ i,i<s.of.embeds.length→i<k→(under W (qav s i)).of.kind=5∧qcj W (qav s i)))
    (fun j _=>s.of.embeds.length - (intOf j).toNat)
   case atStart=>exact⟨0,by omega,rfl,hbel,hid fun i hi hk=>by omega⟩
   clear c0 c1 c2 c3 c4 c5 c6 c7 hbel HK
   case round=>
    obtain⟨k,hk,rfl,hbel,hok⟩:=hrel;have hK:qac w0 wr:=K0.out.trans ((qac.below Hkb.out).trans (qac.belowGe hbel (by omega)));have hz:=zq hbel;obtain⟨c0,c1,c2,c3,c4,c5,c6,c7⟩:=qgv (Hb.out.keep (qac.belowGe hbel (by omega)));simp only[Nat.zero_add] at c0 c1 c2 c3 c4 c5 c6 c7;have HK:=hid hK;clear hK;by_cases hlt:k<s.of.embeds.length
    ·have hw1:w.heap.size<wr.heap.size:=by omega
     have hw2:w.heap.size<wr.heap.size+1:=by omega
     obtain⟨hbu1,hbu2⟩:=qvr s hlt;have hfe:∃ d val,qam W d val (qav s k).of:=by
      obtain⟨d,val,hf⟩:=HF.out;rw[qoz s hlt];exact⟨d,true,(qn0 hf k hlt).2⟩
     have Hfe:=hid hfe;have Hcl:Hid ((qav s k).of.clo W.length):=hid (by obtain⟨d,val,hf⟩:=hfe;exact qbn W d val _ hf);clear hfe;have hfs:=qd5;have hft:=qde;cases hq:((under W (qav s k)).of.kind != 5) with
     | true=>
      go_wp2_with (first|(go_at_call 56;refine(qnl s _ k w0 _ HK.out Hs.out (by omega) (by omega) (by omega)).mono ?_;rintro e w4 ⟨cs,rfl,ht4,hb4⟩;obtain⟨y1,g1,y2,g2,y3,g3,y4,g4,rfl,-⟩:=ht4.open;have Hs4:Hid (qb6 w0 (qav s k) (.agg #[.int .i64 (qav s k).of.kind,.int .i64 (qav s k).of.num,.slice y1 (qav s k).of.elem.length g1,.slice y2 (qav s k).of.fields.length g2,.slice y3 (qav s k).of.methods.length g3,.slice y4 (qav s k).of.embeds.length g4,.int .i64 (qav s k).at_,.int .i64 (qav s k).pkg])):=hid ⟨_,rfl,ht4⟩;clear ht4;have hz4:=zq hb4;obtain⟨hc4,hf4⟩:=qal hb4)|(go_at_call 32;refine(qb3 W _ c (qav s k) _ w0 _ ((HK.out.trans (qac.below hb4)).trans (qac.alloc _ _)) HW.out HC.out Hs4.out Hcl.out).mono ?_;rintro e w5 ⟨cs,rfl,ht5,hb5⟩;obtain⟨u1,r1,u2,r2,u3,r3,u4,r4,rfl,-⟩:=ht5.open;clear ht5;have hz5:=zq hb5;(try simp only[zd,qaa] at hz5);obtain⟨hc5,hf5⟩:=qal hb5;(try simp only[zd,qaa] at hc5)))
      go_ret
      exact⟨_,rfl,fun hx=>by simp at hx,(Hkb.out.trans (hbel.mono (by omega))).trans ((hb4.mono (by omega)).trans (((zp _ _).alloc (by omega) _).trans (hb5.mono (by simp;omega))))⟩
     | false=>
      go_wp2_with (first|(go_at_call 56;refine(qnl s _ k w0 _ HK.out Hs.out (by omega) (by omega) (by omega)).mono ?_;rintro e w4 ⟨cs,rfl,ht4,hb4⟩;obtain⟨y1,g1,y2,g2,y3,g3,y4,g4,rfl,-⟩:=ht4.open;have Hs4:Hid (qb6 w0 (qav s k) (.agg #[.int .i64 (qav s k).of.kind,.int .i64 (qav s k).of.num,.slice y1 (qav s k).of.elem.length g1,.slice y2 (qav s k).of.fields.length g2,.slice y3 (qav s k).of.methods.length g3,.slice y4 (qav s k).of.embeds.length g4,.int .i64 (qav s k).at_,.int .i64 (qav s k).pkg])):=hid ⟨_,rfl,ht4⟩;clear ht4;have hz4:=zq hb4;obtain⟨hc4,hf4⟩:=qal hb4)|(go_at_call 32;refine(qb3 W _ c (qav s k) _ w0 _ ((HK.out.trans (qac.below hb4)).trans (qac.alloc _ _)) HW.out HC.out Hs4.out Hcl.out).mono ?_;rintro e w5 ⟨cs,rfl,ht5,hb5⟩;obtain⟨u1,r1,u2,r2,u3,r3,u4,r4,rfl,-⟩:=ht5.open;clear ht5;have hz5:=zq hb5;(try simp only[zd,qaa] at hz5);obtain⟨hc5,hf5⟩:=qal hb5;(try simp only[zd,qaa] at hc5))|(go_at_call 36;refine(IH.out (qav s k) _ _ hbu1 (by omega) Hfe.out Hpk.out Hs4.out (((HK.out.trans (qac.below hb4)).trans (qac.alloc _ _)).trans (qac.below hb5))).mono ?_;rintro e w6 ⟨b6,rfl,hp6,hb6⟩;have Hp6:=hid hp6;clear hp6;have hz6:=zq hb6;cases b6))
      ·go_ret
       exact⟨_,rfl,fun hx=>by simp at hx,(Hkb.out.trans (hbel.mono (by omega))).trans ((hb4.mono (by omega)).trans ((((zp _ _).alloc (by omega) _).trans (hb5.mono (by simp;omega))).trans (hb6.mono (by omega))))⟩
      ·go_roundw
       case rel=>exact⟨k+1,by omega,by go_num,hbel.trans ((hb4.mono (by omega)).trans ((((zp _ _).alloc (by omega) _).trans (hb5.mono (by simp;omega))).trans (hb6.mono (by omega)))),hid fun i hi hik=>by
        by_cases hie:i=k
        ·subst hie;exact⟨by simpa using hq,Hp6.out (by simp)⟩
        ·exact hok.out i hi (by omega)⟩
       case measure=>simp[intOf];omega
    ·obtain rfl:k=s.of.embeds.length:=by omega
     have Hok2:=hid (fun i (hi:i<s.of.embeds.length)=>hok.out i hi hi);clear hok hlt hk hz
     go_wp2_with fail
     go_loopw [71] (fun j wr=>∃ k:Nat,k≤s.of.fields.length∧j = .int .i64 k∧Below (w.heap.size+1) w2 wr∧Hid (∀ i (hi:i<s.of.fields.length),i<k→(∀ j (hj:j<i),fname W s.of.fields[i]≠8→fname W s.of.fields[i]≠fname W s.of.fields[j])∧qcj W (qao s i)∧(s.of.fields[i].embedded=true→qdo W s.pkg (qao s i))))
      (fun j _=>s.of.fields.length - (intOf j).toNat)
     case atStart=>exact⟨0,by omega,rfl,hbel,hid fun i hi hk=>by omega⟩
     clear c0 c1 c2 c3 c4 c5 c6 c7 hbel HK
     case round=>
      obtain⟨k,hk,rfl,hbel,hok⟩:=hrel;obtain⟨wo,rfl⟩:∃ wo:World,wo=wr:=⟨_,rfl⟩;have hK:qac w0 wo:=K0.out.trans ((qac.below Hkb.out).trans (qac.belowGe hbel (by omega)));have hz:=zq hbel;obtain⟨c0,c1,c2,c3,c4,c5,c6,c7⟩:=qgv (Hb.out.keep (qac.belowGe hbel (by omega)));simp only[Nat.zero_add] at c0 c1 c2 c3 c4 c5 c6 c7;have HK:=hid hK;clear hK;by_cases hlt:k<s.of.fields.length
      ·have hw1:w.heap.size<wo.heap.size:=by omega
       have hw2:w.heap.size<wo.heap.size+1:=by omega
       have hkc:k≤d2:=by omega
       obtain⟨hbu1,hbu2⟩:=qvh s hlt;have hff:IsNm s.of.fields[k].name∧(s.of.fields[k].embedded=true→s.of.fields[k].name=0∧qdb s.of.fields[k].of)∧∃ d val,qam W d val s.of.fields[k].of:=by
        obtain⟨d,val,hf⟩:=HF.out;obtain⟨f1,f2,f3⟩:=qes hf k hlt;exact⟨f1,f2,d,val,f3⟩
       obtain⟨-,hnm,hfe⟩:=hff;have Hfe:Hid (∃ d val,qam W d val (qao s k).of):=hid (by rw[qkk s hlt];exact hfe);have Hcl:Hid (s.of.fields[k].of.clo W.length):=hid (by obtain⟨d,val,hf⟩:=hfe;exact qbn W d val _ hf);have Hnok:=hid (qkj Hcl.out fun he=>(hnm he).2);have Hnm:=hid hnm;clear hfe hnm;obtain⟨b,o,cs,rfl,hn1,hc,htf⟩:=FdsR.get H2.out k hlt;have Htf:=hid htf;have Hn1:=hid hn1;obtain⟨m1,l1,m2,l2,m3,l3,m4,l4,rfl,-⟩:=htf.open;obtain⟨e0,e1,e2,e3,e4,e5,e6,e7⟩:=qhx (hc.keep HK.out);simp only[Nat.zero_add] at e0 e1 e2 e3 e4 e5 e6 e7;have hbr:=zj wo _ e0;simp only at hbr;have hbr1:b<wo.heap.size+1:=by omega
       have hself:wo.heap.size<wo.heap.size+1:=zw _;clear hc htf hn1
       go_wp2_with (first|(go_at_call 57;refine(qte s _ k w0 _ (HK.out.trans (qac.alloc _ _)) Hs.out (by omega) (by omega) (by omega)).mono ?_;rintro e w4 ⟨cs,rfl,ht4,hb4⟩;obtain⟨y1,g1,y2,g2,y3,g3,y4,g4,rfl,-⟩:=ht4.open;have Hs4:Hid (qb6 w0 (qao s k) (.agg #[.int .i64 (qao s k).of.kind,.int .i64 (qao s k).of.num,.slice y1 (qao s k).of.elem.length g1,.slice y2 (qao s k).of.fields.length g2,.slice y3 (qao s k).of.methods.length g3,.slice y4 (qao s k).of.embeds.length g4,.int .i64 (qao s k).at_,.int .i64 (qao s k).pkg])):=hid ⟨_,rfl,ht4⟩;clear ht4;have hz4:=zq hb4;(try simp only[zd,qaa] at hz4);obtain⟨hc4,hf4⟩:=qal hb4;(try simp only[zd,qaa] at hc4);have hl4:wo.heap.size<w4.heap.size:=(by omega);have hl4':w.heap.size<w4.heap.size:=(by omega))|(go_at_call 58;refine(qdc W _ c s.of.fields[k] [.int .i64 s.of.fields[k].of.kind,.int .i64 s.of.fields[k].of.num,.slice m1 s.of.fields[k].of.elem.length l1,.slice m2 s.of.fields[k].of.fields.length l2,.slice m3 s.of.fields[k].of.methods.length l3,.slice m4 s.of.fields[k].of.embeds.length l4] w0 _ (((HK.out.trans (qac.alloc _ _)).trans (qac.below hb4)).trans (qac.alloc _ _)) HW.out Htf.out Hnok.out Hn1.out).mono ?_;rintro e w5 ⟨rfl,hb5⟩;have hz5:=zq hb5;(try simp only[zd,qaa] at hz5);obtain⟨hc5,hf5⟩:=qal hb5;(try simp only[zd,qaa] at hc5)))
       have Hn12:Hid (Blk w5 wo.heap.size 95 [.int .i64 s.of.fields[k].name,.bool s.of.fields[k].embedded,.int .i64 s.of.fields[k].of.kind,.int .i64 s.of.fields[k].of.num,.slice m1 s.of.fields[k].of.elem.length l1,.slice m2 s.of.fields[k].of.fields.length l2,.slice m3 s.of.fields[k].of.methods.length l3,.slice m4 s.of.fields[k].of.embeds.length l4]):=hid ((((Blk.new wo _ [.int .i64 s.of.fields[k].name,.bool s.of.fields[k].embedded,.int .i64 s.of.fields[k].of.kind,.int .i64 s.of.fields[k].of.num,.slice m1 s.of.fields[k].of.elem.length l1,.slice m2 s.of.fields[k].of.fields.length l2,.slice m3 s.of.fields[k].of.methods.length l3,.slice m4 s.of.fields[k].of.embeds.length l4]).keep hb4).alloc _).keep hb5);have Hn13:Hid (Blk w5 w4.heap.size 88 [.int .i64 (qao s k).of.kind,.int .i64 (qao s k).of.num,.slice y1 (qao s k).of.elem.length g1,.slice y2 (qao s k).of.fields.length g2,.slice y3 (qao s k).of.methods.length g3,.slice y4 (qao s k).of.embeds.length g4,.int .i64 (qao s k).at_,.int .i64 (qao s k).pkg]):=hid ((Blk.new w4 _ [.int .i64 (qao s k).of.kind,.int .i64 (qao s k).of.num,.slice y1 (qao s k).of.elem.length g1,.slice y2 (qao s k).of.fields.length g2,.slice y3 (qao s k).of.methods.length g3,.slice y4 (qao s k).of.embeds.length g4,.int .i64 (qao s k).at_,.int .i64 (qao s k).pkg]).keep hb5);have hB4:Below wo.heap.size wo w4:=((zp _ _).alloc (zl _) _).trans (hb4.mono (by simp));have hB5:Below wo.heap.size wo w5:=hB4.trans (((zp _ _).alloc (by omega) _).trans (hb5.mono (by simp;omega)));have HB5:=hid hB5;have HK5:Hid (qac w0 w5):=hid (HK.out.trans (qac.below hB5));have hz6:=zq hB5;clear hB4 hB5 hb4 hb5 hc4 hf4 hc5 hf5 e0 e1 e2 e3 e4 e5 e6 e7 c0 c1 c2 c3 c4 c5 c6 c7
       go_loopw [91] (fun j wr=>∃ i:Nat,i≤k∧j = .int .i64 i∧Below w5.heap.size w5 wr∧Hid (∀ j (hj:j<k),j<i→fname W s.of.fields[k]≠8→fname W s.of.fields[k]≠fname W s.of.fields[j]))
        (fun j _=>k - (intOf j).toNat)
       case atStart=>exact⟨0,by omega,rfl,zp _ _,hid fun i hi hj=>by omega⟩
       case round=>
        obtain⟨i,hi,rfl,hbel2,hok2⟩:=hrel;have hK:qac w0 wr:=HK5.out.trans (qac.below hbel2);have hz7:=zq hbel2;have hHK:=hid hK;clear hK;by_cases hlt2:i<k
        ·obtain⟨b2,o2,cs2,hbo,hn2,hc2,htf2⟩:=FdsR.get H2.out i (by omega);cases hbo;have Htf2:=hid htf2;have Hn2:=hid hn2;obtain⟨M1,L1,M2,L2,M3,L3,M4,L4,rfl,-⟩:=htf2.open;obtain⟨e0,e1,e2,e3,e4,e5,e6,e7⟩:=qhx (hc2.keep hHK.out);simp only[Nat.zero_add] at e0 e1 e2 e3 e4 e5 e6 e7;have hbr2:=zj wr _ e0;simp only at hbr2;have hbr3:b<wr.heap.size+1:=by omega
         have Hnok2:Hid (qqp W.length s.of.fields[i]):=hid (by
          obtain⟨d,val,hf⟩:=HF.out;obtain⟨f1,f2,f3⟩:=qes hf i (by omega);exact qkj (qbn W d val _ f3) fun he=>(f2 he).2)
         clear hc2 htf2 hn2;cases h8:(fname W s.of.fields[k] != 8) with
         | false=>
          go_wp2_with fail
          go_roundw
          case rel=>exact⟨i+1,by omega,by go_num,bel,hid fun j hj hji h88=>by simp at h8;exact absurd h8 h88⟩
          case measure=>simp[intOf];omega
         | true=>
          cases heq:(fname W s.of.fields[k]==fname W s.of.fields[i]) with
          | true=>
           go_wp2_with (go_at_call 58;refine(qdc W _ c s.of.fields[i] [.int .i64 s.of.fields[i].of.kind,.int .i64 s.of.fields[i].of.num,.slice M1 s.of.fields[i].of.elem.length L1,.slice M2 s.of.fields[i].of.fields.length L2,.slice M3 s.of.fields[i].of.methods.length L3,.slice M4 s.of.fields[i].of.embeds.length L4] w0 _ (hHK.out.trans (qac.alloc _ _)) HW.out Htf2.out Hnok2.out Hn2.out).mono ?_;rintro e w8 ⟨rfl,hb8⟩;have hz8:=zq hb8;(try simp only[zd,qaa] at hz8))
           go_ret
           exact⟨_,rfl,fun hx=>by simp at hx,(Hkb.out.trans (hbel.mono (by omega))).trans ((HB5.out.mono (by omega)).trans ((hbel2.mono (by omega)).trans (((zp _ _).alloc (by omega) _).trans (hb8.mono (by simp;omega)))))⟩
          | false=>
           go_wp2_with (go_at_call 58;refine(qdc W _ c s.of.fields[i] [.int .i64 s.of.fields[i].of.kind,.int .i64 s.of.fields[i].of.num,.slice M1 s.of.fields[i].of.elem.length L1,.slice M2 s.of.fields[i].of.fields.length L2,.slice M3 s.of.fields[i].of.methods.length L3,.slice M4 s.of.fields[i].of.embeds.length L4] w0 _ (hHK.out.trans (qac.alloc _ _)) HW.out Htf2.out Hnok2.out Hn2.out).mono ?_;rintro e w8 ⟨rfl,hb8⟩;have hz8:=zq hb8;(try simp only[zd,qaa] at hz8))
           go_roundw
           case rel=>exact⟨i+1,by omega,by go_num,hbel2.trans (((zp _ _).alloc (by omega) _).trans (hb8.mono (by simp;omega))),hid fun j hj hji h88=>by
            by_cases hje:j=i
            ·subst hje;simpa using heq
            ·exact hok2.out j hj (by omega) h88⟩
           case measure=>simp[intOf];omega
        ·obtain rfl:i=k:=by omega
         obtain⟨d0,d1',d2',d3',d4',d5',d6',d7'⟩:=qhx ((Hn12.out.keep hbel2).cells);obtain⟨E0,E1,E2,E3,E4,E5,E6,E7⟩:=qgv ((Hn13.out.keep hbel2).cells);obtain⟨C0,C1,C2,C3,C4,C5,C6,C7⟩:=qgv (((Hb.out.keep (qac.belowGe hbel (by omega))).keep (qac.below HB5.out)).keep (qac.below hbel2));simp only[Nat.zero_add] at d0 d1' d2' d3' d4' d5' d6' d7' E0 E1 E2 E3 E4 E5 E6 E7 C0 C1 C2 C3 C4 C5 C6 C7;have hBt:Below w.heap.size w wr:=(Hkb.out.trans (hbel.mono (by omega))).trans ((HB5.out.mono (by omega)).trans (hbel2.mono (by omega)));have HBt:=hid hBt;have hwz:=zq hBt;have hl12:wo.heap.size<wr.heap.size:=by omega
         have hl13:w4.heap.size<wr.heap.size:=by have:=Hn13.out.lt;omega
         have hl3:w.heap.size<wr.heap.size:=by omega
         have hBo:Below (w.heap.size+1) w2 wr:=hbel.trans ((HB5.out.mono (by omega)).trans (hbel2.mono (by omega)));have HBo:=hid hBo;clear hBt hBo;have Hem:Hid (s.of.fields[i].embedded=true→EmbOk W.length (qao s i).of):=hid (fun he=>by
          rw[qkk s hlt];exact qwg Hcl.out (Hnm.out he).2)
         cases hemb:s.of.fields[i].embedded with
         | false=>
          rw[hemb] at d1';have Hemb:=hid hemb;clear hemb
          go_wp2_with (go_at_call 36;refine(IH.out (qao s i) _ _ hbu1 (by omega) Hfe.out Hpk.out Hs4.out hHK.out).mono ?_;rintro e w9 ⟨b9,rfl,hp9,hb9⟩;have Hp9:=hid hp9;clear hp9;have hz9:=zq hb9;obtain⟨hc9,hf9⟩:=qal hb9;cases b9)
          ·go_ret
           exact⟨_,rfl,fun hx=>by simp at hx,HBt.out.trans (hb9.mono (by omega))⟩
          ·go_roundw
           case rel=>exact⟨i+1,by omega,by go_num,HBo.out.trans (hb9.mono (by omega)),hid fun i2 hi2 hik=>by
            by_cases hie:i2=i
            ·subst hie;exact⟨fun j hj=>hok2.out j hj (by omega),Hp9.out (by simp),fun h=>by rw[Hemb.out] at h;cases h⟩
            ·exact hok.out i2 hi2 (by omega)⟩
           case measure=>simp[intOf];omega
         | true=>
          rw[hemb] at d1';have hemo:=Hem.out hemb;have Hemo:=hid hemo;clear hemb hemo;cases heb:qgg W s.pkg (qao s i) with
          | false=>
           have Heb:=hid heb;clear heb
           go_wp2_with (first|(go_at_call 36;refine(IH.out (qao s i) _ _ hbu1 (by omega) Hfe.out Hpk.out Hs4.out hHK.out).mono ?_;rintro e w9 ⟨b9,rfl,hp9,hb9⟩;have Hp9:=hid hp9;clear hp9;have hz9:=zq hb9;obtain⟨hc9,hf9⟩:=qal hb9;cases b9)|(go_at_call 59;refine(qlj W _ c s.pkg (qao s i) _ w0 _ (hHK.out.trans (qac.below hb9)) HW.out HC.out Hs4.out Hemo.out Hpk.out).mono ?_;rintro e w10 ⟨rfl,hb10⟩;have hz10:=zq hb10;rw[Heb.out]))
           ·go_ret
            exact⟨_,rfl,fun hx=>by simp at hx,HBt.out.trans (hb9.mono (by omega))⟩
           ·go_ret
            exact⟨_,rfl,fun hx=>by simp at hx,HBt.out.trans ((hb9.mono (by omega)).trans (hb10.mono (by omega)))⟩
          | true=>
           have Heb:=hid heb;clear heb
           go_wp2_with (first|(go_at_call 36;refine(IH.out (qao s i) _ _ hbu1 (by omega) Hfe.out Hpk.out Hs4.out hHK.out).mono ?_;rintro e w9 ⟨b9,rfl,hp9,hb9⟩;have Hp9:=hid hp9;clear hp9;have hz9:=zq hb9;obtain⟨hc9,hf9⟩:=qal hb9;cases b9)|(go_at_call 59;refine(qlj W _ c s.pkg (qao s i) _ w0 _ (hHK.out.trans (qac.below hb9)) HW.out HC.out Hs4.out Hemo.out Hpk.out).mono ?_;rintro e w10 ⟨rfl,hb10⟩;have hz10:=zq hb10;rw[Heb.out]))
           ·go_ret
            exact⟨_,rfl,fun hx=>by simp at hx,HBt.out.trans (hb9.mono (by omega))⟩
           ·go_roundw
            case rel=>exact⟨i+1,by omega,by go_num,HBo.out.trans ((hb9.mono (by omega)).trans (hb10.mono (by omega))),hid fun i2 hi2 hik=>by
             by_cases hie:i2=i
             ·subst hie;exact⟨fun j hj=>hok2.out j hj (by omega),Hp9.out (by simp),fun _=>qsm Heb.out⟩
             ·exact hok.out i2 hi2 (by omega)⟩
            case measure=>simp[intOf];omega
      ·obtain rfl:k=s.of.fields.length:=by omega
       have Hok3:=hid (fun i (hi:i<s.of.fields.length)=>hok.out i hi hi);clear hok hlt hk hz;have hBt:Below w.heap.size w wo:=Hkb.out.trans (hbel.mono (by omega));have HBt:=hid hBt;have hl3:w.heap.size<wo.heap.size:=by have:=zq hbel;omega
       clear hBt;cases hel:((s.of.elem.length:Int)==0) with
       | true=>
        go_wp2_with fail
        go_ret
        exact⟨_,rfl,fun _=>qoc W s Hok1.out Hok2.out Hok3.out (fun h=>by simp at hel;rw[hel] at h;simp at h),HBt.out⟩
       | false=>
        have hel':0<s.of.elem.length:=by
         simp only[beq_eq_false_iff_ne,ne_eq] at hel;omega
        have Hel:=hid hel';have Hfel:Hid (∃ d val,qam W d val (qaq s).of):=hid (by
         obtain⟨d,val,hf⟩:=HF.out;exact⟨d,false,(qhe hf hel').2⟩)
        obtain⟨hbu1,hbu2⟩:=qtz s hel';clear hel'
        go_wp2_with (first|(go_at_call 60;refine(qhs s _ w0 _ HK.out Hs.out Hel.out).mono ?_;rintro e w4 ⟨cs,rfl,ht4,hb4⟩;obtain⟨y1,g1,y2,g2,y3,g3,y4,g4,rfl,-⟩:=ht4.open;have Hs4:Hid (qb6 w0 (qaq s) (.agg #[.int .i64 (qaq s).of.kind,.int .i64 (qaq s).of.num,.slice y1 (qaq s).of.elem.length g1,.slice y2 (qaq s).of.fields.length g2,.slice y3 (qaq s).of.methods.length g3,.slice y4 (qaq s).of.embeds.length g4,.int .i64 (qaq s).at_,.int .i64 (qaq s).pkg])):=hid ⟨_,rfl,ht4⟩;clear ht4;have hz4:=zq hb4)|(go_at_call 36;refine(IH.out (qaq s) _ _ hbu1 (by omega) Hfel.out Hpk.out Hs4.out (HK.out.trans (qac.below hb4))).mono ?_;rintro e w6 ⟨b6,rfl,hp6,hb6⟩;have Hp6:=hid hp6;clear hp6;have hz6:=zq hb6;cases b6))
        ·go_ret
         exact⟨_,rfl,fun hx=>by simp at hx,HBt.out.trans ((hb4.mono (by omega)).trans (hb6.mono (by omega)))⟩
        ·go_ret
         exact⟨_,rfl,fun _=>qoc W s Hok1.out Hok2.out Hok3.out (fun h=>Hp6.out (by simp)),HBt.out.trans ((hb4.mono (by omega)).trans (hb6.mono (by omega)))⟩
theorem qwa (W:Wd) (a:Option Addr) (c:Nat) (w0:World) (hW:WOk w0 W a c) (hC:CloW W) (n:Nat):∀ (s:Spot) (v:Value) (w:World),s.of.bulk≤n→s.of.bulk≤1048576→s.at_+s.of.bulk≤4194304→
  (∃ d val,qam W d val s.of)→i64 s.pkg→qb6 w0 s v→qac w0 w→Calls prog 36 #[.slice a W.length c,v] w (qb8 (qcj W s) w):=by
 induction n with
 | zero=>
  intro s v w h;have:=qd3 s.of;omega
 | succ n ih=>
  intro s v w h hb hat hF hpk hs k0;exact qse W a c w0 hW hC s v w hb hat hF hpk hs k0 fun u v w hu hat hF hpk hs k0=>ih u v w (by omega) (by omega) hat hF hpk hs k0
theorem qod (W:Wd) (a:Option Addr) (c:Nat) (w0:World) (hW:WOk w0 W a c) (hC:CloW W) (s:Spot) (v:Value) (w:World) (hb:s.of.bulk≤1048576) (hat:s.at_+s.of.bulk≤4194304)
  (hF:∃ d val,qam W d val s.of) (hpk:i64 s.pkg) (hs:qb6 w0 s v) (k0:qac w0 w):Calls prog 36 #[.slice a W.length c,v] w (qb8 (qcj W s) w):=
 qwa W a c w0 hW hC s.of.bulk s v w (zl _) hb hat hF hpk hs k0
