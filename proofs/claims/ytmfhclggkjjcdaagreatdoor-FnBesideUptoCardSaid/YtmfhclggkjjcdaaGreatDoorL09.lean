import Derived.Test.YtmfhclggkjjcdaaGreatDoorL08
import Derived.Test.YtmfhclggkjjcdaaGreatDoorL04
import Derived.Test.YtmfhclggkjjcdaaGreatDoorL03
import Derived.Deep.QuietTactic
import Derived.BigQuiet
import Derived.MapKept
import Derived.Deep.RegionWith
import Derived.Test.YtmfhclggkjjcdaaGreatDoorProg
import Derived.OwnWalk
set_option linter.all false
set_option maxHeartbeats 2000000
namespace Go.Proofs.YtmfhclggkjjcdaaGreatDoor
open Go Go.RowKit Go.Proofs.Tryz
set_option maxRecDepth 100000
def AllV (w:World) (v:Value):Prop:=∃ tl c te cs,v = .slice (some ⟨tl,0,none⟩) 1 c∧1≤c∧Blk w tl 273 (.pointer (some ⟨te,0,none⟩)::cs)∧Blk w te 275 [.bool false,.nilIface]
theorem qed (w:World):Calls prog 119 #[] w fun e w'=>e = .returned (.slice (some ⟨w.heap.size+1,0,none⟩) 1 1)∧w'=(w.alloc (.cells #[.bool false,.nilIface] 275)).alloc (.cells #[.pointer (some ⟨w.heap.size,0,none⟩)] 273):=by
 go_enter func119,ntmps119
 go_wp2_with fail
 go_ret
 exact⟨by simp,rfl⟩
theorem qkq (w:World):Calls prog 91 #[] w fun e w'=>e = .returned (.pointer (some ⟨w.heap.size+2,0,none⟩))∧
  w'=((w.alloc (.cells #[.bool false,.nilIface] 275)).alloc (.cells #[.pointer (some ⟨w.heap.size,0,none⟩)] 273)).alloc (.cells #[.bool false,.slice none 0 0,.slice (some ⟨w.heap.size+1,0,none⟩) 1 1,.bool false] 248):=by
 go_enter func91,ntmps91
 go_wp2_with (go_at_call 119;refine(qed _).mono ?_;rintro e w' ⟨rfl,rfl⟩)
 go_ret
 exact⟨by simp,rfl⟩
def SetAt (w:World) (ts:Nat) (fs:List Nat):Prop:=∃ a c tv,Blk w ts 248 [.bool false,.slice a fs.length c,tv,.bool false]∧w.ownsRow 0 106 1 (.slice a fs.length c) fs.length (qa7 fs)∧AllV w tv
def qqk (w:World) (ts:Nat):Prop:=∃ tv,Blk w ts 248 [.bool false,.slice none 0 0,tv,.bool false]∧AllV w tv
theorem qqk.set {w:World} {ts:Nat} (h:qqk w ts):SetAt w ts []:=by
 obtain⟨tv,h1,h2⟩:=h;exact⟨none,0,tv,h1,zdb _ _ _ _,h2⟩
def qcd (ra:Option Addr) (n rc:Nat) (ea:Option Addr) (m ec:Nat) (ts:Option Nat):List Value:=[.pointer none,.slice ra n rc,.slice ea m ec,.pointer none,.bool false,.bool true,.pointer (ts.map fun b=>⟨b,0,none⟩)]
theorem qok (a1 a2:Option Addr) (c1 c2:Nat) (w:World):Calls prog 70 #[.slice a1 0 c1,.slice a2 0 c2] w fun e w'=>∃ b ts,e = .returned (.pointer (some ⟨b,0,none⟩))∧
  Blk w' b 175 (qcd none 0 0 none 0 0 (some ts))∧qqk w' ts∧w.heap.size≤b∧w.heap.size≤ts∧Below w.heap.size w w':=by
 go_enter func70,ntmps70
 go_wp2_with (go_at_call 91;refine(qkq _).mono ?_;rintro e w' ⟨rfl,rfl⟩)
 go_ret
 refine⟨_,w.heap.size+2,rfl,qbb ?_ _ _,⟨_,(qbb ?_ _ _).alloc _,w.heap.size+1,1,w.heap.size,[],rfl,zl _,((qbb ?_ _ _).alloc _).alloc _,(((qbb rfl _ _).alloc _).alloc _).alloc _⟩,?_,?_,?_⟩
 iterate 5 · first|omega|(simp;done)|(simp;omega)
 ·iterate 4 refine Below.alloc ?_ (by simp <;> omega) _
  exact zp _ _
theorem ta1_yes {D:TypeId} {e:TypeId} (hu:prog.underlying D=some (.pointer e)) (v:Value) (w:World):(Instr.typeAssert (.iface D v) 63 D false).run prog w = .ok v w:=by
 simp[Instr.typeAssert,run_underlying hu,go_sem]
theorem qaf {w:World} {T:TypeId} {size n c:Nat} {a:Option Addr} {xs:List Value} (h:w.ownsRow 0 T size (.slice a n c) n xs) {g:Nat} (hg:(Value.slice a n c).ownBlock=some g):∃ cs,Blk w g T cs:=by
 obtain⟨-,⟨he,-⟩|⟨g',cap,cur,he,-,hb,-⟩⟩:=h
 ·cases he;cases hg
 ·cases he;cases hg;exact⟨cur.toList,by unfold Blk;simpa using hb⟩
def FB (w:World) (f sg pk:Nat) (n:Int) (rv:Value):Prop:=Blk w f 167 [.int .i64 0,.pointer (some ⟨pk,0,none⟩),.string (qas n),.iface 162 (.pointer (some ⟨sg,0,none⟩)),.bool false,.bool false]∧
 Blk w sg 199 [rv,.pointer none,.pointer none,.pointer none,.bool false]
def VB (w:World) (v pk ib:Nat):Prop:=Blk w v 191 [.int .i64 0,.pointer (some ⟨pk,0,none⟩),.string ⟨#[]⟩,.iface 112 (.pointer (some ⟨ib,0,none⟩)),.int .u8 3,.bool false]
theorem FB.apart {S:Nat→Prop} {w w':World} {f sg pk:Nat} {n:Int} {rv:Value} (h:FB w f sg pk n rv) (k:qag S w w') (h1:¬ S f) (h2:¬ S sg):FB w' f sg pk n rv:=⟨h.1.apart k h1,h.2.apart k h2⟩
theorem Blk.tne {w:World} {a b:Nat} {T U:TypeId} {cs ds:List Value} (h:Blk w a T cs) (k:Blk w b U ds) (hT:T≠U):a≠b:=fun e=>by
 subst e;unfold Blk at h k;rw[h] at k;injection k with k;injection k with _ k;exact hT k
def qsf (L:Nat) (w:World) (k:Nat) (fs sgs:List Nat) (ns:List Int) (pk ib:Nat):Prop:=∀ i (hi:i<fs.length),(i<k→∃ v,L≤v∧FB w fs[i] (sgs.getD i 0) pk (ns.getD i 0) (.pointer (some ⟨v,0,none⟩))∧VB w v pk ib)∧(k≤i→FB w fs[i] (sgs.getD i 0) pk (ns.getD i 0) (.pointer none))
theorem qmh (ra ea:Option Addr) (rc m ec:Nat) (fs sgs:List Nat) (ns:List Int) (pk:Nat) (p:Int) (w0 w:World) (hT:Tabs w0) (hB:Below w0.heap.size w0 w) (h0:0<fs.length)
  (hown:w.ownsRow 0 106 1 (.slice ra fs.length rc) fs.length (qa7 fs)) (hob:∀ g,(Value.slice ra fs.length rc).ownBlock=some g→w0.heap.size≤g)
  (hf:∀ i (hi:i<fs.length),FB w fs[i] (sgs.getD i 0) pk (ns.getD i 0) (.pointer none)∧IsNm (ns.getD i 0)) (hfn:fs.Nodup) (hsn:∀ i j,i<fs.length→j<fs.length→sgs.getD i 0=sgs.getD j 0→i=j)
  (hpk:w.cell? ⟨pk,0,none⟩=some (.string (qbo p))) (hp:p=0∨p=1) (hpkB:∃ cs,Blk w pk 128 cs) (hsl:∀ i,i<fs.length→w0.heap.size≤sgs.getD i 0) (hl:fs.length≤1048576):
  Calls prog 70 #[.slice ra fs.length rc,.slice ea m ec] w fun e w'=>∃ ib π,e = .returned (.pointer (some ⟨ib,0,none⟩))∧w.heap.size≤ib∧
   qah (fun b=>(∃ i,i<fs.length∧b=sgs.getD i 0)∨(Value.slice ra fs.length rc).ownBlock=some b) w w'∧Blk w' ib 175 (qcd ra fs.length rc ea m ec none)∧
   Srt (fun i=>rank p (ns.getD i 0)) fs.length π∧w'.ownsRow 0 106 1 (.slice ra fs.length rc) fs.length (qa7 (π.map fun i=>fs.getD i 0))∧qsf w.heap.size w' fs.length fs sgs ns pk ib:=by
 have HT:=hid hT;have HB:=hid hB;have Hown:=hid hown;have Hob:=hid hob;have Hf:=hid hf;have Hfn:=hid hfn;have Hsn:=hid hsn;have Hpk:=hid hpk;have Hp:=hid hp;have Hpl:=hid hpkB;have Hsl:=hid hsl;have hz0:=hB.size;have hpl2:pk<w.heap.size:=hpkB.choose_spec.lt;clear hT hB hown hob hf hfn hsn hpk hp hpkB hsl;have hne0:((fs.length:Int)==0)=false:=by simp;intro e;subst e;simp at h0
 clear h0;go_enter func70,ntmps70
 go_wp2_with (go_at_call 92;refine(qfu _).mono ?_;rintro e w' ⟨rfl,rfl⟩)
 have HI:=hid (Blk.new w 175 [.pointer none,.slice none 0 0,.slice none 0 0,.pointer none,.bool false,.bool false,.pointer none]);have H1:Hid (qah (fun b=>∃ i,i<fs.length∧b=sgs.getD i 0) w (w.alloc (.cells #[.pointer none,.slice none 0 0,.slice none 0 0,.pointer none,.bool false,.bool false,.pointer none] 175))):=hid (qah.keep ((zp _ _).alloc (zl _) _));have HR0:Hid (qsf w.heap.size (w.alloc (.cells #[.pointer none,.slice none 0 0,.slice none 0 0,.pointer none,.bool false,.bool false,.pointer none] 175)) 0 fs sgs ns pk w.heap.size):=hid fun i hi=>⟨fun h=>by omega,fun _=>((Hf.out i hi).1).apart (S:=fun _=>False) (qag.keep ((zp _ _).alloc (zl _) _)) (fun h=>h) (fun h=>h)⟩;have HS:Hid (∀ g,(Value.slice ra fs.length rc).ownBlock=some g→¬ ∃ i,i<fs.length∧g=sgs.getD i 0):=hid fun g hg ⟨i,hi,e⟩=>by
  obtain⟨cs,hb⟩:=qaf Hown.out hg;exact hb.tne (Hf.out i hi).1.2 (by decide) e
 have HSf:Hid (∀ j,j<fs.length→¬ ∃ i,i<fs.length∧fs.getD j 0=sgs.getD i 0):=hid fun j hj ⟨i,hi,e⟩=>by
  have h1:=(Hf.out j hj).1.1;rw[zv,zr hj] at e;exact h1.tne (Hf.out i hi).1.2 (by decide) e
 have hib:w.heap.size<w.heap.size+1:=zw _;have hta:=fun v w=>ta1_yes underlying162 v w
 go_loopw [23] (fun j wr=>∃ k:Nat,k≤fs.length∧j = .int .i64 k∧w.heap.size+1≤wr.heap.size∧Hid (qah (fun b=>∃ i,i<fs.length∧b=sgs.getD i 0) w wr∧qsf w.heap.size wr k fs sgs ns pk w.heap.size∧
   Blk wr w.heap.size 175 [.pointer none,.slice none 0 0,.slice none 0 0,.pointer none,.bool false,.bool false,.pointer none]))
  (fun j _=>fs.length - (intOf j).toNat)
 case atStart=>exact⟨0,by omega,rfl,by simp,hid ⟨H1.out,HR0.out,HI.out⟩⟩
 clear HI H1 HR0
 case round=>
  obtain⟨k,hk,rfl,hz,hst⟩:=hrel;obtain⟨htu,hrv,hib'⟩:=hst.out;have Htu:=hid htu;have Hrv:=hid hrv;have Hib:=hid hib';have Hown2:=hid (qab Hown.out htu.apart HS.out);clear hst htu hrv hib';by_cases hlt:k<fs.length
  ·obtain⟨g,o,rfl,hg⟩:=qeh Hown2.out k hlt;obtain⟨-,hb2⟩:=Hrv.out k hlt;obtain⟨hbf,hbs⟩:=hb2 (zl _);have f0:=hbf.cell 0;have f1:=hbf.cell 1;have f3:=hbf.cell 3;have s0:=hbs.cell 0;have q0:=hbs.soft 0;simp only[zu,zt] at f0 f1 f3 s0;have Hbf:=hid hbf;have Hbs:=hid hbs;have hlf:=hbf.lt;have hls:=hbs.lt;obtain⟨x,hx⟩:∃ x,x=fs[k]:=⟨_,rfl⟩;obtain⟨y,hy⟩:∃ y,y=sgs.getD k 0:=⟨_,rfl⟩;rw[← hx] at hg f0 f1 f3 hlf;rw[← hy] at f3 s0 q0 hls;have Hx:=hid hx;have Hy:=hid hy;clear hx hy hbf hbs hb2
   go_wp2_with fail
   refine Mix.wp_region [0,1,2,3,4,5,6,7,8,9,10,11,12] [(13,false)] [14,15,16] (fun _=>default) (by kernel_rfl) (by kernel_rfl) (by decide) ?_
   iterate 13 (first|(refine pre_yes rfl rfl ?_;apply Exists.intro;refine⟨fun W1 hW1 => ?_,?_⟩;(focus (have hc1:=(qal hW1).1;(try simp only[zd,qaa] at hc1);have hk1:=qac.below hW1;go_simp;first|exact rfl|fail));simp only[Act.put,zk,zh,zi,ze,zm,zn])|(refine pre_no rfl rfl ?_;simp only[Act.put,zk,zh,zi,ze,zm,zn]))
   refine pre_end (fl_op fl_nil) (fun W2 hW2 => ?_);have hz2:=zq hW2;(try simp only[zd,qaa] at hz2);refine mid_call hW2 rfl rfl (fun Kp hKp => ?_);go_simp;refine(qir _ _ _ _ _ _).mono ?_;rintro e W3 ⟨rfl,rfl⟩;refine⟨_,rfl,hKp _ _ ((zp _ _).alloc (zl _) _) fun W4 hW4 => ?_⟩;simp only[Act.put,zk,zh,zi,ze,zm,zn];have hz4:=zq hW4;(try simp only[zd,qaa] at hz4);have hB4:=qa4 hW4 (qbl ((zp _ _).alloc (zl _) _) hW2 (by first|omega|(simp;done)|(simp;omega)));have hB5:Below wr.heap.size wr W4:=((zp _ _).drew).trans (hB4.mono (by simp));have HB5:=hid hB5;have hv4:=(Blk.new W2 191 [.int .i64 0,.pointer (some ⟨pk,0,none⟩),.string ⟨#[]⟩,.iface 112 (.pointer (some ⟨w.heap.size,0,none⟩)),.int .u8 3,.bool false]).keep hW4;have Hv4:=hid hv4;have hs4:=(qac.below hB5) _ _ s0;have hq4:W4.frozen? ⟨y,0,none⟩=false:=by rw[hB5.frozen (p:=⟨y,0,none⟩) hls];exact q0
   have hly:y<W4.heap.size:=by omega
   clear hB4 hB5 hv4 hKp f0 f1 f3 s0 q0 hg hW2 hW4;refine mid_nil (qqy rfl rfl rfl ?_)
   go_wp2_with fail
   go_roundw
   case rel=>
    have hT5:qah (fun b=>∃ i,i<fs.length∧b=sgs.getD i 0) wr (W4.setCell ⟨y,0,none⟩ (.pointer (some ⟨W2.heap.size,0,none⟩))):=(qah.keep HB5.out).trans (qah.setCell _ _ ⟨k,hlt,Hy.out⟩ _);have hA5:qag (fun b=>b=y) wr (W4.setCell ⟨y,0,none⟩ (.pointer (some ⟨W2.heap.size,0,none⟩))):=(qag.keep HB5.out).trans (qag.setCell (fun b=>b=y) W4 (a:=⟨y,0,none⟩) rfl _);refine⟨k+1,by omega,by go_num,by simp;omega,hid ⟨Htu.out.trans hT5,fun i hi=>⟨fun hik => ?_,fun hik => ?_⟩,?_⟩⟩
    ·by_cases e:i=k
     ·subst e;refine⟨W2.heap.size,by omega,⟨?_,?_⟩,?_⟩
      ·exact(Hbf.out.keep HB5.out).other (fun e2=>by
        have:=HSf.out i hi;rw[zv,zr hi] at this;exact this ⟨i,hi,e2.trans Hy.out⟩) _
      ·rw[← Hy.out];have:=(Hbs.out.keep HB5.out);rw[← Hy.out] at this;exact this.set 0 _
      ·exact Hv4.out.other (by simp;omega) _
     ·obtain⟨v,hvL,h1,h2⟩:=(Hrv.out i hi).1 (by omega);exact⟨v,hvL,h1.apart hA5 (fun e2=>HSf.out i hi ⟨k,hlt,by
       rw[zv,zr hi];exact e2.trans Hy.out⟩) (fun e2=>e (Hsn.out i k hi hlt (e2.trans Hy.out))),h2.apart hA5 (Blk.tne h2 (Hy.out ▸ Hbs.out) (by decide))⟩
    ·exact((Hrv.out i hi).2 (by omega)).apart hA5 (fun e2=>HSf.out i hi ⟨k,hlt,by
       rw[zv,zr hi];exact e2.trans Hy.out⟩) (fun e2=>by have:=Hsn.out i k hi hlt (e2.trans Hy.out);omega)
    ·exact Hib.out.apart hA5 (Blk.tne Hib.out (Hy.out ▸ Hbs.out) (by decide))
   case measure=>simp[intOf];omega
  ·obtain rfl:k=fs.length:=by omega
   have hbw:Below w0.heap.size w0 wr:=HB.out.trans (Htu.out.below hz0 fun b hb=>by obtain⟨i,hi,e⟩:=hb;rw[e];exact Hsl.out i hi);have Hso:=hid (qgi ra rc fs (fun _=>pk) (fun _=>p) (fun i=>ns.getD i 0) w0 wr HT.out hbw Hob.out Hown2.out (fun i hi=>by
    obtain⟨v,-,h1,h2⟩:=(Hrv.out i hi).1 hi;have c1:=h1.1.cell 1;have c2:=h1.1.cell 2;simp only[zu,zt] at c1 c2;refine⟨⟨c1,c2,?_,(Hf.out i hi).2,Hp.out,_,_,h1.1⟩,fun e2 => ?_,fun e2 => ?_⟩
    ·have hpl:=zj w _ Hpk.out;exact(zlb (Htu.out.apart.block pk hpl fun⟨j,hj,e⟩=>Hpl.out.choose_spec.tne (Hf.out j hj).1.2 (by decide) e)).trans Hpk.out
    ·obtain⟨cs,hb⟩:=qaf Hown2.out e2;exact hb.tne h1.1 (by decide) rfl
    ·obtain⟨cs,hb⟩:=qaf Hown2.out e2;have hpb:=Hpl.out.choose_spec.apart Htu.out.apart fun⟨j,hj,e⟩=>Hpl.out.choose_spec.tne (Hf.out j hj).1.2 (by decide) e;exact hb.tne hpb (by decide) rfl) Hfn.out hl)
   clear hbw;have HIr:Hid (∀ g,(Value.slice ra fs.length rc).ownBlock=some g→¬ w.heap.size=g):=hid fun g hg e2=>by
    obtain⟨cs,hb⟩:=qaf Hown2.out hg;exact hb.tne Hib.out (by decide) e2.symm
   go_wp2_with (go_at_call 93;refine Hso.out.mono ?_;rintro e w2 ⟨rfl,π,hp1,hp2,hp3⟩;have hb2:=Hib.out.apart hp2.apart (fun e2=>HIr.out _ e2 rfl);have HP1:=hid hp1;have HP2:=hid hp2;have HP3:=hid hp3;have Hb2:=hid hb2;have c1:=hb2.cell 1;have q1:=hb2.soft 1;have c2:=hb2.cell 2;have q2:=hb2.soft 2;have c5:=hb2.cell 5;have q5:=hb2.soft 5;simp only[zu,zt] at c1 c2 c5;have hl2:=hb2.lt;clear hb2 hp1 hp2 hp3)
   go_ret
   have hb3:=((Hb2.out.set 1 (.slice ra fs.length rc)).set 2 (.slice ea m ec)).set 5 (.bool true);have t:∀ (u:World) (j:Nat) (v:Value),qag (fun b=>b=w.heap.size) u (u.setCell ⟨w.heap.size,j,none⟩ v):=fun u j v=>qag.setCell (fun b=>b=w.heap.size) u (a:=⟨w.heap.size,j,none⟩) rfl v;have hA3:=((t w2 1 (.slice ra fs.length rc)).trans (t _ 2 (.slice ea m ec))).trans (t _ 5 (.bool true));have hAw:qah (fun b=>(Value.slice ra fs.length rc).ownBlock=some b∨b=w.heap.size) wr (((w2.setCell ⟨w.heap.size,1,none⟩ (.slice ra fs.length rc)).setCell ⟨w.heap.size,2,none⟩ (.slice ea m ec)).setCell ⟨w.heap.size,5,none⟩ (.bool true)):=
    (HP2.out.mono fun b _ h => .inl h).trans ⟨rfl,rfl,rfl,hA3.mono fun b _ h => .inr h⟩
   refine⟨w.heap.size,π,rfl,zl _,?_,hb3,HP1.out,?_,fun i hi=>⟨fun _ => ?_,fun h=>by omega⟩⟩
   ·have h1:=(Htu.out.mono (S':=fun b=>((∃ i,i<fs.length∧b=sgs.getD i 0)∨(Value.slice ra fs.length rc).ownBlock=some b)∨b=w.heap.size) fun b _ h => .inl (.inl h)).trans (hAw.mono fun b _ h=>by rcases h with h|h;exact .inl (.inr h);exact .inr h);exact h1.mono fun b hb h=>by rcases h with h|h;exact h;omega
   ·exact qab HP3.out hA3 fun g hg e2=>HIr.out g hg e2.symm
   ·obtain⟨v,hvL,h1,h2⟩:=(Hrv.out i hi).1 hi;have nf:∀ {b:Nat} {T:TypeId} {cs:List Value},Blk wr b T cs→T≠106→T≠175→¬ ((Value.slice ra fs.length rc).ownBlock=some b∨b=w.heap.size):=fun hb hT hU h=>by
     rcases h with h|h
     ·obtain⟨cs,hb2⟩:=qaf Hown2.out h;exact hb2.tne hb (fun e=>hT e.symm) rfl
     ·exact hb.tne Hib.out hU h
    exact⟨v,hvL,h1.apart hAw.apart (nf h1.1 (by decide) (by decide)) (nf h1.2 (by decide) (by decide)),h2.apart hAw.apart (nf h2 (by decide) (by decide))⟩
theorem qog (ra ea:Option Addr) (rc m ec:Nat) (w:World) (h0:0<m):
  Calls prog 70 #[.slice ra 0 rc,.slice ea m ec] w fun e w'=>∃ ib,e = .returned (.pointer (some ⟨ib,0,none⟩))∧w.heap.size≤ib∧Below w.heap.size w w'∧Blk w' ib 175 (qcd ra 0 rc ea m ec none):=by
 have hne0:((m:Int)==0)=false:=by simp;omega
 go_enter func70,ntmps70
 go_wp2_with (go_at_call 92;refine(qfu _).mono ?_;rintro e w' ⟨rfl,rfl⟩)
 have HI:=hid (Blk.new w 175 [.pointer none,.slice none 0 0,.slice none 0 0,.pointer none,.bool false,.bool false,.pointer none]);have HB:Hid (Below w.heap.size w (w.alloc (.cells #[.pointer none,.slice none 0 0,.slice none 0 0,.pointer none,.bool false,.bool false,.pointer none] 175))):=hid ((zp _ _).alloc (zl _) _);have hl:w.heap.size<(w.alloc (.cells #[.pointer none,.slice none 0 0,.slice none 0 0,.pointer none,.bool false,.bool false,.pointer none] 175)).heap.size:=by simp
 generalize (w.alloc (.cells #[.pointer none,.slice none 0 0,.slice none 0 0,.pointer none,.bool false,.bool false,.pointer none] 175))=w1 at *
 go_loopw [23] (fun j wr=>j = .int .i64 0∧wr=w1) (fun j _=>0)
 case atStart=>exact⟨rfl,rfl⟩
 case round=>
  obtain⟨rfl,rfl⟩:=hrel;have c1:=HI.out.cell 1;have q1:=HI.out.soft 1;have c2:=HI.out.cell 2;have q2:=HI.out.soft 2;have c5:=HI.out.cell 5;have q5:=HI.out.soft 5;simp only[zu,zt] at c1 c2 c5
  go_wp2_with (go_at_call 93;refine(qfs _ _ _).mono ?_;rintro e w2 ⟨rfl,rfl⟩)
  go_ret
  exact⟨w.heap.size,rfl,zl _,((HB.out.setCell (zl _) _).setCell (zl _) _).setCell (zl _) _,((HI.out.set 1 _).set 2 _).set 5 _⟩
def qr6 (w:World) (k:Nat) (tso:Option Nat):Prop:=(0<k∧tso=none)∨(k=0∧∃ ts,tso=some ts∧qqk w ts)
theorem qoo (ra ea:Option Addr) (rc m ec:Nat) (fs sgs:List Nat) (ns:List Int) (pk:Nat) (p:Int) (w0 w:World) (hT:Tabs w0) (hB:Below w0.heap.size w0 w)
  (hown:w.ownsRow 0 106 1 (.slice ra fs.length rc) fs.length (qa7 fs)) (hob:∀ g,(Value.slice ra fs.length rc).ownBlock=some g→w0.heap.size≤g)
  (hf:∀ i (hi:i<fs.length),FB w fs[i] (sgs.getD i 0) pk (ns.getD i 0) (.pointer none)∧IsNm (ns.getD i 0)) (hfn:fs.Nodup) (hsn:∀ i j,i<fs.length→j<fs.length→sgs.getD i 0=sgs.getD j 0→i=j)
  (hpk:w.cell? ⟨pk,0,none⟩=some (.string (qbo p))) (hp:p=0∨p=1) (hpkB:∃ cs,Blk w pk 128 cs) (hsl:∀ i,i<fs.length→w0.heap.size≤sgs.getD i 0) (hl:fs.length≤1048576):
  Calls prog 70 #[.slice ra fs.length rc,.slice ea m ec] w fun e w'=>∃ ib π ra' rc' ea' ec' tso,e = .returned (.pointer (some ⟨ib,0,none⟩))∧w.heap.size≤ib∧
   qah (fun b=>(∃ i,i<fs.length∧b=sgs.getD i 0)∨(Value.slice ra fs.length rc).ownBlock=some b) w w'∧Blk w' ib 175 (qcd ra' fs.length rc' ea' m ec' tso)∧qr6 w' (fs.length+m) tso∧
   (0<m→ea'=ea∧ec'=ec)∧(ra'=ra∧rc'=rc∨ra'=none)∧
   Srt (fun i=>rank p (ns.getD i 0)) fs.length π∧w'.ownsRow 0 106 1 (.slice ra' fs.length rc') fs.length (qa7 (π.map fun i=>fs.getD i 0))∧qsf w.heap.size w' fs.length fs sgs ns pk ib:=by
 by_cases h0:0<fs.length
 ·refine(qmh ra ea rc m ec fs sgs ns pk p w0 w hT hB h0 hown hob hf hfn hsn hpk hp hpkB hsl hl).mono ?_;rintro e w' ⟨ib,π,rfl,h1,h2,h3,h4,h5,h6⟩;exact⟨ib,π,ra,rc,ea,ec,none,rfl,h1,h2,h3,.inl ⟨by omega,rfl⟩,fun _=>⟨rfl,rfl⟩,.inl ⟨rfl,rfl⟩,h4,h5,h6⟩
 ·obtain rfl:fs=[]:=by cases fs with|nil=>rfl|cons=>simp at h0
  by_cases hm:0<m
  ·refine(qog ra ea rc m ec w hm).mono ?_;rintro e w' ⟨ib,rfl,h1,h2,h3⟩;exact⟨ib,[],ra,rc,ea,ec,none,rfl,h1,qah.keep h2,h3,.inl ⟨by simp;omega,rfl⟩,fun _=>⟨rfl,rfl⟩,.inl ⟨rfl,rfl⟩,⟨by simp,by simp⟩,by
    have:=qab hown (qag.keep (S:=fun _=>False) h2) (fun _ _ h=>h);simpa using this,fun i hi=>by simp at hi⟩
  ·obtain rfl:m=0:=by omega
   refine(qok ra ea rc ec w).mono ?_;rintro e w' ⟨b,ts,rfl,h1,h2,h3,-,h4⟩;exact⟨b,[],none,0,none,0,some ts,rfl,h3,qah.keep h4,h1,.inr ⟨rfl,ts,rfl,h2⟩,fun h=>by omega,.inr rfl,⟨by simp,by simp⟩,by
    simpa[qa7] using zdb w' 0 106 1,fun i hi=>by simp at hi⟩
theorem qij {rk:Nat→Nat}:∀ {l l':List Nat},l.Perm l'→l.Pairwise (fun i j=>rk i≤rk j)→l'.Pairwise (fun i j=>rk i≤rk j)→(∀ i∈l,∀ j∈l,rk i=rk j→i=j)→l=l'
 | [],l',hp,_,_,_=>by rw[List.nil_perm.1 hp]
 | a::l,[],hp,_,_,_=>by have:=hp.length_eq;simp at this
 | a::l,b::l',hp,h1,h2,hi=>by
  rw[List.pairwise_cons] at h1 h2;have hab:a=b:=by
   have ha:a∈b::l':=hp.mem_iff.1 (z6 ..);have hb:b∈a::l:=hp.mem_iff.2 (z6 ..);rcases zgb.1 ha with e|ha'
   ·exact e
   rcases zgb.1 hb with e|hb'
   ·exact e.symm
   exact hi a (z6 ..) b hb (Nat.le_antisymm (h1.1 b hb') (h2.1 a ha'))
  subst hab;rw[qij ((List.perm_cons a).1 hp) h1.2 h2.2 fun i hi' j hj'=>hi i (zy _ hi') j (zy _ hj')]
theorem qjc (p:Int) (ms:List Meth):Srt (fun i=>rank p (ms.getD i ⟨0,false⟩).name) ms.length (ordM p ms):=by
 refine⟨List.mergeSort_perm _ _,?_⟩;have:=List.pairwise_mergeSort (le:=fun i j=>decide (rank p (ms.getD i ⟨0,false⟩).name≤rank p (ms.getD j ⟨0,false⟩).name)) (fun a b c=>by simp;omega) (fun a b=>by simp;omega) (List.range ms.length);exact this.imp fun h=>by simpa using h
theorem qwl:∀ i:Fin 16,∀ j:Fin 16,∀ p:Fin 2,rank (p.val:Nat) (i.val:Nat)=rank (p.val:Nat) (j.val:Nat)→i=j:=by decide +kernel
theorem qtf {p n m:Int} (hp:p=0∨p=1) (hn:IsNm n) (hm:IsNm m) (h:rank p n=rank p m):n=m:=by
 unfold IsNm at hn hm;have:=qwl ⟨n.toNat,by omega⟩ ⟨m.toNat,by omega⟩ ⟨p.toNat,by omega⟩ (by
  simp only[show((p.toNat:Nat):Int)=p by omega,show((n.toNat:Nat):Int)=n by omega,show((m.toNat:Nat):Int)=m by omega];exact h)
 simp only[Fin.mk.injEq] at this;omega
theorem qb1.get:∀ {l:List Int},qb1 l→∀ i j (hi:i<l.length) (hj:j<l.length),l[i]=l[j]→i=j
 | [],_,i,j,hi,_,_=>by simp at hi
 | a::r,h,0,0,_,_,_=>rfl
 | a::r,h,0,j+1,_,hj,e=>absurd e (h.1 _ (z8 _))
 | a::r,h,i+1,0,hi,_,e=>absurd e.symm (h.1 _ (z8 _))
 | a::r,h,i+1,j+1,hi,hj,e=>by rw[qb1.get h.2 i j (by simpa using hi) (by simpa using hj) (by simpa using e)]
theorem ordM_of {p:Int} {ms:List Meth} {π:List Nat} (hp:p=0∨p=1) (hn:∀ m∈ms,IsNm m.name) (hd:qb1 (ms.map Meth.name)) (h:Srt (fun i=>rank p (ms.getD i ⟨0,false⟩).name) ms.length π):π=ordM p ms:=by
 have h2:=qjc p ms;refine qij (h.1.trans h2.1.symm) h.2 h2.2 fun i hi j hj e => ?_;have hi':i<ms.length:=List.mem_range.1 (h.1.mem_iff.1 hi);have hj':j<ms.length:=List.mem_range.1 (h.1.mem_iff.1 hj);simp only[zv,zr hi',zr hj',Option.getD_some] at e;exact hd.get i j (by simpa using hi') (by simpa using hj') (by simpa using qtf hp (hn _ (z8 _)) (hn _ (z8 _)) e)
def rdA (B:Nat) (w:World) (b j:Nat):Option Value:=if b<B then none else rdT w b j
theorem qnx (B:Nat) (w:World):RdLe (rdA B w) (rdT w):=fun b j v h=>by
 unfold rdA at h;split at h
 ·cases h
 ·exact h
theorem qcu {B:Nat} {w:World} {b j:Nat} {v:Value} (h:rdT w b j=some v) (hb:B≤b):rdA B w b j=some v:=by
 unfold rdA;rw[if_neg (by omega)];exact h
theorem qc8 {B:Nat} {w:World} {b j:Nat} {v:Value} (h:rdA B w b j=some v):rdT w b j=some v∧B≤b:=by
 unfold rdA at h;split at h
 ·cases h
 ·exact⟨h,by omega⟩
theorem qfd {B B':Nat} {w w':World} (hB:B'≤B) (h:RdLe (rdT w) (rdT w')):RdLe (rdA B w) (rdA B' w'):=fun b j v hv=>by
 obtain⟨h1,h2⟩:=qc8 hv;exact qcu (h _ _ _ h1) (by omega)
theorem quh {B B':Nat} {w w':World} {S:Nat→Prop} (hB:B'≤B) (h:qag S w w') (hs:∀ b,S b→b<B):RdLe (rdA B w) (rdA B' w'):=fun b j v hv=>by
 obtain⟨h1,h2⟩:=qc8 hv;obtain⟨cs,T,q1,q2,q3,q4,q5⟩:=qb7 h1;exact qcu (qc4 ((h.block b (qft h1) fun hS=>by have:=hs b hS;omega).trans q1) q2 q3 q4 q5) (by omega)
theorem Blk.rda {w:World} {b B:Nat} {T:TypeId} {cs:List Value} (h:Blk w b T cs) (hB:B≤b) (hT:hidT T=false) (hI:T≠175) (hv:∀ v∈cs,qcq v=some v):BlkR (rdA B w) b cs:=fun j v hc=>qcu (h.rdr hT hI hv j v hc) hB
def objV:Option (Bool×Nat)→Value
 | none => .nilIface
 | some (true,x) => .iface 106 (ptrV x)
 | some (false,x) => .iface 151 (ptrV x)
def IsTy (v:Value):Prop:=∃ T x,v = .iface T (.pointer (some x))
structure Fix where
 W:Wd
 bb:Nat
 pr:Nat
 pc:Nat
 pk0:Nat
 pk1:Nat
 tr:Nat
 tc:Nat
 ob0:Nat
 oc:Nat
 N:Nat
 tb:Nat→Option Value
structure St where
 ob:Nat→Option (Bool×Nat)
 ia:Option Addr
 ic:Nat
 ifs:List (Nat×Spot)
def St.row (s:St):Value := .slice s.ia s.ifs.length s.ic
def Fix.pk (F:Fix) (p:Int):Nat:=if p=0 then F.pk0 else F.pk1
def gOf (F:Fix) (s:St) (r:Nat→Nat→Option Value):G:=⟨F.W,F.tb,s.ob,s.ifs,F.pk,r⟩
structure BOk (F:Fix) (s:St) (w:World):Prop where
 bld:Blk w F.bb 77 [.slice (some ⟨F.pr,0,none⟩) 2 F.pc,.slice (some ⟨F.tr,0,none⟩) F.W.length F.tc,.slice (some ⟨F.ob0,0,none⟩) F.N F.oc,s.row]
 prB:Blk w F.pr 71 [ptrV F.pk0,ptrV F.pk1]
 pk0B:Blk w F.pk0 128 [.string (qbo 0),.string (qbo 0)]
 pk1B:Blk w F.pk1 128 [.string (qbo 1),.string (qbo 1)]
 typ:∃ ts,Blk w F.tr 63 ts∧∀ d,d<F.W.length→ts[d]?=some ((F.tb d).getD .nilIface)
 obj:∃ os,Blk w F.ob0 68 os∧∀ k,k<F.N→os[k]?=some (objV (s.ob k))
 ifr:w.ownsRow 0 112 1 s.row s.ifs.length (qa7 (s.ifs.map (·.1)))
 lt:∀ k f x,s.ob k=some (f,x)→x<w.heap.size
 inj:∀ j k x y,s.ob j=some x→s.ob k=some y→x.2=y.2→j=k
 tbl:∀ d v,F.tb d=some v→IsTy v
 nd:(s.ifs.map (·.1)).Nodup
 il:∀ x∈s.ifs,x.1<w.heap.size
def qa1 (F:Fix) (s:St):Nat→Prop:=fun b=>b=F.bb∨b=F.ob0∨s.row.ownBlock=some b
def qg8 (w:World) (b:Nat):Prop:=∃ ra n rc ea m ec tso,Blk w b 175 (qcd ra n rc ea m ec tso)∧qr6 w (n+m) tso
theorem BOk.pkc {F:Fix} {s:St} {w:World} (h:BOk F s w) {p:Int} (hp:p=0∨p=1):w.cell? ⟨F.pr,p.toNat,none⟩=some (ptrV (F.pk p))∧w.cell? ⟨F.pk p,0,none⟩=some (.string (qbo p)):=by
 rcases hp with rfl|rfl
 ·exact⟨by rw[h.prB.cell];rfl,by show w.cell? ⟨F.pk0,0,none⟩=_;rw[h.pk0B.cell];rfl⟩
 ·exact⟨by rw[h.prB.cell];rfl,by show w.cell? ⟨F.pk1,0,none⟩=_;rw[h.pk1B.cell];rfl⟩
theorem BOk.rowT {F:Fix} {s:St} {w:World} (h:BOk F s w) {b:Nat} (hb:s.row.ownBlock=some b):∃ cs,Blk w b 112 cs:=qaf h.ifr hb
theorem BOk.notTurned {F:Fix} {s:St} {w:World} (h:BOk F s w) {b:Nat} {T:TypeId} {cs:List Value} (hb:Blk w b T cs) (h1:T≠77) (h2:T≠68) (h3:T≠112):¬ qa1 F s b:=fun ht=>by
 rcases ht with e|e|e
 ·exact hb.tne h.bld h1 e
 ·obtain⟨os,ho,-⟩:=h.obj;exact hb.tne ho h2 e
 ·obtain⟨cs',hc⟩:=h.rowT e;exact hb.tne hc h3 rfl
theorem AllV.apart {S:Nat→Prop} {w w':World} {v:Value} (h:AllV w v) (ha:qag S w w') (hs:∀ b T cs,Blk w b T cs→T=273∨T=275→¬ S b):AllV w' v:=by
 obtain⟨tl,c,te,cs,e,h1,h4,h5⟩:=h;exact⟨tl,c,te,cs,e,h1,h4.apart ha (hs _ _ _ h4 (.inl rfl)),h5.apart ha (hs _ _ _ h5 (.inr rfl))⟩
theorem qr6.apart {S:Nat→Prop} {w w':World} {k:Nat} {tso:Option Nat} (h:qr6 w k tso) (ha:qag S w w') (hs:∀ b T cs,Blk w b T cs→T=248∨T=273∨T=275→¬ S b):qr6 w' k tso:=by
 rcases h with h|⟨h,ts,e,tv,h1,h2⟩
 ·exact .inl h
 ·exact .inr ⟨h,ts,e,tv,h1.apart ha (hs _ _ _ h1 (.inl rfl)),h2.apart ha fun b T cs hb hT=>hs b T cs hb (.inr hT)⟩
theorem qg8.apart {S:Nat→Prop} {w w':World} {b:Nat} (h:qg8 w b) (ha:qag S w w') (hs:∀ b T cs,Blk w b T cs→T=248∨T=273∨T=275∨T=175→¬ S b):qg8 w' b:=by
 obtain⟨ra,n,rc,ea,m,ec,tso,h1,h2⟩:=h;exact⟨ra,n,rc,ea,m,ec,tso,h1.apart ha (hs _ _ _ h1 (.inr (.inr (.inr rfl)))),h2.apart ha fun b T cs hb h=>hs b T cs hb (by rcases h with h|h|h;exact .inl h;exact .inr (.inl h);exact .inr (.inr (.inl h)))⟩
theorem qg8.turned {F:Fix} {s:St} {w w':World} {b:Nat} (h:qg8 w b) (hok:BOk F s w) (ha:qag (qa1 F s) w w'):qg8 w' b:=
 h.apart ha fun b T cs hb hT=>hok.notTurned hb (by rcases hT with rfl|rfl|rfl|rfl <;> decide) (by rcases hT with rfl|rfl|rfl|rfl <;> decide) (by rcases hT with rfl|rfl|rfl|rfl <;> decide)
structure BExt (F:Fix) (s:St) (w:World) (s':St) (w':World) (lo hi:Nat):Prop where
 ok:BOk F s' w'
 turns:qah (qa1 F s) w w'
 rd:RdLe (rdT w) (rdT w')
 row:∀ g,s'.row.ownBlock=some g→s.row.ownBlock=some g∨w.heap.size≤g
 same:∀ k,k<lo∨hi≤k→s'.ob k=s.ob k
 grow:∀ k x,s.ob k=some x→s'.ob k=some x
 full:∀ k,lo≤k→k<hi→∃ x,s'.ob k=some x
 ifs:∃ l,s'.ifs=s.ifs++l∧∀ x∈l,w.heap.size≤x.1∧qg8 w' x.1
theorem BExt.size {F:Fix} {s s':St} {w w':World} {lo hi:Nat} (h:BExt F s w s' w' lo hi):w.heap.size≤w'.heap.size:=h.turns.apart.size
theorem BExt.refl {F:Fix} {s:St} {w:World} (h:BOk F s w) (lo:Nat):BExt F s w s w lo lo:=
 ⟨h,qah.refl _ _,RdLe.refl _,fun g hg => .inl hg,fun _ _=>rfl,fun _ _ h=>h,fun k h1 h2=>by omega,[],by simp,fun x hx=>by cases hx⟩
theorem BExt.trans {F:Fix} {s s1 s2:St} {w w1 w2:World} {lo mid hi:Nat} (h:BExt F s w s1 w1 lo mid) (k:BExt F s1 w1 s2 w2 mid hi) (h1:lo≤mid) (h2:mid≤hi):BExt F s w s2 w2 lo hi:=by
 have hz:=h.size;have hT:qah (qa1 F s) w w2:=by
  have a:=h.turns.mono (S':=fun b=>qa1 F s b∨w.heap.size≤b) fun b _ hb => .inl hb;have b:=k.turns.mono (S':=fun b=>qa1 F s b∨w.heap.size≤b) fun b _ hb=>by
   rcases hb with hb|hb|hb
   ·exact .inl (.inl hb)
   ·exact .inl (.inr (.inl hb))
   ·rcases h.row b hb with hb|hb
    ·exact .inl (.inr (.inr hb))
    ·exact .inr hb
  exact(a.trans b).mono fun b hb h=>by rcases h with h|h;exact h;omega
 obtain⟨l1,e1,q1⟩:=h.ifs;obtain⟨l2,e2,q2⟩:=k.ifs;refine⟨k.ok,hT,h.rd.trans k.rd,fun g hg => ?_,fun j hj => ?_,fun j x hx=>k.grow j x (h.grow j x hx),fun j j1 j2 => ?_,l1++l2,by rw[e2,e1,List.append_assoc],fun x hx => ?_⟩
 ·rcases k.row g hg with hg|hg
  ·exact h.row g hg
  ·exact .inr (by omega)
 ·rw[k.same j (by omega),h.same j (by omega)]
 ·by_cases hj:j<mid
  ·obtain⟨x,hx⟩:=h.full j j1 hj;exact⟨x,k.grow j x hx⟩
  ·exact k.full j (by omega) j2
 ·rcases zib.1 hx with hx|hx
  ·exact⟨(q1 x hx).1,(q1 x hx).2.turned h.ok k.turns.apart⟩
  ·exact⟨by have:=(q2 x hx).1;omega,(q2 x hx).2⟩
theorem BExt.le {F:Fix} {s s':St} {w w':World} {lo hi:Nat} (h:BExt F s w s' w' lo hi) {r r':Nat→Nat→Option Value} (hr:RdLe r r'):G.Le (gOf F s r) (gOf F s' r'):=by
 obtain⟨l,e,-⟩:=h.ifs;exact⟨rfl,rfl,fun _ _ h=>h,h.grow,fun x hx=>by show x∈s'.ifs;rw[e];exact z7 _ hx,hr⟩
theorem BOk.apart {S:Nat→Prop} {F:Fix} {s:St} {w w':World} (h:BOk F s w) (ha:qag S w w') (hs:∀ b T cs,Blk w b T cs→T=77∨T=71∨T=128∨T=63∧b=F.tr∨T=68∨T=112→¬ S b):BOk F s w':=by
 obtain⟨ts,t1,t2⟩:=h.typ;obtain⟨os,o1,o2⟩:=h.obj;exact⟨h.bld.apart ha (hs _ _ _ h.bld (.inl rfl)),h.prB.apart ha (hs _ _ _ h.prB (.inr (.inl rfl))),h.pk0B.apart ha (hs _ _ _ h.pk0B (.inr (.inr (.inl rfl)))),h.pk1B.apart ha (hs _ _ _ h.pk1B (.inr (.inr (.inl rfl)))),
  ⟨ts,t1.apart ha (hs _ _ _ t1 (.inr (.inr (.inr (.inl ⟨rfl,rfl⟩))))),t2⟩,⟨os,o1.apart ha (hs _ _ _ o1 (.inr (.inr (.inr (.inr (.inl rfl)))))),o2⟩,
  qab h.ifr ha fun g hg=>by obtain⟨cs,hc⟩:=h.rowT hg;exact hs _ _ _ hc (.inr (.inr (.inr (.inr (.inr rfl))))),fun k f x e=>by have:=h.lt k f x e;have:=ha.size;omega,h.inj,h.tbl,h.nd,fun x hx=>by have:=h.il x hx;have:=ha.size;omega⟩
theorem BExt.keep {F:Fix} {s:St} {w w':World} (h:BOk F s w) (hb:Below w.heap.size w w') (lo:Nat):BExt F s w s w' lo lo:=
 ⟨h.apart (S:=fun _=>False) (qag.keep hb) (fun _ _ _ _ _ h=>h),qah.keep hb,qa0 hb,fun g hg => .inl hg,fun _ _=>rfl,fun _ _ h=>h,fun k h1 h2=>by omega,[],by simp,fun x hx=>by cases hx⟩
theorem BExt.later {F:Fix} {s s1:St} {w w1 w2:World} {lo hi:Nat} (h:BExt F s w s1 w1 lo hi) {S:Nat→Prop} (ha:qah S w1 w2) (hS:∀ b,S b→w.heap.size≤b)
  (hT:∀ b T cs,Blk w1 b T cs→T=77∨T=71∨T=128∨T=63∧b=F.tr∨T=68∨T=112∨T=248∨T=273∨T=275∨T=175→¬ S b):BExt F s w s1 w2 lo hi:=by
 obtain⟨l,e,q⟩:=h.ifs;have hz:=h.size;have hB:Below w.heap.size w1 w2:=ha.below hz hS;refine⟨h.ok.apart ha.apart fun b T cs hb hx=>hT b T cs hb (by rcases hx with hx|hx|hx|hx|hx|hx;exact .inl hx;exact .inr (.inl hx);exact .inr (.inr (.inl hx));exact .inr (.inr (.inr (.inl hx)));exact .inr (.inr (.inr (.inr (.inl hx))));exact .inr (.inr (.inr (.inr (.inr (.inl hx)))))),?_,fun b j v hv => ?_,h.row,h.same,h.grow,h.full,l,e,fun x hx=>⟨(q x hx).1,(q x hx).2.apart ha.apart fun b T cs hb hx=>hT b T cs hb (.inr (.inr (.inr (.inr (.inr (.inr hx))))))⟩⟩
 ·exact(h.turns.mono (S':=fun b=>qa1 F s b∨w.heap.size≤b) (fun b _ hb => .inl hb)).trans (ha.mono fun b _ hb => .inr (hS b hb)) |>.mono fun b hb hx=>by rcases hx with hx|hx;exact hx;omega
 ·have hlt:=qft hv;obtain⟨cs,T,q1,q2,q3,q4,q5⟩:=qb7 (h.rd _ _ _ hv);exact qc4 ((hB.block b hlt).trans q1) q2 q3 q4 q5
def qd6 (s:St) (k:Nat) (x:Bool×Nat):St:={ s with ob:=fun j=>if j=k then some x else s.ob j }
theorem BExt.put {F:Fix} {s:St} {w:World} (h:BOk F s w) {k:Nat} (hk:k<F.N) (hn:s.ob k=none) (f:Bool) (x:Nat) (hx:x<w.heap.size) (hnew:∀ j y,s.ob j=some y→y.2≠x):
  BExt F s w (qd6 s k (f,x)) (w.setCell ⟨F.ob0,k,none⟩ (objV (some (f,x)))) k (k+1):=by
 obtain⟨os,o1,o2⟩:=h.obj;have hA:qag (fun b=>b=F.ob0) w (w.setCell ⟨F.ob0,k,none⟩ (objV (some (f,x)))):=qag.setCell (fun b=>b=F.ob0) w (a:=⟨F.ob0,k,none⟩) rfl _;have hne:∀ {b:Nat} {T:TypeId} {cs:List Value},Blk w b T cs→T≠68→¬ b=F.ob0:=fun hb hT e=>hb.tne o1 hT e;obtain⟨ts,t1,t2⟩:=h.typ;refine⟨⟨h.bld.apart hA (hne h.bld (by decide)),h.prB.apart hA (hne h.prB (by decide)),h.pk0B.apart hA (hne h.pk0B (by decide)),h.pk1B.apart hA (hne h.pk1B (by decide)),⟨ts,t1.apart hA (hne t1 (by decide)),t2⟩,
  ⟨os.set k (objV (some (f,x))),o1.set k _,fun j hj => ?_⟩,qab h.ifr hA fun g hg e=>by obtain⟨cs,hc⟩:=h.rowT hg;exact hne hc (by decide) e,fun j g y e => ?_,fun i j y z e1 e2 e3 => ?_,h.tbl,h.nd,fun x hx=>by have:=h.il x hx;simpa[World.setCell] using this⟩,
  (qah.setCell (fun b=>b=F.ob0) w (a:=⟨F.ob0,k,none⟩) rfl _).mono fun b _ e => .inr (.inl e),?_,fun g hg => .inl hg,fun j hj => ?_,fun j y e => ?_,fun j j1 j2 => ?_,[],by simp[qd6],fun x hx=>by cases hx⟩
 ·rw[List.getElem?_set];by_cases e:k=j
  ·subst e;have:k<os.length:=(zjb.1 (o2 k hk)).1;simp[qd6,this]
  ·rw[if_neg e,o2 j hj];simp[qd6,Ne.symm e]
 ·simp only[qd6] at e;split at e
  ·cases e;simpa[World.setCell] using hx
  ·have:=h.lt j g y e;simpa[World.setCell] using this
 ·simp only[qd6] at e1 e2;split at e1 <;> split at e2
  ·omega
  ·cases e1;exact absurd e3.symm (hnew j z e2)
  ·cases e2;exact absurd e3 (hnew i y e1)
  ·exact h.inj i j y z e1 e2 e3
 ·exact qqa o1 (by rw[o2 k hk,hn];rfl) _
 ·show(if j=k then some (f,x) else s.ob j)=s.ob j;rw[if_neg (by omega)]
 ·show(if j=k then some (f,x) else s.ob j)=some y;rw[if_neg (by rintro rfl;rw[hn] at e;cases e)];exact e
 ·obtain rfl:j=k:=by omega
  exact⟨(f,x),by simp[qd6]⟩
theorem BOk.new {F:Fix} {s:St} {w:World} (h:BOk F s w) {x:Nat} (hx:w.heap.size≤x):∀ j y,s.ob j=some y→y.2≠x:=fun j y e1 e2=>by
 have:=h.lt j y.1 y.2 e1;omega
def qgd (g:G) (f:Fd) (at_:Nat) (p:Int) (x:Nat):Prop:=g.ob at_=some (false,x)∧∃ u,BlkR g.rd x [.int .i64 0,ptrV (g.pk p),.string (qas (fname g.W f)),u,.int .u8 6,.bool f.embedded]∧DenT g f.of (at_+1) p u
theorem qgd.mono {g g':G} (h:G.Le g g') {f:Fd} {at_:Nat} {p:Int} {x:Nat} (k:qgd g f at_ p x):qgd g' f at_ p x:=by
 obtain⟨h1,u,h2,h3⟩:=k;exact⟨h.ob _ _ h1,u,by rw[h.W,h.pk];exact h2.mono h.rd,DenT.mono h _ _ _ _ h3⟩
def qbe (g:G):List Fd→Nat→Int→List Nat→Prop
 | [],_,_,xs=>xs=[]
 | f::r,at_,p,xs=>∃ x ys,xs=x::ys∧qgd g f at_ p x∧qbe g r (at_+(1+f.of.size)) p ys
theorem qbe.mono {g g':G} (h:G.Le g g'):∀ {l:List Fd} {at_:Nat} {p:Int} {xs:List Nat},qbe g l at_ p xs→qbe g' l at_ p xs
 | [],_,_,_,k=>k
 | f::r,_,_,_,⟨x,ys,e,h1,h2⟩=>⟨x,ys,e,h1.mono h,qbe.mono h h2⟩
theorem qbe.snoc {g:G} {f:Fd} {p:Int} {x:Nat}:∀ {l:List Fd} {at_:Nat} {xs:List Nat},qbe g l at_ p xs→qgd g f (at_+qar l) p x→qbe g (l++[f]) at_ p (xs++[x])
 | [],at_,xs,h,hf=>by
  simp only[qbe] at h;subst h;exact⟨x,[],rfl,by simpa[qar] using hf,rfl⟩
 | .mk n e t::r,at_,xs,⟨y,ys,e1,h1,h2⟩,hf=>by
  subst e1;refine⟨y,ys++[x],rfl,h1,qbe.snoc h2 ?_⟩;simp only[qar,Fd.of] at hf ⊢;rw[Nat.add_assoc];exact hf
theorem qbe.len {g:G}:∀ {l:List Fd} {at_:Nat} {p:Int} {xs:List Nat},qbe g l at_ p xs→xs.length=l.length
 | [],_,_,xs,h=>by simp only[qbe] at h;subst h;rfl
 | f::r,_,_,xs,⟨x,ys,e,_,h⟩=>by subst e;simp[qbe.len h]
theorem qbe.den {g:G} {p:Int} {a:Option Addr}:∀ {l:List Fd} {at_ i:Nat} {xs:List Nat},qbe g l at_ p xs→(∀ j (hj:j<xs.length),∃ gb o,a=some ⟨gb,o,none⟩∧g.rd gb (o+(i+j))=some (ptrV xs[j]))→DenF g l at_ p a i
 | [],_,_,_,_,_=>by simp only[DenF]
 | .mk n e t::r,at_,i,xs,⟨x,ys,e1,⟨h1,u,h2,h3⟩,h4⟩,hr=>by
  subst e1;obtain⟨gb,o,ha,hc⟩:=hr 0 (by simp);simp only[DenF];refine⟨⟨gb,o,x,u,ha,by simpa using hc,h1,h2,h3⟩,?_⟩;have e2:at_+1+t.size=at_+(1+t.size):=by omega
  rw[e2];refine qbe.den h4 fun j hj => ?_;obtain⟨gb',o',ha',hc'⟩:=hr (j+1) (by simp;omega);refine⟨gb',o',ha',?_⟩;rw[show o'+(i+1+j)=o'+(i+(j+1)) by omega];simpa using hc'
def qd4 (g:G):List Ty→Nat→Int→List Value→Prop
 | [],_,_,us=>us=[]
 | t::r,at_,p,us=>∃ u ys,us=u::ys∧DenT g t at_ p u∧qd4 g r (at_+t.size) p ys
theorem qd4.mono {g g':G} (h:G.Le g g'):∀ {l:List Ty} {at_:Nat} {p:Int} {us:List Value},qd4 g l at_ p us→qd4 g' l at_ p us
 | [],_,_,_,k=>k
 | f::r,_,_,_,⟨x,ys,e,h1,h2⟩=>⟨x,ys,e,DenT.mono h _ _ _ _ h1,qd4.mono h h2⟩
theorem qd4.snoc {g:G} {t:Ty} {p:Int} {u:Value}:∀ {l:List Ty} {at_:Nat} {us:List Value},qd4 g l at_ p us→DenT g t (at_+qau l) p u→qd4 g (l++[t]) at_ p (us++[u])
 | [],at_,xs,h,hf=>by
  simp only[qd4] at h;subst h;exact⟨u,[],rfl,by simpa[qau] using hf,rfl⟩
 | t'::r,at_,xs,⟨y,ys,e1,h1,h2⟩,hf=>by
  subst e1;refine⟨y,ys++[u],rfl,h1,qd4.snoc h2 ?_⟩;simp only[qau] at hf ⊢;rw[Nat.add_assoc];exact hf
theorem qd4.len {g:G}:∀ {l:List Ty} {at_:Nat} {p:Int} {us:List Value},qd4 g l at_ p us→us.length=l.length
 | [],_,_,xs,h=>by simp only[qd4] at h;subst h;rfl
 | f::r,_,_,xs,⟨x,ys,e,_,h⟩=>by subst e;simp[qd4.len h]
theorem qd4.den {g:G} {p:Int} {a:Option Addr}:∀ {l:List Ty} {at_ i:Nat} {us:List Value},qd4 g l at_ p us→(∀ j (hj:j<us.length),∃ gb o,a=some ⟨gb,o,none⟩∧g.rd gb (o+(i+j))=some us[j])→DenM g l at_ p a i
 | [],_,_,_,_,_=>by simp only[DenM]
 | t::r,at_,i,us,⟨x,ys,e1,h3,h4⟩,hr=>by
  subst e1;obtain⟨gb,o,ha,hc⟩:=hr 0 (by simp);simp only[DenM];refine⟨⟨gb,o,x,ha,by simpa using hc,h3⟩,?_⟩;refine qd4.den h4 fun j hj => ?_;obtain⟨gb',o',ha',hc'⟩:=hr (j+1) (by simp;omega);refine⟨gb',o',ha',?_⟩;rw[show o'+(i+1+j)=o'+(i+(j+1)) by omega];simpa using hc'
theorem qtj {w:World} {T:TypeId} {n c B:Nat} {a:Option Addr} {xs:List Value} (h:w.ownsRow 0 T 1 (.slice a n c) n xs) (hB:∀ g,(Value.slice a n c).ownBlock=some g→B≤g) (hT:hidT T=false) (hI:T≠175) (hv:∀ v∈xs,qcq v=some v):
  ∀ j (hj:j<xs.length),∃ gb o,a=some ⟨gb,o,none⟩∧rdA B w gb (o+(0+j))=some xs[j]:=by
 intro j hj;obtain⟨hl,⟨he,h0⟩|⟨g,cap,cur,he,-,hb,hn1,hn2,hn3,hn4⟩⟩:=h
 ·omega
 ·cases he;refine⟨g,0,rfl,qcu ?_ (hB g rfl)⟩;refine qc4 hb hT (fun e=>hI e.1) ?_ (hv _ (z8 _));have h1:(cur.toList.take (n * 1))[j]?=xs[j]?:=by rw[hn4]
  rw[List.getElem?_take_of_lt (by omega),zr hj] at h1;rw[Nat.zero_add,Nat.zero_add,← Array.getElem?_toList];exact h1
abbrev m0:Meth:=⟨0,false⟩
structure MsAt (B:Nat) (w:World) (ob:Nat→Option (Bool×Nat)) (ms:List Meth) (k at_ pk:Nat) (fs sgs:List Nat):Prop where
 lf:fs.length=k
 ls:sgs.length=k
 fb:∀ i,i<k→FB w (fs.getD i 0) (sgs.getD i 0) pk (ms.getD i m0).name (.pointer none)∧B≤fs.getD i 0∧B≤sgs.getD i 0∧ob (at_+i)=some (true,fs.getD i 0)
 nf:fs.Nodup
 ns:∀ i j,i<k→j<k→sgs.getD i 0=sgs.getD j 0→i=j
theorem MsAt.nil (B:Nat) (w:World) (ob:Nat→Option (Bool×Nat)) (ms:List Meth) (at_ pk:Nat):MsAt B w ob ms 0 at_ pk [] []:=⟨rfl,rfl,fun i hi=>by omega,List.nodup_nil,fun i j hi=>by omega⟩
theorem MsAt.turned {B:Nat} {w w':World} {F:Fix} {s s':St} {lo hi:Nat} {ms:List Meth} {k at_ pk:Nat} {fs sgs:List Nat} (h:MsAt B w s.ob ms k at_ pk fs sgs) (hok:BOk F s w) (he:BExt F s w s' w' lo hi):MsAt B w' s'.ob ms k at_ pk fs sgs:=
 ⟨h.lf,h.ls,fun i hi=>by
  obtain⟨h1,h2,h3,h4⟩:=h.fb i hi;exact⟨h1.apart he.turns.apart (hok.notTurned h1.1 (by decide) (by decide) (by decide)) (hok.notTurned h1.2 (by decide) (by decide) (by decide)),h2,h3,he.grow _ _ h4⟩,h.nf,h.ns⟩
theorem qc3 {l:List Nat} {x i:Nat} (h:i<l.length):(l++[x]).getD i 0=l.getD i 0:=by
 simp[zv,List.getElem?_append_left h]
theorem qer {l:List Nat} {x:Nat}:(l++[x]).getD l.length 0=x:=by
 simp[zv]
theorem MsAt.snoc {B:Nat} {w:World} {ob:Nat→Option (Bool×Nat)} {ms:List Meth} {k at_ pk:Nat} {fs sgs:List Nat} (h:MsAt B w ob ms k at_ pk fs sgs) {f sg:Nat} (hf:FB w f sg pk (ms.getD k m0).name (.pointer none)) (h1:B≤f) (h2:B≤sg)
  (ho:ob (at_+k)=some (true,f)) (hnf:∀ i,i<k→fs.getD i 0≠f) (hns:∀ i,i<k→sgs.getD i 0≠sg):MsAt B w ob ms (k+1) at_ pk (fs++[f]) (sgs++[sg]):=by
 refine⟨by simp[h.lf],by simp[h.ls],fun i hi => ?_,?_,fun i j hi hj e => ?_⟩
 ·by_cases e:i<k
  ·rw[qc3 (by rw[h.lf];exact e),qc3 (by rw[h.ls];exact e)];exact h.fb i e
  ·obtain rfl:i=k:=by omega
   have e1:(fs++[f]).getD i 0=f:=by rw[← h.lf];exact qer
   have e2:(sgs++[sg]).getD i 0=sg:=by rw[← h.ls];exact qer
   rw[e1,e2];exact⟨hf,h1,h2,ho⟩
 ·rw[List.nodup_append];refine⟨h.nf,by simp,fun a ha b hb => ?_⟩;simp only[zfb] at hb;subst hb;obtain⟨i,hi,e⟩:=List.getElem_of_mem ha;have:=hnf i (by rw[← h.lf];exact hi);rw[zv,zr hi] at this;simpa[e] using this
 ·by_cases ei:i<k <;> by_cases ej:j<k
  ·rw[qc3 (by rw[h.ls];exact ei),qc3 (by rw[h.ls];exact ej)] at e;exact h.ns i j ei ej e
  ·obtain rfl:j=k:=by omega
   rw[qc3 (by rw[h.ls];exact ei),show(sgs++[sg]).getD j 0=sg by rw[← h.ls];exact qer] at e;exact absurd e (hns i ei)
  ·obtain rfl:i=k:=by omega
   rw[show(sgs++[sg]).getD i 0=sg by rw[← h.ls];exact qer,qc3 (by rw[h.ls];exact ej)] at e;exact absurd e.symm (hns j ej)
  ·omega
theorem qjm (l:List Nat):∀ v∈qa7 l,qcq v=some v:=fun v hv=>by
 simp only[qa7,zkb] at hv;obtain⟨x,-,rfl⟩:=hv;rfl
theorem qtk {F:Fix} {s:St} {B:Nat} {w1 w2:World} {num:Int} {el:List Ty} {fs:List Fd} {ms:List Meth} {em:List Ty} {at_:Nat} {p:Int} {gs sgs π:List Nat} {us:List Value} {ib rc m ec:Nat} {ra ea:Option Addr} {tso:Option Nat}
  (hp:p=0∨p=1) (hn:∀ x∈ms,IsNm x.name) (hd:qb1 (ms.map Meth.name)) (hB:B≤w1.heap.size) (hib:w1.heap.size≤ib) (hm:MsAt B w1 s.ob ms ms.length at_ (F.pk p) gs sgs) (hb:Blk w2 ib 175 (qcd ra ms.length rc ea em.length ec tso))
  (hs:Srt (fun i=>rank p ((ms.map Meth.name).getD i 0)) ms.length π) (hown:w2.ownsRow 0 106 1 (.slice ra ms.length rc) ms.length (qa7 (π.map fun i=>gs.getD i 0))) (hrB:∀ g,(Value.slice ra ms.length rc).ownBlock=some g→B≤g)
  (hrv:qsf w1.heap.size w2 gs.length gs sgs (ms.map Meth.name) (F.pk p) ib) (hem:qd4 (gOf F s (rdA B w2)) em (at_+ms.length) p us) (hec:em.length≤ec) (hown2:0<em.length→w2.ownsRow 0 63 1 (.slice ea em.length ec) em.length us) (hrB2:0<em.length→∀ g,(Value.slice ea em.length ec).ownBlock=some g→B≤g)
  (hus:∀ u∈us,IsTy u) (hin:(ib,(⟨.mk 5 num el fs ms em,at_,p⟩:Spot))∈s.ifs):Den (gOf F s (rdA B w2)) ⟨.mk 5 num el fs ms em,at_,p⟩ (.iface 112 (ptrV ib)):=by
 have hnm:∀ i,i<ms.length→(ms.map Meth.name).getD i 0=(ms.getD i m0).name:=fun i hi=>by simp[zv,zr hi]
 have hπ:π=ordM p ms:=by
  refine ordM_of hp hn hd ⟨hs.1,hs.2.imp_of_mem fun {a b} ha hb h => ?_⟩;have ha':a<ms.length:=List.mem_range.1 (hs.1.mem_iff.1 ha);have hb':b<ms.length:=List.mem_range.1 (hs.1.mem_iff.1 hb);simp only at h ⊢;rw[hnm a ha',hnm b hb'] at h;exact h
 unfold Den DenT;refine .inr (.inr (.inr (.inr (.inr ⟨rfl,ib,ra,rc,ea,ec,rfl,hin,fun j v hj => ?_,?_,hec,fun i k hk => ?_,?_⟩))))
 ·refine qcu (hb.rd (by decide) ?_ (v:=v) ?_ ?_) (by omega)
  ·rintro⟨-,rfl⟩;simp at hj
  ·rw[← hj];unfold qcd
   match j with
   | 0|1|2|3|4|5=>rfl
   | n+6=>simp at hj
  ·match j with
   | 0|1|2|3|4|5=>cases hj;rfl
   | n+6=>simp at hj
 ·obtain⟨_,_,he,hle,-⟩:=qak hown;cases he;exact hle
 ·rw[← hπ] at hk;have hik:i<π.length:=(zjb.1 hk).1;have hkm:k<ms.length:=List.mem_range.1 (hs.1.mem_iff.1 (List.mem_of_getElem? hk));have hx:=qtj hown hrB (by decide) (by decide) (qjm _) i (by simpa[qa7] using hik);obtain⟨gb,o,ha,hr⟩:=hx;obtain⟨f1,f2,f3,f4⟩:=hm.fb k hkm;have hkg:k<gs.length:=by rw[hm.lf];exact hkm
  obtain⟨v,hv,q1,q2⟩:=(hrv k hkg).1 hkg;have eg:gs[k]=gs.getD k 0:=by simp[zv,zr hkg]
  rw[eg,hnm k hkm] at q1;have e1:(List.map (fun i=>gs.getD i 0) π)[i]?=some (gs.getD k 0):=by rw[List.getElem?_map,hk];rfl
  refine⟨gb,o,gs.getD k 0,ha,?_,f4,?_⟩
  ·rw[Nat.zero_add] at hr;show rdA B w2 gb (o+i)=_;rw[hr];have:(qa7 (π.map fun i=>gs.getD i 0))[i]?=some (ptrV (gs.getD k 0)):=by simp only[qa7];rw[List.getElem?_map,e1];rfl
   exact(zr _).symm.trans this
  ·refine⟨sgs.getD k 0,v,112,⟨ib,0,none⟩,?_,?_,?_,by decide,(fun h=>by cases h),fun _=>by decide⟩
   ·exact q1.1.rda f2 (by decide) (by decide) (by simp[qcq])
   ·exact q1.2.rda f3 (by decide) (by decide) (by simp[qcq])
   ·exact q2.rda (by omega) (by decide) (by decide) (by simp[qcq]) 3 _ rfl
 ·refine hem.den fun j hj => ?_;have hl:=hem.len;exact qtj (hown2 (by omega)) (hrB2 (by omega)) (by decide) (by decide) (fun v hv=>by obtain⟨T,x,rfl⟩:=hus v hv;rfl) j hj
theorem qes {W:Wd} {d:Int} {val:Bool} {t:Ty} (h:qam W d val t) (k:Nat) (hk:k<t.fields.length):
  IsNm t.fields[k].name∧(t.fields[k].embedded=true→t.fields[k].name=0∧qdb t.fields[k].of)∧qam W d val t.fields[k].of:=by
 cases t with
 | mk kd n el fs ms em=>
  have hf:qby W d val fs:=by
   simp only[qam] at h;rcases h with ⟨-,-,rfl,-⟩|⟨-,-,rfl,-⟩|⟨-,-,rfl,-⟩|⟨-,-,-,-,-,h⟩|⟨-,-,-,rfl,-⟩
   ·simp[Ty.fields] at hk
   ·simp[Ty.fields] at hk
   ·simp[Ty.fields] at hk
   ·exact h
   ·simp[Ty.fields] at hk
  simp only[Ty.fields] at hk ⊢;clear h
  induction fs generalizing k with
  | nil=>simp at hk
  | cons f r ih=>
   cases f with
   | mk n e t=>
    simp only[qby] at hf;cases k with
    | zero=>exact⟨hf.1.1,hf.1.2.1,hf.1.2.2⟩
    | succ k=>exact ih k (by simpa using hk) hf.2
theorem qn0 {W:Wd} {d:Int} {val:Bool} {t:Ty} (h:qam W d val t) (k:Nat) (hk:k<t.embeds.length):
  (t.embeds[k].kind=1∨t.embeds[k].kind=5)∧qam W d true t.embeds[k]:=by
 cases t with
 | mk kd n el fs ms em=>
  have hf:qbi W d em:=by
   simp only[qam] at h;rcases h with ⟨-,-,-,-,rfl,-⟩|⟨-,-,-,-,rfl,-⟩|⟨-,-,-,-,rfl,-⟩|⟨-,-,-,-,rfl,h⟩|⟨-,-,-,-,-,h⟩
   ·simp[Ty.embeds] at hk
   ·simp[Ty.embeds] at hk
   ·simp[Ty.embeds] at hk
   ·simp[Ty.embeds] at hk
   ·exact h
  simp only[Ty.embeds] at hk ⊢;clear h
  induction em generalizing k with
  | nil=>simp at hk
  | cons f r ih=>
   simp only[qbi] at hf;cases k with
   | zero=>exact hf.1
   | succ k=>exact ih k (by simpa using hk) hf.2
theorem qhe {W:Wd} {d:Int} {val:Bool} {t:Ty} (h:qam W d val t) (hk:0<t.elem.length):
  t.elem.length=1∧qam W d false t.el0:=by
 cases t with
 | mk kd n el fs ms em=>
  have hf:qc5 W d el:=by
   simp only[qam] at h;rcases h with ⟨-,rfl,-⟩|⟨-,rfl,-⟩|⟨-,-,-,-,-,h⟩|⟨-,-,rfl,-⟩|⟨-,-,rfl,-⟩
   ·simp[Ty.elem] at hk
   ·simp[Ty.elem] at hk
   ·exact h
   ·simp[Ty.elem] at hk
   ·simp[Ty.elem] at hk
  cases el with
  | nil=>simp[Ty.elem] at hk
  | cons a r=>
   simp only[qc5] at hf;obtain⟨rfl,hf⟩:=hf;exact⟨rfl,hf⟩
theorem qha:∀ (l:List Int),(∀ i (hi:i<l.length) j (hj:j<i),l[i]≠l[j])→qb1 l
 | [],_=>trivial
 | a::r,h=>by
  refine⟨fun b hb => ?_,qha r fun i hi j hj => ?_⟩
  ·obtain⟨i,hi,rfl⟩:=List.getElem_of_mem hb;have:=h (i+1) (by simpa using hi) 0 (by omega);simp only[zh,zi] at this;exact fun e=>this e.symm
  ·have:=h (i+1) (by simpa using hi) (j+1) (by omega);simpa using this
theorem qoy (W:Wd) (pkg:Int):∀ (l:List Ty) (at_:Nat),(∀ k (hk:k<l.length),(under W ⟨l[k],at_+qau (l.take k),pkg⟩).of.kind=5∧qdp W pkg l[k] (at_+qau (l.take k)))→qc0 W pkg l at_
 | [],_,_=>by simp[qc0]
 | t::r,at_,h=>by
  simp only[qc0];refine⟨h 0 (Nat.zero_lt_succ _),qoy W pkg r _ fun k hk => ?_⟩;have:=h (k+1) (by simpa using hk);simpa[qau,Nat.add_assoc] using this
theorem ValidF_of' (W:Wd) (pkg:Int):∀ (r prev:List Fd) (at_:Nat),(∀ k (hk:k<r.length),(∀ g∈prev++r.take k,fname W r[k]≠8→fname W r[k]≠fname W g)∧qdp W pkg r[k].of (at_+qar (r.take k)+1)∧(r[k].embedded=true→qdo W pkg ⟨r[k].of,at_+qar (r.take k)+1,pkg⟩))→qcr W pkg prev r at_
 | [],_,_,_=>by simp[qcr]
 | .mk n e t::r,prev,at_,h=>by
  simp only[qcr];refine⟨by have:=h 0 (Nat.zero_lt_succ _);rw[List.take_zero,List.append_nil] at this;exact this,ValidF_of' W pkg r _ _ fun k hk => ?_⟩;have:=h (k+1) (by simpa using hk);simpa[qar,Nat.add_assoc] using this
theorem qtv (W:Wd) (pkg:Int) (r:List Fd) (at_:Nat) (h:∀ k (hk:k<r.length),(∀ j (hj:j<k),fname W r[k]≠8→fname W r[k]≠fname W r[j])∧qdp W pkg r[k].of (at_+qar (r.take k)+1)∧(r[k].embedded=true→qdo W pkg ⟨r[k].of,at_+qar (r.take k)+1,pkg⟩)):qcr W pkg [] r at_:=
 ValidF_of' W pkg r [] at_ fun k hk=>⟨fun g hg=>by
  simp only[List.nil_append] at hg;obtain⟨j,hj,rfl⟩:=List.getElem_of_mem hg;rw[List.length_take] at hj;rw[List.getElem_take];exact(h k hk).1 j (by omega),(h k hk).2⟩
theorem qoc (W:Wd) (s:Spot)
  (h1:∀ i (hi:i<s.of.methods.length) j (hj:j<i),s.of.methods[i].name≠s.of.methods[j].name)
  (h2:∀ k (hk:k<s.of.embeds.length),(under W (qav s k)).of.kind=5∧qcj W (qav s k))
  (h3:∀ k (hk:k<s.of.fields.length),(∀ j (hj:j<k),fname W s.of.fields[k]≠8→fname W s.of.fields[k]≠fname W s.of.fields[j])∧qcj W (qao s k)∧(s.of.fields[k].embedded=true→qdo W s.pkg (qao s k)))
  (h4:0<s.of.elem.length→qcj W (qaq s)):qcj W s:=by
 obtain⟨t,at_,pkg⟩:=s;cases t with
 | mk kd n el fs ms em=>
  unfold qcj;simp only[qdp];refine⟨qha _ fun i hi j hj => ?_,qoy _ _ _ _ fun k hk => ?_,qtv _ _ _ _ fun k hk => ?_,?_⟩
  ·simp only[List.length_map] at hi;simp only[List.getElem_map];exact h1 i hi j hj
  ·have:=h2 k hk;simpa[qcj,qav,Ty.embeds,Ty.methods,zv,zr hk] using this
  ·have:=h3 k hk;have e:fs.getD k fd0=fs[k]:=by simp[zv,zr hk]
   simp only[qcj,qao,Ty.fields,e] at this;exact this
  ·cases el with
   | nil=>simp[qjv]
   | cons a r=>
    have:=h4 (by simp[Ty.elem]);simp only[qcj,qaq,Ty.el0,Ty.elem,List.getD_cons_zero] at this;simp only[qjv];exact this
theorem qmi:∀ (l:List Ty) (k:Nat) (hk:k<l.length),qau (l.take k)+l[k].bulk≤qbt l
 | t::r,0,_=>by simp[qau,qbt]
 | t::r,k+1,hk=>by
  have:=qmi r k (by simpa using hk);have:=qba t;simp only[List.take_succ_cons,zh,qau,qbt];omega
theorem qq5:∀ (l:List Fd) (k:Nat) (hk:k<l.length),qar (l.take k)+1+l[k].of.bulk≤qcm l
 | .mk _ _ t::r,0,_=>by simp[qar,qcm,Fd.of]
 | .mk _ _ t::r,k+1,hk=>by
  have:=qq5 r k (by simpa using hk);have:=qba t;simp only[List.take_succ_cons,zh,qar,qcm];omega
theorem qbd (t:Ty):t.bulk=1+qbt t.elem+qcm t.fields+t.methods.length+qbt t.embeds:=by cases t;rfl
theorem qoz (s:Spot) {k:Nat} (hk:k<s.of.embeds.length):(qav s k).of=s.of.embeds[k]:=by simp[qav,zv,zr hk]
theorem qkk (s:Spot) {k:Nat} (hk:k<s.of.fields.length):(qao s k).of=s.of.fields[k].of:=by simp[qao,zv,zr hk]
theorem qvr (s:Spot) {k:Nat} (hk:k<s.of.embeds.length):(qav s k).of.bulk<s.of.bulk∧(qav s k).at_+(qav s k).of.bulk≤s.at_+s.of.bulk:=by
 have:=qmi s.of.embeds k hk;have:=qbd s.of;rw[qoz s hk];simp only[qav];omega
theorem qvh (s:Spot) {k:Nat} (hk:k<s.of.fields.length):(qao s k).of.bulk<s.of.bulk∧(qao s k).at_+(qao s k).of.bulk≤s.at_+s.of.bulk:=by
 have:=qq5 s.of.fields k hk;have:=qbd s.of;rw[qkk s hk];simp only[qao];omega
theorem qtz (s:Spot) (hk:0<s.of.elem.length):(qaq s).of.bulk<s.of.bulk∧(qaq s).at_+(qaq s).of.bulk≤s.at_+s.of.bulk:=by
 have h1:=qmi s.of.elem 0 hk;have:=qbd s.of;have e:(qaq s).of=s.of.elem[0]:=by simp[qaq,Ty.el0,zv,zr hk]
 simp only[List.take_zero,qau] at h1;rw[e];simp only[qaq];omega
structure Base (F:Fix) (w0:World) (s:St) (w:World):Prop where
 below:Below w0.heap.size w0 w
 bb:w0.heap.size≤F.bb
 ob:w0.heap.size≤F.ob0
 row:∀ g,s.row.ownBlock=some g→w0.heap.size≤g
theorem Base.turned {F:Fix} {w0:World} {s:St} {w:World} (h:Base F w0 s w):∀ b,qa1 F s b→w0.heap.size≤b:=fun b hb=>by
 rcases hb with e|e|e
 ·rw[e];exact h.bb
 ·rw[e];exact h.ob
 ·exact h.row b e
theorem Base.ext {F:Fix} {w0:World} {s s':St} {w w':World} {lo hi:Nat} (h:Base F w0 s w) (k:BExt F s w s' w' lo hi):Base F w0 s' w':=
 ⟨h.below.trans (k.turns.below h.below.size h.turned),h.bb,h.ob,fun g hg=>by
  rcases k.row g hg with e|e
  ·exact h.row g e
  ·have:=h.below.size;omega⟩
theorem Base.keeps {F:Fix} {w0:World} {s:St} {w:World} (h:Base F w0 s w):qac w0 w:=qac.below h.below
def TbOk (F:Fix) (d:Int):Prop:=∀ n:Nat,n<F.W.length→(d<n∨d<0∨(dc F.W d.toNat).alias=false∨(dc F.W n).alias=false)→∃ v,F.tb n=some v
def SpOk (W:Wd) (s:Spot):Prop:=s.of.kind=5∧(s.pkg=0∨s.pkg=1)∧s.of.bulk≤1048576∧qdp W s.pkg s.of s.at_∧∃ d val,qam W d val s.of
def qk6 (g:G) (x:Nat×Spot):Prop:=Den g x.2 (.iface 112 (ptrV x.1))∧SpOk g.W x.2
theorem qk6.mono {g g':G} (h:G.Le g g') {x:Nat×Spot} (k:qk6 g x):qk6 g' x:=⟨Den.mono h k.1,by rw[h.W];exact k.2⟩
def Mems (g:G) (old:List (Nat×Spot)):Prop:=∀ x∈g.ifs,x∈old∨qk6 g x
theorem Mems.mono {g g':G} {old:List (Nat×Spot)} (h:Mems g old) (l:G.Le g g') (e:g'.ifs=g.ifs):Mems g' old:=fun x hx=>(h x (e ▸ hx)).imp id (qk6.mono l)
theorem Mems.next {g g2 g':G} {old:List (Nat×Spot)} (h:Mems g old) (h2:Mems g2 g.ifs) (l1:G.Le g g') (l2:G.Le g2 g') (e:g'.ifs=g2.ifs):Mems g' old:=fun x hx=>by
 rcases h2 x (e ▸ hx) with q|q
 ·exact(h x q).imp id (qk6.mono l1)
 ·exact .inr (q.mono l2)
def qh4 (F:Fix) (s:St) (w:World) (t:Ty) (at_:Nat) (p:Int):Ending→World→Prop:=fun e w'=>
 ∃ v s',e = .returned v∧IsTy v∧BExt F s w s' w' at_ (at_+t.size)∧Den (gOf F s' (rdA w.heap.size w')) ⟨t,at_,p⟩ v∧s'.ifs.length≤s.ifs.length+t.bulk∧Mems (gOf F s' (rdA w.heap.size w')) s.ifs
structure BPre (F:Fix) (w0:World) (s:St) (w:World) (d:Int) (val:Bool) (t:Ty) (at_:Nat) (p:Int):Prop where
 base:Base F w0 s w
 ok:BOk F s w
 pp:p=0∨p=1
 formed:qam F.W d val t
 valid:qdp F.W p t at_
 tb:TbOk F d
 free:∀ k,at_≤k→k<at_+t.size→s.ob k=none
 le:at_+t.size≤F.N
 nn:F.N≤4194304
 ni:s.ifs.length+t.bulk≤4194304
theorem qkt (t:Ty):t.size=t.methods.length+qau t.elem+qar t.fields+qau t.embeds:=by
 cases t;simp only[Ty.size,Ty.methods,Ty.elem,Ty.fields,Ty.embeds]
theorem qam.k1 {W:Wd} {d:Int} {val:Bool} {t:Ty} (h:qam W d val t) (hk:t.kind=1):t.elem=[]∧t.fields=[]∧t.methods=[]∧t.embeds=[]∧0≤t.num∧t.num<W.length∧(d<t.num∨val=false∧(d<0∨(dc W d.toNat).alias=false∨(dc W t.num.toNat).alias=false)):=by
 cases t;simp only[qam,Ty.kind,Ty.elem,Ty.fields,Ty.methods,Ty.embeds,Ty.num] at *;rcases h with ⟨h,-⟩|⟨-,h⟩|⟨h,-⟩|⟨h,-⟩|⟨h,-⟩
 ·omega
 ·exact h
 all_goals omega
theorem qam.k0 {W:Wd} {d:Int} {val:Bool} {t:Ty} (h:qam W d val t) (hk:t.kind=0):t.elem=[]∧t.fields=[]∧t.methods=[]∧t.embeds=[]∧0≤t.num∧t.num≤2:=by
 cases t;simp only[qam,Ty.kind,Ty.elem,Ty.fields,Ty.methods,Ty.embeds,Ty.num] at *;rcases h with ⟨-,h⟩|⟨h,-⟩|⟨h,-⟩|⟨h,-⟩|⟨h,-⟩
 ·exact h
 all_goals omega
theorem TbOk.get {F:Fix} {d:Int} {val:Bool} {t:Ty} (h:TbOk F d) (hf:qam F.W d val t) (hk:t.kind=1):∃ v,F.tb t.num.toNat=some v:=by
 obtain⟨-,-,-,-,h0,h1,h2⟩:=hf.k1 hk;refine h t.num.toNat (by omega) ?_;rcases h2 with h2|⟨-,h2⟩
 ·exact .inl (by omega)
 ·exact .inr h2
theorem qp6 {B:Nat} {w w':World} (h:Below B w w') (n:Nat):Below B w (w'.drewN n):=⟨h.os,h.tape,h.output,h.size,h.block⟩
theorem qsl (F:Fix) (a:Option Addr) (c:Nat) (w0 w:World) (s:St) (d:Int) (val:Bool) (t:Ty) (cs:List Value) (at_:Nat) (p:Int) (hk:t.kind=1) (ht:TyC w0 t cs) (hP:BPre F w0 s w d val t at_ p):
  Calls prog 44 #[.pointer (some ⟨F.bb,0,none⟩),.slice a F.W.length c,.int .i64 p,.agg cs.toArray,.int .i64 at_] w (qh4 F s w t at_ p):=by
 obtain⟨v,hv⟩:=hP.tb.get hP.formed hk;obtain⟨e1,e2,e3,e4,n0,n1,-⟩:=hP.formed.k1 hk;have hz:t.size=0:=by rw[qkt,e1,e2,e3,e4];simp[qau,qar]
 obtain⟨ts,t1,t2⟩:=hP.ok.typ;obtain⟨T,x,rfl⟩:=hP.ok.tbl _ _ hv;have hc:=t2 t.num.toNat (by omega);rw[hv] at hc;simp only[Option.getD_some] at hc;have b1:=hP.ok.bld.cell 1;simp only[zu,zt] at b1;have b2:=(t1.cell t.num.toNat).trans hc;have l1:=hP.ok.bld.lt;have l2:=t1.lt;have l1':F.bb<w.heap.size+1:=by omega
 have l2':F.tr<w.heap.size+1:=by omega
 obtain⟨x1,d1,x2,d2,x3,d3,x4,d4,rfl,-⟩:=ht.full;have hpost:∀ nq,qh4 F s w t at_ p (.returned (.iface T (.pointer (some x)))) ((w.alloc (.cells #[.int .i64 t.kind,.int .i64 t.num,.slice x1 t.elem.length d1,.slice x2 t.fields.length d2,.slice x3 t.methods.length d3,.slice x4 t.embeds.length d4] 29)).drewN nq):=fun nq=>by
  refine⟨_,s,rfl,⟨_,_,rfl⟩,?_,?_,zcb _ _,fun x hx => .inl hx⟩
  ·rw[hz];exact BExt.keep hP.ok (qp6 ((zp _ _).alloc (zl _) _) nq) at_
  ·obtain⟨k,m,el,fs,ms,em⟩:=t;simp only[Ty.kind,Ty.num] at *;unfold Den DenT;exact .inl ⟨hk,hv⟩
 have Hpost:=hid hpost;have hkd:(t.kind==1)=true:=by simp[hk]
 obtain⟨q,hq⟩:∃ q:Nat,q=t.num.toNat:=⟨_,rfl⟩;have hqn:t.num=(q:Int):=by omega
 have hql:(q:Int)<(F.W.length:Int):=by omega
 rw[← hq] at b2;clear hP ht hpost t1 t2 hc hv hk hz n0 n1 hq e1 e2 e3 e4
 generalize t.kind=kd at *
 generalize t.num=nn at *
 subst hqn;go_enter func44,ntmps44
 go_wp2_with fail
 go_quiet (fail)
 go_wp2_with fail
 go_ret
 exact Hpost.out _
theorem qsa (F:Fix) (a:Option Addr) (c:Nat) (w0 w:World) (s:St) (d:Int) (val:Bool) (t:Ty) (cs:List Value) (at_:Nat) (p:Int) (hk:t.kind=0) (ht:TyC w0 t cs) (hP:BPre F w0 s w d val t at_ p):
  Calls prog 44 #[.pointer (some ⟨F.bb,0,none⟩),.slice a F.W.length c,.int .i64 p,.agg cs.toArray,.int .i64 at_] w (qh4 F s w t at_ p):=by
 obtain⟨e1,e2,e3,e4,n0,n1⟩:=hP.formed.k0 hk;have hz:t.size=0:=by rw[qkt,e1,e2,e3,e4];simp[qau,qar]
 obtain⟨x1,d1,x2,d2,x3,d3,x4,d4,rfl,-⟩:=ht.full;have hpost:∀ (w':World) (b:Nat),qt1 w' b (basK t.num)→w.heap.size≤b→Below w.heap.size w w'→qh4 F s w t at_ p (.returned (.iface 156 (.pointer (some ⟨b,0,none⟩)))) w':=fun w' b hb hl hB=>by
  refine⟨_,s,rfl,⟨_,_,rfl⟩,?_,?_,zcb _ _,fun x hx => .inl hx⟩
  ·rw[hz];exact BExt.keep hP.ok hB at_
  ·obtain⟨i,st,hb⟩:=hb;obtain⟨k,m,el,fs,ms,em⟩:=t;simp only[Ty.kind,Ty.num] at *;unfold Den DenT;exact .inr (.inl ⟨hk,b,i,st,rfl,hb.rda hl (by decide) (by decide) (by simp[qcq])⟩)
 have Hpost:=hid hpost;have k1:(t.kind==1)=false:=by simp[hk]
 have k2:(t.kind==2)=false:=by simp[hk]
 have k3:(t.kind==3)=false:=by simp[hk]
 have k4:(t.kind==4)=false:=by simp[hk]
 have k5:(t.kind==5)=false:=by simp[hk]
 have hn:t.num=0∨t.num=1∨t.num=2:=by omega
 clear hP ht hpost hk hz n0 n1 e1 e2 e3 e4
 generalize t.kind=kd at *
 obtain⟨nn,hnn⟩:∃ nn,nn=t.num:=⟨_,rfl⟩;rw[← hnn] at hn Hpost
 generalize t.num=nn2 at *
 subst hnn;rcases hn with rfl|rfl|rfl
 ·go_enter func44,ntmps44
  go_wp2_with (go_at_call 71;refine(qjs 2 (.inl rfl) _).mono ?_;rintro e w' ⟨b,rfl,hb,hl,hB⟩;have Hb:=hid hb;have HB:=hid hB;clear hb hB)
  go_ret
  exact Hpost.out _ _ Hb.out (by simp at hl;omega) ((((zp _ _).alloc (zl _) _).alloc (by simp) _).trans (HB.out.mono (by simp;omega)))
 ·go_enter func44,ntmps44
  go_wp2_with (go_at_call 71;refine(qjs 17 (.inr (.inl rfl)) _).mono ?_;rintro e w' ⟨b,rfl,hb,hl,hB⟩;have Hb:=hid hb;have HB:=hid hB;clear hb hB)
  go_ret
  exact Hpost.out _ _ Hb.out (by simp at hl;omega) ((((zp _ _).alloc (zl _) _).alloc (by simp) _).trans (HB.out.mono (by simp;omega)))
 ·go_enter func44,ntmps44
  go_wp2_with (go_at_call 71;refine(qjs 1 (.inr (.inr rfl)) _).mono ?_;rintro e w' ⟨b,rfl,hb,hl,hB⟩;have Hb:=hid hb;have HB:=hid hB;clear hb hB)
  go_ret
  exact Hpost.out _ _ Hb.out (by simp at hl;omega) ((((zp _ _).alloc (zl _) _).alloc (by simp) _).trans (HB.out.mono (by simp;omega)))
theorem qam.k23 {W:Wd} {d:Int} {val:Bool} {t:Ty} (h:qam W d val t) (hk:t.kind=2∨t.kind=3):t.num=0∧t.fields=[]∧t.methods=[]∧t.embeds=[]∧t.elem.length=1∧qam W d false t.el0:=by
 obtain⟨k,m,el,fs,ms,em⟩:=t;simp only[qam,Ty.kind,Ty.elem,Ty.fields,Ty.methods,Ty.embeds,Ty.num,Ty.el0] at *;rcases h with ⟨h,-⟩|⟨h,-⟩|⟨-,h0,h1,h2,h3,h4⟩|⟨h,-⟩|⟨h,-⟩
 ·omega
 ·omega
 ·cases el with
  | nil=>simp only[qc5] at h4
  | cons e r=>simp only[qc5] at h4;obtain⟨rfl,h4⟩:=h4;exact⟨h0,h1,h2,h3,rfl,by simpa using h4⟩
 all_goals omega
theorem qdp.elem {W:Wd} {p:Int} {t:Ty} {at_:Nat} (h:qdp W p t at_) (hl:t.elem.length=1):qdp W p t.el0 at_:=by
 obtain⟨k,m,el,fs,ms,em⟩:=t;simp only[qdp,Ty.elem,Ty.el0] at *;cases el with
 | nil=>simp at hl
 | cons e r=>have:=h.2.2.2;simp only[qjv] at this;simpa using this
theorem BPre.keep {F:Fix} {w0:World} {s:St} {w w':World} {d:Int} {val:Bool} {t:Ty} {at_:Nat} {p:Int} (h:BPre F w0 s w d val t at_ p) (hb:Below w.heap.size w w'):BPre F w0 s w' d val t at_ p:=
 ⟨h.base.ext (BExt.keep h.ok hb 0),(BExt.keep h.ok hb 0).ok,h.pp,h.formed,h.valid,h.tb,h.free,h.le,h.nn,h.ni⟩
def qs6 (F:Fix) (a:Option Addr) (c:Nat) (w0:World) (n:Nat):Prop:=∀ (u:Ty) (cs:List Value) (w:World) (s:St) (d:Int) (val:Bool) (at_:Nat) (p:Int),u.bulk≤n→TyC w0 u cs→BPre F w0 s w d val u at_ p→
 Calls prog 44 #[.pointer (some ⟨F.bb,0,none⟩),.slice a F.W.length c,.int .i64 p,.agg cs.toArray,.int .i64 at_] w (qh4 F s w u at_ p)
theorem qww (F:Fix) (a:Option Addr) (c:Nat) (w0 w:World) (n:Nat) (ih:qs6 F a c w0 n) (s:St) (d:Int) (val:Bool) (t:Ty) (cs:List Value) (at_:Nat) (p:Int) (hbk:t.bulk≤n+1) (hk:t.kind=2) (ht:TyC w0 t cs) (hP:BPre F w0 s w d val t at_ p):
  Calls prog 44 #[.pointer (some ⟨F.bb,0,none⟩),.slice a F.W.length c,.int .i64 p,.agg cs.toArray,.int .i64 at_] w (qh4 F s w t at_ p):=by
 obtain⟨en,e2,e3,e4,el,ef⟩:=hP.formed.k23 (.inl hk);have hv:=hP.valid.elem el;have hz:t.size=t.el0.size:=by
  obtain⟨k,m,l,fs,ms,em⟩:=t;simp only[Ty.elem,Ty.fields,Ty.methods,Ty.embeds,Ty.el0] at *;subst e2 e3 e4;cases l with
  | nil=>simp at el
  | cons x r=>cases r with
   | nil=>simp[Ty.size,qau,qar]
   | cons=>simp at el
 have he:0<t.elem.length:=by omega
 obtain⟨x1,d1,x2,d2,x3,d3,x4,d4,rfl,-,-,-,h1,-⟩:=ht.full;obtain⟨b,o,cs1,rfl,hc,ht1⟩:=TysR.get h1 0 he;have e0:t.elem[0]=t.el0:=by simp[Ty.el0,zv,zr he]
 have hb2:t.el0.bulk≤t.bulk:=by
  have:=qa6 t.elem 0 he;have:=qbd t;rw[← e0];omega
 have hb1:t.el0.bulk≤n:=by
  have:=qa6 t.elem 0 he;have:=qbd t;rw[← e0];omega
 rw[e0] at ht1;have Ht1:=hid ht1;obtain⟨y1,g1,y2,g2,y3,g3,y4,g4,rfl,-⟩:=ht1.open;obtain⟨c0,c1,c2,c3,c4,c5⟩:=six (hc.keep hP.base.keeps);simp only[Nat.zero_add,Nat.zero_mul,Nat.add_zero] at c0 c1 c2 c3 c4 c5;have hbb:=zj w _ c0;simp only at hbb;have hbb1:b<w.heap.size+1:=by omega
 obtain⟨O,hO⟩:∃ O,O=(Obj.cells #[.int .i64 t.kind,.int .i64 t.num,.slice (some ⟨b,o,none⟩) t.elem.length d1,.slice x2 t.fields.length d2,.slice x3 t.methods.length d3,.slice x4 t.embeds.length d4] 29):=⟨_,rfl⟩;have hP1:BPre F w0 s (w.alloc O) d false t.el0 at_ p:=by
  have:=hP.keep ((zp _ _).alloc (zl _) O);exact⟨this.base,this.ok,hP.pp,ef,hv,hP.tb,by rw[← hz];exact hP.free,by rw[← hz];exact hP.le,hP.nn,by have:=hP.ni;omega⟩
 subst hO;have HC:=hid (ih t.el0 _ _ s d false at_ p hb1 ht1 hP1);have hpost:∀ (w1:World) (s':St) (v:Value),IsTy v→BExt F s (w.alloc (.cells #[.int .i64 t.kind,.int .i64 t.num,.slice (some ⟨b,o,none⟩) t.elem.length d1,.slice x2 t.fields.length d2,.slice x3 t.methods.length d3,.slice x4 t.embeds.length d4] 29)) s' w1 at_ (at_+t.el0.size)→Den (gOf F s' (rdA (w.alloc (.cells #[.int .i64 t.kind,.int .i64 t.num,.slice (some ⟨b,o,none⟩) t.elem.length d1,.slice x2 t.fields.length d2,.slice x3 t.methods.length d3,.slice x4 t.embeds.length d4] 29)).heap.size w1)) ⟨t.el0,at_,p⟩ v→s'.ifs.length≤s.ifs.length+t.el0.bulk∧Mems (gOf F s' (rdA (w.alloc (.cells #[.int .i64 t.kind,.int .i64 t.num,.slice (some ⟨b,o,none⟩) t.elem.length d1,.slice x2 t.fields.length d2,.slice x3 t.methods.length d3,.slice x4 t.embeds.length d4] 29)).heap.size w1)) s.ifs→
   qh4 F s w t at_ p (.returned (.iface 145 (.pointer (some ⟨w1.heap.size,0,none⟩)))) (w1.alloc (.cells #[v] 185)):=fun w1 s' v hv hE hD hI=>by
  have E1:=BExt.keep hP.ok ((zp _ _).alloc (zl _) (.cells #[.int .i64 t.kind,.int .i64 t.num,.slice (some ⟨b,o,none⟩) t.elem.length d1,.slice x2 t.fields.length d2,.slice x3 t.methods.length d3,.slice x4 t.embeds.length d4] 29)) at_;have E3:=BExt.keep hE.ok ((zp _ _).alloc (zl _) (.cells #[v] 185)) (at_+t.el0.size);have hsz:=hE.size;rw[zd] at hsz;have hI1:=hI.1;refine⟨_,s',rfl,⟨_,_,rfl⟩,?_,?_,by omega,hI.2.mono (E3.le (qfd (by simp) E3.rd)) rfl⟩
  ·rw[hz];exact(E1.trans hE (zl _) (by omega)).trans E3 (by omega) (zl _)
  ·have hD2:=Den.mono (E3.le (qfd (B:=(w.alloc (.cells #[.int .i64 t.kind,.int .i64 t.num,.slice (some ⟨b,o,none⟩) t.elem.length d1,.slice x2 t.fields.length d2,.slice x3 t.methods.length d3,.slice x4 t.embeds.length d4] 29)).heap.size) (B':=w.heap.size) (by simp) E3.rd)) hD;have hb:=(Blk.new w1 185 [v]).rda (B:=w.heap.size) (by omega) (by decide) (by decide) (by
    obtain⟨T,x,rfl⟩:=hv;simp[qcq])
   obtain⟨k,m,l,fs,ms,em⟩:=t;simp only[Ty.kind,Ty.elem,Ty.el0] at *;unfold Den DenT;refine .inr (.inr (.inl ⟨hk,w1.heap.size,v,rfl,hb 0 v rfl,?_⟩));cases l with
   | nil=>simp at el
   | cons x r=>simpa[DenE,Den] using hD2
 have Hpost:=hid hpost;have k1:(t.kind==1)=false:=by simp[hk]
 have k2:(t.kind==2)=true:=by simp[hk]
 clear hb2;clear hP ht hpost hk hz e0 e2 e3 e4 ef hv hP1 ht1 hc h1 hbk hb1 ih en
 generalize t.kind=kd at *
 have hez:(0:Int)<(t.elem.length:Int):=by omega
 clear el he;go_enter func44,ntmps44
 go_wp2_with (first
  | (go_at_call 44;refine HC.out.mono ?_;rintro e w1 ⟨v,s',rfl,hv,hE,hD,hI⟩;obtain⟨T,x,rfl⟩:=hv;have HE:=hid hE;have HD:=hid hD;have HI:=hid hI;clear hE hD hI)
  | (go_at_call 65;refine(qg1 _ _ _).mono ?_;rintro e w2 ⟨rfl,rfl⟩))
 go_ret
 exact Hpost.out _ s' _ ⟨_,_,rfl⟩ HE.out HD.out HI.out
theorem qro (F:Fix) (a:Option Addr) (c:Nat) (w0 w:World) (n:Nat) (ih:qs6 F a c w0 n) (s:St) (d:Int) (val:Bool) (t:Ty) (cs:List Value) (at_:Nat) (p:Int) (hbk:t.bulk≤n+1) (hk:t.kind=3) (ht:TyC w0 t cs) (hP:BPre F w0 s w d val t at_ p):
  Calls prog 44 #[.pointer (some ⟨F.bb,0,none⟩),.slice a F.W.length c,.int .i64 p,.agg cs.toArray,.int .i64 at_] w (qh4 F s w t at_ p):=by
 obtain⟨en,e2,e3,e4,el,ef⟩:=hP.formed.k23 (.inr hk);have hv:=hP.valid.elem el;have hz:t.size=t.el0.size:=by
  obtain⟨k,m,l,fs,ms,em⟩:=t;simp only[Ty.elem,Ty.fields,Ty.methods,Ty.embeds,Ty.el0] at *;subst e2 e3 e4;cases l with
  | nil=>simp at el
  | cons x r=>cases r with
   | nil=>simp[Ty.size,qau,qar]
   | cons=>simp at el
 have he:0<t.elem.length:=by omega
 obtain⟨x1,d1,x2,d2,x3,d3,x4,d4,rfl,-,-,-,h1,-⟩:=ht.full;obtain⟨b,o,cs1,rfl,hc,ht1⟩:=TysR.get h1 0 he;have e0:t.elem[0]=t.el0:=by simp[Ty.el0,zv,zr he]
 have hb2:t.el0.bulk≤t.bulk:=by
  have:=qa6 t.elem 0 he;have:=qbd t;rw[← e0];omega
 have hb1:t.el0.bulk≤n:=by
  have:=qa6 t.elem 0 he;have:=qbd t;rw[← e0];omega
 rw[e0] at ht1;have Ht1:=hid ht1;obtain⟨y1,g1,y2,g2,y3,g3,y4,g4,rfl,-⟩:=ht1.open;obtain⟨c0,c1,c2,c3,c4,c5⟩:=six (hc.keep hP.base.keeps);simp only[Nat.zero_add,Nat.zero_mul,Nat.add_zero] at c0 c1 c2 c3 c4 c5;have hbb:=zj w _ c0;simp only at hbb;have hbb1:b<w.heap.size+1:=by omega
 obtain⟨O,hO⟩:∃ O,O=(Obj.cells #[.int .i64 t.kind,.int .i64 t.num,.slice (some ⟨b,o,none⟩) t.elem.length d1,.slice x2 t.fields.length d2,.slice x3 t.methods.length d3,.slice x4 t.embeds.length d4] 29):=⟨_,rfl⟩;have hP1:BPre F w0 s (w.alloc O) d false t.el0 at_ p:=by
  have:=hP.keep ((zp _ _).alloc (zl _) O);exact⟨this.base,this.ok,hP.pp,ef,hv,hP.tb,by rw[← hz];exact hP.free,by rw[← hz];exact hP.le,hP.nn,by have:=hP.ni;omega⟩
 subst hO;have HC:=hid (ih t.el0 _ _ s d false at_ p hb1 ht1 hP1);have hpost:∀ (w1:World) (s':St) (v:Value),IsTy v→BExt F s (w.alloc (.cells #[.int .i64 t.kind,.int .i64 t.num,.slice (some ⟨b,o,none⟩) t.elem.length d1,.slice x2 t.fields.length d2,.slice x3 t.methods.length d3,.slice x4 t.embeds.length d4] 29)) s' w1 at_ (at_+t.el0.size)→Den (gOf F s' (rdA (w.alloc (.cells #[.int .i64 t.kind,.int .i64 t.num,.slice (some ⟨b,o,none⟩) t.elem.length d1,.slice x2 t.fields.length d2,.slice x3 t.methods.length d3,.slice x4 t.embeds.length d4] 29)).heap.size w1)) ⟨t.el0,at_,p⟩ v→s'.ifs.length≤s.ifs.length+t.el0.bulk∧Mems (gOf F s' (rdA (w.alloc (.cells #[.int .i64 t.kind,.int .i64 t.num,.slice (some ⟨b,o,none⟩) t.elem.length d1,.slice x2 t.fields.length d2,.slice x3 t.methods.length d3,.slice x4 t.embeds.length d4] 29)).heap.size w1)) s.ifs→
   qh4 F s w t at_ p (.returned (.iface 147 (.pointer (some ⟨w1.heap.size,0,none⟩)))) (w1.alloc (.cells #[v] 187)):=fun w1 s' v hv hE hD hI=>by
  have E1:=BExt.keep hP.ok ((zp _ _).alloc (zl _) (.cells #[.int .i64 t.kind,.int .i64 t.num,.slice (some ⟨b,o,none⟩) t.elem.length d1,.slice x2 t.fields.length d2,.slice x3 t.methods.length d3,.slice x4 t.embeds.length d4] 29)) at_;have E3:=BExt.keep hE.ok ((zp _ _).alloc (zl _) (.cells #[v] 187)) (at_+t.el0.size);have hsz:=hE.size;rw[zd] at hsz;have hI1:=hI.1;refine⟨_,s',rfl,⟨_,_,rfl⟩,?_,?_,by omega,hI.2.mono (E3.le (qfd (by simp) E3.rd)) rfl⟩
  ·rw[hz];exact(E1.trans hE (zl _) (by omega)).trans E3 (by omega) (zl _)
  ·have hD2:=Den.mono (E3.le (qfd (B:=(w.alloc (.cells #[.int .i64 t.kind,.int .i64 t.num,.slice (some ⟨b,o,none⟩) t.elem.length d1,.slice x2 t.fields.length d2,.slice x3 t.methods.length d3,.slice x4 t.embeds.length d4] 29)).heap.size) (B':=w.heap.size) (by simp) E3.rd)) hD;have hb:=(Blk.new w1 187 [v]).rda (B:=w.heap.size) (by omega) (by decide) (by decide) (by
    obtain⟨T,x,rfl⟩:=hv;simp[qcq])
   obtain⟨k,m,l,fs,ms,em⟩:=t;simp only[Ty.kind,Ty.elem,Ty.el0] at *;unfold Den DenT;refine .inr (.inr (.inr (.inl ⟨hk,w1.heap.size,v,rfl,hb 0 v rfl,?_⟩)));cases l with
   | nil=>simp at el
   | cons x r=>simpa[DenE,Den] using hD2
 have Hpost:=hid hpost;have k1:(t.kind==1)=false:=by simp[hk]
 have k2:(t.kind==2)=false:=by simp[hk]
 have k3:(t.kind==3)=true:=by simp[hk]
 clear hb2;clear hP ht hpost hk hz e0 e2 e3 e4 ef hv hP1 ht1 hc h1 hbk hb1 ih en
 generalize t.kind=kd at *
 have hez:(0:Int)<(t.elem.length:Int):=by omega
 clear el he;go_enter func44,ntmps44
 go_wp2_with (first
  | (go_at_call 44;refine HC.out.mono ?_;rintro e w1 ⟨v,s',rfl,hv,hE,hD,hI⟩;obtain⟨T,x,rfl⟩:=hv;have HE:=hid hE;have HD:=hid hD;have HI:=hid hI;clear hE hD hI)
  | (go_at_call 66;refine(qox _ _ _).mono ?_;rintro e w2 ⟨rfl,rfl⟩))
 go_ret
 exact Hpost.out _ s' _ ⟨_,_,rfl⟩ HE.out HD.out HI.out
def qct (w:World) (r:Nat) (L:List (ByteArray×Value)):Prop:=∃ es clock,w.heap[r]?=some (.map es clock)∧es.toList.map (fun e=>(e.key,e.val))=L.map fun x=>(Value.string x.1,x.2)
theorem qtl (a b:ByteArray):(a==b)=true↔a=b:=by
 obtain⟨a⟩:=a;obtain⟨b⟩:=b;show(a==b)=true↔_;simp
theorem ba_ne {a b:ByteArray} (h:a≠b):(a==b)=false:=by
 cases e:(a==b)
 ·rfl
 ·exact absurd ((qtl a b).1 e) h
theorem qna (a:ByteArray):(a==a)=true:=(qtl a a).2 rfl
def getS (L:List (ByteArray×Value)) (k:ByteArray):Option Value:=(L.find? fun x=>x.1==k).map (·.2)
theorem qct.lt {w:World} {r:Nat} {L:List (ByteArray×Value)} (h:qct w r L):r<w.heap.size:=by
 obtain⟨es,c,h,-⟩:=h;exact(zab.1 h).1
theorem qct.apart {S:Nat→Prop} {w w':World} {r:Nat} {L:List (ByteArray×Value)} (h:qct w r L) (ha:qag S w w') (hr:¬ S r):qct w' r L:=by
 have hl:=h.lt;obtain⟨es,c,h,hL⟩:=h;exact⟨es,c,(ha.block r hl hr).trans h,hL⟩
theorem qct.new (w:World) (c:Nat):qct (w.alloc (.map #[] c)) w.heap.size []:=⟨#[],c,by show(w.heap.push _)[w.heap.size]?=_;exact Array.getElem?_push_size,rfl⟩
theorem qg6 (k:ByteArray):∀ (l:List MapEntry) (L:List (ByteArray×Value)) (i:Nat),l.map (fun e=>(e.key,e.val))=L.map (fun x=>(Value.string x.1,x.2))→
  (getS L k=none∧Instr.findNow .string (.string k) l i=some none)∨∃ v j,getS L k=some v∧Instr.findNow .string (.string k) l i=some (some (j,v))
 | [],[],i,_ => .inl ⟨rfl,rfl⟩
 | [],x::L,i,h=>by simp at h
 | e::l,[],i,h=>by simp at h
 | e::l,(s,v)::L,i,h=>by
  simp only[List.map_cons,List.cons.injEq,Prod.mk.injEq] at h;obtain⟨⟨h1,h2⟩,h3⟩:=h;simp only[Instr.findNow,h1,Instr.sameNow];by_cases hk:k=s
  ·subst hk;right;exact⟨v,i,by simp[getS,qna],by simp[h2,qna]⟩
  ·have e1:(k==s)=false:=ba_ne hk;have e2:(s==k)=false:=ba_ne fun e=>hk e.symm;simp only[e1];have:=qg6 k l L (i+1) h3;simpa[getS,e2] using this
section
variable {P:Program} {t kt et:TypeId} {z:Value}
theorem qh8 (w:World) (b:Bool) (k:ByteArray) (hk:P.underlying kt=some .string):(Instr.checkKey b 10000 kt (.string k)).run P w = .ok () w:=by
 exact MapKept.run_checkKey (d := .string) (k := .string k) hk (by trivial) b 9999
theorem qg4 (w:World) (ht:P.underlying t=some (.map kt et)) (hk:P.underlying kt=some .string) (hz:(P.info? et).map (·.zero)=some (some z)) {r:Nat} {L:List (ByteArray×Value)} (h:qct w r L) (k:ByteArray):
  (Instr.lookup t (.map (some r)) (.string k) false).run P w = .ok ((getS L k).getD z) w:=by
 obtain⟨es,c,hb,hL⟩:=h;obtain⟨j,hj,hz'⟩:=zbb.1 hz;rcases qg6 k es.toList L 0 hL with ⟨h1,h2⟩|⟨v,n,h1,h2⟩
 ·simp[Instr.lookup,run_underlying ht,MapKept.run_getObj_map hb,qh8 w _ k hk,MapKept.run_findKey hk h2,h1,Result.andThen,zeroValue,hj,hz',typeInfo]
 ·simp[Instr.lookup,run_underlying ht,MapKept.run_getObj_map hb,qh8 w _ k hk,MapKept.run_findKey hk h2,h1,Result.andThen]
theorem qkm (w:World) (ht:P.underlying t=some (.map kt et)) (hk:P.underlying kt=some .string) (hz:(P.info? et).map (·.zero)=some (some z)) (k:ByteArray):
  (Instr.lookup t (.map none) (.string k) false).run P w = .ok z w:=by
 obtain⟨j,hj,hz'⟩:=zbb.1 hz;simp[Instr.lookup,run_underlying ht,qh8 w _ k hk,Instr.findKey,run_underlying hk,Instr.findNow,Result.andThen,zeroValue,hj,hz',typeInfo]
theorem qkw (w:World) (ht:P.underlying t=some (.map kt et)) (hk:P.underlying kt=some .string) {r:Nat} {L:List (ByteArray×Value)} (h:qct w r L) (k:ByteArray) (v:Value) (hn:getS L k=none):
  ∃ w',(Instr.mapUpdate t (.map (some r)) (.string k) v).run P w = .ok () w'∧qct w' r (L++[(k,v)])∧qah (fun b=>b=r) w w':=by
 obtain⟨es,c,hb,hL⟩:=h;rcases qg6 k es.toList L 0 hL with ⟨h1,h2⟩|⟨v',n,h1,h2⟩
 ·have hrun:(Instr.mapUpdate t (.map (some r)) (.string k) v).run P w = .ok () { w with heap:=w.heap.setIfInBounds r (.map (es.push { key := .string k,val:=v,born:=c }) (c+1)) }:=by
   simp[Instr.mapUpdate,run_underlying ht,MapKept.run_getObj_map hb,qh8 w _ k hk,MapKept.run_findKey hk h2,MapKept.run_setObj_map _ hb,Result.andThen]
  have hlt:r<w.heap.size:=(zab.1 hb).1;refine⟨_,hrun,⟨es.push { key := .string k,val:=v,born:=c },c+1,by simp[hlt],?_⟩,⟨rfl,rfl,rfl,⟨by simp,fun b hb' hs => ?_⟩⟩⟩
  ·rw[Array.toList_push,List.map_append,hL,List.map_append];rfl
  ·simp only;rw[Array.getElem?_setIfInBounds,if_neg (fun e=>hs e.symm)]
 ·rw[hn] at h1;cases h1
theorem qe8 (w:World) {ops:Array Oper} {rest:List Oper} {o:Oper} {a:Act} {Q:Exit→Act→World→Prop} (hg:o.guard=none) (m x v:Operand) (hop:o.op=Op.mapUpdate t m x v)
  (ht:P.underlying t=some (.map kt et)) (hk:P.underlying kt=some .string) {r:Nat} {L:List (ByteArray×Value)} (hm:a.eval m = .map (some r)) (h:qct w r L) (k:ByteArray) (hx:a.eval x = .string k) (val:Value) (hv:a.eval v=val) (hn:getS L k=none)
  (hK:∀ w',qct w' r (L++[(k,val)])→qah (fun b=>b=r) w w'→wpList P ops Q rest (a.put o.dst undef) w'):wpList P ops Q (o::rest) a w:=by
 refine wpList_plain hg fun K' hK' => ?_;obtain⟨w',hrun,r1,r2⟩:=qkw (P:=P) w ht hk h k val hn;unfold Oper.wp;simp[execOp,hop,hm,hx,hv,hrun,Result.andThen];exact hK' _ _ (hK w' r1 r2)
end
open Go.MuLone
theorem qhj (f pk:Nat) (p n:Int) (w:World) (h:IsNm n) (hp:p=0∨p=1) (hT:Tabs w) (h1:w.cell? ⟨f,1,none⟩=some (.pointer (some ⟨pk,0,none⟩))) (h2:w.cell? ⟨f,2,none⟩=some (.string (qas n))) (hc:w.cell? ⟨pk,0,none⟩=some (.string (qbo p))):
  Calls prog 156 #[.pointer (some ⟨f,0,none⟩)] w (qa2 (.string (idS p n)) w):=by
 have HT:=hid hT;have Hp:=hid hp;have H:=hid h;have hfl:=zj w _ h1;have hpl:=zj w _ hc;simp only at hfl hpl;clear hT hp h;go_enter func156,ntmps156
 go_wp2_with fail
 refine Mix.wp_region [0,1,2,3,4,5,6,7,8] [] [9] (fun _=>default) (by kernel_rfl) (by kernel_rfl) (by decide) ?_
 iterate 9 (first|(refine pre_yes rfl rfl ?_;apply Exists.intro;refine⟨fun W1 hW1 => ?_,?_⟩;(focus (have hc1:=(qal hW1).1;(try simp only[zd,qaa] at hc1);have hk1:=qac.below hW1;go_simp;first|exact rfl|(go_at_call 53;exact qj5 pk p n _ H.out Hp.out (HT.out.below ⟨hW1.os,hW1.tape,hW1.output,hW1.size,hW1.block⟩) (hk1 _ _ hc))));simp only[Act.put,zk,zh,zi,ze,zm,zn])|(refine pre_no rfl rfl ?_;simp only[Act.put,zk,zh,zi,ze,zm,zn]))
 refine pre_end fl_nil (fun W2 hW2=>mid_nil (qco rfl ?_))
 go_wp2_with fail
 go_ret
 exact⟨rfl,⟨hW2.os,hW2.tape,hW2.output,hW2.size,hW2.block⟩⟩
theorem quu (a : Addr) (w : World) : (method 511 151 (.pointer (some a)) "Id").run prog w = .ok (156, .pointer (some a)) w := by kernel_rfl
theorem qlk (a : Addr) (w : World) : (method 511 106 (.pointer (some a)) "Id").run prog w = .ok (156, .pointer (some a)) w := by kernel_rfl
theorem Tryz.zObj:(prog.info? 68).map (·.zero)=some (some .nilIface):=by kernel_rfl
theorem qlt (sb f pk:Nat) (p n:Int) (m:Option Nat) (L:List (ByteArray×Value)) (w:World) (h:IsNm n) (hp:p=0∨p=1) (hT:Tabs w) (h1:w.cell? ⟨f,1,none⟩=some (.pointer (some ⟨pk,0,none⟩))) (h2:w.cell? ⟨f,2,none⟩=some (.string (qas n))) (hc:w.cell? ⟨pk,0,none⟩=some (.string (qbo p)))
  (T D:TypeId) (hD:D=151∨D=106) (hs:Blk w sb T [.map m]) (hm:m=none∧L=[]∨∃ r,m=some r∧qct w r L∧r≠sb) (hn:getS L (idS p n)=none):
  Calls prog 89 #[.pointer (some ⟨sb,0,none⟩),.iface D (.pointer (some ⟨f,0,none⟩))] w fun e w'=>e = .returned .nilIface∧∃ r,Blk w' sb T [.map (some r)]∧qct w' r (L++[(idS p n,.iface D (.pointer (some ⟨f,0,none⟩)))])∧r≠sb∧
   (m=some r∨w.heap.size≤r)∧qah (fun b=>b=sb∨m=some b) w w':=by
 have HT:=hid hT;have Hp:=hid hp;have H:=hid h;have Hs:=hid hs;have Hn:=hid hn;have c0:=hs.cell 0;have f0:=hs.soft 0;simp only[zt] at c0;have hsl:=hs.lt;have hmv:=quu;have hmf:=qlk;clear hT hp h hs hn;rcases hm with ⟨rfl,rfl⟩|⟨r,rfl,hr,hrs⟩
 ·have hlk:=fun w=>qkm (P:=prog) w underlying193 underlying9 Tryz.zObj (idS p n);have qT:∀ (w:World) (r:Option Nat),(binOp .eql 193 (.map r) (.map none)).run prog w = .ok (.bool r.isNone) w:=fun w r=>run_eql_map_nil w _ _ _ r underlying193;have hmm:=@run_makeMap prog;have Hself:=hid (trivial:True);rcases hD with rfl|rfl
  all_goals
   go_enter func89,ntmps89
   go_wp2_with (first|(at_mapUpdate;refine qe8 _ rfl (.tmp 26) (.tmp 27) (.tmp 28) rfl underlying193 underlying9 (r:=w1.heap.size) (L:=[]) rfl ?m1 (idS p n) rfl _ rfl ?q4 ?m2)|(go_at_call 156;refine(qhj f pk p n _ H.out Hp.out HT.out h1 h2 hc).mono ?_;rintro e w1 ⟨rfl,hb1⟩;have Hb1:=hid hb1;have hz1:=zq hb1;have q0:w1.cell? ⟨sb,0,none⟩=some (.map none):=(qac.below hb1) _ _ c0;have qf:w1.frozen? ⟨sb,0,none⟩=false:=(by rw[hb1.frozen (p:=⟨sb,0,none⟩) hsl];exact f0);have hs1:sb<w1.heap.size:=(by omega);have hs2:sb<w1.heap.size+1:=(by omega)))
   case q4=>exact rfl
   case m1=>
    have:=qct.new (w1.setCell ⟨sb,0,none⟩ (.map (some w1.heap.size))) 0
    rwa [show(w1.setCell ⟨sb,0,none⟩ (.map (some w1.heap.size))).heap.size=w1.heap.size by simp[World.setCell]] at this
   case m2=>
    intro w' hmap htu;have Hmap:=hid hmap;have Htu:=hid htu;clear hmap htu
    go_wp2_with fail
    go_ret
    refine⟨rfl,w1.heap.size,?_,Hmap.out,by omega,.inr hz1,?_⟩
    ·exact(((Hs.out.keep Hb1.out).set 0 (.map (some w1.heap.size))).alloc _).apart Htu.out.apart (by show ¬ sb=w1.heap.size;omega)
    ·have t1:qah (fun b=>b=sb∨(none:Option Nat)=some b) w1 (w1.setCell ⟨sb,0,none⟩ (.map (some w1.heap.size))):=qah.setCell _ _ (.inl rfl) _;have t2:qah (fun b=>b=sb∨(none:Option Nat)=some b) (w1.setCell ⟨sb,0,none⟩ (.map (some w1.heap.size))) ((w1.setCell ⟨sb,0,none⟩ (.map (some w1.heap.size))).alloc (.map #[] 0)):=qah.keep ((zp _ _).alloc (zl _) _);have t3:=((qah.keep (S:=fun b=>b=sb∨b=w1.heap.size) Hb1.out).trans (t1.mono fun b _ h=>by rcases h with h|h;exact .inl h;cases h)).trans ((t2.mono fun b _ h=>by rcases h with h|h;exact .inl h;cases h).trans (Htu.out.mono fun b _ h => .inr h));exact t3.mono fun b hb h=>by rcases h with h|h;exact .inl h;omega
 ·have qT:∀ (w:World) (r:Option Nat),(binOp .eql 193 (.map r) (.map none)).run prog w = .ok (.bool r.isNone) w:=fun w r=>run_eql_map_nil w _ _ _ r underlying193;have Hr:=hid hr;clear hr;rcases hD with rfl|rfl
  all_goals
   go_enter func89,ntmps89
   go_wp2_with (first|(at_mapUpdate;refine qe8 _ rfl (.tmp 26) (.tmp 27) (.tmp 28) rfl underlying193 underlying9 (r:=r) (L:=L) rfl ?m1 (idS p n) rfl _ rfl ?q4 ?m2)|(go_at_call 156;refine(qhj f pk p n _ H.out Hp.out HT.out h1 h2 hc).mono ?_;rintro e w1 ⟨rfl,hb1⟩;have Hb1:=hid hb1;have hz1:=zq hb1;have q0:w1.cell? ⟨sb,0,none⟩=some (.map (some r)):=(qac.below hb1) _ _ c0;have Hm1:=hid (Hr.out.apart (S:=fun _=>False) (qag.keep hb1) (fun h=>h));have hlk:=qg4 (P:=prog) w1 underlying193 underlying9 Tryz.zObj Hm1.out (idS p n);rw[Hn.out] at hlk;simp only[Option.getD_none] at hlk;have hs1:sb<w1.heap.size:=(by omega)))
   case m1=>exact Hm1.out
   case q4=>exact Hn.out
   case m2=>
    intro w' hmap htu;have Hmap:=hid hmap;have Htu:=hid htu;clear hmap htu
    go_wp2_with fail
    go_ret
    refine⟨rfl,r,?_,Hmap.out,hrs,.inl rfl,?_⟩
    ·exact(Hs.out.keep Hb1.out).apart Htu.out.apart (by show ¬ sb=r;omega)
    ·exact(qah.keep Hb1.out).trans (Htu.out.mono fun b _ h => .inr (by rw[h]))
theorem qd0 (v:Value) (n:Nat):madeCells #[v] n=(List.replicate n v).toArray:=by
 apply Array.ext
 ·simp[madeCells]
 ·intro i h1 h2;simp[madeCells,Nat.mod_one]
theorem Tryz.infoInt:(prog.info? 3).map (fun i=>(i.zero,i.size,i.bytes))=some (some (.int .i64 0),1,8):=by kernel_rfl
theorem qso (n:Nat) (w:World) (hn:n≤16777216):
  (Instr.makeSlice 33 (.int .i64 (n:Int)) (.int .i64 (n:Int))).run prog w = .ok (.slice (some ⟨w.heap.size,0,none⟩) n n) (w.alloc (.cells (qbh (List.replicate n 0)).toArray 3)):=by
 obtain⟨i0,hi,hz0,hz1,hz2⟩:=info_parts Tryz.infoInt;have h:=run_make (P:=prog) w 33 3 i0 _ underlying33 hi hz0 .i64 .i64 n n (by omega) (by omega) (by rw[hz2];omega) (by omega);rw[h];simp only[Int.toNat_natCast,hz1,Nat.mul_one,Value.cells,qd0,qbh,List.map_replicate];rfl
theorem qt7 {L:List (ByteArray×Value)} {k:ByteArray} (h:∀ x∈L,x.1≠k):getS L k=none:=by
 unfold getS;rw[Option.map_eq_none_iff,List.find?_eq_none];intro x hx e;exact h x hx ((qtl _ _).1 e)
def qsb (w:World) (f pk:Nat) (p n:Int):Prop:=w.cell? ⟨f,1,none⟩=some (.pointer (some ⟨pk,0,none⟩))∧w.cell? ⟨f,2,none⟩=some (.string (qas n))∧w.cell? ⟨pk,0,none⟩=some (.string (qbo p))
theorem qsb.keep {w W:World} {f pk:Nat} {p n:Int} (h:qsb w f pk p n) (k:qac w W):qsb W f pk p n:=⟨k _ _ h.1,k _ _ h.2.1,k _ _ h.2.2⟩
def ObjSet (w:World) (B sb:Nat) (T:TypeId) (ids:List ByteArray):Prop:=∃ m L,Blk w sb T [.map m]∧(m=none∧L=[]∨∃ r,m=some r∧qct w r L∧r≠sb∧B≤r)∧∀ x∈L,x.1∈ids
theorem qiu (b:Nat) (a:Addr) (n c:Nat) (v:Value) (T:TypeId) (w:World) (h:Blk w b T [.slice (some a) n c,v]):Calls prog 90 #[.pointer (some ⟨b,0,none⟩)] w fun e w'=>e = .returned (.tuple #[])∧w'=w:=by
 have c0:=h.cell 0;simp only[zt] at c0;have qs:=fun(w:World) (a:Option Addr) (n c n' c':Nat)=>Lib.run_eql_slice_nil (P:=prog) w _ _ a n c n' c' underlying149;clear h;go_enter func90,ntmps90
 go_wp2_with fail
 go_end0
 exact⟨rfl,rfl⟩
theorem Tryz.infoPV:(prog.info? 151).map (fun i=>(i.zero,i.size,i.bytes))=some (some (.pointer none),1,8):=by kernel_rfl
theorem qub (w:World):(Instr.makeSlice 149 (.int .i64 0) (.int .i64 0)).run prog w = .ok (.slice (some ⟨w.heap.size,0,none⟩) 0 0) (w.alloc (.cells #[] 151)):=by
 obtain⟨i0,hi,hz0,hz1,hz2⟩:=info_parts Tryz.infoPV;have h:=run_make (P:=prog) w 149 151 i0 _ underlying149 hi hz0 .i64 .i64 0 0 (by omega) (by omega) (by rw[hz2];omega) (by omega);rw[h];have e:∀ z,madeCells z 0=#[]:=fun z=>Array.size_eq_zero_iff.1 (size_madeCells z 0);simp only[Int.toNat_zero,Nat.zero_mul,e]
theorem qid (b:Nat) (n c:Nat) (v:Value) (T:TypeId) (w:World) (h:Blk w b T [.slice none n c,v]):Calls prog 90 #[.pointer (some ⟨b,0,none⟩)] w fun e w'=>e = .returned (.tuple #[])∧(∃ a2,Blk w' b T [.slice a2 0 0,v])∧qah (fun k=>k=b) w w':=by
 have c0:=h.cell 0;have f0:=h.soft 0;have hbl:=h.lt;simp only[zt] at c0;have qs:=fun(w:World) (a:Option Addr) (n c n' c':Nat)=>Lib.run_eql_slice_nil (P:=prog) w _ _ a n c n' c' underlying149;have hmk:=qub;have H:=hid h;clear h;go_enter func90,ntmps90
 go_wp2_with fail
 go_end0
 refine⟨rfl,?_,?_⟩
 ·exact⟨_,(H.out.set 0 _).alloc _⟩
 ·exact(qah.setCell (fun k=>k=b) w (a:=⟨b,0,none⟩) rfl _).trans (qah.keep ((zp _ _).alloc (zl _) _))
theorem qm1 (a:Option Addr) (c:Nat) (fs:List Nat) (pk:Nat) (p:Int) (ns:List Int) (w:World) (hp:p=0∨p=1) (hT:Tabs w) (hr:qlm w a fs) (hc:fs.length≤c) (hl:fs.length≤1048576)
  (hf:∀ i (hi:i<fs.length),qsb w fs[i] pk p (ns.getD i 0)∧IsNm (ns.getD i 0)∧(ns.getD i 0≠8→∀ j,j<i→idS p (ns.getD i 0)≠idS p (ns.getD j 0))):
  Calls prog 69 #[.slice a fs.length c,.slice none 0 0] w fun e w'=>∃ b a' c',e = .returned (.pointer (some ⟨b,0,none⟩))∧Blk w' b 196 [.slice a' fs.length c',.slice none 0 0]∧(0<fs.length→a'=a∧c'=c)∧fs.length≤c'∧w.heap.size≤b∧Below w.heap.size w w':=by
 have HT:=hid hT;have Hp:=hid hp;have Hr:=hid hr;have Hf:=hid hf;clear hT hp hr hf;go_enter func69,ntmps69
 go_wp2_with fail
 have hB1:Below w.heap.size w (w.alloc (.cells #[.map none] 193)):=(zp _ _).alloc (zl _) _;have HN:=hid (Blk.new w 193 [.map none])
 go_loopw [11] (fun j wr=>∃ k:Nat,k≤fs.length∧j = .int .i64 k∧Below w.heap.size w wr∧Hid (∃ ids,ObjSet wr w.heap.size w.heap.size 193 ids∧∀ s∈ids,∃ i,i<k∧s=idS p (ns.getD i 0)))
  (fun j _=>fs.length - (intOf j).toNat)
 case atStart=>exact⟨0,by omega,rfl,hB1,hid ⟨[],⟨none,[],HN.out,.inl ⟨rfl,rfl⟩,fun x hx=>by cases hx⟩,fun s hs=>by cases hs⟩⟩
 clear hB1 HN
 case round=>
  obtain⟨k,hk,rfl,hbel,hst⟩:=hrel;obtain⟨ids,⟨m,L,hblk,hm,hL⟩,hids⟩:=hst.out;have hz:=zq hbel;have HK:=hid (qac.below hbel);have Hblk:=hid hblk;have Hm:=hid hm;have HL:=hid hL;have Hids:=hid hids;have hbl:=hblk.lt;clear hst hblk hm hL hids;by_cases hlt:k<fs.length
  ·obtain⟨g,o,rfl,hg⟩:=Hr.out k hlt;obtain⟨hv,hnm,hdis⟩:=Hf.out k hlt;have hv:=hv.keep HK.out;have hg:=HK.out _ _ hg;have hv2:=hv.2.1;have Hv:=hid hv;have Hnm:=hid hnm;have Hdis:=hid hdis;clear hv hnm hdis;by_cases h8:ns.getD k 0=8
   ·have hq:((qas (ns.getD k 0)).toList==[95])=true:=by rw[h8];decide +kernel
    have H8:=hid h8;clear h8
    generalize ns.getD k 0=x at hv2 hq
    go_wp2_with fail
    go_roundw
    case rel=>exact⟨k+1,by omega,by go_num,hbel,hid ⟨ids,⟨m,L,Hblk.out,Hm.out,HL.out⟩,fun s hs=>by
     obtain⟨i,hi,e⟩:=Hids.out s hs;exact⟨i,by omega,e⟩⟩⟩
    case measure=>simp[intOf];omega
   ·have hq:((qas (ns.getD k 0)).toList==[95])=false:=qhk Hnm.out h8;have hno:getS L (idS p (ns.getD k 0))=none:=qt7 fun x hx e=>by
     obtain⟨i,hi,e2⟩:=Hids.out _ (HL.out x hx);exact Hdis.out h8 i hi (e ▸ e2)
    have Hno:=hid hno;clear h8 hno;obtain⟨x,hx⟩:∃ x,x=ns.getD k 0:=⟨_,rfl⟩;rw[← hx] at hv2 hq Hnm Hv Hno;have Hx:=hid hx;clear hx
    go_wp2_with (go_at_call 89;refine(qlt w.heap.size fs[k] pk p x m L _ Hnm.out Hp.out (HT.out.below hbel) Hv.out.1 Hv.out.2.1 Hv.out.2.2 193 151 (.inl rfl) Hblk.out (by rcases Hm.out with h|⟨r,h1,h2,h3,h4⟩;exact .inl h;exact .inr ⟨r,h1,h2,h3⟩) Hno.out).mono ?_;rintro e w2 ⟨rfl,r,hb2,hs2,hne2,hr2,ht2⟩;have Hb2:=hid hb2;have Hs2:=hid hs2;have Hne2:=hid hne2;have Hr2:=hid hr2;have Ht2:=hid ht2;clear hb2 hs2 hne2 hr2 ht2)
    have hb3:Below w.heap.size wr w2:=Ht2.out.below hz fun b hb=>by
     rcases hb with h|h
     ·omega
     ·rcases Hm.out with ⟨h1,-⟩|⟨r2,h1,h2,h3,h4⟩
      ·rw[h1] at h;cases h
      ·rw[h1] at h;cases h;exact h4
    have hr3:w.heap.size≤r:=by
     rcases Hr2.out with h|h
     ·rcases Hm.out with ⟨h1,-⟩|⟨r2,h1,h2,h3,h4⟩
      ·rw[h1] at h;cases h
      ·rw[h1] at h;cases h;exact h4
     ·omega
    go_roundw
    case rel=>exact⟨k+1,by omega,by go_num,hbel.trans hb3,hid ⟨idS p x::ids,⟨some r,_,Hb2.out,.inr ⟨r,rfl,Hs2.out,Hne2.out,hr3⟩,fun y hy=>by
      rcases zib.1 hy with hy|hy
      ·exact zy _ (HL.out y hy)
      ·rw[zfb.1 hy];exact z6 ..⟩,fun s hs=>by
      rcases zgb.1 hs with rfl|hs
      ·exact⟨k,by omega,by rw[Hx.out]⟩
      ·obtain⟨i,hi,e⟩:=Hids.out s hs;exact⟨i,by omega,e⟩⟩⟩
    case measure=>simp[intOf];omega
  ·obtain rfl:k=fs.length:=by omega
   have Hn:=hid (Blk.new wr 196 [.slice a fs.length c,.slice none 0 0]);have HB:=hid hbel;cases a with
   | some ad=>
    go_wp2_with (go_at_call 90;refine(qiu wr.heap.size ad fs.length c _ _ _ Hn.out).mono ?_;rintro e w2 ⟨rfl,rfl⟩)
    go_ret
    exact⟨wr.heap.size,_,_,rfl,Hn.out,fun _=>⟨rfl,rfl⟩,hc,hz,HB.out.alloc hz _⟩
   | none=>
    have h0:fs.length=0:=by
     by_cases h:0<fs.length
     ·obtain⟨_,_,h2,-⟩:=Hr.out 0 h;cases h2
     ·omega
    have H0:=hid h0;clear h0
    go_wp2_with (go_at_call 90;refine(qid wr.heap.size fs.length c _ _ _ Hn.out).mono ?_;rintro e w2 ⟨rfl,⟨a2,hb2⟩,ht2⟩;have Hb2:=hid hb2;have Ht2:=hid ht2;clear hb2 ht2)
    go_ret
    refine⟨wr.heap.size,a2,0,rfl,?_,fun h=>by have:=H0.out;omega,by have:=H0.out;omega,hz,?_⟩
    ·rw[H0.out];exact Hb2.out
    ·exact(HB.out.alloc hz _).trans (Ht2.out.below (by simp;omega) fun b hb=>by omega)
