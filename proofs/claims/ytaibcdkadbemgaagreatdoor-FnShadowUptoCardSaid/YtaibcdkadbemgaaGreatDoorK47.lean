import Derived.Test.YtaibcdkadbemgaaGreatDoorK41
import Derived.Test.YtaibcdkadbemgaaGreatDoorK32
import Derived.Test.YtaibcdkadbemgaaGreatDoorK45
import Derived.Test.YtaibcdkadbemgaaGreatDoorWDeclM
set_option linter.all false
set_option maxHeartbeats 4000000
namespace Go.Proofs.YtaibcdkadbemgaaGreatDoor
open Go Go.RowKit
theorem qpk (W:Wd) (s:Spot) (addr:Bool) (q:Int):qhf W s addr q 8=⟨none,[],false⟩:=by
 unfold qhf;rw[if_pos rfl]
theorem qp7 (W:Wd) (s:Spot) (addr:Bool) (q:Int):qch W s addr q 8=⟨none,[],false⟩:=by
 unfold qch;simp only[qpk];split <;> rfl
def En.ahead (e:En):En:={ e with ind:=true }
def Hi.ahead (h:Hi):Hi:={ h with ind:=true }
theorem modify_map {α β:Type} (f:α→β) (g:β→β) (g':α→α) (h:∀ a,g (f a)=f (g' a)):∀ (l:List α) (i:Nat),(l.map f).modify i g=(l.modify i g').map f
 | [],i=>by cases i <;> simp
 | a::r,0=>by simp[h]
 | a::r,i+1=>by simp[modify_map f g g' h r i]
def ptrT (t:Ty):Ty := .mk 2 0 [t] [] [] []
theorem qt8 {W:Wd} {s:Spot} {addr:Bool} {q m:Int} (hm:m≠8) (hp:(plain W s).of.kind≠2):qhf W s addr q m=lvs W addr q m (qj2 W) [⟨pl W s,[],false,false⟩] []:=by
 unfold qhf;have e:drf W s=(s,false):=by unfold drf;rw[if_neg hp]
 rw[if_neg hm,e,if_neg (by simp)]
theorem kind_plain {W:Wd} (hB:qcp W) {s:Spot} (hs:qdw W s) (h:(qae W s).of.kind≠2):(plain W s).of.kind≠2:=fun e=>h (by
 rw[← qfm hB hs,qdu (by omega)];exact e)
structure Pk0 (W:Wd):Prop where
 pk:∀ d,(dc W d).pkg=0
theorem qnk {W:Wd} (h:Pk0 W):∀ (n:Nat) (s:Spot),s.pkg=0→(qb9 W n s).pkg=0
 | 0,s,hs=>hs
 | n+1,s,hs=>by
  simp only[qb9];split
  ·exact qnk h n _ (h.pk _)
  ·exact hs
theorem qwh {W:Wd} (h:Pk0 W) {s:Spot} (hs:s.pkg=0):(qae W s).pkg=0:=qnk h _ s hs
theorem MS.pk {W:Wd} (h:Pk0 W) {s:Spot} {l:List Mn} (hl:MS W s l):s.pkg=0→∀ m∈l,m.p=0:=by
 induction hl with
 | mk s ls hl _ ih=>
  intro hs m hm;rcases qgq (qka hm) with hm|⟨l,h1,h2⟩
  ·rcases qf2 hm with hm|hm
   ·cases hm
   ·unfold expl at hm;obtain⟨k,-,rfl⟩:=zjb.1 hm;exact hs
  ·obtain⟨i,hi,rfl⟩:=List.getElem_of_mem h1;exact ih i hi (qwh h hs) m h2
def StB (L:Nat) (st:Option Hi×List En):Prop:=(∀ h,st.1=some h→h.ix.length≤L)∧∀ x∈st.2,x.ix.length≤L
def RB (L:Nat):Stp (Option Hi×List En)→Prop
 | .ok st=>StB L st
 | .error x=>x.length≤L
def HB (L:Nat):Stp (Option Hi)→Prop
 | .ok h=>∀ x,h=some x→x.ix.length≤L
 | .error x=>x.length≤L
theorem sgHit_len {e:En} {L:Nat} (he:e.ix.length+1≤L) (h:Option Hi) (i k:Nat) (met ptr:Bool):HB L (qgu e h i k met ptr):=by
 unfold qgu;split
 ·simp only[HB,List.length_append,List.length_singleton];exact he
 ·intro x hx;cases hx;simp only[List.length_append,List.length_singleton];exact he
theorem fldS_len {W:Wd} {q m:Int} {e:En} {L:Nat} (he:e.ix.length+1≤L) (u:Spot) (i:Nat) {st:Option Hi×List En} (hs:StB L st):RB L (fldS W q m e u i st):=by
 unfold fldS;split
 ·have h1:=sgHit_len he st.1 i (qe0 u i) false false;cases hg:qgu e st.1 i (qe0 u i) false false with
  | ok h=>rw[hg] at h1;exact⟨h1,hs.2⟩
  | error x=>rw[hg] at h1;exact h1
 ·split
  ·refine⟨hs.1,fun x hx => ?_⟩;rcases zhb.1 hx with hx|hx
   ·exact hs.2 x hx
   ·rw[zeb.1 hx];simp only[subE,List.length_append,List.length_singleton];exact he
  ·exact hs
theorem flds_len {W:Wd} {q m:Int} {e:En} {L:Nat} (he:e.ix.length+1≤L) (u:Spot):∀ (n i:Nat) {st:Option Hi×List En},StB L st→RB L (flds W q m e u n i st)
 | 0,_,_,hs=>hs
 | n+1,i,st,hs=>by
  have h1:=fldS_len (W:=W) (q:=q) (m:=m) he u i hs;simp only[flds];cases hg:fldS W q m e u i st with
  | ok st'=>rw[hg] at h1;exact flds_len he u n (i+1) h1
  | error x=>rw[hg] at h1;exact h1
theorem typS_len {W:Wd} {q m:Int} {e:En} {L:Nat} (he:e.ix.length+1≤L) {st:Option Hi×List En} (hs:StB L st):RB L (typS W q m e st):=by
 unfold typS;split
 ·exact flds_len he _ _ _ hs
 ·split
  ·cases qhz (qih (msL W (qae W e.to))) q m with
   | none=>exact hs
   | some i=>
    have h1:=sgHit_len he st.1 i ((msL W (qae W e.to)).getD i mn0).k true false;dsimp only;cases hg:qgu e st.1 i ((msL W (qae W e.to)).getD i mn0).k true false with
    | ok h=>rw[hg] at h1;exact⟨h1,hs.2⟩
    | error x=>rw[hg] at h1;exact h1
  ·exact hs
theorem entS_len {W:Wd} {q m:Int} {e:En} {L:Nat} (he:e.ix.length+1≤L) {st:Option Hi×List En} (hs:StB L st):RB L (entS W q m e st):=by
 unfold entS;cases (if e.to.of.kind=1 then qey W e.to.of.num.toNat q m else none) with
 | none=>exact typS_len he hs
 | some i=>
  have h1:=sgHit_len he st.1 i (start W e.to.of.num.toNat+i) true ((dc W e.to.of.num.toNat).methods.getD i ⟨0,false⟩).ptr;dsimp only;cases hg:qgu e st.1 i (start W e.to.of.num.toNat+i) true ((dc W e.to.of.num.toNat).methods.getD i ⟨0,false⟩).ptr with
  | ok h=>rw[hg] at h1;exact⟨h1,hs.2⟩
  | error x=>rw[hg] at h1;exact h1
def EB (L:Nat):Stp ((Option Hi×List En)×List Nat)→Prop
 | .ok x=>StB L x.1
 | .error x=>x.length≤L
theorem ents_len {W:Wd} {q m:Int} {L:Nat}:∀ (l:List En) {st:Option Hi×List En} (S:List Nat),(∀ e∈l,e.ix.length+1≤L)→StB L st→EB L (ents W q m l st S)
 | [],_,_,_,hs=>hs
 | e::r,st,S,hl,hs=>by
  simp only[ents];split
  ·exact ents_len r S (fun x hx=>hl x (.tail _ hx)) hs
  ·have h1:=entS_len (W:=W) (q:=q) (m:=m) (hl e (.head _)) hs;cases hg:entS W q m e st with
   | ok st'=>rw[hg] at h1;exact ents_len r _ (fun x hx=>hl x (.tail _ hx)) h1
   | error x=>rw[hg] at h1;exact h1
theorem lvs_len {W:Wd} {addr:Bool} {q m:Int}:∀ (n:Nat) (cur:List En) (S:List Nat) (L:Nat),(∀ x∈cur,x.ix.length≤L)→(lvs W addr q m n cur S).ix.length≤L+n
 | 0,_,_,_,_=>Nat.zero_le _
 | n+1,cur,S,L,hc=>by
  have h1:=ents_len (W:=W) (q:=q) (m:=m) (L:=L+1) cur (st:=(none,[])) S (fun x hx=>by have:=hc x hx;omega) ⟨fun h e=>by simp at e,fun x hx=>by cases hx⟩;simp only[lvs];split
  ·exact Nat.zero_le _
  ·cases hg:ents W q m cur (none,[]) S with
   | error x=>rw[hg] at h1;have:x.length≤L+1:=h1;show x.length≤_;omega
   | ok r=>
    rw[hg] at h1;obtain⟨⟨h,nx⟩,S'⟩:=r;cases h with
    | none=>
     have h2:=lvs_len (W:=W) (addr:=addr) (q:=q) (m:=m) n (qbc W nx) S' (L+1) (qkc (fun x=>x.ix.length≤L+1) (fun a b e1 e2 h=>by rw[← e2];exact h) h1.2);exact Nat.le_trans h2 (by omega)
    | some h=>
     have h2:=h1.1 h rfl;dsimp only;split
     ·exact Nat.zero_le _
     ·show h.ix.length≤_;omega
theorem lookI_len (W:Wd) (s:Spot) (addr:Bool) (q m:Int):(qhf W s addr q m).ix.length≤qj2 W:=by
 unfold qhf;split
 ·exact Nat.zero_le _
 ·split
  ·exact Nat.zero_le _
  ·have:=lvs_len (W:=W) (addr:=addr) (q:=q) (m:=m) (qj2 W) [⟨pl W (drf W s).1,[],(drf W s).2,false⟩] [] 0 (fun x hx=>by rw[zeb.1 hx];exact zl _);omega
theorem lookM_len (W:Wd) (s:Spot) (addr:Bool) (q m:Int):(qch W s addr q m).ix.length≤qj2 W:=by
 unfold qch;split
 ·split
  ·exact Nat.zero_le _
  ·exact lookI_len ..
 ·exact lookI_len ..
theorem fuelW_le {W:Wd} (h:W.length≤1048576):qj2 W≤4294967296:=by
 unfold qj2;omega
def tyA:Ty := .mk 4 0 [] [.mk 4 false ty0] [] []
theorem qp8:qch [] (operand [] tyA) false 0 4=⟨some (0,false),[0],false⟩:=by
 have hk:(operand [] tyA).of.kind=4:=rfl;have hp:plain [] (operand [] tyA)=operand [] tyA:=qbg (by rw[hk];simp);have hu:qae [] (operand [] tyA)=operand [] tyA:=qdu (by rw[hk];simp);have hl:pl [] (operand [] tyA)=operand [] tyA:=by unfold pl;rw[hp,qgb (by rw[hk];simp)]
 unfold qch;rw[if_neg (by rw[hp,hk];simp),qt8 (by decide) (by rw[hp,hk];simp),hl];have e1:ents [] 0 4 [⟨operand [] tyA,[],false,false⟩] (none,[]) [] = .ok ((some ⟨0,false,false,[0],false⟩,[]),[]):=by
  simp only[ents,entS,hk];rw[if_neg (by simp)];simp only[show ¬ ((4:Int)=1) by decide,if_false];have e2:typS [] 0 4 ⟨operand [] tyA,[],false,false⟩ (none,[]) = .ok (some ⟨0,false,false,[0],false⟩,[]):=by
   unfold typS;simp only[hu];rw[if_pos hk];rfl
  rw[e2]
 show lvs [] false 0 4 (4005+1) _ []=_;simp only[lvs,e1];rfl
end Go.Proofs.YtaibcdkadbemgaaGreatDoor
namespace Go.Proofs.YtaibcdkadbemgaaGreatDoor
open Go Go.RowKit
set_option maxRecDepth 100000
theorem qm4 (s t:ByteArray) (w:World):Calls Tryz.prog 36 #[.string s,.string t] w fun e w'=>
  ∃ b,e = .returned (.pointer (some ⟨b,0,none⟩))∧w'.cell? ⟨b,0,none⟩=some (.string s)∧Below w.heap.size w w':=by
 go_enter Tryz.func36,Tryz.ntmps36
 go_wp2_with fail
 go_ret
 exact⟨_,rfl,by simp,bel⟩
theorem qrc (p n:Int) (w:World) (h:IsNm n) (hp:p=0∨p=1) (hT:Tabs w):
  Calls Tryz.prog 29 #[.int .i64 p,.int .i64 n] w (qa2 (.string (idS p n)) w):=by
 have HT:=hid hT;clear hT;have Hn:=hid h;clear h;have hpp:qbo p=⟨#[if p=0 then 112 else 113]⟩:=rfl;rcases hp with rfl|rfl
 all_goals
  go_enter Tryz.func29,Tryz.ntmps29
  go_wp2_with (first
   | (go_at_call 36;refine(qm4 _ _ _).mono ?_;rintro e w1 ⟨b,rfl,hc,hb⟩;have hz:=zq hb;simp only[zd,qaa] at hz)
   | (go_at_call 24;refine(qbq _ _ Hn.out).mono ?_;rintro e w2 ⟨rfl,hb2⟩;have hz2:=zq hb2;have hc2:=qac.below hb2 _ _ hc)
   | (go_at_call 50;(first|refine(qj5 b 0 _ _ Hn.out (.inl rfl) (by exact HT.out.below bel) (by exact hc2)).mono ?_|refine(qj5 b 1 _ _ Hn.out (.inr rfl) (by exact HT.out.below bel) (by exact hc2)).mono ?_);rintro e w3 ⟨rfl,hb3⟩;have hz3:=zq hb3))
  go_ret
  exact⟨rfl,bel⟩
theorem qpi:qfz [] tyA:=by
 refine⟨fun d hd=>absurd hd (Nat.not_lt_zero _),fun d e h1 h2=>absurd h2 (Nat.not_lt_zero _),?_,fun d hd=>absurd hd (Nat.not_lt_zero _),fun d hd=>absurd hd (Nat.not_lt_zero _),?_⟩
 ·unfold tyA ty0;simp[qam,qby,IsNm]
 ·unfold qcj operand tyA ty0;simp[qdp,qc0,qcr,qjv,qb1]
theorem qmo:qdx [] tyA fun _=>1:=
 ⟨fun _=>zl _,fun d hd=>absurd hd (Nat.not_lt_zero _),fun d hd=>absurd hd (Nat.not_lt_zero _),by decide⟩
theorem wOk_nil (w:World):WOk w [] none 0:=⟨fun k hk=>absurd hk (Nat.not_lt_zero _),zl _,by decide⟩
theorem tyA_at {w:World} {b:Nat} (h:qat w b 0 [.int .i64 4,.bool false,.int .i64 0,.int .i64 0,.slice none 0 0,.slice none 0 0,.slice none 0 0,.slice none 0 0]):
  TyC w tyA [.int .i64 4,.int .i64 0,.slice none 0 0,.slice (some ⟨b,0,none⟩) 1 1,.slice none 0 0,.slice none 0 0]:=by
 unfold tyA;simp only[TyC];refine⟨none,0,some ⟨b,0,none⟩,1,none,0,none,0,rfl,⟨zl _,zl _,zl _,zl _⟩,⟨by omega,by omega⟩,⟨by omega,by omega⟩,?_,?_,?_,?_⟩
 ·simp only[TysR]
 ·simp only[FdsR,FdE,and_true];exact⟨b,0,_,rfl,⟨by omega,by omega⟩,h,qu2 w⟩
 ·simp only[MsR]
 ·simp only[TysR]
theorem qtr (w:World) (hT:Tabs w):Calls Tryz.prog 15 #[] w (qa2 (.bool true) w):=by
 have hB0:∀ O:Obj,Below w.heap.size w (w.alloc O):=fun O=>(zp _ _).alloc (zl _) O;have HL:=hid (qgz [] none 0 (w.alloc (.cells #[.int .i64 4,.bool false,.int .i64 0,.int .i64 0,.slice none 0 0,.slice none 0 0,.slice none 0 0,.slice none 0 0] 51)) tyA qpi (fun d hd=>absurd hd (Nat.not_lt_zero _)) (wOk_nil _) (hT.below (hB0 _)) (by decide) _ qmo _ (tyA_at (Blk.new w 51 _).cells) false 0 4 (.inl rfl) ⟨by omega,by omega⟩);rw[qp8] at HL;have HT:=hid hT;have HB0:=hid hB0;have Hid4:Hid (∀ w1,Below w.heap.size w w1→Calls Tryz.prog 29 #[.int .i64 0,.int .i64 4] w1 (qa2 (.string ⟨#[65]⟩) w1)):=hid fun w1 hb=>qrc 0 4 w1 ⟨by omega,by omega⟩ (.inl rfl) (hT.below hb);clear hT hB0;go_enter Tryz.func15,Tryz.ntmps15
 go_wp2_with (first
  | (go_at_call 9;refine HL.out.mono ?_;rintro e w2 ⟨x,rfl,H2⟩;(simp only[qdz,obI,obM]);have HB2:=hid ((HB0.out _).trans (H2.out.2.mono (HB0.out _).size));have HA2:Hid (∀ O1 O2:Obj,Below w2.heap.size w2 ((w2.alloc O1).alloc O2)):=hid (fun O1 O2=>((zp _ _).alloc (zl _) O1).alloc (by simp) O2);have HR1:=hid (fun(O1 O2:Obj)=>qab (S:=fun _=>False) H2.out.1 (qag.keep (HA2.out O1 O2)) fun _ _ h=>h);have HR2:Hid (∀ O1:Obj,((w2.alloc O1).alloc (.cells #[.int .i64 0] 3)).ownsRow 0 3 1 (.slice (some ⟨w2.heap.size+1,0,none⟩) 1 1) 1 [.int .i64 0]):=hid (fun O1=>by have h:=World.ownsRow_lit (base:=0) (size:=1) (e:=3) (w2.alloc O1) #[.int .i64 0] 1 (Nat.zero_le _) (by decide) rfl;simpa using h))
  | (go_at_call 27;refine(qv0 [0] (by decide) x.1 _ x.2 1 _ (HR1.out _ _) (HR2.out _)).mono ?_;rintro e w3 ⟨rfl,hb3⟩;have HB3:=hid (HB2.out.trans (((HA2.out _ _).trans (hb3.mono (HA2.out _ _).size)).mono HB2.out.size));clear hb3)
  | (go_at_call 29;refine(Hid4.out _ HB3.out).mono ?_;rintro e w4 ⟨rfl,hb4⟩))
 go_ret
 exact⟨rfl,HB3.out.trans (hb4.mono HB3.out.size)⟩
