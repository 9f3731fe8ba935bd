import Derived.Test.YtmfhclggkjjcdaaGreatDoorL39
import Derived.Deep.QuietTactic
import Derived.BigQuiet
import Derived.Deep.RegionWith
import Derived.Test.YtmfhclggkjjcdaaGreatDoorL24
import Derived.Test.YtmfhclggkjjcdaaGreatDoorL28
import Derived.Test.YtmfhclggkjjcdaaGreatDoorL25
import Derived.Test.YtmfhclggkjjcdaaGreatDoorL29
import Derived.Test.YtmfhclggkjjcdaaGreatDoorL30
set_option linter.all false
set_option maxHeartbeats 8000000
namespace Go.Proofs.YtmfhclggkjjcdaaGreatDoor
open Go Go.RowKit Go.Proofs.Tryz
set_option maxRecDepth 100000
variable {w:World} {r:Rs}
theorem qqv {B:Nat} {a w:World} {n:Nat} (h:Below B a w):Below B a (w.drewN n):=⟨h.os,h.tape,h.output,h.size,h.block⟩
theorem qpw (n:Int) (w:World) (h:IsNm n):Calls prog 20 #[.int .i64 n] w fun e w'=>e = .returned (.bool true)∧w'=w:=by
 obtain⟨h1,h2⟩:=h;go_enter func20,ntmps20
 go_wp2
 go_ret
 exact⟨rfl,rfl⟩
theorem qq6 (n:Int) (w:World) (h:¬ IsNm n):Calls prog 20 #[.int .i64 n] w fun e w'=>e = .returned (.bool false)∧w'=w:=by
 unfold IsNm at h;by_cases h1:0≤n
 ·have h2:¬ n<16:=by omega
  go_enter func20,ntmps20
  go_wp2
  go_ret
  exact⟨rfl,rfl⟩
 ·go_enter func20,ntmps20
  go_wp2
  go_ret
  exact⟨rfl,rfl⟩
theorem qwc (a:Option Addr) (m c:Nat) (t:Ty) (p n:Int) (w:World) {x1 x2 x3 x4:Option Addr} {d1 d2 d3 d4:Nat} (h0:p<0):
  Calls prog 6 #[.slice a m c,.agg #[.int .i64 t.kind,.int .i64 t.num,.slice x1 t.elem.length d1,.slice x2 t.fields.length d2,.slice x3 t.methods.length d3,.slice x4 t.embeds.length d4],.int .i64 p,.int .i64 n] w (qa2 (.bool false) w):=by
 have h0a:decide (0≤p)=false:=by simpa using h0
 clear h0;go_enter func6,ntmps6
 go_wp2_with fail
 go_quiet (fail)
 go_wp2_with fail
 go_ret
 exact⟨rfl,qqv ((zp _ _).alloc (zl _) _)⟩
theorem qwi (a:Option Addr) (m c:Nat) (t:Ty) (p n:Int) (w:World) {x1 x2 x3 x4:Option Addr} {d1 d2 d3 d4:Nat} (h0:1<p):
  Calls prog 6 #[.slice a m c,.agg #[.int .i64 t.kind,.int .i64 t.num,.slice x1 t.elem.length d1,.slice x2 t.fields.length d2,.slice x3 t.methods.length d3,.slice x4 t.embeds.length d4],.int .i64 p,.int .i64 n] w (qa2 (.bool false) w):=by
 have h0a:decide (0≤p)=true:=by simp;omega
 have h1a:decide (p≤1)=false:=by simpa using h0
 clear h0;go_enter func6,ntmps6
 go_wp2_with fail
 go_quiet (fail)
 go_wp2_with fail
 go_ret
 exact⟨rfl,qqv ((zp _ _).alloc (zl _) _)⟩
theorem qpz (a:Option Addr) (m c:Nat) (t:Ty) (p n:Int) (w:World) {x1 x2 x3 x4:Option Addr} {d1 d2 d3 d4:Nat} (h0:0≤p) (h1:p≤1) (hn:¬ IsNm n):
  Calls prog 6 #[.slice a m c,.agg #[.int .i64 t.kind,.int .i64 t.num,.slice x1 t.elem.length d1,.slice x2 t.fields.length d2,.slice x3 t.methods.length d3,.slice x4 t.embeds.length d4],.int .i64 p,.int .i64 n] w (qa2 (.bool false) w):=by
 have h0a:decide (0≤p)=true:=by simpa using h0
 have h1a:decide (p≤1)=true:=by simpa using h1
 have Hn:=hid hn;clear h0 h1 hn;go_enter func6,ntmps6
 go_wp2_with fail
 go_quiet ((go_at_call 20;exact Calls.quiet_of_same (qq6 _ _ Hn.out)))
 go_wp2_with fail
 go_ret
 exact⟨rfl,qqv ((zp _ _).alloc (zl _) _)⟩
theorem qac.drew {w W:World} (k:qac w W):qac w W.drew:=fun ad v h=>k ad v h
def Asked (W:Wd) (t:Ty) (p n:Int):Prop:=(p=0∨p=1)∧IsNm n∧qqd W t
theorem qvj (W:Wd) (a:Option Addr) (c:Nat) (t:Ty) (cs:List Value) (p n:Int) (w:World) (hW:WOk w W a c) (hb:t.bulk≤1048576) (ht:TyC w t cs):
  Calls prog 6 #[.slice a W.length c,.agg cs.toArray,.int .i64 p,.int .i64 n] w (qb8 (Asked W t p n) w):=by
 obtain⟨x1,d1,x2,d2,x3,d3,x4,d4,rfl,-,-,-,-,-,-,-,htt⟩:=ht.full;by_cases h0:p<0
 ·exact(qwc a _ c t p n w h0).mono fun e w' ⟨he,hb⟩=>⟨_,he,fun h=>by simp at h,hb⟩
 by_cases h1:1<p
 ·exact(qwi a _ c t p n w h1).mono fun e w' ⟨he,hb⟩=>⟨_,he,fun h=>by simp at h,hb⟩
 by_cases hn:IsNm n
 case neg=>exact(qpz a _ c t p n w (by omega) (by omega) hn).mono fun e w' ⟨he,hb⟩=>⟨_,he,fun h=>by simp at h,hb⟩
 have HW:=hid hW;have Htt:=hid htt;have hcap:=hW.cap;have Hn:=hid hn;have Hp:Hid (p=0∨p=1):=hid (by omega);have h0a:decide (0≤p)=true:=by simpa using h0
 have h1a:decide (p≤1)=true:=by simpa using h1
 clear ht htt hW hn h0 h1;have hself:w.heap.size<w.heap.size+1:=zw _;go_enter func6,ntmps6
 go_wp2_with fail
 go_region_with (first
  | (go_at_call 20;refine(qpw _ _ Hn.out).mono ?_;rintro e w' ⟨rfl,rfl⟩)
  | (go_at_call 13;refine(qsu W _ c _ (HW.out.keep (qac.drew (qac.alloc _ _)))).mono ?_;rintro e W3 ⟨a3,c3,rfl,hc3,hwd3,hW3⟩;have Hwd3:=hid (hwd3.keep (qac.show _ _));clear hwd3;have hz3:=zq hW3;(try simp only[zd,qaa] at hz3);obtain⟨hq3,hf3⟩:=qal hW3;(try simp only[zd,qaa] at hq3))
  | (go_at_call 22;refine(qt0 t _ w _ hb Htt.out ((qac.drew (qac.alloc _ _)).trans (qac.below hW3))).mono ?_;rintro e W5 ⟨cs5,rfl,ht5,hW5⟩;obtain⟨f1,p1,f2,p2,f3,p3,f4,p4,rfl,-⟩:=ht5.open;have Ht5:=hid (TyC.keep (qac.show _ _) ht5);clear ht5;have hz5:=zq hW5)
  | (go_at_call 21;refine(fit_any W _ c3 _ ⟨Hwd3.out.keep (qac.below hW5),hc3,HW.out.bulk⟩ t _ _ hb Ht5.out (qac.refl _)).mono ?_;rintro e W7 ⟨b7,rfl,hp7,hW7⟩;have Hp7:=hid hp7;clear hp7))
 all_goals
  go_wp2_with fail
  go_ret
  exact⟨_,rfl,fun hx=>⟨Hp.out,Hn.out,Hp7.out (by simpa using hx)⟩,(((zp _ _).alloc (zl _) _).drew).trans ((hW3.mono (by simp)).trans ((hW5.mono (by omega)).trans (hW7.mono (by omega))))⟩
theorem qqi {a:Option Addr} {c:Nat} {l:List Nat} (h:w.ownsRow 0 3 1 (.slice a l.length c) l.length (qbh l)) {k:Nat} (hk:k<l.length):
  ∃ g,a=some ⟨g,0,none⟩∧∀ wr,Below w.heap.size w wr→wr.cell? ⟨g,k,none⟩=some (.int .i64 (l.getD k 0:Nat)):=by
 obtain⟨_,_,he,hcap,h1,h2⟩:=qak h;cases he;cases a with
 | none=>have:=(h2 rfl).1;omega
 | some ad=>
  obtain⟨g,rfl,hg,-,hc⟩:=h1 ad rfl;refine⟨g,rfl,fun wr hb => ?_⟩;have:=hc k (.int .i64 (l.getD k 0:Nat)) (by simp[qbh,zv,zr hk]);rw[Nat.zero_add] at this;exact qac.below hb _ _ this
theorem qv0 (l:List Nat) (hl:l.length≤4294967296) (a a':Option Addr) (c c':Nat) (w:World) (h1:w.ownsRow 0 3 1 (.slice a l.length c) l.length (qbh l)) (h2:w.ownsRow 0 3 1 (.slice a' l.length c') l.length (qbh l)):
  Calls prog 29 #[.slice a l.length c,.slice a' l.length c'] w (qa2 (.bool true) w):=by
 have HG1:=hid fun k hk=>qqi h1 (k:=k) hk;have HG2:=hid fun k hk=>qqi h2 (k:=k) hk;obtain⟨n,hn⟩:∃ n,n=l.length:=⟨_,rfl⟩;rw[← hn] at hl HG1 HG2 ⊢;clear h1 h2 hn;go_enter func29,ntmps29
 go_wp2_with fail
 go_loopw [13] (fun jv wr=>∃ k:Nat,k≤n∧jv = .int .i64 k∧Hid (Below w.heap.size w wr)) (fun jv _=>n - (intOf jv).toNat)
 case atStart=>exact⟨0,Nat.zero_le _,rfl,hid (zp _ _)⟩
 case round=>
  obtain⟨k,hk,rfl,HB⟩:=hrel;by_cases hlt:k<n
  ·have hlt':(k:Int)<(n:Int):=by omega
   refine(HG1.out k hlt).elim fun g r1=>(HG2.out k hlt).elim fun g' r2 => ?_;have e1:=r1.1;have e2:=r2.1;have c1:=r1.2 _ HB.out;have c2:=r2.2 _ HB.out;clear r1 r2 HG1 HG2;subst e1 e2
   go_wp2_with fail
   go_quiet (fail)
   go_wp2_with fail
   go_roundw
   case rel=>exact⟨k+1,hlt,by go_num,hid (qqv HB.out)⟩
   case measure=>simp[intOf];omega
  ·obtain rfl:k=n:=by omega
   go_wp2_with fail
   go_ret
   exact⟨rfl,HB.out⟩
def ansV (o:Int) (m:Bool) (a:Option Addr) (n c:Nat) (ind:Bool):Value := .agg #[.int .i64 o,.bool m,.slice a n c,.bool ind]
theorem same_yes (o:Int) (m ind:Bool) (l:List Nat) (hl:l.length≤4294967296) (a a':Option Addr) (c c':Nat) (w:World) (h1:w.ownsRow 0 3 1 (.slice a l.length c) l.length (qbh l)) (h2:w.ownsRow 0 3 1 (.slice a' l.length c') l.length (qbh l)):
  Calls prog 12 #[ansV o m a l.length c ind,ansV o m a' l.length c' ind] w (qa2 (.bool true) w):=by
 have HI:Hid (∀ w',Below w.heap.size w w'→Calls prog 29 #[.slice a l.length c,.slice a' l.length c'] w' (qa2 (.bool true) w')):=hid fun w' hb=>
  qv0 l hl a a' c c' w' (qab (S:=fun _=>False) h1 (qag.keep hb) fun _ _ h=>h) (qab (S:=fun _=>False) h2 (qag.keep hb) fun _ _ h=>h)
 clear h1 h2;unfold ansV;go_enter func12,ntmps12
 go_wp2_with (go_at_call 29;refine(HI.out _ (((zp _ _).alloc (zl _) _).alloc (by simp) _)).mono ?_;rintro e w2 ⟨rfl,hb2⟩)
 go_ret
 exact⟨rfl,(((zp _ _).alloc (zl _) _).alloc (by simp) _).trans (hb2.mono (by simp;omega))⟩
theorem qu7 (a:Option Addr) (c:Nat) (w:World):Calls prog 19 #[ansV (-1) false a 0 c false] w (qa2 (.bool true) w):=by
 unfold ansV;go_enter func19,ntmps19
 go_wp2_with fail
 go_ret
 exact⟨rfl,(zp _ _).alloc (zl _) _⟩
theorem qu2 (w:World):TyC w ty0 [.int .i64 0,.int .i64 0,.slice none 0 0,.slice none 0 0,.slice none 0 0,.slice none 0 0]:=by
 unfold ty0;simp only[TyC];refine⟨none,0,none,0,none,0,none,0,rfl,?_,?_,?_,?_,?_,?_,?_⟩ <;> first|exact⟨zl _,zl _,zl _,zl _⟩|exact⟨by omega,by omega⟩|simp only[TysR]|simp only[FdsR]|simp only[MsR]
theorem qfz.zero {W:Wd} {t:Ty} (h:qfz W t):qfz W ty0:=by
 refine⟨h.names,h.distinct,?_,h.valid,h.declared,?_⟩
 ·unfold ty0;simp[qam]
 ·unfold qcj operand ty0;simp[qdp,qc0,qcr,qjv,qb1]
theorem qm4 (s t:ByteArray) (w:World):Calls prog 39 #[.string s,.string t] w fun e w'=>
  ∃ b,e = .returned (.pointer (some ⟨b,0,none⟩))∧w'.cell? ⟨b,0,none⟩=some (.string s)∧Below w.heap.size w w':=by
 go_enter func39,ntmps39
 go_wp2_with fail
 go_ret
 exact⟨_,rfl,by simp,bel⟩
theorem qrc (p n:Int) (w:World) (h:IsNm n) (hp:p=0∨p=1) (hT:Tabs w):
  Calls prog 31 #[.int .i64 p,.int .i64 n] w (qa2 (.string (idS p n)) w):=by
 have HT:=hid hT;clear hT;have Hn:=hid h;clear h;have hpp:qbo p=⟨#[if p=0 then 112 else 113]⟩:=rfl;rcases hp with rfl|rfl
 all_goals
  go_enter func31,ntmps31
  go_wp2_with (first
   | (go_at_call 39;refine(qm4 _ _ _).mono ?_;rintro e w1 ⟨b,rfl,hc,hb⟩;have hz:=zq hb;simp only[zd,qaa] at hz)
   | (go_at_call 26;refine(qbq _ _ Hn.out).mono ?_;rintro e w2 ⟨rfl,hb2⟩;have hz2:=zq hb2;have hc2:=qac.below hb2 _ _ hc)
   | (go_at_call 53;(first|refine(qj5 b 0 _ _ Hn.out (.inl rfl) (by exact HT.out.below bel) (by exact hc2)).mono ?_|refine(qj5 b 1 _ _ Hn.out (.inr rfl) (by exact HT.out.below bel) (by exact hc2)).mono ?_);rintro e w3 ⟨rfl,hb3⟩;have hz3:=zq hb3))
  go_ret
  exact⟨rfl,bel⟩
theorem qpi:qfz [] tyA:=by
 refine⟨fun d hd=>absurd hd (Nat.not_lt_zero _),fun d e h1 h2=>absurd h2 (Nat.not_lt_zero _),?_,fun d hd=>absurd hd (Nat.not_lt_zero _),fun d hd=>absurd hd (Nat.not_lt_zero _),?_⟩
 ·unfold tyA ty0;simp[qam,qby,IsNm]
 ·unfold qcj operand tyA ty0;simp[qdp,qc0,qcr,qjv,qb1]
theorem qmo:qdx [] tyA fun _=>1:=
 ⟨fun _=>zl _,fun d hd=>absurd hd (Nat.not_lt_zero _),fun d hd=>absurd hd (Nat.not_lt_zero _),by decide⟩
theorem wOk_nil (w:World):WOk w [] none 0:=⟨fun k hk=>absurd hk (Nat.not_lt_zero _),zl _,by decide⟩
theorem tyA_at {b:Nat} (h:qat w b 0 [.int .i64 4,.bool false,.int .i64 0,.int .i64 0,.slice none 0 0,.slice none 0 0,.slice none 0 0,.slice none 0 0]):
  TyC w tyA [.int .i64 4,.int .i64 0,.slice none 0 0,.slice (some ⟨b,0,none⟩) 1 1,.slice none 0 0,.slice none 0 0]:=by
 unfold tyA;simp only[TyC];refine⟨none,0,some ⟨b,0,none⟩,1,none,0,none,0,rfl,⟨zl _,zl _,zl _,zl _⟩,⟨by omega,by omega⟩,⟨by omega,by omega⟩,?_,?_,?_,?_⟩
 ·simp only[TysR]
 ·simp only[FdsR,FdE,and_true];exact⟨b,0,_,rfl,⟨by omega,by omega⟩,h,qu2 w⟩
 ·simp only[MsR]
 ·simp only[TysR]
theorem qtr (w:World) (hT:Tabs w):Calls prog 16 #[] w (qa2 (.bool true) w):=by
 have hB0:∀ O:Obj,Below w.heap.size w (w.alloc O):=fun O=>(zp _ _).alloc (zl _) O;have HL:=hid (qgz [] none 0 (w.alloc (.cells #[.int .i64 4,.bool false,.int .i64 0,.int .i64 0,.slice none 0 0,.slice none 0 0,.slice none 0 0,.slice none 0 0] 60)) tyA qpi (fun d hd=>absurd hd (Nat.not_lt_zero _)) (wOk_nil _) (hT.below (hB0 _)) (by decide) _ qmo _ (tyA_at (Blk.new w 60 _).cells) false 0 4 (.inl rfl) ⟨by omega,by omega⟩);rw[qp8] at HL;have HT:=hid hT;have HB0:=hid hB0;have Hid4:Hid (∀ w1,Below w.heap.size w w1→Calls prog 31 #[.int .i64 0,.int .i64 4] w1 (qa2 (.string ⟨#[65]⟩) w1)):=hid fun w1 hb=>qrc 0 4 w1 ⟨by omega,by omega⟩ (.inl rfl) (hT.below hb);clear hT hB0;go_enter func16,ntmps16
 go_wp2_with (first
  | (go_at_call 10;refine HL.out.mono ?_;rintro e w2 ⟨x,rfl,H2⟩;(simp only[qdz,obI,obM]);have HB2:=hid ((HB0.out _).trans (H2.out.2.mono (HB0.out _).size));have HA2:Hid (∀ O1 O2:Obj,Below w2.heap.size w2 ((w2.alloc O1).alloc O2)):=hid (fun O1 O2=>((zp _ _).alloc (zl _) O1).alloc (by simp) O2);have HR1:=hid (fun(O1 O2:Obj)=>qab (S:=fun _=>False) H2.out.1 (qag.keep (HA2.out O1 O2)) fun _ _ h=>h);have HR2:Hid (∀ O1:Obj,((w2.alloc O1).alloc (.cells #[.int .i64 0] 3)).ownsRow 0 3 1 (.slice (some ⟨w2.heap.size+1,0,none⟩) 1 1) 1 [.int .i64 0]):=hid (fun O1=>by have h:=World.ownsRow_lit (base:=0) (size:=1) (e:=3) (w2.alloc O1) #[.int .i64 0] 1 (Nat.zero_le _) (by decide) rfl;simpa using h))
  | (go_at_call 29;refine(qv0 [0] (by decide) x.1 _ x.2 1 _ (HR1.out _ _) (HR2.out _)).mono ?_;rintro e w3 ⟨rfl,hb3⟩;have HB3:=hid (HB2.out.trans (((HA2.out _ _).trans (hb3.mono (HA2.out _ _).size)).mono HB2.out.size));clear hb3)
  | (go_at_call 31;refine(Hid4.out _ HB3.out).mono ?_;rintro e w4 ⟨rfl,hb4⟩))
 go_ret
 exact⟨rfl,HB3.out.trans (hb4.mono HB3.out.size)⟩
theorem qfz.nm {W:Wd} {t:Ty} (h:qfz W t):NmOk W:=fun d hd=>⟨(h.names d hd).1,(h.names d hd).2.1⟩
theorem qs2 (W:Wd) (a:Option Addr) (c:Nat) (w:World) (t:Ty) (hA:qqd W t) (hW:WOk w W a c) (hT:Tabs w) (htb:t.bulk≤1048576) (cs:List Value) (ht:TyC w t cs) (addr:Bool) (q m:Int) (hq:q=0∨q=1) (hm:IsNm m):
  Calls prog 10 #[.slice a W.length c,.agg cs.toArray,.bool addr,.int .i64 q,.int .i64 m] w (qdq (qch W (operand W t) addr q m) w):=by
 obtain⟨hF,P,hS,-⟩:=hA;exact qgz W a c w t hF hF.nm hW hT htb P hS cs ht addr q m hq hm
def AnsPost (o:Int) (m:Bool) (ix:List Nat) (ind:Bool) (w:World) (e:Ending) (w':World):Prop:=∃ x:Option Addr×Nat,e = .returned (.agg #[.int .i64 o,.bool m,.slice x.1 ix.length x.2,.bool ind])∧Hid (w'.ownsRow 0 3 1 (.slice x.1 ix.length x.2) ix.length (qbh ix)∧Below w.heap.size w w')
theorem qdq.ans {w w':World} {e:Ending} (h:qdq r w e w'):AnsPost (obI r) (obM r) r.ix r.ind w e w':=h
theorem obI_none (h:r.ob=none):obI r = -1:=by unfold obI;rw[h]
theorem obI_some {k:Nat} {m:Bool} (h:r.ob=some (k,m)):obI r=k:=by unfold obI;rw[h]
theorem obI_neg {r:Rs}:obI r<0↔r.ob=none:=by
 cases h:r.ob with
 | none=>simp[obI_none h]
 | some x=>obtain⟨k,m⟩:=x;simp[obI_some h]
