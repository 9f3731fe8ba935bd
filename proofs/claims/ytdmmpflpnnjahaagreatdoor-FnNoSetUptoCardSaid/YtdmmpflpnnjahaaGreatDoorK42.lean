import Derived.Test.YtdmmpflpnnjahaaGreatDoorK41
import Derived.Deep.QuietTactic
import Derived.BigQuiet
import Derived.Deep.RegionWith
set_option linter.all false
set_option maxHeartbeats 8000000
namespace Go.Proofs.YtdmmpflpnnjahaaGreatDoor
open Go Go.RowKit Go.Proofs.Tryz
set_option maxRecDepth 100000
theorem qqv {B:Nat} {a w:World} {n:Nat} (h:Below B a w):Below B a (w.drewN n):=⟨h.os,h.tape,h.output,h.size,h.block⟩
theorem qpw (n:Int) (w:World) (h:IsNm n):Calls prog 28 #[.int .i64 n] w fun e w'=>e = .returned (.bool true)∧w'=w:=by
 obtain⟨h1,h2⟩:=h;go_enter func28,ntmps28
 go_wp2
 go_ret
 exact⟨rfl,rfl⟩
theorem qq6 (n:Int) (w:World) (h:¬ IsNm n):Calls prog 28 #[.int .i64 n] w fun e w'=>e = .returned (.bool false)∧w'=w:=by
 unfold IsNm at h;by_cases h1:0≤n
 ·have h2:¬ n<16:=by omega
  go_enter func28,ntmps28
  go_wp2
  go_ret
  exact⟨rfl,rfl⟩
 ·go_enter func28,ntmps28
  go_wp2
  go_ret
  exact⟨rfl,rfl⟩
theorem qwc (a:Option Addr) (m c:Nat) (t:Ty) (p n:Int) (w:World) {x1 x2 x3 x4:Option Addr} {d1 d2 d3 d4:Nat} (h0:p<0):
  Calls prog 8 #[.slice a m c,.agg #[.int .i64 t.kind,.int .i64 t.num,.slice x1 t.elem.length d1,.slice x2 t.fields.length d2,.slice x3 t.methods.length d3,.slice x4 t.embeds.length d4],.int .i64 p,.int .i64 n] w (qa2 (.bool false) w):=by
 have h0a:decide (0≤p)=false:=by simpa using h0
 clear h0;go_enter func8,ntmps8
 go_wp2_with fail
 go_quiet (fail)
 go_wp2_with fail
 go_ret
 exact⟨rfl,qqv ((zp _ _).alloc (zl _) _)⟩
theorem qwi (a:Option Addr) (m c:Nat) (t:Ty) (p n:Int) (w:World) {x1 x2 x3 x4:Option Addr} {d1 d2 d3 d4:Nat} (h0:1<p):
  Calls prog 8 #[.slice a m c,.agg #[.int .i64 t.kind,.int .i64 t.num,.slice x1 t.elem.length d1,.slice x2 t.fields.length d2,.slice x3 t.methods.length d3,.slice x4 t.embeds.length d4],.int .i64 p,.int .i64 n] w (qa2 (.bool false) w):=by
 have h0a:decide (0≤p)=true:=by simp;omega
 have h1a:decide (p≤1)=false:=by simpa using h0
 clear h0;go_enter func8,ntmps8
 go_wp2_with fail
 go_quiet (fail)
 go_wp2_with fail
 go_ret
 exact⟨rfl,qqv ((zp _ _).alloc (zl _) _)⟩
theorem qpz (a:Option Addr) (m c:Nat) (t:Ty) (p n:Int) (w:World) {x1 x2 x3 x4:Option Addr} {d1 d2 d3 d4:Nat} (h0:0≤p) (h1:p≤1) (hn:¬ IsNm n):
  Calls prog 8 #[.slice a m c,.agg #[.int .i64 t.kind,.int .i64 t.num,.slice x1 t.elem.length d1,.slice x2 t.fields.length d2,.slice x3 t.methods.length d3,.slice x4 t.embeds.length d4],.int .i64 p,.int .i64 n] w (qa2 (.bool false) w):=by
 have h0a:decide (0≤p)=true:=by simpa using h0
 have h1a:decide (p≤1)=true:=by simpa using h1
 have Hn:=hid hn;clear h0 h1 hn;go_enter func8,ntmps8
 go_wp2_with fail
 go_quiet ((go_at_call 28;exact Calls.quiet_of_same (qq6 _ _ Hn.out)))
 go_wp2_with fail
 go_ret
 exact⟨rfl,qqv ((zp _ _).alloc (zl _) _)⟩
theorem qac.drew {w W:World} (k:qac w W):qac w W.drew:=fun ad v h=>k ad v h
def Asked (W:Wd) (t:Ty) (p n:Int):Prop:=(p=0∨p=1)∧IsNm n∧qqd W t
theorem qvj (W:Wd) (a:Option Addr) (c:Nat) (t:Ty) (cs:List Value) (p n:Int) (w:World) (hW:WOk w W a c) (hb:t.bulk≤1048576) (ht:TyC w t cs):
  Calls prog 8 #[.slice a W.length c,.agg cs.toArray,.int .i64 p,.int .i64 n] w (qb8 (Asked W t p n) w):=by
 obtain⟨x1,d1,x2,d2,x3,d3,x4,d4,rfl,-,-,-,-,-,-,-,htt⟩:=ht.full;by_cases h0:p<0
 ·exact(qwc a _ c t p n w h0).mono fun e w' ⟨he,hb⟩=>⟨_,he,fun h=>by simp at h,hb⟩
 by_cases h1:1<p
 ·exact(qwi a _ c t p n w h1).mono fun e w' ⟨he,hb⟩=>⟨_,he,fun h=>by simp at h,hb⟩
 by_cases hn:IsNm n
 case neg=>exact(qpz a _ c t p n w (by omega) (by omega) hn).mono fun e w' ⟨he,hb⟩=>⟨_,he,fun h=>by simp at h,hb⟩
 have HW:=hid hW;have Htt:=hid htt;have hcap:=hW.cap;have Hn:=hid hn;have Hp:Hid (p=0∨p=1):=hid (by omega);have h0a:decide (0≤p)=true:=by simpa using h0
 have h1a:decide (p≤1)=true:=by simpa using h1
 clear ht htt hW hn h0 h1;have hself:w.heap.size<w.heap.size+1:=zw _;go_enter func8,ntmps8
 go_wp2_with fail
 go_region_with (first
  | (go_at_call 28;refine(qpw _ _ Hn.out).mono ?_;rintro e w' ⟨rfl,rfl⟩)
  | (go_at_call 10;refine(qsu W _ c _ (HW.out.keep (qac.drew (qac.alloc _ _)))).mono ?_;rintro e W3 ⟨a3,c3,rfl,hc3,hwd3,hW3⟩;have Hwd3:=hid (hwd3.keep (qac.show _ _));clear hwd3;have hz3:=zq hW3;(try simp only[zd,qaa] at hz3);obtain⟨hq3,hf3⟩:=qal hW3;(try simp only[zd,qaa] at hq3))
  | (go_at_call 12;refine(qt0 t _ w _ hb Htt.out ((qac.drew (qac.alloc _ _)).trans (qac.below hW3))).mono ?_;rintro e W5 ⟨cs5,rfl,ht5,hW5⟩;obtain⟨f1,p1,f2,p2,f3,p3,f4,p4,rfl,-⟩:=ht5.open;have Ht5:=hid (TyC.keep (qac.show _ _) ht5);clear ht5;have hz5:=zq hW5)
  | (go_at_call 29;refine(fit_any W _ c3 _ ⟨Hwd3.out.keep (qac.below hW5),hc3,HW.out.bulk⟩ t _ _ hb Ht5.out (qac.refl _)).mono ?_;rintro e W7 ⟨b7,rfl,hp7,hW7⟩;have Hp7:=hid hp7;clear hp7))
 all_goals
  go_wp2_with fail
  go_ret
  exact⟨_,rfl,fun hx=>⟨Hp.out,Hn.out,Hp7.out (by simpa using hx)⟩,(((zp _ _).alloc (zl _) _).drew).trans ((hW3.mono (by simp)).trans ((hW5.mono (by omega)).trans (hW7.mono (by omega))))⟩
