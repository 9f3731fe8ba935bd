import Derived.Test.YtmfhclggkjjcdaaGreatDoorK46
import Derived.Deep.QuietTactic
import Derived.BigQuiet
set_option linter.all false
set_option maxHeartbeats 2000000
namespace Go.Proofs.YtmfhclggkjjcdaaGreatDoor
open Go Go.RowKit
set_option maxRecDepth 100000
theorem qqv {B:Nat} {a w:World} {n:Nat} (h:Below B a w):Below B a (w.drewN n):=⟨h.os,h.tape,h.output,h.size,h.block⟩
theorem qpw (n:Int) (w:World) (h:IsNm n):Calls Tryz.prog 20 #[.int .i64 n] w fun e w'=>e = .returned (.bool true)∧w'=w:=by
 obtain⟨h1,h2⟩:=h;go_enter Tryz.func20,Tryz.ntmps20
 go_wp2
 go_ret
 exact⟨rfl,rfl⟩
theorem qq6 (n:Int) (w:World) (h:¬ IsNm n):Calls Tryz.prog 20 #[.int .i64 n] w fun e w'=>e = .returned (.bool false)∧w'=w:=by
 unfold IsNm at h;by_cases h1:0≤n
 ·have h2:¬ n<16:=by omega
  go_enter Tryz.func20,Tryz.ntmps20
  go_wp2
  go_ret
  exact⟨rfl,rfl⟩
 ·go_enter Tryz.func20,Tryz.ntmps20
  go_wp2
  go_ret
  exact⟨rfl,rfl⟩
theorem qwc (a:Option Addr) (m c:Nat) (t:Ty) (p n:Int) (w:World) {x1 x2 x3 x4:Option Addr} {d1 d2 d3 d4:Nat} (h0:p<0):
  Calls Tryz.prog 6 #[.slice a m c,.agg #[.int .i64 t.kind,.int .i64 t.num,.slice x1 t.elem.length d1,.slice x2 t.fields.length d2,.slice x3 t.methods.length d3,.slice x4 t.embeds.length d4],.int .i64 p,.int .i64 n] w (qa2 (.bool false) w):=by
 have h0a:decide (0≤p)=false:=by simpa using h0
 clear h0;go_enter Tryz.func6,Tryz.ntmps6
 go_wp2_with fail
 go_quiet (fail)
 go_wp2_with fail
 go_ret
 exact⟨rfl,qqv ((zp _ _).alloc (zl _) _)⟩
theorem qwi (a:Option Addr) (m c:Nat) (t:Ty) (p n:Int) (w:World) {x1 x2 x3 x4:Option Addr} {d1 d2 d3 d4:Nat} (h0:1<p):
  Calls Tryz.prog 6 #[.slice a m c,.agg #[.int .i64 t.kind,.int .i64 t.num,.slice x1 t.elem.length d1,.slice x2 t.fields.length d2,.slice x3 t.methods.length d3,.slice x4 t.embeds.length d4],.int .i64 p,.int .i64 n] w (qa2 (.bool false) w):=by
 have h0a:decide (0≤p)=true:=by simp;omega
 have h1a:decide (p≤1)=false:=by simpa using h0
 clear h0;go_enter Tryz.func6,Tryz.ntmps6
 go_wp2_with fail
 go_quiet (fail)
 go_wp2_with fail
 go_ret
 exact⟨rfl,qqv ((zp _ _).alloc (zl _) _)⟩
theorem qpz (a:Option Addr) (m c:Nat) (t:Ty) (p n:Int) (w:World) {x1 x2 x3 x4:Option Addr} {d1 d2 d3 d4:Nat} (h0:0≤p) (h1:p≤1) (hn:¬ IsNm n):
  Calls Tryz.prog 6 #[.slice a m c,.agg #[.int .i64 t.kind,.int .i64 t.num,.slice x1 t.elem.length d1,.slice x2 t.fields.length d2,.slice x3 t.methods.length d3,.slice x4 t.embeds.length d4],.int .i64 p,.int .i64 n] w (qa2 (.bool false) w):=by
 have h0a:decide (0≤p)=true:=by simpa using h0
 have h1a:decide (p≤1)=true:=by simpa using h1
 have Hn:=hid hn;clear h0 h1 hn;go_enter Tryz.func6,Tryz.ntmps6
 go_wp2_with fail
 go_quiet ((go_at_call 20;exact Calls.quiet_of_same (qq6 _ _ Hn.out)))
 go_wp2_with fail
 go_ret
 exact⟨rfl,qqv ((zp _ _).alloc (zl _) _)⟩
