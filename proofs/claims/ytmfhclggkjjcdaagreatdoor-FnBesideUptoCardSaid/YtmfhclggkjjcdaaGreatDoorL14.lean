import Derived.Test.YtmfhclggkjjcdaaGreatDoorL11
import Derived.Test.YtmfhclggkjjcdaaGreatDoorL13
import Derived.Test.YtmfhclggkjjcdaaGreatDoorL08
import Derived.Test.YtmfhclggkjjcdaaGreatDoorL04
import Derived.Shelf.Abstract
import Derived.Test.YtmfhclggkjjcdaaGreatDoorL10
import Derived.Test.YtmfhclggkjjcdaaGreatDoorL09
import Derived.LaidEqlPtr
set_option linter.all false
set_option maxHeartbeats 2000000
namespace Go.Proofs.YtmfhclggkjjcdaaGreatDoor
open Go Go.RowKit Go.Proofs.Tryz
theorem qam.kinds {W:Wd} {d:Int} {val:Bool} {t:Ty} (h:qam W d val t):t.kind=0∨t.kind=1∨t.kind=2∨t.kind=3∨t.kind=4∨t.kind=5:=by
 cases t;simp only[qam,Ty.kind] at *;rcases h with ⟨h,-⟩|⟨h,-⟩|⟨h,-⟩|⟨h,-⟩|⟨h,-⟩ <;> omega
theorem btyp_go (F:Fix) (a:Option Addr) (c:Nat) (w0:World) (hN:NmOk F.W) (hW:WOk w0 F.W a c) (hT:Tabs w0) (n:Nat) (hn:n≤1048576):qs6 F a c w0 n:=by
 induction n with
 | zero=>intro u cs w s d val at_ p hb;have:=qd3 u;omega
 | succ n ih=>
  intro u cs w s d val at_ p hb ht hP;have ih:=ih (by omega);rcases hP.formed.kinds with hk|hk|hk|hk|hk|hk
  ·exact qsa F a c w0 w s d val u cs at_ p hk ht hP
  ·exact qsl F a c w0 w s d val u cs at_ p hk ht hP
  ·exact qww F a c w0 w n ih s d val u cs at_ p hb hk ht hP
  ·exact qro F a c w0 w n ih s d val u cs at_ p hb hk ht hP
  ·exact qpe F a c w0 w n hN hW hT ih s d val u cs at_ p hb (by omega) hk ht hP
  ·exact qq7 F a c w0 w n hT ih s d val u cs at_ p hb (by omega) hk ht hP
theorem qma (F:Fix) (a:Option Addr) (c:Nat) (w0:World) (hN:NmOk F.W) (hW:WOk w0 F.W a c) (hT:Tabs w0) (t:Ty) (cs:List Value) (w:World) (s:St) (d:Int) (val:Bool) (at_:Nat) (p:Int) (hb:t.bulk≤1048576) (ht:TyC w0 t cs) (hP:BPre F w0 s w d val t at_ p):
  Calls prog 44 #[.pointer (some ⟨F.bb,0,none⟩),.slice a F.W.length c,.int .i64 p,.agg cs.toArray,.int .i64 at_] w (qh4 F s w t at_ p):=
 btyp_go F a c w0 hN hW hT 1048576 (zl _) t cs w s d val at_ p hb ht hP
open Go.Shelf
set_option maxRecDepth 100000
theorem qv9 (a : Addr) (w : World) : (method 511 156 (.pointer (some a)) "Underlying").run prog w = .ok (238, .pointer (some a)) w := by kernel_rfl
theorem um_ptr (a : Addr) (w : World) : (method 511 145 (.pointer (some a)) "Underlying").run prog w = .ok (232, .pointer (some a)) w := by kernel_rfl
theorem qvw (a : Addr) (w : World) : (method 511 147 (.pointer (some a)) "Underlying").run prog w = .ok (234, .pointer (some a)) w := by kernel_rfl
theorem qui (a : Addr) (w : World) : (method 511 153 (.pointer (some a)) "Underlying").run prog w = .ok (236, .pointer (some a)) w := by kernel_rfl
theorem qu5 (a : Addr) (w : World) : (method 511 112 (.pointer (some a)) "Underlying").run prog w = .ok (230, .pointer (some a)) w := by kernel_rfl
theorem qvu (a : Addr) (w : World) : (method 511 98 (.pointer (some a)) "Underlying").run prog w = .ok (83, .pointer (some a)) w := by kernel_rfl
theorem quz (a : Addr) (w : World) : (method 511 103 (.pointer (some a)) "Underlying").run prog w = .ok (228, .pointer (some a)) w := by kernel_rfl
theorem qwp (a:Addr) (w:World):Calls prog 238 #[.pointer (some a)] w fun e w'=>e = .returned (.iface 156 (.pointer (some a)))∧w'=w:=by
 go_enter func238,ntmps238
 go_wp2_with fail
 go_ret
 exact⟨rfl,rfl⟩
theorem uc_ptr (a:Addr) (w:World):Calls prog 232 #[.pointer (some a)] w fun e w'=>e = .returned (.iface 145 (.pointer (some a)))∧w'=w:=by
 go_enter func232,ntmps232
 go_wp2_with fail
 go_ret
 exact⟨rfl,rfl⟩
theorem qvl (a:Addr) (w:World):Calls prog 234 #[.pointer (some a)] w fun e w'=>e = .returned (.iface 147 (.pointer (some a)))∧w'=w:=by
 go_enter func234,ntmps234
 go_wp2_with fail
 go_ret
 exact⟨rfl,rfl⟩
theorem qur (a:Addr) (w:World):Calls prog 236 #[.pointer (some a)] w fun e w'=>e = .returned (.iface 153 (.pointer (some a)))∧w'=w:=by
 go_enter func236,ntmps236
 go_wp2_with fail
 go_ret
 exact⟨rfl,rfl⟩
theorem qu4 (a:Addr) (w:World):Calls prog 230 #[.pointer (some a)] w fun e w'=>e = .returned (.iface 112 (.pointer (some a)))∧w'=w:=by
 go_enter func230,ntmps230
 go_wp2_with fail
 go_ret
 exact⟨rfl,rfl⟩
def qi6 (v:Value):Prop:=∃ T x,v = .iface T (.pointer (some x))∧(T=156∨T=145∨T=147∨T=153∨T=112)
def NamedU (w:World) (v u:Value):Prop:=∃ (b:Nat) (a0 a1 a2 a8 a9:Value) (R U:TypeId) (rx ux:Option Addr),v = .iface 98 (.pointer (some ⟨b,0,none⟩))∧u = .iface U (.pointer ux)∧Blk w b 140 [a0,a1,a2,.int .i32 0,.int .u32 0,.int .u32 15,.iface R (.pointer rx),.iface U (.pointer ux),a8,a9]
def qg3 (w:World) (v u:Value):Prop:=qi6 v∧u=v∨NamedU w v u
def qf7 (w:World) (v u:Value):Prop:=qg3 w v u∨∃ (al:Nat) (v' a0 a1 a2:Value),v = .iface 103 (.pointer (some ⟨al,0,none⟩))∧Blk w al 182 [a0,a1,a2,v']∧qg3 w v' u
def qus (w : World) (v u : Value) : Prop := ∃ T x f, v = .iface T (.pointer (some x)) ∧ (∀ w, (method 511 T (.pointer (some x)) "Underlying").run prog w = .ok (f, .pointer (some x)) w) ∧ (∀ args w, (callFunc f args).run prog w = .ok (.enter f args) w) ∧
 Calls prog f #[.pointer (some x)] w fun e w'=>e = .returned u∧w'=w
theorem qlr (w:World) (v u:Value) (h:qg3 w v u):qus w v u∧qgl v:=by
 rcases h with ⟨⟨T,x,rfl,hT⟩,rfl⟩|⟨b,a0,a1,a2,a8,a9,R,U,rx,ux,rfl,rfl,hb⟩
 ·rcases hT with rfl|rfl|rfl|rfl|rfl
  ·exact⟨⟨_,x,238,rfl,qv9 x,enters_of func238 (by kernel_rfl) rfl,qwp x w⟩,_,x,rfl,by decide⟩
  ·exact⟨⟨_,x,232,rfl,um_ptr x,enters_of func232 (by kernel_rfl) rfl,uc_ptr x w⟩,_,x,rfl,by decide⟩
  ·exact⟨⟨_,x,234,rfl,qvw x,enters_of func234 (by kernel_rfl) rfl,qvl x w⟩,_,x,rfl,by decide⟩
  ·exact⟨⟨_,x,236,rfl,qui x,enters_of func236 (by kernel_rfl) rfl,qur x w⟩,_,x,rfl,by decide⟩
  ·exact⟨⟨_,x,230,rfl,qu5 x,enters_of func230 (by kernel_rfl) rfl,qu4 x w⟩,_,x,rfl,by decide⟩
 ·exact⟨⟨_,_,83,rfl,qvu _,enters_of func83 (by kernel_rfl) rfl,qg2 b w _ a0 a1 a2 a8 a9 R U rx ux hb⟩,_,_,rfl,by decide⟩
theorem qkn (al:Nat) (v' u:Value) (w:World) (hc:w.cell? ⟨al,3,none⟩=some v') (h:qg3 w v' u):Calls prog 228 #[.pointer (some ⟨al,0,none⟩)] w fun e w'=>e = .returned u∧w'=w:=by
 obtain⟨⟨T,x,f,rfl,hm,he,hcall⟩,hna⟩:=qlr w v' u h;have Hc:=hid hcall;have Hn:=hid hna;clear h hcall hna;go_enter func228,ntmps228
 go_wp2_with (first
  | (go_at_call 87;refine(qhn al _ Hn.out _ hc).mono ?_;rintro e w' ⟨rfl,rfl⟩)
  | (go_at_fn f;refine Hc.out.mono ?_;rintro e w' ⟨rfl,rfl⟩))
 go_ret
 exact⟨rfl,rfl⟩
theorem qf9 (w:World) (v u:Value) (h:qf7 w v u):qus w v u:=by
 rcases h with h|⟨al,v',a0,a1,a2,rfl,hb,h⟩
 ·exact(qlr w v u h).1
 ·exact⟨_,_,228,rfl,quz _,enters_of func228 (by kernel_rfl) rfl,qkn al v' u w (by rw[hb.cell];rfl) h⟩
theorem qg3.apart {S:Nat→Prop} {w w':World} {v u:Value} (h:qg3 w v u) (ha:qag S w w') (hs:∀ b cs,Blk w b 140 cs→¬ S b):qg3 w' v u:=by
 rcases h with h|⟨b,a0,a1,a2,a8,a9,R,U,rx,ux,e1,e2,hb⟩
 ·exact .inl h
 ·exact .inr ⟨b,a0,a1,a2,a8,a9,R,U,rx,ux,e1,e2,hb.apart ha (hs _ _ hb)⟩
theorem qf7.apart {S:Nat→Prop} {w w':World} {v u:Value} (h:qf7 w v u) (ha:qag S w w') (hs:∀ b T cs,Blk w b T cs→T=140∨T=182→¬ S b):qf7 w' v u:=by
 rcases h with h|⟨al,v',a0,a1,a2,e1,hb,h⟩
 ·exact .inl (h.apart ha fun b cs hb=>hs b _ cs hb (.inl rfl))
 ·exact .inr ⟨al,v',a0,a1,a2,e1,hb.apart ha (hs _ _ _ hb (.inr rfl)),h.apart ha fun b cs hb=>hs b _ cs hb (.inl rfl)⟩
theorem Tryz.infoPT:(prog.info? 273).map (fun i=>(i.zero,i.size,i.bytes))=some (some (.pointer none),1,8):=by kernel_rfl
theorem AllV.cells {w:World} {v:Value} (h:AllV w v):∃ tl c te,v = .slice (some ⟨tl,0,none⟩) 1 c∧1≤c∧w.cell? ⟨tl,0,none⟩=some (.pointer (some ⟨te,0,none⟩))∧w.cell? ⟨te,0,none⟩=some (.bool false)∧w.cell? ⟨te,1,none⟩=some .nilIface:=by
 obtain⟨tl,c,te,cs,e,h1,h2,h3⟩:=h;exact⟨tl,c,te,e,h1,h2.cell 0,h3.cell 0,h3.cell 1⟩
theorem qf5 (tl te c:Nat) (w:World) (hc:1≤c) (h:w.cell? ⟨tl,0,none⟩=some (.pointer (some ⟨te,0,none⟩))):Calls prog 187 #[.slice (some ⟨tl,0,none⟩) 1 c] w fun e w'=>e = .returned (.bool false)∧w'=w:=by
 go_enter func187,ntmps187
 go_wp2_with fail
 go_loopw [7] (fun j wr=>j = .int .i64 0∧wr=w) (fun j _=>0)
 case atStart=>exact⟨rfl,rfl⟩
 case round=>
  obtain⟨rfl,rfl⟩:=hrel
  go_wp2_with fail
  go_ret
  exact⟨rfl,rfl⟩
theorem qmt (t1 t2:Nat) (w:World) (h:w.cell? ⟨t1,1,none⟩=some .nilIface):Calls prog 188 #[.pointer (some ⟨t1,0,none⟩),.pointer (some ⟨t2,0,none⟩)] w fun e w'=>e = .returned (.pointer (some ⟨t2,0,none⟩))∧w'=w:=by
 have hl:=zj w _ h;simp only at hl;go_enter func188,ntmps188
 go_wp2_with fail
 go_ret
 exact⟨rfl,rfl⟩
theorem Tryz.infoBo:(prog.info? 4).map (fun i=>(i.zero,i.size,i.bytes))=some (some (.bool false),1,1):=by kernel_rfl
theorem qrs (w:World):(Instr.makeSlice 383 (.int .i64 1) (.int .i64 1)).run prog w = .ok (.slice (some ⟨w.heap.size,0,none⟩) 1 1) (w.alloc (.cells #[.bool false] 4)):=by
 obtain⟨i0,hi,hz0,hz1,hz2⟩:=info_parts Tryz.infoBo;have h:=run_make (P:=prog) w 383 4 i0 _ underlying383 hi hz0 .i64 .i64 1 1 (by omega) (by omega) (by rw[hz2];omega) (by omega);rw[h];simp only[hz1,Value.cells,qd0];rfl
theorem qvq {w:World} {te rc:Nat} {ra:Option Addr} (h:w.ownsRow 0 273 1 (.slice ra (0+1) rc) (0+1) ([]++[.pointer (some ⟨te,0,none⟩)])) (ht:Blk w te 275 [.bool false,.nilIface]):AllV w (.slice ra 1 rc):=by
 obtain⟨-,⟨he,h0⟩|⟨g,cap,cur,he,-,hb,h1,-,h3,h4⟩⟩:=h
 ·omega
 ·cases he;have hc1:cur.toList = .pointer (some ⟨te,0,none⟩)::cur.toList.drop 1:=by
   have:=List.take_append_drop 1 cur.toList;rw[← this];simp only[Nat.zero_add,Nat.one_mul,Nat.mul_one,List.nil_append] at h4;rw[h4];simp
  exact⟨g,_,te,cur.toList.drop 1,rfl,by omega,by rw[← hc1];unfold Blk;simpa using hb,ht⟩
theorem qwn (tl te c:Nat) (w:World) (hc:1≤c) (h0:w.cell? ⟨tl,0,none⟩=some (.pointer (some ⟨te,0,none⟩))) (hte:Blk w te 275 [.bool false,.nilIface]):
  Calls prog 186 #[.slice (some ⟨tl,0,none⟩) 1 c] w fun e w'=>∃ v,e = .returned v∧AllV w' v∧Below w.heap.size w w':=by
 have hmk:=qrs;have hl:=zj w _ h0;simp only at hl;have hl1:tl<w.heap.size+1:=by omega
 have Hte:=hid hte;go_enter func186,ntmps186
 go_wp2_with fail
 have hbb:=(Blk.new w 4 [.bool false]).cell 0;simp only[zt] at hbb;have hq0:=(qac.alloc w (.cells #[.bool false] 4)) _ _ h0;have HB:Hid (Below w.heap.size w (w.alloc (.cells #[.bool false] 4))):=hid ((zp _ _).alloc (zl _) _);have hlw:w.heap.size<(w.alloc (.cells #[.bool false] 4)).heap.size:=by simp
 obtain⟨w1,hw1⟩:∃ w1,w1=w.alloc (.cells #[.bool false] 4):=⟨_,rfl⟩;rw[← hw1] at hbb hq0 HB hlw ⊢;clear hw1
 go_loopw [4,16] (fun r j wr=>(j = .int .i64 0∧r = .slice none 0 0∧wr=w1)∨(j = .int .i64 1∧∃ (ra:Option Addr) (rc:Nat),r = .slice ra 1 rc∧Hid (AllV wr (.slice ra 1 rc)∧Below w.heap.size w wr))) (fun _ j _=>1 - (intOf j).toNat)
 case atStart=>exact .inl ⟨rfl,rfl,rfl⟩
 case round=>
  rcases hrel with ⟨rfl,rfl,rfl⟩|⟨rfl,ra,rc,rfl,H⟩
  ·have Hown8:=hid (zdb (wr.alloc (.cells #[.pointer (some ⟨te,0,none⟩)] 273)) 0 273 1)
   go_wp2_with fail
   obtain⟨wq,rfl⟩:∃ wq:World,wq=wr:=⟨_,rfl⟩
   go_loopw [6,7] (fun x j wr=>x = .pointer (some ⟨te,0,none⟩)∧j = .int .i64 1∧wr=wq) (fun _ j _=>0)
   case atStart=>exact⟨rfl,rfl,rfl⟩
   case round=>
    obtain⟨rfl,rfl,rfl⟩:=hrel
    go_wp2_with (at_builtin;go_loud (refine qbu _ rfl _ _ 245 rfl 273 _ 8 Tryz.infoPT underlying245 rfl none 0 0 [] rfl Hown8.out ⟨wr.heap.size,0,none⟩ (.pointer (some ⟨te,0,none⟩)) rfl (cell_of_row _ _ _ _ _ _ (qa8 _ _)) rfl rfl (by omega) (by decide) fun ra' rc' w9 hown' hgrow hloc => ?_);have Hg:=hid hgrow;have Ho9:=hid hown';clear hgrow hown' hloc)
    go_roundw
    case rel=>
     have hB9:Below w.heap.size w w9:=HB.out.trans (((zp _ _).alloc (by have:=HB.out.size;omega) _).trans ((qah.grown (S:=fun _=>False) Hg.out fun b h _=>by cases h).below (by have:=HB.out.size;simp;omega) fun b h=>h.elim));have ht9:Blk w9 te 275 [.bool false,.nilIface]:=(Hte.out.below hB9 Hte.out.lt);refine .inr ⟨rfl,ra',rc',rfl,hid ⟨?_,hB9⟩⟩;obtain⟨-,⟨he,h0⟩|⟨g,cap,cur,he,-,hb,h1,-,h3,h4⟩⟩:=Ho9.out
     ·omega
     ·cases he;have hc1:cur.toList = .pointer (some ⟨te,0,none⟩)::cur.toList.drop 1:=by
       have:=List.take_append_drop 1 cur.toList;rw[← this];simp only[Nat.zero_add,Nat.one_mul,Nat.mul_one,List.nil_append] at h4;rw[h4];simp
      exact⟨g,_,te,cur.toList.drop 1,rfl,by omega,by rw[← hc1];unfold Blk;simpa using hb,ht9⟩
    case measure=>simp[intOf]
  ·go_wp2_with fail
   go_ret
   exact⟨_,rfl,H.out.1,H.out.2⟩
theorem AllV.keep {w w':World} {v:Value} (h:AllV w v) (hb:Below w.heap.size w w'):AllV w' v:=h.apart (S:=fun _=>False) (qag.keep hb) fun _ _ _ _ _ h=>h
theorem qv5 (v:Value) (w:World) (h:AllV w v):Calls prog 186 #[v] w fun e w'=>∃ v,e = .returned v∧AllV w' v∧Below w.heap.size w w':=by
 obtain⟨tl,c,te,cs,rfl,q1,q2,q3⟩:=h;have h0:w.cell? ⟨tl,0,none⟩=some (.pointer (some ⟨te,0,none⟩)):=by rw[q2.cell];rfl
 exact qwn tl te c w q1 h0 q3
theorem qs8 (v1 v2:Value) (w:World) (h1:AllV w v1) (h2:AllV w v2):Calls prog 169 #[v1,v2] w fun e w'=>∃ v,e = .returned v∧AllV w' v∧Below w.heap.size w w':=by
 obtain⟨tl,c,te,rfl,hc,a1,a2,a3⟩:=h1.cells;have Hh2:=hid h2;obtain⟨tl2,c2,te2,rfl,hc2,b1,b2,b3⟩:=h2.cells;have Hte2:Hid (Blk w te2 275 [.bool false,.nilIface]):=hid (by
  obtain⟨q1,q2,q3,q4,e,-,e1,e2⟩:=h2;cases e;have:=e1.cell 0;simp only[zt] at this;rw[b1] at this;cases this;exact e2)
 have hl:=zj w _ a1;have hl2:=zj w _ b1;have hl3:=zj w _ a3;simp only at hl hl2 hl3;clear h1 h2;have tok:True:=trivial;go_enter func169,ntmps169
 go_wp2_with (first
  | (go_at_call 187;have _t:=tok;clear _t tok;refine(qf5 tl te c _ hc a1).mono ?_;rintro e w1 ⟨rfl,hw1⟩;subst w1)
  | (go_at_call 187;refine(qf5 tl2 te2 c2 _ hc2 b1).mono ?_;rintro e w1 ⟨rfl,hw1⟩;subst w1))
 go_loopw [5,19] (fun r i wr=>(i = .int .i64 0∧r = .slice none 0 0∧wr=w)∨(i = .int .i64 1∧∃ (ra:Option Addr) (rc:Nat),r = .slice ra 1 rc∧Hid (AllV wr (.slice ra 1 rc)∧Below w.heap.size w wr))) (fun _ i _=>1 - (intOf i).toNat)
 case atStart=>exact .inl ⟨rfl,rfl,rfl⟩
 case round=>
  rcases hrel with ⟨rfl,rfl,rfl⟩|⟨rfl,ra,rc,rfl,H⟩
  ·go_wp2_with fail
   have Hown8:=hid (zdb (wr.alloc (.cells #[.pointer (some ⟨te2,0,none⟩)] 273)) 0 273 1);obtain⟨wq,rfl⟩:∃ wq:World,wq=wr:=⟨_,rfl⟩
   go_loopw [5,25] (fun r j wr=>(j = .int .i64 0∧r = .slice none 0 0∧wr=wq)∨(j = .int .i64 1∧∃ (ra:Option Addr) (rc:Nat),r = .slice ra 1 rc∧Hid (AllV wr (.slice ra 1 rc)∧Below wq.heap.size wq wr))) (fun _ j _=>1 - (intOf j).toNat)
   case atStart=>exact .inl ⟨rfl,rfl,rfl⟩
   case round=>
    rcases hrel with ⟨rfl,rfl,rfl⟩|⟨rfl,ra,rc,rfl,H⟩
    ·go_wp2_with (first
      | (go_at_call 188;refine(qmt te te2 _ a3).mono ?_;rintro e w1 ⟨rfl,hw1⟩;subst w1)
      | (at_builtin;go_loud (refine qbu _ rfl _ _ 245 rfl 273 _ 8 Tryz.infoPT underlying245 rfl none 0 0 [] rfl Hown8.out ⟨wr.heap.size,0,none⟩ (.pointer (some ⟨te2,0,none⟩)) rfl (cell_of_row _ _ _ _ _ _ (qa8 _ _)) rfl rfl (by omega) (by decide) fun ra' rc' w9 hown' hgrow hloc => ?_);have Hg:=hid hgrow;have Ho9:=hid hown';clear hgrow hown' hloc))
     go_roundw
     case rel=>
      have hB9:Below wr.heap.size wr w9:=((zp _ _).alloc (zl _) _).trans ((qah.grown (S:=fun _=>False) Hg.out fun b h _=>by cases h).below (by simp) fun b h=>h.elim);exact .inr ⟨by go_num,ra',rc',rfl,hid ⟨qvq Ho9.out (Hte2.out.keep hB9),hB9⟩⟩
     case measure=>simp[intOf]
    ·go_wp2_with fail
     go_roundw
     case rel=>exact .inr ⟨by go_num,ra,rc,rfl,H⟩
     case measure=>simp[intOf]
  ·have Hn:Hid (Calls prog 186 #[.slice ra 1 rc] wr fun e w'=>∃ v,e = .returned v∧Hid (AllV w' v∧Below w.heap.size w w')):=hid (by
    refine(qv5 _ wr H.out.1).mono ?_;rintro e w' ⟨v,rfl,r1,r2⟩;exact⟨v,rfl,hid ⟨r1,H.out.2.trans (r2.mono H.out.2.size)⟩⟩)
   go_wp2_with (go_at_call 186;refine Hn.out.mono ?_;rintro e w' ⟨v,rfl,Hv⟩)
   go_ret
   exact⟨v,rfl,Hv.out.1,Hv.out.2⟩
theorem qrt (v1 v2:Value) (w:World) (h1:AllV w v1) (h2:AllV w v2):Calls prog 140 #[v1,.bool false,v2,.bool false] w fun e w'=>∃ v,e = .returned (.tuple #[v,.bool false])∧AllV w' v∧Below w.heap.size w w':=by
 have HC:=hid (qs8 v1 v2 w h1 h2);clear h1 h2;go_enter func140,ntmps140
 go_wp2_with (first
  | (go_at_call 169;refine HC.out.mono ?_;rintro e w1 ⟨v,rfl,q1,q2⟩;have Hq1:=hid q1;have Hq2:=hid q2;clear q1 q2)
  | (go_at_call 75;refine(qd8 _).mono ?_;rintro e w2 ⟨rfl,hw2⟩;subst w2))
 go_ret2
 exact⟨v,rfl,Hq1.out,Hq2.out⟩
def PMap (w:World) (r:Nat) (L:List Nat):Prop:=∃ es clock,w.heap[r]?=some (.map es clock)∧es.toList.map (·.key)=L.map fun f=>Value.pointer (some ⟨f,0,none⟩)
theorem PMap.lt {w:World} {r:Nat} {L:List Nat} (h:PMap w r L):r<w.heap.size:=by
 obtain⟨es,c,h,-⟩:=h;exact(zab.1 h).1
theorem PMap.apart {S:Nat→Prop} {w w':World} {r:Nat} {L:List Nat} (h:PMap w r L) (ha:qag S w w') (hr:¬ S r):PMap w' r L:=by
 have hl:=h.lt;obtain⟨es,c,h,hL⟩:=h;exact⟨es,c,(ha.block r hl hr).trans h,hL⟩
theorem PMap.new (w:World) (c:Nat):PMap (w.alloc (.map #[] c)) w.heap.size []:=⟨#[],c,by show(w.heap.push _)[w.heap.size]?=_;exact Array.getElem?_push_size,rfl⟩
section
variable {P:Program} {t kt et:TypeId} {te:TypeId} {j:TypeInfo}
theorem qgf (w:World) {a b:Addr} {ca cb:Array Value} {ta tb:TypeId} (hp:P.underlying kt=some (.pointer te)) (hte:P.info? te=some j) (hsz:j.size≠0)
  (hne:a≠b) (ha:w.heap[a.block]?=some (.cells ca ta (0,0))) (hb:w.heap[b.block]?=some (.cells cb tb (0,0))):(Op.equal kt (.pointer (some a)) (.pointer (some b))).run P w = .ok false w:=by
 have h:∀ d:Nat,(Op.equalIn (d+1) kt (.pointer (some a)) (.pointer (some b))).run P w = .ok false w:=fun d=>by
  simp[Op.equalIn,run_underlying hp,sizeOf,typeInfo,hte,hsz,run_sameAddr_other w hne ha hb]
 simp[Op.equal,Op.maxDepth,h 9999]
theorem qf4 (w:World) {f:Nat} {cf:Array Value} {tf:TypeId} (hp:P.underlying kt=some (.pointer te)) (hte:P.info? te=some j) (hsz:j.size≠0) (hf:w.heap[f]?=some (.cells cf tf (0,0))):
  ∀ (l:List MapEntry) (L:List Nat) (i:Nat),l.map (·.key)=L.map (fun f=>Value.pointer (some ⟨f,0,none⟩))→(∀ g∈L,f≠g∧∃ cg tg,w.heap[g]?=some (.cells cg tg (0,0)))→(Instr.findAsking kt (.pointer (some ⟨f,0,none⟩)) l i).run P w = .ok none w
 | [],L,i,h,hg=>by simp[Instr.findAsking]
 | e::l,[],i,h,hg=>by simp at h
 | e::l,g::L,i,h,hg=>by
  simp only[List.map_cons,List.cons.injEq] at h;obtain⟨hne,cg,tg,hgb⟩:=hg g (z6 ..);have h1:=qgf (P:=P) w (a:=⟨f,0,none⟩) (b:=⟨g,0,none⟩) hp hte hsz (by first|(simp;done)|simpa using hne) hf hgb;have h2:=qf4 w hp hte hsz hf l L (i+1) h.2 fun x hx=>hg x (zy _ hx);simp[Instr.findAsking,h.1,h1,h2]
theorem qko (w:World) (ht:P.underlying t=some (.map kt et)) (hp:P.underlying kt=some (.pointer te)) (hte:P.info? te=some j) (hsz:j.size≠0) {r:Nat} {L:List Nat} (h:PMap w r L) (f:Nat) (v:Value)
  {cf:Array Value} {tf:TypeId} (hf:w.heap[f]?=some (.cells cf tf (0,0))) (hg:∀ g∈L,f≠g∧∃ cg tg,w.heap[g]?=some (.cells cg tg (0,0))):
  ∃ w',(Instr.mapUpdate t (.map (some r)) (.pointer (some ⟨f,0,none⟩)) v).run P w = .ok () w'∧PMap w' r (L++[f])∧qah (fun b=>b=r) w w':=by
 obtain⟨es,c,hb,hL⟩:=h;have hck:(Instr.checkKey false 10000 kt (.pointer (some ⟨f,0,none⟩))).run P w = .ok () w:=by
  have h0:∀ n,(Instr.checkKey false (n+1) kt (.pointer (some ⟨f,0,none⟩))).run P w = .ok () w:=fun n=>by simp[Instr.checkKey,run_underlying hp]
  exact h0 9999
 have hfk:(Instr.findKey kt (.pointer (some ⟨f,0,none⟩)) es.toList).run P w = .ok none w:=by
  have h2:=qf4 (P:=P) w hp hte hsz hf es.toList L 0 hL hg;unfold Instr.findKey;cases hl:es.toList with
  | nil=>simp[run_underlying hp,Instr.findNow]
  | cons e l=>rw[hl] at h2;simp[run_underlying hp,Instr.findNow,Instr.sameNow,h2]
 have hrun:(Instr.mapUpdate t (.map (some r)) (.pointer (some ⟨f,0,none⟩)) v).run P w = .ok () { w with heap:=w.heap.setIfInBounds r (.map (es.push { key := .pointer (some ⟨f,0,none⟩),val:=v,born:=c }) (c+1)) }:=by
  simp[Instr.mapUpdate,run_underlying ht,MapKept.run_getObj_map hb,hck,hfk,MapKept.run_setObj_map _ hb,Result.andThen]
 have hlt:r<w.heap.size:=(zab.1 hb).1;refine⟨_,hrun,⟨es.push { key := .pointer (some ⟨f,0,none⟩),val:=v,born:=c },c+1,by simp[hlt],?_⟩,⟨rfl,rfl,rfl,⟨by simp,fun b hb' hs => ?_⟩⟩⟩
 ·rw[Array.toList_push,List.map_append,hL,List.map_append];rfl
 ·simp only;rw[Array.getElem?_setIfInBounds,if_neg (fun e=>hs e.symm)]
theorem qin (w:World) {ops:Array Oper} {rest:List Oper} {o:Oper} {a:Act} {Q:Exit→Act→World→Prop} (hg:o.guard=none) (m x v:Operand) (hop:o.op=Op.mapUpdate t m x v)
  (ht:P.underlying t=some (.map kt et)) (hp:P.underlying kt=some (.pointer te)) (hte:P.info? te=some j) (hsz:j.size≠0) {r:Nat} {L:List Nat} (hm:a.eval m = .map (some r)) (h:PMap w r L) (f:Nat) (hx:a.eval x = .pointer (some ⟨f,0,none⟩)) (val:Value) (hv:a.eval v=val)
  {cf:Array Value} {tf:TypeId} (hf:w.heap[f]?=some (.cells cf tf (0,0))) (hgs:∀ g∈L,f≠g∧∃ cg tg,w.heap[g]?=some (.cells cg tg (0,0)))
  (hK:∀ w',PMap w' r (L++[f])→qah (fun b=>b=r) w w'→wpList P ops Q rest (a.put o.dst undef) w'):wpList P ops Q (o::rest) a w:=by
 refine wpList_plain hg fun K' hK' => ?_;obtain⟨w',hrun,r1,r2⟩:=qko (P:=P) w ht hp hte hsz h f val hf hgs;unfold Oper.wp;simp[execOp,hop,hm,hx,hv,hrun,Result.andThen];exact hK' _ _ (hK w' r1 r2)
end
open Go.MuLone
theorem qsk (sb f pk r f2:Nat) (p n:Int) (L:List (ByteArray×Value)) (w:World) (h:IsNm n) (hp:p=0∨p=1) (hT:Tabs w) (h1:w.cell? ⟨f,1,none⟩=some (.pointer (some ⟨pk,0,none⟩))) (h2:w.cell? ⟨f,2,none⟩=some (.string (qas n))) (hc:w.cell? ⟨pk,0,none⟩=some (.string (qbo p)))
  (T:TypeId) (hs:Blk w sb T [.map (some r)]) (hm:qct w r L) (hn:getS L (idS p n)=some (.iface 106 (.pointer (some ⟨f2,0,none⟩)))):
  Calls prog 89 #[.pointer (some ⟨sb,0,none⟩),.iface 106 (.pointer (some ⟨f,0,none⟩))] w fun e w'=>e = .returned (.iface 106 (.pointer (some ⟨f2,0,none⟩)))∧Below w.heap.size w w':=by
 have HT:=hid hT;have Hp:=hid hp;have H:=hid h;have Hn:=hid hn;have c0:=hs.cell 0;simp only[zt] at c0;have hsl:=hs.lt;have hmf:=qlk;have Hm:=hid hm;clear hT hp h hs hn hm;go_enter func89,ntmps89
 go_wp2_with (go_at_call 156;refine(qhj f pk p n _ H.out Hp.out HT.out h1 h2 hc).mono ?_;rintro e w1 ⟨rfl,hb1⟩;have Hb1:=hid hb1;have hz1:=zq hb1;have q0:w1.cell? ⟨sb,0,none⟩=some (.map (some r)):=(qac.below hb1) _ _ c0;have Hm1:=hid (Hm.out.apart (S:=fun _=>False) (qag.keep hb1) (fun h=>h));have hlk:=qg4 (P:=prog) w1 underlying193 underlying9 Tryz.zObj Hm1.out (idS p n);rw[Hn.out] at hlk;simp only[Option.getD_some] at hlk;have hs1:sb<w1.heap.size:=(by omega))
 go_ret
 exact⟨rfl,Hb1.out⟩
structure Ent where
 f:Nat
 p:Int
 n:Int
def Ent.id (e:Ent):ByteArray:=idS e.p e.n
def Ent.kv (e:Ent):ByteArray×Value:=(e.id,.iface 106 (.pointer (some ⟨e.f,0,none⟩)))
def addE (es:List Ent) (e:Ent):List Ent:=if es.any (fun x=>x.id==e.id) then es else es++[e]
theorem qwf (es:List Ent) (k:ByteArray):(getS (es.map Ent.kv) k=none∧es.any (fun x=>x.id==k)=false)∨∃ f2,getS (es.map Ent.kv) k=some (.iface 106 (.pointer (some ⟨f2,0,none⟩)))∧es.any (fun x=>x.id==k)=true:=by
 induction es with
 | nil=>exact .inl ⟨rfl,rfl⟩
 | cons e r ih=>
  by_cases h:(e.id==k)=true
  ·right;exact⟨e.f,by simp[getS,Ent.kv,h],by simp[h]⟩
  ·have h':(e.id==k)=false:=by simpa using h
   rcases ih with ⟨h1,h2⟩|⟨f2,h1,h2⟩
   ·left;simp only[getS,List.map_cons,List.find?_cons,Ent.kv] at h1 ⊢;exact⟨by rw[h'];exact h1,by simp[h',h2]⟩
   ·right;simp only[getS,List.map_cons,List.find?_cons,Ent.kv] at h1 ⊢;exact⟨f2,by rw[h'];exact h1,by simp[h',h2]⟩
structure Acc (w:World) (B sb ab mb:Nat) (es:List Ent) (m:Option Nat) (a:Option Addr) (c rm:Nat):Prop where
 sbB:Blk w sb 193 [.map m]
 mm:m=none∧es=[]∨∃ r,m=some r∧qct w r (es.map Ent.kv)∧r≠sb∧r≠rm∧B≤r
 abB:Blk w ab 129 [.slice a es.length c]
 own:w.ownsRow 0 106 1 (.slice a es.length c) es.length (qa7 (es.map Ent.f))
 row:∀ g,(Value.slice a es.length c).ownBlock=some g→B≤g
 mbB:Blk w mb 268 [.map (some rm)]
 pm:PMap w rm (es.map Ent.f)
 ge:B≤sb∧B≤ab∧B≤mb∧B≤rm
theorem Blk.ne_map {w:World} {b r:Nat} {T:TypeId} {cs:List Value} {es:Array MapEntry} {k:Nat} (h:Blk w b T cs) (hr:w.heap[r]?=some (.map es k)):b≠r:=fun e=>by
 subst e;unfold Blk at h;rw[h] at hr;cases hr
theorem qct.ne {w:World} {b r:Nat} {T:TypeId} {cs:List Value} {L:List (ByteArray×Value)} (h:qct w r L) (hb:Blk w b T cs):b≠r:=by
 obtain⟨es,k,hr,-⟩:=h;exact hb.ne_map hr
theorem PMap.ne {w:World} {b r:Nat} {T:TypeId} {cs:List Value} {L:List Nat} (h:PMap w r L) (hb:Blk w b T cs):b≠r:=by
 obtain⟨es,k,hr,-⟩:=h;exact hb.ne_map hr
theorem Tryz.szFunc:(prog.info? 167).map (·.size)=some 6:=by kernel_rfl
theorem qwm (B sb ab mb pk rm c:Nat) (es:List Ent) (e:Ent) (m:Option Nat) (a:Option Addr) (ex:Bool) (w:World) (hT:Tabs w) (hA:Acc w B sb ab mb es m a c rm) (hB:B≤w.heap.size) (hn:IsNm e.n) (hp:e.p=0∨e.p=1)
  (h1:w.cell? ⟨e.f,1,none⟩=some (.pointer (some ⟨pk,0,none⟩))) (h2:w.cell? ⟨e.f,2,none⟩=some (.string (qas e.n))) (hc:w.cell? ⟨pk,0,none⟩=some (.string (qbo e.p))) (Tf:TypeId) (cf:List Value) (hbf:Blk w e.f Tf cf) (hfB:e.f<B)
  (hes:∀ x∈es,((∃ T cs,Blk w x.f T cs)∧x.f<B)∧(x.f=e.f→x.id=e.id)) (hl:es.length≤1048576):
  Calls prog 136 #[.int .i64 0,.pointer (some ⟨e.f,0,none⟩),.bool ex,.pointer (some ⟨sb,0,none⟩),.pointer (some ⟨ab,0,none⟩),.pointer (some ⟨mb,0,none⟩)] w fun z w'=>z = .returned (.tuple #[])∧∃ m' a' c',Hid (Acc w' B sb ab mb (addE es e) m' a' c' rm∧Below B w w'∧qah (fun g=>g=sb∨m=some g∨g=ab∨(Value.slice a es.length c).ownBlock=some g∨g=mb∨g=rm) w w'∧((Value.slice a' (addE es e).length c').ownBlock=(Value.slice a es.length c).ownBlock∨∀ g,(Value.slice a' (addE es e).length c').ownBlock=some g→w.heap.size≤g)):=by
 obtain⟨io,hio,hsz⟩:=zbb.1 Tryz.szFunc;have hsz0:io.size≠0:=by rw[hsz];decide
 rcases qwf es e.id with ⟨g1,g2⟩|⟨f2,g1,g2⟩
 ·
  have hadd:addE es e=es++[e]:=by unfold addE;rw[g2];rfl
  rw[hadd];have hnew:∀ x∈es,x.f≠e.f:=fun x hx e2=>by
   have:=List.any_eq_false.1 g2 x hx;exact this (by rw[(hes x hx).2 e2];exact qna _)
  have HI:=hid (qlt sb e.f pk e.p e.n m (es.map Ent.kv) w hn hp hT h1 h2 hc 193 106 (.inr rfl) hA.sbB (by
   rcases hA.mm with ⟨q1,q2⟩|⟨r,q1,q2,q3,q4,q5⟩
   ·exact .inl ⟨q1,by rw[q2];rfl⟩
   ·exact .inr ⟨r,q1,q2,q3⟩) g1)
  have HA:=hid hA;have Hbf:=hid hbf;have Hes:=hid hes;have Hnew:=hid hnew;have hsn:∀ (b:Nat) (T:TypeId) (cs:List Value),Blk w b T cs→T≠193→¬ (b=sb∨m=some b):=fun b T cs hb hT e2=>by
   rcases e2 with e2|e2
   ·exact hb.tne hA.sbB hT e2
   ·rcases hA.mm with ⟨q1,-⟩|⟨r,q1,q2,-⟩
    ·rw[q1] at e2;cases e2
    ·rw[q1] at e2;cases e2;exact q2.ne hb rfl
  have Hsn:=hid hsn;have HsB:Hid (∀ b,b<B→¬ (b=sb∨m=some b)):=hid fun b hb e2=>by
   obtain⟨g1,-⟩:=hA.ge;rcases e2 with e2|e2
   ·omega
   ·rcases hA.mm with ⟨q1,-⟩|⟨r,q1,-,-,-,q5⟩
    ·rw[q1] at e2;cases e2
    ·rw[q1] at e2;cases e2;omega
  have hab:=hA.ge.2.1;have Hrm:Hid (¬ (rm=sb∨m=some rm)):=hid fun e2=>by
   rcases e2 with e2|e2
   ·exact hA.pm.ne hA.sbB e2.symm
   ·rcases hA.mm with ⟨q1,-⟩|⟨r,q1,-,-,q4,-⟩
    ·rw[q1] at e2;cases e2
    ·rw[q1] at e2;cases e2;exact q4 rfl
  clear hA hbf hes hnew hT h1 h2 hc g1 g2 hsn hadd;go_enter func136,ntmps136
  go_wp2_with (first
   | (go_at_call 89;refine HI.out.mono ?_;rintro z w2 ⟨rfl,r,hq⟩;have Hq:=hid hq;have A2:=hid (Hq.out.2.2.2.2).apart;have hab2:=HA.out.abB.apart A2.out (Hsn.out _ _ _ HA.out.abB (by decide));have hmb2:=HA.out.mbB.apart A2.out (Hsn.out _ _ _ HA.out.mbB (by decide));have k0:w2.cell? ⟨ab,0,none⟩=some (.slice a es.length c):=hab2.cell 0;have k1:w2.cell? ⟨mb,0,none⟩=some (.map (some rm)):=hmb2.cell 0;have l1:=hab2.lt;have l2:=hmb2.lt;have Hab2:=hid hab2;have Hmb2:=hid hmb2;have Hown2:=hid (qab HA.out.own A2.out fun g hg=>Hsn.out _ _ _ (qaf HA.out.own hg).choose_spec (by decide));have Hown3:=hid (qab Hown2.out (qag.keep (S:=fun _=>False) ((zp w2.heap.size w2).alloc (zl _) (.cells #[.pointer (some ⟨e.f,0,none⟩)] 106))) (fun _ _ h=>h));have Hpm2:=hid (HA.out.pm.apart A2.out Hrm.out);clear hq hab2 hmb2)
   | (at_builtin;go_loud (refine qbu _ rfl _ _ 129 rfl 106 _ 8 Tryz.infoPF underlying129 rfl a es.length c (qa7 (es.map Ent.f)) rfl Hown3.out ⟨w2.heap.size,0,none⟩ (.pointer (some ⟨e.f,0,none⟩)) rfl (cell_of_row _ _ _ _ _ _ (qa8 _ _)) rfl rfl (by omega) (by decide) fun a' c' w9 hown' hgrow hloc => ?_);have Hg:=hid hgrow;have Ho9:=hid hown';have Hl9:=hid hloc;have T29:Hid (qah (fun b=>(Value.slice a es.length c).ownBlock=some b) w2 w9):=hid ((qah.keep ((zp _ _).alloc (zl _) _)).trans (qah.grown hgrow fun b h _=>h));have HSr:Hid (∀ b T cs,Blk w2 b T cs→T≠106→¬ (Value.slice a es.length c).ownBlock=some b):=hid (fun b T cs hb hT hS=>by
       obtain⟨cs',hc⟩:=qaf Hown2.out hS;exact hc.tne hb (fun e=>hT e.symm) rfl);have hab9:=Hab2.out.apart T29.out.apart (HSr.out _ _ _ Hab2.out (by decide));have hmb9:=Hmb2.out.apart T29.out.apart (HSr.out _ _ _ Hmb2.out (by decide));have k9:w9.cell? ⟨ab,0,none⟩=some (.slice a es.length c):=hab9.cell 0;have f9:=hab9.soft 0;have kb9:w9.cell? ⟨mb,0,none⟩=some (.map (some rm)):=hmb9.cell 0;have l9:=hab9.lt;have l9b:=hmb9.lt;have hne9:mb≠ab:=hmb9.tne hab9 (by decide);have Hab9:=hid hab9;have Hmb9:=hid hmb9;clear hgrow hown' hloc hab9 hmb9)
   | (at_mapUpdate;go_loud (refine qin _ rfl (.tmp 20) (.tmp 21) (.tmp 22) rfl underlying268 underlying106 hio hsz0 (r:=rm) (L:=es.map Ent.f) rfl ?pm e.f rfl _ rfl (cf:=cf.toArray) (tf:=Tf) ?bf ?gs ?kk)))
  case pm=>
   refine(Hpm2.out.apart T29.out.apart fun h => ?_).apart (qag.setCell (fun b=>b=ab) w9 (a:=⟨ab,0,none⟩) rfl _) fun h => ?_
   ·obtain⟨cs,hb⟩:=qaf Hown2.out h;exact Hpm2.out.ne hb rfl
   ·exact Hpm2.out.ne Hab2.out h.symm
  case bf=>exact((Hbf.out.apart A2.out (HsB.out _ hfB)).apart T29.out.apart (fun h=>by have:=HA.out.row _ h;omega)).other (fun h=>by simp only at h;omega) _
  case gs=>
   intro g hg;obtain⟨x,hx,rfl⟩:=zkb.1 hg;obtain⟨⟨T,cs,hb⟩,hxB⟩:=(Hes.out x hx).1;refine⟨fun h=>Hnew.out x hx h.symm,cs.toArray,T,?_⟩;exact((hb.apart A2.out (HsB.out _ hxB)).apart T29.out.apart (fun h=>by have:=HA.out.row _ h;omega)).other (fun h=>by simp only at h;omega) _
  case kk=>
   intro w' hpm ht;have Hpm':=hid hpm;have Ht':=hid ht;clear hpm ht
   go_wp2_with fail
   go_end0
   obtain⟨q1,q2,q3,q4,q5⟩:=Hq.out;obtain⟨g1,g2,g3,g4⟩:=HA.out.ge;have hz2:=q5.apart.size;have hrr:r≠rm∧B≤r:=by
    rcases q4 with q4|q4
    ·rcases HA.out.mm with ⟨e1,-⟩|⟨r',e1,-,-,e4,e5⟩
     ·rw[e1] at q4;cases q4
     ·rw[e1] at q4;cases q4;exact⟨e4,e5⟩
    ·have:=HA.out.pm.lt;exact⟨by omega,by omega⟩
   have hA3:qag (fun b=>b=ab) w9 (w9.setCell ⟨ab,0,none⟩ (.slice a' (es.length+1) c')):=qag.setCell (fun b=>b=ab) w9 (a:=⟨ab,0,none⟩) rfl _;have hpw:=PMap.apart (S:=fun b=>b=ab) (PMap.apart Hpm2.out T29.out.apart fun h=>by
    obtain⟨cs,hb⟩:=qaf Hown2.out h;exact Hpm2.out.ne hb rfl) hA3 fun h=>Hpm2.out.ne Hab2.out h.symm
   have keep:∀ {b:Nat} {T:TypeId} {cs:List Value},Blk w2 b T cs→T≠106→T≠129→Blk w' b T cs:=fun hb hT hU=>
    (((hb.apart T29.out.apart (HSr.out _ _ _ hb hT)).apart hA3 (fun h=>hb.tne Hab2.out hU h)).apart Ht'.out.apart (hpw.ne ((hb.apart T29.out.apart (HSr.out _ _ _ hb hT)).apart hA3 (fun h=>hb.tne Hab2.out hU h))))
   have hroww:∀ g,(Value.slice a' (es.length+1) c').ownBlock=some g→B≤g:=fun g hg=>by
    rcases Hl9.out with e1|e1
    ·exact HA.out.row g (e1 ▸ hg)
    ·rw[e1] at hg;have:=Option.some.inj hg;rw[zd] at this;omega
   refine⟨rfl,some r,a',c',hid ⟨⟨keep q1 (by decide) (by decide),.inr ⟨r,rfl,?_,q3,hrr.1,hrr.2⟩,?_,?_,?_,keep Hmb2.out (by decide) (by decide),?_,HA.out.ge⟩,?_,?_,?_⟩⟩
   ·have h1:=qct.apart q2 T29.out.apart fun h=>by
     obtain⟨cs,hb⟩:=qaf Hown2.out h;exact q2.ne hb rfl
    have h2:=(h1.apart hA3 fun h=>q2.ne Hab2.out h.symm).apart Ht'.out.apart hrr.1;simpa[Ent.kv,Ent.id] using h2
   ·have h1:=(Hab9.out.set 0 (.slice a' (es.length+1) c'));have h2:=h1.apart Ht'.out.apart (hpw.ne h1);simpa using h2
   ·have h1:=qab Ho9.out hA3 fun g hg e=>by
     obtain⟨cs,hb⟩:=qaf Ho9.out hg;exact hb.tne Hab9.out (by decide) e
    have h2:=qab h1 Ht'.out.apart fun g hg e=>by
     obtain⟨cs,hb⟩:=qaf h1 hg;exact hpw.ne hb e
    simpa[qa7] using h2
   ·intro g hg;exact hroww g (by simpa using hg)
   ·simpa using Hpm'.out
   ·have u1:qah (fun b=>B≤b) w w2:=q5.mono fun b _ h=>by
     rcases h with h|h
     ·rw[h];exact g1
     ·rcases HA.out.mm with ⟨e1,-⟩|⟨r',e1,-,-,-,e5⟩
      ·rw[e1] at h;cases h
      ·rw[e1] at h;cases h;exact e5
    have u2:qah (fun b=>B≤b) w2 w9:=T29.out.mono fun b _ h=>HA.out.row b h;have u3:qah (fun b=>B≤b) w9 (w9.setCell ⟨ab,0,none⟩ (.slice a' (es.length+1) c')):=qah.setCell (fun b=>B≤b) w9 (a:=⟨ab,0,none⟩) g2 _;have u4:=Ht'.out.mono (S':=fun b=>B≤b) fun b _ h=>by rw[h];exact g4
    exact(((u1.trans u2).trans u3).trans u4).below hB fun b h=>h
   ·have u1:=q5.mono (S':=fun g=>g=sb∨m=some g∨g=ab∨(Value.slice a es.length c).ownBlock=some g∨g=mb∨g=rm) fun b _ h=>by
     rcases h with h|h
     ·exact .inl h
     ·exact .inr (.inl h)
    have u2:=T29.out.mono (S':=fun g=>g=sb∨m=some g∨g=ab∨(Value.slice a es.length c).ownBlock=some g∨g=mb∨g=rm) fun b _ h => .inr (.inr (.inr (.inl h)));have u3:qah (fun g=>g=sb∨m=some g∨g=ab∨(Value.slice a es.length c).ownBlock=some g∨g=mb∨g=rm) w9 (w9.setCell ⟨ab,0,none⟩ (.slice a' (es.length+1) c')):=qah.setCell _ w9 (a:=⟨ab,0,none⟩) (.inr (.inr (.inl rfl))) _;have u4:=Ht'.out.mono (S':=fun g=>g=sb∨m=some g∨g=ab∨(Value.slice a es.length c).ownBlock=some g∨g=mb∨g=rm) fun b _ h => .inr (.inr (.inr (.inr (.inr h))));exact((u1.trans u2).trans u3).trans u4
   ·rcases Hl9.out with e1|e1
    ·exact .inl (by simpa using e1)
    ·refine .inr fun g hg => ?_;have e2:(Value.slice a' (es.length+1) c').ownBlock=some g:=by simpa using hg
     rw[e1] at e2;have:=Option.some.inj e2;rw[zd] at this;omega
 ·
  have hadd:addE es e=es:=by unfold addE;rw[g2];rfl
  rw[hadd];rcases hA.mm with ⟨-,e2⟩|⟨r,q1,q2,q3,q4,q5⟩
  ·subst e2;simp at g2
  ·have HI:=hid (qsk sb e.f pk r f2 e.p e.n (es.map Ent.kv) w hn hp hT h1 h2 hc 193 (q1 ▸ hA.sbB) q2 g1);have HA:=hid hA;clear hA hbf hes hT h1 h2 hc g1 g2 hadd q1 q2 q3 q4 q5;cases ex
   all_goals
    go_enter func136,ntmps136
    go_wp2_with (go_at_call 89;refine HI.out.mono ?_;rintro z w2 ⟨rfl,hb2⟩;have Hb2:=hid hb2;clear hb2)
    go_end0
    have hk:=qag.keep (S:=fun _=>False) Hb2.out;refine⟨rfl,m,a,c,hid ⟨⟨HA.out.sbB.keep Hb2.out,?_,HA.out.abB.keep Hb2.out,qab HA.out.own hk (fun _ _ h=>h),HA.out.row,HA.out.mbB.keep Hb2.out,HA.out.pm.apart hk (fun h=>h),HA.out.ge⟩,Hb2.out.mono hB,qah.keep Hb2.out,.inl rfl⟩⟩;rcases HA.out.mm with h|⟨r,q1,q2,q3⟩
    ·exact .inl h
    ·exact .inr ⟨r,q1,q2.apart hk (fun h=>h),q3⟩
structure Mn where
 k:Nat
 p:Int
 n:Int
def Mn.id (m:Mn):ByteArray:=idS m.p m.n
def Mn.ent (blk:Nat→Nat) (m:Mn):Ent:=⟨blk m.k,m.p,m.n⟩
def addN (ms:List Mn) (m:Mn):List Mn:=if ms.any (fun x=>x.id==m.id) then ms else ms++[m]
theorem qwq (blk:Nat→Nat) (ms:List Mn) (m:Mn):(addN ms m).map (Mn.ent blk)=addE (ms.map (Mn.ent blk)) (m.ent blk):=by
 have e:(ms.map (Mn.ent blk)).any (fun x=>x.id==(m.ent blk).id)=ms.any (fun x=>x.id==m.id):=by
  rw[List.any_map];rfl
 unfold addN addE;rw[e];split
 ·rfl
 ·simp
def mn0:Mn:=⟨0,0,0⟩
def ordN (ms:List Mn):List Nat:=(List.range ms.length).mergeSort fun i j=>decide (rank (ms.getD i mn0).p (ms.getD i mn0).n≤rank (ms.getD j mn0).p (ms.getD j mn0).n)
def qff (ms:List Mn):List Mn:=(ordN ms).map fun i=>ms.getD i mn0
theorem qm9 (ms:List Mn):Srt (fun i=>rank (ms.getD i mn0).p (ms.getD i mn0).n) ms.length (ordN ms):=by
 refine⟨List.mergeSort_perm _ _,?_⟩;have:=List.pairwise_mergeSort (le:=fun i j=>decide (rank (ms.getD i mn0).p (ms.getD i mn0).n≤rank (ms.getD j mn0).p (ms.getD j mn0).n)) (fun a b c=>by simp;omega) (fun a b=>by simp;omega) (List.range ms.length);exact this.imp fun h=>by simpa using h
def DisN (ms:List Mn):Prop:=ms.Pairwise fun a b=>a.id≠b.id
def NmN (m:Mn):Prop:=IsNm m.n∧(m.p=0∨m.p=1)
theorem qqt {ms:List Mn} {m:Mn} (h:DisN ms):DisN (addN ms m):=by
 unfold addN;split
 ·exact h
 next hn=>
  unfold DisN;rw[List.pairwise_append];refine⟨h,by simp,fun a ha b hb => ?_⟩;rw[zfb] at hb;subst hb;intro e;exact hn (List.any_eq_true.2 ⟨a,ha,by rw[e];exact qna _⟩)
theorem qqr {ms:List Mn} {m x:Mn} (h:x∈addN ms m):x∈ms∨x=m:=by
 unfold addN at h;split at h
 ·exact .inl h
 ·rcases zib.1 h with h|h
  ·exact .inl h
  ·exact .inr (zfb.1 h)
theorem qf2:∀ {l ms:List Mn} {x:Mn},x∈l.foldl addN ms→x∈ms∨x∈l
 | [],ms,x,h => .inl h
 | m::r,ms,x,h=>by
  rcases qf2 (l:=r) h with h|h
  ·rcases qqr h with h|h
   ·exact .inl h
   ·exact .inr (by rw[h];exact z6 ..)
  ·exact .inr (zy _ h)
theorem qji:∀ {l ms:List Mn},DisN ms→DisN (l.foldl addN ms)
 | [],ms,h=>h
 | m::r,ms,h=>qji (l:=r) (qqt h)
theorem rank_id:∀ i:Fin 16,∀ j:Fin 16,∀ p:Fin 2,∀ q:Fin 2,rank (p.val:Nat) (i.val:Nat)=rank (q.val:Nat) (j.val:Nat)→idL (p.val:Nat) (i.val:Nat)=idL (q.val:Nat) (j.val:Nat):=by decide +kernel
theorem qq4 {a b:Mn} (ha:NmN a) (hb:NmN b) (h:rank a.p a.n=rank b.p b.n):a.id=b.id:=by
 obtain⟨⟨a1,a2⟩,a3⟩:=ha;obtain⟨⟨b1,b2⟩,b3⟩:=hb;have:=rank_id ⟨a.n.toNat,by omega⟩ ⟨b.n.toNat,by omega⟩ ⟨a.p.toNat,by omega⟩ ⟨b.p.toNat,by omega⟩ (by
  simp only[show((a.p.toNat:Nat):Int)=a.p by omega,show((b.p.toNat:Nat):Int)=b.p by omega,show((a.n.toNat:Nat):Int)=a.n by omega,show((b.n.toNat:Nat):Int)=b.n by omega];exact h)
 simp only[show((a.p.toNat:Nat):Int)=a.p by omega,show((b.p.toNat:Nat):Int)=b.p by omega,show((a.n.toNat:Nat):Int)=a.n by omega,show((b.n.toNat:Nat):Int)=b.n by omega] at this;unfold Mn.id idS;rw[this]
theorem ordN_of {ms:List Mn} {π:List Nat} (hd:DisN ms) (hn:∀ m∈ms,NmN m) (h:Srt (fun i=>rank (ms.getD i mn0).p (ms.getD i mn0).n) ms.length π):π=ordN ms:=by
 have h2:=qm9 ms;refine qij (h.1.trans h2.1.symm) h.2 h2.2 fun i hi j hj e => ?_;have hi':i<ms.length:=List.mem_range.1 (h.1.mem_iff.1 hi);have hj':j<ms.length:=List.mem_range.1 (h.1.mem_iff.1 hj);simp only[zv,zr hi',zr hj',Option.getD_some] at e;have e2:=qq4 (hn _ (z8 hi')) (hn _ (z8 hj')) e;have hp:=List.pairwise_iff_getElem.1 hd;rcases Nat.lt_trichotomy i j with h1|h1|h1
 ·exact absurd e2 (hp i j hi' hj' h1)
 ·exact h1
 ·exact absurd e2.symm (hp j i hj' hi' h1)
def expl (s:Spot):List Mn:=(ordM s.pkg s.of.methods).map fun k=>⟨s.at_+k,s.pkg,(s.of.methods.getD k ⟨0,false⟩).name⟩
inductive MS (W:Wd):Spot→List Mn→Prop
 | mk (s:Spot) (ls:List (List Mn)) (hl:ls.length=s.of.embeds.length) (h:∀ i (hi:i<ls.length),MS W (under W (qav s i)) ls[i]):MS W s (qff (ls.foldl (fun es l=>l.foldl addN es) ((expl s).foldl addN [])))
theorem MS.unique {W:Wd} {s:Spot} {l:List Mn} (h:MS W s l):∀ {l':List Mn},MS W s l'→l=l':=by
 induction h with
 | mk s ls hl _ ih=>
  intro l' h';cases h' with
  | mk _ ls' hl' h2=>
   have:ls=ls':=List.ext_getElem (by omega) fun i h1 h3=>ih i h1 (h2 i h3);rw[this]
theorem qfk:∀ (n:Nat) (l:List Nat),l.Nodup→(∀ x∈l,x<n)→l.length≤n
 | 0,[],_,_=>zl _
 | 0,x::r,_,h=>absurd (h x (z6 ..)) (Nat.not_lt_zero _)
 | n+1,l,hd,h=>by
  have h1:=qfk n (l.erase n) (hd.erase n) fun x hx=>by
   have h2:=h x (List.mem_of_mem_erase hx);have h3:x≠n:=fun e=>by subst e;exact(hd.mem_erase_iff.1 hx).1 rfl
   omega
  have h2:=List.length_erase_le (a:=n) (l:=l);have h3:l.length≤(l.erase n).length+1:=by
   by_cases hm:n∈l
   ·rw[List.length_erase_of_mem hm];omega
   ·rw[List.erase_of_not_mem hm];omega
  omega
theorem rank_lt:∀ i:Fin 16,∀ p:Fin 2,rank (p.val:Nat) (i.val:Nat)<32:=by decide +kernel
theorem qwb {m:Mn} (h:NmN m):rank m.p m.n<32:=by
 obtain⟨⟨a1,a2⟩,a3⟩:=h;have:=rank_lt ⟨m.n.toNat,by omega⟩ ⟨m.p.toNat,by omega⟩;simpa only[show((m.p.toNat:Nat):Int)=m.p by omega,show((m.n.toNat:Nat):Int)=m.n by omega] using this
theorem qjf {ms:List Mn} (h:DisN ms) (hn:∀ m∈ms,NmN m):ms.length≤32:=by
 have h1:=qfk 32 (ms.map fun m=>rank m.p m.n) (by
  unfold List.Nodup;rw[List.pairwise_map];refine List.Pairwise.imp_of_mem (fun {a b} ha hb hab e=>hab (qq4 (hn a ha) (hn b hb) e)) h) fun x hx=>by
   obtain⟨m,hm,rfl⟩:=zkb.1 hx;exact qwb (hn m hm)
 simpa using h1
def qbf (st:St) (k:Nat):Nat:=((st.ob k).map (·.2)).getD 0
def MnOk (F:Fix) (st:St) (r:Nat→Nat→Option Value) (m:Mn):Prop:=NmN m∧qel r (qbf st m.k) (F.pk m.p) m.n false
theorem MnOk.mono {F:Fix} {st:St} {r r':Nat→Nat→Option Value} (h:RdLe r r') {m:Mn} (k:MnOk F st r m):MnOk F st r' m:=⟨k.1,k.2.mono h⟩
def SetG (G:Nat→Prop) (w:World) (ts:Nat) (fs:List Nat):Prop:=∃ a c tv,Blk w ts 248 [.bool false,.slice a fs.length c,tv,.bool false]∧w.ownsRow 0 106 1 (.slice a fs.length c) fs.length (qa7 fs)∧AllV w tv∧(∀ g,(Value.slice a fs.length c).ownBlock=some g→G g)∧G ts
structure qo8 (F:Fix) (st:St) (G:Nat→Prop) (w:World) (b:Nat) (s:Spot) (ts:Nat) (l:List Mn):Prop where
 ms:MS F.W s l
 set:SetG G w ts (l.map fun m=>qbf st m.k)
 ok:∀ m∈l,MnOk F st (rdT w) m
 dis:DisN l
def IfOk (F:Fix) (st:St) (G:Nat→Prop) (w:World) (b:Nat) (s:Spot):Prop:=∃ ra rc ea ec tso,Blk w b 175 (qcd ra s.of.methods.length rc ea s.of.embeds.length ec tso)∧(tso=none∨∃ ts l,tso=some ts∧qo8 F st G w b s ts l)
def qlp (F:Fix) (st:St) (G:Nat→Prop) (w:World) (b:Nat) (s:Spot) (ts:Nat) (l:List Mn):Prop:=∃ ra rc ea ec,Blk w b 175 (qcd ra s.of.methods.length rc ea s.of.embeds.length ec (some ts))∧qo8 F st G w b s ts l
structure CI (F:Fix) (st:St) (μ:Spot→Nat) (w0 w:World):Prop where
 tabs:Tabs w0
 below:Below w0.heap.size w0 w
 ge:∀ b s,(b,s)∈st.ifs→w0.heap.size≤b
 pk0:Blk w F.pk0 128 [.string (qbo 0),.string (qbo 0)]
 pk1:Blk w F.pk1 128 [.string (qbo 1),.string (qbo 1)]
 ifT:∀ b s,(b,s)∈st.ifs→∃ cs,Blk w b 175 cs
 meth:∀ b s,(b,s)∈st.ifs→∃ a c,rdT w b 1=some (.slice a s.of.methods.length c)∧s.of.methods.length≤c∧qqc (gOf F st (rdT w)) s.of.methods s.at_ s.pkg a
 emb:∀ b s,(b,s)∈st.ifs→∃ ea ec,rdT w b 2=some (.slice ea s.of.embeds.length ec)∧s.of.embeds.length≤ec∧∀ i,i<s.of.embeds.length→∃ gb o v b',ea=some ⟨gb,o,none⟩∧rdT w gb (o+i)=some v∧qf7 w v (.iface 112 (ptrV b'))∧(b',under F.W (qav s i))∈st.ifs
 sp:∀ b s,(b,s)∈st.ifs→(s.pkg=0∨s.pkg=1)∧(∀ m∈s.of.methods,IsNm m.name)∧qb1 (s.of.methods.map Meth.name)∧s.of.methods.length≤1048576∧s.of.embeds.length≤1048576
 mu:∀ b s i,(b,s)∈st.ifs→i<s.of.embeds.length→μ (under F.W (qav s i))<μ s
 inj:∀ b s s',(b,s)∈st.ifs→(b,s')∈st.ifs→s=s'
 obInj:∀ j k x y,st.ob j=some x→st.ob k=some y→x.2=y.2→j=k
def IfS (F:Fix) (st:St) (μ:Spot→Nat) (G:Nat→Prop) (w:World) (k:Nat):Prop:=∀ b s,(b,s)∈st.ifs→μ s<k→IfOk F st G w b s
structure CExt (F:Fix) (st:St) (μ:Spot→Nat) (k:Nat) (w w':World):Prop where
 turns:qah (fun b=>∃ s,(b,s)∈st.ifs∧μ s<k) w w'
 rd:RdLe (rdT w) (rdT w')
 six:∀ b s ts,(b,s)∈st.ifs→w.cell? ⟨b,6,none⟩=some (ptrV ts)→w'.cell? ⟨b,6,none⟩=some (ptrV ts)
theorem CExt.refl (F:Fix) (st:St) (μ:Spot→Nat) (k:Nat) (w:World):CExt F st μ k w w:=⟨qah.refl _ _,RdLe.refl _,fun _ _ _ _ h=>h⟩
theorem CExt.trans {F:Fix} {st:St} {μ:Spot→Nat} {k:Nat} {a b c:World} (h:CExt F st μ k a b) (h':CExt F st μ k b c):CExt F st μ k a c:=⟨h.turns.trans h'.turns,h.rd.trans h'.rd,fun b s ts hm hc=>h'.six b s ts hm (h.six b s ts hm hc)⟩
theorem CExt.mono {F:Fix} {st:St} {μ:Spot→Nat} {k k':Nat} {a b:World} (h:CExt F st μ k a b) (hk:k≤k'):CExt F st μ k' a b:=⟨h.turns.mono fun b _ ⟨s,h1,h2⟩=>⟨s,h1,by omega⟩,h.rd,h.six⟩
theorem CExt.keep {F:Fix} {st:St} {μ:Spot→Nat} {k:Nat} {w w':World} (h:Below w.heap.size w w'):CExt F st μ k w w':=⟨qah.keep h,qa0 h,fun b s ts hm hc=>(zlb (h.block b (zj w _ hc))).trans hc⟩
theorem CI.notIf {F:Fix} {st:St} {μ:Spot→Nat} {w0 w:World} (h:CI F st μ w0 w) {k b:Nat} {T:TypeId} {cs:List Value} (hb:Blk w b T cs) (hT:T≠175):¬ ∃ s,(b,s)∈st.ifs∧μ s<k:=fun⟨s,h1,_⟩=>by
 obtain⟨cs',hc⟩:=h.ifT b s h1;exact hb.tne hc hT rfl
theorem CI.ext {F:Fix} {st:St} {μ:Spot→Nat} {w0 w w':World} {k:Nat} (h:CI F st μ w0 w) (he:CExt F st μ k w w') (hT:∀ b s,(b,s)∈st.ifs→∃ cs,Blk w' b 175 cs):CI F st μ w0 w':=by
 refine⟨h.tabs,h.below.trans (he.turns.below h.below.size fun b ⟨s,h1,_⟩=>h.ge b s h1),h.ge,h.pk0.apart he.turns.apart (h.notIf h.pk0 (by decide)),h.pk1.apart he.turns.apart (h.notIf h.pk1 (by decide)),hT,fun b s hm => ?_,fun b s hm => ?_,h.sp,h.mu,h.inj,h.obInj⟩
 ·obtain⟨a,c,h1,h2,h3⟩:=h.meth b s hm;exact⟨a,c,he.rd _ _ _ h1,h2,h3.mono (show G.Le (gOf F st (rdT w)) (gOf F st (rdT w')) from⟨rfl,rfl,fun _ _ h=>h,fun _ _ h=>h,fun _ h=>h,he.rd⟩)⟩
 ·obtain⟨ea,ec,h1,h2,h3⟩:=h.emb b s hm;refine⟨ea,ec,he.rd _ _ _ h1,h2,fun i hi => ?_⟩;obtain⟨gb,o,v,b',q1,q2,q3,q4⟩:=h3 i hi;exact⟨gb,o,v,b',q1,he.rd _ _ _ q2,q3.apart he.turns.apart fun b T cs hb hT=>h.notIf hb (by rcases hT with rfl|rfl <;> decide),q4⟩
theorem SetG.apart {G G':Nat→Prop} {w w':World} {S:Nat→Prop} {ts:Nat} {fs:List Nat} (hs:SetG G w ts fs) (ha:qag S w w') (hS:∀ b T cs,Blk w b T cs→T=248∨T=273∨T=275→¬ S b) (hG:∀ g cs,G g→Blk w g 106 cs→¬ S g) (hGG:∀ g,G g→G' g):SetG G' w' ts fs:=by
 obtain⟨a,c,tv,h1,h2,h3,h4,h5⟩:=hs;exact⟨a,c,tv,h1.apart ha (hS _ _ _ h1 (.inl rfl)),qab h2 ha fun g hg=>hG g _ (h4 g hg) (qaf h2 hg).choose_spec,h3.apart ha fun b T cs hb hT=>hS b T cs hb (.inr hT),fun g hg=>hGG g (h4 g hg),hGG _ h5⟩
theorem SetG.ext {F:Fix} {st:St} {μ:Spot→Nat} {G G':Nat→Prop} {w0 w w':World} {k ts:Nat} {fs:List Nat} (hs:SetG G w ts fs) (h:CI F st μ w0 w) (he:CExt F st μ k w w') (hGG:∀ g,G g→G' g):SetG G' w' ts fs:=by
 obtain⟨a,c,tv,h1,h2,h3,h4,h5⟩:=hs;exact⟨a,c,tv,h1.apart he.turns.apart (h.notIf h1 (by decide)),qab h2 he.turns.apart fun g hg=>by
  obtain⟨cs,hc⟩:=qaf h2 hg;exact h.notIf hc (by decide),h3.apart he.turns.apart fun b T cs hb hT=>h.notIf hb (by rcases hT with rfl|rfl <;> decide),fun g hg=>hGG g (h4 g hg),hGG _ h5⟩
theorem qo8.ext {F:Fix} {st:St} {μ:Spot→Nat} {G G':Nat→Prop} {w0 w w':World} {k b ts:Nat} {s:Spot} {l:List Mn} (hs:qo8 F st G w b s ts l) (h:CI F st μ w0 w) (he:CExt F st μ k w w') (hGG:∀ g,G g→G' g):qo8 F st G' w' b s ts l:=
 ⟨hs.ms,hs.set.ext h he hGG,fun m hm=>(hs.ok m hm).mono he.rd,hs.dis⟩
theorem CExt.below {F:Fix} {st:St} {μ:Spot→Nat} {k:Nat} {w w1 w2:World} (h:CExt F st μ k w w1) (hb:Below w.heap.size w1 w2):CExt F st μ k w w2:=
 ⟨⟨hb.os.trans h.turns.os,hb.tape.trans h.turns.tape,hb.output.trans h.turns.output,⟨Nat.le_trans h.turns.apart.size hb.size,fun b hl hn=>(hb.block b hl).trans (h.turns.apart.block b hl hn)⟩⟩,fun b j v hv=>by
  have hl:=qft hv;obtain⟨cs,T,q1,q2,q3,q4,q5⟩:=qb7 (h.rd _ _ _ hv);exact qc4 ((hb.block b hl).trans q1) q2 q3 q4 q5,fun b s ts hm hc=>(zlb (hb.block b (zj w _ hc))).trans (h.six b s ts hm hc)⟩
theorem qbr {w:World} {b:Nat} {ra:Option Addr} {n rc:Nat} {ea:Option Addr} {m ec:Nat} {tso:Option Nat} (hb:Blk w b 175 (qcd ra n rc ea m ec tso)):rdT w b 1=some (.slice ra n rc)∧rdT w b 2=some (.slice ea m ec)∧w.cell? ⟨b,6,none⟩=some (.pointer (tso.map fun b=>⟨b,0,none⟩))∧w.cell? ⟨b,5,none⟩=some (.bool true)∧w.cell? ⟨b,3,none⟩=some (.pointer none)∧w.cell? ⟨b,0,none⟩=some (.pointer none):=
 ⟨hb.rd (by decide) (by simp) rfl rfl,hb.rd (by decide) (by simp) rfl rfl,by rw[hb.cell];rfl,by rw[hb.cell];rfl,by rw[hb.cell];rfl,by rw[hb.cell];rfl⟩
theorem qip (ms:List Mn):List.Perm (qff ms) ms:=by
 have h1:=(qm9 ms).1.map fun i=>ms.getD i mn0;have h2:(List.range ms.length).map (fun i=>ms.getD i mn0)=ms:=List.ext_getElem (by simp) fun i h1 h2=>by simp[zv,h2]
 rw[h2] at h1;exact h1
theorem qka {ms:List Mn} {m:Mn} (h:m∈qff ms):m∈ms:=(qip ms).mem_iff.1 h
theorem qn8 {ms:List Mn} (h:DisN ms):DisN (qff ms):=((qip ms).pairwise_iff fun h e=>h e.symm).2 h
theorem qgq:∀ {ls:List (List Mn)} {ms:List Mn} {x:Mn},x∈ls.foldl (fun es l=>l.foldl addN es) ms→x∈ms∨∃ l∈ls,x∈l
 | [],ms,x,h => .inl h
 | l::r,ms,x,h=>by
  rcases qgq (ls:=r) h with h|⟨l',h1,h2⟩
  ·rcases qf2 h with h|h
   ·exact .inl h
   ·exact .inr ⟨l,z6 ..,h⟩
  ·exact .inr ⟨l',zy _ h1,h2⟩
theorem qlo:∀ {ls:List (List Mn)} {ms:List Mn},DisN ms→DisN (ls.foldl (fun es l=>l.foldl addN es) ms)
 | [],ms,h=>h
 | l::r,ms,h=>qlo (ls:=r) (qji h)
theorem quf {p:Int} {ms:List Meth} {k:Nat} (h:k∈ordM p ms):k<ms.length:=List.mem_range.1 ((qjc p ms).1.mem_iff.1 h)
theorem qj3 (p:Int) (ms:List Meth):(ordM p ms).length=ms.length:=by simpa using (qjc p ms).1.length_eq
theorem qju (s:Spot):(expl s).length=s.of.methods.length:=by simp[expl,qj3]
theorem qms {st:St} {k x:Nat} {p:Bool} (h:st.ob k=some (p,x)):qbf st k=x:=by simp[qbf,h]
theorem CI.expl {F:Fix} {st:St} {μ:Spot→Nat} {w0 w:World} (h:CI F st μ w0 w) {b:Nat} {s:Spot} (hm:(b,s)∈st.ifs):∀ m∈expl s,MnOk F st (rdT w) m:=fun m hx=>by
 obtain⟨k,hk,rfl⟩:=zkb.1 hx;obtain⟨i,hi⟩:=List.mem_iff_getElem?.1 hk;obtain⟨a,c,h1,h2,h3⟩:=h.meth b s hm;obtain⟨gb,o,x,e1,e2,e3,e4⟩:=h3 i k hi;obtain⟨q1,q2,-⟩:=h.sp b s hm;have hl:=quf hk;refine⟨⟨?_,q1⟩,?_⟩
 ·simp only[zv,zr hl,Option.getD_some];exact q2 _ (z8 hl)
 ·show qel _ (qbf st (s.at_+k)) _ _ _;rw[qms e3];exact e4
theorem CI.msOk {F:Fix} {st:St} {μ:Spot→Nat} {w0 w:World} (h:CI F st μ w0 w) {s:Spot} {l:List Mn} (hs:MS F.W s l):∀ b,(b,s)∈st.ifs→∀ m∈l,MnOk F st (rdT w) m:=by
 induction hs with
 | mk s ls hl _ ih=>
  intro b hb m hm;rcases qgq (qka hm) with hm|⟨l,h1,h2⟩
  ·rcases qf2 hm with hm|hm
   ·cases hm
   ·exact h.expl hb m hm
  ·obtain⟨i,hi,rfl⟩:=List.mem_iff_getElem.1 h1;obtain⟨ea,ec,-,-,q⟩:=h.emb b s hb;obtain⟨gb,o,v,b',-,-,-,q4⟩:=q i (by omega);exact ih i hi b' q4 m h2
theorem MS.dis {W:Wd} {s:Spot} {l:List Mn} (h:MS W s l):DisN l:=by
 cases h with
 | mk _ ls hl _=>exact qn8 (qlo (qji List.Pairwise.nil))
theorem Fix.pk_at {F:Fix} {st:St} {μ:Spot→Nat} {w0 w:World} (h:CI F st μ w0 w) {p:Int} (hp:p=0∨p=1):w.cell? ⟨F.pk p,0,none⟩=some (.string (qbo p)):=by
 rcases hp with rfl|rfl
 ·have:F.pk 0=F.pk0:=rfl;rw[this,h.pk0.apart (qag.keep (S:=fun _=>False) (zp _ w)) (fun h=>h) |>.cell];rfl
 ·have:F.pk 1=F.pk1:=rfl;rw[this,h.pk1.apart (qag.keep (S:=fun _=>False) (zp _ w)) (fun h=>h) |>.cell];rfl
theorem MnOk.cells {F:Fix} {st:St} {w:World} {m:Mn} (h:MnOk F st (rdT w) m):w.cell? ⟨qbf st m.k,1,none⟩=some (ptrV (F.pk m.p))∧w.cell? ⟨qbf st m.k,2,none⟩=some (.string (qas m.n))∧(∃ T cs,Blk w (qbf st m.k) T cs)∧qbf st m.k<w.heap.size:=by
 obtain⟨-,sg,v,T,a,hb,-⟩:=h;have h1:=hb 1 _ rfl;refine⟨qax h1,qax (hb 2 _ rfl),?_,qft h1⟩;obtain⟨cs,T,q,-⟩:=qb7 h1;exact⟨T,cs.toList,by simpa[Blk] using q⟩
theorem MnOk.cell0 {F:Fix} {st:St} {w:World} {m:Mn} (h:MnOk F st (rdT w) m):w.cell? ⟨qbf st m.k,0,none⟩=some (.int .i64 0):=by
 obtain⟨-,sg,v,T,a,hb,-⟩:=h;exact qax (hb 0 _ rfl)
theorem MnOk.id_eq {F:Fix} {st:St} {μ:Spot→Nat} {w0 w:World} (hC:CI F st μ w0 w) {m m':Mn} (h:MnOk F st (rdT w) m) (h':MnOk F st (rdT w) m') (e:qbf st m.k=qbf st m'.k):m.id=m'.id:=by
 obtain⟨a1,a2,-,-⟩:=h.cells;obtain⟨b1,b2,-,-⟩:=h'.cells;rw[e,b1] at a1;rw[e,b2] at a2;have e1:F.pk m'.p=F.pk m.p:=congrArg (fun v=>match v with|some (.pointer (some a))=>a.block|_=>0) a1;have e2:qas m'.n=qas m.n:=by injection a2 with a2;injection a2
 have e3:m'.n=m.n:=Decidable.byContradiction fun hn=>by
  have:=qia h'.1.1 h.1.1 hn;rw[e2] at this;simp at this
 have e4:m'.p=m.p:=by
  have c1:=Fix.pk_at hC h.1.2;have c2:=Fix.pk_at hC h'.1.2;rw[← e1,c2] at c1;injection c1 with c1;injection c1 with c1;rcases h.1.2 with x|x <;> rcases h'.1.2 with y|y <;> rw[x,y] at c1 ⊢ <;> first|rfl|exact absurd c1 (by decide)
 unfold Mn.id;rw[e3,e4]
theorem ents_ok {F:Fix} {st:St} {μ:Spot→Nat} {w0 w w':World} (hC:CI F st μ w0 w) (hK:∀ k T cs,Blk w k T cs→k<w.heap.size→∃ T cs,Blk w' k T cs) {ms:List Mn} (h:∀ m∈ms,MnOk F st (rdT w) m) {m:Mn} (hm:MnOk F st (rdT w) m):
  ∀ x∈ms.map (Mn.ent (qbf st)),((∃ T cs,Blk w' x.f T cs)∧x.f<w.heap.size)∧(x.f=(m.ent (qbf st)).f→x.id=(m.ent (qbf st)).id):=fun x hx=>by
 obtain⟨m',hm',rfl⟩:=zkb.1 hx;obtain⟨-,-,⟨T,cs,q⟩,q2⟩:=(h m' hm').cells;exact⟨⟨hK _ _ _ q q2,q2⟩,fun e=>MnOk.id_eq hC (h m' hm') hm e⟩
theorem Acc.apart {w w':World} {S:Nat→Prop} {B sb ab mb c rm:Nat} {es:List Ent} {m:Option Nat} {a:Option Addr} (h:Acc w B sb ab mb es m a c rm) (ha:qag S w w') (hT:∀ g T cs,Blk w g T cs→T≠175→¬ S g) (hM:∀ g es k,w.heap[g]?=some (.map es k)→¬ S g):Acc w' B sb ab mb es m a c rm:=by
 refine⟨h.sbB.apart ha (hT _ _ _ h.sbB (by decide)),?_,h.abB.apart ha (hT _ _ _ h.abB (by decide)),qab h.own ha fun g hg => ?_,h.row,h.mbB.apart ha (hT _ _ _ h.mbB (by decide)),h.pm.apart ha ?_,h.ge⟩
 ·rcases h.mm with h1|⟨r,h1,h2,h3⟩
  ·exact .inl h1
  ·refine .inr ⟨r,h1,h2.apart ha ?_,h3⟩;obtain⟨es,k,hr,-⟩:=h2;exact hM _ _ _ hr
 ·obtain⟨cs,hb⟩:=qaf h.own hg;exact hT _ _ _ hb (by decide)
 ·obtain⟨es,k,hr,-⟩:=h.pm;exact hM _ _ _ hr
def AccS (sb ab mb c rm n:Nat) (m:Option Nat) (a:Option Addr) (g:Nat):Prop:=g=sb∨m=some g∨g=ab∨(Value.slice a n c).ownBlock=some g∨g=mb∨g=rm
theorem Acc.notS {w:World} {B sb ab mb c rm:Nat} {es:List Ent} {m:Option Nat} {a:Option Addr} (h:Acc w B sb ab mb es m a c rm) {g:Nat} {T:TypeId} {cs:List Value} (hb:Blk w g T cs) (h1:T≠193) (h2:T≠129) (h3:T≠268) (h4:(Value.slice a es.length c).ownBlock≠some g):¬ AccS sb ab mb c rm es.length m a g:=fun hS=>by
 rcases hS with e|e|e|e|e|e
 ·exact hb.tne h.sbB h1 e
 ·rcases h.mm with ⟨e1,-⟩|⟨r,e1,e2,-⟩
  ·rw[e1] at e;cases e
  ·rw[e1] at e;cases e;exact e2.ne hb rfl
 ·exact hb.tne h.abB h2 e
 ·exact h4 e
 ·exact hb.tne h.mbB h3 e
 ·exact h.pm.ne hb e
structure Mid (F:Fix) (st:St) (μ:Spot→Nat) (w0 w:World) (b:Nat) (s:Spot) (ra:Option Addr) (rc:Nat) (ea:Option Addr) (ec:Nat) (G:Nat→Prop) (wr:World) (es:List Mn):Prop where
 mem:(b,s)∈st.ifs
 c0:CI F st μ w0 w
 ci:CI F st μ w0 wr
 ce:CExt F st μ (μ s+1) w wr
 sz:w.heap.size+8≤wr.heap.size
 lt:b<w.heap.size
 ib:Blk wr b 175 (qcd ra s.of.methods.length rc ea s.of.embeds.length ec (some (w.heap.size+1+1)))
 tb:Blk wr (w.heap.size+1+1) 248 [.bool false,.slice none 0 0,.slice (some ⟨w.heap.size+1,0,none⟩) 1 1,.bool false]
 av:AllV wr (.slice (some ⟨w.heap.size+1,0,none⟩) 1 1)
 ok:∀ m∈es,MnOk F st (rdT w) m
 dis:DisN es
 ifs:∀ b' s',(b',s')∈st.ifs→μ s'<μ s+1→b'≠b→IfOk F st G wr b' s'
 Glt:∀ g,G g→g<wr.heap.size
 nts:¬ G (w.heap.size+1+1)
 acc:∃ m a c,Acc wr (w.heap.size+1+1+1+1) (w.heap.size+1+1+1+1) (w.heap.size+1+1+1+1+1) (w.heap.size+1+1+1+1+1+1+1) (es.map (Mn.ent (qbf st))) m a c (w.heap.size+1+1+1+1+1+1)∧∀ g,(Value.slice a (es.map (Mn.ent (qbf st))).length c).ownBlock=some g→¬ G g
section
variable {F:Fix} {st:St} {μ:Spot→Nat} {w0 w wr w':World} {b:Nat} {s:Spot} {ra:Option Addr} {rc:Nat} {ea:Option Addr} {ec:Nat} {G G':Nat→Prop} {es:List Mn}
theorem CI.ifBelow (h:CI F st μ w0 w) (hr:CI F st μ w0 wr) {B:Nat} (hB:w.heap.size≤B) (hb:Below B wr w'):∀ b s,(b,s)∈st.ifs→∃ cs,Blk w' b 175 cs:=fun b s hm=>by
 obtain⟨cs,hc⟩:=hr.ifT b s hm;obtain⟨cs',hc'⟩:=h.ifT b s hm;exact⟨cs,hc.below hb (Nat.lt_of_lt_of_le hc'.lt hB)⟩
theorem Mid.add (h:Mid F st μ w0 w b s ra rc ea ec G wr es) {x:Mn} (hx:MnOk F st (rdT w) x) {m m':Option Nat} {a a':Option Addr} {c c':Nat}
  (hA:Acc wr (w.heap.size+1+1+1+1) (w.heap.size+1+1+1+1) (w.heap.size+1+1+1+1+1) (w.heap.size+1+1+1+1+1+1+1) (es.map (Mn.ent (qbf st))) m a c (w.heap.size+1+1+1+1+1+1)) (hrow:∀ g,(Value.slice a (es.map (Mn.ent (qbf st))).length c).ownBlock=some g→¬ G g)
  (hA':Acc w' (w.heap.size+1+1+1+1) (w.heap.size+1+1+1+1) (w.heap.size+1+1+1+1+1) (w.heap.size+1+1+1+1+1+1+1) ((addN es x).map (Mn.ent (qbf st))) m' a' c' (w.heap.size+1+1+1+1+1+1))
  (hB:Below (w.heap.size+1+1+1+1) wr w') (hTu:qah (AccS (w.heap.size+1+1+1+1) (w.heap.size+1+1+1+1+1) (w.heap.size+1+1+1+1+1+1+1) c (w.heap.size+1+1+1+1+1+1) (es.map (Mn.ent (qbf st))).length m a) wr w')
  (hrow':(Value.slice a' ((addN es x).map (Mn.ent (qbf st))).length c').ownBlock=(Value.slice a (es.map (Mn.ent (qbf st))).length c).ownBlock∨∀ g,(Value.slice a' ((addN es x).map (Mn.ent (qbf st))).length c').ownBlock=some g→wr.heap.size≤g):
  Mid F st μ w0 w b s ra rc ea ec G w' (addN es x):=by
 have hB0:=hB.mono (B':=w.heap.size) (by omega);have hce:=h.ce.below hB0;have hci:CI F st μ w0 w':=h.c0.ext hce (h.c0.ifBelow h.ci (zl _) hB0);have hav:=h.av.apart hTu.apart fun b T cs hb hT=>hA.notS hb (by rcases hT with rfl|rfl <;> decide) (by rcases hT with rfl|rfl <;> decide) (by rcases hT with rfl|rfl <;> decide) fun e=>by
  obtain⟨cs',hc⟩:=qaf hA.own e;exact hb.tne hc (by rcases hT with rfl|rfl <;> decide) rfl
 refine⟨h.mem,h.c0,hci,hce,Nat.le_trans h.sz hB.size,h.lt,h.ib.below hB (by have:=h.lt;omega),h.tb.below hB (by omega),hav,fun m hm => ?_,qqt h.dis,fun b' s' hm hμ hne => ?_,fun g hg=>Nat.lt_of_lt_of_le (h.Glt g hg) hB.size,h.nts,m',a',c',hA',fun g hg hG => ?_⟩
 ·rcases qqr hm with hm|rfl
  ·exact h.ok m hm
  ·exact hx
 ·obtain⟨ra',rc',ea',ec',tso,q1,q2⟩:=h.ifs b' s' hm hμ hne;obtain⟨cs',hc'⟩:=h.c0.ifT b' s' hm;refine⟨ra',rc',ea',ec',tso,q1.below hB0 hc'.lt,?_⟩;rcases q2 with q2|⟨ts,l,q2,q3⟩
  ·exact .inl q2
  ·refine .inr ⟨ts,l,q2,q3.ms,q3.set.apart hTu.apart (fun b T cs hb hT=>hA.notS hb (by rcases hT with rfl|rfl|rfl <;> decide) (by rcases hT with rfl|rfl|rfl <;> decide) (by rcases hT with rfl|rfl|rfl <;> decide) fun e => ?_) (fun g cs hg hb=>hA.notS hb (by decide) (by decide) (by decide) fun e=>hrow g e hg) (fun g h=>h),hci.msOk q3.ms b' hm,q3.dis⟩;obtain⟨cs',hc⟩:=qaf hA.own e;exact hb.tne hc (by rcases hT with rfl|rfl|rfl <;> decide) rfl
 ·rcases hrow' with e|e
  ·exact hrow g (e ▸ hg) hG
  ·have:=e g hg;have:=h.Glt g hG;omega
theorem Mid.turn (h:Mid F st μ w0 w b s ra rc ea ec G wr es) {k:Nat} (hk:k≤μ s) (he:CExt F st μ k wr w') (hci:CI F st μ w0 w') (hI:IfS F st μ G' w' k) (hGG:∀ g,G g→G' g) (hG':∀ g,G' g→G g∨wr.heap.size≤g) (hlt:∀ g,G' g→g<w'.heap.size):Mid F st μ w0 w b s ra rc ea ec G' w' es:=by
 have hno:∀ b' s',(b',s')∈st.ifs→k≤μ s'→¬ ∃ s'',(b',s'')∈st.ifs∧μ s''<k:=fun b' s' hm hl ⟨s'',h1,h2⟩=>by
  rw[h.c0.inj b' s'' s' h1 hm] at h2;omega
 refine⟨h.mem,h.c0,hci,h.ce.trans (he.mono (by omega)),Nat.le_trans h.sz he.turns.apart.size,h.lt,h.ib.apart he.turns.apart (hno b s h.mem hk),h.tb.apart he.turns.apart (h.ci.notIf h.tb (by decide)),h.av.apart he.turns.apart fun b T cs hb hT=>h.ci.notIf hb (by rcases hT with rfl|rfl <;> decide),h.ok,h.dis,fun b' s' hm hμ hne => ?_,hlt,fun hg=>by
  rcases hG' _ hg with h1|h1
  ·exact h.nts h1
  ·have:=h.sz;omega,?_⟩
 ·by_cases hl:μ s'<k
  ·exact hI b' s' hm hl
  ·obtain⟨ra',rc',ea',ec',tso,q1,q2⟩:=h.ifs b' s' hm hμ hne;refine⟨ra',rc',ea',ec',tso,q1.apart he.turns.apart (hno b' s' hm (by omega)),?_⟩;rcases q2 with q2|⟨ts,l,q2,q3⟩
   ·exact .inl q2
   ·exact .inr ⟨ts,l,q2,q3.ext h.ci he hGG⟩
 ·obtain⟨m,a,c,hA,hr⟩:=h.acc;refine⟨m,a,c,hA.apart he.turns.apart (fun g T cs hb hT=>h.ci.notIf hb hT) (fun g es k hm=>fun⟨s',h1,h2⟩ => ?_),fun g hg hG => ?_⟩
  ·obtain⟨cs,hc⟩:=h.ci.ifT g s' h1;exact hc.ne_map hm rfl
  ·rcases hG' g hG with h1|h1
   ·exact hr g hg h1
   ·obtain⟨cs,hc⟩:=qaf hA.own hg;have:=hc.lt;omega
theorem Mid.keep (h:Mid F st μ w0 w b s ra rc ea ec G wr es) (hB:Below wr.heap.size wr w'):Mid F st μ w0 w b s ra rc ea ec G w' es:=
 h.turn (k:=0) (Nat.zero_le _) (CExt.keep hB) (h.ci.ext (CExt.keep (k:=0) hB) fun b s hm=>by
  obtain⟨cs,hc⟩:=h.ci.ifT b s hm;exact⟨cs,hc.keep hB⟩) (fun _ _ _ h=>absurd h (Nat.not_lt_zero _)) (fun _ h=>h) (fun _ h => .inl h) fun g hg=>Nat.lt_of_lt_of_le (h.Glt g hg) hB.size
end
theorem qpl {w:World} {T:TypeId} {a:Option Addr} {c:Nat} {fs:List Nat} (h:w.ownsRow 0 T 1 (.slice a fs.length c) fs.length (qa7 fs)) {i:Nat} (hi:i<fs.length):∃ g,a=some ⟨g,0,none⟩∧w.cell? ⟨g,i,none⟩=some (ptrV fs[i]):=by
 obtain⟨-,⟨he,hn⟩|⟨g,cap,cur,he,-,hb,h1,h2,h3,h4⟩⟩:=h
 ·omega
 ·cases he;refine⟨g,rfl,?_⟩;have hB:Blk w g T cur.toList:=by simpa[Blk] using hb
  rw[hB.cell];have:=congrArg (fun l=>l[i]?) h4;simp only[Nat.mul_one,List.getElem?_take,hi,if_true] at this;rw[this];simp[qa7,hi]
theorem qlp.get {F:Fix} {st:St} {G:Nat→Prop} {w:World} {b:Nat} {s:Spot} {ts:Nat} {l:List Mn} (h:qlp F st G w b s ts l):∃ a c tv,Blk w ts 248 [.bool false,.slice a l.length c,tv,.bool false]∧w.ownsRow 0 106 1 (.slice a l.length c) l.length (qa7 (l.map fun m=>qbf st m.k))∧AllV w tv∧(∀ g,(Value.slice a l.length c).ownBlock=some g→G g)∧MS F.W s l:=by
 obtain⟨ra,rc,ea,ec,h1,h2⟩:=h;obtain⟨a,c,tv,q1,q2,q3,q4,-⟩:=h2.set;simp only[List.length_map] at q1 q2 q4;exact⟨a,c,tv,q1,q2,q3,q4,h2.ms⟩
theorem Mid.done {F:Fix} {st:St} {μ:Spot→Nat} {w0 w wr w':World} {b:Nat} {s:Spot} {ra:Option Addr} {rc:Nat} {ea:Option Addr} {ec:Nat} {G:Nat→Prop} {es:List Mn} (h:Mid F st μ w0 w b s ra rc ea ec G wr es) {a:Option Addr} {c:Nat} {tv:Value}
  (hrB:∀ g,(Value.slice a es.length c).ownBlock=some g→w.heap.size+1+1+1+1≤g) {xs:List Value} (hown0:wr.ownsRow 0 106 1 (.slice a es.length c) es.length xs) (hrow:∀ g,(Value.slice a es.length c).ownBlock=some g→¬ G g)
  (hV:AllV wr tv) (hMS:MS F.W s (qff es)) (hTu:qah (fun g=>g=w.heap.size+1+1∨(Value.slice a es.length c).ownBlock=some g) wr w') (htb:Blk w' (w.heap.size+1+1) 248 [.bool false,.slice a es.length c,tv,.bool false])
  (hown:w'.ownsRow 0 106 1 (.slice a es.length c) es.length (qa7 ((qff es).map fun m=>qbf st m.k))):
  ∃ G'':Nat→Prop,qlp F st G'' w' b s (w.heap.size+1+1) (qff es)∧CExt F st μ (μ s+1) w w'∧CI F st μ w0 w'∧IfS F st μ G'' w' (μ s+1)∧(∀ g,G g→G'' g)∧(∀ g,G'' g→G g∨w.heap.size≤g)∧∀ g,G'' g→g<w'.heap.size:=by
 have hB:Below (w.heap.size+1+1) wr w':=hTu.below (by have:=h.sz;omega) fun g hg=>by
  rcases hg with rfl|hg
  ·exact zl _
  ·have:=hrB g hg;omega
 have hB0:=hB.mono (B':=w.heap.size) (by omega);have hce:=h.ce.below hB0;have hci:CI F st μ w0 w':=h.c0.ext hce (h.c0.ifBelow h.ci (zl _) hB0);have hlen:(qff es).length=es.length:=(qip es).length_eq;have hnS:∀ k T cs,Blk wr k T cs→k≠w.heap.size+1+1→T≠106→¬ (k=w.heap.size+1+1∨(Value.slice a es.length c).ownBlock=some k):=fun k T cs hb hk hT e=>by
  rcases e with e|e
  ·exact hk e
  ·obtain⟨cs',hc⟩:=qaf hown0 e;exact hb.tne hc hT rfl
 have hterm:∀ v,AllV wr v→AllV w' v:=fun v hv=>hv.apart hTu.apart fun k T cs hb hT=>hnS k T cs hb (fun e=>(e ▸ hb).tne h.tb (by rcases hT with rfl|rfl <;> decide) rfl) (by rcases hT with rfl|rfl <;> decide);have hset:qo8 F st (fun g=>G g∨g=w.heap.size+1+1∨(Value.slice a es.length c).ownBlock=some g) w' b s (w.heap.size+1+1) (qff es):=
  ⟨hMS,⟨a,c,tv,by simpa[hlen] using htb,by simpa[hlen] using hown,hterm tv hV,fun g hg => .inr (.inr (by simpa[hlen] using hg)),.inr (.inl rfl)⟩,hci.msOk hMS b h.mem,qn8 h.dis⟩
 have hib:=h.ib.below hB (by have:=h.lt;omega);refine⟨fun g=>G g∨g=w.heap.size+1+1∨(Value.slice a es.length c).ownBlock=some g,⟨ra,rc,ea,ec,hib,hset⟩,hce,hci,fun b' s' hm hμ => ?_,fun g h => .inl h,fun g hg => ?_,fun g hg => ?_⟩
 ·by_cases hne:b'=b
  ·subst hne;have e:=h.c0.inj _ _ _ hm h.mem;subst e;exact⟨ra,rc,ea,ec,some _,hib,.inr ⟨_,_,rfl,hset⟩⟩
  ·obtain⟨ra',rc',ea',ec',tso,q1,q2⟩:=h.ifs b' s' hm hμ hne;obtain⟨cs',hc'⟩:=h.c0.ifT b' s' hm;refine⟨ra',rc',ea',ec',tso,q1.below hB0 hc'.lt,?_⟩;rcases q2 with q2|⟨ts,l,q2,q3⟩
   ·exact .inl q2
   ·refine .inr ⟨ts,l,q2,q3.ms,?_,hci.msOk q3.ms b' hm,q3.dis⟩;obtain⟨a3,c3,tv3,z1,z2,z3,z4,z5⟩:=q3.set;refine⟨a3,c3,tv3,z1.apart hTu.apart (hnS _ _ _ z1 (fun e=>h.nts (e ▸ z5)) (by decide)),qab z2 hTu.apart fun g hg e => ?_,hterm _ z3,fun g hg => .inl (z4 g hg),.inl z5⟩;rcases e with e|e
    ·exact h.nts (e ▸ z4 g hg)
    ·exact hrow g e (z4 g hg)
 ·rcases hg with hg|rfl|hg
  ·exact .inl hg
  ·exact .inr (by omega)
  ·have:=hrB g hg;exact .inr (by omega)
 ·rcases hg with hg|rfl|hg
  ·exact Nat.lt_of_lt_of_le (h.Glt g hg) hTu.apart.size
  ·exact htb.lt
  ·obtain⟨cs,hc⟩:=qaf hown0 hg;exact Nat.lt_of_lt_of_le hc.lt hTu.apart.size
theorem Mid.sort {F:Fix} {st:St} {μ:Spot→Nat} {w0 w wr wx:World} {b:Nat} {s:Spot} {ra:Option Addr} {rc:Nat} {ea:Option Addr} {ec:Nat} {G:Nat→Prop} {es:List Mn} (h:Mid F st μ w0 w b s ra rc ea ec G wr es) {m:Option Nat} {a:Option Addr} {c:Nat}
  (hA:Acc wr (w.heap.size+1+1+1+1) (w.heap.size+1+1+1+1) (w.heap.size+1+1+1+1+1) (w.heap.size+1+1+1+1+1+1+1) (es.map (Mn.ent (qbf st))) m a c (w.heap.size+1+1+1+1+1+1)) (hwx:wx=wr.setCell ⟨w.heap.size+1+1,3,none⟩ (.bool false)):
  Calls prog 93 #[.slice a es.length c] wx fun e w'=>e = .returned (.tuple #[])∧Hid (qah (fun g=>(Value.slice a es.length c).ownBlock=some g) wx w'∧w'.ownsRow 0 106 1 (.slice a es.length c) es.length (qa7 ((qff es).map fun m=>qbf st m.k))∧Blk w' b 175 (qcd ra s.of.methods.length rc ea s.of.embeds.length ec (some (w.heap.size+1+1)))∧Blk w' (w.heap.size+1+1) 248 [.bool false,.slice none 0 0,.slice (some ⟨w.heap.size+1,0,none⟩) 1 1,.bool false]∧Blk w' (w.heap.size+1+1+1+1+1) 129 [.slice a es.length c]):=by
 have hrB:∀ g,(Value.slice a es.length c).ownBlock=some g→w.heap.size+1+1+1+1≤g:=by simpa using hA.row
 have hTx:qah (fun g=>g=w.heap.size+1+1) wr wx:=hwx ▸ qah.setCell (fun g=>g=w.heap.size+1+1) wr (a:=⟨w.heap.size+1+1,3,none⟩) rfl _;have hown0:wr.ownsRow 0 106 1 (.slice a es.length c) es.length (qa7 (es.map fun m=>qbf st m.k)):=by simpa[Function.comp_def,Mn.ent] using hA.own
 have hownx:=qab hown0 hTx.apart fun g hg e=>by have:=hrB g hg;omega
 have hBx:Below (w.heap.size+1+1) wr wx:=hTx.below (by have:=h.sz;omega) fun g hg=>by omega
 have hB0:=hBx.mono (B':=w.heap.size) (by omega);have hce:=h.ce.below hB0;have hci:CI F st μ w0 wx:=h.c0.ext hce (h.c0.ifBelow h.ci (zl _) hB0);have hw0:w0.heap.size≤w.heap.size:=h.c0.below.size;obtain⟨fs,hfs⟩:∃ fs,fs=es.map fun m=>qbf st m.k:=⟨_,rfl⟩;have hfl:fs.length=es.length:=by rw[hfs];simp
 have hget:∀ i (hi:i<fs.length),∃ hi':i<es.length,fs[i]=qbf st es[i].k:=fun i hi=>⟨by omega,by simp[hfs]⟩;have hO:∀ i (hi:i<fs.length),qgt wx fs[i] (F.pk (es.getD i mn0).p) (es.getD i mn0).p (es.getD i mn0).n∧(Value.slice a es.length c).ownBlock≠some fs[i]∧(Value.slice a es.length c).ownBlock≠some (F.pk (es.getD i mn0).p):=fun i hi=>by
  obtain⟨hi',e⟩:=hget i hi;have e2:es.getD i mn0=es[i]:=by simp[zv,zr hi']
  have ho:=h.ok _ (z8 hi');have hox:=ho.mono hce.rd;rw[e,e2];refine⟨⟨hox.cells.1,hox.cells.2.1,Fix.pk_at hci ho.1.2,ho.1.1,ho.1.2,hox.cells.2.2.1⟩,fun hg => ?_,fun hg => ?_⟩
  ·have:=hrB _ hg;have:=ho.cells.2.2.2;omega
  ·have:=hrB _ hg;have:=zj w _ (Fix.pk_at h.c0 ho.1.2);simp only at this;omega
 have hnd:fs.Nodup:=by
  rw[hfs];unfold List.Nodup;rw[List.pairwise_map];exact h.dis.imp_of_mem fun {x y} hx hy hxy e=>hxy (MnOk.id_eq h.c0 (h.ok x hx) (h.ok y hy) e)
 have hl32:=qjf h.dis fun m hm=>(h.ok m hm).1;rw[← hfs] at hown0 hownx;have HS:=qgi a c fs (fun i=>F.pk (es.getD i mn0).p) (fun i=>(es.getD i mn0).p) (fun i=>(es.getD i mn0).n) w0 wx h.ci.tabs hci.below (fun g hg=>by have:=hrB g (by rw[← hfl];exact hg);omega) (by rw[hfl];exact hownx) (fun i hi=>by rw[hfl];exact hO i hi) hnd (by omega);rw[hfl] at HS;refine HS.mono ?_;rintro e w' ⟨rfl,π,q1,q2,q3⟩;have hnr:∀ k T cs,Blk wx k T cs→T≠106→¬ (Value.slice a es.length c).ownBlock=some k:=fun k T cs hb hT e=>by
  obtain⟨cs',hc⟩:=qaf hownx e;exact hb.tne hc hT rfl
 have hib:=h.ib.apart hTx.apart (show ¬ b=w.heap.size+1+1 by have:=h.lt;omega);have htb:Blk wx (w.heap.size+1+1) 248 [.bool false,.slice none 0 0,.slice (some ⟨w.heap.size+1,0,none⟩) 1 1,.bool false]:=by
  rw[hwx];exact h.tb.set 3 (.bool false)
 have hab:=hA.abB.apart hTx.apart (show ¬ w.heap.size+1+1+1+1+1=w.heap.size+1+1 by omega);refine⟨rfl,hid ⟨q2,?_,hib.apart q2.apart (hnr _ _ _ hib (by decide)),htb.apart q2.apart (hnr _ _ _ htb (by decide)),by simpa using hab.apart q2.apart (hnr _ _ _ hab (by decide))⟩⟩;have hπ:=ordN_of h.dis (fun m hm=>(h.ok m hm).1) q1;rw[hπ] at q3;have:((qff es).map fun m=>qbf st m.k)=(ordN es).map fun i=>fs.getD i 0:=by
  unfold qff;rw[List.map_map,hfs];apply List.map_congr_left;intro i hi;have hi':=List.mem_range.1 ((qm9 es).1.mem_iff.1 hi);simp[zv,zr hi']
 rw[this];exact q3
theorem Mid.call {F:Fix} {st:St} {μ:Spot→Nat} {w0 w wr:World} {b:Nat} {s:Spot} {ra:Option Addr} {rc:Nat} {ea:Option Addr} {ec:Nat} {G:Nat→Prop} {es:List Mn} (h:Mid F st μ w0 w b s ra rc ea ec G wr es) {x:Mn} (hx:MnOk F st (rdT w) x) (ex:Bool):
  Calls prog 136 #[.int .i64 0,ptrV (qbf st x.k),.bool ex,ptrV (w.heap.size+1+1+1+1),ptrV (w.heap.size+1+1+1+1+1),ptrV (w.heap.size+1+1+1+1+1+1+1)] wr fun z w'=>z = .returned (.tuple #[])∧Hid (Mid F st μ w0 w b s ra rc ea ec G w' (addN es x)∧wr.heap.size≤w'.heap.size∧(∀ v,AllV wr v→AllV w' v)∧(∀ ts cs,Blk wr ts 248 cs→Blk w' ts 248 cs)∧∀ a c n xs,wr.ownsRow 0 106 1 (.slice a n c) n xs→(∀ g,(Value.slice a n c).ownBlock=some g→G g)→w'.ownsRow 0 106 1 (.slice a n c) n xs):=by
 obtain⟨m,a,c,hA,hrow⟩:=h.acc;have hT:Tabs wr:=h.ci.tabs.below h.ci.below;have hx':MnOk F st (rdT wr) x:=hx.mono h.ce.rd;obtain⟨x1,x2,⟨T,cs,xb⟩,xl⟩:=hx'.cells;have hl32:=qjf h.dis fun m hm=>(h.ok m hm).1;have he:=ents_ok h.c0 (w':=wr) (fun k T cs hb hl => ?_) h.ok hx
 ·refine(qwm (w.heap.size+1+1+1+1) (w.heap.size+1+1+1+1) (w.heap.size+1+1+1+1+1) (w.heap.size+1+1+1+1+1+1+1) (F.pk x.p) (w.heap.size+1+1+1+1+1+1) c (es.map (Mn.ent (qbf st))) (x.ent (qbf st)) m a ex wr hT hA (by have:=h.sz;omega) hx.1.1 hx.1.2 x1 x2 (Fix.pk_at h.ci hx.1.2) T cs xb (by have:=hx.cells.2.2.2;simp only[Mn.ent];omega) (fun y hy=>⟨⟨(he y hy).1.1,by have:=(he y hy).1.2;omega⟩,(he y hy).2⟩) (by simp;omega)).mono ?_;rintro z w' ⟨rfl,m',a',c',hq⟩;obtain⟨q1,q2,q3,q4⟩:=hq.out;rw[← qwq] at q1 q4;have hS:∀ b T cs,Blk wr b T cs→T=248∨T=273∨T=275→¬ AccS (w.heap.size+1+1+1+1) (w.heap.size+1+1+1+1+1) (w.heap.size+1+1+1+1+1+1+1) c (w.heap.size+1+1+1+1+1+1) (es.map (Mn.ent (qbf st))).length m a b:=fun b T cs hb hT=>hA.notS hb (by rcases hT with rfl|rfl|rfl <;> decide) (by rcases hT with rfl|rfl|rfl <;> decide) (by rcases hT with rfl|rfl|rfl <;> decide) fun e=>by
   obtain⟨cs',hc⟩:=qaf hA.own e;exact hb.tne hc (by rcases hT with rfl|rfl|rfl <;> decide) rfl
  exact⟨rfl,hid ⟨h.add hx hA hrow q1 q2 q3 q4,q2.size,fun v hv=>hv.apart q3.apart fun b T cs hb hT=>hS b T cs hb (.inr hT),fun ts cs hs=>hs.apart q3.apart (hS _ _ _ hs (.inl rfl)),fun a' c' n xs hs hg=>qab hs q3.apart fun g e=>hA.notS (qaf hs e).choose_spec (by decide) (by decide) (by decide) fun e2=>hrow g e2 (hg g e)⟩⟩
 ·by_cases e:∃ s',(k,s')∈st.ifs∧μ s'<μ s+1
  ·obtain⟨s',h1,-⟩:=e;obtain⟨cs,hc⟩:=h.ci.ifT k s' h1;exact⟨_,cs,hc⟩
  ·exact⟨T,cs,hb.apart h.ce.turns.apart e⟩
