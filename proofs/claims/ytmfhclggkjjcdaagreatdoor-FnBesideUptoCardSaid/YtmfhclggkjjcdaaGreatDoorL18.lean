import Derived.Test.YtmfhclggkjjcdaaGreatDoorL17
import Derived.Test.YtmfhclggkjjcdaaGreatDoorL02
set_option linter.all false
set_option maxHeartbeats 1000000
namespace Go.Proofs.YtmfhclggkjjcdaaGreatDoor
open Go Go.RowKit Go.Proofs.Tryz
set_option maxRecDepth 100000
theorem qap {f:FuncId} {args:Array Value} {w:World} {v:Ending} {Q:Ending→World→Prop} (h:Calls prog f args w fun e w'=>e=v∧w'=w) (hQ:Q v w):Calls prog f args w Q:=
 h.mono fun e w' ⟨h1,h2⟩=>by rw[h1,h2];exact hQ
theorem qg7 (w:World) (x y:TypeId×Nat) (hx:TyIn w x) (hy:TyIn w y):(binOp .eql 63 (tyV x) (tyV y)).run prog w = .ok (.bool (x==y)) w:=by
 have h:=qiy w x y hx hy;simp only[binOp];simp[h]
theorem idSame (cp x:Nat) (T:TypeId) (v1 v2:Value) (w:World) (h1:qbs w v1 (.iface T (ptrV x))) (h2:qbs w v2 (.iface T (ptrV x))) (hin:TyIn w (T,x)) (p:Option Addr):
  Calls prog 125 #[ptrV cp,v1,v2,.pointer p] w fun e w'=>e = .returned (.bool true)∧w'=w:=by
 have hx:=hid (qan _ _ w h1);have hy:=hid (qan _ _ w h2);have he:=qg7 w (T,x) (T,x) hin hin;simp only[BEq.rfl] at he;have heg:=fun p q=>qc9 T T (ptrV x) (ptrV x) 63 p q w;clear h1 h2 hin;have tok:True:=trivial;go_enter func125,ntmps125
 go_wp2_with (first
  | (go_at_call 86;have _t:=tok;clear _t tok;refine hx.out.mono ?_;rintro e w' ⟨rfl,rfl⟩)
  | (go_at_call 86;refine hy.out.mono ?_;rintro e w' ⟨rfl,rfl⟩))
 go_ret
 exact⟨rfl,rfl⟩
section
variable (cp x y:Nat) (U:TypeId) (v1 v2:Value) (w:World) (hcp:w.cell? ⟨cp,1,none⟩=some (.bool false)) (p:Option Addr)
include hcp
theorem qre (hU:U≠156) (h1:qbs w v1 (.iface 156 (ptrV x))) (h2:qbs w v2 (.iface U (ptrV y))) (hi1:TyIn w (156,x)) (hi2:TyIn w (U,y)):
  Calls prog 125 #[ptrV cp,v1,v2,.pointer p] w fun e w'=>e = .returned (.bool false)∧w'=w:=by
 have hx:=hid (qan _ _ w h1);have hy:=hid (qan _ _ w h2);have he:=qg7 w (156,x) (U,y) hi1 hi2;have hne:((156,x)==(U,y))=false:=by simp;intro e;exact absurd e.symm hU
 rw[hne] at he;have heg:=fun p q=>qc9 156 U (ptrV x) (ptrV y) 63 p q w;have hcl:=zj w _ hcp;clear h1 h2 hi1 hi2 hne;have tok:True:=trivial;have t1:=fun v w=>qb5 underlying156 v w;have t2:=fun v w=>qaw (T:=U) underlying156 Tryz.zs273 hU v w;go_enter func125,ntmps125
 go_wp2_with (first
  | (go_at_call 86;have _t:=tok;clear _t tok;refine hx.out.mono ?_;rintro e w' ⟨rfl,rfl⟩)
  | (go_at_call 86;refine hy.out.mono ?_;rintro e w' ⟨rfl,rfl⟩))
 go_ret
 exact⟨rfl,rfl⟩
theorem qrw (hU:U≠147) (h1:qbs w v1 (.iface 147 (ptrV x))) (h2:qbs w v2 (.iface U (ptrV y))) (hi1:TyIn w (147,x)) (hi2:TyIn w (U,y)):
  Calls prog 125 #[ptrV cp,v1,v2,.pointer p] w fun e w'=>e = .returned (.bool false)∧w'=w:=by
 have hx:=hid (qan _ _ w h1);have hy:=hid (qan _ _ w h2);have he:=qg7 w (147,x) (U,y) hi1 hi2;have hne:((147,x)==(U,y))=false:=by simp;intro e;exact absurd e.symm hU
 rw[hne] at he;have heg:=fun p q=>qc9 147 U (ptrV x) (ptrV y) 63 p q w;have hcl:=zj w _ hcp;clear h1 h2 hi1 hi2 hne;have tok:True:=trivial;have t1:=fun v w=>qaw (T:=147) underlying156 Tryz.zs273 (by decide) v w;have t2:=fun v w=>qaw (T:=147) underlying300 Tryz.zsArr (by decide) v w;have t3:=fun v w=>qb5 underlying147 v w;have t4:=fun v w=>qaw (T:=U) underlying147 Tryz.zsSl hU v w;go_enter func125,ntmps125
 go_wp2_with (first
  | (go_at_call 86;have _t:=tok;clear _t tok;refine hx.out.mono ?_;rintro e w' ⟨rfl,rfl⟩)
  | (go_at_call 86;refine hy.out.mono ?_;rintro e w' ⟨rfl,rfl⟩))
 go_ret
 exact⟨rfl,rfl⟩
theorem qpx (hU:U≠153) (h1:qbs w v1 (.iface 153 (ptrV x))) (h2:qbs w v2 (.iface U (ptrV y))) (hi1:TyIn w (153,x)) (hi2:TyIn w (U,y)):
  Calls prog 125 #[ptrV cp,v1,v2,.pointer p] w fun e w'=>e = .returned (.bool false)∧w'=w:=by
 have hx:=hid (qan _ _ w h1);have hy:=hid (qan _ _ w h2);have he:=qg7 w (153,x) (U,y) hi1 hi2;have hne:((153,x)==(U,y))=false:=by simp;intro e;exact absurd e.symm hU
 rw[hne] at he;have heg:=fun p q=>qc9 153 U (ptrV x) (ptrV y) 63 p q w;have hcl:=zj w _ hcp;clear h1 h2 hi1 hi2 hne;have tok:True:=trivial;have t1:=fun v w=>qaw (T:=153) underlying156 Tryz.zs273 (by decide) v w;have t2:=fun v w=>qaw (T:=153) underlying300 Tryz.zsArr (by decide) v w;have t3:=fun v w=>qaw (T:=153) underlying147 Tryz.zsSl (by decide) v w;have t4:=fun v w=>qb5 underlying153 v w;have t5:=fun v w=>qaw (T:=U) underlying153 Tryz.zsSt hU v w;go_enter func125,ntmps125
 go_wp2_with (first
  | (go_at_call 86;have _t:=tok;clear _t tok;refine hx.out.mono ?_;rintro e w' ⟨rfl,rfl⟩)
  | (go_at_call 86;refine hy.out.mono ?_;rintro e w' ⟨rfl,rfl⟩))
 go_ret
 exact⟨rfl,rfl⟩
theorem qw0 (hU:U≠145) (h1:qbs w v1 (.iface 145 (ptrV x))) (h2:qbs w v2 (.iface U (ptrV y))) (hi1:TyIn w (145,x)) (hi2:TyIn w (U,y)):
  Calls prog 125 #[ptrV cp,v1,v2,.pointer p] w fun e w'=>e = .returned (.bool false)∧w'=w:=by
 have hx:=hid (qan _ _ w h1);have hy:=hid (qan _ _ w h2);have he:=qg7 w (145,x) (U,y) hi1 hi2;have hne:((145,x)==(U,y))=false:=by simp;intro e;exact absurd e.symm hU
 rw[hne] at he;have heg:=fun p q=>qc9 145 U (ptrV x) (ptrV y) 63 p q w;have hcl:=zj w _ hcp;clear h1 h2 hi1 hi2 hne;have tok:True:=trivial;have t1:=fun v w=>qaw (T:=145) underlying156 Tryz.zs273 (by decide) v w;have t2:=fun v w=>qaw (T:=145) underlying300 Tryz.zsArr (by decide) v w;have t3:=fun v w=>qaw (T:=145) underlying147 Tryz.zsSl (by decide) v w;have t4:=fun v w=>qaw (T:=145) underlying153 Tryz.zsSt (by decide) v w;have t5:=fun v w=>qb5 underlying145 v w;have t6:=fun v w=>qaw (T:=U) underlying145 Tryz.zsPt hU v w;go_enter func125,ntmps125
 go_wp2_with (first
  | (go_at_call 86;have _t:=tok;clear _t tok;refine hx.out.mono ?_;rintro e w' ⟨rfl,rfl⟩)
  | (go_at_call 86;refine hy.out.mono ?_;rintro e w' ⟨rfl,rfl⟩))
 go_ret
 exact⟨rfl,rfl⟩
theorem qry (hU:U≠112) (h1:qbs w v1 (.iface 112 (ptrV x))) (h2:qbs w v2 (.iface U (ptrV y))) (hi1:TyIn w (112,x)) (hi2:TyIn w (U,y)):
  Calls prog 125 #[ptrV cp,v1,v2,.pointer p] w fun e w'=>e = .returned (.bool false)∧w'=w:=by
 have hx:=hid (qan _ _ w h1);have hy:=hid (qan _ _ w h2);have he:=qg7 w (112,x) (U,y) hi1 hi2;have hne:((112,x)==(U,y))=false:=by simp;intro e;exact absurd e.symm hU
 rw[hne] at he;have heg:=fun p q=>qc9 112 U (ptrV x) (ptrV y) 63 p q w;have hcl:=zj w _ hcp;clear h1 h2 hi1 hi2 hne;have tok:True:=trivial;have t1:=fun v w=>qaw (T:=112) underlying156 Tryz.zs273 (by decide) v w;have t2:=fun v w=>qaw (T:=112) underlying300 Tryz.zsArr (by decide) v w;have t3:=fun v w=>qaw (T:=112) underlying147 Tryz.zsSl (by decide) v w;have t4:=fun v w=>qaw (T:=112) underlying153 Tryz.zsSt (by decide) v w;have t5:=fun v w=>qaw (T:=112) underlying145 Tryz.zsPt (by decide) v w;have t6:=fun v w=>qaw (T:=112) underlying197 Tryz.zsTu (by decide) v w;have t7:=fun v w=>qaw (T:=112) underlying162 Tryz.zsSg (by decide) v w;have t8:=fun v w=>qaw (T:=112) underlying271 Tryz.zsUn (by decide) v w;have t9:=fun v w=>qb5 underlying112 v w;have t10:=fun v w=>qaw (T:=U) underlying112 Tryz.zsIf hU v w;go_enter func125,ntmps125
 go_wp2_with (first
  | (go_at_call 86;have _t:=tok;clear _t tok;refine hx.out.mono ?_;rintro e w' ⟨rfl,rfl⟩)
  | (go_at_call 86;refine hy.out.mono ?_;rintro e w' ⟨rfl,rfl⟩))
 go_ret
 exact⟨rfl,rfl⟩
theorem qrd (hU:U≠98) (h1:qbs w v1 (.iface 98 (ptrV x))) (h2:qbs w v2 (.iface U (ptrV y))) (hi1:TyIn w (98,x)) (hi2:TyIn w (U,y)):
  Calls prog 125 #[ptrV cp,v1,v2,.pointer p] w fun e w'=>e = .returned (.bool false)∧w'=w:=by
 have hn:=hid (qgm (.iface U (ptrV y)) U ⟨y,0,none⟩ w hU ⟨h2.1,.inl rfl⟩);have hx:=hid (qan _ _ w h1);have hy:=hid (qan _ _ w h2);have he:=qg7 w (98,x) (U,y) hi1 hi2;have hne:((98,x)==(U,y))=false:=by simp;intro e;exact absurd e.symm hU
 rw[hne] at he;have heg:=fun p q=>qc9 98 U (ptrV x) (ptrV y) 63 p q w;have hcl:=zj w _ hcp;clear h1 h2 hi1 hi2 hne;have tok:True:=trivial;have t1:=fun v w=>qaw (T:=98) underlying156 Tryz.zs273 (by decide) v w;have t2:=fun v w=>qaw (T:=98) underlying300 Tryz.zsArr (by decide) v w;have t3:=fun v w=>qaw (T:=98) underlying147 Tryz.zsSl (by decide) v w;have t4:=fun v w=>qaw (T:=98) underlying153 Tryz.zsSt (by decide) v w;have t5:=fun v w=>qaw (T:=98) underlying145 Tryz.zsPt (by decide) v w;have t6:=fun v w=>qaw (T:=98) underlying197 Tryz.zsTu (by decide) v w;have t7:=fun v w=>qaw (T:=98) underlying162 Tryz.zsSg (by decide) v w;have t8:=fun v w=>qaw (T:=98) underlying271 Tryz.zsUn (by decide) v w;have t9:=fun v w=>qaw (T:=98) underlying112 Tryz.zsIf (by decide) v w;have t10:=fun v w=>qaw (T:=98) underlying311 Tryz.zsMp (by decide) v w;have t11:=fun v w=>qaw (T:=98) underlying315 Tryz.zsCh (by decide) v w;have t12:=fun v w=>qb5 underlying98 v w;go_enter func125,ntmps125
 go_wp2_with (first
  | (go_at_call 86;have _t:=tok;clear _t tok;refine hx.out.mono ?_;rintro e w' ⟨rfl,rfl⟩)
  | (go_at_call 86;refine hy.out.mono ?_;rintro e w' ⟨rfl,rfl⟩)
  | (go_at_call 61;refine hn.out.mono ?_;rintro e w' ⟨rfl,rfl⟩))
 go_ret
 exact⟨rfl,rfl⟩
theorem idBasic (hne:x≠y) (j k:Int) (b:Bool) (hb:(j==k)=b) (h1:qbs w v1 (.iface 156 (ptrV x))) (h2:qbs w v2 (.iface 156 (ptrV y))) (hi1:TyIn w (156,x)) (hi2:TyIn w (156,y))
  (hj:w.cell? ⟨x,0,none⟩=some (.int .i64 j)) (hk:w.cell? ⟨y,0,none⟩=some (.int .i64 k)):
  Calls prog 125 #[ptrV cp,v1,v2,.pointer p] w (qa2 (.bool b) w):=by
 have hx:=hid (qan _ _ w h1);have hy:=hid (qan _ _ w h2);have he:=qg7 w (156,x) (156,y) hi1 hi2;have hne2:((156,x)==(156,y))=false:=by simpa using hne
 rw[hne2] at he;have heg:=fun p q=>qc9 156 156 (ptrV x) (ptrV y) 63 p q w;have hcl:=zj w _ hcp;clear h1 h2 hi1 hi2 hne hne2;have tok:True:=trivial;have t1:=fun v w=>qb5 underlying156 v w;have hxl:=zj w _ hj;have hyl:=zj w _ hk;go_enter func125,ntmps125
 go_wp2_with (first
  | (go_at_call 86;have _t:=tok;clear _t tok;refine hx.out.mono ?_;rintro e w' ⟨rfl,rfl⟩)
  | (go_at_call 86;refine hy.out.mono ?_;rintro e w' ⟨rfl,rfl⟩))
 go_quiet (fail)
 go_wp2_with fail
 go_ret
 exact⟨by simp[hb],⟨rfl,rfl,rfl,zl _,fun _ _=>rfl⟩⟩
theorem idSlice (hne:x≠y) (b:Bool) (e1 e2:Value) (h1:qbs w v1 (.iface 147 (ptrV x))) (h2:qbs w v2 (.iface 147 (ptrV y))) (hi1:TyIn w (147,x)) (hi2:TyIn w (147,y))
  (hj:w.cell? ⟨x,0,none⟩=some e1) (hk:w.cell? ⟨y,0,none⟩=some e2)
  (ih:∀ w',Below w.heap.size w w'→Calls prog 125 #[ptrV cp,e1,e2,.pointer p] w' (qa2 (.bool b) w')):
  Calls prog 125 #[ptrV cp,v1,v2,.pointer p] w (qa2 (.bool b) w):=by
 have hx:=hid (qan _ _ w h1);have hy:=hid (qan _ _ w h2);have he:=qg7 w (147,x) (147,y) hi1 hi2;have hne2:((147,x)==(147,y))=false:=by simpa using hne
 rw[hne2] at he;have heg:=fun p q=>qc9 147 147 (ptrV x) (ptrV y) 63 p q w;have hcl:=zj w _ hcp;clear h1 h2 hi1 hi2 hne hne2;have tok:True:=trivial;have t1:=fun v w=>qaw (T:=147) underlying156 Tryz.zs273 (by decide) v w;have t2:=fun v w=>qaw (T:=147) underlying300 Tryz.zsArr (by decide) v w;have t3:=fun v w=>qb5 underlying147 v w;have hxl:=zj w _ hj;have hyl:=zj w _ hk;have HI:=hid ih;clear ih;go_enter func125,ntmps125
 go_wp2_with (first
  | (go_at_call 86;have _t:=tok;clear _t tok;refine hx.out.mono ?_;rintro e w' ⟨rfl,rfl⟩)
  | (go_at_call 86;refine hy.out.mono ?_;rintro e w' ⟨rfl,rfl⟩))
 refine Mix.wp_region [0,1,2,3,4,5,6,7,8,9,10] [] [11] (fun _=>default) (by kernel_rfl) (by kernel_rfl) (by decide) ?_
 iterate 11 (first|(refine pre_yes rfl rfl ?_;apply Exists.intro;refine⟨fun W1 hW1 => ?_,?_⟩;(focus (have hc1:=(qal hW1).1;(try simp only[zd,qaa] at hc1);have hk1:=qac.below hW1;go_simp;first|exact rfl|(go_at_call 125;exact HI.out _ ⟨hW1.os,hW1.tape,hW1.output,hW1.size,hW1.block⟩)));simp only[Act.put,zk,zh,zi,ze,qai,qaj,zm,zn])|(refine pre_no rfl rfl ?_;simp only[Act.put,zk,zh,zi,ze,qai,qaj,zm,zn]))
 refine pre_end fl_nil (fun W2 hW2=>mid_nil (qco rfl ?_))
 go_wp2_with fail
 go_ret
 exact⟨rfl,⟨hW2.os,hW2.tape,hW2.output,hW2.size,hW2.block⟩⟩
theorem idPtr (hne:x≠y) (b:Bool) (e1 e2:Value) (h1:qbs w v1 (.iface 145 (ptrV x))) (h2:qbs w v2 (.iface 145 (ptrV y))) (hi1:TyIn w (145,x)) (hi2:TyIn w (145,y))
  (hj:w.cell? ⟨x,0,none⟩=some e1) (hk:w.cell? ⟨y,0,none⟩=some e2)
  (ih:∀ w',Below w.heap.size w w'→Calls prog 125 #[ptrV cp,e1,e2,.pointer p] w' (qa2 (.bool b) w')):
  Calls prog 125 #[ptrV cp,v1,v2,.pointer p] w (qa2 (.bool b) w):=by
 have hx:=hid (qan _ _ w h1);have hy:=hid (qan _ _ w h2);have he:=qg7 w (145,x) (145,y) hi1 hi2;have hne2:((145,x)==(145,y))=false:=by simpa using hne
 rw[hne2] at he;have heg:=fun p q=>qc9 145 145 (ptrV x) (ptrV y) 63 p q w;have hcl:=zj w _ hcp;clear h1 h2 hi1 hi2 hne hne2;have tok:True:=trivial;have t1:=fun v w=>qaw (T:=145) underlying156 Tryz.zs273 (by decide) v w;have t2:=fun v w=>qaw (T:=145) underlying300 Tryz.zsArr (by decide) v w;have t3:=fun v w=>qaw (T:=145) underlying147 Tryz.zsSl (by decide) v w;have t4:=fun v w=>qaw (T:=145) underlying153 Tryz.zsSt (by decide) v w;have t5:=fun v w=>qb5 underlying145 v w;have hxl:=zj w _ hj;have hyl:=zj w _ hk;have HI:=hid ih;clear ih;go_enter func125,ntmps125
 go_wp2_with (first
  | (go_at_call 86;have _t:=tok;clear _t tok;refine hx.out.mono ?_;rintro e w' ⟨rfl,rfl⟩)
  | (go_at_call 86;refine hy.out.mono ?_;rintro e w' ⟨rfl,rfl⟩))
 refine Mix.wp_region [0,1,2,3,4,5,6,7,8,9,10] [] [11] (fun _=>default) (by kernel_rfl) (by kernel_rfl) (by decide) ?_
 iterate 11 (first|(refine pre_yes rfl rfl ?_;apply Exists.intro;refine⟨fun W1 hW1 => ?_,?_⟩;(focus (have hc1:=(qal hW1).1;(try simp only[zd,qaa] at hc1);have hk1:=qac.below hW1;go_simp;first|exact rfl|(go_at_call 125;exact HI.out _ ⟨hW1.os,hW1.tape,hW1.output,hW1.size,hW1.block⟩)));simp only[Act.put,zk,zh,zi,ze,qai,qaj,zm,zn])|(refine pre_no rfl rfl ?_;simp only[Act.put,zk,zh,zi,ze,qai,qaj,zm,zn]))
 refine pre_end fl_nil (fun W2 hW2=>mid_nil (qco rfl ?_))
 go_wp2_with fail
 go_ret
 exact⟨rfl,⟨hW2.os,hW2.tape,hW2.output,hW2.size,hW2.block⟩⟩
end
theorem Tryz.szSg:(prog.info? 199).map (fun i=>i.size != 0)=some true∧(prog.info? 162).map (·.comparable)=some true:=⟨by kernel_rfl,by kernel_rfl⟩
theorem Tryz.szTup:(prog.info? 252).map (fun i=>i.size != 0)=some true∧(prog.info? 197).map (·.comparable)=some true:=⟨by kernel_rfl,by kernel_rfl⟩
theorem qif (T:TypeId) (u:Value) (hT:T≠103) (w:World):Calls prog 86 #[.iface T u] w fun e w'=>e = .returned (.iface T u)∧w'=w:=by
 have h1:=fun v w=>qaw (T:=T) underlying103 Tryz.zAlias hT v w;go_enter func86,ntmps86
 go_wp2_with fail
 go_ret
 exact⟨rfl,rfl⟩
theorem eq_tup (w:World):(binOp .eql 63 (.iface 197 (.pointer none)) (.iface 197 (.pointer none))).run prog w = .ok (.bool true) w:=by
 obtain⟨j,h1,h2⟩:=zbb.1 Tryz.szTup.1;obtain⟨i,h3,h4⟩:=zbb.1 Tryz.szTup.2;have hI:∃ m,prog.underlying 63=some (.interface m):=⟨_,underlying63⟩;obtain⟨m,hm⟩:=hI;have h5:∀ d:Nat,(Op.equalIn (d+1) 197 (.pointer none) (.pointer none)).run prog w = .ok true w:=fun d=>by
  simp[Op.equalIn,run_underlying underlying197,sizeOf,typeInfo,h1,sameAddr]
 have h':∀ d:Nat,(Op.equalIn (d+2) 63 (.iface 197 (.pointer none)) (.iface 197 (.pointer none))).run prog w = .ok true w:=fun d=>by
  rw[show d+2=(d+1)+1 from rfl]
  conv=>lhs;unfold Op.equalIn
  simp[run_underlying hm,h5,typeInfo,h3,h4]
 simp only[binOp];simp[Op.equal,Op.maxDepth,h' 9998]
theorem idTuple (cp:Nat) (w:World) (p:Option Addr):Calls prog 125 #[ptrV cp,.iface 197 (.pointer none),.iface 197 (.pointer none),.pointer p] w fun e w'=>e = .returned (.bool true)∧w'=w:=by
 have he:=eq_tup w;have heg:=fun p q=>qc9 197 197 (.pointer none) (.pointer none) 63 p q w;have hx:=hid (qif 197 (.pointer none) (by decide) w);go_enter func125,ntmps125
 go_wp2_with (go_at_call 86;refine hx.out.mono ?_;rintro e w' ⟨rfl,rfl⟩)
 go_ret
 exact⟨rfl,rfl⟩
theorem eq_sig (w:World) (x y:Nat) {T U:TypeId} {cs ds:List Value} (hx:Blk w x T cs) (hy:Blk w y U ds):(binOp .eql 63 (.iface 162 (ptrV x)) (.iface 162 (ptrV y))).run prog w = .ok (.bool (x==y)) w:=by
 obtain⟨j,h1,h2⟩:=zbb.1 Tryz.szSg.1;obtain⟨i,h3,h4⟩:=zbb.1 Tryz.szSg.2;by_cases e:x=y
 ·subst e;exact(qd2 w underlying63 underlying162 h1 h3 h4 _).trans (by simp)
 ·exact(qdn w (a:=⟨x,0,none⟩) (b:=⟨y,0,none⟩) underlying63 underlying162 h1 (by simpa using h2) h3 h4 (fun h=>e (by cases h;rfl)) hx hy).trans (by simp[e])
theorem idSig (cp x y:Nat) (w:World) (p:Option Addr) (hcp:w.cell? ⟨cp,1,none⟩=some (.bool false)) {T U:TypeId} {cs ds:List Value} (hbx:Blk w x T cs) (hby:Blk w y U ds)
  (x2:w.cell? ⟨x,2,none⟩=some (.pointer none)) (x3:w.cell? ⟨x,3,none⟩=some (.pointer none)) (x4:w.cell? ⟨x,4,none⟩=some (.bool false)) (y2:w.cell? ⟨y,2,none⟩=some (.pointer none)) (y3:w.cell? ⟨y,3,none⟩=some (.pointer none)) (y4:w.cell? ⟨y,4,none⟩=some (.bool false)):
  Calls prog 125 #[ptrV cp,.iface 162 (ptrV x),.iface 162 (ptrV y),.pointer p] w (qa2 (.bool true) w):=by
 have he:=eq_sig w x y hbx hby;have heg:=fun p q=>qc9 162 162 (ptrV x) (ptrV y) 63 p q w;have hx:=hid (qif 162 (ptrV x) (by decide) w);have hy:=hid (qif 162 (ptrV y) (by decide) w);have t1:=fun v w=>qaw (T:=162) underlying156 Tryz.zs273 (by decide) v w;have t2:=fun v w=>qaw (T:=162) underlying300 Tryz.zsArr (by decide) v w;have t3:=fun v w=>qaw (T:=162) underlying147 Tryz.zsSl (by decide) v w;have t4:=fun v w=>qaw (T:=162) underlying153 Tryz.zsSt (by decide) v w;have t5:=fun v w=>qaw (T:=162) underlying145 Tryz.zsPt (by decide) v w;have t6:=fun v w=>qaw (T:=162) underlying197 Tryz.zsTu (by decide) v w;have t7:=fun v w=>qb5 underlying162 v w;have hxl:=hbx.lt;have hyl:=hby.lt;have hcl:=zj w _ hcp;clear hbx hby;have tok:True:=trivial;cases hxy:(x==y) with
 | true=>
  rw[hxy] at he;clear hxy;go_enter func125,ntmps125
  go_wp2_with (first
   | (go_at_call 86;have _t:=tok;clear _t tok;refine hx.out.mono ?_;rintro e w' ⟨rfl,rfl⟩)
   | (go_at_call 86;refine hy.out.mono ?_;rintro e w' ⟨rfl,rfl⟩))
  go_ret
  exact⟨rfl,zp _ _⟩
 | false=>
  rw[hxy] at he;clear hxy;go_enter func125,ntmps125
  go_wp2_with (first
   | (go_at_call 86;have _t:=tok;clear _t tok;refine hx.out.mono ?_;rintro e w' ⟨rfl,rfl⟩)
   | (go_at_call 86;refine hy.out.mono ?_;rintro e w' ⟨rfl,rfl⟩))
  refine Mix.wp_region [0,1,2,3,4,5,6,7,8,9,10,11,12,13,14,15,16,17,18,19,20,21,22,23,24,25,26,27,28,29,30,31,32] [] [33] (fun _=>default) (by kernel_rfl) (by kernel_rfl) (by decide) ?_
  iterate 33 (first|(refine pre_yes rfl rfl ?_;apply Exists.intro;refine⟨fun W1 hW1 => ?_,?_⟩;(focus (have hc1:=(qal hW1).1;(try simp only[zd,qaa] at hc1);have hk1:=qac.below hW1;go_simp;first|exact rfl|(go_at_call 125;exact(idTuple cp W1 _).mono fun e w' h=>⟨h.1,h.2 ▸ zp _ _⟩)));simp only[Act.put,zk,zh,zi,ze,qai,qaj,zm,zn])|(refine pre_no rfl rfl ?_;simp only[Act.put,zk,zh,zi,ze,qai,qaj,zm,zn]))
  refine pre_end fl_nil (fun W2 hW2=>mid_nil (qco rfl ?_))
  go_wp2_with fail
  go_ret
  exact⟨rfl,⟨hW2.os,hW2.tape,hW2.output,hW2.size,hW2.block⟩⟩
