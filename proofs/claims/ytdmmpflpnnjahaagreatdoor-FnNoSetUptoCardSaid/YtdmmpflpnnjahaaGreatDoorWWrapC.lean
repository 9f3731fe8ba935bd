import Derived.Test.YtdmmpflpnnjahaaGreatDoorK29
import Derived.Test.YtdmmpflpnnjahaaGreatDoorWWrap
import Derived.Test.YtdmmpflpnnjahaaGreatDoorK39
set_option linter.all false
namespace Go.Proofs.YtdmmpflpnnjahaaGreatDoor
open Go Go.RowKit Go.Proofs.Tryz
set_option maxRecDepth 100000
variable {w:World}
theorem named_any (d:Int) (w:World):Calls prog 16 #[.int .i64 d] w (qa2 (.agg #[.int .i64 1,.int .i64 d,.slice none 0 0,.slice none 0 0,.slice none 0 0,.slice none 0 0]) w):=by
 go_enter func16,ntmps16
 go_wp2_with fail
 (try simp only[Exit.inBlock,Exit.then])
 refine bodyPost_ret (qd1 (v := .agg #[.int .i64 1,.int .i64 d,.slice none 0 0,.slice none 0 0,.slice none 0 0,.slice none 0 0]) rfl _ _ _ rfl ?_) rfl ?_
 ·go_simp
 ·exact⟨rfl,(zp _ _).alloc (zl _) _⟩
theorem tyC_nd {d:Nat} (h:d≤1048576):TyC w (ndT d) [.int .i64 1,.int .i64 d,.slice none 0 0,.slice none 0 0,.slice none 0 0,.slice none 0 0]:=by
 unfold ndT;simp only[TyC];refine⟨none,0,none,0,none,0,none,0,rfl,⟨zl _,zl _,zl _,zl _⟩,⟨by omega,by omega⟩,⟨by omega,by omega⟩,?_,?_,?_,?_⟩
 ·simp only[TysR]
 ·simp only[FdsR]
 ·simp only[MsR]
 ·simp only[TysR]
theorem pointer_any (w:World) (v0 v1 v2 v3 v4 v5:Value):Calls prog 9 #[.agg #[v0,v1,v2,v3,v4,v5]] w fun e w'=>
  ∃ b,e = .returned (.agg #[.int .i64 2,.int .i64 0,.slice (some ⟨b,0,none⟩) 1 1,.slice none 0 0,.slice none 0 0,.slice none 0 0])∧qat w' b 0 [v0,v1,v2,v3,v4,v5]∧Below w.heap.size w w':=by
 go_enter func9,ntmps9
 go_wp2_with fail
 (try simp only[Exit.inBlock,Exit.then])
 refine bodyPost_ret (qd1 (v := .agg #[.int .i64 2,.int .i64 0,.slice (some ⟨w.heap.size+1+1,0,none⟩) 1 1,.slice none 0 0,.slice none 0 0,.slice none 0 0]) rfl _ _ _ rfl ?_) rfl ?_
 ·go_simp
 ·refine⟨w.heap.size+1+1,rfl,?_,?_⟩
  ·have h:=(Blk.new ((w.alloc (.cells #[v0,v1,v2,v3,v4,v5] 28)).alloc (.cells #[.int .i64 2,.int .i64 0,.slice (some ⟨w.heap.size+1+1,0,none⟩) 1 1,.slice none 0 0,.slice none 0 0,.slice none 0 0] 28)) 28 [v0,v1,v2,v3,v4,v5]).cells;simp only[zd] at h;exact h
  ·exact(((zp _ _).alloc (zl _) _).alloc (by simp only[zd];omega) _).alloc (by simp only[zd];omega) _
theorem tyC_ptr {t:Ty} {b:Nat} {cs:List Value} (h:qat w b 0 cs) (ht:TyC w t cs):
  TyC w (ptrT t) [.int .i64 2,.int .i64 0,.slice (some ⟨b,0,none⟩) 1 1,.slice none 0 0,.slice none 0 0,.slice none 0 0]:=by
 unfold ptrT;simp only[TyC];refine⟨some ⟨b,0,none⟩,1,none,0,none,0,none,0,rfl,⟨zl _,zl _,zl _,zl _⟩,⟨by omega,by omega⟩,⟨by omega,by omega⟩,?_,?_,?_,?_⟩
 ·simp only[TysR,and_true];exact⟨b,0,cs,rfl,h,ht⟩
 ·simp only[FdsR]
 ·simp only[MsR]
 ·simp only[TysR]
theorem qat.apart {S:Nat→Prop} {w w':World} {b o:Nat} {cs:List Value} (h:qat w b o cs) (ha:qag S w w') (hb:¬ S b):qat w' b o cs:=fun j v hv=>by
 have h1:=h j v hv;exact(zlb (ha.block _ (zj w _ h1) hb)).trans h1
theorem formed_nd {W:Wd} {k:Nat} (hk:k<W.length) (v:Bool):qam W (-1) v (ndT k):=by
 unfold ndT qam;exact .inr (.inl ⟨rfl,rfl,rfl,rfl,rfl,by omega,by omega,.inl (by omega)⟩)
theorem fitOk_nd {W:Wd} {t0:Ty} {k:Nat} (h:qfz W t0) (hk:k<W.length):qfz W (ndT k):=by
 refine⟨h.names,h.distinct,formed_nd hk true,h.valid,h.declared,?_⟩;unfold qcj operand;simp[ndT,qdp,qc0,qcr,qjv,qb1]
