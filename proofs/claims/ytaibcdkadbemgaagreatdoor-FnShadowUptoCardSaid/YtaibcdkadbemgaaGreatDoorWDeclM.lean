import Derived.Test.YtaibcdkadbemgaaGreatDoorK44
import Derived.Test.YtaibcdkadbemgaaGreatDoorK41
set_option linter.all false
namespace Go.Proofs.YtaibcdkadbemgaaGreatDoor
open Go Go.RowKit
set_option maxRecDepth 100000
theorem qu2 (w:World):TyC w ty0 [.int .i64 0,.int .i64 0,.slice none 0 0,.slice none 0 0,.slice none 0 0,.slice none 0 0]:=by
 unfold ty0;simp only[TyC];refine⟨none,0,none,0,none,0,none,0,rfl,?_,?_,?_,?_,?_,?_,?_⟩ <;> first|exact⟨zl _,zl _,zl _,zl _⟩|exact⟨by omega,by omega⟩|simp only[TysR]|simp only[FdsR]|simp only[MsR]
theorem qfz.zero {W:Wd} {t:Ty} (h:qfz W t):qfz W ty0:=by
 refine⟨h.names,h.distinct,?_,h.valid,h.declared,?_⟩
 ·unfold ty0;simp[qam]
 ·unfold qcj operand ty0;simp[qdp,qc0,qcr,qjv,qb1]
