import Derived.Test.YtlkbkblemgbcdaaGreatDoorK44
import Derived.Test.YtlkbkblemgbcdaaGreatDoorK41
set_option linter.all false
set_option maxHeartbeats 2000000
namespace Go.Proofs.YtlkbkblemgbcdaaGreatDoor
open Go Go.RowKit
set_option maxRecDepth 100000
theorem qu2 (w:World):TyC w ty0 [.int .i64 0,.int .i64 0,.slice none 0 0,.slice none 0 0,.slice none 0 0,.slice none 0 0]:=by
 unfold ty0;simp only[TyC];refine⟨none,0,none,0,none,0,none,0,rfl,?_,?_,?_,?_,?_,?_,?_⟩ <;> first|exact⟨zl _,zl _,zl _,zl _⟩|exact⟨by omega,by omega⟩|simp only[TysR]|simp only[FdsR]|simp only[MsR]
theorem qfz.zero {W:Wd} {t:Ty} (h:qfz W t):qfz W ty0:=by
 refine⟨h.names,h.distinct,?_,h.valid,h.declared,?_⟩
 ·unfold ty0;simp[qam]
 ·unfold qcj operand ty0;simp[qdp,qc0,qcr,qjv,qb1]
theorem declMethods_any (W:Wd) (a:Option Addr) (c:Nat) (w:World) (t:Ty) (hF0:qfz W t) (hN:NmOk W) (hW:WOk w W a c) (hT:Tabs w) (d:Nat) (hd:d<W.length) (hal:(dc W d).alias=false):
  Calls Tryz.prog 17 #[.slice a W.length c,.int .i64 d] w fun e w'=>∃ x:Option Addr×Nat,e = .returned (.slice x.1 (dc W d).methods.length x.2)∧
   Hid (w'.ownsRow 0 3 1 (.slice x.1 (dc W d).methods.length x.2) (dc W d).methods.length (qbh ((List.range (dc W d).methods.length).map fun k=>start W d+k))∧Below w.heap.size w w'):=by
 have HF:=hid hF0.zero;have HB:=hid (qsp W a c w ty0 hF0.zero hN hW hT (by decide) _ (qu2 w));have hbk:=hW.bulk;have hd':(d:Int)<(W.length:Int):=by omega
 have Hal:=hid hal;have hta:=fun v w=>qb5 Tryz.underlying90 v w;clear hF0 hN hW hT hal;go_enter Tryz.func17,Tryz.ntmps17
 go_wp2_with (first
  | (go_at_call 30;refine HB.out.mono ?_;rintro e w2 ⟨x,rfl,Hx⟩;have b1:w2.cell? ⟨x.1.bb,1,none⟩=some (.slice (some ⟨x.1.tr,0,none⟩) W.length x.1.tc):=(by have h:=Hx.out.2.2.1.ok.bld.cell 1;simp only[zu,zt] at h;rw[Hx.out.1] at h;exact h);have hnd:=(Hx.out.2.2.1.set d (by rw[Hx.out.1];exact hd)).nd (by rw[Hx.out.1];exact Hal.out);obtain⟨nb,tn,U,ux,ra,rc,fs,hNd⟩:=hnd;have HNd:=hid hNd;have t1:w2.cell? ⟨x.1.tr,d,none⟩=some (qdr nb):=Hx.out.2.2.1.ok.typv (by rw[Hx.out.1];exact hd) hNd.tb;clear hNd)
  | (go_at_call 36;refine(numMethods_any HNd.out).mono ?_;rintro e w3 ⟨rfl,rfl⟩))
 obtain⟨F,hFx⟩:∃ F,F=x.1:=⟨_,rfl⟩;obtain⟨s,hsx⟩:∃ s,s=x.2.1:=⟨_,rfl⟩;rw[← hFx] at Hx HNd ⊢;rw[← hsx] at Hx HNd;have HFW:=hid Hx.out.1;have HOk:=hid Hx.out.2.2.1.ok;have hNs:F.N≤4194304:=by rw[Hx.out.2.1];have:=qcv W W.length;have:ty0.size=0:=rfl;omega
 have HCv:Hid (Cov F s w3):=hid fun k hk=>Hx.out.2.2.1.cover (t:=ty0) (by rw[Hx.out.1];exact HF.out) (by rw[Hx.out.1];exact Hx.out.2.2.2.1) (by rw[Hx.out.1,← Hx.out.2.1];exact hk);have HBl:=hid Hx.out.2.2.2.2;have HN:=hid Hx.out.2.1;have hmlen:(dc F.W d).methods.length=(dc W d).methods.length:=by rw[HFW.out]
 have Hlen:=hid HNd.out.len;have hst:=qc2 hd;have hst2:=qdk W (show d+1≤W.length from hd);unfold qi8 at hst;have hml:(dc W d).methods.length≤1048576:=by have:=qfe hd;unfold Dc.bulk at this;omega
 clear Hx b1 t1;rw[hmlen];obtain⟨n,hn⟩:∃ n,n=(dc W d).methods.length:=⟨_,rfl⟩;have Hn:=hid hn;rw[← hn] at hmlen hst hml ⊢;have Hml:=hid hmlen;have HkN:Hid (∀ k,k<n→start W d+k<F.N):=hid fun k hk=>by rw[HN.out];omega
 clear hn hFx hsx hmlen hst hst2
 go_loopw [9,32] (fun rv jv wr=>∃ (k:Nat) (qa:Option Addr) (qc:Nat),k≤n∧jv = .int .i64 k∧rv = .slice qa k qc∧w3.heap.size≤wr.heap.size∧
   Hid (Below w3.heap.size w3 wr∧wr.ownsRow 0 3 1 (.slice qa k qc) k (qbh ((List.range k).map fun k=>start W d+k))∧∀ g,(Value.slice qa k qc).ownBlock=some g→w3.heap.size≤g))
  (fun _ jv _=>n - (intOf jv).toNat)
 case atStart=>exact⟨0,none,0,Nat.zero_le _,rfl,rfl,zl _,hid ⟨zp _ _,zdb _ _ _ _,fun g hg=>by cases hg⟩⟩
 case round=>
  obtain⟨k,qa,qc,hk,rfl,rfl,hz,hst4⟩:=hrel;by_cases hlt:k<n
  ·have hlt':(k:Int)<(n:Int):=by omega
   have hkf:k<fs.length:=by rw[Hlen.out,Hml.out];exact hlt
   have HMe:=hid (qkg (HNd.out.keep hst4.out.1) hkf);have hkN:=HkN.out k hlt;have HNu:=hid (qr2 (BExt.keep HOk.out hst4.out.1 0).ok (HCv.out.keep hst4.out.1) hNs hkN (by have h:=(HNd.out.ms k hkf).1;rw[HFW.out] at h;exact h));have Hown:=hid hst4.out.2.1;have Hbel:=hid hst4.out.1;have HrB:=hid hst4.out.2.2;have HoA:=hid (fun(v:Value)=>qab Hown.out (qag.keep (S:=fun _=>False) ((zp wr.heap.size wr).alloc (zl _) (.cells #[v] 3))) (fun _ _ h=>h));clear hst4;simp only[objV,Int.natCast_add] at HNu
   go_wp2_with (first
    | (go_at_call 38;refine HMe.out.mono ?_;rintro e w5 ⟨rfl,rfl⟩)
    | (go_at_call 37;refine HNu.out.mono ?_;rintro e w6 ⟨rfl,rfl⟩)
    | (at_builtin;go_loud (refine qbu _ rfl _ _ 31 rfl 3 _ 8 Tryz.infoInt Tryz.underlying31 rfl qa k qc (qbh ((List.range k).map fun k=>start W d+k)) rfl (HoA.out _) ⟨w6.heap.size,0,none⟩ (.int .i64 ((start W d:Int)+k)) rfl (cell_of_row _ _ _ _ _ _ (qa8 _ _)) rfl rfl (by omega) (by decide) fun ra' rc' w9 hown' hgrow hloc => ?_);have Hg:=hid hgrow;have Ho9:=hid hown';have Hl9:=hid hloc;clear hgrow hown' hloc))
   go_roundw
   case rel=>
    have hB:=Hbel.out.alloc hz (.cells #[.int .i64 ((start W d:Int)+k)] 3);refine⟨k+1,ra',rc',hlt,by go_num,rfl,by have:=Hg.out.size;simp only[zd] at this;omega,hid ⟨hB.grown Hg.out (by simp;omega) HrB.out,?_,fun g hg => ?_⟩⟩
    ·rw[List.range_succ,List.map_append];simpa[qbh] using Ho9.out
    ·rcases Hl9.out with e|e
     ·rw[e] at hg;exact HrB.out g hg
     ·rw[e] at hg;cases hg;simp;omega
   case measure=>simp[intOf];omega
  ·obtain rfl:k=n:=by omega
   go_wp2_with fail
   go_ret
   rw[← Hn.out];exact⟨⟨qa,qc⟩,rfl,hid ⟨hst4.out.2.1,HBl.out.trans (hst4.out.1.mono HBl.out.size)⟩⟩
