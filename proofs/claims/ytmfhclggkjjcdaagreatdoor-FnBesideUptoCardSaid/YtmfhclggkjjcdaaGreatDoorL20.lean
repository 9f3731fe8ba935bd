import Derived.Test.YtmfhclggkjjcdaaGreatDoorL14
set_option linter.all false
namespace Go.Proofs.YtmfhclggkjjcdaaGreatDoor
open Go Go.RowKit Go.Proofs.Tryz
set_option maxRecDepth 100000
theorem qo9 (t1 t2:Nat) (w:World) (h:w.cell? ⟨t2,1,none⟩=some .nilIface):Calls prog 205 #[.pointer (some ⟨t1,0,none⟩),.pointer (some ⟨t2,0,none⟩)] w fun e w'=>e = .returned (.bool true)∧w'=w:=by
 go_enter func205,ntmps205
 go_wp2_with fail
 go_ret
 exact⟨rfl,rfl⟩
theorem qpv (tl te c t1:Nat) (w:World) (hc:1≤c) (h:w.cell? ⟨tl,0,none⟩=some (.pointer (some ⟨te,0,none⟩))) (h1:w.cell? ⟨te,1,none⟩=some .nilIface):Calls prog 198 #[.slice (some ⟨tl,0,none⟩) 1 c,.pointer (some ⟨t1,0,none⟩)] w fun e w'=>e = .returned (.bool true)∧w'=w:=by
 go_enter func198,ntmps198
 go_wp2_with fail
 refine wp_loop_rounds 1 ?_;rw[rounds_succ]
 go_wp2_with (go_at_call 205;refine(qo9 t1 te _ h1).mono ?_;rintro e w' ⟨rfl,rfl⟩)
 go_ret
 exact⟨rfl,rfl⟩
theorem qiv (v1 v2:Value) (w:World) (h1:AllV w v1) (h2:AllV w v2):Calls prog 185 #[v1,v2] w fun e w'=>e = .returned (.bool true)∧w'=w:=by
 obtain⟨tl,c,te,rfl,hc,a1,a2,a3⟩:=h1.cells;obtain⟨ul,d,ue,rfl,hd,b1,b2,b3⟩:=h2.cells;go_enter func185,ntmps185
 go_wp2_with (go_at_call 187;refine(qf5 ul ue d _ hd b1).mono ?_;rintro e w' ⟨rfl,rfl⟩)
 refine wp_loop_rounds 2 ?_;rw[rounds_succ]
 go_wp2_with (go_at_call 198;refine(qpv ul ue d te _ hd b1 b3).mono ?_;rintro e w' ⟨rfl,rfl⟩)
 rw[rounds_succ]
 go_wp2_with fail
 go_ret
 exact⟨rfl,rfl⟩
theorem qlu (v1 v2:Value) (w:World) (h1:AllV w v1) (h2:AllV w v2):Calls prog 154 #[v1,v2] w fun e w'=>e = .returned (.bool true)∧w'=w:=by
 have H12:=hid (qiv v1 v2 w h1 h2);have H21:=hid (qiv v2 v1 w h2 h1);obtain⟨tl,c,te,rfl,-⟩:=h1.cells;obtain⟨ul,d,ue,rfl,-⟩:=h2.cells;clear h1 h2;have tok:True:=trivial;go_enter func154,ntmps154
 go_wp2_with (first
  | (go_at_call 185;have _t:=tok;clear _t tok;refine H12.out.mono ?_;rintro e w' ⟨rfl,rfl⟩)
  | (go_at_call 185;refine H21.out.mono ?_;rintro e w' ⟨rfl,rfl⟩))
 go_ret
 exact⟨rfl,rfl⟩
