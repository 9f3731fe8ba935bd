/- The card of FnNoSet: Pointers to pointers and to interfaces, and defined pointer types, have no methods. For every argument of bulk at most 1048576; the tables of unicode and unicode/utf8 that the row lists are as their texts lay them. -/
import Derived.Test.YtdmmpflpnnjahaaGreatDoorK03
import Derived.Test.YtdmmpflpnnjahaaGreatDoorWLawN
set_option linter.all false
namespace Go.Proofs.YtdmmpflpnnjahaaGreatDoor
open Go Go.RowKit Go.Shelf
open Go.ChangeShapes Go.WideShapes Go.ChangeAt
set_option maxRecDepth 100000
theorem tabs_of_fnNoSet {W:World} (h:laidMetH Tryz.prog Rows.fnNoSetUptoRow.laid W):Tabs W:=by
 rw[MakeChecks.laidMetH_plain _ _ _ (by kernel_rfl)] at h;have h1 : Lib.VarReads Tryz.prog W "unicode/utf8.acceptRanges" Lib.acceptData := by
  have := Lib.laidMet.reads h (n := "unicode/utf8.acceptRanges") (d := Rows.laid_unicode_utf8_acceptRanges) (by simp [Rows.fnNoSetUptoRow])
  rwa [show(Rows.laid_unicode_utf8_acceptRanges:DataW Unit)=Lib.acceptData by kernel_rfl] at this
 have h2 : Lib.VarReads Tryz.prog W "unicode.properties" (Lib.tabData .u8 Lib.propertiesTab) := by
  have := Lib.laidMet.reads h (n := "unicode.properties") (d := Rows.laid_unicode_properties) (by simp [Rows.fnNoSetUptoRow])
  rwa [show(Rows.laid_unicode_properties:DataW Unit)=Lib.tabData .u8 Lib.propertiesTab by kernel_rfl] at this
 have h3 : Lib.VarReads Tryz.prog W "unicode.Upper" (Lib.rtabData Lib.upperT) := by
  have := Lib.laidMet.reads h (n := "unicode.Upper") (d := Rows.laid_unicode_Upper) (by simp [Rows.fnNoSetUptoRow])
  rwa [show Rows.laid_unicode_Upper=Lib.rtabData Lib.upperT by kernel_rfl] at this
 have h4 : Lib.VarReads Tryz.prog W "unicode/utf8.first" Lib.firstData := by
  have := Lib.laidMet.reads h (n := "unicode/utf8.first") (d := Rows.laid_unicode_utf8_first) (by simp [Rows.fnNoSetUptoRow])
  rwa [show Rows.laid_unicode_utf8_first=Lib.firstData by kernel_rfl] at this
 exact qr5 h1 h2 h3 h4
theorem contract_fnNoSet (H:Type) (enc:TypeId×Value→H) (W:World) (base:Nat) (args:Array Value) (ds gs:List (DataW H)) (before:List MemPlace)
  (hval:∀ (j:Nat) t v,Tryz.f3.params[j]?=some t→args[j]?=some v→Value.okWide Tryz.prog W .any base t v)
  (hW:DataW.Whole enc Tryz.prog Tryz.f3.params.toList Rows.fnNoSetSpec.vars false W args.toList ds gs before) (hk:Rows.uptoSmall H (ds++gs)=true) (hL:laidMetH Tryz.prog Rows.fnNoSetUptoRow.laid W):
  Calls Tryz.prog 3 args W fun e W'=>∃ v,e = .returned v∧Rows.fnNoSetSpec.post enc Tryz.prog Tryz.f3 false true false false W args v W':=by
 have hW':=hW;have hlt:=hW.lt;obtain⟨p,q,hA0,hV,rfl,hfz,hnd⟩:=hW;have hA:DataW.TrodAll enc Tryz.prog W 0 (fun _=>true) true Tryz.f3.params.toList args.toList ds p:=hA0;rw[Tryz.params3] at hA hval;obtain⟨v0,vs0,d0,ds0,p0,q0,hargs,rfl,rfl,h0,r0⟩:=trodAll_cons hA;obtain⟨v1,vs1,d1,ds1,p1,q1,rfl,rfl,rfl,h1,r1⟩:=trodAll_cons r0;obtain⟨rfl,rfl,rfl⟩:=trodAll_nil r1;obtain rfl:args=#[v0,v1]:=by cases args;simp_all
 obtain⟨rfl,rfl⟩:=trodVars_none hV;have hk':=of_decide_eq_true hk;simp only[List.append_nil,Rows.uptoBulkAll] at hk';obtain⟨a0,c0,Ws,rfl,hc0,hw0,hbw⟩:=argW (hval 0 23 v0 rfl rfl) h0;have hW0:WOk W Ws a0 c0:=⟨hw0,hc0,by omega⟩;obtain⟨t1,cs1,rfl,ht1,hbt1⟩:=argT (hval 1 28 v1 rfl rfl) h1;have hT:=tabs_of_fnNoSet hL;simp only[List.append_nil] at hW' hlt hA0;have HA:=hid hA0;have hrd:∀ t∈Tryz.f3.params.toList,Tryz.prog.readableRec t=true∧t<Tryz.prog.types.size:=by
  rw[Tryz.params3];intro t ht;have hm:t∈[23,28]:=by simpa using ht
  simp only[zgb,List.mem_nil_iff,or_false] at hm;rcases hm with rfl|rfl
  all_goals first|exact readW|exact readT|exact readI|exact readB
 clear hA0;refine(lawNoSet Ws a0 c0 W t1 hW0 hT (by have:=ub_pos d0;omega) cs1 ht1).mono fun e W' ⟨he,hb⟩ => ?_;subst he;refine⟨_,rfl,qmj (pa:=p0++p1) (pv:=[]) hW' (fun _ _ _=>trodAll_cons_mk (shut_bool Tryz.underlying4 _) trodAll_mk0) (fun sp hs => ?_) (fun _ _=>rfl) (by simp)
  hb (ok_one (by kernel_rfl) rfl (okWide_bool_mk Tryz.underlying4 _))⟩
 exact qht Tryz.laidOutP hrd HA.out (fun x hx=>hb.same (hlt x (by simpa using hx))) (fun x hx=>hs x (by simpa using hx))
theorem laid_met_fnNoSet (os:Os):laidMet Tryz.prog Rows.fnNoSetUptoRow.laid ((World.laidAll Tryz.prog os Rows.fnNoSetUptoRow.laid).forCall (fun _ _=>0) ⟨#[],#[.slice none 0 0,.agg #[.int .i64 0,.int .i64 0,.slice none 0 0,.slice none 0 0,.slice none 0 0,.slice none 0 0]],[]⟩).memory:=
 laidMet_laidAll _ (by kernel_rfl) (by kernel_rfl)
theorem reads_fnNoSet (os:Os) {H:Type} (enc:TypeId×Value→H):∃ places,DataW.whole enc Tryz.prog ((World.laidAll Tryz.prog os Rows.fnNoSetUptoRow.laid).forCall (fun _ _=>0) ⟨#[],#[.slice none 0 0,.agg #[.int .i64 0,.int .i64 0,.slice none 0 0,.slice none 0 0,.slice none 0 0,.slice none 0 0]],[]⟩).memory Tryz.f3.params.toList Rows.fnNoSetSpec.vars false (#[.slice none 0 0,.agg #[.int .i64 0,.int .i64 0,.slice none 0 0,.slice none 0 0,.slice none 0 0,.slice none 0 0]]:Array Value).toList 8=some ([.nil,.agg [.lit (.int .i64 0),.lit (.int .i64 0),.nil,.nil,.nil,.nil]],[],places):=
 ⟨[],by kernel_rfl⟩
theorem lifted_fnNoSet (os:Os) (started:os.Started) (H:Type) (enc:TypeId×Value→H) (F:Stop.Interp):
  ReturnsInHanded {} Tryz.checked os 3 .any ((Rows.OpenSpec.upto Rows.fnNoSetSpec).preRow enc Tryz.prog Tryz.f3 Rows.fnNoSetUptoRow.domain false Rows.fnNoSetUptoRow.laid) (((Rows.OpenSpec.upto Rows.fnNoSetSpec).at F).post enc Tryz.prog Tryz.f3 false true false false):=by
 obtain⟨places,hx⟩:=reads_fnNoSet os enc;refine returnsInHanded_of_row (C:=Tryz.checked) (s:=Rows.OpenSpec.upto Rows.fnNoSetSpec) own started (by kernel_rfl) Tryz.func3
  (qpt (enc:=enc) (C:=Tryz.checked) false (World.laidAll Tryz.prog os Rows.fnNoSetUptoRow.laid) #[.slice none 0 0,.agg #[.int .i64 0,.int .i64 0,.slice none 0 0,.slice none 0 0,.slice none 0 0,.slice none 0 0]] (World.laidAll_os _ _ _) (by kernel_rfl) (by kernel_rfl) (by kernel_rfl)
   (OpenSpec.preRow_of_cond 8 hx (by kernel_rfl) (fun k hk=>by cases hk;kernel_rfl) (by kernel_rfl) (by rw[MakeChecks.laidMetH_plain _ _ _ (by kernel_rfl)];exact laid_met_fnNoSet os))) ?_
 intro W base args ds gs before hval hW _ hcond _ hL _ _;exact contract_fnNoSet H enc W base args ds gs before hval hW (hcond _ rfl) hL
theorem cl1_fnNoSet:(Rows.fnNoSetUptoRow.inPlace==Tryz.pinned.checked.prog.inPlace 3)=true:=by kernel_rfl
theorem cl2_fnNoSet:(Rows.fnNoSetUptoRow.unfollowed==Tryz.pinned.checked.prog.unfollowed 3)=true:=by kernel_rfl
theorem cl3_fnNoSet:(Rows.fnNoSetUptoRow.recurses==Tryz.pinned.checked.prog.recurses 3)=true:=by kernel_rfl
theorem cl4_fnNoSet:(Rows.fnNoSetUptoRow.named==Tryz.pinned.checked.prog.varsNamed 3)=true:=by kernel_rfl
theorem closed_fnNoSet:joinedFacts Tryz.pinned.checked.prog 3 Tryz.f3 (Rows.OpenSpec.upto Rows.fnNoSetSpec).bare Rows.fnNoSetUptoRow=true:=by
 unfold joinedFacts;rw[cl1_fnNoSet,cl2_fnNoSet,cl3_fnNoSet,cl4_fnNoSet,cl5,cl6]
 kernel_rfl
theorem said_fnNoSet:Rows.FnNoSetUptoSaid:=
 OpenClaim.holds_of_cond 3 Tryz.f3 rfl rfl rfl rfl rfl rfl rfl ⟨rfl,rfl,rfl,rfl,rfl⟩ rfl rfl rfl rfl rfl (by kernel_rfl) Tryz.func3 closed_fnNoSet
  (of_decide_eq_true (by kernel_rfl)) (by unfold Func.isWrapper;first|(rw[if_pos (by decide +kernel)];kernel_rfl)|(rw[if_neg (by decide +kernel)];exact⟨rfl,rfl⟩))
  (fun os started H enc _ F=>by rw[OpenClaim.pre_eq_preRow];exact lifted_fnNoSet os started H enc F)
theorem plain_fnNoSet (f : FuncId) (fn : Func) (hf : Tryz.pinned.checked.prog.funcNamed "selectors/laws.FnNoSet" = some f) (hfn : Tryz.pinned.checked.prog.funcs[f]? = some fn) :
  true=Tryz.pinned.checked.prog.looks []∧∀ (j:Nat) t,fn.params[j]?=some t→Tryz.pinned.checked.prog.wantsStandIn t=false:=by
 obtain rfl : f = 3 := Option.some.inj ((show Tryz.prog.funcNamed "selectors/laws.FnNoSet" = some 3 by kernel_rfl).symm.trans hf) |>.symm
 obtain rfl:fn=Tryz.f3:=(Option.some.inj (Tryz.func3.symm.trans hfn)).symm;refine⟨by kernel_rfl,fun j t ht => ?_⟩;rw[Tryz.params3] at ht;have hm:t∈[23,28]:=by simpa using Array.mem_of_getElem? ht
 have hall:([23,28].all fun u=>!Tryz.prog.wantsStandIn u)=true:=by kernel_rfl
 exact(show Tryz.prog.wantsStandIn t=false by simpa using zhb.1 hall t hm)
theorem cardFnNoSet:Rows.FnNoSetUptoCardSaid:=
 Claim7.holds_tied_plain_at .later [] _ _ _ _ said_fnNoSet (fun _ h=>by cases h) (by kernel_rfl) (fun _ h=>by cases h) fnNoSetUpto_row_tie rfl ⟨rfl,rfl⟩ (by kernel_rfl) rfl plain_fnNoSet (by kernel_rfl)
#print axioms cardFnNoSet
