/- The card of FnDefined: A type that is defined by another defined type, and has no methods, has what this one has but its declared methods. For every argument of bulk at most 1048576; the tables of unicode and unicode/utf8 that the row lists are as their texts lay them. -/
import Derived.Test.YtmfhclggkjjcdaaGreatDoorL03
import Derived.Test.YtmfhclggkjjcdaaGreatDoorLWLawE
set_option linter.all false
namespace Go.Proofs.YtmfhclggkjjcdaaGreatDoor
open Go Go.RowKit Go.Shelf
open Go.ChangeShapes Go.WideShapes Go.ChangeAt
set_option maxRecDepth 100000
theorem tabs_of_fnDefined {W:World} (h:laidMetH Tryz.prog Rows.fnDefinedUptoRow.laid W):Tabs W:=by
 rw[MakeChecks.laidMetH_plain _ _ _ (by kernel_rfl)] at h;have h1 : Lib.VarReads Tryz.prog W "unicode/utf8.acceptRanges" Lib.acceptData := by
  have := Lib.laidMet.reads h (n := "unicode/utf8.acceptRanges") (d := Rows.laid_unicode_utf8_acceptRanges) (by simp [Rows.fnDefinedUptoRow])
  rwa [show(Rows.laid_unicode_utf8_acceptRanges:DataW Unit)=Lib.acceptData by kernel_rfl] at this
 have h2 : Lib.VarReads Tryz.prog W "unicode.properties" (Lib.tabData .u8 Lib.propertiesTab) := by
  have := Lib.laidMet.reads h (n := "unicode.properties") (d := Rows.laid_unicode_properties) (by simp [Rows.fnDefinedUptoRow])
  rwa [show(Rows.laid_unicode_properties:DataW Unit)=Lib.tabData .u8 Lib.propertiesTab by kernel_rfl] at this
 have h3 : Lib.VarReads Tryz.prog W "unicode.Upper" (Lib.rtabData Lib.upperT) := by
  have := Lib.laidMet.reads h (n := "unicode.Upper") (d := Rows.laid_unicode_Upper) (by simp [Rows.fnDefinedUptoRow])
  rwa [show Rows.laid_unicode_Upper=Lib.rtabData Lib.upperT by kernel_rfl] at this
 have h4 : Lib.VarReads Tryz.prog W "unicode/utf8.first" Lib.firstData := by
  have := Lib.laidMet.reads h (n := "unicode/utf8.first") (d := Rows.laid_unicode_utf8_first) (by simp [Rows.fnDefinedUptoRow])
  rwa [show Rows.laid_unicode_utf8_first=Lib.firstData by kernel_rfl] at this
 exact qr5 h1 h2 h3 h4
theorem contract_fnDefined (H:Type) (enc:TypeId×Value→H) (W:World) (base:Nat) (args:Array Value) (ds gs:List (DataW H)) (before:List MemPlace)
  (hval:∀ (j:Nat) t v,Tryz.f4.params[j]?=some t→args[j]?=some v→Value.okWide Tryz.prog W .any base t v)
  (hW:DataW.Whole enc Tryz.prog Tryz.f4.params.toList Rows.fnDefinedSpec.vars false W args.toList ds gs before) (hk:Rows.uptoSmall H (ds++gs)=true) (hL:laidMetH Tryz.prog Rows.fnDefinedUptoRow.laid W):
  Calls Tryz.prog 4 args W fun e W'=>∃ v,e = .returned v∧Rows.fnDefinedSpec.post enc Tryz.prog Tryz.f4 false true false false W args v W':=by
 have hW':=hW;have hlt:=hW.lt;obtain⟨p,q,hA0,hV,rfl,hfz,hnd⟩:=hW;have hA:DataW.TrodAll enc Tryz.prog W 0 (fun _=>true) true Tryz.f4.params.toList args.toList ds p:=hA0;rw[Tryz.params4] at hA hval;obtain⟨v0,vs0,d0,ds0,p0,q0,hargs,rfl,rfl,h0,r0⟩:=trodAll_cons hA;obtain⟨v1,vs1,d1,ds1,p1,q1,rfl,rfl,rfl,h1,r1⟩:=trodAll_cons r0;obtain⟨v2,vs2,d2,ds2,p2,q2,rfl,rfl,rfl,h2,r2⟩:=trodAll_cons r1;obtain⟨v3,vs3,d3,ds3,p3,q3,rfl,rfl,rfl,h3,r3⟩:=trodAll_cons r2;obtain⟨v4,vs4,d4,ds4,p4,q4,rfl,rfl,rfl,h4,r4⟩:=trodAll_cons r3;obtain⟨rfl,rfl,rfl⟩:=trodAll_nil r4;obtain rfl:args=#[v0,v1,v2,v3,v4]:=by cases args;simp_all
 obtain⟨rfl,rfl⟩:=trodVars_none hV;have hk':=of_decide_eq_true hk;simp only[List.append_nil,Rows.uptoBulkAll] at hk';obtain⟨a0,c0,Ws,rfl,hc0,hw0,hbw⟩:=argW (hval 0 23 v0 rfl rfl) h0;have hW0:WOk W Ws a0 c0:=⟨hw0,hc0,by omega⟩;obtain⟨x1,rfl,rfl,rfl,wx1⟩:=open_int Tryz.underlying3 (hval 1 3 v1 rfl rfl) h1;obtain⟨x2,rfl,rfl,rfl⟩:=open_bool Tryz.underlying4 (hval 2 4 v2 rfl rfl) h2;obtain⟨x3,rfl,rfl,rfl,wx3⟩:=open_int Tryz.underlying3 (hval 3 3 v3 rfl rfl) h3;obtain⟨x4,rfl,rfl,rfl,wx4⟩:=open_int Tryz.underlying3 (hval 4 3 v4 rfl rfl) h4;have hT:=tabs_of_fnDefined hL;simp only[List.append_nil] at hW' hlt hA0;have HA:=hid hA0;have hrd:∀ t∈Tryz.f4.params.toList,Tryz.prog.readableRec t=true∧t<Tryz.prog.types.size:=by
  rw[Tryz.params4];intro t ht;have hm:t∈[23,3,4,3,3]:=by simpa using ht
  simp only[zgb,List.mem_nil_iff,or_false] at hm;rcases hm with rfl|rfl|rfl|rfl|rfl
  all_goals first|exact readW|exact readT|exact readI|exact readB
 clear hA0;refine(lawDefined Ws a0 c0 W hW0 hT x1 x2 x3 x4).mono fun e W' ⟨he,hb⟩ => ?_;subst he;refine⟨_,rfl,qmj (pa:=p0) (pv:=[]) hW' (fun _ _ _=>trodAll_cons_mk (shut_bool Tryz.underlying4 _) trodAll_mk0) (fun sp hs => ?_) (fun _ _=>rfl) (by simp)
  hb (ok_one (by kernel_rfl) rfl (okWide_bool_mk Tryz.underlying4 _))⟩
 exact qht Tryz.laidOutP hrd HA.out (fun x hx=>hb.same (hlt x (by simpa using hx))) (fun x hx=>hs x (by simpa using hx))
theorem laid_met_fnDefined (os:Os):laidMet Tryz.prog Rows.fnDefinedUptoRow.laid ((World.laidAll Tryz.prog os Rows.fnDefinedUptoRow.laid).forCall (fun _ _=>0) ⟨#[],#[.slice none 0 0,.int .i64 0,.bool false,.int .i64 0,.int .i64 0],[]⟩).memory:=
 laidMet_laidAll _ (by kernel_rfl) (by kernel_rfl)
theorem reads_fnDefined (os:Os) {H:Type} (enc:TypeId×Value→H):∃ places,DataW.whole enc Tryz.prog ((World.laidAll Tryz.prog os Rows.fnDefinedUptoRow.laid).forCall (fun _ _=>0) ⟨#[],#[.slice none 0 0,.int .i64 0,.bool false,.int .i64 0,.int .i64 0],[]⟩).memory Tryz.f4.params.toList Rows.fnDefinedSpec.vars false (#[.slice none 0 0,.int .i64 0,.bool false,.int .i64 0,.int .i64 0]:Array Value).toList 8=some ([.nil,.lit (.int .i64 0),.lit (.bool false),.lit (.int .i64 0),.lit (.int .i64 0)],[],places):=
 ⟨[],by kernel_rfl⟩
theorem lifted_fnDefined (os:Os) (started:os.Started) (H:Type) (enc:TypeId×Value→H) (F:Stop.Interp):
  ReturnsInHanded {} Tryz.checked os 4 .any ((Rows.OpenSpec.upto Rows.fnDefinedSpec).preRow enc Tryz.prog Tryz.f4 Rows.fnDefinedUptoRow.domain false Rows.fnDefinedUptoRow.laid) (((Rows.OpenSpec.upto Rows.fnDefinedSpec).at F).post enc Tryz.prog Tryz.f4 false true false false):=by
 obtain⟨places,hx⟩:=reads_fnDefined os enc;refine returnsInHanded_of_row (C:=Tryz.checked) (s:=Rows.OpenSpec.upto Rows.fnDefinedSpec) own started (by kernel_rfl) Tryz.func4
  (qpt (enc:=enc) (C:=Tryz.checked) false (World.laidAll Tryz.prog os Rows.fnDefinedUptoRow.laid) #[.slice none 0 0,.int .i64 0,.bool false,.int .i64 0,.int .i64 0] (World.laidAll_os _ _ _) (by kernel_rfl) (by kernel_rfl) (by kernel_rfl)
   (OpenSpec.preRow_of_cond 8 hx (by kernel_rfl) (fun k hk=>by cases hk;kernel_rfl) (by kernel_rfl) (by rw[MakeChecks.laidMetH_plain _ _ _ (by kernel_rfl)];exact laid_met_fnDefined os))) ?_
 intro W base args ds gs before hval hW _ hcond _ hL _ _;exact contract_fnDefined H enc W base args ds gs before hval hW (hcond _ rfl) hL
theorem cl1_fnDefined:(Rows.fnDefinedUptoRow.inPlace==Tryz.pinned.checked.prog.inPlace 4)=true:=by kernel_rfl
theorem cl2_fnDefined:(Rows.fnDefinedUptoRow.unfollowed==Tryz.pinned.checked.prog.unfollowed 4)=true:=by kernel_rfl
theorem cl3_fnDefined:(Rows.fnDefinedUptoRow.recurses==Tryz.pinned.checked.prog.recurses 4)=true:=by kernel_rfl
theorem cl4_fnDefined:(Rows.fnDefinedUptoRow.named==Tryz.pinned.checked.prog.varsNamed 4)=true:=by kernel_rfl
theorem closed_fnDefined:joinedFacts Tryz.pinned.checked.prog 4 Tryz.f4 (Rows.OpenSpec.upto Rows.fnDefinedSpec).bare Rows.fnDefinedUptoRow=true:=by
 unfold joinedFacts;rw[cl1_fnDefined,cl2_fnDefined,cl3_fnDefined,cl4_fnDefined,cl5,cl6]
 kernel_rfl
theorem said_fnDefined:Rows.FnDefinedUptoSaid:=
 OpenClaim.holds_of_cond 4 Tryz.f4 rfl rfl rfl rfl rfl rfl rfl ⟨rfl,rfl,rfl,rfl,rfl⟩ rfl rfl rfl rfl rfl (by kernel_rfl) Tryz.func4 closed_fnDefined
  (of_decide_eq_true (by kernel_rfl)) (by unfold Func.isWrapper;first|(rw[if_pos (by decide +kernel)];kernel_rfl)|(rw[if_neg (by decide +kernel)];exact⟨rfl,rfl⟩))
  (fun os started H enc _ F=>by rw[OpenClaim.pre_eq_preRow];exact lifted_fnDefined os started H enc F)
theorem plain_fnDefined (f : FuncId) (fn : Func) (hf : Tryz.pinned.checked.prog.funcNamed "selectors/laws.FnDefined" = some f) (hfn : Tryz.pinned.checked.prog.funcs[f]? = some fn) :
  true=Tryz.pinned.checked.prog.looks []∧∀ (j:Nat) t,fn.params[j]?=some t→Tryz.pinned.checked.prog.wantsStandIn t=false:=by
 obtain rfl : f = 4 := Option.some.inj ((show Tryz.prog.funcNamed "selectors/laws.FnDefined" = some 4 by kernel_rfl).symm.trans hf) |>.symm
 obtain rfl:fn=Tryz.f4:=(Option.some.inj (Tryz.func4.symm.trans hfn)).symm;refine⟨by kernel_rfl,fun j t ht => ?_⟩;rw[Tryz.params4] at ht;have hm:t∈[23,3,4,3,3]:=by simpa using Array.mem_of_getElem? ht
 have hall:([23,3,4,3,3].all fun u=>!Tryz.prog.wantsStandIn u)=true:=by kernel_rfl
 exact(show Tryz.prog.wantsStandIn t=false by simpa using zhb.1 hall t hm)
theorem cardFnDefined:Rows.FnDefinedUptoCardSaid:=
 Claim7.holds_tied_plain_at .later [] _ _ _ _ said_fnDefined (fun _ h=>by cases h) (by kernel_rfl) (fun _ h=>by cases h) fnDefinedUpto_row_tie rfl ⟨rfl,rfl⟩ (by kernel_rfl) rfl plain_fnDefined (by kernel_rfl)
#print axioms cardFnDefined
