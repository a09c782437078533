/- Part 8 of the proof of the law FnWrapped: for every input the law returns true, the inputs read as they did, and memory that was there is as it was; under the conditions of the given row alone. -/
import Derived.Test.YtendaipfdnhnaaaGreatDoorCards
import Derived.Test.YtendaipfdnhnaaaGreatDoorTie
import Derived.WalkKit
import Derived.ProofKit
import Derived.OpenShut
import Derived.ShutString
import Derived.ChangeMaps5
import Derived.Lay
import Derived.JoinedOf
import Derived.ChangeVars
import Derived.SevenTiedAt
import Derived.MakeChecks
import Derived.ShapedOpen
import Derived.Test.YtendaipfdnhnaaaGreatDoorA7
set_option linter.all false
namespace Go.Proofs.YtendaipfdnhnaaaGreatDoor.fnWrapped
open Go.Proofs Go.ChangeShapes Go.WideShapes Go.ChangeAt Go.RowKit Go.ChangeMaps
theorem C8:laidOutB Tryz.prog=true:=by kernel_rfl
theorem own:ownKnob Tryz.prog.godebug=none:=by kernel_rfl
set_option maxRecDepth 100000 in
theorem HW (os:Os) (started:os.Started) (H:Type) (enc:TypeId × Value→H):
 ReturnsInHanded {} Tryz.checked os 7 .any (fun w args=>(Rows.fnWrappedSpec.pre enc Tryz.prog Tryz.f7 Rows.fnWrappedRow.domain false w args∧laidMetH Tryz.prog Rows.fnWrappedRow.laid w)∧sizedMet enc Tryz.prog Tryz.f7 (OpenSpec.ofChange Rows.fnWrappedSpec) false w args)
  (Rows.fnWrappedSpec.post enc Tryz.prog Tryz.f7 false true false false):=by
 refine returnsInHanded_of_change_and (C:=Tryz.checked) (X:=fun w _=>laidMetH Tryz.prog Rows.fnWrappedRow.laid w) (fun _ _ _ hh h=>h.of_heap hh) own started (by kernel_rfl) Tryz.func7
  (ChangeSpec.witness_shaped (enc:=enc) (C:=Tryz.checked) (os:=os) (X:=fun w _=>laidMetH Tryz.prog Rows.fnWrappedRow.laid w) false (World.laidAll Tryz.prog os Rows.fnWrappedRow.laid) #[.slice none 0 0,.slice none 0 0] 8 (World.laidAll_os _ _ _)
   (World.shaped_of_ZipB (by kernel_rfl) (by kernel_rfl)) (by kernel_rfl) (by kernel_rfl) (by kernel_rfl)
   (by rw[MakeChecks.laidMetH_plain _ _ _ (by kernel_rfl)];exact laidMet_laidAll _ (by kernel_rfl) (by kernel_rfl))) ?_
 intro W base args ds gs before hval0 hW hc _ hL _
 have hval: ∀(j:Nat) t v,Tryz.f7.params[j]? =some t→args[j]? =some v→Value.okWide Tryz.prog W .any base t v:=hval0
 have hW':=hW
 obtain ⟨p,q,hA0,hV,rfl,_,_⟩:=hW
 have hA:DataW.TrodAll enc Tryz.prog W 0 (fun _=>true) true Tryz.f7.params.toList args.toList ds p:=hA0
 rw[Tryz.params7] at hA hval
 obtain ⟨v0,vs0,d0,ds0,p0,q0,hargs0,rfl,rfl,h0,r0⟩:=trodAll_cons hA
 obtain ⟨v1,vs1,d1,ds1,p1,q1,hargs1,rfl,rfl,h1,r1⟩:=trodAll_cons r0
 obtain ⟨hvs,rfl,rfl⟩:=trodAll_nil r1
 obtain rfl:args= #[v0,v1]:=by cases args;simp_all
 obtain ⟨rfl,rfl⟩:=trodVars_none hV
 have hk0:=h0
 obtain ⟨sq0,sn0,sc0,ls0,rfl,hs0⟩:=CM Tryz.underlying22 Tryz.underlying5 (by kernel_rfl) (hval 0 22 v0 rfl rfl) h0
 have hk1:=h1
 obtain ⟨sq1,sn1,sc1,ls1,rfl,hs1⟩:=CL Tryz.underlying46 Tryz.underlying4 (by kernel_rfl) (hval 1 46 v1 rfl rfl) h1
 simp only[List.append_nil,List.nil_append] at hW'
 obtain ⟨ec,hent,hecm⟩:=ym (P:=Tryz.prog) (TA:=348) (TB:=347) (TS:=9) (N:= "pub-paratext/pub/rscmarkdown.htmlEntities") (by kernel_rfl) (by kernel_rfl) (by kernel_rfl) (by kernel_rfl) (by kernel_rfl) (by kernel_rfl) (by kernel_rfl) (l:=Rows.fnWrappedRow.laid) (d:=Rows.laid_pub_paratext_pub_rscmarkdown_htmlEntities) (by kernel_rfl) (by unfold Rows.laid_pub_paratext_pub_rscmarkdown_htmlEntities;exact rfl) (by kernel_rfl) (by kernel_rfl) hL
 have walk:Calls Tryz.prog 7 #[.slice sq0 sn0 sc0,.slice sq1 sn1 sc1] W fun e w'=>e= .returned (.bool true)∧Sat (xr W) w' (fI W):=
  DT Tryz.call7 (yf hent hecm hs0 hs1 (EB W) fun w' h=>⟨rfl,h⟩)
 refine walk.mono fun e W' ⟨he,hw⟩=> ?_
 subst he
 have stays0:=WideElems.Trod_stays (base:=0) (sp':=fun b=>decide (b<W.heap.size)) C8 (by kernel_rfl) (of_decide_eq_true (by kernel_rfl)) hk0 (fun x hx=>sZ hw (by simpa using hW'.lt x (by simp[hx]))) (fun x hx=>by simpa using hW'.lt x (by simp[hx]))
 have stays1:=WideElems.Trod_stays (base:=0) (sp':=fun b=>decide (b<W.heap.size)) C8 (by kernel_rfl) (of_decide_eq_true (by kernel_rfl)) hk1 (fun x hx=>sZ hw (by simpa using hW'.lt x (by simp[hx]))) (fun x hx=>by simpa using hW'.lt x (by simp[hx]))
 exact ⟨_,rfl,_,_,_,[],_,[],hW',trodAll_cons_mk (shut_bool Tryz.underlying4 _) trodAll_mk0,trodAll_cons_mk (stays0) (trodAll_cons_mk (stays1) trodAll_mk0),rfl,zq hw _,fun h=>by cases h⟩
theorem andB {a b:Bool} (h:a=true) (k:b=true):(a && b)=true:=by rw[h,k];rfl
set_option maxHeartbeats 6400000 in
theorem closed:joinedFacts Tryz.pinned.checked.prog 7 Tryz.f7 Rows.fnWrappedSpec Rows.fnWrappedRow=true:=by
 unfold joinedFacts
 repeat' (with_reducible refine andB ?_ ?_)
 all_goals (as_aux_lemma=>kernel_rfl)
theorem said:Rows.FnWrappedSaid:=
 OpenClaim.holds_of_wide 7 Tryz.f7 rfl rfl rfl rfl rfl rfl rfl ⟨rfl,rfl,rfl,rfl,rfl⟩ rfl rfl rfl rfl rfl (by as_aux_lemma=>kernel_rfl) Tryz.func7 closed
  (of_decide_eq_true (by kernel_rfl)) (by unfold Func.isWrapper;first|(rw[if_pos (by decide+kernel)];kernel_rfl)|(rw[if_neg (by decide+kernel)];exact ⟨rfl,rfl⟩))
  (fun os started H enc _=>HW os started H enc)
theorem plain (f:FuncId) (fn:Func) (hf:Tryz.pinned.checked.prog.funcNamed "pub-paratext/laws.FnWrapped" =some f) (hfn:Tryz.pinned.checked.prog.funcs[f]? =some fn):
 true=Tryz.pinned.checked.prog.looks []∧ ∀(j:Nat) t,fn.params[j]? =some t→Tryz.pinned.checked.prog.wantsStandIn t=false:=by
 obtain rfl:f=7:=Option.some.inj ((show Tryz.prog.funcNamed "pub-paratext/laws.FnWrapped" =some 7 by kernel_rfl).symm.trans hf)|>.symm
 obtain rfl:fn=Tryz.f7:=(Option.some.inj (Tryz.func7.symm.trans hfn)).symm
 refine ⟨by kernel_rfl,fun j t ht=> ?_⟩
 rw[Tryz.params7] at ht
 have hm:t∈ [22,46]:=by simpa using Array.mem_of_getElem? ht
 have hall:([22,46].all fun u=> !Tryz.prog.wantsStandIn u)=true:=by kernel_rfl
 exact (show Tryz.prog.wantsStandIn t=false by simpa using List.all_eq_true.1 hall t hm)
theorem noGo (P:Program) (h:P.funcs.any Func.goes=false) (func:String):P.goesFrom func=false:=by
 unfold Program.goesFrom
 have hg: ∀g:FuncId,(P.funcs[g]?).any Func.goes=false:=by
  intro g
  cases hf:P.funcs[g]? with
  |none=>rfl
  |some fn=>
   have hm:=Array.mem_of_getElem? hf
   have:=(Array.any_eq_false'.1 h) fn hm
   simpa using this
 cases P.funcNamed func with
 |none=>rfl
 |some f=>
  show P.goes f=false
  unfold Program.goes
  rw[h,Bool.and_false,Bool.or_false,List.any_eq_false.2 (fun g _=>by simp[hg g])]
theorem HS:Tryz.prog.funcs.any Func.goes=false:=by kernel_rfl
theorem G5:false=Rows.fnWrappedRow.goesBy Tryz.pinned.checked.prog:=by
 unfold OpenClaim.goesBy Program.goesAt
 have e:Tryz.pinned.checked.prog.goesFrom Rows.fnWrappedRow.func=false:=noGo Tryz.prog HS _
 rw[e];rfl
theorem card_holds:Rows.FnWrappedCardSaid:=
 Claim7.holds_tied_plain_at .later [] [.data,.data,.data,.data,.sentinel,.sentinel,.data,.pinned] true (true,"2497210a1e685749151671afd08711d1d2508eec70a6af6fa411d8201e0e83ff") true said (fun _ h=>by cases h) (by as_aux_lemma=>kernel_rfl) (fun _ h=>by cases h) fnWrapped_row_tie rfl ⟨rfl,rfl⟩ (by as_aux_lemma=>kernel_rfl) rfl plain G5
#print axioms card_holds
end Go.Proofs.YtendaipfdnhnaaaGreatDoor.fnWrapped

