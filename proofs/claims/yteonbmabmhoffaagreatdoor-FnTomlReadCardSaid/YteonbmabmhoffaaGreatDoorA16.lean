/- A part of the proof of FnTomlReadCardSaid: for every string the law FnTomlRead returns true. Conditions: those of the given row and card, no others. -/
import Derived.Test.YteonbmabmhoffaaGreatDoorCards
import Derived.Test.YteonbmabmhoffaaGreatDoorTie
import Derived.WalkKit
import Derived.ProofKit
import Derived.OpenShut
import Derived.Lay
import Derived.Deep.DeepHandedRow
import Derived.Lib.LaidTab
import Derived.Test.YteonbmabmhoffaaGreatDoorA15
open Option renaming some->J,none->ab
open Bool renaming true->ai,false->av
open Go renaming Value->ao
open Go.Value renaming bool->aQ,string->fo
open List renaming length->U,toArray->aZ,drop->ax,take->bf
open Array renaming size->ag,toList->bC
namespace Go.Proofs.YteonbmabmhoffaaGreatDoor.Fin
open F
set_option linter.all false
set_option autoImplicit true
set_option relaxedAutoImplicit true
set_option maxRecDepth 100000
set_option maxHeartbeats 4000000
noncomputable section
section
open Go Go.ChangeShapes Go.WideShapes Go.ChangeAt Go.RowKit Go.ChangeMaps
theorem own:ownKnob Tryz.prog.godebug=ab:=b4
theorem aaA:Tryz.prog.globalNamed "unicode/utf8.first" =J 0:=b4
theorem Rk:Tryz.prog.globalNamed "unicode/utf8.acceptRanges" =J 1:=b4
theorem azR:(Tryz.prog.globals[0]?).map (·.type)=J 65:=b4
theorem azQ:(Tryz.prog.globals[1]?).map (·.type)=J 68:=b4
theorem aCY:Tryz.prog.cellsOf 68=32:=b4
theorem aoS:Tryz.prog.cellsOf 67=2:=b4
theorem aCX:Tryz.prog.cellsOf 65=256:=b4
theorem eX:Tryz.prog.cellsOf 5=1:=b4
theorem Vc{W:World}{a:Addr}{v:ao}(h:W.cell? a=J v):F.rd W.heap a=J v:=h
def u6:List (Nat×Nat):=[(128,191),(160,191),(128,159),(144,191),(128,143),(0,0),(0,0),(0,0),(0,0),(0,0),(0,0),(0,0),(0,0),(0,0),(0,0),(0,0)]
theorem aoe:(Rows.laid_unicode_utf8_acceptRanges:DataW Unit)=.agg (u6.map λx=>.agg [.lit (.int .u8 (x.1:Int)),.lit (.int .u8 (x.2:Int))]):=b4
theorem ap9:Rows.laid_unicode_utf8_first=.agg (Pinned.utf8FirstZ.map λn:Nat=>.lit (.int .u8 (n:Int))):=b4
theorem ap8:U Pinned.utf8FirstZ=256:=b4
theorem ap6:((List.range 256).all λi=>Nat.beq (Pinned.utf8FirstZ.getD i 0) (F.fV i))=ai:=b4
theorem ap7{i:Nat}(h:i<256):Pinned.utf8FirstZ.getD i 0=F.fV i:=Nat.eq_of_beq_eq_true (List.all_eq_true.1 ap6 i (List.mem_range.2 h))
section
variable{W:World}{sp:Nat->Bool}{held:Bool}{fuel:Nat}{cs:List ao}{p:List MemPlace}
theorem azU(h:DataW.trod (λ_=>()) Tryz.prog W 0 sp held fuel 65 cs=J (.agg (Pinned.utf8FirstZ.map λn:Nat=>.lit (.int .u8 (n:Int))),p))(r:Nat)(aF:r<256):cs[r]?=J (.int .u8 (F.fV r:Int)):=by
 obtain⟨xs,m,_,ex,_,au,A0⟩:=DataW.trod_array Tryz.underlying65 h;have jR:=A0 r aF;rw[eX,Nat.mul_one,List.getElem?_eq_getElem I] at jR;obtain⟨z,aw,ar,_⟩:=DataW.trod_int Tryz.underlying5 jR;have aS:(xs.map (·.1))=Pinned.utf8FirstZ.map λn:Nat=>(DataW.lit (.int .u8 (n:Int)):DataW Unit):=(DataW.agg.inj (Prod.mk.inj ex).1).symm;have hlen:=ap8;have bl:(xs.map (·.1))[r]?=(Pinned.utf8FirstZ.map λn:Nat=>(DataW.lit (.int .u8 (n:Int)):DataW Unit))[r]?:=by rw[aS]
 rw[List.getElem?_map,List.getElem?_map,List.getElem?_eq_getElem (by omega:r<U xs),List.getElem?_eq_getElem (by omega:r<U Pinned.utf8FirstZ),ar] at bl;have aV:z=(F.fV r:Int):=by
  simp only[Option.map_some,Option.some.injEq,DataW.lit.injEq,Lit.int.injEq,true_and] at bl;rw[bl,<-ap7 aF,List.getD,List.getElem?_eq_getElem (by omega:r<U Pinned.utf8FirstZ)];rfl
 have aW:(bf 1 (ax r cs))[0]?=J (.int .u8 z):=by rw[aw];rfl
 grind
theorem aod(h:DataW.trod (λ_=>()) Tryz.prog W 0 sp held fuel 68 cs=J (.agg (u6.map λx=>.agg [.lit (.int .u8 (x.1:Int)),.lit (.int .u8 (x.2:Int))]),p))(r:Nat)(aF:r<16):
  cs[r*2]?=J (.int .u8 ((u6.getD r (0,0)).1:Int))/\cs[r*2+1]?=J (.int .u8 ((u6.getD r (0,0)).2:Int)):=by
 obtain⟨xs,m,_,ex,_,au,A0⟩:=DataW.trod_array Tryz.underlying68 h;have jR:=A0 r aF;rw[aoS,List.getElem?_eq_getElem I] at jR;obtain⟨Wf,dd,n,aw,_,ar,aS⟩:=trod_struct2 Tryz.underlying67 jR;simp only[eX] at ar aS;obtain⟨xe,bx,bH,_⟩:=DataW.trod_int Tryz.underlying5 ar;obtain⟨fC,cg,cJ,_⟩:=DataW.trod_int Tryz.underlying5 aS;have bl:(xs.map (·.1))=u6.map λx=>(DataW.agg [.lit (.int .u8 (x.1:Int)),.lit (.int .u8 (x.2:Int))]:DataW Unit):=(DataW.agg.inj (Prod.mk.inj ex).1).symm;have hlen:U u6=16:=rfl;have dt:(xs.map (·.1))[r]?=(u6.map λx=>(DataW.agg [.lit (.int .u8 (x.1:Int)),.lit (.int .u8 (x.2:Int))]:DataW Unit))[r]?:=by rw[bl]
 rw[List.getElem?_map,List.getElem?_map,List.getElem?_eq_getElem (by omega:r<U xs),List.getElem?_eq_getElem (by omega:r<U u6),aw,bH,cJ] at dt;simp only[Option.map_some,Option.some.injEq,DataW.agg.injEq,List.cons.injEq,DataW.lit.injEq,Lit.int.injEq,true_and,and_true] at dt;have aX:u6.getD r (0,0)=u6[r]:=al
 obtain⟨jD,bq⟩:=dt;rw[aX];have aW:(bf 1 (ax 0 (bf 2 (ax (r*2) cs))))[0]?=J (.int .u8 xe):=by rw[bx];rfl
 have aa:(bf 1 (ax 1 (bf 2 (ax (r*2) cs))))[0]?=J (.int .u8 fC):=by rw[cg];rfl
 grind
end
theorem tables{W:World}(h:laidMetH Tryz.prog Rows.fnTomlReadRow.laid W):F.jM W.heap/\2<=ag W.heap:=by
 rw[MakeChecks.laidMetH_plain _ _ _ b4] at h;obtain⟨c9,⟨g,t,cs,fuel,p,q,aX,aP,aD,aG,⟨bd,t2,QC,aDq,gS,bw,vk,wH,oX,h9,_,_⟩,_⟩,_,_⟩:=h;obtain rfl:=Option.some.inj (Rk.symm.trans aX);obtain rfl:=Option.some.inj (azQ.symm.trans aP);obtain rfl:=Option.some.inj (aaA.symm.trans vk);obtain rfl:=Option.some.inj (azR.symm.trans wH);rw[aoe] at aG;rw[ap9] at h9;have f1:∀i,i<256->F.rd W.heap ⟨0,i,ab⟩=J (.int .u8 (F.fV i:Int)):=λi az=>by
  refine Vc ?_;rw[World.var?_cell aaA oX i];have:=azU h9 i az;grind
 have f2:∀r,r<16->F.rd W.heap ⟨1,r*2,ab⟩=J (.int .u8 ((u6.getD r (0,0)).1:Int))/\F.rd W.heap ⟨1,r*2+1,ab⟩=J (.int .u8 ((u6.getD r (0,0)).2:Int)):=λr aF=>by
  have:=aod aG r aF;constructor
  .refine Vc ?_;rw[World.var?_cell Rk aD (r*2)];grind
  .refine Vc ?_;rw[World.var?_cell Rk aD (r*2+1)];grind
 refine⟨⟨f1,λk aq=>?_,λk aq=>?_,(f2 15 aE).1,(f2 15 aE).2⟩,?_⟩
 .rw[(f2 k I).1];have e:k=0\/k=1\/k=2\/k=3\/k=4:=I
  rcases e with rfl|rfl|rfl|rfl|rfl<;>rfl
 .rw[(f2 k I).2];have e:k=0\/k=1\/k=2\/k=3\/k=4:=I
  rcases e with rfl|rfl|rfl|rfl|rfl<;>rfl
 .have:=(f2 0 aE).1;unfold F.rd at this;grind
theorem kept{W EA:World}{may:MemPlace->Prop}(aL:F.e9 W EA)(he:F.aB W.heap EA.heap):W.keptBut EA may:=by
 refine⟨aL.os,aL.output,λi az=>?_⟩;rw[he.2 i az];grind
theorem ao6(H:Type)(enc:TypeId×ao->H)(W:World)(base:Nat)(args:Array ao)(ds gs:List (DataW H))(before:List MemPlace)
  (Df:∀(j:Nat) t v,Tryz.f3.params[j]?=J t->args[j]?=J v->Value.okWide Tryz.prog W .any base t v)
  (MD:DataW.Whole enc Tryz.prog (bC Tryz.f3.params) Rows.fnTomlReadSpec.vars av W (bC args) ds gs before) (hD:laidMetH Tryz.prog Rows.fnTomlReadRow.laid W):
  Calls Tryz.prog 3 args W λe EA=>∃v,e=.returned v/\Rows.fnTomlReadSpec.post enc Tryz.prog Tryz.f3 av ai av av W args v EA:=by
 have abC:=MD;obtain⟨p,q,arw,eu,rfl,aEl,nG⟩:=MD;have fO:DataW.TrodAll enc Tryz.prog W 0 (λ_=>ai) ai (bC Tryz.f3.params) (bC args) ds p:=arw;rw[Tryz.params3] at fO Df;obtain⟨v0,d0,rfl,rfl,aW⟩:=trodAll_one fO;obtain⟨rfl,rfl⟩:=trodVars_none eu;obtain⟨s,rfl,rfl,rfl,aL⟩:=open_string Tryz.underlying9 (Df 0 9 v0 rfl rfl) aW;simp only[List.append_nil] at abC;obtain⟨dn,ad⟩:=tables hD;have ay:=F.ajd (h:=W.heap) (D:=bC s.data) (R:=λv h'=>v=aQ ai/\F.aB W.heap h') dn ad (λh' e=>⟨rfl,e⟩) W rfl;have aY:F.S (bC s.data)=fo s:=by
  show Value.string ⟨aZ (bC s.data)⟩=_;grind
 rw[aY] at ay;refine Calls.mono (P:=Tryz.prog) ay λe EA ⟨⟨v,he,aD,ae⟩,auQ⟩=>?_;subst aD;refine⟨_,he,?_⟩;refine⟨_,_,_,[],[],[],abC,trodAll_mk1 (shut_bool Tryz.underlying4 _),trodAll_mk1 (shut_string Tryz.underlying9 aL),rfl,kept auQ ae,λh=>by cases h⟩
noncomputable def TU(os:Os):World:=World.laidAll Tryz.prog os Rows.fnTomlReadRow.laid
theorem awd(os:Os):laidMetH Tryz.prog Rows.fnTomlReadRow.laid ((TU os).forCall (λ_ _=>0) ⟨#[],#[fo ⟨#[]⟩],[]⟩).memory:=by
 rw[MakeChecks.laidMetH_plain _ _ _ b4];exact laidMet_laidAll _ b4 b4
theorem reads(os:Os){H:Type}(enc:TypeId×ao->H):∃places,DataW.whole enc Tryz.prog ((TU os).forCall (λ_ _=>0) ⟨#[],#[.string ⟨#[]⟩],[]⟩).memory (bC Tryz.f3.params) Rows.fnTomlReadSpec.vars av (bC #[Value.string ⟨#[]⟩]) 8=J ([.lit (.string [])],[],places):=
 ⟨[],b4⟩
theorem lifted(os:Os)(started:os.Started)(H:Type)(enc:TypeId×ao->H)(F:Stop.Interp):
  ReturnsInHanded {} Tryz.checked os 3 .any ((OpenSpec.ofChange Rows.fnTomlReadSpec).preRow enc Tryz.prog Tryz.f3 Rows.fnTomlReadRow.domain av Rows.fnTomlReadRow.laid) (((OpenSpec.ofChange Rows.fnTomlReadSpec).at F).post enc Tryz.prog Tryz.f3 av ai av av):=by
 obtain⟨places,ae⟩:=reads os enc;refine returnsInHanded_of_row (C:=Tryz.checked) (s:=OpenSpec.ofChange Rows.fnTomlReadSpec) own started b4 Tryz.func3
  (witness_row_at (enc:=enc) (C:=Tryz.checked) av (TU os) #[fo ⟨#[]⟩] (World.laidAll_os _ _ _) b4 b4 b4
   (OpenSpec.preRow_of_cond 8 ae b4 (λk aq=>by cases aq) b4 (awd os))) ?_
 intro W base args ds gs before Df MD _ _ _ hD _ _;exact ao6 H enc W base args ds gs before Df MD hD
theorem said:Rows.FnTomlReadSaid:=
 OpenClaim.holds_of_cond 3 Tryz.f3 rfl rfl rfl rfl rfl rfl rfl ⟨rfl,rfl,rfl,rfl,rfl⟩ rfl rfl rfl rfl rfl b4 Tryz.func3 b4
  (of_decide_eq_true b4) (by unfold Func.isWrapper;first|(rw[if_pos (by decide+kernel)];kernel_rfl)|(rw[if_neg (by decide+kernel)];exact⟨rfl,rfl⟩))
  (λos started H enc _ F=>by rw[OpenClaim.pre_eq_preRow];exact lifted os started H enc F)
theorem plain(f:FuncId)(fn:Func)(bj:Tryz.pinned.checked.prog.funcNamed "pub-enchiridion/laws.FnTomlRead" =J f)(MT:Tryz.pinned.checked.prog.funcs[f]?=J fn):
  ai=Tryz.pinned.checked.prog.looks []/\∀(j:Nat) t,fn.params[j]?=J t->Tryz.pinned.checked.prog.wantsStandIn t=av:=by
 obtain rfl:f=3:=Option.some.inj ((b4:Tryz.prog.funcNamed "pub-enchiridion/laws.FnTomlRead" =J 3).symm.trans bj)|>.symm;obtain rfl:fn=Tryz.f3:=(Option.some.inj (Tryz.func3.symm.trans MT)).symm;refine⟨b4,λj t aP=>?_⟩;rw[Tryz.params3] at aP;obtain rfl:t=9:=al
 exact(b4:Tryz.prog.wantsStandIn 9=av)
theorem card:Rows.FnTomlReadCardSaid:=
 Claim7.holds_tied_plain_at .later [] _ _ _ _ said (λ_ h=>by cases h) b4 (λ_ h=>by cases h) fnTomlRead_row_tie rfl ⟨rfl,rfl⟩ b4 rfl plain b4
end
