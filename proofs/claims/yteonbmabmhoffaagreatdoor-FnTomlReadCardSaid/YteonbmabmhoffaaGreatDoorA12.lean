/- A part of the proof of FnTomlReadCardSaid: for every string the law FnTomlRead returns true. Conditions: those of the given row and card, no others. -/
import Derived.Test.YteonbmabmhoffaaGreatDoorA11
open Option renaming some->J,none->ab
open Bool renaming true->ai,false->av
open Go renaming Value->ao
open Go.Obj renaming cells->aO
open Go.Value renaming bool->aQ,slice->a5,tuple->bA,pointer->bU,agg->cA,nilIface->cR,iface->cW,string->fo
open Or renaming inl->bF,inr->bt
open Go.BinOp renaming eql->cQ,neq->hF
open List renaming length->U,toArray->aZ,drop->ax,take->bf
open Array renaming size->ag,toList->bC,push->a6
namespace Go.Proofs.YteonbmabmhoffaaGreatDoor.F
set_option linter.all false
set_option autoImplicit true
set_option relaxedAutoImplicit true
set_option maxRecDepth 100000
set_option maxHeartbeats 4000000
noncomputable section
section
variable{g g':H}{own a_:cH}{aj a8:List (bW bL)}{M bK:List Nat}{V ee:List ao}{id cY i j b n:Nat}{kv:List (B×Nat)}{k key:B}{ks:List B}{bB:bW bL}{w v b' a:ao}{t:bL}{l:List Nat}{R K:K}
def agD(ae:cz aj j)(h:U V=U aj):cV (V++W) j=cV V j:=v9 (by obtain⟨y,a2⟩:=ae;grind)
def Y5(aY:fK g aj V own)(c0:U aj<=5000)(da:aj[id]?=J (.bX kv))(af:cV V id=cW 52 (mapOf b))(bk:lq aj)(aJ:∃a8 bK cY,belowS (k::ks) aj M id=.ok a8 bK cY)
  (q:∀g' a_ a8 bK ee j dP,gV g own g' a_ a8 ee->cV ee j=cW 52 (mapOf dP)->cz a8 j->belowS ks a8 bK j=belowS (k::ks) aj M id->U a8<=U aj+1->lq a8->(∀x,cz aj x->cz a8 x/\cV ee x=cV V x)->R (mapOf dP) g'):bo 106 [b',mapOf b,S k] g R:=by
 have jW:kvOf aj id=kv:=o0 da;have nC:=(fk.1 da).1;obtain⟨BS,Ae,avy,aJ⟩:=aJ;have M7:=aJ;rw[belowS,jW] at aJ;refine Pd aY c0 da af (λi az=>?_) (λi dP az aP dN=>?_) (λi l t dP az au mZ dN=>?_) λaq g' a_ gG uu kE a'=>?_
 .rw[az] at aJ;simp only at aJ;split at aJ
  .rename_i l dw;have:=bk i l dw;exact bt ⟨l,l.getLast this,dw,List.getLast?_eq_some_getLast this⟩
  .rename_i cL dw;exact bF ⟨cL,dw⟩
  .cases aJ
 .rw[az] at aJ;obtain⟨cL,dw⟩:=aP;simp only[dw] at aJ;refine q g own aj M V i dP (gV.refl aY) dN ⟨cL,dw⟩ al I bk λx ae=>⟨ae,rfl⟩
 .rw[az] at aJ;simp only[au,mZ,aB5] at aJ;refine q g own aj M V t dP (gV.refl aY) dN (aY.nM i l t au (List.mem_of_getLast? mZ)).2 al I bk λx ae=>⟨ae,rfl⟩
 .rw[aq] at aJ;have qm:=aY.lenV;refine q g' a_ _ (M++[0]) _ (U aj) (ag g) (gV.of gG (λx ae=>by rw[uu];exact kL I) kE I) (by rw[<-qm];exact y4) ⟨[],nW⟩ al (by rw[lp];omega) (bk.add λl e=>by cases e) λx ae=>⟨qa ae,agD ae qm⟩
def aey(h:nameS dU ks aj M=.ok a8 bK cY):∃eA nq vx,belowS ks.dropLast aj M 0=.ok eA nq vx:=by
 unfold nameS at h;grind
def ajE(aY:fK g aj V own)(c0:U aj<=4000)(aP:cz aj 0)(af:cV V 0=cW 52 (mapOf b))(bk:lq aj)(P:jy g own a ks)(aJ:nameS av ks aj M=.ok a8 bK cY)
  (q:∀g' a_ ee dP,gV g own g' a_ a8 ee->cV ee cY=cW 52 (mapOf dP)->lq a8->cz a8 cY->(∀x,cz aj x->cz a8 x/\cV ee x=cV V x)->R (mapOf dP) g'):bo 76 [b',mapOf b,a] g R:=by
 apply amM;have atI:=P.Dn;have hlen:=P.len;have xZ:=lJ.2 P.ne;rw[atI,bs];refine jn (λm gu gD dM=>∃(n dP:Nat) (kG:cH) (eA:List (bW bL)) (ln:List ao),gu=mapOf dP/\gD=ah n/\gV g own dM kG eA ln/\lq eA/\(∀x,cz aj x->cz eA x/\cV ln x=cV V x)/\m=U ks-n/\((n<U ks/\∃j nq,cV ln j=cW 52 (mapOf dP)/\cz eA j/\belowS (ax n ks.dropLast) eA nq j=belowS ks.dropLast aj M 0/\U eA<=U aj+n)\/(n=U ks/\eA=a8/\cV ln cY=cW 52 (mapOf dP)/\cz a8 cY))) _
  ⟨0,b,own,aj,V,rfl,rfl,gV.refl aY,bk,λx ae=>⟨ae,rfl⟩,rfl,bF ⟨xZ,0,M,af,aP,rfl,I⟩⟩ ?_
 rintro m fl gu gD dM N ⟨n,dP,kG,eA,ln,rfl,rfl,hT,tj,Dd,rfl,asw⟩ a7;rcases asw with ⟨aI,j,nq,iC,⟨kv,ey⟩,mE,Iv⟩|⟨aI,rfl,iC,qq⟩
 .have fT:=P.qi hT;obtain⟨u,bb,eE,o8,jg,pM,rb⟩:=fT.get aI;refine dG pM rb ?_;refine Ea jg ?_;by_cases au:n+1<U ks
  .rw[LH au] at mE;obtain⟨BS,Ae,i9,gg⟩:=aey aJ;refine Y5 hT.gs I ey iC tj ⟨_,_,_,mE.trans gg⟩ λbd o2 hy M2 u4 bc cJ mm cF wH dV fF kY k3=>?_;try refine aR ?_
   refine a7 (U ks-(n+1)) _ _ _ I ⟨n+1,cJ,o2,hy,u4,rfl,rfl,hT.trans mm,kY,λx ae=>?_,rfl,bF ⟨au,bc,M2,cF,wH,dV.trans mE,I⟩⟩;grind
  .rw[LI I,belowS] at mE;have jW:kvOf eA j=kv:=o0 ey;have hs:=aJ;unfold nameS at hs;rw[<-mE] at hs;simp only[ND (I:n+1=U ks),jW] at hs;refine Pd hT.gs I ey iC (λi az=>?_) (λi cJ az Dc cF=>?_) (λi l t cJ az acm _ _=>?_) λaq bd o2 iB ib kE a'=>?_
   .rw[az] at hs;simp only at hs;split at hs
    .cases hs
    .rename_i cL dw;exact bF ⟨cL,dw⟩
    .cases hs
   .obtain⟨cL,dw⟩:=Dc;rw[az] at hs;simp only[dw] at hs;split at hs
    .cases hs
    split at hs
    .cases hs
    cases hs;try refine aR ?_
    exact a7 (U ks-(n+1)) _ _ _ I ⟨n+1,cJ,kG,_,ln,rfl,rfl,hT,tj,Dd,rfl,bt ⟨I,rfl,cF,cL,dw⟩⟩
   .grind
   .rw[aq] at hs;simp only at hs;split at hs
    .grind
    cases hs;have qm:=hT.gs.lenV;have nE:=(fk.1 ey).1;try refine aR ?_
    refine a7 (U ks-(n+1)) _ _ _ I ⟨n+1,ag dM,o2,_,_,rfl,rfl,hT.trans (gV.of iB (λx ae=>by rw[ib];exact kL I) kE I),tj.add (λl e=>by cases e),λx ae=>?_,rfl,bt ⟨I,rfl,by rw[<-qm];exact y4,[],nW⟩⟩;have aa:=Dd x ae;exact⟨qa aa.1,(agD aa.1 qm).trans aa.2⟩
 .subst aI;refine aR ?_;grind
end
section
variable{g cn g':H}{own c5 a_:cH}{aj a8:List (bW bL)}{M bK:List Nat}{V ee:List ao}{id cY i j b be n:Nat}{kv:List (B×Nat)}{k key:B}{ks:List B}{bB:bW bL}{w v b' a fA qv:ao}{t:bL}{l:List Nat}{ro:Option Nat}{R K:K}
def adH{n:Nat}:∀{kv:List (B×Nat)} {i:Nat},kvF key kv=J i->∃n:Nat,kv[n]?=J (key,i)
 |[],_,h=>by cases h
 |x::l,i,h=>by
  rw[kvF] at h;split at h
  .rename_i e;cases h;exact⟨0,by simp[<-e]⟩
  .obtain⟨m,hm⟩:=adH (n:=n) h;exact⟨m+1,al⟩
def adK(f bm:Nat->ao):∀{kv:List (B×Nat)} {i:Nat},kvF key kv=J i->(kv.Pairwise λx y=>x.1≠y.1)->(∀x∈kv,x.1≠key->bm x.2=f x.2)->Bk key (bm i) (kv.map λx=>(x.1,f x.2))=kv.map λx=>(x.1,bm x.2)
 |[],_,h,_,_=>by cases h
 |x::l,i,h,aG,bj=>by
  rw[kvF] at h;simp only[kp,Bk];have nA:=O3.1 aG;split at h
  .rename_i e;cases h;rw[aA e,<-e];congr 1
   exact yw λy a2=>al
  .rename_i bk;rw[ak bk,adK f bm h nA.2 λy a2=>bj y (xf _ a2),bj x (uO ..) bk]
def NodeG.keepJ(d:NodeG g own V j v bB)(k:∀b,b<ag g->(own b=ab\/∃s,own b=J (j,s))->g'[b]?=g[b]?/\a_ b=own b)(aG:∀b x,own b=J x->b<ag g)(eu:∀i,(match bB with| .arr l=>i∈l| .bX kv=>∃k,(k,i)∈kv| .val _=>False)->cV ee i=cV V i):NodeG g' a_ ee j v bB:=by
 have zz:∀b s,own b=J (j,s)->g'[b]?=g[b]?/\a_ b=J (j,s):=λb s aH=>by
  grind
 cases bB with
 |val t=>
  refine gx.keep d λb af aH=>?_;grind
 |arr l=>
  obtain⟨fA,ro,aa,ad,an⟩:=d;have aw:l.map (cV ee)=l.map (cV V):=yw λi az=>eu i az;refine⟨fA,ro,aa,?_,λr aF=>(zz r 1 (an r aF)).2⟩;rw[aw];exact ad.at λr aF=>(zz r 1 (an r aF)).1
 |bX kv=>
  obtain⟨b,es,cl,aa,ad,an,aT⟩:=d;have aw:(kv.map λx=>(x.1,cV ee x.2))=kv.map λx=>(x.1,cV V x.2):=yw λx ae=>by rw[eu x.2 ⟨x.1,ae⟩]
  exact⟨b,es,cl,aa,(zz b 0 ad).2,(zz b 0 ad).1.trans an,al⟩
def fK.ht(aY:fK g aj V own)(c0:U aj<=5000)(da:aj[id]?=J (.bX kv))(aq:kvF key kv=ab)(af:cV V id=cW 52 (mapOf b))(aa:g[be]?=J (.map #[] 0)) (ad:own be=J (U aj+1,0)) (an:b2 g fA 1 [cW 52 (mapOf be)] ro) (aT:∀r,ro=J r->own r=J (U aj,1))
  (q:∀g',fK g' (gf (dY aj id key (.arr [])) (U aj) []) (V++[cW 105 fA]++[cW 52 (mapOf be)]) own->ky id own g g'->K undef g'):Mu (mapOf b) (S key) (cW 105 fA) g K:=by
 have nC:=(fk.1 da).1;obtain⟨dP,es,cl,aw,ar,aS,bl⟩:=aY.node id _ da;rw[af] at aw;cases aw;have ey:kvV key (kv.map λx=>(x.1,cV V x.2))=ab:=by rw[I5,aq];rfl
 refine X_ (v:=cW 105 fA) aS bl ey λg' qM b_ dN iT=>?_;have qm:=aY.lenV;have c3:U (dY aj id key (bW.arr []))=U aj+1:=lp;have af4:gf (dY aj id key (bW.arr [])) (U aj) []=((dY aj id key (bW.arr []))++[bW.bX []]).set (U aj) (.arr [U aj+1]):=by unfold gf;rw[c3];rfl
 have s1:(gf (dY aj id key (bW.arr [])) (U aj) [])[U aj]?=J (.arr [U aj+1]):=al
 have s2:(gf (dY aj id key (bW.arr [])) (U aj) [])[U aj+1]?=J (.bX []):=al
 have dB:∀j,j<U aj->(gf (dY aj id key (bW.arr [])) (U aj) [])[j]?=(dY aj id key (bW.arr []))[j]?:=λj h=>al
 have tV:(gf (dY aj id key (bW.arr [])) (U aj) [])[id]?=J (.bX (kv++[(key,U aj)])):=by rw[dB id nC,Am nC,o0 da]
 have old:∀j,j<U aj->j≠id->(gf (dY aj id key (bW.arr [])) (U aj) [])[j]?=aj[j]?:=λj a b=>by rw[dB j a];exact An a (λe=>b e.symm)
 have wQ:U (gf (dY aj id key (bW.arr [])) (U aj) [])=U aj+2:=al
 generalize gf (dY aj id key (bW.arr [])) (U aj) []=hY at*;have app:∀i,i<U aj->cV (V++[cW 105 fA]++[cW 52 (mapOf be)]) i=cV V i:=λi az=>by rw[v9 (by simp;omega),v9 I]
 have aaj:cV (V++[cW 105 fA]++[cW 52 (mapOf be)]) (U aj)=cW 105 fA:=by rw[v9 (by simp;omega),<-qm];exact y4
 have LY:cV (V++[cW 105 fA]++[cW 52 (mapOf be)]) (U aj+1)=cW 52 (mapOf be):=by
  have:=y4 (V:=V++[cW 105 fA]) (w:=cW 52 (mapOf be));grind
 have kE:ky id own g g':=⟨b_.1,λx ae aH=>b_.2 x ae λe=>al⟩;have cs:∀{j:Nat} {x:bW bL},hY[j]?=J x->(j=U aj/\x=.arr [U aj+1])\/(j=U aj+1/\x=.bX [])\/(j=id/\x=.bX (kv++[(key,U aj)]))\/(j<U aj/\j≠id/\aj[j]?=J x):=λ{j x} aC=>by
  grind
 have cf:∀x,x<ag g->(∀s,own x≠J (id,s))->(own x=ab\/∃y s,own x=J (y,s)/\y<1000000)->g'[x]?=g[x]?/\own x=own x:=λx ae aH _=>⟨b_.2 x ae (λe=>al),rfl⟩;have lx:=(cm.1 aa).1;have rY:∀j,cz aj j->cz hY j:=λj ⟨y,a2⟩=>by
  by_cases e:j=id
  .subst e;exact⟨_,tV⟩
  .exact⟨y,al⟩
 refine q g' ⟨al,λx y ae=>cP (aY.dv x y ae) b_.1,λj x aC=>?_,λj cL x aC ae=>?_,λj l i aC az=>?_,λj x aC=>?_,λi ej nJ hO n di x ec bx bH cq dT e3=>?_⟩ kE
 .rcases cs aC with ⟨rfl,rfl⟩|⟨rfl,rfl⟩|⟨rfl,rfl⟩|⟨a,c,d⟩
  .rw[aaj];refine⟨fA,ro,rfl,?_,aT⟩;simp only[kp,ru,LY];refine an.at λr aF=>b_.2 r (by subst aF;exact an.lt) λe=>?_;grind
  .rw[LY];exact⟨be,#[],0,rfl,ad,(b_.2 be lx λe=>al).trans aa,rfl,(λe he=>absurd he a1),.nil,.nil⟩
  .rw[app j nC,af];refine⟨b,qM,cl+1,rfl,ar,dN,?_⟩;rw[rr,kp,ru,aaj];have:(kv.map λx=>(x.1,cV (V++[cW 105 fA]++[cW 52 (mapOf be)]) x.2))=kv.map λx=>(x.1,cV V x.2):=yw λx ae=>by rw[app x.2 (aY.kids j kv x da ae).2]
   grind
  .rw[app j a];refine(aY.node j x d).keep (id:=id) c cf aY.dv I λi az=>app i ?_;cases x with
   |val t=>grind
   |arr l=>obtain⟨_,_,aq⟩:=aY.nM j l i d az;grind
   |bX cL=>obtain⟨k,aq⟩:=az;exact(aY.kids j cL _ d aq).2
 .rw[wQ];rcases cs aC with ⟨rfl,e⟩|⟨rfl,e⟩|⟨rfl,e⟩|⟨a,c,d⟩
  .cases e
  .grind
  .cases e;rcases zX.1 ae with ae|ae
   .have:=aY.kids j kv x da ae;omega
   grind
  .have:=aY.kids j cL x d ae;omega
 .rcases cs aC with ⟨rfl,e⟩|⟨rfl,e⟩|⟨rfl,e⟩|⟨a,c,d⟩
  .cases e;rw[O2.1 az];exact⟨I,[],s2⟩
  .cases e
  .cases e
  .have:=aY.nM j l i d az;grind
 .rw[wQ];rcases cs aC with ⟨rfl,e⟩|⟨rfl,e⟩|⟨rfl,e⟩|⟨a,c,d⟩
  .subst e;simp[m5]
  .subst e;simp[m5]
  .have:=aY.small j _ da;subst e;simp only[m5] at this⊢;simp;omega
  .have:=aY.small j x d;omega
 .have hP:∀i nJ n x,hY[i]?=J (.bX nJ)->nJ[n]?=J x->(x.2=U aj/\i=id/\n=U kv)\/(x.2<U aj/\∃k7,aj[i]?=J (.bX k7)/\k7[n]?=J x):=λi nJ n x aa an=>by
   rcases cs aa with ⟨rfl,e⟩|⟨rfl,e⟩|⟨rfl,e⟩|⟨a,c,d⟩
   .cases e
   .grind
   .cases e;by_cases aI:n<U kv
    .rw[pV aI] at an;exact bt ⟨(aY.kids i kv x da (qD an)).2,kv,da,an⟩
    grind
   .exact bt ⟨(aY.kids i nJ x d (qD an)).2,nJ,d,an⟩
  rcases hP i nJ n x bx cq with ⟨a,c,d⟩|⟨a,NB,c,d⟩
  .grind
  .rcases hP ej hO di ec bH dT with ⟨bM,b6,fl⟩|⟨bM,TQ,b6,fl⟩
   .omega
   .exact aY.uniq i ej NB TQ n di x ec c b6 d fl e3
def fK.aof(aY:fK cn aj V c5)(c0:U aj<=5000)(da:aj[id]?=J (.bX kv))(aq:kvF key kv=J i)(au:aj[i]?=J (.arr l))(af:cV V id=cW 52 (mapOf b))(aV:ag cn<=ag g)(Fl:∀x,x<ag cn->(∀s,c5 x≠J (i,s))->(c5 x=ab\/∃y s,c5 x=J (y,s)/\y<1000000)->g[x]?=cn[x]?)(acz:dL c5 own (ag cn))(AW:∀x y,own x=J y->x<ag g)
  (aa:g[be]?=J (.map #[] 0)) (ad:own be=J (U aj,0)) (an:b2 g fA 1 (l.map (cV V)++[cW 52 (mapOf be)]) ro) (aT:∀r,ro=J r->own r=J (i,1))
  (q:∀g',fK g' (gf aj i l) (List.set (V++[Value.iface 52 (mapOf be)]) i (Value.iface 105 fA)) own->ky id own g g'->K undef g'):Mu (mapOf b) (S key) (cW 105 fA) g K:=by
 have nC:=(fk.1 da).1;have nD:=(fk.1 au).1;have qm:=aY.lenV;have bk:id≠i:=λe=>al
 obtain⟨dP,es,cl,aw,ar,aS,bl⟩:=aY.node id _ da;rw[af] at aw;cases aw;have dR:=(cm.1 aS).1;have apA:own b=J (id,0):=(acz b dR).trans ar;have apB:g[b]?=J (.map es cl):=(Fl b dR (λs e=>al) (bt ⟨_,_,ar,I⟩)).trans aS;have ey:kvV key (kv.map λx=>(x.1,cV V x.2))=J (cV V i):=by rw[I5,aq];rfl
 refine anB (v:=cW 105 fA) apB bl ey λg' qM b_ dN iT=>?_;have s1:(gf aj i l)[i]?=J (.arr (l++[U aj])):=by unfold gf;grind
 have s2:(gf aj i l)[U aj]?=J (.bX []):=by unfold gf;grind
 have dB:∀j,j<U aj->j≠i->(gf aj i l)[j]?=aj[j]?:=λj h ad=>by unfold gf;grind
 have wQ:U (gf aj i l)=U aj+1:=Ll;generalize gf aj i l=hY at*;have OR:cV (List.set (V++[Value.iface 52 (mapOf be)]) i (Value.iface 105 fA)) i=cW 105 fA:=by
  unfold cV;grind
 have Kl:∀j,j≠i->cV (List.set (V++[Value.iface 52 (mapOf be)]) i (Value.iface 105 fA)) j=cV (V++[cW 52 (mapOf be)]) j:=λj h=>by
  unfold cV;grind
 have DX:∀j,j<U aj->j≠i->cV (List.set (V++[Value.iface 52 (mapOf be)]) i (Value.iface 105 fA)) j=cV V j:=λj h ad=>by rw[Kl j ad];exact v9 I
 have ag6:cV (List.set (V++[Value.iface 52 (mapOf be)]) i (Value.iface 105 fA)) (U aj)=cW 52 (mapOf be):=by rw[Kl _ I,<-qm];exact y4
 have aFI:U (List.set (V++[Value.iface 52 (mapOf be)]) i (Value.iface 105 fA))=U aj+1:=by simp[qm]
 generalize List.set (V++[Value.iface 52 (mapOf be)]) i (Value.iface 105 fA)=Le at*;have kE:ky id own g g':=⟨b_.1,λx ae aH=>b_.2 x ae λe=>al⟩;have cs:∀{j:Nat} {x:bW bL},hY[j]?=J x->(j=i/\x=.arr (l++[U aj]))\/(j=U aj/\x=.bX [])\/(j<U aj/\j≠i/\aj[j]?=J x):=λ{j x} aC=>by
  grind
 obtain⟨aeH,FB⟩:=adH (n:=0) aq;have only:∀j cL x,aj[j]?=J (.bX cL)->x∈cL->x.2=i->j=id:=λj cL x bN cB de=>by
  obtain⟨di,ma⟩:=List.getElem?_of_mem cB;exact(aY.uniq j id cL kv di aeH x (key,i) bN da ma FB de).1
 have axA:∀x∈kv,x.1≠key->x.2≠i:=λx ae vp e=>by
  obtain⟨di,ma⟩:=List.getElem?_of_mem ae;have:=(aY.uniq id id kv kv di aeH x (key,i) da da ma FB e).2;grind
 have yg:kv.Pairwise λx y=>x.1≠y.1:=by
  have:=bl.2.2.2;grind
 have rY:∀j,cz aj j->cz hY j:=λj ⟨y,a2⟩=>⟨y,al⟩;have cf:∀x,x<ag cn->c5 x≠J (id,0)->(∀s,c5 x≠J (i,s))->(c5 x=ab\/∃y s,c5 x=J (y,s)/\y<1000000)->g'[x]?=cn[x]?/\own x=c5 x:=λx ae wA ib FD=>by
  refine⟨?_,acz x ae⟩;rw[b_.2 x I (λe=>al),Fl x ae ib FD]
 have lx:=(cm.1 aa).1;refine q g' ⟨I,λx y ae=>cP (AW x y ae) b_.1,λj x aC=>?_,λj cL x aC ae=>?_,λj gi ej aC az=>?_,λj x aC=>?_,λp hG nJ hO n di x ec bx bH cq dT e3=>?_⟩ kE
 .rcases cs aC with ⟨rfl,rfl⟩|⟨rfl,rfl⟩|⟨a,c,d⟩
  .rw[OR];refine⟨fA,ro,rfl,?_,aT⟩;rw[rr,kp,ru,ag6];have:l.map (cV Le)=l.map (cV V):=yw λx ae=>by
    have:=aY.nM j l x au ae;obtain⟨y,a2⟩:=this.2;grind
   rw[this];refine an.at λr aF=>b_.2 r al λe=>?_;grind
  .rw[ag6];exact⟨be,#[],0,rfl,ad,(b_.2 be lx λe=>al).trans aa,rfl,(λe he=>absurd he a1),.nil,.nil⟩
  .rw[DX j a c];by_cases lz:j=id
   .subst lz;rw[da] at d;cases d;rw[af];refine⟨b,qM,cl,rfl,apA,dN,?_⟩;have hm:=adK (key:=key) (cV V) (cV Le) aq yg λx ae vp=>DX x.2 (aY.kids j kv x da ae).2 (axA x ae vp);grind
   .refine(aY.node j x d).keepJ (λy a2 aH=>?_) aY.dv λej xT=>?_
    .refine cf y a2 (λe=>?_) (λs e=>?_) ?_
     .grind
     .grind
     grind
    .cases x with
     |val t=>grind
     |arr gi=>
      obtain⟨_,y,ql⟩:=aY.nM j gi ej d xT;grind
     |bX cL=>
      obtain⟨k',ql⟩:=xT;exact DX ej (aY.kids j cL _ d ql).2 (λe=>lz (only j cL _ d ql e))
 .rw[wQ];rcases cs aC with ⟨rfl,e⟩|⟨rfl,e⟩|⟨a,c,d⟩
  .cases e
  .grind
  .have:=aY.kids j cL x d ae;omega
 .rcases cs aC with ⟨rfl,e⟩|⟨rfl,e⟩|⟨a,c,d⟩
  .cases e;rcases zX.1 az with az|az
   .have:=aY.nM j l ej au az;grind
   .rw[O2.1 az];exact⟨nD,[],s2⟩
  .cases e
  .have:=aY.nM j gi ej d az;grind
 .rw[wQ];rcases cs aC with ⟨rfl,e⟩|⟨rfl,e⟩|⟨a,c,d⟩
  .have:=aY.small j _ au;subst e;simp only[m5] at this⊢;simp;omega
  .subst e;simp[m5]
  .have:=aY.small j x d;omega
 .have hP:∀(p:Nat) nJ (n:Nat) (x:B×Nat),hY[p]?=J (bW.bX nJ)->nJ[n]?=J x->aj[p]?=J (bW.bX nJ):=λp nJ n x aa an=>by
   grind
  exact aY.uniq p hG nJ hO n di x ec (hP p nJ n x bx cq) (hP hG hO di ec bH dT) cq dT e3
end
section
variable{g cn g':H}{own c5 a_:cH}{aj a8:List (bW bL)}{M bK:List Nat}{V ee:List ao}{id cY i j b be n:Nat}{kv:List (B×Nat)}{k key:B}{ks:List B}{bB:bW bL}{w v b' a fA qv:ao}{t:bL}{l:List Nat}{ro:Option Nat}{R K:K}
def YR{ro:Option Nat}{L:List ao}(aF:b2 g fA 1 L ro)(au:U L<=5000)(lx:be<ag g)(q:∀qv g' b0,bV ro g g'->b2 g' qv 1 (L++[cW 52 (mapOf be)]) b0->(b0=ro\/∃r,b0=J r/\ag g<=r)->K qv g'):ew 20 1 (Z 20) [(0,1,cW 52 (mapOf be))] g λgC h=>Ap 20 1 16 (Z 20) fA gC h K:=by
 rw[pn oJ rfl rfl];have mr:=aB.push g (aO #[cW 52 (mapOf be)] 20);have e4:b2 (a6 g (aO #[cW 52 (mapOf be)] 20)) fA 1 L ro:=aF.at λr e=>by subst e;exact mr.2 r aF.lt
 refine b2.append (n:=1) (new:=#[cW 52 (mapOf be)]) (M:=[cW 52 (mapOf be)]) e4 aE (by rw[oJ];rfl) rfl ?_ rfl rfl rfl (by simp;omega) λqv g' b0 aw fh dF=>?_
 .simp only[shown,dS];rfl
 .refine q qv g' b0 (bV.pre mr aw) fh ?_;grind
def ajD(aY:fK g aj V own)(c0:U aj<=4000)(aP:cz aj 0)(af:cV V 0=.iface 52 (mapOf b))(bk:lq aj)(P:jy g own a ks)(aJ:nameS ai ks aj M=.ok a8 bK cY)(bj:first=ai->∀eA nq vx,belowS ks.dropLast aj M 0=.ok eA nq vx->kvF (ks.getLast?.getD []) (kvOf eA vx)=ab)
  (q:∀g' a_ ee dP,gV g own g' a_ a8 ee->cV ee cY=.iface 52 (mapOf dP)->lq a8->cz a8 cY->(∀x,cz aj x->cz a8 x/\cV ee x=cV V x)->R (mapOf dP) g'):bo 74 [b',mapOf b,a,.bool first] g R:=by
 apply amK;have hlen:=P.len;have xZ:=lJ.2 P.ne;obtain⟨u,bb,eE,o8,jg,pM,rb⟩:=P.get xZ;have aAa:ia 1 a (.i 0)=J eE:=pM;rw[aAa,bs,rb];refine Ea jg ?_;refine G1 (λm gu gD pc dM=>∃(n j dP:Nat) (kG:cH) (eA:List (bW bL)) (nq:List Nat) (ln:List ao) (aI:n<U ks),gu=mapOf dP/\gD=S ks[n]/\pc=.i ((n+1:Nat):Int)/\gV g own dM kG eA ln/\lq eA/\cV ln j=.iface 52 (mapOf dP)/\cz eA j/\belowS (ax n ks.dropLast) eA nq j=belowS ks.dropLast aj M 0/\U eA<=U aj+n/\(∀x,cz aj x->cz eA x/\cV ln x=cV V x)/\m=U ks-n) _
  ⟨0,0,b,own,aj,M,V,xZ,rfl,rfl,rfl,gV.refl aY,bk,af,aP,rfl,I,λx ae=>⟨ae,rfl⟩,rfl⟩ ?_
 rintro m fl gu gD pc dM N ⟨n,j,dP,kG,eA,nq,ln,aI,rfl,rfl,rfl,hT,tj,iC,⟨kv,ey⟩,mE,Iv,Dd,rfl⟩ a7;have fT:=P.qi hT;have qY:=fT.Dn;have jW:kvOf eA j=kv:=o0 ey;have qm:=hT.gs.lenV;have nE:=(fk.1 ey).1;by_cases au:n+1<U ks
 .obtain⟨u,bb,eE,o8,jg,pM,rb⟩:=fT.get au;refine bG qY ?_;rw[LH au] at mE;obtain⟨BS,Ae,i9,gg⟩:=aey aJ;refine Y5 hT.gs I ey iC tj ⟨_,_,_,mE.trans gg⟩ λbd o2 hy M2 u4 bc cJ mm cF wH dV fF kY k3=>?_;have yN:=fT.qi mm;obtain⟨u,bb,eE,o8,jg,pM,rb⟩:=yN.get au;rw[pM,bs,rb];refine Ea jg ?_;try refine aR ?_
  refine a7 (U ks-(n+1)) _ _ _ _ I ⟨n+1,bc,cJ,o2,hy,M2,u4,au,rfl,rfl,rfl,hT.trans mm,kY,cF,wH,dV.trans mE,I,λx ae=>?_,rfl⟩;grind
 .refine bG qY ?_;rw[LI I,belowS] at mE;have hs:=aJ;unfold nameS at hs;rw[<-mE] at hs;simp only[ND (I:n+1=U ks),jW] at hs;have aEh:first=ai->kvF ks[n] kv=ab:=λe=>by
   grind
  rw[hT.gs.get ey iC];have azu:∀X:Option ao,sl 1 (.slice ab 0 0) ab (J (.i 0)) ab=J (.slice ab 0 0):=λ_=>rfl;have t105:∀m z,ta 105 z (.iface 105 m)=J (.tuple #[m,.bool ai]):=λm z=>rfl;have zC:∀z,ta 105 z .nilIface=J (.tuple #[z,.bool av]):=λz=>rfl;have hV:=hT.gs;cases aq:kvF ks[n] kv with
  |none=>
   rw[aq] at hs;simp only[ei] at hs;cases hs;simp only[Option.map_none,Option.getD_none,ahm];rw[zC];refine bG @aBr ?_;have cont:G3 dM λv20 h=>ew 20 1 (Z 20) [(0,1,.iface 52 v20)] h λgC h=>Ap 20 1 16 (Z 20) (.slice ab 0 0) gC h λf' h=>Mu (mapOf dP) (S ks[n]) (.iface 105 f') h λ_ h=>R v20 h:=by
    show ew 20 1 (Z 20) [(0,1,.iface 52 (mapOf (ag dM)))] (a6 dM (.map #[] 0)) λgC h=>Ap 20 1 16 (Z 20) (.slice ab 0 0) gC h λf' h=>Mu (mapOf dP) (S ks[n]) (.iface 105 f') h λ_ h=>R (mapOf (ag dM)) h;have bP:=aB.push dM (.map #[] 0);have IV:ag (a6 dM (.map #[] 0))=ag dM+1:=a1
    have Sj:(a6 dM (.map #[] 0))[ag dM]?=J (.map #[] 0):=dS _ _;generalize a6 dM (.map #[] 0)=ct at*;refine YR (L:=[]) (ro:=ab) ⟨rfl,rfl⟩ a1 I λqv bd b0 aw fh dF=>?_;have AA:aB ct bd:=bV.fe (aB.refl _) aw λr aF=>by cases aF
    have gp:=AA.1;cases b0 with
    |none=>exact absurd fh.2 a1
    |some r=>
     have acH:ag ct<=r:=by
      grind
     have hN:=fh.lt;have f_:∀x,x<ag dM->cS (cS kG (ag dM) (U eA+1,0)) r (U eA,1) x=kG x:=λx ae=>by
      rw[kL I,kL I]
     have UH:cS (cS kG (ag dM) (U eA+1,0)) r (U eA,1) (ag dM)=J (U eA+1,0):=by rw[kL I];unfold cS;grind
     have axz:cS (cS kG (ag dM) (U eA+1,0)) r (U eA,1) r=J (U eA,1):=by unfold cS;grind
     have iB:fK bd eA ln (cS (cS kG (ag dM) (U eA+1,0)) r (U eA,1)):=hV.keep I (λx ae _=>⟨by rw[AA.2 x I,bP.2 x ae],f_ x ae⟩) λx y a2=>by
      unfold cS at a2;split at a2
      .omega
      .split at a2
       .omega
       .have:=hV.dv x y a2;omega
     refine iB.ht I ey aq iC (be:=ag dM) (by rw[AA.2 _ I];exact Sj) UH fh (λcC e=>al) λcb oR kE=>?_;have gb:gV dM kG cb (cS (cS kG (ag dM) (U eA+1,0)) r (U eA,1)) (gf (dY eA j ks[n] (bW.arr [])) (U eA) []) (ln++[.iface 105 qv]++[.iface 52 (mapOf (ag dM))]):=⟨oR,λx ae=>f_ x ae,by have:=kE.1;omega,λx ae aH=>by
      rw[kE.2 x I (λs aL=>by
       grind),AA.2 x I,bP.2 x ae]⟩
     refine q cb _ _ (ag dM) (hT.trans gb) ?_ ?_ ?_ λx ae=>?_
     .have:=y4 (V:=ln++[.iface 105 qv]) (w:=.iface 52 (mapOf (ag dM)));grind
     .refine Lm λy l a2 fF=>?_;rcases jw y (U eA) with x7|x7
      .by_cases e:j=y
       .subst e;rw[Am x7] at fF;cases fF
       .rw[An x7 e] at fF;exact tj y l fF
      .have:=(fk.1 fF).1;rw[lp] at this;omega
     .have:=ED (aj:=dY eA j ks[n] (.arr [])) (i:=U eA) (l:=[]) (by rw[lp];omega);rw[lp] at this;exact this
     .have aa:=Dd x ae;obtain⟨y,a2⟩:=aa.1;have:=(fk.1 a2).1;refine⟨EE (l0:=[]) nW (qa aa.1),?_⟩;rw[v9 (by simp;omega),v9 I];exact aa.2
   cases first with
   |true=>
    refine lO ?_;refine bG azu ?_;exact cont
   |false=>
    refine lO ?_;refine aR ?_;exact cont
  |some i=>
   have asV:first=av:=by
    grind
   subst asV;rw[aq] at hs;simp only at hs;have Sg:∃l,eA[i]?=J (.arr l):=by
    grind
   obtain⟨l,dw⟩:=Sg;simp only[dw,ei] at hs;cases hs;obtain⟨fA,ro,v1,v2,dD⟩:=hV.node i _ dw;have nD:=(fk.1 dw).1;have ov:U l<=U eA:=hV.small i _ dw;simp only[jl,aB5];rw[v1,t105];refine aR ?_;refine lO ?_;refine aR ?_;show ew 20 1 (Z 20) [(0,1,.iface 52 (mapOf (ag dM)))] (a6 dM (.map #[] 0)) λgC h=>Ap 20 1 16 (Z 20) fA gC h λf' h=>Mu (mapOf dP) (S ks[n]) (.iface 105 f') h λ_ h=>R (mapOf (ag dM)) h;have bP:=aB.push dM (.map #[] 0);have IV:ag (a6 dM (.map #[] 0))=ag dM+1:=a1
   have Sj:(a6 dM (.map #[] 0))[ag dM]?=J (.map #[] 0):=dS _ _;generalize a6 dM (.map #[] 0)=ct at*;have DW:b2 ct fA 1 (l.map (cV ln)) ro:=v2.at λr aF=>bP.2 r (by subst aF;exact v2.lt);refine YR DW (by simp;omega) I λqv bd b0 aw fh dF=>?_;have gp:=aw.1;cases b0 with
   |none=>exact absurd fh.2 a1
   |some r=>
    have hN:=fh.lt;have vt:ro=J r\/ag ct<=r:=by
     grind
    have f_:∀x,x<ag dM->cS (cS kG (ag dM) (U eA,0)) r (i,1) x=kG x:=λx ae=>by
     by_cases Bc:x=r
     .subst Bc;rcases vt with e|e
      .rw[dD x e];unfold cS;grind
      .omega
     .rw[kL Bc,kL I]
    have auD:r≠ag dM:=λe=>by
     rcases vt with ar|ar
     .subst ar;have:=v2.lt;omega
     .omega
    have UH:cS (cS kG (ag dM) (U eA,0)) r (i,1) (ag dM)=J (U eA,0):=by rw[kL (λe=>auD e.symm)];unfold cS;grind
    have axz:cS (cS kG (ag dM) (U eA,0)) r (i,1) r=J (i,1):=by unfold cS;grind
    have y2:∀x,x<ag dM->(∀s,kG x≠J (i,s))->bd[x]?=dM[x]?:=λx ae aH=>by
     rw[aw.2 x I (λe=>al),bP.2 x ae]
    have asj:bd[ag dM]?=J (.map #[] 0):=by
     rw[aw.2 _ I (λe=>?_)]
     .exact Sj
     .rcases vt with ar|ar
      .grind
      .have:=dD _ e.symm;have:=hV.dv _ _ this;omega
    refine hV.aof (g:=bd) (own:=cS (cS kG (ag dM) (U eA,0)) r (i,1)) (be:=ag dM) I ey aq dw iC I (λx ae aH _=>y2 x ae aH) (λx ae=>f_ x ae) (λx y a2=>?_) asj UH fh (λcC e=>al) λcb oR kE=>?_
    .unfold cS at a2;split at a2
     .omega
     .split at a2
      .omega
      .have:=hV.dv x y a2;omega
    .have gb:gV dM kG cb (cS (cS kG (ag dM) (U eA,0)) r (i,1)) (gf eA i l) (List.set (ln++[Value.iface 52 (mapOf (ag dM))]) i (Value.iface 105 qv)):=⟨oR,λx ae=>f_ x ae,by have:=kE.1;omega,λx ae aH=>by
      rw[kE.2 x I (λs aL=>by
       grind),y2 x ae (λs aL=>by
       grind)]⟩
     have Kl:∀y,y≠i->cV (List.set (ln++[Value.iface 52 (mapOf (ag dM))]) i (Value.iface 105 qv)) y=cV (ln++[Value.iface 52 (mapOf (ag dM))]) y:=λy h=>by
      unfold cV;grind
     refine q cb _ _ (ag dM) (hT.trans gb) ?_ ?_ (ED nD) λx ae=>?_
     .rw[Kl _ I,<-qm];exact y4
     .exact Lm λy dA _ fF=>tj y dA fF
     .have aa:=Dd x ae;obtain⟨y,a2⟩:=aa.1;have x7:=(fk.1 a2).1;have wK:x≠i:=λe=>al
      refine⟨EE dw aa.1,?_⟩;rw[Kl x wK,v9 I];exact aa.2
end
def decL(f:e'->(Option bL->Prop)->Prop):List e'->List bL->(Option (List bL)->Prop)->Prop
 |[],acc,K=>K (J acc)
 |a::l,acc,K=>f a λo=>match o with
  |some t=>decL f l (acc++[t]) K
  |none=>K ab
def decT(f:e'->(Option bL->Prop)->Prop):List (List B×e')->List (bW bL)->List Nat->(Option (List (bW bL))->Prop)->Prop
 |[],aj,_,K=>K (J aj)
 |q::l,aj,M,K=>f q.2 λo=>match o with
  |some t=>(match pairS t q.1 aj M 0 with
   | .ok a8 bK _=>decT f l a8 bK K
   | .no _=>True)
  |none=>K ab
def decQ(D:B):Nat->e'->(Option bL->Prop)->Prop
 |0,_,_=>True
 |n+1,a,Q=>match a with
  | .str s=>Q (J (.mk 0 0 0 s [] []))
  | .tok k i j=>tokQ D k i j Q
  | .arr l=>decL (decQ D n) l [] λo=>Q (o.map λw5=>.mk 8 0 0 [] [] w5)
  | .qx l=>decT (decQ D n) l [.bX []] [1] λo=>Q (o.map λaj=>tomlS aj (U aj) 0)
def tokA(D:B):Nat->e'->Prop
 |0,_=>True
 |n+1,a=>match a with
  | .str _=>True
  | .tok k i j=>Ck D i k j
  | .arr l=>∀x∈l,tokA D n x
  | .qx l=>∀x∈l,tokA D n x.2
set_option exponentiation.threshold 2000 in
def agM(h:∀o,Q o->fU o)(q:tokQ D k i j Q):tokQ D k i j fU:=by
 unfold tokQ at*;split
 .grind
 rename_i e;rw[ak e] at q;split
 .rename_i e;rw[aA e] at q;split
  .grind
  grind
 rename_i e;rw[ak e] at q;split
 .grind
 rename_i e;rw[ak e] at q;split
 .grind
 rename_i e;rw[ak e] at q;split
 .grind
 grind
def shN{α:Type}:bW α->bW Unit
 | .val _=>.val ()
 | .arr l=>.arr l
 | .bX kv=>.bX kv
def af6{aj:List (bW α)}{i:Nat}:(aj.map shN)[i]?=(aj[i]?).map shN:=D4
def af7:kvOf (aj.map shN) i=kvOf aj i:=by
 unfold kvOf;rw[af6];cases aj[i]? with
 |none=>rfl
 |some bB=>cases bB<;>rfl
def af5:dY (aj.map shN) i k (shN bB)=(dY aj i k bB).map shN:=by
 unfold dY;rw[af7,oE,rr,List.map_set];rfl
def pairS_sh{α:Type}{t:α}:∀{ks:List B} {aj:List (bW α)} {M:List Nat} {id:Nat},pairS () ks (aj.map shN) M id=match pairS t ks aj M id with
  | .ok a8 bK i=>.ok (a8.map shN) bK i
  | .no c=>.no c
 |[],_,_,_=>rfl
 |k::ks,aj,M,id=>by
  rw[pairS,pairS,af7];split
  .cases aq:kvF k (kvOf aj id) with
   |some i=>rfl
   |none=>simp only;rw[<-af5];rfl
  .cases aq:kvF k (kvOf aj id) with
   |none=>
    simp only;have e:dY (aj.map shN) id k (bW.bX [])=(dY aj id k (.bX [])).map shN:=af5 (bB:=.bX []);rw[e,oE];exact pairS_sh
   |some i=>
    simp only;rw[af6];cases dw:aj[i]? with
    |none=>rfl
    |some bB=>
     cases bB with
     |val a=>rfl
     |arr l=>rfl
     |bX kv=>
      simp only[jl,shN];split
      .rfl
      .split
       .rfl
       .exact pairS_sh
def fK.gv{g:H}{V:List ao}{own o2:cH}(aY:fK g aj V own)(c0:U aj<=5000)(aH:∀b,b<ag g->(own b=ab\/∃x s,own b=J (x,s)/\x<1000000)->o2 b=ab):∀(n id:Nat),id<U aj->U aj-id<=n->gx o2 g (cV V id) (tomlS aj n id)
 |0,id,aa,ad=>I
 |n+1,id,aa,ad=>by
  have aI:=h5 aa;rw[tomlS,aI];have d:=aY.node id _ aI;have ov:=aY.small id _ aI;generalize aj[id]=bB at*;cases bB with
  |val t=>exact gx.keep d λb af cF=>⟨rfl,aH b af (bF cF)⟩
  |arr l=>
   obtain⟨fA,ro,aw,ar,aS⟩:=d;rw[aw];simp only;refine .arr (vs:=l.map (cV V)) ⟨ro,ar,λr aF=>?_⟩ a1 (by simp only[m5] at ov;simp;omega) λm v t aD aP=>?_
   .subst aF;exact aH r ar.lt (bt ⟨id,1,aS r rfl,I⟩)
   .rw[D4,yz] at aD aP;obtain⟨i,i1,rfl⟩:=aD;obtain⟨ej,i2,rfl⟩:=aP;rw[i1] at i2;cases i2;have:=aY.nM id l i aI (qD i1);obtain⟨y,a2⟩:=this.2;have:=(fk.1 a2).1;exact fK.gv aY c0 aH n i this I
  |bX kv=>
   obtain⟨b,es,cl,aw,ar,aS,bl⟩:=d;rw[aw];simp only;have dR:=(cm.1 aS).1;have hlen:U (bC es)=U kv:=by
    have:=mQ List.length bl.1;grind
   have Ij:∀(m:Nat) e (x:B×Nat),(bC es)[m]?=J e->kv[m]?=J x->e.key=S x.1/\e.val=cV V x.2:=λm e x he ae=>by
    have:=mQ (λl=>l[m]?) bl.1;grind
   have sub:∀(m:Nat) (x:B×Nat),kv[m]?=J x->gx o2 g (cV V x.2) (tomlS aj n x.2):=λm x ae=>by
    have:=aY.kids id kv x aI (qD ae);exact fK.gv aY c0 aH n x.2 this.2 I
   have IG:kv.Pairwise λx y=>x.1≠y.1:=by
    have:=bl.2.2.2;grind
   show gx o2 g (cW 52 (mapOf b)) (yo (kv.map λx=>(x.1,tomlS aj n x.2)));refine .bX (aH b dR (bt ⟨id,0,ar,I⟩)) aS al (by simp only[m5] at ov;simp;omega) (aBT.2 IG) (λm e x he ae=>?_) bl.2.2.1 λm e x he ae=>?_
   .rw[D4,yz] at ae;obtain⟨y,a2,rfl⟩:=ae;obtain⟨cZ,cj⟩:=Ij m e y he a2;have aD:=(sub m y a2).rN;rw[cj];exact⟨cZ,bl.2.1 e (ahq.1 (qD he)),aD.1,aD.2.1⟩
   grind
def ZH(bj:∀a {Q fU:Option bL->Prop},(∀o,Q o->fU o)->f a Q->f a fU):∀{l:List e'} {acc:List bL} {K eD:Option (List bL)->Prop},(∀o,K o->eD o)->decL f l acc K->decL f l acc eD
 |[],_,_,_,h,q=>h _ q
 |a::l,acc,K,eD,h,q=>bj a (λo aH=>by
  cases o with
  |none=>exact h _ aH
  |some t=>exact ZH bj h aH) q
def ZJ(bj:∀a {Q fU:Option bL->Prop},(∀o,Q o->fU o)->f a Q->f a fU):∀{l:List (List B×e')} {aj:List (bW bL)} {M:List Nat} {K eD:Option (List (bW bL))->Prop},(∀o,K o->eD o)->decT f l aj M K->decT f l aj M eD
 |[],_,_,_,_,h,q=>h _ q
 |a::l,aj,M,K,eD,h,q=>bj a.2 (λo aH=>by
  cases o with
  |none=>exact h _ aH
  |some t=>
   simp only at aH⊢;cases aJ:pairS t a.1 aj M 0 with
   |no c=>trivial
   |ok a8 bK i=>rw[aJ] at aH;exact ZJ bj h aH) q
def Aw:∀(n:Nat) (a:e') {Q fU:Option bL->Prop},(∀o,Q o->fU o)->decQ D n a Q->decQ D n a fU
 |0,_,_,_,_,_=>trivial
 |n+1,a,Q,fU,h,q=>by
  cases a with
  |str s=>exact h _ q
  |tok k i j=>exact agM h q
  |arr l=>exact ZH (λa=>Aw n a) (λo aH=>h _ aH) q
  |qx l=>exact ZJ (λa=>Aw n a) (λo aH=>h _ aH) q
def DcR(b C:Nat)(D:B)(h:H)(R:ao->H->Prop):Option bL->Prop
 |some t=>∀h' v,aB h h'->gx (old (ag h)) h' v t->R (bA #[v,cR]) h'
 |none=>∀x e h',aB h h'->e2 h' b (U D) C e->R (bA #[x,e]) h'
def KW(D:B)(n:Nat):Prop:=∀{h:H} {own:cH} {d bz r b C k e:Nat} {c:Array ao} {aK:List eo} {a:e'} {b':ao} {R:K},AV h own d bz c r b C D aK->At aK n k e a->e<=U aK->okV n a=ai->tokA D n a->decQ D n a (DcR b C D h R)->bo 80 [b',d' r k] h R
def Kids.count{β:Type}{P:Nat->Nat->β->Prop}(au:∀br e a,P br e a->br<e):∀{l:List β} {br az r:Nat},Kids aK P br az r l->br+U l<=az
 |[],br,az,r,h=>by simp;exact Nat.le_of_eq h.1
 |a::l,br,az,r,h=>by
  obtain⟨e,x,gr,aa,_,_,ad⟩:=h.cons;have:=au _ _ _ aa;have:=Kids.count au ad;simp;omega
section
variable{aW g g':H}{own mI wU:cH}{d bz r b C q br vD gr e n xy:Nat}{c:Array ao}{D:B}{aK:List eo}{aj a8:List (bW bL)}{M bK:List Nat}{V ee:List ao}{ks:List B}{fE:e'}{b':ao}{R:K}
def gV.ra(S:gV g mI g' wU aj V)(c0:aj.length<=5000)(aH:wU q=J iE)(b5:g.size<=q)(e:bV (J q) g' bd):gV g mI bd wU aj V:=
 ⟨S.gs.keep c0 (λb af aa=>⟨e.2 b af λar=>by
  have:=en ar;subst this;rcases aa with aa|⟨x,s,aa,ad⟩<;>rw[aH] at aa<;>cases aa;omega,rfl⟩) λb x ae=>cP (S.gs.dv b x ae) e.1,S.ext,dH S.size e.1,λx ae aa=>by rw[e.2 x (cP ae S.size) (λar=>al),S.ks x ae aa]⟩
def gV.fN(S:gV g mI g' wU aj V)(c0:aj.length<=5000)(e:aB g' bd):gV g mI bd wU aj V:=
 ⟨S.gs.keep c0 (λb af _=>⟨e.2 b af,rfl⟩) λb x ae=>cP (S.gs.dv b x ae) e.1,S.ext,dH S.size e.1,λx ae aa=>by rw[e.2 x (cP ae S.size),S.ks x ae aa]⟩
def gV.base(S:gV g mI g' wU aj V)(bP:aB aW g)(wB:∀x,x<aW.size->mI x=J (1000001,0)):aB aW g':=
 ⟨dH bP.1 S.size,λx ae=>by rw[S.ks x (cP ae bP.1) (.inr ⟨_,_,wB x ae,I⟩),bP.2 x ae]⟩
def aih(eu:KW D n)(A:AV aW own d bz c r b C D aK)(bP:aB aW g)(wB:∀x,x<ag aW->mI x=J (1000001,0))(aY:fK g aj V mI)(c0:U aj+U ks<=4900)(aP:cz aj 0)(af:cV V 0=cW 52 (mapOf xy))(cE:Kids aK (np aK) br vD gr ks)(bk:ks≠[])(fO:At aK n vD e fE)(he:e<=U aK)(jq:okV n fE=ai)(wI:tokA D n fE)(qp:∃a8 bK ej,pairS () ks (aj.map shN) M 0=.ok a8 bK ej)
  (h3:decQ D n fE λo=>match o with
   |some t=>∀g' wU ee a8 bK cY,pairS t ks aj M 0=.ok a8 bK cY->gV g mI g' wU a8 ee->U a8<=U aj+U ks->(∀x,cz aj x->cz a8 x/\cV ee x=cV V x)->R cR g'
   |none=>∀ev g',aB aW g'->e2 g' b (U D) C ev->R ev g'):bo 114 [b',mapOf xy,cA #[aQ av,gA r (hdN br ks)],d' r vD] g R:=by
 apply akr;have l':∀t,∃a8 bK ej,pairS t ks aj M 0=.ok a8 bK ej:=λt=>by
  obtain⟨a8,bK,ej,aa⟩:=qp;rw[pairS_sh (t:=t)] at aa;grind
 have ef:∀K,lh 195 (cA #[aQ av,gA r (hdN br ks)]) g K=K (aN (ag g)) (a6 g (aO #[aQ av,gA r (hdN br ks)] 195)):=λK=>rfl;rw[ef];have hV:=aY.new I (aO #[aQ av,gA r (hdN br ks)] 195) (y:=iE);have aw:=aB.push g (aO #[aQ av,gA r (hdN br ks)] 195);have jc:(a6 g (aO #[aQ av,gA r (hdN br ks)] 195))[ag g]?=J (aO #[aQ av,gA r (hdN br ks)] 195):=dS _ _;have kZ:cS mI (ag g) iE (ag g)=J iE:=by unfold cS;grind
 have anN:gV g mI (a6 g (aO #[aQ av,gA r (hdN br ks)] 195)) (cS mI (ag g) iE) aj V:=⟨hV,λx ae=>kL I,aw.1,λx ae _=>aw.2 x ae⟩;have oZ:∀br e s,np aK br e s->∃x,aK[br]?=J x/\x.kind≠0:=λbr e s h=>PK h;refine eV (λm w dM=>∃(dJ gr j dP:Nat) (l:List B) (kG:cH) (eA:List (bW bL)) (nq:List Nat) (ln:List ao),w=mapOf dP/\xp dM (ag g) 195 r aK dJ l/\Kids aK (np aK) dJ vD gr l/\l≠[]/\gV g mI dM kG eA ln/\kG (ag g)=J iE/\cV ln j=cW 52 (mapOf dP)/\cz eA j/\(∀t,pairS t l eA nq j=pairS t ks aj M 0)/\U eA+U l<=U aj+U ks/\(∀x,cz aj x->cz eA x/\cV ln x=cV V x)/\m=U l) _
  ⟨br,gr,0,xy,ks,_,aj,M,V,rfl,bF jc,cE,bk,anN,kZ,af,aP,λ_=>rfl,bQ _,λx ae=>⟨ae,rfl⟩,rfl⟩ ?_
 rintro m fl w dM N ⟨dJ,yj,j,dP,l,kG,eA,nq,ln,rfl,cr,g7,au,hT,S3,iC,⟨kv,ey⟩,mE,Iv,Dd,rfl⟩ a7;have i':=A.fN (hT.base bP wB);have zd:ag aW<=ag g:=bP.1;have Dw:ag g≠d:=λe=>by have:=(cm.1 A.bB.par).1;omega
 have Dx:ag g≠r:=λe=>by
  obtain⟨Av,tZ,nB,_⟩:=A.bB.bJ;grind
 refine Bg oZ i'.bB g7 cr Dw Dx (λe=>absurd e au) λs gi hr bd ar cF=>?_;subst hr;simp only[nS] at Iv;have mm:=hT.ra I S3 (bQ _) ar;have iJ:=A.fN (mm.base bP wB);obtain⟨c',x,q7,my,g9,m2,g0⟩:=g7.cons;obtain⟨iT,ec,gh,avd,tp⟩:=my;rw[g9] at gh;cases gh;subst iT;rw[gl];refine B2 cF ?_;obtain⟨Av,tZ,nB,n2⟩:=iJ.bB.bJ;obtain⟨_,_,_,d3,_⟩:=n2 dJ x g9;have f3:fd 3 (d' r dJ)=J (bU (J ⟨r,dJ*7+3,ab⟩)):=Bq (o:=2);have aI:nc (d' r dJ)=J (d' r dJ):=rfl;rw[aI,bs,f3,bs,fs nB,d3,bs];have vo:=iJ.rQ x (qD g9);rw[tp] at vo;obtain⟨bb,aH,jU⟩:=vo;refine Ea jU ?_;refine WX iJ.bB cF g9 ?_;cases gi with
 |nil=>
  have kX:x.fZ=0:=m2;rw[j7 kX,gl];refine eu iJ fO he jq wI (Aw n fE (λo aH=>?_) h3);cases o with
  |none=>
   intro y ev cb aS er;have af:=gW er;refine bG af ?_;exact aH ev cb ((mm.base bP wB).trans aS) er
  |some t=>
   intro cb v aS wu;have gb:=mm.fN I aS;have as5:gx kG cb v t:=wu.keep λy a2 lC=>⟨rfl,by
    have:=n8 lC;cases rK:kG y with
    |none=>rfl
    |some z=>have:=mm.gs.dv y z rK;omega⟩
   refine aR ?_;obtain⟨BS,Ae,i9,gg⟩:=l' t;refine ae9 gb.gs I ey iC ((mE t).trans gg) as5 λeZ sZ A5 Dg=>?_;refine aH eZ _ _ _ _ _ gg (gb.trans sZ) I λy a2=>?_;grind
 |cons s2 dA=>
  have kX:x.fZ≠0:=by rw[m2];simp[hdN]
  rw[ig kX,ga];obtain⟨BS,Ae,i9,gg⟩:=l' (.mk 0 0 0 [] [] []);simp only[nS] at Iv;refine pair_step (pv:=.mk 0 0 0 [] [] []) mm.gs I ey iC a1 ⟨_,_,_,(mE _).trans gg⟩ λcb o4 aBA anx anV eL eP gb eH au0 mD mB rL=>?_;have qo:=(cm.1 cF).1;have rG:cb[ag g]?=J (aO #[aQ ai,d' r dJ] 195):=(gb.ks _ qo (bt ⟨_,_,S3,aE⟩)).trans cF;refine a7 (U (s2::dA)) _ _ a1 ⟨dJ+1,q7,eL,eP,s2::dA,o4,aBA,anx,anV,rfl,bt ⟨dJ,x,rG,g9,I,m2⟩,g0,a1,mm.trans gb,(gb.ext _ qo).trans S3,eH,au0,λt=>(mD t).trans (mE t),by simp;omega,λy a2=>?_,rfl⟩;grind
end
def WD(h:At aK n br e a)(ae:aK[br]?=J x):6<=x.kind:=by
 cases n with
 |zero=>exact h.elim
 |succ n=>
  obtain⟨y,aa,ad⟩:=h;grind
section
variable{h aW g g':H}{own mI wU:cH}{d bz r b C q br vD gr e n xy k:Nat}{c:Array ao}{D:B}{aK:List eo}{x:eo}{v b' w fA:ao}{R K:K}
def aos(aF:b2 g fA 1 L ro)(au:U L<=5000)(hw:one w=ai/\cellsL w=[w])(q:∀qv g' b0,bV ro g g'->b2 g' qv 1 (L++[w]) b0->(b0=ro\/∃r,b0=J r/\ag g<=r)->K qv g'):ew 20 1 (Z 20) [(0,1,w)] g λgC h=>Ap 20 1 16 (Z 20) fA gC h K:=by
 rw[pn oJ rfl hw.2];have mr:=aB.push g (aO #[w] 20);have e4:b2 (a6 g (aO #[w] 20)) fA 1 L ro:=aF.at λr e=>by subst e;exact mr.2 r aF.lt
 refine b2.append (n:=1) (new:=#[w]) (M:=[w]) e4 aE (by rw[oJ];rfl) rfl ?_ rfl (by simp[ones,hw.1]) rfl (by simp;omega) λqv g' b0 aw fh dF=>?_
 .simp only[shown,dS];rfl
 .refine q qv g' b0 (bV.pre mr aw) fh ?_;grind
def zw(A:AV h own d bz c r b C D aK)(ae:aK[k]?=J x)(q:X x.data h):Pu (nc (d' r k)) h λv h=>Pu (fd 3 v) h λv h=>cd v h X:=by
 obtain⟨Av,tZ,nB,n2⟩:=A.bB.bJ;obtain⟨_,_,_,d3,_⟩:=n2 k x ae;have f3:fd 3 (d' r k)=J (bU (J ⟨r,k*7+3,ab⟩)):=Bq (o:=2);rw[show nc (d' r k)=J (d' r k) from rfl,bs,f3,bs,fs nB,d3,bs];exact q
def NI(A:AV h own d bz c r b C D aK)(ae:aK[k]?=J x)(q:X (ah (x.kind:Int)) h):Pu (nc (d' r k)) h λv h=>Pu (fd 0 v) h λv h=>cd v h X:=by
 obtain⟨Av,tZ,nB,n2⟩:=A.bB.bJ;obtain⟨d0,_⟩:=n2 k x ae;rw[show nc (d' r k)=J (d' r k) from rfl,bs,NW,bs,fs nB,d0,bs];exact q
def Ns{P:Nat->Nat->β->Prop}{l:List β}{az:Nat}{X:ao->H->Prop}(A:AV h own d bz c r b C D aK)(ae:aK[k]?=J x)(ay:x.gO=hdN br l)(lW:∀br e a,P br e a->∃x,aK[br]?=J x/\x.kind≠0)(cE:Kids aK P br az gr l)(q:∀g j0,aB h g->ag h<=j0->j0<ag g->xp g j0 195 r aK br l->X (aN j0) g):bD 111 [d' r k] h λfI h=>oG 195 (Z 195) h λv6 h=>bZ 2 v6 fI h λ_ h=>X v6 h:=by
 refine Pe A.bB ae (by rw[ay];exact(Fj lW cE).1) λaa aw=>?_;have gp:ag (aZ (Z 195))=2:=by rw[Co];rfl
 have oV:∀m,one (gA r m)=ai:=λm=>by cases m<;>rfl
 rw[ay,gE,h7 (n:=2) gp rfl (by show(ai&&(one _&&ai))=ai;grind)];exact q _ _ (aw.trans (aB.push _ _)) aw.1 a1 (bF (dS _ _))
end
section
variable{h aW g g':H}{own mI wU:cH}{d bz r b C q br vD gr e n xy k:Nat}{c:Array ao}{D:B}{aK:List eo}{x:eo}{v b' w fA:ao}{R K:K}
def apc(bR:KW D n)(A:AV h own d bz c r b C D aK)(ae:aK[k]?=J x)(ay:x.gO=hdN (k+1) l0)(cE:Kids aK (At aK n) (k+1) e gr l0)(he:e<=U aK)(jq:l0.all (okV n)=ai)(wI:∀a∈l0,tokA D n a)(h3:decL (decQ D n) l0 [] λo=>DcR b C D h R (o.map λw5=>.mk 8 0 0 [] [] w5)):
  bD 111 [d' r k] h λj2 h=>oG 195 (Z 195) h λmM h=>bZ 2 mM j2 h λ_ h=>iL 1 [ah 0] h λlN _ lb h=>bD 112 [mM] h λkM h=>b1 kM (bD 113 [mM] h λpR h=>Pu (nc pR) h λlH h=>Pu (fd 0 lH) h λkN h=>cd kN h λkj h=>Pu (bn hF kj (ah 1)) h λme h=>b1 me (Pu (bn .add lb (ah 1)) h λjI h=>lN jI h) (lN lb h)) (Ms 20 1 (Z 20) (ah 0) lb h λnO h=>bD 111 [d' r k] h λnP h=>oG 195 (Z 195) h λl1 h=>bZ 2 l1 nP h λ_ h=>iL 1 [nO] h λnV _ o_ h=>bD 112 [l1] h λiH h=>b1 iH (bD 113 [l1] h λkO h=>Pu (nc kO) h λnQ h=>Pu (fd 0 nQ) h λn' h=>cd n' h λnd h=>Pu (bn cQ nd (ah 1)) h λkk h=>b1 kk (nV o_ h) (bD 80 [b',kO] h λnf h=>Pu (exv 0 nf) h λmf h=>Pu (exv 1 nf) h λmg h=>Pu (beI ai mg cR) h λng h=>b1 ng (R (bA #[cR,mg]) h) (ew 20 1 (Z 20) [(0,1,mf)] h λkl h=>Ap 20 1 16 (Z 20) o_ kl h λlI h=>nV lI h))) (R (bA #[cW 105 o_,cR]) h)):=by
 have oZ:∀br e a,At aK n br e a->∃x,aK[br]?=J x/\x.kind≠0:=λbr e a h=>GI h;have gn:=(cm.1 A.bB.par).1;have hN:r<ag h:=by
  obtain⟨Av,tZ,nB,_⟩:=A.bB.bJ;grind
 have zc:=Kids.count (At.loc (aK:=aK) (cG:=aK) n).lt cE;have C3:=A.hZ;refine Ns A ae ay oZ cE λct bq aw jc aup R5=>?_;refine eV (λm w dM=>∃(dJ gr lS:Nat) (l:List e'),w=ah lS/\aB h dM/\xp dM bq 195 r aK dJ l/\Kids aK (At aK n) dJ e gr l/\lS+U l=U l0/\m=U l) _ ⟨k+1,gr,0,l0,rfl,aw,R5,cE,I,rfl⟩ ?_;rintro m fl w dM N ⟨dJ,yj,lS,l,rfl,ex,cr,g7,eS,rfl⟩ a7;refine Bg oZ (A.fN ex).bB g7 cr I I (λau bd ar=>?_) λs gi hr bd ar cF=>?_
 .subst au;simp only[tK,nm] at eS;subst eS;rw[ga];have xG:aB h bd:=bV.fe ex ar λr aF=>al
  clear a7;refine G4 (len:=0) (by rw[oJ];rfl) (ed _) I ?_;have aS:=aB.push bd (aO (aZ (repL (U l0) (Z 20))) 20);have pE:b2 (a6 bd (aO (aZ (repL (U l0) (Z 20))) 20)) (a5 (J ⟨ag bd,0,ab⟩) 0 (U l0)) 1 [] (J (ag bd)):=⟨0,U l0,_,20,rfl,dS _ _,ed _,by rw[D7,tC,oJ];rfl,rfl,rfl⟩;have Be:ag (a6 bd (aO (aZ (repL (U l0) (Z 20))) 20))=ag bd+1:=a1
  generalize a6 bd (aO (aZ (repL (U l0) (Z 20))) 20)=cb at*;have HE:=xG.trans aS;refine Ns (A.fN HE) ae ay oZ cE λeZ bw bl mF S_ qk=>?_;have FQ:=xG.1;refine eV (λm w dM=>∃(dJ gr:Nat) (l:List e') (acc:List bL) (vs:List ao) (cv:Nat),aB h dM/\xp dM bw 195 r aK dJ l/\Kids aK (At aK n) dJ e gr l/\b2 dM w 1 vs (J cv)/\ag h<=cv/\cv≠bw/\bw<ag dM/\U vs=U acc/\(∀(m:Nat) v t,vs[m]?=J v->acc[m]?=J t->gx (cS (cS (old (ag h)) bw (0,0)) cv (0,0)) dM v t)/\U acc+U l=U l0/\l.all (okV n)=ai/\(∀a∈l,tokA D n a)/\decL (decQ D n) l acc (λo=>DcR b C D h R (o.map λw5=>.mk 8 0 0 [] [] w5))/\m=U l) _
   ⟨k+1,gr,l0,[],[],ag bd,HE.trans bl,qk,cE,pE.at λr aF=>by cases aF;exact bl.2 _ I,FQ,I,S_,rfl,λm v t h=>by simp at h,a1,jq,wI,h3,rfl⟩ ?_
  rintro m fl w dM N ⟨dJ,yj,l,acc,vs,cv,ex,cr,g7,e1,aEW,IM,auq,Nn,A0,eS,Iy,IQ,Jr,rfl⟩ a7;refine Bg oZ (A.fN ex).bB g7 cr I I (λau fW dt=>?_) λs gi hr fW dt wh=>?_
  .subst au;rw[ga];have s5:aB h fW:=bV.fe ex dt λr aF=>al
   have IK:b2 fW w 1 vs (J cv):=e1.at λcC aF=>by cases aF;exact dt.2 _ e1.lt λe=>IM (en e)
   refine Jr fW _ s5 (.arr ⟨J cv,IK,λcC e=>by cases e;unfold old;grind⟩ Nn I λm v t aD aP=>?_);refine(A0 m v t aD aP).keep λy a2 lC=>?_;unfold cS at lC;split at lC
   .cases lC
   .split at lC
    .cases lC
    .rename_i fj h2;exact⟨dt.2 y a2 λe=>h2 (en e),lC⟩
  .subst hr;have s5:aB h fW:=bV.fe ex dt λr aF=>al
   obtain⟨c',y,q7,my,g9,m2,g0⟩:=g7.cons;have cB:=WD my g9;have qZ:=(At.loc (aK:=aK) (cG:=aK) n).lt _ _ _ my;have Iu:=Kids.br (At.loc (aK:=aK) (cG:=aK) n).lt g0;rw[gl];refine B2 wh ?_;refine NI (A.fN s5) g9 ?_;have jb:bn cQ (ah y.kind) (ah 1)=J (aQ av):=by
    have:=I4 (a:=y.kind) (b:=1);rw[ig I] at this;exact this
   rw[jb,bs,ga];rw[ahs,pf] at Iy;have rI:=s5.1;have aDc:=dt.1;refine bR (A.fN s5) my I Iy.1 (IQ s (uO ..)) (Aw n s (λo aH=>?_) Jr);cases o with
   |none=>
    intro z ev lV e6 er;have af:=gW er;refine bG af ?_;exact aH _ ev lV (s5.trans e6) er
   |some t=>
    intro lV v e6 wu;have ab9:=wu.rN;have Ia:beI ai cR cR=J (aQ av):=rfl;refine bG Ia ?_;have auJ:b2 lV w 1 vs (J cv):=e1.at λcC aF=>by
     cases aF;have au:=e1.lt;rw[e6.2 _ I,dt.2 _ au λe=>IM (en e)]
    have aEI:=e1.lt;have Wg:=e6.1;refine aos auJ I ⟨ab9.1,ab9.2.1⟩ λqv qO b0 nu auK dF=>?_;have ahk:=nu.1;have apV:aB h qO:=bV.fe (s5.trans e6) nu λr aF=>al
    have Si:qO[bw]?=J (aO #[aQ ai,d' r dJ] 195):=by
     rw[nu.2 _ I (λe=>IM (en e).symm),e6.2 _ I];exact wh
    cases b0 with
    |none=>grind
    |some cc=>
     have il:cc=cv\/ag lV<=cc:=by
      grind
     have adz:∀v t,gx (cS (cS (old (ag h)) bw (0,0)) cv (0,0)) lV v t->gx (cS (cS (old (ag h)) bw (0,0)) cc (0,0)) qO v t:=λv t aX=>aX.keep λy a2 lC=>by
      unfold cS at lC;split at lC
      .cases lC
      .rename_i fj;refine⟨nu.2 y a2 λe=>fj (en e),?_⟩;unfold cS;grind
     refine a7 (U gi) _ _ a1 ⟨c',q7,gi,acc++[t],vs++[v],cc,apV,bt ⟨dJ,y,Si,g9,I,m2⟩,g0,auK,I,I,I,by simp[Nn],λm ch eO aD aP=>?_,al,Iy.2,λa bE=>IQ a (xf _ bE),aH,rfl⟩;by_cases hm:m<U vs
     .rw[pV hm] at aD;rw[pV I] at aP;refine adz ch eO ((A0 m ch eO aD aP).keep λy a2 lC=>⟨?_,lC⟩);unfold cS at lC;split at lC
      .cases lC
      .split at lC
       .cases lC
       .rename_i fj h2;rw[e6.2 y I,dt.2 y a2 λe=>h2 (en e)]
     .have aa:=(fk.1 aD).1;simp at aa;have qn:m=U vs:=I
      subst qn;rw[pg (bQ _),pW] at aD;rw[Nn,pg (bQ _),pW] at aP;cases aD;cases aP;refine adz v t (wu.keep λy a2 lC=>⟨rfl,?_⟩);have:=n8 lC;unfold cS;rw[ak I,ak I];unfold old;grind
 .subst hr;have xG:aB h bd:=bV.fe ex ar λr aF=>al
  obtain⟨c',y,q7,my,g9,m2,g0⟩:=g7.cons;have cB:=WD my g9;rw[gl];refine B2 cF ?_;refine NI (A.fN xG) g9 ?_;have jb:bn hF (ah y.kind) (ah 1)=J (aQ ai):=by simp[bn,eqV];omega
  have rF:bn .add (ah lS) (ah 1)=J (ah (lS+1:Nat)):=by
   simp only[nS] at eS;exact qL (a:=lS) (b:=1) I
  rw[jb,bs,gl,rF,bs];simp only[nS] at eS;exact a7 (U gi) _ _ a1 ⟨c',q7,lS+1,gi,rfl,xG,bt ⟨dJ,y,cF,g9,I,m2⟩,g0,I,rfl⟩
end
section
variable{h aW g g':H}{own mI wU:cH}{d bz r b C q br vD gr e n xy k:Nat}{c:Array ao}{D:B}{aK:List eo}{x:eo}{v b' w fA:ao}{R K:K}
def fK.root(aa:g[b]?=J (.map #[] 0)) (ad:own b=J (0,0)) (aG:∀b x,own b=J x->b<ag g):fK g [.bX []] [cW 52 (mapOf b)] own:=by
 refine⟨rfl,aG,λid bB aI=>?_,λid kv x aI ae=>?_,λid l i aI az=>?_,λid bB aI=>?_,λi ej kv cL n di x ec bx bH cq=>?_⟩
 .cases id with
  |zero=>cases aI;exact⟨b,#[],0,rfl,ad,aa,rfl,(λe he=>absurd he a1),.nil,.nil⟩
  |succ m=>simp at aI
 .grind
 .grind
 .cases id with
  |zero=>cases aI;simp[m5]
  |succ m=>simp at aI
 grind
def fK.ra(aY:fK g aj V mI)(c0:U aj<=5000)(aH:mI q=J iE)(e:bV (J q) g g'):fK g' aj V mI:=
 aY.keep c0 (λb af aa=>⟨e.2 b af λar=>by
  have:=en ar;subst this;rcases aa with aa|⟨x,s,aa,ad⟩<;>rw[aH] at aa<;>cases aa;omega,rfl⟩) λb x ae=>cP (aY.dv b x ae) e.1
def apd(bR:KW D n)(A:AV h own d bz c r b C D aK)(ae:aK[k]?=J x)(ay:x.gO=hdN (k+1) l0)(cE:Kids aK (oI aK (At aK n)) (k+1) e gr l0)(he:e<=aK.length)(jq:okPs (okV n) l0 [.bX []] [1]=ai)(wI:∀a∈l0,tokA D n a.2)(h3:decT (decQ D n) l0 [.bX []] [1] λo=>DcR b C D h R (o.map λaj=>tomlS aj aj.length 0)):
  bD 111 [d' r k] h λmh h=>oG 195 (Z 195) h λo' h=>bZ 2 o' mh h λ_ h=>iL 1 [.i 0] h λsc _ qy h=>bD 112 [o'] h λjk h=>b1 jk (Pu (bn .add qy (.i 1)) h λkm h=>sc km h) (K6 qy h λpa h=>bD 111 [d' r k] h λmi h=>oG 195 (Z 195) h λnh h=>bZ 2 nh mi h λ_ h=>iL 0 [] h λqG _ h=>bD 112 [nh] h λoA h=>b1 oA (bD 113 [nh] h λkn h=>bD 115 [kn] h λrj h=>bD 116 [kn] h λjJ h=>bD 114 [b',pa,rj,jJ] h λkP h=>Pu (beI ai kP .nilIface) h λj3 h=>b1 j3 (R (.tuple #[.nilIface,kP]) h) (qG h)) (R (.tuple #[.iface 52 pa,.nilIface]) h)):=by
 have oZ:∀br e a,oI aK (At aK n) br e a->∃x,aK[br]?=J x/\x.kind≠0:=λbr e a h=>K3 h;have Ab:=oI.loc (At.loc (aK:=aK) (cG:=aK) n);have gn:=(cm.1 A.bB.par).1;have hN:r<h.size:=by
  obtain⟨Av,tZ,nB,_⟩:=A.bB.bJ;grind
 have zc:=Kids.count Ab.lt cE;have C3:=A.hZ;refine Ns A ae ay oZ cE λct bq aw jc aup R5=>?_;refine eV (λm w dM=>∃(dJ gr lS:Nat) (l:List (List B×e')),w=.i (lS:Int)/\aB h dM/\xp dM bq 195 r aK dJ l/\Kids aK (oI aK (At aK n)) dJ e gr l/\lS+l.length=l0.length/\m=l.length) _ ⟨k+1,gr,0,l0,rfl,aw,R5,cE,I,rfl⟩ ?_;rintro m fl w dM N ⟨dJ,yj,lS,l,rfl,ex,cr,g7,eS,rfl⟩ a7;refine Bg oZ (A.fN ex).bB g7 cr I I (λau bd ar=>?_) λs gi hr bd ar cF=>?_
 .subst au;rw[ga];have xG:aB h bd:=bV.fe ex ar λr aF=>al
  clear a7;show bD 111 [d' r k] (bd.push (.map #[] 0)) λmi h=>oG 195 (Z 195) h λnh h=>bZ 2 nh mi h λ_ h=>iL 0 [] h λqG _ h=>bD 112 [nh] h λoA h=>b1 oA (bD 113 [nh] h λkn h=>bD 115 [kn] h λrj h=>bD 116 [kn] h λjJ h=>bD 114 [b',mapOf bd.size,rj,jJ] h λkP h=>Pu (beI ai kP .nilIface) h λj3 h=>b1 j3 (R (.tuple #[.nilIface,kP]) h) (qG h)) (R (.tuple #[.iface 52 (mapOf bd.size),.nilIface]) h);have aS:=aB.push bd (.map #[] 0);have sw:(bd.push (.map #[] 0))[bd.size]?=J (.map #[] 0):=dS _ _;have Be:(bd.push (.map #[] 0)).size=bd.size+1:=a1
  generalize bd.push (.map #[] 0)=cb at*;have HE:=xG.trans aS;have FQ:=xG.1;refine Ns (A.fN HE) ae ay oZ cE λeZ bw bl mF S_ qk=>?_;have FP:=bl.1;obtain⟨Ji,M1⟩:∃o:cH,o=cS (cS (λy=>if y<h.size then J (1000001,0) else ab) bd.size (0,0)) bw iE:=⟨_,rfl⟩;have axw:∀y,y<h.size->Ji y=J (1000001,0):=λy a2=>by rw[M1,kL I,kL I];grind
  have axx:Ji bd.size=J (0,0):=by rw[M1,kL I];unfold cS;grind
  have axy:Ji bw=J iE:=by rw[M1];unfold cS;grind
  have UI:∀y z,Ji y=J z->y<eZ.size:=λy z a2=>by
   rw[M1] at a2;unfold cS at a2;grind
  refine sX (λm dM=>∃(dJ gr:Nat) (l:List (List B×e')) (mI:cH) (aj:List (bW bL)) (M:List Nat) (V:List ao),aB h dM/\xp dM bw 195 r aK dJ l/\Kids aK (oI aK (At aK n)) dJ e gr l/\k+1<=dJ/\fK dM aj V mI/\(∀y,y<h.size->mI y=J (1000001,0))/\mI bw=J iE/\bw<dM.size/\cz aj 0/\cV V 0=.iface 52 (mapOf bd.size)/\okPs (okV n) l (aj.map shN) M=ai/\(∀a∈l,tokA D n a.2)/\decT (decQ D n) l aj M (λo=>DcR b C D h R (o.map λaj=>tomlS aj aj.length 0))/\aj.length<=1+(dJ-(k+1))/\m=l.length) _
   ⟨k+1,gr,l0,Ji,[.bX []],[1],[.iface 52 (mapOf bd.size)],HE.trans bl,qk,cE,bQ _,fK.root (by rw[bl.2 _ I];exact sw) axx UI,axw,axy,S_,⟨[],rfl⟩,rfl,jq,wI,h3,a1,rfl⟩ ?_
  rintro m fl dM N ⟨dJ,yj,l,mI,aj,M,V,ex,cr,g7,xX,aY,wB,kZ,auq,nI,cI,Iy,IQ,Jr,c0,rfl⟩ a7;have MX:=Kids.br Ab.lt g7;refine Bg oZ (A.fN ex).bB g7 cr I I (λau fW dt=>?_) λs gi hr fW dt wh=>?_
  .subst au;rw[ga];have s5:aB h fW:=bV.fe ex dt λr aF=>al
   have mT:=aY.ra I kZ dt;obtain⟨k7,atx⟩:=nI;have xZ:=(fk.1 atx).1;have gv:=mT.gv (o2:=old h.size) I (λy a2 aH=>by
    unfold old;grind) aj.length 0 xZ I
   rw[cI] at gv;exact Jr fW _ s5 gv
  .subst hr;have s5:aB h fW:=bV.fe ex dt λr aF=>al
   have mT:=aY.ra I kZ dt;obtain⟨c',y,q7,my,g9,m2,g0⟩:=g7.cons;have qZ:=Ab.lt _ _ _ my;have Iu:=Kids.br Ab.lt g0;have aDY:=my;obtain⟨vD,nK,mP,Wf,bk,R7,jr,FN,zp,fO,n4,vw⟩:=my;rw[g9] at jr;cases jr;obtain⟨aBn,IU,sE⟩:=GI fO;rw[n4] at IU;cases IU;have Im:hdN (dJ+1) s.1=dJ+2:=by
    cases aL:s.1 with
    |nil=>grind
    |cons a l=>rfl
   have avX:∀br e s,np aK br e s->∃x,aK[br]?=J x/\x.kind≠0:=λbr e s h=>PK h;have hle:=(Fj avX R7).1;have au7:=(fk.1 n4).1;have aEC:=Kids.count (np.loc (aK:=aK) (cG:=aK)).lt R7;have H_:=(At.loc (aK:=aK) (cG:=aK) n).lt _ _ _ fO;have aEm:=dt.1;rw[gl];refine B2 wh ?_;refine WN (A.fN s5).bB g9 FN zp n4 sE I λlV e6=>?_;refine WO (A.fN (s5.trans e6)).bB g9 I ?_;rw[zp,vw,<-Im];have lP:fK lV aj V mI:=mT.keep I (λy a2 _=>⟨e6.2 y a2,rfl⟩) λy z aV=>cP (mT.dv y z aV) e6.1;have AQ:=(e6.2 bw I).trans wh;have aEn:=e6.1;rw[okPs] at Iy;have qp:∃a8 bK ej,pairS () s.1 (aj.map shN) M 0=.ok a8 bK ej/\(okV n s.2&&okPs (okV n) gi a8 bK)=ai:=by
    grind
   obtain⟨BS,Ae,i9,gg,dh⟩:=qp;rw[pf] at dh;refine aih bR A (s5.trans e6) wB lP I nI cI R7 bk fO I dh.1 (IQ s (uO ..)) ⟨BS,Ae,i9,gg⟩ (Aw n s.2 (λo aH=>?_) Jr);cases o with
   |none=>
    intro ev qO nu er;have af:=gW er;rw[af,bs,gl];exact aH _ ev qO nu er
   |some t=>
    intro qO axv anW aBC aCv aFv acB Ai aEG Tv;have Ia:beI ai .nilIface .nilIface=J (.bool av):=rfl;rw[Ia,bs,ga];simp only[acB] at aH;have qR:=pairS_sh (t:=t) (ks:=s.1) (aj:=aj) (M:=M) (id:=0);rw[acB,gg] at qR;cases qR;have Si:qO[bw]?=J (.cells #[.bool ai,d' r dJ] 195):=(Ai.ks bw I (.inr ⟨_,_,kZ,aE⟩)).trans AQ;have aW:=Tv 0 nI;have aEo:=Ai.size;refine a7 gi.length _ a1 ⟨c',q7,gi,axv,aBC,_,anW,Ai.base (s5.trans e6) wB,.inr ⟨dJ,y,Si,g9,I,m2⟩,g0,I,Ai.gs,λy a2=>by rw[Ai.ext y I];grind,(Ai.ext bw I).trans kZ,I,aW.1,aW.2.trans cI,dh.2,λa bE=>IQ a (xf _ bE),aH,I,rfl⟩
 .subst hr;have xG:aB h bd:=bV.fe ex ar λr aF=>al
  obtain⟨c',y,q7,my,g9,m2,g0⟩:=g7.cons;obtain⟨y',tq,sE⟩:=K3 my;rw[g9] at tq;cases tq;have rF:bn .add (.i (lS:Int)) (.i 1)=J (.i ((lS+1:Nat):Int)):=by
   simp only[nS] at eS;exact qL (a:=lS) (b:=1) I
  rw[gl,rF,bs];simp only[nS] at eS;exact a7 gi.length _ _ a1 ⟨c',q7,lS+1,gi,rfl,xG,.inr ⟨dJ,y,cF,g9,I,m2⟩,g0,I,rfl⟩
def akc(D:B)(n:Nat):KW D n:=by
 induction n with
 |zero=>
  intro h own d bz r b C k e c aK a b' R A fO;exact fO.elim
 |succ n bR=>
  intro h own d bz r b C k e c aK a b' R A fO he jq wI h3;apply amR;obtain⟨x,ae,bE⟩:=fO;refine NI A ae ?_;have I_:=A.rQ x (qD ae);have eq:∀m:Nat,bn cQ (ah x.kind) (ah m)=J (aQ (decide (x.kind=m))):=λm=>I4;have hQ:∀{m:Nat} {b:ao} {X Y:Prop},b=aQ (decide (x.kind=m))->(x.kind=m->X)->(x.kind≠m->Y)->b1 b X Y:=λ{m b X Y} af aa ad=>by
   subst af;by_cases h:x.kind=m
   .rw[j7 h,gl];exact aa h
   .rw[ig h,ga];exact ad h
  have DE:∀o,DcR b C D h R o->vP b C D h R o:=λo aH=>by
   cases o with
   |none=>exact aH
   |some t=>exact λh' v e g=>aH h' v e (g _)
  have aM:=A.doc;have sN:9<=x.kind->∃i j,a=.tok x.kind i j/\bp b i j C x.data/\j<=U D/\Ck D i x.kind j/\tokQ D x.kind i j (vP b C D h R):=λgg=>by
   cases a with
   |str s=>omega
   |arr l=>omega
   |qx l=>omega
   |tok kd i j=>
    obtain⟨_,aq,_,vo⟩:=bE;rw[vo] at I_;subst aq;exact⟨i,j,rfl,I_.1,I_.2,wI,agM DE h3⟩
  show Pu (bn cQ (ah x.kind) (ah (8:Nat))) h _;rw[eq 8,bs];refine hQ rfl (λhC=>?_) λawU=>?_
  .cases a with
   |str s=>
    obtain⟨_,_,vo⟩:=bE;rw[vo] at I_;obtain⟨bb,aH,jU⟩:=I_;refine zw A ae ?_;refine xj jU ?_;exact h3 h _ (aB.refl _) .str
   |tok kd i j=>omega
   |arr l=>omega
   |qx l=>omega
  show Pu (bn cQ (ah x.kind) (ah (11:Nat))) h _;rw[eq 11,bs];refine hQ rfl (λqR=>?_) λUn=>?_
  .obtain⟨i,j,_,t1,t2,t3,t4⟩:=sN I;rw[qR] at t3 t4;refine zw A ae ?_;unfold tokQ at t4;rw[aA rfl] at t4;exact Ym aM t1 t2 (t3.1 rfl) t4
  show Pu (bn cQ (ah x.kind) (ah (10:Nat))) h _;rw[eq 10,bs];refine hQ rfl (λdh=>?_) λpF=>?_
  .obtain⟨i,j,_,t1,t2,t3,t4⟩:=sN I;rw[dh] at t3 t4;refine zw A ae ?_;exact Yl aM t1 t2 t3 t4
  show Pu (bn cQ (ah x.kind) (ah (9:Nat))) h _;rw[eq 9,bs];refine hQ rfl (λgg=>?_) λUs=>?_
  .obtain⟨i,j,_,t1,t2,t3,t4⟩:=sN I;rw[gg] at t3 t4;refine zw A ae ?_;unfold tokQ at t4;rw[ak aE,ak aE,aA rfl] at t4;exact Yr aM t1 t2 (t3.2.1 rfl) t4
  show Pu (bn cQ (ah x.kind) (ah (6:Nat))) h _;rw[eq 6,bs];refine hQ rfl (λcB=>?_) λaGd=>?_
  .cases a with
   |arr l=>
    obtain⟨_,ay,gr,cE⟩:=bE;exact apc bR A ae ay cE he jq wI h3
   |str s=>simp only at bE;omega
   |tok kd i j=>simp only at bE;omega
   |qx l=>simp only at bE;omega
  show Pu (bn cQ (ah x.kind) (ah (7:Nat))) h _;rw[eq 7,bs];refine hQ rfl (λde=>?_) λaGf=>?_
  .cases a with
   |qx l=>
    obtain⟨_,ay,gr,cE⟩:=bE;exact apd bR A ae ay cE he jq wI h3
   |str s=>simp only at bE;omega
   |tok kd i j=>simp only at bE;omega
   |arr l=>simp only at bE;omega
  show Pu (bn cQ (ah x.kind) (ah (15:Nat))) h _;rw[eq 15,bs];refine hQ rfl (λRZ=>?_) λUq=>?_
  .obtain⟨i,j,_,t1,t2,t3,t4⟩:=sN I;rw[RZ] at t3 t4;refine zw A ae ?_;unfold tokQ at t4;rw[ak aE,ak aE,ak aE,aA rfl] at t4;exact Yq aM t1 t2 t4
  show Pu (bn cQ (ah x.kind) (ah (14:Nat))) h _;rw[eq 14,bs];refine hQ rfl (λRY=>?_) λUp=>?_
  .obtain⟨i,j,_,t1,t2,t3,t4⟩:=sN I;rw[RY] at t3 t4;refine zw A ae ?_;unfold tokQ at t4;rw[ak aE,ak aE,ak aE,ak aE,aA rfl] at t4;exact Yp (s:=[101,120,116,114,97,32,99,104,97,114,97,99,116,101,114,115,32,97,116,32,116,104,101,32,101,110,100,32,111,102,32,97,32,108,111,99,97,108,32,100,97,116,101,32,116,105,109,101]) aM t1 t2 t4
  show Pu (bn cQ (ah x.kind) (ah (12:Nat))) h _;rw[eq 12,bs];refine hQ rfl (λue=>?_) λUo=>?_
  .obtain⟨i,j,_,t1,t2,t3,t4⟩:=sN I;rw[ue] at t3 t4;refine zw A ae ?_;unfold tokQ at t4;rw[ak aE,ak aE,ak aE,ak aE,ak aE,aA rfl] at t4;exact Yn aM t1 t2 t4
  show Pu (bn cQ (ah x.kind) (ah (13:Nat))) h _;rw[eq 13,bs];refine hQ rfl (λdx=>?_) λuB=>?_
  .obtain⟨i,j,_,t1,t2,t3,t4⟩:=sN I;rw[dx] at t3 t4;refine zw A ae ?_;unfold tokQ at t4;rw[ak aE,ak aE,ak aE,ak aE,ak aE,ak aE,aA rfl] at t4;exact Yo (s:=[101,120,116,114,97,32,99,104,97,114,97,99,116,101,114,115,32,97,116,32,116,104,101,32,101,110,100,32,111,102,32,97,32,108,111,99,97,108,32,116,105,109,101]) aM t1 t2 t4
  have gg:9<=x.kind:=by
   grind
  obtain⟨i,j,_,t1,t2,t3,t4⟩:=sN gg;unfold tokQ at t4;rw[ak Un,ak pF,ak Us,ak Uq,ak Up,ak Uo,ak uB] at t4;refine zw A ae ?_;refine NI A ae ?_;rw[pn oJ rfl rfl];exact gU (N:=U D) t1 t2 λe an aS er=>t4 _ e an ((aB.push _ _).trans aS) er
end
def awz(v:ao)(w:World):(method (ag P.types+Made.depth) 211 v "Error").run P w=.ok (227,v) w:=b4
def awA(v:ao)(w:World):(method (ag P.types+Made.depth) 58 v "Error").run P w=.ok (219,v) w:=b4
def ajW{h:H}{K:F.K}(q:bo 227 [v] h K):Ci (cW 211 v) "Error" [] h K:=⟨227,v,awz v,b4,q⟩
def ajX{h:H}{K:F.K}(q:bo 219 [v] h K):Ci (cW 58 v) "Error" [] h K:=⟨219,v,awA v,b4,q⟩
section
variable{h h':H}{own:cH}{b C i j N:Nat}{D s:B}{v u a b':ao}{ks:List B}{R K:K}
def ah9(au:U s<=1000)(q:∀eU:B,U eU<=1000->R (S eU) h):bo 104 [S s,fo ⟨#[116,111,109,108,58,32]⟩] h R:=by
 apply aki;refine aR ?_;refine⟨λcB=>?_,λ_=>q _ au⟩;have aw:sls (S s) ab (J (ah 6))=J (S (bf 6 s)):=DI (j:=6) cB;have ar:sls (S s) (J (ah 6)) ab=J (S (ax 6 s)):=zL (i:=6) cB;rw[aw,bs];by_cases aJ:bf 6 s=[116,111,109,108,58,32]
 .rw[LS,j7 aJ,bs,gl,ar,bs];grind
 .rw[LS,ig aJ,bs,ga];exact q _ au
def an2:Z 124=[a5 ab 0 0,S [],a5 ab 0 0]:=b4
def GN(P:jy h own a ks)(aL:u1 h v)(hu:bp b i j C u)(aC:j<=N)(q:∀h' e,aB h h'->e2 h' b N C e->R e h')(dR:b<ag h:=by first|assumption|exact db.lt b8):bo 73 [b',u,a,v] h R:=by
 apply amJ;have qY:=P.Dn;have lA:=P.len;rw[qY,bs];refine G4 (by rw[tR];rfl) (bQ _) I ?_;have bP:=aB.push h (aO (aZ (repL (U ks) (Z 9))) 9);have e1:(a6 h (aO (aZ (repL (U ks) (Z 9))) 9))[ag h]?=J (aO (aZ (repL (U ks) (Z 9))) 9):=dS _ _;have c0:ag (aZ (repL (U ks) (Z 9)))=U ks:=by rw[D7,tC,tR];simp
 generalize a6 h (aO (aZ (repL (U ks) (Z 9))) 9)=aa at*;rw[bs];refine eV (λm w ae=>∃(n:Nat) (Qt:Array ao),w=ah n/\n<=U ks/\aB h ae/\ae[ag h]?=J (aO Qt 9)/\ag Qt=U ks/\m=U ks-n) _ ⟨0,_,rfl,ed _,bP,e1,c0,rfl⟩ ?_;rintro m fl w ae M ⟨n,Qt,rfl,aI,ex,s',eC,rfl⟩ cM;refine aR ?_;refine⟨λa'=>?_,λeg=>?_⟩
 .have fT:jy ae own a ks:=P.keep λb af _=>⟨ex.2 b af,rfl⟩;obtain⟨BJ,bb,eE,o8,jg,pM,rb⟩:=fT.get a';rw[pM,bs,rb];refine xj jg ?_;have su:=FR (r:=ag h) (n:=U ks) (cap:=U ks) (i:=n) (k:=.i64) a';try rw[su,bs]
  refine fx s' I rfl rfl λad ar abK=>?_;try refine aR ?_
  exact cM (U ks-(n+1)) _ _ I ⟨n+1,_,rfl,I,bV.fe ex ar λr aF=>al,abK,al,rfl⟩
 .obtain⟨rA,nL,rfl,ad,an⟩:=aL;have jT:=(ex.2 rA (cm.1 ad).1).trans ad;refine ajW ?_;apply alV;have f0:fd 0 (aN rA)=J (bU (J ⟨rA,0,ab⟩)):=oO;rw[FY,bs,f0,bs,fs jT,show(#[S nL]:Array ao)[0]?=J (S nL) from rfl,bs];refine ah9 an.2 λeU wE=>?_;have aFa:cellsL u=[u]/\one u=ai:=by obtain⟨e,rfl,_⟩:=hu;exact⟨rfl,rfl⟩
  have ef:∀K,Bd (Z 124) [(0,1,u),(1,1,S eU),(2,1,a5 (J ⟨ag h,0,ab⟩) (U ks) (U ks))] ae K=K (cA #[u,S eU,a5 (J ⟨ag h,0,ab⟩) (U ks) (U ks)]) ae:=λK=>by
   rw[an2];obtain⟨e,rfl,_⟩:=hu;rfl
  rw[ef];refine q _ _ (ex.trans (aB.push ae (aO #[u,S eU,a5 (J ⟨ag h,0,ab⟩) (U ks) (U ks)] 124))) ⟨ag ae,u,S eU,_,i,j,rfl,dS _ _,hu,aC,eU,rfl,wE,cP dR ex.1⟩
def ajL(aM:db h b D C)(aD:bp b 0 (U D) C v)(az:i<=U D)(a7:U D<=400)(q:∀x y:Nat,x<=400->y<=401->R (bA #[ah (x:Int),ah (y:Int)]) h):bo 84 [v,ah (i:Int)] h R:=by
 apply amU;refine G1 (λm gu gD pc ae=>∃x y k:Nat,gu=ah x/\gD=ah y/\pc=ah k/\x<=k/\y<=k/\k<=i/\ae=h/\m=i-k) _ ⟨0,0,0,rfl,rfl,rfl,bQ _,bQ _,ed _,rfl,rfl⟩ ?_;rintro m fl gu gD pc ae M ⟨x,y,k,rfl,rfl,rfl,kc,avi,aq,bO,rfl⟩ cM;rw[bO];clear bO ae;obtain⟨e,rfl,aa,ad,an,aT⟩:=aD;have he:∀{K:F.K},k<i->Pu (ia 1 (a5 (J ⟨b,e,ab⟩) (U D-0) (C-0)) (ah k)) h (λfI h=>cd fI h K)=K (bu (g D k:Int)) h:=λ{K} acf=>by
  have Fc:0<C:=I
  have bP:=aa Fc;subst bP;rw[FR I,bs];have:=vN (h:=h) (k:=K) (e:=k) (i:=k) aM (λ_=>rfl) I;exact this
 refine aR ?_;refine⟨λa'=>?_,λeg=>?_⟩
 .have bP:k<i:=a';have Fc:0<C:=I
  have aw:=aa Fc;subst aw;have ar:=cM (i-(k+1)) (ah (x+1:Nat)) (ah (k+1:Nat)) (ah (k+1:Nat)) h I ⟨x+1,k+1,k+1,rfl,rfl,rfl,I,I,I,rfl,rfl⟩;have aS:=cM (i-(k+1)) (ah (x:Nat)) (ah (y:Nat)) (ah (k+1:Nat)) h I ⟨x,y,k+1,rfl,rfl,rfl,I,I,I,rfl,rfl⟩;rw[vN (i:=k) aM (λ_=>a1) I];have bl:bn cQ (bu (g D k:Int)) (bu 10)=J (aQ (decide (g D k=10))):=va (b:=10);rw[bl];by_cases c:g D k=10
  .simp only[c,ahK,bs,gl];exact ar
  .simp only[c,decide_false,bs,ga];exact aS
 .exact q x (i-y+1) I I
end
def KV(h:H)(v:ao):Prop:=∃x s y z,v=cW 58 (aN x)/\h[x]?=J (aO #[S s,ah y,ah z] 61)/\U s<=1000
def an8:Z 61=[S [],ah 0,ah 0]:=b4
def XW(b:Nat)(h h':H):Prop:=∀y,y<=b->h'[y]?=h[y]?
section
variable{h h':H}{b C i j N:Nat}{D s:B}{v u a b' e:ao}{R K:K}
def ajY(he:KV h v)(q:∀s:B,s≠[]->K (S s) h):Ci v "Error" [] h K:=by
 obtain⟨x,s,y,z,rfl,af,aL⟩:=he;refine ajX ?_;apply alT;have f0:fd 0 (aN x)=J (bU (J ⟨x,0,ab⟩)):=oO;rw[FY,bs,f0,bs,fs af,show(#[S s,ah y,ah z]:Array ao)[0]?=J (S s) from rfl,bs];have aw:bn .add (fo ⟨#[116,111,109,108,58,32]⟩) (S s)=J (S ([116,111,109,108,58,32]++s)):=Hb (a:=[116,111,109,108,58,32]) (by simp;omega);rw[aw,bs];grind
theorem Xl(aM:db h b D C)(a7:U D<=400)(aD:bp b 0 (U D) C u)(he:e2 h b (U D) C e)(q:∀h' v,aB h h'->KV h' v->R v h'):bo 56 [b',u,e] h R:=by
 apply amt;obtain⟨x,au,msg,oy,i,j,rfl,af,aL,aC,s,rfl,k1,_⟩:=he;have f0:fd 0 (aN x)=J (.pointer (J ⟨x,0,ab⟩)):=oO;have f1:fd 1 (aN x)=J (.pointer (J ⟨x,1,ab⟩)):=CN;have t1:ta 121 (pe 121) (.iface 121 (aN x))=J (.tuple #[aN x,.bool ai]):=rfl;have az:i<=U D:=by obtain⟨_,_,_,cj,_⟩:=aL;omega
 refine(show∀{X:Prop},X->X from λh=>h) ?_;have cI:=aD;obtain⟨bP,rfl,aa,ad,an,aT⟩:=aD;obtain⟨e,rfl,cZ,cj,eI,jB⟩:=aL;have c1:oM (.slice (J ⟨b,bP,ab⟩) (U D-0) (C-0))=J (.i ((C-0:Nat):Int)):=rfl;have c2:oM (.slice (J ⟨b,e,ab⟩) (j-i) (C-i))=J (.i ((C-i:Nat):Int)):=rfl;have c3:fb (.slice (J ⟨b,bP,ab⟩) (U D-0) (C-0))=J (.i ((U D-0:Nat):Int)):=rfl;have dA:fb (.slice (J ⟨b,e,ab⟩) (j-i) (C-i))=J (.i ((j-i:Nat):Int)):=rfl;have e0:=aM.mH;have es:bn .sub (.i ((C-0:Nat):Int)) (.i ((C-i:Nat):Int))=J (.i (i:Int)):=by
  have:=m' (a:=C-0) (b:=C-i) I I;grind
 have h_:bn .lss (.i (i:Int)) (.i 0)=J (.bool av):=by simp[bn]
 have bE:bn .add (.i (i:Int)) (.i ((j-i:Nat):Int))=J (.i ((i+(j-i):Nat):Int)):=qL I;have aX:bn .gtr (.i ((i+(j-i):Nat):Int)) (.i ((U D-0:Nat):Int))=J (.bool av):=by simp[bn];omega
 have aoT:∀{R:K},(∀x y:Nat,x<=400->y<=401->R (.tuple #[.i (x:Int),.i (y:Int)]) h)->bo 84 [.slice (J ⟨b,bP,ab⟩) (U D-0) (C-0),.i (i:Int)] h R:=λq=>ajL aM cI az a7 q;generalize C-0=WM at*;generalize U D-0=Ya at*;generalize j-i=Bh at*;generalize C-i=Ci at*;rw[t1,bs];(simp-implicitDefEqProofs+contextual (disch:=omega) only[go_sem,f0,f1,fs af,c1,c2,es];try refine c8 ?_)
 refine⟨λae=>ae=h,λd ae aw=>?_,?_⟩
 .subst aw;refine aoT λec y' kc avi=>?_;have ef:∀K:F.K,Bd (Z 61) [(0,1,S s),(1,1,.i ((ec+1:Nat):Int)),(2,1,.i (y':Int))] ae K=K (.agg #[S s,.i ((ec+1:Nat):Int),.i (y':Int)]) ae:=λK=>by rw[an8];rfl
  refine i_ f0 f1 (c4 af) ef ?_;exact q _ _ (aB.push _ _) ⟨_,s,_,_,rfl,dS _ _,k1⟩
 .exact xb h_ f0 f1 (c4 af) dA bE c3 aX trivial
def ajh(aM:db h b D C)(a7:D.length<=400)(aD:bp b 0 D.length C u)(he:e2 h b D.length C e)(q:∀h' v,XW b h h'->KV h' v->R v h'):bo 33 [b',u,e] h R:=by
 apply al5;have xQ:=he;have cI:=aD;obtain⟨x,au,msg,oy,i,j,rfl,af,aL,aC,s,rfl,k1,iC⟩:=he;have f0:fd 0 (aN x)=J (.pointer (J ⟨x,0,ab⟩)):=oO;have t1:ta 121 (pe 121) (.iface 121 (aN x))=J (.tuple #[aN x,.bool ai]):=rfl;have az:i<=D.length:=by obtain⟨_,_,_,cj,_⟩:=aL;omega
 have Qn:bo 56 [b',u,.iface 121 (aN x)] h λv h=>R v h:=Xl aM a7 cI xQ λh' v e d=>q h' v (λy a2=>e.2 y (nT a2 aM.lt)) d;have st:x≠b->∀(v:ao) {K:F.K},cellsL v=[v]->one v=ai->(∀an,bV (J x) h an->an[b]?=h[b]?->an[x]?=J (.cells #[v,S s,oy] 124)->K undef an)->bZ 1 (.pointer (J ⟨x,0,ab⟩)) v h K:=λDh v {K} bx bH h3=>
  fx af a1 bx bH λan aS eH=>h3 an aS (aS.2 b aM.lt λe=>Dh (en e).symm) eH
 obtain⟨bP,rfl,aa,ad,an,aT⟩:=aD;have FK:=aL;obtain⟨e,rfl,cZ,cj,eI,jB⟩:=aL;have c1:oM (.slice (J ⟨b,bP,ab⟩) (D.length-0) (C-0))=J (.i ((C-0:Nat):Int)):=rfl;have c2:oM (.slice (J ⟨b,e,ab⟩) (j-i) (C-i))=J (.i ((C-i:Nat):Int)):=rfl;have e0:=aM.mH;have es:bn .sub (.i ((C-0:Nat):Int)) (.i ((C-i:Nat):Int))=J (.i (i:Int)):=by
  have:=m' (a:=C-0) (b:=C-i) I I;grind
 rw[t1,bs];refine vE f0 (c4 af) c1 c2 es ?_;refine⟨λaW=>⟨λA3=>⟨λaEx=>?_,λ_=>Qn⟩,λ_=>Qn⟩,λ_=>Qn⟩;have Dh:x≠b:=λex=>by
  omega
 refine st Dh _ rfl rfl λan fB aS eH=>?_;refine Xl (aM.at aS) a7 cI ⟨x,_,S s,oy,D.length-1,D.length,rfl,eH,?_,bQ _,s,rfl,k1,iC⟩ λh' v e d=>q h' v (λy a2=>by
  have tq:=nT a2 aM.lt;rw[e.2 y (cP tq fB.1),fB.2 y tq (λe=>al)]) d
 exact(bp.of I I ⟨by (try unfold cX);grind,I,I,by (try unfold cX);grind⟩)
end
structure lM(h:H)(own:cH)(d bz b C:Nat)(D:B)(dj i:Nat)(aj:List (bW bL))(M:List Nat)(id gq:Nat)(c:Array ao)(E:List eM)(V:List ao)(ca:Nat->Nat)(live:Nat->Prop):Prop where
 P:oe h own d bz c b C D
 T:ho h own d bz c E (ca id)
 dv:∀b x,own b=J x->b<ag h
 S:fK h aj V own
 G:jm E aj M ca live
 l0:live 0
 bP:ca 0=0
 t0:cz aj 0
 rt:cV V 0=cW 52 (mapOf dj)
 li:live id
 zN:cz aj id
 mp:cV V id=cW 52 (mapOf gq)
 ne:lq aj
 Jy:U E<=1+i
 Bz:U aj<=1+2*i
 le:i<=U D
 hZ:U D<=400
def p8(h:H)(own:cH)(v:ao):Prop:=∃vs m4,b2 h v 1 vs m4/\∀r,m4=J r->own r=J (1000000,4)
structure g4(h:H)(own:cH)(h':H)(a_:cH):Prop where
 size:ag h<=ag h'
 ext:dL own a_ (ag h)
 lc:∀x,x<ag h->own x=ab\/own x=J iE->h'[x]?=h[x]?
section
variable{h h' aa ad:H}{own a_ eJ o2:cH}{d bz b C i i0 id gq dj:Nat}{D:B}{aj a8:List (bW bL)}{M bK:List Nat}{c b6:Array ao}{E cw:List eM}{V ee:List ao}{ca c7:Nat->Nat}{live d_:Nat->Prop}{u v w a:ao}{ks:List B}{R K:K}
def g4.refl:g4 h own h own:=⟨bQ _,dL.refl _ _,λ_ _ _=>rfl⟩
def g4.trans(a:g4 h own aa eJ)(b:g4 aa eJ ad o2):g4 h own ad o2:=
 ⟨dH a.size b.size,dL.trans a.ext b.ext a.size,λx ae aH=>by rw[b.lc x (cP ae a.size) (by rw[a.ext x ae];exact aH),a.lc x ae aH]⟩
def g4.g_(e:aB h h'):g4 h own h' own:=⟨e.1,dL.refl _ _,λx ae _=>e.2 x ae⟩
def g4.ek(k:oH T own h h')(e:dL own a_ (ag h)):g4 h own h' a_:=⟨k.1,e,λx ae aH=>k.2 x ae λy a2=>by rcases aH with aH|aH<;>rw[aH] at a2<;>cases a2⟩
def g4.qi(S:gV h own h' a_ aj V):g4 h own h' a_:=⟨S.size,S.ext,λx ae aH=>S.ks x ae (aH.imp_right λaH=>⟨_,_,aH,aE⟩)⟩
def g4.b3(a:g4 h own aa eJ)(b:uT eJ aa ad):uT own h ad:=λx ae aH=>by rw[b x (cP ae a.size) ((a.ext x ae).trans aH),a.lc x ae (.inl aH)]
def uT.g_(e:aB h h'):uT own h h':=λx ae _=>e.2 x ae
def ho.move(T:ho h own d bz c E cur)(af:h'[d]?=J (.cells b6 bz))(aH:a_ d=J (1000000,0))(aL:b6.size=c.size)(ay:∀k,6<=k->k<10->b6[k]?=c[k]?)(aq:∀x,x<h.size->(own x=ab\/∃s,own x=J (1000000,s)/\(s=2\/s=3))->h'[x]?=h[x]?/\a_ x=own x):ho h' a_ d bz b6 E cur:=by
 obtain⟨v,er,v1,v2,dD⟩:=T.y0;obtain⟨cg,cJ,n,gu,gD,pc,sR,aBc⟩:=T.EL;refine⟨af,aH,by rw[aL];exact T.size,⟨v,er,al,v2.at λr aF=>?_,λr aF=>?_⟩,by rw[ay 7 aE aE];exact T.curr,⟨cg,cJ,n,al,al,pc.at λx ae avf=>?_,sR.at λx ae avf=>?_,aBc⟩,λx ae=>?_,T.hZ,T.tA,T.kinds⟩
 .subst aF;exact(aq r v2.lt (.inr ⟨2,dD r rfl,.inl rfl⟩)).1
 .subst aF;rw[(aq r v2.lt (.inr ⟨2,dD r rfl,.inl rfl⟩)).2];grind
 .grind
 .grind
 .rcases T.wT x ae with ⟨e,ar⟩|⟨bb,aw,ar⟩
  .exact .inl ⟨e,ar⟩
  .have:=aq bb ar.lt (.inl aw);exact .inr ⟨bb,this.2.trans aw,ar.at this.1⟩
def lM.move(X:lM h own d bz b C D dj i aj M id gq c E V ca live)(fT:oe h' a_ d bz b6 b C D)(aL:ag b6=ag c)(ay:∀k,6<=k->k<10->b6[k]?=c[k]?)(aG:∀b x,a_ b=J x->b<ag h')(aq:∀x,x<ag h->(own x=ab\/(∃s,own x=J (1000000,s)/\(s=2\/s=3))\/∃y s,own x=J (y,s)/\y<1000000)->h'[x]?=h[x]?/\a_ x=own x):lM h' a_ d bz b C D dj i aj M id gq b6 E V ca live:=by
 exact⟨fT,X.T.move fT.par fT.c5 aL ay λx ae aH=>aq x ae (aH.imp_right bF),aG,X.S.keep (by have:=X.Bz;have:=X.le;have:=X.hZ;omega) (λx ae aH=>aq x ae (aH.imp_right bt)) aG,X.G,X.l0,X.bP,X.t0,X.rt,X.li,X.zN,X.mp,X.ne,X.Jy,X.Bz,X.le,X.hZ⟩
def lM.on(X:lM h own d bz b C D dj i aj M id gq c E V ca live)(aC:i<=j)(au:j<=U D):lM h own d bz b C D dj j aj M id gq c E V ca live:=
 ⟨X.P,X.T,X.dv,X.S,X.G,X.l0,X.bP,X.t0,X.rt,X.li,X.zN,X.mp,X.ne,by have:=X.Jy;omega,by have:=X.Bz;omega,au,X.hZ⟩
def p8.move(P:p8 h own v)(aq:∀x,x<ag h->own x=J (1000000,4)->h'[x]?=h[x]?/\a_ x=own x):p8 h' a_ v:=by
 obtain⟨vs,m4,aa,ad⟩:=P;refine⟨vs,m4,aa.at λr aF=>?_,λr aF=>?_⟩
 .subst aF;exact(aq r aa.lt (ad r rfl)).1
 .subst aF;rw[(aq r aa.lt (ad r rfl)).2];grind
def jy.mc(P:jy h own v ks):p8 h own v:=by
 obtain⟨vs,m4,aa,ad,_⟩:=P.row;exact⟨vs,m4,aa,ad⟩
end
section
variable{h h' aa ad:H}{own a_ eJ o2:cH}{d bz b C i i0 id gq dj:Nat}{D s:B}{aj a8:List (bW bL)}{M bK:List Nat}{c b6:Array ao}{E cw:List eM}{V ee:List ao}{ca c7:Nat->Nat}{live d_:Nat->Prop}{u v v0 w a p dst:ao}{ks:List B}{ro:Option Nat}{R:ao->H->Prop}
def ajB(aM:db h b D C)(aD:bp b i0 (U D) C v)(e1:b2 h dst 1 [] ro)(im:ro≠J b)(q:X3 (gkey D i0 []) h b (U D) C i0 ro R):bo 69 [p,v,dst] h R:=by
 apply amE;refine ajT aM aD e1 im ?_;cases aX:gkey D i0 [] with
 |none=>
  rw[aX] at q;intro e h' aw er;refine aR ?_;exact q e h' aw er
 |some wO=>
  obtain⟨ks,j⟩:=wO;rw[aX] at q;intro parts raw rest h' b0 vs bx bH cq dT e3 hJ lo px rz cg;refine aR ?_;exact q parts raw rest h' b0 vs bx bH cq dT e3 hJ lo px rz cg
def ajJ(af:kt h b v s)(q:R (bA #[cW 9 (S s),cR]) h):bo 83 [p,ah 8,v] h R:=by
 apply XT;refine aR ?_;exact xj af q
def adE{K:ao->ao->ao->ao->H->Prop}(X:lM h own d bz b C D dj i aj M id gq c E V ca live)(ay:c[10]?=J v0)(mc:p8 h own v0)(aD:bp b i0 D.length C u)
  (bq:∀ks j,gkey D i0 []=J (ks,j)->∀h' a_ b6 parts raw rest,lM h' a_ d bz b C D dj i aj M id gq b6 E V ca live->g4 h own h' a_->b6.size=c.size->b6[10]?=J parts->jy h' a_ parts ks->ks.length<=j-i0->i0<j->j<=D.length->(∃bI,bI<=D.length/\bp b i0 bI C raw)->bp b j D.length C rest->K parts raw rest .nilIface h')
  (bw:gkey D i0 []=ab->∀e h',uT own h h'->db h' b D C->e2 h' b D.length C e->K (.slice ab 0 0) (.slice ab 0 0) (.slice ab 0 0) e h'):
  Pu (nc (aN d)) h λv1 h=>Pu (fd 0 v1) h λv2 h=>Pu (nc (aN d)) h λdD h=>Pu (fd 10 dD) h λv4 h=>cd v4 h λfI h=>Pu (sl 1 fI ab (J (.i 0)) ab) h λv6 h=>bD 69 [v2,u,v6] h λhH h=>Pu (exv 0 hH) h λj4 h=>Pu (exv 1 hH) h λj5 h=>Pu (exv 2 hH) h λv10 h=>Pu (exv 3 hH) h λv11 h=>Pu (nc (aN d)) h λhv h=>Pu (fd 10 hv) h λjG h=>bZ 1 jG j4 h λ_ h=>K j4 j5 v10 v11 h:=by
 have f0:fd 0 (aN d)=J (aN d):=oO;have f10:fd 10 (aN d)=J (.pointer (J ⟨d,10,ab⟩)):=oO;have P:=X.P;have aM:=P.doc;have gn:=(cm.1 P.par).1;have dR:=aM.lt;have nB:d≠b:=λe=>by subst e;have:=P.c5;rw[P.mJ] at this;cases this
 obtain⟨vs,m4,cZ,cj⟩:=mc;have im:m4≠J b:=λe=>by have:=cj b e;rw[P.mJ] at this;cases this
 have II:m4≠J d:=λe=>by have:=cj d e;rw[P.c5] at this;cases this
 obtain⟨v1,s1,s2⟩:∃v1,sl 1 v0 ab (J (.i 0)) ab=J v1/\b2 h v1 1 [] m4:=by
  cases m4 with
  |none=>
   obtain⟨rfl,_⟩:=cZ;exact⟨.slice ab 0 0,rfl,rfl,rfl⟩
  |some r=>
   obtain⟨len,iP,jO,t,rfl,bS,bc,eL,vy,Nt⟩:=cZ;exact⟨.slice (J ⟨r,0,ab⟩) 0 iP,JG (k:=0) I bc,⟨0,iP,jO,t,rfl,bS,I,eL,a1,rfl⟩⟩
 rw[FY,bs,f0,bs,bs,f10,bs,fs P.par,ay,bs,s1,bs];refine ajB aM aD s2 im ?_;cases aX:gkey D i0 [] with
 |none=>
  intro e h' aw er;have hE:h'[d]?=J (.cells c bz):=(aw.2 d gn λe=>II e.symm).trans P.par;have dN:=aM.at (aw.2 b dR λe=>im e.symm);refine bG f10 ?_;refine fx hE al rfl rfl λan aS mD=>?_;obtain⟨fC,j6,pT,rp,Ks,Wg,ahk,ahl,Gy⟩:=er;by_cases aV:fC=d
  .grind
  .exact bw aX _ _ (λx ae aH=>by rw[aS.2 x (cP ae aw.1) (λe=>by cases e;rw[P.c5] at aH;cases aH),aw.2 x ae (λe=>al)]) (dN.at (aS.2 b (cP dR aw.1) λe=>nB (en e).symm)) ⟨fC,j6,pT,rp,Ks,Wg,ahk,(aS.2 fC (cm.1 ahl).1 λe=>aV (en e)).trans ahl,Gy⟩
 |some wO=>
  obtain⟨ks,j⟩:=wO;intro parts raw rest h' b0 aBa aw dF e1 xW bk lA eK aC nH wD;have hE:h'[d]?=J (.cells c bz):=(aw.2 d gn λe=>II e.symm).trans P.par;have nK:=kJ e1;refine bG f10 ?_;refine fx hE al nK.1 nK.2 λan aS mD=>?_;have cf:∀x,x<h.size->x≠d->m4≠J x->an[x]?=h[x]?:=λx ae fj h2=>by
   rw[aS.2 x (cP ae aw.1) (λe=>fj (en e)),aw.2 x ae (λe=>h2 e.symm)]
  have auC:b0≠J d:=λe=>by
   rcases dF with rfl|⟨r,rfl,aF⟩
   .exact II e
   grind
  have sI:dL own (dX own b0 (1000000,4)) h.size:=λx ae=>by
   unfold dX;split
   .rename_i e;cases e;rcases dF with ar|⟨df,ar,aS⟩
    .grind
    grind
   .rfl
  have UN:∀r,b0=J r->dX own b0 (1000000,4) r=J (1000000,4):=λr e=>by subst e;unfold dX;grind
  have apj:∀x y,dX own b0 (1000000,4) x=J y->x<an.size:=λx y a2=>by
   unfold dX at a2;split at a2
   .rename_i e;subst e;exact cP e1.lt aS.1
   .exact cP (X.dv x y a2) (dH aw.1 aS.1)
  have c0:=P.size;have fT:oe an (dX own b0 (1000000,4)) d bz (c.setIfInBounds 10 parts) b C D:=by
   obtain⟨w,gu,gD⟩:=P.fL;obtain⟨pv,DB,cap,L,cc,cK,df,gB,hj⟩:=P.row;refine⟨mD,(sI d gn).trans P.c5,(sI b dR).trans P.mJ,al,by rw[sK aE];exact P.n5,⟨w,al,gD⟩,⟨pv,DB,cap,L,al,cK.at λr aF=>?_,df,gB,λr aF=>?_⟩,by rw[sK aE];exact P.pG,aM.at (cf b dR (λe=>nB e.symm) im)⟩
   .subst aF;exact cf r cK.lt (λe=>by subst e;have:=hj r rfl;rw[P.c5] at this;cases this) (λe=>al)
   .subst aF;exact(sI r cK.lt).trans (hj r rfl)
  have lQ:=X.move fT a1 (λk bx bH=>sK I) apj (λx ae aH=>⟨cf x ae (λe=>by subst e;rw[P.c5] at aH;grind) (λe=>al),sI x ae⟩);refine bq ks j aX an _ _ parts raw rest lQ ⟨dH aw.1 aS.1,sI,λx ae aH=>cf x ae (λe=>by subst e;rw[P.c5] at aH;rcases aH with aH|aH<;>cases aH) λe=>by rw[cj x e] at aH;rcases aH with aH|aH<;>cases aH⟩ a1 al ⟨⟨aBa,b0,e1.at λr aF=>?_,UN,xW.mono λv k ⟨bb,dz,cF⟩=>⟨bb,?_,?_⟩⟩,bk,by have:=X.hZ;omega⟩ lA eK aC nH wD
  .subst aF;exact aS.2 r e1.lt λe=>auC e.symm.symm
  .unfold dX;rw[ak dz.2];rcases dz.1 with e|e
   .rw[e];exact P.mJ
   .cases aH:own bb with
    |none=>rfl
    |some y=>
     have:=X.dv bb y aH;omega
  .refine cF.at (aS.2 bb cF.lt λe=>?_);grind
end
section
variable{h h' aa ad g:H}{own a_ eJ o2:cH}{d bz b C i i0 j l id cY gq dj cur:Nat}{D s:B}{aj a8:List (bW bL)}{M bK:List Nat}{c b6 c1:Array ao}{E cw kx:List eM}{V ee:List ao}{ca c7:Nat->Nat}{live d_:Nat->Prop}{u v v0 w a p b' parts:ao}{ks:List B}{ro:Option Nat}{t:bL}{R:ao->H->Prop}
def fK.hb(aY:fK h aj V own)(c0:U aj<=5000)(T:ft h own c h' a_ d bz b6 cw cur):fK h' aj V a_:=
 aY.keep c0 (λb af aH=>⟨T.ek.2 b af λk aq _=>al,T.ext b af⟩) T.dv
def fK.fN(aY:fK h aj V own)(c0:U aj<=5000)(e:aB h h'):fK h' aj V own:=
 aY.keep c0 (λb af _=>⟨e.2 b af,rfl⟩) λb x ae=>cP (aY.dv b x ae) e.1
def oe.qi(P:oe h own d bz c b C D)(S:gV h own h' a_ a8 ee):oe h' a_ d bz c b C D:=by
 obtain⟨w,gu,gD⟩:=P.fL;obtain⟨pv,DB,cap,L,cc,cK,df,gB,hj⟩:=P.row;have gn:=(cm.1 P.par).1;refine⟨(S.ks d gn (.inr ⟨_,_,P.c5,bQ _⟩)).trans P.par,(S.ext d gn).trans P.c5,(S.ext b P.doc.lt).trans P.mJ,P.size,P.n5,⟨w,gu,gD⟩,⟨pv,DB,cap,L,cc,cK.at λr aF=>?_,df,gB,λr aF=>?_⟩,P.pG,P.doc.at (S.ks b P.doc.lt (.inl P.mJ))⟩
 .subst aF;exact S.ks r cK.lt (.inr ⟨_,_,hj r rfl,bQ _⟩)
 .subst aF;exact(S.ext r cK.lt).trans (hj r rfl)
def ho.qi(T:ho h own d bz c E cur)(S:gV h own h' a_ a8 ee):ho h' a_ d bz c E cur:=by
 have gn:=(cm.1 T.bJ).1;exact T.move ((S.ks d gn (bt ⟨_,_,T.c5,bQ _⟩)).trans T.bJ) ((S.ext d gn).trans T.c5) rfl (λ_ _ _=>rfl) λx ae aH=>⟨S.ks x ae (aH.imp_right λ⟨s,e,_⟩=>⟨_,s,e,bQ _⟩),S.ext x ae⟩
def p8.qi(P:p8 h own v)(S:gV h own h' a_ a8 ee):p8 h' a_ v:=
 P.move λx ae aH=>⟨S.ks x ae (bt ⟨_,_,aH,bQ _⟩),S.ext x ae⟩
def oe.fN(P:oe h own d bz c b C D)(e:aB h h'):oe h' own d bz c b C D:=by
 obtain⟨w,gu,gD⟩:=P.fL;obtain⟨pv,DB,cap,L,cc,cK,df,gB,hj⟩:=P.row;have gn:=(cm.1 P.par).1;exact⟨(e.2 d gn).trans P.par,P.c5,P.mJ,P.size,P.n5,⟨w,gu,gD⟩,⟨pv,DB,cap,L,cc,cK.at λr aF=>by subst aF;exact e.2 r cK.lt,df,gB,hj⟩,P.pG,P.doc.ext e⟩
def lM.fN(X:lM h own d bz b C D dj i aj M id gq c E V ca live)(e:aB h h'):lM h' own d bz b C D dj i aj M id gq c E V ca live:=
 X.move (X.P.fN e) rfl (λ_ _ _=>rfl) (λb x ae=>cP (X.dv b x ae) e.1) λx ae _=>⟨e.2 x ae,rfl⟩
def jy.fN(P:jy h own a ks)(e:aB h h'):jy h' own a ks:=P.keep λb af _=>⟨e.2 b af,rfl⟩
def yK(h:H)(own:cH)(d bz b C:Nat)(D:B)(dj id gq:Nat)(R:ao->H->Prop):Option (List (bW bL)×List Nat×Nat)->Prop
 |J (a8,bK,l)=>∀h' a_ b6 cw ee c7 d_ v kv,lM h' a_ d bz b C D dj l a8 bK id gq b6 cw ee c7 d_->g4 h own h' a_->b6[10]?=J kv->p8 h' a_ kv->bp b l (U D) C v->R (bA #[v,cR]) h'
 |none=>∀e h',uT own h h'->db h' b D C->e2 h' b (U D) C e->R (bA #[a5 ab 0 0,e]) h'
def adL(X:lM h own d bz b C D dj i aj M id gq c E V ca live)(T:ft h own c aa eJ d bz c1 kx (ca id))(G:jm kx a8 bK c7 d_)(au:∀j,live j->d_ j/\c7 j=ca j)(aJ:pairS t ks aj M id=.ok a8 bK cY)(e:aB aa ad)(P:jy ad eJ parts ks)(hw:gx eJ ad w t)(jR:U kx<=1+l)(aL:U aj+U ks<=1+2*l)(nF:l<=U D)(ay:c1[10]?=J parts)
  (q:∀h' a_ ee,lM h' a_ d bz b C D dj l a8 bK id gq c1 kx ee c7 d_->g4 h own h' a_->p8 h' a_ parts->R (bA #[]) h'):bo 81 [b',mapOf gq,parts,w] ad R:=by
 have C3:=X.hZ;have hle:=X.le;have Th:=X.Bz;have hT:=X.S.hb I T;have mm:=hT.fN I e;refine ajH mm I X.zN X.mp P aJ hw λg' a_ ee S b5=>?_;have zc:=N7 aJ;have jD:=au 0 X.l0;have afj:=au id X.li;have kT:ho ad eJ d bz c1 kx (ca id):=T.eh.keep λx ae _=>⟨e.2 x ae,rfl⟩;refine q g' a_ ee ⟨((X.P.hb T).fN e).qi S,by rw[afj.2];exact kT.qi S,S.gs.dv,S.gs,G,jD.1,jD.2.trans X.bP,(b5 0 X.t0).1,(b5 0 X.t0).2.trans X.rt,afj.1,(b5 id X.zN).1,(b5 id X.zN).2.trans X.mp,N6 aJ X.ne,jR,I,nF,C3⟩ ((g4.ek T.ek T.ext).trans ((g4.g_ e).trans (g4.qi S))) (P.mc.qi S)
end
def putQ(D:B)(ks:List B)(a:e')(l:Nat)(aj:List (bW bL))(M:List Nat)(id:Nat)(Q:Option (List (bW bL)×List Nat×Nat)->Prop):Prop:=
 match pairS () ks (aj.map shN) M id with
 | .no _=>Q ab
 | .ok _ _ _=>if okV (U D+1) a=ai then decQ D (U D+1) a (λo=>match o with
   |none=>Q ab
   |some t=>match pairS t ks aj M id with
    | .ok a8 bK _=>Q (J (a8,bK,l))
    | .no _=>Q ab)
  else Q ab
def kvQ(D:B)(i:Nat)(aj:List (bW bL))(M:List Nat)(id:Nat)(Q:Option (List (bW bL)×List Nat×Nat)->Prop):Prop:=
 match gkey D i [] with
 |none=>Q ab
 |J (ks,j)=>if g D j=61 then(match gval D (U D+1) (a9 D (j+1)) with
   |none=>Q ab
   |J (a,k)=>match gfin D k with
    |none=>Q ab
    |some l=>putQ D ks a l aj M id Q)
  else Q ab
def yI(D:B):Prop:=∀n i a k,gval D n i=J (a,k)->tokA D n a
def TR(dk bH j5 kj l1:ao)(h:H)(R:K):Prop:=
 Pu (nc dk) h λkO h=>
 Pu (fd 6 kO) h λnQ h=>
 Pu (nc dk) h λn' h=>
 Pu (fd 10 n') h λnd h=>
 cd nd h λkk h=>
 bD 78 [nQ,kk] h λnf h=>
 Pu (exv 0 nf) h λmf h=>
 Pu (exv 1 nf) h λmg h=>
 Pu (beI ai mg cR) h λng h=>
 b1 ng (Pu (nc dk) h λkl h=>
 Pu (fd 10 kl) h λlI h=>
 cd lI h λsQ h=>
 bD 73 [dk,j5,sQ,mg] h λmh h=>
 R (bA #[(a5 ab 0 0),mh]) h)<|
 Pu (nc dk) h λo' h=>
 Pu (fd 6 o') h λqy h=>
 bD 79 [qy,mf,kj] h λjk h=>
 Pu (beI ai jk cR) h λkm h=>
 b1 km (Pu (nc dk) h λpa h=>
 Pu (fd 10 pa) h λmi h=>
 cd mi h λnh h=>
 bD 73 [dk,j5,nh,jk] h λoA h=>
 R (bA #[(a5 ab 0 0),oA]) h)<|
 bD 80 [dk,kj] h λkn h=>
 Pu (exv 0 kn) h λrj h=>
 Pu (exv 1 kn) h λjJ h=>
 Pu (beI ai jJ cR) h λkP h=>
 b1 kP (R (bA #[(a5 ab 0 0),jJ]) h)<|
 Pu (nc dk) h λj3 h=>
 Pu (fd 10 j3) h λld h=>
 cd ld h λxa h=>
 bD 81 [dk,bH,xa,rj] h λr5 h=>
 R (bA #[l1,cR]) h
def TS(dk bH j5 ni pb l2:ao)(h:H)(R:K):Prop:=
 Pu (nc dk) h λkQ h=>
 Pu (fd 6 kQ) h λlg h=>
 Pu (nc dk) h λoa h=>
 Pu (fd 10 oa) h λnR h=>
 cd nR h λmO h=>
 bD 78 [lg,mO] h λrk h=>
 Pu (exv 0 rk) h λpS h=>
 Pu (exv 1 rk) h λrl h=>
 Pu (beI ai rl cR) h λoD h=>
 b1 oD (Pu (nc dk) h λrm h=>
 Pu (fd 10 rm) h λnk h=>
 cd nk h λml h=>
 bD 73 [dk,j5,ml,rl] h λpN h=>
 R (bA #[(a5 ab 0 0),pN]) h)<|
 bD 83 [dk,ni,pb] h λo9 h=>
 Pu (exv 0 o9) h λr2 h=>
 Pu (exv 1 o9) h λvC h=>
 Pu (beI ai vC cR) h λuE h=>
 b1 uE (R (bA #[(a5 ab 0 0),vC]) h)<|
 Pu (nc dk) h λzR h=>
 Pu (fd 10 zR) h λuF h=>
 cd uF h λr3 h=>
 bD 81 [dk,bH,r3,r2] h λyq h=>
 R (bA #[l2,cR]) h
def Yy(dk bx bH:ao)(h:H)(R:K):Prop:=
 Pu (nc dk) h λv1 h=>
 Pu (fd 0 v1) h λv2 h=>
 Pu (nc dk) h λdD h=>
 Pu (fd 10 dD) h λv4 h=>
 cd v4 h λfI h=>
 Pu (sl 1 fI ab (J (ah 0)) ab) h λv6 h=>
 bD 69 [v2,bx,v6] h λhH h=>
 Pu (exv 0 hH) h λj4 h=>
 Pu (exv 1 hH) h λj5 h=>
 Pu (exv 2 hH) h λv10 h=>
 Pu (exv 3 hH) h λv11 h=>
 Pu (nc dk) h λhv h=>
 Pu (fd 10 hv) h λjG h=>
 bZ 1 jG j4 h λ_ h=>
 Pu (beI ai v11 cR) h λlG h=>
 b1 lG (R (bA #[(a5 ab 0 0),v11]) h)<|
 Pu (fb v10) h λjh h=>
 Pu (bn cQ jh (ah 0)) h λiq h=>
 a0 iq av (λh k=>k v10 h) h λiY h=>
 a0 iq av (Pu (ia 1 iY (ah 0))) h λri h=>
 a0 iq av (cd ri) h λh4 h=>
 a0 iq av (Pu (bn hF h4 (bu 61))) h λv20 h=>
 Pu (pk iq (aQ ai) v20) h λgC h=>
 b1 gC (bD 70 [v10] h λf' h=>
 bD 51 [f',(fo ⟨#[101,120,112,101,99,116,101,100,32,39,61,39,32,97,102,116,101,114,32,107,101,121]⟩),(a5 ab 0 0)] h λg2 h=>
 R (bA #[(a5 ab 0 0),g2]) h)<|
 Pu (sl 1 v10 (J (ah 1)) ab ab) h λji h=>
 bD 50 [ji] h λhS h=>
 Pu (fb hS) h λjj h=>
 Pu (bn cQ jj (ah 0)) h λgT h=>
 b1 gT (bD 51 [hS,(fo ⟨#[101,120,112,101,99,116,101,100,32,118,97,108,117,101,44,32,110,111,116,32,101,110,100,32,111,102,32,105,110,112,117,116]⟩),(a5 ab 0 0)] h λjH h=>
 R (bA #[(a5 ab 0 0),jH]) h)<|
 Pu (ia 1 hS (ah 0)) h λmL h=>
 cd mL h λv30 h=>
 Pu (bn cQ v30 (bu 91)) h λj2 h=>
 a0 j2 av (λh k=>k v30 h) h λmM h=>
 a0 j2 av (Pu (bn cQ mM (bu 123))) h λlb h=>
 Pu (pk j2 (aQ ai) lb) h λkM h=>
 b1 kM (Pu (nc dk) h λpR h=>
 Pu (fd 0 pR) h λlH h=>
 bD 77 [lH,hS] h λkN h=>
 Pu (exv 0 kN) h λkj h=>
 Pu (exv 1 kN) h λme h=>
 Pu (exv 2 kN) h λjI h=>
 Pu (beI ai jI cR) h λnO h=>
 b1 nO (R (bA #[(a5 ab 0 0),jI]) h)<|
 bD 71 [dk,me] h λnP h=>
 Pu (exv 0 nP) h λl1 h=>
 Pu (exv 1 nP) h λo_ h=>
 Pu (beI ai o_ cR) h λiH h=>
 b1 iH (R (bA #[(a5 ab 0 0),o_]) h)<|
 TR dk bH j5 kj l1 h R)<|
 Pu (nc dk) h λuH h=>
 Pu (fd 0 uH) h λqz h=>
 bD 82 [qz,hS] h λmj h=>
 Pu (exv 0 mj) h λni h=>
 Pu (exv 1 mj) h λoB h=>
 Pu (exv 2 mj) h λpb h=>
 Pu (exv 3 mj) h λiZ h=>
 Pu (exv 4 mj) h λju h=>
 Pu (beI ai ju cR) h λoC h=>
 b1 oC (R (bA #[(a5 ab 0 0),ju]) h)<|
 bD 71 [dk,iZ] h λnj h=>
 Pu (exv 0 nj) h λl2 h=>
 Pu (exv 1 nj) h λko h=>
 Pu (beI ai ko cR) h λmN h=>
 b1 mN (R (bA #[(a5 ab 0 0),ko]) h)<|
 TS dk bH j5 ni pb l2 h R
section
variable{h h' aa ad g:H}{own a_ eJ o2:cH}{d bz b C i i0 j l id cY gq dj cur:Nat}{D s:B}{aj a8:List (bW bL)}{M bK:List Nat}{c b6 c1:Array ao}{E cw kx:List eM}{V ee:List ao}{ca c7:Nat->Nat}{live d_:Nat->Prop}{u v v0 w a p b' parts:ao}{ks:List B}{ro:Option Nat}{t:bL}{R:ao->H->Prop}
def ara(h:kA D i=J (.tok k,j)):9<=k:=by
 unfold kA at h;split at h
 .cases aL:mv D i with
  |none=>rw[aL] at h;cases h
  |some x=>rw[aL] at h;cases h
 .cases aL:gm D i with
  |none=>rw[aL] at h;cases h
  |some x=>
   obtain⟨k',bI⟩:=x;rw[aL] at h;cases h;exact abe aL
def N_{a:e'}(b5:∀o,Q o->fU o)(q:putQ D ks a l aj M id Q):putQ D ks a l aj M id fU:=by
 unfold putQ at q⊢;split
 .grind
 .rename_i e;rw[e] at q;simp only at q;split
  .rename_i ar;rw[aA ar] at q;refine Aw _ _ (λo aH=>?_) q;grind
  grind
def yK.cf(F:g4 h own aa eJ)(q:yK h own d bz b C D dj id gq R o):yK aa eJ d bz b C D dj id gq R o:=by
 cases o with
 |none=>exact λe h' b3=>q e h' (F.b3 b3)
 |some x=>
  obtain⟨a8,bK,l⟩:=x;intro h' a_ b6 cw ee c7 d_ v kv X F' aq mc aD;exact q h' a_ b6 cw ee c7 d_ v kv X (F.trans F') aq mc aD
def av6{r:Nat}{aK:List eo}{a:e'}{vz:Nat}(X:lM h own d bz b C D dj i aj M id gq c E V ca live)(ay:c[10]?=J parts)(P:jy h own parts ks)(A:AV h own d bz c r b C D aK)(fO:At aK (D.length+1) 0 aK.length a)(nH:bp b i0 vz C raw)(qX:vz<=D.length)(bj:bp b l D.length C fin)(au:i+ks.length+aK.length<=l)(nF:l<=D.length)(aP:tokA D (D.length+1) a)(q:putQ D ks a l aj M id (yK h own d bz b C D dj id gq R)):TR (aN d) (mapOf gq) raw (d' r 0) fin h R:=by
 unfold TR;unfold putQ at q;have C3:=X.hZ;have Th:=X.Bz;have acR:=X.Jy;have hle:=X.le;have f6:fd 6 (aN d)=J (eB d 6):=oO;have f10:fd 10 (aN d)=J (.pointer (J ⟨d,10,ab⟩)):=oO;have gj:∀{aa:H} {c1:Array ao} {K:F.K},aa[d]?=J (.cells c1 bz)->c1[10]?=J parts->cd (.pointer (J ⟨d,10,ab⟩)) aa K=K parts aa:=λ{aa c1 K} aw ar=>by rw[fs aw,ar,bs]
 have bB:nc (aN d)=J (aN d):=FY;rw[bB,bs,f6,bs,bs,f10,bs,gj X.P.par ay];have t0:bL:=.mk 0 0 0 [] [] [];refine Xp X.T X.dv X.G X.li X.zN rfl P I (λaa eJ c1 kx n c_ aI Mw l'=>?_) λfy aa eJ c1 kx x e c_ iX=>?_
 .have gH:c1[10]?=J parts:=(c_.kU 10 (.inr aE)).trans ay;obtain⟨aBz,anw,i0,_,_,M7,_⟩:=l' t0;rw[pairS_sh (t:=t0),M7] at q;simp only at q;refine bG f6 ?_;refine ajG c_.eh c_.dv (A.hb c_) fO aI I (λjq ad o2 c2 xl kT pq=>?_) λjq ad o2 c2 xl v kT iX=>?_
  .have j':c2[10]?=J parts:=(kT.kU 10 (.inr aE)).trans gH;rw[aA jq] at q;refine aR ?_;have iJ:=(A.hb c_).hb kT;refine akc D (D.length+1) iJ fO (bQ _) jq aP (Aw _ _ (λo aH=>?_) q);cases o with
   |none=>
    intro x e an aS er;have af:=gW er;refine bG af ?_;exact aH e an (((g4.ek c_.ek c_.ext).trans (g4.ek kT.ek kT.ext)).b3 (.g_ aS)) (iJ.doc.ext aS) er
   |some t=>
    intro an w aS hw;obtain⟨a8,bK,cY,c7,d_,aJ,uU,fg,a'⟩:=l' t;simp only[aJ] at aH;(simp-implicitDefEqProofs+contextual (disch:=omega) only[go_sem,f10,gj ((aS.2 d (cm.1 kT.eh.bJ).1).trans kT.eh.bJ) j'];try refine c8 ?_)
    have p6:jm xl a8 bK c7 d_:=by
     obtain⟨Y,rfl,_,cb⟩:=pq;exact uU.more cb a'
    have:=pq.len;refine adL X (c_.trans kT) p6 fg aJ aS (((P.hb c_).hb kT).fN aS) (hw.keep λb af aH=>⟨rfl,?_⟩) I I nF j' λaT zG PW oh PC G0=>?_
    .cases ib:o2 b with
     |none=>rfl
     |some y=>have:=kT.dv b y ib;have:=n8 aH;omega
    .exact aH aT zG _ _ PW _ _ fin parts oh PC j' G0 bj
  .have af:=Cw iX;have j':c2[10]?=J parts:=(kT.kU 10 (.inr aE)).trans gH;rw[jq,ak aE] at q;(simp-implicitDefEqProofs+contextual (disch:=omega) only[go_sem,af,f10,gj kT.eh.bJ j'];try refine c8 ?_)
   have yN:=(P.hb c_).hb kT;refine GN (dR:=((A.hb c_).hb kT).doc.lt) yN iX nH qX λan e aS er=>?_;exact q e an (((g4.ek c_.ek c_.ext).trans (g4.ek kT.ek kT.ext)).b3 (.g_ aS)) (((A.hb c_).hb kT).doc.ext aS) er
 .have af:=Cw iX;have gH:c1[10]?=J parts:=(c_.kU 10 (.inr aE)).trans ay;obtain⟨jO,fy⟩:=fy t0;rw[pairS_sh (t:=t0),fy] at q;(simp-implicitDefEqProofs+contextual (disch:=omega) only[go_sem,af,f10,gj c_.eh.bJ gH];try refine c8 ?_)
  refine GN (dR:=(A.hb c_).doc.lt) (P.hb c_) iX nH qX λad e ar er=>?_;exact q e ad ((g4.ek c_.ek c_.ext).b3 (.g_ ar)) ((A.hb c_).doc.ext ar) er
def adG{a:e'}{vz:Nat}(X:lM h own d bz b C D dj i aj M id gq c E V ca live)(ay:c[10]?=J parts)(P:jy h own parts ks)(arv:∀{ad:H} {Yg:ao->H->Prop},(∀x,x<ag h->own x=ab->ad[x]?=h[x]?)->decQ D (U D+1) a (vP b C D ad Yg)->bo 83 [aN d,ni,pb] ad Yg)(nH:bp b i0 vz C raw)(qX:vz<=U D)(bj:bp b l (U D) C fin)(au:i+U ks<=l)(nF:l<=U D)(jq:okV (U D+1) a=ai)(q:putQ D ks a l aj M id (yK h own d bz b C D dj id gq R)):TS (aN d) (mapOf gq) raw ni pb fin h R:=by
 unfold TS;unfold putQ at q;have C3:=X.hZ;have Th:=X.Bz;have acR:=X.Jy;have hle:=X.le;have f6:fd 6 (aN d)=J (eB d 6):=oO;have f10:fd 10 (aN d)=J (.pointer (J ⟨d,10,ab⟩)):=oO;have gj:∀{aa:H} {c1:Array ao} {K:F.K},aa[d]?=J (.cells c1 bz)->c1[10]?=J parts->cd (.pointer (J ⟨d,10,ab⟩)) aa K=K parts aa:=λ{aa c1 K} aw ar=>by rw[fs aw,ar,bs]
 have bB:nc (aN d)=J (aN d):=FY;rw[bB,bs,f6,bs,bs,f10,bs,gj X.P.par ay];have t0:bL:=.mk 0 0 0 [] [] [];refine Xp X.T X.dv X.G X.li X.zN rfl P I (λaa eJ c1 kx n c_ aI Mw l'=>?_) λfy aa eJ c1 kx x e c_ iX=>?_
 .have gH:c1[10]?=J parts:=(c_.kU 10 (.inr aE)).trans ay;obtain⟨aBz,anw,i0,_,_,M7,_⟩:=l' t0;rw[pairS_sh (t:=t0),M7] at q;simp only at q;rw[aA jq] at q;refine aR ?_;have mx:db aa b D C:=(X.P.hb c_).doc;refine arv (λx ae aH=>c_.ek.none ae aH) (Aw _ _ (λo aH=>?_) q);cases o with
  |none=>
   intro x e an aS er;have af:=gW er;refine bG af ?_;exact aH e an ((g4.ek c_.ek c_.ext).b3 (.g_ aS)) (mx.ext aS) er
  |some t=>
   intro an w aS hw;obtain⟨a8,bK,cY,c7,d_,aJ,uU,fg,a'⟩:=l' t;simp only[aJ] at aH;(simp-implicitDefEqProofs+contextual (disch:=omega) only[go_sem,f10,gj ((aS.2 d (cm.1 c_.eh.bJ).1).trans c_.eh.bJ) gH];try refine c8 ?_)
   refine adL X c_ uU fg aJ aS ((P.hb c_).fN aS) (hw _) I I nF gH λaT zG PW oh PC G0=>?_;exact aH aT zG _ _ PW _ _ fin parts oh PC gH G0 bj
 .have af:=Cw iX;have gH:c1[10]?=J parts:=(c_.kU 10 (.inr aE)).trans ay;obtain⟨jO,fy⟩:=fy t0;rw[pairS_sh (t:=t0),fy] at q;(simp-implicitDefEqProofs+contextual (disch:=omega) only[go_sem,af,f10,gj c_.eh.bJ gH];try refine c8 ?_)
  refine GN (dR:=(X.P.hb c_).doc.lt) (P.hb c_) iX nH qX λad e ar er=>?_;exact q e ad ((g4.ek c_.ek c_.ext).b3 (.g_ ar)) ((X.P.hb c_).doc.ext ar) er
theorem ajv(X:lM h own d bz b C D dj i aj M id gq c E V ca live)(ay:c[10]?=J v0)(mc:p8 h own v0)(aD:bp b i0 (U D) C u)(az:i<=i0)(aP:yI D)(q:kvQ D i0 aj M id (yK h own d bz b C D dj id gq R)):bo 55 [aN d,u,mapOf gq] h R:=by
 apply ams;change Yy _ _ _ _ _;unfold Yy;unfold kvQ at q;have aM:=X.P.doc;have e0:=aM.mH;have hlen:=aM.len;refine adE X ay mc aD (λks j aX aa eJ c1 parts raw rest p' po iD gH Ag lA eK aC nH wD=>?_) λaX e aa b3 mx er=>?_
 .rw[aX] at q;have mx:=p'.P.doc;have pE:=wD;obtain⟨er,rfl,cc,cK,df,gB⟩:=wD;(simp-implicitDefEqProofs+contextual (disch:=omega) only[go_sem,vN mx cc];try refine c8 ?_)
  simp only at q;have bad:¬g D j=61->∀s:B,U s<=1000->bD 70 [.slice (J ⟨b,er,ab⟩) (U D-j) (C-j)] aa λf' h=>bD 51 [f',S s,.slice ab 0 0] h λg2 h=>R (.tuple #[.slice ab 0 0,g2]) h:=λaI s k1=>by
   rw[ak aI] at q;refine Xo pE e0 λBJ bI x6 g8=>?_;exact gU x6 g8 λe ad ar er=>q e ad (po.b3 (.g_ ar)) (mx.ext ar) er
  refine⟨λaW=>bad (by rw[g6 I];decide) _ aE,λaW=>⟨λaI=>bad aI _ aE,λaI=>?_⟩⟩;clear bad;have hq:=OY.1 aI;rw[aA hq] at q;refine Eh mx (i:=j+1) ck λch k2=>?_;have wG:=o6 (D:=D) (i:=j+1) I;generalize a9 D (j+1)=i2 at*;have cI:=k2;obtain⟨ar,rfl,t1,t2,t3,t4⟩:=k2;refine bG (hA mx t1) ?_;refine⟨λaW=>?_,λaW=>⟨λhK=>?_,λhK=>⟨λuf=>?_,λuf=>?_⟩⟩⟩
  .rw[RM (g6 I)] at q;exact gU cI (bQ _) λe ad ar er=>q e ad (po.b3 (.g_ ar)) (mx.ext ar) er
  rotate_left 2
  .refine ajI (p:=aN d) mx cI ?_;have wu:gval D (U D+1) i2=scA i2 (kA D i2):=by rw[gval,ak hK,ak uf]
   rw[wu] at q;cases ka:kA D i2 with
   |none=>
    rw[ka] at q;intro x y z w e ad ar er;have af:=gW er;refine bG af ?_;exact q e ad (po.b3 (.g_ ar)) (mx.ext ar) er
   |some DF=>
    obtain⟨DE,k⟩:=DF;cases DE with
    |str s=>
     rw[ka] at q;intro th SP x y z ad ar s1 s2 dB;obtain⟨bb,kB,jU⟩:=s2;refine aR ?_;have fX:=mx.ext ar;have G5:=Ag.fN ar;have h8:=p'.fN ar;simp only[scA] at q;refine KR fX dB (λl fB an aS ou SQ ae=>?_) λou fB e an aS er=>?_
     .rw[ou] at q;refine aR ?_;obtain⟨vz,qX,nH⟩:=nH;have Cf:=G5.fN aS;have oh:=h8.fN aS;have nF:l<=U D:=by obtain⟨_,_,_,bO,_⟩:=ae;exact bO
      have sA:eJ bb=ab:=by
       rcases kB with e|e
       .rw[e];exact p'.P.mJ
       .cases aH:eJ bb with
        |none=>rfl
        |some y=>have:=p'.dv bb y aH;omega
      refine adG oh gH Cf (λ{aT anK} aq h3=>?_) nH qX ae I nF rfl (N_ (λo=>yK.cf ((po.trans (g4.g_ ar)).trans (g4.g_ aS))) q);have eH:an[bb]?=ad[bb]?:=aS.2 bb jU.lt;refine ajJ (jU.at ((aq bb (cP jU.lt aS.1) sA).trans eH)) ?_;exact h3 aT _ (aB.refl _) λown=>.str
     .rw[ou] at q;have af:=gW er;refine bG af ?_;exact q e an ((po.trans (g4.g_ ar)).b3 (.g_ aS)) (fX.ext aS) er
    |tok kd=>
     have To:=aP _ _ _ _ (wu.trans (by rw[ka];rfl));have xV:9<=kd:=ara ka;rw[ka] at q;intro th SP x y z s1 s2 dB;refine aR ?_;simp only[scA] at q;refine KR mx dB (λl fB an aS ou SQ ae=>?_) λou fB e an aS er=>?_
     .rw[ou] at q;refine aR ?_;obtain⟨vz,qX,nH⟩:=nH;have Cf:=Ag.fN aS;have oh:=p'.fN aS;have nF:l<=U D:=by obtain⟨_,_,_,bO,_⟩:=ae;exact bO
      refine adG oh gH Cf (λ{aT anK} aq h3=>?_) nH qX ae I nF rfl (N_ (λo=>yK.cf (po.trans (g4.g_ aS))) q);have s9:=mx.ext aS;exact ajK (s9.at (aq b s9.lt p'.P.mJ)) s2 SP To xV h3
     .rw[ou] at q;have af:=gW er;refine bG af ?_;exact q e an (po.b3 (.g_ aS)) (mx.ext aS) er
  all_goals
   refine ajF (n:=U D+1) p'.P p'.dv hlen cI I I ?_;cases wu:gval D (U D+1) i2 with
   |none=>
    rw[wu] at q;intro x y e ad b3 fX er;have af:=gW er;refine bG af ?_;exact q e ad (po.b3 b3) fX er
   |some Cp=>
    obtain⟨a,k⟩:=Cp;have To:=aP _ _ _ _ wu;rw[wu] at q;simp only at q;intro ad o2 c2 r aK v iJ fO yN NZ NA apk QC Zi th SP Nm;refine aR ?_;have qK:=p'.move yN QC (λk bx bH=>Zi k I I) apk λx ae aH=>⟨NA.2 x ae λk aq aL=>by
     rcases aH with aH|⟨s,aH,gQ⟩|⟨y,s,aH,gQ⟩<;>rw[aq] at aH<;>cases aH
     .rcases aL with aL|aL<;>omega
     .omega,NZ x ae⟩
    have G5:jy ad o2 parts ks:=Ag.keep λx ae aH=>⟨NA.2 x ae λk aq aL=>by
     rcases aH with aH|aH<;>rw[aq] at aH<;>cases aH;rcases aL with aL|aL<;>omega,NZ x ae⟩
    refine KR yN.doc Nm (λl x an aS ou SQ ae=>?_) λou x e an aS er=>?_
    .rw[ou] at q;refine aR ?_;obtain⟨vz,qX,nH⟩:=nH;have Cf:=G5.fN aS;have h8:=qK.fN aS;have nF:l<=U D:=by obtain⟨_,_,_,bO,_⟩:=ae;exact bO
     refine av6 h8 ((Zi 10 aE aE).trans gH) Cf (iJ.fN aS) fO nH qX ae I nF To ?_;exact N_ (λo=>yK.cf ((po.trans (g4.ek NA NZ)).trans (g4.g_ aS))) q
    .rw[ou] at q;have af:=gW er;refine bG af ?_;exact q e an ((po.trans (g4.ek NA NZ)).b3 (.g_ aS)) (yN.doc.ext aS) er
 .rw[aX] at q;have:=gW er;refine bG this ?_;exact q e aa b3 mx er
end
