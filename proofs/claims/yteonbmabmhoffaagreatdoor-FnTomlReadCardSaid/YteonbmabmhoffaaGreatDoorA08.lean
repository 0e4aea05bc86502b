/- A part of the proof of FnTomlReadCardSaid: for every string the law FnTomlRead returns true. Conditions: those of the given row and card, no others. -/
import Derived.Test.YteonbmabmhoffaaGreatDoorA07
open Option renaming some->J,none->ab
open Bool renaming true->ai,false->av
open Go renaming Value->ao
open Go.Obj renaming cells->aO
open Go.Value renaming bool->aQ,slice->a5,tuple->bA,pointer->bU,agg->cA,string->fo
open Or renaming inl->bF,inr->bt
open Go.BinOp renaming eql->cQ,lss->fG,neq->hF,geq->h0
open List renaming length->U,toArray->aZ,drop->ax,take->bf
open Array renaming size->ag,toList->bC,push->a6,setIfInBounds->dy
namespace Go.Proofs.YteonbmabmhoffaaGreatDoor.F
set_option linter.all false
set_option autoImplicit true
set_option relaxedAutoImplicit true
set_option maxRecDepth 100000
set_option maxHeartbeats 4000000
noncomputable section
def qa{aj:List (bW α)}{id j:Nat}{k:B}{bB:bW α}(h:cz aj j):cz (dY aj id k bB) j:=by
 obtain⟨kv,aq⟩:=h;have aC:=(fk.1 aq).1;by_cases he:id=j
 .subst he;exact⟨_,Am aC⟩
 .exact⟨kv,by rw[An aC he];exact aq⟩
def UT:∀{ks:List B} {aj a8:List (bW α)} {M bK:List Nat} {id cY:Nat},pairS v ks aj M id=.ok a8 bK cY->cz aj j->cz a8 j
 |[],_,_,_,_,_,_,h,_=>by cases h
 |k::ks,aj,a8,M,bK,id,cY,h,aP=>by
  rw[pairS] at h;split at h
  .split at h
   .cases h
   .cases h;exact qa aP
  .split at h
   .exact UT h (qa aP)
   .split at h
    .split at h
     .cases h
     .split at h
      .cases h
      .exact UT h aP
    .cases h
def N6:∀{ks:List B} {aj a8:List (bW α)} {M bK:List Nat} {id cY:Nat},pairS v ks aj M id=.ok a8 bK cY->lq aj->lq a8
 |[],_,_,_,_,_,_,h,_=>by cases h
 |k::ks,aj,a8,M,bK,id,cY,h,aP=>by
  rw[pairS] at h;split at h
  .split at h
   .cases h
   .cases h;exact aP.add λl e=>by cases e
  .split at h
   .exact N6 h (aP.add λl e=>by cases e)
   .split at h
    .split at h
     .cases h
     .split at h
      .cases h
      .exact N6 h aP
    .cases h
def N5{α:Type}{V:B->eW α}{F:Nat}{l r:B}{aj a8:List (bW α)}{id j:Nat}(h:pairP V F l aj M id=.ok a8 bK r):(cz aj j->cz a8 j)/\(lq aj->lq a8):=by
 unfold pairP at h;cases aq:key F l with
 |no c=>grind
 |ok ks c3=>
  rw[aq] at h;simp only at h;split at h
  .cases h
  .cases aD:V (blanks c3.tail) with
   |no c=>grind
   |ok t dA=>
    rw[aD] at h;simp only at h;cases aJ:pairS t ks aj M id with
    |no c=>grind
    |ok hY yM i1=>
     rw[aJ] at h;cases h;exact⟨UT aJ,N6 aJ⟩
section
variable{h ad g:H}{p t i j n F sd:Nat}{D:B}{R K:K}
def awe(h:U D<=i):¬qt (ax i D):=by
 rw[iu h];unfold qt top;simp
def Z8(aJ:p<ag h)(aL:ag h<=ag g)(k:∀b,b<ag h->b≠p->g[b]?=h[b]?):∃g',aB h g'/\(∀j sd,a3 g p D t j sd=a3 g' p D t j sd)/\ag g'=ag g/\∀b,b≠p->g'[b]?=g[b]?:=by
 refine⟨dy g p h[p],⟨al,λb af=>?_⟩,λj sd=>by unfold a3;rw[set_set],a1,λb af=>al⟩;grind
def jM.two(dn:jM h)(e:∀b,b<2->g[b]?=h[b]?):jM g:=by
 have r:∀a,a.block<2->rd g a=rd h a:=λa bE=>by unfold rd;grind
 exact⟨λi az=>by rw[r _ (aE:0<2)];exact dn.first i az,λk aq=>by rw[r _ (aE:1<2)];exact dn.br k aq,λk aq=>by rw[r _ (aE:1<2)];exact dn.az k aq,by rw[r _ (aE:1<2)];exact dn.NL,by rw[r _ (aE:1<2)];exact dn.MW⟩
def fa.root(af:g[b]?=J (.cells #[.bool av,.b 0,.i 0,.u 0,S [],bY,bY,.bool av,bY,.i 1,bY,bY] 46)) (aH:own b=J (0,0)) (aG:∀b x,own b=J x->b<ag g):fa g [.bX []] [1] [b] own:=by
 have aW:∀(id:Nat) (bB:bW bL),[bW.bX []][id]?=J bB->id=0/\bB=.bX []:=λid bB aI=>by
  grind
 refine⟨rfl,rfl,aG,λid bB aI=>?_,λid kv x aI ae=>?_,λid l x aI ae=>?_,λid bB aI=>?_⟩
 .obtain⟨rfl,rfl⟩:=aW _ _ aI;exact⟨aH,.b 0,.i 0,.u 0,S [],bY,bY,bY,bY,ab,ab,af,⟨rfl,rfl⟩,a1,⟨rfl,rfl⟩,a1⟩
 .grind
 .grind
 .obtain⟨rfl,rfl⟩:=aW _ _ aI;simp[m5]
def avD{X Y:H->Prop}(aJ:p<ag g)(aM:U D<=400)(az:i<=U D)(aa:∀j,j<U D->ax j D=blanks (ax i D)->¬qt (ax j D)->top (ax j D)=125->X (a3 g p D t j 0))
  (ar5:∀ae,((qt (blanks (ax i D))/\ae=a3 g p D t (U D) 2)\/(∃j,i<=j/\j<=U D/\ax j D=blanks (ax i D)/\¬qt (ax j D)/\top (ax j D)≠125/\ae=a3 g p D t j 0))->Y ae):
  bD 13 [aN p] (a3 g p D t i 0) λ_ h=>bD 63 [aN p] h λ_ h=>bD 12 [aN p] h λhv h=>a0 hv ai (λh k=>k (aN p) h) h λjG h=>a0 hv ai (bD 14 [jG,ah 0]) h λlG h=>a0 hv ai (Pu (bn cQ lG (bu 125))) h λjh h=>Pu (pk hv jh (aQ av)) h λiq h=>b1 iq (X h) (Y h):=by
 refine sa aJ aM az λbS n3 vm fg=>?_;refine KQ aJ aM vm (λau=>?_) λau=>?_
 .rw[aA rfl];refine j8 aJ (λe=>by cases e) λ_=>?_;refine aR ?_;grind
 .refine j8 aJ (λ_=>?_) (λe=>absurd rfl e);refine aR ?_;refine hn aJ aM I ?_;refine aR ?_;rw[<-eF (D:=D) (i:=bS)];exact⟨λe=>aa bS (by rw[eF] at e;exact cu I) fg au I,λe=>ar5 _ (bt ⟨bS,n3,vm,fg,au,I,rfl⟩)⟩
def ajq(eu:Lf F n)(dn:jM h)(dV:2<=p)(aJ:p<ag h)(aM:U D<=400)(iR:U D<F)(az:i<U D)(aI:U D-i<=n)(q:Ak (tr (valueF F n) F (ax (i+1) D)) D h p t R):bo 45 [aN p] (a3 h p D t i 0) R:=by
 apply ami;rw[gE,uk aJ,dm];have hM:p<ag (a6 h (.cells (aZ (Z 28)) 28)):=by simp;omega
 have xy:∀(h:H) (K:ao->H->Prop),Bd (Z 46) [(9,1,.i 1)] h K=K (.agg #[.bool av,.b 0,.i 0,.u 0,S [],bY,bY,.bool av,bY,.i 1,bY,bY]) h:=λh K=>KL 1;refine bG xy ?_;unfold lh;rw[uk hM,dm];have gJ:ag (aZ (Z 28))=6:=by rw[j9];rfl
 have wF:ag (a6 h (.cells (aZ (Z 28)) 28))=ag h+1:=a1
 let B4:Array ao:=#[.bool av,.b 0,.i 0,.u 0,S [],bY,bY,.bool av,bY,.i 1,bY,bY]
 have ar:aB h (a6 (a6 h (.cells (aZ (Z 28)) 28)) (.cells B4 46)):=(aB.push _ _).trans (aB.push _ _);have dz:(a6 (a6 h (.cells (aZ (Z 28)) 28)) (.cells B4 46))[ag h]?=J (.cells (aZ (Z 28)) 28):=rU;have za:(a6 (a6 h (.cells (aZ (Z 28)) 28)) (.cells B4 46))[ag h+1]?=J (.cells B4 46):=al
 have vk:ag (a6 (a6 h (.cells (aZ (Z 28)) 28)) (.cells B4 46))=ag h+2:=a1
 rw[wF];change bD 13 [aN p] (a3 (a6 (a6 h (.cells (aZ (Z 28)) 28)) (.cells B4 46)) p D t (i+1) 0) _;generalize a6 (a6 h (.cells (aZ (Z 28)) 28)) (.cells B4 46)=ad at*;let c5:cH:=λb=>if b=p then J pH else if b=ag h+1 then J (0,0) else if b<=ag h then J (1000001,0) else ab
 have Bs:c5 p=J pH:=aA rfl;have UF:c5 (ag h+1)=J (0,0):=al
 have UE:∀b,b≠p->b<=ag h->c5 b=J (1000001,0):=λb aa an=>al
 have axt:∀b,c5 b=ab->ag h<=b:=λb aH=>by
  grind
 have axs:∀b x,c5 b=J x->b<ag ad:=λb x aH=>by
  grind
 have MB:fa (a3 ad p D t (i+1) 0) [.bX []] [1] [ag h+1] c5:=fa.root (by rw[g1 I];exact za) UF λb x aH=>by rw[dm];grind
 have uz:∀g,fr c5 (a3 ad p D t 0 0) (a3 g p D t 0 0)->ag ad<=ag g/\∀b,b≠p->b<=ag h->g[b]?=ad[b]?:=λg cE=>by
  refine⟨by have:=cE.1;rw[dm,dm] at this;exact this,λb ja dR=>?_⟩;have:=cE.2 b (by rw[dm];omega) (λx ae=>al);rw[g1 ja,g1 ja] at this;exact this
 have dead:∀g c,c≠0->fr c5 (a3 ad p D t 0 0) (a3 g p D t 0 0)->tr (valueF F n) F (ax (i+1) D)=.no c->Bd (Z 28) [] (a3 g p D t (U D) c) λv20 y_=>bZ 6 (aN (ag h)) v20 y_ λ_ wg=>cO 6 (aN (ag h)) wg λgC _=>R gC wg:=by
  intro g c ay cE au;obtain⟨ka,wq⟩:=uz g cE;rw[yD];refine u2 (b:=ag h) ((wq _ I (bQ _)).trans dz) I gJ ⟨_,rfl,rfl,rfl⟩ λbd cs eC mz mb aS eH=>?_;rw[uW eH I mz];rw[au] at q;have q1:=aS.1;obtain⟨aa,dd,dr,_,_⟩:=Z8 (h:=h) (g:=bd) (t:=t) (D:=D) aJ I λb af ja=>by rw[aS.2 b I (λe=>al),wq b ja I,ar.2 b af]
  rw[dr];exact q ay aa _ dd ⟨_,rfl,mz,mb⟩
 have aal:∀(g:H) (j:Nat) (aj:List (bW bL)) (M bJ:List Nat) (a_:cH),fr c5 (a3 ad p D t 0 0) (a3 g p D t 0 0)->fa (a3 g p D t j 0) aj M bJ a_->dL c5 a_ (ag ad)->0<U aj->U aj<=5000->bJ.getD 0 0=ag h+1->j<=U D->tr (valueF F n) F (ax (i+1) D)=.ok (tomlS aj (U aj) 0) (ax j D)->
   bD 19 [aN (ag h+1)] (a3 g p D t j 0) λg2 CW=>bZ 6 (aN (ag h)) g2 CW λx AN=>cO 6 (aN (ag h)) AN λji _=>R ji AN:=by
  intro g j aj M bJ a_ cE aY iS dw avt af aC au;obtain⟨ka,wq⟩:=uz g cE;have m1:p<ag g:=I
  rw[<-af];refine W' (U aj) aY dw avt I λg' v sj gR=>?_;have wE:=sj.1;rw[dm] at wE;obtain⟨bd,rfl,iD,gQ,ik,_⟩:=abA (t:=t) (D:=D) (i:=j) (sd:=0) m1 wE (sj.2 p (by rw[dm];exact m1));have acd:∀b,b≠p->b<ag g->bd[b]?=g[b]?:=λb ja af=>by
   have:=sj.2 b (by rw[dm];exact af);rw[g1 ja,g1 ja] at this;exact this
  refine u2 (b:=ag h) ((acd _ I I).trans ((wq _ I (bQ _)).trans dz)) I gJ gR.oi λcb cs eC mz mb aS eH=>?_;subst eC;rw[uW (n:=5) eH I mz];rw[au] at q;have q1:=aS.1;obtain⟨aa,dd,dr,fq,pd⟩:=Z8 (h:=h) (g:=cb) (t:=t) (D:=D) aJ I λb af ja=>by rw[aS.2 b I (λe=>al),acd b ja I,wq b ja I,ar.2 b af]
  have ac0:gd (old (ag h)) (a3 cb p D t j 0) (.agg cs) (tomlS aj (U aj) 0):=by
   refine gR.kF (λb af aH=>?_) λb af aH=>?_
   .rw[dm] at af;have ja:b≠p:=λe=>by rw[e,iS p I,Bs] at aH;cases aH
    have MH:b≠ag h:=λe=>by rw[e,iS _ I,UE _ I (bQ _)] at aH;cases aH
    rw[g1 ja,g1 ja,aS.2 b af (λe=>al)]
   .unfold old;rw[ak];intro a';rw[iS b I] at aH;grind
  rw[dr] at ac0⊢;exact q aa j _ dd aC rfl ac0
 refine avD I aM az (λj aC fg au ug=>?_) λae as6=>?_
 .have hm:tr (valueF F n) F (ax (i+1) D)=.ok (tomlS [.bX []] 1 0) (ax (j+1) D):=by
   unfold tr;rw[<-fg,ak au,aA ug,tail_drop]
  refine aR ?_;exact aal ad (j+1) [.bX []] [1] [ag h+1] c5 (fr.refl _ _) (MB.rd Bs a1) (dL.refl _ _) a1 a1 rfl aC hm
 .let b7:Nat->H->Prop:=λm ae=>(∃(g:H) (j di:Nat) (aj:List (bW bL)) (M bJ:List Nat) (a_:cH),ae=a3 g p D t j 0/\i<j/\j<=U D/\fa (a3 g p D t j 0) aj M bJ a_/\dL c5 a_ (ag ad)/\fr c5 (a3 ad p D t 0 0) (a3 g p D t 0 0)/\cz aj 0/\bJ.getD 0 0=ag h+1/\U aj<=j+1/\U D-j<di/\inLoop (valueF F n) F di aj M (ax j D)=tr (valueF F n) F (ax (i+1) D)/\m=U D-j+1)\/
   (∃(g:H) (c:Nat),ae=a3 g p D t (U D) c/\fr c5 (a3 ad p D t 0 0) (a3 g p D t 0 0)/\c≠0/\tr (valueF F n) F (ax (i+1) D)=.no c/\m=0)
  have R4:∃m,b7 m ae:=by
   rcases as6 with ⟨au,rfl⟩|⟨j,aC,g8,fg,au,ug,rfl⟩
   .exact⟨0,.inr ⟨ad,2,rfl,fr.refl _ _,aE,by unfold tr;grind,rfl⟩⟩
   .exact⟨_,.inl ⟨ad,j,F,_,_,_,c5,rfl,I,g8,MB.rd Bs a1,dL.refl _ _,fr.refl _ _,⟨[],rfl⟩,rfl,a1,I,by unfold tr;rw[<-fg,ak au,ak ug],rfl⟩⟩
  obtain⟨uA,R4⟩:=R4;refine sX b7 uA R4 ?_;rintro m _ ae N cr a7;rcases cr with ⟨g,j,di,aj,M,bJ,a_,rfl,eK,aC,aY,iS,cE,qq,jT,k1,ma,fR,rfl⟩|⟨g,c,rfl,cE,ay,fR,rfl⟩
  .obtain⟨ka,wq⟩:=uz g cE;have m1:p<ag g:=I
   have kC:a_ p=J pH:=by rw[iS p I];exact Bs
   obtain⟨di,rfl⟩:=tL (I:di≠0);rw[inLoop] at fR;refine j8 m1 (λ_=>?_) (λe=>absurd rfl e);refine aR ?_;refine sa m1 aM aC λbS n3 vm fg=>?_;rw[<-fg] at fR;have abP:∀bd c,c≠0->fr c5 (a3 ad p D t 0 0) (a3 bd p D t 0 0)->tr (valueF F n) F (ax (i+1) D)=.no c->N (a3 bd p D t (U D) c):=λbd c ay g0 au=>a7 0 _ I (.inr ⟨bd,c,rfl,g0,ay,au,rfl⟩);rw[<-jT];have MC:jM g:=dn.two λb af=>by rw[wq b I I,ar.2 b I]
   refine W7 (own:=a_) eu MC dV m1 kC (aY.rd kC I) qq aM iR vm I I ?_;have off:∀bd c (X Y:H->Prop),c≠0->p<ag bd->N (a3 bd p D t (U D) c)->bD 14 [aN p,Value.int IntKind.i64 0] (a3 bd p D t (U D) c) λv30 AN=>Pu (bn BinOp.eql v30 (Value.int IntKind.u8 125)) AN λj2 AO=>b1 j2 (X AO) (Pu (bn BinOp.eql v30 (Value.int IntKind.u8 44)) AO λnO h=>b1 nO (Y h) (bD 21 [aN p,Value.int IntKind.i64 1] h λmf h=>N h)):=by
    intro bd c X Y ay pD rD;refine hn pD aM I ?_;have eg:=g6 (D:=D) (bQ (U D));rw[eg];refine aR ?_;refine iK (n:=1) pD ?_;grind
   cases x0:pairP (valueF F n) F (ax bS D) aj M 0 with
   |no c=>
    rw[x0] at fR;intro ay bd g0;have wc:=cE.trans g0 (by rw[dm];exact iS);obtain⟨as4,as3⟩:=uz bd wc;refine sa I aM (bQ _) λbc ij aca _=>?_;have wx:bc=U D:=I
    subst wx;refine KQ I aM (bQ _) (λau=>absurd au (awe (bQ _))) λ_=>?_;exact off bd c _ _ ay I (abP bd c ay wc fR.symm)
   |ok hy M2 dA=>
    rw[x0] at fR;simp only at fR;intro bd nX f_ bc ij fF iB xL g0 lx;subst fF;have zc:=N4 (Kk n) x0;simp only[ix] at zc;have acX:=(N5 (j:=0) x0).1 qq;have wc:=cE.trans g0 (by rw[dm];exact iS);obtain⟨as4,as3⟩:=uz bd wc;have pD:p<ag bd:=I
    have H5:dL c5 f_ (ag ad):=iS.trans xL ka;have H':nX.getD 0 0=ag h+1:=by
     rw[lx 0 al];exact jT
    have Iz:f_ p=J pH:=by rw[H5 p I];exact Bs
    have Tz:0<U hy:=by obtain⟨kv,aq⟩:=acX;grind
    refine sa pD aM ij λeL wv xU mB=>?_;rw[<-mB] at fR;refine KQ pD aM xU (λau=>?_) λau=>?_
    .rw[aA au] at fR;rw[aA rfl];exact off bd 2 _ _ aE pD (abP bd 2 aE wc fR.symm)
    .rw[ak au,eF,tail_drop] at fR;refine hn pD aM I ?_;refine aR ?_;refine⟨λug=>?_,λug=>⟨λmw=>?_,λmw=>?_⟩⟩
     .rw[aA ug] at fR;have SK:=cu (D:=D) (i:=eL) I;refine j8 pD (λ_=>?_) (λe=>absurd rfl e);refine aR ?_;rw[jT];exact aal bd (eL+1) hy M2 nX f_ wc (iB.rd Iz I) H5 Tz I H' SK fR.symm
     .rw[ak ug,aA mw] at fR;have SK:=cu (D:=D) (i:=eL) I;refine sa pD aM SK λvy Fq acb A5=>?_;rw[<-A5] at fR;refine KQ pD aM acb (λau=>?_) λau=>?_
      .rw[aA au] at fR;rw[aA rfl];refine hn pD aM I ?_;have eg:=g6 (D:=D) (bQ (U D));rw[eg];refine aR ?_;grind
      .rw[ak au,eF] at fR;refine hn pD aM I ?_;refine aR ?_;refine⟨λRW=>?_,λRW=>?_⟩
       .rw[aA RW] at fR;refine iK (n:=2) pD ?_;grind
       .rw[ak RW] at fR;exact a7 (U D-vy+1) _ I (.inl ⟨bd,vy,di,hy,M2,nX,f_,rfl,I,acb,iB.rd Iz I,H5,wc,acX,H',I,I,fR,rfl⟩)
     .rw[ak ug,ak mw] at fR;refine iK (n:=1) pD ?_;grind
  .obtain⟨ka,wq⟩:=uz g cE;refine j8 I (λe=>absurd e ay) λ_=>?_;rw[ga];grind
end
def azh:scN (ax j D)=if fH (g D j) then scN (ax (j+1) D)+1 else 0:=by
 rcases jw j (U D) with au|au
 .rw[nt au,scN,fu au]
 .rw[iu au,scN,ak];have:=g6 (D:=D) au;rw[this];decide
def Vp:∀l:B,scN l<=U l
 |[]=>bQ _
 |c::l=>by
  rw[scN];split
  .have:=Vp l;simp;omega
  omega
section
variable{h:H}{p t i j n sd:Nat}{D:B}{R K:K}
def scan{X:H->Prop}(aJ:p<ag h)(aM:U D<=400)(az:i<=U D)(q:X (a3 h p D t (i+scN (ax i D)) sd)):iL 0 [] (a3 h p D t i sd) λnV _ h=>bD 15 [aN p] h λjj h=>Pu (un .not jj) h λgT h=>a0 gT ai (λh k=>k (aN p) h) h λjH h=>a0 gT ai (bD 14 [jH,ah 0]) h λmL h=>a0 gT ai (bD 46 [mL]) h λv30 h=>a0 gT ai (λh k=>k v30 h) h λj2 h=>
  a0 j2 av (λh k=>k (aN p) h) h λmM h=>a0 j2 av (bD 14 [mM,ah 0]) h λlb h=>a0 j2 av (Pu (bn cQ lb (bu 43))) h λkM h=>a0 gT ai (Pu (pk j2 (aQ ai) kM)) h λpR h=>a0 gT ai (λh k=>k pR h) h λlH h=>a0 lH av (λh k=>k (aN p) h) h λkN h=>a0 lH av (bD 14 [kN,ah 0]) h λkj h=>a0 lH av (Pu (bn cQ kj (bu 46))) h λme h=>a0 gT ai (Pu (pk lH (aQ ai) me)) h λjI h=>
  a0 gT ai (λh k=>k jI h) h λnO h=>a0 nO av (λh k=>k (aN p) h) h λnP h=>a0 nO av (bD 14 [nP,ah 0]) h λl1 h=>a0 nO av (Pu (bn cQ l1 (bu 58))) h λo_ h=>a0 gT ai (Pu (pk nO (aQ ai) o_)) h λiH h=>Pu (pk gT iH (aQ av)) h λkO h=>b1 kO (Pu (fd 1 (aN p)) h λn' h=>cd n' h λnd h=>Pu (bn .add nd (ah 1)) h λkk h=>Pu (fd 1 (aN p)) h λmf h=>bZ 1 mf kk h λ_ h=>nV h) (X h):=by
 refine sX (λm ae=>∃j,i<=j/\j<=U D/\j+scN (ax j D)=i+scN (ax i D)/\ae=a3 h p D t j sd/\m=U D-j) (U D-i) ⟨i,bQ _,az,rfl,rfl,rfl⟩ ?_;rintro m _ ae N ⟨j,eK,aC,tl,rfl,rfl⟩ a7;have Da:=azh (D:=D) (j:=j);have go:j<U D->fH (F.g D j)->N (a3 h p D t (j+1) sd):=λau ay=>by
  rw[aA ay] at Da;exact a7 _ _ I ⟨j+1,I,au,I,rfl,rfl⟩
 have stop:¬fH (F.g D j)->X (a3 h p D t j sd):=λay=>by
  grind
 refine B6 aJ (λau=>?_) λau=>?_
 .refine aR ?_;refine stop ?_;rw[g6 au];decide
 .have go:=go au;unfold fH at go stop;refine aR ?_;refine hn aJ aM I ?_;refine aR ?_;refine Xi (λaf=>?_) λaf=>?_
  .refine aR ?_;grind
  .refine aR ?_;refine hn aJ aM I ?_;refine aR ?_;refine⟨λuh=>go (bt (bF uh)),λuh=>?_⟩;refine hn aJ aM I ?_;refine aR ?_;refine⟨λmV=>go (bt (bt (bF mV))),λmV=>?_⟩;refine hn aJ aM I ?_;refine aR ?_;grind
def v_:F.g (ax j D) k=F.g D (j+k):=by simp[F.g,iw,KA]
def ahU:Bd (Z 28) [(0,1,bu 3),(1,1,ah 1)] h K=K (g5 3 1 0 []) h:=by rw[j9];rfl
def ahT:Bd (Z 28) [(0,1,bu 3)] h K=K (g5 3 0 0 []) h:=by rw[j9];rfl
def WQ(l:B)(h:H)(D:B)(p t sd:Nat)(R:ao->H->Prop):Prop:=match word l with
 | .ok tt r=>∀aa j k m b s,tt=.mk k m b s [] []->j<=U D->ax j D=r->aB h aa->R (g5 k m b s) (a3 aa p D t j sd)
 | .no c=>∀aa v,aB h aa->kr 6 v->R v (a3 aa p D t (U D) (if sd=0 then c else sd))
def Xe(aJ:p<ag h)(aM:U D<=400)(az:i<=U D)(fj:¬[34,34,34]<+:ax i D)(h2:¬[39,39,39]<+:ax i D)(gP:¬F.g D i=34)(iA:¬F.g D i=39)(hK:¬F.g D i=91)(uf:¬F.g D i=123)(q:WQ (ax i D) h D p t sd R):bo 29 [aN p] (a3 h p D t i sd) R:=by
 apply PB;rw[gE,uk aJ,dm];have bP:aB h (a6 h (aO (aZ (Z 28)) 28)):=aB.push _ _;have dz:(a6 h (aO (aZ (Z 28)) 28))[ag h]?=J (aO (aZ (Z 28)) 28):=mK;have hM:p<ag (a6 h (aO (aZ (Z 28)) 28)):=bP.lt aJ;have gJ:ag (aZ (Z 28))=6:=by rw[j9];rfl
 generalize a6 h (aO (aZ (Z 28)) 28)=cn at*;refine hn hM aM I ?_;refine lO ?_;refine sU hM aM az a1 (λaL=>absurd aL fj) (λaL=>?_);rw[ga];refine sU hM aM az a1 (λgQ=>absurd gQ h2) (λgQ=>?_);have fin:∀g (j:Nat) v (m9:Nat),aB cn g->kr 6 v->(∀aa,aB h aa->R v (a3 aa p D t j m9))->bZ 6 (aN (ag h)) v (a3 g p D t j m9) λ_ kV=>cO 6 (aN (ag h)) kV λhv _=>R hv kV:=by
  intro g j v m9 e aD CU;have c0:=bP.1;have au:ag h<ag cn:=(cm.1 dz).1;refine u2 (b:=ag h) ((e.2 _ au).trans dz) I gJ aD λbd cs eC mz mb aS eH=>?_;rw[uW (n:=5) eH I mz,<-eC];exact CU bd (bV.fe (bP.trans e) aS λr aF=>al)
 have k1:=Vp (ax i D);rw[ix] at k1;have sN:∀m,i+m<=U D->ax i (bf (i+m) D)=bf m (ax i D):=λm _=>al
 refine i_ gP iA hK uf ?_;refine scan hM aM az ?_;unfold WQ word at q;refine hk sN @ahU @ahT ?_;refine⟨λuy=>?_,λuy=>⟨λMS=>?_,λMS=>?_⟩⟩
 .rw[aA uy] at q;exact fin cn _ _ sd (aB.refl _) ⟨_,rfl,rfl,rfl⟩ λaa aw=>q aa (i+scN (ax i D)) 3 1 0 [] rfl I m8 aw
 .rw[ak uy,aA MS] at q;exact fin cn _ _ sd (aB.refl _) ⟨_,rfl,rfl,rfl⟩ λaa aw=>q aa (i+scN (ax i D)) 3 0 0 [] rfl I m8 aw
 .rw[ak uy,ak MS] at q;have tn:∀m,i+m<=U D->U (bf m (ax i D))=m:=λm hm=>al
  have tail:∀g,aB cn g->i+iW (ax i D)<=U D->bD 48 [S (bf (iW (ax i D)) (ax i D))] (a3 g p D t (i+iW (ax i D)) sd) λre kV=>Pu (exv 0 re) kV λsP kW=>Pu (exv 1 re) kW λpO y_=>oG 28 (Z 28) y_ λpP wg=>bZ 6 pP sP wg λx H7=>Pu (bn hF pO (ah 0)) H7 λpQ H8=>
    b1 pQ (bD 21 [aN p,pO] H8 λDU CX=>cO 6 pP CX λjk s_=>bZ 6 (aN (ag h)) jk s_ λx we=>cO 6 (aN (ag h)) we λkm x=>R km we) (cO 6 pP H8 λjk CX=>bZ 6 (aN (ag h)) jk CX λx s_=>cO 6 (aN (ag h)) s_ λkm x=>R km s_):=by
   intro g eQ hle;refine ajr al λh' e=>?_;obtain⟨bd,ua,rfl⟩:=MA (eQ.lt hM) e;have dV:p<ag bd:=ua.lt (eQ.lt hM);unfold afW;generalize scalar (bf (iW (ax i D)) (ax i D))=x at*;obtain⟨⟨k,m,b,s⟩,c⟩:=x;simp only at q;refine aR ?_;rw[uk dV,dm];refine u2 (b:=ag bd) mK I gJ ⟨_,rfl,rfl,rfl⟩ λcb cs eC mz mb aS eH=>?_;have yZ:aB cn cb:=bV.fe ((eQ.trans ua).trans (aB.push _ _)) aS λr aF=>by cases aF;exact(eQ.trans ua).1
   have mD:=yZ.lt hM;have bk:ag bd≠p:=I
   refine aR ?_;refine⟨λay=>?_,λay=>?_⟩
   .rw[ak I] at q;refine iK (n:=c) mD ?_;rw[uW (n:=5) eH bk mz];exact fin cb (U D) _ _ yZ ⟨_,rfl,mz,mb⟩ λaa aw=>q aa _ aw ⟨_,rfl,mz,mb⟩
   .rw[aA I] at q;rw[uW (n:=5) eH bk mz,<-eC];exact fin cb (i+iW (ax i D)) _ sd yZ ⟨_,rfl,rfl,rfl⟩ λaa aw=>q aa (i+iW (ax i D)) k m b s rfl hle m8 aw
  refine lO ?_;have a':=tn (scN (ax i D)) I;have Jp:∀g,aB cn g->iW (ax i D)=scN (ax i D)->bD 48 [S (bf (scN (ax i D)) (ax i D))] (a3 g p D t (i+scN (ax i D)) sd) λre kV=>Pu (exv 0 re) kV λsP kW=>Pu (exv 1 re) kW λpO y_=>oG 28 (Z 28) y_ λpP wg=>bZ 6 pP sP wg λx H7=>Pu (bn hF pO (ah 0)) H7 λpQ H8=>
    b1 pQ (bD 21 [aN p,pO] H8 λDU CX=>cO 6 pP CX λjk s_=>bZ 6 (aN (ag h)) jk s_ λx we=>cO 6 (aN (ag h)) we λkm x=>R km we) (cO 6 pP H8 λjk CX=>bZ 6 (aN (ag h)) jk CX λx s_=>cO 6 (aN (ag h)) s_ λkm x=>R km s_):=λg eQ he=>by
   have:=tail g eQ I;rw[he] at this;exact this
  have fy:¬(nY (bf (scN (ax i D)) (ax i D))/\F.g (ax i D) (scN (ax i D))=32/\48<=F.g (ax i D) (scN (ax i D)+1)/\F.g (ax i D) (scN (ax i D)+1)<=57)->iW (ax i D)=scN (ax i D):=λaI=>by unfold iW;rw[ak aI]
  rw[v_,v_] at fy;by_cases dh:U (bf (scN (ax i D)) (ax i D))=10
  .refine bG dh ?_;refine Xj I (λze g' sj=>?_) λze g' sj=>?_
   .obtain⟨bd,ua,rfl⟩:=MA hM sj;have dV:p<ag bd:=ua.lt hM;refine aR ?_;refine hn dV aM I ?_;refine aR ?_;refine⟨λnx=>?_,λnx=>Jp bd ua (fy λe=>nx e.2.1)⟩;have aEE:=cu (D:=D) (i:=i+scN (ax i D)) I;refine KM (n:=1) dV aM I I ?_;refine aR ?_;refine⟨λAL=>?_,λAL=>Jp bd ua (fy λe=>AL e.2.2.1)⟩;refine KM (n:=1) dV aM I I ?_;refine aR ?_;refine⟨λMr=>?_,λMr=>Jp bd ua (fy λe=>Mr e.2.2.2)⟩;have hle:iW (ax i D)=scN (ax i D)+1+scN (ax (i+scN (ax i D)+1) D):=by
     unfold iW;rw[aA ⟨ze,by rw[v_];exact nx,by rw[v_];exact AL,by rw[v_];exact Mr⟩,tI];rfl
    have auT:=Vp (ax (i+scN (ax i D)+1) D);rw[ix] at auT;refine scan dV aM I ?_;have Sy:i+scN (ax i D)+1+scN (ax (i+scN (ax i D)+1) D)=i+iW (ax i D):=I
    rw[Sy];refine bG sN ?_;exact tail bd ua I
   .obtain⟨bd,ua,rfl⟩:=MA hM sj;refine aR ?_;exact Jp bd ua (fy λe=>ze e.1)
  .refine bG dh ?_;exact Jp cn (aB.refl _) (fy λe=>dh e.1.1)
def aBh:∃c,c≠0/\word []=.no c:=by
 cases hw:word [] with
 |ok tt r=>have:=ahb _ _ _ hw;simp at this
 |no c=>
  refine⟨c,?_,rfl⟩;unfold word at hw;grind
def anY:Yu:=by
 intro h p t sd D R dn dV aJ aM Ti q;have aX:=g6 (D:=D) (bQ (U D));have aG:D.drop (U D)=[]:=iu (bQ _);refine Xe aJ aM (bQ _) al al I I I I ?_;obtain⟨c,ay,hw⟩:=aBh;unfold WQ;grind
def KK:Bd (Z 28) [(0,1,bu 0),(3,1,S s)] h K=K (g5 0 0 0 s) h:=by rw[j9];rfl
theorem ajb(F:Nat):∀n,Lf F n:=by
 intro n;induction n with
 |zero=>intro h p t i D R _ _ _ _ _ _ aI _;omega
 |succ n bR=>
  intro h p t i D R dn dV aJ aM iR az aI q;rw[valueF] at q;have aDD:∀x,g D i=x->x≠0->i<U D:=λx e ae=>cu I;by_cases fj:[34,34,34]<+:ax i D\/[39,39,39]<+:ax i D
  .rw[aA fj,eF,tI] at q;have mB:i+3<=U D:=by rcases fj with e|e<;>(have:=e.length_le;grind)
   have hm:g D i=34\/g D i=39:=by
    rw[<-eF];rcases fj with ⟨x,e⟩|⟨x,e⟩<;>rw[<-e]
    .exact bF rfl
    .exact bt rfl
   apply PB;rw[gE,uk aJ,dm];have bP:aB h (a6 h (aO (aZ (Z 28)) 28)):=aB.push _ _;have dz:(a6 h (aO (aZ (Z 28)) 28))[ag h]?=J (aO (aZ (Z 28)) 28):=mK;have hM:p<ag (a6 h (aO (aZ (Z 28)) 28)):=bP.lt aJ;have gJ:ag (aZ (Z 28))=6:=by rw[j9];rfl
   generalize a6 h (aO (aZ (Z 28)) 28)=cn at*;have fin:∀g (j:Nat) v (m9:Nat),aB cn g->kr 6 v->(∀aa,aB h aa->bV (J (ag h)) g aa->R v (a3 aa p D t j m9))->bZ 6 (aN (ag h)) v (a3 g p D t j m9) λ_ kV=>cO 6 (aN (ag h)) kV λhv _=>R hv kV:=by
    intro g j v m9 e aD CU;have c0:=bP.1;have au:ag h<ag cn:=(cm.1 dz).1;refine u2 (b:=ag h) ((e.2 _ au).trans dz) I gJ aD λbd cs eC mz mb aS eH=>?_;rw[uW (n:=5) eH I mz,<-eC];exact CU bd (bV.fe (bP.trans e) aS λr aF=>al) aS
   have str:∀x,Ak (strR x) D h p t R->sg x S wM D cn p t λv10 l_=>Bd (Z 28) [(0,1,bu 0),(3,1,v10)] l_ λv11 kV=>bZ 6 (aN (ag h)) v11 kV λ_ kW=>cO 6 (aN (ag h)) kW λhv _=>R hv kW:=by
    intro x q;cases x with
    |no c=>
     rintro ay aa v aw ⟨s,rfl,_⟩;rw[KK];exact fin aa _ _ c aw ⟨_,rfl,rfl,rfl⟩ λad ar _=>q ay ad _ ar ⟨_,rfl,rfl,rfl⟩
    |ok s l=>
     intro aa j aw aC au;rw[KK];exact fin aa _ _ 0 aw ⟨_,rfl,rfl,rfl⟩ λad ar _=>q ad j _ ar aC au u3
   refine hn hM aM I ?_;refine lO ?_;have go:∀Ew,(∀v h',Ew v h'=Bd (Z 28) [(0,1,bu 0),(3,1,v)] h' λv11 kV=>bZ 6 (aN (ag h)) v11 kV λ_ kW=>cO 6 (aN (ag h)) kW λhv _=>R hv kW)->bo 41 [aN p,bu (g D i:Int)] (a3 cn p D t i 0) Ew:=λEw CU=>by
    refine ajo (n:=F) (dn.ext bP) dV hM aM mB hm I ?_;have:=str _ q;have he:Ew=λv10 l_=>Bd (Z 28) [(0,1,bu 0),(3,1,v10)] l_ λv11 kV=>bZ 6 (aN (ag h)) v11 kV λ_ kW=>cO 6 (aN (ag h)) kW λhv _=>R hv kW:=funext λv=>funext λh'=>CU v h';grind
   refine sU hM aM az a1 (λaL=>?_) (λaL=>?_)
   .rw[gl];dsimp only;rw[gl];exact go _ λv h'=>rfl
   .rw[ga];refine sU hM aM az a1 (λgQ=>?_) (λgQ=>?_)
    .dsimp only;rw[gl];exact go _ λv h'=>rfl
    .rcases fj with e|e
     .exact absurd e aL
     .exact absurd e gQ
  .have aet:¬[34,34,34]<+:ax i D:=λe=>fj (bF e);have aeu:¬[39,39,39]<+:ax i D:=λe=>fj (bt e);rw[ak fj,eF,tail_drop] at q;by_cases hw:g D i=34\/g D i=39\/g D i=91\/g D i=123
   .have nD:i<U D:=al
    apply PB;rw[gE,uk aJ,dm];have bP:aB h (a6 h (aO (aZ (Z 28)) 28)):=aB.push _ _;have dz:(a6 h (aO (aZ (Z 28)) 28))[ag h]?=J (aO (aZ (Z 28)) 28):=mK;have hM:p<ag (a6 h (aO (aZ (Z 28)) 28)):=bP.lt aJ;have gJ:ag (aZ (Z 28))=6:=by rw[j9];rfl
    generalize a6 h (aO (aZ (Z 28)) 28)=cn at*;have fin:∀g (j:Nat) v (m9:Nat),aB cn g->kr 6 v->(∀aa,aB h aa->bV (J (ag h)) g aa->R v (a3 aa p D t j m9))->bZ 6 (aN (ag h)) v (a3 g p D t j m9) λ_ kV=>cO 6 (aN (ag h)) kV λhv _=>R hv kV:=by
     intro g j v m9 e aD CU;have c0:=bP.1;have au:ag h<ag cn:=(cm.1 dz).1;refine u2 (b:=ag h) ((e.2 _ au).trans dz) I gJ aD λbd cs eC mz mb aS eH=>?_;rw[uW (n:=5) eH I mz,<-eC];exact CU bd (bV.fe (bP.trans e) aS λr aF=>al) aS
    have str:∀x,Ak (strR x) D h p t R->sg x S wM D cn p t λv10 l_=>Bd (Z 28) [(0,1,bu 0),(3,1,v10)] l_ λv11 kV=>bZ 6 (aN (ag h)) v11 kV λ_ kW=>cO 6 (aN (ag h)) kW λhv _=>R hv kW:=by
     intro x q;cases x with
     |no c=>
      rintro ay aa v aw ⟨s,rfl,_⟩;rw[KK];exact fin aa _ _ c aw ⟨_,rfl,rfl,rfl⟩ λad ar _=>q ay ad _ ar ⟨_,rfl,rfl,rfl⟩
     |ok s l=>
      intro aa j aw aC au;rw[KK];exact fin aa _ _ 0 aw ⟨_,rfl,rfl,rfl⟩ λad ar _=>q ad j _ ar aC au u3
    have comp:∀(x:eW bL),Ak x D h p t R->Ak x D cn p t λv11 l_=>bZ 6 (aN (ag h)) v11 l_ λ_ kV=>cO 6 (aN (ag h)) kV λhv _=>R hv kV:=by
     intro x q;have au:ag h<ag cn:=(cm.1 dz).1;cases x with
     |no c=>exact λay aa v aw aD=>fin aa _ _ c aw aD λad ar _=>q ay ad _ ar aD
     |ok tt l=>
      intro aa j v aw aC hr gR;refine fin aa _ _ 0 aw gR.oi λad ar aS=>q ad j _ ar aC hr ?_;refine gR.kF (λb af aH=>?_) λb af aH=>?_
      .have:=n8 aH;rw[dm] at af;rw[g1 I,g1 I,aS.2 b af (λe=>al)]
      .have:=n8 aH;unfold old;grind
    refine hn hM aM I ?_;refine lO ?_;refine sU hM aM az a1 (λaL=>absurd aL aet) (λaL=>?_);rw[ga];refine sU hM aM az a1 (λgQ=>absurd gQ aeu) (λgQ=>?_);refine aR ?_;refine⟨λgP=>?_,λgP=>⟨λiA=>?_,λiA=>⟨λhK=>?_,λhK=>?_⟩⟩⟩
    .rw[aA gP] at q;exact Xg (n:=F) (dn.ext bP) dV hM aM nD I (str _ q)
    .rw[ak gP,aA iA] at q;exact Xh (n:=F) (dn.ext bP) dV hM aM nD I (str _ q)
    .rw[ak gP,ak iA,aA hK] at q;exact ajp bR anY (dn.ext bP) dV hM aM iR nD I (comp _ q)
    .rw[ak gP,ak iA,ak hK,aA I] at q;exact ajq bR (dn.ext bP) dV hM aM iR nD I (comp _ q)
   .rw[ak I,ak I,ak I,ak I] at q;refine Xe aJ aM az aet aeu I I I I ?_;unfold WQ;have j0:=q;cases Tu:word (ax i D) with
    |no c=>
     rw[Tu] at q;intro aa v e aD;rw[aA rfl];refine q ?_ aa v e aD;unfold word at Tu;grind
    |ok tt r=>
     rw[Tu] at q;intro aa j k m b s gR aC aG e;subst gR;exact q aa j _ e aC aG u3
end
def gf{α:Type}(aj:List (bW α))(i:Nat)(l:List Nat):List (bW α):=(aj++[bW.bX []]).set i (.arr (l++[U aj]))
def nameS{α:Type}(dU:Bool)(ks:List B)(aj:List (bW α))(M:List Nat):G6 α:=match belowS ks.dropLast aj M 0 with
 | .no c=>.no c
 | .ok aj M id=>match kvF (ks.getLast?.getD []) (kvOf aj id) with
  |none=>if dU then .ok (gf (dY aj id (ks.getLast?.getD []) (.arr [])) (U aj) []) (M++[0]++[1]) (U aj+1) else .ok (dY aj id (ks.getLast?.getD []) (.bX [])) (M++[1]) (U aj)
  |some i=>match aj[i]? with
   |J (.arr l)=>if dU then .ok (gf aj i l) (M++[1]) (U aj) else .no 1
   |J (.bX _)=>if dU then .no 1 else if M.getD i 0≠0 then .no 1 else .ok aj (M.set i 1) i
   |_=>.no 1
inductive Cd(α:Type)|ok(aj:List (bW α))(M:List Nat)(id:Nat)(l:B)|no(c:Nat)
def nameT{α:Type}(dU:Bool)(F:Nat)(l:B)(aj:List (bW α))(M:List Nat):Cd α:=match key F (blanks l) with
 | .no c=>.no c
 | .ok ks r=>if(dU=ai/\¬[93,93]<+:r)\/top r≠93 then .no 1 else match nameS dU ks aj M with
  | .no c=>.no c
  | .ok aj M id=>.ok aj M id (if dU then ax 2 r else r.tail)
def zD{α:Type}(F:Nat)(l:B)(aj:List (bW α))(M:List Nat):Cd α:=if top l.tail=91 then nameT ai F l.tail.tail aj M else nameT av F l.tail aj M
section
variable{g g':H}{R K:K}{aj:List (bW bL)}{M bJ:List Nat}{own a_:cH}{id b m nb:Nat}{kv:List (B×Nat)}{key:B}{bB:bW bL}
def fa.push(aY:fa g aj M bJ own)(aI:NodeS g own (bJ++[nb]) (U aj) nb m (.bX [])):fa g (aj++[.bX []]) (M++[m]) (bJ++[nb]) own:=by
 have Ho:∀i,i<U bJ->(bJ++[nb]).getD i 0=bJ.getD i 0:=λi az=>r'.app i az;have new:∀{j:Nat} {bB:bW bL},(aj++[.bX []])[j]?=J bB->(j<U aj/\aj[j]?=J bB)\/(j=U aj/\bB=.bX []):=λ{j bB} aC=>by
  grind
 refine⟨by simp[aY.tv],by simp[aY.jC],aY.dv,λj bB aC=>?_,λj kv x aC ae=>?_,λj l i aC az=>?_,λj bB aC=>?_⟩
 .rcases new aC with ⟨nE,h⟩|⟨rfl,rfl⟩
  .have aw:(M++[m]).getD j 0=M.getD j 0:=by rw[iw,pV (by rw[aY.tv];exact nE),<-iw]
   rw[aw,Ho j (by rw[aY.jC];exact nE)];exact(aY.node j bB h).keep (id:=U aj) I ky.refl (dL.refl _ _) aY.dv (aY.ids h) Ho
  .have t':(bJ++[nb]).getD (U aj) 0=nb:=by rw[iw,pg (by rw[aY.jC];omega),aY.jC,pW];rfl
   have em:(M++[m]).getD (U aj) 0=m:=by rw[iw,pg (by rw[aY.tv];omega),aY.tv,pW];rfl
   grind
 .rcases new aC with ⟨nE,h⟩|⟨rfl,e⟩
  .have:=aY.kids j kv x h ae;simp;omega
  grind
 .rcases new aC with ⟨nE,h⟩|⟨rfl,e⟩
  .obtain⟨aa,kv,ad⟩:=aY.nM j l i h az;grind
  .cases e
 .rcases new aC with ⟨nE,h⟩|⟨rfl,e⟩
  .have:=aY.small j bB h;simp;omega
  .subst e;simp[m5]
def fa.ra{old:bW bL}(aY:fa g aj M bJ own)(da:aj[id]?=J old)(aI:NodeS g' a_ bJ id (bJ.getD id 0) m bB)(kE:ky id own g g')(iS:dL own a_ (ag g))(aG:∀b x,a_ b=J x->b<ag g')
  (aq:∀kv x,bB=.bX kv->x∈kv->id<x.2/\x.2<U aj) (aP:∀l i,bB=.arr l->i∈l->id<i/\∃kv:List (B×Nat),aj[i]?=J (.bX kv)) (ov:m5 bB<=U aj) (aE9:(∃kv,old=.bX kv)->∃cL,bB=.bX cL):fa g' (aj.set id bB) (M.set id m) bJ a_:=by
 have nC:=(fk.1 da).1;have new:∀{j:Nat} {x:bW bL},(aj.set id bB)[j]?=J x->(j≠id/\aj[j]?=J x)\/(j=id/\x=bB):=λ{j x} aC=>by
  grind
 refine⟨by simp[aY.tv],by simp[aY.jC],aG,λj x aC=>?_,λj kv x aC ae=>?_,λj l i aC az=>?_,λj x aC=>?_⟩
 .rcases new aC with ⟨bk,h⟩|⟨rfl,rfl⟩
  .have em:(M.set id m).getD j 0=M.getD j 0:=al
   rw[em];exact(aY.node j x h).keep bk kE iS aY.dv (aY.ids h) (λ_ _=>rfl)
  .have em:(M.set j m).getD j 0=m:=by rw[iw,KB,aA rfl,aA (by rw[aY.tv];exact nC)];rfl
   grind
 .rw[Gz];rcases new aC with ⟨bk,h⟩|⟨rfl,e⟩
  .exact aY.kids j kv x h ae
  grind
 .have rY:∀i:Nat,cz aj i->cz (aj.set id bB) i:=λi ⟨kv,h⟩=>by
   unfold cz;rw[KB];split
   .rename_i e;subst e;simp_all
   grind
  rcases new aC with ⟨bk,h⟩|⟨rfl,e⟩
  .obtain⟨aa,ad⟩:=aY.nM j l i h az;exact⟨aa,rY i ad⟩
  grind
 .rw[Gz];rcases new aC with ⟨bk,h⟩|⟨rfl,rfl⟩
  .exact aY.small j x h
  .exact ov
def ayn(aY:fa g aj M bJ own)(da:aj[id]?=J (.bX kv))(c0:U aj<=5000)(q:∀g' a_,fa g' (dY aj id key (.arr [])) (M++[0]) (bJ++[ag g]) a_->dL own a_ (ag g)->ky id own g g'->R (aN (ag g)) g'):
  Bd (Z 46) [(7,1,aQ ai)] g λv h=>lh 46 v h λv h=>bD 28 [aN (bJ.getD id 0),S key,v] h R:=by
 have ef:∀K,Bd (Z 46) [(7,1,aQ ai)] g K=K (cA #[aQ av,bu 0,ah 0,a4 0,S [],bY,bY,aQ ai,bY,ah 0,bY,bY]) g:=λK=>by rw[P0];rfl
 rw[ef];unfold lh;have hV:=aY.new (aO (aZ (cellsL (cA #[aQ av,bu 0,ah 0,a4 0,S [],bY,bY,aQ ai,bY,ah 0,bY,bY]))) 46);have e:dL own (cS own (ag g) (U aj,0)) (ag g):=λb af=>by unfold cS;grind
 refine Po (m:=0) (bB:=.arr []) hV da c0 ⟨by unfold cS;grind,bu 0,ah 0,a4 0,S [],bY,bY,bY,ab,dS _ _,⟨rfl,rfl⟩,a1⟩ (bt (bF rfl)) λg' a_ dd dr fq _=>?_;refine q g' a_ ?_ (e.trans dr a1) ⟨dH a1 fq.1,λb af aH=>?_⟩
 .unfold dY;rw[o0 da];exact dd
 .rw[fq.2 b (by simp;omega) (λs=>by rw[e b af];exact aH s),(aB.push g _).2 b af]
def YS{l:List Nat}(aY:fa g aj M bJ own)(da:aj[id]?=J (.arr l))(c0:aj.length<=5000)(q:∀g' a_,fa g' (gf aj id l) (M++[1]) (bJ++[g.size]) a_->dL own a_ g.size->ky id own g g'->R (aN g.size) g'):
  Bd (Z 46) [(9,1,.i 1)] g λv h=>lh 46 v h λkn h=>Pu (fd 8 (aN (bJ.getD id 0))) h λjJ h=>cd jJ h λkP h=>ew 43 1 (Z 43) [(0,1,kn)] h λj3 h=>Ap 43 1 8 (Z 43) kP j3 h λld h=>Pu (fd 8 (aN (bJ.getD id 0))) h λr5 h=>bZ 1 r5 ld h λ_ h=>R kn h:=by
 have ef:=KL (h:=g) (K:=λv h=>lh 46 v h λkn h=>Pu (fd 8 (aN (bJ.getD id 0))) h λjJ h=>cd jJ h λkP h=>ew 43 1 (Z 43) [(0,1,kn)] h λj3 h=>Ap 43 1 8 (Z 43) kP j3 h λld h=>Pu (fd 8 (aN (bJ.getD id 0))) h λr5 h=>bZ 1 r5 ld h λ_ h=>R kn h) 1;refine ef.mpr ?_;unfold lh;have nC:=(fk.1 da).1;have ov:=aY.small id _ da;simp only[m5] at ov;obtain⟨sA,c1,c2,cy,dQ,eX,c6,pL,ro,af,e1,dF⟩:=aY.node id _ da;have dR:bJ.getD id 0<g.size:=aY.dv _ _ sA;have e:dL own (cS own g.size (aj.length,0)) g.size:=λb af=>by unfold cS;grind
 have hV:=(aY.new (.cells (cellsL (.agg #[.bool av,.b 0,.i 0,.u 0,S [],bY,bY,.bool av,bY,.i ((1:Nat):Int),bY,bY])).toArray 46)).push (nb:=g.size) (m:=1) ⟨by unfold cS;grind,.b 0,.i 0,.u 0,S [],bY,bY,bY,bY,ab,ab,dS _ _,⟨rfl,rfl⟩,a1,⟨rfl,rfl⟩,a1⟩;have bP:=aB.push g (.cells (cellsL (.agg #[.bool av,.b 0,.i 0,.u 0,S [],bY,bY,.bool av,bY,.i ((1:Nat):Int),bY,bY])).toArray 46);have iD:(g.push (.cells (cellsL (.agg #[.bool av,.b 0,.i 0,.u 0,S [],bY,bY,.bool av,bY,.i ((1:Nat):Int),bY,bY])).toArray 46)).size=g.size+1:=a1
 generalize g.push (.cells (cellsL (.agg #[.bool av,.b 0,.i 0,.u 0,S [],bY,bY,.bool av,bY,.i ((1:Nat):Int),bY,bY])).toArray 46)=ct at*;have dz:=(bP.2 _ dR).trans af;have auI:b2 ct pL 1 (l.map λi=>aN (bJ.getD i 0)) ro:=e1.at λr er=>by subst er;exact bP.2 r e1.lt
 generalize lx:bJ.getD id 0=bi at*;have bj:fd 8 (aN bi)=J (.pointer (J ⟨bi,8,ab⟩)):=rfl;clear ef;rw[bj];dsimp only;rw[bs,fs dz];change Pu (J pL) ct _;rw[bs];refine On (z:=.pointer ab) YF rfl auI rfl rfl al λv2 bd b0 ar e4 q0=>?_;rw[bs];have im:ro≠J bi:=λx=>al
 have cF:bd[bi]?=_:=(ar.2 bi I (λe=>im e.symm)).trans dz;obtain⟨kb,oX⟩:=kJ e4;refine fx (o:=8) cF a1 kb oX λcb aS eH=>?_;change cb[bi]?=J (.cells #[.bool av,c1,c2,cy,dQ,eX,c6,.bool ai,v2,.i ((M.getD id 0:Nat):Int),bY,bY] 46) at eH;have DD:=ar.1;have afT:=aS.1;have Jf:∀r,b0=J r->r≠bi/\(r<ct.size->own r=J (id,1)):=λr er=>by
  grind
 have ax6:∀r x,own r=J x->cS own g.size (aj.length,0) r=own r:=λr x aH=>e r (aY.dv r x aH);have as9:(aj++[bW.bX []])[id]?=J (.arr l):=al
 have zb:(bJ++[g.size]).getD id 0=bi:=by rw[r'.app id (by rw[aY.jC];exact nC)];exact lx
 have R':dL (cS own g.size (aj.length,0)) (dX (cS own g.size (aj.length,0)) b0 (id,1)) ct.size:=λc ay=>by
  unfold dX;grind
 have kE:ky id (cS own g.size (aj.length,0)) ct cb:=⟨I,λb af fy=>by
  have fj:∀s,own b=J (id,s)->False:=λs aH=>al
  rw[aS.2 b I (λe=>fj 0 al),ar.2 b af (λe=>fj 1 (dF b e.symm))]⟩
 have Tp:=hV.ra (bB:=.arr (l++[aj.length])) (m:=M.getD id 0) (g':=cb) (a_:=dX (cS own g.size (aj.length,0)) b0 (id,1)) as9 ⟨?_,c1,c2,cy,dQ,eX,c6,v2,b0,al,?_,λr aF=>?_⟩ kE R' (λb x aH=>?_) (λ_ _ e=>by cases e) (λgi i e az=>?_) ?_ (λ⟨_,e⟩=>by cases e)
 .have arU:(M++[1]).set id (M.getD id 0)=M++[1]:=by
   have hm:id<M.length:=by rw[aY.tv];exact nC
   simp_all
  rw[arU] at Tp;refine q cb _ Tp ?_ ⟨I,λb af aH=>?_⟩
  .exact e.trans R' I
  .rw[kE.2 b I (λs aL=>aH s (by rw[<-e b af];exact aL)),bP.2 b af]
 .rw[zb,R' bi I,ax6 bi _ sA];exact sA
 .have aw:((l++[aj.length]).map λi=>aN ((bJ++[g.size]).getD i 0))=(l.map λi=>aN (bJ.getD i 0))++[aN g.size]:=by
   rw[rr];congr 1
   .refine yw λx ae=>?_;have:=(aY.ids da) x ae;grind
   .simp only[kp,ru];rw[iw,pg (by rw[aY.jC];omega),aY.jC,pW];rfl
  rw[aw];exact e4.at λr er=>by subst er;exact aS.2 r e4.lt (λe=>(Jf r rfl).1 (en e))
 .unfold dX;grind
 .unfold dX at aH;split at aH
  .rename_i e;exact cP (b2.lt (e▸e4)) afT
  .unfold cS at aH;split at aH
   .omega
   .have:=aY.dv b x aH;omega
 .cases e;rcases zX.1 az with az|az
  .obtain⟨aa,kv,ad⟩:=aY.nM id l i da az;grind
  grind
 .simp only[m5,r8,O1];omega
end
def Hn:∀{ks:List B} {aj a8:List (bW α)} {M bK:List Nat} {id cY:Nat},belowS ks aj M id=.ok a8 bK cY->U a8<=U aj+U ks/\(cz aj j->cz a8 j)/\U aj<=U a8
 |[],_,_,_,_,_,_,h=>by cases h;grind
 |k::ks,aj,a8,M,bK,id,cY,h=>by
  rw[belowS] at h;split at h
  .have:=Hn (j:=j) h;rw[lp] at this;exact⟨by simp;omega,λaP=>this.2.1 (qa aP),I⟩
  .split at h
   .have:=Hn (j:=j) h;grind
   .have:=Hn (j:=j) h;grind
   .cases h
def EE(az:aj[i]?=J (.arr l0))(h:cz aj j):cz (gf aj i l) j:=by
 obtain⟨kv,aq⟩:=h;have aC:=(fk.1 aq).1;refine⟨kv,?_⟩;unfold gf;grind
def ED(az:i<U aj):cz (gf aj i l) (U aj):=by
 refine⟨[],?_⟩;unfold gf;grind
def Ll:U (gf aj i l)=U aj+1:=by simp[gf]
def Lm{α:Type}{aj:List (bW α)}{i:Nat}(h:∀(j:Nat) (l:List Nat),j≠i->aj[j]?=J (.arr l)->l≠[]):lq (gf aj i l):=by
 intro j gi aC;unfold gf at aC;rw[KB] at aC;split at aC
 .split at aC
  .cases aC;simp
  .cases aC
 grind
def adC:∀{n:Nat} {acc ks:List B} {l r:B},keyLoop F n acc l=.ok ks r->U acc<=U ks
 |0,_,_,_,_,h=>by cases h
 |n+1,acc,ks,l,r,h=>by
  rw[keyLoop] at h;split at h
  .grind
  .cases aL:simple F (blanks (blanks l).tail) with
   |no c=>grind
   |ok k cc=>
    rw[aL] at h;have:=adC h;grind
def av2(h:key F l=.ok ks r):1<=U ks:=by
 unfold key at h;cases aL:simple F l with
 |no c=>grind
 |ok k cc=>rw[aL] at h;exact adC h
def Ut(h:nameS dU ks aj M=.ok a8 bK cY):U a8<=U aj+(U ks-1)+(if dU then 2 else 1)/\(cz aj j->cz a8 j):=by
 unfold nameS at h;cases af:belowS ks.dropLast aj M 0 with
 |no c=>grind
 |ok hY yM Np=>
  have aa:=Hn (j:=j) af;rw[ahw] at aa;rw[af] at h;simp only at h;split at h
  .split at h
   .cases h;rename_i aG;rw[aA aG];refine⟨by rw[Ll,lp];omega,λaP=>?_⟩;exact EE nW (qa (aa.2.1 aP))
   .cases h;rename_i aG;rw[ak aG];exact⟨by rw[lp];omega,λaP=>qa (aa.2.1 aP)⟩
  .split at h
   .rename_i az;split at h
    .cases h;exact⟨by rw[Ll];grind,λaP=>EE az (aa.2.1 aP)⟩
    .cases h
   .grind
   .cases h
def aez(h:nameT dU F l aj M=.ok a8 bK cY r):U a8+U r<=U aj+U l/\U r<U l/\(cz aj j->cz a8 j):=by
 unfold nameT at h;have af:=vW l;cases aq:key F (blanks l) with
 |no c=>grind
 |ok ks c3=>
  have aa:=Ny aq;have aDN:=av2 aq;rw[aq] at h;simp only at h;split at h
  .cases h
  .rename_i ay;have fg:=Gi (l:=c3) (λe=>ay (bt I));cases aI:nameS dU ks aj M with
   |no c=>grind
   |ok hY yM i1=>
    rw[aI] at h;cases h;have ad:=Ut (j:=j) aI;grind
def Yw(dk bx:ao)(dU:Bool)(h:H)(R:K):Prop:=
 bD 13 [dk] h λjh h=>bD 25 [dk] h λiq h=>fD 0 (λnV=>a0 (aQ dU) ai (λh k=>k dk h) h λiY h=>a0 (aQ dU) ai (bD 11 [iY,(fo ⟨#[93,93]⟩)]) h λri h=>a0 (aQ dU) ai (Pu (un .not ri)) h λh4 h=>Pu (pk (aQ dU) h4 (aQ av)) h λv20 h=>a0 v20 av (λh k=>k dk h) h λgC h=>a0 v20 av (bD 14 [gC,(ah 0)]) h λf' h=>a0 v20 av (Pu (bn hF f' (bu 93))) h λg2 h=>Pu (pk v20 (aQ ai) g2) h λji h=>b1 ji (bD 21 [dk,(ah 1)] h λhS h=>nV h)<|nV h) λ_ h=>bD 12 [dk] h λjj h=>Pu (un .not jj) h λgT h=>b1 gT (R bx h)<|Pu (fd 1 dk) h λmL h=>cd mL h λv30 h=>Pu (bn .add v30 (ah 1)) h λj2 h=>Pu (fd 1 dk) h λlb h=>bZ 1 lb j2 h λ_ h=>fD 0 (λsc=>b1 (aQ dU) (Pu (fd 1 dk) h λpR h=>cd pR h λlH h=>Pu (bn .add lH (ah 1)) h λkN h=>Pu (fd 1 dk) h λme h=>bZ 1 me kN h λ_ h=>sc h)<|sc h) λ_ h=>Pu (fb iq) h λjI h=>Pu (bn .sub jI (ah 1)) h λnO h=>Pu (sl 1 iq ab (J nO) ab) h λnP h=>bD 26 [dk,bx,nP] h λl1 h=>bD 12 [dk] h λo_ h=>Pu (un .not o_) h λiH h=>b1 iH (R bx h)<|Pu (fb iq) h λkO h=>Pu (bn .sub kO (ah 1)) h λnQ h=>Pu (ia 1 iq nQ) h λn' h=>cd n' h λnd h=>bD 27 [l1,nd] h λkk h=>b1 (aQ dU) (fD 1 (λqG=>Pu (beP av kk (bU ab)) h λnf h=>b1 nf (Bd (Z 46) [(7,1,(aQ ai))] h λmf h=>lh 46 mf h λmg h=>bD 28 [l1,nd,mg] h λng h=>qG ng h)<|qG kk h) λ_ kl h=>Pu (nc kl) h λlI h=>Pu (fd 0 lI) h λsQ h=>cd sQ h λmh h=>a0 mh av (λh k=>k kl h) h λo' h=>a0 mh av (Pu (nc o')) h λqy h=>a0 mh av (Pu (fd 7 qy)) h λjk h=>a0 mh av (cd jk) h λkm h=>a0 mh av (Pu (un .not km)) h λpa h=>Pu (pk mh (aQ ai) pa) h λmi h=>b1 mi (bD 21 [dk,(ah 1)] h λnh h=>R bx h)<|Bd (Z 46) [(9,1,(ah 1))] h λoA h=>lh 46 oA h λkn h=>Pu (nc kl) h λrj h=>Pu (fd 8 rj) h λjJ h=>cd jJ h λkP h=>ew 43 1 (Z 43) [(0,1,kn)] h λj3 h=>Ap 43 1 8 (Z 43) kP j3 h λld h=>Pu (nc kl) h λxa h=>Pu (fd 8 xa) h λr5 h=>bZ 1 r5 ld h λ_ h=>R kn h)<|Pu (beP av kk (bU ab)) h λuH h=>b1 uH (Bd (Z 46) [(9,1,(ah 1))] h λqz h=>lh 46 qz h λmj h=>bD 28 [l1,nd,mj] h λni h=>R ni h)<|Pu (nc kk) h λoB h=>Pu (fd 0 oB) h λpb h=>cd pb h λiZ h=>a0 iZ av (λh k=>k kk h) h λju h=>a0 iZ av (Pu (nc ju)) h λoC h=>a0 iZ av (Pu (fd 7 oC)) h λnj h=>a0 iZ av (cd nj) h λl2 h=>Pu (pk iZ (aQ ai) l2) h λko h=>a0 ko av (λh k=>k kk h) h λmN h=>a0 ko av (Pu (nc mN)) h λkQ h=>a0 ko av (Pu (fd 9 kQ)) h λlg h=>a0 ko av (cd lg) h λoa h=>a0 ko av (Pu (bn hF oa (ah 0))) h λnR h=>Pu (pk ko (aQ ai) nR) h λmO h=>b1 mO (bD 21 [dk,(ah 1)] h λrk h=>R bx h)<|Pu (nc kk) h λpS h=>Pu (fd 9 pS) h λrl h=>bZ 1 rl (ah 1) h λ_ h=>R kk h
def K8(res:Cd bL)(h:H)(D:B)(p t:Nat)(bJ:List Nat)(own:cH)(R:ao->H->Prop):Prop:=match res with
 | .ok a8 bK cY l=>∀h' gN a_ j,j<=U D->ax j D=l->fa (a3 h' p D t j 0) a8 bK gN a_->dL own a_ (ag h)->fr own (a3 h p D t 0 0) (a3 h' p D t 0 0)->cz a8 cY->lq a8->r' bJ gN (U bJ)->R (aN (gN.getD cY 0)) (a3 h' p D t j 0)
 | .no c=>c≠0->∀h' v,fr own (a3 h p D t 0 0) (a3 h' p D t 0 0)->R v (a3 h' p D t (U D) c)
section
variable{h g:H}{p t i F:Nat}{D:B}{R:K}{own:cH}{aj:List (bW bL)}{M bJ:List Nat}{id b:Nat}{kv:List (B×Nat)}
def azk{K:H->Prop}(aY:fa g aj M bJ own)(da:aj[id]?=J (.bX kv))(c0:U aj<=5000)(q:∀g',fa g' aj (M.set id 1) bJ own->ky id own g g'->K g'):bZ 1 (bU (J ⟨bJ.getD id 0,9,ab⟩)) (ah 1) g λ_ h=>K h:=by
 obtain⟨sA,c1,c2,cy,dQ,eX,c6,cL,qB,je,e7,af,il,wA,e4,ib⟩:=aY.node id _ da;have nC:=(fk.1 da).1;refine fx (o:=9) af a1 rfl rfl λcb aS eH=>?_;change cb[bJ.getD id 0]?=J (aO #[aQ av,c1,c2,cy,dQ,eX,c6,aQ av,bY,ah (1:Nat),cL,qB] 46) at eH;have kE:ky id own g cb:=⟨aS.1,λb af fy=>aS.2 b af λe=>by
  grind⟩
 have acS:aj.set id (.bX kv)=aj:=by
  apply Kz;grind
 have bk:∀r s,own r=J (id,s)->s≠0->cb[r]?=g[r]?:=λr s aH aL=>aS.2 r (aY.dv r _ aH) λe=>by
  grind
 have Tp:=aY.ra (bB:=.bX kv) (m:=1) (g':=cb) (a_:=own) da ⟨sA,c1,c2,cy,dQ,eX,c6,cL,qB,je,e7,eH,il.at λr er=>bk r 1 (wA r er) aE,wA,e4.at λr er=>bk r 2 (ib r er) aE,ib⟩ kE (dL.refl _ _) (λb x aH=>cP (aY.dv b x aH) aS.1)
  (λhO x e ae=>by cases e;exact aY.kids id kv x da ae) (λl i e=>by cases e) (aY.small id _ da) (λ_=>⟨kv,rfl⟩)
 grind
theorem W6{dU:Bool}(dn:jM h)(dV:2<=p)(aJ:p<h.size)(kC:own p=some pH)(aY:fa (a3 h p D t i 0) aj M bJ own)(da:cz aj 0)(bk:lq aj)(aM:D.length<=400)(iR:D.length<F)(az:i<=D.length)(c0:aj.length<=900)(q:K8 (nameT dU F (D.drop i) aj M) h D p t bJ own R):Yw (aN p) (aN (bJ.getD 0 0)) dU (a3 h p D t i 0) R:=by
 unfold Yw;unfold nameT at q;have abS:∀b x,own b=some x->b<h.size:=λb x aH=>by have:=aY.dv b x aH;rw[dm] at this;exact this
 have zv:∀g,aB h g->fr own (a3 h p D t 0 0) (a3 g p D t 0 0):=λg e=>fr.g_ e.a3;refine sa aJ aM az λbS n3 vm fg=>?_;rw[<-fg] at q;refine Xd dn dV aJ aM vm iR ?_;cases aq:key F (D.drop bS) with
 |no c=>
  rw[aq] at q;intro ay aa v aw;have dE:=aw.lt aJ;have eg:=g6 (D:=D) (bQ D.length);refine⟨λae=>ae=a3 aa p D t D.length c,λd ae e=>?_,?_⟩
  .subst e;refine j8 dE (λe=>absurd e ay) λ_=>?_;refine aR ?_;exact q ay aa _ (zv aa aw)
  .cases dU with
   |true=>
    refine aR ?_;refine sU dE aM (bQ _) a1 (λaL=>?_) λaL=>?_
    .grind
    .refine aR ?_;refine iK (n:=1) dE ?_;grind
   |false=>
    refine aR ?_;refine hn dE aM I ?_;rw[eg];refine aR ?_;refine iK (n:=1) dE ?_;grind
 |ok ks c3=>
  rw[aq] at q;simp only at q;have zc:=Ny aq;intro aa j v r aw aF aC au xY lA e1;subst au;rw[eF] at q;simp only[ix] at zc;have dE:=aw.lt aJ;have zk:=lJ.2 xY;obtain⟨bad,qT⟩:∃bad:Prop,bad↔((dU=true/\¬[93,93]<+:D.drop j)\/g D j≠93):=⟨_,Iff.rfl⟩;refine⟨λae=>(ae=a3 aa p D t j 0/\¬bad)\/(ae=a3 aa p D t D.length 1/\bad),λd ae e=>?_,?_⟩
  .rcases e with ⟨rfl,jq⟩|⟨rfl,MG⟩
   .rw[qT] at jq;rw[ak jq] at q;refine j8 dE (λ_=>?_) (λe=>absurd rfl e);(simp-implicitDefEqProofs+contextual (disch:=omega) only[go_sem];try refine c8 ?_)
    have aEA:g D j=93:=by
     omega
    have nE:=cu (D:=D) (i:=j) I;have ij:dU=true->j+2<=D.length:=λaG=>by
     have:[93,93]<+:D.drop j:=Kw λe=>jq (.inl ⟨aG,e⟩);have:=this.length_le;grind
    obtain⟨e5,vn,atm,atl⟩:∃e5,e5=j+(if dU then 2 else 1)/\e5<=D.length/\D.drop e5=(if dU then(D.drop j).drop 2 else(D.drop j).tail):=by
     refine⟨_,rfl,?_,?_⟩
     .grind
     .cases dU with
      |true=>simp_all
      |false=>simp
    refine⟨λae=>ae=a3 aa p D t e5 0,λd ae e=>?_,?_⟩
    .subst e;have hV:fa (a3 aa p D t e5 0) aj M bJ own:=by
      have aa:=aY.rd (j:=e5) (m9:=0) kC I;exact aa.Nv aw.a3 (dL.refl _ _) λb x aH=>by rw[dm];have:=abS b x aH;have:=aw.1;omega
     have dF:own r=none:=by
      cases aH:own r with
      |none=>rfl
      |some x=>grind
     have sD:r≠p:=I
     have hN:=e1.lt;obtain⟨mC,_⟩:=j1 e1;rw[oE] at mC;obtain⟨OR,Nl,Nd⟩:=afK e1 m8 (by simp;omega);rw[oE,<-List.map_dropLast] at*;have es:bn .sub (.i (ks.length:Int)) (.i 1)=some (.i ((ks.length-1:Nat):Int)):=m' (a:=ks.length) (b:=1) I I;refine hk mC es Nl ?_;refine aja dE kC hV ⟨some r,Nd.at λcC er=>by cases er;rw[g1 sD],λcC er=>al⟩ (by simp;omega) da bk I ?_;unfold nameS at q;cases af:belowS ks.dropLast aj M 0 with
     |no c=>
      rw[af] at q;intro ay h' ch cE;have g7:fr own (a3 h p D t 0 0) (a3 h' p D t 0 0):=(zv aa aw).trans cE.rd (dL.refl _ _);have wE:aa.size<=h'.size:=by have:=cE.1;rw[dm,dm] at this;exact this
      refine j8 I (λe=>absurd e ay) λ_=>?_;refine aR ?_;exact q ay h' _ g7
     |ok hY yM Np=>
      rw[af] at q;simp only at q;have dz:=Hn (j:=0) af;rw[ahw] at dz;intro h' gN a_ gG iS cE Fp M0 lx;have g7:fr own (a3 h p D t 0 0) (a3 h' p D t 0 0):=(zv aa aw).trans cE.rd (dL.refl _ _);have wE:aa.size<=h'.size:=by have:=cE.1;rw[dm,dm] at this;exact this
      have iD:=aw.1;have R_:dL own a_ h.size:=λb af=>iS b I;have hE:p<h'.size:=I
      have A8:a_ p=some pH:=by rw[R_ p aJ];exact kC
      have x3:b2 (a3 h' p D t e5 0) v 1 (ks.map S) (some r):=e1.at λcC er=>by
       cases er;have:=cE.2 r (by rw[dm];exact hN) al;rw[this,g1 sD]
      obtain⟨_,T0⟩:=j1 x3;obtain⟨bx,hW,mW⟩:=T0 (ks.length-1) (S ks[ks.length-1]) al;have mZ:ks.getLast?.getD []=ks[ks.length-1]:=al
      rw[mZ] at q;generalize ks[ks.length-1]=av5 at*;obtain⟨kv,ey⟩:=Fp;rw[o0 ey] at q;have aED:=(fk.1 ey).1;have pK:K8 (.no 1:Cd bL) h D p t bJ own R->R (aN (bJ.getD 0 0)) (a3 h' p D t D.length (if 0=0 then 1 else 0)):=λb5=>by
       rw[aA rfl];exact b5 aE h' _ g7
      have step:∀(bd:H) (hy:List (bW bL)) (M2 nX:List Nat) (f_:cH) (x:Nat),fa bd hy M2 nX f_->dL a_ f_ (a3 h' p D t e5 0).size->ky x a_ (a3 h' p D t e5 0) bd->x<5000->a3 bd p D t e5 0=bd:=λbd hy M2 nX f_ x dd dr fq ae=>by
       apply Fg;rw[fq.2 p (by rw[dm];exact hE) (λs=>by rw[A8];intro e;cases e;omega),qS hE]
      have fin:∀(bd:H) (hy:List (bW bL)) (M2 nX:List Nat) (f_:cH) (FT:Nat),K8 (.ok hy M2 FT (D.drop e5)) h D p t bJ own R->fa bd hy M2 nX f_->dL a_ f_ (a3 h' p D t e5 0).size->fr a_ (a3 h' p D t e5 0) bd->a3 bd p D t e5 0=bd->cz hy FT->lq hy->r' gN nX gN.length->bJ.length<=gN.length->R (aN (nX.getD FT 0)) bd:=λbd hy M2 nX f_ FT b5 dd dr fq pd xd aBo aBp aG3=>by
       rw[<-pd] at dd fq⊢;refine b5 bd nX f_ e5 atm rfl dd (λb af=>by rw[dr b (by rw[dm];omega),R_ b af]) (g7.trans fq.rd (by rw[dm];exact R_)) xd aBo λx ae=>?_;rw[aBp x I];exact lx x ae
      have MJ:bJ.length<=gN.length:=by
       rw[aY.jC,gG.jC];omega
      have aE6:hY.length<=1500:=I
      have aE4:(a3 h' p D t e5 0).size=h'.size:=dm;simp only[<-atl] at q;refine j8 hE (λ_=>?_) (λe=>absurd rfl e);cases dU with
      |true=>
       simp only[ei] at q;refine i_ mC es hW mW ?_;refine GL gG ey I (λx ae tp=>?_) λae=>?_
       .rw[ae] at q;simp only at q;rw[gl];refine lO ?_;rw[K_,bs,ga];obtain⟨Ds,oW⟩:∃bB,hY[x]?=some bB:=⟨_,h5 tp⟩;obtain⟨cx,iC,_,hL,mX,vg⟩:=node_cells gG oW;rw[oW] at q;cases Ds with
        |val eO=>
         simp only at q hL mX;refine dG (c4 iC) hL ?_;exact iK (n:=1) hE (pK q)
        |bX hO=>
         simp only at q hL mX;refine hk (c4 iC) hL mX ?_;exact iK (n:=1) hE (pK q)
        |arr l=>
         simp only at q hL mX;refine hk (c4 iC) hL mX ?_;refine YS gG oW I λbd f_ dd dr fq=>?_;have:=fin bd _ _ _ f_ hY.length q dd dr fq.keep (step bd _ _ _ f_ x dd dr fq I) (ED tp) (Lm λj l _ aC=>M0 j l aC) r'.app MJ;rw[show(gN++[(a3 h' p D t e5 0).size]).getD hY.length 0=(a3 h' p D t e5 0).size by rw[iw,pg (by rw[gG.jC];omega),gG.jC,pW];rfl] at this;exact this
       .rw[ae] at q;simp only at q;rw[gl];refine lO ?_;rw[nil_eq,bs,gl];refine ayn gG ey I λbd f_ dd dr fq=>?_;obtain⟨cx,iC,_,hL,mX,vg⟩:=node_cells dd (id:=hY.length) (bB:=.arr []) nW;have zb:(gN++[(a3 h' p D t e5 0).size]).getD hY.length 0=(a3 h' p D t e5 0).size:=by rw[iw,pg (by rw[gG.jC];omega),gG.jC,pW];rfl
        rw[zb] at iC;simp only at hL mX;refine hk (c4 iC) hL mX ?_;have rF:=YS (R:=R) dd (id:=hY.length) (l:=[]) nW (by rw[lp];omega) λcb rT fC j6 pT=>?_
        .rw[zb] at rF;exact rF
        .have gQ:=fq.1;have H5:dL a_ rT (a3 h' p D t e5 0).size:=dr.trans j6 gQ;have wc:fr a_ (a3 h' p D t e5 0) cb:=fq.keep.trans pT.keep dr;have eg:a3 cb p D t e5 0=cb:=by
          apply Fg;rw[pT.2 p I (λs=>by rw[dr p I,A8];intro e;simp only[pH,dg,hI] at e;omega),fq.2 p I (λs=>by rw[A8];intro e;cases e;omega),qS hE]
         have aD6:gN.length=hY.length:=gG.jC;have:=fin cb _ _ _ rT (hY.length+1) q fC H5 wc eg (by have:=ED (aj:=dY hY Np av5 (.arr [])) (i:=hY.length) (l:=[]) (by rw[lp];omega);rw[lp] at this;exact this) (Lm λj l aC ij=>by
          rcases jw j hY.length with au|au
          .by_cases he:Np=j
           .subst he;rw[Am au] at ij;cases ij
           .rw[An au he] at ij;exact M0 j l ij
          .have:=(fk.1 ij).1;rw[lp] at this;omega) (λx ae=>al) MJ
         grind
      |false=>
       simp only[ak (show¬false=true by decide)] at q;refine i_ mC es hW mW ?_;refine GL gG ey I (λx ae tp=>?_) λae=>?_
       .rw[ae] at q;simp only at q;rw[ga,K_,bs,ga];obtain⟨Ds,oW⟩:∃bB,hY[x]?=some bB:=⟨_,h5 tp⟩;obtain⟨cx,iC,_,hL,mX,vg⟩:=node_cells gG oW;rw[oW] at q;cases Ds with
        |val eO=>
         simp only at q hL mX;refine dG (c4 iC) hL ?_;exact iK (n:=1) hE (pK q)
        |arr l=>
         simp only at q hL mX;refine hk (c4 iC) hL mX ?_;exact iK (n:=1) hE (pK q)
        |bX hO=>
         simp only at q hL mX;refine i_ (c4 iC) hL mX vg ?_;refine⟨λhm=>?_,λhm=>?_⟩
         .rw[aA I] at q;exact iK (n:=1) hE (pK q)
         .rw[ak I] at q;refine azk gG oW I λbd dd fq=>?_;exact fin bd _ _ _ a_ x q dd (dL.refl _ _) fq.keep (step bd _ _ _ a_ x dd (dL.refl _ _) fq I) ⟨_,oW⟩ M0 (λ_ _=>rfl) MJ
       .rw[ae] at q;simp only at q;rw[ga,nil_eq,bs,gl];refine U6 (m:=1) gG ey I λbd f_ dd dr fq=>?_;have:=fin bd _ _ _ f_ hY.length q dd dr fq.keep (step bd _ _ _ f_ Np dd dr fq I) ⟨_,nW⟩ (M0.add λl e=>by cases e) r'.app MJ;rw[show(gN++[(a3 h' p D t e5 0).size]).getD hY.length 0=(a3 h' p D t e5 0).size by rw[iw,pg (by rw[gG.jC];omega),gG.jC,pW];rfl] at this;exact this
    .cases dU with
     |true=>refine aR ?_;grind
     |false=>refine aR ?_;grind
   .rw[qT] at MG;rw[aA MG] at q;refine j8 dE (λe=>absurd e aE) λ_=>?_;refine aR ?_;exact q aE aa _ (zv aa aw)
  .have pK:bad->bD 21 [aN p,.i 1] (a3 aa p D t j 0) λ_ h=>(h=a3 aa p D t j 0/\¬bad)\/(h=a3 aa p D t D.length 1/\bad):=λaf=>by
    refine iK (n:=1) dE ?_;grind
   cases dU with
   |true=>
    refine aR ?_;refine sU dE aM aC a1 (λaL=>?_) λaL=>?_
    .refine aR ?_;refine hn dE aM I ?_;refine aR ?_;grind
    .refine aR ?_;grind
   |false=>
    refine aR ?_;refine hn dE aM I ?_;refine aR ?_;grind
def aiB(dn:jM h)(dV:2<=p)(aJ:p<ag h)(kC:own p=J pH)(aY:fa (a3 h p D t i 0) aj M bJ own)(da:cz aj 0)(bk:lq aj)(aM:U D<=400)(iR:U D<F)(az:i<U D)(c0:U aj<=900)(q:K8 (zD F (ax i D) aj M) h D p t bJ own R):bo 16 [aN p,aN (bJ.getD 0 0)] (a3 h p D t i 0) R:=by
 apply ald;unfold zD at q;rw[tail_drop,eF,tail_drop] at q;refine aR ?_;refine hn aJ aM I ?_;refine aR ?_;refine⟨λhK=>?_,λhK=>?_⟩
 .rw[aA hK] at q;have au:=cu (D:=D) (i:=i+1) I;refine yJ ?_;refine aR ?_;exact W6 (dU:=ai) dn dV aJ kC (aY.rd kC I) da bk aM iR au c0 q
 .rw[ak hK] at q;refine yJ ?_;refine aR ?_;exact W6 (dU:=av) dn dV aJ kC (aY.rd kC I) da bk aM iR az c0 q
end
section
variable{h:H}{R:K}{l D:B}{i:Nat}
def B7(au:8<=U l)(q:∀x:Nat,x<18446744073709551616->(∀k,k<8->ns x k=g l k)->R (a4 (x:Int)) h):bo 24 [S l] h R:=by
 apply alW;have cn:=dZ l 0;have ct:=dZ l 1;have bd:=dZ l 2;have cb:=dZ l 3;have eZ:=dZ l 4;have fW:=dZ l 5;have lV:=dZ l 6;have qO:=dZ l 7;have s1:bn .shl (a4 (g l 1:Int)) (a4 8)=J (a4 (g l 1*256:Nat)):=tE (s:=8) (dZ l 1) aE;have eJ:bn .or (a4 (g l 0:Nat)) (a4 (g l 1*256:Nat))=J (a4 (g l 0+g l 1*256:Nat)):=by rw[jY I I,tz 8 rfl I]
 have s2:bn .shl (a4 (g l 2:Int)) (a4 16)=J (a4 (g l 2*65536:Nat)):=tE (s:=16) (dZ l 2) aE;have o2:bn .or (a4 (g l 0+g l 1*256:Nat)) (a4 (g l 2*65536:Nat))=J (a4 (g l 0+g l 1*256+g l 2*65536:Nat)):=by rw[jY I I,tz 16 rfl I]
 have dB:bn .shl (a4 (g l 3:Int)) (a4 24)=J (a4 (g l 3*16777216:Nat)):=tE (s:=24) (dZ l 3) aE;have o4:bn .or (a4 (g l 0+g l 1*256+g l 2*65536:Nat)) (a4 (g l 3*16777216:Nat))=J (a4 (g l 0+g l 1*256+g l 2*65536+g l 3*16777216:Nat)):=by rw[jY I I,tz 24 rfl I]
 have jf:bn .shl (a4 (g l 4:Int)) (a4 32)=J (a4 (g l 4*4294967296:Nat)):=tE (s:=32) (dZ l 4) aE;have zG:bn .or (a4 (g l 0+g l 1*256+g l 2*65536+g l 3*16777216:Nat)) (a4 (g l 4*4294967296:Nat))=J (a4 (g l 0+g l 1*256+g l 2*65536+g l 3*16777216+g l 4*4294967296:Nat)):=by rw[jY I I,tz 32 rfl I]
 have pI:bn .shl (a4 (g l 5:Int)) (a4 40)=J (a4 (g l 5*1099511627776:Nat)):=tE (s:=40) (dZ l 5) aE;have Bt:bn .or (a4 (g l 0+g l 1*256+g l 2*65536+g l 3*16777216+g l 4*4294967296:Nat)) (a4 (g l 5*1099511627776:Nat))=J (a4 (g l 0+g l 1*256+g l 2*65536+g l 3*16777216+g l 4*4294967296+g l 5*1099511627776:Nat)):=by rw[jY I I,tz 40 rfl I]
 have q8:bn .shl (a4 (g l 6:Int)) (a4 48)=J (a4 (g l 6*281474976710656:Nat)):=tE (s:=48) (dZ l 6) aE;have Jh:bn .or (a4 (g l 0+g l 1*256+g l 2*65536+g l 3*16777216+g l 4*4294967296+g l 5*1099511627776:Nat)) (a4 (g l 6*281474976710656:Nat))=J (a4 (g l 0+g l 1*256+g l 2*65536+g l 3*16777216+g l 4*4294967296+g l 5*1099511627776+g l 6*281474976710656:Nat)):=by rw[jY I I,tz 48 rfl I]
 have yl:bn .shl (a4 (g l 7:Int)) (a4 56)=J (a4 (g l 7*72057594037927936:Nat)):=tE (s:=56) (dZ l 7) aE;have F2:bn .or (a4 (g l 0+g l 1*256+g l 2*65536+g l 3*16777216+g l 4*4294967296+g l 5*1099511627776+g l 6*281474976710656:Nat)) (a4 (g l 7*72057594037927936:Nat))=J (a4 (g l 0+g l 1*256+g l 2*65536+g l 3*16777216+g l 4*4294967296+g l 5*1099511627776+g l 6*281474976710656+g l 7*72057594037927936:Nat)):=by rw[jY I I,tz 56 rfl I]
 have ep:ci .u64 (bu (g l 0:Nat))=J (a4 (g l 0:Nat)):=Hv I;have fin:R (a4 (g l 0+g l 1*256+g l 2*65536+g l 3*16777216+g l 4*4294967296+g l 5*1099511627776+g l 6*281474976710656+g l 7*72057594037927936:Nat)) h:=by
  refine q _ I λk aq=>?_;clear s1 s2 dB jf pI q8 yl eJ o2 o4 zG Bt Jh F2 ep;unfold ns;match k,aq with
  |0,_=>simp only[Nat.reducePow,h6,kR];omega
  |1,_=>simp only[Nat.reducePow,h6,kR];omega
  |2,_=>simp only[Nat.reducePow,h6,kR];omega
  |3,_=>simp only[Nat.reducePow,h6,kR];omega
  |4,_=>simp only[Nat.reducePow,h6,kR];omega
  |5,_=>simp only[Nat.reducePow,h6,kR];omega
  |6,_=>simp only[Nat.reducePow,h6,kR];omega
  |7,_=>simp only[Nat.reducePow,h6,kR];omega
 refine ag9 @I0 s1 s2 dB jf pI q8 yl eJ o2 o4 zG Bt Jh F2 F2 ?_;exact fin
def dC(D:B)(i:Nat):Bool:=if h:i<U D then(if g D i<128 then dC D (i+1) else if jE (ax i D)=1 then av else dC D (i+jE (ax i D))) else ai
termination_by (U D)-i
decreasing_by
 .omega
 .have:=Ol (l:=ax i D) m8;omega
def ON:∀n,(∀k,k<n->g D (j+k)<128)->j+n<=U D->dC D (j+n)=dC D j
 |0,_,_=>rfl
 |n+1,aq,au=>by
  rw[<-ON n (λk h=>aq k I) I];conv=>rhs;rw[dC]
  rw[gw I,aA (aq n I)];rfl
def P7{x:Nat}(ae:x<18446744073709551616):bn .and (a4 (x:Int)) (a4 9259542123273814144)=J (a4 ((x&&&msb:Nat):Int)):=yR (c:=9259542123273814144) ae aE
def N3(h:(x|||y)&&&msb=0):x&&&msb=0/\y&&&msb=0:=by
 grind
def F7(ae:x<18446744073709551616)(a2:y<18446744073709551616):x|||y<18446744073709551616:=Nat.or_lt_two_pow (n:=64) ae a2
theorem ah6(dn:jM h)(aM:D.length<=400)(bq:dC D 0=true->∀h',aB h h'->R (.bool true) h')(bw:dC D 0=false->∀h',aB h h'->R (.bool false) h'):bo 10 [S D] h R:=by
 apply akd;refine eV (λm v ae=>∃i,i<=D.length/\v=S (D.drop i)/\dC D i=dC D 0/\aB h ae/\m=D.length-i) D.length ⟨0,ed _,rfl,rfl,aB.refl _,rfl⟩ ?_;rintro m _ v jr N ⟨i,az,rfl,hu,ex,rfl⟩ a7;have H6:=dn.ext ex;have gn:(D.drop i).length=D.length-i:=ix;by_cases a':i<D.length
 .have te:=dZ D i;have A3:ixs (S (D.drop i)) (.i 0)=some (.b (g D i:Int)):=by
   have:=I0 (l:=D.drop i) (k:=.i64) (n:=0) (show OfNat.ofNat 0<_ by grind);rw[this];simp only[v_];rfl
  rw[dC,gw a'] at hu;have sl:∀j k:Nat,j+k<=D.length->sls (S (D.drop j)) (some (.i (k:Int))) none=some (S (D.drop (j+k))):=λj k Fs=>by rw[zL al,tI]
  by_cases RX:g D i<128
  .rw[aA RX] at hu;have azr:sls (S (D.drop i)) (some (.i 1)) none=some (S (D.drop (i+1))):=sl i 1 I;refine dG A3 azr ?_;refine⟨λv gh=>∃j,i+1<=j/\j<=D.length/\v=S (D.drop j)/\dC D j=dC D (i+1)/\gh=jr,λd v gh cr=>?_,?_⟩
   .obtain⟨j,aa,ad,rfl,aT,rfl⟩:=cr;exact a7 _ _ _ I ⟨j,ad,rfl,aT.trans hu,ex,rfl⟩
   .have OB:∀j,j+8<=D.length->sls (S (D.drop j)) (some (.i 8)) none=some (S (D.drop (j+8))):=λj aC=>sl j 8 aC;have Vx:∀j,j+16<=D.length->sls (S (D.drop j)) (some (.i 16)) none=some (S (D.drop (j+16))):=λj aC=>sl j 16 aC;have agi:∀j,j+24<=D.length->sls (S (D.drop j)) (some (.i 24)) none=some (S (D.drop (j+24))):=λj aC=>sl j 24 aC;have azs:∀j,j+32<=D.length->sls (S (D.drop j)) (some (.i 32)) none=some (S (D.drop (j+32))):=λj aC=>sl j 32 aC;have vS:∀j x,(∀k,k<8->ns x k=g (D.drop j) k)->x&&&msb=0->j+8<=D.length->dC D (j+8)=dC D j:=λj x af aW aC=>ON 8 (λk aq=>by rw[<-v_,<-af k aq];exact NT aW k aq) aC;have out:∀j,i+1<=j->j<=D.length->dC D j=dC D (i+1)->∃bI,i+1<=bI/\bI<=D.length/\S (D.drop j)=S (D.drop bI)/\dC D bI=dC D (i+1)/\True:=λj aa ad an=>⟨j,aa,ad,rfl,an,trivial⟩;(simp-implicitDefEqProofs+contextual (disch:=omega) only[go_sem,ix];try refine c8 ?_)
    refine⟨λhC=>B7 al λx ae af=>?_,λhC=>out _ (bQ _) a' rfl⟩;(simp-implicitDefEqProofs+contextual (disch:=omega) only[go_sem,P7];try refine c8 ?_)
    refine⟨λaW=>?_,λaW=>out _ (bQ _) a' rfl⟩;have bx:=vS (i+1) x af aW I;(simp-implicitDefEqProofs+contextual (disch:=omega) only[go_sem,OB,ix];try refine c8 ?_)
    refine⟨λarl=>?_,λarl=>out (i+1+8) I I bx⟩;refine B7 al λy a2 Tx=>?_;(simp-implicitDefEqProofs+contextual (disch:=omega) only[go_sem,OB];try refine c8 ?_)
    refine B7 al λz aV avp=>?_;(simp-implicitDefEqProofs+contextual (disch:=omega) only[go_sem,jY a2 aV,P7 (F7 a2 aV)];try refine c8 ?_)
    refine⟨λaW=>?_,λaW=>out (i+1+8) I I bx⟩;obtain⟨RS,RT⟩:=N3 aW;have bH:=vS (i+1+8) y Tx RS I;have cq:=vS (i+1+8+8) z avp RT I;(simp-implicitDefEqProofs+contextual (disch:=omega) only[go_sem,Vx];try refine c8 ?_)
    refine eV (λm v gh=>∃j,i+1<=j/\j<=D.length/\v=S (D.drop j)/\dC D j=dC D (i+1)/\gh=jr/\m=D.length-j) (D.length-(i+1+8+16)) ⟨i+1+8+16,I,I,rfl,(cq.trans bH).trans bx,rfl,rfl⟩ ?_;rintro m _ v gh aCw ⟨j,n3,ij,rfl,Fq,rfl,rfl⟩ arV;(simp-implicitDefEqProofs+contextual (disch:=omega) only[go_sem,ix];try refine c8 ?_)
    refine⟨λnx=>?_,λnx=>out j n3 ij Fq⟩;(simp-implicitDefEqProofs+contextual (disch:=omega) only[go_sem,OB,Vx,agi];try refine c8 ?_)
    refine B7 al λmP jr jT=>?_;(simp-implicitDefEqProofs+contextual (disch:=omega) only[go_sem,OB,Vx,agi];try refine c8 ?_)
    refine B7 al λb_ kc dz=>?_;(simp-implicitDefEqProofs+contextual (disch:=omega) only[go_sem,jY jr kc];try refine c8 ?_)
    refine B7 al λcp k3 cF=>?_;(simp-implicitDefEqProofs+contextual (disch:=omega) only[go_sem];try refine c8 ?_)
    refine B7 al λfB rL eH=>?_;(simp-implicitDefEqProofs+contextual (disch:=omega) only[go_sem,jY k3 rL,jY (F7 jr kc) (F7 k3 rL),P7 (F7 (F7 jr kc) (F7 k3 rL))];try refine c8 ?_)
    refine⟨λaW=>?_,λaW=>out j n3 ij Fq⟩;obtain⟨RS,RT⟩:=N3 aW;obtain⟨uA,dK⟩:=N3 RS;obtain⟨gz,k8⟩:=N3 RT;have rA:=vS j mP jT uA I;have cg:=vS (j+8) b_ dz dK I;have cJ:=vS (j+16) cp cF gz I;have eP:=vS (j+24) fB eH k8 I;rw[gL] at cg cJ eP;(simp-implicitDefEqProofs+contextual (disch:=omega) only[go_sem,azs];try refine c8 ?_)
    exact arV _ _ _ I ⟨j+32,I,I,rfl,(((eP.trans cJ).trans cg).trans rA).trans Fq,rfl,rfl⟩
  .rw[ak RX] at hu;have ae:=H6.first (g D i) te
   have ct:=dZ D (i+1);have bd:=dZ D (i+2);have cb:=dZ D (i+3);have aF:jE (D.drop i)=_:=jE.eq_1 (D.drop i);simp only[v_,gn,nm] at aF;rw[ak I] at aF;have pE:=Ok (D.drop i);rw[gn] at pE;have Il:fV (g D i)=241\/fV (g D i)=2\/fV (g D i)=19\/fV (g D i)=3\/fV (g D i)=35\/fV (g D i)=52\/fV (g D i)=4\/fV (g D i)=68:=by
    unfold fV;rw[ak RX];repeat' split
    all_goals simp
   generalize fV (g D i)=x at ae aF Il;have aw:nr .and .u8 (x:Int) 7=((x%8:Nat):Int):=by rcases Il with rfl|rfl|rfl|rfl|rfl|rfl|rfl|rfl<;>rfl
   have ar:(x:Int).fdiv (2^(min 4 8))=((x/16:Nat):Int):=al
   have Ex:∀{a b:Nat} {k:K},bZ 2 (aN jr.size) (.agg #[.b (a:Int),.b (b:Int)]) (jr.push (.cells [Value.int .u8 0,.b 0].toArray 67)) k=k undef (jr.push (.cells #[.b (a:Int),.b (b:Int)] 67)):=λ{_ _ _}=>
    Lc rfl rfl aE (.inr (ed _))
   have no:jE (D.drop i)=1->∀o,R (.bool false) (jr.push o):=λe o=>by
    rw[aA e] at hu;exact bw hu.symm _ (ex.trans (aB.push _ _))
   have TH:∀n,jE (D.drop i)=n->2<=n->∀o,N (S (D.drop (i+n))) (jr.push o):=λn e aI o=>by
    rw[ak I,e] at hu;exact a7 _ _ _ I ⟨i+n,I,rfl,hu,ex.trans (aB.push _ _),rfl⟩
   have ur:1<D.length-i->ixs (S (D.drop i)) (.i 1)=some (.b (g D (i+1):Int)):=λau=>by
    have:=m3 (l:=D.drop i) (k:=.i64) (i:=1) I;rw[v_] at this;exact this
   have Fo:2<D.length-i->ixs (S (D.drop i)) (.i 2)=some (.b (g D (i+2):Int)):=λau=>by
    have:=m3 (l:=D.drop i) (k:=.i64) (i:=2) I;rw[v_] at this;exact this
   have ab6:3<D.length-i->ixs (S (D.drop i)) (.i 3)=some (.b (g D (i+3):Int)):=λau=>by
    have:=m3 (l:=D.drop i) (k:=.i64) (i:=3) I;rw[v_] at this;exact this
   have agh:i+2<=D.length->sls (S (D.drop i)) (some (.i 2)) none=some (S (D.drop (i+2))):=λaC=>sl i 2 aC;have agj:i+3<=D.length->sls (S (D.drop i)) (some (.i 3)) none=some (S (D.drop (i+3))):=λaC=>sl i 3 aC;have agk:i+4<=D.length->sls (S (D.drop i)) (some (.i 4)) none=some (S (D.drop (i+4))):=λaC=>sl i 4 aC;by_cases abi:x=241
   .have awa:rd jr ⟨1,x/16*2,none⟩=some (.b ((0:Nat):Int)):=by rw[abi];exact H6.NL
    have ayQ:rd jr ⟨1,x/16*2+1,none⟩=some (.b ((0:Nat):Int)):=by rw[abi];exact H6.MW
    have gz:¬x%8=2:=I
    have k8:¬x%8=3:=I
    have x':¬x%8=4:=I
    (simp-implicitDefEqProofs+contextual (disch:=omega) only[go_sem,A3,nn,K5 ae,aw,ar,PL awa ayQ,P1,Ex,gz,k8,x'];try refine c8 ?_)
    grind
   .have aq:x/16<5:=I
    rw[ak I] at aF;(simp-implicitDefEqProofs+contextual (disch:=omega) only[go_sem,A3,nn,K5 ae,aw,ar,PL (H6.br _ aq) (H6.az _ aq),P1,Ex,gn,ur,Fo,ab6,agh,agj,agk];try refine c8 ?_)
    clear ae aw ar Ex ur Fo ab6 agh agj agk A3 sl;repeat' first|refine And.intro ?_ ?_|intro _
    all_goals first|exact no (aF.trans (by (repeat' split)<;>omega)) _|exact TH 2 (aF.trans (by (repeat' split)<;>omega)) aE _|exact TH 3 (aF.trans (by (repeat' split)<;>omega)) aE _|exact TH 4 (aF.trans (by (repeat' split)<;>omega)) aE _
 .have h1:i=D.length:=I
  rw[dC,e8 a'] at hu;refine aR ?_;grind
end
def tX(l:B):Prop:=l=[]\/top l=35\/top l=10\/[13,10]<+:l
instance(l:B):Decidable (tX l):=by unfold tX;infer_instance
def curP{α:Type}(cur:Nat):PS α->Cd α
 | .no c=>.no c
 | .ok aj M l=>.ok aj M cur l
def rW{α:Type}(V:B->eW α)(F:Nat)(aj:List (bW α))(M:List Nat)(cur:Nat)(l:B):Cd α:=if tX l then .ok aj M cur l else if top l=91 then zD F l aj M else curP cur (pairP V F l aj M cur)
def restS{α β:Type}(fin:List (bW α)->β)(next:List (bW α)->List Nat->Nat->B->eW β):Cd α->eW β
 | .no c=>.no c
 | .ok aj M cur l=>match comment (blanks l) with
  | .no c=>.no c
  | .ok _ l=>if l=[] then .ok (fin aj) [] else match o3 l with
   |none=>.no 1
   |some l=>next aj M cur l
def docLoop{α β:Type}(V:B->eW α)(fin:List (bW α)->β)(F:Nat):Nat->List (bW α)->List Nat->Nat->B->eW β
 |0,_,_,_,_=>.no 9
 |n+1,aj,M,cur,l=>restS fin (docLoop V fin F n) (rW V F aj M cur (blanks l))
noncomputable def zO(D:B):eW bL:=if dC D 0=ai then(if[239,187,191]<+:D then .no 2 else docLoop (valueF (U D+1) (U D+1)) (λaj=>tomlS aj (U aj) 0) (U D+1) (U D+1) [.bX []] [1] 0 D) else .no 1
section
variable{h g:H}{p t i j n sd:Nat}{D:B}{R:K}
def an6:Z 42=[S [],ah 0,ah 0]:=b4
def azB{V:B->eW bL}(eu:Cc V){F:Nat}{l r:B}{M bK:List Nat}{cur rB j:Nat}(h:rW V F aj M cur l=.ok a8 bK rB r):U a8+U r<=U aj+U l/\(cz aj j->cz a8 j)/\U r<=U l:=by
 unfold rW at h;split at h
 .grind
 .split at h
  .unfold zD at h;split at h
   .have:=aez (j:=j) h;grind
   .have:=aez (j:=j) h;grind
  .cases aJ:pairP V F l aj M cur with
   |no c=>rw[aJ] at h;cases h
   |ok hY yM c3=>
    rw[aJ] at h;cases h;exact⟨(N4 eu aJ).1,(N5 aJ).1,KE (N4 eu aJ).2⟩
def aiW(aJ:p<ag h)(aM:U D<=400)(q:R (bA #[]) (a3 h p D t (U D) sd)):bo 18 [aN p] (a3 h p D t (U D) sd) R:=by
 apply XN;refine hn aJ aM I ?_;have eg:=g6 (D:=D) (bQ (U D));rw[eg];refine aR ?_;exact q
def XH(res:eW bL)(h:H)(R:ao->H->Prop):Prop:=match res with
 | .ok tt _=>∀h' v,aB h h'->gd (old (ag h)) h' v tt->R (bA #[v,ah 0]) h'
 | .no c=>c≠0->∀h' v,aB h h'->kr 6 v->R (bA #[v,ah c]) h'
def ajx(dn:jM h)(ad:2<=h.size)(aM:D.length<=400)(q:XH (zO D) h R):bo 6 [S D] h R:=by
 apply sb;rw[gE];have bP:aB h (h.push (.cells (Z 28).toArray 28)):=aB.push _ _;have dz:(h.push (.cells (Z 28).toArray 28))[h.size]?=J (.cells (Z 28).toArray 28):=mK;have gJ:(Z 28).toArray.size=6:=by rw[j9];rfl
 have te:(h.push (.cells (Z 28).toArray 28)).size=h.size+1:=a1
 generalize h.push (.cells (Z 28).toArray 28)=cn at*;unfold zO at q;have F0:∀(g:H) (c:Nat),c≠0->aB cn g->XH (.no c) h R->bZ 6 (aN h.size) (g5 0 0 0 []) g λ_ l_=>cO 6 (aN h.size) l_ λv _=>R (.tuple #[v,.i (c:Int)]) l_:=by
  intro g c ay e b5;have au:h.size<cn.size:=(cm.1 dz).1;refine s0 (n:=5) (k:=λh v _=>R (.tuple #[v,.i (c:Int)]) h) ((e.2 _ au).trans dz) gJ rfl rfl λh' aw=>b5 ay h' _ (bV.fe (bP.trans e) aw λr aF=>al) ⟨_,rfl,rfl,rfl⟩
 refine ah6 (dn.ext bP) I (λac3 ct aw=>?_) λac3 ct aw=>?_
 .rw[aA ac3] at q;have ast:∀(h:H) (K:ao->H->Prop),Bd (Z 42) [(0,1,S D)] h K=K (.agg #[S D,.i 0,.i 0]) h:=λh K=>by rw[an6];rfl
  refine bG ast ?_;unfold lh;have h_:h.size<cn.size:=(cm.1 dz).1;have AA:=bP.trans aw;have ka:=aw.1;obtain⟨p,aJ⟩:∃p,p=ct.size:=⟨_,rfl⟩;have aET:h.size+1<=p:=I
  have SG:(ct.push (.cells (cellsL (.agg #[S D,.i 0,.i 0])).toArray 42))[p]?=J (.cells #[S D,.i ((0:Nat):Int),.i ((0:Nat):Int)] 42):=by rw[aJ];exact dS _ _
  have ua:aB cn (ct.push (.cells (cellsL (.agg #[S D,.i 0,.i 0])).toArray 42)):=aw.trans (aB.push _ _);have gQ:(ct.push (.cells (cellsL (.agg #[S D,.i 0,.i 0])).toArray 42)).size=p+1:=by simp[aJ]
  rw[<-aJ];have eg:=Fg SG;rw[<-eg];generalize ct.push (.cells (cellsL (.agg #[S D,.i 0,.i 0])).toArray 42)=bd at*;have pD:p<bd.size:=I
  refine sU pD I (ed _) a1 (λIb=>?_) λIb=>?_
  .rw[Ky] at Ib;rw[aA Ib] at q;rw[eg];(simp-implicitDefEqProofs+contextual (disch:=omega) only[go_sem,yD];try refine c8 ?_)
   grind
  .rw[Ky] at Ib;rw[ak Ib] at q;have xy:∀(h:H) (K:ao->H->Prop),Bd (Z 46) [(9,1,.i 1)] h K=K (.agg #[.bool av,.b 0,.i 0,.u 0,S [],bY,bY,.bool av,bY,.i 1,bY,bY]) h:=λh K=>KL 1;refine bG xy ?_;rw[uk pD,dm];obtain⟨cv,pE⟩:∃cv,cv=bd.size:=⟨_,rfl⟩;have za:(bd.push (.cells (cellsL (.agg #[.bool av,.b 0,.i 0,.u 0,S [],bY,bY,.bool av,bY,.i 1,bY,bY])).toArray 46))[cv]?=J (.cells #[.bool av,.b 0,.i 0,.u 0,S [],bY,bY,.bool av,bY,.i 1,bY,bY] 46):=by rw[pE];exact dS _ _
   have E0:aB cn (bd.push (.cells (cellsL (.agg #[.bool av,.b 0,.i 0,.u 0,S [],bY,bY,.bool av,bY,.i 1,bY,bY])).toArray 46)):=ua.trans (aB.push _ _);have q1:(bd.push (.cells (cellsL (.agg #[.bool av,.b 0,.i 0,.u 0,S [],bY,bY,.bool av,bY,.i 1,bY,bY])).toArray 46)).size=cv+1:=by simp[pE]
   rw[<-pE];generalize bd.push (.cells (cellsL (.agg #[.bool av,.b 0,.i 0,.u 0,S [],bY,bY,.bool av,bY,.i 1,bY,bY])).toArray 46)=cb at*;have sD:p<cv:=I
   have yZ:=bP.trans E0;let c5:cH:=λb=>if b=p then J pH else if b=cv then J (0,0) else if b<cv then J (1000001,0) else ab
   have Bs:c5 p=J pH:=aA rfl;have UF:c5 cv=J (0,0):=al
   have UE:∀b,b≠p->b<cv->c5 b=J (1000001,0):=λb aa an=>al
   have axt:∀b,c5 b=ab->cv<b:=λb aH=>by
    grind
   have axs:∀b x,c5 b=J x->b<cb.size:=λb x aH=>by
    grind
   have MB:fa (a3 cb p D 42 0 0) [.bX []] [1] [cv] c5:=fa.root (by rw[g1 I];exact za) UF λb x aH=>by rw[dm];grind
   have uz:∀g,fr c5 (a3 cb p D 42 0 0) (a3 g p D 42 0 0)->cb.size<=g.size/\∀b,b≠p->b<cv->g[b]?=cb[b]?:=λg cE=>by
    refine⟨by have:=cE.1;rw[dm,dm] at this;exact this,λb ja dR=>?_⟩;have:=cE.2 b (by rw[dm];omega) (λx ae=>al);rw[g1 ja,g1 ja] at this;exact this
   have Sh:∀g,fr c5 (a3 cb p D 42 0 0) (a3 g p D 42 0 0)->g[h.size]?=J (.cells (Z 28).toArray 28):=λg cE=>by
    rw[(uz g cE).2 _ I I,E0.2 _ h_];exact dz
   have uc:∀g,fr c5 (a3 cb p D 42 0 0) (a3 g p D 42 0 0)->∀b,b<h.size->g[b]?=h[b]?:=λg cE b af=>by rw[(uz g cE).2 _ I I,yZ.2 b af]
   have MC:∀g,fr c5 (a3 cb p D 42 0 0) (a3 g p D 42 0 0)->jM g:=λg cE=>dn.two λb af=>uc g cE b I;generalize fR:docLoop (valueF (D.length+1) (D.length+1)) (λaj=>tomlS aj aj.length 0) (D.length+1) (D.length+1) [.bX []] [1] 0 D=VG at q;refine⟨λae=>∃g c,ae=a3 g p D 42 D.length c/\fr c5 (a3 cb p D 42 0 0) (a3 g p D 42 0 0)/\c≠0/\VG=.no c,λd ae cr=>?_,?_⟩
   .obtain⟨g,c,rfl,cE,ay,rfl⟩:=cr;obtain⟨MV,wq⟩:=uz g cE;have m1:p<g.size:=I
    (simp-implicitDefEqProofs+contextual (disch:=omega) only[go_sem,yD];try refine c8 ?_)
    refine⟨⟨.inl al,trivial⟩,?_⟩;refine u2 (Sh g cE) I gJ ⟨_,rfl,rfl,rfl⟩ λeZ cs eC mz mb bl rG=>?_;rw[uW (n:=5) rG I mz];have auO:=bl.1;refine q ay _ _ ⟨by rw[dm];omega,λb af=>?_⟩ ⟨_,rfl,mz,mb⟩;rw[g1 I,bl.2 b I (λe=>al),uc g cE b af]
   .let b7:Nat->ao->H->Prop:=λm v ae=>(∃(g:H) (j di:Nat) (aj:List (bW bL)) (M bJ:List Nat) (a_:cH) (cur:Nat),v=aN (bJ.getD cur 0)/\ae=a3 g p D 42 j 0/\j<=D.length/\fa (a3 g p D 42 j 0) aj M bJ a_/\dL c5 a_ cb.size/\fr c5 (a3 cb p D 42 0 0) (a3 g p D 42 0 0)/\cz aj cur/\cz aj 0/\lq aj/\bJ.getD 0 0=cv/\aj.length<=j+1/\D.length-j<di/\docLoop (valueF (D.length+1) (D.length+1)) (λaj=>tomlS aj aj.length 0) (D.length+1) di aj M cur (D.drop j)=VG/\m=D.length-j+1)\/
     (∃(g:H) (c:Nat),ae=a3 g p D 42 D.length c/\fr c5 (a3 cb p D 42 0 0) (a3 g p D 42 0 0)/\c≠0/\VG=.no c/\m=0)
    refine eV b7 (D.length+1) (.inl ⟨cb,0,D.length+1,_,_,[cv],c5,0,rfl,rfl,ed _,MB,dL.refl _ _,fr.refl _ _,⟨[],rfl⟩,⟨[],rfl⟩,λj l aC=>al,rfl,a1,I,fR,rfl⟩) ?_;rintro m _ v ae N cr a7;rcases cr with ⟨g,j,di,aj,M,bJ,a_,cur,rfl,rfl,aC,aY,iS,cE,AU,x2,bk,jT,k1,ma,aP,rfl⟩|⟨g,c,rfl,cE,ay,aP,rfl⟩
    .obtain⟨MV,wq⟩:=uz g cE;have m1:p<g.size:=I
     have kC:a_ p=J pH:=by rw[iS p I];exact Bs
     obtain⟨di,rfl⟩:=tL (show di≠0 by omega);rw[docLoop] at aP;refine j8 m1 (λ_=>?_) (λe=>absurd rfl e);rw[gl];refine sa m1 I aC λbS n3 vm fg=>?_;rw[<-fg] at aP;have hV:=aY.rd (j:=bS) (m9:=0) kC I;have abI:0<bJ.length:=al
     have asH:cur<bJ.length:=by rw[aY.jC];obtain⟨kv,aq⟩:=AU;grind
     refine⟨λv ae=>(∃(g:H) (bc:Nat) (hy:List (bW bL)) (M2 nX:List Nat) (f_:cH) (lu:Nat),v=aN (nX.getD lu 0)/\ae=a3 g p D 42 bc 0/\bc<=D.length/\fa (a3 g p D 42 bc 0) hy M2 nX f_/\dL c5 f_ cb.size/\fr c5 (a3 cb p D 42 0 0) (a3 g p D 42 0 0)/\cz hy lu/\lq hy/\nX.getD 0 0=cv/\rW (valueF (D.length+1) (D.length+1)) (D.length+1) aj M cur (D.drop bS)=.ok hy M2 lu (D.drop bc))\/
      (∃(g:H) (c:Nat),ae=a3 g p D 42 D.length c/\fr c5 (a3 cb p D 42 0 0) (a3 g p D 42 0 0)/\c≠0/\rW (valueF (D.length+1) (D.length+1)) (D.length+1) aj M cur (D.drop bS)=.no c),λd v ae cr=>?_,?_⟩
     .have l9:D.length<=400:=I
      rcases cr with ⟨fW,bc,hy,M2,nX,f_,lu,rfl,rfl,ij,iB,xL,g0,asG,vp,H',e_⟩|⟨fW,c,rfl,g0,ay,e_⟩
      .rw[e_] at aP;have qq:=azB (j:=0) (Kk _) e_;simp only[ix] at qq;have acM:=qq.2.1 x2;have wC:p<fW.size:=al
       have Iz:f_ p=J pH:=by rw[xL p I];exact Bs
       refine sa wC l9 ij λeL wv xU mB=>?_;simp only[restS] at aP;rw[<-mB] at aP;refine W_ wC l9 xU ?_;cases AT:comment (D.drop eL) with
       |no c=>
        rw[AT] at aP;intro ay v aD;refine j8 wC (λe=>absurd e ay) λ_=>?_;refine aR ?_;grind
       |ok u sF=>
        rw[AT] at aP;simp only at aP;have eS:=QA AT;intro vy Fq A5;subst A5;simp only[ix] at eS;have AM:=iB.rd (j:=vy) (m9:=0) Iz I;refine j8 wC (λ_=>?_) (λe=>absurd rfl e);refine aR ?_;refine B6 wC (λwo=>?_) λwo=>?_
        .rw[aA (iu wo)] at aP;refine aR ?_;rw[<-H'];have Tz:0<hy.length:=by obtain⟨kv,aq⟩:=acM;grind
         refine W' hy.length AM Tz I I λg' v sj gR=>?_;have acQ:=sj.1;rw[dm] at acQ;have aEv:=(uz fW g0).1;have kB:g'[h.size]?=J (.cells (Z 28).toArray 28):=by
          rw[sj.2 _ (by rw[dm];omega),g1 I];grind
         obtain⟨cs,eC,mz,mb⟩:=gR.oi;subst eC;refine s0 (n:=5) (k:=λh v _=>R (.tuple #[v,.i 0]) h) kB gJ mz mb λh' aw=>?_;have auP:=aw.1;rw[<-aP] at q;refine q h' _ ⟨I,λb af=>?_⟩ (gR.kF (λb af aH=>aw.2 b af λe=>?_) λb af aH=>?_)
         .rw[aw.2 b I (λe=>al),sj.2 b (by rw[dm];omega),g1 I,uc fW g0 b af]
         .cases e;rw[xL _ I,UE _ I I] at aH;cases aH
         .unfold old;rw[ak];intro a';rw[xL b I] at aH;grind
        .rw[ak (λe=>al)] at aP;refine aR ?_;refine Ef wC l9 Fq (λNt aEz atj sy=>?_) λsy=>?_
         .rw[sy] at aP;refine aR ?_;exact a7 (D.length-Nt+1) _ _ I (.inl ⟨fW,Nt,di,hy,M2,nX,f_,lu,rfl,rfl,atj,iB.rd Iz I,xL,g0,asG,acM,vp,H',I,I,aP,rfl⟩)
         .rw[sy] at aP;refine aR ?_;refine iK (n:=1) wC ?_;rw[aA rfl];exact a7 0 _ _ I (.inr ⟨fW,1,rfl,g0,aE,aP.symm,rfl⟩)
      .rw[e_] at aP;simp only[restS] at aP;have wC:p<fW.size:=al
       refine sa wC l9 (bQ _) λeL wv xU _=>?_;have wx:eL=D.length:=I
       subst wx;refine aiW wC l9 ?_;refine j8 wC (λe=>absurd e ay) λ_=>?_;refine aR ?_;grind
     .have l9:D.length<=400:=I
      refine hn m1 l9 I ?_;obtain⟨bb,kB⟩:∃bb,bb=decide (tX (D.drop bS)):=⟨_,rfl⟩;refine⟨λv ae=>ae=a3 g p D 42 bS 0/\v=.bool bb,λd v ae cr=>?_,?_⟩
      .obtain⟨rfl,rfl⟩:=cr;by_cases dR:tX (D.drop bS)
       .rw[kB,j7 dR,gl];exact .inl ⟨g,bS,aj,M,bJ,a_,cur,rfl,rfl,vm,hV,iS,cE,AU,bk,jT,by unfold rW;grind⟩
       .rw[kB,ig dR];have ati:bS<D.length:=by
         rcases jw bS D.length with e|e
         .exact e
         .exact absurd (.inl (iu e)) dR
        refine aR ?_;refine⟨λhK=>?_,λhK=>?_⟩
        .have e_:rW (valueF (D.length+1) (D.length+1)) (D.length+1) aj M cur (D.drop bS)=zD (D.length+1) (D.drop bS) aj M:=by unfold rW;rw[ak dR,eF,aA hK]
         rw[e_];have:=aiB (own:=a_) (F:=D.length+1) (R:=λv ae=>(∃(g:H) (bc:Nat) (hy:List (bW bL)) (M2 nX:List Nat) (f_:cH) (lu:Nat),v=aN (nX.getD lu 0)/\ae=a3 g p D 42 bc 0/\bc<=D.length/\fa (a3 g p D 42 bc 0) hy M2 nX f_/\dL c5 f_ cb.size/\fr c5 (a3 cb p D 42 0 0) (a3 g p D 42 0 0)/\cz hy lu/\lq hy/\nX.getD 0 0=cv/\zD (D.length+1) (D.drop bS) aj M=.ok hy M2 lu (D.drop bc))\/
          (∃(g:H) (c:Nat),ae=a3 g p D 42 D.length c/\fr c5 (a3 cb p D 42 0 0) (a3 g p D 42 0 0)/\c≠0/\zD (D.length+1) (D.drop bS) aj M=.no c)) (MC g cE) I m1 kC hV x2 bk l9 I ati I (by
           cases hs:zD (D.length+1) (D.drop bS) aj M with
           |no c=>exact λay h' v g7=>.inr ⟨h',c,rfl,cE.trans g7 (by rw[dm];exact iS),ay,rfl⟩
           |ok hy M2 lu dA=>exact λh' gN f_ bc ij fF iB xL g7 wH kY lx=>.inl ⟨h',bc,hy,M2,gN,f_,lu,rfl,rfl,ij,iB,iS.trans xL MV,cE.trans g7 (by rw[dm];exact iS),wH,kY,by rw[lx 0 abI];exact jT,by rw[fF]⟩)
         rw[jT] at this;exact this
        .have e_:rW (valueF (D.length+1) (D.length+1)) (D.length+1) aj M cur (D.drop bS)=curP cur (pairP (valueF (D.length+1) (D.length+1)) (D.length+1) (D.drop bS) aj M cur):=by unfold rW;rw[ak dR,eF,ak hK]
         rw[e_];refine W7 (own:=a_) (ajb (D.length+1) (D.length+1)) (MC g cE) I m1 kC hV AU l9 I vm I I ?_;cases x0:pairP (valueF (D.length+1) (D.length+1)) (D.length+1) (D.drop bS) aj M cur with
         |no c=>exact λay h' g7=>.inr ⟨h',c,rfl,cE.trans g7 (by rw[dm];exact iS),ay,rfl⟩
         |ok hy M2 dA=>exact λh' gN f_ bc ij fF iB xL g7 lx=>.inl ⟨h',bc,hy,M2,gN,f_,cur,by rw[lx cur asH],rfl,ij,iB,iS.trans xL MV,cE.trans g7 (by rw[dm];exact iS),(N5 x0).1 AU,(N5 (j:=0) x0).2 bk,by rw[lx 0 abI];exact jT,by rw[fF];rfl⟩
      .have y:tX (D.drop bS)->Value.bool ai=.bool bb:=λe=>al
       have y':¬tX (D.drop bS)->Value.bool av=.bool bb:=λe=>al
       refine B6 m1 (λwo=>?_) λwo=>?_
       .rw[gl];exact⟨rfl,y (.inl (iu wo))⟩
       .have aEP:D.drop bS≠[]:=λe=>al
        unfold tX at y y';rw[eF] at y y';clear kB;have BQ:F.g D bS=35->a3 g p D 42 bS 0=a3 g p D 42 bS 0/\Value.bool ai=.bool bb:=λe=>⟨rfl,y (.inr (.inl e))⟩;have aG5:F.g D bS=10->a3 g p D 42 bS 0=a3 g p D 42 bS 0/\Value.bool ai=.bool bb:=λe=>⟨rfl,y (.inr (.inr (.inl e)))⟩;generalize abn:(λ(v:ao) (ae:H)=>ae=a3 g p D 42 bS 0/\v=.bool bb)=z';have i35:F.g D bS=35->z' (.bool ai) (a3 g p D 42 bS 0):=λe=>al
        have i10:F.g D bS=10->z' (.bool ai) (a3 g p D 42 bS 0):=λe=>al
        rw[ga];refine aR ?_;refine⟨i35,λpB=>⟨i10,λdh=>sU m1 l9 vm a1 (λasE=>?_) λasE=>?_⟩⟩
        .grind
        grind
    .obtain⟨MV,wq⟩:=uz g cE;refine j8 I (λe=>absurd e ay) λ_=>?_;rw[ga];grind
 .rw[ak al] at q;(simp-implicitDefEqProofs+contextual (disch:=omega) only[go_sem,yD];try refine c8 ?_)
  grind
end
def Jx(aF:b2 h v 6 L ro)(hD:U L=6*n):fb v=J (ah (n:Int))/\∀k:Nat,k<n->∃a,ia 6 v (ah (k:Int))=J a/\∀(K:F.K) (h':H),aB h h'->cO 6 a h' K=K (cA (aZ (bf 6 (ax (6*k) L)))) h':=by
 cases ro with
 |none=>
  obtain⟨rfl,rfl⟩:=aF;simp at hD;have kX:n=0:=I
  subst kX;exact⟨rfl,λk aq=>I⟩
 |some r=>
  obtain⟨len,cap,c,t,rfl,aa,ad,an,aT,bN⟩:=aF;have au:n=len:=I
  subst au;refine⟨rfl,λk aq=>?_⟩;have acA:((⟨r,0,ab⟩:Addr).add (k*6)).block=r/\((⟨r,0,ab⟩:Addr).add (k*6)).off=k*6/\((⟨r,0,ab⟩:Addr).add (k*6)).spot=ab:=Hc;generalize fO:((⟨r,0,ab⟩:Addr).add (k*6))=A at acA;obtain⟨KI,ahL,ahO⟩:=A;obtain⟨rfl,rfl,rfl⟩:=acA;refine⟨bU (J ⟨KI,k*6,ab⟩),?_,λK h' e=>?_⟩
  .simp only[ia,pU];grind
  .have af:=(e.2 KI (cm.1 aa).1).trans aa;have eC:k*6+6<=ag c:=I
   rw[yL (n:=5) af I];have:c.extract (k*6) (k*6+(5+1))=aZ (bf 6 (ax (6*k) L)):=by
    grind
   rw[this]
def Xq(d:gd own h DX t):∀{V8:ao} {g:H} {R:K},gd own h V8 t->aB h g->(∀g',aB g g'->R (.bool ai) g')->bo 8 [DX,V8] g R:=by
 induction d with
 | @mk k i b s keys items kv iv cs aa ad an aW aT bR=>
  intro V8 g R d2 eQ q;cases d2 with
  | @mk _ _ _ _ _ _ hO tu QC ct bd cb _ eZ=>
   apply amQ;unfold lh;obtain⟨je,cc,_⟩:=aa;obtain⟨e7,cK,_⟩:=ad;obtain⟨ay8,df,_⟩:=ct;obtain⟨aGy,gB,_⟩:=bd;have ar:aB g (a6 (a6 g (.cells (aZ (cellsL (.agg #[.b k,.i i,.u b,S s,kv,iv]))) 28)) (.cells (aZ (cellsL (.agg #[.b k,.i i,.u b,S s,hO,tu]))) 28)):=(aB.push _ _).trans (aB.push _ _);have cg:(a6 (a6 g (.cells (aZ (cellsL (.agg #[.b k,.i i,.u b,S s,kv,iv]))) 28)) (.cells (aZ (cellsL (.agg #[.b k,.i i,.u b,S s,hO,tu]))) 28))[ag g]?=J (.cells #[.b k,.i i,.u b,S s,kv,iv] 28):=rU;have cJ:(a6 (a6 g (.cells (aZ (cellsL (.agg #[.b k,.i i,.u b,S s,kv,iv]))) 28)) (.cells (aZ (cellsL (.agg #[.b k,.i i,.u b,S s,hO,tu]))) 28))[ag (a6 g (.cells (aZ (cellsL (.agg #[.b k,.i i,.u b,S s,kv,iv]))) 28))]?=J (.cells #[.b k,.i i,.u b,S s,hO,tu] 28):=dS _ _;generalize ag (a6 g (.cells (aZ (cellsL (.agg #[.b k,.i i,.u b,S s,kv,iv]))) 28))=cp at*;generalize a6 (a6 g (.cells (aZ (cellsL (.agg #[.b k,.i i,.u b,S s,kv,iv]))) 28)) (.cells (aZ (cellsL (.agg #[.b k,.i i,.u b,S s,hO,tu]))) 28)=bd at*;have uc:=eQ.trans ar;obtain⟨c3,_⟩:=j1 cc;obtain⟨jX,_⟩:=j1 df;rw[oE] at c3 jX;obtain⟨dA,I7⟩:=Jx cK an;obtain⟨sF,NH⟩:=Jx gB cb;have fj:bn .neq (.b k) (.b k)=J (.bool av):=by simp[bn,eqV]
   have h2:bn .neq (.i i) (.i i)=J (.bool av):=by simp[bn,eqV]
   have tw:bn .neq (.u b) (.u b)=J (.bool av):=by simp[bn,eqV]
   have FX:∀s,bn .neq (S s) (S s)=J (.bool av):=λs=>by simp[bn,eqV,S]
   have Ur:∀n:Nat,bn .neq (.i n) (.i n)=J (.bool av):=λn=>by simp[bn,eqV]
   refine ag8 (c4 cg) (c4 cJ) fj h2 tw FX Ur c3 dA jX sF sF ?_;have Js:b2 bd kv 1 (keys.map S) je:=cc.at λr er=>by subst er;exact uc.2 r cc.lt
   have afm:b2 bd hO 1 (keys.map S) ay8:=df.at λr er=>by subst er;exact uc.2 r df.lt
   obtain⟨_,TV⟩:=j1 Js;obtain⟨_,NG⟩:=j1 afm;refine eV (λm v ae=>∃j:Nat,v=.i j/\j<=U keys/\bd=ae/\m=U keys-j) (U keys) ⟨0,rfl,ed _,rfl,rfl⟩ ?_;rintro m _ v ae N ⟨j,rfl,aC,rfl,rfl⟩ a7;by_cases a':j<U keys
   .obtain⟨bx,hW,mW⟩:=TV j (S keys[j]) al;obtain⟨cq,Sd,wc⟩:=NG j (S keys[j]) al;refine xb (c4 cg) (c4 cJ) hW mW Sd wc FX FX ?_;exact a7 _ _ _ I ⟨j+1,rfl,a',rfl,rfl⟩
   .have wx:j=U keys:=I
    refine hk (c4 cg) (c4 cJ) dA ?_;refine eV (λm v ae=>∃j:Nat,v=.i j/\j<=U items/\aB bd ae/\m=U items-j) (U items) ⟨0,rfl,ed _,aB.refl _,rfl⟩ ?_;rintro gz _ v ae Af ⟨n,rfl,aI,ex,rfl⟩ rD;have c1:=(ex.2 _ (cm.1 cg).1).trans cg;have c2:=(ex.2 _ (cm.1 cJ).1).trans cJ;by_cases qZ:n<U items
    .obtain⟨bH,um,g0⟩:=I7 n qZ;obtain⟨dT,ar8,arL⟩:=NH n qZ;(simp-implicitDefEqProofs+contextual (disch:=omega) only[go_sem,fs c1,fs c2,um,ar8,g0 _ ae (uc.trans ex),arL _ ae (uc.trans ex)];try refine c8 ?_)
     refine bR n items[n] (h5 qZ) (eZ n items[n] (h5 qZ)) (uc.trans ex) λg' c'=>?_;(simp-implicitDefEqProofs+contextual (disch:=omega) only[go_sem];try refine c8 ?_)
     exact rD _ _ _ I ⟨n+1,rfl,qZ,ex.trans c',rfl⟩
    .refine aR ?_;exact q _ (ar.trans ex)
def digN:Nat->Nat->B
 |0,_=>[]
 |w+1,n=>UInt8.ofNat (48+n/10^w%10)::digN w n
def qe:∀w n,U (digN w n)=w
 |0,_=>rfl
 |w+1,n=>by simp[digN,qe w n]
def U8{a n:Nat}(h:0<(OfNat.ofNat n:Nat))(bE:a<9223372036854775808):bn .quo (ah (a:Int)) (ah (no_index (OfNat.ofNat n):Int))=J (ah ((a/OfNat.ofNat n:Nat):Int)):=by
 have aW:((OfNat.ofNat n:Nat):Int)≠0:=I
 show(if IntKind.i64=IntKind.i64 then(if((OfNat.ofNat n:Nat):Int)=0 then ab else J (Value.int .i64 (IntKind.i64.wrap ((a:Int).tdiv ((OfNat.ofNat n:Nat):Int))))) else ab)=_;rw[aA rfl,ak aW];have e:(a:Int).tdiv ((OfNat.ofNat n:Nat):Int)=((a/OfNat.ofNat n:Nat):Int):=by
  grind
 have a':a/(OfNat.ofNat n:Nat)<9223372036854775808:=nT (ahF _ _) bE;have hw:∀x:Nat,x<9223372036854775808->IntKind.i64.wrap (x:Int)=x:=λx ae=>by simp[IntKind.wrap,IntKind.bits,IntKind.signed];omega
 grind
def afZ{x z:ao}:∀m,(List.replicate (m+1) z++L).set m x=List.replicate m z++x::L
 |0=>rfl
 |m+1=>by
  rw[ahB,uM,ahC,afZ m,ahB,uM]
section
variable{h:H}{R:K}{n w:Nat}
def yH(aI:n<1000000000000)(FM:0<w)(hw:w<=20)(q:∀h',aB h h'->R (S (digN w n)) h'):bo 58 [ah (n:Int),ah (w:Int)] h R:=by
 apply amu;have Ix:∀K,Ms 5 1 (Z 5) (ah w) (ah w) h K=K (a5 (J ⟨ag h,0,ab⟩) w w) (a6 h (aO (aZ (List.replicate w (bu 0))) 5)):=λK=>by
  have aF:∀m,repL m [Value.int .u8 0]=List.replicate m (bu 0):=λm=>by
   induction m with
   |zero=>rfl
   |succ m bR=>rw[repL,bR];rfl
  simp only[Ms,u5,pU,aF];grind
 refine bG Ix ?_;refine jn (λm v u ae=>∃(k:Nat) (c:Array ao),k<=w/\v=ah (n/10^k:Nat)/\u=(if k=w then ah (-1) else ah (w-1-k:Nat))/\aB h ae/\ae[ag h]?=J (aO c 5)/\bC c=List.replicate (w-k) (bu 0)++(digN k n).map bv/\m=w-k) w
  ⟨0,_,ed _,a1,al,aB.push _ _,dS _ _,by simp[digN],rfl⟩ ?_
 rintro m _ v u ae N ⟨k,c,aq,rfl,rfl,ex,ay,eS,rfl⟩ a7;by_cases aci:k=w
 .subst aci;rw[aA rfl];have aX:bn h0 (ah (-1)) (ah 0)=J (aQ av):=rfl;rw[pW,List.replicate_zero,sS] at eS;rw[aX];refine aR ?_;have eC:ag c=k:=by rw[<-Kv,eS,oE,qe]
  refine xj (bb:=ag h) ⟨0,k,k,c,5,_,rfl,by rw[qe],ay,I,?_⟩ (q _ ex);have aD9:c.extract 0 k=c:=al
  grind
 .rw[ak aci];have aG:n/10^k%10<10:=z1 _ aE;have atX:n/10^k<=n:=ahF _ _;have aX:bn h0 (ah (w-1-k:Nat)) (ah 0)=J (aQ ai):=by simp[bn]
  have eC:ag c=w:=by rw[<-Kv,eS,r8,List.length_replicate,oE,qe];omega
  have bE:bn .add (ah 48) (ah (n/10^k%10:Nat))=J (ah (48+n/10^k%10:Nat)):=qL (a:=48) I;have AS:ci .u8 (ah (48+n/10^k%10:Nat))=J (bu (48+n/10^k%10:Nat)):=by simp[ci,IntKind.wrap,IntKind.bits,IntKind.signed];try omega
  have b5:bn .quo (ah (n/10^k:Nat)) (ah 10)=J (ah (n/10^(k+1):Nat)):=by rw[U8 (n:=10) aE I,ph,<-Nat.div_div_eq_div_mul]
  have aL:bn .sub (ah (w-1-k:Nat)) (ah 1)=J (if k+1=w then ah (-1) else ah (w-1-(k+1):Nat)):=by
   by_cases jb:k+1=w
   .rw[aA jb,(I:w-1-k=0)];rfl
   .rw[ak jb];have:=m' (a:=w-1-k) (b:=1) I I;omega
  rw[aX];refine i_ bE AS b5 aL ?_;refine fx (o:=w-1-k) ay I rfl rfl λbd ar cF=>?_;try refine aR ?_
  refine a7 (w-(k+1)) _ _ _ I ⟨k+1,_,I,rfl,rfl,bV.fe ex ar λr aF=>al,cF,?_,rfl⟩;rw[BT,eS,(I:w-k=(w-1-k)+1),afZ,(I:w-(k+1)=w-1-k),digN,kp,vX I]
end
def qd(y m d:Nat):B:=digN 4 y++[45]++digN 2 m++[45]++digN 2 d
def qb(a b c n:Nat):B:=digN 2 a++[58]++digN 2 b++[58]++digN 2 c++(if n=0 then[] else[46]++trim0 9 (digN 9 n))
def uK(z:Int):B:=if z=0 then[90] else(if z<0 then[45] else[43])++digN 2 (z.natAbs/3600)++[58]++digN 2 (z.natAbs/60%60)
section
variable{h:H}{R:K}{y m d a b c n:Nat}
def Pp(a2:y<1000000000000)(hm:m<1000000000000)(aG:d<1000000000000)(q:∀h',aB h h'->R (S (qd y m d)) h'):bo 36 [ah (y:Int),ah (m:Int),ah (d:Int)] h R:=by
 apply al8;refine aR ?_;have eE:∀a b,U a<=1000->U b<=1000->bn .add (S a) (S b)=J (S (a++b)):=λa b aa ad=>Hb I;have sF:U (digN 4 y)=4:=qe 4 y;have dA:U (digN 2 m)=2:=qe 2 m;have jX:U (digN 2 d)=2:=qe 2 d;refine yH (w:=4) a2 aE aE λct aw=>?_;rw[eE _ [45] I aE,bs];refine yH (w:=2) hm aE aE λbd ar=>?_;rw[eE _ _ (by simp;omega) I,bs,eE _ [45] (by simp;omega) aE,bs];refine yH (w:=2) aG aE aE λcb aS=>?_;rw[eE _ _ (by simp;omega) I,bs];exact q _ ((aw.trans ar).trans aS)
def QL:∀{w n:Nat},n<10^w->n≠0->∃c∈digN w n,c≠48
 |0,n,h,aW=>I
 |w+1,n,h,aW=>by
  rw[digN];by_cases aV:n/10^w%10=0
  .have aJ:0<10^w:=ob aE;have b5:n/10^w<10:=by rw[Nat.div_lt_iff_lt_mul aJ,xh];omega
   have aum:n/10^w=0:=al
   have aI:n<10^w:=m8
   obtain⟨c,ay,j'⟩:=QL aI aW;grind
  .refine⟨_,uO,λe=>?_⟩;have:=mQ UInt8.toNat e;simp at this;omega
def Pq(bE:a<1000000000000)(af:b<1000000000000)(ay:c<1000000000000)(aI:n<1000000000)(q:∀h',aB h h'->R (S (qb a b c n)) h'):bo 37 [.i (a:Int),.i (b:Int),.i (c:Int),.i (n:Int)] h R:=by
 apply al9;refine aR ?_;have eE:∀a b,U a<=1000->U b<=1000->bn .add (S a) (S b)=J (S (a++b)):=λa b aa ad=>Hb I;have c3:U (digN 2 a)=2:=qe 2 a;have dA:U (digN 2 b)=2:=qe 2 b;have jX:U (digN 2 c)=2:=qe 2 c;unfold qb at q;refine yH (w:=2) bE aE aE λct aw=>?_;rw[eE _ [58] I aE,bs];refine yH (w:=2) af aE aE λbd ar=>?_;rw[eE _ _ (by simp;omega) I,bs,eE _ [58] (by simp;omega) aE,bs];refine yH (w:=2) ay aE aE λcb aS=>?_;have yZ:=(aw.trans ar).trans aS;have aFH:U (digN 2 a++[58]++digN 2 b++[58]++digN 2 c)<=900:=by simp;omega
 rw[eE _ _ (by simp;omega) I,bs];generalize digN 2 a++[58]++digN 2 b++[58]++digN 2 c=base at*;refine aR ?_;refine⟨λaW=>?_,λaW=>?_⟩
 .grind
 .have RR:¬n=0:=I
  rw[ak RR] at q;refine yH (w:=9) I aE aE λeZ bl=>?_;refine eV (λm v ae=>∃(l:B) (k:Nat),v=S l/\ae=eZ/\(∃c∈l,c≠48)/\U l<=k/\k<=9/\trim0 k l=trim0 9 (digN 9 n)/\m=k) 9 ⟨digN 9 n,9,rfl,rfl,QL aI RR,by rw[qe];omega,I,rfl,rfl⟩ ?_;rintro k _ v ae N ⟨l,_,rfl,rfl,⟨x,kc,k3⟩,Fx,atr,uy,rfl⟩ a7;have h_:0<U l:=lJ.2 (λe=>al);obtain⟨k,rfl⟩:=tL (I:k≠0);rw[trim0] at uy;have es:bn .sub (.i (U l)) (.i 1)=J (.i (U l-1:Nat)):=m' (a:=U l) (b:=1) I I;have aX:F.g l (U l-1)=l[U l-1].toNat:=fu I;have AL:(l[U l-1]=48)↔F.g l (U l-1)=48:=by
   rw[aX];exact⟨λe=>by rw[e];rfl,λe=>oF.1 (by rw[e];rfl)⟩
  (simp-implicitDefEqProofs+contextual (disch:=omega) only[go_sem,es,m3 (I:U l-1<U l)];try refine c8 ?_)
  refine⟨λe=>?_,λe=>?_⟩
  .rw[aA e] at uy;refine a7 k _ _ I ⟨bf (U l-1) l,k,rfl,rfl,?_,al,I,uy,rfl⟩;have aG:l=bf (U l-1) l++[l[U l-1]]:=by
    rw[<-List.dropLast_eq_take];conv=>lhs;rw[<-aBK (lJ.1 h_)]
    grind
   grind
  .rw[ak e] at uy;rw[<-uy] at q;rw[eE base [46] I aE,bs,eE _ _ (by simp;omega) I,bs];have:=q _ (yZ.trans bl);grind
def ajl(aI:n<1000000)(kX:n≠0)(aL:U m_=1)(q:∀h',aB h h'->R (S (m_++digN 2 (n/3600)++[58]++digN 2 (n/60%60))) h')(K:H->Prop):
  Pu (bn cQ (ah (n:Int)) (ah 0)) h λfI h=>b1 fI (K h)<|Pu (bn .quo (ah (n:Int)) (ah 3600)) h λv6 h=>bD 58 [v6,(ah 2)] h λhH h=>Pu (bn .add (S m_) hH) h λj4 h=>Pu (bn .add j4 (S [58])) h λj5 h=>Pu (bn .quo (ah (n:Int)) (ah 60)) h λv10 h=>Pu (bn .rem v10 (ah 60)) h λv11 h=>bD 58 [v11,(ah 2)] h λhv h=>Pu (bn .add j5 hv) h λjG h=>R jG h:=by
 have eE:∀a b,U a<=1000->U b<=1000->bn .add (S a) (S b)=J (S (a++b)):=λa b aa ad=>Hb I;have c3:U (digN 2 (n/3600))=2:=qe 2 _;have dA:U (digN 2 (n/60%60))=2:=qe 2 _;have aV:bn cQ (ah n) (ah 0)=J (aQ av):=by simp[bn,eqV];omega
 have bq:bn .quo (ah n) (ah 3600)=J (ah (n/3600:Nat)):=U8 (n:=3600) aE I;have bw:bn .quo (ah n) (ah 60)=J (ah (n/60:Nat)):=U8 (n:=60) aE I;have fm:bn .rem (ah (n/60:Nat)) (ah 60)=J (ah (n/60%60:Nat)):=ay2 (n:=60) aE;rw[aV,bs,ga,bq,bs];refine yH (w:=2) (nT (ahF _ _) I) aE aE λct aw=>?_;rw[eE _ _ I I,bs,eE _ [58] (by simp;omega) aE,bs,bw,bs,fm,bs];refine yH (w:=2) I aE aE λbd ar=>?_;rw[eE _ _ (by simp;omega) I,bs];exact q _ (aw.trans ar)
def ajk(aa: -1000000<z)(ad:z<1000000)(q:∀h',aB h h'->R (S (uK z)) h'):bo 38 [ah z] h R:=by
 apply ama;unfold uK at q;by_cases aV:z=0
 .subst aV;have l0:bn fG (ah 0) (ah 0)=J (aQ av):=rfl;refine bG l0 ?_;refine rv (λv w ae=>v=ah 0/\ae=h) (λN a7=>?_) λv w ae aD=>?_
  .refine aR ?_;grind
  .obtain⟨rfl,rfl⟩:=aD;refine aR ?_;rw[aA rfl] at q;exact q _ (aB.refl _)
 .rw[ak aV] at q;refine rv (λv w ae=>v=ah z.natAbs/\w=S (if z<0 then[45] else[43])/\ae=h) (λN a7=>?_) λv w ae aD=>?_
  .by_cases aI:z<0
   .have l0:bn fG (ah z) (ah 0)=J (aQ ai):=by simp[bn,aI]
    have agX:un .neg (ah z)=J (ah z.natAbs):=by
     simp[un,IntKind.wrap,IntKind.bits,IntKind.signed];omega
    refine dG l0 agX ?_;grind
   .have l0:bn fG (ah z) (ah 0)=J (aQ av):=by simp[bn];omega
    have agX:z=(z.natAbs:Int):=I
    refine bG l0 ?_;grind
  .obtain⟨rfl,rfl,rfl⟩:=aD;refine ajl (n:=z.natAbs) I I al q (λh=>R (fo ⟨#[90]⟩) h)
end
def oK:Z 33=[bu 0,ah 0,a4 0,S [],a5 ab 0 0,a5 ab 0 0]:=b4
section
variable{h g X:H}{R K:K}{b r i n:Nat}{v x:ao}{L:List ao}{ro:Option Nat}{key:B}{c6:Array ao}
def aop(ae:X[b]?=J (aO #[S key] 9)) (aF:b2 X v 1 L ro) (au:U L<=100000) (q:∀ch lQ b0,bV ro X lQ->b2 lQ ch 1 (L++[S key]) b0->(b0=ro\/∃r,b0=J r/\ag X<=r)->K ch lQ):Ap 9 1 16 (Z 9) v (a5 (J ⟨b,0,ab⟩) 1 1) X K:=by
 refine b2.append (n:=1) (new:=#[S key]) (M:=[S key]) aF aE (by rw[tR];rfl) rfl ?_ rfl rfl rfl (by simp;omega) λch h' b0 aw fh dF=>q ch h' b0 aw fh ?_
 .simp[shown,ae]
 grind
def aoo{tg:Nat}(ae:X[b]?=J (aO c6 tg))(ay:ag c6=6)(aH:ones (bC c6)=ai)(aF:b2 X v 6 L ro)(au:U L<=100000)(q:∀ch lQ b0,bV ro X lQ->b2 lQ ch 6 (L++bC c6) b0->(b0=ro\/∃r,b0=J r/\ag X<=r)->K ch lQ):Ap 33 6 88 (Z 33) v (a5 (J ⟨b,0,ab⟩) 1 1) X K:=by
 refine b2.append (n:=1) (new:=c6) (M:=bC c6) aF aE (by rw[oK];rfl) rfl ?_ rfl aH (by simp[ay]) al λch h' b0 aw fh dF=>q ch h' b0 aw fh ?_
 .simp only[shown,ae];simp_all
 grind
def Y8:ew 9 1 (Z 9) [(0,1,S key)] X K=K (a5 (J ⟨ag X,0,ab⟩) 1 1) (a6 X (aO #[S key] 9)):=by rw[tR,D_ rfl rfl]
def Ql(ay:ag c6=6):ew 33 1 (Z 33) [(0,6,cA c6)] X K=K (a5 (J ⟨ag X,0,ab⟩) 1 1) (a6 X (aO c6 33)):=by
 rw[D' (sz:=6) (cx:=bC c6) (by rw[oK];rfl) rfl I,OV]
def afL{sz:Nat}{K:H->Prop}(aF:b2 h v sz L (J r))(hD:U L=n*sz)(az:i<n)(c0:0<sz)(ot:cellsL x=cx)(eS:U cx=sz)(aH:ones cx=ai)(q:∀h',bV (J r) h h'->b2 h' v sz (bf (i*sz) L++(cx++ax (i*sz+sz) L)) (J r)->K h'):
  ∃a,ia sz v (ah (i:Int))=J (bU (J a))/\a.block=r/\bZ sz (bU (J a)) x h λ_ h=>K h:=by
 obtain⟨len,cap,c,t,rfl,aa,ad,an,aT,bN⟩:=aF;have au:len=n:=GB c0 I;subst au;have fO:=@Hc r (i*sz);refine⟨(⟨r,0,ab⟩:Addr).add (i*sz),?_,fO.1,?_⟩
 .simp only[ia,pU];grind
 .generalize (⟨r,0,ab⟩:Addr).add (i*sz)=A at fO;obtain⟨KI,ahL,ahO⟩:=A;obtain⟨rfl,rfl,rfl⟩:=fO;have hle:i*sz+sz<=len*sz:=by rw[<-Nat.succ_mul];exact jx _ az
  have aEH:len*sz<=ag c:=al
  have a':KI<ag h:=(cm.1 aa).1;rw[xv aa al al I (bt (ed _)),ot];refine q _ ⟨a1,λy a2 bk=>al⟩ ⟨len,cap,ht c (i*sz) cx,t,rfl,by simp[a'],ad,by rw[zH];exact an,?_,?_⟩
  .grind
  .have IF:∀vs c (o:Nat),o+U vs<=ag c->bC (ht c o vs)=bf o (bC c)++(vs++ax (o+U vs) (bC c)):=by
    intro vs;induction vs with
    |nil=>intro c o _;simp[ht]
    |cons v vs bR=>
     intro c o aH;simp only[nS] at aH;rw[ht,bR _ _ (by simp;omega)];have uu:o<U (bC c):=by simp;omega
     rw[BT,BY,List.drop_set];have aw:(bf (o+1) (bC c)).set o v=bf o (bC c)++[v]:=by
      rw[Wt uu,aBU _ _ (by simp;omega)];have aV:o-min o (ag c)=0:=I
      simp[aV]
     rw[aw,aA I];grind
   rw[IF _ _ _ I,eS];have eC:U (bf (i*sz) (bC c))=i*sz:=al
   have abv:L=bf (len*sz) (bC c):=al
   have atF:U (bf (i*sz) L++(cx++ax (i*sz+sz) L))=len*sz:=by
    grind
   have t1:bf (len*sz) (bf (i*sz) (bC c))=bf (i*sz) (bC c):=xg I;have t2:bf (len*sz-i*sz) cx=cx:=xg I;rw[atF,aBW,eC,t1,aBW,eS,t2];rw[abv,Wu,yy I,BW];grind
structure xn(h G:H)(own:cH)(acc:List (B×bL))(j:Nat)(ke k5:ao)(y:B)(cs d6:List ao)(b_ cp:Nat):Prop where
 ex:aB h G
 sz:ag h+2<=ag G
 v1:∃c1,G[ag h]?=J (aO c1 33)/\ag c1=6
 dD:G[ag h+1]?=J (aO #[bu 9,ah 0,a4 0,S [],ke,k5] 33)
 m4:b2 G ke 1 (bf j ((acc.map Prod.fst).map S)++([S y]++ax j ((acc.map Prod.fst).map S))) (J b_)
 IZ:b2 G k5 6 (bf (j*6) cs++(d6++ax (j*6) cs)) (J cp)
 dl:U d6=6
 NY:ones d6=ai
 aeV:ones cs=ai
 cl:U cs=6*U acc
 it:∀n x,acc[n]?=J x->gd own h (cA (aZ (bf 6 (ax (6*n) cs)))) x.2
 fj:ag h+2<=b_
 h2:ag h+2<=cp
 ne:b_≠cp
def xn.set{G:H}{own:cH}{acc:List (B×bL)}{j:Nat}{ke k5:ao}{y y':B}{b_ cp:Nat}{K:H->Prop}(d:xn h G own acc j ke k5 y cs d6 b_ cp)(aC:j<=U acc)(he:U e6=6)(aH:ones e6=ai)(q:∀fJ,xn h fJ own acc j ke k5 y' cs e6 b_ cp->K fJ):
  ∃bx bH,ia 1 ke (ah (j:Int))=J (bU (J bx))/\ia 6 k5 (ah (j:Int))=J (bU (J bH))/\PV 1 (bU (J bx)) (S y') [(bU (J ⟨ag h+1,5,ab⟩),1)] G λ_ g=>bZ 6 (bU (J bH)) (cA (aZ e6)) g λ_ g=>K g:=by
 have fg:U (bf j ((acc.map Prod.fst).map S))=j:=al
 have fF:U (bf (j*6) cs)=j*6:=by rw[yv,d.cl];omega
 have arN:U (bf j ((acc.map Prod.fst).map S)++([S y]++ax j ((acc.map Prod.fst).map S)))=(U acc+1)*1:=al
 have My:U (bf (j*6) cs++(d6++ax (j*6) cs))=(U acc+1)*6:=by simp only[r8,fF,d.dl,ix,d.cl];omega
 have A3:=d.IZ;obtain⟨NJ,CA,c2,t2,rfl,cJ,Mq,AJ,aDQ,aDR⟩:=d.IZ;have nF:NJ=U acc+1:=GB (aE:0<6) I;have as7:ia 6 (a5 (J ⟨cp,0,ab⟩) NJ CA) (ah j)=J (bU (J ((⟨cp,0,ab⟩:Addr).add (j*6)))):=by
  simp only[ia,pU];grind
 have step:∀ct,bV (J b_) G ct->b2 ct ke 1 (bf (j*1) (bf j ((acc.map Prod.fst).map S)++([S y]++ax j ((acc.map Prod.fst).map S)))++([S y']++ax (j*1+1) (bf j ((acc.map Prod.fst).map S)++([S y]++ax j ((acc.map Prod.fst).map S))))) (J b_)->bZ 6 (bU (J ((⟨cp,0,ab⟩:Addr).add (j*6)))) (cA (aZ e6)) ct λ_ g=>K g:=by
  intro ct aw il;have bk:=d.ne;have atf:b2 ct (a5 (J ⟨cp,0,ab⟩) NJ CA) 6 (bf (j*6) cs++(d6++ax (j*6) cs)) (J cp):=A3.at λr er=>by cases er;exact aw.2 cp A3.lt (λe=>bk (by cases e;rfl))
  have azA:∀bd,bV (J cp) ct bd->b2 bd (a5 (J ⟨cp,0,ab⟩) NJ CA) 6 (bf (j*6) (bf (j*6) cs++(d6++ax (j*6) cs))++(e6++ax (j*6+6) (bf (j*6) cs++(d6++ax (j*6) cs)))) (J cp)->K bd:=by
   intro bd ar e4;have s1:=aw.1;have s2:=ar.1;have oV:=d.fj;have kY:=d.h2;have dq:∀b,b<ag G->b≠b_->b≠cp->bd[b]?=G[b]?:=λb af aa ad=>by rw[ar.2 b I (λe=>ad (en e)),aw.2 b af (λe=>aa (en e))]
   have c0:=d.sz;refine q bd ⟨⟨I,λb af=>by rw[dq b I I I];exact d.ex.2 b af⟩,I,?_,by rw[dq _ I I I];exact d.dD,?_,?_,he,aH,d.aeV,d.cl,d.it,d.fj,d.h2,d.ne⟩
   .obtain⟨c1,aa,ad⟩:=d.v1;grind
   .have LQ:(bf (j*1) (bf j ((acc.map Prod.fst).map S)++([S y]++ax j ((acc.map Prod.fst).map S)))++([S y']++ax (j*1+1) (bf j ((acc.map Prod.fst).map S)++([S y]++ax j ((acc.map Prod.fst).map S)))))=bf j ((acc.map Prod.fst).map S)++([S y']++ax j ((acc.map Prod.fst).map S)):=by
     rw[nn,ahD I,xg I,Kx,iu I,fg,(I:j+1-j=1)];rfl
    rw[LQ] at il;exact il.at λr er=>by cases er;exact ar.2 _ il.lt (λe=>bk (by cases e;rfl))
   .have LQ:(bf (j*6) (bf (j*6) cs++(d6++ax (j*6) cs))++(e6++ax (j*6+6) (bf (j*6) cs++(d6++ax (j*6) cs))))=bf (j*6) cs++(e6++ax (j*6) cs):=by
     have gn:=d.dl;rw[ahD I,xg I,Kx,iu I,fF,(I:j*6+6-j*6=6),sS,Kx,iu I,gn];simp
    grind
  obtain⟨bH,um,cF,auW⟩:=afL (sz:=6) (n:=U acc+1) (x:=cA (aZ e6)) (cx:=e6) (K:=K) atf My (i:=j) I aE (by simp[cellsL]) he aH azA;grind
 obtain⟨bx,hW,dz,e_⟩:=afL (sz:=1) (n:=U acc+1) (x:=S y') (cx:=[S y']) (K:=λg=>bZ 6 (bU (J ((⟨cp,0,ab⟩:Addr).add (j*6)))) (cA (aZ e6)) g λ_ g=>K g) d.m4 arN (i:=j) I aE rfl rfl rfl step;exact⟨bx,_,hW,as7,⟨bF (by rw[dz];show b_≠ag h+1;have:=d.fj;omega),trivial⟩,e_⟩
end
