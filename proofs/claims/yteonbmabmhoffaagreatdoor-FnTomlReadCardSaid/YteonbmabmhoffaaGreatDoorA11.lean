/- A part of the proof of FnTomlReadCardSaid: for every string the law FnTomlRead returns true. Conditions: those of the given row and card, no others. -/
import Derived.Test.YteonbmabmhoffaaGreatDoorA10
open Option renaming some->J,none->ab
open Bool renaming true->ai,false->av
open Go renaming Value->ao
open Go.Obj renaming cells->aO
open Go.Value renaming bool->aQ,slice->a5,int->ba,tuple->bA,pointer->bU,agg->cA,nilIface->cR,iface->cW,string->fo
open Or renaming inl->bF,inr->bt
open Go.BinOp renaming eql->cQ,lss->fG,neq->hF,gtr->hf,geq->h0
open List renaming length->U,toArray->aZ,drop->ax,take->bf
open Array renaming size->ag,toList->bC,push->a6,setIfInBounds->dy
namespace Go.Proofs.YteonbmabmhoffaaGreatDoor.F
set_option linter.all false
set_option autoImplicit true
set_option relaxedAutoImplicit true
set_option maxRecDepth 100000
set_option maxHeartbeats 4000000
noncomputable section
section
variable{h aa h' ae:H}{own a_:cH}{d bz cur n p kd e r dj jd cap fY i:Nat}{c b6:Array ao}{E cw Ec:List eM}{x:eM}{v u:ao}{R:K}
def YE:Z 4=[aQ av]:=b4
def YA:Z 21=[dc 0]:=b4
def FR(az:i<n):ia 1 (a5 (J ⟨r,0,ab⟩) n cap) (ba k (i:Int))=J (bU (J ⟨r,i,ab⟩)):=by
 simp only[ia,pU];rw[aA ⟨I,I⟩];simp[Addr.add];omega
def apL{ce:Array ao}(aa:bf (k*4) (bC ce)=Ec.flatMap fM)(aq:U Ec=k)(ae:Ec[i]?=J x):ce.extract (i*4) (i*4+4)=aZ (fM x):=by
 have au:=(fk.1 ae).1;have c0:k*4<=ag ce:=by
  have:=mQ List.length aa;rw[CJ,aq,yv,Kv] at this;omega
 apply aBD;intro m;by_cases hm:m<4
 .have:=LR ae hm;grind
 .rw[ahp (by simp;omega),ahp (by simp[fM];omega)]
def apM(aa:bf (k*4) (bC ce)=Ec.flatMap fM)(ae:Ec[i]?=J x):bf (k*4) (bC (ht ce (i*4) (fM y)))=(Ec.set i y).flatMap fM:=by
 have au:=(fk.1 ae).1;show bf _ (bC (dy (dy (dy (dy ce (i*4) _) (i*4+1) _) (i*4+1+1) _) (i*4+1+1+1) _))=_;rw[BT,BT,BT,BT,BY,BY,BY,BY,aa];have g:∀z,(Ec.set i z)[i]?=J z:=λz=>D5 au;have bP:=E2 (f:=0) (v:=dc y.par) (ec:=⟨y.par,x.kind,x.ex,x.fS,x.val⟩) ae aE rfl;have aw:=E2 (f:=1) (v:=bu y.kind) (ec:=⟨y.par,y.kind,x.ex,x.fS,x.val⟩) (g ⟨y.par,x.kind,x.ex,x.fS,x.val⟩) aE rfl;have ar:=E2 (f:=2) (v:=aQ y.ex) (ec:=⟨y.par,y.kind,y.ex,x.fS,x.val⟩) (g ⟨y.par,y.kind,x.ex,x.fS,x.val⟩) aE rfl;have aS:=E2 (f:=3) (v:=y.val) (ec:=y) (g ⟨y.par,y.kind,y.ex,x.fS,x.val⟩) aE rfl;simp_all
def anp{r o t:Nat}{K:F.K}(af:h[r]?=J (aO ce t))(aL:o+4<=ag ce):cO 4 (bU (J ⟨r,o,ab⟩)) h K=K (cA (ce.extract o (o+4))) h:=yL (n:=3) af I
def ajZ(h:H)(own:cH)(d bz:Nat)(c:Array ao)(E:List eM)(cur:Nat)(ae:H):Prop:=∃wW c1 dj jd fY u7 u_ rY gK,ft h own c ae wW d bz c1 E cur/\c1[8]?=J (a5 (J ⟨dj,0,ab⟩) fY fY)/\c1[9]?=J (a5 (J ⟨jd,0,ab⟩) fY fY)/\dj≠jd/\wW dj=J (1000000,3)/\wW jd=J (1000000,3)/\U E<=fY/\ae[dj]?=J (aO u7 rY)/\ag u7=fY/\ae[jd]?=J (aO u_ gK)/\ag u_=fY
theorem ah8(T:ho h own d bz c E cur)(aG:∀b x,own b=J x->b<h.size)(he:e<E.length)(q:∀h' a_ b6 cw f g,ft h own c h' a_ d bz b6 cw cur->KT E e cw f g->R (.tuple #[]) h'):bo 103 [eB d 6,.j (e:Int)] h R:=by
 apply akh;have f0:fd 0 (eB d 6)=J (eB d 6):=tP;have f2:fd 2 (eB d 6)=J (eB d 8):=tP;have f3:fd 3 (eB d 6)=J (eB d 9):=tP;have kf:nc (eB d 6)=J (eB d 6):=rfl;have C3:=T.hZ;refine⟨λae=>ajZ h own d bz c E cur ae,λ_ ae cr=>?_,?_⟩;rotate_left
 .obtain⟨v,aw,ar⟩:=T.len;obtain⟨v1,v2,n,cg,cJ,eP,hc,l6⟩:=T.EL;have oq:oM v1=J (.i (n:Int)):=by
   rcases eP with ⟨rfl,rfl⟩|⟨r,jO,t,rfl,_⟩<;>rfl
  (simp-implicitDefEqProofs+contextual (disch:=omega) only[go_sem,kf,f0,f2,f3,qI T.bJ,aw,ar,cg,oq];try refine c8 ?_)
  refine⟨λa'=>?_,λeg=>?_⟩
  .refine G4 (by rw[YE];rfl) (bQ _) I ?_;have b_:=aB.push h (.cells (repL E.length (Z 4)).toArray 4);have im:(h.push (.cells (repL E.length (Z 4)).toArray 4))[h.size]?=J (.cells (repL E.length (Z 4)).toArray 4):=dS _ _;have fC:(h.push (.cells (repL E.length (Z 4)).toArray 4)).size=h.size+1:=a1
   generalize h.push (.cells (repL E.length (Z 4)).toArray 4)=aa at*;have gn:=(cm.1 T.bJ).1;have aL:=T.size;have dz:=(b_.2 d gn).trans T.bJ;try(simp-implicitDefEqProofs+contextual (disch:=omega) only[go_sem];try refine c8 ?_)
   refine fx dz I rfl rfl λad cp cF=>?_;have j6:=cp.1;have c6:(c.setIfInBounds 8 (.slice (J ⟨h.size,0,ab⟩) E.length E.length))[6]?=J v:=al
   (simp-implicitDefEqProofs+contextual (disch:=omega) only[go_sem,qI cF,c6,ar];try refine c8 ?_)
   refine G4 (by rw[YA];rfl) (bQ _) I ?_;have fB:=aB.push ad (.cells (repL E.length (Z 21)).toArray 21);have Ba:(ad.push (.cells (repL E.length (Z 21)).toArray 21))[ad.size]?=J (.cells (repL E.length (Z 21)).toArray 21):=dS _ _;have pT:(ad.push (.cells (repL E.length (Z 21)).toArray 21)).size=ad.size+1:=a1
   generalize ad.push (.cells (repL E.length (Z 21)).toArray 21)=an at*;have eH:=(fB.2 d I).trans cF;try refine aR ?_
   refine fx eH (by simp;omega) rfl rfl λaT hx rG=>?_;have rp:=hx.1;have cf:∀b,b<h.size->b≠d->aT[b]?=h[b]?:=λb af aI=>by
    rw[hx.2 b I (λe=>aI (en e)),fB.2 b I,cp.2 b I (λe=>aI (en e)),b_.2 b af]
   have eJ:∀b,b<h.size->cS (cS own h.size (1000000,3)) ad.size (1000000,3) b=own b:=λb af=>by
    unfold cS;grind
   have F8:cS (cS own h.size (1000000,3)) ad.size (1000000,3) h.size=J (1000000,3):=by unfold cS;grind
   have F9:cS (cS own h.size (1000000,3)) ad.size (1000000,3) ad.size=J (1000000,3):=by unfold cS;grind
   have acI:aT[h.size]?=J (.cells (repL E.length (Z 4)).toArray 4):=by
    rw[hx.2 _ I (λe=>al),fB.2 _ I,cp.2 _ I (λe=>al)];exact im
   have acK:aT[ad.size]?=J (.cells (repL E.length (Z 21)).toArray 21):=by
    rw[hx.2 _ I (λe=>al)];exact Ba
   have jf:(repL E.length (Z 4)).toArray.size=E.length:=by rw[D7,tC,YE];simp
   have afS:(repL E.length (Z 21)).toArray.size=E.length:=by rw[D7,tC,YA];simp
   have HK:((c.setIfInBounds 8 (.slice (J ⟨h.size,0,ab⟩) E.length E.length)).setIfInBounds 9 (.slice (J ⟨ad.size,0,ab⟩) E.length E.length))[8]?=J (.slice (J ⟨h.size,0,ab⟩) E.length E.length):=by
    grind
   have E6:((c.setIfInBounds 8 (.slice (J ⟨h.size,0,ab⟩) E.length E.length)).setIfInBounds 9 (.slice (J ⟨ad.size,0,ab⟩) E.length E.length))[9]?=J (.slice (J ⟨ad.size,0,ab⟩) E.length E.length):=by
    grind
   refine⟨cS (cS own h.size (1000000,3)) ad.size (1000000,3),_,h.size,ad.size,E.length,_,_,4,21,⟨T.aoM (n:=E.length) rG cf eJ a1 (λk a b=>al) HK E6 (.inr ⟨_,_,_,rfl,F8,acI,jf⟩) (.inr ⟨_,_,_,rfl,F9,acK,afS⟩) (λr c1 c2 a b=>?_),λb af=>eJ b af,⟨I,λb af aH=>cf b af λe=>by subst e;exact aH 0 T.c5 (.inl rfl)⟩,a1,λk aq=>al,λb y a2=>?_⟩,HK,E6,I,F8,F9,bQ _,acI,jf,acK,afS⟩
   .grind
   .unfold cS at a2;grind
  .have kX:n≠0:=I
   rcases eP with ⟨_,bP⟩|⟨dj,u7,rY,rfl,cZ,cj,eI⟩
   .omega
   .rcases hc with ⟨_,bP⟩|⟨jd,u_,gK,rfl,dK,gz,k8⟩
    .omega
    .exact⟨own,c,dj,jd,n,u7,u_,rY,gK,ft.refl T aG,cg,cJ,λe=>l6 dj _ _ rfl (by rw[e]),cZ,dK,I,cj,eI,gz,k8⟩
 .obtain⟨wW,c1,dj,jd,fY,u7,u_,rY,gK,hT,HK,E6,bk,F8,F9,kX,cj,eI,gz,k8⟩:=cr;have c_:=hT.eh;have jr:=h5 he;obtain⟨v6,r,cap,ce,t,bx,rfl,cq,dT,e3,hJ,lo,px,rz⟩:=c_.at jr;obtain⟨ch,er,aw,ar,aS⟩:=c_.y0;rw[bx] at aw;cases aw;have e1:ce.size=cap*4/\E.length<=cap/\ce.toList.take (E.length*4)=E.flatMap fM:=by
   cases er with
   |none=>cases ar.1
   |some cC=>
    obtain⟨len,iP,Hs,eO,iT,bS,bc,eL,vy,Nt⟩:=ar;grind
  have Vn:=JG (r:=dj) (sz:=1) kX (bQ fY);have Oq:=JG (r:=jd) (sz:=1) kX (bQ fY);have x9:fb (.slice (J ⟨r,0,ab⟩) E.length cap)=J (.i (E.length:Int)):=rfl;(simp-implicitDefEqProofs+contextual (disch:=omega) only[go_sem,kf,f0,f2,f3,qI c_.bJ,bx,HK,E6,Vn,Oq];try refine c8 ?_)
  obtain⟨ay9,afF,afG⟩:=e1;have iD:=c_.size;have n2:d≠r:=λe=>by subst e;rw[c_.c5] at cq;cases cq
  have nB:d≠dj:=λe=>by subst e;rw[c_.c5] at F8;cases F8
  have AW:d≠jd:=λe=>by subst e;rw[c_.c5] at F9;cases F9
  have im:r≠dj:=λe=>al
  have Ba:r≠jd:=λe=>al
  have awv:=(cm.1 dT).1;have aFU:=(cm.1 cj).1;have aww:=(cm.1 gz).1;have gj:=(cm.1 c_.bJ).1;refine eV (λm w a2=>∃(i:Nat) (Hq:Array ao),w=.i (i:Int)/\i<=E.length/\bV (J dj) ae a2/\a2[dj]?=J (.cells Hq rY)/\Hq.size=fY/\(∀j,j<i->Hq[j]?=J (.bool av))/\m=E.length-i) _ ⟨0,u7,rfl,ed _,bV.refl,cj,eI,λj aC=>I,rfl⟩ ?_;rintro m fl w a2 N ⟨i,Hq,rfl,az,FO,n1,eC,MS,rfl⟩ a7;refine aR ?_;refine⟨λa'=>?_,λeg=>?_⟩
  .refine fx n1 I rfl rfl λlC ar Sp=>?_;refine a7 (E.length-(i+1)) _ _ I ⟨i+1,_,rfl,I,FO.trans ar,Sp,al,λj aC=>?_,rfl⟩;grind
  .have SI:i=E.length:=I
   subst SI;clear a7 eg;have anh:KS ae r dj jd cap fY E e 0 a2 E:=by
    refine⟨⟨FO.1,λb af fj h2 tw=>FO.2 b af (λe=>h2 (en e))⟩,⟨ce,t,(FO.2 r awv (λe=>im (en e))).trans dT,ay9,afG⟩,⟨Hq,rY,n1,eC,λj aC=>?_⟩,⟨u_,gK,(FO.2 jd aww (λe=>bk (en e).symm)).trans gz,k8,λj aC=>I⟩,rfl,λj x aC=>I,λj _=>rfl,λx ae=>⟨x,ae,rfl,rfl,rfl⟩⟩;grind
   refine jn (λm gu gD aV=>∃(i:Nat) (Ec:List eM),gu=.j (cntK E e i:Int)/\gD=.i (i:Int)/\i<=E.length/\KS ae r dj jd cap fY E e i aV Ec/\m=E.length-i) _ ⟨0,E,rfl,rfl,ed _,anh,rfl⟩ ?_;rintro m fl gu gD aV N ⟨i,Ec,rfl,rfl,az,b7,rfl⟩ a7;have qU:aV[d]?=J (.cells c1 bz):=(b7.cf.2 d gj n2 nB AW).trans c_.bJ;have awb:fb (.slice (J ⟨r,0,ab⟩) E.length cap)=J (.i (E.length:Int)):=rfl;(simp-implicitDefEqProofs+contextual (disch:=omega) only[go_sem,kf,f0,qI qU,bx,awb];try refine c8 ?_)
   refine⟨λa'=>?_,λeg=>?_⟩
   .have wK:=h5 a';generalize E[i]=x at wK;have R2:Ec[i]?=J x:=(b7.rest i (bQ _)).trans wK;have aJ:=c_.tA i x wK;have xV:=c_.kinds x (qD wK);obtain⟨Hs,eO,cc,cK,df⟩:=b7.row;obtain⟨Hr,OG,s1,s2,dB⟩:=b7.afs;obtain⟨Qv,OJ,o8,jg,pM⟩:=b7.afC;have Io:ia 4 (.slice (J ⟨r,0,ab⟩) E.length cap) (.i (i:Int))=J (.pointer (J ⟨r,i*4,ab⟩)):=by
     simp only[ia,pU];rw[aA ⟨I,I⟩];simp[Addr.add];omega
    have cell:∀k,k<4->Hs[i*4+k]?=(fM x)[k]?:=λk aq=>by
     have:=LR R2 aq;grind
    have jD:=cell 0 aE;have bq:=cell 1 aE;simp only[fM,rq,uN,nm] at jD bq;have atv:bn .neq (.b (x.kind:Int)) (.b 0)=J (.bool ai):=by simp[bn,eqV];omega
    have aEu:=Mk (e:=e) wK aJ.2;have ada:=FR (r:=dj) (n:=E.length) (cap:=fY) (i:=i) (k:=.i64) a';have split:(0<=x.par/\x.par=(e:Int))\/(0<=x.par/\x.par≠(e:Int)/\goneB E e x.par.toNat=ai)\/(x.par<0)\/(0<=x.par/\x.par≠(e:Int)/\goneB E e x.par.toNat=av):=by
     grind
    have gone:goneB E e i=ai->bZ 1 (.pointer (J ⟨dj,i,ab⟩)) (.bool ai) aV λ_ h=>N (.j (cntK E e i:Int)) (.i ((i+1:Nat):Int)) h:=λaX=>by
     refine fx s1 I rfl rfl λgp ar Sp=>?_;have gH:cntK E e (i+1)=cntK E e i:=by rw[cntK,aX];rfl
     have Bh:∀j,j<i+1->goneB E e j=av->j<i:=λj aC aq=>by
      grind
     refine a7 (E.length-(i+1)) _ _ _ I ⟨i+1,Ec,by rw[gH],rfl,I,⟨⟨dH b7.cf.1 ar.1,λb af fj h2 tw=>by rw[ar.2 b (cP af b7.cf.1) (λe=>h2 (en e))];exact b7.cf.2 b af fj h2 tw⟩,⟨Hs,eO,(ar.2 r (cm.1 cc).1 (λe=>im (en e))).trans cc,cK,df⟩,⟨_,OG,Sp,al,λj aC=>?_⟩,⟨Qv,OJ,(ar.2 jd (cm.1 o8).1 (λe=>bk (en e).symm)).trans o8,jg,λj aC aq=>pM j (Bh j aC aq) aq⟩,b7.len,λj y aC a2 aq=>b7.kept j y (Bh j aC aq) a2 aq,λj aC=>b7.rest j I,b7.Kj⟩,rfl⟩;by_cases lz:j=i
     .grind
     .rw[sK lz,dB j aC];grind
    have oV:=EO (E:=E) (e:=e) i;have rF:bn .add (.j (cntK E e i:Int)) (.j 1)=J (.j ((cntK E e i+1:Nat):Int)):=by
     simp only[bn,ei,dg,WA,GH];simp[IntKind.wrap,IntKind.bits,IntKind.signed];omega
    have keep:goneB E e i=av->bZ 1 (.pointer (J ⟨jd,i,ab⟩)) (.j (cntK E e i:Int)) aV λ_ h=>(¬i=cntK E e i->cd (eB d 6) h λmN h=>Pu (ia 4 mN (.i (i:Int))) h λkQ h=>cO 4 kQ h λlg h=>bZ 4 (aN (Array.size h)) lg (Array.push h (Obj.cells (Z 131).toArray 131)) λ_ l_=>cd (.pointer (J ⟨Array.size h,0,ab⟩)) l_ λmO kV=>Pu (ia 1 (.slice (J ⟨jd,0,ab⟩) E.length fY) mO) kV λrk kW=>cd rk kW λpS y_=>bZ 1 (.pointer (J ⟨Array.size h,0,ab⟩)) pS y_ λ_ wg=>cd (eB d 6) wg λnk H7=>cO 4 (aN (Array.size h)) H7 λml h=>Pu (ia 4 nk (.j (cntK E e i:Int))) h λpN h=>bZ 4 pN ml h λ_ h=>Pu (bn .add (.j (cntK E e i:Int)) (.j 1)) h λo9 h=>N o9 (.i ((i+1:Nat):Int)) h)/\
      (¬¬i=cntK E e i->Pu (bn .add (.j (cntK E e i:Int)) (.j 1)) h λo9 h=>N o9 (.i ((i+1:Nat):Int)) h):=λaX=>by
     have gH:cntK E e (i+1)=cntK E e i+1:=by rw[cntK,aX];rfl
     refine fx o8 I rfl rfl λgp ar Ic=>?_;have j6:=ar.1;have y2:∀b,b<ae.size->b≠r->b≠dj->b≠jd->gp[b]?=ae[b]?:=λb af fj h2 tw=>by
      rw[ar.2 b (cP af b7.cf.1) (λe=>tw (en e))];exact b7.cf.2 b af fj h2 tw
     have Od:gp[r]?=J (.cells Hs eO):=(ar.2 r (cm.1 cc).1 (λe=>Ba (en e))).trans cc;have DD:gp[dj]?=J (.cells Hr OG):=(ar.2 dj (cm.1 s1).1 (λe=>bk (en e))).trans s1;have Sl:gp[d]?=J (.cells c1 bz):=(ar.2 d (cm.1 qU).1 (λe=>AW (en e))).trans qU;have afr:∀j,j<E.length->Hr[j]?=J (.bool (decide (j<i+1)&&goneB E e j)):=λj aC=>by
      rw[dB j aC];by_cases aa:j=i
      .grind
      .by_cases ad:j<i
       .grind
       .rw[ig ad,ig I]
     have Vi:∀j,j<i+1->goneB E e j=av->(Qv.setIfInBounds i (.j (cntK E e i:Int)))[j]?=J (.j (cntK E e j:Int)):=λj aC aq=>by
      by_cases aa:j=i
      .grind
      grind
     refine⟨λly=>?_,λly=>?_⟩
     .have aW:0<=x.par:=I
      have SG:goneB E e x.par.toNat=av:=by
       grind
      have asS:=apL df b7.len R2;rw[qI Sl,bx,bs,Io,bs,anp Od I,asS,h7 (n:=4) (by rw[Cn];rfl) rfl (by
       have hs:=(c_.wT x (qD wK)).val.1;simp only[fM,ones,hs];rfl),ant]
      have ep:(fM x).toArray[0]?=J (.j x.par):=rfl;have avu:ia 1 (.slice (J ⟨jd,0,ab⟩) E.length fY) (.j x.par)=J (.pointer (J ⟨jd,x.par.toNat,ab⟩)):=by
       have:=FR (r:=jd) (n:=E.length) (cap:=fY) (i:=x.par.toNat) (k:=.i32) I;grind
      have aS:=aB.push gp (.cells (fM x).toArray 131);have asB:(gp.push (.cells (fM x).toArray 131))[jd]?=J (.cells (Qv.setIfInBounds i (.j (cntK E e i:Int))) OJ):=(aS.2 jd (cm.1 Ic).1).trans Ic;rw[ep,bs,avu,bs,fs asB,Vi _ I SG,bs,tQ rfl rfl (by simp[fM])];have acS:(fM x).toArray.setIfInBounds 0 (.j (cntK E e x.par.toNat:Int))=(fM (zA E e x)).toArray:=by
       unfold zA;rw[ak I];rfl
      rw[acS];have bl:=aB.push gp (.cells (fM (zA E e x)).toArray 131);have aso:=(bl.2 d (cm.1 Sl).1).trans Sl;have avv:ia 4 (.slice (J ⟨r,0,ab⟩) E.length cap) (.j (cntK E e i:Int))=J (.pointer (J ⟨r,cntK E e i*4,ab⟩)):=by
       simp only[ia,pU];rw[aA ⟨I,I⟩];simp[Addr.add];omega
      rw[qI aso,bx,bs,X8 (n:=3) (by rfl),avv,bs];have U_:=(bl.2 r (cm.1 Od).1).trans Od;have tj:=h5 (l:=Ec) (i:=cntK E e i) al;refine G9 (n:=4) U_ rfl (by
       have hs:=(c_.wT x (qD wK)).val.1;have:(zA E e x).val=x.val:=rfl;simp only[fM,this,ones,hs];rfl) I λavo dt x1=>?_
      rw[rF,bs];have aaw:∀b,b<gp.size->b≠r->avo[b]?=gp[b]?:=λb af fj=>by
       rw[dt.2 b (by simp;omega) (λe=>fj (en e)),bl.2 b af]
      refine a7 (E.length-(i+1)) _ _ _ I ⟨i+1,Ec.set (cntK E e i) (zA E e x),by rw[gH],rfl,I,⟨⟨?_,λb af fj h2 tw=>al⟩,⟨_,eO,x1,by rw[zH];exact cK,apM df tj⟩,⟨Hr,OG,(aaw dj (cm.1 DD).1 (λe=>im e.symm)).trans DD,s2,afr⟩,⟨_,OJ,(aaw jd (cm.1 Ic).1 (λe=>Ba e.symm)).trans Ic,al,Vi⟩,by simpa using b7.len,λj y aC a2 aq=>?_,λj aC=>?_,λy a2=>?_⟩,rfl⟩
      .have bN:=dt.1;have cB:=b7.cf.1;grind
      .by_cases aa:j=i
       .grind
       .have:=EP (E:=E) (e:=e) (i:=j) (j:=i) I aq;rw[Wq I];exact b7.kept j y I a2 aq
      .rw[Wq I];exact b7.rest j I
      .rcases ahz a2 with a2|rfl
       .exact b7.Kj y a2
       .exact⟨x,qD wK,rfl,rfl,rfl⟩
     .have ly:=OX.1 ly;rw[rF,bs];refine a7 (E.length-(i+1)) _ _ _ I ⟨i+1,Ec,by rw[gH],rfl,I,⟨⟨by have:=b7.cf.1;omega,y2⟩,⟨Hs,eO,Od,cK,df⟩,⟨Hr,OG,DD,s2,afr⟩,⟨_,OJ,Ic,al,Vi⟩,b7.len,λj y aC a2 aq=>?_,λj aC=>b7.rest j I,b7.Kj⟩,rfl⟩;by_cases aa:j=i
      .subst aa;rw[wK] at a2;cases a2;rw[<-ly,R2];have:zA E e x=x:=by
        unfold zA;split
        .rfl
        .rw[Zt ly.symm _ I];cases x;grind
       rw[this]
      .exact b7.kept j y I a2 aq
    have Rq:0<=x.par->bn .geq (.j x.par) (.j 0)=J (.bool ai):=λh=>by simp[bn];omega
    have aqB:x.par<0->bn .geq (.j x.par) (.j 0)=J (.bool av):=λh=>by simp[bn];omega
    have Z5:x.par≠(e:Int)->bn .eql (.j x.par) (.j (e:Int))=J (.bool av):=λh=>by simp[bn,eqV];omega
    have apN:bn .eql (.j (e:Int)) (.j (e:Int))=J (.bool ai):=by simp[bn,eqV]
    have ac9:0<=x.par->ia 1 (.slice (J ⟨dj,0,ab⟩) E.length fY) (.j x.par)=J (.pointer (J ⟨dj,x.par.toNat,ab⟩)):=λh=>by
     have:=FR (r:=dj) (n:=E.length) (cap:=fY) (i:=x.par.toNat) (k:=.i32) I;grind
    have Zf:0<=x.par->Hr[x.par.toNat]?=J (.bool (goneB E e x.par.toNat)):=λh=>by
     grind
    rcases split with ⟨aW,aa⟩|⟨aW,aa,ad⟩|aW|⟨aW,aa,ad⟩
    .have aX:goneB E e i=ai:=al
     have eg:=Rq aW;rw[aa] at eg jD;(simp-implicitDefEqProofs+contextual (disch:=omega) only[go_sem,kf,f0,Io,fs cc,jD,bq,eg,apN,atv,ada,qI qU,bx];try refine c8 ?_)
     grind
    .have aX:goneB E e i=ai:=al
     have eg:=Rq aW;have heq:=Z5 aa;have su:=ac9 aW;have oq:=Zf aW;rw[ad] at oq;(simp-implicitDefEqProofs+contextual (disch:=omega) only[go_sem,kf,f0,Io,fs cc,jD,bq,eg,heq,su,fs s1,oq,ada,qI qU,bx];try refine c8 ?_)
     grind
    .have aX:goneB E e i=av:=al
     have eg:=aqB aW;(simp-implicitDefEqProofs+contextual (disch:=omega) only[go_sem,kf,f0,Io,fs cc,jD,bq,eg,qI qU,bx];try refine c8 ?_)
     exact keep aX
    .have aX:goneB E e i=av:=al
     have eg:=Rq aW;have heq:=Z5 aa;have su:=ac9 aW;have oq:=Zf aW;rw[ad] at oq;(simp-implicitDefEqProofs+contextual (disch:=omega) only[go_sem,kf,f0,Io,fs cc,jD,bq,eg,heq,su,fs s1,oq,qI qU,bx];try refine c8 ?_)
     exact keep aX
   .have SI:i=E.length:=I
    subst SI;have ML:=EO (E:=E) (e:=e) E.length;have jf:sl 4 (.slice (J ⟨r,0,ab⟩) E.length cap) ab (J (.j (cntK E e E.length:Int))) ab=J (.slice (J ⟨r,0,ab⟩) (cntK E e E.length) cap):=JG I afF;(simp-implicitDefEqProofs+contextual (disch:=omega) only[go_sem,kf,f0,qI qU,bx,jf];try refine c8 ?_)
    refine fx qU I rfl rfl λgp ar cF=>?_;obtain⟨mm,Xb⟩:=b7.fin (h':=gp) c_ hT.dv bx cq F8 F9 afF HK E6 bk ar cF;exact q gp wW _ _ _ _ (hT.trans mm) Xb
end
section
variable{α:Type}{aj:List (bW α)}{M:List Nat}{ca:Nat->Nat}{live:Nat->Prop}{h h':H}{own a_:cH}{d bz cur j bb n:Nat}{c:Array ao}{E:List eM}{x:eM}{kv:List (B×Nat)}{v u:ao}{R:K}{s:B}
structure jy(h:H)(own:cH)(a:ao)(ks:List B):Prop where
 row:∃vs m4,b2 h a 1 vs m4/\(∀r,m4=J r->own r=J (1000000,4))/\pj (λv k=>∃bb,own bb=ab/\kt h bb v k) vs ks
 ne:ks≠[]
 len:U ks<=400
def jy.keep(P:jy h own a ks)(k:∀b,b<ag h->own b=ab\/own b=J (1000000,4)->h'[b]?=h[b]?/\a_ b=own b):jy h' a_ a ks:=by
 obtain⟨vs,m4,aa,ad,an⟩:=P.row;refine⟨⟨vs,m4,aa.at λr aF=>?_,λr aF=>?_,an.mono λv s ⟨bb,cg,cJ⟩=>?_⟩,P.ne,P.len⟩
 .subst aF;exact(k r aa.lt (bt (ad r rfl))).1
 .subst aF;rw[(k r aa.lt (bt (ad r rfl))).2];grind
 .have:=k bb cJ.lt (bF cg);exact⟨bb,this.2.trans cg,cJ.at this.1⟩
def jy.hb(P:jy h own a ks)(S:ft h own c h' a_ d bz b6 cw rB):jy h' a_ a ks:=
 P.keep λb af aH=>⟨S.ek.2 b af λk aq aL=>by
  rcases aH with aH|aH
  .grind
  .rw[aH] at aq;cases aq;rcases aL with aL|aL|aL<;>omega,S.ext b af⟩
def jy.Dn(P:jy h own a ks):fb a=J (ah (U ks:Int)):=by
 obtain⟨vs,m4,aa,_,an⟩:=P.row;rw[(j1 aa).1,an.len]
def jy.get(P:jy h own a ks)(az:i<U ks):∃u bb eE,own bb=ab/\kt h bb u ks[i]/\ia 1 a (ah (i:Int))=J eE/\∀K:F.K,cd eE h K=K u h:=by
 obtain⟨vs,m4,aa,_,an⟩:=P.row;have au:=an.len;obtain⟨k,cZ,bb,cj,eI⟩:=an.get (h5 (l:=vs) (i:=i) I);obtain⟨eE,bx,bH⟩:=(j1 aa).2 i _ (h5 (l:=vs) (i:=i) I);grind
def AF(T:ho h own d bz c E cur)(G:jm E aj M ca live)(aC:live j)(aP:aj[j]?=J (.bX kv))(hu:kt h bb u s)(bq:∀k x,kvF s kv=J k->live k->E[ca k]?=J x->Km aj M ca live k x->R (dc (ca k:Int)) h)(bw:kvF s kv=ab->R (dc (-1)) h):bo 100 [eB d 6,dc (ca j:Int),u] h R:=by
 refine ah7 T (G.lt j aC).2 hu (λi x aa ad an aT bN=>?_) λfy=>?_
 .obtain⟨k,cZ,cj⟩:=G.up j kv i x aC aP aa an aT;rw[bN] at cZ;obtain⟨lk,y,dd,_,_,_,xd⟩:=G.down j kv s k aC aP cZ;grind
 .cases aq:kvF s kv with
  |none=>exact bw aq
  |some k=>
   obtain⟨lk,y,dd,dr,fq,pd,xd⟩:=G.down j kv s k aC aP aq;grind
def As(aa:own bb=ab)(ad:kt h bb u s){p:Int}{ex:Bool}:uY own h ⟨p,kd,ex,s,u⟩:=bt ⟨bb,aa,ad⟩
def I2{i:Nat}(T:ho h own d bz c E cur)(ae:E[i]?=J x)(q:X (bu (x.kind:Int)) h):Pu (nc (eB d 6)) h λv h=>Pu (fd 0 v) h λv h=>cd v h λv h=>Pu (ia 4 v (dc (i:Int))) h λv h=>Pu (fd 1 v) h λv h=>cd v h X:=by
 obtain⟨v,r,cap,ce,t,bx,bH,cq,dT,e3,hJ,lo,px,rz⟩:=T.at ae;have c1:=lo 1 aE;simp only[fM,rq,uN] at c1;have f0:fd 0 (eB d 6)=J (eB d 6):=tP;have kf:nc (eB d 6)=J (eB d 6):=rfl;rw[kf,bs,f0,bs,qI T.bJ,bx,bs,rz,bs,show fd 1 (bU (J ⟨r,i*4,ab⟩))=J (bU (J ⟨r,i*4+1,ab⟩)) from CN,bs,fs dT,c1,bs];exact q
def drop_cons{ks:List B}(h:k<U ks):ax k ks=ks[k]::ax (k+1) ks:=tJ h
def Xp{id:Nat}{a:ao}{ks:List B}(T:ho h own d bz c E cur)(aG:∀b x,own b=J x->b<ag h)(G:jm E aj M ca live)(da:live id)(aP:cz aj id)(ay:cur=ca id)(P:jy h own a ks)(au:U E<=4000)
  (bq:∀h' a_ b6 cw n,ft h own c h' a_ d bz b6 cw cur->U cw=n+1->U cw<=U E+U ks->(∀v,∃a8 bK cY c7 d_,pairS v ks aj M id=.ok a8 bK cY/\jm cw a8 bK c7 d_/\(∀j,live j->d_ j/\c7 j=ca j)/\∀j,d_ j->cz a8 j->c7 j<n)->R (.tuple #[.j (n:Int),.nilIface]) h')
  (bw:(∀v,∃c,pairS v ks aj M id=.no c)->∀h' a_ b6 cw x e,ft h own c h' a_ d bz b6 cw cur->u1 h' e->R (.tuple #[x,e]) h'):bo 78 [eB d 6,a] h R:=by
 apply amO;have f1:fd 1 (eB d 6)=J (eB d 7):=tP;have kf:nc (eB d 6)=J (eB d 6):=rfl;rw[kf,bs,f1,bs,qI T.bJ,T.curr,bs,ay];refine Es (λm gu gD pc sR h'=>∃(k j:Nat) (a_:cH) (b6:Array ao) (cw:List eM) (a8:List (bW α)) (bK:List Nat) (c7:Nat->Nat) (d_:Nat->Prop),pc=.j (c7 j:Int)/\sR=.i k/\k<U ks/\ft h own c h' a_ d bz b6 cw cur/\U cw<=U E+k/\jm cw a8 bK c7 d_/\d_ j/\cz a8 j/\(∀j,live j->d_ j/\c7 j=ca j)/\(∀v,pairS v (ax k ks) a8 bK j=pairS v ks aj M id)/\m=U ks-k) _
  ⟨0,id,own,c,E,aj,M,ca,live,rfl,rfl,lJ.2 P.ne,ft.refl T aG,bQ _,G,da,aP,λ_ h=>⟨h,rfl⟩,λ_=>rfl,rfl⟩ ?_
 rintro m fl gu gD pc sR h' N ⟨k,j,a_,b6,cw,a8,bK,c7,d_,rfl,rfl,aq,S,jR,fJ,aC,⟨kv,ey⟩,tm,aJ,rfl⟩ a7;have fT:=P.hb S;have qY:=fT.Dn;obtain⟨u,bb,eE,o8,jg,pM,rb⟩:=fT.get aq;have hlen:=P.len;have Db:bn .sub (.i (U ks)) (.i 1)=J (.i (U ks-1:Nat)):=m' (a:=U ks) (b:=1) I I;have Ih:=drop_cons aq;have jW:kvOf a8 j=kv:=o0 ey;have neg:∀x:Nat,bn .geq (.j x) (.j 0)=J (.bool ai)/\bn .lss (.j x) (.j 0)=J (.bool av):=λx=>by
  constructor<;>simp[bn]<;>omega
 have dK:bn .geq (.j (-1)) (.j 0)=J (.bool av)/\bn .lss (.j (-1)) (.j 0)=J (.bool ai):=⟨rfl,rfl⟩;refine i_ qY pM rb Db ?_;refine⟨λmZ=>?_,λmZ=>?_⟩
 .have S1:ax (k+1) ks=[]:=iu I;rw[Ih,S1] at aJ;refine AF S.eh fJ aC ey jg (λi x aa ad an aT=>?_) λaa=>?_
  ·(simp-implicitDefEqProofs+contextual (disch:=omega) only[go_sem,(neg _).1];try refine c8 ?_)
   refine B1 (s:=[116,111,109,108,58,32,107,101,121]) aE λe nw ar iX=>?_;exact bw (λv=>⟨1,by rw[<-aJ v,pairS,aA rfl,jW,aa]⟩) nw _ _ _ _ _ (S.fN ar) iX
  .refine bG dK.1 ?_;refine yG (x:=⟨(c7 j:Int),1,av,ks[k],u⟩) S.eh S.dv I (As o8 jg) ⟨a1,by have:=(fJ.lt j aC).2;simp;omega⟩ ⟨a1,a1⟩ λan rT cy gb=>?_;try refine aR ?_
   refine bq an rT cy _ (U cw) (S.trans gb) a1 (by simp;omega) λv=>⟨_,_,_,_,_,by rw[<-aJ v,pairS,aA rfl,jW,aa],fJ.add (bB:=.val v) (m:=0) aC ey aa ⟨rfl,a1,rfl⟩ (.inl ⟨v,rfl,rfl⟩),λbI g8=>?_,λbI g8 acW=>?_⟩
   .have:=tm bI g8;exact⟨.inr this.1,by rw[ak (by have:=(fJ.lt bI this.1).1;omega)];exact this.2⟩
   .rcases g8 with rfl|g8
    .obtain⟨a,bE⟩:=acW;rw[nW] at bE;cases bE
    .rw[ak (by have:=(fJ.lt bI g8).1;omega)];exact(fJ.lt bI g8).2
 .have bk:ax (k+1) ks≠[]:=λe=>by
   have:=mQ List.length e;grind
  rw[Ih] at aJ;refine AF S.eh fJ aC ey jg (λi x aa ad an aT=>?_) λaa=>?_
  .rw[(neg _).2,bs,ga];refine I2 S.eh an ?_;have kY:bn .neq (.b x.kind) (.b 2)=J (.bool (decide (x.kind≠2))):=by
    simp only[bn,eqV,ei,jl];congr 2
    grind
   refine bG kY ?_;refine⟨λik=>?_,λik=>?_⟩
   .refine B1 (s:=[116,111,109,108,58,32,107,101,121]) aE λe nw ar iX=>?_;refine bw (λv=>?_) nw _ _ _ _ _ (S.fN ar) iX;unfold Km at aT;cases dw:a8[i]? with
    |none=>grind
    |some bB=>
     rw[dw] at aT;cases bB with
     |val a=>exact⟨1,by rw[<-aJ v,pairS,ak bk,jW,aa];simp only[dw]⟩
     |arr l=>exact⟨1,by rw[<-aJ v,pairS,ak bk,jW,aa];simp only[dw]⟩
     |bX cL=>
      simp only at aT;by_cases C6:bK.getD i 0=1
      .exact⟨1,by rw[<-aJ v,pairS,ak bk,jW,aa];simp only[dw];grind⟩
      .by_cases sw:bK.getD i 0=0
       .exact⟨2,by rw[<-aJ v,pairS,ak bk,jW,aa];simp only[dw];grind⟩
       grind
   .have ik:=OX.1 ik;have qq:cz a8 i/\bK.getD i 0≠0/\bK.getD i 0≠1:=by
     unfold Km at aT;cases dw:a8[i]? with
     |none=>grind
     |some bB=>
      rw[dw] at aT;cases bB with
      |val a=>omega
      |arr l=>omega
      |bX cL=>
       simp only at aT;split at aT
       .omega
       .rename_i hm;exact⟨⟨cL,dw⟩,I,I⟩
    obtain⟨⟨cL,dw⟩,wz⟩:=qq;refine a7 (U ks-(k+1)) _ _ _ _ _ I ⟨k+1,i,a_,b6,cw,a8,bK,c7,d_,rfl,rfl,I,S,I,fJ,ad,⟨cL,dw⟩,tm,λv=>?_,rfl⟩;rw[<-aJ v];conv=>rhs;rw[pairS,ak bk,jW,aa]
    simp only[dw];grind
  .refine bG dK.2 ?_;refine yG (x:=⟨(c7 j:Int),2,av,ks[k],u⟩) S.eh S.dv I (As o8 jg) ⟨a1,by have:=(fJ.lt j aC).2;simp;omega⟩ ⟨a1,a1⟩ λan rT cy gb=>?_;refine aR ?_;have p6:=fJ.add (x:=⟨(c7 j:Int),2,av,ks[k],u⟩) (bB:=.bX []) (m:=2) aC ey aa ⟨rfl,a1,rfl⟩ (.inr ⟨rfl,a1⟩);refine a7 (U ks-(k+1)) _ _ _ _ _ I ⟨k+1,U a8,rT,cy,_,_,_,_,_,al,rfl,I,S.trans gb,by simp;omega,p6,.inl rfl,⟨[],nW⟩,λbI g8=>?_,λv=>?_,rfl⟩
   .have:=tm bI g8;exact⟨.inr this.1,by rw[ak (by have:=(fJ.lt bI this.1).1;omega)];exact this.2⟩
   .rw[<-aJ v];conv=>rhs;rw[pairS,ak bk,jW,aa]
end
section
variable{α:Type}{aj:List (bW α)}{M:List Nat}{ca:Nat->Nat}{live:Nat->Prop}{h h':H}{own a_:cH}{d bz cur j bb n:Nat}{c:Array ao}{E:List eM}{x:eM}{kv:List (B×Nat)}{v u:ao}{R:K}{s:B}
structure XY(cw:List eM)(aj:List (bW α))(M:List Nat)(dU:Bool)(ks:List B)(rB:Nat):Prop where
 ok:∃a8 bK id c7 d_,nameS dU ks aj M=.ok a8 bK id/\jm cw a8 bK c7 d_/\d_ id/\cz a8 id/\rB=c7 id/\d_ 0/\c7 0=0/\cz a8 0
def ND{ks:List B}(h:k+1=U ks):ks.getLast?.getD []=ks[k]:=by
 grind
def LH{ks:List B}(h:k+1<U ks):ax k ks.dropLast=ks[k]::ax (k+1) ks.dropLast:=by
 rw[tJ (by simp;omega),List.getElem_dropLast]
def LI{ks:List B}(h:U ks<=k+1):ax k ks.dropLast=[]:=iu (by simp;omega)
def va{a b:Nat}:bn cQ (bu (a:Int)) (bu (b:Int))=J (aQ (decide (a=b))):=by
 simp only[bn,eqV,ei,jl];congr 2
 grind
def Y6{k:B}{i id:Nat}(aa:kvF k (kvOf aj id)=J i)(ad:cz aj i):belowS (k::ks) aj M id=belowS ks aj M i:=by
 obtain⟨kv,aq⟩:=ad;rw[belowS,aa];grind
def Y1{ks:List B}{k:B}{i id t:Nat}(aa:kvF k (kvOf aj id)=J i)(ad:aj[i]?=J (.arr l))(an:l.getLast?=J t):belowS (k::ks) aj M id=belowS ks aj M t:=by
 rw[belowS,aa];grind
def Y4{k:B}{i id:Nat}(aa:kvF k (kvOf aj id)=J i){v:α}(ad:aj[i]?=J (.val v)):belowS (k::ks) aj M id=.no 1:=by
 rw[belowS,aa];grind
def Y3{k:B}{id:Nat}(aa:kvF k (kvOf aj id)=ab):belowS (k::ks) aj M id=belowS ks (dY aj id k (.bX [])) (M++[0]) (U aj):=by
 rw[belowS,aa]
def C75(T:ho h own d bz c E cur)(aG:∀b x,own b=some x->b<h.size)(G:jm E aj M ca live)(da:live 0/\ca 0=0)(aP:cz aj 0)(P:jy h own a ks)(au:E.length<=4000)
  (bq:∀h' a_ b6 cw rB b,ft h own c h' a_ d bz b6 cw rB->XY cw aj M false ks rB->cw.length<=E.length+ks.length->(b=true->∀eA nq vx,belowS ks.dropLast aj M 0=.ok eA nq vx->kvF (ks.getLast?.getD []) (kvOf eA vx)=none)->R (.tuple #[.bool b,.nilIface]) h')
  (bw:(∃c,nameS false ks aj M=.no c)->∀h' a_ b6 cw rB x e,ft h own c h' a_ d bz b6 cw rB->u1 h' e->R (.tuple #[x,e]) h'):bo 75 [eB d 6,a] h R:=by
 apply amL;have f0:fd 0 (eB d 6)=some (eB d 6):=tP;have f1:fd 1 (eB d 6)=some (eB d 7):=tP;have kf:nc (eB d 6)=some (eB d 6):=rfl;refine Es (λm gu gD pc sR h'=>∃(k j:Nat) (a_:cH) (b6:Array Value) (cw:List eM) (a8:List (bW α)) (bK:List Nat) (c7:Nat->Nat) (d_:Nat->Prop),pc=.j (c7 j:Int)/\sR=.i (k:Int)/\k<ks.length/\ft h own c h' a_ d bz b6 cw cur/\cw.length<=E.length+k/\jm cw a8 bK c7 d_/\d_ j/\cz a8 j/\(d_ 0/\c7 0=0/\cz a8 0)/\belowS (ks.dropLast.drop k) a8 bK j=belowS ks.dropLast aj M 0/\m=ks.length-k) _
  ⟨0,0,own,c,E,aj,M,ca,live,al,rfl,lJ.2 P.ne,ft.refl T aG,bQ _,G,da.1,aP,⟨da.1,da.2,aP⟩,rfl,rfl⟩ ?_
 rintro m fl gu gD pc sR h' N ⟨k,j,a_,b6,cw,a8,bK,c7,d_,rfl,rfl,aq,S,jR,fJ,aC,⟨kv,ey⟩,⟨cc,cK,df⟩,aJ,rfl⟩ a7;have fT:=P.hb S;have qY:=fT.Dn;obtain⟨u,bb,eE,o8,jg,pM,rb⟩:=fT.get aq;have hlen:=P.len;have Db:bn .sub (.i (ks.length:Int)) (.i 1)=some (.i ((ks.length-1:Nat):Int)):=m' (a:=ks.length) (b:=1) I I;have jW:kvOf a8 j=kv:=o0 ey;have neg:∀x:Nat,bn .geq (.j (x:Int)) (.j 0)=some (.bool true)/\bn .lss (.j (x:Int)) (.j 0)=some (.bool false):=λx=>by
  constructor<;>simp[bn]<;>omega
 have dK:bn .geq (.j (-1)) (.j 0)=some (.bool false)/\bn .lss (.j (-1)) (.j 0)=some (.bool true):=⟨rfl,rfl⟩;refine i_ qY pM rb Db ?_;refine⟨λmZ=>?_,λmZ=>?_⟩
 .rw[LI I,belowS] at aJ;have fS:nameS false ks aj M=match kvF ks[k] kv with
    |none=>.ok (dY a8 j ks[k] (.bX [])) (bK++[1]) a8.length
    |some i=>match a8[i]? with
     |some (.arr l)=>.no 1
     |some (.bX _)=>if bK.getD i 0≠0 then .no 1 else .ok a8 (bK.set i 1) i
     |_=>.no 1:=by
   unfold nameS;rw[<-aJ];simp only[ND (show k+1=ks.length by omega),jW];cases atu:kvF ks[k] kv with
   |none=>rfl
   |some i=>
    simp only;cases dw:a8[i]? with
    |none=>rfl
    |some bB=>cases bB<;>rfl
  refine AF S.eh fJ aC ey jg (λi x aa ad an aT=>?_) λaa=>?_
  .rw[aa] at fS;simp only at fS;obtain⟨v6,r,cap,ce,t,bx,rfl,cq,dT,e3,hJ,lo,px,rz⟩:=S.eh.at an;have c1:=lo 1 aE;have c2:=lo 2 aE;simp only[fM,rq,uN] at c1 c2;have aS:bn .eql (.b (x.kind:Int)) (.b 3)=some (.bool (decide (x.kind=3))):=va (b:=3);have bl:bn .eql (.b (x.kind:Int)) (.b 4)=some (.bool (decide (x.kind=4))):=va (b:=4);have ar:bn .eql (.b (x.kind:Int)) (.b 2)=some (.bool (decide (x.kind=2))):=va (b:=2);have err:∀s:B,s≠[]/\s.length<=1000->(∃c,nameS false ks aj M=.no c)->bD 102 [F.S s] h' λkM h=>R (.tuple #[.bool false,kM]) h:=λs aL af=>
    B1 aL λe nw ar iX=>bw af nw _ _ _ _ _ _ (S.fN ar) iX
   have bad:¬(x.kind=3/\x.ex=false)->∃c,nameS false ks aj M=.no c:=λae=>by
    unfold Km at aT;grind
   (simp-implicitDefEqProofs+contextual (disch:=omega) only[go_sem,(neg _).2,kf,f0,qI S.eh.bJ,bx,rz,fs dT,c1,c2,aS,bl,ar];try refine c8 ?_)
   refine⟨λfB=>?_,λfB=>⟨λcp=>err _ aE (bad λh=>fB h.1),λcp=>⟨λhx=>err _ aE (bad λh=>fB h.1),λhx=>err _ aE (bad λh=>fB h.1)⟩⟩⟩;cases hex:x.ex with
   |true=>
    rw[gl];exact err _ aE (bad λh=>al)
   |false=>
    rw[ga];refine S.eh.azl S.dv an bx λbN mT=>?_;refine dG kf f1 ?_;refine mT.eh.JA mT.dv λcB c6 lP=>?_;have Ai:=(S.trans mT).trans lP;have qq:cz a8 i/\bK.getD i 0=0:=by
     unfold Km at aT;cases dw:a8[i]? with
     |none=>grind
     |some bB=>
      rw[dw] at aT;cases bB with
      |val v=>omega
      |arr l=>omega
      |bX cL=>
       refine⟨⟨cL,dw⟩,?_⟩;grind
    have PF:=fJ.name aC ey aa qq.1 qq.2 an;obtain⟨⟨cL,dw⟩,hm⟩:=qq;rw[dw] at fS;simp only[hm] at fS;rw[ak aE] at fS;exact bq cB _ _ _ _ _ Ai ⟨_,_,_,_,_,fS,PF,ad,⟨cL,dw⟩,rfl,cc,cK,df⟩ (by simp;omega) (λe=>by cases e)
  .rw[aa] at fS;simp only at fS;refine bG dK.2 ?_;refine yG (x:=⟨(c7 j:Int),3,true,ks[k],u⟩) S.eh S.dv I (As o8 jg) ⟨a1,by have:=(fJ.lt j aC).2;simp;omega⟩ ⟨a1,a1⟩ λan rT cy gb=>?_;try refine dG kf f1 ?_
   refine gb.eh.JA gb.dv λcB c6 lP=>?_;have p6:=fJ.add (x:=⟨(c7 j:Int),3,true,ks[k],u⟩) (bB:=.bX []) (m:=1) aC ey aa ⟨rfl,a1,rfl⟩ (.inr ⟨rfl,a1⟩);exact bq cB _ _ _ _ _ ((S.trans gb).trans lP) ⟨_,_,_,_,_,fS,p6,.inl rfl,⟨[],nW⟩,al,.inr cc,al,qa df⟩ (by simp;omega) (λ_ eA nq vx af=>al)
 .rw[LH I] at aJ;refine AF S.eh fJ aC ey jg (λi x aa ad an aT=>?_) λaa=>?_
  .rw[(neg _).2,bs,ga];refine I2 S.eh an ?_;have aS:bn .eql (.b (x.kind:Int)) (.b 3)=some (.bool (decide (x.kind=3))):=va (b:=3);have bl:bn .eql (.b (x.kind:Int)) (.b 4)=some (.bool (decide (x.kind=4))):=va (b:=4);have ar:bn .eql (.b (x.kind:Int)) (.b 2)=some (.bool (decide (x.kind=2))):=va (b:=2);have fZ:∀t,d_ t->cz a8 t->c7 t=c7 i->belowS (ks[k]::ks.dropLast.drop (k+1)) a8 bK j=belowS (ks.dropLast.drop (k+1)) a8 bK t->N gu gD (.j (c7 i:Int)) (.i ((k+1:Nat):Int)) h':=λt t1 t2 t3 t4=>
    a7 (ks.length-(k+1)) _ _ _ _ _ I ⟨k+1,t,a_,b6,cw,a8,bK,c7,d_,by rw[t3],rfl,I,S,I,fJ,t1,t2,⟨cc,cK,df⟩,al,rfl⟩
   have ok:x.kind=3\/x.kind=4\/x.kind=2->N gu gD (.j (c7 i:Int)) (.i ((k+1:Nat):Int)) h':=λae=>by
    unfold Km at aT;cases dw:a8[i]? with
    |none=>grind
    |some bB=>
     rw[dw] at aT;cases bB with
     |val v=>omega
     |arr l=>
      obtain⟨_,t,t1,t2,t3,t4⟩:=aT;exact fZ t t2 t3 t4 (Y1 al dw t1)
     |bX cL=>exact fZ i ad ⟨cL,dw⟩ rfl (Y6 al ⟨cL,dw⟩)
   have bad:¬x.kind=3->¬x.kind=4->¬x.kind=2->∃c,nameS false ks aj M=.no c:=λfB hx cp=>by
    unfold Km at aT;cases dw:a8[i]? with
    |none=>grind
    |some bB=>
     rw[dw] at aT;cases bB with
     |val v=>
      refine⟨1,?_⟩;unfold nameS;rw[<-aJ,Y4 al dw]
     |arr l=>omega
     |bX cL=>
      grind
   refine lO ?_;refine hk aS bl ar ?_;refine⟨λfB=>ok (.inl fB),λfB=>⟨λhx=>ok (.inr (.inl hx)),λhx=>⟨λcp=>ok (.inr (.inr cp)),λcp=>?_⟩⟩⟩;refine B1 (s:=[116,111,109,108,58,32,107,101,121]) aE λe nw ar iX=>?_;exact bw (bad fB hx cp) nw _ _ _ _ _ _ (S.fN ar) iX
  .refine bG dK.2 ?_;refine yG (x:=⟨(c7 j:Int),3,false,ks[k],u⟩) S.eh S.dv I (As o8 jg) ⟨a1,by have:=(fJ.lt j aC).2;simp;omega⟩ ⟨a1,a1⟩ λan rT cy gb=>?_;try refine aR ?_
   have p6:=fJ.add (x:=⟨(c7 j:Int),3,false,ks[k],u⟩) (bB:=.bX []) (m:=0) aC ey aa ⟨rfl,a1,rfl⟩ (.inr ⟨rfl,a1⟩);refine a7 (ks.length-(k+1)) _ _ _ _ _ I ⟨k+1,a8.length,rT,cy,_,_,_,_,_,al,rfl,I,S.trans gb,by simp;omega,p6,.inl rfl,⟨[],nW⟩,⟨.inr cc,al,qa df⟩,?_,rfl⟩;rw[<-aJ,Y3 al]
def ajC(T:ho h own d bz c E cur)(aG:∀b x,own b=J x->b<ag h)(G:jm E aj M ca live)(da:live 0/\ca 0=0)(aP:cz aj 0)(P:jy h own a ks)(au:U E<=4000)
  (bq:∀h' a_ b6 cw rB b,ft h own c h' a_ d bz b6 cw rB->XY cw aj M ai ks rB->U cw<=U E+U ks->(b=ai->∀eA nq vx,belowS ks.dropLast aj M 0=.ok eA nq vx->kvF (ks.getLast?.getD []) (kvOf eA vx)=ab)->R (bA #[aQ b,cR]) h')
  (bw:(∃c,nameS ai ks aj M=.no c)->∀h' a_ b6 cw rB x e,ft h own c h' a_ d bz b6 cw rB->u1 h' e->R (bA #[x,e]) h'):bo 72 [eB d 6,a] h R:=by
 apply amI;have f0:fd 0 (eB d 6)=J (eB d 6):=tP;have f1:fd 1 (eB d 6)=J (eB d 7):=tP;have kf:nc (eB d 6)=J (eB d 6):=rfl;refine Es (λm gu gD pc sR h'=>∃(k j:Nat) (a_:cH) (b6:Array ao) (cw:List eM) (a8:List (bW α)) (bK:List Nat) (c7:Nat->Nat) (d_:Nat->Prop),pc=dc (c7 j:Int)/\sR=ah k/\k<U ks/\ft h own c h' a_ d bz b6 cw cur/\U cw<=U E+k/\jm cw a8 bK c7 d_/\d_ j/\cz a8 j/\(d_ 0/\c7 0=0/\cz a8 0)/\belowS (ax k ks.dropLast) a8 bK j=belowS ks.dropLast aj M 0/\m=U ks-k) _
  ⟨0,0,own,c,E,aj,M,ca,live,al,rfl,lJ.2 P.ne,ft.refl T aG,bQ _,G,da.1,aP,⟨da.1,da.2,aP⟩,rfl,rfl⟩ ?_
 rintro m fl gu gD pc sR h' N ⟨k,j,a_,b6,cw,a8,bK,c7,d_,rfl,rfl,aq,S,jR,fJ,aC,⟨kv,ey⟩,⟨cc,cK,df⟩,aJ,rfl⟩ a7;have fT:=P.hb S;have qY:=fT.Dn;obtain⟨u,bb,eE,o8,jg,pM,rb⟩:=fT.get aq;have hlen:=P.len;have Db:bn .sub (ah (U ks)) (ah 1)=J (ah (U ks-1:Nat)):=m' (a:=U ks) (b:=1) I I;have jW:kvOf a8 j=kv:=o0 ey;have neg:∀x:Nat,bn h0 (dc x) (dc 0)=J (aQ ai)/\bn fG (dc x) (dc 0)=J (aQ av):=λx=>by
  constructor<;>simp[bn]<;>omega
 have dK:bn h0 (dc (-1)) (dc 0)=J (aQ av)/\bn fG (dc (-1)) (dc 0)=J (aQ ai):=⟨rfl,rfl⟩;refine i_ qY pM rb Db ?_;refine⟨λmZ=>?_,λmZ=>?_⟩
 .rw[LI I,belowS] at aJ;have fS:nameS ai ks aj M=match kvF ks[k] kv with
    |none=>.ok (gf (dY a8 j ks[k] (.arr [])) (U a8) []) (bK++[0]++[1]) (U a8+1)
    |some i=>match a8[i]? with
     |J (.arr l)=>.ok (gf a8 i l) (bK++[1]) (U a8)
     |J (.bX _)=>.no 1
     |_=>.no 1:=by
   unfold nameS;rw[<-aJ];simp only[ND (I:k+1=U ks),jW];cases atu:kvF ks[k] kv with
   |none=>rfl
   |some i=>
    simp only;cases dw:a8[i]? with
    |none=>rfl
    |some bB=>cases bB<;>rfl
  refine AF S.eh fJ aC ey jg (λi x aa ad an aT=>?_) λaa=>?_
  .rw[aa] at fS;simp only at fS;rw[(neg _).2,bs,ga];refine I2 S.eh an ?_;have bl:bn hF (bu x.kind) (bu 4)=J (aQ (decide (x.kind≠4))):=by
    have:=va (a:=x.kind) (b:=4);simp only[bn] at this⊢;simp_all
   refine bG bl ?_;refine⟨λhx=>?_,λhx=>?_⟩
   .have bad:∃c,nameS ai ks aj M=.no c:=by
     unfold Km at aT;grind
    exact B1 (s:=[116,111,109,108,58,32,107,101,121]) aE λe nw ar iX=>bw bad nw _ _ _ _ _ _ (S.fN ar) iX
   .have hx:=OX.1 hx;have Sg:∃l,a8[i]?=J (.arr l):=by
     unfold Km at aT;grind
    obtain⟨l,dw⟩:=Sg;rw[dw] at fS;refine ah8 S.eh S.dv (fJ.lt i ad).2 λbN aGt eX XR f g mT Eg=>?_;refine dG kf f1 ?_;refine mT.eh.JA mT.dv λcB c6 lP=>?_;have PF:=fJ.clear aC ey aa dw Eg;have nD:=(fk.1 dw).1;have i0:i≠0:=λe=>by subst e;obtain⟨b,af⟩:=df;grind
    have xe:=(fJ.lt 0 cc);have AD:c7 i≠0:=λe=>by
     have:=S.eh.tA _ _ an;obtain⟨_,y,dd,dr,_⟩:=fJ.down j kv ks[k] i aC ey aa;grind
    have aDo:f (c7 0)=0:=by rw[cK];exact Eg.low 0 (ed _) I
    have cn:¬g (c7 0):=λaX=>by
     have ae:=h5 xe.2;have:=(Eg.HW _ _ ae).1 aX;have dV:=(fJ.par _ _ ae);omega
    have azS:cz (gf a8 i l) 0:=by
     obtain⟨b,af⟩:=df;exact EE dw ⟨b,af⟩
    have a':=Eg.len;exact bq cB _ _ _ _ _ ((S.trans mT).trans lP) ⟨_,_,_,_,_,fS,PF,bF rfl,ED nD,al,bt ⟨cc,cn,λ_=>I⟩,al,azS⟩ I (λe=>by cases e)
  .rw[aa] at fS;simp only at fS;refine bG dK.2 ?_;refine yG (x:=⟨(c7 j:Int),4,ai,ks[k],u⟩) S.eh S.dv I (As o8 jg) ⟨a1,by have:=(fJ.lt j aC).2;simp;omega⟩ ⟨a1,a1⟩ λan rT cy gb=>?_;try refine dG kf f1 ?_
   refine gb.eh.JA gb.dv λcB c6 lP=>?_;have p6:=fJ.arr (x:=⟨(c7 j:Int),4,ai,ks[k],u⟩) aC ey aa ⟨rfl,rfl,rfl⟩;have h_:=(fJ.lt 0 cc).1;refine bq cB _ _ _ _ _ ((S.trans gb).trans lP) ⟨_,_,_,_,_,fS,p6,bt (bF rfl),?_,al,bt (bt cc),al,?_⟩ (by simp;omega) (λ_ eA nq vx af=>al)
   .have:=ED (aj:=dY a8 j ks[k] (.arr [])) (i:=U a8) (l:=[]) (by rw[lp];omega);rw[lp] at this;exact this
   .exact EE (l0:=[]) nW (qa df)
 .rw[LH I] at aJ;refine AF S.eh fJ aC ey jg (λi x aa ad an aT=>?_) λaa=>?_
  .rw[(neg _).2,bs,ga];refine I2 S.eh an ?_;have aS:bn cQ (bu x.kind) (bu 3)=J (aQ (decide (x.kind=3))):=va (b:=3);have bl:bn cQ (bu x.kind) (bu 4)=J (aQ (decide (x.kind=4))):=va (b:=4);have ar:bn cQ (bu x.kind) (bu 2)=J (aQ (decide (x.kind=2))):=va (b:=2);have fZ:∀t,d_ t->cz a8 t->c7 t=c7 i->belowS (ks[k]::ax (k+1) ks.dropLast) a8 bK j=belowS (ax (k+1) ks.dropLast) a8 bK t->N gu gD (dc (c7 i:Int)) (ah (k+1:Nat)) h':=λt t1 t2 t3 t4=>
    a7 (U ks-(k+1)) _ _ _ _ _ I ⟨k+1,t,a_,b6,cw,a8,bK,c7,d_,by rw[t3],rfl,I,S,I,fJ,t1,t2,⟨cc,cK,df⟩,al,rfl⟩
   have ok:x.kind=3\/x.kind=4\/x.kind=2->N gu gD (dc (c7 i:Int)) (ah (k+1:Nat)) h':=λae=>by
    unfold Km at aT;cases dw:a8[i]? with
    |none=>grind
    |some bB=>
     rw[dw] at aT;cases bB with
     |val v=>omega
     |arr l=>
      obtain⟨_,t,t1,t2,t3,t4⟩:=aT;exact fZ t t2 t3 t4 (Y1 al dw t1)
     |bX cL=>exact fZ i ad ⟨cL,dw⟩ rfl (Y6 al ⟨cL,dw⟩)
   have bad:¬x.kind=3->¬x.kind=4->¬x.kind=2->∃c,nameS ai ks aj M=.no c:=λfB hx cp=>by
    unfold Km at aT;cases dw:a8[i]? with
    |none=>grind
    |some bB=>
     rw[dw] at aT;cases bB with
     |val v=>
      refine⟨1,?_⟩;unfold nameS;rw[<-aJ,Y4 al dw]
     |arr l=>omega
     |bX cL=>
      grind
   refine lO ?_;refine hk aS bl ar ?_;refine⟨λfB=>ok (bF fB),λfB=>⟨λhx=>ok (bt (bF hx)),λhx=>⟨λcp=>ok (bt (bt cp)),λcp=>?_⟩⟩⟩;refine B1 (s:=[116,111,109,108,58,32,107,101,121]) aE λe nw ar iX=>?_;exact bw (bad fB hx cp) nw _ _ _ _ _ _ (S.fN ar) iX
  .refine bG dK.2 ?_;refine yG (x:=⟨(c7 j:Int),3,av,ks[k],u⟩) S.eh S.dv I (As o8 jg) ⟨a1,by have:=(fJ.lt j aC).2;simp;omega⟩ ⟨a1,a1⟩ λan rT cy gb=>?_;try refine aR ?_
   have p6:=fJ.add (x:=⟨(c7 j:Int),3,av,ks[k],u⟩) (bB:=.bX []) (m:=0) aC ey aa ⟨rfl,a1,rfl⟩ (bt ⟨rfl,a1⟩);refine a7 (U ks-(k+1)) _ _ _ _ _ I ⟨k+1,U a8,rT,cy,_,_,_,_,_,al,rfl,I,S.trans gb,by simp;omega,p6,bF rfl,⟨[],nW⟩,⟨bt cc,al,qa df⟩,?_,rfl⟩;rw[<-aJ,Y3 al]
end
structure oe(h:H)(own:cH)(d bz:Nat)(c:Array ao)(b C:Nat)(D:B):Prop where
 par:h[d]?=J (aO c bz)
 c5:own d=J (1000000,0)
 mJ:own b=ab
 size:11<=ag c
 n5:c[0]?=J (aQ av)
 fL:∃v,c[1]?=J v/\bp b 0 (U D) C v
 row:∃v ro cap L,c[3]?=J v/\b2 h v 7 L ro/\oM v=J (ah (cap:Nat))/\cap<=12000/\∀r,ro=J r->own r=J (1000000,1)
 pG:c[5]?=J (ah 0)
 doc:db h b D C
structure AV(h:H)(own:cH)(d bz:Nat)(c:Array ao)(r b C:Nat)(D:B)(aK:List eo):Prop where
 bB:ps h d bz r c aK
 hZ:U aK<=1000
 Dy:own r=J (1000000,1)
 mJ:own b=ab
 doc:db h b D C
 rQ:∀x∈aK,match x.lf with
  | .no=>True
  | .str s=>∃bb,own bb=ab/\kt h bb x.data s
  | .tok i j=>bp b i j C x.data/\j<=U D
def PU(k:Nat):Prop:=k=0\/k=1
def aft:∀{aK:List eo} {i:Nat},aK[i]?=J x->k<7->(aK.flatMap (kI p))[i*7+k]?=(kI p x)[k]?
 |[],_,h,_=>by simp at h
 |a::l,0,h,aq=>by
  simp only[rq,dg] at h;subst h;simp only[yu,pY,tM];exact pV (by simpa[kI] using aq)
 |a::l,i+1,h,aq=>by
  simp only[uN] at h;have aT:U (kI p a)=7:=rfl;simp only[yu];rw[pg I,aT,(I:(i+1)*7+k-7=i*7+k)];exact aft h aq
section
variable{h h':H}{own a_:cH}{d bz b C i n:Nat}{c:Array ao}{D:B}{v u:ao}{R:K}
def AV.hb(A:AV h own d bz c r b C D aK)(S:ft h own c h' a_ d bz b6 E cur):AV h' a_ d bz b6 r b C D aK:=by
 obtain⟨fl,t,af,aG⟩:=A.bB.bJ;have cf:∀x,x<ag h->own x=ab->h'[x]?=h[x]?/\a_ x=ab:=λx ae aH=>⟨S.ek.none ae aH,(S.ext x ae).trans aH⟩;have aF:=(cm.1 af).1;obtain⟨cap,e1⟩:=A.bB.row;refine⟨⟨S.eh.bJ,⟨cap,by rw[S.kU 3 I];exact e1⟩,A.bB.hZ,fl,t,(S.ek.2 r aF λk aq aL=>?_).trans af,aG⟩,A.hZ,(S.ext r aF).trans A.Dy,(cf b A.doc.lt A.mJ).2,A.doc.at (cf b A.doc.lt A.mJ).1,λx ae=>?_⟩
 .rw[A.Dy] at aq;cases aq;rcases aL with h|h|h<;>omega
 .have:=A.rQ x ae;cases au:x.lf with
  |no=>trivial
  |tok i j=>grind
  |str s=>
   rw[au] at this;obtain⟨bb,cZ,cj⟩:=this;have:=cf bb cj.lt cZ;exact⟨bb,this.2,cj.at this.1⟩
def AV.fN(A:AV h own d bz c r b C D aK)(e:aB h h'):AV h' own d bz c r b C D aK:=by
 refine⟨A.bB.ext e,A.hZ,A.Dy,A.mJ,A.doc.ext e,λx ae=>?_⟩;have:=A.rQ x ae;cases au:x.lf with
 |no=>trivial
 |tok i j=>grind
 |str s=>
  rw[au] at this;obtain⟨bb,cZ,cj⟩:=this;exact⟨bb,cZ,cj.ext e⟩
def oe.hb(P:oe h own d bz c b C D)(S:ft h own c h' a_ d bz b6 E cur):oe h' a_ d bz b6 b C D:=by
 obtain⟨v,ro,cap,L,cc,cK,df,gB,hj⟩:=P.row;obtain⟨w,gu,gD⟩:=P.fL;have af:=S.ek.none P.doc.lt P.mJ;refine⟨S.eh.bJ,S.eh.c5,(S.ext b P.doc.lt).trans P.mJ,S.eh.size,by rw[S.kU 0 I];exact P.n5,⟨w,by rw[S.kU 1 I];exact gu,gD⟩,⟨v,ro,cap,L,by rw[S.kU 3 I];exact cc,cK.at λr aF=>?_,df,gB,λr aF=>?_⟩,by rw[S.kU 5 I];exact P.pG,P.doc.at af⟩
 .subst aF;exact S.ek.2 r cK.lt λk aq aL=>by
   rw[hj r rfl] at aq;cases aq;rcases aL with h|h|h<;>omega
 .subst aF;exact(S.ext r cK.lt).trans (hj r rfl)
def uT(own:cH)(h h':H):Prop:=∀x,x<ag h->own x=ab->h'[x]?=h[x]?
def Yh(res:Option (e'×Nat))(h:H)(own:cH)(d bz:Nat)(c:Array ao)(b C:Nat)(D:B)(i n:Nat)(R:ao->H->Prop):Prop:=match res with
 |J (a,j)=>∀h' a_ b6 r aK v,AV h' a_ d bz b6 r b C D aK->At aK n 0 (U aK) a->oe h' a_ d bz b6 b C D->dL own a_ (ag h)->oH PU own h h'->(∀x y,a_ x=J y->x<ag h')->ag b6=ag c->(∀k,k≠3->k≠5->b6[k]?=c[k]?)->i<j/\U aK<=j-i->j<=U D->bp b j (U D) C v->R (bA #[d' r 0,v,cR]) h'
 |none=>∀x y e h',uT own h h'->db h' b D C->e2 h' b (U D) C e->R (bA #[x,y,e]) h'
def aia(P:oe h own d bz c b C D)(aG:∀x y,own x=J y->x<h.size)(a7:D.length<=400)(aD:bp b i D.length C u)(az:i<=D.length)(aI:D.length-i<n)(q:Yh (gval D n i) h own d bz c b C D i n R):bo 107 [aN d,u] h R:=by
 apply akl;obtain⟨v0,ro,cap,L,cc,cK,df,gB,hj⟩:=P.row;have aL:=P.size;have nB:d≠b:=λe=>by subst e;have:=P.c5;rw[P.mJ] at this;cases this
 have II:ro≠J d:=λe=>by have:=hj d e;rw[P.c5] at this;cases this
 have im:ro≠J b:=λe=>by have:=hj b e;rw[P.mJ] at this;cases this
 obtain⟨v1,s1,s2,dB⟩:∃v1,sl 7 v0 ab (J (.i 0)) ab=J v1/\b2 h v1 7 [] ro/\oM v1=J (.i (cap:Int))/\one v1=ai/\cellsL v1=[v1]:=by
  cases ro with
  |none=>
   obtain⟨rfl,_⟩:=cK;exact⟨.slice ab 0 0,rfl,⟨rfl,rfl⟩,df,rfl,rfl⟩
  |some r=>
   obtain⟨len,iP,jO,t,rfl,cZ,cj,eI,jB,ox⟩:=cK;exact⟨.slice (J ⟨r,0,ab⟩) 0 iP,JG (k:=0) I cj,⟨0,iP,jO,t,rfl,cZ,I,eI,a1,rfl⟩,df,rfl,rfl⟩
 obtain⟨dB,jf,pI⟩:=dB;have f3:fd 3 (aN d)=J (.pointer (J ⟨d,3,ab⟩)):=oO;refine i_ f3 (c4 P.par) cc s1 ?_;refine fx P.par I pI jf λaa aw dE=>?_;have aat:∀x,x<h.size->x≠d->aa[x]?=h[x]?:=λx ae bk=>aw.2 x ae (λe=>bk (en e));have gn:=(cm.1 P.par).1;obtain⟨w,gu,gD⟩:=P.fL;have arW:dO ⟨aa,d,bz,c.setIfInBounds 3 v1,b,C,D,ro⟩ (λx=>x<h.size/\own x=ab) aa 0 []:=by
  refine⟨c.setIfInBounds 3 v1,ro,⟨dE,by simp;omega,by rw[sK aE];exact P.n5,⟨w,al,gD⟩,⟨v1,cap,al,s2.at λr aF=>?_,dB,gB⟩,by rw[sK aE];exact P.pG,a1,II,im,nB,(λx ae=>by cases ae),P.doc.at (aat b P.doc.lt (λe=>nB e.symm))⟩,⟨bQ _,λ_ _ _ _=>rfl⟩,.inl rfl,rfl,λ_ _ _=>rfl,λz aV=>⟨cP aV.1 aw.1,λe=>(by have aW:=P.c5;grind),λe=>al⟩⟩;grind
 refine anX D n (o:=⟨aa,d,bz,c.setIfInBounds 3 v1,b,C,D,ro⟩) rfl arW a7 az aI (ed _) (ed _) aD ?_;cases aX:gval D n i with
 |none=>
  rw[aX] at q;intro x y e ad b3 Bw er;have af:=gW er;refine bG af ?_;exact q _ _ _ _ (λx ae aH=>(b3 x ⟨ae,aH⟩).trans (aat x ae λe=>by have:=P.c5;grind)) Bw.1 er
 |some Hd=>
  obtain⟨a,j⟩:=Hd;rw[aX] at q;intro ad aK x bh G xN jr m2 hlen eK aC vu;obtain⟨c2,e7,dV,arE,q0,aEd,abK,_⟩:=G.c9;obtain⟨v2,CA,t1,t2,t3,t4⟩:=dV.row;have xZ:0<aK.length:=(fk.1 jr).1;have hN:=Ve d aK;cases e7 with
  |none=>
   have:=t2.2;rw[this] at hN;simp only[tK] at hN;omega
  |some r=>
   have t20:=t2;obtain⟨len,iP,jO,t,rfl,cZ,cj,eI,jB,ox⟩:=t2;have:len=aK.length:=al
   subst this;have iD:bn .sub (.j 1) (.j 1)=J (.j 0):=rfl;have su:ia 7 (.slice (J ⟨r,0,ab⟩) aK.length iP) (.j 0)=J (d' r 0):=by
    simp only[ia];rw[aA ⟨I,I⟩];rfl
   refine vE f3 (c4 dV.par) t1 iD su ?_;have auF:∀x,x<h.size->(∀k,own x=J (1000000,k)->¬PU k)->x≠d/\ro≠J x:=λx ae aH=>⟨λe=>by subst e;exact aH 0 P.c5 (.inl rfl),λe=>aH 1 (hj x e) (.inr rfl)⟩;have fC:=aw.1;have ek:oH PU own h ad:=⟨dH fC arE.1,λx ae aH=>by
    grind⟩
   have sI:dL own (dX own (J r) (1000000,1)) h.size:=λx ae=>by
    unfold dX;split
    .rename_i e;cases e;rcases q0 with ar|⟨afm,ar,aS⟩
     .grind
     grind
    .rfl
   have UN:dX own (J r) (1000000,1) r=J (1000000,1):=by unfold dX;grind
   have Zq:∀k,k≠3->k≠5->c2[k]?=c[k]?:=λk a b=>al
   have dR:=P.doc.lt;refine q ad _ c2 r aK bh ⟨⟨dV.par,⟨iP,t1⟩,al,jO,t,cZ,λk x ae=>?_⟩,al,UN,(sI b dR).trans P.mJ,dV.doc,λx ae=>?_⟩ xN ⟨dV.par,(sI d gn).trans P.c5,(sI b dR).trans P.mJ,al,by rw[Zq 0 aE aE];exact P.n5,⟨w,al,gD⟩,⟨_,J r,CA,_,t1,t20,t3,t4,λcC e=>al⟩,dV.pG,dV.doc⟩ sI ek (λx y a2=>?_) al Zq ⟨eK,al⟩ aC vu
   .have cell:∀m,m<7->jO[k*7+m]?=(kI d x)[m]?:=λm hm=>by
     have:=aft (p:=d) ae hm;grind
    have:=cell 0 aE;rw[nm] at this;exact⟨this,cell 1 aE,cell 2 aE,cell 3 aE,cell 4 aE,cell 5 aE,cell 6 aE⟩
   .have:=(dV.rQ x ae).2.2;cases au:x.lf with
    |no=>trivial
    |tok i j=>grind
    |str s=>
     rw[au] at this;obtain⟨bb,cg,cJ,eP,hc⟩:=this;refine⟨bb,?_,hc⟩;have bk:J r≠J bb:=cJ;unfold dX;rw[ak bk];rcases eP with e|e
     .rw[e];exact P.mJ
     .cases aH:own bb with
      |none=>rfl
      |some y=>
       grind
   .unfold dX at a2;grind
def ajF(P:oe h own d bz c b C D)(aG:∀x y,own x=J y->x<ag h)(a7:U D<=400)(aD:bp b i (U D) C u)(az:i<=U D)(aI:U D-i<n)(q:Yh (gval D n i) h own d bz c b C D i n R):bo 77 [aN d,u] h R:=by
 apply amN;refine aia P aG a7 aD az aI ?_;cases aX:gval D n i with
 |none=>
  rw[aX] at q;intro x y e ad b3 Bw er;refine aR ?_;exact q _ _ _ _ b3 Bw er
 |some Hd=>
  obtain⟨a,j⟩:=Hd;rw[aX] at q;intro ad f_ c2 r aK bh bx bH cq dT e3 hJ lo px rz cg cJ;refine aR ?_;exact q ad f_ c2 r aK bh bx bH cq dT e3 hJ lo px rz cg cJ
end
def Kids.cons{β:Type}{P:Nat->Nat->β->Prop}{br az gr:Nat}{a:β}{l:List β}(h:Kids aK P br az gr (a::l)):∃e x yj,P br e a/\aK[br]?=J x/\x.fZ=hdN e l/\Kids aK P e az yj l:=by
 cases l with
 |nil=>
  obtain⟨aa,ad,x,an,aT⟩:=h;exact⟨az,x,0,aa,an,aT,rfl,rfl⟩
 |cons b l=>
  obtain⟨e,x,aa,ad,an,aT⟩:=h;exact⟨e,x,gr,aa,ad,an,aT⟩
def xp{β:Type}(h:H)(q t r:Nat)(aK:List eo)(br:Nat)(l:List β):Prop:=h[q]?=J (aO #[aQ av,gA r (hdN br l)] t)\/∃k x,h[q]?=J (aO #[aQ ai,d' r k] t)/\aK[k]?=J x/\x.kind≠0/\x.fZ=hdN br l
section
variable{β:Type}{h h' aa ad:H}{own a_ eJ:cH}{p d bz r b C q t cur br az gr k e:Nat}{c c1:Array ao}{aK:List eo}{x:eo}{P:Nat->Nat->β->Prop}{l:List β}{a:β}{D:B}{E:List eM}{R:K}
def Fj(lW:∀br e a,P br e a->∃x,aK[br]?=J x/\x.kind≠0)(cE:Kids aK P br az gr l):hdN br l<=U aK/\(hdN br l=0\/∃y,aK[hdN br l-1]?=J y/\y.kind≠0):=by
 cases l with
 |nil=>exact⟨ed _,bF rfl⟩
 |cons a l=>
  obtain⟨e,x,yj,aa,ad,an,aT⟩:=cE.cons;obtain⟨y,dd,dr⟩:=lW _ _ _ aa;have:=(fk.1 dd).1;exact⟨this,bt ⟨y,dd,dr⟩⟩
def Bg(lW:∀br e a,P br e a->∃x,aK[br]?=J x/\x.kind≠0)(aD:ps h p bz r c aK)(cE:Kids aK P br az gr l)(cr:xp h q t r aK br l)(fj:q≠p)(h2:q≠r)(bq:l=[]->∀h',bV (J q) h h'->R (aQ av) h')(bw:∀a gi,l=a::gi->∀h',bV (J q) h h'->h'[q]?=J (aO #[aQ ai,d' r br] t)->R (aQ ai) h'):bo 112 [aN q] h R:=by
 have bO:=Fj lW cE;have fin:∀h',bV (J q) h h'->h'[q]?=J (aO #[aQ ai,gA r (hdN br l)] t)->R (aQ (decide (hdN br l≠0))) h':=λh' e af=>by
  cases l with
  |nil=>exact bq rfl h' e
  |cons a gi=>
   have:(decide (hdN br (a::gi)≠0))=ai:=by simp[hdN]
   rw[this];exact bw a gi rfl h' e af
 rcases cr with af|⟨k,x,af,ae,aq,aI⟩
 .exact aie aD af fj h2 bO.2 fin
 .refine aif aD af fj h2 ae aq I al ?_;grind
def GI{a:e'}(h:At aK n br e a):∃x,aK[br]?=J x/\x.kind≠0:=by
 cases n with
 |zero=>exact h.elim
 |succ n=>
  obtain⟨x,aa,ad⟩:=h;grind
def K3(h:oI aK A br e Bj):∃x,aK[br]?=J x/\x.kind≠0:=by
 obtain⟨v,r,x,y,_,_,aa,ad,_⟩:=h;grind
def PK(h:np aK br e s):∃x,aK[br]?=J x/\x.kind≠0:=by
 obtain⟨_,x,aa,ad,_⟩:=h;grind
def WX(aD:ps h p bz r c aK)(af:h[q]?=J (aO #[s,d' r k] t)) (ae:aK[k]?=J x) (h3:R (aQ (decide (x.fZ=0))) h):bo 140 [aN q] h R:=by
 apply akS;obtain⟨fl,eO,qT,aG⟩:=aD.bJ;obtain⟨_,_,_,_,_,d5,_⟩:=aG k x ae;have f1:fd 1 (aN q)=J (bU (J ⟨q,1,ab⟩)):=oO;have f5:fd 5 (d' r k)=J (bU (J ⟨r,k*7+5,ab⟩)):=Bq (o:=4);have aI:nc (d' r k)=J (d' r k):=rfl;have he:bn cQ (dc x.fZ) (dc 0)=J (aQ (decide (x.fZ=0))):=by
  simp only[bn,eqV,ei,jl];congr 2
  grind
 have c1:(#[s,d' r k]:Array ao)[1]?=J (d' r k):=rfl;rw[FY,bs,f1,bs,fs af,c1,bs,aI,bs,f5,bs,fs qT,d5,bs,he,bs];exact h3
def WO(aD:ps h p bz r c aK)(ae:aK[k]?=J x)(ay:x.gO<=U aK)(h3:R (gA r x.gO) h):bo 116 [d' r k] h R:=by
 apply akt;exact Pf aD ae ay h3
def WN(aD:ps h p bz r c aK)(ae:aK[k]?=J x)(aq:x.kind=5)(ay:x.gO=v+1)(a2:aK[v]?=J y)(sE:y.kind≠0)(vw:y.fZ<=U aK)(h3:∀h',aB h h'->R (cA #[aQ av,gA r y.fZ]) h'):bo 115 [d' r k] h R:=by
 apply aks;rw[gE];have gp:ag (aZ (Z 195))=2:=by rw[Co];rfl
 have bP:=aB.push h (aO (aZ (Z 195)) 195);have k2:=aD.ext bP;obtain⟨fl,eO,qT,aG⟩:=k2.bJ;obtain⟨d0,_⟩:=aG k x ae;have f0:fd 0 (d' r k)=J (bU (J ⟨r,k*7,ab⟩)):=NW;have aI:nc (d' r k)=J (d' r k):=rfl;have he:bn cQ (ah x.kind) (ah 5)=J (aQ ai):=by rw[aq];rfl
 rw[aI,bs,f0,bs,fs qT,d0,bs,he,bs,gl];have Nn:=(fk.1 a2).1;refine Pf k2 ae I ?_;rw[ay];refine Pg k2 a2 sE ?_;rw[show un .not (aQ ai)=J (aQ av) from rfl,bs,ga];refine WW k2 a2 vw ?_;have asi:∀x (m:Nat) K,Bd (Z 195) [(1,1,gA r m)] x K=K (cA #[aQ av,gA r m]) x:=λx m K=>by
  rw[Co];cases m<;>rfl
 have aa:∀m,cellsL (gA r m)=[gA r m]/\one (gA r m)=ai:=λm=>by cases m<;>exact⟨rfl,rfl⟩
 rw[asi,h7 (n:=2) gp rfl (by show(ai&&(one _&&ai))=ai;grind),jK (n:=2) rfl aE];exact h3 _ (aB.push _ _)
def iE:Nat×Nat:=(1000001,7)
def kL(af:b≠n):cS own n y b=own b:=by unfold cS;grind
def ho.loc(T:ho h own d bz c E cur)(x:Obj):ho (a6 h x) (cS own (ag h) iE) d bz c E cur:=
 T.keep λb af _=>⟨(aB.push h x).2 b af,kL I⟩
def ft.loc(S:ft aW Jg ep h own d bz c E cur)(x:Obj):ft aW Jg ep (h.push x) (cS own h.size iE) d bz c E cur:=by
 have z:=S.ek.1;refine⟨S.eh.loc x,λb af=>by rw[kL I];exact S.ext b af,⟨by simp;omega,λb af aH=>by rw[(aB.push h x).2 b I];exact S.ek.2 b af aH⟩,S.size,S.kU,λb y a2=>?_⟩;unfold cS at a2;split at a2
 .simp;omega
 .have:=S.dv b y a2;simp;omega
def AV.loc(A:AV h own d bz c r b C D aK)(aG:∀x y,own x=J y->x<ag h)(x:Obj):AV (a6 h x) (cS own (ag h) iE) d bz c r b C D aK:=by
 have e:=aB.push h x;obtain⟨fl,t,af,_⟩:=A.bB.bJ;have aF:=(cm.1 af).1;have dR:=A.doc.lt;refine⟨A.bB.ext e,A.hZ,by rw[kL I];exact A.Dy,by rw[kL I];exact A.mJ,A.doc.ext e,λy a2=>?_⟩;have:=A.rQ y a2;cases au:y.lf with
 |no=>trivial
 |tok i j=>grind
 |str s=>
  rw[au] at this;obtain⟨bb,cZ,cj⟩:=this;have:=cj.lt;exact⟨bb,by rw[kL I];exact cZ,cj.ext e⟩
def ft.ra(S:ft aW Jg ep h own d bz c E cur)(b5:own q=J iE)(aum:aW.size<=q)(e:bV (J q) h h'):ft aW Jg ep h' own d bz c E cur:=by
 have cf:∀b,b<h.size->(own b=ab\/∃k,own b=J (1000000,k))->h'[b]?=h[b]?/\own b=own b:=λb af aH=>⟨e.2 b af (λe=>by
  cases e;rcases aH with aH|⟨k,aH⟩<;>(rw[b5] at aH;cases aH)),rfl⟩
 refine⟨S.eh.keep cf,S.ext,⟨dH S.ek.1 e.1,λb af aH=>?_⟩,S.size,S.kU,λb y a2=>cP (S.dv b y a2) e.1⟩;rw[e.2 b (cP af S.ek.1) (λe=>al),S.ek.2 b af aH]
def AV.ra(A:AV h own d bz c r b C D aK)(zd:own d=J (1000000,0))(b5:own q=J iE)(e:bV (J q) h h'):AV h' own d bz c r b C D aK:=by
 have fj:q≠d:=λe=>by subst e;rw[b5] at zd;cases zd
 have h2:q≠r:=λe=>by subst e;have:=A.Dy;rw[b5] at this;cases this
 have cf:∀x,x<ag h->own x=ab->h'[x]?=h[x]?:=λx ae aH=>e.2 x ae λe=>al
 refine⟨A.bB.Cr e fj h2,A.hZ,A.Dy,A.mJ,A.doc.at (cf b A.doc.lt A.mJ),λy a2=>?_⟩;have:=A.rQ y a2;cases au:y.lf with
 |no=>trivial
 |tok i j=>grind
 |str s=>
  rw[au] at this;obtain⟨bb,cZ,cj⟩:=this;exact⟨bb,cZ,cj.at (cf bb cj.lt cZ)⟩
end
def okPs(f:e'->Bool):List (List B×e')->List (bW Unit)->List Nat->Bool
 |[],_,_=>ai
 |q::l,aj,M=>match pairS () q.1 aj M 0 with
  | .ok a8 bK _=>f q.2&&okPs f l a8 bK
  | .no _=>av
def okV:Nat->e'->Bool
 |0,_=>av
 |n+1,a=>match a with
  | .str _=>ai
  | .tok _ _ _=>ai
  | .arr l=>l.all (okV n)
  | .qx l=>okPs (okV n) l [.bX []] [1]
def kS(E cw:List eM)(pid m:Nat):Prop:=∃X,cw=E++X/\U X<=m/\∀(i:Nat) x,U E<=i->cw[i]?=J x->(pid:Int)<=x.par/\x.par<(i:Int)
def kS.refl:kS E E pid m:=⟨[],a1,a1,λi x aa ad=>al⟩
def kS.trans(a:kS E kx p dK)(b:kS kx xl hG gz)(h:p<=hG):kS E xl p (dK+gz):=by
 obtain⟨X,rfl,b_,cp⟩:=a;obtain⟨Y,rfl,dd,dr⟩:=b;refine⟨X++Y,a1,by simp;omega,λi x aa ad=>?_⟩;grind
def kS.le(a:kS E kx p m)(h:m<=ez):kS E kx p ez:=by
 obtain⟨X,aa,ad,an⟩:=a;exact⟨X,aa,I,an⟩
def kS.len(a:kS E kx p m):U kx<=U E+m/\U E<=U kx:=by
 obtain⟨X,rfl,ad,an⟩:=a;simp;omega
def kS.one{x:eM}{pid:Nat}(h:(pid:Int)<=x.par/\x.par<(U E:Int)):kS E (E++[x]) pid 1:=⟨[x],rfl,a1,λi y aa ad=>by
 grind⟩
def Xz(n:Nat):Prop:=∀{h:H} {own:cH} {d bz cur r b C k e pid:Nat} {c:Array ao} {D:B} {E:List eM} {aK:List eo} {a:e'} {R:K},ho h own d bz c E cur->(∀b x,own b=J x->b<ag h)->AV h own d bz c r b C D aK->At aK n k e a->U E=pid+1->U E+(e-k)<=4900->
 (okV n a=ai->∀h' a_ b6 cw,ft h own c h' a_ d bz b6 cw cur->kS E cw pid (e-k-1)->R cR h')->(okV n a=av->∀h' a_ b6 cw v,ft h own c h' a_ d bz b6 cw cur->u1 h' v->R v h')->bo 108 [eB d 6,dc pid,d' r k] h R
section
variable{h h':H}{own a_:cH}{d bz cur r b C k e pid br id n:Nat}{c:Array ao}{D:B}{E:List eM}{aK:List eo}{R:K}{aj:List (bW Unit)}{M:List Nat}{ca:Nat->Nat}{live:Nat->Prop}{Bj:List B×e'}
def ail(eu:Xz n)(T:ho h own d bz c E cur)(aG:∀b x,own b=J x->b<ag h)(A:AV h own d bz c r b C D aK)(aq:oI aK (At aK n) br e Bj)(G:jm E aj M ca live)(da:live id)(aP:cz aj id)(S8:∀j,live j->pid<=ca j)(c0:U E+(e-br)<=4900)
  (bq:okV n Bj.2=ai->∀h' a_ b6 cw a8 bK cY c7 d_,ft h own c h' a_ d bz b6 cw cur->pairS () Bj.1 aj M id=.ok a8 bK cY->jm cw a8 bK c7 d_->d_ id/\c7 id=ca id/\cz a8 id->(∀j,d_ j->pid<=c7 j)->kS E cw pid (e-br)->R cR h')
  (bw:((∃c,pairS () Bj.1 aj M id=.no c)\/((∃a8 bK cY,pairS () Bj.1 aj M id=.ok a8 bK cY)/\okV n Bj.2=av))->∀h' a_ b6 cw v,ft h own c h' a_ d bz b6 cw cur->u1 h' v->R v h'):bo 128 [eB d 6,dc (ca id:Int),d' r br] h R:=by
 apply akF;obtain⟨vD,gr,mP,Wf,bk,cE,jr,FN,zp,fO,n4,vw⟩:=aq;obtain⟨ks,fE⟩:=Bj;simp only at bk cE fO bq bw;have oZ:∀br e s,np aK br e s->∃x,aK[br]?=J x/\x.kind≠0:=λbr e s h=>PK h;obtain⟨aBn,IU,sE⟩:=GI fO;rw[n4] at IU;cases IU;have Im:hdN (br+1) ks=br+2:=by
  cases ks with
  |nil=>grind
  |cons a l=>rfl
 have hle:=(Fj oZ cE).1;have au7:=(fk.1 n4).1;have atJ:=(Kids.br (np.loc (aK:=aK) (cG:=aK)).lt cE).1;have aFc:=(At.loc (aK:=aK) (cG:=aK) n).lt _ _ _ fO;refine WN A.bB jr FN zp n4 sE I λaa aw=>?_;rw[vw,<-Im];have gp:ag (aZ (Z 195))=2:=by rw[Co];rfl
 have oV:∀m,one (gA r m)=ai:=λm=>by cases m<;>rfl
 rw[gE,h7 (n:=2) gp rfl (by show(ai&&(one _&&ai))=ai;grind)];have hT:=(ft.refl T aG).fN aw;have i':=A.fN aw;have mm:=hT.loc (aO #[aQ av,gA r (hdN (br+1) ks)] 195);have iJ:=i'.loc hT.dv (aO #[aQ av,gA r (hdN (br+1) ks)] 195);have jc:(a6 aa (aO #[aQ av,gA r (hdN (br+1) ks)] 195))[ag aa]?=J (aO #[aQ av,gA r (hdN (br+1) ks)] 195):=dS _ _;have wA:cS own (ag aa) iE (ag aa)=J iE:=by unfold cS;grind
 have C4:=aw.1;refine jn (λm gu gD ae=>∃(a_:cH) (b6:Array ao) (cw:List eM) (a8:List (bW Unit)) (bK:List Nat) (c7:Nat->Nat) (d_:Nat->Prop) (j dJ gr:Nat) (l:List B),gu=dc (c7 j:Int)/\ft h own c ae a_ d bz b6 cw cur/\AV ae a_ d bz b6 r b C D aK/\a_ (ag aa)=J iE/\xp ae (ag aa) 195 r aK dJ l/\Kids aK (np aK) dJ vD gr l/\l≠[]/\br+1<=dJ/\dJ<=vD/\kS E cw pid (dJ-(br+1))/\jm cw a8 bK c7 d_/\d_ j/\cz a8 j/\(∀j,d_ j->pid<=c7 j)/\(d_ id/\c7 id=ca id/\cz a8 id)/\pairS () l a8 bK j=pairS () ks aj M id/\m=U l) _
  ⟨_,c,E,aj,M,ca,live,id,br+1,gr,ks,rfl,mm,iJ,wA,bF jc,cE,bk,bQ _,atJ,kS.refl,G,da,aP,S8,⟨da,rfl,aP⟩,rfl,rfl⟩ ?_
 rintro m fl gu gD ae N ⟨a_,b6,cw,a8,bK,c7,d_,j,dJ,yj,l,rfl,S,vI,kZ,cr,g7,au,acn,aco,uq,fJ,aC,⟨kv,ey⟩,S9,x2,aJ,rfl⟩ a7;have Dw:ag aa≠d:=λe=>by have:=S.eh.c5;rw[<-e,kZ] at this;cases this
 have Dx:ag aa≠r:=λe=>by have:=vI.Dy;rw[<-e,kZ] at this;cases this
 refine Bg oZ vI.bB g7 cr Dw Dx (λe=>absurd e au) λs gi hr ad ar cF=>?_;subst hr;have gb:=S.ra kZ C4 ar;have qF:=vI.ra S.eh.c5 kZ ar;obtain⟨c',x,q7,my,g9,m2,g0⟩:=g7.cons;obtain⟨iT,ec,gh,avd,tp⟩:=my;rw[g9] at gh;cases gh;subst iT;rw[gl];refine B2 cF ?_;obtain⟨Av,tZ,nB,n2⟩:=qF.bB.bJ;obtain⟨_,_,_,d3,_⟩:=n2 dJ x g9;have f3:fd 3 (d' r dJ)=J (bU (J ⟨r,dJ*7+3,ab⟩)):=Bq (o:=2);have aI:nc (d' r dJ)=J (d' r dJ):=rfl;rw[aI,bs,f3,bs,fs nB,d3,bs];refine WX qF.bB cF g9 ?_;have vo:=qF.rQ x (qD g9);rw[tp] at vo;obtain⟨bb,aH,jU⟩:=vo;have jW:kvOf a8 j=kv:=o0 ey;have a':=Kids.br (np.loc (aK:=aK) (cG:=aK)).lt g0;have ab4:=uq.len;have neg:∀x:Nat,bn h0 (dc x) (dc 0)=J (aQ ai)/\bn fG (dc x) (dc 0)=J (aQ av):=λx=>by
  constructor<;>simp[bn]<;>omega
 have dK:bn h0 (dc (-1)) (dc 0)=J (aQ av)/\bn fG (dc (-1)) (dc 0)=J (aQ ai):=⟨rfl,rfl⟩;have er:(∃c,pairS () ks aj M id=.no c)->bD 102 [fo ⟨#[116,111,109,108,58,32,107,101,121]⟩] ad λjG h=>R jG h:=λaf=>
  B1 (s:=[116,111,109,108,58,32,107,101,121]) aE λv an aS iX=>bw (bF af) an _ _ _ _ (gb.fN aS) iX
 cases gi with
 |nil=>
  have kX:x.fZ=0:=m2;rw[j7 kX,gl];have aFd:vD=dJ+1:=g0.1.symm;refine AF gb.eh fJ aC ey jU (λi y aa ad an aT=>?_) λaa=>?_
  .rw[(neg _).1,bs,gl];exact er ⟨1,by rw[<-aJ,pairS,aA rfl,jW,aa]⟩
  .rw[dK.1,bs,ga];have wx:=(fJ.lt j aC).2;refine yG (x:=⟨(c7 j:Int),1,av,s,x.data⟩) gb.eh gb.dv I (As aH jU) ⟨a1,by simp;omega⟩ ⟨a1,a1⟩ λan rT cy sZ=>?_;have mT:=gb.trans sZ;have BZ:=qF.hb sZ;refine WO BZ.bB jr I ?_;rw[zp];have xm:=fJ.add (x:=⟨(c7 j:Int),1,av,s,x.data⟩) (bB:=.val ()) (m:=0) aC ey aa ⟨rfl,a1,rfl⟩ (bF ⟨(),rfl,rfl⟩);have IE:pairS () ks aj M id=.ok (dY a8 j s (.val ())) (bK++[0]) j:=by rw[<-aJ,pairS,aA rfl,jW,aa]
   refine eu (pid:=U cw) mT.eh mT.dv BZ fO a1 (by simp;omega) (λjq cB wX c6 sb lP lV=>?_) λfy cB wX c6 sb v lP iX=>?_
   .have Tv:∀(i:Nat) y,U (cw++[(⟨(c7 j:Int),1,av,s,x.data⟩:eM)])<=i->sb[i]?=J y->(U cw:Int)<=y.par/\y.par<(i:Int):=by
     obtain⟨X,_,_,cb⟩:=lV;exact cb
    have asp:∀bI,(bI=U a8\/d_ bI)->cz (dY a8 j s (.val ())) bI->(if bI=U a8 then U cw else c7 bI)<U cw:=λbI g8 Nj=>by
     rcases g8 with rfl|g8
     .obtain⟨b,af⟩:=Nj;rw[nW] at af;cases af
     .have:=fJ.lt bI g8;grind
    have PE:jm sb (dY a8 j s (.val ())) (bK++[0]) (λbI=>if bI=U a8 then U cw else c7 bI) (λbI=>bI=U a8\/d_ bI):=by
     obtain⟨X,rfl,_,_⟩:=lV;exact xm.more (b:=U cw) Tv asp
    have hN:=fJ.lt id x2.1;refine bq jq cB wX c6 sb _ _ _ _ _ (mT.trans lP) IE PE ⟨bt x2.1,al,qa x2.2.2⟩ (λbI g8=>?_) ?_
    .grind
    .have IC:=S9 j aC;have ct:kS cw (cw++[(⟨(c7 j:Int),1,av,s,x.data⟩:eM)]) pid 1:=kS.one ⟨by simp;omega,by simp;omega⟩;exact((uq.trans ct (bQ _)).trans lV I).le I
   .exact bw (bt ⟨⟨_,_,_,IE⟩,fy⟩) cB wX c6 sb v (mT.trans lP) iX
 |cons s2 dA=>
  have kX:x.fZ≠0:=by rw[m2];simp[hdN]
  rw[ig kX,ga];have sy:(s2::dA)≠[]:=a1
  refine AF gb.eh fJ aC ey jU (λi y jb ad an aT=>?_) λjb=>?_
  .rw[(neg _).2,bs,ga];refine I2 gb.eh an ?_;have kY:bn hF (bu y.kind) (bu 2)=J (aQ (decide (y.kind≠2))):=by
    simp only[bn,eqV,ei,jl];congr 2
    grind
   rw[kY,bs];by_cases ik:y.kind=2
   .rw[ig I,ga];have qq:cz a8 i/\bK.getD i 0≠0/\bK.getD i 0≠1:=by
     unfold Km at aT;cases dw:a8[i]? with
     |none=>grind
     |some bB=>
      rw[dw] at aT;cases bB with
      |val a=>omega
      |arr l=>omega
      |bX cL=>
       simp only at aT;split at aT
       .omega
       .rename_i hm;exact⟨⟨cL,dw⟩,I,I⟩
    obtain⟨⟨cL,dw⟩,wz⟩:=qq;refine a7 (U (s2::dA)) _ _ _ a1 ⟨a_,b6,cw,a8,bK,c7,d_,i,dJ+1,q7,s2::dA,rfl,gb,qF,kZ,bt ⟨dJ,x,cF,g9,I,m2⟩,g0,a1,I,a'.1,uq.le I,fJ,ad,⟨cL,dw⟩,S9,x2,?_,rfl⟩;rw[<-aJ];conv=>rhs;rw[pairS,ak sy,jW,jb]
    simp only[dw];grind
   .rw[j7 ik,gl];refine er ?_;unfold Km at aT;cases dw:a8[i]? with
    |none=>grind
    |some bB=>
     rw[dw] at aT;cases bB with
     |val a=>exact⟨1,by rw[<-aJ,pairS,ak sy,jW,jb];simp only[dw]⟩
     |arr l=>exact⟨1,by rw[<-aJ,pairS,ak sy,jW,jb];simp only[dw]⟩
     |bX cL=>
      simp only at aT;by_cases C6:bK.getD i 0=1
      .exact⟨1,by rw[<-aJ,pairS,ak sy,jW,jb];simp only[dw];grind⟩
      .by_cases sw:bK.getD i 0=0
       .exact⟨2,by rw[<-aJ,pairS,ak sy,jW,jb];simp only[dw];grind⟩
       grind
  .rw[dK.2,bs,gl];have wx:=(fJ.lt j aC).2;refine yG (x:=⟨(c7 j:Int),2,av,s,x.data⟩) gb.eh gb.dv I (As aH jU) ⟨a1,by simp;omega⟩ ⟨a1,a1⟩ λan rT cy sZ=>?_;have mT:=gb.trans sZ;have BZ:=qF.hb sZ;have qo:=(cm.1 cF).1;have eH:an[ag aa]?=J (aO #[aQ ai,d' r dJ] 195):=(sZ.ek.2 _ qo (λk aq=>by rw[kZ] at aq;cases aq)).trans cF;have xm:=fJ.add (x:=⟨(c7 j:Int),2,av,s,x.data⟩) (bB:=.bX []) (m:=2) aC ey jb ⟨rfl,a1,rfl⟩ (bt ⟨rfl,a1⟩);have IC:=S9 j aC;have ct:kS cw (cw++[(⟨(c7 j:Int),2,av,s,x.data⟩:eM)]) pid 1:=kS.one ⟨by simp;omega,by simp;omega⟩;have hN:=fJ.lt id x2.1;refine a7 (U (s2::dA)) _ _ _ a1 ⟨rT,cy,_,_,_,_,_,U a8,dJ+1,q7,s2::dA,al,mT,BZ,(sZ.ext _ qo).trans kZ,bt ⟨dJ,x,eH,g9,I,m2⟩,g0,a1,I,a'.1,(uq.trans ct (bQ _)).le I,xm,bF rfl,⟨[],nW⟩,λbI g8=>?_,⟨bt x2.1,al,qa x2.2.2⟩,?_,rfl⟩
   .grind
   .rw[<-aJ];conv=>rhs;rw[pairS,ak sy,jW,jb]
end
def I4{a b:Nat}:bn cQ (ah (a:Int)) (ah (b:Int))=J (aQ (decide (a=b))):=by
 simp only[bn,eqV,ei,jl];congr 2
 grind
def ajV(n:Nat):Xz n:=by
 induction n with
 |zero=>
  intro h own d bz cur r b C k e pid c D E aK a R T aG A fO;exact fO.elim
 |succ n bR=>
  intro h own d bz cur r b C k e pid c D E aK a R T aG A fO jV c0 bq bw;apply akm;have a':=(At.loc (aK:=aK) (cG:=aK) (n+1)).lt _ _ _ fO;obtain⟨x,ae,bE⟩:=fO;obtain⟨Av,tZ,nB,n2⟩:=A.bB.bJ;obtain⟨d0,_⟩:=n2 k x ae;have f0:∀k,fd 0 (d' r k)=J (bU (J ⟨r,k*7,ab⟩)):=λk=>NW;have aI:∀k,nc (d' r k)=J (d' r k):=λk=>rfl;have nu:∀m:Nat,bn cQ (ah m) (ah 7)=J (aQ (decide (m=7))):=λm=>I4 (b:=7);have e6:∀m:Nat,bn cQ (ah m) (ah 6)=J (aQ (decide (m=6))):=λm=>I4 (b:=6);have gp:ag (aZ (Z 195))=2:=by rw[Co];rfl
  have oV:∀m,one (gA r m)=ai:=λm=>by cases m<;>rfl
  rw[aI,bs,f0,bs,fs nB,d0,bs,nu,bs];have leaf:x.kind≠7->x.kind≠6->okV (n+1) a=ai->b1 (aQ (decide (x.kind=7))) (bD 111 [d' r k] h λfI h=>oG 195 (Z 195) h λv6 h=>bZ 2 v6 fI h λ_ h=>iL 0 [] h λlN _ h=>bD 112 [v6] h λhH h=>b1 hH (bD 113 [v6] h λj4 h=>bD 128 [eB d 6,dc pid,j4] h λj5 h=>Pu (beI ai j5 cR) h λv10 h=>b1 v10 (R j5 h) (lN h)) (R cR h))
    (Pu (bn cQ (ah x.kind) (ah 6)) h λv11 h=>b1 v11 (bD 111 [d' r k] h λhv h=>oG 195 (Z 195) h λjG h=>bZ 2 jG hv h λ_ h=>iL 0 [] h λnV _ h=>bD 112 [jG] h λlG h=>b1 lG (bD 113 [jG] h λjh h=>Pu (nc jh) h λiq h=>Pu (fd 0 iq) h λiY h=>cd iY h λri h=>Pu (bn cQ ri (ah 7)) h λh4 h=>a0 h4 av (λh k=>k jh h) h λv20 h=>a0 h4 av (Pu (nc v20)) h λgC h=>a0 h4 av (Pu (fd 0 gC)) h λf' h=>a0 h4 av (cd f') h λg2 h=>a0 h4 av (Pu (bn cQ g2 (ah 6))) h λji h=>Pu (pk h4 (aQ ai) ji) h λhS h=>b1 hS (bD 101 [eB d 6,dc pid,a5 ab 0 0,bu 5,aQ av] h λjj h=>bD 108 [eB d 6,jj,jh] h λgT h=>Pu (beI ai gT cR) h λjH h=>b1 jH (R gT h) (nV h)) (nV h)) (R cR h)) (R cR h)):=λde cB jq=>by
   rw[ig de,ga,e6,bs,ig cB,ga];exact bq jq h own c E (ft.refl T aG) kS.refl
  cases a with
  |str s=>
   simp only at bE;exact leaf I I rfl
  |tok kd i j=>
   simp only at bE;exact leaf I I rfl
  |arr l0=>
   simp only at bE;obtain⟨atp,Ss,gr,cE⟩:=bE;clear leaf;have oZ:∀br e a,At aK n br e a->∃x,aK[br]?=J x/\x.kind≠0:=λbr e a h=>GI h;have hle:=(Fj oZ cE).1;have xX:=(Kids.br (At.loc (aK:=aK) (cG:=aK) n).lt cE).1;rw[ig I,ga,e6,bs,j7 atp,gl];refine Pe A.bB ae I λaa aw=>?_;rw[Ss,gE,h7 (n:=2) gp rfl (by show(ai&&(one _&&ai))=ai;grind)];have hT:=(ft.refl T aG).fN aw;have i':=A.fN aw;have mm:=hT.loc (aO #[aQ av,gA r (hdN (k+1) l0)] 195);have iJ:=i'.loc hT.dv (aO #[aQ av,gA r (hdN (k+1) l0)] 195);have jc:(a6 aa (aO #[aQ av,gA r (hdN (k+1) l0)] 195))[ag aa]?=J (aO #[aQ av,gA r (hdN (k+1) l0)] 195):=dS _ _;have wA:cS own (ag aa) iE (ag aa)=J iE:=by unfold cS;grind
   have C4:=aw.1;refine sX (λm ae=>∃(a_:cH) (b6:Array ao) (cw:List eM) (dJ gr:Nat) (l:List e'),ft h own c ae a_ d bz b6 cw cur/\AV ae a_ d bz b6 r b C D aK/\a_ (ag aa)=J iE/\xp ae (ag aa) 195 r aK dJ l/\Kids aK (At aK n) dJ e gr l/\k+1<=dJ/\dJ<=e/\kS E cw pid (dJ-(k+1))/\l.all (okV n)=l0.all (okV n)/\m=U l) _
    ⟨_,c,E,k+1,gr,l0,mm,iJ,wA,bF jc,cE,bQ _,xX,kS.refl,rfl,rfl⟩ ?_
   rintro m fl gh N ⟨a_,b6,cw,dJ,yj,l,S,vI,kZ,cr,g7,acn,aco,uq,l',rfl⟩ a7;have Dw:ag aa≠d:=λe=>by have:=S.eh.c5;rw[<-e,kZ] at this;cases this
   have Dx:ag aa≠r:=λe=>al
   refine Bg oZ vI.bB g7 cr Dw Dx (λau ad ar=>?_) λs gi hr ad ar cF=>?_
   .subst au;rw[ga];have gb:=S.ra kZ C4 ar;exact bq l'.symm ad a_ b6 cw gb (uq.le I)
   .subst hr;have gb:=S.ra kZ C4 ar;have qF:=vI.ra S.eh.c5 kZ ar;obtain⟨c',y,q7,my,g9,m2,g0⟩:=g7.cons;obtain⟨y',tq,sE⟩:=GI my;rw[g9] at tq;cases tq;have qZ:=(At.loc (aK:=aK) (cG:=aK) n).lt _ _ _ my;have Iu:=Kids.br (At.loc (aK:=aK) (cG:=aK) n).lt g0;have ab4:=uq.len;rw[gl];refine B2 cF ?_;obtain⟨Av,tZ,nB,n2⟩:=qF.bB.bJ;obtain⟨cn,_⟩:=n2 dJ y g9;rw[aI,bs,f0,bs,fs nB,cn,bs,nu,bs];have sub:(y.kind=7\/y.kind=6)->bD 101 [eB d 6,dc pid,a5 ab 0 0,bu 5,aQ av] ad λjj h=>bD 108 [eB d 6,jj,d' r dJ] h λgT h=>Pu (beI ai gT cR) h λjH h=>b1 jH (R gT h) (N h):=λ_=>by
     refine yG (x:=⟨(pid:Int),5,av,[],a5 ab 0 0⟩) gb.eh gb.dv I (bF ⟨rfl,rfl⟩) ⟨a1,by simp;omega⟩ ⟨a1,a1⟩ λan rT cy sZ=>?_;have mT:=gb.trans sZ;have BZ:=qF.hb sZ;have qo:=(cm.1 cF).1;have eH:an[ag aa]?=J (aO #[aQ ai,d' r dJ] 195):=(sZ.ek.2 _ qo (λk aq=>by rw[kZ] at aq;cases aq)).trans cF;have FD:=(sZ.ext _ qo).trans kZ;have acG:=(cm.1 eH).1;have ct:kS cw (cw++[(⟨(pid:Int),5,av,[],a5 ab 0 0⟩:eM)]) pid 1:=kS.one ⟨a1,by simp;omega⟩;refine bR (pid:=U cw) mT.eh mT.dv BZ my a1 (by simp;omega) (λjq cB wX c6 sb lP lV=>?_) λfy cB wX c6 sb v lP iX=>?_
     .rw[show beI ai cR cR=J (aQ av) from rfl,bs,ga];have AQ:cB[ag aa]?=J (aO #[aQ ai,d' r dJ] 195):=(lP.ek.2 _ acG (λk aq=>by rw[FD] at aq;cases aq)).trans eH;refine a7 (U gi) _ a1 ⟨wX,c6,sb,c',q7,gi,mT.trans lP,BZ.hb lP,(lP.ext _ acG).trans FD,bt ⟨dJ,y,AQ,g9,sE,m2⟩,g0,I,I,((uq.trans ct (bQ _)).trans lV I).le I,?_,rfl⟩;grind
     .rw[Cw iX,bs,gl];refine bw ?_ cB wX c6 sb v (mT.trans lP) iX;show l0.all (okV n)=av;grind
    have fZ:okV n s=ai->N ad:=λjq=>
     a7 (U gi) _ a1 ⟨a_,b6,cw,c',q7,gi,gb,qF,kZ,bt ⟨dJ,y,cF,g9,sE,m2⟩,g0,I,I,uq.le I,al,rfl⟩
    by_cases de:y.kind=7
    .rw[j7 de];refine aR ?_;grind
    .rw[ig de];have apD:=e6 y.kind;refine vE aI f0 (c4 nB) cn apD ?_;refine⟨λcB=>sub (bt cB),λcB=>fZ ?_⟩;cases n with
     |zero=>exact my.elim
     |succ n=>
      obtain⟨z,aV,aFo⟩:=my;rw[g9] at aV;cases aV;cases s with
      |str s=>rfl
      |tok kd i j=>rfl
      |arr l=>omega
      |qx l=>omega
  |qx l0=>
   simp only at bE;obtain⟨atq,Ss,gr,cE⟩:=bE;clear leaf;have oZ:∀br e a,oI aK (At aK n) br e a->∃x,aK[br]?=J x/\x.kind≠0:=λbr e a h=>K3 h;have hle:=(Fj oZ cE).1;have Ab:=oI.loc (At.loc (aK:=aK) (cG:=aK) n);have xX:=(Kids.br Ab.lt cE).1;rw[j7 atq,gl];refine Pe A.bB ae I λaa aw=>?_;rw[Ss,gE,h7 (n:=2) gp rfl (by show(ai&&(one _&&ai))=ai;grind)];have hT:=(ft.refl T aG).fN aw;have i':=A.fN aw;have mm:=hT.loc (aO #[aQ av,gA r (hdN (k+1) l0)] 195);have iJ:=i'.loc hT.dv (aO #[aQ av,gA r (hdN (k+1) l0)] 195);have jc:(a6 aa (aO #[aQ av,gA r (hdN (k+1) l0)] 195))[ag aa]?=J (aO #[aQ av,gA r (hdN (k+1) l0)] 195):=dS _ _;have wA:cS own (ag aa) iE (ag aa)=J iE:=by unfold cS;grind
   have C4:=aw.1;have ane:jm E ([.bX []]:List (bW Unit)) [1] (λ_=>pid) (λj=>j=0):=by
    refine⟨rfl,λj aC=>al,λj kv s k aC aa ad=>?_,λj kv i y aC aa ad an=>?_,λi j az aC _ _ _=>by rw[az,aC],λi y a2=>(T.tA i y a2).2⟩
    .subst aC;cases aa;cases ad
    .have:=(T.tA i y ad).2;grind
   refine sX (λm ae=>∃(a_:cH) (b6:Array ao) (cw:List eM) (aj:List (bW Unit)) (M:List Nat) (ca:Nat->Nat) (live:Nat->Prop) (dJ gr:Nat) (l:List (List B×e')),ft h own c ae a_ d bz b6 cw cur/\AV ae a_ d bz b6 r b C D aK/\a_ (ag aa)=J iE/\xp ae (ag aa) 195 r aK dJ l/\Kids aK (oI aK (At aK n)) dJ e gr l/\k+1<=dJ/\dJ<=e/\kS E cw pid (dJ-(k+1))/\jm cw aj M ca live/\(live 0/\ca 0=pid/\cz aj 0)/\(∀j,live j->pid<=ca j)/\okPs (okV n) l aj M=okPs (okV n) l0 [.bX []] [1]/\m=U l) _
    ⟨_,c,E,_,_,_,_,k+1,gr,l0,mm,iJ,wA,bF jc,cE,bQ _,xX,kS.refl,ane,⟨rfl,rfl,[],rfl⟩,λ_ _=>bQ _,rfl,rfl⟩ ?_
   rintro m fl gh N ⟨a_,b6,cw,aj,M,ca,live,dJ,yj,l,S,vI,kZ,cr,g7,acn,aco,uq,G,⟨cc,cK,df⟩,S8,jq,rfl⟩ a7;have Dw:ag aa≠d:=λe=>by have:=S.eh.c5;rw[<-e,kZ] at this;cases this
   have Dx:ag aa≠r:=λe=>al
   refine Bg oZ vI.bB g7 cr Dw Dx (λau ad ar=>?_) λs gi hr ad ar cF=>?_
   .subst au;rw[ga];have gb:=S.ra kZ C4 ar;exact bq jq.symm ad a_ b6 cw gb (uq.le I)
   .subst hr;have gb:=S.ra kZ C4 ar;have qF:=vI.ra S.eh.c5 kZ ar;obtain⟨c',y,q7,my,g9,m2,g0⟩:=g7.cons;obtain⟨y',tq,sE⟩:=K3 my;rw[g9] at tq;cases tq;have qZ:=Ab.lt _ _ _ my;have Iu:=Kids.br Ab.lt g0;have ab4:=uq.len;have qo:=(cm.1 cF).1;rw[gl];refine B2 cF ?_;rw[<-cK];refine ail (pid:=pid) bR gb.eh gb.dv qF my G cc df S8 I (λgg cB wX c6 sb aBB anz aFu apK awq lP aud PE afO ayd lV=>?_) λMG cB wX c6 sb v lP iX=>?_
    .rw[show beI ai cR cR=J (aQ av) from rfl,bs,ga];have AQ:cB[ag aa]?=J (aO #[aQ ai,d' r dJ] 195):=(lP.ek.2 _ qo (λk aq=>by rw[kZ] at aq;cases aq)).trans cF;rw[cK] at afO;refine a7 (U gi) _ a1 ⟨wX,c6,sb,aBB,anz,apK,awq,c',q7,gi,gb.trans lP,qF.hb lP,(lP.ext _ qo).trans kZ,bt ⟨dJ,y,AQ,g9,sE,m2⟩,g0,I,I,(uq.trans lV (bQ _)).le I,PE,afO,ayd,?_,rfl⟩;rw[<-jq];conv=>rhs;rw[okPs,aud]
     grind
    .rw[Cw iX,bs,gl];refine bw ?_ cB wX c6 sb v (gb.trans lP) iX;show okPs (okV n) l0 [.bX []] [1]=av;rw[<-jq];rcases MG with ⟨LA,af⟩|⟨⟨BS,Ae,i9,af⟩,cF⟩
     .rw[okPs,af]
     .rw[okPs,af];grind
def ajG(T:ho h own d bz c E cur)(aG:∀b x,own b=J x->b<ag h)(A:AV h own d bz c r b C D aK)(fO:At aK n k e a)(aJ:U E=pid+1)(aL:U E+(e-k)<=4900)
  (bq:okV n a=ai->∀h' a_ b6 cw,ft h own c h' a_ d bz b6 cw cur->kS E cw pid (e-k-1)->R cR h') (bw:okV n a=av->∀h' a_ b6 cw v,ft h own c h' a_ d bz b6 cw cur->u1 h' v->R v h'):bo 79 [eB d 6,dc (pid:Int),d' r k] h R:=by
 apply amP;exact ajV n T aG A fO aJ aL bq bw
def VQ:∀{l:B} {v n:Nat},twoLoop v l=J n->n<(v+1)*10^U l
 |[],v,n,h=>by
  simp only[twoLoop,dg] at h;simp;omega
 |c::l,v,n,h=>by
  rw[twoLoop] at h;split at h
  .cases h
  .have:=VQ h;have ay:(v*10+(c.toNat-48)+1)*10^U l<=((v+1)*10)*10^U l:=jx _ I;grind
def agW(h:two l=J n):n<10^U l:=by
 have:=VQ h;omega
def ayj:U (aU D i j)<=j-i:=by unfold aU;simp;omega
def OK(h:two (aU D i j)=J n)(hm:j-i<=m):n<10^m:=cP (agW h) (l4 aE (dH ayj hm))
def adV(h:ldate D i j=J d):Ek d:=by
 unfold ldate at h;split at h
 .split at h
  .rename_i y m v5 aa ad an;split at h
   .cases h;have a:=OK (m:=4) aa I;have b:=OK (m:=2) ad I;have c:=OK (m:=2) an I;exact⟨I,al,al⟩
   .cases h
  .cases h
 .cases h
def azZ(bE:a<1000000)(af:b<1000000)(ay:c<1000000)(h:tfrac D a b c k j=J (t,n)):Cj t:=by
 unfold tfrac at h;split at h
 .split at h
  .cases h
  .split at h
   .rename_i f bj;cases h;have:=OK (m:=min (jo D (k+1) j) 9) bj I;refine⟨bE,af,ay,?_⟩;simp only;have gg:min (jo D (k+1) j) 9<=9:=aBY _ _;generalize min (jo D (k+1) j) 9=m at*;have e:10^m*10^(9-m)=1000000000:=by rw[<-fw,(I:m+(9-m)=9)]
    rw[<-e];exact vH this (ob aE)
   .cases h
 .cases h;exact⟨bE,af,ay,a1⟩
def ad6(h:ltime D i j=J (t,n)):Cj t:=by
 unfold ltime at h;split at h
 .cases h
 split at h
 .cases h
 rename_i a bE;split at h
 .cases h
 split at h
 .cases h
 split at h
 .cases h
 rename_i b af;split at h
 .cases h
 unfold Gk at h;split at h
 .split at h
  .cases h
  split at h
  .rename_i c ay;split at h
   .cases h
   .exact azZ I I I h
  .cases h
 .cases h;exact⟨al,al,al,al⟩
def TY(h:ldt D i j=J (d,t,n)):Ek d/\Cj t:=by
 unfold ldt at h;split at h
 .cases h
 split at h
 .cases h
 rename_i fl aG;split at h
 .split at h
  .cases h
  .rename_i eO k aP;cases h;exact⟨adV aG,ad6 aP⟩
 .cases h
def aq2(h:godt D i j=J (d,t,z)):Ek d/\Cj t/\-1000000<z/\z<1000000:=by
 unfold godt at h;split at h
 .cases h
 rename_i fl eO k aG;split at h
 .cases h
 split at h
 .cases h
 rename_i aG4 k' aV;split at h
 .cases h
 cases h;refine⟨(TY aG).1,(TY aG).2,?_⟩;unfold gzone at aV;split at aV
 .grind
 split at aV
 .cases aV
 grind
def Ck(D:B)(i k j:Nat):Prop:=(k=11->GZ D i j)/\(k=9->i<j)/\(k=10->((g D (bg D i)=105\/g D (bg D i)=110)/\j=bg D i+3)\/(48<=g D (bg D i)/\g D (bg D i)<=57/\bg D i<j/\∃neg ms f E,FS (du (aU D i j)) neg ms f E))
def wS(d:Nat×Nat×Nat)(t:og):B:=qd d.1 d.2.1 d.2.2++[84]++qb t.h t.m t.s t.n
def tokQ(D:B)(k i j:Nat)(Q:Option bL->Prop):Prop:=
 if k=11 then Q ((AG D i j).map λn=>.mk 1 n 0 [] [] [])
 else if k=10 then(if g D (bg D i)=105\/g D (bg D i)=110 then Q (J (.mk 2 0 (vY (Ge D i)) [] [] [])) else∀neg ms f E,FS (du (aU D i j)) neg ms f E->(∀x,GW neg (b' ms) (E-f) x->Q (J (.mk 2 0 (vY x) [] [] [])))/\(b' ms≠0->(∀w,mG (lE (b' ms) (E-f)) (jZ (E-f)) w->lE (b' ms) (E-f)<jZ (E-f)*2^1000->False)->Q ab))
 else if k=9 then Q (J (.mk 3 (cond (decide (g D i=116)) 1 0) 0 [] [] []))
 else if k=15 then Q ((godt D i j).map λx=>.mk 4 0 0 (wS x.1 x.2.1++uK x.2.2) [] [])
 else if k=14 then Q (match ldt D i j with
  |J (d,t,n)=>if n<j then ab else J (.mk 5 0 0 (wS d t) [] [])
  |none=>ab)
 else if k=12 then Q ((ldate D i j).map λd=>.mk 6 0 0 (qd d.1 d.2.1 d.2.2) [] [])
 else if k=13 then Q (match ltime D i j with
  |J (t,n)=>if n<j then ab else J (.mk 7 0 0 (qb t.h t.m t.s t.n) [] [])
  |none=>ab)
 else Q ab
def vP(b C:Nat)(D:B)(h:H)(R:ao->H->Prop):Option bL->Prop
 |some t=>∀h' v,aB h h'->(∀own,gx own h' v t)->R (bA #[v,cR]) h'
 |none=>∀x e h',aB h h'->e2 h' b (U D) C e->R (bA #[x,e]) h'
section
variable{h:H}{b C i j:Nat}{D:B}{v:ao}{R:K}
def Ym(aM:db h b D C)(aD:bp b i j C v)(aC:j<=U D)(ok:GZ D i j)(q:vP b C D h R ((AG D i j).map λn=>.mk 1 n 0 [] [] [])):bD 109 [v] h λjG h=>Pu (exv 0 jG) h λlG h=>Pu (exv 1 jG) h λjh h=>R (.tuple #[.iface 2 lG,jh]) h:=by
 refine aib aM aD aC ok ⟨λn aI=>?_,λaI e h' aw er=>?_⟩
 ·(simp-implicitDefEqProofs+contextual (disch:=omega) only[go_sem];try refine c8 ?_)
  rw[aI] at q;exact q h _ (aB.refl _) λown=>.int
 .refine aR ?_;rw[aI] at q;exact q _ e h' aw er
def Yl(aM:db h b D C)(aD:bp b i j C v)(aC:j<=U D)(ok:Ck D i 10 j)(q:tokQ D 10 i j (vP b C D h R)):bD 110 [v] h λv20 h=>Pu (exv 0 v20) h λgC h=>Pu (exv 1 v20) h λf' h=>R (bA #[cW 89 gC,f']) h:=by
 unfold tokQ at q;rw[ak aE,aA rfl] at q;rcases ok.2.2 rfl with ⟨aa,ad⟩|⟨aa,ad,an,neg,ms,f,E,aT⟩
 .rw[aA aa] at q;refine aid aM aD aC aa ad ?_;refine aR ?_;exact q h _ (aB.refl _) λown=>.sm
 .rw[ak I] at q;obtain⟨bq,bw⟩:=q neg ms f E aT;refine aic aM aD aC ⟨aa,ad⟩ an aT (λx h' aw aqh=>?_) λe h' aw er aI bj=>?_
  .refine aR ?_;exact bq x aqh h' _ aw λown=>.sm
  .refine aR ?_;exact bw aI bj _ e h' aw er
def Yr(aM:db h b D C)(aD:bp b i j C v)(aC:j<=U D)(az:i<j)(q:vP b C D h R (J (.mk 3 (cond (decide (g D i=116)) 1 0) 0 [] [] []))):Pu (ia 1 v (.i 0)) h λgT h=>cd gT h λjH h=>Pu (bn .eql jH (.b 116)) h λmL h=>R (.tuple #[.iface 4 mL,.nilIface]) h:=by
 obtain⟨e,rfl,aa,ad,an,aT⟩:=aD;have Ia:bn .eql (.b (g D i:Int)) (.b 116)=J (.bool (decide (g D i=116))):=va (b:=116);have su:ia 1 (.slice (J ⟨b,e,ab⟩) (j-i) (C-i)) (.i 0)=J (.pointer (J ⟨b,e,ab⟩)):=by
  have:=FR (r:=b) (n:=j-i) (cap:=C-i) (i:=0) (k:=.i64) I;simp only[ia];rw[aA ⟨I,I⟩];simp[Addr.add]
 rw[su,bs,vN aM aa I,Ia,bs];exact q h _ (aB.refl _) λown=>.bool
def YO{t n:Nat}{K:F.K}(aV:U z=n)(ay:U cs=n)(aH:ones cs=ai)(aI:0<n)(q:∀h',aB h h'->K (cA (aZ cs)) h'):oG t z h λoB h=>bZ n oB (cA (aZ cs)) h λ_ h=>cO n oB h K:=by
 rw[gE,h7 (n:=n) I I I,jK I aI];exact q _ (aB.push _ _)
def YP{t n:Nat}{x:ao}{K:F.K}(aV:U z=n)(ae:kr n x)(aI:0<n)(q:∀h' y,aB h h'->K y h'):oG t z h λoB h=>bZ n oB x h λ_ h=>cO n oB h K:=by
 obtain⟨cs,rfl,aa,ad⟩:=ae;rw[gE,h7 (n:=n) I aa ad,jK aa aI];exact q _ _ (aB.push _ _)
def Yq(aM:db h b D C)(aD:bp b i j C v)(aC:j<=U D)(q:vP b C D h R ((godt D i j).map λx=>.mk 4 0 0 (wS x.1 x.2.1++uK x.2.2) [] [])):bD 117 [v] h λqz h=>Pu (exv 0 qz) h λmj h=>Pu (exv 1 qz) h λni h=>oG 99 (Z 99) h λoB h=>bZ 9 oB mj h λ_ h=>cO 9 oB h λpb h=>R (bA #[cW 99 pb,ni]) h:=by
 refine aii aM aD aC (λd t z h' aF aw=>?_) λaF x e h' ae aw er=>?_
 .refine aR ?_;rw[aF] at q;have af:=aq2 aF;refine YO (cs:=wV d t z) (by rw[yP];rfl) rfl rfl aE λad ar=>?_;exact q ad _ (aw.trans ar) λown=>.F3 af.1 af.2.1 af.2.2.1 af.2.2.2
 .refine aR ?_;rw[aF] at q;refine YP (by rw[yP];rfl) ae aE λad y ar=>?_;obtain⟨bx,bH,cq,dT,e3,hJ,lo,px,rz⟩:=er;exact q _ e ad (aw.trans ar) ⟨bx,bH,cq,dT,e3,hJ,lo,(ar.2 bx (cm.1 px).1).trans px,rz⟩
def e2.fN(er:e2 h b N C e)(ar:aB h h'):e2 h' b N C e:=by
 obtain⟨bx,bH,cq,dT,e3,hJ,lo,px,rz⟩:=er;exact⟨bx,bH,cq,dT,e3,hJ,lo,(ar.2 bx (cm.1 px).1).trans px,rz⟩
def Yn(aM:db h b D C)(aD:bp b i j C v)(aC:j<=U D)(q:vP b C D h R ((ldate D i j).map λd=>.mk 6 0 0 (qd d.1 d.2.1 d.2.2) [] [])):bD 119 [v] h λml h=>Pu (exv 0 ml) h λpN h=>Pu (exv 1 ml) h λo9 h=>oG 93 (Z 93) h λr2 h=>bZ 3 r2 pN h λ_ h=>cO 3 r2 h λvC h=>R (bA #[cW 93 vC,o9]) h:=by
 refine WS aM aD aC (λy m d h' aF aw=>?_) λaF x e h' ae aw er=>?_
 .refine aR ?_;rw[aF] at q;refine YO (cs:=[ah y,ah m,ah d]) (by rw[tS];rfl) rfl rfl aE λad ar=>?_;exact q ad _ (aw.trans ar) λown=>.gj (d:=(y,m,d)) (adV aF)
 .refine aR ?_;rw[aF] at q;exact YP (by rw[tS];rfl) ae aE λad y ar=>q _ e ad (aw.trans ar) (er.fN ar)
def afw{k:Nat}{X Y:H->Prop}(hw:bp b k j C w)(aa:k<j->X h)(ad:¬k<j->Y h):Pu (fb w) h λnR h=>Pu (bn hf nR (ah 0)) h λmO h=>b1 mO (X h) (Y h):=by
 obtain⟨e,rfl,bx,bH,cq,dT⟩:=hw;have au:fb (a5 (J ⟨b,e,ab⟩) (j-k) (C-k))=J (ah (j-k:Nat)):=rfl;have aX:bn hf (ah (j-k:Nat)) (ah 0)=J (aQ (decide (k<j))):=by
  simp only[bn,ei];congr 2
  grind
 rw[au,bs,aX,bs];by_cases h:k<j
 .rw[j7 h,gl];exact aa h
 .rw[ig h,ga];exact ad h
end
section
variable{h:H}{b C i j:Nat}{D:B}{v:ao}{R:K}
def Yp(aM:db h b D C)(aD:bp b i j C v)(aC:j<=U D)(q:vP b C D h R (match ldt D i j with
  |J (d,t,n)=>if n<j then ab else J (.mk 5 0 0 (wS d t) [] [])
  |none=>ab)) (aL:U s<=1000:=by first|decide|assumption):bD 118 [v] h λl2 h=>Pu (exv 0 l2) h λko h=>Pu (exv 1 l2) h λmN h=>Pu (exv 2 l2) h λkQ h=>oG 97 (Z 97) h λlg h=>bZ 8 lg ko h λ_ h=>Pu (beI ai kQ cR) h λoa h=>b1 oa (R (bA #[cR,kQ]) h) (Pu (fb mN) h λnR h=>Pu (bn hf nR (ah 0)) h λmO h=>b1 mO (bD 51 [mN,S s,x] h λrk h=>R (bA #[cR,rk]) h) (cO 8 lg h λpS h=>R (bA #[cW 97 pS,cR]) h)):=by
 refine WR aM aD aC (λd t k w h' aF th SN aw aL=>?_) λaF x e h' ae aw er=>?_
 .refine aR ?_;rw[aF] at q;have af:=TY aF;rw[h7 (n:=8) (by rw[ry];rfl) rfl rfl];have ar:=aB.push h' (aO (aZ (t_ d t)) 97);refine afw aL (λaq=>?_) λaq=>?_
  .simp only[aA aq] at q;exact gU (N:=U D) (dR:=cP aM.lt (aw.trans ar).1) aL aC λe an aS er=>q _ e an ((aw.trans ar).trans aS) er
  .simp only[ak aq] at q;rw[jK (n:=8) rfl aE];exact q _ _ (aw.trans ar) λown=>.ldt af.1 af.2
 .refine aR ?_;rw[aF] at q;obtain⟨cs,rfl,aa,ad⟩:=ae;have af:=gW er;rw[h7 (n:=8) (by rw[ry];rfl) aa ad,af,bs,gl];have ar:=aB.push h' (aO cs 97);exact q _ e _ (aw.trans ar) (er.fN ar)
def Yo(aM:db h b D C)(aD:bp b i j C v)(aC:j<=U D)(q:vP b C D h R (match ltime D i j with
  |J (t,n)=>if n<j then ab else J (.mk 7 0 0 (qb t.h t.m t.s t.n) [] [])
  |none=>ab)) (aL:U s<=1000:=by first|decide|assumption):bD 120 [v] h λl2 h=>Pu (exv 0 l2) h λko h=>Pu (exv 1 l2) h λmN h=>Pu (exv 2 l2) h λkQ h=>oG 95 (Z 95) h λlg h=>bZ 5 lg ko h λ_ h=>Pu (beI ai kQ cR) h λoa h=>b1 oa (R (bA #[cR,kQ]) h) (Pu (fb mN) h λnR h=>Pu (bn hf nR (ah 0)) h λmO h=>b1 mO (bD 51 [mN,S s,x] h λrk h=>R (bA #[cR,rk]) h) (cO 5 lg h λpS h=>R (bA #[cW 95 pS,cR]) h)):=by
 refine WT aM aD aC (λt k w h' aF th SN aw aL=>?_) λaF x e h' ae aw er=>?_
 .refine aR ?_;rw[aF] at q;have af:=ad6 aF;rw[h7 (n:=5) (by rw[EC];rfl) rfl rfl];have ar:=aB.push h' (aO (aZ (w4 t)) 95);refine afw aL (λaq=>?_) λaq=>?_
  .simp only[aA aq] at q;exact gU (N:=U D) (dR:=cP aM.lt (aw.trans ar).1) aL aC λe an aS er=>q _ e an ((aw.trans ar).trans aS) er
  .simp only[ak aq] at q;rw[jK (n:=5) rfl aE];exact q _ _ (aw.trans ar) λown=>.lt af
 .refine aR ?_;rw[aF] at q;obtain⟨cs,rfl,aa,ad⟩:=ae;have af:=gW er;rw[h7 (n:=5) (by rw[EC];rfl) aa ad,af,bs,gl];have ar:=aB.push h' (aO cs 95);exact q _ e _ (aw.trans ar) (er.fN ar)
def ajK(aM:db h b D C)(aD:bp b i j C v)(aC:j<=U D)(ok:Ck D i k j)(aq:9<=k)(q:tokQ D k i j (vP b C D h R)):bo 83 [p,ah (k:Int),v] h R:=by
 apply XT;have eq:∀m:Nat,bn cQ (ah k) (ah m)=J (aQ (decide (k=m))):=λm=>I4;have v8:=eq 8;have apx:=eq 11;have CH:=eq 10;have QY:=eq 9;have apz:=eq 15;have apy:=eq 14;have QV:=eq 12;have oN:=eq 13;unfold tokQ at q;have hQ:∀{m:Nat} {a:ao} {X Y:Prop},a=aQ (decide (k=m))->(k=m->X)->(k≠m->Y)->b1 a X Y:=λ{m a X Y} bE aa ad=>by
  subst bE;by_cases h:k=m
  .rw[j7 h,gl];exact aa h
  .rw[ig h,ga];exact ad h
 show Pu (bn cQ (ah k) (ah (8:Nat))) h _;rw[v8,bs];refine hQ rfl (λhC=>I) λawU=>?_;show Pu (bn cQ (ah k) (ah (11:Nat))) h _;rw[apx,bs];refine hQ rfl (λqR=>?_) λUn=>?_
 .rw[aA qR] at q;exact Ym aM aD aC (ok.1 qR) q
 rw[ak Un] at q;show Pu (bn cQ (ah k) (ah (10:Nat))) h _;rw[CH,bs];refine hQ rfl (λdh=>?_) λpF=>?_
 .subst dh;refine Yl aM aD aC ok ?_;unfold tokQ;rw[ak aE];exact q
 rw[ak pF] at q;show Pu (bn cQ (ah k) (ah (9:Nat))) h _;rw[QY,bs];refine hQ rfl (λgg=>?_) λUs=>?_
 .rw[aA gg] at q;exact Yr aM aD aC (ok.2.1 gg) q
 rw[ak Us] at q;show Pu (bn cQ (ah k) (ah (15:Nat))) h _;rw[apz,bs];refine hQ rfl (λRZ=>?_) λUq=>?_
 .rw[aA RZ] at q;exact Yq aM aD aC q
 rw[ak Uq] at q;show Pu (bn cQ (ah k) (ah (14:Nat))) h _;rw[apy,bs];refine hQ rfl (λRY=>?_) λUp=>?_
 .rw[aA RY] at q;exact Yp (s:=[101,120,116,114,97,32,99,104,97,114,97,99,116,101,114,115,32,97,116,32,116,104,101,32,101,110,100,32,111,102,32,97,32,108,111,99,97,108,32,100,97,116,101,32,116,105,109,101]) aM aD aC q
 rw[ak Up] at q;show Pu (bn cQ (ah k) (ah (12:Nat))) h _;rw[QV,bs];refine hQ rfl (λue=>?_) λUo=>?_
 .rw[aA ue] at q;exact Yn aM aD aC q
 rw[ak Uo] at q;show Pu (bn cQ (ah k) (ah (13:Nat))) h _;rw[oN,bs];refine hQ rfl (λdx=>?_) λuB=>?_
 .rw[aA dx] at q;exact Yo (s:=[101,120,116,114,97,32,99,104,97,114,97,99,116,101,114,115,32,97,116,32,116,104,101,32,101,110,100,32,111,102,32,97,32,108,111,99,97,108,32,116,105,109,101]) aM aD aC q
 rw[ak uB] at q;rw[pn oJ rfl rfl];exact gU (N:=U D) aD aC λe an aS er=>q _ e an ((aB.push _ _).trans aS) er
end
def gx.keep(d:gx own h v t)(k:∀b,b<ag h->own b=ab->h'[b]?=h[b]?/\a_ b=ab):gx a_ h' v t:=by
 induction d with
 |str=>exact .str
 |int=>exact .int
 |sm=>exact .sm
 |bool=>exact .bool
 |F3 a b c d=>exact .F3 a b c d
 |ldt a b=>exact .ldt a b
 |gj a=>exact .gj a
 |lt a=>exact .lt a
 |arr aa ad an _ bR=>
  obtain⟨ro,cc,cK⟩:=aa;refine .arr ⟨ro,cc.at λr aF=>?_,λr aF=>?_⟩ ad an bR
  .subst aF;exact(k r cc.lt (cK r rfl)).1
  .subst aF;exact(k r cc.lt (cK r rfl)).2
 |OF aa ad an _ bR=>
  obtain⟨ro,cc,cK⟩:=aa;refine .OF ⟨ro,cc.at λr aF=>?_,λr aF=>?_⟩ ad an bR
  .subst aF;exact(k r cc.lt (cK r rfl)).1
  .subst aF;exact(k r cc.lt (cK r rfl)).2
 |bX aa ad an aT bN cB de _ bR=>
  have:=k _ (cm.1 ad).1 aa;exact .bX this.2 (this.1.trans ad) an aT bN cB de bR
def gx.rN(d:gx own h v t):one v=ai/\cellsL v=[v]/\(∀m,v=cW 52 m->∃b,m=mapOf b)/\v≠cR:=by
 cases d<;>refine⟨rfl,rfl,λm e=>?_,λe=>by cases e⟩<;>first|grind|grind
def cV(V:List ao)(i:Nat):ao:=V.getD i cR
def NodeG(h:H)(own:cH)(V:List ao)(id:Nat)(v:ao):bW bL->Prop
 | .val t=>gx own h v t
 | .arr l=>∃fA ro,v=cW 105 fA/\b2 h fA 1 (l.map (cV V)) ro/\∀r,ro=J r->own r=J (id,1)
 | .bX kv=>∃b es cl,v=cW 52 (mapOf b)/\own b=J (id,0)/\h[b]?=J (.map es cl)/\El es cl (kv.map λx=>(x.1,cV V x.2))
structure fK(h:H)(aj:List (bW bL))(V:List ao)(own:cH):Prop where
 lenV:U V=U aj
 dv:∀b x,own b=J x->b<ag h
 node:∀(id:Nat) bB,aj[id]?=J bB->NodeG h own V id (cV V id) bB
 kids:∀(id:Nat) kv (x:B×Nat),aj[id]?=J (.bX kv)->x∈kv->id<x.2/\x.2<U aj
 nM:∀(id:Nat) l (i:Nat),aj[id]?=J (.arr l)->i∈l->id<i/\cz aj i
 small:∀(id:Nat) bB,aj[id]?=J bB->m5 bB<=U aj
 uniq:∀(i ej:Nat) kv cL (n di:Nat) (x ec:B×Nat),aj[i]?=J (.bX kv)->aj[ej]?=J (.bX cL)->kv[n]?=J x->cL[di]?=J ec->x.2=ec.2->i=ej/\n=di
def I5:∀kv:List (B×Nat),kvV k (kv.map λx=>(x.1,cV V x.2))=(kvF k kv).map (cV V)
 |[]=>rfl
 |x::l=>by
  simp only[kp,kvV,kvF];split
  .rfl
  .exact I5 l
section
variable{h g g':H}{own a_:cH}{aj:List (bW bL)}{V ee:List ao}{id j:Nat}{kv:List (B×Nat)}{key:B}{bB:bW bL}{w v:ao}{R K:K}
def v9(h:i<U V):cV (V++W) i=cV V i:=by
 unfold cV;grind
def y4:cV (V++[w]) (U V)=w:=by
 unfold cV;grind
def NodeG.keep(d:NodeG g own V j v bB)(bk:j≠id)(k:∀b,b<ag g->(∀s,own b≠J (id,s))->(own b=ab\/∃x s,own b=J (x,s)/\x<1000000)->g'[b]?=g[b]?/\a_ b=own b)(aG:∀b x,own b=J x->b<ag g)(aC:j<1000000)(eu:∀i,(match bB with| .arr l=>i∈l| .bX kv=>∃k,(k,i)∈kv| .val _=>False)->cV ee i=cV V i):NodeG g' a_ ee j v bB:=by
 have zz:∀b s,own b=J (j,s)->g'[b]?=g[b]?/\a_ b=J (j,s):=λb s aH=>by
  grind
 cases bB with
 |val t=>
  refine gx.keep d λb af aH=>?_;grind
 |arr l=>
  obtain⟨fA,ro,aa,ad,an⟩:=d;have aw:l.map (cV ee)=l.map (cV V):=yw λi az=>eu i az;refine⟨fA,ro,aa,?_,λr aF=>(zz r 1 (an r aF)).2⟩;rw[aw];exact ad.at λr aF=>(zz r 1 (an r aF)).1
 |bX kv=>
  obtain⟨b,es,cl,aa,ad,an,aT⟩:=d;have aw:(kv.map λx=>(x.1,cV ee x.2))=kv.map λx=>(x.1,cV V x.2):=yw λx ae=>by rw[eu x.2 ⟨x.1,ae⟩]
  exact⟨b,es,cl,aa,(zz b 0 ad).2,(zz b 0 ad).1.trans an,al⟩
def fK.keep(aY:fK g aj V own)(c0:U aj<=5000)(k:∀b,b<ag g->(own b=ab\/∃x s,own b=J (x,s)/\x<1000000)->g'[b]?=g[b]?/\a_ b=own b)(aG:∀b x,a_ b=J x->b<ag g'):fK g' aj V a_:=by
 refine⟨aY.lenV,aG,λj bB aC=>?_,aY.kids,aY.nM,aY.small,aY.uniq⟩;have nE:=(fk.1 aC).1;exact(aY.node j bB aC).keep (id:=U aj+1000000) I (λb af _ aH=>k b af aH) aY.dv I λ_ _=>rfl
def fK.put(aY:fK g aj V own)(c0:U aj<=5000)(da:aj[id]?=J (.bX kv))(aq:kvF key kv=ab)(af:cV V id=cW 52 (mapOf b))(hw:NodeG g own (V++[w]) (U aj) w bB)(nG:(∃t,bB=.val t)\/bB=.bX []\/bB=.arr [])
  (q:∀g',fK g' (dY aj id key bB) (V++[w]) own->ky id own g g'->K undef g'):Mu (mapOf b) (S key) w g K:=by
 have nC:=(fk.1 da).1;obtain⟨dP,es,cl,aw,ar,aS,bl⟩:=aY.node id _ da;rw[af] at aw;cases aw;have ey:kvV key (kv.map λx=>(x.1,cV V x.2))=ab:=by rw[I5,aq];rfl
 refine X_ (v:=w) aS bl ey λg' qM b_ dN iT=>?_;have qm:=aY.lenV;have app:∀i,i<U aj->cV (V++[w]) i=cV V i:=λi az=>v9 I;have fin:cV (V++[w]) (U aj)=w:=by rw[<-qm];exact y4
 have kE:ky id own g g':=⟨b_.1,λx ae aH=>b_.2 x ae λe=>al⟩;have new:(dY aj id key bB)[U aj]?=J bB:=nW;have tV:(dY aj id key bB)[id]?=J (.bX (kv++[(key,U aj)])):=by rw[Am nC,o0 da]
 have old:∀j,j<U aj->j≠id->(dY aj id key bB)[j]?=aj[j]?:=λj a b=>An a (λe=>b e.symm);have cs:∀{j:Nat} {x:bW bL},(dY aj id key bB)[j]?=J x->(j=U aj/\x=bB)\/(j=id/\x=.bX (kv++[(key,U aj)]))\/(j<U aj/\j≠id/\aj[j]?=J x):=λ{j x} aC=>by
  by_cases aa:j=U aj
  .grind
  .have:=(fk.1 aC).1;rw[lp] at this;grind
 have cf:∀x,x<ag g->(∀s,own x≠J (id,s))->(own x=ab\/∃y s,own x=J (y,s)/\y<1000000)->g'[x]?=g[x]?/\own x=own x:=λx ae aH _=>⟨b_.2 x ae (λe=>al),rfl⟩;refine q g' ⟨by simp[lp,qm],λx y ae=>cP (aY.dv x y ae) b_.1,λj x aC=>?_,λj cL x aC ae=>?_,λj l i aC az=>?_,λj x aC=>?_,λi ej nJ hO n di x ec aa ad an aT bN=>?_⟩ kE
 .rcases cs aC with ⟨rfl,rfl⟩|⟨rfl,rfl⟩|⟨a,c,d⟩
  .rw[fin];exact hw.keep (id:=id) I cf aY.dv I λ_ _=>rfl
  .rw[app j nC,af];refine⟨b,qM,cl+1,rfl,ar,dN,?_⟩;rw[rr,kp,ru,fin];have:(kv.map λx=>(x.1,cV (V++[w]) x.2))=kv.map λx=>(x.1,cV V x.2):=yw λx ae=>by rw[app x.2 (aY.kids j kv x da ae).2]
   grind
  .rw[app j a];refine(aY.node j x d).keep (id:=id) c cf aY.dv I λi az=>app i ?_;cases x with
   |val t=>grind
   |arr l=>obtain⟨_,_,aq⟩:=aY.nM j l i d az;grind
   |bX cL=>obtain⟨k,aq⟩:=az;exact(aY.kids j cL _ d aq).2
 .rw[lp];rcases cs aC with ⟨rfl,rfl⟩|⟨rfl,e⟩|⟨a,c,d⟩
  .grind
  .cases e;rcases zX.1 ae with ae|ae
   .have:=aY.kids j kv x da ae;omega
   grind
  .have:=aY.kids j cL x d ae;omega
 .rcases cs aC with ⟨rfl,rfl⟩|⟨rfl,e⟩|⟨a,c,d⟩
  .grind
  .cases e
  .have:=aY.nM j l i d az;exact⟨this.1,qa this.2⟩
 .rw[lp];rcases cs aC with ⟨rfl,rfl⟩|⟨rfl,e⟩|⟨a,c,d⟩
  .rcases nG with ⟨t,e⟩|e|e<;>(subst e;simp[m5])
  .have:=aY.small j _ da;subst e;simp only[m5] at this⊢;simp;omega
  .have:=aY.small j x d;omega
 .have hP:∀i nJ n x,(dY aj id key bB)[i]?=J (.bX nJ)->nJ[n]?=J x->(x.2=U aj/\i=id/\n=U kv)\/(x.2<U aj/\∃k7,aj[i]?=J (.bX k7)/\k7[n]?=J x):=λi nJ n x aa an=>by
   rcases cs aa with ⟨rfl,e⟩|⟨rfl,e⟩|⟨a,c,d⟩
   .grind
   .cases e;by_cases aI:n<U kv
    .rw[pV aI] at an;exact bt ⟨(aY.kids i kv x da (qD an)).2,kv,da,an⟩
    grind
   .exact bt ⟨(aY.kids i nJ x d (qD an)).2,nJ,d,an⟩
  rcases hP i nJ n x aa an with ⟨a,c,d⟩|⟨a,NB,c,d⟩
  .grind
  .rcases hP ej hO di ec ad aT with ⟨bM,b6,fl⟩|⟨bM,TQ,b6,fl⟩
   .omega
   .exact aY.uniq i ej NB TQ n di x ec c b6 d fl bN
end
def ahm:pe 20=cR:=b4
def aBr:pe 105=a5 ab 0 0:=b4
section
variable{h g g':H}{own a_:cH}{aj:List (bW bL)}{V ee:List ao}{id j b:Nat}{kv:List (B×Nat)}{key:B}{bB:bW bL}{w v b':ao}{R K:K}
def fK.bX(aY:fK g aj V own)(aP:cz aj id):∃b,cV V id=cW 52 (mapOf b)/\own b=J (id,0):=by
 obtain⟨kv,aq⟩:=aP;obtain⟨b,es,cl,aw,ar,_⟩:=aY.node id _ aq;grind
def fK.new(aY:fK g aj V own)(c0:U aj<=5000)(x:Obj):fK (a6 g x) aj V (cS own (ag g) y):=
 aY.keep c0 (λb af _=>⟨(aB.push g x).2 b af,kL I⟩) λb z aV=>by
  unfold cS at aV;split at aV
  .simp;omega
  .have:=aY.dv b z aV;simp;omega
def fK.get(aY:fK g aj V own)(da:aj[id]?=J (.bX kv))(af:cV V id=cW 52 (mapOf b)):Ml z (mapOf b) (S key) g K=K (((kvF key kv).map (cV V)).getD z) g:=by
 obtain⟨dP,es,cl,aw,ar,aS,bl⟩:=aY.node id _ da;rw[af] at aw;cases aw;rw[anA aS bl,I5]
def aw2(aY:fK g aj V own)(c0:U aj<=5000)(da:aj[id]?=J (.bX kv))(af:cV V id=cW 52 (mapOf b))(aq:kvF key kv=ab)
  (q:∀g' a_,fK g' (dY aj id key (.bX [])) (V++[cW 52 (mapOf (ag g))]) a_->a_=cS own (ag g) (U aj,0)->ky id own g g'->ag g<ag g'->R (mapOf (ag g)) g'):G3 g λiY h=>Mu (mapOf b) (S key) (cW 52 iY) h λ_ h=>R iY h:=by
 show Mu (mapOf b) (S key) (cW 52 (mapOf (ag g))) (a6 g (.map #[] 0)) λ_ h=>R (mapOf (ag g)) h;have hV:=aY.new c0 (.map #[] 0) (y:=(U aj,0));have nC:=(fk.1 da).1;have aH:cS own (ag g) (U aj,0) (ag g)=J (U aj,0):=by unfold cS;grind
 refine hV.put c0 da aq af (w:=cW 52 (mapOf (ag g))) (bB:=.bX []) ⟨ag g,#[],0,rfl,aH,dS _ _,rfl,(λe he=>absurd he a1),.nil,.nil⟩ (bt (bF rfl)) λg' gG k=>?_;refine q g' _ gG rfl ⟨by have:=k.1;grind,λx ae aI=>?_⟩ (by have:=k.1;grind);rw[k.2 x (by simp;omega) (λs aL=>aI s (by rw[<-aL];exact(kL I).symm))];grind
def Pd(aY:fK g aj V own)(c0:U aj<=5000)(da:aj[id]?=J (.bX kv))(af:cV V id=cW 52 (mapOf b))(jq:∀i,kvF key kv=J i->cz aj i\/∃l t,aj[i]?=J (.arr l)/\l.getLast?=J t)
  (bq:∀i dP,kvF key kv=J i->cz aj i->cV V i=cW 52 (mapOf dP)->R (mapOf dP) g)
  (bw:∀i l t dP,kvF key kv=J i->aj[i]?=J (.arr l)->l.getLast?=J t->cV V t=cW 52 (mapOf dP)->R (mapOf dP) g)
  (fm:kvF key kv=ab->∀g' a_,fK g' (dY aj id key (.bX [])) (V++[cW 52 (mapOf (ag g))]) a_->a_=cS own (ag g) (U aj,0)->ky id own g g'->ag g<ag g'->R (mapOf (ag g)) g'):bo 106 [b',mapOf b,S key] g R:=by
 apply akk;have t52:∀m z,ta 52 z (cW 52 m)=J (bA #[m,aQ ai]):=λm z=>rfl;have azP:∀m z,ta 52 z (cW 105 m)=J (bA #[z,aQ av]):=λm z=>rfl;have t105:∀m z,ta 105 z (cW 105 m)=J (bA #[m,aQ ai]):=λm z=>rfl;have awT:∀z,ta 52 z cR=J (bA #[z,aQ av]):=λz=>rfl;have zC:∀z,ta 105 z cR=J (bA #[z,aQ av]):=λz=>rfl;refine yJ ?_;rw[aY.get da af];cases aq:kvF key kv with
 |none=>
  simp only[Option.map_none,Option.getD_none,ahm];rw[awT];refine bG zC ?_;exact aw2 aY c0 da af aq (fm aq)
 |some i=>
  simp only[jl,aB5];rcases jq i aq with aP|⟨l,t,au,mZ⟩
  .obtain⟨dP,aw,_⟩:=aY.bX aP;rw[aw,t52];refine aR ?_;grind
  .obtain⟨fA,ro,aw,ar,_⟩:=aY.node i _ au;have acY:=List.mem_of_getLast? mZ;obtain⟨dP,aS,_⟩:=aY.bX (aY.nM i l t au acY).2;have qY:=(j1 ar).1;rw[oE] at qY;have xZ:0<U l:=lJ.2 (List.ne_nil_of_mem acY);have hlen:U l<=5000:=dH (aY.small i _ au) c0;obtain⟨eE,bx,bH⟩:=(j1 ar).2 (U l-1) (cV V t) (by
    grind)
   have tm:bn .sub (ah (U l)) (ah 1)=J (ah (U l-1:Nat)):=m' (a:=U l) (b:=1) I I;have aX:bn hf (ah (U l)) (ah 0)=J (aQ ai):=by simp[bn];omega
   rw[aw,azP];refine DZ t105 qY aX tm bx bH ?_;rw[aS];refine bG t52 ?_;grind
end
structure gV(g:H)(own:cH)(g':H)(a_:cH)(a8:List (bW bL))(ee:List ao):Prop where
 gs:fK g' a8 ee a_
 ext:dL own a_ (ag g)
 size:ag g<=ag g'
 ks:∀b,b<ag g->(own b=ab\/∃x s,own b=J (x,s)/\1000000<=x)->g'[b]?=g[b]?
def gV.trans{g ct bd:H}{own eJ o2:cH}{Le u4:List ao}(a:gV g own ct eJ hY Le)(b:gV ct eJ bd o2 hy u4):gV g own bd o2 hy u4:=
 ⟨b.gs,dL.trans a.ext b.ext a.size,dH a.size b.size,λx ae aH=>by rw[b.ks x (cP ae a.size) (by rw[a.ext x ae];exact aH),a.ks x ae aH]⟩
section
variable{g g':H}{own a_:cH}{aj a8:List (bW bL)}{M bK:List Nat}{V ee:List ao}{id cY j b:Nat}{kv:List (B×Nat)}{k:B}{ks:List B}{bB:bW bL}{w v b' a:ao}{t:bL}{R K:K}
def gV.refl(aY:fK g aj V own):gV g own g own aj V:=⟨aY,dL.refl _ _,bQ _,λ_ _ _=>rfl⟩
def gV.of(gG:fK g' a8 ee a_)(e:dL own a_ (ag g))(k:ky id own g g')(da:id<1000000):gV g own g' a_ a8 ee:=
 ⟨gG,e,k.1,λb af aH=>k.2 b af λs aL=>by
  grind⟩
def jy.qi(P:jy g own a ks)(S:gV g own g' a_ a8 ee):jy g' a_ a ks:=
 P.keep λb af aH=>⟨S.ks b af (by
  grind),S.ext b af⟩
def gx.qi(d:gx own g v t)(S:gV g own g' a_ a8 ee):gx a_ g' v t:=d.keep λb af aH=>⟨S.ks b af (bF aH),(S.ext b af).trans aH⟩
def pair_step{pv:bL}(aY:fK g aj V own)(c0:U aj<=5000)(da:aj[id]?=J (.bX kv))(af:cV V id=cW 52 (mapOf b))(xW:ks≠[])(aJ:∃a8 bK cY,pairS pv (k::ks) aj M id=.ok a8 bK cY)
  (q:∀g' a_ a8 bK ee j dP,gV g own g' a_ a8 ee->cV ee j=cW 52 (mapOf dP)->cz a8 j->(∀t,pairS t ks a8 bK j=pairS t (k::ks) aj M id)->U a8<=U aj+1->(∀x,cz aj x->cz a8 x/\cV ee x=cV V x)->R (mapOf dP) g'):bo 106 [b',mapOf b,S k] g R:=by
 have jW:kvOf aj id=kv:=o0 da;have nC:=(fk.1 da).1;obtain⟨BS,Ae,avy,aJ⟩:=aJ;have un:∀t,pairS t (k::ks) aj M id=match kvF k kv with
   |none=>pairS t ks (dY aj id k (.bX [])) (M++[2]) (U aj)
   |some i=>match aj[i]? with
    |J (.bX _)=>if M.getD i 0=1 then .no 1 else if M.getD i 0=0 then .no 2 else pairS t ks aj M i
    |_=>.no 1:=λt=>by
  rw[pairS,ak xW,jW];cases kvF k kv with
  |none=>rfl
  |some i=>
   cases dw:aj[i]? with
   |none=>simp only[dw]
   |some bB=>cases bB<;>simp only[dw]
 rw[pairS,ak xW,jW] at aJ;refine Pd aY c0 da af (λi az=>?_) (λi dP az aP dN=>?_) (λi l t dP az au _ _=>?_) λaq g' a_ gG uu kE a'=>?_
 .rw[az] at aJ;simp only at aJ;split at aJ
  .rename_i cL dw;exact bF ⟨cL,dw⟩
  .cases aJ
 .rw[az] at aJ;obtain⟨cL,dw⟩:=aP;simp only[dw] at aJ;split at aJ
  .cases aJ
  .rename_i aa;split at aJ
   .cases aJ
   .rename_i aW;refine q g own aj M V i dP (gV.refl aY) dN ⟨cL,dw⟩ (λt=>?_) I λx ae=>⟨ae,rfl⟩;grind
 .grind
 .rw[aq] at aJ;have qm:=aY.lenV;refine q g' a_ _ (M++[2]) _ (U aj) (ag g) (gV.of gG (λx ae=>by rw[uu];exact kL I) kE I) (by rw[<-qm];exact y4) ⟨[],nW⟩ (λt=>al) (by rw[lp];omega) λx ae=>⟨qa ae,v9 (by obtain⟨y,a2⟩:=ae;grind)⟩
def ae9(aY:fK g aj V own)(c0:U aj<=5000)(da:aj[id]?=J (.bX kv))(af:cV V id=cW 52 (mapOf b))(aJ:pairS t [k] aj M id=.ok a8 bK cY)(hw:gx own g w t)
  (q:∀g',gV g own g' own a8 (V++[w])->U a8=U aj+1->(∀x,cz aj x->cz a8 x/\cV (V++[w]) x=cV V x)->K undef g'):Mu (mapOf b) (S k) w g K:=by
 have jW:kvOf aj id=kv:=o0 da;have nC:=(fk.1 da).1;rw[pairS,aA rfl,jW] at aJ;split at aJ
 .cases aJ
 .rename_i aq;cases aJ;have qm:=aY.lenV;refine aY.put c0 da aq af (bB:=.val t) hw (bF ⟨t,rfl⟩) λg' gG kE=>?_;exact q g' (gV.of gG (dL.refl _ _) kE I) lp λx ae=>⟨qa ae,v9 (by obtain⟨y,a2⟩:=ae;grind)⟩
def ajH(aY:fK g aj V own)(c0:U aj<=4000)(aP:cz aj id)(af:cV V id=cW 52 (mapOf b))(P:jy g own a ks)(aJ:pairS t ks aj M id=.ok a8 bK cY)(hw:gx own g w t)
  (q:∀g' a_ ee,gV g own g' a_ a8 ee->(∀x,cz aj x->cz a8 x/\cV ee x=cV V x)->R (bA #[]) g'):bo 81 [b',mapOf b,a,w] g R:=by
 apply amS;refine jn (λm gu gD dM=>∃(n j dP:Nat) (kG:cH) (eA:List (bW bL)) (nq:List Nat) (ln:List ao),gu=mapOf dP/\gD=ah n/\n<U ks/\gV g own dM kG eA ln/\cV ln j=cW 52 (mapOf dP)/\cz eA j/\pairS t (ax n ks) eA nq j=pairS t ks aj M id/\U eA<=U aj+n/\(∀x,cz aj x->cz eA x/\cV ln x=cV V x)/\m=U ks-n) _
  ⟨0,id,b,own,aj,M,V,rfl,rfl,lJ.2 P.ne,gV.refl aY,af,aP,rfl,I,λx ae=>⟨ae,rfl⟩,rfl⟩ ?_
 rintro m fl gu gD dM N ⟨n,j,dP,kG,eA,nq,ln,rfl,rfl,aI,hT,iC,⟨kv,ey⟩,mE,Iv,Dd,rfl⟩ a7;have fT:=P.qi hT;have qY:=fT.Dn;have hlen:=P.len;obtain⟨u,bb,eE,o8,jg,pM,rb⟩:=fT.get aI;have Db:bn .sub (ah (U ks)) (ah 1)=J (ah (U ks-1:Nat)):=m' (a:=U ks) (b:=1) I I;have Ih:=drop_cons aI;refine i_ qY Db pM rb ?_;refine⟨λa'=>?_,λeg=>?_⟩
 .refine Ea jg ?_;have bk:ax (n+1) ks≠[]:=λe=>by
   have:=mQ List.length e;grind
  rw[Ih] at mE;refine pair_step (pv:=t) hT.gs I ey iC bk ⟨_,_,_,mE.trans aJ⟩ λbd o2 hy M2 u4 bc cJ mm cF wH dV fF k3=>?_;try refine aR ?_
  refine a7 (U ks-(n+1)) _ _ _ I ⟨n+1,bc,cJ,o2,hy,M2,u4,rfl,rfl,I,hT.trans mm,cF,wH,(dV t).trans mE,I,λx ae=>?_,rfl⟩;grind
 .have sy:n=U ks-1:=I
  have S1:ax (n+1) ks=[]:=iu I;rw[Ih,S1] at mE;rw[<-sy,pM,bs,rb];refine Ea jg ?_;refine ae9 hT.gs I ey iC (mE.trans aJ) (hw.qi hT) λbd mm fF k3=>?_;refine q bd _ _ (hT.trans mm) λx ae=>?_;grind
end
