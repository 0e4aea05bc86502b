/- A part of the proof of FnTomlReadCardSaid: for every string the law FnTomlRead returns true. Conditions: those of the given row and card, no others. -/
import Derived.Laws.BitsAllLaws
import Derived.Test.YteonbmabmhoffaaGreatDoorA05
open Option renaming some->J,none->ab
open Bool renaming true->ai,false->av
open Go renaming Value->ao
open Go.Obj renaming cells->aO
open Go.Value renaming bool->aQ,slice->a5,tuple->bA,pointer->bU,agg->cA,float->cU,nilIface->cR,iface->cW,string->fo
open Or renaming inl->bF,inr->bt
open Go.BinOp renaming eql->cQ,lss->fG,gtr->hf,geq->h0
open List renaming length->U,toArray->aZ,drop->ax,take->bf
open Array renaming size->ag,push->a6,setIfInBounds->dy
namespace Go.Proofs.YteonbmabmhoffaaGreatDoor.F
set_option linter.all false
set_option autoImplicit true
set_option relaxedAutoImplicit true
set_option maxRecDepth 100000
set_option maxHeartbeats 4000000
noncomputable section
def HA(d:Nat)(l:List Nat):b' (d::l)=d*10^U l+b' l:=by
 have:=EX l [d];simpa[b'] using this
def Ey(out X:List Nat)(t:Nat):Prop:=U X=U out/\∀i,i<U out->X.getD i 0=if i<t\/U out-t<=i then out.getD (U out-1-i) 0 else out.getD i 0
def Ey.fin(h:Ey out X t)(aP:U out<=2*t+1):X=out.reverse:=by
 apply Kz;intro i;rcases jw i (U out) with au|au
 .have ad:=h.2 i au;have aw:X[i]?=J (X.getD i 0):=by
   rw[iw,h5 (by rw[h.1];exact au)];rfl
  grind
 .rw[Wp (by rw[h.1];exact au),Wp al]
def aaN{X:List Nat}(az:i<U X):(X.set i x).getD j 0=if i=j then x else X.getD j 0:=by
 grind
def Ey.step(h:Ey out X t)(aP:2*t+1<U out):Ey out ((X.set t (X.getD (U out-1-t) 0)).set (U out-1-t) (X.getD t 0)) (t+1):=by
 have au:=h.1;refine⟨by simp[au],λi az=>?_⟩;rw[aaN (by simp;omega),aaN I];have aa:=h.2 (U out-1-t) I;have ad:=h.2 t I;rw[ak I] at aa ad;by_cases c1:U out-1-t=i
 .rw[aA c1,aA I,ad];grind
 .rw[ak c1];by_cases c2:t=i
  .rw[aA c2,aA I,aa];grind
  .rw[ak c2,h.2 i az];by_cases cy:i<t\/U out-t<=i
   .rw[aA cy,aA I]
   .rw[ak cy,ak I]
section
variable{h:H}{R K:K}{p n c k:Nat}{v u:ao}{ds:List Nat}{dp:Int}{ro:Option Nat}
def Vl(aF:b2 h (a5 (J ⟨r,0,ab⟩) (U X) cap) 1 (iQ X) (J r))(az:i<U X)(q:∀h',bV (J r) h h'->b2 h' (a5 (J ⟨r,0,ab⟩) (U (X.set i c)) cap) 1 (iQ (X.set i c)) (J r)->K undef h'):
  bZ 1 (bU (J ⟨r,i,ab⟩)) (bu (c:Int)) h K:=by
 obtain⟨len,iP,cs,t,aD,aa,ad,an,aT,bN⟩:=aF;cases aD;have c0:U X<=ag cs:=I
 rw[xv (v:=bu c) (sz:=1) aa rfl rfl I (bt (ed _)),U4 rfl];have a':r<ag h:=(cm.1 aa).1;refine q _ ⟨a1,λx ae bk=>al⟩ ⟨_,cap,dy cs i (bu c),t,rfl,by simp[a'],al,by simp;omega,by simp[iQ],?_⟩;have e:iQ (X.set i c)=(iQ X).set i (bu c):=by simp[iQ,List.map_set]
 rw[e,Gz];conv=>rhs;rw[<-bN]
 simp[BY]
def VE:∀m:Nat,2^m<=10^m:=λm=>Nat.pow_le_pow_left aE m
def aiV(au:U ds<=100000)(bk:ds≠[])(aV:sf ds)(jb:1<=k)(aq:k<=59)(aG:uS h p ds dp ro)(C0: -1000000<=dp)(AX:dp<=1000000)(q:∀h' hd eY b0 x,bV (J p) h h'->uS h' p hd eY b0->B9 ds dp hd eY k 0 (U ds+k)->R x h'):bo 189 [aN p,ah (k:Int)] h R:=by
 apply alD;obtain⟨⟨v,af,aF⟩,dF,a'⟩:=aG;have jV:p<ag h:=(cm.1 af).1;have aro:=UW aq;have H2:0<2^k:=pX k;have hlen:fb v=J (ah (U ds)):=by
  rcases uC aF with ⟨rfl,rfl,_⟩|⟨r,cap,_,rfl,_⟩<;>rfl
 have h_:0<U ds:=lJ.2 bk;have Og:∀{h':H} (i:Nat),aB h h'->i<U ds->∀K,K (bu (ds.getD i 0:Int)) h'->∃a,ia 1 v (ah i)=J a/\cd a h' K:=by
  intro h' i e az K cE;have fh:b2 h' v 1 (iQ ds) ro:=aF.at λcC er=>by subst er;exact e.2 cC (yi aF)
  rcases uC fh with ⟨rfl,_,_⟩|⟨r,cap,_,rfl,_,hD⟩
  .cases az
  .refine⟨_,IX az,?_⟩;grind
 have x_:=HQ a';have aw:bn .sub (ah (U ds)) (ah 1)=J (ah ((U ds:Int)-1-((0:Nat):Int))):=by
  simp only[bn,ei];congr 2;simp only[jv];omega
 refine hk (c4 af) hlen aw ?_;refine G1 (λdW bx bH cq h'=>∃s n out b0,bx=a4 (n:Nat)/\cq=ah ((U ds:Int)-1-((s:Nat):Int))/\b2 h' bH 1 (iQ out) b0/\(∀r,b0=J r->ag h<=r)/\(out≠[]->b0≠ab)/\aB h h'/\U out=s/\b' (ax (U ds-s) ds)*2^k=b' out.reverse+n*10^s/\n<2^k/\(U ds<=s->n*10^(s-U ds)<2^k)/\s<=U ds+k/\(∀d,d∈out->d<10)/\(U ds<=s->n≠0\/out.getD (s-1) 0≠0)/\dW=(U ds-s)*18446744073709551616+n) _ ⟨0,0,[],ab,rfl,rfl,⟨rfl,rfl⟩,a1,a1,aB.refl _,rfl,by simp[b'],H2,λa=>I,I,a1,λa=>I,rfl⟩ ?_;rintro dW d bx bH cq g N ⟨s,n,out,b0,rfl,rfl,e1,im,auF,he,zl,Df,aI,kY,wG,M3,mZ,rfl⟩ a7;have xO:g[p]?=J (aO #[v,ah dp] 253):=by rw[he.2 p jV];exact af
 have ar:bn .sub (ah ((U ds:Int)-1-(s:Int))) (ah 1)=J (ah ((U ds:Int)-1-((s+1:Nat):Int))):=by
  simp only[bn,ei];congr 2;simp only[jv];omega
 have aS:bn h0 (ah ((U ds:Int)-1-(s:Int))) (ah 0)=J (aQ (decide (s<U ds))):=by
  simp only[bn,ei];grind
 have body:(s<U ds\/n≠0)->∀di,di=n+(if s<U ds then ds.getD (U ds-1-s) 0*2^k else 0)->Pu (bn .rem (a4 di) (a4 10)) g λg2 h=>Pu (ci .u8 g2) h λji h=>
   ew 5 1 (Z 5) [(0,1,ji)] h λhS h=>Ap 5 1 1 (Z 5) bH hS h λjj h=>Pu (bn .quo (a4 di) (a4 10)) h λgT h=>Pu (bn .sub (ah ((U ds:Int)-1-(s:Int))) (ah 1)) h λjH h=>N gT jj jH h:=by
  intro ay di ma;have d10:=x_ (U ds-1-s);have aEK:di<10*2^k:=by
   have:ds.getD (U ds-1-s) 0*2^k<=9*2^k:=jx _ I;grind
  have f1:bn .rem (a4 di) (a4 10)=J (a4 (di%10:Nat)):=by
   simp only[bn,ei];grind
  have f2:ci .u8 (a4 (di%10:Nat))=J (bu (di%10:Nat)):=aoY I;have f3:bn .quo (a4 di) (a4 10)=J (a4 (di/10:Nat)):=afk (b:=10) aE I;rw[f1,bs,f2,bs];refine QH e1 I λch g' e7 b_ cp fB hx=>?_;rw[f3,bs,ar,bs];have aEJ:=O6 di 10;have e4:∀r,e7=J r->ag h<=r:=λr aF=>by
   subst aF;rcases fB with e|⟨cC,e,fh⟩
   .grind
   .cases e;exact dH he.1 fh
  have iD:s+1<=U ds+k:=by
   rcases jw s (U ds) with a'|eg
   .omega
   .have bx:=kY eg;have bH:2^(s-U ds)<2^k:=by
     refine nT (dH (VE _) ?_) bx;exact Wx _ I
    grind
  refine a7 _ _ _ _ _ ?_ ⟨s+1,di/10,out++[di%10],e7,rfl,rfl,cp,e4,λ_ S2=>?_,bV.fe he b_ im,al,?_,I,λa=>?_,iD,λd aG=>?_,λa=>?_,rfl⟩
  .grind
  .subst S2;obtain⟨_,b5⟩:=cp;simp[iQ] at b5
  .rw[List.reverse_append,List.reverse_singleton,List.singleton_append,HA,List.length_reverse,zl,ph];rcases jw s (U ds) with a'|eg
   .rw[aA a'] at ma;have n2:ax (U ds-(s+1)) ds=ds.getD (U ds-1-s) 0::ax (U ds-s) ds:=by
     rw[(I:U ds-(s+1)=U ds-1-s),tJ I,(I:U ds-1-s+1=U ds-s)];congr 1
     grind
    rw[n2,HA,ix,(I:U ds-(U ds-s)=s),zY,Df];have:di*10^s=n*10^s+ds.getD (U ds-1-s) 0*10^s*2^k:=al
    have ad:di*10^s=di%10*10^s+di/10*(10^s*10):=by
     grind
    omega
   grind
  .rcases jw s (U ds) with a'|eg
   .grind
   .rw[ak I,nm] at ma;subst ma;refine nT ?_ (kY eg);rw[(I:s+1-U ds=s-U ds+1),ph,aB1,xh];exact jx _ I
  .grind
  .have S2:di≠0:=by
    rcases jw s (U ds) with a'|eg
    .rw[aA a'] at ma;have:=aV bk;rw[(I:U ds-1-s=0)] at ma;have:=Wx (2^k) (I:0<ds.getD 0 0);omega
    omega
   grind
 have ata:s<U ds->((U ds:Int)-1-(s:Int))=((U ds-1-s:Nat):Int):=λa=>I
 refine bG aS ?_;refine⟨λaL=>?_,λaL=>⟨λkX=>?_,λkX=>?_⟩⟩
 .refine ll (λu g'=>g'=g/\u=a4 (n+ds.getD (U ds-1-s) 0*2^k:Nat)) (λM cM=>?_) ?_
  .have bl:=aS;rw[j7 aL] at bl;have d10:=x_ (U ds-1-s);have MZ:ds.getD (U ds-1-s) 0*2^k<=9*2^k:=jx _ I;have ct:bn .shl (a4 (ds.getD (U ds-1-s) 0:Nat)) (ah k)=J (a4 (ds.getD (U ds-1-s) 0*2^k:Nat)):=Vt aq I;have bd:bn .add (a4 n) (a4 (ds.getD (U ds-1-s) 0*2^k:Nat))=J (a4 (n+ds.getD (U ds-1-s) 0*2^k:Nat)):=EF I;obtain⟨a,bE,cE⟩:=Og (U ds-1-s) he I (λri h=>Pu (ci .u64 ri) h λh4 h=>Pu (bn .shl h4 (ah k)) h λv20 h=>Pu (bn .add (a4 n) v20) h λgC h=>M gC h) (by
    generalize gI:ds.getD (U ds-1-s) 0=v5 at*;refine dG ct bd ?_;grind)
   rw[<-ata aL] at bE;refine hk bl (c4 xO) bE ?_;exact cE
  .rintro u g' ⟨rfl,rfl⟩;exact body (bF aL) _ al
 .refine ll (λu g'=>g'=g/\u=a4 n) (λM cM=>?_) ?_
  .have bl:=aS;rw[ig aL] at bl;refine bG bl ?_;grind
  .rintro u g' ⟨rfl,rfl⟩;grind
 .have eg:U ds<=s:=I
  have aW:n=0:=I
  subst aW;clear body a7 ar aS;have mb:out≠[]:=λe=>al
  obtain⟨r,rfl⟩:∃r,b0=J r:=by
   cases b0 with
   |none=>grind
   |some r=>grind
  have vt:=im r rfl;rcases uC e1 with ⟨e,_,_⟩|⟨cK,cap,er,rfl,qV,_⟩
  .exact absurd e mb
  cases er;have f1:bn .sub (ah (U out)) (ah (U ds))=J (ah (s-U ds:Nat)):=by rw[zl];exact m' eg I
  have f2:bn .add (ah dp) (ah (s-U ds:Nat))=J (ah (dp+((s-U ds:Nat):Int))):=by
   simp only[bn,ei];congr 2;simp only[jv];omega
  have f3:bn .sub (ah (U out)) (ah 1)=J (ah (U out-1-0:Nat)):=by
   have:=m' (a:=U out) (b:=1) I I;omega
  refine vE (c4 xO) hlen f1 f2 f3 ?_;refine fx xO a1 rfl rfl λcb dd dr=>?_;change cb[p]?=J (aO #[v,ah (dp+((s-U ds:Nat):Int))] 253) at dr;have FI:b2 cb (a5 (J ⟨r,0,ab⟩) (U out) cap) 1 (iQ out) (J r):=e1.at λcC e=>by
   cases e;exact dd.2 r (yi e1) (λe=>al)
  refine jn (λdW a b eZ=>∃t X,a=ah (t:Nat)/\b=ah (U out-1-t:Nat)/\2*t<=U out/\Ey out X t/\b2 eZ (a5 (J ⟨r,0,ab⟩) (U X) cap) 1 (iQ X) (J r)/\bV (J r) cb eZ/\dW=U out-t) _ ⟨0,out,rfl,rfl,I,⟨rfl,λi az=>al⟩,FI,bV.refl,rfl⟩ ?_;rintro dW d a b eZ Af ⟨t,X,rfl,rfl,aP,Tm,IH,jR,rfl⟩ rD;have fP:=Tm.1;have awf:∀{g:H} {X:List Nat},b2 g (a5 (J ⟨r,0,ab⟩) (U X) cap) 1 (iQ X) (J r)->∀i,i<U X->∀K,cd (bU (J ⟨r,i,ab⟩)) g K=K (bu (X.getD i 0:Int)) g:=λ{g X} ae i az K=>by
   rcases uC ae with ⟨_,e,_⟩|⟨cK,CA,aw,ar,_,hD⟩
   .cases e
   grind
  rw[<-fP] at aP rD⊢;have c3:=awf IH;have VB:=λ(i c:Nat) (az:i<U X) K=>Vl (K:=K) (c:=c) IH az;refine bG c3 ?_;refine⟨λa'=>?_,λaEq=>?_⟩
  .have mB:2*t+1<U out:=I
   refine Vl IH I λfW fC j6=>?_;refine Vl j6 (by simp;omega) λlV pT rp=>?_;have gQ:=Tm.step mB;rw[<-fP] at gQ;exact rD _ _ _ _ I ⟨t+1,_,rfl,al,I,gQ,rp,(jR.trans fC).trans pT,rfl⟩
  .have ar4:=Tm.fin I;have rG:eZ[p]?=J (aO #[v,ah (dp+((s-U ds:Nat):Int))] 253):=by
    rw[jR.2 p (cP jV (dH he.1 dd.1)) (λe=>al)];exact dr
   refine fx rG a1 rfl rfl λfW fC j6=>?_;have IK:b2 fW (a5 (J ⟨r,0,ab⟩) (U X) cap) 1 (iQ X) (J r):=IH.at λcC e=>by
    cases e;exact fC.2 r (yi IH) (λe=>al)
   have arD:bV (J p) h fW:=by
    have bx:bV (J p) h cb:=(bV.g_ he _).trans dd;have bH:bV (J p) h eZ:=⟨dH bx.1 jR.1,λb cF vp=>by rw[jR.2 b (cP cF bx.1) (λe=>al),bx.2 b cF vp]⟩;exact bH.trans fC
   have abD:∀d,d∈X->d<10:=λd aG=>M3 d al;rw[fP] at IK j6;rw[<-fP] at IK j6;refine Pm (ds:=X) (dp:=dp+((s-U ds:Nat):Int)) (ro:=J r) I ⟨⟨_,j6,IK⟩,λe=>al,abD⟩ λlV gu gD=>?_;refine q lV _ _ _ _ (arD.trans gu) gD (B9.trim (λP Q aD=>?_) (λaEQ=>?_) I abD)
   .obtain⟨u,w,e,aD⟩:=aD;refine⟨u,w,I,?_⟩;rw[(I:U ds-s=0),Ky,pY,nm,<-ar4] at Df;grind
   grind
end
def LO:∀{ds:List Nat},(∀d,d∈ds->d<10)->b' ds<10^U ds
 |[],_=>by simp[b']
 |d::l,h=>by
  have aa:=LO (ds:=l) λx ae=>h x (xf _ ae);have ad:=h d (uO ..);rw[HA,nS,ph];have:d*10^U l<=9*10^U l:=jx _ I;omega
def LN(bk:ds≠[])(h:∀d,d∈ds->d<10):ds.getD 0 0*10^(U ds-1)<=b' ds/\b' ds<(ds.getD 0 0+1)*10^(U ds-1):=by
 cases ds with
 |nil=>grind
 |cons d l=>
  have aa:=LO (ds:=l) λx ae=>h x (xf _ ae);rw[HA];simp only[List.getD_cons_zero,nS,KD];grind
section
variable{ds hd:List Nat}{dp eY:Int}{P Q a b x y:Nat}
def iy.az(aD:iy ds dp P Q)(a':∀d,d∈ds->d<10)(eR:0<Q)(e:(x:Int)-y=dp):P*10^y<Q*10^x:=by
 have h:=aD.any x (y+U ds) I;have aa:=LO a';have p:0<10^U ds:=ob aE;refine yx (a:=10^U ds) ?_;rw[qE,<-fw,<-h,(iN:b' ds*10^x*Q=Q*10^x*b' ds)];exact ahG aa (iI eR (ob aE))
def iy.br(aD:iy ds dp P Q)(bk:ds≠[])(a':∀d,d∈ds->d<10)(e:(x:Int)-y=dp):Q*10^x*ds.getD 0 0<=P*10^y*10:=by
 have au:=lJ.2 bk;have h:=aD.any x (y+U ds) I;have aa:=(LN bk a').1;have p:0<10^(U ds-1):=ob aE;refine Wy ?_ p;rw[(iN:P*10^y*10*10^(U ds-1)=P*(10^y*(10^(U ds-1)*10))),<-ph,(I:(U ds-1).succ=U ds),<-fw,<-h,(iN:Q*10^x*ds.getD 0 0*10^(U ds-1)=Q*10^x*(ds.getD 0 0*10^(U ds-1))),(iN:b' ds*10^x*Q=Q*10^x*b' ds)];exact nU _ aa
def iy.ur(aD:iy ds dp P Q)(bk:ds≠[])(a':∀d,d∈ds->d<10)(eR:0<Q)(e:(x:Int)-y=dp):P*10^y*10<Q*10^x*(ds.getD 0 0+1):=by
 have au:=lJ.2 bk;have h:=aD.any x (y+U ds) I;have aa:=(LN bk a').2;refine yx (a:=10^(U ds-1)) ?_;rw[(iN:P*10^y*10*10^(U ds-1)=P*(10^y*(10^(U ds-1)*10))),<-ph,(I:(U ds-1).succ=U ds),<-fw,<-h,(iN:Q*10^x*(ds.getD 0 0+1)*10^(U ds-1)=Q*10^x*((ds.getD 0 0+1)*10^(U ds-1))),(iN:b' ds*10^x*Q=Q*10^x*b' ds)];exact ahG aa (iI eR (ob aE))
def iy.pos(aD:iy ds dp P Q)(bk:ds≠[])(aV:sf ds)(a':∀d,d∈ds->d<10)(eR:0<Q):0<P:=by
 obtain⟨x,y,e⟩:∃x y:Nat,(x:Int)-y=dp:=⟨dp.toNat,(-dp).toNat,I⟩;have:=aD.br bk a' e;apply xi;intro aW;rw[aW,pY,pY] at this;have:=iI (iI eR (ob (n:=x) (aE:0<10))) (xi (aV bk));omega
def iy.ne(aD:iy ds dp P Q)(lW:0<P):ds≠[]:=by
 rintro rfl;obtain⟨u,v,_,h⟩:=aD;have:=iI lW (ob (n:=v) (aE:0<10));simp[b'] at h;omega
def iy.aoC(aD:iy ds dp P Q)(k2:iy hd eY (P*2^a) (Q*2^b))(a':∀d,d∈ds->d<10)(SR:∀d,d∈hd->d<10)(bk:ds≠[])(xY:hd≠[])(aV:sf ds)(avm:sf hd)(eR:0<Q):dp-b<=eY/\eY<=dp+a:=by
 have lW:=aD.pos bk aV a' eR;have p:∀n,0<10^n:=λn=>ob aE;have two:∀n,0<2^n:=λn=>pX n;obtain⟨x,y,e⟩:∃x y:Nat,(x:Int)-y=dp:=⟨dp.toNat,(-dp).toNat,I⟩;obtain⟨ec,y',c'⟩:∃x y:Nat,(x:Int)-y=eY:=⟨eY.toNat,(-eY).toNat,I⟩;have br:=aD.br bk a' e;have az:=aD.az a' eR e;have dJ:=k2.br xY SR c';have xT:=k2.az SR (iI eR (two b)) c';have I':Q*10^x<=P*10^y*10:=dH (vG _ (xi (aV bk))) br;have awr:Q*2^b*10^ec<=P*2^a*10^y'*10:=dH (vG _ (xi (avm xY))) dJ;constructor;·
  have aa:Q*10^x*(P*2^a*10^y')<P*10^y*10*(Q*2^b*10^ec):=nT (jx _ I') (ahG xT (iI (iI lW (p _)) aE));rw[(iN:Q*10^x*(P*2^a*10^y')=10^x*10^y'*2^a*(P*Q)),(iN:P*10^y*10*(Q*2^b*10^ec)=10^y*10*10^ec*2^b*(P*Q))] at aa;have ad:=yx aa;have an:10^(x+y')<10^(y+1+ec+b):=by
   rw[fw,fw,fw,ph];refine nT (vG _ (two a)) (cP ad ?_);exact nU _ (VE b)
  have:=(aB2 (a:=10) aE).1 an;omega
 .have aa:Q*2^b*10^ec*(P*10^y)<P*2^a*10^y'*10*(Q*10^x):=nT (jx _ awr) (ahG az (iI (iI (iI lW (two _)) (p _)) aE));rw[(iN:Q*2^b*10^ec*(P*10^y)=10^ec*10^y*2^b*(P*Q)),(iN:P*2^a*10^y'*10*(Q*10^x)=10^y'*10*10^x*2^a*(P*Q))] at aa;have ad:=yx aa;have an:10^(ec+y)<10^(y'+1+x+a):=by
   rw[fw,fw,fw,ph];refine nT (vG _ (two b)) (cP ad ?_);exact nU _ (VE a)
  have:=(aB2 (a:=10) aE).1 an;omega
end
structure l5(h:H)(p:Nat)(ds:List Nat)(dp:Int)(P Q L:Nat):Prop where
 ex:∃ro,uS h p ds dp ro
 l3:iy ds dp P Q
 eh:Ld ds
 n7:sf ds
 ne:ds≠[]
 len:U ds<=L
 jD:0<Q
def l5.lt{h:H}{p P Q L:Nat}{dp:Int}(d:l5 h p ds dp P Q L):∀x,x∈ds->x<10:=by
 obtain⟨ro,_,_,h⟩:=d.ex;exact h
def l5.next{h:H}{p P Q L a b X5:Nat}{dp eY:Int}{b0:Option Nat}{h':H}(d:l5 h p ds dp P Q L)(aG:uS h' p hd eY b0)(k:B9 ds dp hd eY a b X5):l5 h' p hd eY (P*2^a) (Q*2^b) X5/\dp-b<=eY/\eY<=dp+a:=by
 have aD:=k.l3 _ _ d.l3;have lW:=d.l3.pos d.ne d.n7 d.lt d.jD;have bk:=aD.ne (iI lW (pX a));exact⟨⟨⟨b0,aG⟩,aD,k.eh,k.n7,bk,k.len,iI d.jD (pX b)⟩,d.l3.aoC aD d.lt k.lt d.ne bk d.n7 k.n7 d.jD⟩
section
variable{h:H}{R K:K}{p n c k P Q L:Nat}{v u:ao}{ds:List Nat}{dp:Int}{ro:Option Nat}
def Pz(d:l5 h p ds dp P Q L)(hD:L<=100000)(jb:1<=k)(aq:k<=59)(C0: -1000000<=dp)(AX:dp<=1000000)(q:∀h' hd eY x,bV (J p) h h'->l5 h' p hd eY P (Q*2^k) (L+k)->dp-k<=eY->eY<=dp->R x h'):bo 188 [aN p,ah (k:Int)] h R:=by
 obtain⟨ro,aG⟩:=d.ex;have au:=d.len;refine aiU I jb aq aG C0 AX λh' hd eY b0 x aw nA b5 _=>?_;obtain⟨fl,cg,cJ⟩:=d.next nA {b5 with len:=dH b5.len (Nat.add_le_add_right au k)};grind
def PA(d:l5 h p ds dp P Q L)(hD:L<=100000)(jb:1<=k)(aq:k<=59)(C0: -1000000<=dp)(AX:dp<=1000000)(q:∀h' hd eY x,bV (J p) h h'->l5 h' p hd eY (P*2^k) Q (L+k)->dp<=eY->eY<=dp+k->R x h'):bo 189 [aN p,ah (k:Int)] h R:=by
 obtain⟨ro,aG⟩:=d.ex;have au:=d.len;refine aiV I d.ne d.n7 jb aq aG C0 AX λh' hd eY b0 x aw nA b5=>?_;obtain⟨fl,cg,cJ⟩:=d.next nA {b5 with len:=dH b5.len (Nat.add_le_add_right au k)};grind
def aka(d:l5 h p ds dp P Q L)(hD:L<=10000)(aq:k<=3000)(C0: -10000<=dp)(AX:dp<=10000)(q:∀h' hd eY x,bV (J p) h h'->l5 h' p hd eY P (Q*2^k) (L+k)->dp-k<=eY->eY<=dp->R x h'):bo 186 [aN p,ah (-(k:Int))] h R:=by
 apply XP;refine eV (λm v g=>v=ah (-(k:Int))/\g=h/\m=0) 0 ⟨rfl,rfl,rfl⟩ ?_;rintro m _ v g N ⟨rfl,rfl,rfl⟩ a7;have aw:bn hf (ah (-(k:Int))) (ah 59)=J (aQ av):=by
  simp only[bn,ei];simp_all
 refine bG aw ?_;refine eV (λm v g'=>∃j hd eY,v=ah (-((k-j:Nat):Int))/\j<=k/\bV (J p) g g'/\l5 g' p hd eY P (Q*2^j) (L+j)/\dp-j<=eY/\eY<=dp/\m=k-j) _ ⟨0,ds,dp,rfl,ed _,bV.refl,al,I,I,rfl⟩ ?_;rintro m _ v g' N ⟨j,hd,eY,rfl,aC,he,fl,cg,cJ,rfl⟩ a7;have ar:bn fG (ah (-((k-j:Nat):Int))) (ah (-59))=J (aQ (decide (59<k-j))):=by
  simp only[bn,ei];congr 2;grind
 have aS:bn hf (ah (-((k-j:Nat):Int))) (ah 0)=J (aQ av):=by
  simp only[bn,ei];simp_all
 have bl:bn fG (ah (-((k-j:Nat):Int))) (ah 0)=J (aQ (decide (0<k-j))):=by
  simp only[bn,ei];simp_all
 have dt:un .neg (ah (-((k-j:Nat):Int)))=J (ah (k-j:Nat)):=by
  simp only[un];congr 2;simp only[jv];omega
 refine i_ ar aS bl dt ?_;refine⟨λaa=>?_,λaa=>⟨λad=>?_,λad=>?_⟩⟩
 .refine Pz (k:=59) fl I aE aE I I λbd pz lT x dd dr fq pd=>?_;have e6:bn .add (ah (-((k-j:Nat):Int))) (ah 59)=J (ah (-((k-(j+59):Nat):Int))):=by
   simp only[bn,ei];congr 2;simp only[jv];omega
  refine bG e6 ?_;exact a7 _ _ _ I ⟨j+59,pz,lT,rfl,I,he.trans dd,al,I,I,rfl⟩
 .refine Pz (k:=k-j) fl I I I I I λbd pz lT x dd dr fq pd=>?_;rw[qE,<-fw,gL,(I:j+(k-j)=k)] at dr;exact q _ _ _ _ (he.trans dd) dr I I
 .have ij:j=k:=I
  subst ij;grind
def aj9(d:l5 h p ds dp P Q L)(hD:L<=10000)(aq:k<=3000)(C0: -10000<=dp)(AX:dp<=10000)(q:∀h' hd eY x,bV (J p) h h'->l5 h' p hd eY (P*2^k) Q (L+k)->dp<=eY->eY<=dp+k->R x h'):bo 186 [aN p,ah (k:Int)] h R:=by
 apply XP;refine eV (λm v g'=>∃j hd eY,v=ah (k-j:Nat)/\j<=k/\bV (J p) h g'/\l5 g' p hd eY (P*2^j) Q (L+j)/\dp<=eY/\eY<=dp+j/\m=k-j) k ⟨0,ds,dp,rfl,ed _,bV.refl,al,I,I,rfl⟩ ?_;rintro m _ v g' N ⟨j,hd,eY,rfl,aC,he,fl,cg,cJ,rfl⟩ a7;refine aR ?_;refine⟨λaa=>?_,λaa=>?_⟩
 .refine PA (k:=59) fl I aE aE I I λbd pz lT x dd dr fq pd=>?_;have e6:bn .sub (ah (k-j:Nat)) (ah 59)=J (ah (k-(j+59):Nat)):=by
   rw[(I:k-(j+59)=k-j-59)];exact m' (a:=k-j) (b:=59) I I
  refine bG e6 ?_;exact a7 _ _ _ I ⟨j+59,pz,lT,rfl,I,he.trans dd,al,I,I,rfl⟩
 .refine eV (λm v bd=>v=ah (k-j:Nat)/\bd=g'/\m=0) 0 ⟨rfl,rfl,rfl⟩ ?_;rintro m _ v bd Af ⟨rfl,rfl,rfl⟩ rD;have ar:bn fG (ah (k-j:Nat)) (ah (-59))=J (aQ av):=by
   rw[show bn fG (ah (k-j:Nat)) (ah (-59))=J (aQ (decide (((k-j:Nat):Int)< -59))) by simp[bn],ig I]
  refine bG ar ?_;refine⟨λad=>?_,λad=>?_⟩
  .refine PA (k:=k-j) fl I I I I I λbd pz lT x dd dr fq pd=>?_;rw[qE,<-fw,gL,(I:j+(k-j)=k)] at dr;exact q _ _ _ _ (he.trans dd) dr I I
  .have ij:j=k:=I
   subst ij;grind
end
def aps(bk:l≠[])(h:l.getD (U l-1) 0≠0):0<b' l:=by
 have e:=aBK bk;have au:=lJ.2 bk;rw[<-e,Az];grind
def ayp:pv ds m%2=1↔0<m/\ds.getD (m-1) 0%2≠0:=by
 cases m with
 |zero=>simp[pv]
 |succ m=>rw[pv,KD];omega
def aBe{m P Q:Nat}(aD:iy ds (m:Int) P Q)(aP:Ld ds)(a':∀d,d∈ds->d<10)(eR:0<Q):pv ds m+(if FZ ds m=ai then 1 else 0)=jF P Q:=by
 have p:∀n,0<10^n:=λn=>ob aE;rcases jw m (U ds) with hm|hm
 .have h:=aD.any 0 (U ds-m) I;rw[h6,nn] at h;rw[Jv (c:=b' ds) (d:=10^(U ds-m)) eR (p _) h.symm];have bk:ax m ds≠[]:=λe=>by have:=mQ List.length e;grind
  have zd:=LN bk λd aG=>a' d (aBP aG);have aX:(ax m ds).getD 0 0=ds.getD m 0:=al
  have aw:b' ds=pv ds m*10^(U ds-m)+b' (ax m ds):=by
   conv=>lhs;rw[<-O4 m ds]
   rw[EX,U7 ds m I,ix]
  have dn:10^(U ds-m)=10*10^(U ds-m-1):=by
   rw[(I:U ds-m=U ds-m-1+1),ph,KD,xh]
  rw[aX,ix] at zd;have pE:=LO (ds:=ax m ds) λd aG=>a' d (aBP aG);rw[ix,dn] at pE;have wD:m+1<U ds->ds.getD m 0*10^(U ds-m-1)<b' (ax m ds):=λa=>by
   have ar:ax m ds=ds.getD m 0::ax (m+1) ds:=by
    simp_all
   rw[ar,HA,ix,(I:U ds-(m+1)=U ds-m-1)];have vp:ax (m+1) ds≠[]:=λe=>al
   have:=aps vp (by
    rw[iw,KA,ix,(I:m+1+(U ds-(m+1)-1)=U ds-1),<-iw];exact aP (λe=>al))
   omega
  have aD0:=p (U ds-m-1);have IB:=ayp (ds:=ds) (m:=m);have mb:m+1=U ds->10^(U ds-m-1)=1:=λa=>al
  unfold jF FZ;rw[aw,dn];generalize 10^(U ds-m-1)=T at*;generalize b' (ax m ds)=rest at*;generalize pv ds m=N at*;generalize ds.getD m 0=d at*;have wz:m+1=U ds\/m+1<U ds:=I
  rw[xh N,Nat.mul_add_div I,Nat.mul_add_mod,O7 pE,GC pE,j7 hm,Bool.true_and,nm];congr 1
  by_cases c:d=5/\m+1=U ds
  .rw[aA c];have ar2:=mb c.2;rw[c.1] at zd;subst ar2;have x1:rest=5:=I
   subst x1;by_cases c2:N%2=1
   .rw[j7 (IB.1 c2),aA rfl,aA I]
   .rw[ig (λa=>c2 (IB.2 a)),ak aE,ak I]
  .rw[ak c];by_cases cy:5<=d
   .rw[j7 cy,aA rfl];have:10*T<2*rest:=by
     rcases jw 5 d with a|a
     .have:=jx T (show 6<=d from a);omega
     grind
    rw[aA (bF this)]
   .rw[ig cy,ak aE];have:=jx T (I:d+1<=5);rw[ak I]
 .have h:=aD.any (m-U ds) 0 I;have e:=N' ds (m-U ds);rw[(I:U ds+(m-U ds)=m)] at e;rw[h6,nn,<-e] at h;rw[<-h,afE eR];unfold FZ;rw[ig I];rfl
def afi(a':∀d,d∈ds->d<10):∀i,pv ds i<10^i
 |0=>by simp[pv]
 |i+1=>by
  have aa:=afi a' i;have ad:=HQ a' i;rw[pv,ph];omega
section
variable{h:H}{R K:K}{p n c k P Q L:Nat}{v u:ao}{ds:List Nat}{dp:Int}{ro:Option Nat}
def ai3(ae:x<0)(q:R (aQ av) h):bo 198 [aN p,ah x] h R:=by
 apply XQ;have e:bn fG (ah x) (ah 0)=J (aQ ai):=by
  simp only[bn,ei];grind
 refine bG e ?_;exact q
def akb(d:l5 h p ds dp P Q L)(hD:L<=10000)(abU:dp<=17)(q:R (a4 (jF P Q:Int)) h):bo 190 [aN p] h R:=by
 apply alF;obtain⟨ro,aG⟩:=d.ex;have au:=d.len;have jT:=aG;obtain⟨⟨v,af,aF⟩,dF,a'⟩:=jT;rcases(I:dp<0\/0<=dp) with FA|S2
 .refine jn (λm a b g=>a=a4 0/\b=ah 0/\g=h/\m=0) 0 ⟨rfl,rfl,rfl,rfl⟩ ?_;rintro m _ a b g N ⟨rfl,rfl,rfl,rfl⟩ a7;have e:bn fG (ah 0) (ah dp)=J (aQ av):=by
   simp only[bn,ei];grind
  refine dG (c4 af) e ?_;refine ai3 FA ?_;refine aR ?_;have aa:=d.l3.az d.lt d.jD (x:=0) (y:=(-dp).toNat) I;rw[h6,nn,(I:(-dp).toNat=(-dp).toNat-1+1),ph] at aa;have an:10*P<=P*(10^((-dp).toNat-1)*10):=by
   rw[xh 10 P];exact nU _ (Wx _ (ob aE))
  have ad:jF P Q=0:=by
   unfold jF;rw[O7 I,GC I,ak I]
  grind
 .obtain⟨m,rfl⟩:∃m:Nat,dp=(m:Int):=⟨dp.toNat,I⟩;have hw:=aBe d.l3 d.eh d.lt d.jD;refine jn (λdW a b g=>∃i,a=a4 (pv ds i:Nat)/\b=ah i/\i<=m/\g=h/\dW=m-i) m ⟨0,rfl,rfl,ed _,rfl,rfl⟩ ?_;rintro dW _ a b g N ⟨i,rfl,rfl,az,rfl,rfl⟩ a7;have aJ:=afi a' i;have H0:pv ds i<100000000000000000:=cP aJ (l4 (n:=10) aE (I:i<=17));have d10:=HQ a' i;have aw:bn .mul (a4 (pv ds i:Nat)) (a4 10)=J (a4 (pv ds i*10:Nat)):=zB (b:=10) I;have ar:bn .add (a4 (pv ds i*10:Nat)) (a4 (ds.getD i 0:Nat))=J (a4 (pv ds i*10+ds.getD i 0:Nat)):=EF I;have aS:bn .add (a4 (pv ds i:Nat)) (a4 1)=J (a4 (pv ds i+1:Nat)):=EF (b:=1) I;refine dG (c4 af) aw ?_;refine⟨λqZ=>?_,λeg=>?_⟩
  .refine ai1 I I aG ?_;have bl:ci .u64 (bu (ds.getD i 0:Nat))=J (a4 (ds.getD i 0:Nat)):=Hv I;generalize gI:ds.getD i 0=v5 at*;refine dG bl ar ?_;exact a7 _ _ _ _ I ⟨i+1,by rw[pv,gI],rfl,I,rfl,rfl⟩
  .have atd:i=m:=I
   subst atd;refine ai2 I I aG ?_;cases aI:FZ ds i with
   |true=>
    rw[aI,aA rfl] at hw;refine bG aS ?_;grind
   |false=>
    rw[aI,ak aE,nm] at hw;refine aR ?_;grind
end
def l5.ext{h h':H}{p P Q L:Nat}{dp:Int}(d:l5 h p ds dp P Q L)(e:aB h h'):l5 h' p ds dp P Q L:=by
 obtain⟨ro,⟨v,af,aF⟩,dF,a'⟩:=d.ex;refine⟨⟨ro,⟨v,by rw[e.2 p (cm.1 af).1];exact af,aF.at λr er=>?_⟩,dF,a'⟩,d.l3,d.eh,d.n7,d.ne,d.len,d.jD⟩;subst er;exact e.2 r (yi aF)
def l5.cells{h:H}{p P Q L:Nat}{dp:Int}(d:l5 h p ds dp P Q L):∃r cap,h[p]?=J (aO #[a5 (J ⟨r,0,ab⟩) (U ds) cap,ah dp] 253)/\0<U ds/\∀K:K,cd (bU (J ⟨r,0,ab⟩)) h K=K (bu (ds.getD 0 0:Int)) h:=by
 obtain⟨ro,⟨v,af,aF⟩,dF,a'⟩:=d.ex;have au:=lJ.2 d.ne;rcases uC aF with ⟨e,_,_⟩|⟨r,cap,rfl,rfl,qV,hD⟩
 .grind
 grind
def agH:2^1025<=10^310:=by
 omega
set_option exponentiation.threshold 2000 in
def azY:2^1023<=10^331:=dH (l4 aE aE) (dH agH (l4 aE aE))
section
variable{ds:List Nat}{dp:Int}{P Q w:Nat}
set_option exponentiation.threshold 2000 in
def az6(aD:iy ds dp P Q)(a':∀d,d∈ds->d<10)(eR:0<Q)(h:dp< -330)(hw:mG P Q w):False:=by
 obtain⟨s,t,aa,ad,an,aT,_⟩:=hw;have az:=aD.az a' eR (x:=0) (y:=(-dp).toNat) I;rw[h6,nn] at az;have a2:10^331<=10^(-dp).toNat:=l4 aE I;generalize 10^(-dp).toNat=Y at az a2;have lC:=dH azY a2;have two:∀n,0<2^n:=λn=>pX n;have bx:2^52*(Q*2^t)*Y<=P*2^s*Y:=jx _ aa;have bH:P*Y*2^s<Q*2^s:=vH az (two s);have cq:Q*(2^52*2^t*Y)<Q*2^s:=by
  grind
 have dT:=O8 cq;have e3:2^52*2^t*2^1023<=2^52*2^t*Y:=nU _ lC;rw[<-fw,<-fw] at e3;have hJ:=nT e3 (by rw[fw];exact dT);rw[zP] at hJ;omega
set_option exponentiation.threshold 2000 in
def iy.up(aD:iy ds dp P Q)(a':∀d,d∈ds->d<10)(eR:0<Q)(h:dp<=310):P<Q*2^1030:=by
 obtain⟨x,y,e⟩:∃x y:Nat,(x:Int)-y=dp:=⟨dp.toNat,(-dp).toNat,I⟩;have az:=aD.az a' eR e;have ad:10^x<=10^y*10^310:=by rw[<-fw];exact l4 aE I
 refine yx (a:=10^y) (cP az ?_);rw[qE];refine nU _ (dH ad ?_);omega
set_option exponentiation.threshold 2000 in
def iy.down(aD:iy ds dp P Q)(bk:ds≠[])(aV:sf ds)(a':∀d,d∈ds->d<10)(h: -330<=dp):Q<=P*2^1133:=by
 obtain⟨x,y,e⟩:∃x y:Nat,(x:Int)-y=dp:=⟨dp.toNat,(-dp).toNat,I⟩;have br:=aD.br bk a' e;have I':Q*10^x<=P*10^y*10:=dH (vG _ (xi (aV bk))) br;have ad:10^y*10<=10^x*10^331:=by rw[<-ph,<-fw];exact l4 aE I
 refine Wy (dH I' ?_) (ob (n:=x) (aE:0<10));rw[qE,qE];refine nU _ (dH ad ?_);omega
def iy.one_le(aD:iy ds dp P Q)(bk:ds≠[])(aV:sf ds)(a':∀d,d∈ds->d<10)(h:0<dp):Q*10^(dp.toNat-1)<=P:=by
 have br:=aD.br bk a' (x:=dp.toNat) (y:=0) I;have I':Q*10^dp.toNat<=P*10^0*10:=dH (vG _ (xi (aV bk))) br;rw[(I:dp.toNat=dp.toNat-1+1),ph,h6,nn,<-qE] at I';omega
def iy.awi(aD:iy ds dp P Q)(bk:ds≠[])(aV:sf ds)(a':∀d,d∈ds->d<10)(h:P<Q):dp<=0:=by
 apply Kw;intro c;have:=aD.one_le bk aV a' I;have ad:=vG Q (ob (n:=dp.toNat-1) (aE:0<10));omega
def iy.awj(aD:iy ds dp P Q)(bk:ds≠[])(aV:sf ds)(a':∀d,d∈ds->d<10)(h:P<Q*2^53):dp<=17:=by
 apply Kw;intro c;have:=aD.one_le bk aV a' I;have ad:10^17<=10^(dp.toNat-1):=l4 aE I;have an:=nU Q (dH (aE:2^53<=10^17) ad);omega
set_option exponentiation.threshold 2000 in
def tooBig(aD:iy ds dp P Q)(bk:ds≠[])(aV:sf ds)(a':∀d,d∈ds->d<10)(h:310<dp)(aL:P<Q*2^1000):False:=by
 have aa:=aD.one_le bk aV a' I;have ad:10^310<=10^(dp.toNat-1):=l4 aE I;have aT:2^1000<=2^1025:=l4 aE aE;have an:=nU Q (dH (dH aT agH) ad);omega
set_option exponentiation.threshold 2000 in
def avK(eR:0<Q)(aa:Q*2^b<=2*(P*2^a))(ad:P*2^a<Q*2^b)(hw:mG P Q w)(aL:P<Q*2^1000):a<=b+1021/\b<=a+1001/\w=(b+1021-a)*2^52+jF (P*2^(a+53)) (Q*2^b):=by
 have two:∀n,0<2^n:=λn=>pX n;have FM:=hw;obtain⟨s,t,cZ,cj,eI,jB,_⟩:=hw;have c1:a<=b+1021:=by
  have bx:2^52*(Q*2^t)*2^a<=P*2^s*2^a:=jx _ cZ;have bH:P*2^a*2^s<Q*2^b*2^s:=vH ad (two s);have cq:Q*(2^52*2^t*2^a)<Q*(2^b*2^s):=by
   grind
  have dT:=O8 cq;rw[<-fw,<-fw,<-fw,zP] at dT;omega
 have c2:b<=a+1001:=by
  have bx:Q*2^b<Q*(2^1000*2^(a+1)):=by
   refine nT aa ?_;rw[(iN:2*(P*2^a)=P*(2^a*2)),<-ph,<-qE];simp_all
  have bH:=O8 bx;rw[<-fw,zP] at bH;omega
 refine⟨c1,c2,?_⟩;refine(adn eR eR rfl FM ⟨a+53,b,?_,?_,I,I,rfl⟩).trans ?_
 .rw[(iN:2^52*(Q*2^b)=Q*2^b*2^52),fw,(al:P*(2^a*2^53)=2*(P*2^a)*2^52)];omega
 .rw[fw,(iN:P*(2^a*2^53)=P*2^a*2^53),xh (2^53)];omega
 .congr 2;omega
end
section
variable{h:H}{R K:K}{p n c k P Q L:Nat}{v u:ao}{ds:List Nat}{dp:Int}{ro:Option Nat}
def DM(aa: -100000<=a/\a<=100000)(ad: -100000<=b/\b<=100000):bn .sub (ah a) (ah b)=J (ah (a-b)):=by
 simp only[bn,ei];congr 2;simp only[jv];omega
def yQ(aa: -100000<=a/\a<=100000)(ad: -100000<=b/\b<=100000):bn .add (ah a) (ah b)=J (ah (a+b)):=by
 simp only[bn,ei];congr 2;simp only[jv];omega
def Ub:bn fG (ah a) (ah b)=J (aQ (decide (a<b))):=by simp[bn]
def Mn:bn hf (ah a) (ah b)=J (aQ (decide (b<a))):=by simp[bn]
def Rs:bn h0 (ah a) (ah b)=J (aQ (decide (b<=a))):=by simp[bn]
def aeo{c:Int}(ay:c=3\/c= -3)(h: -100000<=x/\x<=100000):bn .mul (ah c) (ah x)=J (ah (c*x)):=by
 simp only[bn,ei];congr 2;rcases ay with rfl|rfl<;>(simp only[jv];omega)
def aeh(h:0<x):q4 ai (ah x) (ah 59)=J (ah (((min x 59).toNat:Nat):Int)):=by
 unfold q4;grind
def azw(ae:x<4096):bn .or (a4 ((M%2^52:Nat):Int)) (a4 ((x*2^52:Nat):Int))=J (a4 ((M%2^52+x*2^52:Nat):Int)):=by
 have aa:M%2^52<2^52:=z1 _ aE;rw[jY I I,Nat.or_comm,xh x,<-aB3 aa,Nat.add_comm]
end
section
variable{h:H}{R K:K}{p n c k P Q L:Nat}{v u:ao}{ds:List Nat}{dp:Int}{ro:Option Nat}
def aom(aa:2^52<=M)(ad:M<2^53):M&&&4503599627370496≠0:=λe=>by
 have:=P8 (i:=52) e aE;omega
def aiH(d:uS h p [] dp ro)(q:∀h',aB h h'->R (.tuple #[.u 0,.bool av]) h'):bo 168 [aN p,.agg rC.toArray] h R:=by
 apply XL;unfold lh;rw[show(cellsL (Value.agg rC.toArray)).toArray=#[.i 52,.i 11,.i (-1023)] from rfl];obtain⟨⟨v,af,aF⟩,dF,_⟩:=d;have yY:aB h (h.push (.cells #[.i 52,.i 11,.i (-1023)] 238)):=aB.push _ _;have dz:(h.push (.cells #[.i 52,.i 11,.i (-1023)] 238))[p]?=J (.cells #[v,.i dp] 253):=al
 have mC:fb v=J (.i ((0:Nat):Int)):=by
  rcases uC aF with ⟨_,rfl,_⟩|⟨r,cap,_,rfl,_⟩<;>rfl
 have c1:bn .shl (.u 1) (.i 11)=J (.u 2048):=rfl;have c2:bn .sub (.u 2048) (.u 1)=J (.u 2047):=rfl;have cy:bn .shl (.u 2047) (.i 52)=J (.u ((9218868437227405312:Nat):Int)):=rfl;refine vE (c4 dz) c1 c2 cy mC ?_;grind
set_option exponentiation.threshold 2000 in
def aiG(d:l5 h p ds dp P Q L)(hD:L<=1000)(q:∀h' (b:Nat) over,bV (J p) h h'->b<18446744073709551616->(∀w,mG P Q w->P<Q*2^1000->b=w/\over=av)->R (.tuple #[.u (b:Int),.bool over]) h'):bo 168 [aN p,.agg rC.toArray] h R:=by
 apply XL;unfold lh;rw[show(cellsL (Value.agg rC.toArray)).toArray=#[.i 52,.i 11,.i (-1023)] from rfl];have two:∀n,0<2^n:=λn=>pX n;have d1:=d.ext (aB.push h (.cells #[.i 52,.i 11,.i (-1023)] 238));have jV:p<h.size:=by obtain⟨_,_,af,_⟩:=d.cells;grind
 have yY:aB h (h.push (.cells #[.i 52,.i 11,.i (-1023)] 238)):=aB.push _ _;have SC:(h.push (.cells #[.i 52,.i 11,.i (-1023)] 238))[h.size]?=J (.cells #[.i 52,.i 11,.i (-1023)] 238):=mK;have bq:∀h' (b:Nat) over,bV (J p) (h.push (.cells #[.i 52,.i 11,.i (-1023)] 238)) h'->b<18446744073709551616->(∀w,mG P Q w->P<Q*2^1000->b=w/\over=av)->R (.tuple #[.u (b:Int),.bool over]) h':=λh' b over aw af bO=>q h' b over ((bV.g_ yY _).trans aw) af bO;clear q yY;generalize aES:h.size=iF at*;generalize h.push (.cells #[.i 52,.i 11,.i (-1023)] 238)=aa at*;have aug:iF<aa.size:=(cm.1 SC).1;have bj:∀g,bV (J p) aa g->g[iF]?=J (.cells #[.i 52,.i 11,.i (-1023)] 238):=λg e=>by
  rw[e.2 iF aug (λe=>al)];exact SC
 clear d;have c1:bn .shl (.u 1) (.i 11)=J (.u 2048):=rfl;have c2:bn .sub (.u 2048) (.u 1)=J (.u 2047):=rfl;have cy:bn .shl (.u 2047) (.i 52)=J (.u ((9218868437227405312:Nat):Int)):=rfl;obtain⟨cv,aCZ,jT,h_,_⟩:=d1.cells;have f1:bn .lss (.i dp) (.i (-330))=J (.bool (decide (dp< -330))):=Ub;have f2:bn .gtr (.i dp) (.i 310)=J (.bool (decide (310<dp))):=Mn;refine xb (c4 SC) (c4 jT) c1 c2 cy f1 f2 f2 ?_;refine⟨λbx=>?_,λbx=>⟨λbH=>?_,λbH=>?_⟩⟩
 .exact bq aa 0 av bV.refl aE λw hw _=>absurd hw (λhw=>az6 d1.l3 d1.lt d1.jD bx hw)
 .exact bq aa 9218868437227405312 ai bV.refl aE λw _ aL=>absurd aL (λaL=>tooBig d1.l3 d1.ne d1.n7 d1.lt bH aL)
 have ac2:=d1.l3.up d1.lt d1.jD I;have abT:=d1.l3.down d1.ne d1.n7 d1.lt I;have lW:=d1.l3.pos d1.ne d1.n7 d1.lt d1.jD;clear f1 f2 c1 c2 jT h_;refine eV (λm v g=>∃(b:Nat) (hd:List Nat) (eY:Int),v=.i (b:Int)/\bV (J p) aa g/\l5 g p hd eY P (Q*2^b) (L+b)/\b<=1200/\dp-b<=eY/\eY<=dp/\m=1200-b) 1200 ⟨0,ds,dp,rfl,bV.refl,al,I,I,I,rfl⟩ ?_;rintro m _ v g N ⟨b,apq,yW,rfl,he,hp,af,cg,cJ,rfl⟩ a7;obtain⟨cc,aoV,dz,fg,_⟩:=hp.cells;have f1:bn .gtr (.i yW) (.i 0)=J (.bool (decide (0<yW))):=Mn;have f2:bn .mul (.i 3) (.i yW)=J (.i (3*yW)):=aeo (.inl rfl) I;refine hk (c4 dz) f1 f2 ?_;refine⟨λcq=>?_,λcq=>?_⟩
 .have f3:=aeh (x:=3*yW) I;generalize ti:(min (3*yW) 59).toNat=dq at f3;have kB:b<1030:=by
   have aa:=hp.l3.one_le hp.ne hp.n7 hp.lt cq;have ad:=vG (Q*2^b) (ob (n:=yW.toNat-1) (show 0<10 by decide));have an:=O8 (nT (dH ad aa) ac2);exact zP.1 an
  refine bG f3 ?_;refine Pz (k:=dq) hp I I I I I λbd pz lT x dd dr fq pd=>?_;refine aR ?_;exact a7 _ _ _ I ⟨b+dq,pz,lT,rfl,he.trans dd,al,I,I,I,rfl⟩
 clear a7 N f1 f2;refine eV (λm v g'=>∃(a:Nat) (hd:List Nat) (eY:Int),v=.i ((b:Int)-(a:Int))/\bV (J p) aa g'/\l5 g' p hd eY (P*2^a) (Q*2^b) (L+b+a)/\a<=2600/\yW<=eY/\eY<=0/\m=2600-a) 2600 ⟨0,apq,yW,a1,he,al,I,I,I,rfl⟩ ?_;clear dz fg hp he;rintro m _ v g N ⟨a,pz,lT,rfl,he,hp,bE,eP,hc,rfl⟩ a7;obtain⟨cc,aoV,dz,fg,abq⟩:=hp.cells;have f1:bn .lss (.i lT) (.i 0)=J (.bool (decide (lT<0))):=Ub;have f2:bn .mul (.i (-3)) (.i lT)=J (.i (-3*lT)):=aeo (.inr rfl) I;have YI:P*2^a<Q*2^b->a<2400:=λbO=>by
  have aa:P*2^a<P*(2^1133*2^b):=by
   refine cP bO ?_;rw[<-qE];exact jx _ abT
  have ad:=O8 aa;rw[<-fw,zP] at ad;omega
 have pK:∀dq:Nat,1<=dq->dq<=59->P*2^a*2^dq<Q*2^b->bD 189 [aN p,.i (dq:Int)] g λ_ h=>Pu (bn .sub (.i ((b:Int)-(a:Int))) (.i (dq:Int))) h λo' h=>N o' h:=λdq cZ cj bO=>by
  have ad:P*2^a<Q*2^b:=nT (vG _ (two dq)) bO;have:=YI ad;refine PA (k:=dq) hp I cZ cj I I λbd EW Ay x dd dr fq pd=>?_;have aW:=dr.l3.awi dr.ne dr.n7 dr.lt bO;rw[DM I I,bs];exact a7 _ _ _ I ⟨a+dq,EW,Ay,al,he.trans dd,al,I,I,aW,rfl⟩
 have FA:lT<0->P*2^a*2^((min (-3*lT) 59).toNat)<Q*2^b:=λaI=>by
  have az:=hp.l3.az hp.lt hp.jD (x:=0) (y:=(-lT).toNat) I;rw[h6,nn] at az;refine nT (nU _ ?_) az;refine dH (l4 (n:=2) aE (show(min (-3*lT) 59).toNat<=3*(-lT).toNat by omega)) ?_;rw[Nat.pow_mul];exact Nat.pow_le_pow_left aE _
 have Sv:lT=0->pz.getD 0 0<5->P*2^a*2^1<Q*2^b:=λaV bN=>by
  have az:=hp.l3.ur hp.ne hp.lt hp.jD (x:=0) (y:=0) I;rw[h6,nn,nn] at az;have:=nU (Q*2^b) (show pz.getD 0 0+1<=5 by omega);omega
 have mZ:lT=0->5<=pz.getD 0 0->Q*2^b<=2*(P*2^a)/\P*2^a<Q*2^b:=λaV bN=>by
  have az:=hp.l3.az hp.lt hp.jD (x:=0) (y:=0) I;have br:=hp.l3.br hp.ne hp.lt (x:=0) (y:=0) I;rw[h6,nn,nn] at az br;have:=nU (Q*2^b) bN;omega
 have d10:=HQ hp.lt 0;generalize pz.getD 0 0=d0 at*;clear a7;refine i_ (c4 dz) abq f1 f2 ?_;refine⟨λdT=>?_,λdT=>⟨λe3=>?_,λe3=>?_⟩⟩
 .have f3:=aeh (x:= -3*lT) I;have:=pK _ I I (FA dT);refine bG f3 ?_;exact this
 .grind
 obtain⟨cZ,cj⟩:=mZ I I;have hw:=λw hw aL=>avK (w:=w) d1.jD cZ cj hw aL;clear pK FA Sv mZ YI abq f1 f2 d10 d1 abT ac2;have f1:bn .sub (.i ((b:Int)-(a:Int))) (.i 1)=J (.i ((b:Int)-a-1)):=DM I I;have f2:bn .add (.i (-1023)) (.i 1)=J (.i (-1022)):=rfl;have f3:bn .sub (.i (-1022)) (.i ((b:Int)-a-1))=J (.i (-1022-((b:Int)-a-1))):=DM I I;have f4:bn .gtr (.i (-1022-((b:Int)-a-1))) (.i 0)=J (.bool (decide (0< -1022-((b:Int)-a-1)))):=Mn;refine bG f1 ?_;refine ll (λv g'=>∃(ar:Int) (cJ:Nat) (EW:List Nat) (Ay:Int),v=.i ar/\bV (J p) aa g'/\l5 g' p EW Ay (P*2^a) (Q*2^cJ) 7000/\P*2^a<Q*2^cJ/\-8000<=Ay/\Ay<=0/\-1022<=ar/\ar<=1300/\(-1022<=(b:Int)-a-1->ar=(b:Int)-a-1/\cJ=b)/\((b:Int)-a-1< -1022->ar= -1022)) (λM cM=>?_) ?_
 .have nZ:=bj g he;refine i_ (c4 nZ) f2 f3 f4 ?_;refine⟨λhJ=>?_,λhJ=>?_⟩
  .have f5:un .neg (.i (-1022-((b:Int)-a-1)))=J (.i (-(((-1022-((b:Int)-a-1)).toNat:Nat):Int))):=by
    simp only[un];congr 2;simp only[jv];omega
   have f6:bn .add (.i ((b:Int)-a-1)) (.i (-1022-((b:Int)-a-1)))=J (.i (-1022)):=by
    rw[yQ I I];grind
   refine bG f5 ?_;refine aka (k:=(-1022-((b:Int)-a-1)).toNat) hp I I I I λbd EW Ay x dd dr fq pd=>?_;refine bG f6 ?_;refine cM _ _ ⟨-1022,b+(-1022-((b:Int)-a-1)).toNat,EW,Ay,rfl,he.trans dd,?_,?_,I,I,I,I,λx=>I,λ_=>rfl⟩
   .rw[fw,<-qE];exact{dr with len:=dH dr.len I}
   .rw[fw,<-qE];exact cP cj (vG _ (two _))
  .exact cM _ _ ⟨_,b,pz,lT,rfl,he,{hp with len:=dH hp.len I},cj,I,I,I,I,λx=>⟨rfl,rfl⟩,λx=>I⟩
 rintro v cb ⟨ar,cJ,EW,Ay,rfl,C1,ZS,Iu,l6,aCK,aCL,aCM,R9,rD⟩;clear hp he dz fg f1 f2 f3 f4 bE eP hc;have nZ:=bj cb C1;have f1:bn .sub (.i ar) (.i (-1023))=J (.i (ar- -1023)):=DM I I;have f2:bn .shl (.i 1) (.i 11)=J (.i 2048):=rfl;have f3:bn .sub (.i 2048) (.i 1)=J (.i 2047):=rfl;have f4:bn .geq (.i (ar- -1023)) (.i 2047)=J (.bool (decide (2047<=ar- -1023))):=Rs;have f5:bn .add (.i 1) (.i 52)=J (.i ((53:Nat):Int)):=rfl;refine DZ (c4 nZ) f1 f2 f3 f4 f5 ?_;refine⟨λhJ=>?_,λhJ=>?_⟩
 .exact bq cb _ ai C1 aE λw qs aL=>by
   grind
 refine aj9 (k:=53) ZS I aE I I λeZ aDa aC9 x dd dr fq pd=>?_;have AZ:=C1.trans dd;have EZ:=bj eZ AZ;have acq:P*2^a*2^53<2^53*(Q*2^cJ):=I
 have H0:=dr.l3.awj dr.ne dr.n7 dr.lt I;refine akb dr aE H0 ?_;have arQ:=Jw dr.jD acq;have atY: -1022<=(b:Int)-a-1->∀w,w=(b+1021-a)*2^52+jF (P*2^(a+53)) (Q*2^b)->2^52<=jF (P*2^a*2^53) (Q*2^cJ)/\w=(b+1021-a)*2^52+jF (P*2^a*2^53) (Q*2^cJ):=λaI w e=>by
  obtain⟨_,rfl⟩:=R9 aI;rw[fw,<-qE] at e;refine⟨?_,e⟩;have:2^52<=P*2^a*2^53/(Q*2^cJ):=by
   rw[Nat.le_div_iff_mul_le dr.jD,xh,show(2:Nat)^53=2*2^52 from rfl,show P*2^a*(2*2^52)=2*(P*2^a)*2^52 by ac_rfl];omega
  unfold jF;omega
 generalize jF (P*2^a*2^53) (Q*2^cJ)=M at*;have ow:∀w,mG P Q w->P<Q*2^1000->-1022<=(b:Int)-a-1/\(b:Int)-a-1<=1000/\2^52<=M/\w=(b+1021-a)*2^52+M:=λw aa ad=>by
  grind
 clear hw atY dr ZS Iu acq H0 fq pd;have ct:bn .shl (.u 2) (.i 52)=J (.u ((9007199254740992:Nat):Int)):=rfl;refine rv (λv1 v2 g'=>∃(bl:Int) (uX:Nat),v1=.i bl/\v2=.u (uX:Int)/\g'=eZ/\uX<2^53/\-1022<=bl/\bl<=1301/\(∀w,mG P Q w->P<Q*2^1000->2^52<=uX/\(w:Int)=(bl+1022)*4503599627370496+uX)) (λyM Mz=>?_) ?_
 .refine dG (c4 EZ) ct ?_;refine⟨λlo=>?_,λlo=>?_⟩
  .subst lo;have bd:bn .shr (.u ((9007199254740992:Nat):Int)) (.u 1)=J (.u ((4503599627370496:Nat):Int)):=rfl;have cb:bn .add (.i ar) (.i 1)=J (.i (ar+1)):=yQ I I;have Rj:bn .sub (.i (ar+1)) (.i (-1023))=J (.i (ar+1- -1023)):=DM I I;have fW:bn .geq (.i (ar+1- -1023)) (.i 2047)=J (.bool (decide (2047<=ar+1- -1023))):=Rs;have HJ:bn .shr (.u 9007199254740992) (.u 1)=J (.u ((4503599627370496:Nat):Int)):=rfl;refine xb (c4 EZ) bd HJ cb Rj fW f2 f3 ?_;refine⟨λpx=>?_,λpx=>?_⟩
   .exact bq _ _ ai AZ aE λw aa ad=>by
     grind
   .refine Mz _ _ _ ⟨ar+1,4503599627370496,rfl,rfl,rfl,aE,I,I,λw aa ad=>?_⟩;grind
  grind
 rintro v1 v2 fW ⟨bl,uX,rfl,rfl,rfl,arP,hU,aCI,vv⟩;clear ow R9 rD f1 f4 ct arQ;have ct:bn .shl (.u 1) (.i 52)=J (.u ((4503599627370496:Nat):Int)):=rfl;refine ll (λv g'=>∃dt:Int,v=.i dt/\g'=fW/\-1023<=dt/\dt<=1301/\(∀w,mG P Q w->P<Q*2^1000->dt=bl)) (λM2 n0=>?_) ?_
 .have bd:bn .and (.u (uX:Int)) (.u ((4503599627370496:Nat):Int))=J (.u ((uX&&&4503599627370496:Nat):Int)):=yR I aE;have HJ:bn .and (.u (uX:Int)) (.u 4503599627370496)=J (.u ((uX&&&4503599627370496:Nat):Int)):=bd;refine i_ (c4 EZ) ct bd HJ ?_;refine⟨λlo=>?_,λlo=>?_⟩
  .exact n0 _ _ ⟨-1023,rfl,rfl,I,I,λw aa ad=>absurd lo (aom (vv w aa ad).1 arP)⟩
  grind
 rintro v lV ⟨dt,rfl,rfl,aCJ,Qa,No⟩;have bd:bn .sub (.u ((4503599627370496:Nat):Int)) (.u 1)=J (.u ((2^52-1:Nat):Int)):=rfl;have HJ:bn .sub (.u 4503599627370496) (.u 1)=J (.u ((2^52-1:Nat):Int)):=rfl;have cb:bn .and (.u (uX:Int)) (.u ((2^52-1:Nat):Int))=J (.u ((uX%2^52:Nat):Int)):=aea (k:=52) aE I;have Rj:bn .sub (.i dt) (.i (-1023))=J (.i (((dt+1023).toNat:Nat):Int)):=by
  rw[DM I I];grind
 have ae:(dt+1023).toNat<4096:=I
 have FO:(((dt+1023).toNat:Nat):Int)=dt+1023:=I
 generalize (dt+1023).toNat=x at*;have aqr:ci .u64 (.i (x:Int))=J (.u (x:Int)):=Hv I;have aqs:bn .shl (.u (x:Int)) (.i 52)=J (.u ((x*2^52:Nat):Int)):=Vt (k:=52) aE I;have qO:=azw (M:=uX) ae;refine ag8 (c4 EZ) ct bd HJ cb Rj aqr aqs qO qO qO qO ?_;refine bq _ _ av AZ I λw aa ad=>⟨?_,rfl⟩;grind
end
def k4(c:UInt8):Bool:=decide (48<=c.toNat/\c.toNat<=57)
def rM:B->List Nat->Nat->Bool->List Nat×Nat×B
 |[],ms,f,_=>(ms,f,[])
 |c::l,ms,f,dot=>if c.toNat=46/\dot=av then rM l ms f ai else if k4 c=ai then rM l (ms++[c.toNat-48]) (if dot=ai then f+1 else f) dot else(ms,f,c::l)
def rE:B->Nat->Nat
 |[],e=>e
 |c::l,e=>rE l (if e<10000 then e*10+(c.toNat-48) else e)
def La(r:B)(E:Int):Prop:=(r=[]/\E=0)\/∃c es gX,r=c::(es++gX)/\(c.toNat=101\/c.toNat=69)/\(es=[]\/es=[43]\/es=[45])/\gX≠[]/\(∀x,x∈gX->k4 x=ai)/\E=if es=[45] then-(rE gX 0:Int) else(rE gX 0:Int)
def Aa(h:X k):fD 4 X (λ_=>k):=⟨k,λ_ _ _ _ _ _ h=>h,h⟩
def ank(Q:ao->ao->ao->ao->H->Prop)(aa:∀N:ao->ao->ao->ao->H->Prop,(∀a b c d h,Q a b c d h->N a b c d h)->X N)(ad:∀a b c d h,Q a b c d h->k a b c d h):fD 4 X (λ_=>k):=⟨Q,λ_ _ _ _ _ _ h=>ad _ _ _ _ _ h,aa Q λ_ _ _ _ _ h=>h⟩
def anu(b7:Nat->ao->ao->ao->ao->ao->H->Prop)(m:Nat)(aW:b7 m v1 v2 dD v4 fI h)(aL:∀m d v1 v2 dD v4 fI h (N:ao->ao->ao->ao->ao->H->Prop),b7 m v1 v2 dD v4 fI h->(∀ez v1 v2 dD v4 fI h,ez<m->b7 ez v1 v2 dD v4 fI h->N v1 v2 dD v4 fI h)->b N d v1 v2 dD v4 fI h):iL 5 [v1,v2,dD,v4,fI] h b:=
 ⟨b7,⟨m,aW⟩,λm d v1 v2 dD v4 fI h az=>aL m d v1 v2 dD v4 fI h _ az λez _ _ _ _ _ _ hm h=>⟨ez,hm,h⟩⟩
section
variable{h:H}{R K:K}{p n c k P Q L:Nat}{v u:ao}{ds:List Nat}{dp:Int}{ro:Option Nat}{l:B}
def ayU(az:i<U l):rM (ax i l) ms f dot=if g l i=46/\dot=av then rM (ax (i+1) l) ms f ai else if 48<=g l i/\g l i<=57 then rM (ax (i+1) l) (ms++[g l i-48]) (if dot=ai then f+1 else f) dot else(ms,f,ax i l):=by
 rw[nt az,rM,fu az];simp only[k4,r_]
def asN{k:ao->H->Prop}(au:U l<=400)(ae:2<=U l->g l 0=48->g l 1|||32≠120)(aq:k (aQ av) h):Pu (q3 (S l)) h λv2 h=>Pu (bn h0 v2 (ah 2)) h λdD h=>a0 dD ai (λh k=>k (S l) h) h λv4 h=>a0 dD ai (Pu (ixs v4 (ah 0))) h λfI h=>a0 dD ai (Pu (bn cQ fI (bu 48))) h λv6 h=>
  Pu (pk dD v6 (aQ av)) h λhH h=>a0 hH ai (λh k=>k (S l) h) h λj4 h=>a0 hH ai (Pu (ixs j4 (ah 1))) h λj5 h=>a0 hH ai (bD 183 [j5]) h λv10 h=>a0 hH ai (Pu (bn cQ v10 (bu 120))) h λv11 h=>Pu (pk hH v11 (aQ av)) h λhv h=>k hv h:=by
 have mP:0<U l->ixs (S l) (ah 0)=J (bu (g l 0:Int)):=λh=>m3 (i:=0) h;have b_:1<U l->ixs (S l) (ah 1)=J (bu (g l 1:Int)):=λh=>m3 (i:=1) h;refine dG mP b_ ?_;refine⟨λad=>⟨λAL=>KP (dZ _ _) ?_,λ_=>aq⟩,λ_=>aq⟩;have:=ae ad AL;refine aR ?_;exact aq
def u0(h g:H)(ds:List Nat)(dp:Int):Prop:=aB h g/\∃v ro,g[ag h]?=J (aO #[v,ah dp] 253)/\b2 g v 1 (iQ ds) ro/\∀r,ro=J r->ag h<r
def u0.fb{g:H}(d:u0 h g ds dp):∃v,g[ag h]?=J (aO #[v,ah dp] 253)/\fb v=J (ah (U ds:Int)):=by
 obtain⟨_,v,ro,af,aF,_⟩:=d;refine⟨v,af,?_⟩;rcases uC aF with ⟨rfl,rfl,_⟩|⟨r,cap,_,rfl,_⟩<;>rfl
def u0.app{g:H}{v:ao}(d:u0 h g ds dp)(af:g[ag h]?=J (aO #[v,ah dp] 253)) (au:U ds<=1000) (q:∀g',u0 h g' (ds++[c]) dp->K undef g'):
  ew 5 1 (Z 5) [(0,1,bu (c:Int))] g λj3 aa=>Ap 5 1 1 (Z 5) v j3 aa λld aa=>bZ 1 (bU (J ⟨ag h,0,ab⟩)) ld aa λx aa=>K x aa:=by
 obtain⟨e,ch,ro,dN,aF,a'⟩:=d;rw[af] at dN;cases dN;refine QH aF I λv2 bd e7 aw e4 q0 _=>?_;have cF:bd[ag h]?=J (aO #[v,ah dp] 253):=by
  rw[aw.2 _ (cm.1 af).1 (λx=>al)];exact af
 have oX:cellsL v2=[v2]/\one v2=ai:=by
  cases e7 with
  |none=>obtain⟨rfl,_⟩:=e4;exact⟨rfl,rfl⟩
  |some r=>obtain⟨_,_,_,_,rfl,_⟩:=e4;exact⟨rfl,rfl⟩
 have qZ:∀r,e7=J r->ag h<r:=λr aF=>by
  grind
 refine fx cF a1 oX.1 oX.2 λcb dd dr=>?_;have u':aB h bd:=bV.fe e aw λr aF=>KE (a' r aF);refine q cb ⟨bV.fe u' dd λr aF=>al,v2,e7,dr,e4.at λr aF=>?_,qZ⟩;subst aF;exact dd.2 r (yi e4) (λx=>al)
def u0.aU{g:H}(d:u0 h g ds dp)(q:∀g',u0 h g' ds lT->K undef g'):bZ 1 (bU (J ⟨ag h,1,ab⟩)) (ah lT) g K:=by
 obtain⟨e,v,ro,af,aF,a'⟩:=d;refine fx af a1 rfl rfl λcb dd dr=>?_;refine q cb ⟨bV.fe e dd λr aF=>al,v,ro,dr,aF.at λr e4=>?_,a'⟩;subst e4;exact dd.2 r (yi aF) (λx=>al)
structure vO(ds ms:List Nat):Prop where
 n7:sf ds
 lt:∀d,d∈ds->d<10
 val:b' ds=b' ms
 len:U ds<=U ms
def vO.app(r:vO ds ms)(aG:d<10)(h:ds≠[]\/d≠0):vO (ds++[d]) (ms++[d]):=by
 refine⟨λ_=>?_,λx ae=>?_,by rw[Az,Az,r.val],by simp;exact r.len⟩
 .by_cases he:ds=[]
  .grind
  .rw[iw,pV (lJ.2 he),<-iw];exact r.n7 he
 .rcases zX.1 ae with ae|ae
  .exact r.lt x ae
  grind
def vO.zero(r:vO [] ms):vO [] (ms++[0]):=⟨r.n7,r.lt,by rw[Az,<-r.val];simp[b'],a1⟩
end
section
variable{h:H}{R K:K}{p n c k P Q L f:Nat}{v u:ao}{ds ms:List Nat}{dp E:Int}{ro:Option Nat}{l r:B}
def afo:∀(l:B) (e:Nat),(∀x,x∈l->k4 x=ai)->e<100000->rE l e<100000
 |[],e,_,h=>h
 |c::l,e,aG,h=>by
  rw[rE];have:=KH (aG c (uO ..));refine afo l _ (λx ae=>aG x (xf _ ae)) ?_;grind
def aiD(au:U l<=400)(hg:∀k,k<U l->g l k≠95)(ae:2<=U l->g l 0=48->g l 1|||32≠120)(cM:rM l [] 0 av=(ms,f,r))(Ix:ms≠[])(aF:La r E)
  (q:∀g ds ro,aB h g->vO ds ms->U ds<=400->f<=400->uS g (ag h) (nN ds) (if nN ds=[] then 0 else(U ds:Int)-f+E) ro->R (bA #[aN (ag h),aQ ai]) g):bo 165 [S l] h R:=by
 apply ali;rw[gE,YC];have e_:u0 h (a6 h (aO (aZ [a5 ab 0 0,ah 0]) 253)) [] 0:=⟨aB.push _ _,a5 ab 0 0,ab,mK,⟨rfl,rfl⟩,a1⟩;generalize a6 h (aO (aZ [a5 ab 0 0,ah 0]) 253)=cn at e_;refine asN au ae ?_;refine Eo ?_;refine aR ?_;refine ank (λv1 v2 dD v4 qf=>∃(i:Nat) (ds:List Nat),v1=a4 0/\v2=aQ ai/\dD=ah 0/\v4=ah i/\i<=U l/\ax i l=r/\vO ds ms/\u0 h qf ds ((U ds:Int)-f)/\U ms<=400/\f<=400) (λM2 n0=>?_) ?_
 .refine anu (λm v1 v2 dD v4 fI qf=>∃(i:Nat) (o1:List Nat) (bm:Nat) (dot:Bool) (ds:List Nat),v1=a4 0/\v2=aQ (decide (o1≠[]))/\dD=aQ dot/\v4=ah 0/\fI=ah i/\i<=U l/\rM (ax i l) o1 bm dot=rM l [] 0 av/\vO ds o1/\u0 h qf ds ((U ds:Int)-bm)/\U o1<=i/\bm<=i/\m=U l-i) (U l) ⟨0,[],0,av,[],rfl,rfl,rfl,rfl,rfl,ed _,rfl,⟨λa=>absurd rfl a,a1,rfl,bQ _⟩,e_,bQ _,bQ _,rfl⟩ ?_;rintro m d v1 v2 dD v4 fI qf N ⟨i,o1,bm,dot,ds,rfl,rfl,rfl,rfl,rfl,az,a3,aL,aG,hm,bj,rfl⟩ a7;have stop:rM (ax i l) o1 bm dot=(o1,bm,ax i l)->M2 (a4 0) (aQ (decide (o1≠[]))) (ah 0) (ah i) qf:=λe=>by
   grind
  by_cases a':i<U l
  .have Da:=ayU (ms:=o1) (f:=bm) (dot:=dot) a';have s7:=dZ l i;have aDU:=hg i a';by_cases c1:g l i=46/\dot=av
   .obtain⟨c1,rfl⟩:=c1;rw[aA ⟨c1,rfl⟩] at Da;refine aR ?_;refine Aa (Aa ?_);refine aR ?_;refine Eo ?_;refine aR ?_;exact a7 _ _ _ _ _ _ _ I ⟨i+1,o1,bm,ai,ds,rfl,rfl,rfl,rfl,rfl,a',al,aL,aG,I,I,rfl⟩
   .rw[ak c1] at Da;have aDb:g l i=46->dot=ai:=λa=>by
     grind
    by_cases c2:48<=g l i/\g l i<=57
    .rw[aA c2] at Da;obtain⟨v,af,mC⟩:=aG.fb;have next:∀pz bd,vO pz (o1++[g l i-48])->u0 h bd pz ((U pz:Int)-(if dot=ai then bm+1 else bm:Nat))->N (a4 0) (aQ ai) (aQ dot) (ah 0) (ah (i+1:Nat)) bd:=λpz bd dd dr=>
      a7 _ _ _ _ _ _ _ I ⟨i+1,o1++[g l i-48],_,dot,pz,rfl,m8,rfl,rfl,rfl,a',al,dd,dr,by simp;omega,al,rfl⟩
     have fF:=aL.len;have f1:bn .add (ah ((U ds:Int)-bm)) (ah 1)=J (ah ((U ds:Int)-bm+1)):=yQ I I;have f2:bn .sub (ah ((U ds:Int)-bm)) (ah 1)=J (ah ((U ds:Int)-bm-1)):=DM I I;have f3:0<U ds↔ds≠[]:=lJ;clear a7 n0 stop a3 cM q;have abE:(ds≠[]\/g l i-48≠0)->ew 5 1 (Z 5) [(0,1,bu (g l i-48:Nat))] qf λj3 aa=>Ap 5 1 1 (Z 5) v j3 aa λld aa=>bZ 1 (bU (J ⟨ag h,0,ab⟩)) ld aa λx aa=>Pu (un .not (aQ dot)) aa λr5 aa=>
       b1 r5 (Pu (fd 1 (aN (ag h))) aa λuH aa=>cd uH aa λqz aa=>Pu (bn .add qz (ah 1)) aa λmj aa=>Pu (fd 1 (aN (ag h))) aa λni aa=>bZ 1 ni mj aa λ_ aa=>N (a4 0) (aQ ai) (aQ dot) (ah 0) (ah (i+1:Nat)) aa)<|
       N (a4 0) (aQ ai) (aQ dot) (ah 0) (ah (i+1:Nat)) aa:=λay=>by
      refine aG.app af I λg' nA=>?_;have uw:=aL.app (d:=g l i-48) I ay;obtain⟨ch,dN,_⟩:=nA.fb;cases dot with
      |false=>
       refine dG (c4 dN) f1 ?_;refine nA.aU λbd h9=>next _ bd uw ?_
       grind
      |true=>
       refine aR ?_;refine next _ g' uw ?_
       grind
     have aFr:ds=[]->g l i-48=0->dot=ai->bZ 1 (bU (J ⟨ag h,1,ab⟩)) (ah ((U ds:Int)-bm-1)) qf λx h=>N (a4 0) (aQ ai) (aQ dot) (ah 0) (ah (i+1:Nat)) h:=λhe aW Sx=>by
      subst he;have uw:=aL.zero;rw[<-aW] at uw;refine aG.aU λbd h9=>next _ bd uw ?_
      grind
     have aFp:ds=[]->g l i-48=0->dot=av->N (a4 0) (aQ ai) (aQ dot) (ah 0) (ah (i+1:Nat)) qf:=λhe aW Sx=>by
      subst he;have uw:=aL.zero;rw[<-aW] at uw;refine next _ qf uw ?_
      grind
     clear next
     refine aR ?_;refine Aa (Aa ?_);refine aR ?_;refine Eo ?_;refine aR ?_;refine Eo ?_;refine dG (c4 af) mC ?_;refine⟨λaJ=>abE (bF (f3.1 aJ)),λaJ=>⟨λbk=>abE (bt I),λbk=>?_⟩⟩;have he:ds=[]:=vF I;cases dot with
     |true=>
      refine dG (c4 af) f2 ?_;grind
     |false=>
      refine aR ?_;grind
    .rw[ak c2] at Da;have:=stop Da;clear a7 n0 stop a3 cM q;refine aR ?_;refine Aa (Aa ?_);refine aR ?_;refine Eo ?_;cases dot with
     |true=>
      refine aR ?_;grind
     |false=>
      refine aR ?_;grind
  .have:=stop (by rw[iu I,rM]);refine aR ?_;exact this
 .rintro v1 v2 dD v4 qf ⟨i,ds,rfl,rfl,rfl,rfl,az,sC,aL,aG,A6,bj⟩;obtain⟨v,af,mC⟩:=aG.fb;refine aR ?_;refine rv (λa b g'=>a=ah E/\b=ah (U l)/\g'=qf/\-100000<=E/\E<=100000) (λM n0=>?_) ?_
  .clear q cM;rcases aF with ⟨pE,rfl⟩|⟨c,es,gX,lB,ay,xR,abY,Sw,jR⟩
   .have nD:i=U l:=by have:=mQ List.length (sC.trans pE);grind
    subst nD;refine aR ?_;grind
   have hlen:=mQ List.length (sC.trans lB);have aEg:=lJ.2 abY;simp only[ix,nS,r8] at hlen;have aa:g l i=c.toNat:=by rw[<-eF,sC,lB];rfl
   have MX:g l i|||32=101:=al
   have ad:ax (i+1) l=es++gX:=by rw[<-tail_drop,sC,lB];rfl
   have an:ax (i+1+U es) l=gX:=by rw[<-tI,ad,ahu]
   have mA:∀k,i+1+U es<=k->k<U l->48<=g l k/\g l k<=57:=λk a bH=>by
    have aw:g gX (k-(i+1+U es))=g l k:=by rw[<-an,ud];grind
    have aq:k-(i+1+U es)<U gX:=I
    rw[<-aw,fu aq];exact KH (Sw _ (zW aq))
   have tf:=mA (i+1+U es) (bQ _) I;have hN:=afo gX 0 Sw aE;clear sC lB aa ay abY Sw aL aG af mC hg ae;have aDA:=dZ l (i+1);have aDB:=dZ l (i+1+1);rcases xR with rfl|rfl|rfl;·
    rw[ak aE] at jR;subst jR;simp only[tK,nm] at an mA tf hlen;refine aR ?_;refine KP (dZ _ _) ?_;refine bG MX ?_;refine lO ?_;refine aR ?_;refine jn (λm a b g'=>∃(k e:Nat),a=ah k/\b=ah e/\(i+1)<=k/\k<=U l/\rE (ax k l) e=rE gX 0/\e<100000/\g'=qf/\m=U l-k) _ ⟨(i+1),0,rfl,rfl,bQ _,I,by rw[an],aE,rfl,rfl⟩ ?_;rintro m d a b g' N ⟨k,e,rfl,rfl,jb,ik,lB,abX,rfl,rfl⟩ a7;have Rw:=dZ l k;by_cases aq:k<U l
    .have Fk:=mA k jb aq;rw[nt aq,rE,<-fu aq] at lB;clear mA n0;refine bG @Bm ?_;refine⟨λaT=>?_,λaT=>?_⟩
     .rw[aA aT] at lB;exact a7 _ _ _ _ I ⟨k+1,_,rfl,rfl,I,I,lB,I,rfl,rfl⟩
     .rw[ak aT] at lB;exact a7 _ _ _ _ I ⟨k+1,_,rfl,rfl,I,I,lB,I,rfl,rfl⟩
    .rw[iu I,rE] at lB;subst lB;have lA:k=U l:=I
     subst lA;have f1:un .neg (ah (rE gX 0:Int))=J (ah (-(rE gX 0:Int))):=by
      simp only[un];congr 2;simp only[jv];omega
     have f2:bn .add (ah 0) (ah (-(rE gX 0:Int)))=J (ah (-(rE gX 0:Int))):=by
      rw[yQ I I,OZ]
     have f3:bn .add (ah 0) (ah (rE gX 0:Int))=J (ah (rE gX 0:Int)):=by
      rw[yQ I I,OZ]
     refine hk f1 f2 f3 ?_;grind
   ·
    rw[ak aE] at jR;subst jR;have uh:g l (i+1)=43:=by rw[<-eF,ad];rfl
    simp only[nS,tK,tM] at an mA tf hlen;refine aR ?_;refine KP (dZ _ _) ?_;refine bG MX ?_;refine lO ?_;refine aR ?_;refine jn (λm a b g'=>∃(k e:Nat),a=ah k/\b=ah e/\(i+1+1)<=k/\k<=U l/\rE (ax k l) e=rE gX 0/\e<100000/\g'=qf/\m=U l-k) _ ⟨(i+1+1),0,rfl,rfl,bQ _,I,by rw[an],aE,rfl,rfl⟩ ?_;rintro m d a b g' N ⟨k,e,rfl,rfl,jb,ik,lB,abX,rfl,rfl⟩ a7;have Rw:=dZ l k;by_cases aq:k<U l
    .have Fk:=mA k jb aq;rw[nt aq,rE,<-fu aq] at lB;clear mA n0;refine bG @Bm ?_;refine⟨λaT=>?_,λaT=>?_⟩
     .rw[aA aT] at lB;exact a7 _ _ _ _ I ⟨k+1,_,rfl,rfl,I,I,lB,I,rfl,rfl⟩
     .rw[ak aT] at lB;exact a7 _ _ _ _ I ⟨k+1,_,rfl,rfl,I,I,lB,I,rfl,rfl⟩
    .rw[iu I,rE] at lB;subst lB;have lA:k=U l:=I
     subst lA;have f1:un .neg (ah (rE gX 0:Int))=J (ah (-(rE gX 0:Int))):=by
      simp only[un];congr 2;simp only[jv];omega
     have f2:bn .add (ah 0) (ah (-(rE gX 0:Int)))=J (ah (-(rE gX 0:Int))):=by
      rw[yQ I I,OZ]
     have f3:bn .add (ah 0) (ah (rE gX 0:Int))=J (ah (rE gX 0:Int)):=by
      rw[yQ I I,OZ]
     refine hk f1 f2 f3 ?_;grind
   ·
    rw[aA rfl] at jR;subst jR;have l8:g l (i+1)=45:=by rw[<-eF,ad];rfl
    simp only[nS,tK,tM] at an mA tf hlen;refine aR ?_;refine KP (dZ _ _) ?_;refine bG MX ?_;refine lO ?_;refine aR ?_;refine jn (λm a b g'=>∃(k e:Nat),a=ah k/\b=ah e/\(i+1+1)<=k/\k<=U l/\rE (ax k l) e=rE gX 0/\e<100000/\g'=qf/\m=U l-k) _ ⟨(i+1+1),0,rfl,rfl,bQ _,I,by rw[an],aE,rfl,rfl⟩ ?_;rintro m d a b g' N ⟨k,e,rfl,rfl,jb,ik,lB,abX,rfl,rfl⟩ a7;have Rw:=dZ l k;by_cases aq:k<U l
    .have Fk:=mA k jb aq;rw[nt aq,rE,<-fu aq] at lB;clear mA n0;refine bG @Bm ?_;refine⟨λaT=>?_,λaT=>?_⟩
     .rw[aA aT] at lB;exact a7 _ _ _ _ I ⟨k+1,_,rfl,rfl,I,I,lB,I,rfl,rfl⟩
     .rw[ak aT] at lB;exact a7 _ _ _ _ I ⟨k+1,_,rfl,rfl,I,I,lB,I,rfl,rfl⟩
    .rw[iu I,rE] at lB;subst lB;have lA:k=U l:=I
     subst lA;have f1:un .neg (ah (rE gX 0:Int))=J (ah (-(rE gX 0:Int))):=by
      simp only[un];congr 2;simp only[jv];omega
     have f2:bn .add (ah 0) (ah (-(rE gX 0:Int)))=J (ah (-(rE gX 0:Int))):=by
      rw[yQ I I,OZ]
     have f3:bn .add (ah 0) (ah (rE gX 0:Int))=J (ah (rE gX 0:Int)):=by
      rw[yQ I I,OZ]
     refine hk f1 f2 f3 ?_;grind
  .rintro a b g' ⟨rfl,rfl,rfl,Mw,aDW⟩;have fF:=aL.len;have f1:bn .add (ah ((U ds:Int)-f)) (ah E)=J (ah ((U ds:Int)-f+E)):=by
    simp only[bn,ei];congr 2;simp only[jv];omega
   refine dG (c4 af) f1 ?_;refine aG.aU λbd h9=>?_;obtain⟨u',v2,e7,cF,e4,qZ⟩:=h9;refine Pm I ⟨⟨v2,cF,e4⟩,λe=>al,aL.lt⟩ λcb aS Ig=>?_;exact q cb ds e7 (bV.fe u' aS λr aF=>al) aL I bj Ig
end
def FS(l:B)(neg:Bool)(ms:List Nat)(f:Nat)(E:Int):Prop:=∃t r,((l=t/\neg=av)\/(l=43::t/\neg=av)\/(l=45::t/\neg=ai))/\0<U t/\48<=g t 0/\g t 0<=57/\rM t [] 0 av=(ms,f,r)/\ms≠[]/\La r E/\(∀k,k<U t->g t k≠95)/\(2<=U t->g t 0=48->g t 1|||32≠120)
def lE(n:Nat)(e:Int):Nat:=n*10^e.toNat
def jZ(e:Int):Nat:=10^(-e).toNat
def wY(e:Int):0<jZ e:=ob aE
def UP(h:b<2^63):9223372036854775808|||b=Op.negFloat .f64 b:=by
 show 2^63|||b=b^^^2^63
 apply Nat.eq_of_testBit_eq;intro i;rw[Nat.testBit_or,Nat.testBit_xor,Nat.testBit_two_pow];grind
def TE{P Q w:Nat}(eR:0<Q)(h:mG P Q w):w<2^63:=by
 obtain⟨s,t,aa,ad,an,aT,rfl⟩:=h;have:=Jw (iI eR (pX t)) ad;omega
section
variable{h:H}{R K:K}{p n c k L f:Nat}{v u:ao}{ds ms:List Nat}{dp E:Int}{ro:Option Nat}{l r:B}{neg:Bool}
def apt(aL:vO ds ms):b' ms=0↔ds=[]:=by
 constructor
 .intro h;apply Kw;intro bk;have aa:=(LN bk aL.lt).1;have ad:=iI (xi (aL.n7 bk)) (ob (n:=U ds-1) (aE:0<10));have:=aL.val;omega
 .rintro rfl;rw[<-aL.val];rfl
set_option exponentiation.threshold 2000 in
def ait(au:U l<=400)(aL:FS l neg ms f E)(bq:∀x h',aB h h'->(b' ms=0->x=pJ neg 0)->(∀w,mG (lE (b' ms) (E-f)) (jZ (E-f)) w->lE (b' ms) (E-f)<jZ (E-f)*2^1000->x=pJ neg w)->R (bA #[cU .f64 x,cR]) h')
  (bw:∀x e h',aB h h'->b' ms≠0->(∀w,mG (lE (b' ms) (E-f)) (jZ (E-f)) w->lE (b' ms) (E-f)<jZ (E-f)*2^1000->False)->R (bA #[cU .f64 x,cW 257 e]) h'):bo 136 [S l,ah 64] h R:=by
 apply akO;obtain⟨t,r,a',nI,vh,h9,cM,Ix,aF,hg,ae⟩:=aL;have tn:U t<=400:=by
  grind
 have aaz:g (43::t) 0=43:=rfl;have aDr:g (45::t) 0=45:=rfl;have h_:0<U l/\g l 0<65:=by
  grind
 have awy:∀k,k<U l->g l k≠95:=λk aq=>by
  rcases a' with ⟨rfl,_⟩|⟨rfl,_⟩|⟨rfl,_⟩
  .grind
  .cases k with
   |zero=>omega
   |succ k=>exact hg k al
  .cases k with
   |zero=>omega
   |succ k=>exact hg k al
 refine Pj (w:=[110,97,110]) au aE aE h_.2 (by show g l 0≠110;omega) ?_;refine aR ?_;refine rv (λa b g'=>a=S t/\b=aQ neg/\g'=h) (λM n0=>?_) ?_
 .have Ko:ixs (S l) (ah 0)=J (bu (g l 0:Int)):=m3 (i:=0) h_.1;have DJ:sls (S l) (J (ah 1)) ab=J (S (ax 1 l)):=zL (i:=1) h_.1;have bk:¬l=[]:=λe=>al
  rcases a' with ⟨rfl,rfl⟩|⟨rfl,rfl⟩|⟨rfl,rfl⟩
  .refine hk Ko DJ bk ?_;grind
  .have uh:g (43::t) 0=43:=rfl;rw[uh] at Ko;refine hk Ko DJ bk ?_;grind
  .have l8:g (45::t) 0=45:=rfl;rw[l8] at Ko;refine hk Ko DJ bk ?_;grind
 rintro a b g' ⟨rfl,rfl,rfl⟩;refine aiC λaa aw=>?_;rw[gE,h7 (n:=3) (by rw[PZ];rfl) rfl rfl];have ar:=aB.push aa (aO (aZ rC) 238);have Ik:(a6 aa (aO (aZ rC) 238))[ag aa]?=J (aO #[ah 52,ah 11,ah (-1023)] 238):=mK;generalize a6 aa (aO (aZ rC) 238)=ad at*;generalize ag aa=iF at*;have u':=aw.trans ar;refine ll (λa bd=>a=a4 (if neg=ai then 9223372036854775808 else 0:Nat)/\bd=ad) (λM n0=>?_) ?_
 .cases neg with
  |true=>
   have c1:bn .add (ah 52) (ah 11)=J (ah 63):=rfl;have c2:bn .shl (a4 1) (ah 63)=J (a4 (9223372036854775808:Nat)):=rfl;refine hk (c4 Ik) c1 c2 ?_;grind
  |false=>
   refine aR ?_;grind
 rintro a bd ⟨rfl,rfl⟩;refine Pj (w:=[105,110,102]) tn aE aE I (by show g t 0≠105;omega) ?_;refine aR ?_;refine Pj (w:=[105,110,102,105,110,105,116,121]) tn aE aE I (by show g t 0≠105;omega) ?_;refine aR ?_;refine aiD tn hg ae cM Ix aF λcb ds ro aS uw gn xS abQ=>?_;have yZ:=u'.trans aS;have MR:cb[iF]?=J (aO #[ah 52,ah 11,ah (-1023)] 238):=by rw[aS.2 _ (cm.1 Ik).1];exact Ik
 refine aR ?_;refine aiE au awy ?_;have aEk:(aZ rC:Array ao)=#[ah 52,ah 11,ah (-1023)]:=rfl;have NG:∀g,aB cb g->∀k,cO 3 (aN iF) g k=k (cA (aZ rC)) g:=λg e k=>mS (n:=2) (c:=aZ rC) (by rw[e.2 _ (cm.1 MR).1];exact MR) rfl;refine bG (NG cb (aB.refl _)) ?_;have ux:(if neg=ai then 9223372036854775808 else 0:Nat)<18446744073709551616:=al
 have fin:∀(b:Nat) eZ,aB cb eZ->b<18446744073709551616->(b' ms=0->b=0)->(∀w,mG (lE (b' ms) (E-f)) (jZ (E-f)) w->lE (b' ms) (E-f)<jZ (E-f)*2^1000->b=w)->
   cO 3 (aN iF) eZ λjk h=>Pu (bn .or (a4 (if neg=ai then 9223372036854775808 else 0:Nat)) (a4 b)) h λkm h=>bD 164 [jk,km] h λpa h=>R (bA #[pa,cR]) h:=λb eZ bl af aW hw=>by
  rw[NG eZ bl,jY ux af,bs];refine Pl λfW dt=>?_;have m_:∀w,w<2^63->b=w->(if neg=ai then 9223372036854775808 else 0)|||b=pJ neg w:=λw hw e=>by
   subst e;cases neg with
   |true=>rw[aA rfl,UP hw];rfl
   |false=>rw[ak aE,Nat.zero_or];rfl
  exact bq _ _ ((yZ.trans bl).trans dt) (λaV=>m_ 0 aE (aW aV)) λw aa ad=>m_ w (TE (wY _) aa) (hw w aa ad)
 by_cases aV:b' ms=0
 .have abV:=(apt uw).1 aV;subst abV;refine aiH abQ λeZ bl=>?_;have:=fin 0 eZ bl aE (λ_=>rfl) λw aa _=>by
   obtain⟨s,t,cZ,cj,_⟩:=aa;simp only[lE,aV,pY] at cZ;omega
  refine aR ?_;exact this
 .have bk:nN ds≠[]:=λe=>by
   have cI:iy ds ((U ds:Int)-f+E) (lE (b' ms) (E-f)) (jZ (E-f)):=⟨(E-f).toNat,(-(E-f)).toNat,I,by rw[uw.val];rfl⟩;have:=(VL cI).ne (iI (xi aV) (ob aE));exact this e
  have cI:iy ds ((U ds:Int)-f+E) (lE (b' ms) (E-f)) (jZ (E-f)):=⟨(E-f).toNat,(-(E-f)).toNat,I,by rw[uw.val];rfl⟩;have jq:l5 cb (ag bd) (nN ds) (if nN ds=[] then 0 else(U ds:Int)-f+E) (lE (b' ms) (E-f)) (jZ (E-f)) 400:=⟨⟨ro,abQ⟩,VL cI,agQ _,agP uw.n7,bk,by rw[Gj];exact dH (Gh _ _) gn,wY _⟩;refine aiG jq aE λeZ b over bl af hw=>?_;have QU:aB bd eZ:=bV.fe aS bl λr aF=>al
  have EZ:eZ[iF]?=J (aO #[ah 52,ah 11,ah (-1023)] 238):=by rw[QU.2 _ (cm.1 Ik).1];exact Ik
  have NH:∀k,cO 3 (aN iF) eZ k=k (cA (aZ rC)) eZ:=λk=>mS (n:=2) (c:=aZ rC) EZ rfl;have zm:=jY ux af;cases over with
  |false=>
   have m_:∀w,w<2^63->b=w->(if neg=ai then 9223372036854775808 else 0)|||b=pJ neg w:=λw hw e=>by
    subst e;cases neg with
    |true=>rw[aA rfl,UP hw];rfl
    |false=>rw[ak aE,Nat.zero_or];rfl
   refine dG NH zm ?_;refine Pl λfW dt=>?_;exact bq _ _ ((u'.trans QU).trans dt) (λgp=>absurd gp aV) λw aa ad=>m_ w (TE (wY _) aa) (hw w aa ad).1
  |true=>
   refine dG NH zm ?_;refine Pl λfW dt=>?_;refine aiF rfl rfl λe lV e6=>?_;exact bw _ _ _ (((u'.trans QU).trans dt).trans e6) aV λw aa ad=>absurd (hw w aa ad).2 aE
end
def iV(h:p<j)(aC:j<=U D):aU D p j=D[p]::aU D (p+1) j:=by
 unfold aU;rw[tJ (by simp;omega),aBO]
def m7(h:j<=p):aU D p j=[]:=by
 unfold aU;exact iu (by simp;omega)
def adl(h:p<U D):k4 D[p]=decide (48<=g D p/\g D p<=57):=by rw[fu h];rfl
def apX(aC:j<=U D):∀{m p n c cf:Nat} {dot la:Bool} {ms:List Nat} {hG di L2:Nat} {Vo:Bool},j-p<=m->p<=j->n=b' ms->oj D j p n c cf dot la=J (hG,di,L2,Vo)->
  ∃o1,rM (aU D p j) ms cf dot=(o1,L2,aU D hG j)/\di=b' o1/\p<=hG/\hG<=j/\∀k,p<=k->k<hG->g D k≠95:=by
 intro m;induction m with
 |zero=>
  intro p n c cf dot la ms hG di L2 Vo hm aJ aI h;rw[Q7 (λa=>I)] at h;simp only[dg,hI] at h;obtain⟨rfl,rfl,rfl,rfl⟩:=h;exact⟨ms,by rw[m7 I,rM],aI,bQ _,aJ,λk a b=>I⟩
 |succ m bR=>
  intro p n c cf dot la ms hG di L2 Vo hm aJ aI h;by_cases a':p<j
  .have ay:=iV a' aC;have aX:=fu (D:=D) (i:=p) I;by_cases c1:48<=g D p/\g D p<=57
   .by_cases c2:c<19
    .rw[aae a' c1 c2] at h;obtain⟨o1,b_,cp,fB,hx,r6⟩:=bR (ms:=ms++[g D p-48]) I I (by rw[Az,aI]) h;refine⟨o1,?_,cp,I,hx,λk a b=>?_⟩
     .rw[ay,rM,ak I,aA (by rw[adl I];grind),<-aX];exact b_
     grind
    .rw[aab a' c1 I] at h;cases h
   .by_cases c2:g D p=46
    .cases dot with
     |true=>rw[aad a' c2] at h;cases h
     |false=>
      rw[aac a' c2] at h;obtain⟨o1,b_,cp,fB,hx,r6⟩:=bR (ms:=ms) I I aI h;refine⟨o1,?_,cp,I,hx,λk a b=>?_⟩
      .rw[ay,rM,aA al];exact b_
      grind
    .rw[Q7 (λ_=>⟨c1,c2⟩)] at h;simp only[dg,hI] at h;obtain⟨rfl,rfl,rfl,rfl⟩:=h;refine⟨ms,?_,aI,bQ _,aJ,λk a b=>I⟩;rw[ay,rM,ak I,ak (by rw[adl I,ig c1];decide)]
  grind
def aaa(aC:j<=U D):∀{m p ev v:Nat},j-p<=m->ev<=1000->qN D j p ev=J v->rE (aU D p j) ev=v/\∀k,p<=k->k<j->g D k≠95:=by
 intro m;induction m with
 |zero=>
  intro p ev v hm he h;rw[qN,e8 I] at h;simp only[dg] at h;subst h;exact⟨by rw[m7 I,rE],λk a b=>I⟩
 |succ m bR=>
  intro p ev v hm he h;by_cases a':p<j
  .rw[qN,gw a'] at h;split at h
   .cases h
   .rename_i c1;split at h
    .cases h
    .rename_i c2;obtain⟨b_,cp⟩:=bR I I h;refine⟨?_,λk a b=>?_⟩
     .rw[iV a' aC,rE,<-fu (D:=D) (i:=p) I,aA I];exact b_
     grind
  grind
def du(l:B):B:=l.filter λc=>decide (c.toNat≠95)
def aeM(h:∀k,k<U l->g l k≠95):du l=l:=by
 unfold du;rw[List.filter_eq_self];intro a bE;obtain⟨k,aq,rfl⟩:=aBN bE;have:=h k aq;rw[fu aq] at this;grind
def Yi(h:La r E)(aF:r=c::(es++gX))(xR:(es=[]/\top gX≠43/\top gX≠45)\/es=[43]\/es=[45]):E=if es=[45] then-(rE gX 0:Int) else(rE gX 0:Int):=by
 rcases h with ⟨aW,_⟩|⟨b6,qM,QZ,aa,ay,asR,aEf,nA,rfl⟩
 .grind
 .rw[aF] at aa;simp only[Wn] at aa;obtain⟨_,ad⟩:=aa;have apf:∀x l,QZ=x::l->k4 x=ai:=λx l e=>nA x al;have az7:∀{x:UInt8},k4 x=ai->x≠43/\x≠45:=λ{x} h=>by
   have:=KH h;constructor<;>(rintro rfl;grind)
  obtain⟨x,l,ae⟩:∃x l,QZ=x::l:=by
   cases QZ with
   |nil=>grind
   |cons x l=>grind
  have aEe:=az7 (apf x l ae);rcases xR with ⟨rfl,fj,h2⟩|rfl|rfl<;>rcases asR with rfl|rfl|rfl
  .grind
  .simp only[sS] at ad;rw[ad] at fj;exact absurd rfl fj
  .simp only[sS] at ad;rw[ad] at h2;exact absurd rfl h2
  .grind
  .grind
  .simp at ad
  .grind
  .simp at ad
  grind
def BI(h:p<j)(aC:j<=U D):top (aU D p j)=g D p:=by
 rw[iV h aC,fu I];rfl
def aqC(aC:j<=U D)(aL:FS (du (aU D i j)) neg ms f E)(aX:gfast D i j=J (aeD,n,e)):aeD=neg/\n=b' ms/\e=E-f/\n<=2^53/\-22<=e/\e<=22:=by
 unfold gfast at aX;have eK:i<=j:=by
  apply Kw;intro c;obtain⟨t,r,a',nI,_⟩:=aL;rw[m7 I] at a';rcases a' with ⟨h,_⟩|⟨h,_⟩|⟨h,_⟩
  .rw[<-h] at nI;exact absurd nI aE
  .cases h
  .cases h
 generalize FK:(if i<j/\(g D i=43\/g D i=45) then i+1 else i)=s at aX;have Nh:s<=j/\i<=s:=al
 cases cM:oj D j s 0 0 0 av av with
 |none=>grind
 |some x=>
  obtain⟨p,fj,cf,la⟩:=x;rw[cM] at aX;simp only at aX;split at aX
  .cases aX
  .cases fP:y1 D j p cf with
   |none=>grind
   |some y=>
    obtain⟨aw,hG⟩:=y;rw[fP] at aX;simp only at aX;split at aX
    .cases aX
    .rename_i IC;split at aX
     .cases aX
     .rename_i ui;split at aX
      .rename_i Mq;simp only[dg,hI] at aX;obtain⟨rfl,rfl,rfl⟩:=aX;have IC:hG=j:=BU IC;subst IC;obtain⟨o1,cc,cK,df,gB,hj⟩:=apX aC (m:=hG-s) (ms:=[]) (bQ _) Nh.1 rfl cM;have acC:(aU D p hG=[]/\aw= -(cf:Int))\/∃c es gX,aU D p hG=c::(es++gX)/\((es=[]/\top gX≠43/\top gX≠45)\/es=[43]\/es=[45])/\aw= -(cf:Int)+(if es=[45] then-(rE gX 0:Int) else(rE gX 0:Int))/\∀k,p<=k->k<hG->g D k≠95:=by
        unfold y1 at fP;split at fP
        .rename_i ay;right
         split at fP
         .rename_i ux;split at fP
          .cases fP
          .rename_i au;obtain⟨ev,uo,bO⟩:=yz.1 fP;simp only[hI] at bO;obtain⟨rfl,_⟩:=bO;cases vj:qN D hG (p+2) 0 with
           |none=>rw[vj] at uo;cases uo
           |some v0=>
           rw[vj] at uo;have uo:(v0:Int)=ev:=en uo;subst uo;obtain⟨dd,dr⟩:=aaa aC (m:=hG-(p+2)) (bQ _) aE vj;have fC:=iV (D:=D) ay.1 aC;have j6:=iV (D:=D) ux.1 aC;have tf:=fu (D:=D) (i:=p+1) I;have all:∀k,p<=k->k<hG->g D k≠95:=λk a b=>by
            grind
           rcases ux.2 with a|a
           .have af:D[p+1]=43:=by rw[tf] at a;exact oF.1 a
            refine⟨D[p],[43],aU D (p+2) hG,al,bt (bF rfl),?_,all⟩;grind
           .have af:D[p+1]=45:=by rw[tf] at a;exact oF.1 a
            refine⟨D[p],[45],aU D (p+2) hG,al,bt (bt rfl),?_,all⟩;grind
         .rename_i ux;split at fP
          .cases fP
          .rename_i au;obtain⟨ev,uo,bO⟩:=yz.1 fP;simp only[hI] at bO;obtain⟨rfl,_⟩:=bO;cases vj:qN D hG (p+1) 0 with
           |none=>grind
           |some v0=>
           rw[vj] at uo;have uo:(v0:Int)=ev:=en uo;subst uo;obtain⟨dd,dr⟩:=aaa aC (m:=hG-(p+1)) (bQ _) aE vj;have fC:=iV (D:=D) ay.1 aC;refine⟨D[p],[],aU D (p+1) hG,by rw[fC];rfl,bF ⟨rfl,?_⟩,?_,λk a b=>?_⟩
           .rw[BI I aC];omega
           .grind
           grind
        .rename_i ay;simp only[dg,hI] at fP;obtain⟨rfl,rfl⟩:=fP;exact bF ⟨m7 (bQ _),rfl⟩
       have all:∀k,s<=k->k<hG->g D k≠95:=λk a b=>by
        by_cases cZ:k<p
        .grind
        .rcases acC with ⟨aW,_⟩|⟨_,_,_,_,_,_,aT⟩
         .have:=mQ List.length aW;rw[hi aC] at this;grind
         grind
       have aoj:du (aU D i hG)=aU D i hG:=aeM λk aq=>by
        rw[hi aC] at aq;rw[gY I aC];grind
       rw[aoj] at aL;obtain⟨t,r,a',nI,vh,h9,R8,Ix,aF,hg,ae⟩:=aL;have acZ:t=aU D s hG/\neg=decide (i<hG/\g D i=45):=by
        by_cases qZ:i<hG
        .have fC:=iV (D:=D) qZ aC;have aEr:=fu (D:=D) (i:=i) I;rcases a' with ⟨aa,rfl⟩|⟨aa,rfl⟩|⟨aa,rfl⟩
         .have cn:g t 0=g D i:=by rw[<-aa,gY I aC];rfl
          grind
         .rw[fC] at aa;simp_all
         .rw[fC] at aa;simp_all
        .rw[m7 I] at a';grind
       obtain⟨rfl,rfl⟩:=acZ;rw[cc] at R8;simp only[hI] at R8;obtain⟨rfl,rfl,rfl⟩:=R8;refine⟨rfl,cK,?_,I,Mq.1,Mq.2⟩;rcases acC with ⟨aW,aa⟩|⟨c,es,gX,aa,ad,an,_⟩
       .rcases aF with ⟨_,rfl⟩|⟨_,_,_,bO,_⟩
        .omega
        grind
       .have:=Yi aF aa ad;omega
      .cases aX
def aqn(aa: -22<=e)(ad:e<=22):sn 0 e=0:=by
 unfold sn;have ep:l7 0=0:=rfl;rw[ep];have cv:Ieee.double.read 0=.number av 0 (-1074):=rfl;split
 .rfl
 .split
  .obtain⟨K,a,b,aq,_⟩:=Bv (k:=e.toNat) I;simp only[Ieee.Format.mul,cv,aq,Ieee.Datum.product,jl,Ieee.Format.write,pY];rfl
  .obtain⟨K,a,b,aq,ae⟩:=Bv (k:=(-e).toNat) I;have cE:K≠0:=λbP=>by
    rw[bP,pY] at ae;have:=iI (Gb (-e).toNat) (pX b);omega
   have hw:Ieee.double.div 0 (kg.getD (-e).toNat 0)=J (Ieee.double.nearest av (2*(0<<<(54+K.log2-(0:Nat).log2)/K)+(0<<<(54+K.log2-(0:Nat).log2)%K !=0).toNat) ((-1074:Int)-((a:Int)-b)-((54+K.log2-(0:Nat).log2:Nat):Int)-1)):=by
    simp only[Ieee.Format.div,cv,aq,Ieee.Datum.quotient,jl,Ieee.Format.write];rw[ak cE];rfl
   rw[hw,Nat.zero_shiftLeft,Nat.zero_div,Nat.zero_mod];rfl
set_option exponentiation.threshold 2000 in
def aql(aW:0<n)(ui:n<=2^53)(aa: -22<=e)(ad:e<=22):mG (lE n e) (jZ e) (sn n e):=by
 unfold sn lE jZ;have Jm:∀k,k<=22->10^k<=2^74:=λk aq=>dH (l4 (n:=10) aE aq) I;split
 .rename_i aV;subst aV;have:=Ux (mag:=n) (P:=n) (Q:=1) (u:=0) (v:=0) (place:=0) aW aE I I I (by
   have wy:2^n.log2<=n:=KF I;have:n.log2<=53:=(aHb (a:=2) aE).1 (dH wy ui);omega)
  simpa[l7] using this
 .split
  .have aq:=Jm e.toNat I;obtain⟨w,hw,aF⟩:=aep aW (Gb e.toNat) (Jd aW ui) (Bv (k:=e.toNat) I) (by
    refine nT (aB0 ui aq) ?_;omega)
   have vu:Ieee.double.mul (l7 n) (kg.getD e.toNat 0)=J w:=hw;grind
  .have aq:=Jm (-e).toNat I;obtain⟨w,hw,aF⟩:=ZR aW (Gb (-e).toNat) (Jd aW ui) (Bv (k:=(-e).toNat) I) (nT ui (ahH aE aE)) (nT aq (ahH aE aE));have vu:Ieee.double.div (l7 n) (kg.getD (-e).toNat 0)=J w:=hw;grind
def w1(n:Nat)(e:Int):Nat:=if 0<=e then(Ieee.double.mul (l7 n) (kg.getD e.toNat 0)).getD 0 else(Ieee.double.div (l7 n) (kg.getD (-e).toNat 0)).getD 0
def lead0:B->B
 |[]=>[]
 |c::l=>if c.toNat=48/\l≠[] then lead0 l else c::l
def sM(l:B):B:=(lead0 l.reverse).reverse
def pwr(y:B):Int⊕Nat:=match dig 10 av (if top y=43\/top y=45 then y.tail else y) with
 |some o=>if o=[] then .inr 1 else match whole 10 100000 0 o with
  |some n=>.inl (if top y=45 then-(n:Int) else(n:Int))
  |none=>.inr 2
 |none=>.inr 1
def vc(minus:Bool)(ds:B)(e:Int):Nat⊕Nat:=match whole 10 999999999999999 0 (sM (lead0 ds)) with
 |some n=>if n=0 then .inl (pJ minus 0) else if 22<e+(U (lead0 ds)-U (sM (lead0 ds)):Nat)\/e+(U (lead0 ds)-U (sM (lead0 ds)):Nat)< -22 then .inr 2 else .inl (pJ minus (w1 n (e+(U (lead0 ds)-U (sM (lead0 ds)):Nat))))
 |none=>.inr 2
def fpow(minus:Bool)(ds:B)(e:Int)(N9:Option B):Nat⊕Nat:=match N9 with
 |none=>vc minus ds e
 |some y=>match pwr y with
  | .inl p=>vc minus ds (e+p)
  | .inr c=>.inr c
def CM(minus:Bool)(o:B)(behind N9:Option B):Nat⊕Nat:=match behind with
 |none=>fpow minus o 0 N9
 |some y=>match dig 10 av y with
  |some o2=>if o2=[] then .inr 1 else fpow minus (o++o2) (-(U o2:Int)) N9
  |none=>.inr 1
def fstO(o:Option (B×B))(d:B):B:=match o with|some x=>x.1|none=>d
def w0(o:Option (B×B)):B:=match o with|some x=>x.2|none=>[]
def kK(l:B):Nat⊕Nat:=
 let rest:=if top l=43\/top l=45 then l.tail else l
 let minus:=decide (top l=45)
 if rest=[105,110,102] then .inl (pJ minus TB) else if rest=[110,97,110] then .inl 9221120237041090561 else
 let c1:=cut [101,69] rest
 let body:=fstO c1 rest
 let c2:=cut [46] body
 let front:=fstO c2 body
 if c1.isNone=ai/\c2.isNone=ai then .inr 1 else match dig 10 av front with
 |some o=>if o=[]\/(1<U o/\g o 0=48) then .inr 1 else CM minus o (c2.map (·.2)) (c1.map (·.2))
 |none=>.inr 1
def Ra:Nat⊕Nat->ao
 | .inl b=>bA #[g5 2 0 b [],ah 0]
 | .inr c=>bA #[g5 0 0 0 [],ah c]
section
variable{h g:H}{R k:K}{l:B}{b:Nat}{v:ao}
def aon{x:Nat}(h:x<2^63):bn .andNot (a4 (x:Int)) (a4 9223372036854775808)=J (a4 (x:Int)):=by
 have e:bits .andNot .u64 ((x:Nat):Int) ((9223372036854775808:Nat):Int)=((x&&&(18446744073709551615-9223372036854775808):Nat):Int):=u64_andNot_nat x 9223372036854775808 I aE;have ar:x&&&(18446744073709551615-9223372036854775808)=x:=by
  rw[show(18446744073709551615-9223372036854775808:Nat)=2^63-1 from rfl,aHa,GC h]
 show(if IntKind.u64=IntKind.u64 then J (Value.int .u64 (bits .andNot .u64 (x:Int) ((9223372036854775808:Nat):Int))) else ab)=_;grind
def ajQ(ae:x<2^63)(q:R (cU .f64 (Op.negFloat .f64 x)) h):bo 92 [cU .f64 x,cU .f64 13830554455654793216] h R:=by
 apply am2;rw[GP,aon ae,bs,GP];have aw:bn .and (a4 (13830554455654793216:Nat)) (a4 9223372036854775808)=J (a4 (9223372036854775808:Nat)):=yR (a:=13830554455654793216) (c:=9223372036854775808) aE aE;rw[aw,bs,jY I aE,bs,GQ,Nat.or_comm,UP ae];exact q
def HG(e:aB h g)(af:g[b]?=J (aO cs 28))(ay:ag cs=6)(bO:ag h<=b)(q:∀g',aB h g'->R (bA #[g5 kd n Cy s,sd]) g'):
  bZ 6 (aN b) (g5 kd n Cy s) g λ_ h=>cO 6 (aN b) h λv _=>R (bA #[v,sd]) h:=by
 unfold g5;exact Lb (k:=λh v _=>R (bA #[v,sd]) h) af ay rfl rfl (q _ (e.set bO))
def aak(e:aB h g)(af:g[b]?=J (aO cs 28))(ay:ag cs=6)(bO:ag h<=b)(q:∀g',aB h g'->R (g5 kd n Cy s) g'):
  bZ 6 (aN b) (g5 kd n Cy s) g λ_ h=>cO 6 (aN b) h λv _=>R v h:=by
 unfold g5;exact Lb (k:=λh v _=>R v h) af ay rfl rfl (q _ (e.set bO))
def ajP(ae:x<2^63)(af:h[b]?=J (aO #[aQ minus] t)) (q:∀h',aB h h'->R (g5 2 0 (pJ minus x) []) h'):bo 91 [cU .f64 x,aN b] h R:=by
 apply am1;have dR:b<ag h:=(cm.1 af).1;rw[gE];have aw:=aB.push h (aO (aZ (Z 28)) 28);have dz:=af;rw[<-aw.2 b dR] at dz;show cd (bU (J ⟨b,0,ab⟩)) _ _;rw[fs dz];cases minus with
 |true=>
  show Pu (J (aQ ai)) _ _;rw[bs,gl];refine ajQ ae ?_;rw[GP];refine(Pb (kind:=2) (bits:=Op.negFloat .f64 x)).mpr ?_;exact aak aw mK (by rw[j9];rfl) (bQ _) q
 |false=>
  show Pu (J (aQ av)) _ _;rw[bs,ga,GP];refine(Pb (kind:=2) (bits:=x)).mpr ?_;exact aak aw mK (by rw[j9];rfl) (bQ _) q
def aj6(q:bo 91 [x,aN b] h k):Cv (.func (.func 91) #[] #[aN b]) [x] h k:=⟨b4,q⟩
end
set_option exponentiation.threshold 2000 in
def agy(aW:0<n)(ui:n<=2^53)(aa: -22<=e)(ad:e<=22):mG (lE n e) (jZ e) (w1 n e):=by
 unfold w1 lE jZ;have Jm:∀k,k<=22->10^k<=2^74:=λk aq=>dH (l4 (n:=10) aE aq) I;split
 .have aq:=Jm e.toNat I;obtain⟨w,hw,aF⟩:=aep aW (Gb e.toNat) (Jd aW ui) (Bv (k:=e.toNat) I) (by
   refine nT (aB0 ui aq) ?_;omega)
  have vu:Ieee.double.mul (l7 n) (kg.getD e.toNat 0)=J w:=hw;grind
 .have aq:=Jm (-e).toNat I;obtain⟨w,hw,aF⟩:=ZR aW (Gb (-e).toNat) (Jd aW ui) (Bv (k:=(-e).toNat) I) (nT ui (ahH aE aE)) (nT aq (ahH aE aE));have vu:Ieee.double.div (l7 n) (kg.getD (-e).toNat 0)=J w:=hw;grind
def adY(h:c.toNat=48)(au:l≠[]):lead0 (c::l)=lead0 l:=by rw[lead0,aA ⟨h,au⟩]
def adX(h:¬(1<U l/\g l 0=48)):lead0 l=l:=by
 cases l with
 |nil=>rfl
 |cons c l=>
  rw[lead0,ak];rintro⟨a,b⟩;exact h ⟨by have:=lJ.2 b;simp;omega,a⟩
def awk(h:1<U l/\g l 0=48):lead0 l=lead0 (ax 1 l):=by
 cases l with
 |nil=>grind
 |cons c l=>exact adY h.2 (λe=>al)
def rev_last{l:B}(h:0<U l):l.reverse=l[U l-1]::(bf (U l-1) l).reverse:=by
 have bk:l≠[]:=lJ.1 h;have aw:=aBK bk;grind
def azX(h:1<U l/\g l (U l-1)=48):sM l=sM (bf (U l-1) l):=by
 unfold sM;have aa:=h.1;rw[rev_last (l:=l) I,adY]
 .rw[<-fu I];exact h.2
 .intro e;have:=mQ List.length e;grind
def azV(h:¬(1<U l/\g l (U l-1)=48)):sM l=l:=by
 unfold sM;rw[adX,List.reverse_reverse];rintro⟨a,b⟩;rw[List.length_reverse] at a;rw[rev_last I] at b;exact h ⟨a,by rw[fu I];exact b⟩
section
variable{h:H}{R k:K}{l a:B}{b:Nat}{v:ao}
def Xu(q:R (bA #[S (if top l=43\/top l=45 then l.tail else l),aQ (decide (top l=45))]) h):bo 90 [S l] h R:=by
 refine Xt (λaa=>?_) (λaa=>?_) λaa ad=>?_
 .simp_all
 .grind
 grind
def Xw(au:U l<=400)(bE:U a<=10)(q:R (bA #[S (fstO (cut a l) l),S (w0 (cut a l)),aQ (cut a l).isSome]) h):bo 94 [S l,S a] h R:=by
 refine ajS au bE (λx y ay=>?_) λay=>?_
 .rw[ay] at q;exact q
 .rw[ay] at q;exact q
def QD:∀{l x y:B},cut a l=J (x,y)->U x+U y+1=U l
 |[],x,y,h=>by cases h
 |c::l,x,y,h=>by
  rw[cut] at h;split at h
  .grind
  .obtain⟨z,aV,he⟩:=yz.1 h;simp only[hI] at he;obtain⟨rfl,rfl⟩:=he;have:=QD (x:=z.1) (y:=z.2) aV;simp;omega
def axg{X Y:H->Prop}(aa:x=av->y=av->X h)(ad:(x=ai\/y=ai)->Y h):Pu (un .not (aQ x)) h λgC h=>a0 gC ai (λh k=>k (aQ y) h) h λf' h=>a0 gC ai (Pu (un .not f')) h λg2 h=>Pu (pk gC g2 (aQ av)) h λji h=>b1 ji (X h) (Y h):=by
 cases x<;>cases y
 .refine aR ?_;grind
 .refine aR ?_;grind
 .refine aR ?_;grind
 .refine aR ?_;grind
def FW{X:H->Prop}{Y:ao->H->Prop}(zl:U o<=1000)(aa:(1<U o/\g o 0=48)->X h)(ad:¬(1<U o/\g o 0=48)->Y (S o) h):Pu (exv 0 (bA #[S o,aQ ai])) h λjH h=>Pu (exv 1 (bA #[S o,aQ ai])) h λmL h=>Pu (un .not mL) h λv30 h=>a0 v30 av (λh k=>k jH h) h λj2 h=>a0 v30 av (Pu (q3 j2)) h λmM h=>a0 v30 av (Pu (bn hf mM (ah 1))) h λlb h=>
  a0 v30 av (λh k=>k lb h) h λkM h=>a0 kM ai (λh k=>k jH h) h λpR h=>a0 kM ai (Pu (ixs pR (ah 0))) h λlH h=>a0 kM ai (Pu (bn cQ lH (bu 48))) h λkN h=>a0 v30 av (Pu (pk kM kN (aQ av))) h λkj h=>Pu (pk v30 (aQ ai) kj) h λme h=>b1 me (X h) (Y jH h):=by
 have jr:0<U o->ixs (S o) (ah 0)=J (bu (F.g o 0:Int)):=λh=>m3 (i:=0) h;refine bG jr ?_;grind
def ajO(au:U l<=900)(af:0<b)(hm:15<=m)(wz:m<18446744073709551616)(aD:∀c∈l,(fQ c.toNat).isSome=ai)(bq:∀n,whole b m 0 l=J n->n<=m->R (bA #[a4 (n:Int),aQ ai]) h)
  (bw:whole b m 0 l=ab->R (bA #[a4 0,aQ av]) h):bo 89 [S l,a4 (b:Int),a4 (m:Int)] h R:=by
 apply XU;refine aR ?_;refine jn (λdW v u h'=>∃n k:Nat,v=a4 n/\u=ah k/\k<=U l/\n<=m/\whole b m n (ax k l)=whole b m 0 l/\h'=h/\dW=900-k) 900 ⟨0,0,rfl,rfl,ed _,ed _,rfl,rfl,rfl⟩ ?_;rintro dW d v u h' N ⟨n,k,rfl,rfl,aq,aI,aP,rfl,rfl⟩ a7;refine aR ?_;refine⟨λaa=>?_,λaa=>?_⟩
 .rw[nt aa,whole] at aP;have aL:=aD _ (zW aa);rw[<-fu aa] at aP aL;refine Eb (dZ l k) (λd ad an=>?_) λad=>?_
  .rw[ad] at aP;simp only at aP;have cF:¬(m-d)/b<n->n*b+d<=m:=λaT=>by
    have:=jx b (z0 aT);have:=Nat.div_mul_le_self (m-d) b;omega
   refine aR ?_;refine⟨λaT=>?_,λaT=>?_⟩
   .grind
   .rw[ak aT] at aP;have bN:=cF aT;refine bG (zB (I:n*b<18446744073709551616)) ?_;exact a7 (900-(k+1)) _ _ _ I ⟨_,k+1,rfl,rfl,aa,bN,aP,rfl,rfl⟩
  grind
 .have e:k=U l:=I
  subst e;rw[Wo,whole] at aP;grind
def C67(au:U l<=400)(q:∀h',aB h h'->R (Ra (kK l)) h'):bo 67 [S l] h R:=by
 apply amC;rw[gE];refine Xu ?_;have eN:kK l=kK l:=rfl;conv at eN=>rhs;unfold kK
 generalize wD:(if top l=43\/top l=45 then l.tail else l)=rest at*;have hN:U rest<=400:=by
  grind
 generalize decide (top l=45)=minus at*;rw[xH];show Pu (J (S rest)) _ _;rw[bs,xH];show Pu (J (.bool minus)) _ _;rw[bs,gE];have rp:Z 4=[.bool av]:=b4
 rw[rp];show bZ 1 (.pointer (J ⟨ag (a6 h (.cells (aZ (Z 28)) 28)),0,ab⟩)) _ _ _;rw[tQ rfl rfl a1];have bP:aB h (a6 (a6 h (.cells (aZ (Z 28)) 28)) (.cells (dy (aZ [Value.bool av]) 0 (.bool minus)) 4)):=(aB.push _ _).trans (aB.push _ _);have kb:(a6 (a6 h (.cells (aZ (Z 28)) 28)) (.cells (dy (aZ [Value.bool av]) 0 (.bool minus)) 4))[ag h]?=J (.cells (aZ (Z 28)) 28):=rU;have Ts:(a6 (a6 h (.cells (aZ (Z 28)) 28)) (.cells (dy (aZ [Value.bool av]) 0 (.bool minus)) 4))[ag (a6 h (.cells (aZ (Z 28)) 28))]?=J (.cells #[.bool minus] 4):=mK;generalize a6 (a6 h (.cells (aZ (Z 28)) 28)) (.cells (dy (aZ [Value.bool av]) 0 (.bool minus)) 4)=cn at*;generalize ag (a6 h (.cells (aZ (Z 28)) 28))=l6 at*;have gJ:ag (aZ (Z 28))=6:=by rw[j9];rfl
 have dz:ag h<=ag h:=bQ _;generalize abF:ag h=cg at kb dz;have v1:∀g,aB cn g->g[cg]?=J (.cells (aZ (Z 28)) 28):=λg e=>by rw[e.2 _ (cm.1 kb).1];exact kb
 have fI:∀g,aB cn g->g[l6]?=J (.cells #[.bool minus] 4):=λg e=>by rw[e.2 _ (cm.1 Ts).1];exact Ts
 have bad:∀(c:Nat) g,kK l=.inr c->aB cn g->Bd (Z 28) [] g λv h=>bZ 6 (aN cg) v h λ_ h=>cO 6 (aN cg) h λv _=>R (.tuple #[v,.i c]) h:=λc g ay e=>by
  rw[yD];exact HG (h:=h) (bP.trans e) (v1 g e) gJ I λg' c'=>by have:=q g' c';rw[ay] at this;exact this
 have Aq:∀g,kK l=.inr 1->aB cn g->Bd (Z 28) [] g λv h=>bZ 6 (aN cg) v h λ_ h=>cO 6 (aN cg) h λv _=>R (.tuple #[v,.i 1]) h:=λg ay e=>bad 1 g ay e;have Ct:∀g,kK l=.inr 2->aB cn g->Bd (Z 28) [] g λv h=>bZ 6 (aN cg) v h λ_ h=>cO 6 (aN cg) h λv _=>R (.tuple #[v,.i 2]) h:=λg ay e=>bad 2 g ay e;have qQ:∀(x:Nat) g,x<2^63->kK l=.inl (pJ minus x)->aB cn g->Cv (.func (.func 91) #[] #[aN l6]) [.float .f64 x] g λv h=>bZ 6 (aN cg) v h λ_ h=>cO 6 (aN cg) h λv _=>R (.tuple #[v,.i 0]) h:=λx g ae ay e=>by
  refine aj6 (ajP ae (fI g e) λg' c'=>?_);exact HG (h:=h) ((bP.trans e).trans c') (v1 g' (e.trans c')) gJ I λaqp apv=>by have:=q aqp apv;rw[ay] at this;exact this
 clear kb Ts;have ate:bn .eql (S rest) (.string ⟨#[105,110,102]⟩)=J (.bool (decide (rest=[105,110,102]))):=LS;have atU:bn .eql (S rest) (.string ⟨#[110,97,110]⟩)=J (.bool (decide (rest=[110,97,110]))):=LS;rw[ate];by_cases c1:rest=[105,110,102]
 .rw[aA c1] at eN;rw[j7 c1,bs,gl];exact Xv (qQ TB cn aE eN (aB.refl _))
 rw[ak c1] at eN;rw[ig c1,bs,ga,atU];by_cases c2:rest=[110,97,110]
 .rw[aA c2] at eN;rw[j7 c2,bs,gl];refine(Pb (kind:=2) (bits:=9221120237041090561)).mpr ?_;exact HG (h:=h) bP (v1 _ (aB.refl _)) gJ I λg' c'=>by have:=q g' c';rw[eN] at this;exact this
 rw[ak c2] at eN;rw[ig c2,bs,ga];refine Xw hN aE ?_;have Su:U (fstO (cut [101,69] rest) rest)<=400/\U (w0 (cut [101,69] rest))<=400:=by
  cases gH:cut [101,69] rest with
  |none=>exact⟨hN,by simp[w0]⟩
  |some Kp=>have:=QD (x:=Kp.1) (y:=Kp.2) gH;simp only[fstO,w0];omega
 simp only at eN;generalize cut [101,69] rest=c1 at*;generalize (fstO c1 rest)=body at*;generalize IG:(w0 c1)=yg at*;rw[xH];show Pu (J (S body)) _ _;rw[bs,xH];show Pu (J (S yg)) _ _;rw[bs,xH];show Pu (J (.bool c1.isSome)) _ _;rw[bs];refine Xw Su.1 aE ?_;have MK:U (fstO (cut [46] body) body)<=400/\U (w0 (cut [46] body))<=400:=by
  cases j':cut [46] body with
  |none=>exact⟨Su.1,by simp[w0]⟩
  |some Kp=>have:=QD (x:=Kp.1) (y:=Kp.2) j';simp only[fstO,w0];omega
 generalize cut [46] body=Ly at*;generalize (fstO Ly body)=front at*;generalize MH:(w0 Ly)=aoF at*;rw[xH];show Pu (J (S front)) _ _;rw[bs,xH];show Pu (J (S aoF)) _ _;rw[bs,xH];show Pu (J (.bool Ly.isSome)) _ _;rw[bs];refine axg (λb_ cp=>?_) λaGW=>?_
 .rw[aA ⟨m8,m8⟩] at eN;exact Aq cn eN (aB.refl _)
 rw[ak (λy=>by
  simp_all)] at eN
 refine GO MK.1 (λo aH bk=>?_) (λaH=>?_) λaH=>?_;rotate_left
 .rw[aH] at eN;refine aR ?_;exact Aq cn al (aB.refl _)
 .rw[aH] at eN;refine aR ?_;exact Aq cn eN (aB.refl _)
 rw[aH] at eN;simp only[bk,false_or] at eN;have zl:=CF aH;have vl:=CE aH;refine FW I (λaV=>Aq cn al (aB.refl _)) λaV=>?_;rw[ak aV] at eN;refine rv (λu w g'=>∃ds aw,u=S ds/\w=.i aw/\g'=cn/\kK l=fpow minus ds aw (c1.map (·.2))/\U ds<=800/\ds≠[]/\(∀c∈ds,(fQ c.toNat).isSome=ai)/\-400<=aw/\aw<=0) (λM cM=>?_) ?_
 .cases Ly with
  |none=>
   refine(show b1 (.bool av) _ _ from ?_);rw[ga];exact cM _ _ _ ⟨o,0,rfl,rfl,rfl,eN,I,bk,vl,aE,aE⟩
  |some y=>
   refine(show b1 (.bool ai) _ _ from ?_);rw[gl];simp only[w0] at MH;subst MH;have eN:kK l=(match dig 10 av y.2 with|some o2=>if o2=[] then .inr 1 else fpow minus (o++o2) (-(U o2:Int)) (c1.map (·.2))|none=>.inr 1):=eN;refine GO MK.2 (λo2 ib vp=>?_) (λib=>?_) λib=>?_
   .rw[ib] at eN;simp only[vp,lL] at eN;have at4:=CF ib;have f1:un .neg (.i (U o2))=J (.i (-(U o2:Int))):=by
     simp only[un];congr 2;simp only[jv];omega
    refine bG f1 ?_;refine cM _ _ _ ⟨o++o2,_,rfl,rfl,rfl,eN,by simp;omega,by simp[bk],λc ay=>?_,I,I⟩;rcases zX.1 ay with ay|ay
    .grind
    .exact CE ib c ay
   .rw[ib] at eN;refine aR ?_;exact Aq cn al (aB.refl _)
   .rw[ib] at eN;refine aR ?_;exact Aq cn eN (aB.refl _)
 clear eN vl zl aV bk aH;rintro u w g' ⟨ds,aw,rfl,rfl,rfl,eN,gn,wm,vl,AY,vi⟩;refine ll (λu bd=>∃ar,u=.i ar/\bd=g'/\kK l=vc minus ds ar/\-200000<=ar/\ar<=200000) (λM cM=>?_) ?_
 .cases c1 with
  |none=>
   refine(show b1 (.bool av) _ _ from ?_);rw[ga];exact cM _ _ ⟨aw,rfl,rfl,eN,I,I⟩
  |some y=>
   refine(show b1 (.bool ai) _ _ from ?_);rw[gl];simp only[w0] at IG;subst IG;have eN:kK l=(match pwr y.2 with| .inl p=>vc minus ds (aw+p)| .inr c=>.inr c):=eN;unfold pwr at eN;refine Xu ?_;have jV:U (if top y.2=43\/top y.2=45 then y.2.tail else y.2)<=400:=by
    grind
   generalize (if top y.2=43\/top y.2=45 then y.2.tail else y.2)=aU at*;rw[xH];show Pu (J (S aU)) _ _;rw[bs,xH];show Pu (J (.bool (decide (top y.2=45)))) _ _;rw[bs];refine GO jV (λo2 ib vp=>?_) (λib=>?_) λib=>?_
   .rw[ib] at eN;simp only[vp,lL] at eN;have at4:=CF ib;refine aR ?_;refine Pw (b:=10) (m:=100000) I aE aE aE (CE ib) (λn aI hs=>?_) λaI=>?_
    .rw[aI] at eN;simp only at eN;have f1:ci .i64 (.u n)=J (.i n):=Zl I;have f2:bn .sub (.i aw) (.i n)=J (.i (aw-n)):=by
      simp only[bn,ei];congr 2;simp only[jv];omega
     have f3:bn .add (.i aw) (.i n)=J (.i (aw+n)):=by
      simp only[bn,ei];congr 2;simp only[jv];omega
     by_cases l8:top y.2=45
     .rw[aA l8] at eN;rw[j7 l8];refine hk f1 f2 f3 ?_;grind
     .rw[ak l8] at eN;rw[ig l8];refine hk f1 f2 f3 ?_;grind
    .rw[aI] at eN;refine aR ?_;exact Ct g' eN (aB.refl _)
   .rw[ib] at eN;refine aR ?_;exact Aq g' al (aB.refl _)
   .rw[ib] at eN;refine aR ?_;exact Aq g' eN (aB.refl _)
 clear eN AY vi aw MH IG Su MK;rintro u bd ⟨e,rfl,rfl,eN,AY,vi⟩;refine eV (λm u cb=>∃cur,u=S cur/\cb=bd/\lead0 cur=lead0 ds/\U cur<=800/\cur≠[]/\(∀c∈cur,(fQ c.toNat).isSome=ai)/\m=U cur) _ ⟨ds,rfl,rfl,rfl,gn,wm,vl,rfl⟩ ?_;clear gn wm vl;rintro m _ u cb N ⟨cur,rfl,rfl,AU,gn,wm,vl,rfl⟩ a7;have eS:=lJ.2 wm;have mP:ixs (S cur) (.i 0)=J (.b (g cur 0:Int)):=m3 (i:=0) eS;have DJ:sls (S cur) (J (.i 1)) ab=J (S (ax 1 cur)):=zL (i:=1) eS;by_cases aV:1<U cur/\g cur 0=48
 .have aa:=aV.1;have ad:=aV.2;refine dG mP DJ ?_;refine a7 _ _ _ ?_ ⟨ax 1 cur,rfl,rfl,by rw[<-AU,awk aV],by simp;omega,λe=>by have:=mQ List.length e;grind,λc ay=>vl c (aBP ay),rfl⟩;simp;omega
 have acj:=adX aV;rw[AU] at acj;unfold vc at eN;rw[acj] at eN;clear a7 AU;have next:iL 2 [S cur,.i e] cb (λqG _ iZ ju h=>Pu (q3 iZ) h λoC h=>Pu (bn .gtr oC (.i 1)) h λnj h=>a0 nj ai (λh k=>k iZ h) h λl2 h=>a0 nj ai (λh k=>k iZ h) h λko h=>a0 nj ai (Pu (q3 ko)) h λmN h=>a0 nj ai (Pu (bn .sub mN (.i 1))) h λkQ h=>a0 nj ai (Pu (ixs l2 kQ)) h λlg h=>a0 nj ai (Pu (bn .eql lg (.b 48))) h λoa h=>Pu (pk nj oa (.bool av)) h λnR h=>
   b1 nR (Pu (q3 iZ) h λmO h=>Pu (bn .sub mO (.i 1)) h λrk h=>Pu (sls iZ ab (J rk)) h λpS h=>Pu (bn .add ju (.i 1)) h λrl h=>qG pS rl h)<|
   bD 89 [iZ,(.u 10),(.u 999999999999999)] h λoD h=>Pu (exv 0 oD) h λrm h=>Pu (exv 1 oD) h λnk h=>Pu (bn .eql rm (.u 0)) h λml h=>a0 ml ai (λh k=>k nk h) h λpN h=>Pu (pk ml pN (.bool av)) h λo9 h=>
   b1 o9 (Cv (.func (.func 91) #[] #[aN l6]) [(.float .f64 0)] h λr2 h=>bZ 6 (aN cg) r2 h λ_ h=>cO 6 (aN cg) h λvC _=>R (.tuple #[vC,(.i 0)]) h)<|
   Pu (un .not nk) h λuE h=>a0 uE av (λh k=>k ju h) h λzR h=>a0 uE av (Pu (bn .gtr zR (.i 22))) h λuF h=>Pu (pk uE (.bool ai) uF) h λr3 h=>a0 r3 av (λh k=>k ju h) h λyq h=>a0 r3 av (Pu (bn .lss yq (.i (-22)))) h λzS h=>Pu (pk r3 (.bool ai) zS) h λzT h=>
   b1 zT (Bd (Z 28) [] h λDS h=>bZ 6 (aN cg) DS h λ_ h=>cO 6 (aN cg) h λDT _=>R (.tuple #[DT,(.i 2)]) h)<|
   Pu (un .neg ju) h λic h=>Pu (q4 av ju ic) h λw7 h=>iL 2 [(.float .f64 4607182418800017408),(.i 0)] h λsW _ ie tG h=>Pu (bn .lss tG w7) h λuG h=>b1 uG (Pu (bn .mul ie (.float .f64 4621819117588971520)) h λw8 h=>Pu (bn .add tG (.i 1)) h λsO h=>sW w8 sO h)<|
   Pu (yT .f64 rm) h λr4 h=>Pu (bn .geq ju (.i 0)) h λoz h=>b1 oz (Pu (bn .mul r4 ie) h λw9 h=>Cv (.func (.func 91) #[] #[aN l6]) [w9] h λw_ h=>bZ 6 (aN cg) w_ h λ_ h=>cO 6 (aN cg) h λre _=>R (.tuple #[re,(.i 0)]) h)<|
   Pu (bn .quo r4 ie) h λsP h=>Cv (.func (.func 91) #[] #[aN l6]) [sP] h λpO h=>bZ 6 (aN cg) pO h λ_ h=>cO 6 (aN cg) h λpP _=>R (.tuple #[pP,(.i 0)]) h):=by
  refine jn (λdW a c eZ=>∃lu bl,a=S lu/\c=.i bl/\eZ=cb/\sM lu=sM cur/\U lu<=U cur/\lu≠[]/\(∀c∈lu,(fQ c.toNat).isSome=ai)/\bl=e+(U cur-U lu:Nat)/\dW=U lu) _ ⟨cur,e,rfl,rfl,rfl,rfl,bQ _,wm,vl,I,rfl⟩ ?_;clear mP DJ vl;rintro m _ a c eZ N ⟨lu,bl,rfl,rfl,rfl,aP,MK,kY,vl,AZ,rfl⟩ a7;have aEb:=lJ.2 kY;by_cases gp:1<U lu/\g lu (U lu-1)=48
  .have aa:=gp.1;have ad:=gp.2;have Q8:bn .add (.i bl) (.i 1)=J (.i (bl+1)):=by
    simp only[bn,ei];congr 2;simp only[jv];omega
   refine bG Q8 ?_;refine a7 _ _ _ _ ?_ ⟨bf (U lu-1) lu,bl+1,rfl,rfl,rfl,by rw[<-aP,azX gp],by simp;omega,λe=>by have:=mQ List.length e;grind,λc ay=>vl c (ahy ay),?_,rfl⟩
   .simp;omega
   grind
  .have tn:=azV gp;rw[<-aP,tn,<-AZ] at eN;clear a7 aP tn AZ;have fin:bD 89 [S lu,(.u 10),(.u 999999999999999)] eZ λoD h=>Pu (exv 0 oD) h λrm h=>Pu (exv 1 oD) h λnk h=>Pu (bn .eql rm (.u 0)) h λml h=>a0 ml ai (λh k=>k nk h) h λpN h=>Pu (pk ml pN (.bool av)) h λo9 h=>
     b1 o9 (Cv (.func (.func 91) #[] #[aN l6]) [(.float .f64 0)] h λr2 h=>bZ 6 (aN cg) r2 h λ_ h=>cO 6 (aN cg) h λvC _=>R (.tuple #[vC,(.i 0)]) h)<|
     Pu (un .not nk) h λuE h=>a0 uE av (λh k=>k (.i bl) h) h λzR h=>a0 uE av (Pu (bn .gtr zR (.i 22))) h λuF h=>Pu (pk uE (.bool ai) uF) h λr3 h=>a0 r3 av (λh k=>k (.i bl) h) h λyq h=>a0 r3 av (Pu (bn .lss yq (.i (-22)))) h λzS h=>Pu (pk r3 (.bool ai) zS) h λzT h=>
     b1 zT (Bd (Z 28) [] h λDS h=>bZ 6 (aN cg) DS h λ_ h=>cO 6 (aN cg) h λDT _=>R (.tuple #[DT,(.i 2)]) h)<|
     Pu (un .neg (.i bl)) h λic h=>Pu (q4 av (.i bl) ic) h λw7 h=>iL 2 [(.float .f64 4607182418800017408),(.i 0)] h λsW _ ie tG h=>Pu (bn .lss tG w7) h λuG h=>b1 uG (Pu (bn .mul ie (.float .f64 4621819117588971520)) h λw8 h=>Pu (bn .add tG (.i 1)) h λsO h=>sW w8 sO h)<|
     Pu (yT .f64 rm) h λr4 h=>Pu (bn .geq (.i bl) (.i 0)) h λoz h=>b1 oz (Pu (bn .mul r4 ie) h λw9 h=>Cv (.func (.func 91) #[] #[aN l6]) [w9] h λw_ h=>bZ 6 (aN cg) w_ h λ_ h=>cO 6 (aN cg) h λre _=>R (.tuple #[re,(.i 0)]) h)<|
     Pu (bn .quo r4 ie) h λsP h=>Cv (.func (.func 91) #[] #[aN l6]) [sP] h λpO h=>bZ 6 (aN cg) pO h λ_ h=>cO 6 (aN cg) h λpP _=>R (.tuple #[pP,(.i 0)]) h:=by
    refine ajO (b:=10) (m:=999999999999999) I aE aE aE vl (λn aI hs=>?_) λaI=>?_
    .rw[aI] at eN;simp only at eN;by_cases kX:n=0
     .subst kX;rw[aA rfl] at eN;refine aR ?_;exact qQ 0 eZ aE eN (aB.refl _)
     .rw[ak kX] at eN;have ct:bn .gtr (.i bl) (.i 22)=J (.bool (decide (22<bl))):=Mn;have bd:bn .lss (.i bl) (.i (-22))=J (.bool (decide (bl< -22))):=Ub;have main:¬(22<bl\/bl< -22)->Pu (un .neg (.i bl)) eZ λic h=>Pu (q4 av (.i bl) ic) h λw7 h=>iL 2 [(.float .f64 4607182418800017408),(.i 0)] h λsW _ ie tG h=>Pu (bn .lss tG w7) h λuG h=>b1 uG (Pu (bn .mul ie (.float .f64 4621819117588971520)) h λw8 h=>Pu (bn .add tG (.i 1)) h λsO h=>sW w8 sO h)<|
        Pu (yT .f64 (.u n)) h λr4 h=>Pu (bn .geq (.i bl) (.i 0)) h λoz h=>b1 oz (Pu (bn .mul r4 ie) h λw9 h=>Cv (.func (.func 91) #[] #[aN l6]) [w9] h λw_ h=>bZ 6 (aN cg) w_ h λ_ h=>cO 6 (aN cg) h λre _=>R (.tuple #[re,(.i 0)]) h)<|
        Pu (bn .quo r4 ie) h λsP h=>Cv (.func (.func 91) #[] #[aN l6]) [sP] h λpO h=>bZ 6 (aN cg) pO h λ_ h=>cO 6 (aN cg) h λpP _=>R (.tuple #[pP,(.i 0)]) h:=λaF=>by
       rw[ak aF] at eN;have dK:un .neg (.i bl)=J (.i (-bl)):=by
        simp only[un];congr 2;simp only[jv];omega
       have gz:q4 av (.i bl) (.i (-bl))=J (.i (bl.natAbs:Nat)):=by
        unfold q4;grind
       have Mq:bl.natAbs<=22:=I
       have ae:=agy (n:=n) (e:=bl) (xi kX) I I I;have a':=TE (wY _) ae;rw[dK,bs,gz,bs];refine jn (λdW a c fW=>∃k:Nat,a=.float .f64 (kg.getD k 0)/\c=.i k/\fW=eZ/\k<=bl.natAbs/\dW=bl.natAbs-k) _ ⟨0,rfl,rfl,rfl,ed _,rfl⟩ ?_;rintro m _ a c fW N ⟨k,rfl,rfl,rfl,aq,rfl⟩ a7;by_cases lA:k<bl.natAbs
       .have pm:bn .mul (.float .f64 (kg.getD k 0)) (.float .f64 4621819117588971520)=J (.float .f64 (kg.getD (k+1) 0)):=by
         show(if FloatKind.f64=FloatKind.f64 then(Ieee.double.mul (kg.getD k 0) 4621819117588971520).map λr=>Value.float .f64 r else ab)=_;rw[aA rfl,ax8 I];rfl
        clear qQ eN;refine bG pm ?_;exact a7 _ _ _ _ I ⟨k+1,rfl,rfl,rfl,lA,rfl⟩
       .have Ft:k=bl.natAbs:=I
        subst Ft;have vZ:=Zn n;have ge:bn .geq (.i bl) (.i 0)=J (.bool (decide (0<=bl))):=Rs;have ab5:=qQ (w1 n bl) fW a' eN (aB.refl _);by_cases aW:0<=bl
        .obtain⟨w,hw⟩:=aar (n:=n) (k:=bl.toNat) I I;have pm:bn .mul (.float .f64 (l7 n)) (.float .f64 (kg.getD bl.natAbs 0))=J (.float .f64 (w1 n bl)):=by
          have e:w1 n bl=w:=by unfold w1;grind
          rw[e,(I:bl.natAbs=bl.toNat)];show(if FloatKind.f64=FloatKind.f64 then(Ieee.double.mul (l7 n) (kg.getD bl.toNat 0)).map λr=>Value.float .f64 r else ab)=_;grind
         rw[j7 aW] at ge;clear qQ;refine hk vZ ge pm ?_;exact ab5
        .obtain⟨w,hw⟩:=aah (n:=n) (k:=(-bl).toNat) I I;have pm:bn .quo (.float .f64 (l7 n)) (.float .f64 (kg.getD bl.natAbs 0))=J (.float .f64 (w1 n bl)):=by
          have e:w1 n bl=w:=by unfold w1;grind
          rw[e,(I:bl.natAbs=(-bl).toNat)];show(if FloatKind.f64=FloatKind.f64 then(Ieee.double.div (l7 n) (kg.getD (-bl).toNat 0)).map λr=>Value.float .f64 r else ab)=_;grind
         rw[ig aW] at ge;clear qQ;refine hk vZ ge pm ?_;exact ab5
      have cJ:(22<bl\/bl< -22)->kK l=.inr 2:=λa=>al
      clear qQ;refine dG ct bd ?_;with_reducible repeat' first|refine⟨?_,?_⟩|intro
      .exact Ct eZ (cJ (.inl b8)) (aB.refl _)
      .exact Ct eZ (cJ (.inr b8)) (aB.refl _)
      .exact main I
    .rw[aI] at eN;clear qQ;have xe:bn .eql (.u 0) (.u 0)=J (.bool ai):=rfl;refine bG xe ?_;exact Ct eZ eN (aB.refl _)
   refine aR ?_;with_reducible repeat' first|refine⟨?_,?_⟩|intro
   all_goals first|exact fin|exact absurd ⟨b8,b8⟩ gp
 refine dG mP DJ ?_;with_reducible repeat' first|refine⟨?_,?_⟩|intro
 all_goals first|exact next|exact absurd ⟨b8,b8⟩ aV
end
noncomputable instance(l:B):Decidable (nY l):=Classical.propDecidable _
def zoneS(r:B):Option (B×B):=if 0<U r/\(g r (U r-1)=90\/g r (U r-1)=122) then J (bf (U r-1) r,[90])
 else if 6<U r/\(g r (U r-6)=43\/g r (U r-6)=45)/\g r (U r-3)=58 then match two (ax (U r-5) (bf (U r-3) r)),two (ax (U r-2) r) with
  |J h,J m=>if 23<h\/59<m then ab else J (bf (U r-6) r,if h=0/\m=0 then[90] else ax (U r-6) r)
  |_,_=>ab
 else J (r,[])
noncomputable def moment(l:B):Nat×B×Nat:=if 2<U l/\g l 2=58 then(7,clock l) else if U l<10\/¬nY (bf 10 l) then(0,[],1) else if U l=10 then(6,l,0)
 else if g l 10≠84/\g l 10≠116/\g l 10≠32 then(0,[],1) else match zoneS (ax 11 l) with
  |none=>(0,[],1)
  |J (r,z)=>(if z=[] then 5 else 4,bf 10 l++[84]++(clock r).1++z,(clock r).2)
def ael(m:Nat×B×Nat):ao:=bA #[g5 m.1 0 0 m.2.1,ah m.2.2]
def VK:∀(n:Nat) (l:B),U (trim0 n l)<=U l
 |0,l=>bQ _
 |n+1,l=>by
  rw[trim0];split
  .have:=VK n (bf (U l-1) l);grind
  omega
def ao1(l:B):U (clock l).1<=18:=by
 unfold clock;split
 .simp
 .split
  .simp
  .split
   .split
    .simp
    .split
     .simp
     .rename_i p aJ;split
      .simp
      .have jV:U p<=9:=by
        unfold u9 at aJ;grind
       have:=VK 9 p;grind
   .simp
section
variable{h:H}{R k:K}{l a:B}{b:Nat}{v:ao}
def aBv{X:H->Prop}{lN:ao->ao->H->Prop}(au:U cv<=390)(aa:zoneS cv=ab->X h)(ad:∀r z,zoneS cv=J (r,z)->U r<=390->U z<=6->lN (S r) (S z) h):
  Pu (bn hf (ah (U cv:Int)) (ah 0)) h λjI h=>a0 jI ai (λh k=>k (S cv) h) h λnO h=>a0 jI ai (λh k=>k (ah (U cv:Int)) h) h λnP h=>a0 jI ai (Pu (bn .sub nP (ah 1))) h λl1 h=>a0 jI ai (Pu (ixs nO l1)) h λo_ h=>a0 jI ai (Pu (bn cQ o_ (bu 90))) h λiH h=>a0 jI ai (λh k=>k iH h) h λkO h=>a0 kO av (λh k=>k (S cv) h) h λnQ h=>a0 kO av (λh k=>k (ah (U cv:Int)) h) h λn' h=>a0 kO av (Pu (bn .sub n' (ah 1))) h λnd h=>a0 kO av (Pu (ixs nQ nd)) h λkk h=>a0 kO av (Pu (bn cQ kk (bu 122))) h λnf h=>a0 jI ai (Pu (pk kO (aQ ai) nf)) h λmf h=>Pu (pk jI mf (aQ av)) h λmg h=>b1 mg (Pu (bn .sub (ah (U cv:Int)) (ah 1)) h λng h=>Pu (sls (S cv) ab (J ng)) h λkl h=>lN kl (fo ⟨#[90]⟩) h)<|Pu (bn hf (ah (U cv:Int)) (ah 6)) h λlI h=>a0 lI ai (λh k=>k (S cv) h) h λsQ h=>a0 lI ai (λh k=>k (ah (U cv:Int)) h) h λmh h=>a0 lI ai (Pu (bn .sub mh (ah 6))) h λo' h=>a0 lI ai (Pu (ixs sQ o')) h λqy h=>a0 lI ai (Pu (bn cQ qy (bu 43))) h λjk h=>a0 lI ai (λh k=>k jk h) h λkm h=>a0 km av (λh k=>k (S cv) h) h λpa h=>a0 km av (λh k=>k (ah (U cv:Int)) h) h λmi h=>a0 km av (Pu (bn .sub mi (ah 6))) h λnh h=>a0 km av (Pu (ixs pa nh)) h λoA h=>a0 km av (Pu (bn cQ oA (bu 45))) h λkn h=>a0 lI ai (Pu (pk km (aQ ai) kn)) h λrj h=>Pu (pk lI rj (aQ av)) h λjJ h=>a0 jJ ai (λh k=>k (S cv) h) h λkP h=>a0 jJ ai (λh k=>k (ah (U cv:Int)) h) h λj3 h=>a0 jJ ai (Pu (bn .sub j3 (ah 3))) h λld h=>a0 jJ ai (Pu (ixs kP ld)) h λxa h=>a0 jJ ai (Pu (bn cQ xa (bu 58))) h λr5 h=>Pu (pk jJ r5 (aQ av)) h λuH h=>b1 uH (Pu (bn .sub (ah (U cv:Int)) (ah 5)) h λqz h=>Pu (bn .sub (ah (U cv:Int)) (ah 3)) h λmj h=>Pu (sls (S cv) (J qz) (J mj)) h λni h=>Pu (bn .sub (ah (U cv:Int)) (ah 2)) h λoB h=>Pu (sls (S cv) (J oB) ab) h λpb h=>bD 64 [ni] h λiZ h=>bD 64 [pb] h λju h=>Pu (bn fG iZ (ah 0)) h λoC h=>a0 oC av (λh k=>k iZ h) h λnj h=>a0 oC av (Pu (bn hf nj (ah 23))) h λl2 h=>Pu (pk oC (aQ ai) l2) h λko h=>a0 ko av (λh k=>k ju h) h λmN h=>a0 ko av (Pu (bn fG mN (ah 0))) h λkQ h=>Pu (pk ko (aQ ai) kQ) h λlg h=>a0 lg av (λh k=>k ju h) h λoa h=>a0 lg av (Pu (bn hf oa (ah 59))) h λnR h=>Pu (pk lg (aQ ai) nR) h λmO h=>b1 mO (X h)<|Pu (bn .sub (ah (U cv:Int)) (ah 6)) h λrl h=>Pu (sls (S cv) ab (J rl)) h λoD h=>Pu (bn .sub (ah (U cv:Int)) (ah 6)) h λrm h=>Pu (sls (S cv) (J rm) ab) h λnk h=>Pu (bn cQ iZ (ah 0)) h λml h=>a0 ml ai (λh k=>k ju h) h λpN h=>a0 ml ai (Pu (bn cQ pN (ah 0))) h λo9 h=>Pu (pk ml o9 (aQ av)) h λr2 h=>b1 r2 (lN oD (fo ⟨#[90]⟩) h)<|lN oD nk h)<|lN (S cv) (fo ⟨#[]⟩) h:=by
 by_cases fC:0<U cv/\(g cv (U cv-1)=90\/g cv (U cv-1)=122)
 .have aV:=ad (bf (U cv-1) cv) [90] (by unfold zoneS;rw[aA fC]) (by simp;omega) a1;obtain⟨aI,gg⟩:=fC;have E6:=dZ cv (U cv-1);rcases gg with gg|gg
  .refine aR ?_;exact aV
  .refine aR ?_;exact aV
 .by_cases j6:6<U cv/\(g cv (U cv-6)=43\/g cv (U cv-6)=45)/\g cv (U cv-3)=58
  .have zq:zoneS cv=(match two (ax (U cv-5) (bf (U cv-3) cv)),two (ax (U cv-2) cv) with
    |J h,J m=>if 23<h\/59<m then ab else J (bf (U cv-6) cv,if h=0/\m=0 then[90] else ax (U cv-6) cv)
    |_,_=>ab):=by unfold zoneS;rw[ak fC,aA j6]
   obtain⟨aI,uh,s8⟩:=j6;have awV:¬g cv (U cv-1)=90:=λe=>fC ⟨I,bF e⟩;have awQ:¬g cv (U cv-1)=122:=λe=>fC ⟨I,bt e⟩;have sN:U (ax (U cv-5) (bf (U cv-3) cv))<=18:=by simp;omega
   have hp:U (ax (U cv-2) cv)<=18:=by simp;omega
   have Uh:bn fG (ah (-1)) (ah 0)=J (aQ ai):=rfl;have aaz:bn cQ (bu (g cv (U cv-6):Int)) (bu 43)=J (aQ (decide (g cv (U cv-6)=43))):=apP (n:=43);have main:bD 64 [S (ax (U cv-5) (bf (U cv-3) cv))] h λiZ h=>bD 64 [S (ax (U cv-2) cv)] h λju h=>Pu (bn fG iZ (ah 0)) h λoC h=>a0 oC av (λh k=>k iZ h) h λnj h=>a0 oC av (Pu (bn hf nj (ah 23))) h λl2 h=>Pu (pk oC (aQ ai) l2) h λko h=>a0 ko av (λh k=>k ju h) h λmN h=>a0 ko av (Pu (bn fG mN (ah 0))) h λkQ h=>Pu (pk ko (aQ ai) kQ) h λlg h=>a0 lg av (λh k=>k ju h) h λoa h=>a0 lg av (Pu (bn hf oa (ah 59))) h λnR h=>Pu (pk lg (aQ ai) nR) h λmO h=>b1 mO (X h)<|
     Pu (bn .sub (ah (U cv)) (ah 6)) h λrl h=>Pu (sls (S cv) ab (J rl)) h λoD h=>Pu (bn .sub (ah (U cv)) (ah 6)) h λrm h=>Pu (sls (S cv) (J rm) ab) h λnk h=>Pu (bn cQ iZ (ah 0)) h λml h=>a0 ml ai (λh k=>k ju h) h λpN h=>a0 ml ai (Pu (bn cQ pN (ah 0))) h λo9 h=>Pu (pk ml o9 (aQ av)) h λr2 h=>b1 r2 (lN oD (fo ⟨#[90]⟩) h)<|lN oD nk h:=by
    refine od sN (λx ae tp=>od hp (λy a2 x7=>?_) λa2=>?_) λae=>od hp (λy a2 x7=>?_) λa2=>?_
    .rw[ae,a2] at zq;simp only at zq;have cg:(23<x\/59<y)->X h:=λa=>aa al;have cJ:¬(23<x\/59<y)->lN (S (bf (U cv-6) cv)) (S (if x=0/\y=0 then[90] else ax (U cv-6) cv)) h:=λa=>ad _ _ al (by simp;omega) al;have eP:¬(23<x\/59<y)->x=0->y=0->lN (S (bf (U cv-6) cv)) (S [90]) h:=λa bH cq=>al
     have hc:¬(23<x\/59<y)->¬(x=0/\y=0)->lN (S (bf (U cv-6) cv)) (S (ax (U cv-6) cv)) h:=λa bH=>al
     clear cJ aa ad zq;refine aR ?_;grind
    .rw[ae,a2] at zq;refine bG Uh ?_;grind
    .rw[ae] at zq;refine bG Uh ?_;exact aa zq
    .rw[ae] at zq;refine bG Uh ?_;exact aa zq
   clear aa ad zq;refine bG aaz ?_;with_reducible repeat' first|refine⟨?_,?_⟩|intro
   all_goals first
    |exact main
    |(exfalso;omega)
  .have aV:=ad cv [] (by unfold zoneS;rw[ak fC,ak j6]) au a1;clear aa ad;by_cases aI:0<U cv
   .have awV:¬g cv (U cv-1)=90:=λe=>fC ⟨aI,bF e⟩;have awQ:¬g cv (U cv-1)=122:=λe=>fC ⟨aI,bt e⟩;refine aR ?_;grind
   .refine aR ?_;exact aV
def ao3{X Y:H->Prop}(au:U l<=400)(aa:(2<U l/\g l 2=58)->X h)(ad:¬(2<U l/\g l 2=58)->Y h):Pu (q3 (S l)) h λv2 h=>Pu (bn hf v2 (ah 2)) h λdD h=>a0 dD ai (λh k=>k (S l) h) h λv4 h=>a0 dD ai (Pu (ixs v4 (ah 2))) h λfI h=>a0 dD ai (Pu (bn cQ fI (bu 58))) h λv6 h=>Pu (pk dD v6 (aQ av)) h λhH h=>b1 hH (X h) (Y h):=by
 have i2:2<U l->ixs (S l) (ah 2)=J (bu (g l 2:Int)):=λh=>m3 (i:=2) h;refine bG i2 ?_;grind
def ajz(au:U l<=400)(q:∀h',aB h h'->R (ael (moment l)) h'):bo 65 [S l] h R:=by
 apply amA;rw[gE];have bP:aB h (a6 h (aO (aZ (Z 28)) 28)):=aB.push _ _;have kb:(a6 h (aO (aZ (Z 28)) 28))[ag h]?=J (aO (aZ (Z 28)) 28):=mK;generalize a6 h (aO (aZ (Z 28)) 28)=cn at*;have gJ:ag (aZ (Z 28))=6:=by rw[j9];rfl
 have dz:ag h<=ag h:=bQ _;generalize abF:ag h=cg at kb dz;have v1:∀g,aB cn g->g[cg]?=J (aO (aZ (Z 28)) 28):=λg e=>by rw[e.2 _ (cm.1 kb).1];exact kb
 have fin:∀(kd:Nat) s (sd:Nat) g,moment l=(kd,s,sd)->aB cn g->bZ 6 (aN cg) (g5 kd 0 0 s) g λ_ h=>cO 6 (aN cg) h λv _=>R (bA #[v,ah sd]) h:=λkd s sd g hm e=>
  HG (h:=h) (bP.trans e) (v1 g e) gJ I λg' c'=>by have:=q g' c';rw[hm] at this;exact this
 have bad:∀g,moment l=(0,[],1)->aB cn g->Bd (Z 28) [] g λv h=>bZ 6 (aN cg) v h λ_ h=>cO 6 (aN cg) h λv _=>R (bA #[v,ah 1]) h:=λg hm e=>by
  rw[yD];grind
 have oU:moment l=moment l:=rfl;conv at oU=>rhs;unfold moment
 clear kb;have i2:2<U l->ixs (S l) (ah 2)=J (bu (g l 2:Int)):=λh=>m3 (i:=2) h;have i10:10<U l->ixs (S l) (ah 10)=J (bu (g l 10:Int)):=λh=>m3 (i:=10) h;have afQ:10<=U l->sls (S l) ab (J (ah 10))=J (S (bf 10 l)):=λh=>DI (j:=10) h;have azc:11<=U l->sls (S l) (J (ah 11)) ab=J (S (ax 11 l)):=λh=>zL (i:=11) h;refine ao3 au (λc1=>?_) λc1=>?_
 .rw[aA c1] at oU;refine Xr au ?_;refine aR ?_;refine(Pc (kind:=7) (s:=(clock l).1)).mpr ?_;exact fin 7 _ _ cn oU (aB.refl _)
 rw[ak c1] at oU;by_cases c2:U l<10
 .rw[aA (bF c2)] at oU;refine aR ?_;exact bad cn oU (aB.refl _)
 refine bG afQ ?_;have auZ:U (bf 10 l)<=400:=by simp;omega
 refine Xj auZ (λaG ct aw=>?_) λaG ct aw=>?_;rotate_left
 .rw[aA (bt aG)] at oU;refine aR ?_;grind
 rw[ak al] at oU;by_cases cy:U l=10
 .rw[aA cy] at oU;refine aR ?_;refine(Pc (kind:=6) (s:=l)).mpr ?_;exact fin 6 _ _ ct oU aw
 rw[ak cy] at oU;refine dG i10 azc ?_;have Tk:(¬g l 10=84->¬g l 10=116->¬g l 10=32->Bd (Z 28) [] ct λv h=>bZ 6 (aN cg) v h λ_ h=>cO 6 (aN cg) h λv _=>R (bA #[v,ah 1]) h):=λb_ cp fB=>by
  grind
 have IW:U (ax 11 l)<=390:=by simp;omega
 have aFq:U (ax 11 l)=U l-11:=a1
 with_reducible repeat' first|refine⟨?_,?_⟩|intro
 .grind
 all_goals
  clear Tk;rw[ak I] at oU;generalize ax 11 l=cv at*;refine rv (λu w g'=>∃r z,u=S r/\w=S z/\g'=ct/\zoneS cv=J (r,z)/\U r<=390/\U z<=6) (λM cM=>?_) ?_
  .exact aBv IW (λaI=>bad ct (by rw[oU,aI]) aw) λr z aV aa ad=>cM _ _ _ ⟨r,z,rfl,rfl,rfl,aV,aa,ad⟩
  .rintro u w g' ⟨r,z,rfl,rfl,rfl,aV,hN,FQ⟩;rw[aV] at oU;simp only at oU;refine Xr I ?_;have eS:=ao1 r;have aFz:U (bf 10 l)=10:=by simp;omega
   have aFG:U ([84]:B)=1:=rfl;have aFA:U (bf 10 l++[84])=11:=al
   have av9:U (bf 10 l++[84]++(clock r).1)=11+U (clock r).1:=al
   refine bG afQ ?_;refine(Pc (kind:=5) (s:=bf 10 l++[84]++(clock r).1++z)).mpr ?_;unfold g5;rw[h7 (n:=6) gJ rfl rfl];refine⟨λTy=>?_,λTy=>?_⟩
   .rw[tQ rfl rfl a1,jK (n:=6) rfl aE];rw[ak Ty] at oU;exact fin 4 _ _ _ oU (aw.trans (aB.push _ _))
   .rw[jK (n:=6) rfl aE];rw[aA (BU Ty)] at oU;exact fin 5 _ _ _ oU (aw.trans (aB.push _ _))
end
