/- A part of the proof of FnTomlReadCardSaid: for every string the law FnTomlRead returns true. Conditions: those of the given row and card, no others. -/
import Derived.Test.YteonbmabmhoffaaGreatDoorA08
open Option renaming some->J,none->ab
open Bool renaming true->ai,false->av
open Go renaming Value->ao
open Go.Obj renaming cells->aO
open Go.Value renaming bool->aQ,slice->a5,int->ba,tuple->bA,pointer->bU,agg->cA,float->cU,nilIface->cR,iface->cW,string->fo
open Or renaming inl->bF,inr->bt
open Go.BinOp renaming lss->fG,neq->hF,gtr->hf
open List renaming length->U,toArray->aZ,drop->ax,take->bf
open Array renaming size->ag,toList->bC,push->a6,setIfInBounds->dy
namespace Go.Proofs.YteonbmabmhoffaaGreatDoor.F
set_option linter.all false
set_option autoImplicit true
set_option relaxedAutoImplicit true
set_option maxRecDepth 100000
set_option maxHeartbeats 4000000
noncomputable section
def yo(es:List (B×bL)):bL:=.mk 9 0 0 [] ((es.foldl kD []).map Prod.fst) ((es.foldl kD []).map Prod.snd)
section
variable{h G X lQ:H}{R:K}{b o n dK gz:Nat}{v:ao}{L:List ao}{ro:Option Nat}{own:cH}
def afH(aF:b2 h v 6 L ro)(hD:U L=6*n):∀k:Nat,k<n->∃A:Addr,ia 6 v (ah (k:Int))=J (bU (J A))/\A.block<ag h/\∀(K:F.K) (h':H),aB h h'->cO 6 (bU (J A)) h' K=K (cA (aZ (bf 6 (ax (6*k) L)))) h':=by
 intro k aq;obtain⟨_,gj⟩:=Jx aF hD;obtain⟨a,bE,cE⟩:=gj k aq;cases ro with
 |none=>
  obtain⟨_,rfl⟩:=aF;grind
 |some r=>
  have hN:=aF.lt;obtain⟨len,cap,c,t,rfl,aa,ad,an,aT,bN⟩:=aF;have ME:=bE;simp only[ia,pU] at ME;split at ME
  .cases ME;exact⟨_,bE,by rw[(@Hc r (k*6)).1];exact hN,cE⟩
  .cases ME
def av0(fO:lQ[A.block]?=X[A.block]?)(af:lQ[b]?=X[b]?):wN [(.pointer (J A),dK),(.pointer (J ⟨b,o,ab⟩),gz)] X lQ:=by
 have rF:∀(A:Addr) i,(A.add i).block=A.block:=λA i=>by unfold Addr.add;grind
 refine⟨λi _ v aD=>?_,λi _ v aD=>?_,trivial⟩
 .simp only[rd,rF] at aD⊢;grind
 .simp only[rd,rF] at aD⊢;grind
def avH{j:Nat}{ke:ao}{c:Array ao}{t2:Nat}{key:B}{X Y:H->Prop}(af:G[b]?=J (aO c t2))(ay:c[4]?=J ke)(aF:∀bI (g8:bI<U acc),j=bI+1->∃a,ia 1 ke (ah (bI:Int))=J a/\∀K:F.K,cd a G K=K (S acc[bI].1) G)(aC:j<=U acc)(au:U acc<=10000)
  (aa:∀bI,j=bI+1->insPos key acc j=insPos key acc bI->X G) (ad:insPos key acc j=j->Y G):Pu (bn hf (ah (j:Int)) (ah 0)) G λiH h=>a0 iH ai (Pu (fd 4 (aN b))) h λkO h=>a0 iH ai (cd kO) h λnQ h=>a0 iH ai (λh k=>k (ah (j:Int)) h) h λn' h=>a0 iH ai (Pu (bn .sub n' (ah 1))) h λnd h=>a0 iH ai (Pu (ia 1 nQ nd)) h λkk h=>a0 iH ai (cd kk) h λnf h=>a0 iH ai (λh k=>k (S key) h) h λmf h=>a0 iH ai (Pu (bn hf nf mf)) h λmg h=>Pu (pk iH mg (aQ av)) h λng h=>b1 ng (X h) (Y h):=by
 have tc:fd 4 (aN b)=J (bU (J ⟨b,4,ab⟩)):=rfl;cases j with
 |zero=>
  have xe:bn hf (ah (0:Nat)) (ah 0)=J (aQ av):=rfl;refine bG xe ?_;exact ad rfl
 |succ j=>
  have a':j<U acc:=I
  obtain⟨bx,hW,mW⟩:=aF j a' rfl;have es:bn .sub (ah (j+1:Nat)) (ah 1)=J (ah j):=m' (a:=j+1) (b:=1) I I;have fC:bn hf (ah (j+1:Nat)) (ah 0)=J (aQ ai):=by
   simp only[bn];simp_all
  have ly:insPos key acc (j+1)=if wa acc[j].1 key then insPos key acc j else j+1:=by rw[insPos,h5 a'];rfl
  rw[fC];refine xb tc (c4 af) ay es hW mW @Mo @Mo ?_;cases aX:wa acc[j].1 key with
  |true=>
   refine aR ?_;grind
  |false=>
   refine aR ?_;grind
def xn.down(aC:j<U acc)(d:xn h G own acc (j+1) ke k5 acc[j].1 cs (bf 6 (ax (6*j) cs)) b_ cp):xn h G own acc j ke k5 acc[j].1 cs (bf 6 (ax (6*j) cs)) b_ cp:=by
 have au:=d.cl;have hm:j<U ((acc.map Prod.fst).map S):=al
 have aw:bf (j+1) ((acc.map Prod.fst).map S)=bf j ((acc.map Prod.fst).map S)++[S acc[j].1]:=by rw[Wt hm];simp
 have ar:ax j ((acc.map Prod.fst).map S)=[S acc[j].1]++ax (j+1) ((acc.map Prod.fst).map S):=by rw[tJ hm];simp
 have aS:bf ((j+1)*6) cs=bf (j*6) cs++bf 6 (ax (6*j) cs):=al
 have bl:ax (j*6) cs=bf 6 (ax (6*j) cs)++ax ((j+1)*6) cs:=by rw[(I:(j+1)*6=j*6+6),(I:6*j=j*6),<-tI,O4]
 have aq:=d.m4;have az:=d.IZ;rw[aw,Wm,<-ar] at aq;rw[aS,Wm,<-bl] at az;exact⟨d.ex,d.sz,d.v1,d.dD,aq,az,d.dl,d.NY,d.aeV,d.cl,d.it,d.fj,d.h2,d.ne⟩
def ajm{ks:List B}{fi:List bL}{dk bx:ao}{LF:List ao}(aq:b2 h dk 1 (ks.map S) rV)(az:b2 h bx 6 LF Ju)(eS:U LF=6*U fi)(FE:ones LF=ai)(hlen:U ks=U fi)(qW:∀n t,fi[n]?=J t->gd own h (cA (aZ (bf 6 (ax (6*n) LF)))) t)
  (aG:∀b x,own b=J x->b<ag h) (au:U ks<=5000) (q:∀h' v,aB h h'->gd own h' v (yo (ks.zip fi))->R v h'):bo 39 [dk,bx] h R:=by
 apply amb;rw[gE];obtain⟨Fx,_⟩:=j1 aq;rw[oE] at Fx;have gJ:ag (aZ (Z 33))=6:=by rw[oK];rfl
 have aoE:∀h K,Bd (Z 33) [(0,1,bu 9)] h K=K (cA #[bu 9,ah 0,a4 0,S [],bY,bY]) h:=λh K=>by rw[oK];rfl
 have wF:ag (a6 h (aO (aZ (Z 33)) 33))=ag h+1:=a1
 refine bG aoE ?_;rw[h7 (n:=6) gJ rfl rfl,wF];have aw:aB h (a6 (a6 h (aO (aZ (Z 33)) 33)) (aO #[bu 9,ah 0,a4 0,S [],bY,bY] 33)):=(aB.push _ _).trans (aB.push _ _);have kb:(a6 (a6 h (aO (aZ (Z 33)) 33)) (aO #[bu 9,ah 0,a4 0,S [],bY,bY] 33))[ag h]?=J (aO (aZ (Z 33)) 33):=rU;have De:(a6 (a6 h (aO (aZ (Z 33)) 33)) (aO #[bu 9,ah 0,a4 0,S [],bY,bY] 33))[ag h+1]?=J (aO #[bu 9,ah 0,a4 0,S [],bY,bY] 33):=al
 have te:ag (a6 (a6 h (aO (aZ (Z 33)) 33)) (aO #[bu 9,ah 0,a4 0,S [],bY,bY] 33))=ag h+2:=a1
 generalize a6 (a6 h (aO (aZ (Z 33)) 33)) (aO #[bu 9,ah 0,a4 0,S [],bY,bY] 33)=ct at*;have tc:fd 4 (aN (ag h+1))=J (bU (J ⟨ag h+1,4,ab⟩)):=rfl;have zf:fd 5 (aN (ag h+1))=J (bU (J ⟨ag h+1,5,ab⟩)):=rfl;refine bG Fx ?_;refine eV (λm v ae=>∃(k:Nat) (acc:List (B×bL)) (ke k5:ao) (je e7:Option Nat) (cs:List ao),v=ah k/\k<=U ks/\aB h ae/\ag h+2<=ag ae/\(∃c1,ae[ag h]?=J (aO c1 33)/\ag c1=6)/\ae[ag h+1]?=J (aO #[bu 9,ah 0,a4 0,S [],ke,k5] 33)/\b2 ae ke 1 ((acc.map Prod.fst).map S) je/\b2 ae k5 6 cs e7/\
  (∀r,je=J r->ag h+2<=r/\e7≠J r)/\(∀r,e7=J r->ag h+2<=r)/\ones cs=ai/\U cs=6*U acc/\(∀n x,acc[n]?=J x->gd own h (cA (aZ (bf 6 (ax (6*n) cs)))) x.2)/\acc=(bf k (ks.zip fi)).foldl kD []/\U acc=k/\m=U ks-k) (U ks)
  ⟨0,[],bY,bY,ab,ab,[],rfl,ed _,aw,I,⟨_,kb,gJ⟩,De,⟨rfl,rfl⟩,⟨rfl,rfl⟩,λr aF=>(by cases aF),λr aF=>(by cases aF),rfl,rfl,λn x aI=>(by simp at aI),rfl,rfl,rfl⟩ ?_
 rintro m _ v G N ⟨k,acc,ke,k5,je,e7,cs,rfl,lA,nv,Mx,⟨xB,sr,wi⟩,qj,il,e4,zo,q0,M5,asF,Ir,xM,jS,rfl⟩ a7;by_cases a':k<U ks
 .have ats:b2 G dk 1 (ks.map S) rV:=aq.at λr er=>by subst er;exact nv.2 r aq.lt
  obtain⟨_,TX⟩:=j1 ats;obtain⟨cg,dz,mW⟩:=TX k (S ks[k]) al;obtain⟨A,fO,aDV,R6⟩:=afH az eS k I;have gR:=qW k fi[k] (h5 I);obtain⟨c6,oo,CZ,wj⟩:=gR.oi;rw[oo] at gR;simp only[oo] at R6;obtain⟨It,_⟩:=j1 il;rw[oE,oE] at It;refine vE dz mW tc (c4 qj) It ?_;refine⟨λae=>∃cL fz d6 b_ cp,xn h ae own acc (U acc) cL fz ks[k] cs d6 b_ cp,λd ae cr=>?_,?_⟩
  .obtain⟨cL,fz,d6,b_,cp,te⟩:=cr;refine eV (λm v ae=>∃(j:Nat) (hO tu:ao) (y:B) (d6:List ao),v=ah j/\j<=U acc/\xn h ae own acc j hO tu y cs d6 b_ cp/\insPos ks[k] acc j=insPos ks[k] acc (U acc)/\m=j) (U acc) ⟨U acc,cL,fz,_,d6,by rw[jS],bQ _,te,rfl,rfl⟩ ?_;rintro j _ v ae Af ⟨_,hO,tu,y,d6,rfl,aC,aX,zi,rfl⟩ rD;have sv:∀bI (g8:bI<U acc),bI<j->∃a,ia 1 hO (ah bI)=J a/\∀K,cd a ae K=K (S acc[bI].1) ae:=λbI g8 SR=>by
    obtain⟨_,gj⟩:=j1 aX.m4;exact gj bI _ al
   refine avH aX.dD rfl (λbI g8 wx=>sv bI g8 I) aC I (λbI wx ly=>?_) λly=>?_
   .subst wx;have g8:bI<U acc:=I
    obtain⟨aCF,ar7,arK⟩:=sv bI g8 I;have My:U (bf ((bI+1)*6) cs++(d6++ax ((bI+1)*6) cs))=6*(U acc+1):=by
     have:=aX.cl;simp only[r8,yv,ix,aX.dl];omega
    obtain⟨iJ,arx,_,abo⟩:=afH aX.IZ My bI I;have xP:(bf 6 (ax (6*bI) (bf ((bI+1)*6) cs++(d6++ax ((bI+1)*6) cs))))=bf 6 (ax (6*bI) cs):=by
     grind
    rw[xP] at abo;have at2:ones (bf 6 (ax (6*bI) cs))=ai:=by
     have:=(aX.it bI acc[bI] (h5 g8)).oi;obtain⟨c,ay,_,aH⟩:=this;grind
    have Fv:U (bf 6 (ax (6*bI) cs))=6:=al
    have es:bn .sub (ah (bI+1:Nat)) (ah 1)=J (ah bI):=m' (a:=bI+1) (b:=1) I I;obtain⟨eb,gS,dE,dV,e_⟩:=aX.set (y':=acc[bI].1) (e6:=bf 6 (ax (6*bI) cs)) (K:=λg=>Af (ah bI) g) aC Fv at2 λfJ td=>rD bI _ _ I ⟨bI,hO,tu,_,_,rfl,I,td.down g8,I,rfl⟩;(simp-implicitDefEqProofs+contextual (disch:=omega) only[go_sem,tc,zf,fs aX.dD,es,ar7,arK,arx,abo _ ae (aB.refl _),dE,dV];try refine c8 ?_)
    exact e_
   .rw[ly] at zi;have abM:U (bC c6)=6:=I
    obtain⟨eb,gS,dE,dV,e_⟩:=aX.set (y':=ks[k]) (e6:=bC c6) (K:=λg=>N (ah (k+1:Nat)) g) aC abM wj λfJ td=>by
     have SM:((kD acc (ks[k],fi[k])).map Prod.fst).map S=bf j ((acc.map Prod.fst).map S)++([S ks[k]]++ax j ((acc.map Prod.fst).map S)):=by
      unfold kD;rw[show insPos (ks[k],fi[k]).1 acc (U acc)=j from zi.symm];simp only[rr,kp,Wr,ahx];rfl
     have ab8:(kD acc (ks[k],fi[k])).map Prod.snd=bf j (acc.map Prod.snd)++fi[k]::ax j (acc.map Prod.snd):=by
      unfold kD;rw[show insPos (ks[k],fi[k]).1 acc (U acc)=j from zi.symm];simp only[rr,kp,Wr,ahx]
     have aEy:U (kD acc (ks[k],fi[k]))=U acc+1:=by
      unfold kD;rw[show insPos (ks[k],fi[k]).1 acc (U acc)=j from zi.symm];simp;omega
     have Sr:=chunks (Q:=λc t=>gd own h (cA (aZ c)) t) (cs:=cs) (c6:=bC c6) (fi:=acc.map Prod.snd) (a:=j) (tt:=fi[k]) al abM al
      (λn t aI=>by
       grind) I
     have M4:∀{a b:List ao},ones (a++b)=(ones a&&ones b):=by
      intro a b;induction a with
      |nil=>rfl
      |cons x a bR=>simp only[uM,ones,bR,Wj]
     refine a7 _ _ _ I ⟨k+1,kD acc (ks[k],fi[k]),hO,tu,J b_,J cp,_,rfl,a',td.ex,td.sz,td.v1,td.dD,by rw[SM];exact td.m4,td.IZ,λr er=>by cases er;exact⟨td.fj,λe=>td.ne (en e).symm⟩,λr er=>by cases er;exact td.h2,?_,?_,λn x aI=>?_,?_,I,rfl⟩
     .have aa:=M5;rw[<-O4 (j*6) cs,M4,pf] at aa;grind
     .grind
     .grind
     .have aV:k<U (ks.zip fi):=al
      rw[Wt aV,ahv,<-xM,List.getElem_zip];rfl
    (simp-implicitDefEqProofs+contextual (disch:=omega) only[go_sem,tc,zf,fs aX.dD,fO,R6 _ ae aX.ex,dE,dV];try refine c8 ?_)
    exact e_
  .generalize abn:(λae=>∃cL fz d6 b_ cp,xn h ae own acc (U acc) cL fz ks[k] cs d6 b_ cp)=z';have qk:∀ae cL fz d6 b_ cp,xn h ae own acc (U acc) cL fz ks[k] cs d6 b_ cp->z' ae:=λae cL fz d6 b_ cp aX=>al
   have ay6:∀r,je=J r->r<ag G:=λr er=>by subst er;exact il.lt
   have Vh:∀r,e7=J r->r<ag G:=λr er=>by subst er;exact e4.lt
   have ap3:∀oh cL fz (b_ cp:Nat),aB h oh->ag G<=ag oh->oh[ag h]?=J (aO xB 33)->oh[ag h+1]?=J (aO #[bu 9,ah 0,a4 0,S [],ke,k5] 33)->b2 oh cL 1 ((acc.map Prod.fst).map S++[S ks[k]]) (J b_)->b2 oh fz 6 (cs++bC c6) (J cp)->b_≠cp->ag h+2<=b_->ag h+2<=cp->
     bZ 1 (bU (J ⟨ag h+1,4,ab⟩)) cL oh λ_ y8=>Pu (fd 5 (aN (ag h+1))) y8 λg2 h=>bZ 1 g2 fz h λ_ h=>z' h:=by
    intro oh cL fz b_ cp ex aE8 kb Nk C5 zj bk oV kY;obtain⟨gu,gD⟩:=kJ C5;obtain⟨pc,sR⟩:=kJ zj;refine fx (o:=4) Nk a1 gu gD λPX dt wh=>?_;change PX[ag h+1]?=J (aO #[bu 9,ah 0,a4 0,S [],cL,k5] 33) at wh;rw[zf,bs];refine fx (o:=5) wh a1 pc sR λPY e6 AQ=>?_;change PY[ag h+1]?=J (aO #[bu 9,ah 0,a4 0,S [],cL,fz] 33) at AQ;have pI:=dt.1;have q8:=e6.1;have Bi:∀b,b<ag oh->b≠ag h+1->PY[b]?=oh[b]?:=λb af bk=>by rw[e6.2 b I (λe=>bk (en e)),dt.2 b af (λe=>bk (en e))]
    have c3:U ((acc.map Prod.fst).map S)=U acc:=al
    refine qk PY cL fz (bC c6) b_ cp ⟨⟨I,λb af=>by rw[Bi b I I];exact ex.2 b af⟩,I,⟨xB,al,wi⟩,AQ,?_,?_,I,wj,M5,asF,Ir,oV,kY,bk⟩
    .rw[xg I,iu I,aht];exact C5.at λr er=>by cases er;exact Bi _ C5.lt I
    .rw[xg I,iu I,aht];exact zj.at λr er=>by cases er;exact Bi _ zj.lt I
   have TF:∀h8 (bi tg:Nat) cL (b_:Nat),aB h h8->ag G<=ag h8->h8[ag h]?=J (aO xB 33)->h8[ag h+1]?=J (aO #[bu 9,ah 0,a4 0,S [],ke,k5] 33)->b2 h8 cL 1 ((acc.map Prod.fst).map S++[S ks[k]]) (J b_)->b2 h8 k5 6 cs e7->h8[bi]?=J (aO c6 tg)->e7≠J b_->ag h+2<=b_->
     Ap 33 6 88 (Z 33) k5 (a5 (J ⟨bi,0,ab⟩) 1 1) h8 λf' CV=>bZ 1 (bU (J ⟨ag h+1,4,ab⟩)) cL CV λ_ y8=>Pu (fd 5 (aN (ag h+1))) y8 λg2 h=>bZ 1 g2 f' h λ_ h=>z' h:=by
    intro h8 bi tg cL b_ ex aE7 kb Nk C5 zj MI bk oV;refine aoo MI CZ wj zj I λfz oh zI bl SJ Td=>?_;obtain⟨cp,k3,avc,avb⟩:∃cp,zI=J cp/\ag h+2<=cp/\cp≠b_:=by
     rcases Td with e|⟨r,e,aF⟩
     .cases dF:e7 with
      |none=>
       rw[e,dF] at SJ;have:=SJ.2;have rJ:U (cs++bC c6)=0:=al
       grind
      |some r=>grind
     .exact⟨r,e,I,λar=>by have:=C5.lt;omega⟩
    subst k3;have jf:=bl.1;have jB:∀b,b<ag h+2->oh[b]?=h8[b]?:=λb af=>bl.2 b I (λe=>al);exact ap3 oh cL fz b_ cp ⟨I,λb af=>by rw[jB b I];exact ex.2 b af⟩ I al al (C5.at λr er=>by cases er;exact bl.2 _ C5.lt (λe=>bk e.symm)) SJ (λe=>avb e.symm) oV avc
   have TO:∀qK (vV:Nat) K,aB G qK->qK[vV]?=J (aO #[S ks[k]] 9)->(∀ch h8 b_,bV je qK h8->b2 h8 ch 1 ((acc.map Prod.fst).map S++[S ks[k]]) (J b_)->ag h+2<=b_->e7≠J b_->K ch h8)->yB 9 1 16 (Z 9) ke (a5 (J ⟨vV,0,ab⟩) 1 1) [(bU (J A),6),(bU (J ⟨ag h+1,5,ab⟩),1)] qK K:=by
    intro qK vV K ex Sk cE;have s2:=ex.1;have M_:b2 qK ke 1 ((acc.map Prod.fst).map S) je:=il.at λr er=>ex.2 r (ay6 r er);unfold yB;refine aop Sk M_ (by simp;omega) λch h8 yh aS lX auG=>?_;have eI:∀b,b<ag h+2->h8[b]?=qK[b]?:=λb af=>aS.2 b I (λe=>al);refine⟨av0 (eI _ I) (eI _ I),?_⟩;obtain⟨b_,kc,aFj,aFi⟩:∃b_,yh=J b_/\ag h+2<=b_/\e7≠J b_:=by
     rcases auG with e|⟨r,e,aF⟩
     .cases dF:je with
      |none=>
       rw[e,dF] at lX;have:=lX.2;have rJ:=mQ List.length this;simp at rJ
      |some r=>grind
     grind
    grind
   have mid:∀qK h8,aB G qK->bV je qK h8->aB h h8/\ag G<=ag h8/\h8[ag h]?=J (aO xB 33)/\h8[ag h+1]?=J (aO #[bu 9,ah 0,a4 0,S [],ke,k5] 33)/\b2 h8 k5 6 cs e7:=by
    intro qK h8 ar aS;have s2:=ar.1;have dB:=aS.1;have eI:∀b,b<ag h+2->h8[b]?=G[b]?:=λb af=>by rw[aS.2 b I (λe=>al),ar.2 b I]
    refine⟨⟨I,λb af=>by rw[eI b I];exact nv.2 b af⟩,I,al,al,e4.at λr er=>?_⟩;have:=Vh r er;rw[aS.2 r I (λe=>(zo r e.symm).2 er),ar.2 r this]
   rw[tc,bs,fs qj];change Pu (J ke) G _;rw[bs,zf,bs,fs qj];change Pu (J k5) G _;rw[bs,fO,bs,R6 _ G nv];refine⟨?_,?_⟩
   .rw[Y8];have eb:=aB.push G (aO #[S ks[k]] 9);refine⟨?_,?_⟩
    .refine TO _ (ag G) _ eb (dS _ _) λch h8 b_ aS lX oV bk=>?_;obtain⟨dK,gz,k8,x',zy⟩:=mid _ h8 eb aS;rw[bs,Ql CZ];have o5:=aB.push h8 (aO c6 33);exact TF _ (ag h8) 33 ch b_ (dK.trans o5) (by simp;omega) al al (lX.at λr er=>by cases er;exact o5.2 _ lX.lt) (zy.at λr er=>al) (dS _ _) bk oV
    .rw[Ql CZ];have gS:=eb.trans (aB.push _ (aO c6 33));refine TO _ (ag G) _ gS rU λch h8 b_ aS lX oV bk=>?_;obtain⟨dK,gz,k8,x',zy⟩:=mid _ h8 gS aS;rw[bs];refine TF h8 _ 33 ch b_ dK gz k8 x' lX zy ?_ bk oV;rw[aS.2 _ a1 (λe=>al)];grind
   .rw[Ql CZ,Y8];have gS:=(aB.push G (aO c6 33)).trans (aB.push _ (aO #[S ks[k]] 9));refine TO _ _ _ gS (dS _ _) λch h8 b_ aS lX oV bk=>?_;obtain⟨dK,gz,k8,x',zy⟩:=mid _ h8 gS aS;rw[bs];refine TF h8 (ag G) 33 ch b_ dK gz k8 x' lX zy ?_ bk oV;rw[aS.2 _ (by simp;omega) (λe=>al)];exact rU
 .have Ft:k=U ks:=I
  refine aR ?_;rw[mS (n:=5) qj rfl];refine s0 (n:=5) (k:=λh v _=>R v h) sr wi rfl (by show(ai&&(ai&&(ai&&(ai&&(one _&&(one _&&ai))))))=ai;rw[(kJ il).2,(kJ e4).2];rfl) λh' ar=>q h' _ (bV.fe nv ar λr aF=>al) ?_;have uc:aB h h':=bV.fe nv ar λr aF=>al
  have aeX:∀r,ag h+2<=r->own r=ab:=λr aF=>by
   cases aH:own r with
   |none=>rfl
   |some x=>grind
  have Se:acc=(ks.zip fi).foldl kD []:=by rw[xM,Ft,xg al]
  have ou:gd own h' (cA #[bu 9,ah 0,a4 0,S [],ke,k5]) (.mk 9 0 0 [] (acc.map Prod.fst) (acc.map Prod.snd)):=
   gd.mk (k:=9) (i:=0) (b:=0) (s:=[]) ⟨je,il.at λr er=>by subst er;exact ar.2 r il.lt (λe=>al),λr aF=>aeX r (zo r aF).1⟩ ⟨e7,e4.at λr er=>by subst er;exact ar.2 r e4.lt (λe=>al),λr aF=>aeX r (q0 r aF)⟩ al al λn t aI=>by
    rw[D4] at aI;cases ae:acc[n]? with
    |none=>grind
    |some x=>
     rw[ae] at aI;cases aI;exact(Ir n x ae).kF (λb af _=>uc.2 b af) λ_ _ aH=>aH
  rw[Se] at ou;exact ou
end
section
variable{h X:H}{K:K}{v:ao}{keys:List B}{ro:Option Nat}
def aeW:∀ks:List B,ones (ks.map S)=ai
 |[]=>rfl
 |k::ks=>by simp only[kp,ones,aeW ks];rfl
def TN(e:aB X lQ):∀E:List (ao×Nat),wN E X lQ
 |[]=>trivial
 |(p,m)::r=>by
  refine⟨?_,TN e r⟩;split
  .exact λi _ v aD=>e.rd aD
  .trivial
def WH{k b:Nat}{s:B}(aD:cellsL v=[v]):Bd (Z 28) [(0,1,bu (k:Int)),(1,1,ah i),(2,1,a4 (b:Int)),(3,1,S s),(4,1,v)] X K=K (cA #[bu (k:Int),ah i,a4 (b:Int),S s,v,bY]) X:=by
 rw[j9];unfold Bd;simp only[fillL,aD];rfl
def Zy(aF:b2 X v 1 (keys.map S) ro)(au:U keys<=100000)(jR:∀lQ,aB X lQ->wN E X lQ)(q:∀ch lQ b0,aB X lQ->b2 lQ ch 1 (keys.map S) b0->(∀r,b0=J r->ag X<=r)->K ch lQ):yB 9 1 16 (Z 9) (a5 ab 0 0) v E X K:=by
 unfold yB;have kX:b2 X (a5 ab 0 0) 1 ([]:List ao) ab:=⟨rfl,rfl⟩;cases ro with
 |none=>
  obtain⟨rfl,aq⟩:=aF;refine b2.append (n:=0) (new:=#[]) (M:=[]) kX aE (by rw[tR];rfl) rfl rfl rfl rfl rfl a1 λch h' b0 aw fh dF=>?_;have bP:aB X h':=⟨aw.1,λb af=>aw.2 b af a1⟩;grind
 |some r=>
  obtain⟨n,new,aa,ad,an,aT,bN⟩:=aF.Vu;have lA:U keys=n:=al
  refine b2.append (n:=n) (new:=new) (M:=keys.map S) kX aE (by rw[tR];rfl) aa an aT (aeW _) ad (by simp;omega) λch h' b0 aw fh dF=>?_;have bP:aB X h':=⟨aw.1,λb af=>aw.2 b af a1⟩;grind
end
def Xs(d:gd own h DX t):∀{g:H} {R:K},aB h g->(∀g' ch,aB g g'->gd (old (ag g)) g' ch t->R ch g')->bo 9 [DX] g R:=by
 induction d with
 | @mk k i b s keys items kv iv cs aa ad an aW aT bR=>
  intro g R eQ q;apply amZ;unfold lh;obtain⟨je,cc,_⟩:=aa;obtain⟨e7,cK,_⟩:=ad;obtain⟨_,I7⟩:=Jx cK an;obtain⟨dA,_⟩:=Jx cK an;rw[gE];have ar:aB g (a6 (a6 g (.cells (aZ (cellsL (.agg #[.b k,.i i,.u b,S s,kv,iv]))) 33)) (.cells (aZ (Z 28)) 28)):=(aB.push _ _).trans (aB.push _ _);have cg:(a6 (a6 g (.cells (aZ (cellsL (.agg #[.b k,.i i,.u b,S s,kv,iv]))) 33)) (.cells (aZ (Z 28)) 28))[ag g]?=J (.cells #[.b k,.i i,.u b,S s,kv,iv] 33):=rU;have iD:ag (a6 g (.cells (aZ (cellsL (.agg #[.b k,.i i,.u b,S s,kv,iv]))) 33))=ag g+1:=a1
  have cJ:(a6 (a6 g (.cells (aZ (cellsL (.agg #[.b k,.i i,.u b,S s,kv,iv]))) 33)) (.cells (aZ (Z 28)) 28))[ag g+1]?=J (.cells (aZ (Z 28)) 28):=al
  have gQ:ag (a6 (a6 g (.cells (aZ (cellsL (.agg #[.b k,.i i,.u b,S s,kv,iv]))) 33)) (.cells (aZ (Z 28)) 28))=ag g+2:=a1
  rw[iD];generalize a6 (a6 g (.cells (aZ (cellsL (.agg #[.b k,.i i,.u b,S s,kv,iv]))) 33)) (.cells (aZ (Z 28)) 28)=bd at*;have gJ:ag (aZ (Z 28))=6:=by rw[j9];rfl
  have uc:=eQ.trans ar;have Js:b2 bd kv 1 (keys.map S) je:=cc.at λr er=>by subst er;exact uc.2 r cc.lt
  refine bG (c4 cg) ?_;refine⟨λv ae=>∃hU hO rV,v=aN hU/\aB bd ae/\ag g+2<=hU/\ae[hU]?=J (.cells #[.b k,.i i,.u b,S s,hO,bY] 28)/\b2 ae hO 1 (keys.map S) rV/\(∀r,rV=J r->ag g+2<=r/\r≠hU),λd v ae cr=>?_,?_⟩
  .obtain⟨hU,hO,rV,rfl,ex,za,vg,Na,acJ⟩:=cr;have ka:=ex.1;have aCN:hU<ag ae:=(cm.1 vg).1;have c1:=(ex.2 _ (cm.1 cg).1).trans cg;have c2:=(ex.2 _ (cm.1 cJ).1).trans cJ;have zf:fd 5 (aN hU)=J (.pointer (J ⟨hU,5,ab⟩)):=rfl;have ay5:∀r,rV=J r->r<ag ae:=λr er=>by subst er;exact Na.lt
   refine dG (c4 c1) dA ?_;let lD:cH:=old (ag ae)
   refine eV (λm v a2=>∃(n:Nat) (tu:ao) (ro:Option Nat),v=.i n/\n<=U items/\ag ae<=ag a2/\(∀y,y<ag ae->y≠hU->a2[y]?=ae[y]?)/\a2[hU]?=J (.cells #[.b k,.i i,.u b,S s,hO,tu] 28)/\mR (dX lD ro (0,0)) a2 tu ro (bf n items)/\(∀r,ro=J r->ag ae<=r)/\m=U items-n) (U items)
    ⟨0,bY,ab,rfl,ed _,bQ _,λ_ _ _=>rfl,vg,⟨[],⟨rfl,rfl⟩,rfl,λn t aI=>(by simp at aI)⟩,λr aF=>(by cases aF),rfl⟩ ?_
   rintro m _ v a2 N ⟨n,tu,ro,rfl,aI,aFm,sE,ac8,cr,dF,rfl⟩ a7;have Z_:aB g a2:=⟨I,λy tq=>by rw[sE y I I,ex.2 y I,ar.2 y tq]⟩;have Z':=eQ.trans Z_;by_cases a':n<U items
   .obtain⟨bH,um,g0⟩:=I7 n a';obtain⟨c6,oo,CZ,wj⟩:=(aT n items[n] (h5 a')).oi;have gI:=aT n items[n] (h5 a');have adg:=@bR n items[n] (h5 a');rw[oo] at g0 gI adg;(simp-implicitDefEqProofs+contextual (disch:=omega) only[go_sem,um,g0 _ a2 Z'];try refine c8 ?_)
    have avn:ag (aZ (Z 33))=6:=by rw[oK];rfl
    rw[h7 (n:=6) avn CZ wj];have mr:aB a2 (a6 a2 (.cells c6 33)):=aB.push _ _;have S5:=(mr.2 hU I).trans ac8;have auk:(a6 a2 (.cells c6 33))[ag a2]?=J (.cells c6 33):=dS _ _;have IE:ag (a6 a2 (.cells c6 33))=ag a2+1:=a1
    generalize a6 a2 (.cells c6 33)=aV at*;refine dG zf (c4 S5) ?_;rw[mS (n:=5) auk CZ];refine adg (R:=λv h'=>aB aV h'/\_) (Z'.trans mr) λg' ch c' gR=>⟨c',?_⟩;have es:=c'.1;have auH:∀r,ro=J r->r<ag a2:=λr aF=>by subst aF;obtain⟨_,aa,_⟩:=cr;exact aa.lt
    have Q6:=mr.trans c';refine P9 (own:=lD) (b:=hU) (cr.keep (a_:=dX lD ro (0,0)) (λr aF=>Q6.2 r (auH r aF)) (λb af _=>Q6.2 b af) λ_ _ aH=>aH) al gR.oi ((c'.2 hU I).trans S5) rfl (by show old _ _≠_;unfold old;grind) (λr aF=>by show old _ _=_;unfold old;grind) λpq fz b0 gQ ik cF Iq q0 _ _=>?_;try refine aR ?_
    refine a7 (U items-(n+1)) _ _ I ⟨n+1,fz,b0,rfl,a',I,λy tq Tx=>?_,cF,?_,λr aF=>?_,rfl⟩
    .rw[ik y I Tx (λe=>al),Q6.2 y I];grind
    .have:=Iq items[n] (gR.kF (λ_ _ _=>rfl) λb af aH=>by
      have:=n8 aH;unfold dX;rw[ak (λe=>al)];show old _ _=_;unfold old;grind)
     simp_all
    grind
   .have bk:n=U items:=I
    refine aR ?_;rw[mS (n:=5) ac8 rfl];obtain⟨aC4,x1,abL,ab7⟩:=cr;have aoR:=(sE (ag g+1) I I).trans c2;refine s0 (n:=5) (k:=λh v _=>R v h) aoR gJ rfl (by show(ai&&(ai&&(ai&&(ai&&(one _&&(one _&&ai))))))=ai;rw[(kJ Na).2,(kJ x1).2];rfl) λh' dt=>q h' _ (bV.fe Z_ dt λr aF=>al) ?_;rw[bk,O5] at abL ab7;have Bt:∀r,ag g<=r->old (ag g) r=ab:=λr aF=>by unfold old;grind
    refine gd.mk ⟨rV,Na.at λr er=>?_,λr er=>Bt r al⟩ ⟨ro,x1.at λr er=>?_,λr er=>Bt r al⟩ abL aW λn t aI=>(ab7 n t aI).kF (λb af aH=>?_) λb af aH=>?_
    .have:=ay5 r er;have de:=(acJ r er).1;rw[dt.2 r I (λe=>al),sE r this (acJ r er).2]
    .have:=dF r er;exact dt.2 r (by subst er;exact x1.lt) (λe=>al)
    .refine dt.2 b af λe=>?_;cases e;unfold dX at aH;split at aH
     .cases aH
     .have:=n8 aH;omega
    .unfold dX at aH;split at aH
     .cases aH
     .have:=n8 aH;grind
  .generalize abn:(λv ae=>∃hU hO rV,v=aN hU/\aB bd ae/\ag g+2<=hU/\ae[hU]?=J (.cells #[.b k,.i i,.u b,S s,hO,bY] 28)/\b2 ae hO 1 (keys.map S) rV/\(∀r,rV=J r->ag g+2<=r/\r≠hU))=z';have qk:∀v ae hU hO rV,v=aN hU->aB bd ae->ag g+2<=hU->ae[hU]?=J (.cells #[.b k,.i i,.u b,S s,hO,bY] 28)->b2 ae hO 1 (keys.map S) rV->(∀r,rV=J r->ag g+2<=r/\r≠hU)->z' v ae:=λv ae hU hO rV bx bH cq dT e3 hJ=>al
   refine bG (c4 cg) ?_;refine⟨?_,?_⟩
   .refine Zy Js I (λlQ e=>TN e _) λch lQ b0 aS lX Te=>?_;have dB:=aS.1;rw[WH (kJ lX).1,h7 (n:=6) gJ rfl (by show(ai&&(ai&&(ai&&(ai&&(one _&&(ai&&ai))))))=ai;rw[(kJ lX).2];rfl)];exact qk _ _ (ag lQ) ch b0 rfl (aS.trans (aB.push _ _)) I (dS _ _) (lX.at λr er=>by subst er;exact(aB.push _ _).2 r lX.lt) λr er=>⟨al,λe=>by subst er;have:=lX.lt;omega⟩
   .have aS:aB bd (a6 bd (.cells (aZ (Z 28)) 28)):=aB.push _ _;have Nk:(a6 bd (.cells (aZ (Z 28)) 28))[ag bd]?=J (.cells (aZ (Z 28)) 28):=dS _ _;have q1:ag (a6 bd (.cells (aZ (Z 28)) 28))=ag bd+1:=a1
    have U_:b2 (a6 bd (.cells (aZ (Z 28)) 28)) kv 1 (keys.map S) je:=Js.at λr er=>by subst er;exact aS.2 r Js.lt
    generalize a6 bd (.cells (aZ (Z 28)) 28)=cb at*;refine Zy U_ I (λlQ e=>TN e _) λch lQ b0 bl vr Nc=>?_;have jf:=bl.1;have au5:=(bl.2 _ I).trans Nk;rw[WH (kJ vr).1];refine G9 (n:=6) (o:=0) au5 rfl (by show(ai&&(ai&&(ai&&(ai&&(one _&&(ai&&ai))))))=ai;rw[(kJ vr).2];rfl) I λPX dt wh=>?_;rw[Gc (by simp[gJ])] at wh;refine qk _ PX (ag bd) ch b0 rfl ⟨al,λy a2=>by rw[dt.2 y I (λe=>al),bl.2 y I,aS.2 y a2]⟩ I wh (vr.at λr er=>?_) λr er=>⟨al,λe=>al⟩;have:=Nc r er;exact dt.2 r (by subst er;exact vr.lt) (λe=>al)
def n6(a b:B):Prop:=Op.bytesLess a b=ai
def NO:n6 (a::x) (b::y)↔a<b\/(a=b/\n6 x y):=by
 simp[n6,Op.bytesLess]
def Ue:¬n6 a []:=by cases a<;>simp[n6,Op.bytesLess]
def NP:∀a:B,¬n6 a a
 |[],h=>Ue h
 |a::x,h=>by
  rcases NO.1 h with h|⟨_,h⟩
  .grind
  .exact NP x h
def Ja:∀{a b c:B},n6 a b->n6 b c->n6 a c
 |_,[],_,h,_=>absurd h Ue
 |_,_::_,[],_,h=>absurd h Ue
 |[],_::_,_::_,_,_=>by simp[n6,Op.bytesLess]
 |a::x,b::y,c::z,aa,ad=>by
  rw[NO] at aa ad⊢;rcases aa with aa|⟨rfl,aa⟩
  .grind
  .rcases ad with ad|⟨rfl,ad⟩
   .grind
   .exact bt ⟨rfl,Ja aa ad⟩
def Uf:∀{a b:B},a≠b->n6 a b\/n6 b a
 |[],[],h=>absurd rfl h
 |[],_::_,_=>bF (by simp[n6,Op.bytesLess])
 |_::_,[],_=>bt (by simp[n6,Op.bytesLess])
 |a::x,b::y,h=>by
  rw[NO,NO];by_cases asb:a=b
  .subst asb;rcases Uf (a:=x) (b:=y) (λe=>h (by rw[e])) with e|e
   .grind
   grind
  grind
def abd:wa a k=ai↔n6 k a:=by
 unfold wa;rw[Bool.not_eq_true',Bool.or_eq_false_iff];constructor
 .rintro⟨aa,ad⟩;have bk:a≠k:=λe=>al
  rcases Uf bk with e|e
  .unfold n6 at e;grind
  .exact e
 .intro h;refine⟨?_,?_⟩
  .cases e:Op.bytesLess a k with
   |false=>rfl
   |true=>exact absurd (Ja h e) (NP k)
  .have bk:a≠k:=λe=>by rw[e] at h;exact NP k h
   grind
abbrev Ch(l:List (B×bL)):Prop:=l.Pairwise λx y=>n6 x.1 y.1
def rP(l:List (B×bL))(i:Nat):B:=(l[i]?.map Prod.fst).getD []
def TK(h:i<U l):rP l i=l[i].1:=by unfold rP;grind
def adk:∀n,insPos k l n<=n/\(∀i,insPos k l n<=i->i<n->n6 k (rP l i))/\(insPos k l n=0\/¬n6 k (rP l (insPos k l n-1)))
 |0=>⟨bQ _,λi _ h=>I,bF rfl⟩
 |n+1=>by
  have e:insPos k l (n+1)=if wa (rP l n) k then insPos k l n else n+1:=rfl;rw[e];cases aX:wa (rP l n) k with
  |true=>
   obtain⟨aa,ad,an⟩:=adk (k:=k) (l:=l) n;rw[aA rfl];refine⟨I,λi aT bN=>?_,an⟩;by_cases ly:i=n
   .subst ly;exact abd.1 aX
   grind
  |false=>
   rw[ak aE];refine⟨bQ _,λi aT bN=>I,bt λh=>?_⟩;rw[(I:n+1-1=n)] at h;rw[abd.2 h] at aX;cases aX
def avF(h:Ch l)(ae:∀y∈l,y.1≠x.1):Ch (kD l x)/\(kD l x).Perm (x::l):=by
 obtain⟨aa,ad,an⟩:=adk (k:=x.1) (l:=l) (U l);unfold kD;generalize insPos x.1 l (U l)=p at aa ad an;have low:∀y∈bf p l,n6 y.1 x.1:=λy a2=>by
  obtain⟨i,az,rfl⟩:=KC.1 a2;rw[yv] at az;rw[aBO];rcases an with an|an
  .omega
  .have aJ:p-1<U l:=I
   rw[TK aJ] at an;have bk:=ae l[p-1] (zW aJ);have a':n6 l[p-1].1 x.1:=by
    rcases Uf bk with e|e
    .exact e
    grind
   by_cases zi:i=p-1
   .grind
   .exact Ja (aBS.1 h i (p-1) I aJ I) a'
 have high:∀y∈ax p l,n6 x.1 y.1:=λy a2=>by
  obtain⟨i,az,rfl⟩:=KC.1 a2;rw[ix] at az;rw[List.getElem_drop];have:=ad (p+i) I I;rw[TK I] at this;exact this
 refine⟨?_,?_⟩
 .rw[Ch,ahA];refine⟨h.sublist (List.take_sublist _ _),O3.2 ⟨high,h.sublist (List.drop_sublist _ _)⟩,λy a2 z aV=>?_⟩;rcases r9.1 aV with rfl|aV
  .grind
  .exact Ja (low y a2) (high z aV)
 .have:=List.perm_middle (a:=x) (l₁:=bf p l) (l₂:=ax p l);simp_all
def Rd:∀{es l:List (B×bL)},Ch l->(l++es).Pairwise (λx y=>x.1≠y.1)->Ch (es.foldl kD l)/\(es.foldl kD l).Perm (l++es)
 |[],l,h,_=>⟨h,a1⟩
 |x::es,l,h,aG=>by
  have ae:∀y∈l,y.1≠x.1:=λy a2=>(ahA.1 aG).2.2 y a2 x uO;obtain⟨aa,ad⟩:=avF h ae;have aJ:(kD l x++es).Perm (l++x::es):=(ad.append_right es).trans (by rw[uM];exact List.perm_middle.symm);have h9:(kD l x++es).Pairwise (λx y=>x.1≠y.1):=aG.perm aJ.symm λh e=>h e.symm;obtain⟨an,aT⟩:=Rd aa h9;exact⟨an,aT.trans aJ⟩
def agq:∀{l gi:List (B×bL)},Ch l->Ch gi->l.Perm gi->l=gi
 |[],gi,_,_,aJ=>(List.nil_perm.1 aJ).symm
 |x::l,[],_,_,aJ=>m8
 |x::l,y::gi,h,h',aJ=>by
  have avh:x=y:=by
   have ae:x∈y::gi:=aJ.mem_iff.1 uO;have a2:y∈x::l:=aJ.mem_iff.2 uO;rcases r9.1 ae with e|e
   .exact e
   .rcases r9.1 a2 with ar|ar
    .grind
    .exact absurd (Ja ((O3.1 h).1 y ar) ((O3.1 h').1 x e)) (NP _)
  subst avh;rw[agq (O3.1 h).2 (O3.1 h').2 (List.perm_cons x|>.1 aJ)]
def azT(aJ:es.Perm qM)(aG:es.Pairwise λx y=>x.1≠y.1):yo es=yo qM:=by
 have nA:qM.Pairwise (λx y=>x.1≠y.1):=aG.perm aJ λh e=>h e.symm;have aa:=Rd (l:=[]) List.Pairwise.nil (by simpa using aG);have ad:=Rd (l:=[]) List.Pairwise.nil (by simpa using nA);have he:es.foldl kD []=qM.foldl kD []:=agq aa.1 ad.1 (aa.2.trans ((by grind:([]++es).Perm ([]++qM)).trans ad.2.symm));unfold yo;rw[he]
def vY(b:Nat):Nat:=if(FloatKind.f64.format.order b b==J .eq)=ai then b else 9221120237041090561
structure Ek(d:Nat×Nat×Nat):Prop where
 y:d.1<1000000
 m:d.2.1<1000000
 d:d.2.2<1000000
structure Cj(t:og):Prop where
 h:t.h<1000000
 m:t.m<1000000
 s:t.s<1000000
 n:t.n<1000000000
def mapOf(b:Nat):ao:=.map (J b)
inductive gx(own:cH)(h:H):ao->bL->Prop
 |str {s:B}:gx own h (cW 9 (S s)) (.mk 0 0 0 s [] [])
 |int {n:Int}:gx own h (cW 2 (ah n)) (.mk 1 n 0 [] [] [])
 |sm {b:Nat}:gx own h (cW 89 (cU .f64 b)) (.mk 2 0 (vY b) [] [] [])
 |bool {b:Bool}:gx own h (cW 4 (aQ b)) (.mk 3 (cond b 1 0) 0 [] [] [])
 |F3 {d:Nat×Nat×Nat} {t:og} {z:Int}:Ek d->Cj t->-1000000<z->z<1000000->gx own h (cW 99 (cA (aZ (wV d t z)))) (.mk 4 0 0 (qd d.1 d.2.1 d.2.2++[84]++qb t.h t.m t.s t.n++uK z) [] [])
 |ldt {d:Nat×Nat×Nat} {t:og}:Ek d->Cj t->gx own h (cW 97 (cA (aZ (t_ d t)))) (.mk 5 0 0 (qd d.1 d.2.1 d.2.2++[84]++qb t.h t.m t.s t.n) [] [])
 |gj {d:Nat×Nat×Nat}:Ek d->gx own h (cW 93 (cA #[ah d.1,ah d.2.1,ah d.2.2])) (.mk 6 0 0 (qd d.1 d.2.1 d.2.2) [] [])
 |lt {t:og}:Cj t->gx own h (cW 95 (cA (aZ (w4 t)))) (.mk 7 0 0 (qb t.h t.m t.s t.n) [] [])
 |arr {fA:ao} {vs:List ao} {fi:List bL}:sV own h fA 1 vs->U vs=U fi->U fi<=10000->(∀(n:Nat) v t,vs[n]?=J v->fi[n]?=J t->gx own h v t)->gx own h (cW 105 fA) (.mk 8 0 0 [] [] fi)
 |OF {fA:ao} {vs:List ao} {fi:List bL}:sV own h fA 1 vs->U vs=U fi->U fi<=10000->(∀(n:Nat) v t,vs[n]?=J v->fi[n]?=J t->gx own h (cW 52 v) t)->gx own h (cW 106 fA) (.mk 8 0 0 [] [] fi)
 |bX {b:Nat} {es:Array MapEntry} {cl:Nat} {kv:List (B×bL)}:own b=ab->h[b]?=J (.map es cl)->U (bC es)=U kv->U kv<=5000->(kv.Pairwise λx y=>x.1≠y.1)->(∀(n:Nat) e x,(bC es)[n]?=J e->kv[n]?=J x->e.key=S x.1/\e.born<cl/\one e.val=ai/\cellsL e.val=[e.val])->(es.toList.Pairwise λe f=>e.born≠f.born)->(∀(n:Nat) e x,(bC es)[n]?=J e->kv[n]?=J x->gx own h e.val x.2)->gx own h (cW 52 (mapOf b)) (yo kv)
section
variable{h:H}{R:K}{b:Nat}
def LZ(e:aB h X)(aV:X[ag h]?=J (aO (aZ (Z 33)) 33))(ay:ag cs=6)(aH:ones (bC cs)=ai)(q:∀h',aB h h'->aB X h'\/bV (J (ag h)) X h'->R (cA cs) h'):bZ 6 (aN (ag h)) (cA cs) X λ_ l_=>cO 6 (aN (ag h)) l_ λv _=>R v l_:=
 s0 (n:=5) (k:=λh v _=>R v h) aV (by rw[oK];rfl) ay aH λh' aw=>q h' (bV.fe e aw λr aF=>al) (bt aw)
def ahQ{k:Nat}{K:F.K}:Bd (Z 33) [(0,1,bu (k:Int))] h K=K (g5 k 0 0 []) h:=by rw[oK];rfl
def WE{k:Nat}{K:F.K}:Bd (Z 33) [(0,1,bu (k:Int)),(1,1,ah i)] h K=K (g5 k i 0 []) h:=by rw[oK];rfl
def WG{k:Nat}{K:F.K}:Bd (Z 33) [(0,1,bu (k:Int)),(2,1,a4 (b:Int))] h K=K (g5 k 0 b []) h:=by rw[oK];rfl
def KJ{k:Nat}{K:F.K}:Bd (Z 33) [(0,1,bu (k:Int)),(3,1,S s)] h K=K (g5 k 0 0 s) h:=by rw[oK];rfl
def ahR{K:F.K}:Bd (Z 33) [(3,1,S s)] h K=K (g5 0 0 0 s) h:=by rw[oK];rfl
def ajj(q:∀h',aB h h'->R (g5 3 (cond x 1 0) 0 []) h'):bo 35 [aQ x] h R:=by
 apply al7;have aV:(a6 h (aO (aZ (Z 33)) 33))[ag h]?=J (aO (aZ (Z 33)) 33):=dS _ _;have e:=aB.push h (aO (aZ (Z 33)) 33);have t1:=LZ (R:=R) (cs:=#[bu (3:Nat),ah 1,a4 (0:Nat),S [],bY,bY]) e aV rfl rfl;have t0:=LZ (R:=R) (cs:=#[bu (3:Nat),ah 0,a4 (0:Nat),S [],bY,bY]) e aV rfl rfl;cases x with
 |true=>
  rw[gE,gl];exact(WE (k:=3) (i:=1)).mpr (t1 λh' aw _=>q h' aw)
 |false=>
  rw[gE,ga];exact(ahQ (k:=3)).mpr (t0 λh' aw _=>q h' aw)
def aji(q:∀h',aB h h'->R (g5 2 0 (vY b) []) h'):bo 34 [cU .f64 b] h R:=by
 apply al6;have aV:(a6 h (aO (aZ (Z 33)) 33))[ag h]?=J (aO (aZ (Z 33)) 33):=dS _ _;have e:=aB.push h (aO (aZ (Z 33)) 33);have t:=λb:Nat=>LZ (R:=R) (cs:=#[bu (2:Nat),ah 0,a4 b,S [],bY,bY]) e aV rfl rfl;have aI:bn hF (cU .f64 b) (cU .f64 b)=J (aQ !(FloatKind.f64.format.order b b==J .eq)):=rfl;rw[gE,aI,bs];unfold vY at q;cases aH:(FloatKind.f64.format.order b b==J .eq) with
 |true=>
  rw[aH,aA rfl] at q;rw[Bool.not_true,ga,GP];exact(WG (k:=2) (b:=b)).mpr (t b λh' aw _=>q h' aw)
 |false=>
  rw[aH,ak aE] at q;rw[aBG,gl];exact(WG (k:=2) (b:=9221120237041090561)).mpr (t 9221120237041090561 λh' aw _=>q h' aw)
end
section
variable{h:H}{R:K}{b t u:Nat}{x z:ao}{A:ao->H->Prop}{B:H->Prop}
def fp(aW:Nat.beq u t=av):(Pu (ta t z (cW u x)) h λv2 h=>Pu (exv 1 v2) h λdD h=>Pu (exv 0 v2) h λv4 h=>b1 dD (A v4 h) (B h))=B h:=by
 simp only[ta,aW,cond,bs,exv];exact ga
def w2(aW:Nat.beq u t=ai):(Pu (ta t z (cW u x)) h λv2 h=>Pu (exv 1 v2) h λdD h=>Pu (exv 0 v2) h λv4 h=>b1 dD (A v4 h) (B h))=A x h:=by
 simp only[ta,aW,cond,bs,exv];exact gl
def z5(d:gx own h v (.mk k i b s [] []))(aq:k<8):∀{g:H} {R:K},(∀g',aB g g'->R (g5 k i b s) g')->bo 23 [v] g R:=by
 intro g R q;apply KY;rw[gE];have aV:(a6 g (aO (aZ (Z 33)) 33))[ag g]?=J (aO (aZ (Z 33)) 33):=dS _ _;have e:=aB.push g (aO (aZ (Z 33)) 33);generalize a6 g (aO (aZ (Z 33)) 33)=cn at*;have fin:∀X,aB cn X->bZ 6 (aN (ag g)) (g5 k i b s) X λ_ l_=>cO 6 (aN (ag g)) l_ λv _=>R v l_:=λX ex=>by
  have au:=(cm.1 aV).1;exact LZ (R:=R) (e.trans ex) ((ex.2 _ au).trans aV) rfl rfl λh' aw _=>q h' aw
 have eE:∀a b,U a<=1000->U b<=1000->bn .add (S a) (S b)=J (S (a++b)):=λa b aa ad=>Hb I;have gj:∀y m d,U (qd y m d)<=20:=λy m d=>by unfold qd;simp only[r8,qe];decide
 have lc:∀a b c n,U (qb a b c n)<=30:=λa b c n=>by
  unfold qb;have:=VK 9 (digN 9 n);rw[qe] at this;split
  .simp only[r8,qe];decide
  .simp only[r8,qe,nS,tK];omega
 have FW:∀z,U (uK z)<=20:=λz=>by
  unfold uK;split
  .decide
  .split<;>(simp only[r8,qe];decide)
 generalize nI:bL.mk k i b s [] []=t at d;cases d with
 |str=>
  cases nI;rw[w2 rfl];exact ahR.mpr (fin cn (aB.refl _))
 |int=>
  cases nI;rw[fp rfl,w2 rfl];exact(WE (k:=1)).mpr (fin cn (aB.refl _))
 |sm=>
  cases nI;rw[fp rfl,fp rfl,w2 rfl];exact aji λh' aw=>fin h' aw
 |bool=>
  cases nI;rw[fp rfl,fp rfl,fp rfl,w2 rfl];exact ajj λh' aw=>fin h' aw
 |F3 aG aP fC j6=>
  cases nI;rename_i d gK z;rw[fp rfl,fp rfl,fp rfl,fp rfl,w2 rfl,gE];have Di:ag (aZ (Z 99))=9:=by rw[(b4:Z 99=List.replicate 9 (ah 0))];rfl
  rw[h7 (n:=9) Di rfl rfl];have mr:aB cn (a6 cn (aO (aZ (wV d gK z)) 99)):=aB.push _ _;have aJ:(a6 cn (aO (aZ (wV d gK z)) 99))[ag cn]?=J (aO (aZ (wV d gK z)) 99):=dS _ _;generalize a6 cn (aO (aZ (wV d gK z)) 99)=ct at*;have hE:ct[ag cn]?=J (aO #[ah d.1,ah d.2.1,ah d.2.2,ah gK.h,ah gK.m,ah gK.s,ah gK.n,ah gK.p,ah z] 99):=aJ;refine bG (c4 hE) ?_;refine Pp (by have:=aG.y;omega) (by have:=aG.m;omega) (by have:=aG.d;omega) λbd ar=>⟨ar,?_⟩;dsimp only;rw[eE (qd d.1 d.2.1 d.2.2) [84] al aE,bs];refine Pq (by have:=aP.h;omega) (by have:=aP.m;omega) (by have:=aP.s;omega) aP.n λcb aS=>⟨aS,?_⟩;try dsimp only
  rw[eE ((qd d.1 d.2.1 d.2.2)++[84]) (qb gK.h gK.m gK.s gK.n) al al,bs];refine ajk fC j6 λeZ bl=>?_;try dsimp only
  rw[eE ((qd d.1 d.2.1 d.2.2)++[84]++(qb gK.h gK.m gK.s gK.n)) (uK z) al al,bs];exact(KJ (k:=4)).mpr (fin eZ (((mr.trans ar).trans aS).trans bl))
 |ldt aG aP=>
  cases nI;rename_i d gK;rw[fp rfl,fp rfl,fp rfl,fp rfl,fp rfl,w2 rfl,gE];have Di:ag (aZ (Z 97))=8:=by rw[(b4:Z 97=List.replicate 8 (ah 0))];rfl
  rw[h7 (n:=8) Di rfl rfl];have mr:aB cn (a6 cn (aO (aZ (t_ d gK)) 97)):=aB.push _ _;have aJ:(a6 cn (aO (aZ (t_ d gK)) 97))[ag cn]?=J (aO (aZ (t_ d gK)) 97):=dS _ _;generalize a6 cn (aO (aZ (t_ d gK)) 97)=ct at*;have hE:ct[ag cn]?=J (aO #[ah d.1,ah d.2.1,ah d.2.2,ah gK.h,ah gK.m,ah gK.s,ah gK.n,ah gK.p] 97):=aJ;refine bG (c4 hE) ?_;refine Pp (by have:=aG.y;omega) (by have:=aG.m;omega) (by have:=aG.d;omega) λbd ar=>⟨ar,?_⟩;dsimp only;rw[eE (qd d.1 d.2.1 d.2.2) [84] al aE,bs];refine Pq (by have:=aP.h;omega) (by have:=aP.m;omega) (by have:=aP.s;omega) aP.n λcb aS=>?_;try dsimp only
  rw[eE ((qd d.1 d.2.1 d.2.2)++[84]) (qb gK.h gK.m gK.s gK.n) al al,bs];exact(KJ (k:=5)).mpr (fin cb ((mr.trans ar).trans aS))
 |gj aG=>
  cases nI;rename_i d;rw[fp rfl,fp rfl,fp rfl,fp rfl,fp rfl,fp rfl,w2 rfl,gE];have Di:ag (aZ (Z 93))=3:=by rw[(b4:Z 93=List.replicate 3 (ah 0))];rfl
  rw[h7 (n:=3) Di rfl rfl];have mr:aB cn (a6 cn (aO #[ah d.1,ah d.2.1,ah d.2.2] 93)):=aB.push _ _;have aJ:(a6 cn (aO #[ah d.1,ah d.2.1,ah d.2.2] 93))[ag cn]?=J (aO #[ah d.1,ah d.2.1,ah d.2.2] 93):=dS _ _;generalize a6 cn (aO #[ah d.1,ah d.2.1,ah d.2.2] 93)=ct at*;refine bG (c4 aJ) ?_;refine Pp (by have:=aG.y;omega) (by have:=aG.m;omega) (by have:=aG.d;omega) λbd ar=>?_;exact(KJ (k:=6)).mpr (fin bd (mr.trans ar))
 |lt aP=>
  cases nI;rename_i gK;rw[fp rfl,fp rfl,fp rfl,fp rfl,fp rfl,fp rfl,fp rfl,w2 rfl,gE];have Di:ag (aZ (Z 95))=5:=by rw[(b4:Z 95=List.replicate 5 (ah 0))];rfl
  rw[h7 (n:=5) Di rfl rfl];have mr:aB cn (a6 cn (aO (aZ (w4 gK)) 95)):=aB.push _ _;have aJ:(a6 cn (aO (aZ (w4 gK)) 95))[ag cn]?=J (aO (aZ (w4 gK)) 95):=dS _ _;generalize a6 cn (aO (aZ (w4 gK)) 95)=ct at*;have hE:ct[ag cn]?=J (aO #[ah gK.h,ah gK.m,ah gK.s,ah gK.n,ah gK.p] 95):=aJ;refine bG (c4 hE) ?_;refine Pq (by have:=aP.h;omega) (by have:=aP.m;omega) (by have:=aP.s;omega) aP.n λbd ar=>?_;exact(KJ (k:=7)).mpr (fin bd (mr.trans ar))
 |arr=>cases nI;omega
 |OF=>cases nI;omega
 |bX=>simp only[yo,bL.mk.injEq] at nI;omega
end
def afJ{g:H}{iv v:ao}{ro:Option Nat}{K:F.K}(aF:b2 g iv 6 cs ro)(aD:kr 6 v)(au:U cs<=1000000)(q:∀fz g' b0 (c6:Array ao),v=cA c6->ag c6=6->bV ro g g'->b2 g' fz 6 (cs++bC c6) b0->(b0=ro\/∃r,b0=J r/\ag g<=r)->K fz g'):
  ew 33 1 (Z 33) [(0,6,v)] g λy h=>Ap 33 6 88 (Z 33) iv y h K:=by
 obtain⟨c6,rfl,ay,aH⟩:=aD;have IF:∀{l z:List ao},U z=U l->putL z 0 l=l:=by
  intro l;induction l with
  |nil=>intro z aV;rw[vF aV];rfl
  |cons a l bR=>
   intro z aV;cases z with
   |nil=>cases aV
   |cons b z=>rw[putL,bR al]
 have ef:∀k,ew 33 1 (Z 33) [(0,6,cA c6)] g k=k (a5 (J ⟨ag g,0,ab⟩) 1 1) (a6 g (aO c6 33)):=λk=>by
  have aV:U (repL 1 (Z 33))=U (bC c6):=by rw[oK];simp[repL,ay]
  have cB:U (bC c6)=6:=I
  have R0:U (repL 1 (Z 33))=6:=I
  simp only[ew,fillL,cellsL,R0,cB,IF aV];simp
 rw[ef];have e4:b2 (a6 g (aO c6 33)) iv 6 cs ro:=aF.at λr e=>by subst e;exact(aB.push g _).2 r aF.lt
 refine b2.append (n:=1) (new:=c6) (M:=bC c6) e4 aE (by rw[oK];rfl) rfl ?_ rfl aH (by simp[ay]) al λch h' b0 aw fh dF=>?_
 .simp only[shown,dS];simp_all
 .refine q ch h' b0 c6 rfl ay ⟨dH (aB.push g _).1 aw.1,λb af aI=>by rw[aw.2 b (cP af (aB.push g _).1) aI,(aB.push g _).2 b af]⟩ fh ?_;grind
def aor{g:H}{iv v:ao}{acc:List bL}{own:cH}{b t2:Nat}{c:Array ao}{X:H->Prop}(cr:mR (dX own ro (0,0)) g iv ro acc)(xM:U acc<=100000)(aD:kr 6 v)(af:g[b]?=J (aO c t2))(ay:ag c=6)(AR:own b≠ab)(dF:∀r,ro=J r->own r=ab)
  (q:∀g' fz b0,ag g<=ag g'->(∀x,x<ag g->x≠b->J x≠ro->g'[x]?=g[x]?)->g'[b]?=J (aO (dy c 5 fz) t2)->(∀tt,gd (dX own ro (0,0)) g v tt->mR (dX own b0 (0,0)) g' fz b0 (acc++[tt]))->(b0=ro\/∃r,b0=J r/\ag g<=r)->cellsL fz=[fz]->one fz=ai->X g'):
  ew 33 1 (Z 33) [(0,6,v)] g λhS h=>Ap 33 6 88 (Z 33) iv hS h λjj h=>Pu (fd 5 (aN b)) h λgT h=>bZ 1 gT jj h λ_ h=>X h:=by
 obtain⟨cs,aF,eS,qW⟩:=cr;have dR:b<ag g:=(cm.1 af).1;have im:ro≠J b:=λe=>AR (dF b e);refine afJ aF aD I λfz ct b0 c6 Tt oo aw il zo=>?_;obtain⟨aa,ad⟩:=kJ il;have dz:ct[b]?=J (aO c t2):=by rw[aw.2 b dR (λe=>im e.symm)];exact af
 have bj:fd 5 (aN b)=J (bU (J ⟨b,5,ab⟩)):=by rfl
 rw[bj,bs];refine fx (o:=5) dz I aa ad λbd ar cF=>?_;have Ta:b0≠J b:=by
  grind
 have dq:∀x,x<ag g->x≠b->J x≠ro->bd[x]?=g[x]?:=λx ae Dh Bc=>by
  rw[ar.2 x (cP ae aw.1) (λe=>Dh (en e)),aw.2 x ae Bc]
 have e4:b2 bd fz 6 (cs++bC c6) b0:=il.at λr e=>by
  subst e;exact ar.2 r il.lt (λe=>Ta (by rw[e]))
 refine q bd fz b0 (dH aw.1 ar.1) dq cF (λtt gR=>⟨cs++bC c6,e4,al,λn t aI=>?_⟩) zo aa ad;have wW:∀x,x<ag g->dX own ro (0,0) x=ab->dX own b0 (0,0) x=ab:=λx ae aH=>by
  unfold dX at aH⊢;grind
 have I3:∀x,x<ag g->dX own ro (0,0) x=ab->bd[x]?=g[x]?:=λx ae aH=>by
  unfold dX at aH;grind
 by_cases SZ:n<U acc
 .rw[pV SZ] at aI;have:=(qW n t aI).kF I3 wW;grind
 .have hlen:n=U acc:=by
   grind
  subst hlen;rw[pg (bQ _),pW] at aI;simp only[rq,dg] at aI;subst aI;rw[<-eS,ahu,xg (by simp[oo]),OV,<-Tt];exact gR.kF I3 wW
section
variable{g cn:H}{R:K}
def afI{own:cH}{h:H}{fA:ao}{vs:List ao}{fi:List bL}{f:ao->ao}(aF:sV own h fA 1 vs)(au:U vs=U fi)(aI:U fi<=10000)(bR:∀(n:Nat) (v:ao) (t:bL),vs[n]?=J v->fi[n]?=J t->∀{g:H} {R:K},aB h g->(∀g' ch,aB g g'->gd (old (ag g)) g' ch t->R ch g')->bo 23 [f v] g R)
  (eQ:aB h g) (bP:aB g cn) (aV:cn[ag g]?=J (aO (aZ (Z 33)) 33)) (q:∀g' ch,aB g g'->gd (old (ag g)) g' ch (.mk 8 0 0 [] [] fi)->R ch g'):
  Bd (Z 33) [(0,1,(bu 8))] cn λVW h=>oG 33 (Z 33) h λGt h=>bZ 6 Gt VW h λ_ h=>Pu (fb fA) h λVX h=>iL 1 [(ah 0)] h λlN _ Kh h=>Pu (bn fG Kh VX) h λVY h=>b1 VY (Pu (ia 1 fA Kh) h λVZ h=>cd VZ h λOP h=>Pu (fd 5 Gt) h λV0 h=>cd V0 h λOQ h=>vJ 23 [f OP] h λV1 h=>
   ew 33 1 (Z 33) [(0,6,V1)] h λzU h=>Ap 33 6 88 (Z 33) OQ zU h λV2 h=>Pu (fd 5 Gt) h λV3 h=>bZ 1 V3 V2 h λ_ h=>Pu (bn .add Kh (ah 1)) h λV4 h=>lN V4 h)<|cO 6 Gt h λV5 h=>bZ 6 (aN (ag g)) V5 h λ_ h=>cO 6 (aN (ag g)) h λGu _=>R Gu h:=by
 have gJ:ag (aZ (Z 33))=6:=by rw[oK];rfl
 have aoD:∀h K,Bd (Z 33) [(0,1,bu 8)] h K=K (cA #[bu 8,ah 0,a4 0,S [],bY,bY]) h:=λh K=>by rw[oK];rfl
 obtain⟨Om,e1,_⟩:=aF;obtain⟨mC,_⟩:=j1 e1;rw[aoD,gE,h7 (n:=6) gJ rfl rfl];have IW:=(cm.1 aV).1;obtain⟨hU,za⟩:∃hU,hU=ag cn:=⟨_,rfl⟩;have aw:aB g (a6 cn (aO #[bu 8,ah 0,a4 0,S [],bY,bY] 33)):=bP.trans (aB.push _ _);have kb:(a6 cn (aO #[bu 8,ah 0,a4 0,S [],bY,bY] 33))[ag g]?=J (aO (aZ (Z 33)) 33):=((aB.push _ _).2 _ IW).trans aV;have De:(a6 cn (aO #[bu 8,ah 0,a4 0,S [],bY,bY] 33))[hU]?=J (aO #[bu 8,ah 0,a4 0,S [],bY,bY] 33):=al
 have tf:ag (a6 cn (aO #[bu 8,ah 0,a4 0,S [],bY,bY] 33))=hU+1:=by simp[za]
 rw[<-za];generalize a6 cn (aO #[bu 8,ah 0,a4 0,S [],bY,bY] 33)=ct at*;have C2:fd 5 (aN hU)=J (bU (J ⟨hU,5,ab⟩)):=rfl;have Fm:ag g<hU:=I
 rw[mC,bs];refine eV (λm v ae=>∃(k:Nat) (iv:ao) (ro:Option Nat),v=ah k/\k<=U fi/\aB g ae/\hU+1<=ag ae/\(∃c1,ae[ag g]?=J (aO c1 33)/\ag c1=6)/\ae[hU]?=J (aO #[bu 8,ah 0,a4 0,S [],bY,iv] 33)/\
  mR (dX (old (hU+1)) ro (0,0)) ae iv ro (bf k fi)/\(∀r,ro=J r->hU+1<=r)/\m=U fi-k) (U fi) ⟨0,bY,ab,rfl,ed _,aw,I,⟨_,kb,gJ⟩,De,⟨[],⟨rfl,rfl⟩,rfl,λn t aI=>(by simp at aI)⟩,λr aF=>(by cases aF),rfl⟩ ?_
 rintro m _ v G N ⟨k,iv,ro,rfl,aq,nv,Mx,⟨xB,sr,wi⟩,qj,cr,dF,rfl⟩ a7;have Z0:=eQ.trans nv;have C':b2 G fA 1 vs Om:=e1.at λr er=>by subst er;exact Z0.2 r e1.lt
 obtain⟨_,gj⟩:=j1 C';rw[au];by_cases a':k<U fi
 .have Nm:k<U vs:=I
  obtain⟨bx,hW,mW⟩:=gj k vs[k] (h5 Nm);refine i_ hW mW C2 (c4 qj) ?_;have Tf:∀r,ro=J r->r<ag G:=λr aF=>by subst aF;obtain⟨_,aa,_⟩:=cr;exact aa.lt
  refine bR k vs[k] fi[k] (h5 Nm) (h5 a') (R:=λv h'=>aB G h'/\_) Z0 λg' v c' gR=>⟨c',?_⟩;have sj:=nv.trans c';have FL:=c'.1;refine aor (own:=old (hU+1)) (b:=hU) (cr.keep (a_:=dX (old (hU+1)) ro (0,0)) (λr aF=>c'.2 r (Tf r aF)) (λb af _=>c'.2 b af) λ_ _ aH=>aH) al gR.oi ((c'.2 _ I).trans qj) rfl (by unfold old;grind) (λr aF=>by unfold old;grind) λpq fz b0 gQ ik cF Iq q0 _ _=>?_;try refine aR ?_
  refine a7 (U fi-(k+1)) _ _ I ⟨k+1,fz,b0,rfl,a',⟨I,λb af=>?_⟩,I,⟨xB,?_,wi⟩,cF,?_,λr aF=>?_,rfl⟩
  .rw[ik b I I (λe=>al)];exact sj.2 b af
  .rw[ik _ I I (λe=>al),c'.2 _ I];exact sr
  .have:=Iq fi[k] (gR.kF (λ_ _ _=>rfl) λb af aH=>by
    have:=n8 aH;unfold dX;rw[ak (λe=>al)];unfold old;grind)
   simp_all
  grind
 .have Ft:k=U fi:=I
  refine aR ?_;rw[mS (n:=5) qj rfl];refine s0 (n:=5) (k:=λh v _=>R v h) sr wi rfl (by obtain⟨_,aa,_⟩:=cr;show(ai&&(ai&&(ai&&(ai&&(ai&&(one _&&ai))))))=ai;rw[(kJ aa).2];rfl) λh' ar=>q h' _ (bV.fe nv ar λr aF=>al) ?_;have qk:mR (dX (old (hU+1)) ro (0,0)) h' iv ro (bf k fi):=by
   refine cr.keep (λr aF=>?_) (λb af aH=>?_) λ_ _ aH=>aH
   .have:=dF r aF;subst aF;obtain⟨_,aa,_⟩:=cr;exact ar.2 r aa.lt (λe=>al)
   .refine ar.2 b af λe=>?_;cases e;unfold dX at aH;split at aH
    .cases aH
    .have:=n8 aH;omega
  rw[Ft,O5] at qk;refine qk.VO I (λb _ aH=>?_) λr aF=>?_
  .unfold dX at aH;split at aH
   .cases aH
   .have:=n8 aH;unfold old;grind
  .have:=dF r aF;unfold old;grind
end
def aeP:∀{l gi:List Nat},l.Nodup->gi.Nodup->(∀a,a∈l↔a∈gi)->l.Perm gi
 |[],gi,_,_,h=>by
  grind
 |a::l,gi,aa,ad,h=>by
  grind
def aeO{L:List Nat}(h:L.Nodup)(au:∀i∈L,i<n):U L<=n:=by
 have aJ:(L++(List.range n).filter λi=>!L.contains i).Perm (List.range n):=by
  refine aeP (List.nodup_append.2 ⟨h,aBR.filter _,λa bE b af e=>?_⟩) aBR λa=>?_
  .grind
  grind
 have:=aJ.length_eq;grind
section
variable{h g cn G:H}{R K:K}{b it cl:Nat}{es:Array MapEntry}{seen:Array Nat}
def anM(af:cn[b]?=J (.map es cl)):Rg (mapOf b) cn K=K (aN (ag cn)) (a6 cn (.mapIter (J b) cl #[] cl)):=by simp only[Rg,mapOf,af];rfl
def anE(az:G[it]?=J (.mapIter (J b) cl seen cl))(af:G[b]?=J (.map es cl))(AR:∀e∈es,e.born<cl)(jD:(∀e∈es,e.born∈seen)->K (bA #[aQ av]) G) (bq:∀e∈es,e.born∉seen->K (bA #[aQ ai,e.key,e.val]) (dy G it (.mapIter (J b) cl (a6 seen e.born) cl))):Nx (aN it) G K:=by
 unfold Nx aN;simp only[az,af];simp_all
def am9(az:G[it]?=J (.mapIter (J b) cl (a6 seen e.born) cl))(af:G[b]?=J (.map es cl))(he:e∈es)(aG:∀f∈es,f.born=e.born->f=e)(q:K (bA #[e.key,e.val]) G):En (aN it) G K:=by
 have bj:es.find? (λx=>x.born==e.born)=J e:=by
  cases ae:es.find? (λx=>x.born==e.born) with
  |none=>
   grind
  |some f=>
   grind
 unfold En aN;grind
def f_(n:Nat)(cc cK:Option Nat):cH:=λx=>if x<n\/cc=J x\/cK=J x then J (0,0) else ab
def UR(h:f_ n cc cK x=ab):n<=x/\cc≠J x/\cK≠J x:=by
 unfold f_ at h;grind
def ae2(aa:n<=x)(ad:cc≠J x)(an:cK≠J x):f_ n cc cK x=ab:=by
 unfold f_;grind
def awE(af:h[b]?=J (.map es cl))(hlen:U (bC es)=U kv)(ato:U kv<=5000)(xV:kv.Pairwise λx y=>x.1≠y.1)(Ij:∀(n:Nat) (e:MapEntry) (x:B×bL),(bC es)[n]?=J e->kv[n]?=J x->e.key=S x.1/\e.born<cl/\one e.val=ai/\cellsL e.val=[e.val])(qT:es.toList.Pairwise λe f=>e.born≠f.born)
  (bR:∀(n:Nat) (e:MapEntry) (x:B×bL),(bC es)[n]?=J e->kv[n]?=J x->∀{g:H} {R:ao->H->Prop},aB h g->(∀g' ch,aB g g'->gd (old (ag g)) g' ch x.2->R ch g')->bo 23 [e.val] g R) (eQ:aB h g) (bP:aB g cn) (aV:cn[ag g]?=J (aO (aZ (Z 33)) 33)) (q:∀g' ch,aB g g'->gd (old (ag g)) g' ch (yo kv)->R ch g'):
  Rg (mapOf b) cn λag1 h=>iL 2 [(a5 ab 0 0),(a5 ab 0 0)] h λsc _ ag2 ag3 h=>Nx ag1 h λaAZ h=>Pu (exv 0 aAZ) h λaA0 h=>b1 aA0 (En ag1 h λag4 h=>Pu (exv 0 ag4) h λaA1 h=>Pu (exv 1 ag4) h λaA2 h=>ew 9 1 (Z 9) [(0,1,aA1)] h λaA3 h=>Ap 9 1 16 (Z 9) ag2 aA3 h λaA4 h=>bD 23 [aA2] h λaA5 h=>ew 33 1 (Z 33) [(0,6,aA5)] h λaA6 h=>Ap 33 6 88 (Z 33) ag3 aA6 h λaA7 h=>sc aA4 aA7 h)<|
   bD 39 [ag2,ag3] h λaA8 h=>bZ 6 (aN (ag g)) aA8 h λ_ h=>cO 6 (aN (ag g)) h λaA9 _=>R aA9 h:=by
 have gJ:ag (aZ (Z 33))=6:=by rw[oK];rfl
 have dR:=(cm.1 af).1;have IW:=(cm.1 aV).1;have xO:=(bP.2 b (by have:=eQ.1;omega)).trans ((eQ.2 b dR).trans af);rw[anM xO];obtain⟨it,qW⟩:∃it,it=ag cn:=⟨_,rfl⟩;have aw:aB g (a6 cn (.mapIter (J b) cl #[] cl)):=bP.trans (aB.push _ _);have ur:(a6 cn (.mapIter (J b) cl #[] cl))[it]?=J (.mapIter (J b) cl #[] cl):=al
 have oY:(a6 cn (.mapIter (J b) cl #[] cl))[ag g]?=J (aO (aZ (Z 33)) 33):=((aB.push _ _).2 _ IW).trans aV;have iD:ag (a6 cn (.mapIter (J b) cl #[] cl))=it+1:=by simp[qW]
 rw[<-qW];generalize a6 cn (.mapIter (J b) cl #[] cl)=ct at*;have aEs:ag g<it:=I
 have C7:∀e∈es,∃n x,(bC es)[n]?=J e/\kv[n]?=J x/\n<U kv:=λe he=>by
  obtain⟨n,aI,bk⟩:=KC.1 (ahq.2 he);exact⟨n,kv[n]'I,al,h5 I,I⟩
 have asm:∀(i j:Nat) e f,(bC es)[i]?=J e->(bC es)[j]?=J f->e.born=f.born->i=j:=λi j e f az aC abZ=>by
  obtain⟨ur,rfl⟩:=fk.1 az;obtain⟨n3,rfl⟩:=fk.1 aC;rcases Nat.lt_trichotomy i j with aa|aa|aa
  .exact absurd abZ (aBS.1 qT i j ur n3 aa)
  .exact aa
  .exact absurd abZ.symm (aBS.1 qT j i n3 ur aa)
 refine jn (λm v w G=>∃(L:List Nat) (je e7:Option Nat) (cs:List ao) (seen:Array Nat),aB g G/\it+1<=ag G/\G[it]?=J (.mapIter (J b) cl seen cl)/\G[ag g]?=J (aO (aZ (Z 33)) 33)/\L.Nodup/\(∀i∈L,i<U kv)/\(∀s,s∈seen↔∃i∈L,∃e,(bC es)[i]?=J e/\s=e.born)/\
  b2 G v 1 ((L.map (rP kv)).map S) je/\b2 G w 6 cs e7/\(∀r,je=J r->it+1<=r/\e7≠J r)/\(∀r,e7=J r->it+1<=r)/\ones cs=ai/\U cs=6*U L/\(∀(n i:Nat),L[n]?=J i->∃x,kv[i]?=J x/\gd (f_ (it+1) je e7) G (cA (aZ (bf 6 (ax (6*n) cs)))) x.2)/\m=U kv-U L) (U kv)
  ⟨[],ab,ab,[],#[],aw,I,ur,oY,List.nodup_nil,a1,a1,⟨rfl,rfl⟩,⟨rfl,rfl⟩,λr aF=>(by cases aF),λr aF=>(by cases aF),rfl,rfl,λn i aI=>(by simp at aI),rfl⟩ ?_
 rintro m _ v w G N ⟨L,je,e7,cs,seen,nv,Mx,arH,arI,nG,abt,Tj,il,e4,oV,kY,M5,eS,Ir,rfl⟩ a7;have abH:=(nv.2 b (by have:=eQ.1;omega)).trans ((eQ.2 b dR).trans af);have AR:∀e∈es,e.born<cl:=λe he=>al
 have aDZ:U L<=U kv:=aeO nG abt;refine anE arH abH AR (λl'=>?_) λe he A7=>?_
 .refine aR ?_;have asd:∀i,i<U kv->i∈L:=λi az=>by
   have nD:i<U (bC es):=I
   obtain⟨j,aC,c',iT,lx⟩:=(Tj _).1 (l' (bC es)[i] (ahq.1 (zW nD)));have:=asm i j _ c' (h5 nD) iT lx;grind
  have aJ:L.Perm (List.range (U kv)):=aeP nG aBR λa=>⟨λbE=>aBQ.2 (abt a bE),λbE=>asd a (aBQ.1 bE)⟩;let Gg:Nat->bL:=λi=>(kv[i]?.map Prod.snd).getD (.mk 0 0 0 [] [] [])
  have avs:(L.map (rP kv)).zip (L.map Gg)=L.map λi=>(rP kv i,Gg i):=by
   grind
  have aEX:(List.range (U kv)).map (λi=>(rP kv i,Gg i))=kv:=by
   apply Kz;intro i;rw[D4];by_cases az:i<U kv
   .rw[List.getElem?_range az,h5 az];show J (rP kv i,(kv[i]?.map Prod.snd).getD _)=_;rw[TK az,h5 az];rfl
   grind
  have auf:(L.map λi=>(rP kv i,Gg i)).Perm kv:=by
   grind
  have qq:yo ((L.map (rP kv)).zip (L.map Gg))=yo kv:=by
   rw[avs];exact(azT auf.symm xV).symm
  refine ajm (own:=old (ag g+1)) (fi:=L.map Gg) il e4 al M5 al (λn t aI=>?_) (λx y aH=>?_) al λg' u c' gR=>?_
  .rw[D4] at aI;cases abr:L[n]? with
   |none=>grind
   |some i=>
    rw[abr] at aI;obtain⟨x,ae,avg⟩:=Ir n i abr;have:t=x.2:=by
     grind
    rw[this];refine avg.kF (λ_ _ _=>rfl) λy _ aH=>?_;have:=(UR aH).1;unfold old;grind
  .unfold old at aH;grind
  .obtain⟨c6,rfl,oo,mb⟩:=gR.oi;have avr:=(c'.2 _ I).trans arI;rw[qq] at gR;refine s0 (n:=5) (k:=λh v _=>R v h) avr gJ oo mb λh' ar=>q h' _ (bV.fe (nv.trans c') ar λr aF=>al) (gR.kF (λy a2 aH=>ar.2 y a2 λe=>by cases e;have:=n8 aH;omega) λy _ aH=>by have:=n8 aH;unfold old;grind)
 .refine aR ?_;obtain⟨n,x,bk,tj,sy⟩:=C7 e he;obtain⟨Fu,_,_,_⟩:=Ij n e x bk tj;have aEO:n∉L:=λhm=>A7 ((Tj _).2 ⟨n,hm,e,bk,rfl⟩);have atg:it<ag G:=I
  have abk:(dy G it (.mapIter (J b) cl (a6 seen e.born) cl))[it]?=J (.mapIter (J b) cl (a6 seen e.born) cl):=by simp[atg]
  have H4:∀y,y≠it->(dy G it (.mapIter (J b) cl (a6 seen e.born) cl))[y]?=G[y]?:=λy a2=>al
  have aDX:ag (dy G it (.mapIter (J b) cl (a6 seen e.born) cl))=ag G:=a1
  generalize dy G it (.mapIter (J b) cl (a6 seen e.born) cl)=uU at*;have asn:b≠it:=al
  refine am9 abk ((H4 b asn).trans abH) he (λf bj aEi=>?_) ?_
  .grind
  .refine bG Fu ?_;have C9:b2 uU v 1 ((L.map (rP kv)).map S) je:=il.at λr er=>H4 r (λe=>al);refine On (z:=S []) tR rfl C9 rfl rfl al λch pq yh ar M_ zo=>?_;have s2:=ar.1;have apE:aB g uU:=⟨I,λy a2=>by rw[H4 y I];exact nv.2 y a2⟩;have EY:aB g pq:=bV.fe apE ar λr er=>al
   have Vh:∀r,e7=J r->r<ag G:=λr er=>by subst er;exact e4.lt
   refine bR n e x bk tj (eQ.trans EY) λp6 u aS gR=>?_;have dB:=aS.1;have FH:b2 p6 w 6 cs e7:=e4.at λr er=>by
    have aa:=Vh r er;rw[aS.2 r I,ar.2 r I (λe=>(oV r e.symm).2 er),H4 r (λe=>al)]
   refine afJ FH gR.oi I λbh XX zI c6 hu oo bl auv q0=>?_;have jf:=bl.1;have arO:U (L++[n])<=U kv:=aeO (List.nodup_append.2 ⟨nG,a1,λa bE c ay e=>al⟩) λi az=>by
    grind
   rw[r8,O1] at arO;have ayR:∀r,yh=J r->r<ag pq/\it+1<=r/\e7≠J r:=λr er=>by
    refine⟨by subst er;exact M_.lt,?_⟩;grind
   have ayS:∀r,zI=J r->it+1<=r/\(e7=J r\/ag p6<=r):=λr er=>by
    grind
   have TI:∀y,y<ag G->y≠it->je≠J y->e7≠J y->XX[y]?=G[y]?:=λy aa ad an aT=>by
    rw[bl.2 y I (λe=>aT e.symm),aS.2 y I,ar.2 y I (λe=>an e.symm),H4 y ad]
   have avO:je≠J it:=λe=>al
   have avP:e7≠J it:=λe=>al
   have asz:∀m,m<U L->bf 6 (ax (6*m) (cs++bC c6))=bf 6 (ax (6*m) cs):=λm hm=>by
    rw[aBL I,ahD (by rw[ix];omega)]
   have M4:∀{a b:List ao},ones (a++b)=(ones a&&ones b):=by
    intro a b;induction a with
    |nil=>rfl
    |cons x a bR=>simp only[uM,ones,bR,Wj]
   have aD7:U (bC c6)=6:=I
   have aD8:ones (bC c6)=ai:=by
    obtain⟨xz,de,_,hC⟩:=gR.oi;grind
   refine a7 (U kv-U (L++[n])) _ _ _ al ⟨L++[n],yh,zI,cs++bC c6,a6 seen e.born,⟨I,λy a2=>?_⟩,I,?_,?_,?_,?_,?_,?_,auv,?_,λr er=>(ayS r er).1,?_,?_,?_,rfl⟩
   .rw[bl.2 y I (λe=>al),aS.2 y I];exact EY.2 y a2
   .rw[bl.2 it I (λe=>avP e.symm),aS.2 it I,ar.2 it I (λe=>avO e.symm)];exact abk
   .grind
   .grind
   .grind
   .intro s;rw[Array.mem_push,Tj];constructor
    .rintro(⟨i,az,f,bj,aL⟩|rfl)
     .grind
     grind
    grind
   .have aty:rP kv n=x.1:=by unfold rP;grind
    rw[rr,rr,List.map_singleton,List.map_singleton,aty];exact M_.at λr er=>by
     obtain⟨aa,ad,an⟩:=ayR r er;rw[bl.2 r I (λe=>an e.symm),aS.2 r aa]
   .grind
   .grind
   .grind
   .intro m i hm;by_cases A6:m<U L
    .rw[pV A6] at hm;obtain⟨y,a2,avl⟩:=Ir m i hm;refine⟨y,a2,?_⟩;rw[asz m A6];refine avl.kF (λz aV aH=>?_) λz aV aH=>?_
     .obtain⟨aa,ad,an⟩:=UR aH;grind
     .obtain⟨aa,ad,an⟩:=UR aH;refine ae2 aa (λe=>?_) λe=>?_
      .grind
      grind
    .have atP:m=U L:=by
      grind
     subst atP;rw[pg (bQ _),pW] at hm;simp only[rq,dg] at hm;subst hm;refine⟨x,tj,?_⟩;rw[<-eS,ahu,xg I,OV,<-hu];refine gR.kF (λz aV aH=>?_) λz aV aH=>?_
     .have:=n8 aH;exact bl.2 z aV (λe=>al)
     .have aa:=n8 aH;refine ae2 I (λe=>al) λe=>?_;grind
end
def ai9(d:gx own h v t):∀{g:H} {R:ao->H->Prop},aB h g->(∀g' ch,aB g g'->gd (old (ag g)) g' ch t->R ch g')->bo 23 [v] g R:=by
 induction d with
 |str=>intro g R eQ q;exact z5 (own:=own) (h:=h) gx.str aE λg' e=>q g' _ e u3
 |int=>intro g R eQ q;exact z5 (own:=own) (h:=h) gx.int aE λg' e=>q g' _ e u3
 |sm=>intro g R eQ q;exact z5 (own:=own) (h:=h) gx.sm aE λg' e=>q g' _ e u3
 |bool=>intro g R eQ q;exact z5 (own:=own) (h:=h) gx.bool aE λg' e=>q g' _ e u3
 |F3 aa ad an aT=>intro g R eQ q;exact z5 (own:=own) (h:=h) (gx.F3 aa ad an aT) aE λg' e=>q g' _ e u3
 |ldt aa ad=>intro g R eQ q;exact z5 (own:=own) (h:=h) (gx.ldt aa ad) aE λg' e=>q g' _ e u3
 |gj aa=>intro g R eQ q;exact z5 (own:=own) (h:=h) (gx.gj aa) aE λg' e=>q g' _ e u3
 |lt aa=>intro g R eQ q;exact z5 (own:=own) (h:=h) (gx.lt aa) aE λg' e=>q g' _ e u3
 |arr aF au aI aD bR=>
  intro g R eQ q;apply KY;rw[gE];have aV:(a6 g (aO (aZ (Z 33)) 33))[ag g]?=J (aO (aZ (Z 33)) 33):=dS _ _;have e:=aB.push g (aO (aZ (Z 33)) 33);generalize a6 g (aO (aZ (Z 33)) 33)=cn at*;rw[fp rfl,fp rfl,fp rfl,fp rfl,fp rfl,fp rfl,fp rfl,fp rfl,fp rfl,w2 rfl];exact afI (f:=λv=>v) aF au aI (λn v t aa ad=>bR n v t aa ad) eQ e aV q
 |OF aF au aI aD bR=>
  intro g R eQ q;apply KY;rw[gE];have aV:(a6 g (aO (aZ (Z 33)) 33))[ag g]?=J (aO (aZ (Z 33)) 33):=dS _ _;have e:=aB.push g (aO (aZ (Z 33)) 33);generalize a6 g (aO (aZ (Z 33)) 33)=cn at*;rw[fp rfl,fp rfl,fp rfl,fp rfl,fp rfl,fp rfl,fp rfl,fp rfl,fp rfl,fp rfl,w2 rfl];exact afI (f:=λv=>cW 52 v) aF au aI (λn v t aa ad=>bR n v t aa ad) eQ e aV q
 |bX aH af hlen aq xV Ij qT aD bR=>
  intro g R eQ q;apply KY;rw[gE];have aV:(a6 g (aO (aZ (Z 33)) 33))[ag g]?=J (aO (aZ (Z 33)) 33):=dS _ _;have e:=aB.push g (aO (aZ (Z 33)) 33);generalize a6 g (aO (aZ (Z 33)) 33)=cn at*;rw[fp rfl,fp rfl,fp rfl,fp rfl,fp rfl,fp rfl,fp rfl,fp rfl,fp rfl,fp rfl,fp rfl,w2 rfl];exact awE af hlen aq xV Ij qT (λn e x aa ad=>bR n e x aa ad) eQ e aV q
section
variable{h:H}{R:K}{v x:ao}{bb:Nat}{s:B}
def Ea(af:kt h bb v s)(q:R (S s) h):bo 105 [x,v] h R:=by
 apply akj;exact xj af q
end
def El(es:Array MapEntry)(cl:Nat)(kv:List (B×ao)):Prop:=es.toList.map (λe=>(e.key,e.val))=kv.map (λx=>(S x.1,x.2))/\(∀e∈es,e.born<cl)/\(es.toList.Pairwise λe f=>e.born≠f.born)/\kv.Pairwise λx y=>x.1≠y.1
def kvV(k:B):List (B×ao)->Option ao
 |[]=>ab
 |x::l=>if x.1=k then J x.2 else kvV k l
def Hk{a b:B}:((⟨aZ a⟩:ByteArray)==⟨aZ b⟩)=decide (a=b):=by
 have h:((⟨aZ a⟩:ByteArray)==⟨aZ b⟩)=(aZ a==aZ b):=rfl;grind
def Uj:∀{l:List MapEntry} {kv:List (B×ao)} {k:B} {i:Nat},l.map (λe=>(e.key,e.val))=kv.map (λx=>(S x.1,x.2))->kvV k kv=ab->mfind ⟨aZ k⟩ l i=J ab
 |[],[],_,_,_,_=>rfl
 |[],_::_,_,_,h,_=>by simp at h
 |_::_,[],_,_,h,_=>by simp at h
 |e::l,x::kv,k,i,h,aq=>by
  simp only[kp,Wn,hI] at h;obtain⟨⟨aa,ad⟩,an⟩:=h;rw[kvV] at aq;split at aq
  .cases aq
  .rename_i bk;have af:((⟨aZ k⟩:ByteArray)==⟨aZ x.1⟩)=av:=by
    rw[Hk,ig (λe=>bk e.symm)]
   rw[mfind,aa];simp only[S,af];exact Uj an aq
def aee:∀{l:List MapEntry} {kv:List (B×ao)} {k:B} {v:ao} {i:Nat},l.map (λe=>(e.key,e.val))=kv.map (λx=>(S x.1,x.2))->kvV k kv=J v->∃j,mfind ⟨aZ k⟩ l i=J (J (i+j,v))/\j<U l/\kv[j]?=J (k,v)
 |[],[],_,_,_,_,h=>by cases h
 |[],_::_,_,_,_,h,_=>by simp at h
 |_::_,[],_,_,_,h,_=>by simp at h
 |e::l,x::kv,k,v,i,h,aq=>by
  simp only[kp,Wn,hI] at h;obtain⟨⟨aa,ad⟩,an⟩:=h;rw[kvV] at aq;split at aq
  .rename_i he;cases aq;refine⟨0,?_,a1,al⟩;rw[mfind,aa];simp only[S,Hk,he,ahK,ei,ad];rfl
  .rename_i bk;obtain⟨j,n3,ij,wv⟩:=aee (i:=i+1) an aq;refine⟨j+1,?_,by simp;omega,al⟩;rw[mfind,aa];simp only[S,Hk];grind
section
variable{h:H}{b cl:Nat}{es:Array MapEntry}{kv:List (B×ao)}{k:B}{v z:ao}{K:ao->H->Prop}
def anA(af:h[b]?=J (.map es cl))(he:El es cl kv):Ml z (mapOf b) (S k) h K=K ((kvV k kv).getD z) h:=by
 unfold Ml mapOf S;simp only[af];cases aq:kvV k kv with
 |none=>rw[Uj he.1 aq];rfl
 |some v=>
  obtain⟨j,aC,_⟩:=aee (i:=0) he.1 aq;rw[aC];rfl
def X_(af:h[b]?=J (.map es cl))(he:El es cl kv)(aq:kvV k kv=ab)(q:∀h' qM,bV (J b) h h'->h'[b]?=J (.map qM (cl+1))->El qM (cl+1) (kv++[(k,v)])->K undef h'):Mu (mapOf b) (S k) v h K:=by
 unfold Mu mapOf S;simp only[af];rw[Uj he.1 aq];have a':b<ag h:=(cm.1 af).1;refine q _ (a6 es {key:=fo ⟨aZ k⟩,val:=v,born:=cl}) ⟨a1,λx ae bk=>al⟩ (by simp[a']) ⟨?_,λe hm=>?_,?_,?_⟩
 .rw[Array.toList_push,rr,rr,he.1];rfl
 .rcases Array.mem_push.1 hm with aa|aa
  .have:=he.2.1 e aa;omega
  grind
 .rw[Array.toList_push,ahA];refine⟨he.2.2.1,a1,λe hm f bj=>?_⟩;rw[O2.1 bj];have:=he.2.1 e (ahq.1 hm);grind
 .rw[ahA];refine⟨he.2.2.2,a1,λx ae y a2=>?_⟩;rw[O2.1 a2];intro e;have aI:∀{l:List (B×ao)},kvV k l=ab->∀x∈l,x.1≠k:=by
   intro l;induction l with
   |nil=>grind
   |cons a l bR=>
    intro h x ae;rw[kvV] at h;grind
  grind
end
def Bk(k:B)(v:ao):List (B×ao)->List (B×ao)
 |[]=>[]
 |x::l=>if x.1=k then(k,v)::l else x::Bk k v l
def adJ:∀l:List (B×ao),(Bk k v l).map Prod.fst=l.map Prod.fst
 |[]=>rfl
 |x::l=>by
  rw[Bk];split
  .grind
  .simp[adJ l]
def mod_eq:∀{l:List MapEntry} {kv:List (B×ao)} {k:B} {o:ao} {i:Nat},l.map (λe=>(e.key,e.val))=kv.map (λx=>(S x.1,x.2))->kvV k kv=J o->∃j,mfind ⟨aZ k⟩ l i=J (J (i+j,o))/\(l.modify j λe=>{e with key:=fo ⟨aZ k⟩,val:=v}).map (λe=>(e.key,e.val))=(Bk k v kv).map (λx=>(S x.1,x.2))/\(l.modify j λe=>{e with key:=fo ⟨aZ k⟩,val:=v}).map (·.born)=l.map (·.born)
 |[],[],_,_,_,_,h=>by cases h
 |[],_::_,_,_,_,h,_=>by simp at h
 |_::_,[],_,_,_,h,_=>by simp at h
 |e::l,x::kv,k,o,i,h,aq=>by
  simp only[kp,Wn,hI] at h;obtain⟨⟨aa,ad⟩,an⟩:=h;rw[kvV] at aq;rw[Bk];split at aq
  .rename_i he;cases aq;rw[aA he];refine⟨0,?_,?_,?_⟩
   .rw[mfind,aa];simp only[S,Hk,he,ahK,ei,ad];rfl
   .simp[S,an]
   .simp
  .rename_i bk;rw[ak bk];obtain⟨j,n3,ij,wv⟩:=mod_eq (v:=v) (i:=i+1) an aq;refine⟨j+1,?_,?_,?_⟩
   .rw[mfind,aa];simp only[S,Hk];grind
   .grind
   grind
def anB{h:H}{b cl:Nat}{es:Array MapEntry}{k:B}{v o:ao}{K:ao->H->Prop}(af:h[b]?=J (.map es cl))(he:El es cl kv)(aq:kvV k kv=J o)(q:∀h' qM,bV (J b) h h'->h'[b]?=J (.map qM cl)->El qM cl (Bk k v kv)->K undef h'):Mu (mapOf b) (S k) v h K:=by
 unfold Mu mapOf S;simp only[af];obtain⟨j,aC,C6,wz⟩:=mod_eq (v:=v) (i:=0) he.1 aq;rw[aC];have a':b<ag h:=(cm.1 af).1;rw[tM];have asr:∀e∈es.modify j λe=>{e with key:=fo ⟨aZ k⟩,val:=v},∃f∈es,f.born=e.born:=λe hm=>by
  have aa:e.born∈(es.toList.modify j λe=>{e with key:=fo ⟨aZ k⟩,val:=v}).map (·.born):=by
   rw[<-Array.toList_modify];grind
  grind
 refine q _ (es.modify j λe=>{e with key:=fo ⟨aZ k⟩,val:=v}) ⟨a1,λx ae bk=>al⟩ (by simp[a']) ⟨?_,λe hm=>?_,?_,?_⟩
 .grind
 .obtain⟨f,bj,vj⟩:=asr e hm;rw[<-vj];exact he.2.1 f bj
 .have aW:=he.2.2.1;rw[Array.toList_modify];have aa:(es.toList.map (·.born)).Pairwise (·≠·):=aBT.2 aW;grind
 .have aa:(kv.map Prod.fst).Pairwise (·≠·):=aBT.2 he.2.2.2;rw[<-adJ (k:=k) (v:=v)] at aa;grind
def Li:Z 187=[ba .u32 0,ba .u32 0]:=b4
section
variable{h:H}{R:K}{p bz b i j N C:Nat}{c:Array ao}{u b':ao}
def W4(aJ:h[p]?=J (aO c bz))(aG:c[1]?=J b')(tb:bp b 0 N C b')(aD:bp b i j C u)(aC:j<=N)(a7:N<=100000)(Fc:C<9223372036854775808)(q:∀h',aB h h'->R (cA #[ba .u32 (i:Int),ba .u32 ((j-i:Nat):Int)]) h'):bo 154 [aN p,u] h R:=by
 apply ak7;rw[gE];obtain⟨e,rfl,_,aa,ad,_⟩:=aD;obtain⟨bP,rfl,_,_,an,_⟩:=tb;have mr:aB h (a6 h (aO (aZ (Z 187)) 187)):=aB.push _ _;have dV:=(mr.2 p (cm.1 aJ).1).trans aJ;have es:bn .sub (ah (C-0:Nat)) (ah (C-i:Nat))=J (ah i):=by
  have:=m' (a:=C-0) (b:=C-i) I I;grind
 have c1:oM (a5 (J ⟨b,bP,ab⟩) (N-0) (C-0))=J (ah (C-0:Nat)):=rfl;have c2:oM (a5 (J ⟨b,e,ab⟩) (j-i) (C-i))=J (ah (C-i:Nat)):=rfl;have c3:fb (a5 (J ⟨b,bP,ab⟩) (N-0) (C-0))=J (ah (N-0:Nat)):=rfl;have dA:fb (a5 (J ⟨b,e,ab⟩) (j-i) (C-i))=J (ah (j-i:Nat)):=rfl;have u32:∀n:Nat,n<=100000->ci .u32 (ah n)=J (ba .u32 n):=λn aI=>by simp[ci,IntKind.wrap,IntKind.bits,IntKind.signed];omega
 have qT:∀x K,Bd (Z 187) [(0,1,ba .u32 i),(1,1,ba .u32 ((j-i:Nat):Int))] x K=K (cA #[ba .u32 i,ba .u32 ((j-i:Nat):Int)]) x:=λx K=>by rw[Li];rfl
 have gp:ag (aZ (Z 187))=2:=by rw[Li];rfl
 generalize C-0=WM at*;generalize aEt:j-i=Bh at*;generalize aEp:N-0=Ya at*;(simp-implicitDefEqProofs+contextual (disch:=omega) only[go_sem,fs dV,aG,c1,c2,es];try refine c8 ?_)
 have aBb:∀n:Nat,n<=100000->IntKind.u32.wrap (n:Int)=n:=λn aI=>by simp[IntKind.wrap,IntKind.bits,IntKind.signed];omega
 refine⟨λae=>ae=a6 h (aO (aZ (Z 187)) 187),λd ae e=>?_,?_⟩
 .subst e;refine i_ dA (aBb i I) (u32 Bh I) qT ?_;rw[h7 (n:=2) gp rfl rfl,jK (n:=2) rfl aE];exact q _ (aB.push _ _)
 .have h_:bn fG (ah i) (ah 0)=J (aQ av):=by simp[bn]
  have bE:bn .add (ah i) (ah Bh)=J (ah (i+Bh:Nat)):=qL I;have aX:bn hf (ah (i+Bh:Nat)) (ah Ya)=J (aQ av):=by simp[bn];omega
  (simp-implicitDefEqProofs+contextual (disch:=omega) only[go_sem,h_,c3,dA,bE,aX,fs dV,aG];try refine c8 ?_)
def aiQ{r n cap k:Nat}{x:ao}(aJ:h[p]?=J (aO c bz))(an:c[3]?=J (a5 (J ⟨r,0,ab⟩) n cap))(aa:1<=k)(aq:k<=n)(aI:n<=100000)(q:R (bU (J ⟨r,(k-1)*7,ab⟩)) h):bo 180 [aN p,dc (k:Int)] h R:=by
 apply aly;have es:bn .sub (dc k) (dc 1)=J (dc (k-1:Nat)):=by
  simp only[bn,ei,dg,WA,GH];simp[IntKind.wrap,IntKind.bits,IntKind.signed];omega
 have su:ia 7 (a5 (J ⟨r,0,ab⟩) n cap) (dc (k-1:Nat))=J (bU (J ((⟨r,0,ab⟩:Addr).add ((k-1)*7)))):=by
  simp only[ia,pU];rw[aA ⟨I,I⟩]
 refine i_ (c4 aJ) @an es su ?_;exact q
end
inductive Ad|no|str(s:B)|tok(i j:Nat)
structure eo where
 kind:Nat
 off:Nat
 len:Nat
 data:ao
 fZ:Nat
 gO:Nat
 lf:Ad
structure ps(h:H)(p bz r:Nat)(c:Array ao)(aK:List eo):Prop where
 par:h[p]?=J (aO c bz)
 row:∃cap,c[3]?=J (a5 (J ⟨r,0,ab⟩) (U aK) cap)
 hZ:U aK<=100000
 bJ:∃d t,h[r]?=J (aO d t)/\∀(k:Nat) x,aK[k]?=J x->d[k*7]?=J (ah x.kind)/\d[k*7+1]?=J (ba .u32 x.off)/\d[k*7+2]?=J (ba .u32 x.len)/\d[k*7+3]?=J x.data/\d[k*7+4]?=J (aN p)/\d[k*7+5]?=J (dc x.fZ)/\d[k*7+6]?=J (dc x.gO)
def d'(r k:Nat):ao:=bU (J ⟨r,k*7,ab⟩)
def gA(r:Nat):Nat->ao
 |0=>bU ab
 |k+1=>d' r k
def Bq:fd (o+1) (d' r k)=J (bU (J ⟨r,k*7+(o+1),ab⟩)):=by
 simp[d',fd,Addr.add]
def NW:fd 0 (d' r k)=J (bU (J ⟨r,k*7,ab⟩)):=by
 simp[d',fd,Addr.add]
section
variable{h:H}{R:K}{p bz r k:Nat}{c:Array ao}{aK:List eo}{x:eo}
def aeC(aD:ps h p bz r c aK)(hm:m<=U aK)(aW:m≠0):∃v4 cap,c[3]?=J (a5 (J ⟨r,0,ab⟩) (U aK) cap)/\bn .sub (dc (m:Int)) (dc 1)=J v4/\ia 7 (a5 (J ⟨r,0,ab⟩) (U aK) cap) v4=J (gA r m):=by
 obtain⟨cap,ay⟩:=aD.row;have bj:=aD.hZ;refine⟨dc (m-1:Nat),cap,ay,?_,?_⟩
 .simp only[bn,ei,dg,WA,GH];simp[IntKind.wrap,IntKind.bits,IntKind.signed];omega
 .obtain⟨m,rfl⟩:=tL aW;simp only[ia,pU];rw[aA ⟨I,I⟩];show J (Value.pointer (J ((⟨r,0,ab⟩:Addr).add ((m+1-1)*7))))=J (d' r m);rw[KD];unfold d' Addr.add;grind
def Pf(aD:ps h p bz r c aK)(ae:aK[k]?=J x)(ay:x.gO<=U aK)(q:R (gA r x.gO) h):bo 137 [d' r k] h R:=by
 apply akP;obtain⟨d,t,af,aG⟩:=aD.bJ;obtain⟨d0,d1,d2,d3,d4,d5,d6⟩:=aG k x ae;have bj:=aD.hZ;have f6:fd 6 (d' r k)=J (bU (J ⟨r,k*7+6,ab⟩)):=Bq (o:=5);have f4:fd 4 (d' r k)=J (bU (J ⟨r,k*7+4,ab⟩)):=Bq (o:=3);have aI:nc (d' r k)=J (d' r k):=rfl;refine DZ aI f6 f4 (c4 af) d6 d4 ?_;refine⟨λaW=>?_,λaW=>?_⟩
 .have:x.gO=0:=I
  rw[this] at q;exact q
 .obtain⟨v4,cap,an,aL,az⟩:=aeC aD ay I;refine xb (c4 aD.par) @an aL az aI f6 (c4 af) d6 ?_;exact q
def WW(aD:ps h p bz r c aK)(ae:aK[k]?=J x)(ay:x.fZ<=U aK)(q:R (gA r x.fZ) h):bo 139 [d' r k] h R:=by
 apply akQ;obtain⟨d,t,af,aG⟩:=aD.bJ;obtain⟨d0,d1,d2,d3,d4,d5,d6⟩:=aG k x ae;have bj:=aD.hZ;have f5:fd 5 (d' r k)=J (bU (J ⟨r,k*7+5,ab⟩)):=Bq (o:=4);have f4:fd 4 (d' r k)=J (bU (J ⟨r,k*7+4,ab⟩)):=Bq (o:=3);have aI:nc (d' r k)=J (d' r k):=rfl;refine DZ aI f5 f4 (c4 af) d5 d4 ?_;refine⟨λaW=>?_,λaW=>?_⟩
 .have:x.fZ=0:=I
  rw[this] at q;exact q
 .obtain⟨v4,cap,an,aL,az⟩:=aeC aD ay I;refine xb (c4 aD.par) @an aL az aI f5 (c4 af) d5 ?_;exact q
def aiu(q:R (aQ av) h):bo 138 [bU ab] h R:=by
 apply XK;rw[aeI];refine aR ?_;exact q
def Pg(aD:ps h p bz r c aK)(ae:aK[k]?=J x)(aq:x.kind≠0)(q:R (aQ ai) h):bo 138 [d' r k] h R:=by
 apply XK;obtain⟨d,t,af,aG⟩:=aD.bJ;obtain⟨d0,_⟩:=aG k x ae;have f0:fd 0 (d' r k)=J (bU (J ⟨r,k*7,ab⟩)):=NW;have aI:nc (d' r k)=J (d' r k):=rfl;have jT:beP ai (d' r k) (bU ab)=J (aQ ai):=rfl;have bk:bn hF (ah x.kind) (ah 0)=J (aQ ai):=by simp[bn,eqV];omega
 refine DZ jT aI f0 (c4 af) d0 bk ?_;exact q
def ps.ext(aD:ps h p bz r c aK)(e:aB h h'):ps h' p bz r c aK:=by
 obtain⟨d,t,af,aG⟩:=aD.bJ;exact⟨(e.2 p (cm.1 aD.par).1).trans aD.par,aD.row,aD.hZ,d,t,(e.2 r (cm.1 af).1).trans af,aG⟩
def Co:Z 195=[aQ av,bU ab]:=b4
def Pe(aD:ps h p bz r c aK)(ae:aK[k]?=J x)(ay:x.gO<=U aK)(q:∀h',aB h h'->R (cA #[aQ av,gA r x.gO]) h'):bo 111 [d' r k] h R:=by
 apply akp;rw[gE];have gp:ag (aZ (Z 195))=2:=by rw[Co];rfl
 refine Pf (aD.ext (aB.push _ _)) ae ay ?_;have aa:∀m,cellsL (gA r m)=[gA r m]/\one (gA r m)=ai:=λm=>by cases m<;>exact⟨rfl,rfl⟩
 have qT:∀x (m:Nat) K,Bd (Z 195) [(1,1,gA r m)] x K=K (cA #[aQ av,gA r m]) x:=λx m K=>by
  rw[Co];cases m<;>rfl
 rw[qT,h7 (n:=2) gp rfl (by show(ai&&(one _&&ai))=ai;grind),jK (n:=2) rfl aE];exact q _ (aB.push _ _)
def B2(af:h[b]?=J (aO #[s,v] t)) (q:R v h):bo 113 [aN b] h R:=by
 apply akq;refine bG (c4 af) ?_;exact q
def WV(aD:ps h p bz r c aK)(hm:m=0\/∃x,aK[m-1]?=J x/\x.kind≠0)(q:R (aQ (decide (m≠0))) h):bo 138 [gA r m] h R:=by
 cases m with
 |zero=>exact aiu al
 |succ k=>
  rcases hm with e|⟨x,ae,aq⟩
  .omega
  .exact Pg aD al aq al
def ps.Cr(aD:ps h p bz r c aK)(e:bV (J b) h h')(aa:b≠p)(ad:b≠r):ps h' p bz r c aK:=by
 obtain⟨d,t,af,aG⟩:=aD.bJ;exact⟨(e.2 p (cm.1 aD.par).1 (λe=>aa (en e).symm)).trans aD.par,aD.row,aD.hZ,d,t,(e.2 r (cm.1 af).1 (λe=>ad (en e).symm)).trans af,aG⟩
def aie(aD:ps h p bz r c aK)(af:h[b]?=J (aO #[aQ av,gA r m] t)) (aa:b≠p) (ad:b≠r) (hm:m=0\/∃x,aK[m-1]?=J x/\x.kind≠0) (q:∀h',bV (J b) h h'->h'[b]?=J (aO #[aQ ai,gA r m] t)->R (aQ (decide (m≠0))) h'):bo 112 [aN b] h R:=by
 apply XJ;refine⟨λae=>bV (J b) h ae/\ae[b]?=J (aO #[aQ ai,gA r m] t),λd ae cr=>?_,?_⟩
 .obtain⟨e,dN⟩:=cr;refine bG (c4 dN) ?_;exact WV (aD.Cr e aa ad) hm (q ae e dN)
 .refine bG (c4 af) ?_;refine fx (o:=0) af a1 rfl rfl λh' e dN=>⟨e,dN⟩
def aif(aD:ps h p bz r c aK)(af:h[b]?=J (aO #[aQ ai,d' r k] t)) (aa:b≠p) (ad:b≠r) (ae:aK[k]?=J x) (aq:x.kind≠0) (ay:x.fZ<=U aK) (hm:x.fZ=0\/∃y,aK[x.fZ-1]?=J y/\y.kind≠0) (q:∀h',bV (J b) h h'->h'[b]?=J (aO #[aQ ai,gA r x.fZ] t)->R (aQ (decide (x.fZ≠0))) h'):bo 112 [aN b] h R:=by
 apply XJ;have aI:∀m,cellsL (gA r m)=[gA r m]/\one (gA r m)=ai:=λm=>by cases m<;>exact⟨rfl,rfl⟩
 refine⟨λgh=>bV (J b) h gh/\gh[b]?=J (aO #[aQ ai,gA r x.fZ] t),λd gh cr=>?_,?_⟩
 .obtain⟨e,dN⟩:=cr;refine bG (c4 dN) ?_;exact WV (aD.Cr e aa ad) hm (q gh e dN)
 .refine bG (c4 af) ?_;refine Pg aD ae aq ?_;refine bG (c4 af) ?_;refine WW aD ae ay ?_;refine aR ?_;refine fx (o:=1) af a1 (aI _).1 (aI _).2 λh' e dN=>⟨e,dN⟩
end
def G4{h:H}{k:K}{z:List ao}(aV:U z=sz)(aa:len<=cap)(ad:cap<=1099511627776)(q:k (a5 (J ⟨ag h,0,ab⟩) len cap) (a6 h (aO (aZ (repL cap z)) t))):Ms t sz z (ah (len:Int)) (ah (cap:Int)) h k:=by
 simp only[Ms,pU];grind
def aj7(aF:b2 h v sz L ro)(hD:U L=len*sz)(aH:ones L=ai)(af:h[r]?=J (aO c t))(ay:ag c=cap*sz)(c0:0<sz)(rJ:len<=cap)
  (q:∀x h',bV (J r) h h'->b2 h' (a5 (J ⟨r,0,ab⟩) len cap) sz L (J r)->ag h'=ag h->k x h'):vK sz (a5 (J ⟨r,0,ab⟩) len cap) v h k:=by
 have a':r<ag h:=(cm.1 af).1;cases ro with
 |none=>
  obtain⟨rfl,rfl⟩:=aF;have aW:len=0:=by
   rcases zZ len with e|e
   .exact e
   .have:=iI e c0;grind
  subst aW;simp only[vK,lenV,shown,Nat.min_self];exact⟨rfl,a1,q _ _ bV.refl ⟨0,cap,c,t,rfl,af,rJ,ay,a1,rfl⟩ rfl⟩
 |some cv=>
  obtain⟨FV,new,aa,ad,an,aT,bN⟩:=aF.Vu;have nF:FV=len:=GB c0 (ad.symm.trans hD);subst nF;simp only[vK,aa,Nat.min_self,an];refine⟨al,bN,?_⟩;split
  .have aW:L=[]:=vF I;exact q _ _ bV.refl ⟨0,cap,c,t,rfl,af,rJ,ay,I,by rw[aW];rfl⟩ rfl
  .simp only[af];have hle:=jx sz rJ;refine⟨trivial,I,bt (ed _),?_⟩;refine q _ _ ⟨a1,λx ae bk=>al⟩ ⟨FV,cap,_,t,rfl,by simp[a'];rfl,rJ,by rw[zH];exact ay,hD,?_⟩ a1;have:=DC (bC new) c 0 al;grind
def kI(p:Nat)(x:eo):List ao:=[ah x.kind,ba .u32 x.off,ba .u32 x.len,x.data,aN p,dc x.fZ,dc x.gO]
def LfOk(fY:Nat)(h:H)(p:Nat)(ro:Option Nat)(b C:Nat)(D:B)(x:eo):Prop:=one x.data=ai/\cellsL x.data=[x.data]/\match x.lf with
 | .no=>True
 | .str s=>∃bb,bb≠p/\ro≠J bb/\(bb=b\/fY<=bb)/\kt h bb x.data s
 | .tok i j=>bp b i j C x.data/\j<=U D
structure Cg(fY:Nat)(h:H)(p bz:Nat)(c:Array ao)(b C:Nat)(D:B)(ro:Option Nat)(b9:Nat)(aK:List eo):Prop where
 par:h[p]?=J (aO c bz)
 size:6<=ag c
 n5:c[0]?=J (aQ av)
 fL:∃v,c[1]?=J v/\bp b 0 (U D) C v
 row:∃v cap,c[3]?=J v/\b2 h v 7 (aK.flatMap (kI p)) ro/\oM v=J (ah (cap:Nat))/\cap<=12000
 pG:c[5]?=J (ah b9)
 hZ:U aK<=5000
 Dt:ro≠J p
 Du:ro≠J b
 yb:p≠b
 rQ:∀x∈aK,LfOk fY h p ro b C D x
 doc:db h b D C
structure pt where
 aW:H
 p:Nat
 bz:Nat
 ep:Array ao
 b:Nat
 C:Nat
 D:B
 Om:Option Nat
def dO(o:pt)(Pr:Nat->Prop)(h:H)(b9:Nat)(aK:List eo):Prop:=∃c ro,Cg (ag o.aW) h o.p o.bz c o.b o.C o.D ro b9 aK/\(ag o.aW<=ag h/\∀x,x<ag o.aW->x≠o.p->J x≠o.Om->h[x]?=o.aW[x]?)/\Ah o.aW o.Om ro/\ag c=ag o.ep/\(∀k,k≠3->k≠5->c[k]?=o.ep[k]?)/\∀b,Pr b->b<ag h/\b≠o.p/\ro≠J b
def lj(Pr:Nat->Prop)(h h':H):Prop:=∀b,Pr b->h'[b]?=h[b]?
def Ve(p:Nat)(aK:List eo):U (aK.flatMap (kI p))=U aK*7:=by
 induction aK with
 |nil=>rfl
 |cons a l bR=>simp only[yu,r8,bR,nS,kI,tK];omega
section
variable{o:pt}{Pr:Nat->Prop}{m b9 fY:Nat}{h h':H}{aK:List eo}{R:K}{D:B}{p b C bz:Nat}{c:Array ao}{ro:Option Nat}
def LfOk.at(ae:LfOk fY h p ro b C D x)(e:∀bb,bb<ag h->bb≠p->ro≠J bb->h'[bb]?=h[bb]?):LfOk fY h' p ro b C D x:=by
 refine⟨ae.1,ae.2.1,?_⟩;have:=ae.2.2;cases au:x.lf with
 |no=>trivial
 |str s=>
  rw[au] at this;obtain⟨bb,aa,ad,aT,an⟩:=this;exact⟨bb,aa,ad,aT,an.at (e bb an.lt aa ad)⟩
 |tok i j=>grind
def ay0(au:∀x∈aK,LfOk fY h p ro b C D x):ones (aK.flatMap (kI p))=ai:=by
 induction aK with
 |nil=>rfl
 |cons a l bR=>
  have aa:=(au a (uO ..)).1;have ad:=bR λx ae=>au x (xf _ ae);simp only[yu,kI,uM,sS,ones,aa,ad];rfl
def Cg.ext(aJ:Cg fY h p bz c b C D ro b9 aK)(e:aB h h'):Cg fY h' p bz c b C D ro b9 aK:=by
 obtain⟨v,cap,aa,ad,an,aT⟩:=aJ.row;exact⟨(e.2 p (cm.1 aJ.par).1).trans aJ.par,aJ.size,aJ.n5,aJ.fL,⟨v,cap,aa,ad.at λr aF=>by subst aF;exact e.2 r ad.lt,an,aT⟩,aJ.pG,aJ.hZ,aJ.Dt,aJ.Du,aJ.yb,λx ae=>(aJ.rQ x ae).at λbb af _ _=>e.2 bb af,aJ.doc.ext e⟩
def dO.ext(aY:dO o Pr h b9 aK)(e:aB h h'):dO o Pr h' b9 aK:=by
 obtain⟨c,ro,aa,ad,an,aT,bN,cB⟩:=aY;exact⟨c,ro,aa.ext e,⟨dH ad.1 e.1,λx ae a b=>by rw[e.2 x (cP ae ad.1)];grind⟩,an,aT,bN,λb af=>⟨cP (cB b af).1 e.1,(cB b af).2⟩⟩
def dO.more(aY:dO o Pr h b9 aK)(e:aB h h')(lW:∀b,PT b->Pr b\/(ag h<=b/\b<ag h')):dO o PT h' b9 aK:=by
 obtain⟨c,ro,aa,ad,an,aT,bN,cB⟩:=aY.ext e;obtain⟨b6,b0,cZ,cj,eI,jB,ox,Bi⟩:=aY;have jV:=(cm.1 cZ.par).1;refine⟨b6,b0,cZ.ext e,ad,eI,jB,ox,λb af=>?_⟩;rcases lW b af with gg|gg
 .grind
 .refine⟨gg.2,I,λar=>?_⟩;obtain⟨v,cap,_,aF,_⟩:=cZ.row;subst ar;have:=aF.lt;omega
def dO.less(aY:dO o Pr h b9 aK)(lW:∀b,PT b->Pr b):dO o PT h b9 aK:=by
 obtain⟨b6,b0,cZ,cj,eI,jB,ox,Bi⟩:=aY;exact⟨b6,b0,cZ,cj,eI,jB,ox,λb af=>Bi b (lW b af)⟩
def lj.trans(a:lj Pr h h')(b:lj Pr h' cN):lj Pr h cN:=λx ae=>(b x ae).trans (a x ae)
def lj.g_(aY:dO o Pr h b9 aK)(e:aB h h'):lj Pr h h':=λx ae=>by
 obtain⟨b6,b0,cZ,cj,eI,jB,ox,Bi⟩:=aY;exact e.2 x (Bi x ae).1
def dO.doc(aY:dO o Pr h b9 aK):db h o.b o.D o.C:=by obtain⟨c,ro,aa,_⟩:=aY;exact aa.doc
def dO.fL(aY:dO o Pr h b9 aK):∃c b',h[o.p]?=J (aO c o.bz)/\c[1]?=J b'/\bp o.b 0 (U o.D) o.C b':=by
 obtain⟨c,ro,aa,_⟩:=aY;obtain⟨v,ad,an⟩:=aa.fL;exact⟨c,v,aa.par,ad,an⟩
end
def Jt(x:eo):ao:=cA #[ah x.kind,ba .u32 x.off,ba .u32 x.len,x.data,bU ab,dc 0,dc 0]
def LfN(fY:Nat)(h:H)(b C:Nat)(Pr:Nat->Prop)(D:B)(x:eo):Prop:=one x.data=ai/\cellsL x.data=[x.data]/\match x.lf with
 | .no=>True
 | .str s=>∃bb,(bb=b\/(Pr bb/\fY<=bb))/\kt h bb x.data s
 | .tok i j=>bp b i j C x.data/\j<=U D
def EB:Z 189=[ah 0,ba .u32 0,ba .u32 0,a5 ab 0 0,bU ab,dc 0,dc 0]:=b4
section
variable{o:pt}{Pr:Nat->Prop}{m b9 fY:Nat}{h h':H}{aK:List eo}{R K:K}{D:B}{p b C bz:Nat}{c:Array ao}{ro:Option Nat}{x:eo}
def LfN.ok(ae:LfN fY h b C Pr D x)(aJ:∀b,Pr b->b<ag h/\b≠p/\ro≠J b)(S6:p≠b)(im:ro≠J b):LfOk fY h p ro b C D x:=by
 refine⟨ae.1,ae.2.1,?_⟩;have:=ae.2.2;grind
def ah5(ay:ag cs=7):ew 189 1 (Z 189) [(0,7,cA cs)] h K=K (a5 (J ⟨ag h,0,ab⟩) 1 1) (a6 h (aO cs 189)):=by
 rw[D' (cx:=bC cs) (by rw[EB];rfl) rfl I]
def ahN(aF:b2 h (a5 (J ⟨r,0,ab⟩) len cap) sz L (J r))(rJ:len<cap)(ay:ag cs=sz)(c0:0<sz)(aH:ones (bC cs)=ai)
  (q:∀h',bV (J r) h h'->b2 h' (a5 (J ⟨r,0,ab⟩) (len+1) cap) sz (L++bC cs) (J r)->K (a5 (J ⟨r,0,ab⟩) (len+1) cap) h'):Ap t sz by_ z (a5 (J ⟨r,0,ab⟩) len cap) (a5 (J ⟨ag h,0,ab⟩) 1 1) (a6 h (aO cs t)) K:=by
 obtain⟨FV,iP,c,eO,he,af,aa,ad,an,aT⟩:=aF;simp only[Value.slice.injEq,GH] at he;obtain⟨rfl,rfl⟩:=he;have a':r<ag h:=(cm.1 af).1;have bP:=aB.push h (aO cs t);have cF:(a6 h (aO cs t))[r]?=J (aO c eO):=(bP.2 r a').trans af;have hle:=jx sz (I:len+1<=cap);rw[zY,Nat.one_mul] at hle;simp only[Ap,lenV,shown,dS];rw[aA ⟨trivial,I⟩];have ae:cs.extract 0 (0+1*sz)=cs:=al
 simp only[ae];refine⟨aH,I,?_⟩;rw[aA I];simp only[cF];refine⟨trivial,al,bt (ed _),?_⟩;have qZ:r<ag (a6 h (aO cs t)):=by simp;omega
 refine q _ ⟨a1,λx ae bk=>al⟩ ⟨len+1,cap,_,eO,rfl,by rw[D3,aA rfl,aA qZ],I,by rw[zH];exact ad,al,?_⟩;have eS:U (bC cs)=sz:=I
 rw[tM,r8,an,DC _ _ _ I,<-an,aT]
def sK(bk:k≠i):(dy c i v)[k]?=c[k]?:=al
def Cg.afG{v:ao}{cap:Nat}{cG:List eo}(aJ:Cg fY h p bz c b C D ro b9 aK)(hM:h'[p]?=J (.cells (c.setIfInBounds 3 v) bz))(af:h'[b]?=h[b]?)(aF:b2 h' v 7 (cG.flatMap (kI p)) b0)(oq:oM v=J (.i (cap:Int)))(qV:cap<=12000)(bj:cG.length<=5000)(aa:b0≠J p)(ad:b0≠J b)(au:∀x∈cG,LfOk fY h' p b0 b C D x):Cg fY h' p bz (c.setIfInBounds 3 v) b C D b0 b9 cG:=by
 have aL:=aJ.size;refine⟨hM,al,by rw[sK aE];exact aJ.n5,?_,⟨v,cap,al,aF,oq,qV⟩,by rw[sK aE];exact aJ.pG,bj,aa,ad,aJ.yb,au,aJ.doc.at af⟩;obtain⟨b',vh,h9⟩:=aJ.fL;grind
def Ee(aY:dO o Pr h b9 aK)(au:aK.length<5000)(ae:LfN o.aW.size h o.b o.C Pr o.D x)(aW:x.fZ=0/\x.gO=0)(q:∀h',dO o Pr h' b9 (aK++[x])->lj Pr h h'->R (.j ((aK.length+1:Nat):Int)) h'):bo 153 [aN o.p,Jt x] h R:=by
 apply ak6;obtain⟨c,ro,aJ,iR,dF,eC,s',ny⟩:=aY;have c0:=aJ.size;have auh:o.p<h.size:=(cm.1 aJ.par).1;have CY:o.b<h.size:=aJ.doc.lt;have fP:=ae.ok ny aJ.yb aJ.Du;have arB:∀K:F.K,lh 189 (Jt x) h K=K (aN h.size) (h.push (.cells #[.i (x.kind:Int),.int .u32 (x.off:Int),.int .u32 (x.len:Int),x.data,.pointer ab,.j 0,.j 0] 189)):=λK=>rfl;rw[arB];have bP:=aB.push h (.cells #[.i (x.kind:Int),.int .u32 (x.off:Int),.int .u32 (x.len:Int),x.data,.pointer ab,.j 0,.j 0] 189);obtain⟨v,cap,an,aF,oq,qV⟩:=aJ.row;have hN:=Ve o.p aK;refine⟨λgh=>∃b6 r iP,gh[h.size]?=J (.cells #[.i (x.kind:Int),.int .u32 (x.off:Int),.int .u32 (x.len:Int),x.data,.pointer ab,.j 0,.j 0] 189)/\gh[o.p]?=J (.cells b6 o.bz)/\b6.size=c.size/\(∀k,k≠3->b6[k]?=c[k]?)/\b6[3]?=J (.slice (J ⟨r,0,ab⟩) aK.length iP)/\aK.length<iP/\iP<=12000/\b2 gh (.slice (J ⟨r,0,ab⟩) aK.length iP) 7 (aK.flatMap (kI o.p)) (J r)/\(ro=J r\/h.size<r)/\h.size<gh.size/\∀b,b<h.size->b≠o.p->gh[b]?=h[b]?,λd gh cr=>?_,?_⟩
 .obtain⟨b6,r,iP,b5,hM,aEc,aEa,asu,rJ,So,fh,vt,FL,Fl⟩:=cr;have sD:r≠o.p:=by
   rcases vt with e|e
   .intro ar;exact aJ.Dt (by rw[e,ar])
   .omega
  have im:r≠o.b:=by
   rcases vt with e|e
   .intro ar;exact aJ.Du (by rw[e,ar])
   .omega
  have IM:r≠h.size:=by
   rcases vt with e|e
   .subst e;have:=aF.lt;omega
   .omega
  have tc:fd 4 (aN h.size)=J (.pointer (J ⟨h.size,4,ab⟩)):=oO;rw[tc,bs];refine fx b5 a1 rfl rfl λaT bl aur=>?_;have ID:aT[o.p]?=J (.cells b6 o.bz):=(bl.2 _ I (λe=>al)).trans hM;have vr:b2 aT (.slice (J ⟨r,0,ab⟩) aK.length iP) 7 (aK.flatMap (kI o.p)) (J r):=fh.at λcC e=>by cases e;exact bl.2 _ fh.lt (λe=>IM (en e))
  refine dG (c4 ID) asu ?_;rw[mS (n:=6) aur (by rfl),ah5 (by rfl)];have Sq:(#[.i (x.kind:Int),.int .u32 (x.off:Int),.int .u32 (x.len:Int),x.data,.pointer ab,.j 0,.j 0]:Array ao).setIfInBounds 4 (aN o.p)=(kI o.p x).toArray:=by
   unfold kI;grind
  rw[Sq];refine ahN vr rJ (by rfl) aE (by simp only[kI,ones,ae.1];rfl) λbN dt x1=>?_;have auj:bN[o.p]?=J (.cells b6 o.bz):=(dt.2 _ (cm.1 ID).1 (λe=>sD (en e).symm)).trans ID;try refine aR ?_
  refine fx auj I rfl rfl λcB e6 acD=>?_;have Fv:(b6.setIfInBounds 3 (.slice (J ⟨r,0,ab⟩) (aK.length+1) iP))[3]?=J (.slice (J ⟨r,0,ab⟩) (aK.length+1) iP):=al
  have AS:ci .i32 (.i ((aK.length+1:Nat):Int))=J (.j ((aK.length+1:Nat):Int)):=by simp[ci,IntKind.wrap,IntKind.bits,IntKind.signed];omega
  refine hk (c4 acD) Fv AS ?_;have rp:gh.size<=aT.size:=bl.1;have Ks:aT.size<=bN.size:=dt.1;have Wg:bN.size<=cB.size:=e6.1;have cf:∀b,b<h.size->b≠o.p->b≠r->cB[b]?=h[b]?:=λb af aa ad=>by
   rw[e6.2 b I (λe=>aa (en e)),dt.2 b I (λe=>ad (en e)),bl.2 b I (λe=>al),Fl b af aa]
  have auz:b2 cB (.slice (J ⟨r,0,ab⟩) (aK.length+1) iP) 7 ((aK++[x]).flatMap (kI o.p)) (J r):=by
   have:=x1.at (h':=cB) λcC e=>by cases e;exact e6.2 _ x1.lt (λe=>sD (en e))
   grind
  have abJ:∀k,k≠3->(b6.setIfInBounds 3 (.slice (J ⟨r,0,ab⟩) (aK.length+1) iP))[k]?=c[k]?:=λk aq=>al
  obtain⟨b',vh,h9⟩:=aJ.fL;have awn:∀y,LfOk o.aW.size h o.p ro o.b o.C o.D y->LfOk o.aW.size cB o.p (J r) o.b o.C o.D y:=λy a2=>by
   refine⟨a2.1,a2.2.1,?_⟩;have:=a2.2.2;cases x7:y.lf with
   |no=>trivial
   |tok i j=>grind
   |str s=>
    rw[x7] at this;obtain⟨bb,cZ,cj,ox,eI⟩:=this;have a':=eI.lt;have jB:bb≠r:=by
     grind
    exact⟨bb,cZ,λe=>jB (en e).symm,ox,eI.at (cf bb a' cZ jB)⟩
  refine q cB ⟨_,J r,⟨acD,by simp;omega,by rw[abJ 0 aE];exact aJ.n5,⟨b',al,h9⟩,⟨_,iP,Fv,auz,rfl,So⟩,by rw[abJ 5 aE];exact aJ.pG,by simp;omega,λe=>sD (en e),λe=>im (en e),aJ.yb,λy a2=>?_,aJ.doc.at (cf o.b CY (λe=>aJ.yb e.symm) (λe=>im e.symm))⟩,⟨I,λb af cZ cj=>?_⟩,?_,by simp;omega,λk cZ cj=>al,λb af=>?_⟩ λb af=>?_
  .rcases zX.1 a2 with a2|a2
   .exact awn y (aJ.rQ y a2)
   grind
  .have CY:=cP af iR.1;rw[cf b CY cZ ?_,iR.2 b af cZ cj];intro e;subst e;rcases vt with e|e
   .rcases dF with ar|⟨cK,ar,aS⟩
    .grind
    grind
   .omega
  .rcases vt with e|e
   .grind
   .exact .inr ⟨r,rfl,I⟩
  .grind
  grind
 .have M8:(h.push (.cells #[.i (x.kind:Int),.int .u32 (x.off:Int),.int .u32 (x.len:Int),x.data,.pointer ab,.j 0,.j 0] 189))[o.p]?=J (.cells c o.bz):=(bP.2 _ auh).trans aJ.par;have mC:fb v=J (.i (aK.length:Int)):=by
   cases ro with
   |none=>
    obtain⟨rfl,aT⟩:=aF;rw[aT] at hN;simp only[tK] at hN;have:aK.length=0:=I
    rw[this];rfl
   |some r=>
    obtain⟨len,iP,b6,eO,rfl,_,_,_,aT,_⟩:=aF;have:len=aK.length:=I
    subst this;rfl
  have il:b2 (h.push (.cells #[.i (x.kind:Int),.int .u32 (x.off:Int),.int .u32 (x.len:Int),x.data,.pointer ab,.j 0,.j 0] 189)) v 7 (aK.flatMap (kI o.p)) ro:=aF.at λr e=>by subst e;exact bP.2 r aF.lt
  have wz:bn .mul (.i 2) (.i (cap:Int))=J (.i ((2*cap:Nat):Int)):=by
   simp only[bn,ei];congr 2;simp only[jv];omega
  generalize abm:h.push (.cells #[.i (x.kind:Int),.int .u32 (x.off:Int),.int .u32 (x.len:Int),x.data,.pointer ab,.j 0,.j 0] 189)=H1 at*;have jc:H1[h.size]?=J (.cells #[.i (x.kind:Int),.int .u32 (x.off:Int),.int .u32 (x.len:Int),x.data,.pointer ab,.j 0,.j 0] 189):=al
  have oY:H1.size=h.size+1:=al
  refine vE (c4 M8) @an mC oq wz ?_;refine⟨λrJ=>?_,λrJ=>?_⟩
  .have go:∀nc:Nat,aK.length<nc->nc<=12000->Ms 189 7 (Z 189) (.i (aK.length:Int)) (.i (nc:Int)) H1 λf' l_=>cd (.pointer (J ⟨o.p,3,ab⟩)) l_ λhS l_=>vK 7 f' hS l_ λjj l_=>bZ 1 (.pointer (J ⟨o.p,3,ab⟩)) f' l_ λ_ gh=>∃b6 r iP,gh[h.size]?=J (.cells #[.i (x.kind:Int),.int .u32 (x.off:Int),.int .u32 (x.len:Int),x.data,.pointer ab,.j 0,.j 0] 189)/\gh[o.p]?=J (.cells b6 o.bz)/\b6.size=c.size/\(∀k,k≠3->b6[k]?=c[k]?)/\b6[3]?=J (.slice (J ⟨r,0,ab⟩) aK.length iP)/\aK.length<iP/\iP<=12000/\b2 gh (.slice (J ⟨r,0,ab⟩) aK.length iP) 7 (aK.flatMap (kI o.p)) (J r)/\(ro=J r\/h.size<r)/\h.size<gh.size/\∀b,b<h.size->b≠o.p->gh[b]?=h[b]?:=by
    intro nc oV kY;refine G4 (by rw[EB];rfl) I I ?_;have ar:=aB.push H1 (.cells (repL nc (Z 189)).toArray 189);have FF:=(ar.2 o.p I).trans M8;have e4:b2 (H1.push (.cells (repL nc (Z 189)).toArray 189)) v 7 (aK.flatMap (kI o.p)) ro:=il.at λr e=>by subst e;exact ar.2 r il.lt
    refine dG (c4 FF) @an ?_;refine aj7 e4 I (ay0 aJ.rQ) (dS _ _) (by rw[D7,tC,EB];rfl) aE I λ_ AK aS lX Be=>?_;have aui:AK[o.p]?=J (.cells c o.bz):=(aS.2 o.p (by simp;omega) (λe=>al)).trans FF;try refine aR ?_
    refine fx aui I rfl rfl λaT bl ID=>?_;have gp:(H1.push (.cells (repL nc (Z 189)).toArray 189)).size=h.size+2:=by simp;omega
    have rp:=bl.1;refine⟨_,H1.size,nc,?_,ID,a1,λk aq=>sK aq,al,oV,kY,lX.at λr e=>by cases e;exact bl.2 _ I (λe=>al),.inr I,I,λb af bk=>?_⟩
    .rw[bl.2 _ I (λe=>al),aS.2 _ I (λe=>al),ar.2 _ I];exact jc
    .rw[bl.2 _ I (λe=>bk (en e)),aS.2 _ I (λe=>al),ar.2 _ I,bP.2 b af]
   refine lO ?_;refine hk (c4 M8) @an mC ?_;refine⟨λaru=>go 64 I I,λaru=>go (2*cap) I I⟩
  .cases ro with
   |none=>
    obtain⟨rfl,aT⟩:=aF;have hL:cap=0:=by
     simp only[oM,dg,WA,GH] at oq;omega
    rw[aT] at hN;simp only[tK] at hN;omega
   |some r=>
    have acH:=il;obtain⟨len,iP,b6,eO,rfl,cZ,cj,eI,jB,ox⟩:=aF;have aw:len=aK.length:=I
    subst aw;have ar:iP=cap:=by simp only[oM,dg,WA,GH] at oq;omega
    subst ar;exact⟨c,r,iP,jc,M8,rfl,λ_ _=>rfl,an,I,qV,acH,.inl rfl,I,λb af _=>bP.2 b af⟩
end
inductive e'|str(s:B)|tok(k i j:Nat)|arr(l:List e')|qx(l:List (List B×e'))
def Kids{β:Type}(aK:List eo)(P:Nat->Nat->β->Prop):Nat->Nat->Nat->List β->Prop
 |br,az,r,[]=>br=az/\r=0
 |br,az,r,[a]=>P br az a/\r=br+1/\∃x,aK[br]?=J x/\x.fZ=0
 |br,az,r,a::c::l=>∃e x,P br e a/\aK[br]?=J x/\x.fZ=e+1/\Kids aK P e az r (c::l)
def hdN{β:Type}(br:Nat):List β->Nat
 |[]=>0
 |_::_=>br+1
def np(aK:List eo)(br e:Nat)(s:B):Prop:=e=br+1/\∃x,aK[br]?=J x/\x.kind=2/\x.lf=.str s
def oI(aK:List eo)(A:Nat->Nat->e'->Prop)(br e:Nat)(q:List B×e'):Prop:=∃v r x y,q.1≠[]/\Kids aK (np aK) (br+1) v r q.1/\aK[br]?=J x/\x.kind=5/\x.gO=v+1/\A v e q.2/\aK[v]?=J y/\y.fZ=br+2
def At(aK:List eo):Nat->Nat->Nat->e'->Prop
 |0,_,_,_=>False
 |n+1,k,az,a=>∃x,aK[k]?=J x/\match a with
  | .str s=>az=k+1/\x.kind=8/\x.lf=.str s
  | .tok kd i j=>az=k+1/\x.kind=kd/\9<=kd/\x.lf=.tok i j
  | .arr l=>x.kind=6/\x.gO=hdN (k+1) l/\∃r,Kids aK (At aK n) (k+1) az r l
  | .qx l=>x.kind=7/\x.gO=hdN (k+1) l/\∃r,Kids aK (oI aK (At aK n)) (k+1) az r l
def K'(aK cG:List eo)(k:Nat):Prop:=∀x,aK[k]?=J x->∃ec,cG[k]?=J ec/\ec.kind=x.kind/\ec.lf=x.lf/\ec.gO=x.gO
def K'.of(h:cG[k]?=aK[k]?):K' aK cG k:=λx ae=>⟨x,h.trans ae,rfl,rfl,rfl⟩
structure Loc{β:Type}(aK cG:List eo)(P fT:Nat->Nat->β->Prop):Prop where
 lt:∀br e a,P br e a->br<e
 go:∀br e a,P br e a->(∀j,br<j->j<e->cG[j]?=aK[j]?)->K' aK cG br->fT br e a
section
variable{β:Type}{aK cG:List eo}{P fT:Nat->Nat->β->Prop}
def Kids.br(au:∀br e a,P br e a->br<e):∀{l:List β} {br az r:Nat},Kids aK P br az r l->br<=az/\r<=az/\(l≠[]->br<r)
 |[],br,az,r,h=>⟨Nat.le_of_eq h.1,by rw[h.2];omega,λh=>absurd rfl h⟩
 |[a],br,az,r,h=>by
  obtain⟨aa,ad,_⟩:=h;grind
 |a::c::l,br,az,r,h=>by
  obtain⟨e,x,aa,_,_,aT⟩:=h;have:=au _ _ _ aa;have:=Kids.br au aT;grind
def Kids.EG(L:Loc aK cG P fT):∀{l:List β} {br az r:Nat},Kids aK P br az r l->(∀j,br<=j->j<az->cG[j]?=aK[j]?)->Kids cG fT br az r l
 |[],br,az,r,h,_=>h
 |[a],br,az,r,h,e=>by
  obtain⟨aa,ad,x,an,aT⟩:=h;have:=L.lt _ _ _ aa;have aw:=e br (bQ _) this;exact⟨L.go _ _ _ aa (λj a b=>e j I b) (.of aw),ad,x,aw.trans an,aT⟩
 |a::c::l,br,az,r,h,e=>by
  obtain⟨c',x,aa,ad,an,aT⟩:=h;have cZ:=L.lt _ _ _ aa;have cj:=(Kids.br L.lt aT).1;have eI:=Kids.br L.lt aT;have:=eI.2.2 a1;have aw:=e br (bQ _) I;exact⟨c',x,L.go _ _ _ aa (λj a b=>e j I I) (.of aw),aw.trans ad,an,Kids.EG L aT λj a b=>e j I b⟩
def Kids.snoc(L:Loc aK cG P fT)(a':∀br e a,fT br e a->br<e):∀{l:List β} {br az r:Nat},Kids aK P br az r l->(∀j,br<=j->j<az->j+1≠r->cG[j]?=aK[j]?)->(l≠[]->K' aK cG (r-1)/\∃x,cG[r-1]?=J x/\x.fZ=az+1)->fT az e a->cG[az]?=J y->y.fZ=0->Kids cG fT br e (az+1) (l++[a])
 |[],br,az,r,h,_,_,aJ,a2,aW=>by
  rw[h.1];exact⟨aJ,rfl,y,a2,aW⟩
 |[b],br,az,r,h,aw,aF,aJ,a2,aW=>by
  obtain⟨aa,ad,x,an,aT⟩:=h;subst ad;obtain⟨il,ec,gh,aI⟩:=aF a1;rw[KD] at il gh;exact⟨az,ec,L.go _ _ _ aa (λj a b=>aw j I b I) il,gh,aI,aJ,rfl,y,a2,aW⟩
 |b::c::l,br,az,r,h,aw,aF,aJ,a2,aW=>by
  obtain⟨c',x,aa,ad,an,aT⟩:=h;have cZ:=L.lt _ _ _ aa;have eI:=Kids.br L.lt aT;have:=eI.2.2 a1;have ar:=aw br (bQ _) I I;exact⟨c',x,L.go _ _ _ aa (λj a b=>aw j I I I) (.of ar),ar.trans ad,an,Kids.snoc L a' aT (λj a b=>aw j I b) (λ_=>aF a1) aJ a2 aW⟩
def np.loc:Loc aK cG (np aK) (np cG):=⟨λbr e a h=>by rw[h.1];omega,λbr e a h _ aF=>by
 obtain⟨aa,x,ad,an,aT⟩:=h;obtain⟨ec,cZ,cj,eI,_⟩:=aF x ad;exact⟨aa,ec,cZ,cj.trans an,eI.trans aT⟩⟩
def oI.loc(L:Loc aK cG A vI):Loc aK cG (oI aK A) (oI cG vI):=by
 have key:∀br e q,oI aK A br e q->br<e:=λbr e q h=>by
  obtain⟨v,r,x,y,_,aa,_,_,_,ad,_⟩:=h;have:=L.lt _ _ _ ad;have:=(Kids.br (np.loc (cG:=aK)).lt aa).1;omega
 refine⟨key,λbr e q h aC aF=>?_⟩;obtain⟨v,r,x,y,aW,aa,ad,an,aT,bN,cB,de⟩:=h;have cZ:=L.lt _ _ _ bN;have cj:=Kids.br (np.loc (cG:=aK)).lt aa;have:=cj.2.2 aW;obtain⟨ec,cc,cK,_,gB⟩:=aF x ad;have ev:=aC v I cZ;exact⟨v,r,ec,y,aW,aa.EG np.loc λj a b=>aC j I I,cc,cK.trans an,gB.trans aT,L.go _ _ _ bN (λj a b=>aC j I b) (.of ev),ev.trans cB,de⟩
def At.loc:∀n,Loc aK cG (At aK n) (At cG n)
 |0=>⟨λ_ _ _ h=>h.elim,λ_ _ _ h=>h.elim⟩
 |n+1=>by
  have L:=At.loc n;have X7:=oI.loc L;refine⟨λbr e a h=>?_,λbr e a h aC aF=>?_⟩
  .obtain⟨x,aa,ad⟩:=h;cases a with
   |str s=>omega
   |tok k i j=>omega
   |arr l=>simp only at ad;obtain⟨_,_,r,an⟩:=ad;have:=(Kids.br L.lt an).1;omega
   |qx l=>simp only at ad;obtain⟨_,_,r,an⟩:=ad;have:=(Kids.br X7.lt an).1;omega
  .obtain⟨x,aa,ad⟩:=h;obtain⟨ec,cc,cK,df,gB⟩:=aF x aa;refine⟨ec,cc,?_⟩;cases a with
   |str s=>simp only at ad⊢;grind
   |tok k i j=>simp only at ad⊢;grind
   |arr l=>
    simp only at ad⊢;obtain⟨an,aT,r,bN⟩:=ad;exact⟨cK.trans an,gB.trans aT,r,bN.EG L λj a b=>aC j I b⟩
   |qx l=>
    simp only at ad⊢;obtain⟨an,aT,r,bN⟩:=ad;exact⟨cK.trans an,gB.trans aT,r,bN.EG X7 λj a b=>aC j I b⟩
end
def gseq{β:Type}(D:B)(cl:Nat)(V:Nat->Option (β×Nat)):Nat->Bool->List β->Nat->Option (List β×Nat)
 |0,_,_,_=>ab
 |n+1,fE,acc,i=>if g D (a9 D i)=cl then J (acc,a9 D i+1) else if g D (a9 D i)=10 then gseq D cl V n fE acc (a9 D i+1)
  else if g D (a9 D i)=13 then(if g D (a9 D i+1)=10 then gseq D cl V n fE acc (a9 D i+2) else ab)
  else if g D (a9 D i)=35 then(match gcom D (a9 D i+1) with
   |some j=>gseq D cl V n fE acc j
   |none=>ab)
  else if g D (a9 D i)=44 then(if fE=ai then gseq D cl V n av acc (a9 D i+1) else ab)
  else if fE=ai then ab else match V (a9 D i) with
   |J (a,j)=>gseq D cl V n ai (acc++[a]) j
   |none=>ab
def gkv(D:B)(V:Nat->Option (e'×Nat))(i:Nat):Option ((List B×e')×Nat):=match gkey D i [] with
 |J (ks,j)=>if g D j=61 then(match V (a9 D (j+1)) with
  |J (a,k)=>J ((ks,a),k)
  |none=>ab) else ab
 |none=>ab
def Hh:Option (List e'×Nat)->Option (e'×Nat)
 |J (l,j)=>J (.arr l,j)
 |none=>ab
def JL:Option (List (List B×e')×Nat)->Option (e'×Nat)
 |J (l,j)=>J (.qx l,j)
 |none=>ab
def scA(i:Nat):Option (G7×Nat)->Option (e'×Nat)
 |J (.str s,j)=>J (.str s,j)
 |J (.tok k,j)=>J (.tok k i j,j)
 |none=>ab
def gval(D:B):Nat->Nat->Option (e'×Nat)
 |0,_=>ab
 |n+1,i=>if g D i=91 then Hh (gseq D 93 (gval D n) (U D+1) av [] (i+1)) else if g D i=123 then JL (gseq D 125 (gkv D (gval D n)) (U D+1) av [] (i+1)) else scA i (kA D i)
def Ye(o:pt)(h:H):Prop:=db h o.b o.D o.C/\o.p≠o.b/\∃c m,h[o.p]?=J (aO c o.bz)/\6<=ag c/\c[5]?=J (ah m)
def z7(o:pt)(Pr:Nat->Prop)(h:H)(R:ao->H->Prop):Prop:=∀x y e h',lj Pr h h'->Ye o h'->e2 h' o.b (U o.D) o.C e->R (bA #[x,y,e]) h'
def Oh:∀{aK:List eo} {k:Nat},aK[k]?=J x->f<7->(kI p x).set f v=kI p ec->(aK.flatMap (kI p)).set (k*7+f) v=(aK.set k ec).flatMap (kI p)
 |[],_,h,_,_=>by simp at h
 |a::l,0,h,bj,e=>by
  simp only[rq,dg] at h;subst h;simp only[yu,aBV,pY,tM];rw[List.set_append_left _ _ (by simpa[kI] using bj),e]
 |a::l,k+1,h,bj,e=>by
  simp only[uN] at h;have de:U (kI p a)=7:=rfl;simp only[yu,ahC];rw[aBU _ _ I,de,(I:(k+1)*7+f-7=k*7+f),Oh h bj e]
section
variable{o:pt}{Pr:Nat->Prop}{m b9 i j k kd:Nat}{h aa h':H}{aK:List eo}{R:K}{p b C bz:Nat}{c:Array ao}{ro:Option Nat}{x:eo}{u nK b' rest:ao}{lf:Ad}
def dO.Bw(aY:dO o Pr h b9 aK):Ye o h:=by obtain⟨c,ro,aa,_⟩:=aY;exact⟨aa.doc,aa.yb,c,_,aa.par,aa.size,aa.pG⟩
def dO.hZ(aY:dO o Pr h b9 aK):U aK<=5000:=by obtain⟨c,ro,aa,_⟩:=aY;exact aa.hZ
def dO.cS(aY:dO o Pr h b9 aK)(aq:aK[k]?=J x)(aG:ec.data=x.data/\ec.lf=x.lf):∃r c t,h[r]?=J (.cells c t)/\k*7+7<=aK.length*7/\aK.length*7<=c.size/\c.toList.take (aK.length*7)=aK.flatMap (kI o.p)/\(∀{R:K},R (.pointer (J ⟨r,k*7,ab⟩)) h->bo 180 [aN o.p,.j ((k+1:Nat):Int)] h R)/\
  ∀ad h' b6,aB h ad->bV (J r) ad h'->h'[r]?=J (.cells b6 t)->b6.size=c.size->b6.toList.take (aK.length*7)=(aK.set k ec).flatMap (kI o.p)->dO o Pr h' b9 (aK.set k ec)/\lj Pr h h':=by
 have lA:k<aK.length:=(fk.1 aq).1;obtain⟨c,ro,aJ,iR,dF,eC,s',ny⟩:=aY;obtain⟨v,cap,an,aF,oq,qV⟩:=aJ.row;have hN:=Ve o.p aK;cases ro with
 |none=>
  have:=aF.2;rw[this] at hN;simp only[tK] at hN;omega
 |some r=>
  obtain⟨len,iP,jO,t,rfl,af,cj,eI,jB,ox⟩:=aF;have:len=aK.length:=I
  subst this;have hle:=jx 7 cj;refine⟨r,jO,t,af,I,I,al,λ{R} q=>aiQ (x:=.nilIface) aJ.par an I I (by have:=aJ.hZ;omega) al,λad h' b6 ar e dN wE acW=>?_⟩;have sD:r≠o.p:=λe=>aJ.Dt (by rw[e]);have im:r≠o.b:=λe=>aJ.Du (by rw[e]);have jV:=(cm.1 aJ.par).1;have cf:∀b,b<h.size->b≠r->h'[b]?=h[b]?:=λb af aI=>by rw[e.2 b (cP af ar.1) (λe=>aI (en e)),ar.2 b af]
  have c0:h.size<=h'.size:=dH ar.1 e.1;refine⟨⟨c,J r,⟨(cf _ jV (λe=>sD e.symm)).trans aJ.par,aJ.size,aJ.n5,aJ.fL,⟨_,cap,an,⟨aK.length,iP,b6,t,rfl,dN,cj,I,al,al⟩,oq,qV⟩,aJ.pG,by simpa using aJ.hZ,aJ.Dt,aJ.Du,aJ.yb,λy a2=>?_,aJ.doc.at (cf _ aJ.doc.lt (λe=>im e.symm))⟩,⟨dH iR.1 c0,λb af bx bH=>?_⟩,dF,eC,s',λb af=>⟨cP (ny b af).1 c0,(ny b af).2⟩⟩,λb af=>cf b (ny b af).1 λe=>(ny b af).2.2 (by rw[e])⟩
  .have:LfOk o.aW.size h o.p (J r) o.b o.C o.D y:=by
    rcases ahz a2 with a2|rfl
    .exact aJ.rQ y a2
    .have:=aJ.rQ x (qD aq);unfold LfOk at*;grind
   exact this.at λbb bx bH cq=>cf bb bx λe=>cq (by rw[e])
  .have dR:=cP af iR.1;rw[cf b dR ?_,iR.2 b af bx bH];intro ar;subst ar;rcases dF with aS|⟨cK,aS,bl⟩
   .exact bH aS
   grind
def Cs{X:H->Prop}{f:Nat}(aY:dO o Pr h b9 aK)(aq:aK[k]?=J x)(bj:f=5\/f=6)(ae:∀p,(kI p x).set f (dc (m:Int))=kI p ec)(aG:ec.data=x.data/\ec.lf=x.lf)(q:∀h',dO o Pr h' b9 (aK.set k ec)->lj Pr h h'->X h'):
  bD 180 [aN o.p,dc ((k+1:Nat):Int)] h λv h=>Pu (nc v) h λv h=>Pu (fd f v) h λv h=>bZ 1 v (dc (m:Int)) h λ_ h=>X h:=by
 obtain⟨r,c,t,af,aa,ad,an,aT,bN⟩:=aY.cS aq aG;refine aT ?_;have S0:nc (bU (J ⟨r,k*7,ab⟩))=J (bU (J ⟨r,k*7,ab⟩)):=rfl;have SD:fd f (bU (J ⟨r,k*7,ab⟩))=J (bU (J ⟨r,k*7+f,ab⟩)):=CN;rw[S0,bs,SD,bs];refine fx af I rfl rfl λh' e dN=>?_;have:=bN h h' _ (aB.refl _) e dN a1 (by rw[BT,BY,an,Oh aq I (ae o.p)]);grind
def U1(aY:dO o Pr h b9 aK)(e:aB h aa)(au:U aK<5000)(a7:U o.D<=400)(aD:bp o.b i j o.C nK)(aC:j<=U o.D)(vh:one b'=ai)(h9:cellsL b'=[b'])(vo:match lf with| .no=>True| .str s=>∃bb,(bb=o.b\/ag h<=bb)/\kt aa bb b' s| .tok i j=>bp o.b i j o.C b'/\j<=U o.D)
  (q:∀h' x,dO o Pr h' b9 (aK++[x])->x.kind=kd->x.lf=lf->x.fZ=0->x.gO=0->lj Pr h h'->R (bA #[dc ((U aK+1:Nat):Int),rest,cR]) h'):
  bD 154 [aN o.p,nK] aa λj4 h=>Bd (Z 189) [(0,1,ah (kd:Int)),(1,2,j4),(3,1,b')] h λj5 h=>bD 153 [aN o.p,j5] h λv10 h=>R (bA #[v10,rest,cR]) h:=by
 have hV:=aY.ext e;obtain⟨c,aGV,dE,aG,tb⟩:=hV.fL;have asL:=hV.doc;have aD5:ag o.aW<=ag h:=by obtain⟨c,ro,_,aa,_⟩:=aY;exact aa.1
 refine W4 dE aG tb aD aC I (by have:=asL.mH;omega) λad ar=>?_;have ef:∀K,Bd (Z 189) [(0,1,ah kd),(1,2,cA #[ba .u32 i,ba .u32 ((j-i:Nat):Int)]),(3,1,b')] ad K=K (Jt ⟨kd,i,j-i,b',0,0,lf⟩) ad:=λK=>by
  rw[EB];cases b'<;>first|rfl|cases vh
 rw[ef];have u':=e.trans ar;refine Ee (Pr:=λb=>Pr b\/(ag h<=b/\b<ag ad)) (aY.more u' λb af=>af) au ⟨vh,h9,?_⟩ ⟨rfl,rfl⟩ λan oR MR=>?_
 .cases lf with
  |no=>trivial
  |tok i j=>exact vo
  |str s=>
   obtain⟨bb,bN,cB⟩:=vo;have:=cB.lt;have:=ar.1;refine⟨bb,?_,cB.ext ar⟩;omega
 .exact q an _ (oR.less λb af=>bF af) rfl rfl rfl rfl ((lj.g_ aY u').trans λb af=>MR b (bF af))
def HD(aY:dO o Pr h b9 aK)(e:aB h aa){x y ev:ao}(er:e2 aa o.b (U o.D) o.C ev)(q:z7 o Pr h R):R (bA #[x,y,ev]) aa:=q x y ev aa (lj.g_ aY e) (aY.ext e).Bw er
def Er(res:Option (Nat×Ad×Nat))(o:pt)(Pr:Nat->Prop)(h:H)(b9:Nat)(aK:List eo)(i:Nat)(R:ao->H->Prop):Prop:=match res with
 |J (kd,lf,j)=>i<j->j<=U o.D->∀h' x rest,dO o Pr h' b9 (aK++[x])->x.kind=kd->x.lf=lf->x.fZ=0->x.gO=0->lj Pr h h'->bp o.b j (U o.D) o.C rest->R (bA #[dc (U aK+1:Nat),rest,cR]) h'
 |none=>z7 o Pr h R
def awo:Option (B×Nat)->Option (Nat×Ad×Nat)
 |J (s,j)=>J (2,.str s,j)
 |none=>ab
def I9(i:Nat):Option (Nat×Nat)->Option (Nat×Ad×Nat)
 |J (k,j)=>J (k,.tok i j,j)
 |none=>ab
def ai5(aY:dO o Pr h b9 aK)(au:U aK<5000)(a7:U o.D<=400)(aD:bp o.b i (U o.D) o.C u)(q:Er (awo (gsk o.D i)) o Pr h b9 aK i R):bo 200 [aN o.p,u] h R:=by
 apply alO;refine WU aY.doc aD ?_;cases aX:gsk o.D i with
 |none=>
  intro x y z e h' aw er;rw[aX] at q;have af:=gW er;refine bG af ?_;exact HD aY aw er q
 |some ym=>
  obtain⟨s,j⟩:=ym;intro eK aC x y z h' aw s1 s2 dB;rw[aX] at q;refine aR ?_;obtain⟨bb,kB,jU⟩:=s2;have a2:one y=ai/\cellsL y=[y]:=by obtain⟨e,n,cap,c,t,b3,rfl,_⟩:=jU;exact⟨rfl,rfl⟩
  exact U1 (kd:=2) (lf:=.str s) aY aw au a7 s1 aC a2.1 a2.2 ⟨bb,kB,jU⟩ λh' x bx bH cq dT e3 hJ=>q eK aC h' x _ bx bH cq dT e3 hJ dB
def VJ(aY:dO o Pr h b9 aK)(au:U aK<5000)(a7:U o.D<=400)(q:Er (I9 i hh) o Pr h b9 aK i R):xt hh h o.b (U o.D) o.C i λv1 h=>Pu (exv 0 v1) h λv2 h=>Pu (exv 1 v1) h λdD h=>Pu (exv 2 v1) h λv4 h=>Pu (exv 3 v1) h λfI h=>Pu (exv 4 v1) h λv6 h=>Pu (beI ai v6 cR) h λhH h=>
  b1 hH (R (bA #[(dc 0),(a5 ab 0 0),v6]) h) (bD 154 [aN o.p,dD] h λj4 h=>Bd (Z 189) [(0,1,v2),(1,2,j4),(3,1,dD)] h λj5 h=>bD 153 [aN o.p,j5] h λv10 h=>R (bA #[v10,fI,cR]) h):=by
 cases hh with
 |none=>
  intro Wf x y z e h' aw er;have af:=gW er;refine bG af ?_;exact HD aY aw er q
 |some wO=>
  obtain⟨kd,j⟩:=wO;intro x y z eK aC s1 s2 dB;refine aR ?_;have a2:one x=ai/\cellsL x=[x]:=by obtain⟨e,rfl,_⟩:=s1;exact⟨rfl,rfl⟩
  exact U1 (kd:=kd) (lf:=.tok i j) aY (aB.refl _) au a7 s1 aC a2.1 a2.2 ⟨s1,aC⟩ λh' x bx bH cq dT e3 hJ=>q eK aC h' x _ bx bH cq dT e3 hJ dB
def KN(aY:dO o Pr h b9 aK)(au:U aK<5000)(a7:U o.D<=400)(aD:bp o.b i (U o.D) o.C u)(aq:0<U kw)(ik:U kw<=100)(q:Er (I9 i (qh o.D kw i k6)) o Pr h b9 aK i R):bo 155 [aN o.p,u,S kw,ah (k6:Int)] h R:=by
 apply ak8;exact GK aY.doc aD aq ik (VJ aY au a7 q)
def Ph(aY:dO o Pr h b9 aK)(au:U aK<5000)(a7:U o.D<=400)(aD:bp o.b i (U o.D) o.C u)(az:i<U o.D)(q:Er (I9 i (gnum o.D i)) o Pr h b9 aK i R):bo 158 [aN o.p,u] h R:=by
 apply alb;exact C149 aY.doc aD az (VJ aY au a7 q)
def aiA(aY:dO o Pr h b9 aK)(au:U aK<5000)(a7:U o.D<=400)(aD:bp o.b i (U o.D) o.C u)(aW:cT (g o.D i)=ai)(e_:mq o.D i=ai)(q:Er (I9 i (om o.D i)) o Pr h b9 aK i R):bo 159 [aN o.p,u] h R:=by
 apply alc;exact W3 aY.doc aD aW e_ (VJ aY au a7 q)
def Xc(aY:dO o Pr h b9 aK)(aD:bp o.b i j o.C u)(q:R (ah (i:Int)) h):bo 201 [aN o.p,u] h R:=by
 apply alP;obtain⟨c,b',dE,aG,tb⟩:=aY.fL;have e0:=aY.doc.mH;have hle:=aY.doc.le;obtain⟨e,rfl,_,aa,ad,_⟩:=aD;obtain⟨bP,rfl,_,_,an,_⟩:=tb;have c1:oM (a5 (J ⟨o.b,bP,ab⟩) (U o.D-0) (o.C-0))=J (ah (o.C-0:Nat)):=rfl;have c2:oM (a5 (J ⟨o.b,e,ab⟩) (j-i) (o.C-i))=J (ah (o.C-i:Nat)):=rfl;have es:bn .sub (ah (o.C-0:Nat)) (ah (o.C-i:Nat))=J (ah i):=by
  have:=m' (a:=o.C-0) (b:=o.C-i) I I;grind
 generalize o.C-0=WM at*;generalize o.C-i=aB6 at*;generalize U o.D-0=Xb at*;(simp-implicitDefEqProofs+contextual (disch:=omega) only[go_sem,fs dE,aG,c1,c2,es];try refine c8 ?_)
 exact q
def ai0(aY:dO o Pr h b9 aK)(a7:U o.D<=400)(aD:bp o.b i j o.C u)(oX:bp o.b i2 bc o.C jg)(az:i<=i2)(Fo:i2<=U o.D)(q:∀h',aB h h'->R (cA #[ba .u32 (i:Int),ba .u32 ((i2-i:Nat):Int)]) h'):bo 195 [aN o.p,u,jg] h R:=by
 apply alK;rw[gE];have e:=aB.push h (aO (aZ (Z 187)) 187);have gp:ag (aZ (Z 187))=2:=by rw[Li];rfl
 refine Xc (aY.ext e) aD ?_;refine Xc (aY.ext e) oX ?_;have u32:∀n:Nat,n<=100000->ci .u32 (ah n)=J (ba .u32 n):=λn aI=>by simp[ci,IntKind.wrap,IntKind.bits,IntKind.signed];omega
 have es:bn .sub (ah i2) (ah i)=J (ah (i2-i:Nat)):=m' az I;have qT:∀x K,Bd (Z 187) [(0,1,ba .u32 i),(1,1,ba .u32 ((i2-i:Nat):Int))] x K=K (cA #[ba .u32 i,ba .u32 ((i2-i:Nat):Int)]) x:=λx K=>by rw[Li];rfl
 rw[u32 i I,bs,es,bs,u32 (i2-i) I,bs,qT,h7 (n:=2) gp rfl rfl,jK (n:=2) rfl aE];exact q _ (aB.push _ _)
def aou{X:H->Prop}{jg:ao}(aY:dO o Pr h b9 aK)(aq:aK[k]?=J x)(a7:o.D.length<=400)(aD:bp o.b i j o.C u)(oX:bp o.b i2 bc o.C jg)(az:i<=i2)(Fo:i2<=o.D.length)(q:∀h',dO o Pr h' b9 (aK.set k ⟨x.kind,i,i2-i,x.data,x.fZ,x.gO,x.lf⟩)->lj Pr h h'->X h'):
  bD 180 [aN o.p,.j ((k+1:Nat):Int)] h λv30 h=>bD 195 [aN o.p,u,jg] h λj2 h=>Pu (nc v30) h λmM h=>Pu (fd 1 mM) h λlb h=>bZ 2 lb j2 h λ_ h=>X h:=by
 obtain⟨r,c,t,af,aa,ad,an,aT,bN⟩:=aY.cS (ec:=⟨x.kind,i,i2-i,x.data,x.fZ,x.gO,x.lf⟩) aq ⟨rfl,rfl⟩;refine aT ?_;refine ai0 aY a7 aD oX az Fo λae e=>?_;have S0:nc (.pointer (J ⟨r,k*7,ab⟩))=J (.pointer (J ⟨r,k*7,ab⟩)):=rfl;have SD:fd 1 (.pointer (J ⟨r,k*7,ab⟩))=J (.pointer (J ⟨r,k*7+1,ab⟩)):=CN;rw[S0,bs,SD,bs];have hN:r<h.size:=(cm.1 af).1;refine G9 (n:=2) ((e.2 r hN).trans af) rfl rfl I λh' aw dN=>?_;have:=bN ae h' _ e aw dN (by rw[zH]) (by
  show(((c.setIfInBounds (k*7+1) _).setIfInBounds (k*7+1+1) _).toList).take _=_;rw[BT,BT,BY,BY,an,Oh (ec:=⟨x.kind,i,x.len,x.data,x.fZ,x.gO,x.lf⟩) aq I rfl,show k*7+1+1=k*7+2 by omega];rw[Oh (x:=⟨x.kind,i,x.len,x.data,x.fZ,x.gO,x.lf⟩) (ec:=⟨x.kind,i,i2-i,x.data,x.fZ,x.gO,x.lf⟩) ?_ I rfl,List.set_set];grind)
 grind
end
